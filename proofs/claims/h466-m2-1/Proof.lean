import JvmDerived
import JvmDerived.Pilot.@@N@@Statement
import JvmDerived.Pilot.@@N@@Code
set_option linter.unusedVariables false
set_option linter.unusedSimpArgs false
namespace Jvm.Own
open Jvm Jvm.ClassFile Sem Op Lib Jvm.Free Jvm.Stand Jvm.LawKit Jvm.RoadKit
def b2i (b : Bool) : Int32 := if b then 1 else 0
theorem wd {ws : List Jvm.Cond} {a0 : Array Value} {Z : State} (hw : ∀ d ∈ ws, d.before a0 Z = true) (i : Nat) {d : Jvm.Cond} (h : ws[i]? = some d) : d.before a0 Z = true := hw d (List.mem_of_getElem? h)
/-- a contract of a body: from the heap h with these arguments it returns, writes nothing below n0, and Q holds of what it returns and of the heap -/
def Met (l : Launch) (Z : State) (y : MethodName) (bytes : ByteArray) (maxL : Nat) (ret : Option FieldType) (rm : Room) (as' : Array Value) (h : Heap) (n0 : Nat) (Q : Option Value → Heap → Prop) : Prop :=
  ∀ ws, MetFree l y (head1 (Jvm.Cond.code y bytes maxL ret :: ws) rm) (fun a U => a = as' ∧ Z.Warmed39 U.vm ∧ U.heap = h) (fun _ _ _ _ _ => True) (fun _ U o U' => ∃ v L, o = .returned v ∧ (Fr n0 L ∧ Q v U'.heap) ∧ FrameEnd U o U' L rm.cells rm.slots)
def Cx (p : Program) (s : State) (m : MethodId) (meth : Method) (c : Code) (Z : State) (y : MethodName) (bytes : ByteArray) (maxL : Nat) (ret : Option FieldType) : Prop :=
  p.tables.exec = Jvm.exec ∧ Z.Warmed39 s.vm ∧ s.vm.findClass y.cls = some m.cls ∧ meth.name = y.name ∧ c.code = bytes ∧ c.maxLocals = maxL ∧ meth.sig.returnType = ret ∧ meth.locks = false
def Go (p : Program) (l : Launch) (e : Env) (R : Room) (s : State) (m : MethodId) (args : Array Value) (below : List Frame) (meth : Method) (c : Code) (n0 : Nat) (Q : Option Value → Heap → Prop) (cells slots : Nat) (h : Heap) (f : JFrame) : Prop :=
  ∀ T locs, Stand p l e R s m args below meth c T locs cells slots → Fr n0 locs → T.heap = h → ∃ t o, Steps p.tables e below (T.setTop f) t ∧ t.status = .running ∧ Ended t below o ∧ ∃ v L, o = .returned v ∧ (Fr n0 L ∧ Q v t.heap) ∧ FrameEnd s o t L R.cells R.slots
section
variable {p : Program} {l : Launch} {e : Env} {R : Room} {s : State} {m : MethodId} {args : Array Value} {below : List Frame} {meth : Method} {c : Code} {Z : State} {y : MethodName} {bytes : ByteArray} {maxL : Nat} {ret : Option FieldType} {n0 : Nat} {Q : Option Value → Heap → Prop} {cells slots : Nat} {h : Heap} {pc n n' : Nat} {Ls : Array Slot} {st : List Value} {a0 : Array Value}
theorem Cx.x (C : Cx p s m meth c Z y bytes maxL ret) : p.tables.exec = Jvm.exec := C.1
theorem Cx.z (C : Cx p s m meth c Z y bytes maxL ret) : Z.Warmed39 s.vm := C.2.1
theorem Cx.own (C : Cx p s m meth c Z y bytes maxL ret) : s.vm.findClass y.cls = some m.cls := C.2.2.1
theorem Cx.nm (C : Cx p s m meth c Z y bytes maxL ret) : meth.name = y.name := C.2.2.2.1
theorem Cx.by (C : Cx p s m meth c Z y bytes maxL ret) : c.code = bytes := C.2.2.2.2.1
theorem Cx.ml (C : Cx p s m meth c Z y bytes maxL ret) : c.maxLocals = maxL := C.2.2.2.2.2.1
theorem Cx.rt (C : Cx p s m meth c Z y bytes maxL ret) : meth.sig.returnType = ret := C.2.2.2.2.2.2.1
theorem Cx.locks (C : Cx p s m meth c Z y bytes maxL ret) : meth.locks = false := C.2.2.2.2.2.2.2
theorem Met.of {rm : Room} {as' : Array Value} {Ls0 : Array Slot} (hp : plainFor y = true) (he : ∀ m, entryFrame m as' maxL = mkF m 0 Ls0 [])
    (body : ∀ p e s m args below meth c, Cx p s m meth c Z y bytes maxL ret → Go p l e rm s m args below meth c n0 Q 0 0 h (mkF m 0 Ls0 [])) : Met l Z y bytes maxL ret rm as' h n0 Q := by
  intro ws
  refine MetFree.of_bodySF hp hisR ?_
  intro p e s m args below meth c s₁ Bd hml0 hP hK
  obtain ⟨rfl, hZ, hh⟩ := hP
  have C : Cx p s m meth c Z y bytes maxL ret := ⟨Bd.exec, hZ, findClass_of_methodNamed Bd.named, (name_of_methodNamed Bd.named Bd.method).1, Bd.bytes, hml0, Bd.returns, Bd.notSynchronized⟩
  have X0 : Stand p l e rm s m args below meth c s₁ [] 0 0 := Stand.of_body Bd
  have e0 : s₁.heap = h := by rw [← hh, Bd.state]; rfl
  obtain ⟨t, o, st, r⟩ := body p e s m args below meth c C s₁ [] X0 (Fr.nil n0) e0
  exact ⟨t, o, castTop (he m) st, r⟩
theorem Met.weaken {rm : Room} {as' : Array Value} {Q' : Option Value → Heap → Prop} (M : Met l Z y bytes maxL ret rm as' h n0 Q) (q : ∀ v h', Q v h' → Q' v h') : Met l Z y bytes maxL ret rm as' h n0 Q' := by
  intro ws p e ha hc hk s m args below hf happ hP hK
  obtain ⟨n, o, h1, h2, h3, v, L, h4, h5, h6⟩ := M ws p e ha hc hk s m args below hf happ hP hK
  exact ⟨n, o, h1, h2, h3, v, L, h4, ⟨h5.1, q _ _ h5.2⟩, h6⟩
theorem Go.via {f f' : JFrame} (hs : ∀ T locs, Stand p l e R s m args below meth c T locs cells slots → T.heap = h → ∀ t, Steps p.tables e below (T.setTop f') t → Steps p.tables e below (T.setTop f) t)
    (k : Go p l e R s m args below meth c n0 Q cells slots h f') : Go p l e R s m args below meth c n0 Q cells slots h f := fun T locs X N q => by
  obtain ⟨t, o, st, r⟩ := k T locs X N q
  exact ⟨t, o, hs T locs X q t st, r⟩
theorem Go.mono {f : JFrame} {cells' slots' : Nat} (h1 : cells ≤ cells') (h2 : slots ≤ slots') (k : Go p l e R s m args below meth c n0 Q cells' slots' h f) : Go p l e R s m args below meth c n0 Q cells slots h f := fun T locs X N q =>
  k T locs ⟨X.admits, X.cas, X.clock, X.frames, X.room, X.hears, X.method, X.code, X.here, X.tail, X.warmed, X.limits, X.bytes, X.same.mono h1 h2⟩ N q
theorem Go.cast {f f' : JFrame} (q : f = f') (k : Go p l e R s m args below meth c n0 Q cells slots h f') : Go p l e R s m args below meth c n0 Q cells slots h f := q ▸ k

theorem G.iadd (C : Cx p s m meth c Z y bytes maxL ret) {x1 x2 : Int32} (hd : decode bytes pc = .ok (.iadd, 1))  (hn : pc + 1 = n) (k : Go p l e R s m args below meth c n0 Q cells slots h (mkF m n Ls (.int (x1 + x2) :: st))) : Go p l e R s m args below meth c n0 Q cells slots h (mkF m pc Ls (.int x2 :: .int x1 :: st)) := by
  subst hn
  exact Go.via (fun T locs X _ t q => XS.iadd X.here C.x rfl (hb C.by hd) rfl q) k
theorem G.isub (C : Cx p s m meth c Z y bytes maxL ret) {x1 x2 : Int32} (hd : decode bytes pc = .ok (.isub, 1))  (hn : pc + 1 = n) (k : Go p l e R s m args below meth c n0 Q cells slots h (mkF m n Ls (.int (x1 - x2) :: st))) : Go p l e R s m args below meth c n0 Q cells slots h (mkF m pc Ls (.int x2 :: .int x1 :: st)) := by
  subst hn
  exact Go.via (fun T locs X _ t q => XS.isub X.here C.x rfl (hb C.by hd) rfl q) k
theorem G.imul (C : Cx p s m meth c Z y bytes maxL ret) {x1 x2 : Int32} (hd : decode bytes pc = .ok (.imul, 1))  (hn : pc + 1 = n) (k : Go p l e R s m args below meth c n0 Q cells slots h (mkF m n Ls (.int (x1 * x2) :: st))) : Go p l e R s m args below meth c n0 Q cells slots h (mkF m pc Ls (.int x2 :: .int x1 :: st)) := by
  subst hn
  exact Go.via (fun T locs X _ t q => XS.imul X.here C.x rfl (hb C.by hd) rfl q) k
theorem G.iand (C : Cx p s m meth c Z y bytes maxL ret) {x1 x2 : Int32} (hd : decode bytes pc = .ok (.iand, 1))  (hn : pc + 1 = n) (k : Go p l e R s m args below meth c n0 Q cells slots h (mkF m n Ls (.int (x1 &&& x2) :: st))) : Go p l e R s m args below meth c n0 Q cells slots h (mkF m pc Ls (.int x2 :: .int x1 :: st)) := by
  subst hn
  exact Go.via (fun T locs X _ t q => XS.iand X.here C.x rfl (hb C.by hd) rfl q) k
theorem G.ior (C : Cx p s m meth c Z y bytes maxL ret) {x1 x2 : Int32} (hd : decode bytes pc = .ok (.ior, 1))  (hn : pc + 1 = n) (k : Go p l e R s m args below meth c n0 Q cells slots h (mkF m n Ls (.int (x1 ||| x2) :: st))) : Go p l e R s m args below meth c n0 Q cells slots h (mkF m pc Ls (.int x2 :: .int x1 :: st)) := by
  subst hn
  exact Go.via (fun T locs X _ t q => XS.ior X.here C.x rfl (hb C.by hd) rfl q) k
theorem G.ixor (C : Cx p s m meth c Z y bytes maxL ret) {x1 x2 : Int32} (hd : decode bytes pc = .ok (.ixor, 1))  (hn : pc + 1 = n) (k : Go p l e R s m args below meth c n0 Q cells slots h (mkF m n Ls (.int (x1 ^^^ x2) :: st))) : Go p l e R s m args below meth c n0 Q cells slots h (mkF m pc Ls (.int x2 :: .int x1 :: st)) := by
  subst hn
  exact Go.via (fun T locs X _ t q => XS.ixor X.here C.x rfl (hb C.by hd) rfl q) k
theorem G.ladd (C : Cx p s m meth c Z y bytes maxL ret) {x1 x2 : Int64} (hd : decode bytes pc = .ok (.ladd, 1))  (hn : pc + 1 = n) (k : Go p l e R s m args below meth c n0 Q cells slots h (mkF m n Ls (.long (x1 + x2) :: st))) : Go p l e R s m args below meth c n0 Q cells slots h (mkF m pc Ls (.long x2 :: .long x1 :: st)) := by
  subst hn
  exact Go.via (fun T locs X _ t q => XS.ladd X.here C.x rfl (hb C.by hd) rfl q) k
theorem G.lsub (C : Cx p s m meth c Z y bytes maxL ret) {x1 x2 : Int64} (hd : decode bytes pc = .ok (.lsub, 1))  (hn : pc + 1 = n) (k : Go p l e R s m args below meth c n0 Q cells slots h (mkF m n Ls (.long (x1 - x2) :: st))) : Go p l e R s m args below meth c n0 Q cells slots h (mkF m pc Ls (.long x2 :: .long x1 :: st)) := by
  subst hn
  exact Go.via (fun T locs X _ t q => XS.lsub X.here C.x rfl (hb C.by hd) rfl q) k
theorem G.lmul (C : Cx p s m meth c Z y bytes maxL ret) {x1 x2 : Int64} (hd : decode bytes pc = .ok (.lmul, 1))  (hn : pc + 1 = n) (k : Go p l e R s m args below meth c n0 Q cells slots h (mkF m n Ls (.long (x1 * x2) :: st))) : Go p l e R s m args below meth c n0 Q cells slots h (mkF m pc Ls (.long x2 :: .long x1 :: st)) := by
  subst hn
  exact Go.via (fun T locs X _ t q => XS.lmul X.here C.x rfl (hb C.by hd) rfl q) k
theorem G.land (C : Cx p s m meth c Z y bytes maxL ret) {x1 x2 : Int64} (hd : decode bytes pc = .ok (.land, 1))  (hn : pc + 1 = n) (k : Go p l e R s m args below meth c n0 Q cells slots h (mkF m n Ls (.long (x1 &&& x2) :: st))) : Go p l e R s m args below meth c n0 Q cells slots h (mkF m pc Ls (.long x2 :: .long x1 :: st)) := by
  subst hn
  exact Go.via (fun T locs X _ t q => XS.land X.here C.x rfl (hb C.by hd) rfl q) k
theorem G.lor (C : Cx p s m meth c Z y bytes maxL ret) {x1 x2 : Int64} (hd : decode bytes pc = .ok (.lor, 1))  (hn : pc + 1 = n) (k : Go p l e R s m args below meth c n0 Q cells slots h (mkF m n Ls (.long (x1 ||| x2) :: st))) : Go p l e R s m args below meth c n0 Q cells slots h (mkF m pc Ls (.long x2 :: .long x1 :: st)) := by
  subst hn
  exact Go.via (fun T locs X _ t q => XS.lor X.here C.x rfl (hb C.by hd) rfl q) k
theorem G.lxor (C : Cx p s m meth c Z y bytes maxL ret) {x1 x2 : Int64} (hd : decode bytes pc = .ok (.lxor, 1))  (hn : pc + 1 = n) (k : Go p l e R s m args below meth c n0 Q cells slots h (mkF m n Ls (.long (x1 ^^^ x2) :: st))) : Go p l e R s m args below meth c n0 Q cells slots h (mkF m pc Ls (.long x2 :: .long x1 :: st)) := by
  subst hn
  exact Go.via (fun T locs X _ t q => XS.lxor X.here C.x rfl (hb C.by hd) rfl q) k
theorem G.idiv (C : Cx p s m meth c Z y bytes maxL ret) {x1 x2 : Int32} (hd : decode bytes pc = .ok (.idiv, 1)) (hy : x2 ≠ 0) (hn : pc + 1 = n) (k : Go p l e R s m args below meth c n0 Q cells slots h (mkF m n Ls (.int (x1 / x2) :: st))) : Go p l e R s m args below meth c n0 Q cells slots h (mkF m pc Ls (.int x2 :: .int x1 :: st)) := by
  subst hn
  exact Go.via (fun T locs X _ t q => XS.idiv X.here C.x rfl (hb C.by hd) rfl hy q) k
theorem G.ishl (C : Cx p s m meth c Z y bytes maxL ret) {x1 x2 : Int32} (hd : decode bytes pc = .ok (.ishl, 1))  (hn : pc + 1 = n) (k : Go p l e R s m args below meth c n0 Q cells slots h (mkF m n Ls (.int (x1 <<< (x2 &&& 31)) :: st))) : Go p l e R s m args below meth c n0 Q cells slots h (mkF m pc Ls (.int x2 :: .int x1 :: st)) := by
  subst hn
  exact Go.via (fun T locs X _ t q => XS.ishl X.here C.x rfl (hb C.by hd) rfl q) k
theorem G.ishr (C : Cx p s m meth c Z y bytes maxL ret) {x1 x2 : Int32} (hd : decode bytes pc = .ok (.ishr, 1))  (hn : pc + 1 = n) (k : Go p l e R s m args below meth c n0 Q cells slots h (mkF m n Ls (.int (x1 >>> (x2 &&& 31)) :: st))) : Go p l e R s m args below meth c n0 Q cells slots h (mkF m pc Ls (.int x2 :: .int x1 :: st)) := by
  subst hn
  exact Go.via (fun T locs X _ t q => XS.ishr X.here C.x rfl (hb C.by hd) rfl q) k
theorem G.iushr (C : Cx p s m meth c Z y bytes maxL ret) {x1 x2 : Int32} (hd : decode bytes pc = .ok (.iushr, 1))  (hn : pc + 1 = n) (k : Go p l e R s m args below meth c n0 Q cells slots h (mkF m n Ls (.int ((x1.toUInt32 >>> (x2 &&& 31).toUInt32).toInt32) :: st))) : Go p l e R s m args below meth c n0 Q cells slots h (mkF m pc Ls (.int x2 :: .int x1 :: st)) := by
  subst hn
  exact Go.via (fun T locs X _ t q => XS.iushr X.here C.x rfl (hb C.by hd) rfl q) k
theorem G.irem (C : Cx p s m meth c Z y bytes maxL ret) {x1 x2 : Int32} (hd : decode bytes pc = .ok (.irem, 1)) (hy : x2 ≠ 0) (hn : pc + 1 = n) (k : Go p l e R s m args below meth c n0 Q cells slots h (mkF m n Ls (.int (x1 % x2) :: st))) : Go p l e R s m args below meth c n0 Q cells slots h (mkF m pc Ls (.int x2 :: .int x1 :: st)) := by
  subst hn
  exact Go.via (fun T locs X _ t q => iremM X C.x rfl (hb C.by hd) rfl hy q) k
theorem G.ldiv (C : Cx p s m meth c Z y bytes maxL ret) {x1 x2 : Int64} (hd : decode bytes pc = .ok (.ldiv, 1)) (hy : x2 ≠ 0) (hn : pc + 1 = n) (k : Go p l e R s m args below meth c n0 Q cells slots h (mkF m n Ls (.long (x1 / x2) :: st))) : Go p l e R s m args below meth c n0 Q cells slots h (mkF m pc Ls (.long x2 :: .long x1 :: st)) := by
  subst hn
  exact Go.via (fun T locs X _ t q => XS.ldiv X.here C.x rfl (hb C.by hd) rfl hy q) k
theorem G.lrem (C : Cx p s m meth c Z y bytes maxL ret) {x1 x2 : Int64} (hd : decode bytes pc = .ok (.lrem, 1)) (hy : x2 ≠ 0) (hn : pc + 1 = n) (k : Go p l e R s m args below meth c n0 Q cells slots h (mkF m n Ls (.long (x1 - (x1 / x2) * x2) :: st))) : Go p l e R s m args below meth c n0 Q cells slots h (mkF m pc Ls (.long x2 :: .long x1 :: st)) := by
  subst hn
  exact Go.via (fun T locs X _ t q => XS.lrem X.here C.x rfl (hb C.by hd) rfl hy q) k
theorem G.lshl (C : Cx p s m meth c Z y bytes maxL ret) {x1 : Int64} {x2 : Int32} (hd : decode bytes pc = .ok (.lshl, 1))  (hn : pc + 1 = n) (k : Go p l e R s m args below meth c n0 Q cells slots h (mkF m n Ls (.long (x1 <<< (x2 &&& 0x3f).toInt64) :: st))) : Go p l e R s m args below meth c n0 Q cells slots h (mkF m pc Ls (.int x2 :: .long x1 :: st)) := by
  subst hn
  exact Go.via (fun T locs X _ t q => XS.lshl X.here C.x rfl (hb C.by hd) rfl q) k
theorem G.lshr (C : Cx p s m meth c Z y bytes maxL ret) {x1 : Int64} {x2 : Int32} (hd : decode bytes pc = .ok (.lshr, 1))  (hn : pc + 1 = n) (k : Go p l e R s m args below meth c n0 Q cells slots h (mkF m n Ls (.long (x1 >>> (x2 &&& 0x3f).toInt64) :: st))) : Go p l e R s m args below meth c n0 Q cells slots h (mkF m pc Ls (.int x2 :: .long x1 :: st)) := by
  subst hn
  exact Go.via (fun T locs X _ t q => XS.lshr X.here C.x rfl (hb C.by hd) rfl q) k
theorem G.lushr (C : Cx p s m meth c Z y bytes maxL ret) {x1 : Int64} {x2 : Int32} (hd : decode bytes pc = .ok (.lushr, 1))  (hn : pc + 1 = n) (k : Go p l e R s m args below meth c n0 Q cells slots h (mkF m n Ls (.long ((x1.toUInt64 >>> (x2 &&& 0x3f).toInt64.toUInt64).toInt64) :: st))) : Go p l e R s m args below meth c n0 Q cells slots h (mkF m pc Ls (.int x2 :: .long x1 :: st)) := by
  subst hn
  exact Go.via (fun T locs X _ t q => XS.lushr X.here C.x rfl (hb C.by hd) rfl q) k
theorem G.ineg (C : Cx p s m meth c Z y bytes maxL ret) {x : Int32} (hd : decode bytes pc = .ok (.ineg, 1))  (hn : pc + 1 = n) (k : Go p l e R s m args below meth c n0 Q cells slots h (mkF m n Ls (.int (-x) :: st))) : Go p l e R s m args below meth c n0 Q cells slots h (mkF m pc Ls (.int x :: st)) := by
  subst hn
  exact Go.via (fun T locs X _ t q => XS.ineg X.here C.x rfl (hb C.by hd) rfl q) k
theorem G.lneg (C : Cx p s m meth c Z y bytes maxL ret) {x : Int64} (hd : decode bytes pc = .ok (.lneg, 1))  (hn : pc + 1 = n) (k : Go p l e R s m args below meth c n0 Q cells slots h (mkF m n Ls (.long (-x) :: st))) : Go p l e R s m args below meth c n0 Q cells slots h (mkF m pc Ls (.long x :: st)) := by
  subst hn
  exact Go.via (fun T locs X _ t q => XS.lneg X.here C.x rfl (hb C.by hd) rfl q) k
theorem G.i2l (C : Cx p s m meth c Z y bytes maxL ret) {x : Int32} (hd : decode bytes pc = .ok (.i2l, 1))  (hn : pc + 1 = n) (k : Go p l e R s m args below meth c n0 Q cells slots h (mkF m n Ls (.long (x.toInt64) :: st))) : Go p l e R s m args below meth c n0 Q cells slots h (mkF m pc Ls (.int x :: st)) := by
  subst hn
  exact Go.via (fun T locs X _ t q => XS.i2l X.here C.x rfl (hb C.by hd) rfl q) k
theorem G.l2i (C : Cx p s m meth c Z y bytes maxL ret) {x : Int64} (hd : decode bytes pc = .ok (.l2i, 1))  (hn : pc + 1 = n) (k : Go p l e R s m args below meth c n0 Q cells slots h (mkF m n Ls (.int (x.toInt32) :: st))) : Go p l e R s m args below meth c n0 Q cells slots h (mkF m pc Ls (.long x :: st)) := by
  subst hn
  exact Go.via (fun T locs X _ t q => XS.l2i X.here C.x rfl (hb C.by hd) rfl q) k
theorem G.i2b (C : Cx p s m meth c Z y bytes maxL ret) {x : Int32} (hd : decode bytes pc = .ok (.i2b, 1))  (hn : pc + 1 = n) (k : Go p l e R s m args below meth c n0 Q cells slots h (mkF m n Ls (.int (x.toInt8.toInt32) :: st))) : Go p l e R s m args below meth c n0 Q cells slots h (mkF m pc Ls (.int x :: st)) := by
  subst hn
  exact Go.via (fun T locs X _ t q => XS.i2b X.here C.x rfl (hb C.by hd) rfl q) k
theorem G.i2s (C : Cx p s m meth c Z y bytes maxL ret) {x : Int32} (hd : decode bytes pc = .ok (.i2s, 1))  (hn : pc + 1 = n) (k : Go p l e R s m args below meth c n0 Q cells slots h (mkF m n Ls (.int (x.toInt16.toInt32) :: st))) : Go p l e R s m args below meth c n0 Q cells slots h (mkF m pc Ls (.int x :: st)) := by
  subst hn
  exact Go.via (fun T locs X _ t q => XS.i2s X.here C.x rfl (hb C.by hd) rfl q) k
theorem G.i2c (C : Cx p s m meth c Z y bytes maxL ret) {x : Int32} (hd : decode bytes pc = .ok (.i2c, 1))  (hn : pc + 1 = n) (k : Go p l e R s m args below meth c n0 Q cells slots h (mkF m n Ls (.int (x.toUInt32.toUInt16.toUInt32.toInt32) :: st))) : Go p l e R s m args below meth c n0 Q cells slots h (mkF m pc Ls (.int x :: st)) := by
  subst hn
  exact Go.via (fun T locs X _ t q => XS.i2c X.here C.x rfl (hb C.by hd) rfl q) k
theorem G.iconst (C : Cx p s m meth c Z y bytes maxL ret) {i : Int} (v : Int32) (hd : decode bytes pc = .ok (.iconst i, 1)) (hv : Int32.ofInt i = v) (hn : pc + 1 = n) (k : Go p l e R s m args below meth c n0 Q cells slots h (mkF m n Ls (.int v :: st))) : Go p l e R s m args below meth c n0 Q cells slots h (mkF m pc Ls (st)) := by
  subst hn hv
  exact Go.via (fun T locs X _ t q => XS.iconst X.here C.x rfl (hb C.by hd)  q) k
theorem G.bipush (C : Cx p s m meth c Z y bytes maxL ret) {i : Int} (v : Int32) (hd : decode bytes pc = .ok (.bipush i, 2)) (hv : (Int8.ofInt i).toInt32 = v) (hn : pc + 2 = n) (k : Go p l e R s m args below meth c n0 Q cells slots h (mkF m n Ls (.int v :: st))) : Go p l e R s m args below meth c n0 Q cells slots h (mkF m pc Ls (st)) := by
  subst hn hv
  exact Go.via (fun T locs X _ t q => XS.bipush X.here C.x rfl (hb C.by hd)  q) k
theorem G.sipush (C : Cx p s m meth c Z y bytes maxL ret) {i : Int} (v : Int32) (hd : decode bytes pc = .ok (.sipush i, 3)) (hv : (Int16.ofInt i).toInt32 = v) (hn : pc + 3 = n) (k : Go p l e R s m args below meth c n0 Q cells slots h (mkF m n Ls (.int v :: st))) : Go p l e R s m args below meth c n0 Q cells slots h (mkF m pc Ls (st)) := by
  subst hn hv
  exact Go.via (fun T locs X _ t q => XS.sipush X.here C.x rfl (hb C.by hd)  q) k
theorem G.lconst (C : Cx p s m meth c Z y bytes maxL ret) {i : Fin 2} (v : Int64) (hd : decode bytes pc = .ok (.lconst i, 1)) (hv : Int64.ofNat i = v) (hn : pc + 1 = n) (k : Go p l e R s m args below meth c n0 Q cells slots h (mkF m n Ls (.long v :: st))) : Go p l e R s m args below meth c n0 Q cells slots h (mkF m pc Ls (st)) := by
  subst hn hv
  exact Go.via (fun T locs X _ t q => XS.lconst X.here C.x rfl (hb C.by hd)  q) k
theorem G.aconst_null (C : Cx p s m meth c Z y bytes maxL ret)  (hd : decode bytes pc = .ok (.aconst_null, 1))  (hn : pc + 1 = n) (k : Go p l e R s m args below meth c n0 Q cells slots h (mkF m n Ls (.null :: st))) : Go p l e R s m args below meth c n0 Q cells slots h (mkF m pc Ls (st)) := by
  subst hn
  exact Go.via (fun T locs X _ t q => XS.aconstNull X.here C.x rfl (hb C.by hd)  q) k
theorem G.iload (C : Cx p s m meth c Z y bytes maxL ret) {k : Nat} {v : Int32} (hd : decode bytes pc = .ok (.iload k, 2)) (hl : Ls[k]? = some (.val (.int v)))  (hn : pc + 2 = n) (k : Go p l e R s m args below meth c n0 Q cells slots h (mkF m n Ls (.int v :: st))) : Go p l e R s m args below meth c n0 Q cells slots h (mkF m pc Ls (st)) := by
  subst hn
  exact Go.via (fun T locs X _ t q => XS.iload X.here C.x rfl (hb C.by hd) hl q) k
theorem G.iloadN (C : Cx p s m meth c Z y bytes maxL ret) {k : Fin 4} {v : Int32} (hd : decode bytes pc = .ok (.iload_n k, 1)) (hl : Ls[k.val]? = some (.val (.int v)))  (hn : pc + 1 = n) (k : Go p l e R s m args below meth c n0 Q cells slots h (mkF m n Ls (.int v :: st))) : Go p l e R s m args below meth c n0 Q cells slots h (mkF m pc Ls (st)) := by
  subst hn
  exact Go.via (fun T locs X _ t q => XS.iloadN X.here C.x rfl (hb C.by hd) hl q) k
theorem G.lload (C : Cx p s m meth c Z y bytes maxL ret) {k : Nat} {v : Int64} (hd : decode bytes pc = .ok (.lload k, 2)) (hl : Ls[k]? = some (.val (.long v)))  (hn : pc + 2 = n) (k : Go p l e R s m args below meth c n0 Q cells slots h (mkF m n Ls (.long v :: st))) : Go p l e R s m args below meth c n0 Q cells slots h (mkF m pc Ls (st)) := by
  subst hn
  exact Go.via (fun T locs X _ t q => XS.lload X.here C.x rfl (hb C.by hd) hl q) k
theorem G.lloadN (C : Cx p s m meth c Z y bytes maxL ret) {k : Fin 4} {v : Int64} (hd : decode bytes pc = .ok (.lload_n k, 1)) (hl : Ls[k.val]? = some (.val (.long v)))  (hn : pc + 1 = n) (k : Go p l e R s m args below meth c n0 Q cells slots h (mkF m n Ls (.long v :: st))) : Go p l e R s m args below meth c n0 Q cells slots h (mkF m pc Ls (st)) := by
  subst hn
  exact Go.via (fun T locs X _ t q => XS.lloadN X.here C.x rfl (hb C.by hd) hl q) k
theorem G.aload (C : Cx p s m meth c Z y bytes maxL ret) {k : Nat} {v : Value} (hd : decode bytes pc = .ok (.aload k, 2)) (hl : Ls[k]? = some (.val (v))) (hv : v.isRef = true) (hn : pc + 2 = n) (k : Go p l e R s m args below meth c n0 Q cells slots h (mkF m n Ls (v :: st))) : Go p l e R s m args below meth c n0 Q cells slots h (mkF m pc Ls (st)) := by
  subst hn
  exact Go.via (fun T locs X _ t q => XS.aload X.here C.x rfl (hb C.by hd) hl hv q) k
theorem G.aloadN (C : Cx p s m meth c Z y bytes maxL ret) {k : Fin 4} {v : Value} (hd : decode bytes pc = .ok (.aload_n k, 1)) (hl : Ls[k.val]? = some (.val (v))) (hv : v.isRef = true) (hn : pc + 1 = n) (k : Go p l e R s m args below meth c n0 Q cells slots h (mkF m n Ls (v :: st))) : Go p l e R s m args below meth c n0 Q cells slots h (mkF m pc Ls (st)) := by
  subst hn
  exact Go.via (fun T locs X _ t q => XS.aloadN X.here C.x rfl (hb C.by hd) hl hv q) k
theorem G.istore (C : Cx p s m meth c Z y bytes maxL ret) {k : Nat} {x : Int32} {l' : Array Slot} (hd : decode bytes pc = .ok (.istore k, 2))  (hl : storeLocals Ls k (.int x) = some l') (hn : pc + 2 = n) (kk : Go p l e R s m args below meth c n0 Q cells slots h (mkF m n l' (st))) : Go p l e R s m args below meth c n0 Q cells slots h (mkF m pc Ls (.int x :: st)) := by
  subst hn
  exact Go.via (fun T locs X _ t q => XS.istore X.here C.x rfl (hb C.by hd) rfl hl q) kk
theorem G.istoreZ (C : Cx p s m meth c Z y bytes maxL ret) {k : Nat} {x : Int32} {l' : Int32 → Array Slot} (hd : decode bytes pc = .ok (.istore k, 2)) (hl : ∀ z, storeLocals Ls k (.int z) = some (l' z)) (hn : pc + 2 = n) (kk : ∀ z, z = x → Go p l e R s m args below meth c n0 Q cells slots h (mkF m n (l' z) (st))) : Go p l e R s m args below meth c n0 Q cells slots h (mkF m pc Ls (.int x :: st)) :=
  G.istore C hd (hl x) hn (kk x rfl)
theorem G.istoreN (C : Cx p s m meth c Z y bytes maxL ret) {k : Fin 4} {x : Int32} {l' : Array Slot} (hd : decode bytes pc = .ok (.istore_n k, 1))  (hl : storeLocals Ls k.val (.int x) = some l') (hn : pc + 1 = n) (kk : Go p l e R s m args below meth c n0 Q cells slots h (mkF m n l' (st))) : Go p l e R s m args below meth c n0 Q cells slots h (mkF m pc Ls (.int x :: st)) := by
  subst hn
  exact Go.via (fun T locs X _ t q => XS.istoreN X.here C.x rfl (hb C.by hd) rfl hl q) kk
theorem G.istoreNZ (C : Cx p s m meth c Z y bytes maxL ret) {k : Fin 4} {x : Int32} {l' : Int32 → Array Slot} (hd : decode bytes pc = .ok (.istore_n k, 1)) (hl : ∀ z, storeLocals Ls k.val (.int z) = some (l' z)) (hn : pc + 1 = n) (kk : ∀ z, z = x → Go p l e R s m args below meth c n0 Q cells slots h (mkF m n (l' z) (st))) : Go p l e R s m args below meth c n0 Q cells slots h (mkF m pc Ls (.int x :: st)) :=
  G.istoreN C hd (hl x) hn (kk x rfl)
theorem G.lstore (C : Cx p s m meth c Z y bytes maxL ret) {k : Nat} {x : Int64} {l' : Array Slot} (hd : decode bytes pc = .ok (.lstore k, 2))  (hl : storeLocals Ls k (.long x) = some l') (hn : pc + 2 = n) (kk : Go p l e R s m args below meth c n0 Q cells slots h (mkF m n l' (st))) : Go p l e R s m args below meth c n0 Q cells slots h (mkF m pc Ls (.long x :: st)) := by
  subst hn
  exact Go.via (fun T locs X _ t q => XS.lstore X.here C.x rfl (hb C.by hd) rfl hl q) kk
theorem G.lstoreZ (C : Cx p s m meth c Z y bytes maxL ret) {k : Nat} {x : Int64} {l' : Int64 → Array Slot} (hd : decode bytes pc = .ok (.lstore k, 2)) (hl : ∀ z, storeLocals Ls k (.long z) = some (l' z)) (hn : pc + 2 = n) (kk : ∀ z, z = x → Go p l e R s m args below meth c n0 Q cells slots h (mkF m n (l' z) (st))) : Go p l e R s m args below meth c n0 Q cells slots h (mkF m pc Ls (.long x :: st)) :=
  G.lstore C hd (hl x) hn (kk x rfl)
theorem G.lstoreN (C : Cx p s m meth c Z y bytes maxL ret) {k : Fin 4} {x : Int64} {l' : Array Slot} (hd : decode bytes pc = .ok (.lstore_n k, 1))  (hl : storeLocals Ls k.val (.long x) = some l') (hn : pc + 1 = n) (kk : Go p l e R s m args below meth c n0 Q cells slots h (mkF m n l' (st))) : Go p l e R s m args below meth c n0 Q cells slots h (mkF m pc Ls (.long x :: st)) := by
  subst hn
  exact Go.via (fun T locs X _ t q => XS.lstoreN X.here C.x rfl (hb C.by hd) rfl hl q) kk
theorem G.lstoreNZ (C : Cx p s m meth c Z y bytes maxL ret) {k : Fin 4} {x : Int64} {l' : Int64 → Array Slot} (hd : decode bytes pc = .ok (.lstore_n k, 1)) (hl : ∀ z, storeLocals Ls k.val (.long z) = some (l' z)) (hn : pc + 1 = n) (kk : ∀ z, z = x → Go p l e R s m args below meth c n0 Q cells slots h (mkF m n (l' z) (st))) : Go p l e R s m args below meth c n0 Q cells slots h (mkF m pc Ls (.long x :: st)) :=
  G.lstoreN C hd (hl x) hn (kk x rfl)
theorem G.astore (C : Cx p s m meth c Z y bytes maxL ret) {k : Nat} {x : Value} {l' : Array Slot} (hd : decode bytes pc = .ok (.astore k, 2)) (hv : x.isRef = true) (hl : storeLocals Ls k (x) = some l') (hn : pc + 2 = n) (kk : Go p l e R s m args below meth c n0 Q cells slots h (mkF m n l' (st))) : Go p l e R s m args below meth c n0 Q cells slots h (mkF m pc Ls (x :: st)) := by
  subst hn
  exact Go.via (fun T locs X _ t q => XS.astore X.here C.x rfl (hb C.by hd) rfl hv hl q) kk
theorem G.astoreN (C : Cx p s m meth c Z y bytes maxL ret) {k : Fin 4} {x : Value} {l' : Array Slot} (hd : decode bytes pc = .ok (.astore_n k, 1)) (hv : x.isRef = true) (hl : storeLocals Ls k.val (x) = some l') (hn : pc + 1 = n) (kk : Go p l e R s m args below meth c n0 Q cells slots h (mkF m n l' (st))) : Go p l e R s m args below meth c n0 Q cells slots h (mkF m pc Ls (x :: st)) := by
  subst hn
  exact Go.via (fun T locs X _ t q => XS.astoreN X.here C.x rfl (hb C.by hd) rfl hv hl q) kk
theorem G.iinc (C : Cx p s m meth c Z y bytes maxL ret) {k : Nat} {cst : Int} (v : Int32) {x : Int32} {l' : Array Slot} (hd : decode bytes pc = .ok (.iinc k cst, 3)) (hv : Int32.ofInt cst = v) (hx : Ls[k]? = some (.val (.int x))) (hl : storeLocals Ls k (.int (x + v)) = some l') (hn : pc + 3 = n) (kk : Go p l e R s m args below meth c n0 Q cells slots h (mkF m n l' (st))) : Go p l e R s m args below meth c n0 Q cells slots h (mkF m pc Ls (st)) := by
  subst hn hv
  exact Go.via (fun T locs X _ t q => XS.iinc X.here C.x rfl (hb C.by hd) hx hl q) kk
theorem G.iincZ (C : Cx p s m meth c Z y bytes maxL ret) {k : Nat} {cst : Int} (v : Int32) {x : Int32} {l' : Int32 → Array Slot} (hd : decode bytes pc = .ok (.iinc k cst, 3)) (hv : Int32.ofInt cst = v) (hx : Ls[k]? = some (.val (.int x))) (hl : ∀ z, storeLocals Ls k (.int z) = some (l' z)) (hn : pc + 3 = n) (kk : ∀ z, z = x + v → Go p l e R s m args below meth c n0 Q cells slots h (mkF m n (l' z) (st))) : Go p l e R s m args below meth c n0 Q cells slots h (mkF m pc Ls (st)) :=
  G.iinc C v hd hv hx (hl _) hn (kk _ rfl)
theorem G.iincK (C : Cx p s m meth c Z y bytes maxL ret) {k : Nat} {cst : Int} (v : Int32) {x : Int32} (z : Int32) {l' : Array Slot} (hd : decode bytes pc = .ok (.iinc k cst, 3)) (hv : Int32.ofInt cst = v) (hx : Ls[k]? = some (.val (.int x))) (hz : x + v = z) (hl : storeLocals Ls k (.int z) = some l') (hn : pc + 3 = n) (kk : Go p l e R s m args below meth c n0 Q cells slots h (mkF m n l' (st))) : Go p l e R s m args below meth c n0 Q cells slots h (mkF m pc Ls (st)) := by
  subst hz
  exact G.iinc C v hd hv hx hl hn kk
theorem G.name_int {x : Int32} (kk : ∀ z, z = x → Go p l e R s m args below meth c n0 Q cells slots h (mkF m pc Ls (.int z :: st))) : Go p l e R s m args below meth c n0 Q cells slots h (mkF m pc Ls (.int x :: st)) := kk x rfl
theorem G.name_long {x : Int64} (kk : ∀ z, z = x → Go p l e R s m args below meth c n0 Q cells slots h (mkF m pc Ls (.long z :: st))) : Go p l e R s m args below meth c n0 Q cells slots h (mkF m pc Ls (.long x :: st)) := kk x rfl
theorem G.fold_int {x z : Int32} (hz : x = z) (kk : Go p l e R s m args below meth c n0 Q cells slots h (mkF m pc Ls (.int z :: st))) : Go p l e R s m args below meth c n0 Q cells slots h (mkF m pc Ls (.int x :: st)) := hz ▸ kk
theorem G.fold_long {x z : Int64} (hz : x = z) (kk : Go p l e R s m args below meth c n0 Q cells slots h (mkF m pc Ls (.long z :: st))) : Go p l e R s m args below meth c n0 Q cells slots h (mkF m pc Ls (.long x :: st)) := hz ▸ kk
theorem G.dup (C : Cx p s m meth c Z y bytes maxL ret) {x : Value} (hd : decode bytes pc = .ok (.dup, 1)) (hc : x.category = 1) (hn : pc + 1 = n) (k : Go p l e R s m args below meth c n0 Q cells slots h (mkF m n Ls (x :: x :: st))) : Go p l e R s m args below meth c n0 Q cells slots h (mkF m pc Ls (x :: st)) := by
  subst hn
  exact Go.via (fun T locs X _ t q => XS.dup X.here C.x rfl (hb C.by hd) rfl hc q) k
theorem G.pop (C : Cx p s m meth c Z y bytes maxL ret) {x : Value} (hd : decode bytes pc = .ok (.pop, 1)) (hc : x.category = 1) (hn : pc + 1 = n) (k : Go p l e R s m args below meth c n0 Q cells slots h (mkF m n Ls (st))) : Go p l e R s m args below meth c n0 Q cells slots h (mkF m pc Ls (x :: st)) := by
  subst hn
  exact Go.via (fun T locs X _ t q => XS.pop X.here C.x rfl (hb C.by hd) rfl hc q) k
theorem G.dup_x1 (C : Cx p s m meth c Z y bytes maxL ret) {x x2 : Value} (hd : decode bytes pc = .ok (.dup_x1, 1)) (hc : x.category = 1) (hc2 : x2.category = 1) (hn : pc + 1 = n) (k : Go p l e R s m args below meth c n0 Q cells slots h (mkF m n Ls (x :: x2 :: x :: st))) : Go p l e R s m args below meth c n0 Q cells slots h (mkF m pc Ls (x :: x2 :: st)) := by
  subst hn
  exact Go.via (fun T locs X _ t q => XS.dupX1 X.here C.x rfl (hb C.by hd) rfl hc hc2 q) k
theorem G.dup2 (C : Cx p s m meth c Z y bytes maxL ret) {x x2 : Value} (hd : decode bytes pc = .ok (.dup2, 1)) (hc : x.category = 1) (hc2 : x2.category = 1) (hn : pc + 1 = n) (k : Go p l e R s m args below meth c n0 Q cells slots h (mkF m n Ls (x :: x2 :: x :: x2 :: st))) : Go p l e R s m args below meth c n0 Q cells slots h (mkF m pc Ls (x :: x2 :: st)) := by
  subst hn
  exact Go.via (fun T locs X _ t q => XT.dup2 X.here C.x rfl (hb C.by hd) rfl hc hc2 q) k
theorem G.dup2L (C : Cx p s m meth c Z y bytes maxL ret) {x : Int64} (hd : decode bytes pc = .ok (.dup2, 1)) (hn : pc + 1 = n) (k : Go p l e R s m args below meth c n0 Q cells slots h (mkF m n Ls (.long x :: .long x :: st))) : Go p l e R s m args below meth c n0 Q cells slots h (mkF m pc Ls (.long x :: st)) := by
  subst hn
  exact Go.via (fun T locs X _ t q => XT.dup2L X.here C.x rfl (hb C.by hd) rfl q) k
theorem G.goto (C : Cx p s m meth c Z y bytes maxL ret) {o : Int} (hd : decode bytes pc = .ok (.goto o, 3)) (ho : 0 ≤ (pc : Int) + o) (hp : ((pc : Int) + o).toNat = n) (k : Go p l e R s m args below meth c n0 Q cells slots h (mkF m n Ls (st))) : Go p l e R s m args below meth c n0 Q cells slots h (mkF m pc Ls (st)) :=
  Go.via (fun T locs X _ t q => XS.goto X.here C.x rfl rfl (hb C.by hd) ho hp q) k
theorem lt_i {x y : Int32} : x < y ↔ x.toInt < y.toInt := Int32.lt_iff_toInt_lt
theorem lt_l {x y : Int64} : x < y ↔ x.toInt < y.toInt := Int64.lt_iff_toInt_lt
theorem le_i {x y : Int32} : x ≤ y ↔ x.toInt ≤ y.toInt := Int32.le_iff_toInt_le
theorem le_l {x y : Int64} : x ≤ y ↔ x.toInt ≤ y.toInt := Int64.le_iff_toInt_le
theorem ich_lt {x1 x2 : Int32} : (x1.toInt < x2.toInt ∧ if_icmp.holds .lt x1 x2 = true) ∨ (x2.toInt ≤ x1.toInt ∧ if_icmp.holds .lt x1 x2 = false) := by
  by_cases q : x1.toInt < x2.toInt
  · exact Or.inl ⟨q, by simp [if_icmp.holds, lt_i, le_i, Int32.lt_iff_toInt_lt, Int32.le_iff_toInt_le, q]⟩
  · exact Or.inr ⟨by omega, by first | (simp [if_icmp.holds, lt_i, le_i, Int32.lt_iff_toInt_lt, Int32.le_iff_toInt_le, q]; done) | (simp [if_icmp.holds, lt_i, le_i, Int32.lt_iff_toInt_lt, Int32.le_iff_toInt_le]; omega)⟩
theorem G.icmp_lt (C : Cx p s m meth c Z y bytes maxL ret) {x1 x2 : Int32} {o : Int} {A B : Int} (hA : x1.toInt = A) (hB : x2.toInt = B) (hd : decode bytes pc = .ok (.if_icmp .lt o, 3)) (ho : 0 ≤ (pc : Int) + o) (hp : ((pc : Int) + o).toNat = n') (hn : pc + 3 = n) (kt : A < B → Go p l e R s m args below meth c n0 Q cells slots h (mkF m n' Ls (st))) (kf : B ≤ A → Go p l e R s m args below meth c n0 Q cells slots h (mkF m n Ls (st))) : Go p l e R s m args below meth c n0 Q cells slots h (mkF m pc Ls (.int x2 :: .int x1 :: st)) := by
  subst hn hA hB
  rcases ich_lt (x1 := x1) (x2 := x2) with ⟨q, r⟩ | ⟨q, r⟩
  · exact Go.via (fun T locs X _ t q => XS.icmpYes X.here C.x rfl rfl (hb C.by hd) rfl r ho hp q) (kt q)
  · exact Go.via (fun T locs X _ t q => XS.icmpNo X.here C.x rfl (hb C.by hd) rfl r q) (kf q)
theorem G.if_lt (C : Cx p s m meth c Z y bytes maxL ret) {x1 : Int32} {o : Int} {A : Int} (hA : x1.toInt = A) (hd : decode bytes pc = .ok (.ifCond .lt o, 3)) (ho : 0 ≤ (pc : Int) + o) (hp : ((pc : Int) + o).toNat = n') (hn : pc + 3 = n) (kt : A < 0 → Go p l e R s m args below meth c n0 Q cells slots h (mkF m n' Ls (st))) (kf : 0 ≤ A → Go p l e R s m args below meth c n0 Q cells slots h (mkF m n Ls (st))) : Go p l e R s m args below meth c n0 Q cells slots h (mkF m pc Ls (.int x1 :: st)) := by
  subst hn hA
  rcases ich_lt (x1 := x1) (x2 := 0) with ⟨q, r⟩ | ⟨q, r⟩
  · exact Go.via (fun T locs X _ t q => XS.ifYes X.here C.x rfl rfl (hb C.by hd) rfl ((if0 _ _).trans r) ho hp q) (kt q)
  · exact Go.via (fun T locs X _ t q => XS.ifNo X.here C.x rfl (hb C.by hd) rfl ((if0 _ _).trans r) q) (kf q)
theorem lch_lt (x1 x2 : Int64) : ((lcmpW x1 x2).toInt < 0 → x1.toInt < x2.toInt) ∧ (0 ≤ (lcmpW x1 x2).toInt → x2.toInt ≤ x1.toInt) := by
  have q := c_lcmp x1 x2
  have z : ∀ x : Int32, x = 0 ↔ x.toInt = 0 := fun x => ⟨fun q => by rw [q]; rfl, fun q => Int32.toInt_inj.mp q⟩
  have w : x1 = x2 ↔ x1.toInt = x2.toInt := Int64.toInt_inj.symm
  
  constructor <;> intro r <;> omega
theorem G.lcmp_lt (C : Cx p s m meth c Z y bytes maxL ret) {x1 x2 : Int64} {o : Int} {A B : Int} (hA : x1.toInt = A) (hB : x2.toInt = B) (hc : decode bytes pc = .ok (.lcmp, 1)) (hd : decode bytes (pc + 1) = .ok (.ifCond .lt o, 3)) (ho : 0 ≤ ((pc + 1 : Nat) : Int) + o) (hp : (((pc + 1 : Nat) : Int) + o).toNat = n') (hn : pc + 4 = n) (kt : A < B → Go p l e R s m args below meth c n0 Q cells slots h (mkF m n' Ls (st))) (kf : B ≤ A → Go p l e R s m args below meth c n0 Q cells slots h (mkF m n Ls (st))) : Go p l e R s m args below meth c n0 Q cells slots h (mkF m pc Ls (.long x2 :: .long x1 :: st)) := by
  subst hn hA hB
  refine Go.via (fun T locs X _ t q => XS.lcmp X.here C.x rfl (hb C.by hc) rfl q) ?_
  exact G.if_lt C (A := (lcmpW x1 x2).toInt) rfl (pc := pc + 1) hd ho hp (n := pc + 4) rfl (fun q => kt ((lch_lt x1 x2).1 q)) (fun q => kf ((lch_lt x1 x2).2 q))
theorem ich_ge {x1 x2 : Int32} : (x2.toInt ≤ x1.toInt ∧ if_icmp.holds .ge x1 x2 = true) ∨ (x1.toInt < x2.toInt ∧ if_icmp.holds .ge x1 x2 = false) := by
  by_cases q : x2.toInt ≤ x1.toInt
  · exact Or.inl ⟨q, by simp [if_icmp.holds, lt_i, le_i, Int32.lt_iff_toInt_lt, Int32.le_iff_toInt_le, q]⟩
  · exact Or.inr ⟨by omega, by first | (simp [if_icmp.holds, lt_i, le_i, Int32.lt_iff_toInt_lt, Int32.le_iff_toInt_le, q]; done) | (simp [if_icmp.holds, lt_i, le_i, Int32.lt_iff_toInt_lt, Int32.le_iff_toInt_le]; omega)⟩
theorem G.icmp_ge (C : Cx p s m meth c Z y bytes maxL ret) {x1 x2 : Int32} {o : Int} {A B : Int} (hA : x1.toInt = A) (hB : x2.toInt = B) (hd : decode bytes pc = .ok (.if_icmp .ge o, 3)) (ho : 0 ≤ (pc : Int) + o) (hp : ((pc : Int) + o).toNat = n') (hn : pc + 3 = n) (kt : B ≤ A → Go p l e R s m args below meth c n0 Q cells slots h (mkF m n' Ls (st))) (kf : A < B → Go p l e R s m args below meth c n0 Q cells slots h (mkF m n Ls (st))) : Go p l e R s m args below meth c n0 Q cells slots h (mkF m pc Ls (.int x2 :: .int x1 :: st)) := by
  subst hn hA hB
  rcases ich_ge (x1 := x1) (x2 := x2) with ⟨q, r⟩ | ⟨q, r⟩
  · exact Go.via (fun T locs X _ t q => XS.icmpYes X.here C.x rfl rfl (hb C.by hd) rfl r ho hp q) (kt q)
  · exact Go.via (fun T locs X _ t q => XS.icmpNo X.here C.x rfl (hb C.by hd) rfl r q) (kf q)
theorem G.if_ge (C : Cx p s m meth c Z y bytes maxL ret) {x1 : Int32} {o : Int} {A : Int} (hA : x1.toInt = A) (hd : decode bytes pc = .ok (.ifCond .ge o, 3)) (ho : 0 ≤ (pc : Int) + o) (hp : ((pc : Int) + o).toNat = n') (hn : pc + 3 = n) (kt : 0 ≤ A → Go p l e R s m args below meth c n0 Q cells slots h (mkF m n' Ls (st))) (kf : A < 0 → Go p l e R s m args below meth c n0 Q cells slots h (mkF m n Ls (st))) : Go p l e R s m args below meth c n0 Q cells slots h (mkF m pc Ls (.int x1 :: st)) := by
  subst hn hA
  rcases ich_ge (x1 := x1) (x2 := 0) with ⟨q, r⟩ | ⟨q, r⟩
  · exact Go.via (fun T locs X _ t q => XS.ifYes X.here C.x rfl rfl (hb C.by hd) rfl ((if0 _ _).trans r) ho hp q) (kt q)
  · exact Go.via (fun T locs X _ t q => XS.ifNo X.here C.x rfl (hb C.by hd) rfl ((if0 _ _).trans r) q) (kf q)
theorem lch_ge (x1 x2 : Int64) : (0 ≤ (lcmpW x1 x2).toInt → x2.toInt ≤ x1.toInt) ∧ ((lcmpW x1 x2).toInt < 0 → x1.toInt < x2.toInt) := by
  have q := c_lcmp x1 x2
  have z : ∀ x : Int32, x = 0 ↔ x.toInt = 0 := fun x => ⟨fun q => by rw [q]; rfl, fun q => Int32.toInt_inj.mp q⟩
  have w : x1 = x2 ↔ x1.toInt = x2.toInt := Int64.toInt_inj.symm
  
  constructor <;> intro r <;> omega
theorem G.lcmp_ge (C : Cx p s m meth c Z y bytes maxL ret) {x1 x2 : Int64} {o : Int} {A B : Int} (hA : x1.toInt = A) (hB : x2.toInt = B) (hc : decode bytes pc = .ok (.lcmp, 1)) (hd : decode bytes (pc + 1) = .ok (.ifCond .ge o, 3)) (ho : 0 ≤ ((pc + 1 : Nat) : Int) + o) (hp : (((pc + 1 : Nat) : Int) + o).toNat = n') (hn : pc + 4 = n) (kt : B ≤ A → Go p l e R s m args below meth c n0 Q cells slots h (mkF m n' Ls (st))) (kf : A < B → Go p l e R s m args below meth c n0 Q cells slots h (mkF m n Ls (st))) : Go p l e R s m args below meth c n0 Q cells slots h (mkF m pc Ls (.long x2 :: .long x1 :: st)) := by
  subst hn hA hB
  refine Go.via (fun T locs X _ t q => XS.lcmp X.here C.x rfl (hb C.by hc) rfl q) ?_
  exact G.if_ge C (A := (lcmpW x1 x2).toInt) rfl (pc := pc + 1) hd ho hp (n := pc + 4) rfl (fun q => kt ((lch_ge x1 x2).1 q)) (fun q => kf ((lch_ge x1 x2).2 q))
theorem ich_gt {x1 x2 : Int32} : (x2.toInt < x1.toInt ∧ if_icmp.holds .gt x1 x2 = true) ∨ (x1.toInt ≤ x2.toInt ∧ if_icmp.holds .gt x1 x2 = false) := by
  by_cases q : x2.toInt < x1.toInt
  · exact Or.inl ⟨q, by simp [if_icmp.holds, lt_i, le_i, Int32.lt_iff_toInt_lt, Int32.le_iff_toInt_le, q]⟩
  · exact Or.inr ⟨by omega, by first | (simp [if_icmp.holds, lt_i, le_i, Int32.lt_iff_toInt_lt, Int32.le_iff_toInt_le, q]; done) | (simp [if_icmp.holds, lt_i, le_i, Int32.lt_iff_toInt_lt, Int32.le_iff_toInt_le]; omega)⟩
theorem G.icmp_gt (C : Cx p s m meth c Z y bytes maxL ret) {x1 x2 : Int32} {o : Int} {A B : Int} (hA : x1.toInt = A) (hB : x2.toInt = B) (hd : decode bytes pc = .ok (.if_icmp .gt o, 3)) (ho : 0 ≤ (pc : Int) + o) (hp : ((pc : Int) + o).toNat = n') (hn : pc + 3 = n) (kt : B < A → Go p l e R s m args below meth c n0 Q cells slots h (mkF m n' Ls (st))) (kf : A ≤ B → Go p l e R s m args below meth c n0 Q cells slots h (mkF m n Ls (st))) : Go p l e R s m args below meth c n0 Q cells slots h (mkF m pc Ls (.int x2 :: .int x1 :: st)) := by
  subst hn hA hB
  rcases ich_gt (x1 := x1) (x2 := x2) with ⟨q, r⟩ | ⟨q, r⟩
  · exact Go.via (fun T locs X _ t q => XS.icmpYes X.here C.x rfl rfl (hb C.by hd) rfl r ho hp q) (kt q)
  · exact Go.via (fun T locs X _ t q => XS.icmpNo X.here C.x rfl (hb C.by hd) rfl r q) (kf q)
theorem G.if_gt (C : Cx p s m meth c Z y bytes maxL ret) {x1 : Int32} {o : Int} {A : Int} (hA : x1.toInt = A) (hd : decode bytes pc = .ok (.ifCond .gt o, 3)) (ho : 0 ≤ (pc : Int) + o) (hp : ((pc : Int) + o).toNat = n') (hn : pc + 3 = n) (kt : 0 < A → Go p l e R s m args below meth c n0 Q cells slots h (mkF m n' Ls (st))) (kf : A ≤ 0 → Go p l e R s m args below meth c n0 Q cells slots h (mkF m n Ls (st))) : Go p l e R s m args below meth c n0 Q cells slots h (mkF m pc Ls (.int x1 :: st)) := by
  subst hn hA
  rcases ich_gt (x1 := x1) (x2 := 0) with ⟨q, r⟩ | ⟨q, r⟩
  · exact Go.via (fun T locs X _ t q => XS.ifYes X.here C.x rfl rfl (hb C.by hd) rfl ((if0 _ _).trans r) ho hp q) (kt q)
  · exact Go.via (fun T locs X _ t q => XS.ifNo X.here C.x rfl (hb C.by hd) rfl ((if0 _ _).trans r) q) (kf q)
theorem lch_gt (x1 x2 : Int64) : (0 < (lcmpW x1 x2).toInt → x2.toInt < x1.toInt) ∧ ((lcmpW x1 x2).toInt ≤ 0 → x1.toInt ≤ x2.toInt) := by
  have q := c_lcmp x1 x2
  have z : ∀ x : Int32, x = 0 ↔ x.toInt = 0 := fun x => ⟨fun q => by rw [q]; rfl, fun q => Int32.toInt_inj.mp q⟩
  have w : x1 = x2 ↔ x1.toInt = x2.toInt := Int64.toInt_inj.symm
  
  constructor <;> intro r <;> omega
theorem G.lcmp_gt (C : Cx p s m meth c Z y bytes maxL ret) {x1 x2 : Int64} {o : Int} {A B : Int} (hA : x1.toInt = A) (hB : x2.toInt = B) (hc : decode bytes pc = .ok (.lcmp, 1)) (hd : decode bytes (pc + 1) = .ok (.ifCond .gt o, 3)) (ho : 0 ≤ ((pc + 1 : Nat) : Int) + o) (hp : (((pc + 1 : Nat) : Int) + o).toNat = n') (hn : pc + 4 = n) (kt : B < A → Go p l e R s m args below meth c n0 Q cells slots h (mkF m n' Ls (st))) (kf : A ≤ B → Go p l e R s m args below meth c n0 Q cells slots h (mkF m n Ls (st))) : Go p l e R s m args below meth c n0 Q cells slots h (mkF m pc Ls (.long x2 :: .long x1 :: st)) := by
  subst hn hA hB
  refine Go.via (fun T locs X _ t q => XS.lcmp X.here C.x rfl (hb C.by hc) rfl q) ?_
  exact G.if_gt C (A := (lcmpW x1 x2).toInt) rfl (pc := pc + 1) hd ho hp (n := pc + 4) rfl (fun q => kt ((lch_gt x1 x2).1 q)) (fun q => kf ((lch_gt x1 x2).2 q))
theorem ich_le {x1 x2 : Int32} : (x1.toInt ≤ x2.toInt ∧ if_icmp.holds .le x1 x2 = true) ∨ (x2.toInt < x1.toInt ∧ if_icmp.holds .le x1 x2 = false) := by
  by_cases q : x1.toInt ≤ x2.toInt
  · exact Or.inl ⟨q, by simp [if_icmp.holds, lt_i, le_i, Int32.lt_iff_toInt_lt, Int32.le_iff_toInt_le, q]⟩
  · exact Or.inr ⟨by omega, by first | (simp [if_icmp.holds, lt_i, le_i, Int32.lt_iff_toInt_lt, Int32.le_iff_toInt_le, q]; done) | (simp [if_icmp.holds, lt_i, le_i, Int32.lt_iff_toInt_lt, Int32.le_iff_toInt_le]; omega)⟩
theorem G.icmp_le (C : Cx p s m meth c Z y bytes maxL ret) {x1 x2 : Int32} {o : Int} {A B : Int} (hA : x1.toInt = A) (hB : x2.toInt = B) (hd : decode bytes pc = .ok (.if_icmp .le o, 3)) (ho : 0 ≤ (pc : Int) + o) (hp : ((pc : Int) + o).toNat = n') (hn : pc + 3 = n) (kt : A ≤ B → Go p l e R s m args below meth c n0 Q cells slots h (mkF m n' Ls (st))) (kf : B < A → Go p l e R s m args below meth c n0 Q cells slots h (mkF m n Ls (st))) : Go p l e R s m args below meth c n0 Q cells slots h (mkF m pc Ls (.int x2 :: .int x1 :: st)) := by
  subst hn hA hB
  rcases ich_le (x1 := x1) (x2 := x2) with ⟨q, r⟩ | ⟨q, r⟩
  · exact Go.via (fun T locs X _ t q => XS.icmpYes X.here C.x rfl rfl (hb C.by hd) rfl r ho hp q) (kt q)
  · exact Go.via (fun T locs X _ t q => XS.icmpNo X.here C.x rfl (hb C.by hd) rfl r q) (kf q)
theorem G.if_le (C : Cx p s m meth c Z y bytes maxL ret) {x1 : Int32} {o : Int} {A : Int} (hA : x1.toInt = A) (hd : decode bytes pc = .ok (.ifCond .le o, 3)) (ho : 0 ≤ (pc : Int) + o) (hp : ((pc : Int) + o).toNat = n') (hn : pc + 3 = n) (kt : A ≤ 0 → Go p l e R s m args below meth c n0 Q cells slots h (mkF m n' Ls (st))) (kf : 0 < A → Go p l e R s m args below meth c n0 Q cells slots h (mkF m n Ls (st))) : Go p l e R s m args below meth c n0 Q cells slots h (mkF m pc Ls (.int x1 :: st)) := by
  subst hn hA
  rcases ich_le (x1 := x1) (x2 := 0) with ⟨q, r⟩ | ⟨q, r⟩
  · exact Go.via (fun T locs X _ t q => XS.ifYes X.here C.x rfl rfl (hb C.by hd) rfl ((if0 _ _).trans r) ho hp q) (kt q)
  · exact Go.via (fun T locs X _ t q => XS.ifNo X.here C.x rfl (hb C.by hd) rfl ((if0 _ _).trans r) q) (kf q)
theorem lch_le (x1 x2 : Int64) : ((lcmpW x1 x2).toInt ≤ 0 → x1.toInt ≤ x2.toInt) ∧ (0 < (lcmpW x1 x2).toInt → x2.toInt < x1.toInt) := by
  have q := c_lcmp x1 x2
  have z : ∀ x : Int32, x = 0 ↔ x.toInt = 0 := fun x => ⟨fun q => by rw [q]; rfl, fun q => Int32.toInt_inj.mp q⟩
  have w : x1 = x2 ↔ x1.toInt = x2.toInt := Int64.toInt_inj.symm
  
  constructor <;> intro r <;> omega
theorem G.lcmp_le (C : Cx p s m meth c Z y bytes maxL ret) {x1 x2 : Int64} {o : Int} {A B : Int} (hA : x1.toInt = A) (hB : x2.toInt = B) (hc : decode bytes pc = .ok (.lcmp, 1)) (hd : decode bytes (pc + 1) = .ok (.ifCond .le o, 3)) (ho : 0 ≤ ((pc + 1 : Nat) : Int) + o) (hp : (((pc + 1 : Nat) : Int) + o).toNat = n') (hn : pc + 4 = n) (kt : A ≤ B → Go p l e R s m args below meth c n0 Q cells slots h (mkF m n' Ls (st))) (kf : B < A → Go p l e R s m args below meth c n0 Q cells slots h (mkF m n Ls (st))) : Go p l e R s m args below meth c n0 Q cells slots h (mkF m pc Ls (.long x2 :: .long x1 :: st)) := by
  subst hn hA hB
  refine Go.via (fun T locs X _ t q => XS.lcmp X.here C.x rfl (hb C.by hc) rfl q) ?_
  exact G.if_le C (A := (lcmpW x1 x2).toInt) rfl (pc := pc + 1) hd ho hp (n := pc + 4) rfl (fun q => kt ((lch_le x1 x2).1 q)) (fun q => kf ((lch_le x1 x2).2 q))
theorem ich_eq {x1 x2 : Int32} : (x1 = x2 ∧ if_icmp.holds .eq x1 x2 = true) ∨ (x1 ≠ x2 ∧ if_icmp.holds .eq x1 x2 = false) := by
  by_cases q : x1 = x2 <;> simp [if_icmp.holds, q]
theorem G.icmp_eq (C : Cx p s m meth c Z y bytes maxL ret) {x1 x2 : Int32} {o : Int} {A B : Int} (hA : x1.toInt = A) (hB : x2.toInt = B) (hd : decode bytes pc = .ok (.if_icmp .eq o, 3)) (ho : 0 ≤ (pc : Int) + o) (hp : ((pc : Int) + o).toNat = n') (hn : pc + 3 = n) (kt : x1 = x2 → A = B → Go p l e R s m args below meth c n0 Q cells slots h (mkF m n' Ls (st))) (kf : x1 ≠ x2 → A ≠ B → Go p l e R s m args below meth c n0 Q cells slots h (mkF m n Ls (st))) : Go p l e R s m args below meth c n0 Q cells slots h (mkF m pc Ls (.int x2 :: .int x1 :: st)) := by
  subst hn hA hB
  rcases ich_eq (x1 := x1) (x2 := x2) with ⟨q, r⟩ | ⟨q, r⟩
  · exact Go.via (fun T locs X _ t q => XS.icmpYes X.here C.x rfl rfl (hb C.by hd) rfl r ho hp q) (kt q (congrArg _ q))
  · exact Go.via (fun T locs X _ t q => XS.icmpNo X.here C.x rfl (hb C.by hd) rfl r q) (kf q (fun r => q (Int32.toInt_inj.mp r)))
theorem G.if_eq (C : Cx p s m meth c Z y bytes maxL ret) {x1 : Int32} {o : Int} {A : Int} (hA : x1.toInt = A) (hd : decode bytes pc = .ok (.ifCond .eq o, 3)) (ho : 0 ≤ (pc : Int) + o) (hp : ((pc : Int) + o).toNat = n') (hn : pc + 3 = n) (kt : x1 = 0 → A = 0 → Go p l e R s m args below meth c n0 Q cells slots h (mkF m n' Ls (st))) (kf : x1 ≠ 0 → A ≠ 0 → Go p l e R s m args below meth c n0 Q cells slots h (mkF m n Ls (st))) : Go p l e R s m args below meth c n0 Q cells slots h (mkF m pc Ls (.int x1 :: st)) := by
  subst hn hA
  rcases ich_eq (x1 := x1) (x2 := 0) with ⟨q, r⟩ | ⟨q, r⟩
  · exact Go.via (fun T locs X _ t q => XS.ifYes X.here C.x rfl rfl (hb C.by hd) rfl ((if0 _ _).trans r) ho hp q) (kt q (congrArg Int32.toInt q))
  · exact Go.via (fun T locs X _ t q => XS.ifNo X.here C.x rfl (hb C.by hd) rfl ((if0 _ _).trans r) q) (kf q (fun r => q (Int32.toInt_inj.mp r)))
theorem lch_eq (x1 x2 : Int64) : ((lcmpW x1 x2) = 0 → x1 = x2) ∧ ((lcmpW x1 x2) ≠ 0 → x1 ≠ x2) := by
  have q := c_lcmp x1 x2
  have z : ∀ x : Int32, x = 0 ↔ x.toInt = 0 := fun x => ⟨fun q => by rw [q]; rfl, fun q => Int32.toInt_inj.mp q⟩
  have w : x1 = x2 ↔ x1.toInt = x2.toInt := Int64.toInt_inj.symm
  simp only [ne_eq, z, w]
  constructor <;> intro r <;> omega
theorem G.lcmp_eq (C : Cx p s m meth c Z y bytes maxL ret) {x1 x2 : Int64} {o : Int} {A B : Int} (hA : x1.toInt = A) (hB : x2.toInt = B) (hc : decode bytes pc = .ok (.lcmp, 1)) (hd : decode bytes (pc + 1) = .ok (.ifCond .eq o, 3)) (ho : 0 ≤ ((pc + 1 : Nat) : Int) + o) (hp : (((pc + 1 : Nat) : Int) + o).toNat = n') (hn : pc + 4 = n) (kt : x1 = x2 → A = B → Go p l e R s m args below meth c n0 Q cells slots h (mkF m n' Ls (st))) (kf : x1 ≠ x2 → A ≠ B → Go p l e R s m args below meth c n0 Q cells slots h (mkF m n Ls (st))) : Go p l e R s m args below meth c n0 Q cells slots h (mkF m pc Ls (.long x2 :: .long x1 :: st)) := by
  subst hn hA hB
  refine Go.via (fun T locs X _ t q => XS.lcmp X.here C.x rfl (hb C.by hc) rfl q) ?_
  exact G.if_eq C (A := (lcmpW x1 x2).toInt) rfl (pc := pc + 1) hd ho hp (n := pc + 4) rfl (fun q _ => kt ((lch_eq x1 x2).1 q) (congrArg _ ((lch_eq x1 x2).1 q))) (fun q _ => kf ((lch_eq x1 x2).2 q) (fun r => (lch_eq x1 x2).2 q (Int64.toInt_inj.mp r)))
theorem ich_ne {x1 x2 : Int32} : (x1 ≠ x2 ∧ if_icmp.holds .ne x1 x2 = true) ∨ (x1 = x2 ∧ if_icmp.holds .ne x1 x2 = false) := by
  by_cases q : x1 = x2 <;> simp [if_icmp.holds, q]
theorem G.icmp_ne (C : Cx p s m meth c Z y bytes maxL ret) {x1 x2 : Int32} {o : Int} {A B : Int} (hA : x1.toInt = A) (hB : x2.toInt = B) (hd : decode bytes pc = .ok (.if_icmp .ne o, 3)) (ho : 0 ≤ (pc : Int) + o) (hp : ((pc : Int) + o).toNat = n') (hn : pc + 3 = n) (kt : x1 ≠ x2 → A ≠ B → Go p l e R s m args below meth c n0 Q cells slots h (mkF m n' Ls (st))) (kf : x1 = x2 → A = B → Go p l e R s m args below meth c n0 Q cells slots h (mkF m n Ls (st))) : Go p l e R s m args below meth c n0 Q cells slots h (mkF m pc Ls (.int x2 :: .int x1 :: st)) := by
  subst hn hA hB
  rcases ich_ne (x1 := x1) (x2 := x2) with ⟨q, r⟩ | ⟨q, r⟩
  · exact Go.via (fun T locs X _ t q => XS.icmpYes X.here C.x rfl rfl (hb C.by hd) rfl r ho hp q) (kt q (fun r => q (Int32.toInt_inj.mp r)))
  · exact Go.via (fun T locs X _ t q => XS.icmpNo X.here C.x rfl (hb C.by hd) rfl r q) (kf q (congrArg _ q))
theorem G.if_ne (C : Cx p s m meth c Z y bytes maxL ret) {x1 : Int32} {o : Int} {A : Int} (hA : x1.toInt = A) (hd : decode bytes pc = .ok (.ifCond .ne o, 3)) (ho : 0 ≤ (pc : Int) + o) (hp : ((pc : Int) + o).toNat = n') (hn : pc + 3 = n) (kt : x1 ≠ 0 → A ≠ 0 → Go p l e R s m args below meth c n0 Q cells slots h (mkF m n' Ls (st))) (kf : x1 = 0 → A = 0 → Go p l e R s m args below meth c n0 Q cells slots h (mkF m n Ls (st))) : Go p l e R s m args below meth c n0 Q cells slots h (mkF m pc Ls (.int x1 :: st)) := by
  subst hn hA
  rcases ich_ne (x1 := x1) (x2 := 0) with ⟨q, r⟩ | ⟨q, r⟩
  · exact Go.via (fun T locs X _ t q => XS.ifYes X.here C.x rfl rfl (hb C.by hd) rfl ((if0 _ _).trans r) ho hp q) (kt q (fun r => q (Int32.toInt_inj.mp r)))
  · exact Go.via (fun T locs X _ t q => XS.ifNo X.here C.x rfl (hb C.by hd) rfl ((if0 _ _).trans r) q) (kf q (congrArg Int32.toInt q))
theorem lch_ne (x1 x2 : Int64) : ((lcmpW x1 x2) ≠ 0 → x1 ≠ x2) ∧ ((lcmpW x1 x2) = 0 → x1 = x2) := by
  have q := c_lcmp x1 x2
  have z : ∀ x : Int32, x = 0 ↔ x.toInt = 0 := fun x => ⟨fun q => by rw [q]; rfl, fun q => Int32.toInt_inj.mp q⟩
  have w : x1 = x2 ↔ x1.toInt = x2.toInt := Int64.toInt_inj.symm
  simp only [ne_eq, z, w]
  constructor <;> intro r <;> omega
theorem G.lcmp_ne (C : Cx p s m meth c Z y bytes maxL ret) {x1 x2 : Int64} {o : Int} {A B : Int} (hA : x1.toInt = A) (hB : x2.toInt = B) (hc : decode bytes pc = .ok (.lcmp, 1)) (hd : decode bytes (pc + 1) = .ok (.ifCond .ne o, 3)) (ho : 0 ≤ ((pc + 1 : Nat) : Int) + o) (hp : (((pc + 1 : Nat) : Int) + o).toNat = n') (hn : pc + 4 = n) (kt : x1 ≠ x2 → A ≠ B → Go p l e R s m args below meth c n0 Q cells slots h (mkF m n' Ls (st))) (kf : x1 = x2 → A = B → Go p l e R s m args below meth c n0 Q cells slots h (mkF m n Ls (st))) : Go p l e R s m args below meth c n0 Q cells slots h (mkF m pc Ls (.long x2 :: .long x1 :: st)) := by
  subst hn hA hB
  refine Go.via (fun T locs X _ t q => XS.lcmp X.here C.x rfl (hb C.by hc) rfl q) ?_
  exact G.if_ne C (A := (lcmpW x1 x2).toInt) rfl (pc := pc + 1) hd ho hp (n := pc + 4) rfl (fun q _ => kt ((lch_ne x1 x2).1 q) (fun r => (lch_ne x1 x2).1 q (Int64.toInt_inj.mp r))) (fun q _ => kf ((lch_ne x1 x2).2 q) (congrArg _ ((lch_ne x1 x2).2 q)))
theorem G.ifnullN (C : Cx p s m meth c Z y bytes maxL ret) {b : Addr} {o : Int} (hd : decode bytes pc = .ok (.ifnull o, 3)) (hn : pc + 3 = n) (k : Go p l e R s m args below meth c n0 Q cells slots h (mkF m n Ls (st))) : Go p l e R s m args below meth c n0 Q cells slots h (mkF m pc Ls (.ref b :: st)) := by
  subst hn
  exact Go.via (fun T locs X _ t q => XS.ifnullNo X.here C.x rfl (hb C.by hd) rfl q) k
theorem G.ifnullY (C : Cx p s m meth c Z y bytes maxL ret) {o : Int} (hd : decode bytes pc = .ok (.ifnull o, 3)) (ho : 0 ≤ (pc : Int) + o) (hp : ((pc : Int) + o).toNat = n) (k : Go p l e R s m args below meth c n0 Q cells slots h (mkF m n Ls (st))) : Go p l e R s m args below meth c n0 Q cells slots h (mkF m pc Ls (.null :: st)) :=
  Go.via (fun T locs X _ t q => XS.ifnullYes X.here C.x rfl rfl (hb C.by hd) rfl ho hp q) k
theorem G.ifnonnullY (C : Cx p s m meth c Z y bytes maxL ret) {b : Addr} {o : Int} (hd : decode bytes pc = .ok (.ifnonnull o, 3)) (ho : 0 ≤ (pc : Int) + o) (hp : ((pc : Int) + o).toNat = n) (k : Go p l e R s m args below meth c n0 Q cells slots h (mkF m n Ls (st))) : Go p l e R s m args below meth c n0 Q cells slots h (mkF m pc Ls (.ref b :: st)) :=
  Go.via (fun T locs X _ t q => XS.ifnonnullYes X.here C.x rfl rfl (hb C.by hd) rfl ho hp q) k
theorem G.ifnonnullN (C : Cx p s m meth c Z y bytes maxL ret) {o : Int} (hd : decode bytes pc = .ok (.ifnonnull o, 3)) (hn : pc + 3 = n) (k : Go p l e R s m args below meth c n0 Q cells slots h (mkF m n Ls (st))) : Go p l e R s m args below meth c n0 Q cells slots h (mkF m pc Ls (.null :: st)) := by
  subst hn
  exact Go.via (fun T locs X _ t q => XS.ifnonnullNo X.here C.x rfl (hb C.by hd) rfl q) k
theorem G.acmp_eq (C : Cx p s m meth c Z y bytes maxL ret) {x1 x2 : Value} {o : Int} (h1 : x1.isRef = true) (h2 : x2.isRef = true) (hd : decode bytes pc = .ok (.if_acmp .eq o, 3)) (ho : 0 ≤ (pc : Int) + o) (hp : ((pc : Int) + o).toNat = n') (hn : pc + 3 = n) (kt : x1 = x2 → Go p l e R s m args below meth c n0 Q cells slots h (mkF m n' Ls (st))) (kf : x1 ≠ x2 → Go p l e R s m args below meth c n0 Q cells slots h (mkF m n Ls (st))) : Go p l e R s m args below meth c n0 Q cells slots h (mkF m pc Ls (x2 :: x1 :: st)) := by
  subst hn
  by_cases r : x1 = x2
  · exact Go.via (fun T locs X _ t q => Jvm.RoadKit.acmp (g := mkF m pc Ls (x2 :: x1 :: st)) X C.x rfl h1 h2 (same := true) rfl (hb C.by hd) rfl (decide_eq_true r) ho (hp.symm) q) (kt r)
  · exact Go.via (fun T locs X _ t q => Jvm.RoadKit.acmp (g := mkF m pc Ls (x2 :: x1 :: st)) X C.x rfl h1 h2 (same := false) rfl (hb C.by hd) rfl (decide_eq_false r) ho (rfl) q) (kf r)
theorem G.acmp_ne (C : Cx p s m meth c Z y bytes maxL ret) {x1 x2 : Value} {o : Int} (h1 : x1.isRef = true) (h2 : x2.isRef = true) (hd : decode bytes pc = .ok (.if_acmp .ne o, 3)) (ho : 0 ≤ (pc : Int) + o) (hp : ((pc : Int) + o).toNat = n') (hn : pc + 3 = n) (kt : x1 ≠ x2 → Go p l e R s m args below meth c n0 Q cells slots h (mkF m n' Ls (st))) (kf : x1 = x2 → Go p l e R s m args below meth c n0 Q cells slots h (mkF m n Ls (st))) : Go p l e R s m args below meth c n0 Q cells slots h (mkF m pc Ls (x2 :: x1 :: st)) := by
  subst hn
  by_cases r : x1 = x2
  · exact Go.via (fun T locs X _ t q => Jvm.RoadKit.acmp (g := mkF m pc Ls (x2 :: x1 :: st)) X C.x rfl h1 h2 (same := true) rfl (hb C.by hd) rfl (decide_eq_true r) ho (rfl) q) (kf r)
  · exact Go.via (fun T locs X _ t q => Jvm.RoadKit.acmp (g := mkF m pc Ls (x2 :: x1 :: st)) X C.x rfl h1 h2 (same := false) rfl (hb C.by hd) rfl (decide_eq_false r) ho (hp.symm) q) (kt r)
theorem G.ldc (C : Cx p s m meth c Z y bytes maxL ret) {index : Nat} {v : Int32} (w : (Jvm.Cond.constant y.cls index v).before a0 Z = true) (hd : decode bytes pc = .ok (.ldc index, 2)) (hn : pc + 2 = n) (k : Go p l e R s m args below meth c n0 Q cells slots h (mkF m n Ls (.int v :: st))) : Go p l e R s m args below meth c n0 Q cells slots h (mkF m pc Ls (st)) := by
  subst hn
  exact Go.via (fun T locs X _ t q => X.ldcInt C.x C.own (mvT C.z w) (g := mkF m pc Ls st) rfl (hb C.by hd) t q) k
theorem G.ldc_w (C : Cx p s m meth c Z y bytes maxL ret) {index : Nat} {v : Int32} (w : (Jvm.Cond.constant y.cls index v).before a0 Z = true) (hd : decode bytes pc = .ok (.ldc_w index, 3)) (hn : pc + 3 = n) (k : Go p l e R s m args below meth c n0 Q cells slots h (mkF m n Ls (.int v :: st))) : Go p l e R s m args below meth c n0 Q cells slots h (mkF m pc Ls (st)) := by
  subst hn
  exact Go.via (fun T locs X _ t q => X.ldcwInt C.x C.own (mvT C.z w) (g := mkF m pc Ls st) rfl (hb C.by hd) t q) k
theorem G.ldc2 (C : Cx p s m meth c Z y bytes maxL ret) {index : Nat} {v : Int64} (w : (Jvm.Cond.constantLong y.cls index v).before a0 Z = true) (hd : decode bytes pc = .ok (.ldc2_w index, 3)) (hn : pc + 3 = n) (k : Go p l e R s m args below meth c n0 Q cells slots h (mkF m n Ls (.long v :: st))) : Go p l e R s m args below meth c n0 Q cells slots h (mkF m pc Ls (st)) := by
  subst hn
  exact Go.via (fun T locs X _ t q => X.ldc2Long C.x C.own (mvT C.z w) (g := mkF m pc Ls st) rfl (hb C.by hd) t q) k
theorem Go.leave (C : Cx p s m meth c Z y bytes maxL ret) {v : Option Value} {f : JFrame} (hv : ret = none → v = none) (hc : cells ≤ R.cells) (hs : slots ≤ R.slots)
    (hret : ∀ T locs, Stand p l e R s m args below meth c T locs cells slots → ∀ fs, (∀ (f : JFrame) (acts : List Action), f.method = m → f.locked = none → f.entered = [] → (doReturn e (T.setTop f) acts v).1 = T.setFrames fs) → Steps p.tables e below (T.setTop f) (T.setFrames fs))
    (q : Q v h) : Go p l e R s m args below meth c n0 Q cells slots h f := fun T locs X N e0 => by
  obtain ⟨fs, hr, hrun, hended, hW, hsame⟩ := X.leave (v := v) (fun q => hv (C.rt.symm.trans q)) C.locks
  refine ⟨_, _, hret T locs X fs hr, hrun, hended, v, locs, rfl, ⟨N, ?_⟩, ⟨_, rfl⟩, hW, hsame.mono hc hs⟩
  show Q v T.heap
  rw [e0]; exact q
theorem G.return_ (C : Cx p s m meth c Z y bytes maxL none) (hd : decode bytes pc = .ok (.return_, 1)) (hc : cells ≤ R.cells) (hs : slots ≤ R.slots) (q : Q none h) : Go p l e R s m args below meth c n0 Q cells slots h (mkF m pc Ls ([])) :=
  Go.leave C (v := none) (fun _ => rfl) hc hs (fun T locs X fs hr => X.returnOut C.x C.rt (hb C.by hd) hr) q
theorem G.ireturn {t : FieldType} (C : Cx p s m meth c Z y bytes maxL (some t)) {x : Int32} (hd : decode bytes pc = .ok (.ireturn, 1)) (hnn : narrow t (.int x) = .int x) (ht : t = .int ∨ t = .boolean ∨ t = .byte ∨ t = .char ∨ t = .short) (hc : cells ≤ R.cells) (hs : slots ≤ R.slots) (q : Q (some (.int x)) h) : Go p l e R s m args below meth c n0 Q cells slots h (mkF m pc Ls (.int x :: st)) :=
  Go.leave C (v := some (.int x)) (fun q => nomatch q) hc hs (fun T locs X fs hr => retOut X C.x C.rt hnn (Or.inl ⟨rfl, ht, _, rfl⟩) (hb C.by hd) hr) q
theorem G.lreturn (C : Cx p s m meth c Z y bytes maxL (some .long)) {x : Int64} (hd : decode bytes pc = .ok (.lreturn, 1)) (hc : cells ≤ R.cells) (hs : slots ≤ R.slots) (q : Q (some (.long x)) h) : Go p l e R s m args below meth c n0 Q cells slots h (mkF m pc Ls (.long x :: st)) :=
  Go.leave C (v := some (.long x)) (fun q => nomatch q) hc hs (fun T locs X fs hr => retOut X C.x C.rt rfl (Or.inr (Or.inl ⟨rfl, rfl, _, rfl⟩)) (hb C.by hd) hr) q
theorem G.areturn {t : FieldType} (C : Cx p s m meth c Z y bytes maxL (some t)) {x : Value} (hd : decode bytes pc = .ok (.areturn, 1)) (ht : t.isReference = true) (hx : x.isRef = true) (hnn : narrow t x = x) (hc : cells ≤ R.cells) (hs : slots ≤ R.slots) (q : Q (some x) h) : Go p l e R s m args below meth c n0 Q cells slots h (mkF m pc Ls (x :: st)) :=
  Go.leave C (v := some x) (fun q => nomatch q) hc hs (fun T locs X fs hr => retOut X C.x C.rt hnn (Or.inr (Or.inr (Or.inr (Or.inr ⟨rfl, ht, hx⟩)))) (hb C.by hd) hr) q
theorem G.getfield (C : Cx p s m meth c Z y bytes maxL ret) {R0 O nm d host : String} {index : Nat} (w : (Jvm.Cond.fieldLink y.cls index R0 nm d).before a0 Z = true ∨ (Jvm.Cond.fieldLinkNest y.cls index R0 nm d host).before a0 Z = true) (via : Via Z R0 O nm d) {a : Addr} {v : Value} (F : Fld Z h a O nm d v) (hd : decode bytes pc = .ok (.getfield index, 3)) (hn : pc + 3 = n) (k : Go p l e R s m args below meth c n0 Q cells slots h (mkF m n Ls (v :: st))) : Go p l e R s m args below meth c n0 Q cells slots h (mkF m pc Ls (.ref a :: st)) := fun T locs X N q => by
  subst hn
  obtain ⟨T', X', e', st'⟩ := getF X C.x C.z C.own w via q F (g := mkF m pc Ls (.ref a :: st)) rfl rfl (hb C.by hd)
  obtain ⟨t, o, s1, r⟩ := k T' locs X' N e'
  exact ⟨t, o, st' t s1, r⟩
theorem G.getstatic (C : Cx p s m meth c Z y bytes maxL ret) {R0 O nm d host : String} {index : Nat} (w : (Jvm.Cond.fieldLink y.cls index R0 nm d).before a0 Z = true ∨ (Jvm.Cond.fieldLinkNest y.cls index R0 nm d host).before a0 Z = true) (via : Via Z R0 O nm d) {v : Value} (F : Sta Z h O nm d v) (hd : decode bytes pc = .ok (.getstatic index, 3)) (hn : pc + 3 = n) (k : Go p l e R s m args below meth c n0 Q cells slots h (mkF m n Ls (v :: st))) : Go p l e R s m args below meth c n0 Q cells slots h (mkF m pc Ls (st)) := fun T locs X N q => by
  subst hn
  obtain ⟨T', X', e', st'⟩ := getS2 X C.x C.z C.own w via q F (g := mkF m pc Ls st) rfl (hb C.by hd)
  obtain ⟨t, o, s1, r⟩ := k T' locs X' N e'
  exact ⟨t, o, st' t s1, r⟩
theorem G.putfield (C : Cx p s m meth c Z y bytes maxL ret) {R0 O nm d host K : String} {index kk : Nat} {ty : FieldType} (w : (Jvm.Cond.fieldLink y.cls index R0 nm d).before a0 Z = true ∨ (Jvm.Cond.fieldLinkNest y.cls index R0 nm d host).before a0 Z = true) (via : Via Z R0 O nm d) {a : Addr} {v old : Value} (F : Fld Z h a O nm d old) (E : Exa Z h a K)
    (L : (Jvm.Cond.lays K O nm d).before a0 Z = true ∨ ((Jvm.Cond.laysFinal K O nm d).before a0 Z = true ∧ y.cls = O ∧ y.name = "<init>")) (wi : (Jvm.Cond.instantiable K kk).before a0 Z = true) (hty : parseFieldDescriptor d = some ty) (hnn : narrow ty v = v) (hf : fits ty v = true) (g : n0 ≤ a)
    (hd : decode bytes pc = .ok (.putfield index, 3)) (hn : pc + 3 = n) (k : ∀ h', Wr h h' a (RoadKit.slotOf Z O nm d) v → Go p l e R s m args below meth c n0 Q cells slots h' (mkF m n Ls (st))) : Go p l e R s m args below meth c n0 Q cells slots h (mkF m pc Ls (v :: .ref a :: st)) := fun T locs X N q => by
  subst hn
  obtain ⟨T', h', X', e', W, st'⟩ := putF X C.x C.z C.own w via q F E (L.imp id fun r => ⟨r.1, r.2.1, C.nm.trans r.2.2⟩) wi hty hnn hf (g := mkF m pc Ls (v :: .ref a :: st)) rfl rfl (hb C.by hd)
  obtain ⟨t, o, s1, r⟩ := k h' W T' _ X' (Fr.snoc X' N g) e'
  exact ⟨t, o, st' t s1, r⟩
theorem G.putfieldN (C : Cx p s m meth c Z y bytes maxL ret) {R0 O nm d K : String} {index kk : Nat} {ty : FieldType} (w : (Jvm.Cond.fieldLink y.cls index R0 nm d).before a0 Z = true) (via : Via Z R0 O nm d) {a : Addr} {v v' old : Value} (F : Fld Z h a O nm d old) (E : Exa Z h a K)
    (L : (Jvm.Cond.lays K O nm d).before a0 Z = true ∨ ((Jvm.Cond.laysFinal K O nm d).before a0 Z = true ∧ y.cls = O ∧ y.name = "<init>")) (wi : (Jvm.Cond.instantiable K kk).before a0 Z = true) (hty : parseFieldDescriptor d = some ty) (hnn : narrow ty v = v') (hf : fits ty v' = true) (g : n0 ≤ a)
    (hd : decode bytes pc = .ok (.putfield index, 3)) (hn : pc + 3 = n) (k : ∀ h', Wr h h' a (RoadKit.slotOf Z O nm d) v' → Go p l e R s m args below meth c n0 Q cells slots h' (mkF m n Ls (st))) : Go p l e R s m args below meth c n0 Q cells slots h (mkF m pc Ls (v :: .ref a :: st)) := fun T locs X N q => by
  subst hn
  obtain ⟨T', h', X', e', W, st'⟩ := putFN X C.x C.z C.own w via q F E (L.imp id fun r => ⟨r.1, r.2.1, C.nm.trans r.2.2⟩) wi hty hnn hf (g := mkF m pc Ls (v :: .ref a :: st)) rfl rfl (hb C.by hd)
  obtain ⟨t, o, s1, r⟩ := k h' W T' _ X' (Fr.snoc X' N g) e'
  exact ⟨t, o, st' t s1, r⟩
theorem G.new (C : Cx p s m meth c Z y bytes maxL ret) {K : String} {index ns c' s' : Nat} (w : (Jvm.Cond.classLink y.cls index K).before a0 Z = true) (wi : (Jvm.Cond.instantiable K ns).before a0 Z = true) (wz : (Jvm.Cond.initialized K).before a0 Z = true) (hd : decode bytes pc = .ok (.new index, 3)) (hn : pc + 3 = n) (hc' : cells + 1 = c') (hs' : slots + ns = s') (hc : c' ≤ R.cells) (hs : s' ≤ R.slots)
    (k : ∀ h' b, b = h.size → Ext h h' → Exa Z h' b K → (∀ {O nm d : String} {ty : FieldType}, Laid Z a0 K O nm d → parseFieldDescriptor d = some ty → Fld Z h' b O nm d (defaultValue ty)) → Go p l e R s m args below meth c n0 Q c' s' h' (mkF m n Ls (.ref b :: st))) : Go p l e R s m args below meth c n0 Q cells slots h (mkF m pc Ls (st)) := fun T locs X N q => by
  subst hn hc' hs'
  obtain ⟨T', h', X', e', E, A, D, -, st'⟩ := newO X C.x C.z C.own w wi wz q (g := mkF m pc Ls st) rfl (hb C.by hd) hc hs
  obtain ⟨t, o, s1, r⟩ := k h' _ rfl E A D T' _ X' N e'
  exact ⟨t, o, st' t s1, r⟩
theorem G.objinit (C : Cx p s m meth c Z y bytes maxL ret) {index W : Nat} (w1 : (Jvm.Cond.methodLink y.cls index Lib.objectInit).before a0 Z = true) (w2 : (Jvm.Cond.instanceMethod Lib.objectInit).before a0 Z = true) (w3 : (Jvm.Cond.code Lib.objectInit ⟨#[0xb1]⟩ 1 none).before a0 Z = true) {a : Addr} (hd : decode bytes pc = .ok (.invokespecial index, 3)) (hsz : Ls.size = maxL) (hf : 1 ≤ R.frames) (hW : (st.map fun v => v.category).sum = W) (hl : W + 12 ≤ R.locals) (hn : pc + 3 = n) (k : Go p l e R s m args below meth c n0 Q cells slots h (mkF m n Ls (st))) : Go p l e R s m args below meth c n0 Q cells slots h (mkF m pc Ls (.ref a :: st)) := fun T locs X N q => by
  subst hn hW
  obtain ⟨T', X', e', st'⟩ := initO X C.x C.z C.own w1 w2 w3 q (g := mkF m pc Ls (.ref a :: st)) rfl (hsz.trans C.ml.symm) rfl (hb C.by hd) hf (W := (st.map fun v => v.category).sum) (by show 2 * 0 + _ ≤ _; omega) hl
  obtain ⟨t, o, s1, r⟩ := k T' locs X' N e'
  exact ⟨t, o, st' t s1, r⟩
theorem G.callS (C : Cx p s m meth c Z y bytes maxL ret) {index W : Nat} {yc : MethodName} {bc : ByteArray} {mc : Nat} {rc : Option FieldType} {rm : Room} {c' s' : Nat} {Qc : Option Value → Heap → Prop} {ps : List FieldType} {argsL stk : List Value} (w1 : (Jvm.Cond.methodLink y.cls index yc).before a0 Z = true) (w2 : (Jvm.Cond.static yc).before a0 Z = true) (w3 : (Jvm.Cond.initialized yc.cls).before a0 Z = true) (w4 : (Jvm.Cond.code yc bc mc rc).before a0 Z = true) (hy : yc.cls ≠ "java/lang/invoke/MethodHandle" ∧ yc.cls ≠ "java/lang/invoke/VarHandle") (M : Met l Z yc bc mc rc rm argsL.toArray h n0 Qc) (hsz : Ls.size = maxL) (hf : rm.frames + 1 ≤ R.frames) (hW : (st.map fun v => v.category).sum = W) (hl : W + (mc + 11) + rm.locals ≤ R.locals) (hc' : cells + rm.cells = c') (hs' : slots + rm.slots = s') (hc : c' ≤ R.cells) (hs : s' ≤ R.slots) (hd : decode bytes pc = .ok (.invokestatic index, 3)) (hn : pc + 3 = n) (hlen : parseMethodDescriptor yc.desc = some ⟨ps, rc⟩) (hal : argsL.length = ps.length) (hst : stk = argsL.reverse ++ st) (k : ∀ v h', Qc v h' → Go p l e R s m args below meth c n0 Q c' s' h' (mkF m n Ls (v.toList ++ st))) : Go p l e R s m args below meth c n0 Q cells slots h (mkF m pc Ls (stk)) := fun T locs X N q => by
  subst hn hW hc' hs' hst
  obtain ⟨v, _, ⟨T', L', k', n''⟩, -, X', ⟨Lc, hQ, h1, h2, h3⟩, st'⟩ := Jvm.LawKit.callS X C.x (y := yc) C.own (mvT C.z w1) (mvT C.z w2) (mvT C.z w3) (mvT C.z w4) hy (backOf (W := (st.map fun v => v.category).sum) (Q := fun v h L => Fr n0 L ∧ Qc v h) (M []) C.z w4 w3 hf hl) (g := mkF m pc Ls (argsL.reverse ++ st)) rfl (hsz.trans C.ml.symm) (argsL := argsL) (rest := st) (lenOf hlen hal) rfl (by show 2 * 0 + _ ≤ _; omega) (hb C.by hd) (fun _ _ => ⟨rfl, q, hc, hs⟩)
  dsimp only [Pt.U, Pt.locs, Pt.cells, Pt.slots] at X' h1 h2 h3 st' hQ
  subst h1 h2 h3
  obtain ⟨t, o, s1, r⟩ := k v _ hQ.2 T' _ X' (Fr.app N hQ.1) rfl
  exact ⟨t, o, st' t s1, r⟩
theorem G.callC (C : Cx p s m meth c Z y bytes maxL ret) {index W : Nat} {yc : MethodName} {bc : ByteArray} {mc : Nat} {rm : Room} {c' s' : Nat} {Qc : Option Value → Heap → Prop} {ps : List FieldType} {argsL stk : List Value} {a : Addr} (hy1 : yc.name = "<init>") (w1 : (Jvm.Cond.methodLink y.cls index yc).before a0 Z = true) (w2 : (Jvm.Cond.instanceMethod yc).before a0 Z = true) (w3 : (Jvm.Cond.initialized yc.cls).before a0 Z = true) (w4 : (Jvm.Cond.code yc bc mc none).before a0 Z = true) (hy : yc.cls ≠ "java/lang/invoke/MethodHandle" ∧ yc.cls ≠ "java/lang/invoke/VarHandle") (M : Met l Z yc bc mc none rm (.ref a :: argsL).toArray h n0 Qc) (hsz : Ls.size = maxL) (hf : rm.frames + 1 ≤ R.frames) (hW : (st.map fun v => v.category).sum = W) (hl : W + (mc + 11) + rm.locals ≤ R.locals) (hc' : cells + rm.cells = c') (hs' : slots + rm.slots = s') (hc : c' ≤ R.cells) (hs : s' ≤ R.slots) (hd : decode bytes pc = .ok (.invokespecial index, 3)) (hn : pc + 3 = n) (hlen : parseMethodDescriptor yc.desc = some ⟨ps, none⟩) (hal : argsL.length = ps.length) (hst : stk = argsL.reverse ++ .ref a :: st) (k : ∀ v h', Qc v h' → Go p l e R s m args below meth c n0 Q c' s' h' (mkF m n Ls (v.toList ++ st))) : Go p l e R s m args below meth c n0 Q cells slots h (mkF m pc Ls (stk)) := fun T locs X N q => by
  subst hn hW hc' hs' hst
  obtain ⟨v, _, ⟨T', L', k', n''⟩, -, X', ⟨Lc, hQ, h1, h2, h3⟩, st'⟩ := X.specialBack C.x (y := yc) hy1 C.own (mvT C.z w1) (mvT C.z w2) (mvT C.z w4) hy (backOf (W := (st.map fun v => v.category).sum) (Q := fun v h L => Fr n0 L ∧ Qc v h) (M []) C.z w4 w3 hf hl) (g := mkF m pc Ls (argsL.reverse ++ .ref a :: st)) rfl (hsz.trans C.ml.symm) (Steps.refl _) (a := a) (argsL := argsL) (rest := st) (lenOf hlen hal) rfl (by show 2 * 0 + _ ≤ _; omega) (hb C.by hd) (fun _ _ => ⟨rfl, q, hc, hs⟩)
  dsimp only [Pt.U, Pt.locs, Pt.cells, Pt.slots] at X' h1 h2 h3 st' hQ
  subst h1 h2 h3
  obtain ⟨t, o, s1, r⟩ := k v _ hQ.2 T' _ X' (Fr.app N hQ.1) rfl
  exact ⟨t, o, st'.trans s1, r⟩
theorem G.callV (C : Cx p s m meth c Z y bytes maxL ret) {index W : Nat} {yc : MethodName} {bc : ByteArray} {mc : Nat} {rc : Option FieldType} {rm : Room} {c' s' : Nat} {Qc : Option Value → Heap → Prop} {ps : List FieldType} {K : String} {yr : MethodName} {argsL stk : List Value} {a : Addr} (E : Exa Z h a K) (w1 : (Jvm.Cond.methodLink y.cls index yr).before a0 Z = true) (w5 : (Jvm.Cond.declares yr).before a0 Z = true) (hnf : ∀ s : State, Z.Warmed39 s.vm → NotFace s yr) (w6 : (Jvm.Cond.selects K yr yc).before a0 Z = true) (w2 : (Jvm.Cond.instanceMethod yc).before a0 Z = true) (w3 : (Jvm.Cond.initialized yc.cls).before a0 Z = true) (w4 : (Jvm.Cond.code yc bc mc rc).before a0 Z = true) (hy : yr.cls ≠ "java/lang/invoke/MethodHandle" ∧ yr.cls ≠ "java/lang/invoke/VarHandle") (M : Met l Z yc bc mc rc rm (.ref a :: argsL).toArray h n0 Qc) (hsz : Ls.size = maxL) (hf : rm.frames + 1 ≤ R.frames) (hW : (st.map fun v => v.category).sum = W) (hl : W + (mc + 11) + rm.locals ≤ R.locals) (hc' : cells + rm.cells = c') (hs' : slots + rm.slots = s') (hc : c' ≤ R.cells) (hs : s' ≤ R.slots) (hd : decode bytes pc = .ok (.invokevirtual index, 3)) (hn : pc + 3 = n) (hlen : parseMethodDescriptor yr.desc = some ⟨ps, rc⟩) (hal : argsL.length = ps.length) (hst : stk = argsL.reverse ++ .ref a :: st) (k : ∀ v h', Qc v h' → Go p l e R s m args below meth c n0 Q c' s' h' (mkF m n Ls (v.toList ++ st))) : Go p l e R s m args below meth c n0 Q cells slots h (mkF m pc Ls (stk)) := fun T locs X N q => by
  subst hn hW hc' hs' hst
  obtain ⟨cq, kq, qa, qb, qc⟩ := isOf C.z q E
  obtain ⟨v, _, ⟨T', L', k', n''⟩, -, X', ⟨Lc, hQ, h1, h2, h3⟩, st'⟩ := X.virtualBack C.x (y := yr) (z := yc) C.own (mvT C.z w1) (mvT C.z w5) (hnf s C.z) (mvT C.z w6) (mvT C.z w2) hy (backOf (W := (st.map fun v => v.category).sum) (Q := fun v h L => Fr n0 L ∧ Qc v h) (M []) C.z w4 w3 hf hl) qa qc (g := mkF m pc Ls (argsL.reverse ++ .ref a :: st)) rfl (hsz.trans C.ml.symm) (Steps.refl _) (argsL := argsL) (rest := st) (lenOf hlen hal) rfl (by show 2 * 0 + _ ≤ _; omega) (hb C.by hd) (fun _ _ => ⟨rfl, q, hc, hs⟩)
  dsimp only [Pt.U, Pt.locs, Pt.cells, Pt.slots] at X' h1 h2 h3 st' hQ
  subst h1 h2 h3
  obtain ⟨t, o, s1, r⟩ := k v _ hQ.2 T' _ X' (Fr.app N hQ.1) rfl
  exact ⟨t, o, st'.trans s1, r⟩
theorem nfS {yr : MethodName} {K : String} {z : MethodName} (w6 : (Jvm.Cond.selects K yr z).before a0 Z = true) (hz : z = yr) : ∀ s : State, Z.Warmed39 s.vm → NotFace s yr := fun s hZ => by
  subst hz
  exact notFace_of_selects (args := #[]) (mvT hZ w6)
def Ints (Z : State) (h : Heap) (a : Addr) (ty : FieldType) (vs : List Int32) : Prop := ∃ k z, Arv Z h a k ty z (vs.map Value.int) (.int 0) ∧ z.toInt = vs.length
def Longs (Z : State) (h : Heap) (a : Addr) (vs : List Int64) : Prop := ∃ k z, Arv Z h a k .long z (vs.map Value.long) (.long 0) ∧ z.toInt = vs.length
theorem nat_clamp {j : Int32} : j.toNatClampNeg = j.toInt.toNat := rfl
theorem not_neg {j : Int32} (hj : 0 ≤ j.toInt) : ¬ j < 0 := by rw [lt_i]; exact Int.not_lt.mpr hj
theorem of_not_neg {j : Int32} (hj : ¬ j < 0) : 0 ≤ j.toInt := by rw [lt_i] at hj; exact Int.not_lt.mp hj
theorem inb {j z : Int32} {cl : Cell} {len : Nat} (hj : 0 ≤ j.toInt) (S : cl.slots.size = z.toNatClampNeg) (hz : z.toInt = len) (hl : j.toInt.toNat < len) : ¬ (j < 0 ∨ cl.slots.size ≤ j.toNatClampNeg) := by
  rintro (q | q)
  · exact not_neg hj q
  · rw [S, nat_clamp, nat_clamp, hz] at q; omega
theorem getD_map {α : Type} (f : α → Value) (vs : List α) (i : Nat) (d : Value) {x : α} (hx : vs[i]? = some x) : (vs.map f).getD i d = f x := by
  rw [List.getD_eq_getElem?_getD, List.getElem?_map, hx]; rfl
theorem lt_of_some {α : Type} {vs : List α} {i : Nat} {x : α} (hx : vs[i]? = some x) : i < vs.length := (List.getElem?_eq_some_iff.mp hx).1
theorem Ints.lt {a : Addr} {ty : FieldType} {vs : List Int32} (F : Ints Z h a ty vs) : a < h.size := by obtain ⟨k, z, A, -⟩ := F; exact A.lt
theorem Ints.ext {h' : Heap} {a : Addr} {ty : FieldType} {vs : List Int32} (F : Ints Z h a ty vs) (E : Ext h h') : Ints Z h' a ty vs := by obtain ⟨k, z, A, q⟩ := F; exact ⟨k, z, A.ext E, q⟩
theorem Ints.keep {h' : Heap} {ws : List Addr} {a : Addr} {ty : FieldType} {vs : List Int32} (F : Ints Z h a ty vs) (K : Keep h h' ws) (r : a ∉ ws) : Ints Z h' a ty vs := by obtain ⟨k, z, A, q⟩ := F; exact ⟨k, z, A.keep K r, q⟩
theorem Ints.other {h' : Heap} {sl : Nat} {v : Value} {a b : Addr} {ty : FieldType} {vs : List Int32} (F : Ints Z h a ty vs) (W : Wr h h' b sl v) (r : a ≠ b) : Ints Z h' a ty vs := by obtain ⟨k, z, A, q⟩ := F; exact ⟨k, z, A.other W r, q⟩
theorem Ints.len {a : Addr} {ty : FieldType} {vs : List Int32} (F : Ints Z h a ty vs) : (vs.length : Int) < 2147483648 := by obtain ⟨k, z, A, q⟩ := F; rw [← q]; exact (rng32 z).2
theorem Ints.at {a : Addr} {ty : FieldType} {vs : List Int32} (F : Ints Z h a ty vs) {j : Int32} {x : Int32} (hj : 0 ≤ j.toInt) (hx : vs[j.toInt.toNat]? = some x) : ∃ cl, Arr Z h a cl ty ∧ ¬ (j < 0 ∨ cl.slots.size ≤ j.toNatClampNeg) ∧ cl.slots[j.toNatClampNeg]? = some (.int x) ∧ fits ty (.int x) = true := by
  obtain ⟨k, z, ⟨cl, A, q1, S, N, H, G⟩, hz⟩ := F
  have hi := inb hj S hz (lt_of_some hx)
  have hi2 : j.toNatClampNeg < cl.slots.size := Nat.lt_of_not_le fun y => hi (Or.inr y)
  have e1 := H _ hi2
  have e2 := G _ hi2
  rw [nat_clamp, getD_map _ _ _ _ hx] at e1 e2
  exact ⟨cl, A, hi, e1, e2⟩
theorem Ints.put {h' : Heap} {a : Addr} {ty : FieldType} {vs : List Int32} (F : Ints Z h a ty vs) {j : Int32} {x : Int32} (hj : 0 ≤ j.toInt) (hl : j.toInt < vs.length) (hf : fits ty (.int x) = true) : ∃ cl, Arr Z h a cl ty ∧ ¬ (j < 0 ∨ cl.slots.size ≤ j.toNatClampNeg) ∧ (Wr h h' a j.toNatClampNeg (.int x) → Ints Z h' a ty (vs.set j.toInt.toNat x)) := by
  obtain ⟨k, z, ⟨cl, A, q1, S, N, H, G⟩, hz⟩ := F
  have hl2 : j.toInt.toNat < vs.length := by omega
  refine ⟨cl, A, inb hj S hz hl2, fun W => ⟨k, z, ?_, ?_⟩⟩
  · have r := Arv.set A q1 S N H G hf W j.toInt.toNat rfl (by rw [List.length_map]; exact hl2)
    rw [List.map_set]; exact r
  · rw [List.length_set]; exact hz
theorem Longs.lt {a : Addr} {vs : List Int64} (F : Longs Z h a vs) : a < h.size := by obtain ⟨k, z, A, -⟩ := F; exact A.lt
theorem Longs.ext {h' : Heap} {a : Addr} {vs : List Int64} (F : Longs Z h a vs) (E : Ext h h') : Longs Z h' a vs := by obtain ⟨k, z, A, q⟩ := F; exact ⟨k, z, A.ext E, q⟩
theorem Longs.keep {h' : Heap} {ws : List Addr} {a : Addr} {vs : List Int64} (F : Longs Z h a vs) (K : Keep h h' ws) (r : a ∉ ws) : Longs Z h' a vs := by obtain ⟨k, z, A, q⟩ := F; exact ⟨k, z, A.keep K r, q⟩
theorem Longs.other {h' : Heap} {sl : Nat} {v : Value} {a b : Addr} {vs : List Int64} (F : Longs Z h a vs) (W : Wr h h' b sl v) (r : a ≠ b) : Longs Z h' a vs := by obtain ⟨k, z, A, q⟩ := F; exact ⟨k, z, A.other W r, q⟩
theorem Longs.len {a : Addr} {vs : List Int64} (F : Longs Z h a vs) : (vs.length : Int) < 2147483648 := by obtain ⟨k, z, A, q⟩ := F; rw [← q]; exact (rng32 z).2
theorem Longs.at {a : Addr} {vs : List Int64} (F : Longs Z h a vs) {j : Int32} {x : Int64} (hj : 0 ≤ j.toInt) (hx : vs[j.toInt.toNat]? = some x) : ∃ cl, Arr Z h a cl .long ∧ ¬ (j < 0 ∨ cl.slots.size ≤ j.toNatClampNeg) ∧ cl.slots[j.toNatClampNeg]? = some (.long x) ∧ fits .long (.long x) = true := by
  obtain ⟨k, z, ⟨cl, A, q1, S, N, H, G⟩, hz⟩ := F
  have hi := inb hj S hz (lt_of_some hx)
  have hi2 : j.toNatClampNeg < cl.slots.size := Nat.lt_of_not_le fun y => hi (Or.inr y)
  have e1 := H _ hi2
  have e2 := G _ hi2
  rw [nat_clamp, getD_map _ _ _ _ hx] at e1 e2
  exact ⟨cl, A, hi, e1, e2⟩
theorem Longs.put {h' : Heap} {a : Addr} {vs : List Int64} (F : Longs Z h a vs) {j : Int32} {x : Int64} (hj : 0 ≤ j.toInt) (hl : j.toInt < vs.length) (hf : fits .long (.long x) = true) : ∃ cl, Arr Z h a cl .long ∧ ¬ (j < 0 ∨ cl.slots.size ≤ j.toNatClampNeg) ∧ (Wr h h' a j.toNatClampNeg (.long x) → Longs Z h' a (vs.set j.toInt.toNat x)) := by
  obtain ⟨k, z, ⟨cl, A, q1, S, N, H, G⟩, hz⟩ := F
  have hl2 : j.toInt.toNat < vs.length := by omega
  refine ⟨cl, A, inb hj S hz hl2, fun W => ⟨k, z, ?_, ?_⟩⟩
  · have r := Arv.set A q1 S N H G hf W j.toInt.toNat rfl (by rw [List.length_map]; exact hl2)
    rw [List.map_set]; exact r
  · rw [List.length_set]; exact hz
theorem G.iaload (C : Cx p s m meth c Z y bytes maxL ret) {a : Addr} {j : Int32} {x : Int32} {vs : List Int32} (F : Ints Z h a .int vs) (hj : 0 ≤ j.toInt) (hx : vs[j.toInt.toNat]? = some x) (hd : decode bytes pc = .ok (.iaload, 1)) (hn : pc + 1 = n) (k : Go p l e R s m args below meth c n0 Q cells slots h (mkF m n Ls (.int x :: st))) : Go p l e R s m args below meth c n0 Q cells slots h (mkF m pc Ls (.int j :: .ref a :: st)) := by
  subst hn
  obtain ⟨cl, A, h1, h2, -⟩ := F.at hj hx
  exact Go.via (fun T locs X q t r => X.iaload C.x (j := j) (v := .int x) (by rw [q]; exact A.1) (State.isArrayOf_alike C.z.alike A.2.1) A.2.2 h1 h2 (g := mkF m pc Ls (.int j :: .ref a :: st)) rfl rfl (hb C.by hd) t r) k
theorem G.laload (C : Cx p s m meth c Z y bytes maxL ret) {a : Addr} {j : Int32} {x : Int64} {vs : List Int64} (F : Longs Z h a vs) (hj : 0 ≤ j.toInt) (hx : vs[j.toInt.toNat]? = some x) (hd : decode bytes pc = .ok (.laload, 1)) (hn : pc + 1 = n) (k : Go p l e R s m args below meth c n0 Q cells slots h (mkF m n Ls (.long x :: st))) : Go p l e R s m args below meth c n0 Q cells slots h (mkF m pc Ls (.int j :: .ref a :: st)) := by
  subst hn
  obtain ⟨cl, A, h1, h2, -⟩ := F.at hj hx
  exact Go.via (fun T locs X q t r => X.laload C.x (j := j) (v := .long x) (by rw [q]; exact A.1) (State.isArrayOf_alike C.z.alike A.2.1) A.2.2 h1 h2 (g := mkF m pc Ls (.int j :: .ref a :: st)) rfl rfl (hb C.by hd) t r) k
theorem G.caload (C : Cx p s m meth c Z y bytes maxL ret) {a : Addr} {j : Int32} {x : Int32} {vs : List Int32} (F : Ints Z h a .char vs) (hj : 0 ≤ j.toInt) (hx : vs[j.toInt.toNat]? = some x) (hd : decode bytes pc = .ok (.caload, 1)) (hn : pc + 1 = n) (k : Go p l e R s m args below meth c n0 Q cells slots h (mkF m n Ls (.int x :: st))) : Go p l e R s m args below meth c n0 Q cells slots h (mkF m pc Ls (.int j :: .ref a :: st)) := by
  subst hn
  obtain ⟨cl, A, h1, h2, -⟩ := F.at hj hx
  exact Go.via (fun T locs X q t r => X.caload C.x (j := j) (v := .int x) (by rw [q]; exact A.1) (State.isArrayOf_alike C.z.alike A.2.1) A.2.2 h1 h2 (g := mkF m pc Ls (.int j :: .ref a :: st)) rfl rfl (hb C.by hd) t r) k
theorem G.baload (C : Cx p s m meth c Z y bytes maxL ret) {a : Addr} {j : Int32} {x : Int32} {vs : List Int32} (F : Ints Z h a .byte vs) (hj : 0 ≤ j.toInt) (hx : vs[j.toInt.toNat]? = some x) (hd : decode bytes pc = .ok (.baload, 1)) (hn : pc + 1 = n) (k : Go p l e R s m args below meth c n0 Q cells slots h (mkF m n Ls (.int x :: st))) : Go p l e R s m args below meth c n0 Q cells slots h (mkF m pc Ls (.int j :: .ref a :: st)) := by
  subst hn
  obtain ⟨cl, A, h1, h2, -⟩ := F.at hj hx
  exact Go.via (fun T locs X q t r => X.baloadBytes C.x (j := j) (v := .int x) (by rw [q]; exact A.1) (State.isArrayOf_alike C.z.alike A.2.1) A.2.2 h1 h2 (g := mkF m pc Ls (.int j :: .ref a :: st)) rfl rfl (hb C.by hd) t r) k
theorem G.baloadZ (C : Cx p s m meth c Z y bytes maxL ret) {a : Addr} {j : Int32} {x : Int32} {vs : List Int32} (F : Ints Z h a .boolean vs) (hj : 0 ≤ j.toInt) (hx : vs[j.toInt.toNat]? = some x) (hd : decode bytes pc = .ok (.baload, 1)) (hn : pc + 1 = n) (k : Go p l e R s m args below meth c n0 Q cells slots h (mkF m n Ls (.int x :: st))) : Go p l e R s m args below meth c n0 Q cells slots h (mkF m pc Ls (.int j :: .ref a :: st)) := by
  subst hn
  obtain ⟨cl, A, h1, h2, -⟩ := F.at hj hx
  exact Go.via (fun T locs X q t r => X.baloadBooleans C.x (j := j) (v := .int x) (by rw [q]; exact A.1) (State.isArrayOf_alike C.z.alike A.2.1) A.2.2 h1 h2 (g := mkF m pc Ls (.int j :: .ref a :: st)) rfl rfl (hb C.by hd) t r) k
theorem G.iastore (C : Cx p s m meth c Z y bytes maxL ret) {a : Addr} {j : Int32} {x : Int32} {vs : List Int32} (F : Ints Z h a .int vs) (hj : 0 ≤ j.toInt) (hl : j.toInt < vs.length) (g : n0 ≤ a) (hd : decode bytes pc = .ok (.iastore, 1)) (hn : pc + 1 = n) (k : ∀ h', Keep h h' [a] → (∃ w, Wr h h' a j.toNatClampNeg w) → Ints Z h' a .int (vs.set j.toInt.toNat x) → Go p l e R s m args below meth c n0 Q cells slots h' (mkF m n Ls (st))) : Go p l e R s m args below meth c n0 Q cells slots h (mkF m pc Ls (.int x :: .int j :: .ref a :: st)) := fun T locs X N q => by
  subst hn
  obtain ⟨cl, A, h1, -⟩ := F.put (h' := h) hj hl (x := x) rfl
  obtain ⟨T', h', X', e', W, st'⟩ := stI X C.x C.z q A (j := j) h1 (g := mkF m pc Ls (.int x :: .int j :: .ref a :: st)) rfl rfl (hb C.by hd)
  obtain ⟨cl2, A2, -, h3⟩ := F.put (h' := h') hj hl (x := x) rfl
  obtain ⟨t, o, s1, r⟩ := k h' (Keep.of_wr W) ⟨_, W⟩ (h3 W) T' _ X' (Fr.snoc X' N g) e'
  exact ⟨t, o, st' t s1, r⟩
theorem G.lastore (C : Cx p s m meth c Z y bytes maxL ret) {a : Addr} {j : Int32} {x : Int64} {vs : List Int64} (F : Longs Z h a vs) (hj : 0 ≤ j.toInt) (hl : j.toInt < vs.length) (g : n0 ≤ a) (hd : decode bytes pc = .ok (.lastore, 1)) (hn : pc + 1 = n) (k : ∀ h', Keep h h' [a] → (∃ w, Wr h h' a j.toNatClampNeg w) → Longs Z h' a (vs.set j.toInt.toNat x) → Go p l e R s m args below meth c n0 Q cells slots h' (mkF m n Ls (st))) : Go p l e R s m args below meth c n0 Q cells slots h (mkF m pc Ls (.long x :: .int j :: .ref a :: st)) := fun T locs X N q => by
  subst hn
  obtain ⟨cl, A, h1, -⟩ := F.put (h' := h) hj hl (x := x) rfl
  obtain ⟨T', h', X', e', W, st'⟩ := stJ X C.x C.z q A (j := j) h1 (g := mkF m pc Ls (.long x :: .int j :: .ref a :: st)) rfl rfl (hb C.by hd)
  obtain ⟨cl2, A2, -, h3⟩ := F.put (h' := h') hj hl (x := x) rfl
  obtain ⟨t, o, s1, r⟩ := k h' (Keep.of_wr W) ⟨_, W⟩ (h3 W) T' _ X' (Fr.snoc X' N g) e'
  exact ⟨t, o, st' t s1, r⟩
theorem G.castore (C : Cx p s m meth c Z y bytes maxL ret) {a : Addr} {j : Int32} {x : Int32} {vs : List Int32} (F : Ints Z h a .char vs) (hj : 0 ≤ j.toInt) (hl : j.toInt < vs.length) (g : n0 ≤ a) (hd : decode bytes pc = .ok (.castore, 1)) (hn : pc + 1 = n) (k : ∀ h', Keep h h' [a] → (∃ w, Wr h h' a j.toNatClampNeg w) → Ints Z h' a .char (vs.set j.toInt.toNat (nar .char x)) → Go p l e R s m args below meth c n0 Q cells slots h' (mkF m n Ls (st))) : Go p l e R s m args below meth c n0 Q cells slots h (mkF m pc Ls (.int x :: .int j :: .ref a :: st)) := fun T locs X N q => by
  subst hn
  obtain ⟨cl, A, h1, -⟩ := F.put (h' := h) hj hl (x := (nar .char x)) (fits_nar_char x)
  obtain ⟨T', h', X', e', W, st'⟩ := stC X C.x C.z q A (j := j) h1 (g := mkF m pc Ls (.int x :: .int j :: .ref a :: st)) rfl rfl (hb C.by hd)
  obtain ⟨cl2, A2, -, h3⟩ := F.put (h' := h') hj hl (x := (nar .char x)) (fits_nar_char x)
  obtain ⟨t, o, s1, r⟩ := k h' (Keep.of_wr W) ⟨_, W⟩ (h3 W) T' _ X' (Fr.snoc X' N g) e'
  exact ⟨t, o, st' t s1, r⟩
theorem G.bastore (C : Cx p s m meth c Z y bytes maxL ret) {a : Addr} {j : Int32} {x : Int32} {vs : List Int32} (F : Ints Z h a .byte vs) (hj : 0 ≤ j.toInt) (hl : j.toInt < vs.length) (g : n0 ≤ a) (hd : decode bytes pc = .ok (.bastore, 1)) (hn : pc + 1 = n) (k : ∀ h', Keep h h' [a] → (∃ w, Wr h h' a j.toNatClampNeg w) → Ints Z h' a .byte (vs.set j.toInt.toNat (nar .byte x)) → Go p l e R s m args below meth c n0 Q cells slots h' (mkF m n Ls (st))) : Go p l e R s m args below meth c n0 Q cells slots h (mkF m pc Ls (.int x :: .int j :: .ref a :: st)) := fun T locs X N q => by
  subst hn
  obtain ⟨cl, A, h1, -⟩ := F.put (h' := h) hj hl (x := (nar .byte x)) (fits_nar_byte x)
  obtain ⟨T', h', X', e', W, st'⟩ := stB X C.x C.z q A (j := j) h1 (g := mkF m pc Ls (.int x :: .int j :: .ref a :: st)) rfl rfl (hb C.by hd)
  obtain ⟨cl2, A2, -, h3⟩ := F.put (h' := h') hj hl (x := (nar .byte x)) (fits_nar_byte x)
  obtain ⟨t, o, s1, r⟩ := k h' (Keep.of_wr W) ⟨_, W⟩ (h3 W) T' _ X' (Fr.snoc X' N g) e'
  exact ⟨t, o, st' t s1, r⟩
theorem G.bastoreZ (C : Cx p s m meth c Z y bytes maxL ret) {a : Addr} {j : Int32} {x : Int32} {vs : List Int32} (F : Ints Z h a .boolean vs) (hj : 0 ≤ j.toInt) (hl : j.toInt < vs.length) (g : n0 ≤ a) (hd : decode bytes pc = .ok (.bastore, 1)) (hn : pc + 1 = n) (k : ∀ h', Keep h h' [a] → (∃ w, Wr h h' a j.toNatClampNeg w) → Ints Z h' a .boolean (vs.set j.toInt.toNat (nar .boolean x)) → Go p l e R s m args below meth c n0 Q cells slots h' (mkF m n Ls (st))) : Go p l e R s m args below meth c n0 Q cells slots h (mkF m pc Ls (.int x :: .int j :: .ref a :: st)) := fun T locs X N q => by
  subst hn
  obtain ⟨cl, A, h1, -⟩ := F.put (h' := h) hj hl (x := (nar .boolean x)) (fits_nar_bool x)
  obtain ⟨T', h', X', e', W, st'⟩ := stZ X C.x C.z q A (j := j) h1 (g := mkF m pc Ls (.int x :: .int j :: .ref a :: st)) rfl rfl (hb C.by hd)
  obtain ⟨cl2, A2, -, h3⟩ := F.put (h' := h') hj hl (x := (nar .boolean x)) (fits_nar_bool x)
  obtain ⟨t, o, s1, r⟩ := k h' (Keep.of_wr W) ⟨_, W⟩ (h3 W) T' _ X' (Fr.snoc X' N g) e'
  exact ⟨t, o, st' t s1, r⟩
theorem len32 {z : Int32} {k : Nat} (hz : z.toInt = k) : z = Int32.ofNat k := by
  have h2 := (rng32 z).2
  exact Int32.toInt_inj.mp (by rw [Int32.toInt_ofNat_of_lt (by omega)]; exact hz)
theorem G.arraylengthI (C : Cx p s m meth c Z y bytes maxL ret) {a : Addr} {ty : FieldType} {vs : List Int32} {len : Int32} (F : Ints Z h a ty vs) (hlen : len.toInt = vs.length) (hd : decode bytes pc = .ok (.arraylength, 1)) (hn : pc + 1 = n) (k : Go p l e R s m args below meth c n0 Q cells slots h (mkF m n Ls (.int len :: st))) : Go p l e R s m args below meth c n0 Q cells slots h (mkF m pc Ls (.ref a :: st)) := by
  subst hn
  obtain ⟨k', z, ⟨cl, A, q1, S, N, H, G⟩, hz⟩ := F
  have e1 : cl.slots.size.toInt32 = len := (len_of S N).trans (Int32.toInt_inj.mp (hz.trans hlen.symm))
  exact Go.via (fun T locs X q t r => X.arraylength C.x (by rw [q]; exact A.1) (State.isArrayOf_alike C.z.alike A.2.1) (g := mkF m pc Ls (.ref a :: st)) rfl rfl (hb C.by hd) t (by rw [e1]; exact r)) k
theorem G.arraylengthL (C : Cx p s m meth c Z y bytes maxL ret) {a : Addr} {vs : List Int64} {len : Int32} (F : Longs Z h a vs) (hlen : len.toInt = vs.length) (hd : decode bytes pc = .ok (.arraylength, 1)) (hn : pc + 1 = n) (k : Go p l e R s m args below meth c n0 Q cells slots h (mkF m n Ls (.int len :: st))) : Go p l e R s m args below meth c n0 Q cells slots h (mkF m pc Ls (.ref a :: st)) := by
  subst hn
  obtain ⟨k', z, ⟨cl, A, q1, S, N, H, G⟩, hz⟩ := F
  have e1 : cl.slots.size.toInt32 = len := (len_of S N).trans (Int32.toInt_inj.mp (hz.trans hlen.symm))
  exact Go.via (fun T locs X q t r => X.arraylength C.x (by rw [q]; exact A.1) (State.isArrayOf_alike C.z.alike A.2.1) (g := mkF m pc Ls (.ref a :: st)) rfl rfl (hb C.by hd) t (by rw [e1]; exact r)) k
theorem G.newarray (C : Cx p s m meth c Z y bytes maxL ret) {aty : ArrayType} {ty : FieldType} {len : Int32} {cap c' s' : Nat} (w : (Jvm.Cond.arrayClass ty).before a0 Z = true) (hty : newarray.typeOf aty = ty) (hdv : defaultValue ty = .int 0) (hlen : 0 ≤ len.toInt) (hcap : len.toInt ≤ cap) (hbig : cap * 8 ≤ 536870912) (hd : decode bytes pc = .ok (.newarray aty, 2)) (hn : pc + 2 = n) (hc' : cells + 1 = c') (hs' : slots + cap = s') (hc : c' ≤ R.cells) (hs : s' ≤ R.slots)
    (k : ∀ h' b, b = h.size → Ext h h' → Ints Z h' b ty (List.replicate len.toInt.toNat 0) → Go p l e R s m args below meth c n0 Q c' s' h' (mkF m n Ls (.ref b :: st))) : Go p l e R s m args below meth c n0 Q cells slots h (mkF m pc Ls (.int len :: st)) := fun T locs X N q => by
  subst hn hc' hs' hty
  obtain ⟨T', h', cA, X', e', E, A, st'⟩ := newP X C.x C.z w q (g := mkF m pc Ls (.int len :: st)) rfl (hb C.by hd) rfl (not_neg hlen) (cap := cap) (by rw [nat_clamp]; omega) hbig hc hs
  have V := (Arv.new A (not_neg hlen))
  rw [hdv] at V
  have V2 := V.pad (pad_rep [] _ len.toInt.toNat)
  rw [List.nil_append, ← List.map_replicate (f := Value.int)] at V2
  obtain ⟨t, o, s1, r⟩ := k h' _ rfl E ⟨cA, len, V2, by rw [List.length_replicate]; omega⟩ T' _ X' N e'
  exact ⟨t, o, st' t s1, r⟩
theorem G.newarrayJ (C : Cx p s m meth c Z y bytes maxL ret) {aty : ArrayType} {ty : FieldType} {len : Int32} {cap c' s' : Nat} (w : (Jvm.Cond.arrayClass ty).before a0 Z = true) (hty : newarray.typeOf aty = ty) (hdv : defaultValue ty = .long 0) (hJ : ty = .long) (hlen : 0 ≤ len.toInt) (hcap : len.toInt ≤ cap) (hbig : cap * 8 ≤ 536870912) (hd : decode bytes pc = .ok (.newarray aty, 2)) (hn : pc + 2 = n) (hc' : cells + 1 = c') (hs' : slots + cap = s') (hc : c' ≤ R.cells) (hs : s' ≤ R.slots)
    (k : ∀ h' b, b = h.size → Ext h h' → Longs Z h' b (List.replicate len.toInt.toNat 0) → Go p l e R s m args below meth c n0 Q c' s' h' (mkF m n Ls (.ref b :: st))) : Go p l e R s m args below meth c n0 Q cells slots h (mkF m pc Ls (.int len :: st)) := fun T locs X N q => by
  subst hn hc' hs' hty
  obtain ⟨T', h', cA, X', e', E, A, st'⟩ := newP X C.x C.z w q (g := mkF m pc Ls (.int len :: st)) rfl (hb C.by hd) rfl (not_neg hlen) (cap := cap) (by rw [nat_clamp]; omega) hbig hc hs
  have V := (Arv.new A (not_neg hlen))
  rw [hdv] at V
  have V2 := V.pad (pad_rep [] _ len.toInt.toNat)
  rw [List.nil_append, ← List.map_replicate (f := Value.long), hJ] at V2
  obtain ⟨t, o, s1, r⟩ := k h' _ rfl E ⟨cA, len, V2, by rw [List.length_replicate]; omega⟩ T' _ X' N e'
  exact ⟨t, o, st' t s1, r⟩
theorem getD_at {α : Type} {vs : List α} {i : Nat} {d : α} (h : i < vs.length) : vs[i]? = some (vs.getD i d) := by
  rw [List.getD_eq_getElem?_getD, List.getElem?_eq_getElem h]; rfl
theorem kext {h' : Heap} (E : Ext h h') : Keep h h' [] := (Keep.refl h []).ext E
theorem Keep.tr {h' h'' : Heap} {ws ws' : List Addr} (K : Keep h h' ws) (K' : Keep h' h'' ws') (q : ∀ x ∈ ws', x ∈ ws ∨ h.size ≤ x) : Keep h h'' ws := K.trans K' q
end
end Jvm.Own
namespace Jvm.Pilot.@@N@@
open Jvm Jvm.ClassFile Sem Op Lib Jvm.Free Jvm.Stand Jvm.LawKit Jvm.RoadKit Jvm.Own Bundle Jvm.Pilot.@@N@@.Jvm.D
abbrev shu (x : Int64) (c : Int32) : Int64 := (x.toUInt64 >>> (c &&& 0x3f).toInt64.toUInt64).toInt64
abbrev byt (y : Int64) : Int32 := nar .byte (y.toInt32.toInt8.toInt32)
theorem byt_i (y : Int64) : ((byt y &&& (255 : Int32)).toInt64).toInt = y.toInt % 256 := by
  have q1 := c_i2b (y.toInt32.toInt8.toInt32)
  have q2 := c_i2b (y.toInt32)
  have q3 := c_l2i y
  have q4 := c_mask (byt y) 255 8 (by decide) (by decide)
  rw [c_i2l, q4]
  show (y.toInt32.toInt8.toInt32.toInt8.toInt32).toInt % _ = _
  omega
theorem shu0 (x : Int64) : shu x 0 = x := by
  show (x.toUInt64 >>> (0 : UInt64)).toInt64 = x
  simp
theorem nar_b (x : Int32) : nar .byte x.toInt8.toInt32 = x.toInt8.toInt32 := by simp [nar]
def ins (j A K : Int32) : Bool := decide (A.toInt ≤ j.toInt ∧ j.toInt < (A + K).toInt)
theorem ins_0 {j A K : Int32} : b2i (ins j A K) = 0 ↔ ins j A K = false := by cases ins j A K <;> decide
theorem iadd_i {a b : Int32} (h0 : 0 ≤ a.toInt) (h1 : 0 ≤ b.toInt) (h2 : a.toInt + b.toInt < 2147483648) : (a + b).toInt = a.toInt + b.toInt := by
  have q1 := c_iadd a b
  have q2 := rng32 (a + b)
  omega
def Tp (x : Int64) (K t : Nat) : Int64 := Int64.ofInt (x.toInt % 18446744073709551616 % 2 ^ (8 * K) / 2 ^ (8 * (K - t)))
theorem Tp_i (x : Int64) (K t : Nat) : ((Tp x K t).toInt - (x.toInt % 18446744073709551616 % 2 ^ (8 * K) / 2 ^ (8 * (K - t)))) % 18446744073709551616 = 0 := by
  unfold Tp
  rw [Int64.toInt_ofInt]
  exact bm64 _
theorem st_1_0 (x : Int64) : ((Tp x 1 0 <<< ((8 : Int32) &&& 0x3f).toInt64) ||| ((byt (shu x 0) &&& (255 : Int32)).toInt64)) = Tp x 1 1 := by
  apply Int64.toInt_inj.mp
  have p1 : ((Tp x 1 0).toInt - (x.toInt % 18446744073709551616 % 256 / 256)) % 18446744073709551616 = 0 := Tp_i x 1 0
  have p2 : ((Tp x 1 1).toInt - (x.toInt % 18446744073709551616 % 256 / 1)) % 18446744073709551616 = 0 := Tp_i x 1 1
  have q1 : (shu x 0).toInt = x.toInt := congrArg Int64.toInt (shu0 x)
  have q3 := byt_i (shu x 0)
  have q4 := c_lshl (Tp x 1 0) 8 8 (by decide)
  have q5 := rng64 x
  have r1 := rng64 (Tp x 1 0)
  have r2 := rng64 (Tp x 1 1)
  have q6 := rng64 (Tp x 1 0 <<< ((8 : Int32) &&& 0x3f).toInt64)
  have q7 := c_orL (Tp x 1 0 <<< ((8 : Int32) &&& 0x3f).toInt64) ((byt (shu x 0) &&& (255 : Int32)).toInt64) 8 (by decide) 256 rfl (by omega) (by omega) (by omega)
  have q8 := rng64 ((Tp x 1 0 <<< ((8 : Int32) &&& 0x3f).toInt64) ||| ((byt (shu x 0) &&& (255 : Int32)).toInt64))
  omega
theorem st_2_0 (x : Int64) : ((Tp x 2 0 <<< ((8 : Int32) &&& 0x3f).toInt64) ||| ((byt (shu x 8) &&& (255 : Int32)).toInt64)) = Tp x 2 1 := by
  apply Int64.toInt_inj.mp
  have p1 : ((Tp x 2 0).toInt - (x.toInt % 18446744073709551616 % 65536 / 65536)) % 18446744073709551616 = 0 := Tp_i x 2 0
  have p2 : ((Tp x 2 1).toInt - (x.toInt % 18446744073709551616 % 65536 / 256)) % 18446744073709551616 = 0 := Tp_i x 2 1
  have q1 : (shu x 8).toInt = x.toInt % 18446744073709551616 / ((2 ^ 8 : Nat) : Int) := c_lushr x 8 8 (by decide) (by decide)
  have q3 := byt_i (shu x 8)
  have q4 := c_lshl (Tp x 2 0) 8 8 (by decide)
  have q5 := rng64 x
  have r1 := rng64 (Tp x 2 0)
  have r2 := rng64 (Tp x 2 1)
  have q6 := rng64 (Tp x 2 0 <<< ((8 : Int32) &&& 0x3f).toInt64)
  have q7 := c_orL (Tp x 2 0 <<< ((8 : Int32) &&& 0x3f).toInt64) ((byt (shu x 8) &&& (255 : Int32)).toInt64) 8 (by decide) 256 rfl (by omega) (by omega) (by omega)
  have q8 := rng64 ((Tp x 2 0 <<< ((8 : Int32) &&& 0x3f).toInt64) ||| ((byt (shu x 8) &&& (255 : Int32)).toInt64))
  omega
theorem st_2_1 (x : Int64) : ((Tp x 2 1 <<< ((8 : Int32) &&& 0x3f).toInt64) ||| ((byt (shu x 0) &&& (255 : Int32)).toInt64)) = Tp x 2 2 := by
  apply Int64.toInt_inj.mp
  have p1 : ((Tp x 2 1).toInt - (x.toInt % 18446744073709551616 % 65536 / 256)) % 18446744073709551616 = 0 := Tp_i x 2 1
  have p2 : ((Tp x 2 2).toInt - (x.toInt % 18446744073709551616 % 65536 / 1)) % 18446744073709551616 = 0 := Tp_i x 2 2
  have q1 : (shu x 0).toInt = x.toInt := congrArg Int64.toInt (shu0 x)
  have q3 := byt_i (shu x 0)
  have q4 := c_lshl (Tp x 2 1) 8 8 (by decide)
  have q5 := rng64 x
  have r1 := rng64 (Tp x 2 1)
  have r2 := rng64 (Tp x 2 2)
  have q6 := rng64 (Tp x 2 1 <<< ((8 : Int32) &&& 0x3f).toInt64)
  have q7 := c_orL (Tp x 2 1 <<< ((8 : Int32) &&& 0x3f).toInt64) ((byt (shu x 0) &&& (255 : Int32)).toInt64) 8 (by decide) 256 rfl (by omega) (by omega) (by omega)
  have q8 := rng64 ((Tp x 2 1 <<< ((8 : Int32) &&& 0x3f).toInt64) ||| ((byt (shu x 0) &&& (255 : Int32)).toInt64))
  omega
theorem st_3_0 (x : Int64) : ((Tp x 3 0 <<< ((8 : Int32) &&& 0x3f).toInt64) ||| ((byt (shu x 16) &&& (255 : Int32)).toInt64)) = Tp x 3 1 := by
  apply Int64.toInt_inj.mp
  have p1 : ((Tp x 3 0).toInt - (x.toInt % 18446744073709551616 % 16777216 / 16777216)) % 18446744073709551616 = 0 := Tp_i x 3 0
  have p2 : ((Tp x 3 1).toInt - (x.toInt % 18446744073709551616 % 16777216 / 65536)) % 18446744073709551616 = 0 := Tp_i x 3 1
  have q1 : (shu x 16).toInt = x.toInt % 18446744073709551616 / ((2 ^ 16 : Nat) : Int) := c_lushr x 16 16 (by decide) (by decide)
  have q3 := byt_i (shu x 16)
  have q4 := c_lshl (Tp x 3 0) 8 8 (by decide)
  have q5 := rng64 x
  have r1 := rng64 (Tp x 3 0)
  have r2 := rng64 (Tp x 3 1)
  have q6 := rng64 (Tp x 3 0 <<< ((8 : Int32) &&& 0x3f).toInt64)
  have q7 := c_orL (Tp x 3 0 <<< ((8 : Int32) &&& 0x3f).toInt64) ((byt (shu x 16) &&& (255 : Int32)).toInt64) 8 (by decide) 256 rfl (by omega) (by omega) (by omega)
  have q8 := rng64 ((Tp x 3 0 <<< ((8 : Int32) &&& 0x3f).toInt64) ||| ((byt (shu x 16) &&& (255 : Int32)).toInt64))
  omega
theorem st_3_1 (x : Int64) : ((Tp x 3 1 <<< ((8 : Int32) &&& 0x3f).toInt64) ||| ((byt (shu x 8) &&& (255 : Int32)).toInt64)) = Tp x 3 2 := by
  apply Int64.toInt_inj.mp
  have p1 : ((Tp x 3 1).toInt - (x.toInt % 18446744073709551616 % 16777216 / 65536)) % 18446744073709551616 = 0 := Tp_i x 3 1
  have p2 : ((Tp x 3 2).toInt - (x.toInt % 18446744073709551616 % 16777216 / 256)) % 18446744073709551616 = 0 := Tp_i x 3 2
  have q1 : (shu x 8).toInt = x.toInt % 18446744073709551616 / ((2 ^ 8 : Nat) : Int) := c_lushr x 8 8 (by decide) (by decide)
  have q3 := byt_i (shu x 8)
  have q4 := c_lshl (Tp x 3 1) 8 8 (by decide)
  have q5 := rng64 x
  have r1 := rng64 (Tp x 3 1)
  have r2 := rng64 (Tp x 3 2)
  have q6 := rng64 (Tp x 3 1 <<< ((8 : Int32) &&& 0x3f).toInt64)
  have q7 := c_orL (Tp x 3 1 <<< ((8 : Int32) &&& 0x3f).toInt64) ((byt (shu x 8) &&& (255 : Int32)).toInt64) 8 (by decide) 256 rfl (by omega) (by omega) (by omega)
  have q8 := rng64 ((Tp x 3 1 <<< ((8 : Int32) &&& 0x3f).toInt64) ||| ((byt (shu x 8) &&& (255 : Int32)).toInt64))
  omega
theorem st_3_2 (x : Int64) : ((Tp x 3 2 <<< ((8 : Int32) &&& 0x3f).toInt64) ||| ((byt (shu x 0) &&& (255 : Int32)).toInt64)) = Tp x 3 3 := by
  apply Int64.toInt_inj.mp
  have p1 : ((Tp x 3 2).toInt - (x.toInt % 18446744073709551616 % 16777216 / 256)) % 18446744073709551616 = 0 := Tp_i x 3 2
  have p2 : ((Tp x 3 3).toInt - (x.toInt % 18446744073709551616 % 16777216 / 1)) % 18446744073709551616 = 0 := Tp_i x 3 3
  have q1 : (shu x 0).toInt = x.toInt := congrArg Int64.toInt (shu0 x)
  have q3 := byt_i (shu x 0)
  have q4 := c_lshl (Tp x 3 2) 8 8 (by decide)
  have q5 := rng64 x
  have r1 := rng64 (Tp x 3 2)
  have r2 := rng64 (Tp x 3 3)
  have q6 := rng64 (Tp x 3 2 <<< ((8 : Int32) &&& 0x3f).toInt64)
  have q7 := c_orL (Tp x 3 2 <<< ((8 : Int32) &&& 0x3f).toInt64) ((byt (shu x 0) &&& (255 : Int32)).toInt64) 8 (by decide) 256 rfl (by omega) (by omega) (by omega)
  have q8 := rng64 ((Tp x 3 2 <<< ((8 : Int32) &&& 0x3f).toInt64) ||| ((byt (shu x 0) &&& (255 : Int32)).toInt64))
  omega
theorem st_4_0 (x : Int64) : ((Tp x 4 0 <<< ((8 : Int32) &&& 0x3f).toInt64) ||| ((byt (shu x 24) &&& (255 : Int32)).toInt64)) = Tp x 4 1 := by
  apply Int64.toInt_inj.mp
  have p1 : ((Tp x 4 0).toInt - (x.toInt % 18446744073709551616 % 4294967296 / 4294967296)) % 18446744073709551616 = 0 := Tp_i x 4 0
  have p2 : ((Tp x 4 1).toInt - (x.toInt % 18446744073709551616 % 4294967296 / 16777216)) % 18446744073709551616 = 0 := Tp_i x 4 1
  have q1 : (shu x 24).toInt = x.toInt % 18446744073709551616 / ((2 ^ 24 : Nat) : Int) := c_lushr x 24 24 (by decide) (by decide)
  have q3 := byt_i (shu x 24)
  have q4 := c_lshl (Tp x 4 0) 8 8 (by decide)
  have q5 := rng64 x
  have r1 := rng64 (Tp x 4 0)
  have r2 := rng64 (Tp x 4 1)
  have q6 := rng64 (Tp x 4 0 <<< ((8 : Int32) &&& 0x3f).toInt64)
  have q7 := c_orL (Tp x 4 0 <<< ((8 : Int32) &&& 0x3f).toInt64) ((byt (shu x 24) &&& (255 : Int32)).toInt64) 8 (by decide) 256 rfl (by omega) (by omega) (by omega)
  have q8 := rng64 ((Tp x 4 0 <<< ((8 : Int32) &&& 0x3f).toInt64) ||| ((byt (shu x 24) &&& (255 : Int32)).toInt64))
  omega
theorem st_4_1 (x : Int64) : ((Tp x 4 1 <<< ((8 : Int32) &&& 0x3f).toInt64) ||| ((byt (shu x 16) &&& (255 : Int32)).toInt64)) = Tp x 4 2 := by
  apply Int64.toInt_inj.mp
  have p1 : ((Tp x 4 1).toInt - (x.toInt % 18446744073709551616 % 4294967296 / 16777216)) % 18446744073709551616 = 0 := Tp_i x 4 1
  have p2 : ((Tp x 4 2).toInt - (x.toInt % 18446744073709551616 % 4294967296 / 65536)) % 18446744073709551616 = 0 := Tp_i x 4 2
  have q1 : (shu x 16).toInt = x.toInt % 18446744073709551616 / ((2 ^ 16 : Nat) : Int) := c_lushr x 16 16 (by decide) (by decide)
  have q3 := byt_i (shu x 16)
  have q4 := c_lshl (Tp x 4 1) 8 8 (by decide)
  have q5 := rng64 x
  have r1 := rng64 (Tp x 4 1)
  have r2 := rng64 (Tp x 4 2)
  have q6 := rng64 (Tp x 4 1 <<< ((8 : Int32) &&& 0x3f).toInt64)
  have q7 := c_orL (Tp x 4 1 <<< ((8 : Int32) &&& 0x3f).toInt64) ((byt (shu x 16) &&& (255 : Int32)).toInt64) 8 (by decide) 256 rfl (by omega) (by omega) (by omega)
  have q8 := rng64 ((Tp x 4 1 <<< ((8 : Int32) &&& 0x3f).toInt64) ||| ((byt (shu x 16) &&& (255 : Int32)).toInt64))
  omega
theorem st_4_2 (x : Int64) : ((Tp x 4 2 <<< ((8 : Int32) &&& 0x3f).toInt64) ||| ((byt (shu x 8) &&& (255 : Int32)).toInt64)) = Tp x 4 3 := by
  apply Int64.toInt_inj.mp
  have p1 : ((Tp x 4 2).toInt - (x.toInt % 18446744073709551616 % 4294967296 / 65536)) % 18446744073709551616 = 0 := Tp_i x 4 2
  have p2 : ((Tp x 4 3).toInt - (x.toInt % 18446744073709551616 % 4294967296 / 256)) % 18446744073709551616 = 0 := Tp_i x 4 3
  have q1 : (shu x 8).toInt = x.toInt % 18446744073709551616 / ((2 ^ 8 : Nat) : Int) := c_lushr x 8 8 (by decide) (by decide)
  have q3 := byt_i (shu x 8)
  have q4 := c_lshl (Tp x 4 2) 8 8 (by decide)
  have q5 := rng64 x
  have r1 := rng64 (Tp x 4 2)
  have r2 := rng64 (Tp x 4 3)
  have q6 := rng64 (Tp x 4 2 <<< ((8 : Int32) &&& 0x3f).toInt64)
  have q7 := c_orL (Tp x 4 2 <<< ((8 : Int32) &&& 0x3f).toInt64) ((byt (shu x 8) &&& (255 : Int32)).toInt64) 8 (by decide) 256 rfl (by omega) (by omega) (by omega)
  have q8 := rng64 ((Tp x 4 2 <<< ((8 : Int32) &&& 0x3f).toInt64) ||| ((byt (shu x 8) &&& (255 : Int32)).toInt64))
  omega
theorem st_4_3 (x : Int64) : ((Tp x 4 3 <<< ((8 : Int32) &&& 0x3f).toInt64) ||| ((byt (shu x 0) &&& (255 : Int32)).toInt64)) = Tp x 4 4 := by
  apply Int64.toInt_inj.mp
  have p1 : ((Tp x 4 3).toInt - (x.toInt % 18446744073709551616 % 4294967296 / 256)) % 18446744073709551616 = 0 := Tp_i x 4 3
  have p2 : ((Tp x 4 4).toInt - (x.toInt % 18446744073709551616 % 4294967296 / 1)) % 18446744073709551616 = 0 := Tp_i x 4 4
  have q1 : (shu x 0).toInt = x.toInt := congrArg Int64.toInt (shu0 x)
  have q3 := byt_i (shu x 0)
  have q4 := c_lshl (Tp x 4 3) 8 8 (by decide)
  have q5 := rng64 x
  have r1 := rng64 (Tp x 4 3)
  have r2 := rng64 (Tp x 4 4)
  have q6 := rng64 (Tp x 4 3 <<< ((8 : Int32) &&& 0x3f).toInt64)
  have q7 := c_orL (Tp x 4 3 <<< ((8 : Int32) &&& 0x3f).toInt64) ((byt (shu x 0) &&& (255 : Int32)).toInt64) 8 (by decide) 256 rfl (by omega) (by omega) (by omega)
  have q8 := rng64 ((Tp x 4 3 <<< ((8 : Int32) &&& 0x3f).toInt64) ||| ((byt (shu x 0) &&& (255 : Int32)).toInt64))
  omega
theorem st_5_0 (x : Int64) : ((Tp x 5 0 <<< ((8 : Int32) &&& 0x3f).toInt64) ||| ((byt (shu x 32) &&& (255 : Int32)).toInt64)) = Tp x 5 1 := by
  apply Int64.toInt_inj.mp
  have p1 : ((Tp x 5 0).toInt - (x.toInt % 18446744073709551616 % 1099511627776 / 1099511627776)) % 18446744073709551616 = 0 := Tp_i x 5 0
  have p2 : ((Tp x 5 1).toInt - (x.toInt % 18446744073709551616 % 1099511627776 / 4294967296)) % 18446744073709551616 = 0 := Tp_i x 5 1
  have q1 : (shu x 32).toInt = x.toInt % 18446744073709551616 / ((2 ^ 32 : Nat) : Int) := c_lushr x 32 32 (by decide) (by decide)
  have q3 := byt_i (shu x 32)
  have q4 := c_lshl (Tp x 5 0) 8 8 (by decide)
  have q5 := rng64 x
  have r1 := rng64 (Tp x 5 0)
  have r2 := rng64 (Tp x 5 1)
  have q6 := rng64 (Tp x 5 0 <<< ((8 : Int32) &&& 0x3f).toInt64)
  have q7 := c_orL (Tp x 5 0 <<< ((8 : Int32) &&& 0x3f).toInt64) ((byt (shu x 32) &&& (255 : Int32)).toInt64) 8 (by decide) 256 rfl (by omega) (by omega) (by omega)
  have q8 := rng64 ((Tp x 5 0 <<< ((8 : Int32) &&& 0x3f).toInt64) ||| ((byt (shu x 32) &&& (255 : Int32)).toInt64))
  omega
theorem st_5_1 (x : Int64) : ((Tp x 5 1 <<< ((8 : Int32) &&& 0x3f).toInt64) ||| ((byt (shu x 24) &&& (255 : Int32)).toInt64)) = Tp x 5 2 := by
  apply Int64.toInt_inj.mp
  have p1 : ((Tp x 5 1).toInt - (x.toInt % 18446744073709551616 % 1099511627776 / 4294967296)) % 18446744073709551616 = 0 := Tp_i x 5 1
  have p2 : ((Tp x 5 2).toInt - (x.toInt % 18446744073709551616 % 1099511627776 / 16777216)) % 18446744073709551616 = 0 := Tp_i x 5 2
  have q1 : (shu x 24).toInt = x.toInt % 18446744073709551616 / ((2 ^ 24 : Nat) : Int) := c_lushr x 24 24 (by decide) (by decide)
  have q3 := byt_i (shu x 24)
  have q4 := c_lshl (Tp x 5 1) 8 8 (by decide)
  have q5 := rng64 x
  have r1 := rng64 (Tp x 5 1)
  have r2 := rng64 (Tp x 5 2)
  have q6 := rng64 (Tp x 5 1 <<< ((8 : Int32) &&& 0x3f).toInt64)
  have q7 := c_orL (Tp x 5 1 <<< ((8 : Int32) &&& 0x3f).toInt64) ((byt (shu x 24) &&& (255 : Int32)).toInt64) 8 (by decide) 256 rfl (by omega) (by omega) (by omega)
  have q8 := rng64 ((Tp x 5 1 <<< ((8 : Int32) &&& 0x3f).toInt64) ||| ((byt (shu x 24) &&& (255 : Int32)).toInt64))
  omega
theorem st_5_2 (x : Int64) : ((Tp x 5 2 <<< ((8 : Int32) &&& 0x3f).toInt64) ||| ((byt (shu x 16) &&& (255 : Int32)).toInt64)) = Tp x 5 3 := by
  apply Int64.toInt_inj.mp
  have p1 : ((Tp x 5 2).toInt - (x.toInt % 18446744073709551616 % 1099511627776 / 16777216)) % 18446744073709551616 = 0 := Tp_i x 5 2
  have p2 : ((Tp x 5 3).toInt - (x.toInt % 18446744073709551616 % 1099511627776 / 65536)) % 18446744073709551616 = 0 := Tp_i x 5 3
  have q1 : (shu x 16).toInt = x.toInt % 18446744073709551616 / ((2 ^ 16 : Nat) : Int) := c_lushr x 16 16 (by decide) (by decide)
  have q3 := byt_i (shu x 16)
  have q4 := c_lshl (Tp x 5 2) 8 8 (by decide)
  have q5 := rng64 x
  have r1 := rng64 (Tp x 5 2)
  have r2 := rng64 (Tp x 5 3)
  have q6 := rng64 (Tp x 5 2 <<< ((8 : Int32) &&& 0x3f).toInt64)
  have q7 := c_orL (Tp x 5 2 <<< ((8 : Int32) &&& 0x3f).toInt64) ((byt (shu x 16) &&& (255 : Int32)).toInt64) 8 (by decide) 256 rfl (by omega) (by omega) (by omega)
  have q8 := rng64 ((Tp x 5 2 <<< ((8 : Int32) &&& 0x3f).toInt64) ||| ((byt (shu x 16) &&& (255 : Int32)).toInt64))
  omega
theorem st_5_3 (x : Int64) : ((Tp x 5 3 <<< ((8 : Int32) &&& 0x3f).toInt64) ||| ((byt (shu x 8) &&& (255 : Int32)).toInt64)) = Tp x 5 4 := by
  apply Int64.toInt_inj.mp
  have p1 : ((Tp x 5 3).toInt - (x.toInt % 18446744073709551616 % 1099511627776 / 65536)) % 18446744073709551616 = 0 := Tp_i x 5 3
  have p2 : ((Tp x 5 4).toInt - (x.toInt % 18446744073709551616 % 1099511627776 / 256)) % 18446744073709551616 = 0 := Tp_i x 5 4
  have q1 : (shu x 8).toInt = x.toInt % 18446744073709551616 / ((2 ^ 8 : Nat) : Int) := c_lushr x 8 8 (by decide) (by decide)
  have q3 := byt_i (shu x 8)
  have q4 := c_lshl (Tp x 5 3) 8 8 (by decide)
  have q5 := rng64 x
  have r1 := rng64 (Tp x 5 3)
  have r2 := rng64 (Tp x 5 4)
  have q6 := rng64 (Tp x 5 3 <<< ((8 : Int32) &&& 0x3f).toInt64)
  have q7 := c_orL (Tp x 5 3 <<< ((8 : Int32) &&& 0x3f).toInt64) ((byt (shu x 8) &&& (255 : Int32)).toInt64) 8 (by decide) 256 rfl (by omega) (by omega) (by omega)
  have q8 := rng64 ((Tp x 5 3 <<< ((8 : Int32) &&& 0x3f).toInt64) ||| ((byt (shu x 8) &&& (255 : Int32)).toInt64))
  omega
theorem st_5_4 (x : Int64) : ((Tp x 5 4 <<< ((8 : Int32) &&& 0x3f).toInt64) ||| ((byt (shu x 0) &&& (255 : Int32)).toInt64)) = Tp x 5 5 := by
  apply Int64.toInt_inj.mp
  have p1 : ((Tp x 5 4).toInt - (x.toInt % 18446744073709551616 % 1099511627776 / 256)) % 18446744073709551616 = 0 := Tp_i x 5 4
  have p2 : ((Tp x 5 5).toInt - (x.toInt % 18446744073709551616 % 1099511627776 / 1)) % 18446744073709551616 = 0 := Tp_i x 5 5
  have q1 : (shu x 0).toInt = x.toInt := congrArg Int64.toInt (shu0 x)
  have q3 := byt_i (shu x 0)
  have q4 := c_lshl (Tp x 5 4) 8 8 (by decide)
  have q5 := rng64 x
  have r1 := rng64 (Tp x 5 4)
  have r2 := rng64 (Tp x 5 5)
  have q6 := rng64 (Tp x 5 4 <<< ((8 : Int32) &&& 0x3f).toInt64)
  have q7 := c_orL (Tp x 5 4 <<< ((8 : Int32) &&& 0x3f).toInt64) ((byt (shu x 0) &&& (255 : Int32)).toInt64) 8 (by decide) 256 rfl (by omega) (by omega) (by omega)
  have q8 := rng64 ((Tp x 5 4 <<< ((8 : Int32) &&& 0x3f).toInt64) ||| ((byt (shu x 0) &&& (255 : Int32)).toInt64))
  omega
theorem st_6_0 (x : Int64) : ((Tp x 6 0 <<< ((8 : Int32) &&& 0x3f).toInt64) ||| ((byt (shu x 40) &&& (255 : Int32)).toInt64)) = Tp x 6 1 := by
  apply Int64.toInt_inj.mp
  have p1 : ((Tp x 6 0).toInt - (x.toInt % 18446744073709551616 % 281474976710656 / 281474976710656)) % 18446744073709551616 = 0 := Tp_i x 6 0
  have p2 : ((Tp x 6 1).toInt - (x.toInt % 18446744073709551616 % 281474976710656 / 1099511627776)) % 18446744073709551616 = 0 := Tp_i x 6 1
  have q1 : (shu x 40).toInt = x.toInt % 18446744073709551616 / ((2 ^ 40 : Nat) : Int) := c_lushr x 40 40 (by decide) (by decide)
  have q3 := byt_i (shu x 40)
  have q4 := c_lshl (Tp x 6 0) 8 8 (by decide)
  have q5 := rng64 x
  have r1 := rng64 (Tp x 6 0)
  have r2 := rng64 (Tp x 6 1)
  have q6 := rng64 (Tp x 6 0 <<< ((8 : Int32) &&& 0x3f).toInt64)
  have q7 := c_orL (Tp x 6 0 <<< ((8 : Int32) &&& 0x3f).toInt64) ((byt (shu x 40) &&& (255 : Int32)).toInt64) 8 (by decide) 256 rfl (by omega) (by omega) (by omega)
  have q8 := rng64 ((Tp x 6 0 <<< ((8 : Int32) &&& 0x3f).toInt64) ||| ((byt (shu x 40) &&& (255 : Int32)).toInt64))
  omega
theorem st_6_1 (x : Int64) : ((Tp x 6 1 <<< ((8 : Int32) &&& 0x3f).toInt64) ||| ((byt (shu x 32) &&& (255 : Int32)).toInt64)) = Tp x 6 2 := by
  apply Int64.toInt_inj.mp
  have p1 : ((Tp x 6 1).toInt - (x.toInt % 18446744073709551616 % 281474976710656 / 1099511627776)) % 18446744073709551616 = 0 := Tp_i x 6 1
  have p2 : ((Tp x 6 2).toInt - (x.toInt % 18446744073709551616 % 281474976710656 / 4294967296)) % 18446744073709551616 = 0 := Tp_i x 6 2
  have q1 : (shu x 32).toInt = x.toInt % 18446744073709551616 / ((2 ^ 32 : Nat) : Int) := c_lushr x 32 32 (by decide) (by decide)
  have q3 := byt_i (shu x 32)
  have q4 := c_lshl (Tp x 6 1) 8 8 (by decide)
  have q5 := rng64 x
  have r1 := rng64 (Tp x 6 1)
  have r2 := rng64 (Tp x 6 2)
  have q6 := rng64 (Tp x 6 1 <<< ((8 : Int32) &&& 0x3f).toInt64)
  have q7 := c_orL (Tp x 6 1 <<< ((8 : Int32) &&& 0x3f).toInt64) ((byt (shu x 32) &&& (255 : Int32)).toInt64) 8 (by decide) 256 rfl (by omega) (by omega) (by omega)
  have q8 := rng64 ((Tp x 6 1 <<< ((8 : Int32) &&& 0x3f).toInt64) ||| ((byt (shu x 32) &&& (255 : Int32)).toInt64))
  omega
theorem st_6_2 (x : Int64) : ((Tp x 6 2 <<< ((8 : Int32) &&& 0x3f).toInt64) ||| ((byt (shu x 24) &&& (255 : Int32)).toInt64)) = Tp x 6 3 := by
  apply Int64.toInt_inj.mp
  have p1 : ((Tp x 6 2).toInt - (x.toInt % 18446744073709551616 % 281474976710656 / 4294967296)) % 18446744073709551616 = 0 := Tp_i x 6 2
  have p2 : ((Tp x 6 3).toInt - (x.toInt % 18446744073709551616 % 281474976710656 / 16777216)) % 18446744073709551616 = 0 := Tp_i x 6 3
  have q1 : (shu x 24).toInt = x.toInt % 18446744073709551616 / ((2 ^ 24 : Nat) : Int) := c_lushr x 24 24 (by decide) (by decide)
  have q3 := byt_i (shu x 24)
  have q4 := c_lshl (Tp x 6 2) 8 8 (by decide)
  have q5 := rng64 x
  have r1 := rng64 (Tp x 6 2)
  have r2 := rng64 (Tp x 6 3)
  have q6 := rng64 (Tp x 6 2 <<< ((8 : Int32) &&& 0x3f).toInt64)
  have q7 := c_orL (Tp x 6 2 <<< ((8 : Int32) &&& 0x3f).toInt64) ((byt (shu x 24) &&& (255 : Int32)).toInt64) 8 (by decide) 256 rfl (by omega) (by omega) (by omega)
  have q8 := rng64 ((Tp x 6 2 <<< ((8 : Int32) &&& 0x3f).toInt64) ||| ((byt (shu x 24) &&& (255 : Int32)).toInt64))
  omega
theorem st_6_3 (x : Int64) : ((Tp x 6 3 <<< ((8 : Int32) &&& 0x3f).toInt64) ||| ((byt (shu x 16) &&& (255 : Int32)).toInt64)) = Tp x 6 4 := by
  apply Int64.toInt_inj.mp
  have p1 : ((Tp x 6 3).toInt - (x.toInt % 18446744073709551616 % 281474976710656 / 16777216)) % 18446744073709551616 = 0 := Tp_i x 6 3
  have p2 : ((Tp x 6 4).toInt - (x.toInt % 18446744073709551616 % 281474976710656 / 65536)) % 18446744073709551616 = 0 := Tp_i x 6 4
  have q1 : (shu x 16).toInt = x.toInt % 18446744073709551616 / ((2 ^ 16 : Nat) : Int) := c_lushr x 16 16 (by decide) (by decide)
  have q3 := byt_i (shu x 16)
  have q4 := c_lshl (Tp x 6 3) 8 8 (by decide)
  have q5 := rng64 x
  have r1 := rng64 (Tp x 6 3)
  have r2 := rng64 (Tp x 6 4)
  have q6 := rng64 (Tp x 6 3 <<< ((8 : Int32) &&& 0x3f).toInt64)
  have q7 := c_orL (Tp x 6 3 <<< ((8 : Int32) &&& 0x3f).toInt64) ((byt (shu x 16) &&& (255 : Int32)).toInt64) 8 (by decide) 256 rfl (by omega) (by omega) (by omega)
  have q8 := rng64 ((Tp x 6 3 <<< ((8 : Int32) &&& 0x3f).toInt64) ||| ((byt (shu x 16) &&& (255 : Int32)).toInt64))
  omega
theorem st_6_4 (x : Int64) : ((Tp x 6 4 <<< ((8 : Int32) &&& 0x3f).toInt64) ||| ((byt (shu x 8) &&& (255 : Int32)).toInt64)) = Tp x 6 5 := by
  apply Int64.toInt_inj.mp
  have p1 : ((Tp x 6 4).toInt - (x.toInt % 18446744073709551616 % 281474976710656 / 65536)) % 18446744073709551616 = 0 := Tp_i x 6 4
  have p2 : ((Tp x 6 5).toInt - (x.toInt % 18446744073709551616 % 281474976710656 / 256)) % 18446744073709551616 = 0 := Tp_i x 6 5
  have q1 : (shu x 8).toInt = x.toInt % 18446744073709551616 / ((2 ^ 8 : Nat) : Int) := c_lushr x 8 8 (by decide) (by decide)
  have q3 := byt_i (shu x 8)
  have q4 := c_lshl (Tp x 6 4) 8 8 (by decide)
  have q5 := rng64 x
  have r1 := rng64 (Tp x 6 4)
  have r2 := rng64 (Tp x 6 5)
  have q6 := rng64 (Tp x 6 4 <<< ((8 : Int32) &&& 0x3f).toInt64)
  have q7 := c_orL (Tp x 6 4 <<< ((8 : Int32) &&& 0x3f).toInt64) ((byt (shu x 8) &&& (255 : Int32)).toInt64) 8 (by decide) 256 rfl (by omega) (by omega) (by omega)
  have q8 := rng64 ((Tp x 6 4 <<< ((8 : Int32) &&& 0x3f).toInt64) ||| ((byt (shu x 8) &&& (255 : Int32)).toInt64))
  omega
theorem st_6_5 (x : Int64) : ((Tp x 6 5 <<< ((8 : Int32) &&& 0x3f).toInt64) ||| ((byt (shu x 0) &&& (255 : Int32)).toInt64)) = Tp x 6 6 := by
  apply Int64.toInt_inj.mp
  have p1 : ((Tp x 6 5).toInt - (x.toInt % 18446744073709551616 % 281474976710656 / 256)) % 18446744073709551616 = 0 := Tp_i x 6 5
  have p2 : ((Tp x 6 6).toInt - (x.toInt % 18446744073709551616 % 281474976710656 / 1)) % 18446744073709551616 = 0 := Tp_i x 6 6
  have q1 : (shu x 0).toInt = x.toInt := congrArg Int64.toInt (shu0 x)
  have q3 := byt_i (shu x 0)
  have q4 := c_lshl (Tp x 6 5) 8 8 (by decide)
  have q5 := rng64 x
  have r1 := rng64 (Tp x 6 5)
  have r2 := rng64 (Tp x 6 6)
  have q6 := rng64 (Tp x 6 5 <<< ((8 : Int32) &&& 0x3f).toInt64)
  have q7 := c_orL (Tp x 6 5 <<< ((8 : Int32) &&& 0x3f).toInt64) ((byt (shu x 0) &&& (255 : Int32)).toInt64) 8 (by decide) 256 rfl (by omega) (by omega) (by omega)
  have q8 := rng64 ((Tp x 6 5 <<< ((8 : Int32) &&& 0x3f).toInt64) ||| ((byt (shu x 0) &&& (255 : Int32)).toInt64))
  omega
theorem st_7_0 (x : Int64) : ((Tp x 7 0 <<< ((8 : Int32) &&& 0x3f).toInt64) ||| ((byt (shu x 48) &&& (255 : Int32)).toInt64)) = Tp x 7 1 := by
  apply Int64.toInt_inj.mp
  have p1 : ((Tp x 7 0).toInt - (x.toInt % 18446744073709551616 % 72057594037927936 / 72057594037927936)) % 18446744073709551616 = 0 := Tp_i x 7 0
  have p2 : ((Tp x 7 1).toInt - (x.toInt % 18446744073709551616 % 72057594037927936 / 281474976710656)) % 18446744073709551616 = 0 := Tp_i x 7 1
  have q1 : (shu x 48).toInt = x.toInt % 18446744073709551616 / ((2 ^ 48 : Nat) : Int) := c_lushr x 48 48 (by decide) (by decide)
  have q3 := byt_i (shu x 48)
  have q4 := c_lshl (Tp x 7 0) 8 8 (by decide)
  have q5 := rng64 x
  have r1 := rng64 (Tp x 7 0)
  have r2 := rng64 (Tp x 7 1)
  have q6 := rng64 (Tp x 7 0 <<< ((8 : Int32) &&& 0x3f).toInt64)
  have q7 := c_orL (Tp x 7 0 <<< ((8 : Int32) &&& 0x3f).toInt64) ((byt (shu x 48) &&& (255 : Int32)).toInt64) 8 (by decide) 256 rfl (by omega) (by omega) (by omega)
  have q8 := rng64 ((Tp x 7 0 <<< ((8 : Int32) &&& 0x3f).toInt64) ||| ((byt (shu x 48) &&& (255 : Int32)).toInt64))
  omega
theorem st_7_1 (x : Int64) : ((Tp x 7 1 <<< ((8 : Int32) &&& 0x3f).toInt64) ||| ((byt (shu x 40) &&& (255 : Int32)).toInt64)) = Tp x 7 2 := by
  apply Int64.toInt_inj.mp
  have p1 : ((Tp x 7 1).toInt - (x.toInt % 18446744073709551616 % 72057594037927936 / 281474976710656)) % 18446744073709551616 = 0 := Tp_i x 7 1
  have p2 : ((Tp x 7 2).toInt - (x.toInt % 18446744073709551616 % 72057594037927936 / 1099511627776)) % 18446744073709551616 = 0 := Tp_i x 7 2
  have q1 : (shu x 40).toInt = x.toInt % 18446744073709551616 / ((2 ^ 40 : Nat) : Int) := c_lushr x 40 40 (by decide) (by decide)
  have q3 := byt_i (shu x 40)
  have q4 := c_lshl (Tp x 7 1) 8 8 (by decide)
  have q5 := rng64 x
  have r1 := rng64 (Tp x 7 1)
  have r2 := rng64 (Tp x 7 2)
  have q6 := rng64 (Tp x 7 1 <<< ((8 : Int32) &&& 0x3f).toInt64)
  have q7 := c_orL (Tp x 7 1 <<< ((8 : Int32) &&& 0x3f).toInt64) ((byt (shu x 40) &&& (255 : Int32)).toInt64) 8 (by decide) 256 rfl (by omega) (by omega) (by omega)
  have q8 := rng64 ((Tp x 7 1 <<< ((8 : Int32) &&& 0x3f).toInt64) ||| ((byt (shu x 40) &&& (255 : Int32)).toInt64))
  omega
theorem st_7_2 (x : Int64) : ((Tp x 7 2 <<< ((8 : Int32) &&& 0x3f).toInt64) ||| ((byt (shu x 32) &&& (255 : Int32)).toInt64)) = Tp x 7 3 := by
  apply Int64.toInt_inj.mp
  have p1 : ((Tp x 7 2).toInt - (x.toInt % 18446744073709551616 % 72057594037927936 / 1099511627776)) % 18446744073709551616 = 0 := Tp_i x 7 2
  have p2 : ((Tp x 7 3).toInt - (x.toInt % 18446744073709551616 % 72057594037927936 / 4294967296)) % 18446744073709551616 = 0 := Tp_i x 7 3
  have q1 : (shu x 32).toInt = x.toInt % 18446744073709551616 / ((2 ^ 32 : Nat) : Int) := c_lushr x 32 32 (by decide) (by decide)
  have q3 := byt_i (shu x 32)
  have q4 := c_lshl (Tp x 7 2) 8 8 (by decide)
  have q5 := rng64 x
  have r1 := rng64 (Tp x 7 2)
  have r2 := rng64 (Tp x 7 3)
  have q6 := rng64 (Tp x 7 2 <<< ((8 : Int32) &&& 0x3f).toInt64)
  have q7 := c_orL (Tp x 7 2 <<< ((8 : Int32) &&& 0x3f).toInt64) ((byt (shu x 32) &&& (255 : Int32)).toInt64) 8 (by decide) 256 rfl (by omega) (by omega) (by omega)
  have q8 := rng64 ((Tp x 7 2 <<< ((8 : Int32) &&& 0x3f).toInt64) ||| ((byt (shu x 32) &&& (255 : Int32)).toInt64))
  omega
theorem st_7_3 (x : Int64) : ((Tp x 7 3 <<< ((8 : Int32) &&& 0x3f).toInt64) ||| ((byt (shu x 24) &&& (255 : Int32)).toInt64)) = Tp x 7 4 := by
  apply Int64.toInt_inj.mp
  have p1 : ((Tp x 7 3).toInt - (x.toInt % 18446744073709551616 % 72057594037927936 / 4294967296)) % 18446744073709551616 = 0 := Tp_i x 7 3
  have p2 : ((Tp x 7 4).toInt - (x.toInt % 18446744073709551616 % 72057594037927936 / 16777216)) % 18446744073709551616 = 0 := Tp_i x 7 4
  have q1 : (shu x 24).toInt = x.toInt % 18446744073709551616 / ((2 ^ 24 : Nat) : Int) := c_lushr x 24 24 (by decide) (by decide)
  have q3 := byt_i (shu x 24)
  have q4 := c_lshl (Tp x 7 3) 8 8 (by decide)
  have q5 := rng64 x
  have r1 := rng64 (Tp x 7 3)
  have r2 := rng64 (Tp x 7 4)
  have q6 := rng64 (Tp x 7 3 <<< ((8 : Int32) &&& 0x3f).toInt64)
  have q7 := c_orL (Tp x 7 3 <<< ((8 : Int32) &&& 0x3f).toInt64) ((byt (shu x 24) &&& (255 : Int32)).toInt64) 8 (by decide) 256 rfl (by omega) (by omega) (by omega)
  have q8 := rng64 ((Tp x 7 3 <<< ((8 : Int32) &&& 0x3f).toInt64) ||| ((byt (shu x 24) &&& (255 : Int32)).toInt64))
  omega
theorem st_7_4 (x : Int64) : ((Tp x 7 4 <<< ((8 : Int32) &&& 0x3f).toInt64) ||| ((byt (shu x 16) &&& (255 : Int32)).toInt64)) = Tp x 7 5 := by
  apply Int64.toInt_inj.mp
  have p1 : ((Tp x 7 4).toInt - (x.toInt % 18446744073709551616 % 72057594037927936 / 16777216)) % 18446744073709551616 = 0 := Tp_i x 7 4
  have p2 : ((Tp x 7 5).toInt - (x.toInt % 18446744073709551616 % 72057594037927936 / 65536)) % 18446744073709551616 = 0 := Tp_i x 7 5
  have q1 : (shu x 16).toInt = x.toInt % 18446744073709551616 / ((2 ^ 16 : Nat) : Int) := c_lushr x 16 16 (by decide) (by decide)
  have q3 := byt_i (shu x 16)
  have q4 := c_lshl (Tp x 7 4) 8 8 (by decide)
  have q5 := rng64 x
  have r1 := rng64 (Tp x 7 4)
  have r2 := rng64 (Tp x 7 5)
  have q6 := rng64 (Tp x 7 4 <<< ((8 : Int32) &&& 0x3f).toInt64)
  have q7 := c_orL (Tp x 7 4 <<< ((8 : Int32) &&& 0x3f).toInt64) ((byt (shu x 16) &&& (255 : Int32)).toInt64) 8 (by decide) 256 rfl (by omega) (by omega) (by omega)
  have q8 := rng64 ((Tp x 7 4 <<< ((8 : Int32) &&& 0x3f).toInt64) ||| ((byt (shu x 16) &&& (255 : Int32)).toInt64))
  omega
theorem st_7_5 (x : Int64) : ((Tp x 7 5 <<< ((8 : Int32) &&& 0x3f).toInt64) ||| ((byt (shu x 8) &&& (255 : Int32)).toInt64)) = Tp x 7 6 := by
  apply Int64.toInt_inj.mp
  have p1 : ((Tp x 7 5).toInt - (x.toInt % 18446744073709551616 % 72057594037927936 / 65536)) % 18446744073709551616 = 0 := Tp_i x 7 5
  have p2 : ((Tp x 7 6).toInt - (x.toInt % 18446744073709551616 % 72057594037927936 / 256)) % 18446744073709551616 = 0 := Tp_i x 7 6
  have q1 : (shu x 8).toInt = x.toInt % 18446744073709551616 / ((2 ^ 8 : Nat) : Int) := c_lushr x 8 8 (by decide) (by decide)
  have q3 := byt_i (shu x 8)
  have q4 := c_lshl (Tp x 7 5) 8 8 (by decide)
  have q5 := rng64 x
  have r1 := rng64 (Tp x 7 5)
  have r2 := rng64 (Tp x 7 6)
  have q6 := rng64 (Tp x 7 5 <<< ((8 : Int32) &&& 0x3f).toInt64)
  have q7 := c_orL (Tp x 7 5 <<< ((8 : Int32) &&& 0x3f).toInt64) ((byt (shu x 8) &&& (255 : Int32)).toInt64) 8 (by decide) 256 rfl (by omega) (by omega) (by omega)
  have q8 := rng64 ((Tp x 7 5 <<< ((8 : Int32) &&& 0x3f).toInt64) ||| ((byt (shu x 8) &&& (255 : Int32)).toInt64))
  omega
theorem st_7_6 (x : Int64) : ((Tp x 7 6 <<< ((8 : Int32) &&& 0x3f).toInt64) ||| ((byt (shu x 0) &&& (255 : Int32)).toInt64)) = Tp x 7 7 := by
  apply Int64.toInt_inj.mp
  have p1 : ((Tp x 7 6).toInt - (x.toInt % 18446744073709551616 % 72057594037927936 / 256)) % 18446744073709551616 = 0 := Tp_i x 7 6
  have p2 : ((Tp x 7 7).toInt - (x.toInt % 18446744073709551616 % 72057594037927936 / 1)) % 18446744073709551616 = 0 := Tp_i x 7 7
  have q1 : (shu x 0).toInt = x.toInt := congrArg Int64.toInt (shu0 x)
  have q3 := byt_i (shu x 0)
  have q4 := c_lshl (Tp x 7 6) 8 8 (by decide)
  have q5 := rng64 x
  have r1 := rng64 (Tp x 7 6)
  have r2 := rng64 (Tp x 7 7)
  have q6 := rng64 (Tp x 7 6 <<< ((8 : Int32) &&& 0x3f).toInt64)
  have q7 := c_orL (Tp x 7 6 <<< ((8 : Int32) &&& 0x3f).toInt64) ((byt (shu x 0) &&& (255 : Int32)).toInt64) 8 (by decide) 256 rfl (by omega) (by omega) (by omega)
  have q8 := rng64 ((Tp x 7 6 <<< ((8 : Int32) &&& 0x3f).toInt64) ||| ((byt (shu x 0) &&& (255 : Int32)).toInt64))
  omega
theorem st_8_0 (x : Int64) : ((Tp x 8 0 <<< ((8 : Int32) &&& 0x3f).toInt64) ||| ((byt (shu x 56) &&& (255 : Int32)).toInt64)) = Tp x 8 1 := by
  apply Int64.toInt_inj.mp
  have p1 : ((Tp x 8 0).toInt - (x.toInt % 18446744073709551616 % 18446744073709551616 / 18446744073709551616)) % 18446744073709551616 = 0 := Tp_i x 8 0
  have p2 : ((Tp x 8 1).toInt - (x.toInt % 18446744073709551616 % 18446744073709551616 / 72057594037927936)) % 18446744073709551616 = 0 := Tp_i x 8 1
  have q1 : (shu x 56).toInt = x.toInt % 18446744073709551616 / ((2 ^ 56 : Nat) : Int) := c_lushr x 56 56 (by decide) (by decide)
  have q3 := byt_i (shu x 56)
  have q4 := c_lshl (Tp x 8 0) 8 8 (by decide)
  have q5 := rng64 x
  have r1 := rng64 (Tp x 8 0)
  have r2 := rng64 (Tp x 8 1)
  have q6 := rng64 (Tp x 8 0 <<< ((8 : Int32) &&& 0x3f).toInt64)
  have q7 := c_orL (Tp x 8 0 <<< ((8 : Int32) &&& 0x3f).toInt64) ((byt (shu x 56) &&& (255 : Int32)).toInt64) 8 (by decide) 256 rfl (by omega) (by omega) (by omega)
  have q8 := rng64 ((Tp x 8 0 <<< ((8 : Int32) &&& 0x3f).toInt64) ||| ((byt (shu x 56) &&& (255 : Int32)).toInt64))
  omega
theorem st_8_1 (x : Int64) : ((Tp x 8 1 <<< ((8 : Int32) &&& 0x3f).toInt64) ||| ((byt (shu x 48) &&& (255 : Int32)).toInt64)) = Tp x 8 2 := by
  apply Int64.toInt_inj.mp
  have p1 : ((Tp x 8 1).toInt - (x.toInt % 18446744073709551616 % 18446744073709551616 / 72057594037927936)) % 18446744073709551616 = 0 := Tp_i x 8 1
  have p2 : ((Tp x 8 2).toInt - (x.toInt % 18446744073709551616 % 18446744073709551616 / 281474976710656)) % 18446744073709551616 = 0 := Tp_i x 8 2
  have q1 : (shu x 48).toInt = x.toInt % 18446744073709551616 / ((2 ^ 48 : Nat) : Int) := c_lushr x 48 48 (by decide) (by decide)
  have q3 := byt_i (shu x 48)
  have q4 := c_lshl (Tp x 8 1) 8 8 (by decide)
  have q5 := rng64 x
  have r1 := rng64 (Tp x 8 1)
  have r2 := rng64 (Tp x 8 2)
  have q6 := rng64 (Tp x 8 1 <<< ((8 : Int32) &&& 0x3f).toInt64)
  have q7 := c_orL (Tp x 8 1 <<< ((8 : Int32) &&& 0x3f).toInt64) ((byt (shu x 48) &&& (255 : Int32)).toInt64) 8 (by decide) 256 rfl (by omega) (by omega) (by omega)
  have q8 := rng64 ((Tp x 8 1 <<< ((8 : Int32) &&& 0x3f).toInt64) ||| ((byt (shu x 48) &&& (255 : Int32)).toInt64))
  omega
theorem st_8_2 (x : Int64) : ((Tp x 8 2 <<< ((8 : Int32) &&& 0x3f).toInt64) ||| ((byt (shu x 40) &&& (255 : Int32)).toInt64)) = Tp x 8 3 := by
  apply Int64.toInt_inj.mp
  have p1 : ((Tp x 8 2).toInt - (x.toInt % 18446744073709551616 % 18446744073709551616 / 281474976710656)) % 18446744073709551616 = 0 := Tp_i x 8 2
  have p2 : ((Tp x 8 3).toInt - (x.toInt % 18446744073709551616 % 18446744073709551616 / 1099511627776)) % 18446744073709551616 = 0 := Tp_i x 8 3
  have q1 : (shu x 40).toInt = x.toInt % 18446744073709551616 / ((2 ^ 40 : Nat) : Int) := c_lushr x 40 40 (by decide) (by decide)
  have q3 := byt_i (shu x 40)
  have q4 := c_lshl (Tp x 8 2) 8 8 (by decide)
  have q5 := rng64 x
  have r1 := rng64 (Tp x 8 2)
  have r2 := rng64 (Tp x 8 3)
  have q6 := rng64 (Tp x 8 2 <<< ((8 : Int32) &&& 0x3f).toInt64)
  have q7 := c_orL (Tp x 8 2 <<< ((8 : Int32) &&& 0x3f).toInt64) ((byt (shu x 40) &&& (255 : Int32)).toInt64) 8 (by decide) 256 rfl (by omega) (by omega) (by omega)
  have q8 := rng64 ((Tp x 8 2 <<< ((8 : Int32) &&& 0x3f).toInt64) ||| ((byt (shu x 40) &&& (255 : Int32)).toInt64))
  omega
theorem st_8_3 (x : Int64) : ((Tp x 8 3 <<< ((8 : Int32) &&& 0x3f).toInt64) ||| ((byt (shu x 32) &&& (255 : Int32)).toInt64)) = Tp x 8 4 := by
  apply Int64.toInt_inj.mp
  have p1 : ((Tp x 8 3).toInt - (x.toInt % 18446744073709551616 % 18446744073709551616 / 1099511627776)) % 18446744073709551616 = 0 := Tp_i x 8 3
  have p2 : ((Tp x 8 4).toInt - (x.toInt % 18446744073709551616 % 18446744073709551616 / 4294967296)) % 18446744073709551616 = 0 := Tp_i x 8 4
  have q1 : (shu x 32).toInt = x.toInt % 18446744073709551616 / ((2 ^ 32 : Nat) : Int) := c_lushr x 32 32 (by decide) (by decide)
  have q3 := byt_i (shu x 32)
  have q4 := c_lshl (Tp x 8 3) 8 8 (by decide)
  have q5 := rng64 x
  have r1 := rng64 (Tp x 8 3)
  have r2 := rng64 (Tp x 8 4)
  have q6 := rng64 (Tp x 8 3 <<< ((8 : Int32) &&& 0x3f).toInt64)
  have q7 := c_orL (Tp x 8 3 <<< ((8 : Int32) &&& 0x3f).toInt64) ((byt (shu x 32) &&& (255 : Int32)).toInt64) 8 (by decide) 256 rfl (by omega) (by omega) (by omega)
  have q8 := rng64 ((Tp x 8 3 <<< ((8 : Int32) &&& 0x3f).toInt64) ||| ((byt (shu x 32) &&& (255 : Int32)).toInt64))
  omega
theorem st_8_4 (x : Int64) : ((Tp x 8 4 <<< ((8 : Int32) &&& 0x3f).toInt64) ||| ((byt (shu x 24) &&& (255 : Int32)).toInt64)) = Tp x 8 5 := by
  apply Int64.toInt_inj.mp
  have p1 : ((Tp x 8 4).toInt - (x.toInt % 18446744073709551616 % 18446744073709551616 / 4294967296)) % 18446744073709551616 = 0 := Tp_i x 8 4
  have p2 : ((Tp x 8 5).toInt - (x.toInt % 18446744073709551616 % 18446744073709551616 / 16777216)) % 18446744073709551616 = 0 := Tp_i x 8 5
  have q1 : (shu x 24).toInt = x.toInt % 18446744073709551616 / ((2 ^ 24 : Nat) : Int) := c_lushr x 24 24 (by decide) (by decide)
  have q3 := byt_i (shu x 24)
  have q4 := c_lshl (Tp x 8 4) 8 8 (by decide)
  have q5 := rng64 x
  have r1 := rng64 (Tp x 8 4)
  have r2 := rng64 (Tp x 8 5)
  have q6 := rng64 (Tp x 8 4 <<< ((8 : Int32) &&& 0x3f).toInt64)
  have q7 := c_orL (Tp x 8 4 <<< ((8 : Int32) &&& 0x3f).toInt64) ((byt (shu x 24) &&& (255 : Int32)).toInt64) 8 (by decide) 256 rfl (by omega) (by omega) (by omega)
  have q8 := rng64 ((Tp x 8 4 <<< ((8 : Int32) &&& 0x3f).toInt64) ||| ((byt (shu x 24) &&& (255 : Int32)).toInt64))
  omega
theorem st_8_5 (x : Int64) : ((Tp x 8 5 <<< ((8 : Int32) &&& 0x3f).toInt64) ||| ((byt (shu x 16) &&& (255 : Int32)).toInt64)) = Tp x 8 6 := by
  apply Int64.toInt_inj.mp
  have p1 : ((Tp x 8 5).toInt - (x.toInt % 18446744073709551616 % 18446744073709551616 / 16777216)) % 18446744073709551616 = 0 := Tp_i x 8 5
  have p2 : ((Tp x 8 6).toInt - (x.toInt % 18446744073709551616 % 18446744073709551616 / 65536)) % 18446744073709551616 = 0 := Tp_i x 8 6
  have q1 : (shu x 16).toInt = x.toInt % 18446744073709551616 / ((2 ^ 16 : Nat) : Int) := c_lushr x 16 16 (by decide) (by decide)
  have q3 := byt_i (shu x 16)
  have q4 := c_lshl (Tp x 8 5) 8 8 (by decide)
  have q5 := rng64 x
  have r1 := rng64 (Tp x 8 5)
  have r2 := rng64 (Tp x 8 6)
  have q6 := rng64 (Tp x 8 5 <<< ((8 : Int32) &&& 0x3f).toInt64)
  have q7 := c_orL (Tp x 8 5 <<< ((8 : Int32) &&& 0x3f).toInt64) ((byt (shu x 16) &&& (255 : Int32)).toInt64) 8 (by decide) 256 rfl (by omega) (by omega) (by omega)
  have q8 := rng64 ((Tp x 8 5 <<< ((8 : Int32) &&& 0x3f).toInt64) ||| ((byt (shu x 16) &&& (255 : Int32)).toInt64))
  omega
theorem st_8_6 (x : Int64) : ((Tp x 8 6 <<< ((8 : Int32) &&& 0x3f).toInt64) ||| ((byt (shu x 8) &&& (255 : Int32)).toInt64)) = Tp x 8 7 := by
  apply Int64.toInt_inj.mp
  have p1 : ((Tp x 8 6).toInt - (x.toInt % 18446744073709551616 % 18446744073709551616 / 65536)) % 18446744073709551616 = 0 := Tp_i x 8 6
  have p2 : ((Tp x 8 7).toInt - (x.toInt % 18446744073709551616 % 18446744073709551616 / 256)) % 18446744073709551616 = 0 := Tp_i x 8 7
  have q1 : (shu x 8).toInt = x.toInt % 18446744073709551616 / ((2 ^ 8 : Nat) : Int) := c_lushr x 8 8 (by decide) (by decide)
  have q3 := byt_i (shu x 8)
  have q4 := c_lshl (Tp x 8 6) 8 8 (by decide)
  have q5 := rng64 x
  have r1 := rng64 (Tp x 8 6)
  have r2 := rng64 (Tp x 8 7)
  have q6 := rng64 (Tp x 8 6 <<< ((8 : Int32) &&& 0x3f).toInt64)
  have q7 := c_orL (Tp x 8 6 <<< ((8 : Int32) &&& 0x3f).toInt64) ((byt (shu x 8) &&& (255 : Int32)).toInt64) 8 (by decide) 256 rfl (by omega) (by omega) (by omega)
  have q8 := rng64 ((Tp x 8 6 <<< ((8 : Int32) &&& 0x3f).toInt64) ||| ((byt (shu x 8) &&& (255 : Int32)).toInt64))
  omega
theorem st_8_7 (x : Int64) : ((Tp x 8 7 <<< ((8 : Int32) &&& 0x3f).toInt64) ||| ((byt (shu x 0) &&& (255 : Int32)).toInt64)) = Tp x 8 8 := by
  apply Int64.toInt_inj.mp
  have p1 : ((Tp x 8 7).toInt - (x.toInt % 18446744073709551616 % 18446744073709551616 / 256)) % 18446744073709551616 = 0 := Tp_i x 8 7
  have p2 : ((Tp x 8 8).toInt - (x.toInt % 18446744073709551616 % 18446744073709551616 / 1)) % 18446744073709551616 = 0 := Tp_i x 8 8
  have q1 : (shu x 0).toInt = x.toInt := congrArg Int64.toInt (shu0 x)
  have q3 := byt_i (shu x 0)
  have q4 := c_lshl (Tp x 8 7) 8 8 (by decide)
  have q5 := rng64 x
  have r1 := rng64 (Tp x 8 7)
  have r2 := rng64 (Tp x 8 8)
  have q6 := rng64 (Tp x 8 7 <<< ((8 : Int32) &&& 0x3f).toInt64)
  have q7 := c_orL (Tp x 8 7 <<< ((8 : Int32) &&& 0x3f).toInt64) ((byt (shu x 0) &&& (255 : Int32)).toInt64) 8 (by decide) 256 rfl (by omega) (by omega) (by omega)
  have q8 := rng64 ((Tp x 8 7 <<< ((8 : Int32) &&& 0x3f).toInt64) ||| ((byt (shu x 0) &&& (255 : Int32)).toInt64))
  omega
theorem stp (x : Int64) : ∀ (K t : Nat), K ≤ 8 → t < K → ((Tp x K t <<< ((8 : Int32) &&& 0x3f).toInt64) ||| ((byt (shu x (Int32.ofNat (8 * (K - 1 - t)))) &&& (255 : Int32)).toInt64)) = Tp x K (t + 1) := by
  intro K t hK ht
  match K, t, hK, ht with
  | 1, 0, _, _ => exact st_1_0 x
  | 2, 0, _, _ => exact st_2_0 x
  | 2, 1, _, _ => exact st_2_1 x
  | 3, 0, _, _ => exact st_3_0 x
  | 3, 1, _, _ => exact st_3_1 x
  | 3, 2, _, _ => exact st_3_2 x
  | 4, 0, _, _ => exact st_4_0 x
  | 4, 1, _, _ => exact st_4_1 x
  | 4, 2, _, _ => exact st_4_2 x
  | 4, 3, _, _ => exact st_4_3 x
  | 5, 0, _, _ => exact st_5_0 x
  | 5, 1, _, _ => exact st_5_1 x
  | 5, 2, _, _ => exact st_5_2 x
  | 5, 3, _, _ => exact st_5_3 x
  | 5, 4, _, _ => exact st_5_4 x
  | 6, 0, _, _ => exact st_6_0 x
  | 6, 1, _, _ => exact st_6_1 x
  | 6, 2, _, _ => exact st_6_2 x
  | 6, 3, _, _ => exact st_6_3 x
  | 6, 4, _, _ => exact st_6_4 x
  | 6, 5, _, _ => exact st_6_5 x
  | 7, 0, _, _ => exact st_7_0 x
  | 7, 1, _, _ => exact st_7_1 x
  | 7, 2, _, _ => exact st_7_2 x
  | 7, 3, _, _ => exact st_7_3 x
  | 7, 4, _, _ => exact st_7_4 x
  | 7, 5, _, _ => exact st_7_5 x
  | 7, 6, _, _ => exact st_7_6 x
  | 8, 0, _, _ => exact st_8_0 x
  | 8, 1, _, _ => exact st_8_1 x
  | 8, 2, _, _ => exact st_8_2 x
  | 8, 3, _, _ => exact st_8_3 x
  | 8, 4, _, _ => exact st_8_4 x
  | 8, 5, _, _ => exact st_8_5 x
  | 8, 6, _, _ => exact st_8_6 x
  | 8, 7, _, _ => exact st_8_7 x
  | 0, t, _, ht => omega
  | 1, t + 1, _, ht => omega
  | 2, t + 2, _, ht => omega
  | 3, t + 3, _, ht => omega
  | 4, t + 4, _, ht => omega
  | 5, t + 5, _, ht => omega
  | 6, t + 6, _, ht => omega
  | 7, t + 7, _, ht => omega
  | 8, t + 8, _, ht => omega
  | K + 9, t, hK, _ => omega
theorem Tp_0 (x : Int64) : ∀ K : Nat, K ≤ 8 → Tp x K 0 = 0 := by
  intro K hK
  unfold Tp
  rw [Nat.sub_zero, Int.ediv_eq_zero_of_lt (Int.emod_nonneg _ (by have : (0 : Int) < 2 ^ (8 * K) := Int.pow_pos (by decide); omega)) (Int.emod_lt_of_pos _ (Int.pow_pos (by decide)))]
  rfl
def clamp (j A K : Nat) : Nat := if j - A ≤ K then j - A else K
abbrev tp (x : Int64) (A K : Int32) (j : Nat) : Int64 := Tp x K.toInt.toNat (clamp j A.toInt.toNat K.toInt.toNat)
theorem sh_eq {K : Int32} {i : Int32} {k t : Nat} (hK : K.toInt = k) (hi : i.toInt = t) (h : t < k) (h8 : k ≤ 8) : (8 : Int32) * (K - (1 : Int32) - i) = Int32.ofNat (8 * (k - 1 - t)) := by
  apply Int32.toInt_inj.mp
  have q1 := c_isub K 1
  have q2 := c_isub (K - 1) i
  have q3 := c_imul 8 (K - 1 - i)
  have r1 := rng32 (K - 1)
  have r2 := rng32 (K - 1 - i)
  have r3 := rng32 ((8 : Int32) * (K - (1 : Int32) - i))
  rw [show (1 : Int32).toInt = 1 from rfl] at q1
  rw [show (8 : Int32).toInt = 8 from rfl] at q3
  rw [Int32.toInt_ofNat_of_lt (by omega)]
  omega
theorem d3_0 : decode method_3_code 0 = .ok (.iload_n 0, 1) := by decide +kernel
theorem d3_1 : decode method_3_code 1 = .ok (.iload_n 1, 1) := by decide +kernel
theorem d3_2 : decode method_3_code 2 = .ok (.if_icmp .lt 14, 3) := by decide +kernel
theorem d3_5 : decode method_3_code 5 = .ok (.iload_n 0, 1) := by decide +kernel
theorem d3_6 : decode method_3_code 6 = .ok (.iload_n 1, 1) := by decide +kernel
theorem d3_7 : decode method_3_code 7 = .ok (.iload_n 2, 1) := by decide +kernel
theorem d3_8 : decode method_3_code 8 = .ok (.iadd, 1) := by decide +kernel
theorem d3_9 : decode method_3_code 9 = .ok (.if_icmp .ge 7, 3) := by decide +kernel
theorem d3_12 : decode method_3_code 12 = .ok (.iconst 1, 1) := by decide +kernel
theorem d3_13 : decode method_3_code 13 = .ok (.goto 4, 3) := by decide +kernel
theorem d3_16 : decode method_3_code 16 = .ok (.iconst 0, 1) := by decide +kernel
theorem d3_17 : decode method_3_code 17 = .ok (.ireturn, 1) := by decide +kernel
theorem pn0 : plainName "com/example/envelope_to_bits/envelopetobits/NetworkOrderWritePinLaw" = true := by first | (simp [plainName, overriddenIn]; done) | decide +kernel
theorem ef1 (m : MethodId) (j : Int32) (A : Int32) (K : Int32) : entryFrame m #[(.int j), (.int A), (.int K)] 3 = mkF m 0 #[.val (.int j), .val (.int A), .val (.int K)] [] := by first | (simp [entryFrame, mkF, argsToLocals, Value.category]; done) | rfl
abbrev Q_inside (Z : State) (h0 : Heap) (j : Int32) (A : Int32) (K : Int32) : Option Value → Heap → Prop := fun v h' => v = some (.int (b2i (ins j A K))) ∧ h0 = h'
abbrev R_inside : Room := { frames := 0, cells := 0, slots := 0, locals := 0 }
set_option maxRecDepth 65536 in
set_option maxHeartbeats 40000000 in
theorem m_inside (l : Launch) (Z : State) (a0 : Array Value) (hw : ∀ d ∈ tables_1, d.before a0 Z = true) (j : Int32) (A : Int32) (K : Int32) (h0 : Heap) (n0 : Nat) (Z0 : n0 ≤ h0.size)  : Met l Z (⟨"com/example/envelope_to_bits/envelopetobits/NetworkOrderWritePinLaw", "inside", "(III)Z"⟩ : MethodName) method_3_code 3 (some .boolean) R_inside #[(.int j), (.int A), (.int K)] h0 n0 (Q_inside Z h0 j A K) := by
  refine Met.of (plainFor_of_name pn0) (fun m => ef1 m j A K) ?_
  intro p e s m args below meth c C
  refine G.iloadN C d3_0 rfl (n := 1) rfl ?_
  refine G.iloadN C d3_1 rfl (n := 2) rfl ?_
  refine G.icmp_lt C (A := j.toInt) (B := A.toInt) rfl rfl d3_2 (by decide) (by decide) (n := 5) (n' := 16) rfl (fun c2_1 => ?_) (fun c2_1 => ?_)
  · refine G.iconst C (v := (0 : Int32)) d3_16 (by decide) (n := 17) rfl ?_
    refine G.ireturn C d3_17 (rfl) (by simp) (by decide) (by decide) ?_
    exact ⟨by rw [show ins j A K = false from decide_eq_false (by omega)]; rfl, rfl⟩
  · refine G.iloadN C d3_5 rfl (n := 6) rfl ?_
    refine G.iloadN C d3_6 rfl (n := 7) rfl ?_
    refine G.iloadN C d3_7 rfl (n := 8) rfl ?_
    refine G.iadd C d3_8 (n := 9) rfl ?_
    refine G.icmp_ge C (A := j.toInt) (B := (A + K).toInt) rfl rfl d3_9 (by decide) (by decide) (n := 12) (n' := 16) rfl (fun c9_2 => ?_) (fun c9_2 => ?_)
    · refine G.iconst C (v := (0 : Int32)) d3_16 (by decide) (n := 17) rfl ?_
      refine G.ireturn C d3_17 (rfl) (by simp) (by decide) (by decide) ?_
      exact ⟨by rw [show ins j A K = false from decide_eq_false (by omega)]; rfl, rfl⟩
    · refine G.iconst C (v := (1 : Int32)) d3_12 (by decide) (n := 13) rfl ?_
      refine G.goto C d3_13 (by decide) (n := 17) (by decide) ?_
      refine G.ireturn C d3_17 (rfl) (by simp) (by decide) (by decide) ?_
      exact ⟨by rw [show ins j A K = true from decide_eq_true (by omega)]; rfl, rfl⟩
theorem d2_0 : decode method_4_code 0 = .ok (.iload_n 1, 1) := by decide +kernel
theorem d2_1 : decode method_4_code 1 = .ok (.iload_n 2, 1) := by decide +kernel
theorem d2_2 : decode method_4_code 2 = .ok (.iload_n 3, 1) := by decide +kernel
theorem d2_3 : decode method_4_code 3 = .ok (.invokestatic 24, 3) := by decide +kernel
theorem d2_6 : decode method_4_code 6 = .ok (.ifCond .ne 11, 3) := by decide +kernel
theorem d2_9 : decode method_4_code 9 = .ok (.aload_n 0, 1) := by decide +kernel
theorem d2_10 : decode method_4_code 10 = .ok (.iload_n 1, 1) := by decide +kernel
theorem d2_11 : decode method_4_code 11 = .ok (.baload, 1) := by decide +kernel
theorem d2_12 : decode method_4_code 12 = .ok (.iload 4, 2) := by decide +kernel
theorem d2_14 : decode method_4_code 14 = .ok (.if_icmp .ne 7, 3) := by decide +kernel
theorem d2_17 : decode method_4_code 17 = .ok (.iconst 1, 1) := by decide +kernel
theorem d2_18 : decode method_4_code 18 = .ok (.goto 4, 3) := by decide +kernel
theorem d2_21 : decode method_4_code 21 = .ok (.iconst 0, 1) := by decide +kernel
theorem d2_22 : decode method_4_code 22 = .ok (.ireturn, 1) := by decide +kernel
theorem pd0 : parseMethodDescriptor "(III)Z" = some ⟨[.int, .int, .int], some .boolean⟩ := by decide +kernel
theorem ef2 (m : MethodId) (b : Addr) (j : Int32) (A : Int32) (K : Int32) (sv : Int32) : entryFrame m #[(.ref b), (.int j), (.int A), (.int K), (.int sv)] 5 = mkF m 0 #[.val (.ref b), .val (.int j), .val (.int A), .val (.int K), .val (.int sv)] [] := by first | (simp [entryFrame, mkF, argsToLocals, Value.category]; done) | rfl
abbrev Q_keeps (Z : State) (h0 : Heap) (b : Addr) (j : Int32) (A : Int32) (K : Int32) (sv : Int32) (bs : List Int32) (el : Int32) : Option Value → Heap → Prop := fun v h' => v = some (.int 1) ∧ h0 = h'
abbrev R_keeps : Room := { frames := 1, cells := 0, slots := 0, locals := 14 }
set_option maxRecDepth 65536 in
set_option maxHeartbeats 40000000 in
theorem m_keeps (l : Launch) (Z : State) (a0 : Array Value) (hw : ∀ d ∈ tables_1, d.before a0 Z = true) (b : Addr) (j : Int32) (A : Int32) (K : Int32) (sv : Int32) (bs : List Int32) (el : Int32) (h0 : Heap) (n0 : Nat) (Z0 : n0 ≤ h0.size) (O_b : Ints Z h0 b .byte bs) (q_0 : 0 ≤ j.toInt) (q_1 : bs[j.toInt.toNat]? = some el) (q_2 : ins j A K = false → el = sv) : Met l Z (⟨"com/example/envelope_to_bits/envelopetobits/NetworkOrderWritePinLaw", "keeps", "([BIIIB)Z"⟩ : MethodName) method_4_code 5 (some .boolean) R_keeps #[(.ref b), (.int j), (.int A), (.int K), (.int sv)] h0 n0 (Q_keeps Z h0 b j A K sv bs el) := by
  refine Met.of (plainFor_of_name pn0) (fun m => ef2 m b j A K sv) ?_
  intro p e s m args below meth c C
  refine G.iloadN C d2_0 rfl (n := 1) rfl ?_
  refine G.iloadN C d2_1 rfl (n := 2) rfl ?_
  refine G.iloadN C d2_2 rfl (n := 3) rfl ?_
  refine G.callS C (argsL := [(.int j), (.int A), (.int K)]) (yc := (⟨"com/example/envelope_to_bits/envelopetobits/NetworkOrderWritePinLaw", "inside", "(III)Z"⟩ : MethodName)) (wd hw 10 rfl) (wd hw 11 rfl) (wd hw 8 rfl) (wd hw 12 rfl) (by decide) (m_inside l Z a0 hw j A K h0 n0 Z0) rfl (by decide) (W := 0) rfl (by decide) (c' := 0) (s' := 0) rfl rfl (by decide) (by decide) d2_3 (n := 6) rfl pd0 rfl rfl ?_
  rintro _ _ ⟨rfl, rfl⟩
  refine G.if_ne C (A := (b2i (ins j A K)).toInt) rfl d2_6 (by decide) (by decide) (n := 9) (n' := 17) rfl (fun c6_3 c6_3i => ?_) (fun c6_3 c6_3i => ?_)
  · refine G.iconst C (v := (1 : Int32)) d2_17 (by decide) (n := 18) rfl ?_
    refine G.goto C d2_18 (by decide) (n := 22) (by decide) ?_
    refine G.ireturn C d2_22 (rfl) (by simp) (by decide) (by decide) ?_
    exact ⟨rfl, rfl⟩
  · refine G.aloadN C d2_9 rfl rfl (n := 10) rfl ?_
    refine G.iloadN C d2_10 rfl (n := 11) rfl ?_
    refine G.baload C (x := el) O_b q_0 q_1 d2_11 (n := 12) rfl ?_
    refine G.iload C d2_12 rfl (n := 14) rfl ?_
    refine G.icmp_ne C (A := el.toInt) (B := sv.toInt) rfl rfl d2_14 (by decide) (by decide) (n := 17) (n' := 21) rfl (fun c14_4 c14_4i => ?_) (fun c14_4 c14_4i => ?_)
    · exact absurd (q_2 (ins_0.mp c6_3)) c14_4
    refine G.iconst C (v := (1 : Int32)) d2_17 (by decide) (n := 18) rfl ?_
    refine G.goto C d2_18 (by decide) (n := 22) (by decide) ?_
    refine G.ireturn C d2_22 (rfl) (by simp) (by decide) (by decide) ?_
    exact ⟨rfl, rfl⟩
theorem d4_0 : decode method_5_code 0 = .ok (.iload_n 3, 1) := by decide +kernel
theorem d4_1 : decode method_5_code 1 = .ok (.iload 4, 2) := by decide +kernel
theorem d4_3 : decode method_5_code 3 = .ok (.iload 5, 2) := by decide +kernel
theorem d4_5 : decode method_5_code 5 = .ok (.invokestatic 24, 3) := by decide +kernel
theorem d4_8 : decode method_5_code 8 = .ok (.ifCond .eq 19, 3) := by decide +kernel
theorem d4_11 : decode method_5_code 11 = .ok (.lload_n 0, 1) := by decide +kernel
theorem d4_12 : decode method_5_code 12 = .ok (.bipush 8, 2) := by decide +kernel
theorem d4_14 : decode method_5_code 14 = .ok (.lshl, 1) := by decide +kernel
theorem d4_15 : decode method_5_code 15 = .ok (.aload_n 2, 1) := by decide +kernel
theorem d4_16 : decode method_5_code 16 = .ok (.iload_n 3, 1) := by decide +kernel
theorem d4_17 : decode method_5_code 17 = .ok (.baload, 1) := by decide +kernel
theorem d4_18 : decode method_5_code 18 = .ok (.sipush 255, 3) := by decide +kernel
theorem d4_21 : decode method_5_code 21 = .ok (.iand, 1) := by decide +kernel
theorem d4_22 : decode method_5_code 22 = .ok (.i2l, 1) := by decide +kernel
theorem d4_23 : decode method_5_code 23 = .ok (.lor, 1) := by decide +kernel
theorem d4_24 : decode method_5_code 24 = .ok (.goto 4, 3) := by decide +kernel
theorem d4_27 : decode method_5_code 27 = .ok (.lload_n 0, 1) := by decide +kernel
theorem d4_28 : decode method_5_code 28 = .ok (.lreturn, 1) := by decide +kernel
theorem ef3 (m : MethodId) (r : Int64) (b : Addr) (j : Int32) (A : Int32) (K : Int32) : entryFrame m #[(.long r), (.ref b), (.int j), (.int A), (.int K)] 6 = mkF m 0 #[.val (.long r), .second, .val (.ref b), .val (.int j), .val (.int A), .val (.int K)] [] := by first | (simp [entryFrame, mkF, argsToLocals, Value.category]; done) | rfl
abbrev Q_acc (Z : State) (h0 : Heap) (r : Int64) (b : Addr) (j : Int32) (A : Int32) (K : Int32) (bs : List Int32) (el : Int32) (r' : Int64) : Option Value → Heap → Prop := fun v h' => v = some (.long r') ∧ h0 = h'
abbrev R_acc : Room := { frames := 1, cells := 0, slots := 0, locals := 14 }
set_option maxRecDepth 65536 in
set_option maxHeartbeats 40000000 in
theorem m_acc (l : Launch) (Z : State) (a0 : Array Value) (hw : ∀ d ∈ tables_1, d.before a0 Z = true) (r : Int64) (b : Addr) (j : Int32) (A : Int32) (K : Int32) (bs : List Int32) (el : Int32) (r' : Int64) (h0 : Heap) (n0 : Nat) (Z0 : n0 ≤ h0.size) (O_b : Ints Z h0 b .byte bs) (q_0 : 0 ≤ j.toInt) (q_1 : bs[j.toInt.toNat]? = some el) (e_t : ins j A K = true → ((r <<< ((8 : Int32) &&& 0x3f).toInt64) ||| ((el &&& (255 : Int32)).toInt64)) = r') (e_f : ins j A K = false → r = r') : Met l Z (⟨"com/example/envelope_to_bits/envelopetobits/NetworkOrderWritePinLaw", "acc", "(J[BIII)J"⟩ : MethodName) method_5_code 6 (some .long) R_acc #[(.long r), (.ref b), (.int j), (.int A), (.int K)] h0 n0 (Q_acc Z h0 r b j A K bs el r') := by
  refine Met.of (plainFor_of_name pn0) (fun m => ef3 m r b j A K) ?_
  intro p e s m args below meth c C
  refine G.iloadN C d4_0 rfl (n := 1) rfl ?_
  refine G.iload C d4_1 rfl (n := 3) rfl ?_
  refine G.iload C d4_3 rfl (n := 5) rfl ?_
  refine G.callS C (argsL := [(.int j), (.int A), (.int K)]) (yc := (⟨"com/example/envelope_to_bits/envelopetobits/NetworkOrderWritePinLaw", "inside", "(III)Z"⟩ : MethodName)) (wd hw 10 rfl) (wd hw 11 rfl) (wd hw 8 rfl) (wd hw 12 rfl) (by decide) (m_inside l Z a0 hw j A K h0 n0 Z0) rfl (by decide) (W := 0) rfl (by decide) (c' := 0) (s' := 0) rfl rfl (by decide) (by decide) d4_5 (n := 8) rfl pd0 rfl rfl ?_
  rintro _ _ ⟨rfl, rfl⟩
  refine G.if_eq C (A := (b2i (ins j A K)).toInt) rfl d4_8 (by decide) (by decide) (n := 11) (n' := 27) rfl (fun c8_3 c8_3i => ?_) (fun c8_3 c8_3i => ?_)
  · refine G.lloadN C d4_27 rfl (n := 28) rfl ?_
    refine G.lreturn C d4_28 (by decide) (by decide) ?_
    exact ⟨by rw [e_f (ins_0.mp c8_3)], rfl⟩
  · refine G.lloadN C d4_11 rfl (n := 12) rfl ?_
    refine G.bipush C (v := (8 : Int32)) d4_12 (by decide) (n := 14) rfl ?_
    refine G.lshl C d4_14 (n := 15) rfl ?_
    refine G.aloadN C d4_15 rfl rfl (n := 16) rfl ?_
    refine G.iloadN C d4_16 rfl (n := 17) rfl ?_
    refine G.baload C (x := el) O_b q_0 q_1 d4_17 (n := 18) rfl ?_
    refine G.sipush C (v := (255 : Int32)) d4_18 (by decide) (n := 21) rfl ?_
    refine G.iand C d4_21 (n := 22) rfl ?_
    refine G.i2l C d4_22 (n := 23) rfl ?_
    refine G.lor C d4_23 (n := 24) rfl ?_
    refine G.goto C d4_24 (by decide) (n := 28) (by decide) ?_
    refine G.lreturn C d4_28 (by decide) (by decide) ?_
    exact ⟨by rw [e_t (by rw [← Bool.not_eq_false]; exact fun q => c8_3 (ins_0.mpr q))], rfl⟩
theorem wr_in {ts : List Int32} {x : Int64} {A i K i2 ix sh : Int32} (e1 : ix.toInt = A.toInt + i.toInt) (e2 : i2.toInt = i.toInt + 1) (hi : 0 ≤ i.toInt) (hA : 0 ≤ A.toInt) (hl : A.toInt + i.toInt < ts.length) (hs : sh = Int32.ofNat (8 * (K.toInt.toNat - 1 - i.toInt.toNat)))
    (j3 : ∀ t : Nat, (t : Int) < i.toInt → ts[A.toInt.toNat + t]? = some (byt (shu x (Int32.ofNat (8 * (K.toInt.toNat - 1 - t)))))) : ∀ t : Nat, (t : Int) < i2.toInt → (ts.set ix.toInt.toNat (byt (shu x sh)))[A.toInt.toNat + t]? = some (byt (shu x (Int32.ofNat (8 * (K.toInt.toNat - 1 - t))))) := by
  intro t ht
  have q : ix.toInt.toNat = A.toInt.toNat + i.toInt.toNat := by omega
  by_cases h : t = i.toInt.toNat
  · rw [q, h, List.getElem?_set_self (by omega), hs]
  · rw [List.getElem?_set_ne (by omega)]
    exact j3 t (by omega)
theorem wr_out {ts bs : List Int32} {v : Int32} {A i i2 ix : Int32} (e1 : ix.toInt = A.toInt + i.toInt) (e2 : i2.toInt = i.toInt + 1) (hi : 0 ≤ i.toInt) (hA : 0 ≤ A.toInt) (j4 : ∀ q : Nat, (q : Int) < A.toInt ∨ A.toInt + i.toInt ≤ q → ts[q]? = bs[q]?) : ∀ q : Nat, (q : Int) < A.toInt ∨ A.toInt + i2.toInt ≤ q → (ts.set ix.toInt.toNat v)[q]? = bs[q]? := by
  intro q hq
  rw [List.getElem?_set_ne (by omega)]
  exact j4 q (by omega)
theorem d1_0 : decode prog_48_method_3_code 0 = .ok (.iconst 0, 1) := by decide +kernel
theorem d1_1 : decode prog_48_method_3_code 1 = .ok (.istore 5, 2) := by decide +kernel
theorem d1_3 : decode prog_48_method_3_code 3 = .ok (.iload 5, 2) := by decide +kernel
theorem d1_5 : decode prog_48_method_3_code 5 = .ok (.iload 4, 2) := by decide +kernel
theorem d1_7 : decode prog_48_method_3_code 7 = .ok (.if_icmp .ge 29, 3) := by decide +kernel
theorem d1_10 : decode prog_48_method_3_code 10 = .ok (.aload_n 0, 1) := by decide +kernel
theorem d1_11 : decode prog_48_method_3_code 11 = .ok (.iload_n 1, 1) := by decide +kernel
theorem d1_12 : decode prog_48_method_3_code 12 = .ok (.iload 5, 2) := by decide +kernel
theorem d1_14 : decode prog_48_method_3_code 14 = .ok (.iadd, 1) := by decide +kernel
theorem d1_15 : decode prog_48_method_3_code 15 = .ok (.lload_n 2, 1) := by decide +kernel
theorem d1_16 : decode prog_48_method_3_code 16 = .ok (.bipush 8, 2) := by decide +kernel
theorem d1_18 : decode prog_48_method_3_code 18 = .ok (.iload 4, 2) := by decide +kernel
theorem d1_20 : decode prog_48_method_3_code 20 = .ok (.iconst 1, 1) := by decide +kernel
theorem d1_21 : decode prog_48_method_3_code 21 = .ok (.isub, 1) := by decide +kernel
theorem d1_22 : decode prog_48_method_3_code 22 = .ok (.iload 5, 2) := by decide +kernel
theorem d1_24 : decode prog_48_method_3_code 24 = .ok (.isub, 1) := by decide +kernel
theorem d1_25 : decode prog_48_method_3_code 25 = .ok (.imul, 1) := by decide +kernel
theorem d1_26 : decode prog_48_method_3_code 26 = .ok (.lushr, 1) := by decide +kernel
theorem d1_27 : decode prog_48_method_3_code 27 = .ok (.l2i, 1) := by decide +kernel
theorem d1_28 : decode prog_48_method_3_code 28 = .ok (.i2b, 1) := by decide +kernel
theorem d1_29 : decode prog_48_method_3_code 29 = .ok (.bastore, 1) := by decide +kernel
theorem d1_30 : decode prog_48_method_3_code 30 = .ok (.iinc 5 1, 3) := by decide +kernel
theorem d1_33 : decode prog_48_method_3_code 33 = .ok (.goto (-30), 3) := by decide +kernel
theorem d1_36 : decode prog_48_method_3_code 36 = .ok (.iload_n 1, 1) := by decide +kernel
theorem d1_37 : decode prog_48_method_3_code 37 = .ok (.iload 4, 2) := by decide +kernel
theorem d1_39 : decode prog_48_method_3_code 39 = .ok (.iadd, 1) := by decide +kernel
theorem d1_40 : decode prog_48_method_3_code 40 = .ok (.ireturn, 1) := by decide +kernel
theorem pn1 : plainName "com/example/envelope_to_bits/envelopetobits/NetworkOrder" = true := by first | (simp [plainName, overriddenIn]; done) | decide +kernel
theorem ef4 (m : MethodId) (b : Addr) (A : Int32) (x : Int64) (K : Int32) : entryFrame m #[(.ref b), (.int A), (.long x), (.int K)] 6 = mkF m 0 #[.val (.ref b), .val (.int A), .val (.long x), .second, .val (.int K), .unset] [] := by first | (simp [entryFrame, mkF, argsToLocals, Value.category]; done) | rfl
abbrev Q_write (Z : State) (h0 : Heap) (b : Addr) (A : Int32) (x : Int64) (K : Int32) (bs : List Int32) : Option Value → Heap → Prop := fun v h' => v = some (.int (A + K)) ∧ Keep h0 h' [b] ∧ ∃ ts, Ints Z h' b .byte ts ∧ ts.length = bs.length ∧ (∀ t : Nat, (t : Int) < K.toInt → ts[A.toInt.toNat + t]? = some (byt (shu x (Int32.ofNat (8 * (K.toInt.toNat - 1 - t)))))) ∧ ∀ q : Nat, (q : Int) < A.toInt ∨ A.toInt + K.toInt ≤ q → ts[q]? = bs[q]?
abbrev R_write : Room := { frames := 0, cells := 0, slots := 0, locals := 0 }
set_option maxRecDepth 65536 in
set_option maxHeartbeats 40000000 in
theorem m_write (l : Launch) (Z : State) (a0 : Array Value) (hw : ∀ d ∈ tables_1, d.before a0 Z = true) (b : Addr) (A : Int32) (x : Int64) (K : Int32) (bs : List Int32) (h0 : Heap) (n0 : Nat) (Z0 : n0 ≤ h0.size) (O_b : Ints Z h0 b .byte bs) (g_b : n0 ≤ b) (q_0 : 0 ≤ A.toInt) (q_1 : 0 ≤ K.toInt) (q_8 : K.toInt ≤ 8) (q_2 : A.toInt + K.toInt ≤ bs.length) : Met l Z (⟨"com/example/envelope_to_bits/envelopetobits/NetworkOrder", "write", "([BIJI)I"⟩ : MethodName) prog_48_method_3_code 6 (some .int) R_write #[(.ref b), (.int A), (.long x), (.int K)] h0 n0 (Q_write Z h0 b A x K bs) := by
  refine Met.of (plainFor_of_name pn1) (fun m => ef4 m b A x K) ?_
  intro p e s m args below meth c C
  have ql := O_b.len
  refine G.iconst C (v := (0 : Int32)) d1_0 (by decide) (n := 1) rfl ?_
  refine G.istore C d1_1 (l' := #[.val (.ref b), .val (.int A), .val (.long x), .second, .val (.int K), .val (.int (0 : Int32))]) rfl (n := 3) rfl ?_
  have loop1 : ∀ k : Nat, ∀ (i : Int32) (ts : List Int32) (hL : Heap), (Ints Z hL b .byte ts) → (n0 ≤ hL.size) → (Keep h0 hL [b]) → (0 ≤ i.toInt) → (i.toInt + (k : Int) = K.toInt) → (ts.length = bs.length) → (∀ t : Nat, (t : Int) < i.toInt → ts[A.toInt.toNat + t]? = some (byt (shu x (Int32.ofNat (8 * (K.toInt.toNat - 1 - t)))))) → (∀ q : Nat, (q : Int) < A.toInt ∨ A.toInt + i.toInt ≤ q → ts[q]? = bs[q]?) → Go p l e R_write s m args below meth c n0 (Q_write Z h0 b A x K bs) 0 0 hL (mkF m 3 #[.val (.ref b), .val (.int A), .val (.long x), .second, .val (.int K), .val (.int i)] []) := by
    intro k
    induction k with
    | zero =>
      intro i ts hL J2 Z3 K4 j0 j1 j2 j3 j4
      refine G.iload C d1_3 rfl (n := 5) rfl ?_
      refine G.iload C d1_5 rfl (n := 7) rfl ?_
      refine G.icmp_ge C (A := i.toInt) (B := K.toInt) rfl rfl d1_7 (by decide) (by decide) (n := 10) (n' := 36) rfl (fun c7_5 => ?_) (fun c7_5 => ?_)
      rotate_left
      · exact absurd c7_5 (by omega)
      refine G.iloadN C d1_36 rfl (n := 37) rfl ?_
      refine G.iload C d1_37 rfl (n := 39) rfl ?_
      refine G.iadd C d1_39 (n := 40) rfl ?_
      refine G.ireturn C d1_40 (rfl) (by simp) (by decide) (by decide) ?_
      have ek : i.toInt = K.toInt := by omega
      exact ⟨rfl, K4, ts, J2, j2, ek ▸ j3, ek ▸ j4⟩
    | succ k ih =>
      intro i ts hL J2 Z3 K4 j0 j1 j2 j3 j4
      refine G.iload C d1_3 rfl (n := 5) rfl ?_
      refine G.iload C d1_5 rfl (n := 7) rfl ?_
      refine G.icmp_ge C (A := i.toInt) (B := K.toInt) rfl rfl d1_7 (by decide) (by decide) (n := 10) (n' := 36) rfl (fun c7_6 => ?_) (fun c7_6 => ?_)
      · exact absurd c7_6 (by omega)
      refine G.aloadN C d1_10 rfl rfl (n := 11) rfl ?_
      refine G.iloadN C d1_11 rfl (n := 12) rfl ?_
      refine G.iload C d1_12 rfl (n := 14) rfl ?_
      refine G.iadd C d1_14 (n := 15) rfl ?_
      refine G.lloadN C d1_15 rfl (n := 16) rfl ?_
      refine G.bipush C (v := (8 : Int32)) d1_16 (by decide) (n := 18) rfl ?_
      refine G.iload C d1_18 rfl (n := 20) rfl ?_
      refine G.iconst C (v := (1 : Int32)) d1_20 (by decide) (n := 21) rfl ?_
      refine G.isub C d1_21 (n := 22) rfl ?_
      refine G.iload C d1_22 rfl (n := 24) rfl ?_
      refine G.isub C d1_24 (n := 25) rfl ?_
      refine G.imul C d1_25 (n := 26) rfl ?_
      refine G.lushr C d1_26 (n := 27) rfl ?_
      refine G.l2i C d1_27 (n := 28) rfl ?_
      refine G.i2b C d1_28 (n := 29) rfl ?_
      have e1 : (A + i).toInt = A.toInt + i.toInt := iadd_i q_0 j0 (by omega)
      refine G.bastore C J2 (by rw [e1]; omega) (by rw [e1, j2]; omega) g_b d1_29 (n := 30) rfl ?_
      intro h7 K8 W9 O10
      have Z11 : n0 ≤ h7.size := Nat.le_trans Z3 K8.1
      have K12 : Keep h0 h7 [b] := Keep.tr K4 K8 (allS (Or.inl (List.mem_of_getElem? (i := 0) rfl)) all0)
      have ei : (i + (1 : Int32)).toInt = i.toInt + 1 := iadd_i j0 (by decide) (by rw [show (1 : Int32).toInt = 1 from rfl]; omega)
      refine G.iinc C (v := (1 : Int32)) d1_30 (by decide) rfl (l' := #[.val (.ref b), .val (.int A), .val (.long x), .second, .val (.int K), .val (.int (i + (1 : Int32)))]) rfl (n := 33) rfl ?_
      refine G.goto C d1_33 (by decide) (n := 3) (by decide) ?_
      exact ih (i + (1 : Int32)) (ts.set (A + i).toInt.toNat (nar .byte ((((x.toUInt64 >>> (((8 : Int32) * ((K - (1 : Int32)) - i)) &&& 0x3f).toInt64.toUInt64).toInt64).toInt32).toInt8.toInt32))) h7 O10 Z11 K12 (by rw [ei]; omega) (by rw [ei]; omega) (by rw [List.length_set]; exact j2) (wr_in e1 ei j0 q_0 (by rw [j2]; omega) (sh_eq (i := i) (k := K.toInt.toNat) (t := i.toInt.toNat) (by omega) (by omega) (by omega) (by omega)) j3) (wr_out e1 ei j0 q_0 j4)
  exact loop1 K.toInt.toNat (0 : Int32) bs h0 O_b Z0 (Keep.refl h0 _) (by decide) (by rw [show (0 : Int32).toInt = 0 from rfl]; omega) rfl (fun t ht => by rw [show (0 : Int32).toInt = 0 from rfl] at ht; omega) (fun q _ => rfl)
theorem keepL {ts : List Int32} {A K sv f : Int32} (hA : 0 ≤ A.toInt) (hK : 0 ≤ K.toInt) (hAK : A.toInt + K.toInt < 2147483648) (hsv : sv = f.toInt8.toInt32) (Hout : ∀ q : Nat, (q : Int) < A.toInt ∨ A.toInt + K.toInt ≤ q → ts[q]? = ([nar .byte sv, nar .byte sv, nar .byte sv, nar .byte sv, nar .byte sv, nar .byte sv, nar .byte sv, nar .byte sv, nar .byte sv, nar .byte sv, nar .byte sv, nar .byte sv] : List Int32)[q]?) (j : Nat) (hj : j < 12) {J : Int32} (hJ : J.toInt = j) : ins J A K = false → ts.getD j 0 = sv := by
  intro h
  have h2 := of_decide_eq_false h
  rw [iadd_i hA hK hAK] at h2
  have h3 := Hout j (by omega)
  rw [List.getD_eq_getElem?_getD, h3, hsv, nar_b]
  match j, hj with
  | 0, _ => rfl
  | 1, _ => rfl
  | 2, _ => rfl
  | 3, _ => rfl
  | 4, _ => rfl
  | 5, _ => rfl
  | 6, _ => rfl
  | 7, _ => rfl
  | 8, _ => rfl
  | 9, _ => rfl
  | 10, _ => rfl
  | 11, _ => rfl
theorem accT {ts : List Int32} {x : Int64} {A K : Int32} (hA : 0 ≤ A.toInt) (hK : 0 ≤ K.toInt) (hK8 : K.toInt ≤ 8) (hAK : A.toInt + K.toInt < 2147483648) (Hin : ∀ t : Nat, (t : Int) < K.toInt → ts[A.toInt.toNat + t]? = some (byt (shu x (Int32.ofNat (8 * (K.toInt.toNat - 1 - t)))))) (j : Nat) (hj : j < 12) {J : Int32} (hJ : J.toInt = j) : ins J A K = true → ((tp x A K j <<< ((8 : Int32) &&& 0x3f).toInt64) ||| ((ts.getD j 0 &&& (255 : Int32)).toInt64)) = tp x A K (j + 1) := by
  intro h
  have h2 := of_decide_eq_true h
  rw [iadd_i hA hK hAK] at h2
  have h3 := Hin (j - A.toInt.toNat) (by omega)
  rw [show A.toInt.toNat + (j - A.toInt.toNat) = j by omega] at h3
  have e1 : clamp j A.toInt.toNat K.toInt.toNat = j - A.toInt.toNat := if_pos (by omega)
  have e2 : clamp (j + 1) A.toInt.toNat K.toInt.toNat = (j - A.toInt.toNat) + 1 := by
    unfold clamp
    rw [if_pos (by omega)]
    omega
  unfold tp
  rw [e1, e2, List.getD_eq_getElem?_getD, h3]
  exact stp x _ _ (by omega) (by omega)
theorem accF {x : Int64} {A K : Int32} (hA : 0 ≤ A.toInt) (hK : 0 ≤ K.toInt) (hAK : A.toInt + K.toInt < 2147483648) (j : Nat) (hj : j < 12) {J : Int32} (hJ : J.toInt = j) : ins J A K = false → tp x A K j = tp x A K (j + 1) := by
  intro h
  have h2 := of_decide_eq_false h
  rw [iadd_i hA hK hAK] at h2
  unfold tp
  have e : clamp j A.toInt.toNat K.toInt.toNat = clamp (j + 1) A.toInt.toNat K.toInt.toNat := by
    unfold clamp
    split <;> split <;> omega
  rw [e]
theorem tp_0 {x : Int64} {A K : Int32} (hK8 : K.toInt ≤ 8) : tp x A K 0 = 0 := by
  unfold tp
  rw [show clamp 0 A.toInt.toNat K.toInt.toNat = 0 by unfold clamp; split <;> omega]
  exact Tp_0 x _ (by omega)
theorem tp_end8 (x : Int64) : Tp x 8 8 = x := by
  apply Int64.toInt_inj.mp
  have p1 : ((Tp x 8 8).toInt - (x.toInt % 18446744073709551616 % 18446744073709551616 / 1)) % 18446744073709551616 = 0 := Tp_i x 8 8
  have r1 := rng64 (Tp x 8 8)
  have r2 := rng64 x
  omega
theorem tp_end (x : Int64) : ∀ K : Nat, K < 8 → Tp x K K = x &&& ((((1 : Int64) <<< ((Int32.ofNat (8 * K)) &&& 0x3f).toInt64)) - (1 : Int64))
  | 0, _ => by
    apply Int64.toInt_inj.mp
    have p1 : ((Tp x 0 0).toInt - (x.toInt % 18446744073709551616 % 1 / 1)) % 18446744073709551616 = 0 := Tp_i x 0 0
    have r1 := rng64 (Tp x 0 0)
    have r2 : (x &&& (0 : Int64)).toInt = x.toInt % ((2 ^ 0 : Nat) : Int) := c_maskL x 0 0 (by decide) (by decide)
    show _ = (x &&& (0 : Int64)).toInt
    omega
  | 1, _ => by
    apply Int64.toInt_inj.mp
    have p1 : ((Tp x 1 1).toInt - (x.toInt % 18446744073709551616 % 256 / 1)) % 18446744073709551616 = 0 := Tp_i x 1 1
    have r1 := rng64 (Tp x 1 1)
    have r2 : (x &&& (255 : Int64)).toInt = x.toInt % ((2 ^ 8 : Nat) : Int) := c_maskL x 255 8 (by decide) (by decide)
    show _ = (x &&& (255 : Int64)).toInt
    omega
  | 2, _ => by
    apply Int64.toInt_inj.mp
    have p1 : ((Tp x 2 2).toInt - (x.toInt % 18446744073709551616 % 65536 / 1)) % 18446744073709551616 = 0 := Tp_i x 2 2
    have r1 := rng64 (Tp x 2 2)
    have r2 : (x &&& (65535 : Int64)).toInt = x.toInt % ((2 ^ 16 : Nat) : Int) := c_maskL x 65535 16 (by decide) (by decide)
    show _ = (x &&& (65535 : Int64)).toInt
    omega
  | 3, _ => by
    apply Int64.toInt_inj.mp
    have p1 : ((Tp x 3 3).toInt - (x.toInt % 18446744073709551616 % 16777216 / 1)) % 18446744073709551616 = 0 := Tp_i x 3 3
    have r1 := rng64 (Tp x 3 3)
    have r2 : (x &&& (16777215 : Int64)).toInt = x.toInt % ((2 ^ 24 : Nat) : Int) := c_maskL x 16777215 24 (by decide) (by decide)
    show _ = (x &&& (16777215 : Int64)).toInt
    omega
  | 4, _ => by
    apply Int64.toInt_inj.mp
    have p1 : ((Tp x 4 4).toInt - (x.toInt % 18446744073709551616 % 4294967296 / 1)) % 18446744073709551616 = 0 := Tp_i x 4 4
    have r1 := rng64 (Tp x 4 4)
    have r2 : (x &&& (4294967295 : Int64)).toInt = x.toInt % ((2 ^ 32 : Nat) : Int) := c_maskL x 4294967295 32 (by decide) (by decide)
    show _ = (x &&& (4294967295 : Int64)).toInt
    omega
  | 5, _ => by
    apply Int64.toInt_inj.mp
    have p1 : ((Tp x 5 5).toInt - (x.toInt % 18446744073709551616 % 1099511627776 / 1)) % 18446744073709551616 = 0 := Tp_i x 5 5
    have r1 := rng64 (Tp x 5 5)
    have r2 : (x &&& (1099511627775 : Int64)).toInt = x.toInt % ((2 ^ 40 : Nat) : Int) := c_maskL x 1099511627775 40 (by decide) (by decide)
    show _ = (x &&& (1099511627775 : Int64)).toInt
    omega
  | 6, _ => by
    apply Int64.toInt_inj.mp
    have p1 : ((Tp x 6 6).toInt - (x.toInt % 18446744073709551616 % 281474976710656 / 1)) % 18446744073709551616 = 0 := Tp_i x 6 6
    have r1 := rng64 (Tp x 6 6)
    have r2 : (x &&& (281474976710655 : Int64)).toInt = x.toInt % ((2 ^ 48 : Nat) : Int) := c_maskL x 281474976710655 48 (by decide) (by decide)
    show _ = (x &&& (281474976710655 : Int64)).toInt
    omega
  | 7, _ => by
    apply Int64.toInt_inj.mp
    have p1 : ((Tp x 7 7).toInt - (x.toInt % 18446744073709551616 % 72057594037927936 / 1)) % 18446744073709551616 = 0 := Tp_i x 7 7
    have r1 := rng64 (Tp x 7 7)
    have r2 : (x &&& (72057594037927935 : Int64)).toInt = x.toInt % ((2 ^ 56 : Nat) : Int) := c_maskL x 72057594037927935 56 (by decide) (by decide)
    show _ = (x &&& (72057594037927935 : Int64)).toInt
    omega
  | K + 8, h => absurd h (by omega)
theorem fin_r {x z : Int64} {A K : Int32} (hA : 0 ≤ A.toInt) (hA4 : A.toInt ≤ 4) (hK : 0 ≤ K.toInt) (hK8 : K.toInt ≤ 8) (h : ((K ≠ (8 : Int32)) ∧ (K.toInt ≠ 8) ∧ (z = (x &&& (((1 : Int64) <<< (((8 : Int32) * K) &&& 0x3f).toInt64) - (1 : Int64))))) ∨ ((K = (8 : Int32)) ∧ (K.toInt = 8) ∧ (z = x))) : tp x A K 12 = z := by
  unfold tp
  rw [show clamp 12 A.toInt.toNat K.toInt.toNat = K.toInt.toNat by unfold clamp; split <;> omega]
  rcases h with ⟨-, h, r⟩ | ⟨-, h, r⟩
  · rw [r, tp_end x _ (by omega)]
    have e : (8 : Int32) * K = Int32.ofNat (8 * K.toInt.toNat) := by
      apply Int32.toInt_inj.mp
      have q := c_imul 8 K
      have r := rng32 (8 * K)
      rw [show (8 : Int32).toInt = 8 from rfl] at q
      rw [Int32.toInt_ofNat_of_lt (by omega)]
      omega
    rw [e]
  · rw [r, h]
    exact tp_end8 x
theorem rem_r {d : Int32} {D M : Int} (hd : d.toInt = D) (hD : 0 < D ∧ D = M + 1) (x : Int32) : 0 ≤ ((x &&& (2147483647 : Int32)) % d).toInt ∧ ((x &&& (2147483647 : Int32)) % d).toInt ≤ M := by
  have q1 := (c_irem (x &&& 2147483647) d D hd).1 (c_and x 2147483647 (by decide)).1
  have q2 := Int.emod_nonneg (x &&& 2147483647).toInt (b := D) (by omega)
  have q3 := Int.emod_lt_of_pos (x &&& 2147483647).toInt hD.1
  omega
theorem pd1 : parseMethodDescriptor "([BIJI)I" = some ⟨[(.array .byte), .int, .long, .int], some .int⟩ := by decide +kernel
theorem pd2 : parseMethodDescriptor "([BIIIB)Z" = some ⟨[(.array .byte), .int, .int, .int, .byte], some .boolean⟩ := by decide +kernel
theorem pd3 : parseMethodDescriptor "(J[BIII)J" = some ⟨[.long, (.array .byte), .int, .int, .int], some .long⟩ := by decide +kernel
theorem ef5 (m : MethodId) (i0 : Int32) (i1 : Int64) (i2 : Int32) (i3 : Int32) : entryFrame m #[(.int i0), (.long i1), (.int i2), (.int i3)] 15 = mkF m 0 #[.val (.int i0), .val (.long i1), .second, .val (.int i2), .val (.int i3), .unset, .unset, .unset, .unset, .unset, .unset, .unset, .unset, .unset, .unset] [] := by first | (simp [entryFrame, mkF, argsToLocals, Value.category]; done) | rfl
abbrev Q_law (Z : State) (h0 : Heap) (i0 : Int32) (i1 : Int64) (i2 : Int32) (i3 : Int32) : Option Value → Heap → Prop := fun v h' => v = some (.int 1)
set_option maxRecDepth 65536 in
set_option maxHeartbeats 40000000 in
theorem m_law (l : Launch) (Z : State) (a0 : Array Value) (hw : ∀ d ∈ tables_1, d.before a0 Z = true) (i0 : Int32) (i1 : Int64) (i2 : Int32) (i3 : Int32) (h0 : Heap) (n0 : Nat) (Z0 : n0 ≤ h0.size)  : Met l Z (⟨"com/example/envelope_to_bits/envelopetobits/NetworkOrderWritePinLaw", "law", "(IJII)Z"⟩ : MethodName) code 15 (some .boolean) room_1 #[(.int i0), (.long i1), (.int i2), (.int i3)] h0 n0 (Q_law Z h0 i0 i1 i2 i3) := by
  refine Met.of (plainFor_of_name pn0) (fun m => ef5 m i0 i1 i2 i3) ?_
  intro p e s m args below meth c C
  refine G.iloadN C at_0 rfl (n := 1) rfl ?_
  refine G.ldc C (v := (2147483647 : Int32)) (wd hw 0 rfl) at_1 (n := 3) rfl ?_
  refine G.iand C at_3 (n := 4) rfl ?_
  refine G.iconst C (v := (5 : Int32)) at_4 (by decide) (n := 5) rfl ?_
  refine G.irem C at_5 (by decide) (n := 6) rfl ?_
  refine G.istoreZ C at_6 (l' := fun z => #[.val (.int i0), .val (.long i1), .second, .val (.int i2), .val (.int i3), .val (.int z), .unset, .unset, .unset, .unset, .unset, .unset, .unset, .unset, .unset]) (fun _ => rfl) (n := 8) rfl ?_
  intro v1 hv1
  refine G.iloadN C at_8 rfl (n := 9) rfl ?_
  refine G.ldc C (v := (2147483647 : Int32)) (wd hw 0 rfl) at_9 (n := 11) rfl ?_
  refine G.iand C at_11 (n := 12) rfl ?_
  refine G.bipush C (v := (9 : Int32)) at_12 (by decide) (n := 14) rfl ?_
  refine G.irem C at_14 (by decide) (n := 15) rfl ?_
  refine G.istoreZ C at_15 (l' := fun z => #[.val (.int i0), .val (.long i1), .second, .val (.int i2), .val (.int i3), .val (.int v1), .val (.int z), .unset, .unset, .unset, .unset, .unset, .unset, .unset, .unset]) (fun _ => rfl) (n := 17) rfl ?_
  intro v2 hv2
  refine G.iload C at_17 rfl (n := 19) rfl ?_
  refine G.i2b C at_19 (n := 20) rfl ?_
  refine G.istoreZ C at_20 (l' := fun z => #[.val (.int i0), .val (.long i1), .second, .val (.int i2), .val (.int i3), .val (.int v1), .val (.int v2), .val (.int z), .unset, .unset, .unset, .unset, .unset, .unset, .unset]) (fun _ => rfl) (n := 22) rfl ?_
  intro v3 hv3
  have qA : 0 ≤ v1.toInt ∧ v1.toInt ≤ 4 := by rw [hv1]; exact rem_r (D := 5) (by decide) (by decide) _
  have qK : 0 ≤ v2.toInt ∧ v2.toInt ≤ 8 := by rw [hv2]; exact rem_r (D := 9) (by decide) (by decide) _
  refine G.bipush C (v := (12 : Int32)) at_22 (by decide) (n := 24) rfl ?_
  refine G.newarray C (ty := .byte) (cap := 12) (wd hw 1 rfl) rfl rfl (by decide) (by decide) (by decide) at_24 (n := 26) rfl (c' := 1) (s' := 12) rfl rfl (by decide) (by decide) ?_
  intro h4 b5 q6 E7 O8
  have O9 : Ints Z h4 b5 .byte [0, 0, 0, 0, 0, 0, 0, 0, 0, 0, 0, 0] := O8
  have g10 : n0 ≤ b5 := Nat.le_trans Z0 (Nat.le_of_eq q6.symm)
  have K11 := kext E7
  have Z12 : n0 ≤ h4.size := Nat.le_trans Z0 K11.1
  refine G.dup C at_26 rfl (n := 27) rfl ?_
  refine G.iconst C (v := (0 : Int32)) at_27 (by decide) (n := 28) rfl ?_
  refine G.iload C at_28 rfl (n := 30) rfl ?_
  refine G.bastore C O9 (by decide) (show (0 : Int32).toInt < ((12 : Nat) : Int) by decide) g10 at_30 (n := 31) rfl ?_
  intro h13 K14 W15 O16
  have O17 : Ints Z h13 b5 .byte [(nar .byte v3), 0, 0, 0, 0, 0, 0, 0, 0, 0, 0, 0] := O16
  have Z18 : n0 ≤ h13.size := Nat.le_trans Z12 K14.1
  refine G.dup C at_31 rfl (n := 32) rfl ?_
  refine G.iconst C (v := (1 : Int32)) at_32 (by decide) (n := 33) rfl ?_
  refine G.iload C at_33 rfl (n := 35) rfl ?_
  refine G.bastore C O17 (by decide) (show (1 : Int32).toInt < ((12 : Nat) : Int) by decide) g10 at_35 (n := 36) rfl ?_
  intro h19 K20 W21 O22
  have O23 : Ints Z h19 b5 .byte [(nar .byte v3), (nar .byte v3), 0, 0, 0, 0, 0, 0, 0, 0, 0, 0] := O22
  have Z24 : n0 ≤ h19.size := Nat.le_trans Z18 K20.1
  refine G.dup C at_36 rfl (n := 37) rfl ?_
  refine G.iconst C (v := (2 : Int32)) at_37 (by decide) (n := 38) rfl ?_
  refine G.iload C at_38 rfl (n := 40) rfl ?_
  refine G.bastore C O23 (by decide) (show (2 : Int32).toInt < ((12 : Nat) : Int) by decide) g10 at_40 (n := 41) rfl ?_
  intro h25 K26 W27 O28
  have O29 : Ints Z h25 b5 .byte [(nar .byte v3), (nar .byte v3), (nar .byte v3), 0, 0, 0, 0, 0, 0, 0, 0, 0] := O28
  have Z30 : n0 ≤ h25.size := Nat.le_trans Z24 K26.1
  refine G.dup C at_41 rfl (n := 42) rfl ?_
  refine G.iconst C (v := (3 : Int32)) at_42 (by decide) (n := 43) rfl ?_
  refine G.iload C at_43 rfl (n := 45) rfl ?_
  refine G.bastore C O29 (by decide) (show (3 : Int32).toInt < ((12 : Nat) : Int) by decide) g10 at_45 (n := 46) rfl ?_
  intro h31 K32 W33 O34
  have O35 : Ints Z h31 b5 .byte [(nar .byte v3), (nar .byte v3), (nar .byte v3), (nar .byte v3), 0, 0, 0, 0, 0, 0, 0, 0] := O34
  have Z36 : n0 ≤ h31.size := Nat.le_trans Z30 K32.1
  refine G.dup C at_46 rfl (n := 47) rfl ?_
  refine G.iconst C (v := (4 : Int32)) at_47 (by decide) (n := 48) rfl ?_
  refine G.iload C at_48 rfl (n := 50) rfl ?_
  refine G.bastore C O35 (by decide) (show (4 : Int32).toInt < ((12 : Nat) : Int) by decide) g10 at_50 (n := 51) rfl ?_
  intro h37 K38 W39 O40
  have O41 : Ints Z h37 b5 .byte [(nar .byte v3), (nar .byte v3), (nar .byte v3), (nar .byte v3), (nar .byte v3), 0, 0, 0, 0, 0, 0, 0] := O40
  have Z42 : n0 ≤ h37.size := Nat.le_trans Z36 K38.1
  refine G.dup C at_51 rfl (n := 52) rfl ?_
  refine G.iconst C (v := (5 : Int32)) at_52 (by decide) (n := 53) rfl ?_
  refine G.iload C at_53 rfl (n := 55) rfl ?_
  refine G.bastore C O41 (by decide) (show (5 : Int32).toInt < ((12 : Nat) : Int) by decide) g10 at_55 (n := 56) rfl ?_
  intro h43 K44 W45 O46
  have O47 : Ints Z h43 b5 .byte [(nar .byte v3), (nar .byte v3), (nar .byte v3), (nar .byte v3), (nar .byte v3), (nar .byte v3), 0, 0, 0, 0, 0, 0] := O46
  have Z48 : n0 ≤ h43.size := Nat.le_trans Z42 K44.1
  refine G.dup C at_56 rfl (n := 57) rfl ?_
  refine G.bipush C (v := (6 : Int32)) at_57 (by decide) (n := 59) rfl ?_
  refine G.iload C at_59 rfl (n := 61) rfl ?_
  refine G.bastore C O47 (by decide) (show (6 : Int32).toInt < ((12 : Nat) : Int) by decide) g10 at_61 (n := 62) rfl ?_
  intro h49 K50 W51 O52
  have O53 : Ints Z h49 b5 .byte [(nar .byte v3), (nar .byte v3), (nar .byte v3), (nar .byte v3), (nar .byte v3), (nar .byte v3), (nar .byte v3), 0, 0, 0, 0, 0] := O52
  have Z54 : n0 ≤ h49.size := Nat.le_trans Z48 K50.1
  refine G.dup C at_62 rfl (n := 63) rfl ?_
  refine G.bipush C (v := (7 : Int32)) at_63 (by decide) (n := 65) rfl ?_
  refine G.iload C at_65 rfl (n := 67) rfl ?_
  refine G.bastore C O53 (by decide) (show (7 : Int32).toInt < ((12 : Nat) : Int) by decide) g10 at_67 (n := 68) rfl ?_
  intro h55 K56 W57 O58
  have O59 : Ints Z h55 b5 .byte [(nar .byte v3), (nar .byte v3), (nar .byte v3), (nar .byte v3), (nar .byte v3), (nar .byte v3), (nar .byte v3), (nar .byte v3), 0, 0, 0, 0] := O58
  have Z60 : n0 ≤ h55.size := Nat.le_trans Z54 K56.1
  refine G.dup C at_68 rfl (n := 69) rfl ?_
  refine G.bipush C (v := (8 : Int32)) at_69 (by decide) (n := 71) rfl ?_
  refine G.iload C at_71 rfl (n := 73) rfl ?_
  refine G.bastore C O59 (by decide) (show (8 : Int32).toInt < ((12 : Nat) : Int) by decide) g10 at_73 (n := 74) rfl ?_
  intro h61 K62 W63 O64
  have O65 : Ints Z h61 b5 .byte [(nar .byte v3), (nar .byte v3), (nar .byte v3), (nar .byte v3), (nar .byte v3), (nar .byte v3), (nar .byte v3), (nar .byte v3), (nar .byte v3), 0, 0, 0] := O64
  have Z66 : n0 ≤ h61.size := Nat.le_trans Z60 K62.1
  refine G.dup C at_74 rfl (n := 75) rfl ?_
  refine G.bipush C (v := (9 : Int32)) at_75 (by decide) (n := 77) rfl ?_
  refine G.iload C at_77 rfl (n := 79) rfl ?_
  refine G.bastore C O65 (by decide) (show (9 : Int32).toInt < ((12 : Nat) : Int) by decide) g10 at_79 (n := 80) rfl ?_
  intro h67 K68 W69 O70
  have O71 : Ints Z h67 b5 .byte [(nar .byte v3), (nar .byte v3), (nar .byte v3), (nar .byte v3), (nar .byte v3), (nar .byte v3), (nar .byte v3), (nar .byte v3), (nar .byte v3), (nar .byte v3), 0, 0] := O70
  have Z72 : n0 ≤ h67.size := Nat.le_trans Z66 K68.1
  refine G.dup C at_80 rfl (n := 81) rfl ?_
  refine G.bipush C (v := (10 : Int32)) at_81 (by decide) (n := 83) rfl ?_
  refine G.iload C at_83 rfl (n := 85) rfl ?_
  refine G.bastore C O71 (by decide) (show (10 : Int32).toInt < ((12 : Nat) : Int) by decide) g10 at_85 (n := 86) rfl ?_
  intro h73 K74 W75 O76
  have O77 : Ints Z h73 b5 .byte [(nar .byte v3), (nar .byte v3), (nar .byte v3), (nar .byte v3), (nar .byte v3), (nar .byte v3), (nar .byte v3), (nar .byte v3), (nar .byte v3), (nar .byte v3), (nar .byte v3), 0] := O76
  have Z78 : n0 ≤ h73.size := Nat.le_trans Z72 K74.1
  refine G.dup C at_86 rfl (n := 87) rfl ?_
  refine G.bipush C (v := (11 : Int32)) at_87 (by decide) (n := 89) rfl ?_
  refine G.iload C at_89 rfl (n := 91) rfl ?_
  refine G.bastore C O77 (by decide) (show (11 : Int32).toInt < ((12 : Nat) : Int) by decide) g10 at_91 (n := 92) rfl ?_
  intro h79 K80 W81 O82
  have O83 : Ints Z h79 b5 .byte [(nar .byte v3), (nar .byte v3), (nar .byte v3), (nar .byte v3), (nar .byte v3), (nar .byte v3), (nar .byte v3), (nar .byte v3), (nar .byte v3), (nar .byte v3), (nar .byte v3), (nar .byte v3)] := O82
  have Z84 : n0 ≤ h79.size := Nat.le_trans Z78 K80.1
  refine G.astore C at_92 rfl (l' := #[.val (.int i0), .val (.long i1), .second, .val (.int i2), .val (.int i3), .val (.int v1), .val (.int v2), .val (.int v3), .val (.ref b5), .unset, .unset, .unset, .unset, .unset, .unset]) rfl (n := 94) rfl ?_
  refine G.aload C at_94 rfl rfl (n := 96) rfl ?_
  refine G.iload C at_96 rfl (n := 98) rfl ?_
  refine G.lloadN C at_98 rfl (n := 99) rfl ?_
  refine G.iload C at_99 rfl (n := 101) rfl ?_
  refine G.callS C (argsL := [(.ref b5), (.int v1), (.long i1), (.int v2)]) (yc := (⟨"com/example/envelope_to_bits/envelopetobits/NetworkOrder", "write", "([BIJI)I"⟩ : MethodName)) (wd hw 2 rfl) (wd hw 3 rfl) (wd hw 4 rfl) (wd hw 5 rfl) (by decide) (m_write l Z a0 hw b5 v1 i1 v2 [(nar .byte v3), (nar .byte v3), (nar .byte v3), (nar .byte v3), (nar .byte v3), (nar .byte v3), (nar .byte v3), (nar .byte v3), (nar .byte v3), (nar .byte v3), (nar .byte v3), (nar .byte v3)] h79 n0 Z84 O83 g10 qA.1 qK.1 qK.2 (by show _ ≤ ((12 : Nat) : Int); omega)) rfl (by decide) (W := 0) rfl (by decide) (c' := 1) (s' := 12) rfl rfl (by decide) (by decide) at_101 (n := 104) rfl pd1 rfl rfl ?_
  rintro _ h88 ⟨rfl, K85, ts, O86, Hl, Hin, Hout⟩
  have Z89 : n0 ≤ h88.size := Nat.le_trans Z84 K85.1
  refine G.istore C at_104 (l' := #[.val (.int i0), .val (.long i1), .second, .val (.int i2), .val (.int i3), .val (.int v1), .val (.int v2), .val (.int v3), .val (.ref b5), .val (.int (v1 + v2)), .unset, .unset, .unset, .unset, .unset]) rfl (n := 106) rfl ?_
  refine G.iload C at_106 rfl (n := 108) rfl ?_
  refine G.iload C at_108 rfl (n := 110) rfl ?_
  refine G.iload C at_110 rfl (n := 112) rfl ?_
  refine G.iadd C at_112 (n := 113) rfl ?_
  refine G.icmp_eq C (A := (v1 + v2).toInt) (B := (v1 + v2).toInt) rfl rfl at_113 (by decide) (by decide) (n := 116) (n' := 118) rfl (fun c113_90 c113_90i => ?_) (fun c113_90 c113_90i => ?_)
  rotate_left
  · exact absurd rfl c113_90
  refine G.aload C at_118 rfl rfl (n := 120) rfl ?_
  refine G.iconst C (v := (0 : Int32)) at_120 (by decide) (n := 121) rfl ?_
  refine G.iload C at_121 rfl (n := 123) rfl ?_
  refine G.iload C at_123 rfl (n := 125) rfl ?_
  refine G.iload C at_125 rfl (n := 127) rfl ?_
  refine G.callS C (argsL := [(.ref b5), (.int (0 : Int32)), (.int v1), (.int v2), (.int v3)]) (yc := (⟨"com/example/envelope_to_bits/envelopetobits/NetworkOrderWritePinLaw", "keeps", "([BIIIB)Z"⟩ : MethodName)) (wd hw 6 rfl) (wd hw 7 rfl) (wd hw 8 rfl) (wd hw 9 rfl) (by decide) (m_keeps l Z a0 hw b5 (0 : Int32) v1 v2 v3 ts (ts.getD 0 0) h88 n0 Z89 O86 (by decide) (getD_at (by rw [Hl]; exact (show (0 : Nat) < 12 by decide))) (keepL qA.1 qK.1 (by omega) hv3 Hout 0 (by decide) rfl)) rfl (by decide) (W := 0) rfl (by decide) (c' := 1) (s' := 12) rfl rfl (by decide) (by decide) at_127 (n := 130) rfl pd2 rfl rfl ?_
  rintro _ _ ⟨rfl, rfl⟩
  refine G.if_eq C (A := 1) (by decide) at_130 (by decide) (by decide) (n := 133) (n' := 308) rfl (fun c130_93 c130_93i => ?_) (fun c130_93 c130_93i => ?_)
  · exact absurd c130_93 (by decide)
  refine G.aload C at_133 rfl rfl (n := 135) rfl ?_
  refine G.iconst C (v := (1 : Int32)) at_135 (by decide) (n := 136) rfl ?_
  refine G.iload C at_136 rfl (n := 138) rfl ?_
  refine G.iload C at_138 rfl (n := 140) rfl ?_
  refine G.iload C at_140 rfl (n := 142) rfl ?_
  refine G.callS C (argsL := [(.ref b5), (.int (1 : Int32)), (.int v1), (.int v2), (.int v3)]) (yc := (⟨"com/example/envelope_to_bits/envelopetobits/NetworkOrderWritePinLaw", "keeps", "([BIIIB)Z"⟩ : MethodName)) (wd hw 6 rfl) (wd hw 7 rfl) (wd hw 8 rfl) (wd hw 9 rfl) (by decide) (m_keeps l Z a0 hw b5 (1 : Int32) v1 v2 v3 ts (ts.getD 1 0) h88 n0 Z89 O86 (by decide) (getD_at (by rw [Hl]; exact (show (1 : Nat) < 12 by decide))) (keepL qA.1 qK.1 (by omega) hv3 Hout 1 (by decide) rfl)) rfl (by decide) (W := 0) rfl (by decide) (c' := 1) (s' := 12) rfl rfl (by decide) (by decide) at_142 (n := 145) rfl pd2 rfl rfl ?_
  rintro _ _ ⟨rfl, rfl⟩
  refine G.if_eq C (A := 1) (by decide) at_145 (by decide) (by decide) (n := 148) (n' := 308) rfl (fun c145_96 c145_96i => ?_) (fun c145_96 c145_96i => ?_)
  · exact absurd c145_96 (by decide)
  refine G.aload C at_148 rfl rfl (n := 150) rfl ?_
  refine G.iconst C (v := (2 : Int32)) at_150 (by decide) (n := 151) rfl ?_
  refine G.iload C at_151 rfl (n := 153) rfl ?_
  refine G.iload C at_153 rfl (n := 155) rfl ?_
  refine G.iload C at_155 rfl (n := 157) rfl ?_
  refine G.callS C (argsL := [(.ref b5), (.int (2 : Int32)), (.int v1), (.int v2), (.int v3)]) (yc := (⟨"com/example/envelope_to_bits/envelopetobits/NetworkOrderWritePinLaw", "keeps", "([BIIIB)Z"⟩ : MethodName)) (wd hw 6 rfl) (wd hw 7 rfl) (wd hw 8 rfl) (wd hw 9 rfl) (by decide) (m_keeps l Z a0 hw b5 (2 : Int32) v1 v2 v3 ts (ts.getD 2 0) h88 n0 Z89 O86 (by decide) (getD_at (by rw [Hl]; exact (show (2 : Nat) < 12 by decide))) (keepL qA.1 qK.1 (by omega) hv3 Hout 2 (by decide) rfl)) rfl (by decide) (W := 0) rfl (by decide) (c' := 1) (s' := 12) rfl rfl (by decide) (by decide) at_157 (n := 160) rfl pd2 rfl rfl ?_
  rintro _ _ ⟨rfl, rfl⟩
  refine G.if_eq C (A := 1) (by decide) at_160 (by decide) (by decide) (n := 163) (n' := 308) rfl (fun c160_99 c160_99i => ?_) (fun c160_99 c160_99i => ?_)
  · exact absurd c160_99 (by decide)
  refine G.aload C at_163 rfl rfl (n := 165) rfl ?_
  refine G.iconst C (v := (3 : Int32)) at_165 (by decide) (n := 166) rfl ?_
  refine G.iload C at_166 rfl (n := 168) rfl ?_
  refine G.iload C at_168 rfl (n := 170) rfl ?_
  refine G.iload C at_170 rfl (n := 172) rfl ?_
  refine G.callS C (argsL := [(.ref b5), (.int (3 : Int32)), (.int v1), (.int v2), (.int v3)]) (yc := (⟨"com/example/envelope_to_bits/envelopetobits/NetworkOrderWritePinLaw", "keeps", "([BIIIB)Z"⟩ : MethodName)) (wd hw 6 rfl) (wd hw 7 rfl) (wd hw 8 rfl) (wd hw 9 rfl) (by decide) (m_keeps l Z a0 hw b5 (3 : Int32) v1 v2 v3 ts (ts.getD 3 0) h88 n0 Z89 O86 (by decide) (getD_at (by rw [Hl]; exact (show (3 : Nat) < 12 by decide))) (keepL qA.1 qK.1 (by omega) hv3 Hout 3 (by decide) rfl)) rfl (by decide) (W := 0) rfl (by decide) (c' := 1) (s' := 12) rfl rfl (by decide) (by decide) at_172 (n := 175) rfl pd2 rfl rfl ?_
  rintro _ _ ⟨rfl, rfl⟩
  refine G.if_eq C (A := 1) (by decide) at_175 (by decide) (by decide) (n := 178) (n' := 308) rfl (fun c175_102 c175_102i => ?_) (fun c175_102 c175_102i => ?_)
  · exact absurd c175_102 (by decide)
  refine G.aload C at_178 rfl rfl (n := 180) rfl ?_
  refine G.iconst C (v := (4 : Int32)) at_180 (by decide) (n := 181) rfl ?_
  refine G.iload C at_181 rfl (n := 183) rfl ?_
  refine G.iload C at_183 rfl (n := 185) rfl ?_
  refine G.iload C at_185 rfl (n := 187) rfl ?_
  refine G.callS C (argsL := [(.ref b5), (.int (4 : Int32)), (.int v1), (.int v2), (.int v3)]) (yc := (⟨"com/example/envelope_to_bits/envelopetobits/NetworkOrderWritePinLaw", "keeps", "([BIIIB)Z"⟩ : MethodName)) (wd hw 6 rfl) (wd hw 7 rfl) (wd hw 8 rfl) (wd hw 9 rfl) (by decide) (m_keeps l Z a0 hw b5 (4 : Int32) v1 v2 v3 ts (ts.getD 4 0) h88 n0 Z89 O86 (by decide) (getD_at (by rw [Hl]; exact (show (4 : Nat) < 12 by decide))) (keepL qA.1 qK.1 (by omega) hv3 Hout 4 (by decide) rfl)) rfl (by decide) (W := 0) rfl (by decide) (c' := 1) (s' := 12) rfl rfl (by decide) (by decide) at_187 (n := 190) rfl pd2 rfl rfl ?_
  rintro _ _ ⟨rfl, rfl⟩
  refine G.if_eq C (A := 1) (by decide) at_190 (by decide) (by decide) (n := 193) (n' := 308) rfl (fun c190_105 c190_105i => ?_) (fun c190_105 c190_105i => ?_)
  · exact absurd c190_105 (by decide)
  refine G.aload C at_193 rfl rfl (n := 195) rfl ?_
  refine G.iconst C (v := (5 : Int32)) at_195 (by decide) (n := 196) rfl ?_
  refine G.iload C at_196 rfl (n := 198) rfl ?_
  refine G.iload C at_198 rfl (n := 200) rfl ?_
  refine G.iload C at_200 rfl (n := 202) rfl ?_
  refine G.callS C (argsL := [(.ref b5), (.int (5 : Int32)), (.int v1), (.int v2), (.int v3)]) (yc := (⟨"com/example/envelope_to_bits/envelopetobits/NetworkOrderWritePinLaw", "keeps", "([BIIIB)Z"⟩ : MethodName)) (wd hw 6 rfl) (wd hw 7 rfl) (wd hw 8 rfl) (wd hw 9 rfl) (by decide) (m_keeps l Z a0 hw b5 (5 : Int32) v1 v2 v3 ts (ts.getD 5 0) h88 n0 Z89 O86 (by decide) (getD_at (by rw [Hl]; exact (show (5 : Nat) < 12 by decide))) (keepL qA.1 qK.1 (by omega) hv3 Hout 5 (by decide) rfl)) rfl (by decide) (W := 0) rfl (by decide) (c' := 1) (s' := 12) rfl rfl (by decide) (by decide) at_202 (n := 205) rfl pd2 rfl rfl ?_
  rintro _ _ ⟨rfl, rfl⟩
  refine G.if_eq C (A := 1) (by decide) at_205 (by decide) (by decide) (n := 208) (n' := 308) rfl (fun c205_108 c205_108i => ?_) (fun c205_108 c205_108i => ?_)
  · exact absurd c205_108 (by decide)
  refine G.aload C at_208 rfl rfl (n := 210) rfl ?_
  refine G.bipush C (v := (6 : Int32)) at_210 (by decide) (n := 212) rfl ?_
  refine G.iload C at_212 rfl (n := 214) rfl ?_
  refine G.iload C at_214 rfl (n := 216) rfl ?_
  refine G.iload C at_216 rfl (n := 218) rfl ?_
  refine G.callS C (argsL := [(.ref b5), (.int (6 : Int32)), (.int v1), (.int v2), (.int v3)]) (yc := (⟨"com/example/envelope_to_bits/envelopetobits/NetworkOrderWritePinLaw", "keeps", "([BIIIB)Z"⟩ : MethodName)) (wd hw 6 rfl) (wd hw 7 rfl) (wd hw 8 rfl) (wd hw 9 rfl) (by decide) (m_keeps l Z a0 hw b5 (6 : Int32) v1 v2 v3 ts (ts.getD 6 0) h88 n0 Z89 O86 (by decide) (getD_at (by rw [Hl]; exact (show (6 : Nat) < 12 by decide))) (keepL qA.1 qK.1 (by omega) hv3 Hout 6 (by decide) rfl)) rfl (by decide) (W := 0) rfl (by decide) (c' := 1) (s' := 12) rfl rfl (by decide) (by decide) at_218 (n := 221) rfl pd2 rfl rfl ?_
  rintro _ _ ⟨rfl, rfl⟩
  refine G.if_eq C (A := 1) (by decide) at_221 (by decide) (by decide) (n := 224) (n' := 308) rfl (fun c221_111 c221_111i => ?_) (fun c221_111 c221_111i => ?_)
  · exact absurd c221_111 (by decide)
  refine G.aload C at_224 rfl rfl (n := 226) rfl ?_
  refine G.bipush C (v := (7 : Int32)) at_226 (by decide) (n := 228) rfl ?_
  refine G.iload C at_228 rfl (n := 230) rfl ?_
  refine G.iload C at_230 rfl (n := 232) rfl ?_
  refine G.iload C at_232 rfl (n := 234) rfl ?_
  refine G.callS C (argsL := [(.ref b5), (.int (7 : Int32)), (.int v1), (.int v2), (.int v3)]) (yc := (⟨"com/example/envelope_to_bits/envelopetobits/NetworkOrderWritePinLaw", "keeps", "([BIIIB)Z"⟩ : MethodName)) (wd hw 6 rfl) (wd hw 7 rfl) (wd hw 8 rfl) (wd hw 9 rfl) (by decide) (m_keeps l Z a0 hw b5 (7 : Int32) v1 v2 v3 ts (ts.getD 7 0) h88 n0 Z89 O86 (by decide) (getD_at (by rw [Hl]; exact (show (7 : Nat) < 12 by decide))) (keepL qA.1 qK.1 (by omega) hv3 Hout 7 (by decide) rfl)) rfl (by decide) (W := 0) rfl (by decide) (c' := 1) (s' := 12) rfl rfl (by decide) (by decide) at_234 (n := 237) rfl pd2 rfl rfl ?_
  rintro _ _ ⟨rfl, rfl⟩
  refine G.if_eq C (A := 1) (by decide) at_237 (by decide) (by decide) (n := 240) (n' := 308) rfl (fun c237_114 c237_114i => ?_) (fun c237_114 c237_114i => ?_)
  · exact absurd c237_114 (by decide)
  refine G.aload C at_240 rfl rfl (n := 242) rfl ?_
  refine G.bipush C (v := (8 : Int32)) at_242 (by decide) (n := 244) rfl ?_
  refine G.iload C at_244 rfl (n := 246) rfl ?_
  refine G.iload C at_246 rfl (n := 248) rfl ?_
  refine G.iload C at_248 rfl (n := 250) rfl ?_
  refine G.callS C (argsL := [(.ref b5), (.int (8 : Int32)), (.int v1), (.int v2), (.int v3)]) (yc := (⟨"com/example/envelope_to_bits/envelopetobits/NetworkOrderWritePinLaw", "keeps", "([BIIIB)Z"⟩ : MethodName)) (wd hw 6 rfl) (wd hw 7 rfl) (wd hw 8 rfl) (wd hw 9 rfl) (by decide) (m_keeps l Z a0 hw b5 (8 : Int32) v1 v2 v3 ts (ts.getD 8 0) h88 n0 Z89 O86 (by decide) (getD_at (by rw [Hl]; exact (show (8 : Nat) < 12 by decide))) (keepL qA.1 qK.1 (by omega) hv3 Hout 8 (by decide) rfl)) rfl (by decide) (W := 0) rfl (by decide) (c' := 1) (s' := 12) rfl rfl (by decide) (by decide) at_250 (n := 253) rfl pd2 rfl rfl ?_
  rintro _ _ ⟨rfl, rfl⟩
  refine G.if_eq C (A := 1) (by decide) at_253 (by decide) (by decide) (n := 256) (n' := 308) rfl (fun c253_117 c253_117i => ?_) (fun c253_117 c253_117i => ?_)
  · exact absurd c253_117 (by decide)
  refine G.aload C at_256 rfl rfl (n := 258) rfl ?_
  refine G.bipush C (v := (9 : Int32)) at_258 (by decide) (n := 260) rfl ?_
  refine G.iload C at_260 rfl (n := 262) rfl ?_
  refine G.iload C at_262 rfl (n := 264) rfl ?_
  refine G.iload C at_264 rfl (n := 266) rfl ?_
  refine G.callS C (argsL := [(.ref b5), (.int (9 : Int32)), (.int v1), (.int v2), (.int v3)]) (yc := (⟨"com/example/envelope_to_bits/envelopetobits/NetworkOrderWritePinLaw", "keeps", "([BIIIB)Z"⟩ : MethodName)) (wd hw 6 rfl) (wd hw 7 rfl) (wd hw 8 rfl) (wd hw 9 rfl) (by decide) (m_keeps l Z a0 hw b5 (9 : Int32) v1 v2 v3 ts (ts.getD 9 0) h88 n0 Z89 O86 (by decide) (getD_at (by rw [Hl]; exact (show (9 : Nat) < 12 by decide))) (keepL qA.1 qK.1 (by omega) hv3 Hout 9 (by decide) rfl)) rfl (by decide) (W := 0) rfl (by decide) (c' := 1) (s' := 12) rfl rfl (by decide) (by decide) at_266 (n := 269) rfl pd2 rfl rfl ?_
  rintro _ _ ⟨rfl, rfl⟩
  refine G.if_eq C (A := 1) (by decide) at_269 (by decide) (by decide) (n := 272) (n' := 308) rfl (fun c269_120 c269_120i => ?_) (fun c269_120 c269_120i => ?_)
  · exact absurd c269_120 (by decide)
  refine G.aload C at_272 rfl rfl (n := 274) rfl ?_
  refine G.bipush C (v := (10 : Int32)) at_274 (by decide) (n := 276) rfl ?_
  refine G.iload C at_276 rfl (n := 278) rfl ?_
  refine G.iload C at_278 rfl (n := 280) rfl ?_
  refine G.iload C at_280 rfl (n := 282) rfl ?_
  refine G.callS C (argsL := [(.ref b5), (.int (10 : Int32)), (.int v1), (.int v2), (.int v3)]) (yc := (⟨"com/example/envelope_to_bits/envelopetobits/NetworkOrderWritePinLaw", "keeps", "([BIIIB)Z"⟩ : MethodName)) (wd hw 6 rfl) (wd hw 7 rfl) (wd hw 8 rfl) (wd hw 9 rfl) (by decide) (m_keeps l Z a0 hw b5 (10 : Int32) v1 v2 v3 ts (ts.getD 10 0) h88 n0 Z89 O86 (by decide) (getD_at (by rw [Hl]; exact (show (10 : Nat) < 12 by decide))) (keepL qA.1 qK.1 (by omega) hv3 Hout 10 (by decide) rfl)) rfl (by decide) (W := 0) rfl (by decide) (c' := 1) (s' := 12) rfl rfl (by decide) (by decide) at_282 (n := 285) rfl pd2 rfl rfl ?_
  rintro _ _ ⟨rfl, rfl⟩
  refine G.if_eq C (A := 1) (by decide) at_285 (by decide) (by decide) (n := 288) (n' := 308) rfl (fun c285_123 c285_123i => ?_) (fun c285_123 c285_123i => ?_)
  · exact absurd c285_123 (by decide)
  refine G.aload C at_288 rfl rfl (n := 290) rfl ?_
  refine G.bipush C (v := (11 : Int32)) at_290 (by decide) (n := 292) rfl ?_
  refine G.iload C at_292 rfl (n := 294) rfl ?_
  refine G.iload C at_294 rfl (n := 296) rfl ?_
  refine G.iload C at_296 rfl (n := 298) rfl ?_
  refine G.callS C (argsL := [(.ref b5), (.int (11 : Int32)), (.int v1), (.int v2), (.int v3)]) (yc := (⟨"com/example/envelope_to_bits/envelopetobits/NetworkOrderWritePinLaw", "keeps", "([BIIIB)Z"⟩ : MethodName)) (wd hw 6 rfl) (wd hw 7 rfl) (wd hw 8 rfl) (wd hw 9 rfl) (by decide) (m_keeps l Z a0 hw b5 (11 : Int32) v1 v2 v3 ts (ts.getD 11 0) h88 n0 Z89 O86 (by decide) (getD_at (by rw [Hl]; exact (show (11 : Nat) < 12 by decide))) (keepL qA.1 qK.1 (by omega) hv3 Hout 11 (by decide) rfl)) rfl (by decide) (W := 0) rfl (by decide) (c' := 1) (s' := 12) rfl rfl (by decide) (by decide) at_298 (n := 301) rfl pd2 rfl rfl ?_
  rintro _ _ ⟨rfl, rfl⟩
  refine G.if_eq C (A := 1) (by decide) at_301 (by decide) (by decide) (n := 304) (n' := 308) rfl (fun c301_126 c301_126i => ?_) (fun c301_126 c301_126i => ?_)
  · exact absurd c301_126 (by decide)
  refine G.iconst C (v := (1 : Int32)) at_304 (by decide) (n := 305) rfl ?_
  refine G.goto C at_305 (by decide) (n := 309) (by decide) ?_
  refine G.istore C at_309 (l' := #[.val (.int i0), .val (.long i1), .second, .val (.int i2), .val (.int i3), .val (.int v1), .val (.int v2), .val (.int v3), .val (.ref b5), .val (.int (v1 + v2)), .val (.int (1 : Int32)), .unset, .unset, .unset, .unset]) rfl (n := 311) rfl ?_
  refine G.lconst C (v := (0 : Int64)) at_311 (by decide) (n := 312) rfl ?_
  refine G.lstore C at_312 (l' := #[.val (.int i0), .val (.long i1), .second, .val (.int i2), .val (.int i3), .val (.int v1), .val (.int v2), .val (.int v3), .val (.ref b5), .val (.int (v1 + v2)), .val (.int (1 : Int32)), .val (.long (0 : Int64)), .second, .unset, .unset]) rfl (n := 314) rfl ?_
  rw [show (0 : Int64) = tp i1 v1 v2 0 from (tp_0 qK.2).symm]
  refine G.lload C at_314 rfl (n := 316) rfl ?_
  refine G.aload C at_316 rfl rfl (n := 318) rfl ?_
  refine G.iconst C (v := (0 : Int32)) at_318 (by decide) (n := 319) rfl ?_
  refine G.iload C at_319 rfl (n := 321) rfl ?_
  refine G.iload C at_321 rfl (n := 323) rfl ?_
  refine G.callS C (argsL := [(.long (tp i1 v1 v2 0)), (.ref b5), (.int (0 : Int32)), (.int v1), (.int v2)]) (yc := (⟨"com/example/envelope_to_bits/envelopetobits/NetworkOrderWritePinLaw", "acc", "(J[BIII)J"⟩ : MethodName)) (wd hw 13 rfl) (wd hw 14 rfl) (wd hw 8 rfl) (wd hw 15 rfl) (by decide) (m_acc l Z a0 hw (tp i1 v1 v2 0) b5 (0 : Int32) v1 v2 ts (ts.getD 0 0) (tp i1 v1 v2 1) h88 n0 Z89 O86 (by decide) (getD_at (by rw [Hl]; exact (show (0 : Nat) < 12 by decide))) (accT qA.1 qK.1 qK.2 (by omega) Hin 0 (by decide) rfl) (accF qA.1 qK.1 (by omega) 0 (by decide) rfl)) rfl (by decide) (W := 0) rfl (by decide) (c' := 1) (s' := 12) rfl rfl (by decide) (by decide) at_323 (n := 326) rfl pd3 rfl rfl ?_
  rintro _ _ ⟨rfl, rfl⟩
  refine G.lstore C at_326 (l' := #[.val (.int i0), .val (.long i1), .second, .val (.int i2), .val (.int i3), .val (.int v1), .val (.int v2), .val (.int v3), .val (.ref b5), .val (.int (v1 + v2)), .val (.int (1 : Int32)), .val (.long (tp i1 v1 v2 1)), .second, .unset, .unset]) rfl (n := 328) rfl ?_
  refine G.lload C at_328 rfl (n := 330) rfl ?_
  refine G.aload C at_330 rfl rfl (n := 332) rfl ?_
  refine G.iconst C (v := (1 : Int32)) at_332 (by decide) (n := 333) rfl ?_
  refine G.iload C at_333 rfl (n := 335) rfl ?_
  refine G.iload C at_335 rfl (n := 337) rfl ?_
  refine G.callS C (argsL := [(.long (tp i1 v1 v2 1)), (.ref b5), (.int (1 : Int32)), (.int v1), (.int v2)]) (yc := (⟨"com/example/envelope_to_bits/envelopetobits/NetworkOrderWritePinLaw", "acc", "(J[BIII)J"⟩ : MethodName)) (wd hw 13 rfl) (wd hw 14 rfl) (wd hw 8 rfl) (wd hw 15 rfl) (by decide) (m_acc l Z a0 hw (tp i1 v1 v2 1) b5 (1 : Int32) v1 v2 ts (ts.getD 1 0) (tp i1 v1 v2 2) h88 n0 Z89 O86 (by decide) (getD_at (by rw [Hl]; exact (show (1 : Nat) < 12 by decide))) (accT qA.1 qK.1 qK.2 (by omega) Hin 1 (by decide) rfl) (accF qA.1 qK.1 (by omega) 1 (by decide) rfl)) rfl (by decide) (W := 0) rfl (by decide) (c' := 1) (s' := 12) rfl rfl (by decide) (by decide) at_337 (n := 340) rfl pd3 rfl rfl ?_
  rintro _ _ ⟨rfl, rfl⟩
  refine G.lstore C at_340 (l' := #[.val (.int i0), .val (.long i1), .second, .val (.int i2), .val (.int i3), .val (.int v1), .val (.int v2), .val (.int v3), .val (.ref b5), .val (.int (v1 + v2)), .val (.int (1 : Int32)), .val (.long (tp i1 v1 v2 2)), .second, .unset, .unset]) rfl (n := 342) rfl ?_
  refine G.lload C at_342 rfl (n := 344) rfl ?_
  refine G.aload C at_344 rfl rfl (n := 346) rfl ?_
  refine G.iconst C (v := (2 : Int32)) at_346 (by decide) (n := 347) rfl ?_
  refine G.iload C at_347 rfl (n := 349) rfl ?_
  refine G.iload C at_349 rfl (n := 351) rfl ?_
  refine G.callS C (argsL := [(.long (tp i1 v1 v2 2)), (.ref b5), (.int (2 : Int32)), (.int v1), (.int v2)]) (yc := (⟨"com/example/envelope_to_bits/envelopetobits/NetworkOrderWritePinLaw", "acc", "(J[BIII)J"⟩ : MethodName)) (wd hw 13 rfl) (wd hw 14 rfl) (wd hw 8 rfl) (wd hw 15 rfl) (by decide) (m_acc l Z a0 hw (tp i1 v1 v2 2) b5 (2 : Int32) v1 v2 ts (ts.getD 2 0) (tp i1 v1 v2 3) h88 n0 Z89 O86 (by decide) (getD_at (by rw [Hl]; exact (show (2 : Nat) < 12 by decide))) (accT qA.1 qK.1 qK.2 (by omega) Hin 2 (by decide) rfl) (accF qA.1 qK.1 (by omega) 2 (by decide) rfl)) rfl (by decide) (W := 0) rfl (by decide) (c' := 1) (s' := 12) rfl rfl (by decide) (by decide) at_351 (n := 354) rfl pd3 rfl rfl ?_
  rintro _ _ ⟨rfl, rfl⟩
  refine G.lstore C at_354 (l' := #[.val (.int i0), .val (.long i1), .second, .val (.int i2), .val (.int i3), .val (.int v1), .val (.int v2), .val (.int v3), .val (.ref b5), .val (.int (v1 + v2)), .val (.int (1 : Int32)), .val (.long (tp i1 v1 v2 3)), .second, .unset, .unset]) rfl (n := 356) rfl ?_
  refine G.lload C at_356 rfl (n := 358) rfl ?_
  refine G.aload C at_358 rfl rfl (n := 360) rfl ?_
  refine G.iconst C (v := (3 : Int32)) at_360 (by decide) (n := 361) rfl ?_
  refine G.iload C at_361 rfl (n := 363) rfl ?_
  refine G.iload C at_363 rfl (n := 365) rfl ?_
  refine G.callS C (argsL := [(.long (tp i1 v1 v2 3)), (.ref b5), (.int (3 : Int32)), (.int v1), (.int v2)]) (yc := (⟨"com/example/envelope_to_bits/envelopetobits/NetworkOrderWritePinLaw", "acc", "(J[BIII)J"⟩ : MethodName)) (wd hw 13 rfl) (wd hw 14 rfl) (wd hw 8 rfl) (wd hw 15 rfl) (by decide) (m_acc l Z a0 hw (tp i1 v1 v2 3) b5 (3 : Int32) v1 v2 ts (ts.getD 3 0) (tp i1 v1 v2 4) h88 n0 Z89 O86 (by decide) (getD_at (by rw [Hl]; exact (show (3 : Nat) < 12 by decide))) (accT qA.1 qK.1 qK.2 (by omega) Hin 3 (by decide) rfl) (accF qA.1 qK.1 (by omega) 3 (by decide) rfl)) rfl (by decide) (W := 0) rfl (by decide) (c' := 1) (s' := 12) rfl rfl (by decide) (by decide) at_365 (n := 368) rfl pd3 rfl rfl ?_
  rintro _ _ ⟨rfl, rfl⟩
  refine G.lstore C at_368 (l' := #[.val (.int i0), .val (.long i1), .second, .val (.int i2), .val (.int i3), .val (.int v1), .val (.int v2), .val (.int v3), .val (.ref b5), .val (.int (v1 + v2)), .val (.int (1 : Int32)), .val (.long (tp i1 v1 v2 4)), .second, .unset, .unset]) rfl (n := 370) rfl ?_
  refine G.lload C at_370 rfl (n := 372) rfl ?_
  refine G.aload C at_372 rfl rfl (n := 374) rfl ?_
  refine G.iconst C (v := (4 : Int32)) at_374 (by decide) (n := 375) rfl ?_
  refine G.iload C at_375 rfl (n := 377) rfl ?_
  refine G.iload C at_377 rfl (n := 379) rfl ?_
  refine G.callS C (argsL := [(.long (tp i1 v1 v2 4)), (.ref b5), (.int (4 : Int32)), (.int v1), (.int v2)]) (yc := (⟨"com/example/envelope_to_bits/envelopetobits/NetworkOrderWritePinLaw", "acc", "(J[BIII)J"⟩ : MethodName)) (wd hw 13 rfl) (wd hw 14 rfl) (wd hw 8 rfl) (wd hw 15 rfl) (by decide) (m_acc l Z a0 hw (tp i1 v1 v2 4) b5 (4 : Int32) v1 v2 ts (ts.getD 4 0) (tp i1 v1 v2 5) h88 n0 Z89 O86 (by decide) (getD_at (by rw [Hl]; exact (show (4 : Nat) < 12 by decide))) (accT qA.1 qK.1 qK.2 (by omega) Hin 4 (by decide) rfl) (accF qA.1 qK.1 (by omega) 4 (by decide) rfl)) rfl (by decide) (W := 0) rfl (by decide) (c' := 1) (s' := 12) rfl rfl (by decide) (by decide) at_379 (n := 382) rfl pd3 rfl rfl ?_
  rintro _ _ ⟨rfl, rfl⟩
  refine G.lstore C at_382 (l' := #[.val (.int i0), .val (.long i1), .second, .val (.int i2), .val (.int i3), .val (.int v1), .val (.int v2), .val (.int v3), .val (.ref b5), .val (.int (v1 + v2)), .val (.int (1 : Int32)), .val (.long (tp i1 v1 v2 5)), .second, .unset, .unset]) rfl (n := 384) rfl ?_
  refine G.lload C at_384 rfl (n := 386) rfl ?_
  refine G.aload C at_386 rfl rfl (n := 388) rfl ?_
  refine G.iconst C (v := (5 : Int32)) at_388 (by decide) (n := 389) rfl ?_
  refine G.iload C at_389 rfl (n := 391) rfl ?_
  refine G.iload C at_391 rfl (n := 393) rfl ?_
  refine G.callS C (argsL := [(.long (tp i1 v1 v2 5)), (.ref b5), (.int (5 : Int32)), (.int v1), (.int v2)]) (yc := (⟨"com/example/envelope_to_bits/envelopetobits/NetworkOrderWritePinLaw", "acc", "(J[BIII)J"⟩ : MethodName)) (wd hw 13 rfl) (wd hw 14 rfl) (wd hw 8 rfl) (wd hw 15 rfl) (by decide) (m_acc l Z a0 hw (tp i1 v1 v2 5) b5 (5 : Int32) v1 v2 ts (ts.getD 5 0) (tp i1 v1 v2 6) h88 n0 Z89 O86 (by decide) (getD_at (by rw [Hl]; exact (show (5 : Nat) < 12 by decide))) (accT qA.1 qK.1 qK.2 (by omega) Hin 5 (by decide) rfl) (accF qA.1 qK.1 (by omega) 5 (by decide) rfl)) rfl (by decide) (W := 0) rfl (by decide) (c' := 1) (s' := 12) rfl rfl (by decide) (by decide) at_393 (n := 396) rfl pd3 rfl rfl ?_
  rintro _ _ ⟨rfl, rfl⟩
  refine G.lstore C at_396 (l' := #[.val (.int i0), .val (.long i1), .second, .val (.int i2), .val (.int i3), .val (.int v1), .val (.int v2), .val (.int v3), .val (.ref b5), .val (.int (v1 + v2)), .val (.int (1 : Int32)), .val (.long (tp i1 v1 v2 6)), .second, .unset, .unset]) rfl (n := 398) rfl ?_
  refine G.lload C at_398 rfl (n := 400) rfl ?_
  refine G.aload C at_400 rfl rfl (n := 402) rfl ?_
  refine G.bipush C (v := (6 : Int32)) at_402 (by decide) (n := 404) rfl ?_
  refine G.iload C at_404 rfl (n := 406) rfl ?_
  refine G.iload C at_406 rfl (n := 408) rfl ?_
  refine G.callS C (argsL := [(.long (tp i1 v1 v2 6)), (.ref b5), (.int (6 : Int32)), (.int v1), (.int v2)]) (yc := (⟨"com/example/envelope_to_bits/envelopetobits/NetworkOrderWritePinLaw", "acc", "(J[BIII)J"⟩ : MethodName)) (wd hw 13 rfl) (wd hw 14 rfl) (wd hw 8 rfl) (wd hw 15 rfl) (by decide) (m_acc l Z a0 hw (tp i1 v1 v2 6) b5 (6 : Int32) v1 v2 ts (ts.getD 6 0) (tp i1 v1 v2 7) h88 n0 Z89 O86 (by decide) (getD_at (by rw [Hl]; exact (show (6 : Nat) < 12 by decide))) (accT qA.1 qK.1 qK.2 (by omega) Hin 6 (by decide) rfl) (accF qA.1 qK.1 (by omega) 6 (by decide) rfl)) rfl (by decide) (W := 0) rfl (by decide) (c' := 1) (s' := 12) rfl rfl (by decide) (by decide) at_408 (n := 411) rfl pd3 rfl rfl ?_
  rintro _ _ ⟨rfl, rfl⟩
  refine G.lstore C at_411 (l' := #[.val (.int i0), .val (.long i1), .second, .val (.int i2), .val (.int i3), .val (.int v1), .val (.int v2), .val (.int v3), .val (.ref b5), .val (.int (v1 + v2)), .val (.int (1 : Int32)), .val (.long (tp i1 v1 v2 7)), .second, .unset, .unset]) rfl (n := 413) rfl ?_
  refine G.lload C at_413 rfl (n := 415) rfl ?_
  refine G.aload C at_415 rfl rfl (n := 417) rfl ?_
  refine G.bipush C (v := (7 : Int32)) at_417 (by decide) (n := 419) rfl ?_
  refine G.iload C at_419 rfl (n := 421) rfl ?_
  refine G.iload C at_421 rfl (n := 423) rfl ?_
  refine G.callS C (argsL := [(.long (tp i1 v1 v2 7)), (.ref b5), (.int (7 : Int32)), (.int v1), (.int v2)]) (yc := (⟨"com/example/envelope_to_bits/envelopetobits/NetworkOrderWritePinLaw", "acc", "(J[BIII)J"⟩ : MethodName)) (wd hw 13 rfl) (wd hw 14 rfl) (wd hw 8 rfl) (wd hw 15 rfl) (by decide) (m_acc l Z a0 hw (tp i1 v1 v2 7) b5 (7 : Int32) v1 v2 ts (ts.getD 7 0) (tp i1 v1 v2 8) h88 n0 Z89 O86 (by decide) (getD_at (by rw [Hl]; exact (show (7 : Nat) < 12 by decide))) (accT qA.1 qK.1 qK.2 (by omega) Hin 7 (by decide) rfl) (accF qA.1 qK.1 (by omega) 7 (by decide) rfl)) rfl (by decide) (W := 0) rfl (by decide) (c' := 1) (s' := 12) rfl rfl (by decide) (by decide) at_423 (n := 426) rfl pd3 rfl rfl ?_
  rintro _ _ ⟨rfl, rfl⟩
  refine G.lstore C at_426 (l' := #[.val (.int i0), .val (.long i1), .second, .val (.int i2), .val (.int i3), .val (.int v1), .val (.int v2), .val (.int v3), .val (.ref b5), .val (.int (v1 + v2)), .val (.int (1 : Int32)), .val (.long (tp i1 v1 v2 8)), .second, .unset, .unset]) rfl (n := 428) rfl ?_
  refine G.lload C at_428 rfl (n := 430) rfl ?_
  refine G.aload C at_430 rfl rfl (n := 432) rfl ?_
  refine G.bipush C (v := (8 : Int32)) at_432 (by decide) (n := 434) rfl ?_
  refine G.iload C at_434 rfl (n := 436) rfl ?_
  refine G.iload C at_436 rfl (n := 438) rfl ?_
  refine G.callS C (argsL := [(.long (tp i1 v1 v2 8)), (.ref b5), (.int (8 : Int32)), (.int v1), (.int v2)]) (yc := (⟨"com/example/envelope_to_bits/envelopetobits/NetworkOrderWritePinLaw", "acc", "(J[BIII)J"⟩ : MethodName)) (wd hw 13 rfl) (wd hw 14 rfl) (wd hw 8 rfl) (wd hw 15 rfl) (by decide) (m_acc l Z a0 hw (tp i1 v1 v2 8) b5 (8 : Int32) v1 v2 ts (ts.getD 8 0) (tp i1 v1 v2 9) h88 n0 Z89 O86 (by decide) (getD_at (by rw [Hl]; exact (show (8 : Nat) < 12 by decide))) (accT qA.1 qK.1 qK.2 (by omega) Hin 8 (by decide) rfl) (accF qA.1 qK.1 (by omega) 8 (by decide) rfl)) rfl (by decide) (W := 0) rfl (by decide) (c' := 1) (s' := 12) rfl rfl (by decide) (by decide) at_438 (n := 441) rfl pd3 rfl rfl ?_
  rintro _ _ ⟨rfl, rfl⟩
  refine G.lstore C at_441 (l' := #[.val (.int i0), .val (.long i1), .second, .val (.int i2), .val (.int i3), .val (.int v1), .val (.int v2), .val (.int v3), .val (.ref b5), .val (.int (v1 + v2)), .val (.int (1 : Int32)), .val (.long (tp i1 v1 v2 9)), .second, .unset, .unset]) rfl (n := 443) rfl ?_
  refine G.lload C at_443 rfl (n := 445) rfl ?_
  refine G.aload C at_445 rfl rfl (n := 447) rfl ?_
  refine G.bipush C (v := (9 : Int32)) at_447 (by decide) (n := 449) rfl ?_
  refine G.iload C at_449 rfl (n := 451) rfl ?_
  refine G.iload C at_451 rfl (n := 453) rfl ?_
  refine G.callS C (argsL := [(.long (tp i1 v1 v2 9)), (.ref b5), (.int (9 : Int32)), (.int v1), (.int v2)]) (yc := (⟨"com/example/envelope_to_bits/envelopetobits/NetworkOrderWritePinLaw", "acc", "(J[BIII)J"⟩ : MethodName)) (wd hw 13 rfl) (wd hw 14 rfl) (wd hw 8 rfl) (wd hw 15 rfl) (by decide) (m_acc l Z a0 hw (tp i1 v1 v2 9) b5 (9 : Int32) v1 v2 ts (ts.getD 9 0) (tp i1 v1 v2 10) h88 n0 Z89 O86 (by decide) (getD_at (by rw [Hl]; exact (show (9 : Nat) < 12 by decide))) (accT qA.1 qK.1 qK.2 (by omega) Hin 9 (by decide) rfl) (accF qA.1 qK.1 (by omega) 9 (by decide) rfl)) rfl (by decide) (W := 0) rfl (by decide) (c' := 1) (s' := 12) rfl rfl (by decide) (by decide) at_453 (n := 456) rfl pd3 rfl rfl ?_
  rintro _ _ ⟨rfl, rfl⟩
  refine G.lstore C at_456 (l' := #[.val (.int i0), .val (.long i1), .second, .val (.int i2), .val (.int i3), .val (.int v1), .val (.int v2), .val (.int v3), .val (.ref b5), .val (.int (v1 + v2)), .val (.int (1 : Int32)), .val (.long (tp i1 v1 v2 10)), .second, .unset, .unset]) rfl (n := 458) rfl ?_
  refine G.lload C at_458 rfl (n := 460) rfl ?_
  refine G.aload C at_460 rfl rfl (n := 462) rfl ?_
  refine G.bipush C (v := (10 : Int32)) at_462 (by decide) (n := 464) rfl ?_
  refine G.iload C at_464 rfl (n := 466) rfl ?_
  refine G.iload C at_466 rfl (n := 468) rfl ?_
  refine G.callS C (argsL := [(.long (tp i1 v1 v2 10)), (.ref b5), (.int (10 : Int32)), (.int v1), (.int v2)]) (yc := (⟨"com/example/envelope_to_bits/envelopetobits/NetworkOrderWritePinLaw", "acc", "(J[BIII)J"⟩ : MethodName)) (wd hw 13 rfl) (wd hw 14 rfl) (wd hw 8 rfl) (wd hw 15 rfl) (by decide) (m_acc l Z a0 hw (tp i1 v1 v2 10) b5 (10 : Int32) v1 v2 ts (ts.getD 10 0) (tp i1 v1 v2 11) h88 n0 Z89 O86 (by decide) (getD_at (by rw [Hl]; exact (show (10 : Nat) < 12 by decide))) (accT qA.1 qK.1 qK.2 (by omega) Hin 10 (by decide) rfl) (accF qA.1 qK.1 (by omega) 10 (by decide) rfl)) rfl (by decide) (W := 0) rfl (by decide) (c' := 1) (s' := 12) rfl rfl (by decide) (by decide) at_468 (n := 471) rfl pd3 rfl rfl ?_
  rintro _ _ ⟨rfl, rfl⟩
  refine G.lstore C at_471 (l' := #[.val (.int i0), .val (.long i1), .second, .val (.int i2), .val (.int i3), .val (.int v1), .val (.int v2), .val (.int v3), .val (.ref b5), .val (.int (v1 + v2)), .val (.int (1 : Int32)), .val (.long (tp i1 v1 v2 11)), .second, .unset, .unset]) rfl (n := 473) rfl ?_
  refine G.lload C at_473 rfl (n := 475) rfl ?_
  refine G.aload C at_475 rfl rfl (n := 477) rfl ?_
  refine G.bipush C (v := (11 : Int32)) at_477 (by decide) (n := 479) rfl ?_
  refine G.iload C at_479 rfl (n := 481) rfl ?_
  refine G.iload C at_481 rfl (n := 483) rfl ?_
  refine G.callS C (argsL := [(.long (tp i1 v1 v2 11)), (.ref b5), (.int (11 : Int32)), (.int v1), (.int v2)]) (yc := (⟨"com/example/envelope_to_bits/envelopetobits/NetworkOrderWritePinLaw", "acc", "(J[BIII)J"⟩ : MethodName)) (wd hw 13 rfl) (wd hw 14 rfl) (wd hw 8 rfl) (wd hw 15 rfl) (by decide) (m_acc l Z a0 hw (tp i1 v1 v2 11) b5 (11 : Int32) v1 v2 ts (ts.getD 11 0) (tp i1 v1 v2 12) h88 n0 Z89 O86 (by decide) (getD_at (by rw [Hl]; exact (show (11 : Nat) < 12 by decide))) (accT qA.1 qK.1 qK.2 (by omega) Hin 11 (by decide) rfl) (accF qA.1 qK.1 (by omega) 11 (by decide) rfl)) rfl (by decide) (W := 0) rfl (by decide) (c' := 1) (s' := 12) rfl rfl (by decide) (by decide) at_483 (n := 486) rfl pd3 rfl rfl ?_
  rintro _ _ ⟨rfl, rfl⟩
  refine G.lstore C at_486 (l' := #[.val (.int i0), .val (.long i1), .second, .val (.int i2), .val (.int i3), .val (.int v1), .val (.int v2), .val (.int v3), .val (.ref b5), .val (.int (v1 + v2)), .val (.int (1 : Int32)), .val (.long (tp i1 v1 v2 12)), .second, .unset, .unset]) rfl (n := 488) rfl ?_
  refine G.iload C at_488 rfl (n := 490) rfl ?_
  refine G.bipush C (v := (8 : Int32)) at_490 (by decide) (n := 492) rfl ?_
  suffices key152 : ∀ (z152_s0 : Int64), (((v2 ≠ (8 : Int32)) ∧ (v2.toInt ≠ 8) ∧ (z152_s0 = (i1 &&& (((1 : Int64) <<< (((8 : Int32) * v2) &&& 0x3f).toInt64) - (1 : Int64))))) ∨ ((v2 = (8 : Int32)) ∧ (v2.toInt = 8) ∧ (z152_s0 = i1))) → Go p l e room_1 s m args below meth c n0 (Q_law Z h0 i0 i1 i2 i3) 1 12 h88 (mkF m 510 #[.val (.int i0), .val (.long i1), .second, .val (.int i2), .val (.int i3), .val (.int v1), .val (.int v2), .val (.int v3), .val (.ref b5), .val (.int (v1 + v2)), .val (.int (1 : Int32)), .val (.long (tp i1 v1 v2 12)), .second, .unset, .unset] [(.long z152_s0)]) by
    refine G.icmp_ne C (A := v2.toInt) (B := 8) rfl (by decide) at_492 (by decide) (by decide) (n := 495) (n' := 499) rfl (fun c492_151 c492_151i => ?_) (fun c492_151 c492_151i => ?_)
    · refine G.lloadN C at_499 rfl (n := 500) rfl ?_
      refine G.lconst C (v := (1 : Int64)) at_500 (by decide) (n := 501) rfl ?_
      refine G.bipush C (v := (8 : Int32)) at_501 (by decide) (n := 503) rfl ?_
      refine G.iload C at_503 rfl (n := 505) rfl ?_
      refine G.imul C at_505 (n := 506) rfl ?_
      refine G.lshl C at_506 (n := 507) rfl ?_
      refine G.lconst C (v := (1 : Int64)) at_507 (by decide) (n := 508) rfl ?_
      refine G.lsub C at_508 (n := 509) rfl ?_
      refine G.land C at_509 (n := 510) rfl ?_
      exact key152 _ (Or.inl ⟨c492_151, c492_151i, rfl⟩) 
    · refine G.lloadN C at_495 rfl (n := 496) rfl ?_
      refine G.goto C at_496 (by decide) (n := 510) (by decide) ?_
      exact key152 _ (Or.inr (⟨c492_151, c492_151i, rfl⟩)) 
  intro z152_s0 j152 
  refine G.lstore C at_510 (l' := #[.val (.int i0), .val (.long i1), .second, .val (.int i2), .val (.int i3), .val (.int v1), .val (.int v2), .val (.int v3), .val (.ref b5), .val (.int (v1 + v2)), .val (.int (1 : Int32)), .val (.long (tp i1 v1 v2 12)), .second, .val (.long z152_s0), .second]) rfl (n := 512) rfl ?_
  refine G.iload C at_512 rfl (n := 514) rfl ?_
  refine G.if_eq C (A := 1) (by decide) at_514 (by decide) (by decide) (n := 517) (n' := 529) rfl (fun c514_153 c514_153i => ?_) (fun c514_153 c514_153i => ?_)
  · exact absurd c514_153 (by decide)
  refine G.lload C at_517 rfl (n := 519) rfl ?_
  refine G.lload C at_519 rfl (n := 521) rfl ?_
  refine G.lcmp_ne C (A := (tp i1 v1 v2 12).toInt) (B := z152_s0.toInt) rfl rfl at_521 at_522 (by decide) (by decide) (n := 525) (n' := 529) rfl (fun c522_154 c522_154i => ?_) (fun c522_154 c522_154i => ?_)
  · exact absurd (fin_r qA.1 qA.2 qK.1 qK.2 j152) c522_154
  refine G.iconst C (v := (1 : Int32)) at_525 (by decide) (n := 526) rfl ?_
  refine G.goto C at_526 (by decide) (n := 530) (by decide) ?_
  refine G.ireturn C at_530 (rfl) (by simp) (by decide) (by decide) ?_
  exact rfl
set_option maxRecDepth 65536 in
set_option maxHeartbeats 40000000 in
theorem comes_1 {Post : Tables → Env → Array Value → State → Outcome → State → Prop} (hpost : ∀ tb e args s v u, (limb_1_1.after args s (.returned v) u = true ∧ limb_1_2.after args s (.returned v) u = true ∧ True) → FrameEnd s (.returned v) u (Jvm.fieldLocs frame_1_writes args s ++ Jvm.arrayLocs frame_1_arrays args s ++ Jvm.staticLocs frame_1_statics s) 16 128 → Post tb e args s (.returned v) u) :
    ArmFor flags0 classFile x code maxLocals ret World_1 tables_1 room_1 Calls_1 rest_1 Pre_1 Post := by
  intro l hfl _ _ p e ha hc hk s m args below hf hA hF happ hP
  obtain ⟨hcalls, hrest, hpre⟩ := hP
  obtain ⟨-, -, -, hnamed, -, -, -, hat⟩ := (Spec.applies_iff hf).mp happ
  obtain ⟨hg, hn⟩ := and_e (Cond.before_iff.mp (show (Jvm.Cond.and given_1 narrow_1).before args s = true from hpre))
  obtain ⟨k1, k2⟩ := and_e hg
  obtain ⟨w0, w1, w2, w3, rfl⟩ : ∃ w0 w1 w2 w3 : Value, args = #[w0, w1, w2, w3] := by
    have hs : args.size = 4 := by simpa [Cond.value, given_1] using k1
    obtain ⟨L⟩ := args
    match L, hs with
    | [w0, w1, w2, w3], _ => exact ⟨w0, w1, w2, w3, rfl⟩
  have hw := fun d (hd : d ∈ tables_1) => atoms_spec (ws := Jvm.Cond.code x code maxLocals ret :: tables_1) hat d (List.mem_cons_of_mem _ hd)
  have hfit : Fit s := fun {y c} hc i hi => by
    obtain ⟨ha, rfl⟩ := Array.getElem?_eq_some_iff.mp hc
    have q := List.all_eq_true.mp ((Array.all_eq_true_iff_forall_mem.mp hF) _ (Array.getElem_mem ha)) i (List.mem_range.mpr hi)
    simpa [Array.getElem?_eq_getElem hi] using q
  obtain ⟨u0, k2⟩ := and_e k2
  obtain ⟨i0, e0⟩ := is_v u0
  obtain rfl : w0 = (.int i0) := Option.some.inj e0
  obtain ⟨u1, k2⟩ := and_e k2
  obtain ⟨i1, e1⟩ := isL_v u1
  obtain rfl : w1 = (.long i1) := Option.some.inj e1
  obtain ⟨u2, k2⟩ := and_e k2
  obtain ⟨i2, e2⟩ := is_v u2
  obtain rfl : w2 = (.int i2) := Option.some.inj e2
  have u3 := k2
  obtain ⟨i3, e3⟩ := is_v u3
  obtain rfl : w3 = (.int i3) := Option.some.inj e3
  obtain ⟨n, o, h1, h2, h3, _, L, rfl, ⟨N, rfl⟩, hq⟩ := m_law l s _ hw i0 i1 i2 i3 s.heap s.heap.size (Nat.le_refl _)  tables_1 p e ha hc hk s m _ below hf ((Spec.applies_iff_loose hf).mp happ).1 ⟨rfl, State.Warmed39.refl s, rfl⟩ trivial
  refine ⟨n, _, h1, h2, h3, hpost _ _ _ _ _ _ ⟨Cond.after_iff.mpr rfl, Cond.after_iff.mpr (eq_i res_at (Term.int_eval (1)) rfl), trivial⟩ ⟨hq.1, hq.2.1, (hq.2.2.sift fun y hy => Or.inr (N y hy)).mono (by decide) (by decide)⟩⟩
theorem main_1_1 : Claimed_1_1 := comes_1 fun _ _ _ _ _ _ h hF => ⟨h.1, hF⟩
theorem main_1_2 : Claimed_1_2 := comes_1 fun _ _ _ _ _ _ h hF => ⟨h.2.1, hF⟩
end Jvm.Pilot.@@N@@
namespace Jvm.Pilot.@@N@@
open Jvm Jvm.ClassFile Sem Op Lib Jvm.Free Jvm.Stand Jvm.Pilot.@@N@@.Jvm.D
/-! MADE BY PROGRAM (witnessworld.py) out of the Statement's table words and the real class files: 9 classes; the members and pool entries that the words name. The judged class is class 1, her method 1. -/
namespace start1
open Jvm.ClassFile
def u (s : String) : CpInfo := .utf8 (stringToUtf16 s)
/-- a pool by its gaps: so many unusable entries, then the entry; so many at the end -/
def gap : Nat → List CpInfo → List CpInfo
  | 0, r => r
  | n + 1, r => .unusable :: gap n r
def poolList (es : List (Nat × CpInfo)) (last : Nat) : List CpInfo := es.foldr (fun e r => gap e.1 (e.2 :: r)) (gap last [])
def pool (es : List (Nat × CpInfo)) (last : Nat) : Array CpInfo := ⟨poolList es last⟩
def fileOf (pool : Array CpInfo) (this : Nat) (attrs : Array Attribute := #[]) (ms : Array MethodInfo := #[]) (fl : Nat := 33) (sup : Nat := 0) (ifs : Array Nat := #[]) (fds : Array FieldInfo := #[]) : ClassFile where
  minorVersion := 0
  majorVersion := 65
  constantPool := pool
  accessFlags := fl
  thisClass := this
  superClass := sup
  interfaces := ifs
  fields := fds
  methods := ms
  attributes := attrs
def plain (name : String) (sup : Option ClassId) : Class where
  name := name
  kind := .ordinary
  loader := none
  accessFlags := 33
  super := sup
  interfaces := #[]
  cf := none
  fields := #[]
  methods := #[]
  instanceTypes := #[]
  staticTypes := #[]
  resolved := #[]
  callSites := []
  init := .initialized
  statics := none
  mirror := none

def pool0 : Array CpInfo := pool [(5, u "<init>"), (0, u "()V"), (1, .class_ 10), (1, u "java/lang/Object")] 113

def k0m0 : Method := { name := "<init>", desc := "()V", sig := { parameters := [], returnType := none }, accessFlags := 1, code := none }
/-- java/lang/Object -/
def k0 : Class := { plain "java/lang/Object" none with
  accessFlags := 33
  interfaces := #[]
  cf := some (fileOf pool0 8 #[] #[{ accessFlags := 1, nameIndex := 5, descriptorIndex := 6, attributes := #[] }] 33 0 #[] #[])
  fields := #[]
  methods := #[k0m0]
  instanceTypes := #[]
  staticTypes := #[]
  resolved := Array.replicate 124 none
  statics := none }

def pool1 : Array CpInfo := pool [(2, .class_ 4), (1, u "java/lang/Object"), (0, u "<init>"), (0, u "()V"), (0, .integer 2147483647), (0, .methodref 9 10), (0, .class_ 11), (0, .nameAndType 12 13), (0, u "com/example/envelope_to_bits/envelopetobits/NetworkOrder"), (0, u "write"), (0, u "([BIJI)I"), (0, .methodref 15 16), (0, .class_ 17), (0, .nameAndType 18 19), (0, u "com/example/envelope_to_bits/envelopetobits/NetworkOrderWritePinLaw"), (0, u "keeps"), (0, u "([BIIIB)Z"), (0, .methodref 15 21), (0, .nameAndType 22 23), (0, u "acc"), (0, u "(J[BIII)J"), (0, .methodref 15 25), (0, .nameAndType 26 27), (0, u "inside"), (0, u "(III)Z"), (2, u "law"), (0, u "(IJII)Z")] 5

def k1m0 : Method := { name := "<init>", desc := "()V", sig := { parameters := [], returnType := none }, accessFlags := 2, code := none }
def k1c1 : Code := { maxStack := 6, maxLocals := 15, code := code, exceptionTable := #[], attributes := #[] }
def k1m1 : Method := { name := "law", desc := "(IJII)Z", sig := { parameters := [.int, .long, .int, .int], returnType := some .boolean }, accessFlags := 9, code := some k1c1 }
def k1c2 : Code := { maxStack := 3, maxLocals := 3, code := method_3_code, exceptionTable := #[], attributes := #[] }
def k1m2 : Method := { name := "inside", desc := "(III)Z", sig := { parameters := [.int, .int, .int], returnType := some .boolean }, accessFlags := 10, code := some k1c2 }
def k1c3 : Code := { maxStack := 3, maxLocals := 5, code := method_4_code, exceptionTable := #[], attributes := #[] }
def k1m3 : Method := { name := "keeps", desc := "([BIIIB)Z", sig := { parameters := [(.array .byte), .int, .int, .int, .byte], returnType := some .boolean }, accessFlags := 10, code := some k1c3 }
def k1c4 : Code := { maxStack := 4, maxLocals := 6, code := method_5_code, exceptionTable := #[], attributes := #[] }
def k1m4 : Method := { name := "acc", desc := "(J[BIII)J", sig := { parameters := [.long, (.array .byte), .int, .int, .int], returnType := some .long }, accessFlags := 10, code := some k1c4 }
/-- com/example/envelope_to_bits/envelopetobits/NetworkOrderWritePinLaw -/
def k1 : Class := { plain "com/example/envelope_to_bits/envelopetobits/NetworkOrderWritePinLaw" (some 0) with
  accessFlags := 49
  interfaces := #[]
  cf := some (fileOf pool1 15 #[] #[{ accessFlags := 2, nameIndex := 5, descriptorIndex := 6, attributes := #[] }, { accessFlags := 9, nameIndex := 30, descriptorIndex := 31, attributes := #[] }, { accessFlags := 10, nameIndex := 26, descriptorIndex := 27, attributes := #[] }, { accessFlags := 10, nameIndex := 18, descriptorIndex := 19, attributes := #[] }, { accessFlags := 10, nameIndex := 22, descriptorIndex := 23, attributes := #[] }] 49 2 #[] #[])
  fields := #[]
  methods := #[k1m0, k1m1, k1m2, k1m3, k1m4]
  instanceTypes := #[]
  staticTypes := #[]
  resolved := Array.replicate 37 none
  statics := none }

def pool2 : Array CpInfo := pool [(2, .class_ 4), (1, u "java/lang/Object"), (0, u "<init>"), (0, u "()V"), (0, .class_ 8), (0, u "com/example/envelope_to_bits/envelopetobits/NetworkOrder"), (5, u "write"), (0, u "([BIJI)I")] 2

def k2m0 : Method := { name := "<init>", desc := "()V", sig := { parameters := [], returnType := none }, accessFlags := 2, code := none }
def k2c1 : Code := { maxStack := 7, maxLocals := 6, code := prog_48_method_3_code, exceptionTable := #[], attributes := #[] }
def k2m1 : Method := { name := "write", desc := "([BIJI)I", sig := { parameters := [(.array .byte), .int, .long, .int], returnType := some .int }, accessFlags := 8, code := some k2c1 }
/-- com/example/envelope_to_bits/envelopetobits/NetworkOrder -/
def k2 : Class := { plain "com/example/envelope_to_bits/envelopetobits/NetworkOrder" (some 0) with
  accessFlags := 48
  interfaces := #[]
  cf := some (fileOf pool2 7 #[] #[{ accessFlags := 2, nameIndex := 5, descriptorIndex := 6, attributes := #[] }, { accessFlags := 8, nameIndex := 14, descriptorIndex := 15, attributes := #[] }] 48 2 #[] #[])
  fields := #[]
  methods := #[k2m0, k2m1]
  instanceTypes := #[]
  staticTypes := #[]
  resolved := Array.replicate 18 none
  statics := none }

def pool3 : Array CpInfo := pool [(1, u "java/lang/Cloneable"), (0, .class_ 1), (0, u "java/lang/Object"), (0, .class_ 3)] 3

/-- java/lang/Cloneable -/
def k3 : Class := { plain "java/lang/Cloneable" (some 0) with
  accessFlags := 1537
  interfaces := #[]
  cf := some (fileOf pool3 2 #[] #[] 1537 4 #[] #[])
  fields := #[]
  methods := #[]
  instanceTypes := #[]
  staticTypes := #[]
  resolved := Array.replicate 8 none
  statics := none }

def pool4 : Array CpInfo := pool [(1, u "java/io/Serializable"), (0, .class_ 1), (0, u "java/lang/Object"), (0, .class_ 3)] 3

/-- java/io/Serializable -/
def k4 : Class := { plain "java/io/Serializable" (some 0) with
  accessFlags := 1537
  interfaces := #[]
  cf := some (fileOf pool4 2 #[] #[] 1537 4 #[] #[])
  fields := #[]
  methods := #[]
  instanceTypes := #[]
  staticTypes := #[]
  resolved := Array.replicate 8 none
  statics := none }

/-- the primitive byte -/
def k5 : Class := { plain "byte" none with kind := .primitive 'B', accessFlags := 0x411 }
/-- [B -/
def k6 : Class := { plain "[B" (some 0) with kind := .array 5 .byte, interfaces := #[3, 4], accessFlags := 1041 }

/-- the primitive int -/
def k7 : Class := { plain "int" none with kind := .primitive 'I', accessFlags := 0x411 }
/-- [I -/
def k8 : Class := { plain "[I" (some 0) with kind := .array 7 .int, interfaces := #[3, 4], accessFlags := 1041 }

def heap : Heap := #[]
def classes : Array Class := #[k0, k1, k2, k3, k4, k5, k6, k7, k8]
def interned : List (Array UInt16 × Addr) := []
def slotsUsed : Nat := 0
def theMethod : MethodId := ⟨1, 1⟩
def args0 : Array Value := #[.int 5, .long 6, .int 7, .int 1]
def aboutOver (below : List Frame) : State where
  vm := { classes := classes, interned := interned.toArray }
  heap := heap
  slotsUsed := slotsUsed
  threads := #[{ frames := .invoking theMethod args0 :: below }]
def below0 : List Frame := [.native { method := ⟨0, 0⟩, args := #[] }]
def about1 : State := aboutOver below0
def p0 : Program := .bare "" "" ""
def e0 : Env := launch0.env 0 0 0
theorem w_frames : about1.frames = Frame.invoking theMethod args0 :: below0 := rfl
set_option maxRecDepth 65536 in
theorem w_args : argsFit about1.vm theMethod args0 = true := by decide +kernel
set_option maxRecDepth 65536 in
theorem w_heap : heapFits about1 = true := by decide +kernel
set_option maxRecDepth 65536 in
theorem w_runnable : about1.curStatus? = some .runnable := by decide +kernel
set_option maxRecDepth 65536 in
theorem w_alone : about1.alone = true := by decide +kernel
set_option maxRecDepth 65536 in
theorem w_named : about1.methodNamed? x = some theMethod := by decide +kernel
set_option maxRecDepth 65536 in
theorem w_hears : about1.hears theMethod below0 = true := by decide +kernel
set_option maxRecDepth 65536 in
theorem w_ripe : about1.ripe theMethod args0 below0 = true := by decide +kernel
theorem w_running : about1.status = .running := rfl
set_option maxRecDepth 65536 in
theorem w_room : about1.hasRoom e0.platform room_1 = true :=
  launch0.hasRoom_least _ room_1 (by decide +kernel) (by decide +kernel) (by decide +kernel) (by decide +kernel) (by decide +kernel) (by decide +kernel)
theorem allAtoms_all (ts : List Jvm.Cond) (a : Array Jvm.Value) (st : Jvm.State) : (allAtoms ts).before a st = ts.all (fun c => c.before a st) := by
  induction ts with
  | nil => rfl
  | cons c t ih =>
    show (Jvm.Cond.and c (allAtoms t)).before a st = _
    rw [Jvm.Cond.before_and, ih, List.all_cons]
def words1 : List Jvm.Cond := Jvm.Cond.code x code maxLocals ret :: tables_1
/-- a 'code' word, met by the world's own term for the bytes: nothing is compared byte by byte -/
theorem code_word {y : MethodName} {bytes : ByteArray} {mx : Nat} {rt : Option FieldType} {a : Array Value} {s : State} {m : MethodId} {meth : Method} {c : Code} (h1 : s.methodNamed? y = some m) (h2 : s.vm.method? m = some meth) (h3 : meth.code = some c) (h4 : c.code = bytes)
    (h5 : (c.maxLocals == mx && c.exceptionTable.isEmpty && decide (c.maxStack ≤ mostOperands) && decide (meth.sig.returnType = rt) && !meth.locks && decide (parseMethodDescriptor y.desc = some meth.sig)) = true) : (Jvm.Cond.code y bytes mx rt).before a s = true := by
  simp only [Bool.and_eq_true, beq_iff_eq, Bool.not_eq_true', decide_eq_true_eq] at h5
  obtain ⟨⟨⟨⟨⟨g1, g2⟩, g3⟩, g4⟩, g5⟩, g6⟩ := h5
  simp [Cond.before, Cond.holds, Cond.value, h1, h2, h3, h4, g1, g2, g3, g4, g5, g6]
def isCode : Jvm.Cond → Bool
  | .code _ _ _ _ => true
  | _ => false
theorem all_split {L : List Jvm.Cond} {P : Jvm.Cond → Bool} (h1 : L.all (fun c => isCode c || P c) = true) (h2 : ∀ c ∈ L.filter isCode, P c = true) : L.all P = true := by
  refine List.all_eq_true.mpr fun c hc => ?_
  have h := List.all_eq_true.mp h1 c hc
  rcases Bool.eq_false_or_eq_true (isCode c) with hi | hi
  · exact h2 c (List.mem_filter.mpr ⟨hc, hi⟩)
  · simpa [hi] using h
set_option maxRecDepth 65536 in
theorem w_c0 : (Jvm.Cond.code x code maxLocals ret).before args0 about1 = true := code_word (m := ⟨1, 1⟩) (meth := k1m1) (c := k1c1) (by decide +kernel) rfl rfl rfl (by decide +kernel)
set_option maxRecDepth 65536 in
theorem w_c1 : (Jvm.Cond.code ({ cls := "com/example/envelope_to_bits/envelopetobits/NetworkOrder", name := "write", desc := "([BIJI)I" } : Jvm.MethodName) prog_48_method_3_code (6 : Nat) (Option.some Jvm.ClassFile.FieldType.int)).before args0 about1 = true := code_word (m := ⟨2, 1⟩) (meth := k2m1) (c := k2c1) (by decide +kernel) rfl rfl rfl (by decide +kernel)
set_option maxRecDepth 65536 in
theorem w_c2 : (Jvm.Cond.code ({ cls := "com/example/envelope_to_bits/envelopetobits/NetworkOrderWritePinLaw", name := "keeps", desc := "([BIIIB)Z" } : Jvm.MethodName) method_4_code (5 : Nat) (Option.some Jvm.ClassFile.FieldType.boolean)).before args0 about1 = true := code_word (m := ⟨1, 3⟩) (meth := k1m3) (c := k1c3) (by decide +kernel) rfl rfl rfl (by decide +kernel)
set_option maxRecDepth 65536 in
theorem w_c3 : (Jvm.Cond.code ({ cls := "com/example/envelope_to_bits/envelopetobits/NetworkOrderWritePinLaw", name := "inside", desc := "(III)Z" } : Jvm.MethodName) method_3_code (3 : Nat) (Option.some Jvm.ClassFile.FieldType.boolean)).before args0 about1 = true := code_word (m := ⟨1, 2⟩) (meth := k1m2) (c := k1c2) (by decide +kernel) rfl rfl rfl (by decide +kernel)
set_option maxRecDepth 65536 in
theorem w_c4 : (Jvm.Cond.code ({ cls := "com/example/envelope_to_bits/envelopetobits/NetworkOrderWritePinLaw", name := "acc", desc := "(J[BIII)J" } : Jvm.MethodName) method_5_code (6 : Nat) (Option.some Jvm.ClassFile.FieldType.long)).before args0 about1 = true := code_word (m := ⟨1, 4⟩) (meth := k1m4) (c := k1c4) (by decide +kernel) rfl rfl rfl (by decide +kernel)
def codes1 : List Jvm.Cond := [Jvm.Cond.code x code maxLocals ret, Jvm.Cond.code ({ cls := "com/example/envelope_to_bits/envelopetobits/NetworkOrder", name := "write", desc := "([BIJI)I" } : Jvm.MethodName) prog_48_method_3_code (6 : Nat) (Option.some Jvm.ClassFile.FieldType.int), Jvm.Cond.code ({ cls := "com/example/envelope_to_bits/envelopetobits/NetworkOrderWritePinLaw", name := "keeps", desc := "([BIIIB)Z" } : Jvm.MethodName) method_4_code (5 : Nat) (Option.some Jvm.ClassFile.FieldType.boolean), Jvm.Cond.code ({ cls := "com/example/envelope_to_bits/envelopetobits/NetworkOrderWritePinLaw", name := "inside", desc := "(III)Z" } : Jvm.MethodName) method_3_code (3 : Nat) (Option.some Jvm.ClassFile.FieldType.boolean), Jvm.Cond.code ({ cls := "com/example/envelope_to_bits/envelopetobits/NetworkOrderWritePinLaw", name := "acc", desc := "(J[BIII)J" } : Jvm.MethodName) method_5_code (6 : Nat) (Option.some Jvm.ClassFile.FieldType.long)]
set_option maxRecDepth 65536 in
theorem codes_eq : words1.filter isCode = codes1 := rfl
theorem w_codes : ∀ c ∈ words1.filter isCode, c.before args0 about1 = true := by
  rw [codes_eq]
  intro c hc
  simp only [codes1, List.mem_cons, List.not_mem_nil, or_false] at hc
  rcases hc with rfl | rfl | rfl | rfl | rfl
  · exact w_c0
  · exact w_c1
  · exact w_c2
  · exact w_c3
  · exact w_c4
set_option maxRecDepth 65536 in
theorem w_t1 : words1.all (fun c => isCode c || c.before args0 about1) = true := by decide +kernel
theorem w_tables : (allAtoms (Jvm.Cond.code x code maxLocals ret :: tables_1)).before args0 about1 = true := by
  rw [allAtoms_all]
  show words1.all (fun c => c.before args0 about1) = true
  refine all_split ?_ w_codes
  rw [w_t1]
set_option maxRecDepth 65536 in
theorem w_case : (Jvm.Cond.and given_1 narrow_1).before args0 about1 = true := by decide +kernel
theorem w_applies : (headSpec (Jvm.Cond.code x code maxLocals ret :: tables_1) room_1).applies x e0.platform about1 = true :=
  (Spec.applies_iff w_frames).mpr ⟨w_running, w_runnable, w_alone, w_named, w_hears, w_ripe, w_room, w_tables⟩
theorem atStart : AtStart classFile x code maxLocals ret World_1 tables_1 room_1 Calls_1 rest_1 Pre_1 launch0 p0 e0 about1 theMethod args0 below0 :=
  ⟨lists_1, trivial, launch0.admits_env _ _ _, launch0.least_env, fairChoices_fair.cas, fairChoices_fair.clock, w_frames, w_args, w_heap, w_applies, trivial, trivial, w_case⟩
end start1
theorem witness_1 : WitnessClaimed_1 := ⟨start1.p0, start1.e0, start1.about1, start1.theMethod, start1.args0, start1.below0, start1.atStart⟩
end Jvm.Pilot.@@N@@
