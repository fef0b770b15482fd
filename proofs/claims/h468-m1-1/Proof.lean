import JvmDerived
import JvmDerived.Pilot.@@N@@Statement
import JvmDerived.Pilot.@@N@@Code
set_option linter.unusedVariables false
set_option linter.unusedSimpArgs false
namespace Jvm.Own
open Jvm Jvm.ClassFile Sem Op Lib Jvm.Free Jvm.Stand Jvm.LawKit Jvm.RoadKit
def b2i (b : Bool) : Int32 := if b then 1 else 0
theorem wd {ws : List Jvm.Cond} {a0 : Array Value} {Z : State} (hw : ∀ d ∈ ws, d.before a0 Z = true) (i : Nat) {d : Jvm.Cond} (h : ws[i]? = some d) : d.before a0 Z = true := hw d (List.mem_of_getElem? h)
/-- a contract of a body: from the heap h with these arguments it returns, writes nothing below n0, and Q holds of what it returns and of the heap -/
def Met (l : Launch) (Z : State) (y : MethodName) (bytes : ByteArray) (maxL : Nat) (ret : Option FieldType) (rm : Room) (as' : Array Value) (h : Heap) (n0 : Nat) (Q : Option Value → Heap → Prop) : Prop :=
  ∀ ws, MetFree l y (head1 (Jvm.Cond.code y bytes maxL ret :: ws) rm) (fun a U => a = as' ∧ Z.Warmed39 U.vm ∧ U.heap = h) (fun _ _ _ _ _ => True) (fun _ U o U' => ∃ v L, o = .returned v ∧ (Fr n0 L ∧ Q v U'.heap) ∧ FrameEnd U o U' L rm.cells rm.slots)
def Cx (p : Program) (s : State) (m : MethodId) (meth : Method) (c : Code) (Z : State) (y : MethodName) (bytes : ByteArray) (maxL : Nat) (ret : Option FieldType) : Prop :=
  p.tables.exec = Jvm.exec ∧ Z.Warmed39 s.vm ∧ s.vm.findClass y.cls = some m.cls ∧ meth.name = y.name ∧ c.code = bytes ∧ c.maxLocals = maxL ∧ meth.sig.returnType = ret ∧ meth.locks = false
def Go (p : Program) (l : Launch) (e : Env) (R : Room) (s : State) (m : MethodId) (args : Array Value) (below : List Frame) (meth : Method) (c : Code) (n0 : Nat) (Q : Option Value → Heap → Prop) (cells slots : Nat) (h : Heap) (f : JFrame) : Prop :=
  ∀ T locs, Stand p l e R s m args below meth c T locs cells slots → Fr n0 locs → T.heap = h → ∃ t o, Steps p.tables e below (T.setTop f) t ∧ t.status = .running ∧ Ended t below o ∧ ∃ v L, o = .returned v ∧ (Fr n0 L ∧ Q v t.heap) ∧ FrameEnd s o t L R.cells R.slots
section
variable {p : Program} {l : Launch} {e : Env} {R : Room} {s : State} {m : MethodId} {args : Array Value} {below : List Frame} {meth : Method} {c : Code} {Z : State} {y : MethodName} {bytes : ByteArray} {maxL : Nat} {ret : Option FieldType} {n0 : Nat} {Q : Option Value → Heap → Prop} {cells slots : Nat} {h : Heap} {pc n n' : Nat} {Ls : Array Slot} {st : List Value} {a0 : Array Value}
theorem Cx.x (C : Cx p s m meth c Z y bytes maxL ret) : p.tables.exec = Jvm.exec := C.1
theorem Cx.z (C : Cx p s m meth c Z y bytes maxL ret) : Z.Warmed39 s.vm := C.2.1
theorem Cx.own (C : Cx p s m meth c Z y bytes maxL ret) : s.vm.findClass y.cls = some m.cls := C.2.2.1
theorem Cx.nm (C : Cx p s m meth c Z y bytes maxL ret) : meth.name = y.name := C.2.2.2.1
theorem Cx.by (C : Cx p s m meth c Z y bytes maxL ret) : c.code = bytes := C.2.2.2.2.1
theorem Cx.ml (C : Cx p s m meth c Z y bytes maxL ret) : c.maxLocals = maxL := C.2.2.2.2.2.1
theorem Cx.rt (C : Cx p s m meth c Z y bytes maxL ret) : meth.sig.returnType = ret := C.2.2.2.2.2.2.1
theorem Cx.locks (C : Cx p s m meth c Z y bytes maxL ret) : meth.locks = false := C.2.2.2.2.2.2.2
theorem Met.of {rm : Room} {as' : Array Value} {Ls0 : Array Slot} (hp : plainFor y = true) (he : ∀ m, entryFrame m as' maxL = mkF m 0 Ls0 [])
    (body : ∀ p e s m args below meth c, Cx p s m meth c Z y bytes maxL ret → Go p l e rm s m args below meth c n0 Q 0 0 h (mkF m 0 Ls0 [])) : Met l Z y bytes maxL ret rm as' h n0 Q := by
  intro ws
  refine MetFree.of_bodySF hp hisR ?_
  intro p e s m args below meth c s₁ Bd hml0 hP hK
  obtain ⟨rfl, hZ, hh⟩ := hP
  have C : Cx p s m meth c Z y bytes maxL ret := ⟨Bd.exec, hZ, findClass_of_methodNamed Bd.named, (name_of_methodNamed Bd.named Bd.method).1, Bd.bytes, hml0, Bd.returns, Bd.notSynchronized⟩
  have X0 : Stand p l e rm s m args below meth c s₁ [] 0 0 := Stand.of_body Bd
  have e0 : s₁.heap = h := by rw [← hh, Bd.state]; rfl
  obtain ⟨t, o, st, r⟩ := body p e s m args below meth c C s₁ [] X0 (Fr.nil n0) e0
  exact ⟨t, o, castTop (he m) st, r⟩
theorem Met.weaken {rm : Room} {as' : Array Value} {Q' : Option Value → Heap → Prop} (M : Met l Z y bytes maxL ret rm as' h n0 Q) (q : ∀ v h', Q v h' → Q' v h') : Met l Z y bytes maxL ret rm as' h n0 Q' := by
  intro ws p e ha hc hk s m args below hf happ hP hK
  obtain ⟨n, o, h1, h2, h3, v, L, h4, h5, h6⟩ := M ws p e ha hc hk s m args below hf happ hP hK
  exact ⟨n, o, h1, h2, h3, v, L, h4, ⟨h5.1, q _ _ h5.2⟩, h6⟩
theorem Go.via {f f' : JFrame} (hs : ∀ T locs, Stand p l e R s m args below meth c T locs cells slots → T.heap = h → ∀ t, Steps p.tables e below (T.setTop f') t → Steps p.tables e below (T.setTop f) t)
    (k : Go p l e R s m args below meth c n0 Q cells slots h f') : Go p l e R s m args below meth c n0 Q cells slots h f := fun T locs X N q => by
  obtain ⟨t, o, st, r⟩ := k T locs X N q
  exact ⟨t, o, hs T locs X q t st, r⟩
theorem Go.mono {f : JFrame} {cells' slots' : Nat} (h1 : cells ≤ cells') (h2 : slots ≤ slots') (k : Go p l e R s m args below meth c n0 Q cells' slots' h f) : Go p l e R s m args below meth c n0 Q cells slots h f := fun T locs X N q =>
  k T locs ⟨X.admits, X.cas, X.clock, X.frames, X.room, X.hears, X.method, X.code, X.here, X.tail, X.warmed, X.limits, X.bytes, X.same.mono h1 h2⟩ N q
theorem Go.cast {f f' : JFrame} (q : f = f') (k : Go p l e R s m args below meth c n0 Q cells slots h f') : Go p l e R s m args below meth c n0 Q cells slots h f := q ▸ k

theorem G.iadd (C : Cx p s m meth c Z y bytes maxL ret) {x1 x2 : Int32} (hd : decode bytes pc = .ok (.iadd, 1))  (hn : pc + 1 = n) (k : Go p l e R s m args below meth c n0 Q cells slots h (mkF m n Ls (.int (x1 + x2) :: st))) : Go p l e R s m args below meth c n0 Q cells slots h (mkF m pc Ls (.int x2 :: .int x1 :: st)) := by
  subst hn
  exact Go.via (fun T locs X _ t q => XS.iadd X.here C.x rfl (hb C.by hd) rfl q) k
theorem G.isub (C : Cx p s m meth c Z y bytes maxL ret) {x1 x2 : Int32} (hd : decode bytes pc = .ok (.isub, 1))  (hn : pc + 1 = n) (k : Go p l e R s m args below meth c n0 Q cells slots h (mkF m n Ls (.int (x1 - x2) :: st))) : Go p l e R s m args below meth c n0 Q cells slots h (mkF m pc Ls (.int x2 :: .int x1 :: st)) := by
  subst hn
  exact Go.via (fun T locs X _ t q => XS.isub X.here C.x rfl (hb C.by hd) rfl q) k
theorem G.imul (C : Cx p s m meth c Z y bytes maxL ret) {x1 x2 : Int32} (hd : decode bytes pc = .ok (.imul, 1))  (hn : pc + 1 = n) (k : Go p l e R s m args below meth c n0 Q cells slots h (mkF m n Ls (.int (x1 * x2) :: st))) : Go p l e R s m args below meth c n0 Q cells slots h (mkF m pc Ls (.int x2 :: .int x1 :: st)) := by
  subst hn
  exact Go.via (fun T locs X _ t q => XS.imul X.here C.x rfl (hb C.by hd) rfl q) k
theorem G.iand (C : Cx p s m meth c Z y bytes maxL ret) {x1 x2 : Int32} (hd : decode bytes pc = .ok (.iand, 1))  (hn : pc + 1 = n) (k : Go p l e R s m args below meth c n0 Q cells slots h (mkF m n Ls (.int (x1 &&& x2) :: st))) : Go p l e R s m args below meth c n0 Q cells slots h (mkF m pc Ls (.int x2 :: .int x1 :: st)) := by
  subst hn
  exact Go.via (fun T locs X _ t q => XS.iand X.here C.x rfl (hb C.by hd) rfl q) k
theorem G.ior (C : Cx p s m meth c Z y bytes maxL ret) {x1 x2 : Int32} (hd : decode bytes pc = .ok (.ior, 1))  (hn : pc + 1 = n) (k : Go p l e R s m args below meth c n0 Q cells slots h (mkF m n Ls (.int (x1 ||| x2) :: st))) : Go p l e R s m args below meth c n0 Q cells slots h (mkF m pc Ls (.int x2 :: .int x1 :: st)) := by
  subst hn
  exact Go.via (fun T locs X _ t q => XS.ior X.here C.x rfl (hb C.by hd) rfl q) k
theorem G.ixor (C : Cx p s m meth c Z y bytes maxL ret) {x1 x2 : Int32} (hd : decode bytes pc = .ok (.ixor, 1))  (hn : pc + 1 = n) (k : Go p l e R s m args below meth c n0 Q cells slots h (mkF m n Ls (.int (x1 ^^^ x2) :: st))) : Go p l e R s m args below meth c n0 Q cells slots h (mkF m pc Ls (.int x2 :: .int x1 :: st)) := by
  subst hn
  exact Go.via (fun T locs X _ t q => XS.ixor X.here C.x rfl (hb C.by hd) rfl q) k
theorem G.ladd (C : Cx p s m meth c Z y bytes maxL ret) {x1 x2 : Int64} (hd : decode bytes pc = .ok (.ladd, 1))  (hn : pc + 1 = n) (k : Go p l e R s m args below meth c n0 Q cells slots h (mkF m n Ls (.long (x1 + x2) :: st))) : Go p l e R s m args below meth c n0 Q cells slots h (mkF m pc Ls (.long x2 :: .long x1 :: st)) := by
  subst hn
  exact Go.via (fun T locs X _ t q => XS.ladd X.here C.x rfl (hb C.by hd) rfl q) k
theorem G.lsub (C : Cx p s m meth c Z y bytes maxL ret) {x1 x2 : Int64} (hd : decode bytes pc = .ok (.lsub, 1))  (hn : pc + 1 = n) (k : Go p l e R s m args below meth c n0 Q cells slots h (mkF m n Ls (.long (x1 - x2) :: st))) : Go p l e R s m args below meth c n0 Q cells slots h (mkF m pc Ls (.long x2 :: .long x1 :: st)) := by
  subst hn
  exact Go.via (fun T locs X _ t q => XS.lsub X.here C.x rfl (hb C.by hd) rfl q) k
theorem G.lmul (C : Cx p s m meth c Z y bytes maxL ret) {x1 x2 : Int64} (hd : decode bytes pc = .ok (.lmul, 1))  (hn : pc + 1 = n) (k : Go p l e R s m args below meth c n0 Q cells slots h (mkF m n Ls (.long (x1 * x2) :: st))) : Go p l e R s m args below meth c n0 Q cells slots h (mkF m pc Ls (.long x2 :: .long x1 :: st)) := by
  subst hn
  exact Go.via (fun T locs X _ t q => XS.lmul X.here C.x rfl (hb C.by hd) rfl q) k
theorem G.land (C : Cx p s m meth c Z y bytes maxL ret) {x1 x2 : Int64} (hd : decode bytes pc = .ok (.land, 1))  (hn : pc + 1 = n) (k : Go p l e R s m args below meth c n0 Q cells slots h (mkF m n Ls (.long (x1 &&& x2) :: st))) : Go p l e R s m args below meth c n0 Q cells slots h (mkF m pc Ls (.long x2 :: .long x1 :: st)) := by
  subst hn
  exact Go.via (fun T locs X _ t q => XS.land X.here C.x rfl (hb C.by hd) rfl q) k
theorem G.lor (C : Cx p s m meth c Z y bytes maxL ret) {x1 x2 : Int64} (hd : decode bytes pc = .ok (.lor, 1))  (hn : pc + 1 = n) (k : Go p l e R s m args below meth c n0 Q cells slots h (mkF m n Ls (.long (x1 ||| x2) :: st))) : Go p l e R s m args below meth c n0 Q cells slots h (mkF m pc Ls (.long x2 :: .long x1 :: st)) := by
  subst hn
  exact Go.via (fun T locs X _ t q => XS.lor X.here C.x rfl (hb C.by hd) rfl q) k
theorem G.lxor (C : Cx p s m meth c Z y bytes maxL ret) {x1 x2 : Int64} (hd : decode bytes pc = .ok (.lxor, 1))  (hn : pc + 1 = n) (k : Go p l e R s m args below meth c n0 Q cells slots h (mkF m n Ls (.long (x1 ^^^ x2) :: st))) : Go p l e R s m args below meth c n0 Q cells slots h (mkF m pc Ls (.long x2 :: .long x1 :: st)) := by
  subst hn
  exact Go.via (fun T locs X _ t q => XS.lxor X.here C.x rfl (hb C.by hd) rfl q) k
theorem G.idiv (C : Cx p s m meth c Z y bytes maxL ret) {x1 x2 : Int32} (hd : decode bytes pc = .ok (.idiv, 1)) (hy : x2 ≠ 0) (hn : pc + 1 = n) (k : Go p l e R s m args below meth c n0 Q cells slots h (mkF m n Ls (.int (x1 / x2) :: st))) : Go p l e R s m args below meth c n0 Q cells slots h (mkF m pc Ls (.int x2 :: .int x1 :: st)) := by
  subst hn
  exact Go.via (fun T locs X _ t q => XS.idiv X.here C.x rfl (hb C.by hd) rfl hy q) k
theorem G.ishl (C : Cx p s m meth c Z y bytes maxL ret) {x1 x2 : Int32} (hd : decode bytes pc = .ok (.ishl, 1))  (hn : pc + 1 = n) (k : Go p l e R s m args below meth c n0 Q cells slots h (mkF m n Ls (.int (x1 <<< (x2 &&& 31)) :: st))) : Go p l e R s m args below meth c n0 Q cells slots h (mkF m pc Ls (.int x2 :: .int x1 :: st)) := by
  subst hn
  exact Go.via (fun T locs X _ t q => XS.ishl X.here C.x rfl (hb C.by hd) rfl q) k
theorem G.ishr (C : Cx p s m meth c Z y bytes maxL ret) {x1 x2 : Int32} (hd : decode bytes pc = .ok (.ishr, 1))  (hn : pc + 1 = n) (k : Go p l e R s m args below meth c n0 Q cells slots h (mkF m n Ls (.int (x1 >>> (x2 &&& 31)) :: st))) : Go p l e R s m args below meth c n0 Q cells slots h (mkF m pc Ls (.int x2 :: .int x1 :: st)) := by
  subst hn
  exact Go.via (fun T locs X _ t q => XS.ishr X.here C.x rfl (hb C.by hd) rfl q) k
theorem G.iushr (C : Cx p s m meth c Z y bytes maxL ret) {x1 x2 : Int32} (hd : decode bytes pc = .ok (.iushr, 1))  (hn : pc + 1 = n) (k : Go p l e R s m args below meth c n0 Q cells slots h (mkF m n Ls (.int ((x1.toUInt32 >>> (x2 &&& 31).toUInt32).toInt32) :: st))) : Go p l e R s m args below meth c n0 Q cells slots h (mkF m pc Ls (.int x2 :: .int x1 :: st)) := by
  subst hn
  exact Go.via (fun T locs X _ t q => XS.iushr X.here C.x rfl (hb C.by hd) rfl q) k
theorem G.irem (C : Cx p s m meth c Z y bytes maxL ret) {x1 x2 : Int32} (hd : decode bytes pc = .ok (.irem, 1)) (hy : x2 ≠ 0) (hn : pc + 1 = n) (k : Go p l e R s m args below meth c n0 Q cells slots h (mkF m n Ls (.int (x1 % x2) :: st))) : Go p l e R s m args below meth c n0 Q cells slots h (mkF m pc Ls (.int x2 :: .int x1 :: st)) := by
  subst hn
  exact Go.via (fun T locs X _ t q => iremM X C.x rfl (hb C.by hd) rfl hy q) k
theorem G.ldiv (C : Cx p s m meth c Z y bytes maxL ret) {x1 x2 : Int64} (hd : decode bytes pc = .ok (.ldiv, 1)) (hy : x2 ≠ 0) (hn : pc + 1 = n) (k : Go p l e R s m args below meth c n0 Q cells slots h (mkF m n Ls (.long (x1 / x2) :: st))) : Go p l e R s m args below meth c n0 Q cells slots h (mkF m pc Ls (.long x2 :: .long x1 :: st)) := by
  subst hn
  exact Go.via (fun T locs X _ t q => XS.ldiv X.here C.x rfl (hb C.by hd) rfl hy q) k
theorem G.lrem (C : Cx p s m meth c Z y bytes maxL ret) {x1 x2 : Int64} (hd : decode bytes pc = .ok (.lrem, 1)) (hy : x2 ≠ 0) (hn : pc + 1 = n) (k : Go p l e R s m args below meth c n0 Q cells slots h (mkF m n Ls (.long (x1 - (x1 / x2) * x2) :: st))) : Go p l e R s m args below meth c n0 Q cells slots h (mkF m pc Ls (.long x2 :: .long x1 :: st)) := by
  subst hn
  exact Go.via (fun T locs X _ t q => XS.lrem X.here C.x rfl (hb C.by hd) rfl hy q) k
theorem G.lshl (C : Cx p s m meth c Z y bytes maxL ret) {x1 : Int64} {x2 : Int32} (hd : decode bytes pc = .ok (.lshl, 1))  (hn : pc + 1 = n) (k : Go p l e R s m args below meth c n0 Q cells slots h (mkF m n Ls (.long (x1 <<< (x2 &&& 0x3f).toInt64) :: st))) : Go p l e R s m args below meth c n0 Q cells slots h (mkF m pc Ls (.int x2 :: .long x1 :: st)) := by
  subst hn
  exact Go.via (fun T locs X _ t q => XS.lshl X.here C.x rfl (hb C.by hd) rfl q) k
theorem G.lshr (C : Cx p s m meth c Z y bytes maxL ret) {x1 : Int64} {x2 : Int32} (hd : decode bytes pc = .ok (.lshr, 1))  (hn : pc + 1 = n) (k : Go p l e R s m args below meth c n0 Q cells slots h (mkF m n Ls (.long (x1 >>> (x2 &&& 0x3f).toInt64) :: st))) : Go p l e R s m args below meth c n0 Q cells slots h (mkF m pc Ls (.int x2 :: .long x1 :: st)) := by
  subst hn
  exact Go.via (fun T locs X _ t q => XS.lshr X.here C.x rfl (hb C.by hd) rfl q) k
theorem G.lushr (C : Cx p s m meth c Z y bytes maxL ret) {x1 : Int64} {x2 : Int32} (hd : decode bytes pc = .ok (.lushr, 1))  (hn : pc + 1 = n) (k : Go p l e R s m args below meth c n0 Q cells slots h (mkF m n Ls (.long ((x1.toUInt64 >>> (x2 &&& 0x3f).toInt64.toUInt64).toInt64) :: st))) : Go p l e R s m args below meth c n0 Q cells slots h (mkF m pc Ls (.int x2 :: .long x1 :: st)) := by
  subst hn
  exact Go.via (fun T locs X _ t q => XS.lushr X.here C.x rfl (hb C.by hd) rfl q) k
theorem G.ineg (C : Cx p s m meth c Z y bytes maxL ret) {x : Int32} (hd : decode bytes pc = .ok (.ineg, 1))  (hn : pc + 1 = n) (k : Go p l e R s m args below meth c n0 Q cells slots h (mkF m n Ls (.int (-x) :: st))) : Go p l e R s m args below meth c n0 Q cells slots h (mkF m pc Ls (.int x :: st)) := by
  subst hn
  exact Go.via (fun T locs X _ t q => XS.ineg X.here C.x rfl (hb C.by hd) rfl q) k
theorem G.lneg (C : Cx p s m meth c Z y bytes maxL ret) {x : Int64} (hd : decode bytes pc = .ok (.lneg, 1))  (hn : pc + 1 = n) (k : Go p l e R s m args below meth c n0 Q cells slots h (mkF m n Ls (.long (-x) :: st))) : Go p l e R s m args below meth c n0 Q cells slots h (mkF m pc Ls (.long x :: st)) := by
  subst hn
  exact Go.via (fun T locs X _ t q => XS.lneg X.here C.x rfl (hb C.by hd) rfl q) k
theorem G.i2l (C : Cx p s m meth c Z y bytes maxL ret) {x : Int32} (hd : decode bytes pc = .ok (.i2l, 1))  (hn : pc + 1 = n) (k : Go p l e R s m args below meth c n0 Q cells slots h (mkF m n Ls (.long (x.toInt64) :: st))) : Go p l e R s m args below meth c n0 Q cells slots h (mkF m pc Ls (.int x :: st)) := by
  subst hn
  exact Go.via (fun T locs X _ t q => XS.i2l X.here C.x rfl (hb C.by hd) rfl q) k
theorem G.l2i (C : Cx p s m meth c Z y bytes maxL ret) {x : Int64} (hd : decode bytes pc = .ok (.l2i, 1))  (hn : pc + 1 = n) (k : Go p l e R s m args below meth c n0 Q cells slots h (mkF m n Ls (.int (x.toInt32) :: st))) : Go p l e R s m args below meth c n0 Q cells slots h (mkF m pc Ls (.long x :: st)) := by
  subst hn
  exact Go.via (fun T locs X _ t q => XS.l2i X.here C.x rfl (hb C.by hd) rfl q) k
theorem G.i2b (C : Cx p s m meth c Z y bytes maxL ret) {x : Int32} (hd : decode bytes pc = .ok (.i2b, 1))  (hn : pc + 1 = n) (k : Go p l e R s m args below meth c n0 Q cells slots h (mkF m n Ls (.int (x.toInt8.toInt32) :: st))) : Go p l e R s m args below meth c n0 Q cells slots h (mkF m pc Ls (.int x :: st)) := by
  subst hn
  exact Go.via (fun T locs X _ t q => XS.i2b X.here C.x rfl (hb C.by hd) rfl q) k
theorem G.i2s (C : Cx p s m meth c Z y bytes maxL ret) {x : Int32} (hd : decode bytes pc = .ok (.i2s, 1))  (hn : pc + 1 = n) (k : Go p l e R s m args below meth c n0 Q cells slots h (mkF m n Ls (.int (x.toInt16.toInt32) :: st))) : Go p l e R s m args below meth c n0 Q cells slots h (mkF m pc Ls (.int x :: st)) := by
  subst hn
  exact Go.via (fun T locs X _ t q => XS.i2s X.here C.x rfl (hb C.by hd) rfl q) k
theorem G.i2c (C : Cx p s m meth c Z y bytes maxL ret) {x : Int32} (hd : decode bytes pc = .ok (.i2c, 1))  (hn : pc + 1 = n) (k : Go p l e R s m args below meth c n0 Q cells slots h (mkF m n Ls (.int (x.toUInt32.toUInt16.toUInt32.toInt32) :: st))) : Go p l e R s m args below meth c n0 Q cells slots h (mkF m pc Ls (.int x :: st)) := by
  subst hn
  exact Go.via (fun T locs X _ t q => XS.i2c X.here C.x rfl (hb C.by hd) rfl q) k
theorem G.iconst (C : Cx p s m meth c Z y bytes maxL ret) {i : Int} (v : Int32) (hd : decode bytes pc = .ok (.iconst i, 1)) (hv : Int32.ofInt i = v) (hn : pc + 1 = n) (k : Go p l e R s m args below meth c n0 Q cells slots h (mkF m n Ls (.int v :: st))) : Go p l e R s m args below meth c n0 Q cells slots h (mkF m pc Ls (st)) := by
  subst hn hv
  exact Go.via (fun T locs X _ t q => XS.iconst X.here C.x rfl (hb C.by hd)  q) k
theorem G.bipush (C : Cx p s m meth c Z y bytes maxL ret) {i : Int} (v : Int32) (hd : decode bytes pc = .ok (.bipush i, 2)) (hv : (Int8.ofInt i).toInt32 = v) (hn : pc + 2 = n) (k : Go p l e R s m args below meth c n0 Q cells slots h (mkF m n Ls (.int v :: st))) : Go p l e R s m args below meth c n0 Q cells slots h (mkF m pc Ls (st)) := by
  subst hn hv
  exact Go.via (fun T locs X _ t q => XS.bipush X.here C.x rfl (hb C.by hd)  q) k
theorem G.sipush (C : Cx p s m meth c Z y bytes maxL ret) {i : Int} (v : Int32) (hd : decode bytes pc = .ok (.sipush i, 3)) (hv : (Int16.ofInt i).toInt32 = v) (hn : pc + 3 = n) (k : Go p l e R s m args below meth c n0 Q cells slots h (mkF m n Ls (.int v :: st))) : Go p l e R s m args below meth c n0 Q cells slots h (mkF m pc Ls (st)) := by
  subst hn hv
  exact Go.via (fun T locs X _ t q => XS.sipush X.here C.x rfl (hb C.by hd)  q) k
theorem G.lconst (C : Cx p s m meth c Z y bytes maxL ret) {i : Fin 2} (v : Int64) (hd : decode bytes pc = .ok (.lconst i, 1)) (hv : Int64.ofNat i = v) (hn : pc + 1 = n) (k : Go p l e R s m args below meth c n0 Q cells slots h (mkF m n Ls (.long v :: st))) : Go p l e R s m args below meth c n0 Q cells slots h (mkF m pc Ls (st)) := by
  subst hn hv
  exact Go.via (fun T locs X _ t q => XS.lconst X.here C.x rfl (hb C.by hd)  q) k
theorem G.aconst_null (C : Cx p s m meth c Z y bytes maxL ret)  (hd : decode bytes pc = .ok (.aconst_null, 1))  (hn : pc + 1 = n) (k : Go p l e R s m args below meth c n0 Q cells slots h (mkF m n Ls (.null :: st))) : Go p l e R s m args below meth c n0 Q cells slots h (mkF m pc Ls (st)) := by
  subst hn
  exact Go.via (fun T locs X _ t q => XS.aconstNull X.here C.x rfl (hb C.by hd)  q) k
theorem G.iload (C : Cx p s m meth c Z y bytes maxL ret) {k : Nat} {v : Int32} (hd : decode bytes pc = .ok (.iload k, 2)) (hl : Ls[k]? = some (.val (.int v)))  (hn : pc + 2 = n) (k : Go p l e R s m args below meth c n0 Q cells slots h (mkF m n Ls (.int v :: st))) : Go p l e R s m args below meth c n0 Q cells slots h (mkF m pc Ls (st)) := by
  subst hn
  exact Go.via (fun T locs X _ t q => XS.iload X.here C.x rfl (hb C.by hd) hl q) k
theorem G.iloadN (C : Cx p s m meth c Z y bytes maxL ret) {k : Fin 4} {v : Int32} (hd : decode bytes pc = .ok (.iload_n k, 1)) (hl : Ls[k.val]? = some (.val (.int v)))  (hn : pc + 1 = n) (k : Go p l e R s m args below meth c n0 Q cells slots h (mkF m n Ls (.int v :: st))) : Go p l e R s m args below meth c n0 Q cells slots h (mkF m pc Ls (st)) := by
  subst hn
  exact Go.via (fun T locs X _ t q => XS.iloadN X.here C.x rfl (hb C.by hd) hl q) k
theorem G.lload (C : Cx p s m meth c Z y bytes maxL ret) {k : Nat} {v : Int64} (hd : decode bytes pc = .ok (.lload k, 2)) (hl : Ls[k]? = some (.val (.long v)))  (hn : pc + 2 = n) (k : Go p l e R s m args below meth c n0 Q cells slots h (mkF m n Ls (.long v :: st))) : Go p l e R s m args below meth c n0 Q cells slots h (mkF m pc Ls (st)) := by
  subst hn
  exact Go.via (fun T locs X _ t q => XS.lload X.here C.x rfl (hb C.by hd) hl q) k
theorem G.lloadN (C : Cx p s m meth c Z y bytes maxL ret) {k : Fin 4} {v : Int64} (hd : decode bytes pc = .ok (.lload_n k, 1)) (hl : Ls[k.val]? = some (.val (.long v)))  (hn : pc + 1 = n) (k : Go p l e R s m args below meth c n0 Q cells slots h (mkF m n Ls (.long v :: st))) : Go p l e R s m args below meth c n0 Q cells slots h (mkF m pc Ls (st)) := by
  subst hn
  exact Go.via (fun T locs X _ t q => XS.lloadN X.here C.x rfl (hb C.by hd) hl q) k
theorem G.aload (C : Cx p s m meth c Z y bytes maxL ret) {k : Nat} {v : Value} (hd : decode bytes pc = .ok (.aload k, 2)) (hl : Ls[k]? = some (.val (v))) (hv : v.isRef = true) (hn : pc + 2 = n) (k : Go p l e R s m args below meth c n0 Q cells slots h (mkF m n Ls (v :: st))) : Go p l e R s m args below meth c n0 Q cells slots h (mkF m pc Ls (st)) := by
  subst hn
  exact Go.via (fun T locs X _ t q => XS.aload X.here C.x rfl (hb C.by hd) hl hv q) k
theorem G.aloadN (C : Cx p s m meth c Z y bytes maxL ret) {k : Fin 4} {v : Value} (hd : decode bytes pc = .ok (.aload_n k, 1)) (hl : Ls[k.val]? = some (.val (v))) (hv : v.isRef = true) (hn : pc + 1 = n) (k : Go p l e R s m args below meth c n0 Q cells slots h (mkF m n Ls (v :: st))) : Go p l e R s m args below meth c n0 Q cells slots h (mkF m pc Ls (st)) := by
  subst hn
  exact Go.via (fun T locs X _ t q => XS.aloadN X.here C.x rfl (hb C.by hd) hl hv q) k
theorem G.istore (C : Cx p s m meth c Z y bytes maxL ret) {k : Nat} {x : Int32} {l' : Array Slot} (hd : decode bytes pc = .ok (.istore k, 2))  (hl : storeLocals Ls k (.int x) = some l') (hn : pc + 2 = n) (kk : Go p l e R s m args below meth c n0 Q cells slots h (mkF m n l' (st))) : Go p l e R s m args below meth c n0 Q cells slots h (mkF m pc Ls (.int x :: st)) := by
  subst hn
  exact Go.via (fun T locs X _ t q => XS.istore X.here C.x rfl (hb C.by hd) rfl hl q) kk
theorem G.istoreZ (C : Cx p s m meth c Z y bytes maxL ret) {k : Nat} {x : Int32} {l' : Int32 → Array Slot} (hd : decode bytes pc = .ok (.istore k, 2)) (hl : ∀ z, storeLocals Ls k (.int z) = some (l' z)) (hn : pc + 2 = n) (kk : ∀ z, z = x → Go p l e R s m args below meth c n0 Q cells slots h (mkF m n (l' z) (st))) : Go p l e R s m args below meth c n0 Q cells slots h (mkF m pc Ls (.int x :: st)) :=
  G.istore C hd (hl x) hn (kk x rfl)
theorem G.istoreN (C : Cx p s m meth c Z y bytes maxL ret) {k : Fin 4} {x : Int32} {l' : Array Slot} (hd : decode bytes pc = .ok (.istore_n k, 1))  (hl : storeLocals Ls k.val (.int x) = some l') (hn : pc + 1 = n) (kk : Go p l e R s m args below meth c n0 Q cells slots h (mkF m n l' (st))) : Go p l e R s m args below meth c n0 Q cells slots h (mkF m pc Ls (.int x :: st)) := by
  subst hn
  exact Go.via (fun T locs X _ t q => XS.istoreN X.here C.x rfl (hb C.by hd) rfl hl q) kk
theorem G.istoreNZ (C : Cx p s m meth c Z y bytes maxL ret) {k : Fin 4} {x : Int32} {l' : Int32 → Array Slot} (hd : decode bytes pc = .ok (.istore_n k, 1)) (hl : ∀ z, storeLocals Ls k.val (.int z) = some (l' z)) (hn : pc + 1 = n) (kk : ∀ z, z = x → Go p l e R s m args below meth c n0 Q cells slots h (mkF m n (l' z) (st))) : Go p l e R s m args below meth c n0 Q cells slots h (mkF m pc Ls (.int x :: st)) :=
  G.istoreN C hd (hl x) hn (kk x rfl)
theorem G.lstore (C : Cx p s m meth c Z y bytes maxL ret) {k : Nat} {x : Int64} {l' : Array Slot} (hd : decode bytes pc = .ok (.lstore k, 2))  (hl : storeLocals Ls k (.long x) = some l') (hn : pc + 2 = n) (kk : Go p l e R s m args below meth c n0 Q cells slots h (mkF m n l' (st))) : Go p l e R s m args below meth c n0 Q cells slots h (mkF m pc Ls (.long x :: st)) := by
  subst hn
  exact Go.via (fun T locs X _ t q => XS.lstore X.here C.x rfl (hb C.by hd) rfl hl q) kk
theorem G.lstoreZ (C : Cx p s m meth c Z y bytes maxL ret) {k : Nat} {x : Int64} {l' : Int64 → Array Slot} (hd : decode bytes pc = .ok (.lstore k, 2)) (hl : ∀ z, storeLocals Ls k (.long z) = some (l' z)) (hn : pc + 2 = n) (kk : ∀ z, z = x → Go p l e R s m args below meth c n0 Q cells slots h (mkF m n (l' z) (st))) : Go p l e R s m args below meth c n0 Q cells slots h (mkF m pc Ls (.long x :: st)) :=
  G.lstore C hd (hl x) hn (kk x rfl)
theorem G.lstoreN (C : Cx p s m meth c Z y bytes maxL ret) {k : Fin 4} {x : Int64} {l' : Array Slot} (hd : decode bytes pc = .ok (.lstore_n k, 1))  (hl : storeLocals Ls k.val (.long x) = some l') (hn : pc + 1 = n) (kk : Go p l e R s m args below meth c n0 Q cells slots h (mkF m n l' (st))) : Go p l e R s m args below meth c n0 Q cells slots h (mkF m pc Ls (.long x :: st)) := by
  subst hn
  exact Go.via (fun T locs X _ t q => XS.lstoreN X.here C.x rfl (hb C.by hd) rfl hl q) kk
theorem G.lstoreNZ (C : Cx p s m meth c Z y bytes maxL ret) {k : Fin 4} {x : Int64} {l' : Int64 → Array Slot} (hd : decode bytes pc = .ok (.lstore_n k, 1)) (hl : ∀ z, storeLocals Ls k.val (.long z) = some (l' z)) (hn : pc + 1 = n) (kk : ∀ z, z = x → Go p l e R s m args below meth c n0 Q cells slots h (mkF m n (l' z) (st))) : Go p l e R s m args below meth c n0 Q cells slots h (mkF m pc Ls (.long x :: st)) :=
  G.lstoreN C hd (hl x) hn (kk x rfl)
theorem G.astore (C : Cx p s m meth c Z y bytes maxL ret) {k : Nat} {x : Value} {l' : Array Slot} (hd : decode bytes pc = .ok (.astore k, 2)) (hv : x.isRef = true) (hl : storeLocals Ls k (x) = some l') (hn : pc + 2 = n) (kk : Go p l e R s m args below meth c n0 Q cells slots h (mkF m n l' (st))) : Go p l e R s m args below meth c n0 Q cells slots h (mkF m pc Ls (x :: st)) := by
  subst hn
  exact Go.via (fun T locs X _ t q => XS.astore X.here C.x rfl (hb C.by hd) rfl hv hl q) kk
theorem G.astoreN (C : Cx p s m meth c Z y bytes maxL ret) {k : Fin 4} {x : Value} {l' : Array Slot} (hd : decode bytes pc = .ok (.astore_n k, 1)) (hv : x.isRef = true) (hl : storeLocals Ls k.val (x) = some l') (hn : pc + 1 = n) (kk : Go p l e R s m args below meth c n0 Q cells slots h (mkF m n l' (st))) : Go p l e R s m args below meth c n0 Q cells slots h (mkF m pc Ls (x :: st)) := by
  subst hn
  exact Go.via (fun T locs X _ t q => XS.astoreN X.here C.x rfl (hb C.by hd) rfl hv hl q) kk
theorem G.iinc (C : Cx p s m meth c Z y bytes maxL ret) {k : Nat} {cst : Int} (v : Int32) {x : Int32} {l' : Array Slot} (hd : decode bytes pc = .ok (.iinc k cst, 3)) (hv : Int32.ofInt cst = v) (hx : Ls[k]? = some (.val (.int x))) (hl : storeLocals Ls k (.int (x + v)) = some l') (hn : pc + 3 = n) (kk : Go p l e R s m args below meth c n0 Q cells slots h (mkF m n l' (st))) : Go p l e R s m args below meth c n0 Q cells slots h (mkF m pc Ls (st)) := by
  subst hn hv
  exact Go.via (fun T locs X _ t q => XS.iinc X.here C.x rfl (hb C.by hd) hx hl q) kk
theorem G.iincZ (C : Cx p s m meth c Z y bytes maxL ret) {k : Nat} {cst : Int} (v : Int32) {x : Int32} {l' : Int32 → Array Slot} (hd : decode bytes pc = .ok (.iinc k cst, 3)) (hv : Int32.ofInt cst = v) (hx : Ls[k]? = some (.val (.int x))) (hl : ∀ z, storeLocals Ls k (.int z) = some (l' z)) (hn : pc + 3 = n) (kk : ∀ z, z = x + v → Go p l e R s m args below meth c n0 Q cells slots h (mkF m n (l' z) (st))) : Go p l e R s m args below meth c n0 Q cells slots h (mkF m pc Ls (st)) :=
  G.iinc C v hd hv hx (hl _) hn (kk _ rfl)
theorem G.iincK (C : Cx p s m meth c Z y bytes maxL ret) {k : Nat} {cst : Int} (v : Int32) {x : Int32} (z : Int32) {l' : Array Slot} (hd : decode bytes pc = .ok (.iinc k cst, 3)) (hv : Int32.ofInt cst = v) (hx : Ls[k]? = some (.val (.int x))) (hz : x + v = z) (hl : storeLocals Ls k (.int z) = some l') (hn : pc + 3 = n) (kk : Go p l e R s m args below meth c n0 Q cells slots h (mkF m n l' (st))) : Go p l e R s m args below meth c n0 Q cells slots h (mkF m pc Ls (st)) := by
  subst hz
  exact G.iinc C v hd hv hx hl hn kk
theorem G.name_int {x : Int32} (kk : ∀ z, z = x → Go p l e R s m args below meth c n0 Q cells slots h (mkF m pc Ls (.int z :: st))) : Go p l e R s m args below meth c n0 Q cells slots h (mkF m pc Ls (.int x :: st)) := kk x rfl
theorem G.name_long {x : Int64} (kk : ∀ z, z = x → Go p l e R s m args below meth c n0 Q cells slots h (mkF m pc Ls (.long z :: st))) : Go p l e R s m args below meth c n0 Q cells slots h (mkF m pc Ls (.long x :: st)) := kk x rfl
theorem G.fold_int {x z : Int32} (hz : x = z) (kk : Go p l e R s m args below meth c n0 Q cells slots h (mkF m pc Ls (.int z :: st))) : Go p l e R s m args below meth c n0 Q cells slots h (mkF m pc Ls (.int x :: st)) := hz ▸ kk
theorem G.fold_long {x z : Int64} (hz : x = z) (kk : Go p l e R s m args below meth c n0 Q cells slots h (mkF m pc Ls (.long z :: st))) : Go p l e R s m args below meth c n0 Q cells slots h (mkF m pc Ls (.long x :: st)) := hz ▸ kk
theorem G.dup (C : Cx p s m meth c Z y bytes maxL ret) {x : Value} (hd : decode bytes pc = .ok (.dup, 1)) (hc : x.category = 1) (hn : pc + 1 = n) (k : Go p l e R s m args below meth c n0 Q cells slots h (mkF m n Ls (x :: x :: st))) : Go p l e R s m args below meth c n0 Q cells slots h (mkF m pc Ls (x :: st)) := by
  subst hn
  exact Go.via (fun T locs X _ t q => XS.dup X.here C.x rfl (hb C.by hd) rfl hc q) k
theorem G.pop (C : Cx p s m meth c Z y bytes maxL ret) {x : Value} (hd : decode bytes pc = .ok (.pop, 1)) (hc : x.category = 1) (hn : pc + 1 = n) (k : Go p l e R s m args below meth c n0 Q cells slots h (mkF m n Ls (st))) : Go p l e R s m args below meth c n0 Q cells slots h (mkF m pc Ls (x :: st)) := by
  subst hn
  exact Go.via (fun T locs X _ t q => XS.pop X.here C.x rfl (hb C.by hd) rfl hc q) k
theorem G.dup_x1 (C : Cx p s m meth c Z y bytes maxL ret) {x x2 : Value} (hd : decode bytes pc = .ok (.dup_x1, 1)) (hc : x.category = 1) (hc2 : x2.category = 1) (hn : pc + 1 = n) (k : Go p l e R s m args below meth c n0 Q cells slots h (mkF m n Ls (x :: x2 :: x :: st))) : Go p l e R s m args below meth c n0 Q cells slots h (mkF m pc Ls (x :: x2 :: st)) := by
  subst hn
  exact Go.via (fun T locs X _ t q => XS.dupX1 X.here C.x rfl (hb C.by hd) rfl hc hc2 q) k
theorem G.dup2 (C : Cx p s m meth c Z y bytes maxL ret) {x x2 : Value} (hd : decode bytes pc = .ok (.dup2, 1)) (hc : x.category = 1) (hc2 : x2.category = 1) (hn : pc + 1 = n) (k : Go p l e R s m args below meth c n0 Q cells slots h (mkF m n Ls (x :: x2 :: x :: x2 :: st))) : Go p l e R s m args below meth c n0 Q cells slots h (mkF m pc Ls (x :: x2 :: st)) := by
  subst hn
  exact Go.via (fun T locs X _ t q => XT.dup2 X.here C.x rfl (hb C.by hd) rfl hc hc2 q) k
theorem G.dup2L (C : Cx p s m meth c Z y bytes maxL ret) {x : Int64} (hd : decode bytes pc = .ok (.dup2, 1)) (hn : pc + 1 = n) (k : Go p l e R s m args below meth c n0 Q cells slots h (mkF m n Ls (.long x :: .long x :: st))) : Go p l e R s m args below meth c n0 Q cells slots h (mkF m pc Ls (.long x :: st)) := by
  subst hn
  exact Go.via (fun T locs X _ t q => XT.dup2L X.here C.x rfl (hb C.by hd) rfl q) k
theorem G.goto (C : Cx p s m meth c Z y bytes maxL ret) {o : Int} (hd : decode bytes pc = .ok (.goto o, 3)) (ho : 0 ≤ (pc : Int) + o) (hp : ((pc : Int) + o).toNat = n) (k : Go p l e R s m args below meth c n0 Q cells slots h (mkF m n Ls (st))) : Go p l e R s m args below meth c n0 Q cells slots h (mkF m pc Ls (st)) :=
  Go.via (fun T locs X _ t q => XS.goto X.here C.x rfl rfl (hb C.by hd) ho hp q) k
theorem lt_i {x y : Int32} : x < y ↔ x.toInt < y.toInt := Int32.lt_iff_toInt_lt
theorem lt_l {x y : Int64} : x < y ↔ x.toInt < y.toInt := Int64.lt_iff_toInt_lt
theorem le_i {x y : Int32} : x ≤ y ↔ x.toInt ≤ y.toInt := Int32.le_iff_toInt_le
theorem le_l {x y : Int64} : x ≤ y ↔ x.toInt ≤ y.toInt := Int64.le_iff_toInt_le
theorem ich_lt {x1 x2 : Int32} : (x1.toInt < x2.toInt ∧ if_icmp.holds .lt x1 x2 = true) ∨ (x2.toInt ≤ x1.toInt ∧ if_icmp.holds .lt x1 x2 = false) := by
  by_cases q : x1.toInt < x2.toInt
  · exact Or.inl ⟨q, by simp [if_icmp.holds, lt_i, le_i, Int32.lt_iff_toInt_lt, Int32.le_iff_toInt_le, q]⟩
  · exact Or.inr ⟨by omega, by first | (simp [if_icmp.holds, lt_i, le_i, Int32.lt_iff_toInt_lt, Int32.le_iff_toInt_le, q]; done) | (simp [if_icmp.holds, lt_i, le_i, Int32.lt_iff_toInt_lt, Int32.le_iff_toInt_le]; omega)⟩
theorem G.icmp_lt (C : Cx p s m meth c Z y bytes maxL ret) {x1 x2 : Int32} {o : Int} {A B : Int} (hA : x1.toInt = A) (hB : x2.toInt = B) (hd : decode bytes pc = .ok (.if_icmp .lt o, 3)) (ho : 0 ≤ (pc : Int) + o) (hp : ((pc : Int) + o).toNat = n') (hn : pc + 3 = n) (kt : A < B → Go p l e R s m args below meth c n0 Q cells slots h (mkF m n' Ls (st))) (kf : B ≤ A → Go p l e R s m args below meth c n0 Q cells slots h (mkF m n Ls (st))) : Go p l e R s m args below meth c n0 Q cells slots h (mkF m pc Ls (.int x2 :: .int x1 :: st)) := by
  subst hn hA hB
  rcases ich_lt (x1 := x1) (x2 := x2) with ⟨q, r⟩ | ⟨q, r⟩
  · exact Go.via (fun T locs X _ t q => XS.icmpYes X.here C.x rfl rfl (hb C.by hd) rfl r ho hp q) (kt q)
  · exact Go.via (fun T locs X _ t q => XS.icmpNo X.here C.x rfl (hb C.by hd) rfl r q) (kf q)
theorem G.if_lt (C : Cx p s m meth c Z y bytes maxL ret) {x1 : Int32} {o : Int} {A : Int} (hA : x1.toInt = A) (hd : decode bytes pc = .ok (.ifCond .lt o, 3)) (ho : 0 ≤ (pc : Int) + o) (hp : ((pc : Int) + o).toNat = n') (hn : pc + 3 = n) (kt : A < 0 → Go p l e R s m args below meth c n0 Q cells slots h (mkF m n' Ls (st))) (kf : 0 ≤ A → Go p l e R s m args below meth c n0 Q cells slots h (mkF m n Ls (st))) : Go p l e R s m args below meth c n0 Q cells slots h (mkF m pc Ls (.int x1 :: st)) := by
  subst hn hA
  rcases ich_lt (x1 := x1) (x2 := 0) with ⟨q, r⟩ | ⟨q, r⟩
  · exact Go.via (fun T locs X _ t q => XS.ifYes X.here C.x rfl rfl (hb C.by hd) rfl ((if0 _ _).trans r) ho hp q) (kt q)
  · exact Go.via (fun T locs X _ t q => XS.ifNo X.here C.x rfl (hb C.by hd) rfl ((if0 _ _).trans r) q) (kf q)
theorem lch_lt (x1 x2 : Int64) : ((lcmpW x1 x2).toInt < 0 → x1.toInt < x2.toInt) ∧ (0 ≤ (lcmpW x1 x2).toInt → x2.toInt ≤ x1.toInt) := by
  have q := c_lcmp x1 x2
  have z : ∀ x : Int32, x = 0 ↔ x.toInt = 0 := fun x => ⟨fun q => by rw [q]; rfl, fun q => Int32.toInt_inj.mp q⟩
  have w : x1 = x2 ↔ x1.toInt = x2.toInt := Int64.toInt_inj.symm
  
  constructor <;> intro r <;> omega
theorem G.lcmp_lt (C : Cx p s m meth c Z y bytes maxL ret) {x1 x2 : Int64} {o : Int} {A B : Int} (hA : x1.toInt = A) (hB : x2.toInt = B) (hc : decode bytes pc = .ok (.lcmp, 1)) (hd : decode bytes (pc + 1) = .ok (.ifCond .lt o, 3)) (ho : 0 ≤ ((pc + 1 : Nat) : Int) + o) (hp : (((pc + 1 : Nat) : Int) + o).toNat = n') (hn : pc + 4 = n) (kt : A < B → Go p l e R s m args below meth c n0 Q cells slots h (mkF m n' Ls (st))) (kf : B ≤ A → Go p l e R s m args below meth c n0 Q cells slots h (mkF m n Ls (st))) : Go p l e R s m args below meth c n0 Q cells slots h (mkF m pc Ls (.long x2 :: .long x1 :: st)) := by
  subst hn hA hB
  refine Go.via (fun T locs X _ t q => XS.lcmp X.here C.x rfl (hb C.by hc) rfl q) ?_
  exact G.if_lt C (A := (lcmpW x1 x2).toInt) rfl (pc := pc + 1) hd ho hp (n := pc + 4) rfl (fun q => kt ((lch_lt x1 x2).1 q)) (fun q => kf ((lch_lt x1 x2).2 q))
theorem ich_ge {x1 x2 : Int32} : (x2.toInt ≤ x1.toInt ∧ if_icmp.holds .ge x1 x2 = true) ∨ (x1.toInt < x2.toInt ∧ if_icmp.holds .ge x1 x2 = false) := by
  by_cases q : x2.toInt ≤ x1.toInt
  · exact Or.inl ⟨q, by simp [if_icmp.holds, lt_i, le_i, Int32.lt_iff_toInt_lt, Int32.le_iff_toInt_le, q]⟩
  · exact Or.inr ⟨by omega, by first | (simp [if_icmp.holds, lt_i, le_i, Int32.lt_iff_toInt_lt, Int32.le_iff_toInt_le, q]; done) | (simp [if_icmp.holds, lt_i, le_i, Int32.lt_iff_toInt_lt, Int32.le_iff_toInt_le]; omega)⟩
theorem G.icmp_ge (C : Cx p s m meth c Z y bytes maxL ret) {x1 x2 : Int32} {o : Int} {A B : Int} (hA : x1.toInt = A) (hB : x2.toInt = B) (hd : decode bytes pc = .ok (.if_icmp .ge o, 3)) (ho : 0 ≤ (pc : Int) + o) (hp : ((pc : Int) + o).toNat = n') (hn : pc + 3 = n) (kt : B ≤ A → Go p l e R s m args below meth c n0 Q cells slots h (mkF m n' Ls (st))) (kf : A < B → Go p l e R s m args below meth c n0 Q cells slots h (mkF m n Ls (st))) : Go p l e R s m args below meth c n0 Q cells slots h (mkF m pc Ls (.int x2 :: .int x1 :: st)) := by
  subst hn hA hB
  rcases ich_ge (x1 := x1) (x2 := x2) with ⟨q, r⟩ | ⟨q, r⟩
  · exact Go.via (fun T locs X _ t q => XS.icmpYes X.here C.x rfl rfl (hb C.by hd) rfl r ho hp q) (kt q)
  · exact Go.via (fun T locs X _ t q => XS.icmpNo X.here C.x rfl (hb C.by hd) rfl r q) (kf q)
theorem G.if_ge (C : Cx p s m meth c Z y bytes maxL ret) {x1 : Int32} {o : Int} {A : Int} (hA : x1.toInt = A) (hd : decode bytes pc = .ok (.ifCond .ge o, 3)) (ho : 0 ≤ (pc : Int) + o) (hp : ((pc : Int) + o).toNat = n') (hn : pc + 3 = n) (kt : 0 ≤ A → Go p l e R s m args below meth c n0 Q cells slots h (mkF m n' Ls (st))) (kf : A < 0 → Go p l e R s m args below meth c n0 Q cells slots h (mkF m n Ls (st))) : Go p l e R s m args below meth c n0 Q cells slots h (mkF m pc Ls (.int x1 :: st)) := by
  subst hn hA
  rcases ich_ge (x1 := x1) (x2 := 0) with ⟨q, r⟩ | ⟨q, r⟩
  · exact Go.via (fun T locs X _ t q => XS.ifYes X.here C.x rfl rfl (hb C.by hd) rfl ((if0 _ _).trans r) ho hp q) (kt q)
  · exact Go.via (fun T locs X _ t q => XS.ifNo X.here C.x rfl (hb C.by hd) rfl ((if0 _ _).trans r) q) (kf q)
theorem lch_ge (x1 x2 : Int64) : (0 ≤ (lcmpW x1 x2).toInt → x2.toInt ≤ x1.toInt) ∧ ((lcmpW x1 x2).toInt < 0 → x1.toInt < x2.toInt) := by
  have q := c_lcmp x1 x2
  have z : ∀ x : Int32, x = 0 ↔ x.toInt = 0 := fun x => ⟨fun q => by rw [q]; rfl, fun q => Int32.toInt_inj.mp q⟩
  have w : x1 = x2 ↔ x1.toInt = x2.toInt := Int64.toInt_inj.symm
  
  constructor <;> intro r <;> omega
theorem G.lcmp_ge (C : Cx p s m meth c Z y bytes maxL ret) {x1 x2 : Int64} {o : Int} {A B : Int} (hA : x1.toInt = A) (hB : x2.toInt = B) (hc : decode bytes pc = .ok (.lcmp, 1)) (hd : decode bytes (pc + 1) = .ok (.ifCond .ge o, 3)) (ho : 0 ≤ ((pc + 1 : Nat) : Int) + o) (hp : (((pc + 1 : Nat) : Int) + o).toNat = n') (hn : pc + 4 = n) (kt : B ≤ A → Go p l e R s m args below meth c n0 Q cells slots h (mkF m n' Ls (st))) (kf : A < B → Go p l e R s m args below meth c n0 Q cells slots h (mkF m n Ls (st))) : Go p l e R s m args below meth c n0 Q cells slots h (mkF m pc Ls (.long x2 :: .long x1 :: st)) := by
  subst hn hA hB
  refine Go.via (fun T locs X _ t q => XS.lcmp X.here C.x rfl (hb C.by hc) rfl q) ?_
  exact G.if_ge C (A := (lcmpW x1 x2).toInt) rfl (pc := pc + 1) hd ho hp (n := pc + 4) rfl (fun q => kt ((lch_ge x1 x2).1 q)) (fun q => kf ((lch_ge x1 x2).2 q))
theorem ich_gt {x1 x2 : Int32} : (x2.toInt < x1.toInt ∧ if_icmp.holds .gt x1 x2 = true) ∨ (x1.toInt ≤ x2.toInt ∧ if_icmp.holds .gt x1 x2 = false) := by
  by_cases q : x2.toInt < x1.toInt
  · exact Or.inl ⟨q, by simp [if_icmp.holds, lt_i, le_i, Int32.lt_iff_toInt_lt, Int32.le_iff_toInt_le, q]⟩
  · exact Or.inr ⟨by omega, by first | (simp [if_icmp.holds, lt_i, le_i, Int32.lt_iff_toInt_lt, Int32.le_iff_toInt_le, q]; done) | (simp [if_icmp.holds, lt_i, le_i, Int32.lt_iff_toInt_lt, Int32.le_iff_toInt_le]; omega)⟩
theorem G.icmp_gt (C : Cx p s m meth c Z y bytes maxL ret) {x1 x2 : Int32} {o : Int} {A B : Int} (hA : x1.toInt = A) (hB : x2.toInt = B) (hd : decode bytes pc = .ok (.if_icmp .gt o, 3)) (ho : 0 ≤ (pc : Int) + o) (hp : ((pc : Int) + o).toNat = n') (hn : pc + 3 = n) (kt : B < A → Go p l e R s m args below meth c n0 Q cells slots h (mkF m n' Ls (st))) (kf : A ≤ B → Go p l e R s m args below meth c n0 Q cells slots h (mkF m n Ls (st))) : Go p l e R s m args below meth c n0 Q cells slots h (mkF m pc Ls (.int x2 :: .int x1 :: st)) := by
  subst hn hA hB
  rcases ich_gt (x1 := x1) (x2 := x2) with ⟨q, r⟩ | ⟨q, r⟩
  · exact Go.via (fun T locs X _ t q => XS.icmpYes X.here C.x rfl rfl (hb C.by hd) rfl r ho hp q) (kt q)
  · exact Go.via (fun T locs X _ t q => XS.icmpNo X.here C.x rfl (hb C.by hd) rfl r q) (kf q)
theorem G.if_gt (C : Cx p s m meth c Z y bytes maxL ret) {x1 : Int32} {o : Int} {A : Int} (hA : x1.toInt = A) (hd : decode bytes pc = .ok (.ifCond .gt o, 3)) (ho : 0 ≤ (pc : Int) + o) (hp : ((pc : Int) + o).toNat = n') (hn : pc + 3 = n) (kt : 0 < A → Go p l e R s m args below meth c n0 Q cells slots h (mkF m n' Ls (st))) (kf : A ≤ 0 → Go p l e R s m args below meth c n0 Q cells slots h (mkF m n Ls (st))) : Go p l e R s m args below meth c n0 Q cells slots h (mkF m pc Ls (.int x1 :: st)) := by
  subst hn hA
  rcases ich_gt (x1 := x1) (x2 := 0) with ⟨q, r⟩ | ⟨q, r⟩
  · exact Go.via (fun T locs X _ t q => XS.ifYes X.here C.x rfl rfl (hb C.by hd) rfl ((if0 _ _).trans r) ho hp q) (kt q)
  · exact Go.via (fun T locs X _ t q => XS.ifNo X.here C.x rfl (hb C.by hd) rfl ((if0 _ _).trans r) q) (kf q)
theorem lch_gt (x1 x2 : Int64) : (0 < (lcmpW x1 x2).toInt → x2.toInt < x1.toInt) ∧ ((lcmpW x1 x2).toInt ≤ 0 → x1.toInt ≤ x2.toInt) := by
  have q := c_lcmp x1 x2
  have z : ∀ x : Int32, x = 0 ↔ x.toInt = 0 := fun x => ⟨fun q => by rw [q]; rfl, fun q => Int32.toInt_inj.mp q⟩
  have w : x1 = x2 ↔ x1.toInt = x2.toInt := Int64.toInt_inj.symm
  
  constructor <;> intro r <;> omega
theorem G.lcmp_gt (C : Cx p s m meth c Z y bytes maxL ret) {x1 x2 : Int64} {o : Int} {A B : Int} (hA : x1.toInt = A) (hB : x2.toInt = B) (hc : decode bytes pc = .ok (.lcmp, 1)) (hd : decode bytes (pc + 1) = .ok (.ifCond .gt o, 3)) (ho : 0 ≤ ((pc + 1 : Nat) : Int) + o) (hp : (((pc + 1 : Nat) : Int) + o).toNat = n') (hn : pc + 4 = n) (kt : B < A → Go p l e R s m args below meth c n0 Q cells slots h (mkF m n' Ls (st))) (kf : A ≤ B → Go p l e R s m args below meth c n0 Q cells slots h (mkF m n Ls (st))) : Go p l e R s m args below meth c n0 Q cells slots h (mkF m pc Ls (.long x2 :: .long x1 :: st)) := by
  subst hn hA hB
  refine Go.via (fun T locs X _ t q => XS.lcmp X.here C.x rfl (hb C.by hc) rfl q) ?_
  exact G.if_gt C (A := (lcmpW x1 x2).toInt) rfl (pc := pc + 1) hd ho hp (n := pc + 4) rfl (fun q => kt ((lch_gt x1 x2).1 q)) (fun q => kf ((lch_gt x1 x2).2 q))
theorem ich_le {x1 x2 : Int32} : (x1.toInt ≤ x2.toInt ∧ if_icmp.holds .le x1 x2 = true) ∨ (x2.toInt < x1.toInt ∧ if_icmp.holds .le x1 x2 = false) := by
  by_cases q : x1.toInt ≤ x2.toInt
  · exact Or.inl ⟨q, by simp [if_icmp.holds, lt_i, le_i, Int32.lt_iff_toInt_lt, Int32.le_iff_toInt_le, q]⟩
  · exact Or.inr ⟨by omega, by first | (simp [if_icmp.holds, lt_i, le_i, Int32.lt_iff_toInt_lt, Int32.le_iff_toInt_le, q]; done) | (simp [if_icmp.holds, lt_i, le_i, Int32.lt_iff_toInt_lt, Int32.le_iff_toInt_le]; omega)⟩
theorem G.icmp_le (C : Cx p s m meth c Z y bytes maxL ret) {x1 x2 : Int32} {o : Int} {A B : Int} (hA : x1.toInt = A) (hB : x2.toInt = B) (hd : decode bytes pc = .ok (.if_icmp .le o, 3)) (ho : 0 ≤ (pc : Int) + o) (hp : ((pc : Int) + o).toNat = n') (hn : pc + 3 = n) (kt : A ≤ B → Go p l e R s m args below meth c n0 Q cells slots h (mkF m n' Ls (st))) (kf : B < A → Go p l e R s m args below meth c n0 Q cells slots h (mkF m n Ls (st))) : Go p l e R s m args below meth c n0 Q cells slots h (mkF m pc Ls (.int x2 :: .int x1 :: st)) := by
  subst hn hA hB
  rcases ich_le (x1 := x1) (x2 := x2) with ⟨q, r⟩ | ⟨q, r⟩
  · exact Go.via (fun T locs X _ t q => XS.icmpYes X.here C.x rfl rfl (hb C.by hd) rfl r ho hp q) (kt q)
  · exact Go.via (fun T locs X _ t q => XS.icmpNo X.here C.x rfl (hb C.by hd) rfl r q) (kf q)
theorem G.if_le (C : Cx p s m meth c Z y bytes maxL ret) {x1 : Int32} {o : Int} {A : Int} (hA : x1.toInt = A) (hd : decode bytes pc = .ok (.ifCond .le o, 3)) (ho : 0 ≤ (pc : Int) + o) (hp : ((pc : Int) + o).toNat = n') (hn : pc + 3 = n) (kt : A ≤ 0 → Go p l e R s m args below meth c n0 Q cells slots h (mkF m n' Ls (st))) (kf : 0 < A → Go p l e R s m args below meth c n0 Q cells slots h (mkF m n Ls (st))) : Go p l e R s m args below meth c n0 Q cells slots h (mkF m pc Ls (.int x1 :: st)) := by
  subst hn hA
  rcases ich_le (x1 := x1) (x2 := 0) with ⟨q, r⟩ | ⟨q, r⟩
  · exact Go.via (fun T locs X _ t q => XS.ifYes X.here C.x rfl rfl (hb C.by hd) rfl ((if0 _ _).trans r) ho hp q) (kt q)
  · exact Go.via (fun T locs X _ t q => XS.ifNo X.here C.x rfl (hb C.by hd) rfl ((if0 _ _).trans r) q) (kf q)
theorem lch_le (x1 x2 : Int64) : ((lcmpW x1 x2).toInt ≤ 0 → x1.toInt ≤ x2.toInt) ∧ (0 < (lcmpW x1 x2).toInt → x2.toInt < x1.toInt) := by
  have q := c_lcmp x1 x2
  have z : ∀ x : Int32, x = 0 ↔ x.toInt = 0 := fun x => ⟨fun q => by rw [q]; rfl, fun q => Int32.toInt_inj.mp q⟩
  have w : x1 = x2 ↔ x1.toInt = x2.toInt := Int64.toInt_inj.symm
  
  constructor <;> intro r <;> omega
theorem G.lcmp_le (C : Cx p s m meth c Z y bytes maxL ret) {x1 x2 : Int64} {o : Int} {A B : Int} (hA : x1.toInt = A) (hB : x2.toInt = B) (hc : decode bytes pc = .ok (.lcmp, 1)) (hd : decode bytes (pc + 1) = .ok (.ifCond .le o, 3)) (ho : 0 ≤ ((pc + 1 : Nat) : Int) + o) (hp : (((pc + 1 : Nat) : Int) + o).toNat = n') (hn : pc + 4 = n) (kt : A ≤ B → Go p l e R s m args below meth c n0 Q cells slots h (mkF m n' Ls (st))) (kf : B < A → Go p l e R s m args below meth c n0 Q cells slots h (mkF m n Ls (st))) : Go p l e R s m args below meth c n0 Q cells slots h (mkF m pc Ls (.long x2 :: .long x1 :: st)) := by
  subst hn hA hB
  refine Go.via (fun T locs X _ t q => XS.lcmp X.here C.x rfl (hb C.by hc) rfl q) ?_
  exact G.if_le C (A := (lcmpW x1 x2).toInt) rfl (pc := pc + 1) hd ho hp (n := pc + 4) rfl (fun q => kt ((lch_le x1 x2).1 q)) (fun q => kf ((lch_le x1 x2).2 q))
theorem ich_eq {x1 x2 : Int32} : (x1 = x2 ∧ if_icmp.holds .eq x1 x2 = true) ∨ (x1 ≠ x2 ∧ if_icmp.holds .eq x1 x2 = false) := by
  by_cases q : x1 = x2 <;> simp [if_icmp.holds, q]
theorem G.icmp_eq (C : Cx p s m meth c Z y bytes maxL ret) {x1 x2 : Int32} {o : Int} {A B : Int} (hA : x1.toInt = A) (hB : x2.toInt = B) (hd : decode bytes pc = .ok (.if_icmp .eq o, 3)) (ho : 0 ≤ (pc : Int) + o) (hp : ((pc : Int) + o).toNat = n') (hn : pc + 3 = n) (kt : x1 = x2 → A = B → Go p l e R s m args below meth c n0 Q cells slots h (mkF m n' Ls (st))) (kf : x1 ≠ x2 → A ≠ B → Go p l e R s m args below meth c n0 Q cells slots h (mkF m n Ls (st))) : Go p l e R s m args below meth c n0 Q cells slots h (mkF m pc Ls (.int x2 :: .int x1 :: st)) := by
  subst hn hA hB
  rcases ich_eq (x1 := x1) (x2 := x2) with ⟨q, r⟩ | ⟨q, r⟩
  · exact Go.via (fun T locs X _ t q => XS.icmpYes X.here C.x rfl rfl (hb C.by hd) rfl r ho hp q) (kt q (congrArg _ q))
  · exact Go.via (fun T locs X _ t q => XS.icmpNo X.here C.x rfl (hb C.by hd) rfl r q) (kf q (fun r => q (Int32.toInt_inj.mp r)))
theorem G.if_eq (C : Cx p s m meth c Z y bytes maxL ret) {x1 : Int32} {o : Int} {A : Int} (hA : x1.toInt = A) (hd : decode bytes pc = .ok (.ifCond .eq o, 3)) (ho : 0 ≤ (pc : Int) + o) (hp : ((pc : Int) + o).toNat = n') (hn : pc + 3 = n) (kt : x1 = 0 → A = 0 → Go p l e R s m args below meth c n0 Q cells slots h (mkF m n' Ls (st))) (kf : x1 ≠ 0 → A ≠ 0 → Go p l e R s m args below meth c n0 Q cells slots h (mkF m n Ls (st))) : Go p l e R s m args below meth c n0 Q cells slots h (mkF m pc Ls (.int x1 :: st)) := by
  subst hn hA
  rcases ich_eq (x1 := x1) (x2 := 0) with ⟨q, r⟩ | ⟨q, r⟩
  · exact Go.via (fun T locs X _ t q => XS.ifYes X.here C.x rfl rfl (hb C.by hd) rfl ((if0 _ _).trans r) ho hp q) (kt q (congrArg Int32.toInt q))
  · exact Go.via (fun T locs X _ t q => XS.ifNo X.here C.x rfl (hb C.by hd) rfl ((if0 _ _).trans r) q) (kf q (fun r => q (Int32.toInt_inj.mp r)))
theorem lch_eq (x1 x2 : Int64) : ((lcmpW x1 x2) = 0 → x1 = x2) ∧ ((lcmpW x1 x2) ≠ 0 → x1 ≠ x2) := by
  have q := c_lcmp x1 x2
  have z : ∀ x : Int32, x = 0 ↔ x.toInt = 0 := fun x => ⟨fun q => by rw [q]; rfl, fun q => Int32.toInt_inj.mp q⟩
  have w : x1 = x2 ↔ x1.toInt = x2.toInt := Int64.toInt_inj.symm
  simp only [ne_eq, z, w]
  constructor <;> intro r <;> omega
theorem G.lcmp_eq (C : Cx p s m meth c Z y bytes maxL ret) {x1 x2 : Int64} {o : Int} {A B : Int} (hA : x1.toInt = A) (hB : x2.toInt = B) (hc : decode bytes pc = .ok (.lcmp, 1)) (hd : decode bytes (pc + 1) = .ok (.ifCond .eq o, 3)) (ho : 0 ≤ ((pc + 1 : Nat) : Int) + o) (hp : (((pc + 1 : Nat) : Int) + o).toNat = n') (hn : pc + 4 = n) (kt : x1 = x2 → A = B → Go p l e R s m args below meth c n0 Q cells slots h (mkF m n' Ls (st))) (kf : x1 ≠ x2 → A ≠ B → Go p l e R s m args below meth c n0 Q cells slots h (mkF m n Ls (st))) : Go p l e R s m args below meth c n0 Q cells slots h (mkF m pc Ls (.long x2 :: .long x1 :: st)) := by
  subst hn hA hB
  refine Go.via (fun T locs X _ t q => XS.lcmp X.here C.x rfl (hb C.by hc) rfl q) ?_
  exact G.if_eq C (A := (lcmpW x1 x2).toInt) rfl (pc := pc + 1) hd ho hp (n := pc + 4) rfl (fun q _ => kt ((lch_eq x1 x2).1 q) (congrArg _ ((lch_eq x1 x2).1 q))) (fun q _ => kf ((lch_eq x1 x2).2 q) (fun r => (lch_eq x1 x2).2 q (Int64.toInt_inj.mp r)))
theorem ich_ne {x1 x2 : Int32} : (x1 ≠ x2 ∧ if_icmp.holds .ne x1 x2 = true) ∨ (x1 = x2 ∧ if_icmp.holds .ne x1 x2 = false) := by
  by_cases q : x1 = x2 <;> simp [if_icmp.holds, q]
theorem G.icmp_ne (C : Cx p s m meth c Z y bytes maxL ret) {x1 x2 : Int32} {o : Int} {A B : Int} (hA : x1.toInt = A) (hB : x2.toInt = B) (hd : decode bytes pc = .ok (.if_icmp .ne o, 3)) (ho : 0 ≤ (pc : Int) + o) (hp : ((pc : Int) + o).toNat = n') (hn : pc + 3 = n) (kt : x1 ≠ x2 → A ≠ B → Go p l e R s m args below meth c n0 Q cells slots h (mkF m n' Ls (st))) (kf : x1 = x2 → A = B → Go p l e R s m args below meth c n0 Q cells slots h (mkF m n Ls (st))) : Go p l e R s m args below meth c n0 Q cells slots h (mkF m pc Ls (.int x2 :: .int x1 :: st)) := by
  subst hn hA hB
  rcases ich_ne (x1 := x1) (x2 := x2) with ⟨q, r⟩ | ⟨q, r⟩
  · exact Go.via (fun T locs X _ t q => XS.icmpYes X.here C.x rfl rfl (hb C.by hd) rfl r ho hp q) (kt q (fun r => q (Int32.toInt_inj.mp r)))
  · exact Go.via (fun T locs X _ t q => XS.icmpNo X.here C.x rfl (hb C.by hd) rfl r q) (kf q (congrArg _ q))
theorem G.if_ne (C : Cx p s m meth c Z y bytes maxL ret) {x1 : Int32} {o : Int} {A : Int} (hA : x1.toInt = A) (hd : decode bytes pc = .ok (.ifCond .ne o, 3)) (ho : 0 ≤ (pc : Int) + o) (hp : ((pc : Int) + o).toNat = n') (hn : pc + 3 = n) (kt : x1 ≠ 0 → A ≠ 0 → Go p l e R s m args below meth c n0 Q cells slots h (mkF m n' Ls (st))) (kf : x1 = 0 → A = 0 → Go p l e R s m args below meth c n0 Q cells slots h (mkF m n Ls (st))) : Go p l e R s m args below meth c n0 Q cells slots h (mkF m pc Ls (.int x1 :: st)) := by
  subst hn hA
  rcases ich_ne (x1 := x1) (x2 := 0) with ⟨q, r⟩ | ⟨q, r⟩
  · exact Go.via (fun T locs X _ t q => XS.ifYes X.here C.x rfl rfl (hb C.by hd) rfl ((if0 _ _).trans r) ho hp q) (kt q (fun r => q (Int32.toInt_inj.mp r)))
  · exact Go.via (fun T locs X _ t q => XS.ifNo X.here C.x rfl (hb C.by hd) rfl ((if0 _ _).trans r) q) (kf q (congrArg Int32.toInt q))
theorem lch_ne (x1 x2 : Int64) : ((lcmpW x1 x2) ≠ 0 → x1 ≠ x2) ∧ ((lcmpW x1 x2) = 0 → x1 = x2) := by
  have q := c_lcmp x1 x2
  have z : ∀ x : Int32, x = 0 ↔ x.toInt = 0 := fun x => ⟨fun q => by rw [q]; rfl, fun q => Int32.toInt_inj.mp q⟩
  have w : x1 = x2 ↔ x1.toInt = x2.toInt := Int64.toInt_inj.symm
  simp only [ne_eq, z, w]
  constructor <;> intro r <;> omega
theorem G.lcmp_ne (C : Cx p s m meth c Z y bytes maxL ret) {x1 x2 : Int64} {o : Int} {A B : Int} (hA : x1.toInt = A) (hB : x2.toInt = B) (hc : decode bytes pc = .ok (.lcmp, 1)) (hd : decode bytes (pc + 1) = .ok (.ifCond .ne o, 3)) (ho : 0 ≤ ((pc + 1 : Nat) : Int) + o) (hp : (((pc + 1 : Nat) : Int) + o).toNat = n') (hn : pc + 4 = n) (kt : x1 ≠ x2 → A ≠ B → Go p l e R s m args below meth c n0 Q cells slots h (mkF m n' Ls (st))) (kf : x1 = x2 → A = B → Go p l e R s m args below meth c n0 Q cells slots h (mkF m n Ls (st))) : Go p l e R s m args below meth c n0 Q cells slots h (mkF m pc Ls (.long x2 :: .long x1 :: st)) := by
  subst hn hA hB
  refine Go.via (fun T locs X _ t q => XS.lcmp X.here C.x rfl (hb C.by hc) rfl q) ?_
  exact G.if_ne C (A := (lcmpW x1 x2).toInt) rfl (pc := pc + 1) hd ho hp (n := pc + 4) rfl (fun q _ => kt ((lch_ne x1 x2).1 q) (fun r => (lch_ne x1 x2).1 q (Int64.toInt_inj.mp r))) (fun q _ => kf ((lch_ne x1 x2).2 q) (congrArg _ ((lch_ne x1 x2).2 q)))
theorem G.ifnullN (C : Cx p s m meth c Z y bytes maxL ret) {b : Addr} {o : Int} (hd : decode bytes pc = .ok (.ifnull o, 3)) (hn : pc + 3 = n) (k : Go p l e R s m args below meth c n0 Q cells slots h (mkF m n Ls (st))) : Go p l e R s m args below meth c n0 Q cells slots h (mkF m pc Ls (.ref b :: st)) := by
  subst hn
  exact Go.via (fun T locs X _ t q => XS.ifnullNo X.here C.x rfl (hb C.by hd) rfl q) k
theorem G.ifnullY (C : Cx p s m meth c Z y bytes maxL ret) {o : Int} (hd : decode bytes pc = .ok (.ifnull o, 3)) (ho : 0 ≤ (pc : Int) + o) (hp : ((pc : Int) + o).toNat = n) (k : Go p l e R s m args below meth c n0 Q cells slots h (mkF m n Ls (st))) : Go p l e R s m args below meth c n0 Q cells slots h (mkF m pc Ls (.null :: st)) :=
  Go.via (fun T locs X _ t q => XS.ifnullYes X.here C.x rfl rfl (hb C.by hd) rfl ho hp q) k
theorem G.ifnonnullY (C : Cx p s m meth c Z y bytes maxL ret) {b : Addr} {o : Int} (hd : decode bytes pc = .ok (.ifnonnull o, 3)) (ho : 0 ≤ (pc : Int) + o) (hp : ((pc : Int) + o).toNat = n) (k : Go p l e R s m args below meth c n0 Q cells slots h (mkF m n Ls (st))) : Go p l e R s m args below meth c n0 Q cells slots h (mkF m pc Ls (.ref b :: st)) :=
  Go.via (fun T locs X _ t q => XS.ifnonnullYes X.here C.x rfl rfl (hb C.by hd) rfl ho hp q) k
theorem G.ifnonnullN (C : Cx p s m meth c Z y bytes maxL ret) {o : Int} (hd : decode bytes pc = .ok (.ifnonnull o, 3)) (hn : pc + 3 = n) (k : Go p l e R s m args below meth c n0 Q cells slots h (mkF m n Ls (st))) : Go p l e R s m args below meth c n0 Q cells slots h (mkF m pc Ls (.null :: st)) := by
  subst hn
  exact Go.via (fun T locs X _ t q => XS.ifnonnullNo X.here C.x rfl (hb C.by hd) rfl q) k
theorem G.acmp_eq (C : Cx p s m meth c Z y bytes maxL ret) {x1 x2 : Value} {o : Int} (h1 : x1.isRef = true) (h2 : x2.isRef = true) (hd : decode bytes pc = .ok (.if_acmp .eq o, 3)) (ho : 0 ≤ (pc : Int) + o) (hp : ((pc : Int) + o).toNat = n') (hn : pc + 3 = n) (kt : x1 = x2 → Go p l e R s m args below meth c n0 Q cells slots h (mkF m n' Ls (st))) (kf : x1 ≠ x2 → Go p l e R s m args below meth c n0 Q cells slots h (mkF m n Ls (st))) : Go p l e R s m args below meth c n0 Q cells slots h (mkF m pc Ls (x2 :: x1 :: st)) := by
  subst hn
  by_cases r : x1 = x2
  · exact Go.via (fun T locs X _ t q => Jvm.RoadKit.acmp (g := mkF m pc Ls (x2 :: x1 :: st)) X C.x rfl h1 h2 (same := true) rfl (hb C.by hd) rfl (decide_eq_true r) ho (hp.symm) q) (kt r)
  · exact Go.via (fun T locs X _ t q => Jvm.RoadKit.acmp (g := mkF m pc Ls (x2 :: x1 :: st)) X C.x rfl h1 h2 (same := false) rfl (hb C.by hd) rfl (decide_eq_false r) ho (rfl) q) (kf r)
theorem G.acmp_ne (C : Cx p s m meth c Z y bytes maxL ret) {x1 x2 : Value} {o : Int} (h1 : x1.isRef = true) (h2 : x2.isRef = true) (hd : decode bytes pc = .ok (.if_acmp .ne o, 3)) (ho : 0 ≤ (pc : Int) + o) (hp : ((pc : Int) + o).toNat = n') (hn : pc + 3 = n) (kt : x1 ≠ x2 → Go p l e R s m args below meth c n0 Q cells slots h (mkF m n' Ls (st))) (kf : x1 = x2 → Go p l e R s m args below meth c n0 Q cells slots h (mkF m n Ls (st))) : Go p l e R s m args below meth c n0 Q cells slots h (mkF m pc Ls (x2 :: x1 :: st)) := by
  subst hn
  by_cases r : x1 = x2
  · exact Go.via (fun T locs X _ t q => Jvm.RoadKit.acmp (g := mkF m pc Ls (x2 :: x1 :: st)) X C.x rfl h1 h2 (same := true) rfl (hb C.by hd) rfl (decide_eq_true r) ho (rfl) q) (kf r)
  · exact Go.via (fun T locs X _ t q => Jvm.RoadKit.acmp (g := mkF m pc Ls (x2 :: x1 :: st)) X C.x rfl h1 h2 (same := false) rfl (hb C.by hd) rfl (decide_eq_false r) ho (hp.symm) q) (kt r)
theorem G.ldc (C : Cx p s m meth c Z y bytes maxL ret) {index : Nat} {v : Int32} (w : (Jvm.Cond.constant y.cls index v).before a0 Z = true) (hd : decode bytes pc = .ok (.ldc index, 2)) (hn : pc + 2 = n) (k : Go p l e R s m args below meth c n0 Q cells slots h (mkF m n Ls (.int v :: st))) : Go p l e R s m args below meth c n0 Q cells slots h (mkF m pc Ls (st)) := by
  subst hn
  exact Go.via (fun T locs X _ t q => X.ldcInt C.x C.own (mvT C.z w) (g := mkF m pc Ls st) rfl (hb C.by hd) t q) k
theorem G.ldc_w (C : Cx p s m meth c Z y bytes maxL ret) {index : Nat} {v : Int32} (w : (Jvm.Cond.constant y.cls index v).before a0 Z = true) (hd : decode bytes pc = .ok (.ldc_w index, 3)) (hn : pc + 3 = n) (k : Go p l e R s m args below meth c n0 Q cells slots h (mkF m n Ls (.int v :: st))) : Go p l e R s m args below meth c n0 Q cells slots h (mkF m pc Ls (st)) := by
  subst hn
  exact Go.via (fun T locs X _ t q => X.ldcwInt C.x C.own (mvT C.z w) (g := mkF m pc Ls st) rfl (hb C.by hd) t q) k
theorem G.ldc2 (C : Cx p s m meth c Z y bytes maxL ret) {index : Nat} {v : Int64} (w : (Jvm.Cond.constantLong y.cls index v).before a0 Z = true) (hd : decode bytes pc = .ok (.ldc2_w index, 3)) (hn : pc + 3 = n) (k : Go p l e R s m args below meth c n0 Q cells slots h (mkF m n Ls (.long v :: st))) : Go p l e R s m args below meth c n0 Q cells slots h (mkF m pc Ls (st)) := by
  subst hn
  exact Go.via (fun T locs X _ t q => X.ldc2Long C.x C.own (mvT C.z w) (g := mkF m pc Ls st) rfl (hb C.by hd) t q) k
theorem Go.leave (C : Cx p s m meth c Z y bytes maxL ret) {v : Option Value} {f : JFrame} (hv : ret = none → v = none) (hc : cells ≤ R.cells) (hs : slots ≤ R.slots)
    (hret : ∀ T locs, Stand p l e R s m args below meth c T locs cells slots → ∀ fs, (∀ (f : JFrame) (acts : List Action), f.method = m → f.locked = none → f.entered = [] → (doReturn e (T.setTop f) acts v).1 = T.setFrames fs) → Steps p.tables e below (T.setTop f) (T.setFrames fs))
    (q : Q v h) : Go p l e R s m args below meth c n0 Q cells slots h f := fun T locs X N e0 => by
  obtain ⟨fs, hr, hrun, hended, hW, hsame⟩ := X.leave (v := v) (fun q => hv (C.rt.symm.trans q)) C.locks
  refine ⟨_, _, hret T locs X fs hr, hrun, hended, v, locs, rfl, ⟨N, ?_⟩, ⟨_, rfl⟩, hW, hsame.mono hc hs⟩
  show Q v T.heap
  rw [e0]; exact q
theorem G.return_ (C : Cx p s m meth c Z y bytes maxL none) (hd : decode bytes pc = .ok (.return_, 1)) (hc : cells ≤ R.cells) (hs : slots ≤ R.slots) (q : Q none h) : Go p l e R s m args below meth c n0 Q cells slots h (mkF m pc Ls ([])) :=
  Go.leave C (v := none) (fun _ => rfl) hc hs (fun T locs X fs hr => X.returnOut C.x C.rt (hb C.by hd) hr) q
theorem G.ireturn {t : FieldType} (C : Cx p s m meth c Z y bytes maxL (some t)) {x : Int32} (hd : decode bytes pc = .ok (.ireturn, 1)) (hnn : narrow t (.int x) = .int x) (ht : t = .int ∨ t = .boolean ∨ t = .byte ∨ t = .char ∨ t = .short) (hc : cells ≤ R.cells) (hs : slots ≤ R.slots) (q : Q (some (.int x)) h) : Go p l e R s m args below meth c n0 Q cells slots h (mkF m pc Ls (.int x :: st)) :=
  Go.leave C (v := some (.int x)) (fun q => nomatch q) hc hs (fun T locs X fs hr => retOut X C.x C.rt hnn (Or.inl ⟨rfl, ht, _, rfl⟩) (hb C.by hd) hr) q
theorem G.lreturn (C : Cx p s m meth c Z y bytes maxL (some .long)) {x : Int64} (hd : decode bytes pc = .ok (.lreturn, 1)) (hc : cells ≤ R.cells) (hs : slots ≤ R.slots) (q : Q (some (.long x)) h) : Go p l e R s m args below meth c n0 Q cells slots h (mkF m pc Ls (.long x :: st)) :=
  Go.leave C (v := some (.long x)) (fun q => nomatch q) hc hs (fun T locs X fs hr => retOut X C.x C.rt rfl (Or.inr (Or.inl ⟨rfl, rfl, _, rfl⟩)) (hb C.by hd) hr) q
theorem G.areturn {t : FieldType} (C : Cx p s m meth c Z y bytes maxL (some t)) {x : Value} (hd : decode bytes pc = .ok (.areturn, 1)) (ht : t.isReference = true) (hx : x.isRef = true) (hnn : narrow t x = x) (hc : cells ≤ R.cells) (hs : slots ≤ R.slots) (q : Q (some x) h) : Go p l e R s m args below meth c n0 Q cells slots h (mkF m pc Ls (x :: st)) :=
  Go.leave C (v := some x) (fun q => nomatch q) hc hs (fun T locs X fs hr => retOut X C.x C.rt hnn (Or.inr (Or.inr (Or.inr (Or.inr ⟨rfl, ht, hx⟩)))) (hb C.by hd) hr) q
theorem G.getfield (C : Cx p s m meth c Z y bytes maxL ret) {R0 O nm d host : String} {index : Nat} (w : (Jvm.Cond.fieldLink y.cls index R0 nm d).before a0 Z = true ∨ (Jvm.Cond.fieldLinkNest y.cls index R0 nm d host).before a0 Z = true) (via : Via Z R0 O nm d) {a : Addr} {v : Value} (F : Fld Z h a O nm d v) (hd : decode bytes pc = .ok (.getfield index, 3)) (hn : pc + 3 = n) (k : Go p l e R s m args below meth c n0 Q cells slots h (mkF m n Ls (v :: st))) : Go p l e R s m args below meth c n0 Q cells slots h (mkF m pc Ls (.ref a :: st)) := fun T locs X N q => by
  subst hn
  obtain ⟨T', X', e', st'⟩ := getF X C.x C.z C.own w via q F (g := mkF m pc Ls (.ref a :: st)) rfl rfl (hb C.by hd)
  obtain ⟨t, o, s1, r⟩ := k T' locs X' N e'
  exact ⟨t, o, st' t s1, r⟩
theorem G.getstatic (C : Cx p s m meth c Z y bytes maxL ret) {R0 O nm d host : String} {index : Nat} (w : (Jvm.Cond.fieldLink y.cls index R0 nm d).before a0 Z = true ∨ (Jvm.Cond.fieldLinkNest y.cls index R0 nm d host).before a0 Z = true) (via : Via Z R0 O nm d) {v : Value} (F : Sta Z h O nm d v) (hd : decode bytes pc = .ok (.getstatic index, 3)) (hn : pc + 3 = n) (k : Go p l e R s m args below meth c n0 Q cells slots h (mkF m n Ls (v :: st))) : Go p l e R s m args below meth c n0 Q cells slots h (mkF m pc Ls (st)) := fun T locs X N q => by
  subst hn
  obtain ⟨T', X', e', st'⟩ := getS2 X C.x C.z C.own w via q F (g := mkF m pc Ls st) rfl (hb C.by hd)
  obtain ⟨t, o, s1, r⟩ := k T' locs X' N e'
  exact ⟨t, o, st' t s1, r⟩
theorem G.putfield (C : Cx p s m meth c Z y bytes maxL ret) {R0 O nm d host K : String} {index kk : Nat} {ty : FieldType} (w : (Jvm.Cond.fieldLink y.cls index R0 nm d).before a0 Z = true ∨ (Jvm.Cond.fieldLinkNest y.cls index R0 nm d host).before a0 Z = true) (via : Via Z R0 O nm d) {a : Addr} {v old : Value} (F : Fld Z h a O nm d old) (E : Exa Z h a K)
    (L : (Jvm.Cond.lays K O nm d).before a0 Z = true ∨ ((Jvm.Cond.laysFinal K O nm d).before a0 Z = true ∧ y.cls = O ∧ y.name = "<init>")) (wi : (Jvm.Cond.instantiable K kk).before a0 Z = true) (hty : parseFieldDescriptor d = some ty) (hnn : narrow ty v = v) (hf : fits ty v = true) (g : n0 ≤ a)
    (hd : decode bytes pc = .ok (.putfield index, 3)) (hn : pc + 3 = n) (k : ∀ h', Wr h h' a (RoadKit.slotOf Z O nm d) v → Go p l e R s m args below meth c n0 Q cells slots h' (mkF m n Ls (st))) : Go p l e R s m args below meth c n0 Q cells slots h (mkF m pc Ls (v :: .ref a :: st)) := fun T locs X N q => by
  subst hn
  obtain ⟨T', h', X', e', W, st'⟩ := putF X C.x C.z C.own w via q F E (L.imp id fun r => ⟨r.1, r.2.1, C.nm.trans r.2.2⟩) wi hty hnn hf (g := mkF m pc Ls (v :: .ref a :: st)) rfl rfl (hb C.by hd)
  obtain ⟨t, o, s1, r⟩ := k h' W T' _ X' (Fr.snoc X' N g) e'
  exact ⟨t, o, st' t s1, r⟩
theorem G.putfieldN (C : Cx p s m meth c Z y bytes maxL ret) {R0 O nm d K : String} {index kk : Nat} {ty : FieldType} (w : (Jvm.Cond.fieldLink y.cls index R0 nm d).before a0 Z = true) (via : Via Z R0 O nm d) {a : Addr} {v v' old : Value} (F : Fld Z h a O nm d old) (E : Exa Z h a K)
    (L : (Jvm.Cond.lays K O nm d).before a0 Z = true ∨ ((Jvm.Cond.laysFinal K O nm d).before a0 Z = true ∧ y.cls = O ∧ y.name = "<init>")) (wi : (Jvm.Cond.instantiable K kk).before a0 Z = true) (hty : parseFieldDescriptor d = some ty) (hnn : narrow ty v = v') (hf : fits ty v' = true) (g : n0 ≤ a)
    (hd : decode bytes pc = .ok (.putfield index, 3)) (hn : pc + 3 = n) (k : ∀ h', Wr h h' a (RoadKit.slotOf Z O nm d) v' → Go p l e R s m args below meth c n0 Q cells slots h' (mkF m n Ls (st))) : Go p l e R s m args below meth c n0 Q cells slots h (mkF m pc Ls (v :: .ref a :: st)) := fun T locs X N q => by
  subst hn
  obtain ⟨T', h', X', e', W, st'⟩ := putFN X C.x C.z C.own w via q F E (L.imp id fun r => ⟨r.1, r.2.1, C.nm.trans r.2.2⟩) wi hty hnn hf (g := mkF m pc Ls (v :: .ref a :: st)) rfl rfl (hb C.by hd)
  obtain ⟨t, o, s1, r⟩ := k h' W T' _ X' (Fr.snoc X' N g) e'
  exact ⟨t, o, st' t s1, r⟩
theorem G.new (C : Cx p s m meth c Z y bytes maxL ret) {K : String} {index ns c' s' : Nat} (w : (Jvm.Cond.classLink y.cls index K).before a0 Z = true) (wi : (Jvm.Cond.instantiable K ns).before a0 Z = true) (wz : (Jvm.Cond.initialized K).before a0 Z = true) (hd : decode bytes pc = .ok (.new index, 3)) (hn : pc + 3 = n) (hc' : cells + 1 = c') (hs' : slots + ns = s') (hc : c' ≤ R.cells) (hs : s' ≤ R.slots)
    (k : ∀ h' b, b = h.size → Ext h h' → Exa Z h' b K → (∀ {O nm d : String} {ty : FieldType}, Laid Z a0 K O nm d → parseFieldDescriptor d = some ty → Fld Z h' b O nm d (defaultValue ty)) → Go p l e R s m args below meth c n0 Q c' s' h' (mkF m n Ls (.ref b :: st))) : Go p l e R s m args below meth c n0 Q cells slots h (mkF m pc Ls (st)) := fun T locs X N q => by
  subst hn hc' hs'
  obtain ⟨T', h', X', e', E, A, D, -, st'⟩ := newO X C.x C.z C.own w wi wz q (g := mkF m pc Ls st) rfl (hb C.by hd) hc hs
  obtain ⟨t, o, s1, r⟩ := k h' _ rfl E A D T' _ X' N e'
  exact ⟨t, o, st' t s1, r⟩
theorem G.objinit (C : Cx p s m meth c Z y bytes maxL ret) {index W : Nat} (w1 : (Jvm.Cond.methodLink y.cls index Lib.objectInit).before a0 Z = true) (w2 : (Jvm.Cond.instanceMethod Lib.objectInit).before a0 Z = true) (w3 : (Jvm.Cond.code Lib.objectInit ⟨#[0xb1]⟩ 1 none).before a0 Z = true) {a : Addr} (hd : decode bytes pc = .ok (.invokespecial index, 3)) (hsz : Ls.size = maxL) (hf : 1 ≤ R.frames) (hW : (st.map fun v => v.category).sum = W) (hl : W + 12 ≤ R.locals) (hn : pc + 3 = n) (k : Go p l e R s m args below meth c n0 Q cells slots h (mkF m n Ls (st))) : Go p l e R s m args below meth c n0 Q cells slots h (mkF m pc Ls (.ref a :: st)) := fun T locs X N q => by
  subst hn hW
  obtain ⟨T', X', e', st'⟩ := initO X C.x C.z C.own w1 w2 w3 q (g := mkF m pc Ls (.ref a :: st)) rfl (hsz.trans C.ml.symm) rfl (hb C.by hd) hf (W := (st.map fun v => v.category).sum) (by show 2 * 0 + _ ≤ _; omega) hl
  obtain ⟨t, o, s1, r⟩ := k T' locs X' N e'
  exact ⟨t, o, st' t s1, r⟩
theorem G.callS (C : Cx p s m meth c Z y bytes maxL ret) {index W : Nat} {yc : MethodName} {bc : ByteArray} {mc : Nat} {rc : Option FieldType} {rm : Room} {c' s' : Nat} {Qc : Option Value → Heap → Prop} {ps : List FieldType} {argsL stk : List Value} (w1 : (Jvm.Cond.methodLink y.cls index yc).before a0 Z = true) (w2 : (Jvm.Cond.static yc).before a0 Z = true) (w3 : (Jvm.Cond.initialized yc.cls).before a0 Z = true) (w4 : (Jvm.Cond.code yc bc mc rc).before a0 Z = true) (hy : yc.cls ≠ "java/lang/invoke/MethodHandle" ∧ yc.cls ≠ "java/lang/invoke/VarHandle") (M : Met l Z yc bc mc rc rm argsL.toArray h n0 Qc) (hsz : Ls.size = maxL) (hf : rm.frames + 1 ≤ R.frames) (hW : (st.map fun v => v.category).sum = W) (hl : W + (mc + 11) + rm.locals ≤ R.locals) (hc' : cells + rm.cells = c') (hs' : slots + rm.slots = s') (hc : c' ≤ R.cells) (hs : s' ≤ R.slots) (hd : decode bytes pc = .ok (.invokestatic index, 3)) (hn : pc + 3 = n) (hlen : parseMethodDescriptor yc.desc = some ⟨ps, rc⟩) (hal : argsL.length = ps.length) (hst : stk = argsL.reverse ++ st) (k : ∀ v h', Qc v h' → Go p l e R s m args below meth c n0 Q c' s' h' (mkF m n Ls (v.toList ++ st))) : Go p l e R s m args below meth c n0 Q cells slots h (mkF m pc Ls (stk)) := fun T locs X N q => by
  subst hn hW hc' hs' hst
  obtain ⟨v, _, ⟨T', L', k', n''⟩, -, X', ⟨Lc, hQ, h1, h2, h3⟩, st'⟩ := Jvm.LawKit.callS X C.x (y := yc) C.own (mvT C.z w1) (mvT C.z w2) (mvT C.z w3) (mvT C.z w4) hy (backOf (W := (st.map fun v => v.category).sum) (Q := fun v h L => Fr n0 L ∧ Qc v h) (M []) C.z w4 w3 hf hl) (g := mkF m pc Ls (argsL.reverse ++ st)) rfl (hsz.trans C.ml.symm) (argsL := argsL) (rest := st) (lenOf hlen hal) rfl (by show 2 * 0 + _ ≤ _; omega) (hb C.by hd) (fun _ _ => ⟨rfl, q, hc, hs⟩)
  dsimp only [Pt.U, Pt.locs, Pt.cells, Pt.slots] at X' h1 h2 h3 st' hQ
  subst h1 h2 h3
  obtain ⟨t, o, s1, r⟩ := k v _ hQ.2 T' _ X' (Fr.app N hQ.1) rfl
  exact ⟨t, o, st' t s1, r⟩
theorem G.callC (C : Cx p s m meth c Z y bytes maxL ret) {index W : Nat} {yc : MethodName} {bc : ByteArray} {mc : Nat} {rm : Room} {c' s' : Nat} {Qc : Option Value → Heap → Prop} {ps : List FieldType} {argsL stk : List Value} {a : Addr} (hy1 : yc.name = "<init>") (w1 : (Jvm.Cond.methodLink y.cls index yc).before a0 Z = true) (w2 : (Jvm.Cond.instanceMethod yc).before a0 Z = true) (w3 : (Jvm.Cond.initialized yc.cls).before a0 Z = true) (w4 : (Jvm.Cond.code yc bc mc none).before a0 Z = true) (hy : yc.cls ≠ "java/lang/invoke/MethodHandle" ∧ yc.cls ≠ "java/lang/invoke/VarHandle") (M : Met l Z yc bc mc none rm (.ref a :: argsL).toArray h n0 Qc) (hsz : Ls.size = maxL) (hf : rm.frames + 1 ≤ R.frames) (hW : (st.map fun v => v.category).sum = W) (hl : W + (mc + 11) + rm.locals ≤ R.locals) (hc' : cells + rm.cells = c') (hs' : slots + rm.slots = s') (hc : c' ≤ R.cells) (hs : s' ≤ R.slots) (hd : decode bytes pc = .ok (.invokespecial index, 3)) (hn : pc + 3 = n) (hlen : parseMethodDescriptor yc.desc = some ⟨ps, none⟩) (hal : argsL.length = ps.length) (hst : stk = argsL.reverse ++ .ref a :: st) (k : ∀ v h', Qc v h' → Go p l e R s m args below meth c n0 Q c' s' h' (mkF m n Ls (v.toList ++ st))) : Go p l e R s m args below meth c n0 Q cells slots h (mkF m pc Ls (stk)) := fun T locs X N q => by
  subst hn hW hc' hs' hst
  obtain ⟨v, _, ⟨T', L', k', n''⟩, -, X', ⟨Lc, hQ, h1, h2, h3⟩, st'⟩ := X.specialBack C.x (y := yc) hy1 C.own (mvT C.z w1) (mvT C.z w2) (mvT C.z w4) hy (backOf (W := (st.map fun v => v.category).sum) (Q := fun v h L => Fr n0 L ∧ Qc v h) (M []) C.z w4 w3 hf hl) (g := mkF m pc Ls (argsL.reverse ++ .ref a :: st)) rfl (hsz.trans C.ml.symm) (Steps.refl _) (a := a) (argsL := argsL) (rest := st) (lenOf hlen hal) rfl (by show 2 * 0 + _ ≤ _; omega) (hb C.by hd) (fun _ _ => ⟨rfl, q, hc, hs⟩)
  dsimp only [Pt.U, Pt.locs, Pt.cells, Pt.slots] at X' h1 h2 h3 st' hQ
  subst h1 h2 h3
  obtain ⟨t, o, s1, r⟩ := k v _ hQ.2 T' _ X' (Fr.app N hQ.1) rfl
  exact ⟨t, o, st'.trans s1, r⟩
theorem G.callV (C : Cx p s m meth c Z y bytes maxL ret) {index W : Nat} {yc : MethodName} {bc : ByteArray} {mc : Nat} {rc : Option FieldType} {rm : Room} {c' s' : Nat} {Qc : Option Value → Heap → Prop} {ps : List FieldType} {K : String} {yr : MethodName} {argsL stk : List Value} {a : Addr} (E : Exa Z h a K) (w1 : (Jvm.Cond.methodLink y.cls index yr).before a0 Z = true) (w5 : (Jvm.Cond.declares yr).before a0 Z = true) (hnf : ∀ s : State, Z.Warmed39 s.vm → NotFace s yr) (w6 : (Jvm.Cond.selects K yr yc).before a0 Z = true) (w2 : (Jvm.Cond.instanceMethod yc).before a0 Z = true) (w3 : (Jvm.Cond.initialized yc.cls).before a0 Z = true) (w4 : (Jvm.Cond.code yc bc mc rc).before a0 Z = true) (hy : yr.cls ≠ "java/lang/invoke/MethodHandle" ∧ yr.cls ≠ "java/lang/invoke/VarHandle") (M : Met l Z yc bc mc rc rm (.ref a :: argsL).toArray h n0 Qc) (hsz : Ls.size = maxL) (hf : rm.frames + 1 ≤ R.frames) (hW : (st.map fun v => v.category).sum = W) (hl : W + (mc + 11) + rm.locals ≤ R.locals) (hc' : cells + rm.cells = c') (hs' : slots + rm.slots = s') (hc : c' ≤ R.cells) (hs : s' ≤ R.slots) (hd : decode bytes pc = .ok (.invokevirtual index, 3)) (hn : pc + 3 = n) (hlen : parseMethodDescriptor yr.desc = some ⟨ps, rc⟩) (hal : argsL.length = ps.length) (hst : stk = argsL.reverse ++ .ref a :: st) (k : ∀ v h', Qc v h' → Go p l e R s m args below meth c n0 Q c' s' h' (mkF m n Ls (v.toList ++ st))) : Go p l e R s m args below meth c n0 Q cells slots h (mkF m pc Ls (stk)) := fun T locs X N q => by
  subst hn hW hc' hs' hst
  obtain ⟨cq, kq, qa, qb, qc⟩ := isOf C.z q E
  obtain ⟨v, _, ⟨T', L', k', n''⟩, -, X', ⟨Lc, hQ, h1, h2, h3⟩, st'⟩ := X.virtualBack C.x (y := yr) (z := yc) C.own (mvT C.z w1) (mvT C.z w5) (hnf s C.z) (mvT C.z w6) (mvT C.z w2) hy (backOf (W := (st.map fun v => v.category).sum) (Q := fun v h L => Fr n0 L ∧ Qc v h) (M []) C.z w4 w3 hf hl) qa qc (g := mkF m pc Ls (argsL.reverse ++ .ref a :: st)) rfl (hsz.trans C.ml.symm) (Steps.refl _) (argsL := argsL) (rest := st) (lenOf hlen hal) rfl (by show 2 * 0 + _ ≤ _; omega) (hb C.by hd) (fun _ _ => ⟨rfl, q, hc, hs⟩)
  dsimp only [Pt.U, Pt.locs, Pt.cells, Pt.slots] at X' h1 h2 h3 st' hQ
  subst h1 h2 h3
  obtain ⟨t, o, s1, r⟩ := k v _ hQ.2 T' _ X' (Fr.app N hQ.1) rfl
  exact ⟨t, o, st'.trans s1, r⟩
theorem nfS {yr : MethodName} {K : String} {z : MethodName} (w6 : (Jvm.Cond.selects K yr z).before a0 Z = true) (hz : z = yr) : ∀ s : State, Z.Warmed39 s.vm → NotFace s yr := fun s hZ => by
  subst hz
  exact notFace_of_selects (args := #[]) (mvT hZ w6)
def Ints (Z : State) (h : Heap) (a : Addr) (ty : FieldType) (vs : List Int32) : Prop := ∃ k z, Arv Z h a k ty z (vs.map Value.int) (.int 0) ∧ z.toInt = vs.length
def Longs (Z : State) (h : Heap) (a : Addr) (vs : List Int64) : Prop := ∃ k z, Arv Z h a k .long z (vs.map Value.long) (.long 0) ∧ z.toInt = vs.length
theorem nat_clamp {j : Int32} : j.toNatClampNeg = j.toInt.toNat := rfl
theorem not_neg {j : Int32} (hj : 0 ≤ j.toInt) : ¬ j < 0 := by rw [lt_i]; exact Int.not_lt.mpr hj
theorem of_not_neg {j : Int32} (hj : ¬ j < 0) : 0 ≤ j.toInt := by rw [lt_i] at hj; exact Int.not_lt.mp hj
theorem inb {j z : Int32} {cl : Cell} {len : Nat} (hj : 0 ≤ j.toInt) (S : cl.slots.size = z.toNatClampNeg) (hz : z.toInt = len) (hl : j.toInt.toNat < len) : ¬ (j < 0 ∨ cl.slots.size ≤ j.toNatClampNeg) := by
  rintro (q | q)
  · exact not_neg hj q
  · rw [S, nat_clamp, nat_clamp, hz] at q; omega
theorem getD_map {α : Type} (f : α → Value) (vs : List α) (i : Nat) (d : Value) {x : α} (hx : vs[i]? = some x) : (vs.map f).getD i d = f x := by
  rw [List.getD_eq_getElem?_getD, List.getElem?_map, hx]; rfl
theorem lt_of_some {α : Type} {vs : List α} {i : Nat} {x : α} (hx : vs[i]? = some x) : i < vs.length := (List.getElem?_eq_some_iff.mp hx).1
theorem Ints.lt {a : Addr} {ty : FieldType} {vs : List Int32} (F : Ints Z h a ty vs) : a < h.size := by obtain ⟨k, z, A, -⟩ := F; exact A.lt
theorem Ints.ext {h' : Heap} {a : Addr} {ty : FieldType} {vs : List Int32} (F : Ints Z h a ty vs) (E : Ext h h') : Ints Z h' a ty vs := by obtain ⟨k, z, A, q⟩ := F; exact ⟨k, z, A.ext E, q⟩
theorem Ints.keep {h' : Heap} {ws : List Addr} {a : Addr} {ty : FieldType} {vs : List Int32} (F : Ints Z h a ty vs) (K : Keep h h' ws) (r : a ∉ ws) : Ints Z h' a ty vs := by obtain ⟨k, z, A, q⟩ := F; exact ⟨k, z, A.keep K r, q⟩
theorem Ints.other {h' : Heap} {sl : Nat} {v : Value} {a b : Addr} {ty : FieldType} {vs : List Int32} (F : Ints Z h a ty vs) (W : Wr h h' b sl v) (r : a ≠ b) : Ints Z h' a ty vs := by obtain ⟨k, z, A, q⟩ := F; exact ⟨k, z, A.other W r, q⟩
theorem Ints.len {a : Addr} {ty : FieldType} {vs : List Int32} (F : Ints Z h a ty vs) : (vs.length : Int) < 2147483648 := by obtain ⟨k, z, A, q⟩ := F; rw [← q]; exact (rng32 z).2
theorem Ints.at {a : Addr} {ty : FieldType} {vs : List Int32} (F : Ints Z h a ty vs) {j : Int32} {x : Int32} (hj : 0 ≤ j.toInt) (hx : vs[j.toInt.toNat]? = some x) : ∃ cl, Arr Z h a cl ty ∧ ¬ (j < 0 ∨ cl.slots.size ≤ j.toNatClampNeg) ∧ cl.slots[j.toNatClampNeg]? = some (.int x) ∧ fits ty (.int x) = true := by
  obtain ⟨k, z, ⟨cl, A, q1, S, N, H, G⟩, hz⟩ := F
  have hi := inb hj S hz (lt_of_some hx)
  have hi2 : j.toNatClampNeg < cl.slots.size := Nat.lt_of_not_le fun y => hi (Or.inr y)
  have e1 := H _ hi2
  have e2 := G _ hi2
  rw [nat_clamp, getD_map _ _ _ _ hx] at e1 e2
  exact ⟨cl, A, hi, e1, e2⟩
theorem Ints.put {h' : Heap} {a : Addr} {ty : FieldType} {vs : List Int32} (F : Ints Z h a ty vs) {j : Int32} {x : Int32} (hj : 0 ≤ j.toInt) (hl : j.toInt < vs.length) (hf : fits ty (.int x) = true) : ∃ cl, Arr Z h a cl ty ∧ ¬ (j < 0 ∨ cl.slots.size ≤ j.toNatClampNeg) ∧ (Wr h h' a j.toNatClampNeg (.int x) → Ints Z h' a ty (vs.set j.toInt.toNat x)) := by
  obtain ⟨k, z, ⟨cl, A, q1, S, N, H, G⟩, hz⟩ := F
  have hl2 : j.toInt.toNat < vs.length := by omega
  refine ⟨cl, A, inb hj S hz hl2, fun W => ⟨k, z, ?_, ?_⟩⟩
  · have r := Arv.set A q1 S N H G hf W j.toInt.toNat rfl (by rw [List.length_map]; exact hl2)
    rw [List.map_set]; exact r
  · rw [List.length_set]; exact hz
theorem Longs.lt {a : Addr} {vs : List Int64} (F : Longs Z h a vs) : a < h.size := by obtain ⟨k, z, A, -⟩ := F; exact A.lt
theorem Longs.ext {h' : Heap} {a : Addr} {vs : List Int64} (F : Longs Z h a vs) (E : Ext h h') : Longs Z h' a vs := by obtain ⟨k, z, A, q⟩ := F; exact ⟨k, z, A.ext E, q⟩
theorem Longs.keep {h' : Heap} {ws : List Addr} {a : Addr} {vs : List Int64} (F : Longs Z h a vs) (K : Keep h h' ws) (r : a ∉ ws) : Longs Z h' a vs := by obtain ⟨k, z, A, q⟩ := F; exact ⟨k, z, A.keep K r, q⟩
theorem Longs.other {h' : Heap} {sl : Nat} {v : Value} {a b : Addr} {vs : List Int64} (F : Longs Z h a vs) (W : Wr h h' b sl v) (r : a ≠ b) : Longs Z h' a vs := by obtain ⟨k, z, A, q⟩ := F; exact ⟨k, z, A.other W r, q⟩
theorem Longs.len {a : Addr} {vs : List Int64} (F : Longs Z h a vs) : (vs.length : Int) < 2147483648 := by obtain ⟨k, z, A, q⟩ := F; rw [← q]; exact (rng32 z).2
theorem Longs.at {a : Addr} {vs : List Int64} (F : Longs Z h a vs) {j : Int32} {x : Int64} (hj : 0 ≤ j.toInt) (hx : vs[j.toInt.toNat]? = some x) : ∃ cl, Arr Z h a cl .long ∧ ¬ (j < 0 ∨ cl.slots.size ≤ j.toNatClampNeg) ∧ cl.slots[j.toNatClampNeg]? = some (.long x) ∧ fits .long (.long x) = true := by
  obtain ⟨k, z, ⟨cl, A, q1, S, N, H, G⟩, hz⟩ := F
  have hi := inb hj S hz (lt_of_some hx)
  have hi2 : j.toNatClampNeg < cl.slots.size := Nat.lt_of_not_le fun y => hi (Or.inr y)
  have e1 := H _ hi2
  have e2 := G _ hi2
  rw [nat_clamp, getD_map _ _ _ _ hx] at e1 e2
  exact ⟨cl, A, hi, e1, e2⟩
theorem Longs.put {h' : Heap} {a : Addr} {vs : List Int64} (F : Longs Z h a vs) {j : Int32} {x : Int64} (hj : 0 ≤ j.toInt) (hl : j.toInt < vs.length) (hf : fits .long (.long x) = true) : ∃ cl, Arr Z h a cl .long ∧ ¬ (j < 0 ∨ cl.slots.size ≤ j.toNatClampNeg) ∧ (Wr h h' a j.toNatClampNeg (.long x) → Longs Z h' a (vs.set j.toInt.toNat x)) := by
  obtain ⟨k, z, ⟨cl, A, q1, S, N, H, G⟩, hz⟩ := F
  have hl2 : j.toInt.toNat < vs.length := by omega
  refine ⟨cl, A, inb hj S hz hl2, fun W => ⟨k, z, ?_, ?_⟩⟩
  · have r := Arv.set A q1 S N H G hf W j.toInt.toNat rfl (by rw [List.length_map]; exact hl2)
    rw [List.map_set]; exact r
  · rw [List.length_set]; exact hz
theorem G.iaload (C : Cx p s m meth c Z y bytes maxL ret) {a : Addr} {j : Int32} {x : Int32} {vs : List Int32} (F : Ints Z h a .int vs) (hj : 0 ≤ j.toInt) (hx : vs[j.toInt.toNat]? = some x) (hd : decode bytes pc = .ok (.iaload, 1)) (hn : pc + 1 = n) (k : Go p l e R s m args below meth c n0 Q cells slots h (mkF m n Ls (.int x :: st))) : Go p l e R s m args below meth c n0 Q cells slots h (mkF m pc Ls (.int j :: .ref a :: st)) := by
  subst hn
  obtain ⟨cl, A, h1, h2, -⟩ := F.at hj hx
  exact Go.via (fun T locs X q t r => X.iaload C.x (j := j) (v := .int x) (by rw [q]; exact A.1) (State.isArrayOf_alike C.z.alike A.2.1) A.2.2 h1 h2 (g := mkF m pc Ls (.int j :: .ref a :: st)) rfl rfl (hb C.by hd) t r) k
theorem G.laload (C : Cx p s m meth c Z y bytes maxL ret) {a : Addr} {j : Int32} {x : Int64} {vs : List Int64} (F : Longs Z h a vs) (hj : 0 ≤ j.toInt) (hx : vs[j.toInt.toNat]? = some x) (hd : decode bytes pc = .ok (.laload, 1)) (hn : pc + 1 = n) (k : Go p l e R s m args below meth c n0 Q cells slots h (mkF m n Ls (.long x :: st))) : Go p l e R s m args below meth c n0 Q cells slots h (mkF m pc Ls (.int j :: .ref a :: st)) := by
  subst hn
  obtain ⟨cl, A, h1, h2, -⟩ := F.at hj hx
  exact Go.via (fun T locs X q t r => X.laload C.x (j := j) (v := .long x) (by rw [q]; exact A.1) (State.isArrayOf_alike C.z.alike A.2.1) A.2.2 h1 h2 (g := mkF m pc Ls (.int j :: .ref a :: st)) rfl rfl (hb C.by hd) t r) k
theorem G.caload (C : Cx p s m meth c Z y bytes maxL ret) {a : Addr} {j : Int32} {x : Int32} {vs : List Int32} (F : Ints Z h a .char vs) (hj : 0 ≤ j.toInt) (hx : vs[j.toInt.toNat]? = some x) (hd : decode bytes pc = .ok (.caload, 1)) (hn : pc + 1 = n) (k : Go p l e R s m args below meth c n0 Q cells slots h (mkF m n Ls (.int x :: st))) : Go p l e R s m args below meth c n0 Q cells slots h (mkF m pc Ls (.int j :: .ref a :: st)) := by
  subst hn
  obtain ⟨cl, A, h1, h2, -⟩ := F.at hj hx
  exact Go.via (fun T locs X q t r => X.caload C.x (j := j) (v := .int x) (by rw [q]; exact A.1) (State.isArrayOf_alike C.z.alike A.2.1) A.2.2 h1 h2 (g := mkF m pc Ls (.int j :: .ref a :: st)) rfl rfl (hb C.by hd) t r) k
theorem G.baload (C : Cx p s m meth c Z y bytes maxL ret) {a : Addr} {j : Int32} {x : Int32} {vs : List Int32} (F : Ints Z h a .byte vs) (hj : 0 ≤ j.toInt) (hx : vs[j.toInt.toNat]? = some x) (hd : decode bytes pc = .ok (.baload, 1)) (hn : pc + 1 = n) (k : Go p l e R s m args below meth c n0 Q cells slots h (mkF m n Ls (.int x :: st))) : Go p l e R s m args below meth c n0 Q cells slots h (mkF m pc Ls (.int j :: .ref a :: st)) := by
  subst hn
  obtain ⟨cl, A, h1, h2, -⟩ := F.at hj hx
  exact Go.via (fun T locs X q t r => X.baloadBytes C.x (j := j) (v := .int x) (by rw [q]; exact A.1) (State.isArrayOf_alike C.z.alike A.2.1) A.2.2 h1 h2 (g := mkF m pc Ls (.int j :: .ref a :: st)) rfl rfl (hb C.by hd) t r) k
theorem G.baloadZ (C : Cx p s m meth c Z y bytes maxL ret) {a : Addr} {j : Int32} {x : Int32} {vs : List Int32} (F : Ints Z h a .boolean vs) (hj : 0 ≤ j.toInt) (hx : vs[j.toInt.toNat]? = some x) (hd : decode bytes pc = .ok (.baload, 1)) (hn : pc + 1 = n) (k : Go p l e R s m args below meth c n0 Q cells slots h (mkF m n Ls (.int x :: st))) : Go p l e R s m args below meth c n0 Q cells slots h (mkF m pc Ls (.int j :: .ref a :: st)) := by
  subst hn
  obtain ⟨cl, A, h1, h2, -⟩ := F.at hj hx
  exact Go.via (fun T locs X q t r => X.baloadBooleans C.x (j := j) (v := .int x) (by rw [q]; exact A.1) (State.isArrayOf_alike C.z.alike A.2.1) A.2.2 h1 h2 (g := mkF m pc Ls (.int j :: .ref a :: st)) rfl rfl (hb C.by hd) t r) k
theorem G.iastore (C : Cx p s m meth c Z y bytes maxL ret) {a : Addr} {j : Int32} {x : Int32} {vs : List Int32} (F : Ints Z h a .int vs) (hj : 0 ≤ j.toInt) (hl : j.toInt < vs.length) (g : n0 ≤ a) (hd : decode bytes pc = .ok (.iastore, 1)) (hn : pc + 1 = n) (k : ∀ h', Keep h h' [a] → (∃ w, Wr h h' a j.toNatClampNeg w) → Ints Z h' a .int (vs.set j.toInt.toNat x) → Go p l e R s m args below meth c n0 Q cells slots h' (mkF m n Ls (st))) : Go p l e R s m args below meth c n0 Q cells slots h (mkF m pc Ls (.int x :: .int j :: .ref a :: st)) := fun T locs X N q => by
  subst hn
  obtain ⟨cl, A, h1, -⟩ := F.put (h' := h) hj hl (x := x) rfl
  obtain ⟨T', h', X', e', W, st'⟩ := stI X C.x C.z q A (j := j) h1 (g := mkF m pc Ls (.int x :: .int j :: .ref a :: st)) rfl rfl (hb C.by hd)
  obtain ⟨cl2, A2, -, h3⟩ := F.put (h' := h') hj hl (x := x) rfl
  obtain ⟨t, o, s1, r⟩ := k h' (Keep.of_wr W) ⟨_, W⟩ (h3 W) T' _ X' (Fr.snoc X' N g) e'
  exact ⟨t, o, st' t s1, r⟩
theorem G.lastore (C : Cx p s m meth c Z y bytes maxL ret) {a : Addr} {j : Int32} {x : Int64} {vs : List Int64} (F : Longs Z h a vs) (hj : 0 ≤ j.toInt) (hl : j.toInt < vs.length) (g : n0 ≤ a) (hd : decode bytes pc = .ok (.lastore, 1)) (hn : pc + 1 = n) (k : ∀ h', Keep h h' [a] → (∃ w, Wr h h' a j.toNatClampNeg w) → Longs Z h' a (vs.set j.toInt.toNat x) → Go p l e R s m args below meth c n0 Q cells slots h' (mkF m n Ls (st))) : Go p l e R s m args below meth c n0 Q cells slots h (mkF m pc Ls (.long x :: .int j :: .ref a :: st)) := fun T locs X N q => by
  subst hn
  obtain ⟨cl, A, h1, -⟩ := F.put (h' := h) hj hl (x := x) rfl
  obtain ⟨T', h', X', e', W, st'⟩ := stJ X C.x C.z q A (j := j) h1 (g := mkF m pc Ls (.long x :: .int j :: .ref a :: st)) rfl rfl (hb C.by hd)
  obtain ⟨cl2, A2, -, h3⟩ := F.put (h' := h') hj hl (x := x) rfl
  obtain ⟨t, o, s1, r⟩ := k h' (Keep.of_wr W) ⟨_, W⟩ (h3 W) T' _ X' (Fr.snoc X' N g) e'
  exact ⟨t, o, st' t s1, r⟩
theorem G.castore (C : Cx p s m meth c Z y bytes maxL ret) {a : Addr} {j : Int32} {x : Int32} {vs : List Int32} (F : Ints Z h a .char vs) (hj : 0 ≤ j.toInt) (hl : j.toInt < vs.length) (g : n0 ≤ a) (hd : decode bytes pc = .ok (.castore, 1)) (hn : pc + 1 = n) (k : ∀ h', Keep h h' [a] → (∃ w, Wr h h' a j.toNatClampNeg w) → Ints Z h' a .char (vs.set j.toInt.toNat (nar .char x)) → Go p l e R s m args below meth c n0 Q cells slots h' (mkF m n Ls (st))) : Go p l e R s m args below meth c n0 Q cells slots h (mkF m pc Ls (.int x :: .int j :: .ref a :: st)) := fun T locs X N q => by
  subst hn
  obtain ⟨cl, A, h1, -⟩ := F.put (h' := h) hj hl (x := (nar .char x)) (fits_nar_char x)
  obtain ⟨T', h', X', e', W, st'⟩ := stC X C.x C.z q A (j := j) h1 (g := mkF m pc Ls (.int x :: .int j :: .ref a :: st)) rfl rfl (hb C.by hd)
  obtain ⟨cl2, A2, -, h3⟩ := F.put (h' := h') hj hl (x := (nar .char x)) (fits_nar_char x)
  obtain ⟨t, o, s1, r⟩ := k h' (Keep.of_wr W) ⟨_, W⟩ (h3 W) T' _ X' (Fr.snoc X' N g) e'
  exact ⟨t, o, st' t s1, r⟩
theorem G.bastore (C : Cx p s m meth c Z y bytes maxL ret) {a : Addr} {j : Int32} {x : Int32} {vs : List Int32} (F : Ints Z h a .byte vs) (hj : 0 ≤ j.toInt) (hl : j.toInt < vs.length) (g : n0 ≤ a) (hd : decode bytes pc = .ok (.bastore, 1)) (hn : pc + 1 = n) (k : ∀ h', Keep h h' [a] → (∃ w, Wr h h' a j.toNatClampNeg w) → Ints Z h' a .byte (vs.set j.toInt.toNat (nar .byte x)) → Go p l e R s m args below meth c n0 Q cells slots h' (mkF m n Ls (st))) : Go p l e R s m args below meth c n0 Q cells slots h (mkF m pc Ls (.int x :: .int j :: .ref a :: st)) := fun T locs X N q => by
  subst hn
  obtain ⟨cl, A, h1, -⟩ := F.put (h' := h) hj hl (x := (nar .byte x)) (fits_nar_byte x)
  obtain ⟨T', h', X', e', W, st'⟩ := stB X C.x C.z q A (j := j) h1 (g := mkF m pc Ls (.int x :: .int j :: .ref a :: st)) rfl rfl (hb C.by hd)
  obtain ⟨cl2, A2, -, h3⟩ := F.put (h' := h') hj hl (x := (nar .byte x)) (fits_nar_byte x)
  obtain ⟨t, o, s1, r⟩ := k h' (Keep.of_wr W) ⟨_, W⟩ (h3 W) T' _ X' (Fr.snoc X' N g) e'
  exact ⟨t, o, st' t s1, r⟩
theorem G.bastoreZ (C : Cx p s m meth c Z y bytes maxL ret) {a : Addr} {j : Int32} {x : Int32} {vs : List Int32} (F : Ints Z h a .boolean vs) (hj : 0 ≤ j.toInt) (hl : j.toInt < vs.length) (g : n0 ≤ a) (hd : decode bytes pc = .ok (.bastore, 1)) (hn : pc + 1 = n) (k : ∀ h', Keep h h' [a] → (∃ w, Wr h h' a j.toNatClampNeg w) → Ints Z h' a .boolean (vs.set j.toInt.toNat (nar .boolean x)) → Go p l e R s m args below meth c n0 Q cells slots h' (mkF m n Ls (st))) : Go p l e R s m args below meth c n0 Q cells slots h (mkF m pc Ls (.int x :: .int j :: .ref a :: st)) := fun T locs X N q => by
  subst hn
  obtain ⟨cl, A, h1, -⟩ := F.put (h' := h) hj hl (x := (nar .boolean x)) (fits_nar_bool x)
  obtain ⟨T', h', X', e', W, st'⟩ := stZ X C.x C.z q A (j := j) h1 (g := mkF m pc Ls (.int x :: .int j :: .ref a :: st)) rfl rfl (hb C.by hd)
  obtain ⟨cl2, A2, -, h3⟩ := F.put (h' := h') hj hl (x := (nar .boolean x)) (fits_nar_bool x)
  obtain ⟨t, o, s1, r⟩ := k h' (Keep.of_wr W) ⟨_, W⟩ (h3 W) T' _ X' (Fr.snoc X' N g) e'
  exact ⟨t, o, st' t s1, r⟩
theorem len32 {z : Int32} {k : Nat} (hz : z.toInt = k) : z = Int32.ofNat k := by
  have h2 := (rng32 z).2
  exact Int32.toInt_inj.mp (by rw [Int32.toInt_ofNat_of_lt (by omega)]; exact hz)
theorem G.arraylengthI (C : Cx p s m meth c Z y bytes maxL ret) {a : Addr} {ty : FieldType} {vs : List Int32} {len : Int32} (F : Ints Z h a ty vs) (hlen : len.toInt = vs.length) (hd : decode bytes pc = .ok (.arraylength, 1)) (hn : pc + 1 = n) (k : Go p l e R s m args below meth c n0 Q cells slots h (mkF m n Ls (.int len :: st))) : Go p l e R s m args below meth c n0 Q cells slots h (mkF m pc Ls (.ref a :: st)) := by
  subst hn
  obtain ⟨k', z, ⟨cl, A, q1, S, N, H, G⟩, hz⟩ := F
  have e1 : cl.slots.size.toInt32 = len := (len_of S N).trans (Int32.toInt_inj.mp (hz.trans hlen.symm))
  exact Go.via (fun T locs X q t r => X.arraylength C.x (by rw [q]; exact A.1) (State.isArrayOf_alike C.z.alike A.2.1) (g := mkF m pc Ls (.ref a :: st)) rfl rfl (hb C.by hd) t (by rw [e1]; exact r)) k
theorem G.arraylengthL (C : Cx p s m meth c Z y bytes maxL ret) {a : Addr} {vs : List Int64} {len : Int32} (F : Longs Z h a vs) (hlen : len.toInt = vs.length) (hd : decode bytes pc = .ok (.arraylength, 1)) (hn : pc + 1 = n) (k : Go p l e R s m args below meth c n0 Q cells slots h (mkF m n Ls (.int len :: st))) : Go p l e R s m args below meth c n0 Q cells slots h (mkF m pc Ls (.ref a :: st)) := by
  subst hn
  obtain ⟨k', z, ⟨cl, A, q1, S, N, H, G⟩, hz⟩ := F
  have e1 : cl.slots.size.toInt32 = len := (len_of S N).trans (Int32.toInt_inj.mp (hz.trans hlen.symm))
  exact Go.via (fun T locs X q t r => X.arraylength C.x (by rw [q]; exact A.1) (State.isArrayOf_alike C.z.alike A.2.1) (g := mkF m pc Ls (.ref a :: st)) rfl rfl (hb C.by hd) t (by rw [e1]; exact r)) k
theorem G.newarray (C : Cx p s m meth c Z y bytes maxL ret) {aty : ArrayType} {ty : FieldType} {len : Int32} {cap c' s' : Nat} (w : (Jvm.Cond.arrayClass ty).before a0 Z = true) (hty : newarray.typeOf aty = ty) (hdv : defaultValue ty = .int 0) (hlen : 0 ≤ len.toInt) (hcap : len.toInt ≤ cap) (hbig : cap * 8 ≤ 536870912) (hd : decode bytes pc = .ok (.newarray aty, 2)) (hn : pc + 2 = n) (hc' : cells + 1 = c') (hs' : slots + cap = s') (hc : c' ≤ R.cells) (hs : s' ≤ R.slots)
    (k : ∀ h' b, b = h.size → Ext h h' → Ints Z h' b ty (List.replicate len.toInt.toNat 0) → Go p l e R s m args below meth c n0 Q c' s' h' (mkF m n Ls (.ref b :: st))) : Go p l e R s m args below meth c n0 Q cells slots h (mkF m pc Ls (.int len :: st)) := fun T locs X N q => by
  subst hn hc' hs' hty
  obtain ⟨T', h', cA, X', e', E, A, st'⟩ := newP X C.x C.z w q (g := mkF m pc Ls (.int len :: st)) rfl (hb C.by hd) rfl (not_neg hlen) (cap := cap) (by rw [nat_clamp]; omega) hbig hc hs
  have V := (Arv.new A (not_neg hlen))
  rw [hdv] at V
  have V2 := V.pad (pad_rep [] _ len.toInt.toNat)
  rw [List.nil_append, ← List.map_replicate (f := Value.int)] at V2
  obtain ⟨t, o, s1, r⟩ := k h' _ rfl E ⟨cA, len, V2, by rw [List.length_replicate]; omega⟩ T' _ X' N e'
  exact ⟨t, o, st' t s1, r⟩
theorem G.newarrayJ (C : Cx p s m meth c Z y bytes maxL ret) {aty : ArrayType} {ty : FieldType} {len : Int32} {cap c' s' : Nat} (w : (Jvm.Cond.arrayClass ty).before a0 Z = true) (hty : newarray.typeOf aty = ty) (hdv : defaultValue ty = .long 0) (hJ : ty = .long) (hlen : 0 ≤ len.toInt) (hcap : len.toInt ≤ cap) (hbig : cap * 8 ≤ 536870912) (hd : decode bytes pc = .ok (.newarray aty, 2)) (hn : pc + 2 = n) (hc' : cells + 1 = c') (hs' : slots + cap = s') (hc : c' ≤ R.cells) (hs : s' ≤ R.slots)
    (k : ∀ h' b, b = h.size → Ext h h' → Longs Z h' b (List.replicate len.toInt.toNat 0) → Go p l e R s m args below meth c n0 Q c' s' h' (mkF m n Ls (.ref b :: st))) : Go p l e R s m args below meth c n0 Q cells slots h (mkF m pc Ls (.int len :: st)) := fun T locs X N q => by
  subst hn hc' hs' hty
  obtain ⟨T', h', cA, X', e', E, A, st'⟩ := newP X C.x C.z w q (g := mkF m pc Ls (.int len :: st)) rfl (hb C.by hd) rfl (not_neg hlen) (cap := cap) (by rw [nat_clamp]; omega) hbig hc hs
  have V := (Arv.new A (not_neg hlen))
  rw [hdv] at V
  have V2 := V.pad (pad_rep [] _ len.toInt.toNat)
  rw [List.nil_append, ← List.map_replicate (f := Value.long), hJ] at V2
  obtain ⟨t, o, s1, r⟩ := k h' _ rfl E ⟨cA, len, V2, by rw [List.length_replicate]; omega⟩ T' _ X' N e'
  exact ⟨t, o, st' t s1, r⟩
theorem getD_at {α : Type} {vs : List α} {i : Nat} {d : α} (h : i < vs.length) : vs[i]? = some (vs.getD i d) := by
  rw [List.getD_eq_getElem?_getD, List.getElem?_eq_getElem h]; rfl
theorem kext {h' : Heap} (E : Ext h h') : Keep h h' [] := (Keep.refl h []).ext E
theorem Keep.tr {h' h'' : Heap} {ws ws' : List Addr} (K : Keep h h' ws) (K' : Keep h' h'' ws') (q : ∀ x ∈ ws', x ∈ ws ∨ h.size ≤ x) : Keep h h'' ws := K.trans K' q
end
end Jvm.Own
namespace Jvm.Pilot.@@N@@
open Jvm Jvm.ClassFile Sem Op Lib Jvm.Free Jvm.Stand Jvm.LawKit Jvm.RoadKit Jvm.Own Bundle Jvm.Pilot.@@N@@.Jvm.D
def Ob_T (Z : State) (h : Heap) (a : Addr) (f_median : Int64) (f_p99 : Int64) : Prop := Exa Z h a "com/example/portcullis/portcullis/BenchCommand$Times" ∧ Fld Z h a "com/example/portcullis/portcullis/BenchCommand$Times" "median" "J" (.long f_median) ∧ Fld Z h a "com/example/portcullis/portcullis/BenchCommand$Times" "p99" "J" (.long f_p99)
theorem Ob_T.keep {Z : State} {h h' : Heap} {ws : List Addr} {a : Addr} {f_median : Int64} {f_p99 : Int64} (O : Ob_T Z h a f_median f_p99) (K : Keep h h' ws) (r : a ∉ ws) : Ob_T Z h' a f_median f_p99 := ⟨(O.1).keep K, (O.2.1).keep K r, (O.2.2).keep K r⟩
theorem Ob_T.lt {Z : State} {h : Heap} {a : Addr} {f_median : Int64} {f_p99 : Int64} (O : Ob_T Z h a f_median f_p99) : a < h.size := Exa.lt (O.1)
theorem Ob_T.set_median {Z : State} {a0 : Array Value} (hw : ∀ d ∈ tables_1, d.before a0 Z = true) {h h' : Heap} {a : Addr} {f_median : Int64} {f_p99 : Int64} {v : Int64} (O : Ob_T Z h a f_median f_p99) (W : Wr h h' a (RoadKit.slotOf Z "com/example/portcullis/portcullis/BenchCommand$Times" "median" "J") (.long v)) : Ob_T Z h' a v f_p99 := ⟨(O.1).wr W, (O.2.1).same W, (O.2.2).other W (Or.inr (slot_ne (Or.inr (wd hw 19 rfl)) (Or.inr (wd hw 17 rfl)) (by decide) (t := .long) (t' := .long) (by decide) (by decide)))⟩
theorem Ob_T.set_p99 {Z : State} {a0 : Array Value} (hw : ∀ d ∈ tables_1, d.before a0 Z = true) {h h' : Heap} {a : Addr} {f_median : Int64} {f_p99 : Int64} {v : Int64} (O : Ob_T Z h a f_median f_p99) (W : Wr h h' a (RoadKit.slotOf Z "com/example/portcullis/portcullis/BenchCommand$Times" "p99" "J") (.long v)) : Ob_T Z h' a f_median v := ⟨(O.1).wr W, (O.2.1).other W (Or.inr (slot_ne (Or.inr (wd hw 17 rfl)) (Or.inr (wd hw 19 rfl)) (by decide) (t := .long) (t' := .long) (by decide) (by decide))), (O.2.2).same W⟩
theorem Ob_T.new {Z : State} {a0 : Array Value} (hw : ∀ d ∈ tables_1, d.before a0 Z = true) {h : Heap} {a : Addr} (E : Exa Z h a "com/example/portcullis/portcullis/BenchCommand$Times") (D : ∀ {O nm d : String} {ty : FieldType}, Laid Z a0 "com/example/portcullis/portcullis/BenchCommand$Times" O nm d → parseFieldDescriptor d = some ty → Fld Z h a O nm d (defaultValue ty)) : Ob_T Z h a (0 : Int64) (0 : Int64) := ⟨E, D (Or.inr (wd hw 17 rfl)) (ty := .long) (by decide), D (Or.inr (wd hw 19 rfl)) (ty := .long) (by decide)⟩
def Ob_Rd (Z : State) (h : Heap) (a : Addr) (f_start : Int64) (f_compiledMillis : Int64) (f_settledSince : Int64) (f_end : Int64) (f_count : Int32) (f_kept : Value) : Prop := Exa Z h a "com/example/portcullis/portcullis/BenchCommand$Rounds" ∧ Fld Z h a "com/example/portcullis/portcullis/BenchCommand$Rounds" "start" "J" (.long f_start) ∧ Fld Z h a "com/example/portcullis/portcullis/BenchCommand$Rounds" "compiledMillis" "J" (.long f_compiledMillis) ∧ Fld Z h a "com/example/portcullis/portcullis/BenchCommand$Rounds" "settledSince" "J" (.long f_settledSince) ∧ Fld Z h a "com/example/portcullis/portcullis/BenchCommand$Rounds" "end" "J" (.long f_end) ∧ Fld Z h a "com/example/portcullis/portcullis/BenchCommand$Rounds" "count" "I" (.int f_count) ∧ Fld Z h a "com/example/portcullis/portcullis/BenchCommand$Rounds" "kept" "Lcom/example/portcullis/portcullis/BenchCommand$Times;" f_kept
theorem Ob_Rd.keep {Z : State} {h h' : Heap} {ws : List Addr} {a : Addr} {f_start : Int64} {f_compiledMillis : Int64} {f_settledSince : Int64} {f_end : Int64} {f_count : Int32} {f_kept : Value} (O : Ob_Rd Z h a f_start f_compiledMillis f_settledSince f_end f_count f_kept) (K : Keep h h' ws) (r : a ∉ ws) : Ob_Rd Z h' a f_start f_compiledMillis f_settledSince f_end f_count f_kept := ⟨(O.1).keep K, (O.2.1).keep K r, (O.2.2.1).keep K r, (O.2.2.2.1).keep K r, (O.2.2.2.2.1).keep K r, (O.2.2.2.2.2.1).keep K r, (O.2.2.2.2.2.2).keep K r⟩
theorem Ob_Rd.lt {Z : State} {h : Heap} {a : Addr} {f_start : Int64} {f_compiledMillis : Int64} {f_settledSince : Int64} {f_end : Int64} {f_count : Int32} {f_kept : Value} (O : Ob_Rd Z h a f_start f_compiledMillis f_settledSince f_end f_count f_kept) : a < h.size := Exa.lt (O.1)
theorem Ob_Rd.set_start {Z : State} {a0 : Array Value} (hw : ∀ d ∈ tables_1, d.before a0 Z = true) {h h' : Heap} {a : Addr} {f_start : Int64} {f_compiledMillis : Int64} {f_settledSince : Int64} {f_end : Int64} {f_count : Int32} {f_kept : Value} {v : Int64} (O : Ob_Rd Z h a f_start f_compiledMillis f_settledSince f_end f_count f_kept) (W : Wr h h' a (RoadKit.slotOf Z "com/example/portcullis/portcullis/BenchCommand$Rounds" "start" "J") (.long v)) : Ob_Rd Z h' a v f_compiledMillis f_settledSince f_end f_count f_kept := ⟨(O.1).wr W, (O.2.1).same W, (O.2.2.1).other W (Or.inr (slot_ne (Or.inl (wd hw 30 rfl)) (Or.inr (wd hw 28 rfl)) (by decide) (t := .long) (t' := .long) (by decide) (by decide))), (O.2.2.2.1).other W (Or.inr (slot_ne (Or.inl (wd hw 32 rfl)) (Or.inr (wd hw 28 rfl)) (by decide) (t := .long) (t' := .long) (by decide) (by decide))), (O.2.2.2.2.1).other W (Or.inr (slot_ne (Or.inl (wd hw 34 rfl)) (Or.inr (wd hw 28 rfl)) (by decide) (t := .long) (t' := .long) (by decide) (by decide))), (O.2.2.2.2.2.1).other W (Or.inr (slot_ne (Or.inl (wd hw 42 rfl)) (Or.inr (wd hw 28 rfl)) (by decide) (t := .int) (t' := .long) (by decide) (by decide))), (O.2.2.2.2.2.2).other W (Or.inr (slot_ne (Or.inl (wd hw 49 rfl)) (Or.inr (wd hw 28 rfl)) (by decide) (t := (.object "com/example/portcullis/portcullis/BenchCommand$Times")) (t' := .long) (by decide) (by decide)))⟩
theorem Ob_Rd.set_compiledMillis {Z : State} {a0 : Array Value} (hw : ∀ d ∈ tables_1, d.before a0 Z = true) {h h' : Heap} {a : Addr} {f_start : Int64} {f_compiledMillis : Int64} {f_settledSince : Int64} {f_end : Int64} {f_count : Int32} {f_kept : Value} {v : Int64} (O : Ob_Rd Z h a f_start f_compiledMillis f_settledSince f_end f_count f_kept) (W : Wr h h' a (RoadKit.slotOf Z "com/example/portcullis/portcullis/BenchCommand$Rounds" "compiledMillis" "J") (.long v)) : Ob_Rd Z h' a f_start v f_settledSince f_end f_count f_kept := ⟨(O.1).wr W, (O.2.1).other W (Or.inr (slot_ne (Or.inr (wd hw 28 rfl)) (Or.inl (wd hw 30 rfl)) (by decide) (t := .long) (t' := .long) (by decide) (by decide))), (O.2.2.1).same W, (O.2.2.2.1).other W (Or.inr (slot_ne (Or.inl (wd hw 32 rfl)) (Or.inl (wd hw 30 rfl)) (by decide) (t := .long) (t' := .long) (by decide) (by decide))), (O.2.2.2.2.1).other W (Or.inr (slot_ne (Or.inl (wd hw 34 rfl)) (Or.inl (wd hw 30 rfl)) (by decide) (t := .long) (t' := .long) (by decide) (by decide))), (O.2.2.2.2.2.1).other W (Or.inr (slot_ne (Or.inl (wd hw 42 rfl)) (Or.inl (wd hw 30 rfl)) (by decide) (t := .int) (t' := .long) (by decide) (by decide))), (O.2.2.2.2.2.2).other W (Or.inr (slot_ne (Or.inl (wd hw 49 rfl)) (Or.inl (wd hw 30 rfl)) (by decide) (t := (.object "com/example/portcullis/portcullis/BenchCommand$Times")) (t' := .long) (by decide) (by decide)))⟩
theorem Ob_Rd.set_settledSince {Z : State} {a0 : Array Value} (hw : ∀ d ∈ tables_1, d.before a0 Z = true) {h h' : Heap} {a : Addr} {f_start : Int64} {f_compiledMillis : Int64} {f_settledSince : Int64} {f_end : Int64} {f_count : Int32} {f_kept : Value} {v : Int64} (O : Ob_Rd Z h a f_start f_compiledMillis f_settledSince f_end f_count f_kept) (W : Wr h h' a (RoadKit.slotOf Z "com/example/portcullis/portcullis/BenchCommand$Rounds" "settledSince" "J") (.long v)) : Ob_Rd Z h' a f_start f_compiledMillis v f_end f_count f_kept := ⟨(O.1).wr W, (O.2.1).other W (Or.inr (slot_ne (Or.inr (wd hw 28 rfl)) (Or.inl (wd hw 32 rfl)) (by decide) (t := .long) (t' := .long) (by decide) (by decide))), (O.2.2.1).other W (Or.inr (slot_ne (Or.inl (wd hw 30 rfl)) (Or.inl (wd hw 32 rfl)) (by decide) (t := .long) (t' := .long) (by decide) (by decide))), (O.2.2.2.1).same W, (O.2.2.2.2.1).other W (Or.inr (slot_ne (Or.inl (wd hw 34 rfl)) (Or.inl (wd hw 32 rfl)) (by decide) (t := .long) (t' := .long) (by decide) (by decide))), (O.2.2.2.2.2.1).other W (Or.inr (slot_ne (Or.inl (wd hw 42 rfl)) (Or.inl (wd hw 32 rfl)) (by decide) (t := .int) (t' := .long) (by decide) (by decide))), (O.2.2.2.2.2.2).other W (Or.inr (slot_ne (Or.inl (wd hw 49 rfl)) (Or.inl (wd hw 32 rfl)) (by decide) (t := (.object "com/example/portcullis/portcullis/BenchCommand$Times")) (t' := .long) (by decide) (by decide)))⟩
theorem Ob_Rd.set_end {Z : State} {a0 : Array Value} (hw : ∀ d ∈ tables_1, d.before a0 Z = true) {h h' : Heap} {a : Addr} {f_start : Int64} {f_compiledMillis : Int64} {f_settledSince : Int64} {f_end : Int64} {f_count : Int32} {f_kept : Value} {v : Int64} (O : Ob_Rd Z h a f_start f_compiledMillis f_settledSince f_end f_count f_kept) (W : Wr h h' a (RoadKit.slotOf Z "com/example/portcullis/portcullis/BenchCommand$Rounds" "end" "J") (.long v)) : Ob_Rd Z h' a f_start f_compiledMillis f_settledSince v f_count f_kept := ⟨(O.1).wr W, (O.2.1).other W (Or.inr (slot_ne (Or.inr (wd hw 28 rfl)) (Or.inl (wd hw 34 rfl)) (by decide) (t := .long) (t' := .long) (by decide) (by decide))), (O.2.2.1).other W (Or.inr (slot_ne (Or.inl (wd hw 30 rfl)) (Or.inl (wd hw 34 rfl)) (by decide) (t := .long) (t' := .long) (by decide) (by decide))), (O.2.2.2.1).other W (Or.inr (slot_ne (Or.inl (wd hw 32 rfl)) (Or.inl (wd hw 34 rfl)) (by decide) (t := .long) (t' := .long) (by decide) (by decide))), (O.2.2.2.2.1).same W, (O.2.2.2.2.2.1).other W (Or.inr (slot_ne (Or.inl (wd hw 42 rfl)) (Or.inl (wd hw 34 rfl)) (by decide) (t := .int) (t' := .long) (by decide) (by decide))), (O.2.2.2.2.2.2).other W (Or.inr (slot_ne (Or.inl (wd hw 49 rfl)) (Or.inl (wd hw 34 rfl)) (by decide) (t := (.object "com/example/portcullis/portcullis/BenchCommand$Times")) (t' := .long) (by decide) (by decide)))⟩
theorem Ob_Rd.set_count {Z : State} {a0 : Array Value} (hw : ∀ d ∈ tables_1, d.before a0 Z = true) {h h' : Heap} {a : Addr} {f_start : Int64} {f_compiledMillis : Int64} {f_settledSince : Int64} {f_end : Int64} {f_count : Int32} {f_kept : Value} {v : Int32} (O : Ob_Rd Z h a f_start f_compiledMillis f_settledSince f_end f_count f_kept) (W : Wr h h' a (RoadKit.slotOf Z "com/example/portcullis/portcullis/BenchCommand$Rounds" "count" "I") (.int v)) : Ob_Rd Z h' a f_start f_compiledMillis f_settledSince f_end v f_kept := ⟨(O.1).wr W, (O.2.1).other W (Or.inr (slot_ne (Or.inr (wd hw 28 rfl)) (Or.inl (wd hw 42 rfl)) (by decide) (t := .long) (t' := .int) (by decide) (by decide))), (O.2.2.1).other W (Or.inr (slot_ne (Or.inl (wd hw 30 rfl)) (Or.inl (wd hw 42 rfl)) (by decide) (t := .long) (t' := .int) (by decide) (by decide))), (O.2.2.2.1).other W (Or.inr (slot_ne (Or.inl (wd hw 32 rfl)) (Or.inl (wd hw 42 rfl)) (by decide) (t := .long) (t' := .int) (by decide) (by decide))), (O.2.2.2.2.1).other W (Or.inr (slot_ne (Or.inl (wd hw 34 rfl)) (Or.inl (wd hw 42 rfl)) (by decide) (t := .long) (t' := .int) (by decide) (by decide))), (O.2.2.2.2.2.1).same W, (O.2.2.2.2.2.2).other W (Or.inr (slot_ne (Or.inl (wd hw 49 rfl)) (Or.inl (wd hw 42 rfl)) (by decide) (t := (.object "com/example/portcullis/portcullis/BenchCommand$Times")) (t' := .int) (by decide) (by decide)))⟩
theorem Ob_Rd.set_kept {Z : State} {a0 : Array Value} (hw : ∀ d ∈ tables_1, d.before a0 Z = true) {h h' : Heap} {a : Addr} {f_start : Int64} {f_compiledMillis : Int64} {f_settledSince : Int64} {f_end : Int64} {f_count : Int32} {f_kept : Value} {v : Value} (O : Ob_Rd Z h a f_start f_compiledMillis f_settledSince f_end f_count f_kept) (W : Wr h h' a (RoadKit.slotOf Z "com/example/portcullis/portcullis/BenchCommand$Rounds" "kept" "Lcom/example/portcullis/portcullis/BenchCommand$Times;") v) : Ob_Rd Z h' a f_start f_compiledMillis f_settledSince f_end f_count v := ⟨(O.1).wr W, (O.2.1).other W (Or.inr (slot_ne (Or.inr (wd hw 28 rfl)) (Or.inl (wd hw 49 rfl)) (by decide) (t := .long) (t' := (.object "com/example/portcullis/portcullis/BenchCommand$Times")) (by decide) (by decide))), (O.2.2.1).other W (Or.inr (slot_ne (Or.inl (wd hw 30 rfl)) (Or.inl (wd hw 49 rfl)) (by decide) (t := .long) (t' := (.object "com/example/portcullis/portcullis/BenchCommand$Times")) (by decide) (by decide))), (O.2.2.2.1).other W (Or.inr (slot_ne (Or.inl (wd hw 32 rfl)) (Or.inl (wd hw 49 rfl)) (by decide) (t := .long) (t' := (.object "com/example/portcullis/portcullis/BenchCommand$Times")) (by decide) (by decide))), (O.2.2.2.2.1).other W (Or.inr (slot_ne (Or.inl (wd hw 34 rfl)) (Or.inl (wd hw 49 rfl)) (by decide) (t := .long) (t' := (.object "com/example/portcullis/portcullis/BenchCommand$Times")) (by decide) (by decide))), (O.2.2.2.2.2.1).other W (Or.inr (slot_ne (Or.inl (wd hw 42 rfl)) (Or.inl (wd hw 49 rfl)) (by decide) (t := .int) (t' := (.object "com/example/portcullis/portcullis/BenchCommand$Times")) (by decide) (by decide))), (O.2.2.2.2.2.2).same W⟩
theorem Ob_Rd.new {Z : State} {a0 : Array Value} (hw : ∀ d ∈ tables_1, d.before a0 Z = true) {h : Heap} {a : Addr} (E : Exa Z h a "com/example/portcullis/portcullis/BenchCommand$Rounds") (D : ∀ {O nm d : String} {ty : FieldType}, Laid Z a0 "com/example/portcullis/portcullis/BenchCommand$Rounds" O nm d → parseFieldDescriptor d = some ty → Fld Z h a O nm d (defaultValue ty)) : Ob_Rd Z h a (0 : Int64) (0 : Int64) (0 : Int64) (0 : Int64) (0 : Int32) .null := ⟨E, D (Or.inr (wd hw 28 rfl)) (ty := .long) (by decide), D (Or.inl (wd hw 30 rfl)) (ty := .long) (by decide), D (Or.inl (wd hw 32 rfl)) (ty := .long) (by decide), D (Or.inl (wd hw 34 rfl)) (ty := .long) (by decide), D (Or.inl (wd hw 42 rfl)) (ty := .int) (by decide), D (Or.inl (wd hw 49 rfl)) (ty := (.object "com/example/portcullis/portcullis/BenchCommand$Times")) (by decide)⟩
def ovr (en ss st : Int64) (ct : Int32) : Bool := decide (2000000000 ≤ (en - ss).toInt ∨ (2 ≤ ct.toInt ∧ 20000000000 ≤ (en - st).toInt))
def stl (cc cm en ss : Int64) : Int64 := if 10 < (cc - cm).toInt then en else ss
def kpt (mt mk : Int64) (t k : Value) : Value := if mt.toInt < mk.toInt then t else k
theorem kpt_ref (mt mk : Int64) (t k : Addr) : (kpt mt mk (.ref t) (.ref k)).isRef = true := by unfold kpt; split <;> rfl
theorem d2_0 : decode jdk_30_method_1_code 0 = .ok (.aload_n 0, 1) := by decide +kernel
theorem d2_1 : decode jdk_30_method_1_code 1 = .ok (.invokespecial 1, 3) := by decide +kernel
theorem d2_4 : decode jdk_30_method_1_code 4 = .ok (.return_, 1) := by decide +kernel
theorem pn0 : plainName "java/lang/Record" = true := by first | (simp [plainName, overriddenIn]; done) | decide +kernel
theorem ef1 (m : MethodId) (a : Addr) : entryFrame m #[(.ref a)] 1 = mkF m 0 #[.val (.ref a)] [] := by first | (simp [entryFrame, mkF, argsToLocals, Value.category]; done) | rfl
abbrev Q_recinit (Z : State) (h0 : Heap) (a : Addr) : Option Value → Heap → Prop := fun v h' => v = none ∧ h0 = h'
abbrev R_recinit : Room := { frames := 1, cells := 0, slots := 0, locals := 12 }
set_option maxRecDepth 65536 in
set_option maxHeartbeats 40000000 in
theorem m_recinit (l : Launch) (Z : State) (a0 : Array Value) (hw : ∀ d ∈ tables_1, d.before a0 Z = true) (a : Addr) (h0 : Heap) (n0 : Nat) (Z0 : n0 ≤ h0.size)  : Met l Z (⟨"java/lang/Record", "<init>", "()V"⟩ : MethodName) jdk_30_method_1_code 1 none R_recinit #[(.ref a)] h0 n0 (Q_recinit Z h0 a) := by
  refine Met.of (plainFor_of_name pn0) (fun m => ef1 m a) ?_
  intro p e s m args below meth c C
  refine G.aloadN C d2_0 rfl rfl (n := 1) rfl ?_
  refine G.objinit C (wd hw 13 rfl) (wd hw 14 rfl) (wd hw 15 rfl) d2_1 rfl (by decide) (W := 0) rfl (by decide) (n := 4) rfl ?_
  refine G.return_ C d2_4 (by decide) (by decide) ?_
  exact ⟨rfl, rfl⟩
theorem d1_0 : decode prog_4_method_1_code 0 = .ok (.aload_n 0, 1) := by decide +kernel
theorem d1_1 : decode prog_4_method_1_code 1 = .ok (.invokespecial 1, 3) := by decide +kernel
theorem d1_4 : decode prog_4_method_1_code 4 = .ok (.aload_n 0, 1) := by decide +kernel
theorem d1_5 : decode prog_4_method_1_code 5 = .ok (.lload_n 1, 1) := by decide +kernel
theorem d1_6 : decode prog_4_method_1_code 6 = .ok (.putfield 7, 3) := by decide +kernel
theorem d1_9 : decode prog_4_method_1_code 9 = .ok (.aload_n 0, 1) := by decide +kernel
theorem d1_10 : decode prog_4_method_1_code 10 = .ok (.lload_n 3, 1) := by decide +kernel
theorem d1_11 : decode prog_4_method_1_code 11 = .ok (.putfield 13, 3) := by decide +kernel
theorem d1_14 : decode prog_4_method_1_code 14 = .ok (.return_, 1) := by decide +kernel
theorem pd0 : parseMethodDescriptor "()V" = some ⟨[], none⟩ := by decide +kernel
theorem pn1 : plainName "com/example/portcullis/portcullis/BenchCommand$Times" = true := by first | (simp [plainName, overriddenIn]; done) | decide +kernel
theorem ef2 (m : MethodId) (a : Addr) (md : Int64) (pp : Int64) : entryFrame m #[(.ref a), (.long md), (.long pp)] 5 = mkF m 0 #[.val (.ref a), .val (.long md), .second, .val (.long pp), .second] [] := by first | (simp [entryFrame, mkF, argsToLocals, Value.category]; done) | rfl
abbrev Q_tinit (Z : State) (h0 : Heap) (a : Addr) (md : Int64) (pp : Int64) : Option Value → Heap → Prop := fun v h' => v = none ∧ Keep h0 h' [a] ∧ Ob_T Z h' a md pp
abbrev R_tinit : Room := { frames := 2, cells := 0, slots := 0, locals := 24 }
set_option maxRecDepth 65536 in
set_option maxHeartbeats 40000000 in
theorem m_tinit (l : Launch) (Z : State) (a0 : Array Value) (hw : ∀ d ∈ tables_1, d.before a0 Z = true) (a : Addr) (md : Int64) (pp : Int64) (h0 : Heap) (n0 : Nat) (Z0 : n0 ≤ h0.size) (O_a : Ob_T Z h0 a 0 0) (g_a : n0 ≤ a) : Met l Z (⟨"com/example/portcullis/portcullis/BenchCommand$Times", "<init>", "(JJ)V"⟩ : MethodName) prog_4_method_1_code 5 none R_tinit #[(.ref a), (.long md), (.long pp)] h0 n0 (Q_tinit Z h0 a md pp) := by
  refine Met.of (plainFor_of_name pn1) (fun m => ef2 m a md pp) ?_
  intro p e s m args below meth c C
  refine G.aloadN C d1_0 rfl rfl (n := 1) rfl ?_
  refine G.callC C (argsL := []) (yc := (⟨"java/lang/Record", "<init>", "()V"⟩ : MethodName)) (a := a) rfl (wd hw 8 rfl) (wd hw 9 rfl) (wd hw 11 rfl) (wd hw 12 rfl) (by decide) (m_recinit l Z a0 hw a h0 n0 Z0) rfl (by decide) (W := 0) rfl (by decide) (c' := 0) (s' := 0) rfl rfl (by decide) (by decide) d1_1 (n := 4) rfl pd0 rfl rfl ?_
  rintro _ _ ⟨rfl, rfl⟩
  refine G.aloadN C d1_4 rfl rfl (n := 5) rfl ?_
  refine G.lloadN C d1_5 rfl (n := 6) rfl ?_
  refine G.putfield C (host := "") (Or.inl (wd hw 16 rfl)) Via.refl (O_a.2.1) (O_a.1) (Or.inr ⟨(wd hw 17 rfl), rfl, rfl⟩) (wd hw 3 rfl) (ty := .long) (by decide) rfl rfl g_a d1_6 (n := 9) rfl ?_
  intro h3 W4
  have O5 := Ob_T.set_median hw O_a W4
  have K6 := Keep.of_wr W4
  have Z7 : n0 ≤ h3.size := Nat.le_trans Z0 K6.1
  have K8 : Keep h0 h3 [a] := Keep.tr (Keep.refl h0 _) K6 (allS (Or.inl (List.mem_of_getElem? (i := 0) rfl)) all0)
  refine G.aloadN C d1_9 rfl rfl (n := 10) rfl ?_
  refine G.lloadN C d1_10 rfl (n := 11) rfl ?_
  refine G.putfield C (host := "") (Or.inl (wd hw 18 rfl)) Via.refl (O5.2.2) (O5.1) (Or.inr ⟨(wd hw 19 rfl), rfl, rfl⟩) (wd hw 3 rfl) (ty := .long) (by decide) rfl rfl g_a d1_11 (n := 14) rfl ?_
  intro h9 W10
  have O11 := Ob_T.set_p99 hw O5 W10
  have K12 := Keep.of_wr W10
  have Z13 : n0 ≤ h9.size := Nat.le_trans Z7 K12.1
  have K14 : Keep h0 h9 [a] := Keep.tr K8 K12 (allS (Or.inl (List.mem_of_getElem? (i := 0) rfl)) all0)
  refine G.return_ C d1_14 (by decide) (by decide) ?_
  exact ⟨rfl, K14, O11⟩
theorem d4_0 : decode prog_3_method_1_code 0 = .ok (.aload_n 0, 1) := by decide +kernel
theorem d4_1 : decode prog_3_method_1_code 1 = .ok (.invokespecial 3, 3) := by decide +kernel
theorem d4_4 : decode prog_3_method_1_code 4 = .ok (.aload_n 0, 1) := by decide +kernel
theorem d4_5 : decode prog_3_method_1_code 5 = .ok (.lload_n 1, 1) := by decide +kernel
theorem d4_6 : decode prog_3_method_1_code 6 = .ok (.putfield 9, 3) := by decide +kernel
theorem d4_9 : decode prog_3_method_1_code 9 = .ok (.aload_n 0, 1) := by decide +kernel
theorem d4_10 : decode prog_3_method_1_code 10 = .ok (.lload_n 3, 1) := by decide +kernel
theorem d4_11 : decode prog_3_method_1_code 11 = .ok (.putfield 15, 3) := by decide +kernel
theorem d4_14 : decode prog_3_method_1_code 14 = .ok (.aload_n 0, 1) := by decide +kernel
theorem d4_15 : decode prog_3_method_1_code 15 = .ok (.lload_n 1, 1) := by decide +kernel
theorem d4_16 : decode prog_3_method_1_code 16 = .ok (.putfield 18, 3) := by decide +kernel
theorem d4_19 : decode prog_3_method_1_code 19 = .ok (.aload_n 0, 1) := by decide +kernel
theorem d4_20 : decode prog_3_method_1_code 20 = .ok (.lload_n 1, 1) := by decide +kernel
theorem d4_21 : decode prog_3_method_1_code 21 = .ok (.putfield 21, 3) := by decide +kernel
theorem d4_24 : decode prog_3_method_1_code 24 = .ok (.return_, 1) := by decide +kernel
theorem pn2 : plainName "com/example/portcullis/portcullis/BenchCommand$Rounds" = true := by first | (simp [plainName, overriddenIn]; done) | decide +kernel
theorem ef3 (m : MethodId) (a : Addr) (st : Int64) (cm : Int64) : entryFrame m #[(.ref a), (.long st), (.long cm)] 5 = mkF m 0 #[.val (.ref a), .val (.long st), .second, .val (.long cm), .second] [] := by first | (simp [entryFrame, mkF, argsToLocals, Value.category]; done) | rfl
abbrev Q_rinit (Z : State) (h0 : Heap) (a : Addr) (st : Int64) (cm : Int64) : Option Value → Heap → Prop := fun v h' => v = none ∧ Keep h0 h' [a] ∧ Ob_Rd Z h' a st cm st st (0 : Int32) .null
abbrev R_rinit : Room := { frames := 1, cells := 0, slots := 0, locals := 12 }
set_option maxRecDepth 65536 in
set_option maxHeartbeats 40000000 in
theorem m_rinit (l : Launch) (Z : State) (a0 : Array Value) (hw : ∀ d ∈ tables_1, d.before a0 Z = true) (a : Addr) (st : Int64) (cm : Int64) (h0 : Heap) (n0 : Nat) (Z0 : n0 ≤ h0.size) (O_a : Ob_Rd Z h0 a (0 : Int64) (0 : Int64) (0 : Int64) (0 : Int64) (0 : Int32) .null) (g_a : n0 ≤ a) : Met l Z (⟨"com/example/portcullis/portcullis/BenchCommand$Rounds", "<init>", "(JJ)V"⟩ : MethodName) prog_3_method_1_code 5 none R_rinit #[(.ref a), (.long st), (.long cm)] h0 n0 (Q_rinit Z h0 a st cm) := by
  refine Met.of (plainFor_of_name pn2) (fun m => ef3 m a st cm) ?_
  intro p e s m args below meth c C
  refine G.aloadN C d4_0 rfl rfl (n := 1) rfl ?_
  refine G.objinit C (wd hw 26 rfl) (wd hw 14 rfl) (wd hw 15 rfl) d4_1 rfl (by decide) (W := 0) rfl (by decide) (n := 4) rfl ?_
  refine G.aloadN C d4_4 rfl rfl (n := 5) rfl ?_
  refine G.lloadN C d4_5 rfl (n := 6) rfl ?_
  refine G.putfield C (host := "") (Or.inl (wd hw 27 rfl)) Via.refl (O_a.2.1) (O_a.1) (Or.inr ⟨(wd hw 28 rfl), rfl, rfl⟩) (wd hw 21 rfl) (ty := .long) (by decide) rfl rfl g_a d4_6 (n := 9) rfl ?_
  intro h1 W2
  have O3 := Ob_Rd.set_start hw O_a W2
  have K4 := Keep.of_wr W2
  have Z5 : n0 ≤ h1.size := Nat.le_trans Z0 K4.1
  have K6 : Keep h0 h1 [a] := Keep.tr (Keep.refl h0 _) K4 (allS (Or.inl (List.mem_of_getElem? (i := 0) rfl)) all0)
  refine G.aloadN C d4_9 rfl rfl (n := 10) rfl ?_
  refine G.lloadN C d4_10 rfl (n := 11) rfl ?_
  refine G.putfield C (host := "") (Or.inl (wd hw 29 rfl)) Via.refl (O3.2.2.1) (O3.1) (Or.inl (wd hw 30 rfl)) (wd hw 21 rfl) (ty := .long) (by decide) rfl rfl g_a d4_11 (n := 14) rfl ?_
  intro h7 W8
  have O9 := Ob_Rd.set_compiledMillis hw O3 W8
  have K10 := Keep.of_wr W8
  have Z11 : n0 ≤ h7.size := Nat.le_trans Z5 K10.1
  have K12 : Keep h0 h7 [a] := Keep.tr K6 K10 (allS (Or.inl (List.mem_of_getElem? (i := 0) rfl)) all0)
  refine G.aloadN C d4_14 rfl rfl (n := 15) rfl ?_
  refine G.lloadN C d4_15 rfl (n := 16) rfl ?_
  refine G.putfield C (host := "") (Or.inl (wd hw 31 rfl)) Via.refl (O9.2.2.2.1) (O9.1) (Or.inl (wd hw 32 rfl)) (wd hw 21 rfl) (ty := .long) (by decide) rfl rfl g_a d4_16 (n := 19) rfl ?_
  intro h13 W14
  have O15 := Ob_Rd.set_settledSince hw O9 W14
  have K16 := Keep.of_wr W14
  have Z17 : n0 ≤ h13.size := Nat.le_trans Z11 K16.1
  have K18 : Keep h0 h13 [a] := Keep.tr K12 K16 (allS (Or.inl (List.mem_of_getElem? (i := 0) rfl)) all0)
  refine G.aloadN C d4_19 rfl rfl (n := 20) rfl ?_
  refine G.lloadN C d4_20 rfl (n := 21) rfl ?_
  refine G.putfield C (host := "") (Or.inl (wd hw 33 rfl)) Via.refl (O15.2.2.2.2.1) (O15.1) (Or.inl (wd hw 34 rfl)) (wd hw 21 rfl) (ty := .long) (by decide) rfl rfl g_a d4_21 (n := 24) rfl ?_
  intro h19 W20
  have O21 := Ob_Rd.set_end hw O15 W20
  have K22 := Keep.of_wr W20
  have Z23 : n0 ≤ h19.size := Nat.le_trans Z17 K22.1
  have K24 : Keep h0 h19 [a] := Keep.tr K18 K22 (allS (Or.inl (List.mem_of_getElem? (i := 0) rfl)) all0)
  refine G.return_ C d4_24 (by decide) (by decide) ?_
  exact ⟨rfl, K24, O21⟩
theorem d7_0 : decode prog_4_method_9_code 0 = .ok (.aload_n 0, 1) := by decide +kernel
theorem d7_1 : decode prog_4_method_9_code 1 = .ok (.getfield 7, 3) := by decide +kernel
theorem d7_4 : decode prog_4_method_9_code 4 = .ok (.lreturn, 1) := by decide +kernel
theorem ef4 (m : MethodId) (a : Addr) : entryFrame m #[(.ref a)] 1 = mkF m 0 #[.val (.ref a)] [] := by first | (simp [entryFrame, mkF, argsToLocals, Value.category]; done) | rfl
abbrev Q_median (Z : State) (h0 : Heap) (a : Addr) (md : Int64) (pp : Int64) : Option Value → Heap → Prop := fun v h' => v = some (.long md) ∧ h0 = h'
abbrev R_median : Room := { frames := 0, cells := 0, slots := 0, locals := 0 }
set_option maxRecDepth 65536 in
set_option maxHeartbeats 40000000 in
theorem m_median (l : Launch) (Z : State) (a0 : Array Value) (hw : ∀ d ∈ tables_1, d.before a0 Z = true) (a : Addr) (md : Int64) (pp : Int64) (h0 : Heap) (n0 : Nat) (Z0 : n0 ≤ h0.size) (O_a : Ob_T Z h0 a md pp) : Met l Z (⟨"com/example/portcullis/portcullis/BenchCommand$Times", "median", "()J"⟩ : MethodName) prog_4_method_9_code 1 (some .long) R_median #[(.ref a)] h0 n0 (Q_median Z h0 a md pp) := by
  refine Met.of (plainFor_of_name pn1) (fun m => ef4 m a) ?_
  intro p e s m args below meth c C
  refine G.aloadN C d7_0 rfl rfl (n := 1) rfl ?_
  refine G.getfield C (host := "") (Or.inl (wd hw 16 rfl)) Via.refl (O_a.2.1) d7_1 (n := 4) rfl ?_
  refine G.lreturn C d7_4 (by decide) (by decide) ?_
  exact ⟨rfl, rfl⟩
theorem d5_0 : decode prog_3_method_3_code 0 = .ok (.aload_n 0, 1) := by decide +kernel
theorem d5_1 : decode prog_3_method_3_code 1 = .ok (.getfield 21, 3) := by decide +kernel
theorem d5_4 : decode prog_3_method_3_code 4 = .ok (.aload_n 0, 1) := by decide +kernel
theorem d5_5 : decode prog_3_method_3_code 5 = .ok (.getfield 18, 3) := by decide +kernel
theorem d5_8 : decode prog_3_method_3_code 8 = .ok (.lsub, 1) := by decide +kernel
theorem d5_9 : decode prog_3_method_3_code 9 = .ok (.ldc2_w 40, 3) := by decide +kernel
theorem d5_12 : decode prog_3_method_3_code 12 = .ok (.lcmp, 1) := by decide +kernel
theorem d5_13 : decode prog_3_method_3_code 13 = .ok (.ifCond .ge 27, 3) := by decide +kernel
theorem d5_16 : decode prog_3_method_3_code 16 = .ok (.aload_n 0, 1) := by decide +kernel
theorem d5_17 : decode prog_3_method_3_code 17 = .ok (.getfield 24, 3) := by decide +kernel
theorem d5_20 : decode prog_3_method_3_code 20 = .ok (.iconst 2, 1) := by decide +kernel
theorem d5_21 : decode prog_3_method_3_code 21 = .ok (.if_icmp .lt 23, 3) := by decide +kernel
theorem d5_24 : decode prog_3_method_3_code 24 = .ok (.aload_n 0, 1) := by decide +kernel
theorem d5_25 : decode prog_3_method_3_code 25 = .ok (.getfield 21, 3) := by decide +kernel
theorem d5_28 : decode prog_3_method_3_code 28 = .ok (.aload_n 0, 1) := by decide +kernel
theorem d5_29 : decode prog_3_method_3_code 29 = .ok (.getfield 9, 3) := by decide +kernel
theorem d5_32 : decode prog_3_method_3_code 32 = .ok (.lsub, 1) := by decide +kernel
theorem d5_33 : decode prog_3_method_3_code 33 = .ok (.ldc2_w 42, 3) := by decide +kernel
theorem d5_36 : decode prog_3_method_3_code 36 = .ok (.lcmp, 1) := by decide +kernel
theorem d5_37 : decode prog_3_method_3_code 37 = .ok (.ifCond .lt 7, 3) := by decide +kernel
theorem d5_40 : decode prog_3_method_3_code 40 = .ok (.iconst 1, 1) := by decide +kernel
theorem d5_41 : decode prog_3_method_3_code 41 = .ok (.goto 4, 3) := by decide +kernel
theorem d5_44 : decode prog_3_method_3_code 44 = .ok (.iconst 0, 1) := by decide +kernel
theorem d5_45 : decode prog_3_method_3_code 45 = .ok (.ireturn, 1) := by decide +kernel
theorem ef5 (m : MethodId) (a : Addr) : entryFrame m #[(.ref a)] 1 = mkF m 0 #[.val (.ref a)] [] := by first | (simp [entryFrame, mkF, argsToLocals, Value.category]; done) | rfl
abbrev Q_over (Z : State) (h0 : Heap) (a : Addr) (st : Int64) (cm : Int64) (ss : Int64) (en : Int64) (ct : Int32) (kp : Value) : Option Value → Heap → Prop := fun v h' => v = some (.int (b2i (ovr en ss st ct))) ∧ h0 = h'
abbrev R_over : Room := { frames := 0, cells := 0, slots := 0, locals := 0 }
set_option maxRecDepth 65536 in
set_option maxHeartbeats 40000000 in
theorem m_over (l : Launch) (Z : State) (a0 : Array Value) (hw : ∀ d ∈ tables_1, d.before a0 Z = true) (a : Addr) (st : Int64) (cm : Int64) (ss : Int64) (en : Int64) (ct : Int32) (kp : Value) (h0 : Heap) (n0 : Nat) (Z0 : n0 ≤ h0.size) (O_a : Ob_Rd Z h0 a st cm ss en ct kp) : Met l Z (⟨"com/example/portcullis/portcullis/BenchCommand$Rounds", "over", "()Z"⟩ : MethodName) prog_3_method_3_code 1 (some .boolean) R_over #[(.ref a)] h0 n0 (Q_over Z h0 a st cm ss en ct kp) := by
  refine Met.of (plainFor_of_name pn2) (fun m => ef5 m a) ?_
  intro p e s m args below meth c C
  refine G.aloadN C d5_0 rfl rfl (n := 1) rfl ?_
  refine G.getfield C (host := "") (Or.inl (wd hw 33 rfl)) Via.refl (O_a.2.2.2.2.1) d5_1 (n := 4) rfl ?_
  refine G.aloadN C d5_4 rfl rfl (n := 5) rfl ?_
  refine G.getfield C (host := "") (Or.inl (wd hw 31 rfl)) Via.refl (O_a.2.2.2.1) d5_5 (n := 8) rfl ?_
  refine G.lsub C d5_8 (n := 9) rfl ?_
  refine G.ldc2 C (v := (2000000000 : Int64)) (wd hw 40 rfl) d5_9 (n := 12) rfl ?_
  refine G.lcmp_ge C (A := (en - ss).toInt) (B := 2000000000) rfl (by decide) d5_12 d5_13 (by decide) (by decide) (n := 16) (n' := 40) rfl (fun c13_1 => ?_) (fun c13_1 => ?_)
  · refine G.iconst C (v := (1 : Int32)) d5_40 (by decide) (n := 41) rfl ?_
    refine G.goto C d5_41 (by decide) (n := 45) (by decide) ?_
    refine G.ireturn C d5_45 (rfl) (by simp) (by decide) (by decide) ?_
    exact ⟨by rw [show ovr en ss st ct = true from decide_eq_true (by omega)]; rfl, rfl⟩
  · refine G.aloadN C d5_16 rfl rfl (n := 17) rfl ?_
    refine G.getfield C (host := "") (Or.inl (wd hw 41 rfl)) Via.refl (O_a.2.2.2.2.2.1) d5_17 (n := 20) rfl ?_
    refine G.iconst C (v := (2 : Int32)) d5_20 (by decide) (n := 21) rfl ?_
    refine G.icmp_lt C (A := ct.toInt) (B := 2) rfl (by decide) d5_21 (by decide) (by decide) (n := 24) (n' := 44) rfl (fun c21_2 => ?_) (fun c21_2 => ?_)
    · refine G.iconst C (v := (0 : Int32)) d5_44 (by decide) (n := 45) rfl ?_
      refine G.ireturn C d5_45 (rfl) (by simp) (by decide) (by decide) ?_
      exact ⟨by rw [show ovr en ss st ct = false from decide_eq_false (by omega)]; rfl, rfl⟩
    · refine G.aloadN C d5_24 rfl rfl (n := 25) rfl ?_
      refine G.getfield C (host := "") (Or.inl (wd hw 33 rfl)) Via.refl (O_a.2.2.2.2.1) d5_25 (n := 28) rfl ?_
      refine G.aloadN C d5_28 rfl rfl (n := 29) rfl ?_
      refine G.getfield C (host := "") (Or.inl (wd hw 27 rfl)) Via.refl (O_a.2.1) d5_29 (n := 32) rfl ?_
      refine G.lsub C d5_32 (n := 33) rfl ?_
      refine G.ldc2 C (v := (20000000000 : Int64)) (wd hw 58 rfl) d5_33 (n := 36) rfl ?_
      refine G.lcmp_lt C (A := (en - st).toInt) (B := 20000000000) rfl (by decide) d5_36 d5_37 (by decide) (by decide) (n := 40) (n' := 44) rfl (fun c37_3 => ?_) (fun c37_3 => ?_)
      · refine G.iconst C (v := (0 : Int32)) d5_44 (by decide) (n := 45) rfl ?_
        refine G.ireturn C d5_45 (rfl) (by simp) (by decide) (by decide) ?_
        exact ⟨by rw [show ovr en ss st ct = false from decide_eq_false (by omega)]; rfl, rfl⟩
      · refine G.iconst C (v := (1 : Int32)) d5_40 (by decide) (n := 41) rfl ?_
        refine G.goto C d5_41 (by decide) (n := 45) (by decide) ?_
        refine G.ireturn C d5_45 (rfl) (by simp) (by decide) (by decide) ?_
        exact ⟨by rw [show ovr en ss st ct = true from decide_eq_true (by omega)]; rfl, rfl⟩
theorem d6_0 : decode prog_3_method_2_code 0 = .ok (.aload_n 0, 1) := by decide +kernel
theorem d6_1 : decode prog_3_method_2_code 1 = .ok (.lload_n 2, 1) := by decide +kernel
theorem d6_2 : decode prog_3_method_2_code 2 = .ok (.putfield 21, 3) := by decide +kernel
theorem d6_5 : decode prog_3_method_2_code 5 = .ok (.aload_n 0, 1) := by decide +kernel
theorem d6_6 : decode prog_3_method_2_code 6 = .ok (.dup, 1) := by decide +kernel
theorem d6_7 : decode prog_3_method_2_code 7 = .ok (.getfield 24, 3) := by decide +kernel
theorem d6_10 : decode prog_3_method_2_code 10 = .ok (.iconst 1, 1) := by decide +kernel
theorem d6_11 : decode prog_3_method_2_code 11 = .ok (.iadd, 1) := by decide +kernel
theorem d6_12 : decode prog_3_method_2_code 12 = .ok (.putfield 24, 3) := by decide +kernel
theorem d6_15 : decode prog_3_method_2_code 15 = .ok (.aload_n 0, 1) := by decide +kernel
theorem d6_16 : decode prog_3_method_2_code 16 = .ok (.getfield 28, 3) := by decide +kernel
theorem d6_19 : decode prog_3_method_2_code 19 = .ok (.ifnull 18, 3) := by decide +kernel
theorem d6_22 : decode prog_3_method_2_code 22 = .ok (.aload_n 1, 1) := by decide +kernel
theorem d6_23 : decode prog_3_method_2_code 23 = .ok (.invokevirtual 32, 3) := by decide +kernel
theorem d6_26 : decode prog_3_method_2_code 26 = .ok (.aload_n 0, 1) := by decide +kernel
theorem d6_27 : decode prog_3_method_2_code 27 = .ok (.getfield 28, 3) := by decide +kernel
theorem d6_30 : decode prog_3_method_2_code 30 = .ok (.invokevirtual 32, 3) := by decide +kernel
theorem d6_33 : decode prog_3_method_2_code 33 = .ok (.lcmp, 1) := by decide +kernel
theorem d6_34 : decode prog_3_method_2_code 34 = .ok (.ifCond .ge 8, 3) := by decide +kernel
theorem d6_37 : decode prog_3_method_2_code 37 = .ok (.aload_n 0, 1) := by decide +kernel
theorem d6_38 : decode prog_3_method_2_code 38 = .ok (.aload_n 1, 1) := by decide +kernel
theorem d6_39 : decode prog_3_method_2_code 39 = .ok (.putfield 28, 3) := by decide +kernel
theorem d6_42 : decode prog_3_method_2_code 42 = .ok (.lload 4, 2) := by decide +kernel
theorem d6_44 : decode prog_3_method_2_code 44 = .ok (.aload_n 0, 1) := by decide +kernel
theorem d6_45 : decode prog_3_method_2_code 45 = .ok (.getfield 15, 3) := by decide +kernel
theorem d6_48 : decode prog_3_method_2_code 48 = .ok (.lsub, 1) := by decide +kernel
theorem d6_49 : decode prog_3_method_2_code 49 = .ok (.ldc2_w 38, 3) := by decide +kernel
theorem d6_52 : decode prog_3_method_2_code 52 = .ok (.lcmp, 1) := by decide +kernel
theorem d6_53 : decode prog_3_method_2_code 53 = .ok (.ifCond .le 8, 3) := by decide +kernel
theorem d6_56 : decode prog_3_method_2_code 56 = .ok (.aload_n 0, 1) := by decide +kernel
theorem d6_57 : decode prog_3_method_2_code 57 = .ok (.lload_n 2, 1) := by decide +kernel
theorem d6_58 : decode prog_3_method_2_code 58 = .ok (.putfield 18, 3) := by decide +kernel
theorem d6_61 : decode prog_3_method_2_code 61 = .ok (.aload_n 0, 1) := by decide +kernel
theorem d6_62 : decode prog_3_method_2_code 62 = .ok (.lload 4, 2) := by decide +kernel
theorem d6_64 : decode prog_3_method_2_code 64 = .ok (.putfield 15, 3) := by decide +kernel
theorem d6_67 : decode prog_3_method_2_code 67 = .ok (.return_, 1) := by decide +kernel
theorem ef6 (m : MethodId) (a : Addr) (t : Addr) (e2 : Int64) (cc : Int64) : entryFrame m #[(.ref a), (.ref t), (.long e2), (.long cc)] 6 = mkF m 0 #[.val (.ref a), .val (.ref t), .val (.long e2), .second, .val (.long cc), .second] [] := by first | (simp [entryFrame, mkF, argsToLocals, Value.category]; done) | rfl
abbrev Q_add1 (Z : State) (h0 : Heap) (a : Addr) (t : Addr) (e2 : Int64) (cc : Int64) (st : Int64) (cm : Int64) (ss : Int64) (en : Int64) (ct : Int32) (mt : Int64) (pt : Int64) : Option Value → Heap → Prop := fun v h' => v = none ∧ Keep h0 h' [a] ∧ Ob_Rd Z h' a st cc (stl cc cm e2 ss) e2 (ct + 1) (.ref t)
abbrev R_add1 : Room := { frames := 0, cells := 0, slots := 0, locals := 0 }
set_option maxRecDepth 65536 in
set_option maxHeartbeats 40000000 in
theorem m_add1 (l : Launch) (Z : State) (a0 : Array Value) (hw : ∀ d ∈ tables_1, d.before a0 Z = true) (a : Addr) (t : Addr) (e2 : Int64) (cc : Int64) (st : Int64) (cm : Int64) (ss : Int64) (en : Int64) (ct : Int32) (mt : Int64) (pt : Int64) (h0 : Heap) (n0 : Nat) (Z0 : n0 ≤ h0.size) (O_a : Ob_Rd Z h0 a st cm ss en ct .null) (O_t : Ob_T Z h0 t mt pt) (ne_ta : t ≠ a) (g_a : n0 ≤ a) : Met l Z (⟨"com/example/portcullis/portcullis/BenchCommand$Rounds", "add", "(Lcom/example/portcullis/portcullis/BenchCommand$Times;JJ)V"⟩ : MethodName) prog_3_method_2_code 6 none R_add1 #[(.ref a), (.ref t), (.long e2), (.long cc)] h0 n0 (Q_add1 Z h0 a t e2 cc st cm ss en ct mt pt) := by
  refine Met.of (plainFor_of_name pn2) (fun m => ef6 m a t e2 cc) ?_
  intro p e s m args below meth c C
  refine G.aloadN C d6_0 rfl rfl (n := 1) rfl ?_
  refine G.lloadN C d6_1 rfl (n := 2) rfl ?_
  refine G.putfield C (host := "") (Or.inl (wd hw 33 rfl)) Via.refl (O_a.2.2.2.2.1) (O_a.1) (Or.inl (wd hw 34 rfl)) (wd hw 21 rfl) (ty := .long) (by decide) rfl rfl g_a d6_2 (n := 5) rfl ?_
  intro h1 W2
  have O3 := Ob_Rd.set_end hw O_a W2
  have K4 := Keep.of_wr W2
  have O5 := O_t.keep K4 (ninS ne_ta nin0)
  have Z6 : n0 ≤ h1.size := Nat.le_trans Z0 K4.1
  have K7 : Keep h0 h1 [a] := Keep.tr (Keep.refl h0 _) K4 (allS (Or.inl (List.mem_of_getElem? (i := 0) rfl)) all0)
  refine G.aloadN C d6_5 rfl rfl (n := 6) rfl ?_
  refine G.dup C d6_6 rfl (n := 7) rfl ?_
  refine G.getfield C (host := "") (Or.inl (wd hw 41 rfl)) Via.refl (O3.2.2.2.2.2.1) d6_7 (n := 10) rfl ?_
  refine G.iconst C (v := (1 : Int32)) d6_10 (by decide) (n := 11) rfl ?_
  refine G.iadd C d6_11 (n := 12) rfl ?_
  refine G.putfield C (host := "") (Or.inl (wd hw 41 rfl)) Via.refl (O3.2.2.2.2.2.1) (O3.1) (Or.inl (wd hw 42 rfl)) (wd hw 21 rfl) (ty := .int) (by decide) rfl rfl g_a d6_12 (n := 15) rfl ?_
  intro h8 W9
  have O10 := Ob_Rd.set_count hw O3 W9
  have K11 := Keep.of_wr W9
  have O12 := O5.keep K11 (ninS ne_ta nin0)
  have Z13 : n0 ≤ h8.size := Nat.le_trans Z6 K11.1
  have K14 : Keep h0 h8 [a] := Keep.tr K7 K11 (allS (Or.inl (List.mem_of_getElem? (i := 0) rfl)) all0)
  refine G.aloadN C d6_15 rfl rfl (n := 16) rfl ?_
  refine G.getfield C (host := "") (Or.inl (wd hw 48 rfl)) Via.refl (O10.2.2.2.2.2.2) d6_16 (n := 19) rfl ?_
  refine G.ifnullY C d6_19 (by decide) (n := 37) (by decide) ?_
  refine G.aloadN C d6_37 rfl rfl (n := 38) rfl ?_
  refine G.aloadN C d6_38 rfl rfl (n := 39) rfl ?_
  refine G.putfield C (host := "") (Or.inl (wd hw 48 rfl)) Via.refl (O10.2.2.2.2.2.2) (O10.1) (Or.inl (wd hw 49 rfl)) (wd hw 21 rfl) (ty := (.object "com/example/portcullis/portcullis/BenchCommand$Times")) (by decide) rfl rfl g_a d6_39 (n := 42) rfl ?_
  intro h15 W16
  have O17 := Ob_Rd.set_kept hw O10 (v := (.ref t)) W16
  have K18 := Keep.of_wr W16
  have O19 := O12.keep K18 (ninS ne_ta nin0)
  have Z20 : n0 ≤ h15.size := Nat.le_trans Z13 K18.1
  have K21 : Keep h0 h15 [a] := Keep.tr K14 K18 (allS (Or.inl (List.mem_of_getElem? (i := 0) rfl)) all0)
  refine G.lload C d6_42 rfl (n := 44) rfl ?_
  refine G.aloadN C d6_44 rfl rfl (n := 45) rfl ?_
  refine G.getfield C (host := "") (Or.inl (wd hw 29 rfl)) Via.refl (O17.2.2.1) d6_45 (n := 48) rfl ?_
  refine G.lsub C d6_48 (n := 49) rfl ?_
  refine G.ldc2 C (v := (10 : Int64)) (wd hw 50 rfl) d6_49 (n := 52) rfl ?_
  refine G.lcmp_le C (A := (cc - cm).toInt) (B := 10) rfl (by decide) d6_52 d6_53 (by decide) (by decide) (n := 56) (n' := 61) rfl (fun c53_22 => ?_) (fun c53_22 => ?_)
  · refine G.aloadN C d6_61 rfl rfl (n := 62) rfl ?_
    refine G.lload C d6_62 rfl (n := 64) rfl ?_
    refine G.putfield C (host := "") (Or.inl (wd hw 29 rfl)) Via.refl (O17.2.2.1) (O17.1) (Or.inl (wd hw 30 rfl)) (wd hw 21 rfl) (ty := .long) (by decide) rfl rfl g_a d6_64 (n := 67) rfl ?_
    intro h23 W24
    have O25 := Ob_Rd.set_compiledMillis hw O17 W24
    have K26 := Keep.of_wr W24
    have O27 := O19.keep K26 (ninS ne_ta nin0)
    have Z28 : n0 ≤ h23.size := Nat.le_trans Z20 K26.1
    have K29 : Keep h0 h23 [a] := Keep.tr K21 K26 (allS (Or.inl (List.mem_of_getElem? (i := 0) rfl)) all0)
    refine G.return_ C d6_67 (by decide) (by decide) ?_
    show _ ∧ _
    refine ⟨rfl, K29, ?_⟩
    rw [show stl cc cm e2 ss = ss from if_neg (by omega)]
    exact O25
  · refine G.aloadN C d6_56 rfl rfl (n := 57) rfl ?_
    refine G.lloadN C d6_57 rfl (n := 58) rfl ?_
    refine G.putfield C (host := "") (Or.inl (wd hw 31 rfl)) Via.refl (O17.2.2.2.1) (O17.1) (Or.inl (wd hw 32 rfl)) (wd hw 21 rfl) (ty := .long) (by decide) rfl rfl g_a d6_58 (n := 61) rfl ?_
    intro h30 W31
    have O32 := Ob_Rd.set_settledSince hw O17 W31
    have K33 := Keep.of_wr W31
    have O34 := O19.keep K33 (ninS ne_ta nin0)
    have Z35 : n0 ≤ h30.size := Nat.le_trans Z20 K33.1
    have K36 : Keep h0 h30 [a] := Keep.tr K21 K33 (allS (Or.inl (List.mem_of_getElem? (i := 0) rfl)) all0)
    refine G.aloadN C d6_61 rfl rfl (n := 62) rfl ?_
    refine G.lload C d6_62 rfl (n := 64) rfl ?_
    refine G.putfield C (host := "") (Or.inl (wd hw 29 rfl)) Via.refl (O32.2.2.1) (O32.1) (Or.inl (wd hw 30 rfl)) (wd hw 21 rfl) (ty := .long) (by decide) rfl rfl g_a d6_64 (n := 67) rfl ?_
    intro h37 W38
    have O39 := Ob_Rd.set_compiledMillis hw O32 W38
    have K40 := Keep.of_wr W38
    have O41 := O34.keep K40 (ninS ne_ta nin0)
    have Z42 : n0 ≤ h37.size := Nat.le_trans Z35 K40.1
    have K43 : Keep h0 h37 [a] := Keep.tr K36 K40 (allS (Or.inl (List.mem_of_getElem? (i := 0) rfl)) all0)
    refine G.return_ C d6_67 (by decide) (by decide) ?_
    show _ ∧ _
    refine ⟨rfl, K43, ?_⟩
    rw [show stl cc cm e2 ss = e2 from if_pos (by omega)]
    exact O39
theorem pd1 : parseMethodDescriptor "()J" = some ⟨[], some .long⟩ := by decide +kernel
theorem ef7 (m : MethodId) (a : Addr) (t : Addr) (e2 : Int64) (cc : Int64) : entryFrame m #[(.ref a), (.ref t), (.long e2), (.long cc)] 6 = mkF m 0 #[.val (.ref a), .val (.ref t), .val (.long e2), .second, .val (.long cc), .second] [] := by first | (simp [entryFrame, mkF, argsToLocals, Value.category]; done) | rfl
abbrev Q_add2 (Z : State) (h0 : Heap) (a : Addr) (t : Addr) (e2 : Int64) (cc : Int64) (st : Int64) (cm : Int64) (ss : Int64) (en : Int64) (ct : Int32) (mt : Int64) (pt : Int64) (k : Addr) (mk : Int64) (pk : Int64) : Option Value → Heap → Prop := fun v h' => v = none ∧ Keep h0 h' [a] ∧ Ob_Rd Z h' a st cc (stl cc cm e2 ss) e2 (ct + 1) (kpt mt mk (.ref t) (.ref k))
abbrev R_add2 : Room := { frames := 1, cells := 0, slots := 0, locals := 14 }
set_option maxRecDepth 65536 in
set_option maxHeartbeats 40000000 in
theorem m_add2 (l : Launch) (Z : State) (a0 : Array Value) (hw : ∀ d ∈ tables_1, d.before a0 Z = true) (a : Addr) (t : Addr) (e2 : Int64) (cc : Int64) (st : Int64) (cm : Int64) (ss : Int64) (en : Int64) (ct : Int32) (mt : Int64) (pt : Int64) (k : Addr) (mk : Int64) (pk : Int64) (h0 : Heap) (n0 : Nat) (Z0 : n0 ≤ h0.size) (O_a : Ob_Rd Z h0 a st cm ss en ct (.ref k)) (O_t : Ob_T Z h0 t mt pt) (ne_ta : t ≠ a) (g_a : n0 ≤ a) (O_k : Ob_T Z h0 k mk pk) (ne_ka : k ≠ a) : Met l Z (⟨"com/example/portcullis/portcullis/BenchCommand$Rounds", "add", "(Lcom/example/portcullis/portcullis/BenchCommand$Times;JJ)V"⟩ : MethodName) prog_3_method_2_code 6 none R_add2 #[(.ref a), (.ref t), (.long e2), (.long cc)] h0 n0 (Q_add2 Z h0 a t e2 cc st cm ss en ct mt pt k mk pk) := by
  refine Met.of (plainFor_of_name pn2) (fun m => ef7 m a t e2 cc) ?_
  intro p e s m args below meth c C
  refine G.aloadN C d6_0 rfl rfl (n := 1) rfl ?_
  refine G.lloadN C d6_1 rfl (n := 2) rfl ?_
  refine G.putfield C (host := "") (Or.inl (wd hw 33 rfl)) Via.refl (O_a.2.2.2.2.1) (O_a.1) (Or.inl (wd hw 34 rfl)) (wd hw 21 rfl) (ty := .long) (by decide) rfl rfl g_a d6_2 (n := 5) rfl ?_
  intro h1 W2
  have O3 := Ob_Rd.set_end hw O_a W2
  have K4 := Keep.of_wr W2
  have O5 := O_t.keep K4 (ninS ne_ta nin0)
  have O6 := O_k.keep K4 (ninS ne_ka nin0)
  have Z7 : n0 ≤ h1.size := Nat.le_trans Z0 K4.1
  have K8 : Keep h0 h1 [a] := Keep.tr (Keep.refl h0 _) K4 (allS (Or.inl (List.mem_of_getElem? (i := 0) rfl)) all0)
  refine G.aloadN C d6_5 rfl rfl (n := 6) rfl ?_
  refine G.dup C d6_6 rfl (n := 7) rfl ?_
  refine G.getfield C (host := "") (Or.inl (wd hw 41 rfl)) Via.refl (O3.2.2.2.2.2.1) d6_7 (n := 10) rfl ?_
  refine G.iconst C (v := (1 : Int32)) d6_10 (by decide) (n := 11) rfl ?_
  refine G.iadd C d6_11 (n := 12) rfl ?_
  refine G.putfield C (host := "") (Or.inl (wd hw 41 rfl)) Via.refl (O3.2.2.2.2.2.1) (O3.1) (Or.inl (wd hw 42 rfl)) (wd hw 21 rfl) (ty := .int) (by decide) rfl rfl g_a d6_12 (n := 15) rfl ?_
  intro h9 W10
  have O11 := Ob_Rd.set_count hw O3 W10
  have K12 := Keep.of_wr W10
  have O13 := O5.keep K12 (ninS ne_ta nin0)
  have O14 := O6.keep K12 (ninS ne_ka nin0)
  have Z15 : n0 ≤ h9.size := Nat.le_trans Z7 K12.1
  have K16 : Keep h0 h9 [a] := Keep.tr K8 K12 (allS (Or.inl (List.mem_of_getElem? (i := 0) rfl)) all0)
  refine G.aloadN C d6_15 rfl rfl (n := 16) rfl ?_
  refine G.getfield C (host := "") (Or.inl (wd hw 48 rfl)) Via.refl (O11.2.2.2.2.2.2) d6_16 (n := 19) rfl ?_
  refine G.ifnullN C d6_19 (n := 22) rfl ?_
  refine G.aloadN C d6_22 rfl rfl (n := 23) rfl ?_
  refine G.callV C (argsL := []) (yr := (⟨"com/example/portcullis/portcullis/BenchCommand$Times", "median", "()J"⟩ : MethodName)) (yc := (⟨"com/example/portcullis/portcullis/BenchCommand$Times", "median", "()J"⟩ : MethodName)) (a := t) (O13.1) (wd hw 51 rfl) (wd hw 52 rfl) (nfS (wd hw 54 rfl) rfl) (wd hw 54 rfl) (wd hw 53 rfl) (wd hw 4 rfl) (wd hw 55 rfl) (by decide) (m_median l Z a0 hw t mt pt h9 n0 Z15 O13) rfl (by decide) (W := 0) rfl (by decide) (c' := 0) (s' := 0) rfl rfl (by decide) (by decide) d6_23 (n := 26) rfl pd1 rfl rfl ?_
  rintro _ _ ⟨rfl, rfl⟩
  refine G.aloadN C d6_26 rfl rfl (n := 27) rfl ?_
  refine G.getfield C (host := "") (Or.inl (wd hw 48 rfl)) Via.refl (O11.2.2.2.2.2.2) d6_27 (n := 30) rfl ?_
  refine G.callV C (argsL := []) (yr := (⟨"com/example/portcullis/portcullis/BenchCommand$Times", "median", "()J"⟩ : MethodName)) (yc := (⟨"com/example/portcullis/portcullis/BenchCommand$Times", "median", "()J"⟩ : MethodName)) (a := k) (O14.1) (wd hw 51 rfl) (wd hw 52 rfl) (nfS (wd hw 54 rfl) rfl) (wd hw 54 rfl) (wd hw 53 rfl) (wd hw 4 rfl) (wd hw 55 rfl) (by decide) (m_median l Z a0 hw k mk pk h9 n0 Z15 O14) rfl (by decide) (W := 2) rfl (by decide) (c' := 0) (s' := 0) rfl rfl (by decide) (by decide) d6_30 (n := 33) rfl pd1 rfl rfl ?_
  rintro _ _ ⟨rfl, rfl⟩
  refine G.lcmp_ge C (A := mt.toInt) (B := mk.toInt) rfl rfl d6_33 d6_34 (by decide) (by decide) (n := 37) (n' := 42) rfl (fun c34_21 => ?_) (fun c34_21 => ?_)
  · refine G.lload C d6_42 rfl (n := 44) rfl ?_
    refine G.aloadN C d6_44 rfl rfl (n := 45) rfl ?_
    refine G.getfield C (host := "") (Or.inl (wd hw 29 rfl)) Via.refl (O11.2.2.1) d6_45 (n := 48) rfl ?_
    refine G.lsub C d6_48 (n := 49) rfl ?_
    refine G.ldc2 C (v := (10 : Int64)) (wd hw 50 rfl) d6_49 (n := 52) rfl ?_
    refine G.lcmp_le C (A := (cc - cm).toInt) (B := 10) rfl (by decide) d6_52 d6_53 (by decide) (by decide) (n := 56) (n' := 61) rfl (fun c53_22 => ?_) (fun c53_22 => ?_)
    · refine G.aloadN C d6_61 rfl rfl (n := 62) rfl ?_
      refine G.lload C d6_62 rfl (n := 64) rfl ?_
      refine G.putfield C (host := "") (Or.inl (wd hw 29 rfl)) Via.refl (O11.2.2.1) (O11.1) (Or.inl (wd hw 30 rfl)) (wd hw 21 rfl) (ty := .long) (by decide) rfl rfl g_a d6_64 (n := 67) rfl ?_
      intro h23 W24
      have O25 := Ob_Rd.set_compiledMillis hw O11 W24
      have K26 := Keep.of_wr W24
      have O27 := O13.keep K26 (ninS ne_ta nin0)
      have O28 := O14.keep K26 (ninS ne_ka nin0)
      have Z29 : n0 ≤ h23.size := Nat.le_trans Z15 K26.1
      have K30 : Keep h0 h23 [a] := Keep.tr K16 K26 (allS (Or.inl (List.mem_of_getElem? (i := 0) rfl)) all0)
      refine G.return_ C d6_67 (by decide) (by decide) ?_
      show _ ∧ _
      refine ⟨rfl, K30, ?_⟩
      rw [show stl cc cm e2 ss = ss from if_neg (by omega)]
      rw [show kpt mt mk (.ref t) (.ref k) = .ref k from if_neg (by omega)]
      exact O25
    · refine G.aloadN C d6_56 rfl rfl (n := 57) rfl ?_
      refine G.lloadN C d6_57 rfl (n := 58) rfl ?_
      refine G.putfield C (host := "") (Or.inl (wd hw 31 rfl)) Via.refl (O11.2.2.2.1) (O11.1) (Or.inl (wd hw 32 rfl)) (wd hw 21 rfl) (ty := .long) (by decide) rfl rfl g_a d6_58 (n := 61) rfl ?_
      intro h31 W32
      have O33 := Ob_Rd.set_settledSince hw O11 W32
      have K34 := Keep.of_wr W32
      have O35 := O13.keep K34 (ninS ne_ta nin0)
      have O36 := O14.keep K34 (ninS ne_ka nin0)
      have Z37 : n0 ≤ h31.size := Nat.le_trans Z15 K34.1
      have K38 : Keep h0 h31 [a] := Keep.tr K16 K34 (allS (Or.inl (List.mem_of_getElem? (i := 0) rfl)) all0)
      refine G.aloadN C d6_61 rfl rfl (n := 62) rfl ?_
      refine G.lload C d6_62 rfl (n := 64) rfl ?_
      refine G.putfield C (host := "") (Or.inl (wd hw 29 rfl)) Via.refl (O33.2.2.1) (O33.1) (Or.inl (wd hw 30 rfl)) (wd hw 21 rfl) (ty := .long) (by decide) rfl rfl g_a d6_64 (n := 67) rfl ?_
      intro h39 W40
      have O41 := Ob_Rd.set_compiledMillis hw O33 W40
      have K42 := Keep.of_wr W40
      have O43 := O35.keep K42 (ninS ne_ta nin0)
      have O44 := O36.keep K42 (ninS ne_ka nin0)
      have Z45 : n0 ≤ h39.size := Nat.le_trans Z37 K42.1
      have K46 : Keep h0 h39 [a] := Keep.tr K38 K42 (allS (Or.inl (List.mem_of_getElem? (i := 0) rfl)) all0)
      refine G.return_ C d6_67 (by decide) (by decide) ?_
      show _ ∧ _
      refine ⟨rfl, K46, ?_⟩
      rw [show stl cc cm e2 ss = e2 from if_pos (by omega)]
      rw [show kpt mt mk (.ref t) (.ref k) = .ref k from if_neg (by omega)]
      exact O41
  · refine G.aloadN C d6_37 rfl rfl (n := 38) rfl ?_
    refine G.aloadN C d6_38 rfl rfl (n := 39) rfl ?_
    refine G.putfield C (host := "") (Or.inl (wd hw 48 rfl)) Via.refl (O11.2.2.2.2.2.2) (O11.1) (Or.inl (wd hw 49 rfl)) (wd hw 21 rfl) (ty := (.object "com/example/portcullis/portcullis/BenchCommand$Times")) (by decide) rfl rfl g_a d6_39 (n := 42) rfl ?_
    intro h47 W48
    have O49 := Ob_Rd.set_kept hw O11 (v := (.ref t)) W48
    have K50 := Keep.of_wr W48
    have O51 := O13.keep K50 (ninS ne_ta nin0)
    have O52 := O14.keep K50 (ninS ne_ka nin0)
    have Z53 : n0 ≤ h47.size := Nat.le_trans Z15 K50.1
    have K54 : Keep h0 h47 [a] := Keep.tr K16 K50 (allS (Or.inl (List.mem_of_getElem? (i := 0) rfl)) all0)
    refine G.lload C d6_42 rfl (n := 44) rfl ?_
    refine G.aloadN C d6_44 rfl rfl (n := 45) rfl ?_
    refine G.getfield C (host := "") (Or.inl (wd hw 29 rfl)) Via.refl (O49.2.2.1) d6_45 (n := 48) rfl ?_
    refine G.lsub C d6_48 (n := 49) rfl ?_
    refine G.ldc2 C (v := (10 : Int64)) (wd hw 50 rfl) d6_49 (n := 52) rfl ?_
    refine G.lcmp_le C (A := (cc - cm).toInt) (B := 10) rfl (by decide) d6_52 d6_53 (by decide) (by decide) (n := 56) (n' := 61) rfl (fun c53_55 => ?_) (fun c53_55 => ?_)
    · refine G.aloadN C d6_61 rfl rfl (n := 62) rfl ?_
      refine G.lload C d6_62 rfl (n := 64) rfl ?_
      refine G.putfield C (host := "") (Or.inl (wd hw 29 rfl)) Via.refl (O49.2.2.1) (O49.1) (Or.inl (wd hw 30 rfl)) (wd hw 21 rfl) (ty := .long) (by decide) rfl rfl g_a d6_64 (n := 67) rfl ?_
      intro h56 W57
      have O58 := Ob_Rd.set_compiledMillis hw O49 W57
      have K59 := Keep.of_wr W57
      have O60 := O51.keep K59 (ninS ne_ta nin0)
      have O61 := O52.keep K59 (ninS ne_ka nin0)
      have Z62 : n0 ≤ h56.size := Nat.le_trans Z53 K59.1
      have K63 : Keep h0 h56 [a] := Keep.tr K54 K59 (allS (Or.inl (List.mem_of_getElem? (i := 0) rfl)) all0)
      refine G.return_ C d6_67 (by decide) (by decide) ?_
      show _ ∧ _
      refine ⟨rfl, K63, ?_⟩
      rw [show stl cc cm e2 ss = ss from if_neg (by omega)]
      rw [show kpt mt mk (.ref t) (.ref k) = .ref t from if_pos (by omega)]
      exact O58
    · refine G.aloadN C d6_56 rfl rfl (n := 57) rfl ?_
      refine G.lloadN C d6_57 rfl (n := 58) rfl ?_
      refine G.putfield C (host := "") (Or.inl (wd hw 31 rfl)) Via.refl (O49.2.2.2.1) (O49.1) (Or.inl (wd hw 32 rfl)) (wd hw 21 rfl) (ty := .long) (by decide) rfl rfl g_a d6_58 (n := 61) rfl ?_
      intro h64 W65
      have O66 := Ob_Rd.set_settledSince hw O49 W65
      have K67 := Keep.of_wr W65
      have O68 := O51.keep K67 (ninS ne_ta nin0)
      have O69 := O52.keep K67 (ninS ne_ka nin0)
      have Z70 : n0 ≤ h64.size := Nat.le_trans Z53 K67.1
      have K71 : Keep h0 h64 [a] := Keep.tr K54 K67 (allS (Or.inl (List.mem_of_getElem? (i := 0) rfl)) all0)
      refine G.aloadN C d6_61 rfl rfl (n := 62) rfl ?_
      refine G.lload C d6_62 rfl (n := 64) rfl ?_
      refine G.putfield C (host := "") (Or.inl (wd hw 29 rfl)) Via.refl (O66.2.2.1) (O66.1) (Or.inl (wd hw 30 rfl)) (wd hw 21 rfl) (ty := .long) (by decide) rfl rfl g_a d6_64 (n := 67) rfl ?_
      intro h72 W73
      have O74 := Ob_Rd.set_compiledMillis hw O66 W73
      have K75 := Keep.of_wr W73
      have O76 := O68.keep K75 (ninS ne_ta nin0)
      have O77 := O69.keep K75 (ninS ne_ka nin0)
      have Z78 : n0 ≤ h72.size := Nat.le_trans Z70 K75.1
      have K79 : Keep h0 h72 [a] := Keep.tr K71 K75 (allS (Or.inl (List.mem_of_getElem? (i := 0) rfl)) all0)
      refine G.return_ C d6_67 (by decide) (by decide) ?_
      show _ ∧ _
      refine ⟨rfl, K79, ?_⟩
      rw [show stl cc cm e2 ss = e2 from if_pos (by omega)]
      rw [show kpt mt mk (.ref t) (.ref k) = .ref t from if_pos (by omega)]
      exact O74
theorem ovr0 (x : Int64) : ovr x x x 0 = false := by
  unfold ovr
  rw [Int64.sub_self]
  decide
theorem l_as (a b : Int64) : a + b - a = b := by rw [Int64.add_comm, Int64.add_sub_cancel]
theorem fin1 {st d1 cm k1 z23 : Int64} {z27 : Int32} (h23 : (k1.toInt ≤ 10 ∧ z23 = 0) ∨ (10 < k1.toInt ∧ z23 = d1)) (h27 : ((d1 - z23).toInt < 2000000000 ∧ z27 = 0) ∨ (2000000000 ≤ (d1 - z23).toInt ∧ z27 = 1)) : b2i (ovr (st + d1) (stl (cm + k1) cm (st + d1) st) st 1) = z27 := by
  have e1 : st + d1 - stl (cm + k1) cm (st + d1) st = d1 - z23 := by
    unfold stl
    rw [l_as]
    rcases h23 with ⟨h, r⟩ | ⟨h, r⟩
    · rw [if_neg (by omega), l_as, r, Int64.sub_zero]
    · rw [if_pos h, r, Int64.sub_self, Int64.sub_self]
  unfold ovr
  rw [e1]
  rcases h27 with ⟨h, r⟩ | ⟨h, r⟩
  · rw [r, decide_eq_false (by rw [show (1 : Int32).toInt = 1 from rfl]; omega)]; rfl
  · rw [r, decide_eq_true (Or.inl h)]; rfl
theorem fin2 {st d1 d2 cm k1 k2 z23 z25 : Int64} {z28 : Int32} (h23 : (k1.toInt ≤ 10 ∧ z23 = 0) ∨ (10 < k1.toInt ∧ z23 = d1)) (h25 : (k2.toInt ≤ 10 ∧ z25 = z23) ∨ (10 < k2.toInt ∧ z25 = d2))
    (h28 : (2000000000 ≤ (d2 - z25).toInt ∧ z28 = 1) ∨ ((d2 - z25).toInt < 2000000000 ∧ d2.toInt < 20000000000 ∧ z28 = 0) ∨ ((d2 - z25).toInt < 2000000000 ∧ 20000000000 ≤ d2.toInt ∧ z28 = 1)) :
    b2i (ovr (st + d2) (stl (cm + k1 + k2) (cm + k1) (st + d2) (stl (cm + k1) cm (st + d1) st)) st 2) = z28 := by
  have e1 : st + d2 - stl (cm + k1 + k2) (cm + k1) (st + d2) (stl (cm + k1) cm (st + d1) st) = d2 - z25 := by
    unfold stl
    rw [l_as, l_as]
    rcases h25 with ⟨h, r⟩ | ⟨h, r⟩
    · rw [if_neg (by omega), r]
      rcases h23 with ⟨h, r⟩ | ⟨h, r⟩
      · rw [if_neg (by omega), l_as, r, Int64.sub_zero]
      · rw [if_pos h, r]
        apply Int64.toInt_inj.mp
        have q1 := c_ladd st d1
        have q2 := c_ladd st d2
        have q3 := c_lsub (st + d2) (st + d1)
        have q4 := c_lsub d2 d1
        have q5 := rng64 (st + d2 - (st + d1))
        have q6 := rng64 (d2 - d1)
        omega
    · rw [if_pos h, r, Int64.sub_self, Int64.sub_self]
  unfold ovr
  rw [e1, l_as]
  rcases h28 with ⟨h, r⟩ | ⟨h, h', r⟩ | ⟨h, h', r⟩
  · rw [r, decide_eq_true (Or.inl h)]; rfl
  · rw [r, decide_eq_false (by omega)]; rfl
  · rw [r, decide_eq_true (Or.inr ⟨by decide, h'⟩)]; rfl
theorem pd2 : parseMethodDescriptor "(JJ)V" = some ⟨[.long, .long], none⟩ := by decide +kernel
theorem pd3 : parseMethodDescriptor "()Z" = some ⟨[], some .boolean⟩ := by decide +kernel
theorem pd4 : parseMethodDescriptor "(Lcom/example/portcullis/portcullis/BenchCommand$Times;JJ)V" = some ⟨[(.object "com/example/portcullis/portcullis/BenchCommand$Times"), .long, .long], none⟩ := by decide +kernel
theorem pn3 : plainName "com/example/portcullis/portcullis/RoundsOverPinLaw" = true := by first | (simp [plainName, overriddenIn]; done) | decide +kernel
theorem ef8 (m : MethodId) (i0 : Int64) (i1 : Int64) (i2 : Int64) (i3 : Int64) (i4 : Int32) (i5 : Int32) : entryFrame m #[(.long i0), (.long i1), (.long i2), (.long i3), (.int i4), (.int i5)] 29 = mkF m 0 #[.val (.long i0), .second, .val (.long i1), .second, .val (.long i2), .second, .val (.long i3), .second, .val (.int i4), .val (.int i5), .unset, .unset, .unset, .unset, .unset, .unset, .unset, .unset, .unset, .unset, .unset, .unset, .unset, .unset, .unset, .unset, .unset, .unset, .unset] [] := by first | (simp [entryFrame, mkF, argsToLocals, Value.category]; done) | rfl
abbrev Q_law (Z : State) (h0 : Heap) (i0 : Int64) (i1 : Int64) (i2 : Int64) (i3 : Int64) (i4 : Int32) (i5 : Int32) : Option Value → Heap → Prop := fun v h' => v = some (.int 1)
set_option maxRecDepth 65536 in
set_option maxHeartbeats 40000000 in
theorem m_law (l : Launch) (Z : State) (a0 : Array Value) (hw : ∀ d ∈ tables_1, d.before a0 Z = true) (i0 : Int64) (i1 : Int64) (i2 : Int64) (i3 : Int64) (i4 : Int32) (i5 : Int32) (h0 : Heap) (n0 : Nat) (Z0 : n0 ≤ h0.size)  : Met l Z (⟨"com/example/portcullis/portcullis/RoundsOverPinLaw", "law", "(JJJJII)Z"⟩ : MethodName) code 29 (some .boolean) room_1 #[(.long i0), (.long i1), (.long i2), (.long i3), (.int i4), (.int i5)] h0 n0 (Q_law Z h0 i0 i1 i2 i3 i4 i5) := by
  refine Met.of (plainFor_of_name pn3) (fun m => ef8 m i0 i1 i2 i3 i4 i5) ?_
  intro p e s m args below meth c C
  refine G.lload C at_0 rfl (n := 2) rfl ?_
  refine G.ldc2 C (v := (4611686018427387903 : Int64)) (wd hw 0 rfl) at_2 (n := 5) rfl ?_
  refine G.land C at_5 (n := 6) rfl ?_
  refine G.lstoreZ C at_6 (l' := fun z => #[.val (.long i0), .second, .val (.long i1), .second, .val (.long i2), .second, .val (.long i3), .second, .val (.int i4), .val (.int i5), .val (.long z), .second, .unset, .unset, .unset, .unset, .unset, .unset, .unset, .unset, .unset, .unset, .unset, .unset, .unset, .unset, .unset, .unset, .unset]) (fun _ => rfl) (n := 8) rfl ?_
  intro v1 hv1
  refine G.lload C at_8 rfl (n := 10) rfl ?_
  refine G.lload C at_10 rfl (n := 12) rfl ?_
  refine G.ldc2 C (v := (4611686018427387903 : Int64)) (wd hw 0 rfl) at_12 (n := 15) rfl ?_
  refine G.land C at_15 (n := 16) rfl ?_
  refine G.ladd C at_16 (n := 17) rfl ?_
  refine G.lstoreZ C at_17 (l' := fun z => #[.val (.long i0), .second, .val (.long i1), .second, .val (.long i2), .second, .val (.long i3), .second, .val (.int i4), .val (.int i5), .val (.long v1), .second, .val (.long z), .second, .unset, .unset, .unset, .unset, .unset, .unset, .unset, .unset, .unset, .unset, .unset, .unset, .unset, .unset, .unset]) (fun _ => rfl) (n := 19) rfl ?_
  intro v2 hv2
  refine G.iload C at_19 rfl (n := 21) rfl ?_
  refine G.i2l C at_21 (n := 22) rfl ?_
  refine G.ldc2 C (v := (2147483647 : Int64)) (wd hw 1 rfl) at_22 (n := 25) rfl ?_
  refine G.land C at_25 (n := 26) rfl ?_
  refine G.lstoreZ C at_26 (l' := fun z => #[.val (.long i0), .second, .val (.long i1), .second, .val (.long i2), .second, .val (.long i3), .second, .val (.int i4), .val (.int i5), .val (.long v1), .second, .val (.long v2), .second, .val (.long z), .second, .unset, .unset, .unset, .unset, .unset, .unset, .unset, .unset, .unset, .unset, .unset, .unset, .unset]) (fun _ => rfl) (n := 28) rfl ?_
  intro v3 hv3
  refine G.iload C at_28 rfl (n := 30) rfl ?_
  refine G.i2l C at_30 (n := 31) rfl ?_
  refine G.ldc2 C (v := (2147483647 : Int64)) (wd hw 1 rfl) at_31 (n := 34) rfl ?_
  refine G.land C at_34 (n := 35) rfl ?_
  refine G.lstoreZ C at_35 (l' := fun z => #[.val (.long i0), .second, .val (.long i1), .second, .val (.long i2), .second, .val (.long i3), .second, .val (.int i4), .val (.int i5), .val (.long v1), .second, .val (.long v2), .second, .val (.long v3), .second, .val (.long z), .second, .unset, .unset, .unset, .unset, .unset, .unset, .unset, .unset, .unset, .unset, .unset]) (fun _ => rfl) (n := 37) rfl ?_
  intro v4 hv4
  refine G.new C (wd hw 2 rfl) (wd hw 3 rfl) (wd hw 4 rfl) at_37 (n := 40) rfl (c' := 1) (s' := 2) rfl rfl (by decide) (by decide) ?_
  intro h5 b6 q7 E8 A9 D10
  have g11 : n0 ≤ b6 := Nat.le_trans Z0 (Nat.le_of_eq q7.symm)
  have O12 := Ob_T.new hw A9 D10
  have K13 := kext E8
  have Z14 : n0 ≤ h5.size := Nat.le_trans Z0 K13.1
  refine G.dup C at_40 rfl (n := 41) rfl ?_
  refine G.lconst C (v := (0 : Int64)) at_41 (by decide) (n := 42) rfl ?_
  refine G.lconst C (v := (0 : Int64)) at_42 (by decide) (n := 43) rfl ?_
  refine G.callC C (argsL := [(.long (0 : Int64)), (.long (0 : Int64))]) (yc := (⟨"com/example/portcullis/portcullis/BenchCommand$Times", "<init>", "(JJ)V"⟩ : MethodName)) (a := b6) rfl (wd hw 5 rfl) (wd hw 6 rfl) (wd hw 4 rfl) (wd hw 7 rfl) (by decide) (m_tinit l Z a0 hw b6 (0 : Int64) (0 : Int64) h5 n0 Z14 O12 g11) rfl (by decide) (W := 1) rfl (by decide) (c' := 1) (s' := 2) rfl rfl (by decide) (by decide) at_43 (n := 46) rfl pd2 rfl rfl ?_
  rintro _ h18 ⟨rfl, K15, O16⟩
  have Z19 : n0 ≤ h18.size := Nat.le_trans Z14 K15.1
  refine G.astore C at_46 rfl (l' := #[.val (.long i0), .second, .val (.long i1), .second, .val (.long i2), .second, .val (.long i3), .second, .val (.int i4), .val (.int i5), .val (.long v1), .second, .val (.long v2), .second, .val (.long v3), .second, .val (.long v4), .second, .val (.ref b6), .unset, .unset, .unset, .unset, .unset, .unset, .unset, .unset, .unset, .unset]) rfl (n := 48) rfl ?_
  refine G.new C (wd hw 20 rfl) (wd hw 21 rfl) (wd hw 22 rfl) at_48 (n := 51) rfl (c' := 2) (s' := 8) rfl rfl (by decide) (by decide) ?_
  intro h20 b21 q22 E23 A24 D25
  have ne26 : b6 ≠ b21 := Nat.ne_of_lt (Nat.lt_of_lt_of_le O16.lt (Nat.le_of_eq q22.symm))
  have g27 : n0 ≤ b21 := Nat.le_trans Z19 (Nat.le_of_eq q22.symm)
  have O28 := Ob_Rd.new hw A24 D25
  have K29 := kext E23
  have O30 := O16.keep K29 nin0
  have Z31 : n0 ≤ h20.size := Nat.le_trans Z19 K29.1
  refine G.dup C at_51 rfl (n := 52) rfl ?_
  refine G.lloadN C at_52 rfl (n := 53) rfl ?_
  refine G.lloadN C at_53 rfl (n := 54) rfl ?_
  refine G.callC C (argsL := [(.long i0), (.long i1)]) (yc := (⟨"com/example/portcullis/portcullis/BenchCommand$Rounds", "<init>", "(JJ)V"⟩ : MethodName)) (a := b21) rfl (wd hw 23 rfl) (wd hw 24 rfl) (wd hw 22 rfl) (wd hw 25 rfl) (by decide) (m_rinit l Z a0 hw b21 i0 i1 h20 n0 Z31 O28 g27) rfl (by decide) (W := 1) rfl (by decide) (c' := 2) (s' := 8) rfl rfl (by decide) (by decide) at_54 (n := 57) rfl pd2 rfl rfl ?_
  rintro _ h35 ⟨rfl, K32, O33⟩
  have O36 := O30.keep K32 (ninS ne26 nin0)
  have Z37 : n0 ≤ h35.size := Nat.le_trans Z31 K32.1
  refine G.astore C at_57 rfl (l' := #[.val (.long i0), .second, .val (.long i1), .second, .val (.long i2), .second, .val (.long i3), .second, .val (.int i4), .val (.int i5), .val (.long v1), .second, .val (.long v2), .second, .val (.long v3), .second, .val (.long v4), .second, .val (.ref b6), .val (.ref b21), .unset, .unset, .unset, .unset, .unset, .unset, .unset, .unset, .unset]) rfl (n := 59) rfl ?_
  refine G.aload C at_59 rfl rfl (n := 61) rfl ?_
  refine G.callV C (argsL := []) (yr := (⟨"com/example/portcullis/portcullis/BenchCommand$Rounds", "over", "()Z"⟩ : MethodName)) (yc := (⟨"com/example/portcullis/portcullis/BenchCommand$Rounds", "over", "()Z"⟩ : MethodName)) (a := b21) (O33.1) (wd hw 35 rfl) (wd hw 36 rfl) (nfS (wd hw 38 rfl) rfl) (wd hw 38 rfl) (wd hw 37 rfl) (wd hw 22 rfl) (wd hw 39 rfl) (by decide) (m_over l Z a0 hw b21 i0 i1 i0 i0 (0 : Int32) .null h35 n0 Z37 O33) rfl (by decide) (W := 0) rfl (by decide) (c' := 2) (s' := 8) rfl rfl (by decide) (by decide) at_61 (n := 64) rfl pd3 rfl rfl ?_
  rintro _ _ ⟨rfl, rfl⟩
  refine G.istoreZ C at_64 (l' := fun z => #[.val (.long i0), .second, .val (.long i1), .second, .val (.long i2), .second, .val (.long i3), .second, .val (.int i4), .val (.int i5), .val (.long v1), .second, .val (.long v2), .second, .val (.long v3), .second, .val (.long v4), .second, .val (.ref b6), .val (.ref b21), .val (.int z), .unset, .unset, .unset, .unset, .unset, .unset, .unset, .unset]) (fun _ => rfl) (n := 66) rfl ?_
  intro v40 hv40
  refine G.aload C at_66 rfl rfl (n := 68) rfl ?_
  refine G.aload C at_68 rfl rfl (n := 70) rfl ?_
  refine G.lloadN C at_70 rfl (n := 71) rfl ?_
  refine G.lload C at_71 rfl (n := 73) rfl ?_
  refine G.ladd C at_73 (n := 74) rfl ?_
  refine G.lloadN C at_74 rfl (n := 75) rfl ?_
  refine G.lload C at_75 rfl (n := 77) rfl ?_
  refine G.ladd C at_77 (n := 78) rfl ?_
  refine G.callV C (argsL := [(.ref b6), (.long (i0 + v1)), (.long (i1 + v3))]) (yr := (⟨"com/example/portcullis/portcullis/BenchCommand$Rounds", "add", "(Lcom/example/portcullis/portcullis/BenchCommand$Times;JJ)V"⟩ : MethodName)) (yc := (⟨"com/example/portcullis/portcullis/BenchCommand$Rounds", "add", "(Lcom/example/portcullis/portcullis/BenchCommand$Times;JJ)V"⟩ : MethodName)) (a := b21) (O33.1) (wd hw 43 rfl) (wd hw 44 rfl) (nfS (wd hw 46 rfl) rfl) (wd hw 46 rfl) (wd hw 45 rfl) (wd hw 22 rfl) (wd hw 47 rfl) (by decide) (m_add1 l Z a0 hw b21 b6 (i0 + v1) (i1 + v3) i0 i1 i0 i0 (0 : Int32) (0 : Int64) (0 : Int64) h35 n0 Z37 O33 O36 ne26 g27) rfl (by decide) (W := 0) rfl (by decide) (c' := 2) (s' := 8) rfl rfl (by decide) (by decide) at_78 (n := 81) rfl pd4 rfl rfl ?_
  rintro _ h44 ⟨rfl, K41, O42⟩
  have O45 : Ob_Rd Z h44 b21 i0 (i1 + v3) (stl (i1 + v3) i1 (i0 + v1) i0) (i0 + v1) (1 : Int32) (.ref b6) := O42
  have O46 := O36.keep K41 (ninS ne26 nin0)
  have Z47 : n0 ≤ h44.size := Nat.le_trans Z37 K41.1
  refine G.aload C at_81 rfl rfl (n := 83) rfl ?_
  refine G.callV C (argsL := []) (yr := (⟨"com/example/portcullis/portcullis/BenchCommand$Rounds", "over", "()Z"⟩ : MethodName)) (yc := (⟨"com/example/portcullis/portcullis/BenchCommand$Rounds", "over", "()Z"⟩ : MethodName)) (a := b21) (O45.1) (wd hw 35 rfl) (wd hw 36 rfl) (nfS (wd hw 38 rfl) rfl) (wd hw 38 rfl) (wd hw 37 rfl) (wd hw 22 rfl) (wd hw 39 rfl) (by decide) (m_over l Z a0 hw b21 i0 (i1 + v3) (stl (i1 + v3) i1 (i0 + v1) i0) (i0 + v1) (1 : Int32) (.ref b6) h44 n0 Z47 O45) rfl (by decide) (W := 0) rfl (by decide) (c' := 2) (s' := 8) rfl rfl (by decide) (by decide) at_83 (n := 86) rfl pd3 rfl rfl ?_
  rintro _ _ ⟨rfl, rfl⟩
  refine G.istoreZ C at_86 (l' := fun z => #[.val (.long i0), .second, .val (.long i1), .second, .val (.long i2), .second, .val (.long i3), .second, .val (.int i4), .val (.int i5), .val (.long v1), .second, .val (.long v2), .second, .val (.long v3), .second, .val (.long v4), .second, .val (.ref b6), .val (.ref b21), .val (.int v40), .val (.int z), .unset, .unset, .unset, .unset, .unset, .unset, .unset]) (fun _ => rfl) (n := 88) rfl ?_
  intro v50 hv50
  refine G.aload C at_88 rfl rfl (n := 90) rfl ?_
  refine G.aload C at_90 rfl rfl (n := 92) rfl ?_
  refine G.lloadN C at_92 rfl (n := 93) rfl ?_
  refine G.lload C at_93 rfl (n := 95) rfl ?_
  refine G.ladd C at_95 (n := 96) rfl ?_
  refine G.lloadN C at_96 rfl (n := 97) rfl ?_
  refine G.lload C at_97 rfl (n := 99) rfl ?_
  refine G.ladd C at_99 (n := 100) rfl ?_
  refine G.lload C at_100 rfl (n := 102) rfl ?_
  refine G.ladd C at_102 (n := 103) rfl ?_
  refine G.callV C (argsL := [(.ref b6), (.long (i0 + v2)), (.long ((i1 + v3) + v4))]) (yr := (⟨"com/example/portcullis/portcullis/BenchCommand$Rounds", "add", "(Lcom/example/portcullis/portcullis/BenchCommand$Times;JJ)V"⟩ : MethodName)) (yc := (⟨"com/example/portcullis/portcullis/BenchCommand$Rounds", "add", "(Lcom/example/portcullis/portcullis/BenchCommand$Times;JJ)V"⟩ : MethodName)) (a := b21) (O45.1) (wd hw 43 rfl) (wd hw 44 rfl) (nfS (wd hw 46 rfl) rfl) (wd hw 46 rfl) (wd hw 45 rfl) (wd hw 22 rfl) (wd hw 47 rfl) (by decide) (m_add2 l Z a0 hw b21 b6 (i0 + v2) ((i1 + v3) + v4) i0 (i1 + v3) (stl (i1 + v3) i1 (i0 + v1) i0) (i0 + v1) (1 : Int32) (0 : Int64) (0 : Int64) b6 (0 : Int64) (0 : Int64) h44 n0 Z47 O45 O46 ne26 g27 O46 ne26) rfl (by decide) (W := 0) rfl (by decide) (c' := 2) (s' := 8) rfl rfl (by decide) (by decide) at_103 (n := 106) rfl pd4 rfl rfl ?_
  rintro _ h54 ⟨rfl, K51, O52⟩
  have O55 : Ob_Rd Z h54 b21 i0 ((i1 + v3) + v4) (stl ((i1 + v3) + v4) (i1 + v3) (i0 + v2) (stl (i1 + v3) i1 (i0 + v1) i0)) (i0 + v2) (2 : Int32) (kpt (0 : Int64) (0 : Int64) (.ref b6) (.ref b6)) := O52
  have O56 := O46.keep K51 (ninS ne26 nin0)
  have Z57 : n0 ≤ h54.size := Nat.le_trans Z47 K51.1
  refine G.aload C at_106 rfl rfl (n := 108) rfl ?_
  refine G.callV C (argsL := []) (yr := (⟨"com/example/portcullis/portcullis/BenchCommand$Rounds", "over", "()Z"⟩ : MethodName)) (yc := (⟨"com/example/portcullis/portcullis/BenchCommand$Rounds", "over", "()Z"⟩ : MethodName)) (a := b21) (O55.1) (wd hw 35 rfl) (wd hw 36 rfl) (nfS (wd hw 38 rfl) rfl) (wd hw 38 rfl) (wd hw 37 rfl) (wd hw 22 rfl) (wd hw 39 rfl) (by decide) (m_over l Z a0 hw b21 i0 ((i1 + v3) + v4) (stl ((i1 + v3) + v4) (i1 + v3) (i0 + v2) (stl (i1 + v3) i1 (i0 + v1) i0)) (i0 + v2) (2 : Int32) (kpt (0 : Int64) (0 : Int64) (.ref b6) (.ref b6)) h54 n0 Z57 O55) rfl (by decide) (W := 0) rfl (by decide) (c' := 2) (s' := 8) rfl rfl (by decide) (by decide) at_108 (n := 111) rfl pd3 rfl rfl ?_
  rintro _ _ ⟨rfl, rfl⟩
  refine G.istoreZ C at_111 (l' := fun z => #[.val (.long i0), .second, .val (.long i1), .second, .val (.long i2), .second, .val (.long i3), .second, .val (.int i4), .val (.int i5), .val (.long v1), .second, .val (.long v2), .second, .val (.long v3), .second, .val (.long v4), .second, .val (.ref b6), .val (.ref b21), .val (.int v40), .val (.int v50), .val (.int z), .unset, .unset, .unset, .unset, .unset, .unset]) (fun _ => rfl) (n := 113) rfl ?_
  intro v60 hv60
  refine G.lload C at_113 rfl (n := 115) rfl ?_
  refine G.ldc2 C (v := (10 : Int64)) (wd hw 56 rfl) at_115 (n := 118) rfl ?_
  suffices key62 : ∀ (z62_s0 : Int64), (((v3.toInt ≤ 10) ∧ (z62_s0 = (0 : Int64))) ∨ ((10 < v3.toInt) ∧ (z62_s0 = v1))) → Go p l e room_1 s m args below meth c n0 (Q_law Z h0 i0 i1 i2 i3 i4 i5) 2 8 h54 (mkF m 128 #[.val (.long i0), .second, .val (.long i1), .second, .val (.long i2), .second, .val (.long i3), .second, .val (.int i4), .val (.int i5), .val (.long v1), .second, .val (.long v2), .second, .val (.long v3), .second, .val (.long v4), .second, .val (.ref b6), .val (.ref b21), .val (.int v40), .val (.int v50), .val (.int v60), .unset, .unset, .unset, .unset, .unset, .unset] [(.long z62_s0)]) by
    refine G.lcmp_le C (A := v3.toInt) (B := 10) rfl (by decide) at_118 at_119 (by decide) (by decide) (n := 122) (n' := 127) rfl (fun c119_61 => ?_) (fun c119_61 => ?_)
    · refine G.lconst C (v := (0 : Int64)) at_127 (by decide) (n := 128) rfl ?_
      exact key62 _ (Or.inl ⟨c119_61, rfl⟩) 
    · refine G.lload C at_122 rfl (n := 124) rfl ?_
      refine G.goto C at_124 (by decide) (n := 128) (by decide) ?_
      exact key62 _ (Or.inr (⟨c119_61, rfl⟩)) 
  intro z62_s0 j62 
  refine G.lstore C at_128 (l' := #[.val (.long i0), .second, .val (.long i1), .second, .val (.long i2), .second, .val (.long i3), .second, .val (.int i4), .val (.int i5), .val (.long v1), .second, .val (.long v2), .second, .val (.long v3), .second, .val (.long v4), .second, .val (.ref b6), .val (.ref b21), .val (.int v40), .val (.int v50), .val (.int v60), .val (.long z62_s0), .second, .unset, .unset, .unset, .unset]) rfl (n := 130) rfl ?_
  refine G.lload C at_130 rfl (n := 132) rfl ?_
  refine G.ldc2 C (v := (10 : Int64)) (wd hw 56 rfl) at_132 (n := 135) rfl ?_
  suffices key64 : ∀ (z64_s0 : Int64), (((v4.toInt ≤ 10) ∧ (z64_s0 = z62_s0)) ∨ ((10 < v4.toInt) ∧ (z64_s0 = v2))) → Go p l e room_1 s m args below meth c n0 (Q_law Z h0 i0 i1 i2 i3 i4 i5) 2 8 h54 (mkF m 146 #[.val (.long i0), .second, .val (.long i1), .second, .val (.long i2), .second, .val (.long i3), .second, .val (.int i4), .val (.int i5), .val (.long v1), .second, .val (.long v2), .second, .val (.long v3), .second, .val (.long v4), .second, .val (.ref b6), .val (.ref b21), .val (.int v40), .val (.int v50), .val (.int v60), .val (.long z62_s0), .second, .unset, .unset, .unset, .unset] [(.long z64_s0)]) by
    refine G.lcmp_le C (A := v4.toInt) (B := 10) rfl (by decide) at_135 at_136 (by decide) (by decide) (n := 139) (n' := 144) rfl (fun c136_63 => ?_) (fun c136_63 => ?_)
    · refine G.lload C at_144 rfl (n := 146) rfl ?_
      exact key64 _ (Or.inl ⟨c136_63, rfl⟩) 
    · refine G.lload C at_139 rfl (n := 141) rfl ?_
      refine G.goto C at_141 (by decide) (n := 146) (by decide) ?_
      exact key64 _ (Or.inr (⟨c136_63, rfl⟩)) 
  intro z64_s0 j64 
  refine G.lstore C at_146 (l' := #[.val (.long i0), .second, .val (.long i1), .second, .val (.long i2), .second, .val (.long i3), .second, .val (.int i4), .val (.int i5), .val (.long v1), .second, .val (.long v2), .second, .val (.long v3), .second, .val (.long v4), .second, .val (.ref b6), .val (.ref b21), .val (.int v40), .val (.int v50), .val (.int v60), .val (.long z62_s0), .second, .val (.long z64_s0), .second, .unset, .unset]) rfl (n := 148) rfl ?_
  refine G.lload C at_148 rfl (n := 150) rfl ?_
  refine G.lload C at_150 rfl (n := 152) rfl ?_
  refine G.lsub C at_152 (n := 153) rfl ?_
  refine G.ldc2 C (v := (2000000000 : Int64)) (wd hw 57 rfl) at_153 (n := 156) rfl ?_
  suffices key66 : ∀ (z66_s0 : Int32), ((((v1 - z62_s0).toInt < 2000000000) ∧ (z66_s0 = (0 : Int32))) ∨ ((2000000000 ≤ (v1 - z62_s0).toInt) ∧ (z66_s0 = (1 : Int32)))) → Go p l e room_1 s m args below meth c n0 (Q_law Z h0 i0 i1 i2 i3 i4 i5) 2 8 h54 (mkF m 165 #[.val (.long i0), .second, .val (.long i1), .second, .val (.long i2), .second, .val (.long i3), .second, .val (.int i4), .val (.int i5), .val (.long v1), .second, .val (.long v2), .second, .val (.long v3), .second, .val (.long v4), .second, .val (.ref b6), .val (.ref b21), .val (.int v40), .val (.int v50), .val (.int v60), .val (.long z62_s0), .second, .val (.long z64_s0), .second, .unset, .unset] [(.int z66_s0)]) by
    refine G.lcmp_lt C (A := (v1 - z62_s0).toInt) (B := 2000000000) rfl (by decide) at_156 at_157 (by decide) (by decide) (n := 160) (n' := 164) rfl (fun c157_65 => ?_) (fun c157_65 => ?_)
    · refine G.iconst C (v := (0 : Int32)) at_164 (by decide) (n := 165) rfl ?_
      exact key66 _ (Or.inl ⟨c157_65, rfl⟩) 
    · refine G.iconst C (v := (1 : Int32)) at_160 (by decide) (n := 161) rfl ?_
      refine G.goto C at_161 (by decide) (n := 165) (by decide) ?_
      exact key66 _ (Or.inr (⟨c157_65, rfl⟩)) 
  intro z66_s0 j66 
  refine G.istore C at_165 (l' := #[.val (.long i0), .second, .val (.long i1), .second, .val (.long i2), .second, .val (.long i3), .second, .val (.int i4), .val (.int i5), .val (.long v1), .second, .val (.long v2), .second, .val (.long v3), .second, .val (.long v4), .second, .val (.ref b6), .val (.ref b21), .val (.int v40), .val (.int v50), .val (.int v60), .val (.long z62_s0), .second, .val (.long z64_s0), .second, .val (.int z66_s0), .unset]) rfl (n := 167) rfl ?_
  refine G.lload C at_167 rfl (n := 169) rfl ?_
  refine G.lload C at_169 rfl (n := 171) rfl ?_
  refine G.lsub C at_171 (n := 172) rfl ?_
  refine G.ldc2 C (v := (2000000000 : Int64)) (wd hw 57 rfl) at_172 (n := 175) rfl ?_
  suffices key69 : ∀ (z69_s0 : Int32), (((2000000000 ≤ (v2 - z64_s0).toInt) ∧ (z69_s0 = (1 : Int32))) ∨ (((v2 - z64_s0).toInt < 2000000000) ∧ (v2.toInt < 20000000000) ∧ (z69_s0 = (0 : Int32))) ∨ (((v2 - z64_s0).toInt < 2000000000) ∧ (20000000000 ≤ v2.toInt) ∧ (z69_s0 = (1 : Int32)))) → Go p l e room_1 s m args below meth c n0 (Q_law Z h0 i0 i1 i2 i3 i4 i5) 2 8 h54 (mkF m 193 #[.val (.long i0), .second, .val (.long i1), .second, .val (.long i2), .second, .val (.long i3), .second, .val (.int i4), .val (.int i5), .val (.long v1), .second, .val (.long v2), .second, .val (.long v3), .second, .val (.long v4), .second, .val (.ref b6), .val (.ref b21), .val (.int v40), .val (.int v50), .val (.int v60), .val (.long z62_s0), .second, .val (.long z64_s0), .second, .val (.int z66_s0), .unset] [(.int z69_s0)]) by
    refine G.lcmp_ge C (A := (v2 - z64_s0).toInt) (B := 2000000000) rfl (by decide) at_175 at_176 (by decide) (by decide) (n := 179) (n' := 188) rfl (fun c176_67 => ?_) (fun c176_67 => ?_)
    · refine G.iconst C (v := (1 : Int32)) at_188 (by decide) (n := 189) rfl ?_
      refine G.goto C at_189 (by decide) (n := 193) (by decide) ?_
      exact key69 _ (Or.inl ⟨c176_67, rfl⟩) 
    · refine G.lload C at_179 rfl (n := 181) rfl ?_
      refine G.ldc2 C (v := (20000000000 : Int64)) (wd hw 59 rfl) at_181 (n := 184) rfl ?_
      refine G.lcmp_lt C (A := v2.toInt) (B := 20000000000) rfl (by decide) at_184 at_185 (by decide) (by decide) (n := 188) (n' := 192) rfl (fun c185_68 => ?_) (fun c185_68 => ?_)
      · refine G.iconst C (v := (0 : Int32)) at_192 (by decide) (n := 193) rfl ?_
        exact key69 _ (Or.inr (Or.inl ⟨c176_67, c185_68, rfl⟩)) 
      · refine G.iconst C (v := (1 : Int32)) at_188 (by decide) (n := 189) rfl ?_
        refine G.goto C at_189 (by decide) (n := 193) (by decide) ?_
        exact key69 _ (Or.inr (Or.inr (⟨c176_67, c185_68, rfl⟩))) 
  intro z69_s0 j69 
  refine G.istore C at_193 (l' := #[.val (.long i0), .second, .val (.long i1), .second, .val (.long i2), .second, .val (.long i3), .second, .val (.int i4), .val (.int i5), .val (.long v1), .second, .val (.long v2), .second, .val (.long v3), .second, .val (.long v4), .second, .val (.ref b6), .val (.ref b21), .val (.int v40), .val (.int v50), .val (.int v60), .val (.long z62_s0), .second, .val (.long z64_s0), .second, .val (.int z66_s0), .val (.int z69_s0)]) rfl (n := 195) rfl ?_
  refine G.iload C at_195 rfl (n := 197) rfl ?_
  refine G.if_ne C (A := v40.toInt) rfl at_197 (by decide) (by decide) (n := 200) (n' := 218) rfl (fun c197_70 c197_70i => ?_) (fun c197_70 c197_70i => ?_)
  · exact absurd (by rw [hv40, ovr0]; rfl) c197_70
  refine G.iload C at_200 rfl (n := 202) rfl ?_
  refine G.iload C at_202 rfl (n := 204) rfl ?_
  refine G.icmp_ne C (A := v50.toInt) (B := z66_s0.toInt) rfl rfl at_204 (by decide) (by decide) (n := 207) (n' := 218) rfl (fun c204_71 c204_71i => ?_) (fun c204_71 c204_71i => ?_)
  · exact absurd (by rw [hv50]; exact fin1 j62 j66) c204_71
  refine G.iload C at_207 rfl (n := 209) rfl ?_
  refine G.iload C at_209 rfl (n := 211) rfl ?_
  refine G.icmp_ne C (A := v60.toInt) (B := z69_s0.toInt) rfl rfl at_211 (by decide) (by decide) (n := 214) (n' := 218) rfl (fun c211_72 c211_72i => ?_) (fun c211_72 c211_72i => ?_)
  · exact absurd (by rw [hv60]; exact fin2 j62 j64 j69) c211_72
  refine G.iconst C (v := (1 : Int32)) at_214 (by decide) (n := 215) rfl ?_
  refine G.goto C at_215 (by decide) (n := 219) (by decide) ?_
  refine G.ireturn C at_219 (rfl) (by simp) (by decide) (by decide) ?_
  exact rfl
set_option maxRecDepth 65536 in
set_option maxHeartbeats 40000000 in
theorem comes_1 {Post : Tables → Env → Array Value → State → Outcome → State → Prop} (hpost : ∀ tb e args s v u, (limb_1_1.after args s (.returned v) u = true ∧ limb_1_2.after args s (.returned v) u = true ∧ True) → FrameEnd s (.returned v) u (Jvm.fieldLocs frame_1_writes args s ++ Jvm.arrayLocs frame_1_arrays args s ++ Jvm.staticLocs frame_1_statics s) 16 128 → Post tb e args s (.returned v) u) :
    ArmFor flags0 classFile x code maxLocals ret World_1 tables_1 room_1 Calls_1 rest_1 Pre_1 Post := by
  intro l hfl _ _ p e ha hc hk s m args below hf hA hF happ hP
  obtain ⟨hcalls, hrest, hpre⟩ := hP
  obtain ⟨-, -, -, hnamed, -, -, -, hat⟩ := (Spec.applies_iff hf).mp happ
  obtain ⟨hg, hn⟩ := and_e (Cond.before_iff.mp (show (Jvm.Cond.and given_1 narrow_1).before args s = true from hpre))
  obtain ⟨k1, k2⟩ := and_e hg
  obtain ⟨w0, w1, w2, w3, w4, w5, rfl⟩ : ∃ w0 w1 w2 w3 w4 w5 : Value, args = #[w0, w1, w2, w3, w4, w5] := by
    have hs : args.size = 6 := by simpa [Cond.value, given_1] using k1
    obtain ⟨L⟩ := args
    match L, hs with
    | [w0, w1, w2, w3, w4, w5], _ => exact ⟨w0, w1, w2, w3, w4, w5, rfl⟩
  have hw := fun d (hd : d ∈ tables_1) => atoms_spec (ws := Jvm.Cond.code x code maxLocals ret :: tables_1) hat d (List.mem_cons_of_mem _ hd)
  have hfit : Fit s := fun {y c} hc i hi => by
    obtain ⟨ha, rfl⟩ := Array.getElem?_eq_some_iff.mp hc
    have q := List.all_eq_true.mp ((Array.all_eq_true_iff_forall_mem.mp hF) _ (Array.getElem_mem ha)) i (List.mem_range.mpr hi)
    simpa [Array.getElem?_eq_getElem hi] using q
  obtain ⟨u0, k2⟩ := and_e k2
  obtain ⟨i0, e0⟩ := isL_v u0
  obtain rfl : w0 = (.long i0) := Option.some.inj e0
  obtain ⟨u1, k2⟩ := and_e k2
  obtain ⟨i1, e1⟩ := isL_v u1
  obtain rfl : w1 = (.long i1) := Option.some.inj e1
  obtain ⟨u2, k2⟩ := and_e k2
  obtain ⟨i2, e2⟩ := isL_v u2
  obtain rfl : w2 = (.long i2) := Option.some.inj e2
  obtain ⟨u3, k2⟩ := and_e k2
  obtain ⟨i3, e3⟩ := isL_v u3
  obtain rfl : w3 = (.long i3) := Option.some.inj e3
  obtain ⟨u4, k2⟩ := and_e k2
  obtain ⟨i4, e4⟩ := is_v u4
  obtain rfl : w4 = (.int i4) := Option.some.inj e4
  have u5 := k2
  obtain ⟨i5, e5⟩ := is_v u5
  obtain rfl : w5 = (.int i5) := Option.some.inj e5
  obtain ⟨n, o, h1, h2, h3, _, L, rfl, ⟨N, rfl⟩, hq⟩ := m_law l s _ hw i0 i1 i2 i3 i4 i5 s.heap s.heap.size (Nat.le_refl _)  tables_1 p e ha hc hk s m _ below hf ((Spec.applies_iff_loose hf).mp happ).1 ⟨rfl, State.Warmed39.refl s, rfl⟩ trivial
  refine ⟨n, _, h1, h2, h3, hpost _ _ _ _ _ _ ⟨Cond.after_iff.mpr rfl, Cond.after_iff.mpr (eq_i res_at (Term.int_eval (1)) rfl), trivial⟩ ⟨hq.1, hq.2.1, (hq.2.2.sift fun y hy => Or.inr (N y hy)).mono (by decide) (by decide)⟩⟩
theorem main_1_1 : Claimed_1_1 := comes_1 fun _ _ _ _ _ _ h hF => ⟨h.1, hF⟩
theorem main_1_2 : Claimed_1_2 := comes_1 fun _ _ _ _ _ _ h hF => ⟨h.2.1, hF⟩
end Jvm.Pilot.@@N@@
namespace Jvm.Pilot.@@N@@
open Jvm Jvm.ClassFile Sem Op Lib Jvm.Free Jvm.Stand Jvm.Pilot.@@N@@.Jvm.D
/-! MADE BY PROGRAM (witnessworld.py) out of the Statement's table words and the real class files: 11 classes; the members and pool entries that the words name. The judged class is class 1, her method 1. -/
namespace start1
open Jvm.ClassFile
def u (s : String) : CpInfo := .utf8 (stringToUtf16 s)
/-- a pool by its gaps: so many unusable entries, then the entry; so many at the end -/
def gap : Nat → List CpInfo → List CpInfo
  | 0, r => r
  | n + 1, r => .unusable :: gap n r
def poolList (es : List (Nat × CpInfo)) (last : Nat) : List CpInfo := es.foldr (fun e r => gap e.1 (e.2 :: r)) (gap last [])
def pool (es : List (Nat × CpInfo)) (last : Nat) : Array CpInfo := ⟨poolList es last⟩
def fileOf (pool : Array CpInfo) (this : Nat) (attrs : Array Attribute := #[]) (ms : Array MethodInfo := #[]) (fl : Nat := 33) (sup : Nat := 0) (ifs : Array Nat := #[]) (fds : Array FieldInfo := #[]) : ClassFile where
  minorVersion := 0
  majorVersion := 65
  constantPool := pool
  accessFlags := fl
  thisClass := this
  superClass := sup
  interfaces := ifs
  fields := fds
  methods := ms
  attributes := attrs
def plain (name : String) (sup : Option ClassId) : Class where
  name := name
  kind := .ordinary
  loader := none
  accessFlags := 33
  super := sup
  interfaces := #[]
  cf := none
  fields := #[]
  methods := #[]
  instanceTypes := #[]
  staticTypes := #[]
  resolved := #[]
  callSites := []
  init := .initialized
  statics := none
  mirror := none

def pool0 : Array CpInfo := pool [(5, u "<init>"), (0, u "()V"), (1, .class_ 10), (1, u "java/lang/Object")] 113

def k0c0 : Code := { maxStack := 0, maxLocals := 1, code := object_method_1_code, exceptionTable := #[], attributes := #[] }
def k0m0 : Method := { name := "<init>", desc := "()V", sig := { parameters := [], returnType := none }, accessFlags := 1, code := some k0c0 }
/-- java/lang/Object -/
def k0 : Class := { plain "java/lang/Object" none with
  accessFlags := 33
  interfaces := #[]
  cf := some (fileOf pool0 8 #[] #[{ accessFlags := 1, nameIndex := 5, descriptorIndex := 6, attributes := #[] }] 33 0 #[] #[])
  fields := #[]
  methods := #[k0m0]
  instanceTypes := #[]
  staticTypes := #[]
  resolved := Array.replicate 124 none
  statics := none }

def pool1 : Array CpInfo := pool [(2, .class_ 4), (1, u "java/lang/Object"), (0, u "<init>"), (0, u "()V"), (0, .long 4611686018427387903), (1, .long 2147483647), (1, .class_ 12), (0, u "com/example/portcullis/portcullis/BenchCommand$Times"), (0, .methodref 11 14), (0, .nameAndType 5 15), (0, u "(JJ)V"), (0, .class_ 17), (0, u "com/example/portcullis/portcullis/BenchCommand$Rounds"), (0, .methodref 16 14), (0, .methodref 16 20), (0, .nameAndType 21 22), (0, u "over"), (0, u "()Z"), (0, .methodref 16 24), (0, .nameAndType 25 26), (0, u "add"), (0, u "(Lcom/example/portcullis/portcullis/BenchCommand$Times;JJ)V"), (0, .long 10), (1, .long 2000000000), (1, .long 20000000000), (1, .class_ 34), (0, u "com/example/portcullis/portcullis/RoundsOverPinLaw"), (2, u "law"), (0, u "(JJJJII)Z")] 8

def k1m0 : Method := { name := "<init>", desc := "()V", sig := { parameters := [], returnType := none }, accessFlags := 2, code := none }
def k1c1 : Code := { maxStack := 8, maxLocals := 29, code := code, exceptionTable := #[], attributes := #[] }
def k1m1 : Method := { name := "law", desc := "(JJJJII)Z", sig := { parameters := [.long, .long, .long, .long, .int, .int], returnType := some .boolean }, accessFlags := 9, code := some k1c1 }
/-- com/example/portcullis/portcullis/RoundsOverPinLaw -/
def k1 : Class := { plain "com/example/portcullis/portcullis/RoundsOverPinLaw" (some 0) with
  accessFlags := 49
  interfaces := #[]
  cf := some (fileOf pool1 33 #[] #[{ accessFlags := 2, nameIndex := 5, descriptorIndex := 6, attributes := #[] }, { accessFlags := 9, nameIndex := 37, descriptorIndex := 38, attributes := #[] }] 49 2 #[] #[])
  fields := #[]
  methods := #[k1m0, k1m1]
  instanceTypes := #[]
  staticTypes := #[]
  resolved := Array.replicate 47 none
  statics := none }

def pool2 : Array CpInfo := pool [(1, .methodref 2 3), (0, .class_ 4), (0, .nameAndType 5 6), (0, u "java/lang/Object"), (0, u "<init>"), (0, u "()V"), (0, .class_ 8), (0, u "java/lang/Record")] 13

def k2c0 : Code := { maxStack := 1, maxLocals := 1, code := jdk_30_method_1_code, exceptionTable := #[], attributes := #[] }
def k2m0 : Method := { name := "<init>", desc := "()V", sig := { parameters := [], returnType := none }, accessFlags := 4, code := some k2c0 }
/-- java/lang/Record -/
def k2 : Class := { plain "java/lang/Record" (some 0) with
  accessFlags := 1057
  interfaces := #[]
  cf := some (fileOf pool2 7 #[] #[{ accessFlags := 4, nameIndex := 5, descriptorIndex := 6, attributes := #[] }] 1057 2 #[] #[])
  fields := #[]
  methods := #[k2m0]
  instanceTypes := #[]
  staticTypes := #[]
  resolved := Array.replicate 22 none
  statics := none }

def pool3 : Array CpInfo := pool [(1, .methodref 2 3), (0, .class_ 4), (0, .nameAndType 5 6), (0, u "java/lang/Record"), (0, u "<init>"), (0, u "()V"), (0, .fieldref 8 9), (0, .class_ 10), (0, .nameAndType 11 12), (0, u "com/example/portcullis/portcullis/BenchCommand$Times"), (0, u "median"), (0, u "J"), (0, .fieldref 8 14), (0, .nameAndType 15 12), (0, u "p99"), (12, u "(JJ)V"), (58, u "()J"), (3, .class_ 92), (0, u "com/example/portcullis/portcullis/BenchCommand")] 20

def k3c0 : Code := { maxStack := 3, maxLocals := 5, code := prog_4_method_1_code, exceptionTable := #[], attributes := #[] }
def k3m0 : Method := { name := "<init>", desc := "(JJ)V", sig := { parameters := [.long, .long], returnType := none }, accessFlags := 0, code := some k3c0 }
def k3c1 : Code := { maxStack := 2, maxLocals := 1, code := prog_4_method_9_code, exceptionTable := #[], attributes := #[] }
def k3m1 : Method := { name := "median", desc := "()J", sig := { parameters := [], returnType := some .long }, accessFlags := 1, code := some k3c1 }
/-- com/example/portcullis/portcullis/BenchCommand$Times -/
def k3 : Class := { plain "com/example/portcullis/portcullis/BenchCommand$Times" (some 2) with
  accessFlags := 48
  interfaces := #[]
  cf := some (fileOf pool3 8 #[.nestHost 91] #[{ accessFlags := 0, nameIndex := 5, descriptorIndex := 28, attributes := #[] }, { accessFlags := 1, nameIndex := 11, descriptorIndex := 87, attributes := #[] }] 48 2 #[] #[{ accessFlags := 18, nameIndex := 11, descriptorIndex := 12, attributes := #[] }, { accessFlags := 18, nameIndex := 15, descriptorIndex := 12, attributes := #[] }])
  fields := #[{ name := "median", type := .long, accessFlags := 18, slot := 0, constantValue := 0 }, { name := "p99", type := .long, accessFlags := 18, slot := 1, constantValue := 0 }]
  methods := #[k3m0, k3m1]
  instanceTypes := #[.long, .long]
  staticTypes := #[]
  resolved := Array.replicate 113 none
  statics := none }

def pool4 : Array CpInfo := pool [(1, .class_ 2), (0, u "com/example/portcullis/portcullis/BenchCommand"), (0, .methodref 4 5), (0, .class_ 6), (0, .nameAndType 7 8), (0, u "java/lang/Object"), (0, u "<init>"), (0, u "()V"), (0, .fieldref 10 11), (0, .class_ 12), (0, .nameAndType 13 14), (0, u "com/example/portcullis/portcullis/BenchCommand$Rounds"), (0, u "start"), (0, u "J"), (0, .fieldref 10 16), (0, .nameAndType 17 14), (0, u "compiledMillis"), (0, .fieldref 10 19), (0, .nameAndType 20 14), (0, u "settledSince"), (0, .fieldref 10 22), (0, .nameAndType 23 14), (0, u "end"), (0, .fieldref 10 25), (0, .nameAndType 26 27), (0, u "count"), (0, u "I"), (0, .fieldref 10 29), (0, .nameAndType 30 31), (0, u "kept"), (0, u "Lcom/example/portcullis/portcullis/BenchCommand$Times;"), (0, .methodref 33 34), (0, .class_ 35), (0, .nameAndType 36 37), (0, u "com/example/portcullis/portcullis/BenchCommand$Times"), (0, u "median"), (0, u "()J"), (0, .long 10), (1, .long 2000000000), (1, .long 20000000000), (1, u "(JJ)V"), (2, u "add"), (0, u "(Lcom/example/portcullis/portcullis/BenchCommand$Times;JJ)V"), (1, u "over"), (0, u "()Z")] 7

def k4c0 : Code := { maxStack := 3, maxLocals := 5, code := prog_3_method_1_code, exceptionTable := #[], attributes := #[] }
def k4m0 : Method := { name := "<init>", desc := "(JJ)V", sig := { parameters := [.long, .long], returnType := none }, accessFlags := 0, code := some k4c0 }
def k4c1 : Code := { maxStack := 4, maxLocals := 6, code := prog_3_method_2_code, exceptionTable := #[], attributes := #[] }
def k4m1 : Method := { name := "add", desc := "(Lcom/example/portcullis/portcullis/BenchCommand$Times;JJ)V", sig := { parameters := [(.object "com/example/portcullis/portcullis/BenchCommand$Times"), .long, .long], returnType := none }, accessFlags := 0, code := some k4c1 }
def k4c2 : Code := { maxStack := 4, maxLocals := 1, code := prog_3_method_3_code, exceptionTable := #[], attributes := #[] }
def k4m2 : Method := { name := "over", desc := "()Z", sig := { parameters := [], returnType := some .boolean }, accessFlags := 0, code := some k4c2 }
/-- com/example/portcullis/portcullis/BenchCommand$Rounds -/
def k4 : Class := { plain "com/example/portcullis/portcullis/BenchCommand$Rounds" (some 0) with
  accessFlags := 48
  interfaces := #[]
  cf := some (fileOf pool4 10 #[.nestHost 1] #[{ accessFlags := 0, nameIndex := 7, descriptorIndex := 44, attributes := #[] }, { accessFlags := 0, nameIndex := 47, descriptorIndex := 48, attributes := #[] }, { accessFlags := 0, nameIndex := 50, descriptorIndex := 51, attributes := #[] }] 48 4 #[] #[{ accessFlags := 18, nameIndex := 13, descriptorIndex := 14, attributes := #[] }, { accessFlags := 2, nameIndex := 17, descriptorIndex := 14, attributes := #[] }, { accessFlags := 2, nameIndex := 20, descriptorIndex := 14, attributes := #[] }, { accessFlags := 2, nameIndex := 23, descriptorIndex := 14, attributes := #[] }, { accessFlags := 2, nameIndex := 26, descriptorIndex := 27, attributes := #[] }, { accessFlags := 2, nameIndex := 30, descriptorIndex := 31, attributes := #[] }])
  fields := #[{ name := "start", type := .long, accessFlags := 18, slot := 0, constantValue := 0 }, { name := "compiledMillis", type := .long, accessFlags := 2, slot := 1, constantValue := 0 }, { name := "settledSince", type := .long, accessFlags := 2, slot := 2, constantValue := 0 }, { name := "end", type := .long, accessFlags := 2, slot := 3, constantValue := 0 }, { name := "count", type := .int, accessFlags := 2, slot := 4, constantValue := 0 }, { name := "kept", type := (.object "com/example/portcullis/portcullis/BenchCommand$Times"), accessFlags := 2, slot := 5, constantValue := 0 }]
  methods := #[k4m0, k4m1, k4m2]
  instanceTypes := #[.long, .long, .long, .long, .int, (.object "com/example/portcullis/portcullis/BenchCommand$Times")]
  staticTypes := #[]
  resolved := Array.replicate 59 none
  statics := none }

def pool5 : Array CpInfo := pool [(1, u "java/lang/Cloneable"), (0, .class_ 1), (0, u "java/lang/Object"), (0, .class_ 3)] 3

/-- java/lang/Cloneable -/
def k5 : Class := { plain "java/lang/Cloneable" (some 0) with
  accessFlags := 1537
  interfaces := #[]
  cf := some (fileOf pool5 2 #[] #[] 1537 4 #[] #[])
  fields := #[]
  methods := #[]
  instanceTypes := #[]
  staticTypes := #[]
  resolved := Array.replicate 8 none
  statics := none }

def pool6 : Array CpInfo := pool [(1, u "java/io/Serializable"), (0, .class_ 1), (0, u "java/lang/Object"), (0, .class_ 3)] 3

/-- java/io/Serializable -/
def k6 : Class := { plain "java/io/Serializable" (some 0) with
  accessFlags := 1537
  interfaces := #[]
  cf := some (fileOf pool6 2 #[] #[] 1537 4 #[] #[])
  fields := #[]
  methods := #[]
  instanceTypes := #[]
  staticTypes := #[]
  resolved := Array.replicate 8 none
  statics := none }

/-- the primitive byte -/
def k7 : Class := { plain "byte" none with kind := .primitive 'B', accessFlags := 0x411 }
/-- [B -/
def k8 : Class := { plain "[B" (some 0) with kind := .array 7 .byte, interfaces := #[5, 6], accessFlags := 1041 }

/-- the primitive int -/
def k9 : Class := { plain "int" none with kind := .primitive 'I', accessFlags := 0x411 }
/-- [I -/
def k10 : Class := { plain "[I" (some 0) with kind := .array 9 .int, interfaces := #[5, 6], accessFlags := 1041 }

def heap : Heap := #[]
def classes : Array Class := #[k0, k1, k2, k3, k4, k5, k6, k7, k8, k9, k10]
def interned : List (Array UInt16 × Addr) := []
def slotsUsed : Nat := 0
def theMethod : MethodId := ⟨1, 1⟩
def args0 : Array Value := #[.long 5, .long 6, .long 7, .long 1, .int 3, .int 4]
def aboutOver (below : List Frame) : State where
  vm := { classes := classes, interned := interned.toArray }
  heap := heap
  slotsUsed := slotsUsed
  threads := #[{ frames := .invoking theMethod args0 :: below }]
def below0 : List Frame := [.native { method := ⟨0, 0⟩, args := #[] }]
def about1 : State := aboutOver below0
def p0 : Program := .bare "" "" ""
def e0 : Env := launch0.env 0 0 0
theorem w_frames : about1.frames = Frame.invoking theMethod args0 :: below0 := rfl
set_option maxRecDepth 65536 in
theorem w_args : argsFit about1.vm theMethod args0 = true := by decide +kernel
set_option maxRecDepth 65536 in
theorem w_heap : heapFits about1 = true := by decide +kernel
set_option maxRecDepth 65536 in
theorem w_runnable : about1.curStatus? = some .runnable := by decide +kernel
set_option maxRecDepth 65536 in
theorem w_alone : about1.alone = true := by decide +kernel
set_option maxRecDepth 65536 in
theorem w_named : about1.methodNamed? x = some theMethod := by decide +kernel
set_option maxRecDepth 65536 in
theorem w_hears : about1.hears theMethod below0 = true := by decide +kernel
set_option maxRecDepth 65536 in
theorem w_ripe : about1.ripe theMethod args0 below0 = true := by decide +kernel
theorem w_running : about1.status = .running := rfl
set_option maxRecDepth 65536 in
theorem w_room : about1.hasRoom e0.platform room_1 = true :=
  launch0.hasRoom_least _ room_1 (by decide +kernel) (by decide +kernel) (by decide +kernel) (by decide +kernel) (by decide +kernel) (by decide +kernel)
theorem allAtoms_all (ts : List Jvm.Cond) (a : Array Jvm.Value) (st : Jvm.State) : (allAtoms ts).before a st = ts.all (fun c => c.before a st) := by
  induction ts with
  | nil => rfl
  | cons c t ih =>
    show (Jvm.Cond.and c (allAtoms t)).before a st = _
    rw [Jvm.Cond.before_and, ih, List.all_cons]
def words1 : List Jvm.Cond := Jvm.Cond.code x code maxLocals ret :: tables_1
/-- a 'code' word, met by the world's own term for the bytes: nothing is compared byte by byte -/
theorem code_word {y : MethodName} {bytes : ByteArray} {mx : Nat} {rt : Option FieldType} {a : Array Value} {s : State} {m : MethodId} {meth : Method} {c : Code} (h1 : s.methodNamed? y = some m) (h2 : s.vm.method? m = some meth) (h3 : meth.code = some c) (h4 : c.code = bytes)
    (h5 : (c.maxLocals == mx && c.exceptionTable.isEmpty && decide (c.maxStack ≤ mostOperands) && decide (meth.sig.returnType = rt) && !meth.locks && decide (parseMethodDescriptor y.desc = some meth.sig)) = true) : (Jvm.Cond.code y bytes mx rt).before a s = true := by
  simp only [Bool.and_eq_true, beq_iff_eq, Bool.not_eq_true', decide_eq_true_eq] at h5
  obtain ⟨⟨⟨⟨⟨g1, g2⟩, g3⟩, g4⟩, g5⟩, g6⟩ := h5
  simp [Cond.before, Cond.holds, Cond.value, h1, h2, h3, h4, g1, g2, g3, g4, g5, g6]
def isCode : Jvm.Cond → Bool
  | .code _ _ _ _ => true
  | _ => false
theorem all_split {L : List Jvm.Cond} {P : Jvm.Cond → Bool} (h1 : L.all (fun c => isCode c || P c) = true) (h2 : ∀ c ∈ L.filter isCode, P c = true) : L.all P = true := by
  refine List.all_eq_true.mpr fun c hc => ?_
  have h := List.all_eq_true.mp h1 c hc
  rcases Bool.eq_false_or_eq_true (isCode c) with hi | hi
  · exact h2 c (List.mem_filter.mpr ⟨hc, hi⟩)
  · simpa [hi] using h
set_option maxRecDepth 65536 in
theorem w_c0 : (Jvm.Cond.code x code maxLocals ret).before args0 about1 = true := code_word (m := ⟨1, 1⟩) (meth := k1m1) (c := k1c1) (by decide +kernel) rfl rfl rfl (by decide +kernel)
set_option maxRecDepth 65536 in
theorem w_c1 : (Jvm.Cond.code ({ cls := "com/example/portcullis/portcullis/BenchCommand$Times", name := "<init>", desc := "(JJ)V" } : Jvm.MethodName) prog_4_method_1_code (5 : Nat) (Option.none : Option Jvm.ClassFile.FieldType)).before args0 about1 = true := code_word (m := ⟨3, 0⟩) (meth := k3m0) (c := k3c0) (by decide +kernel) rfl rfl rfl (by decide +kernel)
set_option maxRecDepth 65536 in
theorem w_c2 : (Jvm.Cond.code ({ cls := "java/lang/Record", name := "<init>", desc := "()V" } : Jvm.MethodName) jdk_30_method_1_code (1 : Nat) (Option.none : Option Jvm.ClassFile.FieldType)).before args0 about1 = true := code_word (m := ⟨2, 0⟩) (meth := k2m0) (c := k2c0) (by decide +kernel) rfl rfl rfl (by decide +kernel)
set_option maxRecDepth 65536 in
theorem w_c3 : (Jvm.Cond.code ({ cls := "java/lang/Object", name := "<init>", desc := "()V" } : Jvm.MethodName) object_method_1_code (1 : Nat) (Option.none : Option Jvm.ClassFile.FieldType)).before args0 about1 = true := code_word (m := ⟨0, 0⟩) (meth := k0m0) (c := k0c0) (by decide +kernel) rfl rfl rfl (by decide +kernel)
set_option maxRecDepth 65536 in
theorem w_c4 : (Jvm.Cond.code ({ cls := "com/example/portcullis/portcullis/BenchCommand$Rounds", name := "<init>", desc := "(JJ)V" } : Jvm.MethodName) prog_3_method_1_code (5 : Nat) (Option.none : Option Jvm.ClassFile.FieldType)).before args0 about1 = true := code_word (m := ⟨4, 0⟩) (meth := k4m0) (c := k4c0) (by decide +kernel) rfl rfl rfl (by decide +kernel)
set_option maxRecDepth 65536 in
theorem w_c5 : (Jvm.Cond.code ({ cls := "com/example/portcullis/portcullis/BenchCommand$Rounds", name := "over", desc := "()Z" } : Jvm.MethodName) prog_3_method_3_code (1 : Nat) (Option.some Jvm.ClassFile.FieldType.boolean)).before args0 about1 = true := code_word (m := ⟨4, 2⟩) (meth := k4m2) (c := k4c2) (by decide +kernel) rfl rfl rfl (by decide +kernel)
set_option maxRecDepth 65536 in
theorem w_c6 : (Jvm.Cond.code ({ cls := "com/example/portcullis/portcullis/BenchCommand$Rounds", name := "add", desc := "(Lcom/example/portcullis/portcullis/BenchCommand$Times;JJ)V" } : Jvm.MethodName) prog_3_method_2_code (6 : Nat) (Option.none : Option Jvm.ClassFile.FieldType)).before args0 about1 = true := code_word (m := ⟨4, 1⟩) (meth := k4m1) (c := k4c1) (by decide +kernel) rfl rfl rfl (by decide +kernel)
set_option maxRecDepth 65536 in
theorem w_c7 : (Jvm.Cond.code ({ cls := "com/example/portcullis/portcullis/BenchCommand$Times", name := "median", desc := "()J" } : Jvm.MethodName) prog_4_method_9_code (1 : Nat) (Option.some Jvm.ClassFile.FieldType.long)).before args0 about1 = true := code_word (m := ⟨3, 1⟩) (meth := k3m1) (c := k3c1) (by decide +kernel) rfl rfl rfl (by decide +kernel)
def codes1 : List Jvm.Cond := [Jvm.Cond.code x code maxLocals ret, Jvm.Cond.code ({ cls := "com/example/portcullis/portcullis/BenchCommand$Times", name := "<init>", desc := "(JJ)V" } : Jvm.MethodName) prog_4_method_1_code (5 : Nat) (Option.none : Option Jvm.ClassFile.FieldType), Jvm.Cond.code ({ cls := "java/lang/Record", name := "<init>", desc := "()V" } : Jvm.MethodName) jdk_30_method_1_code (1 : Nat) (Option.none : Option Jvm.ClassFile.FieldType), Jvm.Cond.code ({ cls := "java/lang/Object", name := "<init>", desc := "()V" } : Jvm.MethodName) object_method_1_code (1 : Nat) (Option.none : Option Jvm.ClassFile.FieldType), Jvm.Cond.code ({ cls := "com/example/portcullis/portcullis/BenchCommand$Rounds", name := "<init>", desc := "(JJ)V" } : Jvm.MethodName) prog_3_method_1_code (5 : Nat) (Option.none : Option Jvm.ClassFile.FieldType), Jvm.Cond.code ({ cls := "com/example/portcullis/portcullis/BenchCommand$Rounds", name := "over", desc := "()Z" } : Jvm.MethodName) prog_3_method_3_code (1 : Nat) (Option.some Jvm.ClassFile.FieldType.boolean), Jvm.Cond.code ({ cls := "com/example/portcullis/portcullis/BenchCommand$Rounds", name := "add", desc := "(Lcom/example/portcullis/portcullis/BenchCommand$Times;JJ)V" } : Jvm.MethodName) prog_3_method_2_code (6 : Nat) (Option.none : Option Jvm.ClassFile.FieldType), Jvm.Cond.code ({ cls := "com/example/portcullis/portcullis/BenchCommand$Times", name := "median", desc := "()J" } : Jvm.MethodName) prog_4_method_9_code (1 : Nat) (Option.some Jvm.ClassFile.FieldType.long)]
set_option maxRecDepth 65536 in
theorem codes_eq : words1.filter isCode = codes1 := rfl
theorem w_codes : ∀ c ∈ words1.filter isCode, c.before args0 about1 = true := by
  rw [codes_eq]
  intro c hc
  simp only [codes1, List.mem_cons, List.not_mem_nil, or_false] at hc
  rcases hc with rfl | rfl | rfl | rfl | rfl | rfl | rfl | rfl
  · exact w_c0
  · exact w_c1
  · exact w_c2
  · exact w_c3
  · exact w_c4
  · exact w_c5
  · exact w_c6
  · exact w_c7
set_option maxRecDepth 65536 in
theorem w_t1 : (words1.take 24).all (fun c => isCode c || c.before args0 about1) = true := by decide +kernel
set_option maxRecDepth 65536 in
theorem w_t2 : ((words1.drop 24).take 24).all (fun c => isCode c || c.before args0 about1) = true := by decide +kernel
set_option maxRecDepth 65536 in
theorem w_t3 : ((words1.drop 24).drop 24).all (fun c => isCode c || c.before args0 about1) = true := by decide +kernel
theorem w_tables : (allAtoms (Jvm.Cond.code x code maxLocals ret :: tables_1)).before args0 about1 = true := by
  rw [allAtoms_all]
  show words1.all (fun c => c.before args0 about1) = true
  refine all_split ?_ w_codes
  rw [← List.take_append_drop 24 words1, List.all_append, w_t1, ← List.take_append_drop 24 (words1.drop 24), List.all_append, w_t2, w_t3]
  rfl
set_option maxRecDepth 65536 in
theorem w_case : (Jvm.Cond.and given_1 narrow_1).before args0 about1 = true := by decide +kernel
theorem w_applies : (headSpec (Jvm.Cond.code x code maxLocals ret :: tables_1) room_1).applies x e0.platform about1 = true :=
  (Spec.applies_iff w_frames).mpr ⟨w_running, w_runnable, w_alone, w_named, w_hears, w_ripe, w_room, w_tables⟩
theorem atStart : AtStart classFile x code maxLocals ret World_1 tables_1 room_1 Calls_1 rest_1 Pre_1 launch0 p0 e0 about1 theMethod args0 below0 :=
  ⟨lists_1, trivial, launch0.admits_env _ _ _, launch0.least_env, fairChoices_fair.cas, fairChoices_fair.clock, w_frames, w_args, w_heap, w_applies, trivial, trivial, w_case⟩
end start1
theorem witness_1 : WitnessClaimed_1 := ⟨start1.p0, start1.e0, start1.about1, start1.theMethod, start1.args0, start1.below0, start1.atStart⟩
end Jvm.Pilot.@@N@@
