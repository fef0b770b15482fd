import JvmDerived
import JvmDerived.Pilot.@@N@@Statement
import JvmDerived.Pilot.@@N@@Code
set_option linter.unusedVariables false
set_option linter.unusedSimpArgs false
namespace Jvm.Own
open Jvm Jvm.ClassFile Sem Op Lib Jvm.Free Jvm.Stand Jvm.LawKit Jvm.RoadKit
def b2i (b : Bool) : Int32 := if b then 1 else 0
theorem wd {ws : List Jvm.Cond} {a0 : Array Value} {Z : State} (hw : ∀ d ∈ ws, d.before a0 Z = true) (i : Nat) {d : Jvm.Cond} (h : ws[i]? = some d) : d.before a0 Z = true := hw d (List.mem_of_getElem? h)
/-- a contract of a body: from the heap h with these arguments it returns, writes nothing below n0, and Q holds of what it returns and of the heap -/
def Met (l : Launch) (Z : State) (y : MethodName) (bytes : ByteArray) (maxL : Nat) (ret : Option FieldType) (rm : Room) (as' : Array Value) (h : Heap) (n0 : Nat) (Q : Option Value → Heap → Prop) : Prop :=
  ∀ ws, MetFree l y (head1 (Jvm.Cond.code y bytes maxL ret :: ws) rm) (fun a U => a = as' ∧ Z.Warmed39 U.vm ∧ U.heap = h) (fun _ _ _ _ _ => True) (fun _ U o U' => ∃ v L, o = .returned v ∧ (Fr n0 L ∧ Q v U'.heap) ∧ FrameEnd U o U' L rm.cells rm.slots)
def Cx (p : Program) (s : State) (m : MethodId) (meth : Method) (c : Code) (Z : State) (y : MethodName) (bytes : ByteArray) (maxL : Nat) (ret : Option FieldType) : Prop :=
  p.tables.exec = Jvm.exec ∧ Z.Warmed39 s.vm ∧ s.vm.findClass y.cls = some m.cls ∧ meth.name = y.name ∧ c.code = bytes ∧ c.maxLocals = maxL ∧ meth.sig.returnType = ret ∧ meth.locks = false
def Go (p : Program) (l : Launch) (e : Env) (R : Room) (s : State) (m : MethodId) (args : Array Value) (below : List Frame) (meth : Method) (c : Code) (n0 : Nat) (Q : Option Value → Heap → Prop) (cells slots : Nat) (h : Heap) (f : JFrame) : Prop :=
  ∀ T locs, Stand p l e R s m args below meth c T locs cells slots → Fr n0 locs → T.heap = h → ∃ t o, Steps p.tables e below (T.setTop f) t ∧ t.status = .running ∧ Ended t below o ∧ ∃ v L, o = .returned v ∧ (Fr n0 L ∧ Q v t.heap) ∧ FrameEnd s o t L R.cells R.slots
section
variable {p : Program} {l : Launch} {e : Env} {R : Room} {s : State} {m : MethodId} {args : Array Value} {below : List Frame} {meth : Method} {c : Code} {Z : State} {y : MethodName} {bytes : ByteArray} {maxL : Nat} {ret : Option FieldType} {n0 : Nat} {Q : Option Value → Heap → Prop} {cells slots : Nat} {h : Heap} {pc n n' : Nat} {Ls : Array Slot} {st : List Value} {a0 : Array Value}
theorem Cx.x (C : Cx p s m meth c Z y bytes maxL ret) : p.tables.exec = Jvm.exec := C.1
theorem Cx.z (C : Cx p s m meth c Z y bytes maxL ret) : Z.Warmed39 s.vm := C.2.1
theorem Cx.own (C : Cx p s m meth c Z y bytes maxL ret) : s.vm.findClass y.cls = some m.cls := C.2.2.1
theorem Cx.nm (C : Cx p s m meth c Z y bytes maxL ret) : meth.name = y.name := C.2.2.2.1
theorem Cx.by (C : Cx p s m meth c Z y bytes maxL ret) : c.code = bytes := C.2.2.2.2.1
theorem Cx.ml (C : Cx p s m meth c Z y bytes maxL ret) : c.maxLocals = maxL := C.2.2.2.2.2.1
theorem Cx.rt (C : Cx p s m meth c Z y bytes maxL ret) : meth.sig.returnType = ret := C.2.2.2.2.2.2.1
theorem Cx.locks (C : Cx p s m meth c Z y bytes maxL ret) : meth.locks = false := C.2.2.2.2.2.2.2
theorem Met.of {rm : Room} {as' : Array Value} {Ls0 : Array Slot} (hp : plainFor y = true) (he : ∀ m, entryFrame m as' maxL = mkF m 0 Ls0 [])
    (body : ∀ p e s m args below meth c, Cx p s m meth c Z y bytes maxL ret → Go p l e rm s m args below meth c n0 Q 0 0 h (mkF m 0 Ls0 [])) : Met l Z y bytes maxL ret rm as' h n0 Q := by
  intro ws
  refine MetFree.of_bodySF hp hisR ?_
  intro p e s m args below meth c s₁ Bd hml0 hP hK
  obtain ⟨rfl, hZ, hh⟩ := hP
  have C : Cx p s m meth c Z y bytes maxL ret := ⟨Bd.exec, hZ, findClass_of_methodNamed Bd.named, (name_of_methodNamed Bd.named Bd.method).1, Bd.bytes, hml0, Bd.returns, Bd.notSynchronized⟩
  have X0 : Stand p l e rm s m args below meth c s₁ [] 0 0 := Stand.of_body Bd
  have e0 : s₁.heap = h := by rw [← hh, Bd.state]; rfl
  obtain ⟨t, o, st, r⟩ := body p e s m args below meth c C s₁ [] X0 (Fr.nil n0) e0
  exact ⟨t, o, castTop (he m) st, r⟩
theorem Met.weaken {rm : Room} {as' : Array Value} {Q' : Option Value → Heap → Prop} (M : Met l Z y bytes maxL ret rm as' h n0 Q) (q : ∀ v h', Q v h' → Q' v h') : Met l Z y bytes maxL ret rm as' h n0 Q' := by
  intro ws p e ha hc hk s m args below hf happ hP hK
  obtain ⟨n, o, h1, h2, h3, v, L, h4, h5, h6⟩ := M ws p e ha hc hk s m args below hf happ hP hK
  exact ⟨n, o, h1, h2, h3, v, L, h4, ⟨h5.1, q _ _ h5.2⟩, h6⟩
theorem Go.via {f f' : JFrame} (hs : ∀ T locs, Stand p l e R s m args below meth c T locs cells slots → T.heap = h → ∀ t, Steps p.tables e below (T.setTop f') t → Steps p.tables e below (T.setTop f) t)
    (k : Go p l e R s m args below meth c n0 Q cells slots h f') : Go p l e R s m args below meth c n0 Q cells slots h f := fun T locs X N q => by
  obtain ⟨t, o, st, r⟩ := k T locs X N q
  exact ⟨t, o, hs T locs X q t st, r⟩
theorem Go.mono {f : JFrame} {cells' slots' : Nat} (h1 : cells ≤ cells') (h2 : slots ≤ slots') (k : Go p l e R s m args below meth c n0 Q cells' slots' h f) : Go p l e R s m args below meth c n0 Q cells slots h f := fun T locs X N q =>
  k T locs ⟨X.admits, X.cas, X.clock, X.frames, X.room, X.hears, X.method, X.code, X.here, X.tail, X.warmed, X.limits, X.bytes, X.same.mono h1 h2⟩ N q
theorem Go.cast {f f' : JFrame} (q : f = f') (k : Go p l e R s m args below meth c n0 Q cells slots h f') : Go p l e R s m args below meth c n0 Q cells slots h f := q ▸ k

theorem G.iadd (C : Cx p s m meth c Z y bytes maxL ret) {x1 x2 : Int32} (hd : decode bytes pc = .ok (.iadd, 1))  (hn : pc + 1 = n) (k : Go p l e R s m args below meth c n0 Q cells slots h (mkF m n Ls (.int (x1 + x2) :: st))) : Go p l e R s m args below meth c n0 Q cells slots h (mkF m pc Ls (.int x2 :: .int x1 :: st)) := by
  subst hn
  exact Go.via (fun T locs X _ t q => XS.iadd X.here C.x rfl (hb C.by hd) rfl q) k
theorem G.isub (C : Cx p s m meth c Z y bytes maxL ret) {x1 x2 : Int32} (hd : decode bytes pc = .ok (.isub, 1))  (hn : pc + 1 = n) (k : Go p l e R s m args below meth c n0 Q cells slots h (mkF m n Ls (.int (x1 - x2) :: st))) : Go p l e R s m args below meth c n0 Q cells slots h (mkF m pc Ls (.int x2 :: .int x1 :: st)) := by
  subst hn
  exact Go.via (fun T locs X _ t q => XS.isub X.here C.x rfl (hb C.by hd) rfl q) k
theorem G.imul (C : Cx p s m meth c Z y bytes maxL ret) {x1 x2 : Int32} (hd : decode bytes pc = .ok (.imul, 1))  (hn : pc + 1 = n) (k : Go p l e R s m args below meth c n0 Q cells slots h (mkF m n Ls (.int (x1 * x2) :: st))) : Go p l e R s m args below meth c n0 Q cells slots h (mkF m pc Ls (.int x2 :: .int x1 :: st)) := by
  subst hn
  exact Go.via (fun T locs X _ t q => XS.imul X.here C.x rfl (hb C.by hd) rfl q) k
theorem G.iand (C : Cx p s m meth c Z y bytes maxL ret) {x1 x2 : Int32} (hd : decode bytes pc = .ok (.iand, 1))  (hn : pc + 1 = n) (k : Go p l e R s m args below meth c n0 Q cells slots h (mkF m n Ls (.int (x1 &&& x2) :: st))) : Go p l e R s m args below meth c n0 Q cells slots h (mkF m pc Ls (.int x2 :: .int x1 :: st)) := by
  subst hn
  exact Go.via (fun T locs X _ t q => XS.iand X.here C.x rfl (hb C.by hd) rfl q) k
theorem G.ior (C : Cx p s m meth c Z y bytes maxL ret) {x1 x2 : Int32} (hd : decode bytes pc = .ok (.ior, 1))  (hn : pc + 1 = n) (k : Go p l e R s m args below meth c n0 Q cells slots h (mkF m n Ls (.int (x1 ||| x2) :: st))) : Go p l e R s m args below meth c n0 Q cells slots h (mkF m pc Ls (.int x2 :: .int x1 :: st)) := by
  subst hn
  exact Go.via (fun T locs X _ t q => XS.ior X.here C.x rfl (hb C.by hd) rfl q) k
theorem G.ixor (C : Cx p s m meth c Z y bytes maxL ret) {x1 x2 : Int32} (hd : decode bytes pc = .ok (.ixor, 1))  (hn : pc + 1 = n) (k : Go p l e R s m args below meth c n0 Q cells slots h (mkF m n Ls (.int (x1 ^^^ x2) :: st))) : Go p l e R s m args below meth c n0 Q cells slots h (mkF m pc Ls (.int x2 :: .int x1 :: st)) := by
  subst hn
  exact Go.via (fun T locs X _ t q => XS.ixor X.here C.x rfl (hb C.by hd) rfl q) k
theorem G.ladd (C : Cx p s m meth c Z y bytes maxL ret) {x1 x2 : Int64} (hd : decode bytes pc = .ok (.ladd, 1))  (hn : pc + 1 = n) (k : Go p l e R s m args below meth c n0 Q cells slots h (mkF m n Ls (.long (x1 + x2) :: st))) : Go p l e R s m args below meth c n0 Q cells slots h (mkF m pc Ls (.long x2 :: .long x1 :: st)) := by
  subst hn
  exact Go.via (fun T locs X _ t q => XS.ladd X.here C.x rfl (hb C.by hd) rfl q) k
theorem G.lsub (C : Cx p s m meth c Z y bytes maxL ret) {x1 x2 : Int64} (hd : decode bytes pc = .ok (.lsub, 1))  (hn : pc + 1 = n) (k : Go p l e R s m args below meth c n0 Q cells slots h (mkF m n Ls (.long (x1 - x2) :: st))) : Go p l e R s m args below meth c n0 Q cells slots h (mkF m pc Ls (.long x2 :: .long x1 :: st)) := by
  subst hn
  exact Go.via (fun T locs X _ t q => XS.lsub X.here C.x rfl (hb C.by hd) rfl q) k
theorem G.lmul (C : Cx p s m meth c Z y bytes maxL ret) {x1 x2 : Int64} (hd : decode bytes pc = .ok (.lmul, 1))  (hn : pc + 1 = n) (k : Go p l e R s m args below meth c n0 Q cells slots h (mkF m n Ls (.long (x1 * x2) :: st))) : Go p l e R s m args below meth c n0 Q cells slots h (mkF m pc Ls (.long x2 :: .long x1 :: st)) := by
  subst hn
  exact Go.via (fun T locs X _ t q => XS.lmul X.here C.x rfl (hb C.by hd) rfl q) k
theorem G.land (C : Cx p s m meth c Z y bytes maxL ret) {x1 x2 : Int64} (hd : decode bytes pc = .ok (.land, 1))  (hn : pc + 1 = n) (k : Go p l e R s m args below meth c n0 Q cells slots h (mkF m n Ls (.long (x1 &&& x2) :: st))) : Go p l e R s m args below meth c n0 Q cells slots h (mkF m pc Ls (.long x2 :: .long x1 :: st)) := by
  subst hn
  exact Go.via (fun T locs X _ t q => XS.land X.here C.x rfl (hb C.by hd) rfl q) k
theorem G.lor (C : Cx p s m meth c Z y bytes maxL ret) {x1 x2 : Int64} (hd : decode bytes pc = .ok (.lor, 1))  (hn : pc + 1 = n) (k : Go p l e R s m args below meth c n0 Q cells slots h (mkF m n Ls (.long (x1 ||| x2) :: st))) : Go p l e R s m args below meth c n0 Q cells slots h (mkF m pc Ls (.long x2 :: .long x1 :: st)) := by
  subst hn
  exact Go.via (fun T locs X _ t q => XS.lor X.here C.x rfl (hb C.by hd) rfl q) k
theorem G.lxor (C : Cx p s m meth c Z y bytes maxL ret) {x1 x2 : Int64} (hd : decode bytes pc = .ok (.lxor, 1))  (hn : pc + 1 = n) (k : Go p l e R s m args below meth c n0 Q cells slots h (mkF m n Ls (.long (x1 ^^^ x2) :: st))) : Go p l e R s m args below meth c n0 Q cells slots h (mkF m pc Ls (.long x2 :: .long x1 :: st)) := by
  subst hn
  exact Go.via (fun T locs X _ t q => XS.lxor X.here C.x rfl (hb C.by hd) rfl q) k
theorem G.idiv (C : Cx p s m meth c Z y bytes maxL ret) {x1 x2 : Int32} (hd : decode bytes pc = .ok (.idiv, 1)) (hy : x2 ≠ 0) (hn : pc + 1 = n) (k : Go p l e R s m args below meth c n0 Q cells slots h (mkF m n Ls (.int (x1 / x2) :: st))) : Go p l e R s m args below meth c n0 Q cells slots h (mkF m pc Ls (.int x2 :: .int x1 :: st)) := by
  subst hn
  exact Go.via (fun T locs X _ t q => XS.idiv X.here C.x rfl (hb C.by hd) rfl hy q) k
theorem G.ishl (C : Cx p s m meth c Z y bytes maxL ret) {x1 x2 : Int32} (hd : decode bytes pc = .ok (.ishl, 1))  (hn : pc + 1 = n) (k : Go p l e R s m args below meth c n0 Q cells slots h (mkF m n Ls (.int (x1 <<< (x2 &&& 31)) :: st))) : Go p l e R s m args below meth c n0 Q cells slots h (mkF m pc Ls (.int x2 :: .int x1 :: st)) := by
  subst hn
  exact Go.via (fun T locs X _ t q => XS.ishl X.here C.x rfl (hb C.by hd) rfl q) k
theorem G.ishr (C : Cx p s m meth c Z y bytes maxL ret) {x1 x2 : Int32} (hd : decode bytes pc = .ok (.ishr, 1))  (hn : pc + 1 = n) (k : Go p l e R s m args below meth c n0 Q cells slots h (mkF m n Ls (.int (x1 >>> (x2 &&& 31)) :: st))) : Go p l e R s m args below meth c n0 Q cells slots h (mkF m pc Ls (.int x2 :: .int x1 :: st)) := by
  subst hn
  exact Go.via (fun T locs X _ t q => XS.ishr X.here C.x rfl (hb C.by hd) rfl q) k
theorem G.iushr (C : Cx p s m meth c Z y bytes maxL ret) {x1 x2 : Int32} (hd : decode bytes pc = .ok (.iushr, 1))  (hn : pc + 1 = n) (k : Go p l e R s m args below meth c n0 Q cells slots h (mkF m n Ls (.int ((x1.toUInt32 >>> (x2 &&& 31).toUInt32).toInt32) :: st))) : Go p l e R s m args below meth c n0 Q cells slots h (mkF m pc Ls (.int x2 :: .int x1 :: st)) := by
  subst hn
  exact Go.via (fun T locs X _ t q => XS.iushr X.here C.x rfl (hb C.by hd) rfl q) k
theorem G.irem (C : Cx p s m meth c Z y bytes maxL ret) {x1 x2 : Int32} (hd : decode bytes pc = .ok (.irem, 1)) (hy : x2 ≠ 0) (hn : pc + 1 = n) (k : Go p l e R s m args below meth c n0 Q cells slots h (mkF m n Ls (.int (x1 % x2) :: st))) : Go p l e R s m args below meth c n0 Q cells slots h (mkF m pc Ls (.int x2 :: .int x1 :: st)) := by
  subst hn
  exact Go.via (fun T locs X _ t q => iremM X C.x rfl (hb C.by hd) rfl hy q) k
theorem G.ldiv (C : Cx p s m meth c Z y bytes maxL ret) {x1 x2 : Int64} (hd : decode bytes pc = .ok (.ldiv, 1)) (hy : x2 ≠ 0) (hn : pc + 1 = n) (k : Go p l e R s m args below meth c n0 Q cells slots h (mkF m n Ls (.long (x1 / x2) :: st))) : Go p l e R s m args below meth c n0 Q cells slots h (mkF m pc Ls (.long x2 :: .long x1 :: st)) := by
  subst hn
  exact Go.via (fun T locs X _ t q => XS.ldiv X.here C.x rfl (hb C.by hd) rfl hy q) k
theorem G.lrem (C : Cx p s m meth c Z y bytes maxL ret) {x1 x2 : Int64} (hd : decode bytes pc = .ok (.lrem, 1)) (hy : x2 ≠ 0) (hn : pc + 1 = n) (k : Go p l e R s m args below meth c n0 Q cells slots h (mkF m n Ls (.long (x1 - (x1 / x2) * x2) :: st))) : Go p l e R s m args below meth c n0 Q cells slots h (mkF m pc Ls (.long x2 :: .long x1 :: st)) := by
  subst hn
  exact Go.via (fun T locs X _ t q => XS.lrem X.here C.x rfl (hb C.by hd) rfl hy q) k
theorem G.lshl (C : Cx p s m meth c Z y bytes maxL ret) {x1 : Int64} {x2 : Int32} (hd : decode bytes pc = .ok (.lshl, 1))  (hn : pc + 1 = n) (k : Go p l e R s m args below meth c n0 Q cells slots h (mkF m n Ls (.long (x1 <<< (x2 &&& 0x3f).toInt64) :: st))) : Go p l e R s m args below meth c n0 Q cells slots h (mkF m pc Ls (.int x2 :: .long x1 :: st)) := by
  subst hn
  exact Go.via (fun T locs X _ t q => XS.lshl X.here C.x rfl (hb C.by hd) rfl q) k
theorem G.lshr (C : Cx p s m meth c Z y bytes maxL ret) {x1 : Int64} {x2 : Int32} (hd : decode bytes pc = .ok (.lshr, 1))  (hn : pc + 1 = n) (k : Go p l e R s m args below meth c n0 Q cells slots h (mkF m n Ls (.long (x1 >>> (x2 &&& 0x3f).toInt64) :: st))) : Go p l e R s m args below meth c n0 Q cells slots h (mkF m pc Ls (.int x2 :: .long x1 :: st)) := by
  subst hn
  exact Go.via (fun T locs X _ t q => XS.lshr X.here C.x rfl (hb C.by hd) rfl q) k
theorem G.lushr (C : Cx p s m meth c Z y bytes maxL ret) {x1 : Int64} {x2 : Int32} (hd : decode bytes pc = .ok (.lushr, 1))  (hn : pc + 1 = n) (k : Go p l e R s m args below meth c n0 Q cells slots h (mkF m n Ls (.long ((x1.toUInt64 >>> (x2 &&& 0x3f).toInt64.toUInt64).toInt64) :: st))) : Go p l e R s m args below meth c n0 Q cells slots h (mkF m pc Ls (.int x2 :: .long x1 :: st)) := by
  subst hn
  exact Go.via (fun T locs X _ t q => XS.lushr X.here C.x rfl (hb C.by hd) rfl q) k
theorem G.ineg (C : Cx p s m meth c Z y bytes maxL ret) {x : Int32} (hd : decode bytes pc = .ok (.ineg, 1))  (hn : pc + 1 = n) (k : Go p l e R s m args below meth c n0 Q cells slots h (mkF m n Ls (.int (-x) :: st))) : Go p l e R s m args below meth c n0 Q cells slots h (mkF m pc Ls (.int x :: st)) := by
  subst hn
  exact Go.via (fun T locs X _ t q => XS.ineg X.here C.x rfl (hb C.by hd) rfl q) k
theorem G.lneg (C : Cx p s m meth c Z y bytes maxL ret) {x : Int64} (hd : decode bytes pc = .ok (.lneg, 1))  (hn : pc + 1 = n) (k : Go p l e R s m args below meth c n0 Q cells slots h (mkF m n Ls (.long (-x) :: st))) : Go p l e R s m args below meth c n0 Q cells slots h (mkF m pc Ls (.long x :: st)) := by
  subst hn
  exact Go.via (fun T locs X _ t q => XS.lneg X.here C.x rfl (hb C.by hd) rfl q) k
theorem G.i2l (C : Cx p s m meth c Z y bytes maxL ret) {x : Int32} (hd : decode bytes pc = .ok (.i2l, 1))  (hn : pc + 1 = n) (k : Go p l e R s m args below meth c n0 Q cells slots h (mkF m n Ls (.long (x.toInt64) :: st))) : Go p l e R s m args below meth c n0 Q cells slots h (mkF m pc Ls (.int x :: st)) := by
  subst hn
  exact Go.via (fun T locs X _ t q => XS.i2l X.here C.x rfl (hb C.by hd) rfl q) k
theorem G.l2i (C : Cx p s m meth c Z y bytes maxL ret) {x : Int64} (hd : decode bytes pc = .ok (.l2i, 1))  (hn : pc + 1 = n) (k : Go p l e R s m args below meth c n0 Q cells slots h (mkF m n Ls (.int (x.toInt32) :: st))) : Go p l e R s m args below meth c n0 Q cells slots h (mkF m pc Ls (.long x :: st)) := by
  subst hn
  exact Go.via (fun T locs X _ t q => XS.l2i X.here C.x rfl (hb C.by hd) rfl q) k
theorem G.i2b (C : Cx p s m meth c Z y bytes maxL ret) {x : Int32} (hd : decode bytes pc = .ok (.i2b, 1))  (hn : pc + 1 = n) (k : Go p l e R s m args below meth c n0 Q cells slots h (mkF m n Ls (.int (x.toInt8.toInt32) :: st))) : Go p l e R s m args below meth c n0 Q cells slots h (mkF m pc Ls (.int x :: st)) := by
  subst hn
  exact Go.via (fun T locs X _ t q => XS.i2b X.here C.x rfl (hb C.by hd) rfl q) k
theorem G.i2s (C : Cx p s m meth c Z y bytes maxL ret) {x : Int32} (hd : decode bytes pc = .ok (.i2s, 1))  (hn : pc + 1 = n) (k : Go p l e R s m args below meth c n0 Q cells slots h (mkF m n Ls (.int (x.toInt16.toInt32) :: st))) : Go p l e R s m args below meth c n0 Q cells slots h (mkF m pc Ls (.int x :: st)) := by
  subst hn
  exact Go.via (fun T locs X _ t q => XS.i2s X.here C.x rfl (hb C.by hd) rfl q) k
theorem G.i2c (C : Cx p s m meth c Z y bytes maxL ret) {x : Int32} (hd : decode bytes pc = .ok (.i2c, 1))  (hn : pc + 1 = n) (k : Go p l e R s m args below meth c n0 Q cells slots h (mkF m n Ls (.int (x.toUInt32.toUInt16.toUInt32.toInt32) :: st))) : Go p l e R s m args below meth c n0 Q cells slots h (mkF m pc Ls (.int x :: st)) := by
  subst hn
  exact Go.via (fun T locs X _ t q => XS.i2c X.here C.x rfl (hb C.by hd) rfl q) k
theorem G.iconst (C : Cx p s m meth c Z y bytes maxL ret) {i : Int} (v : Int32) (hd : decode bytes pc = .ok (.iconst i, 1)) (hv : Int32.ofInt i = v) (hn : pc + 1 = n) (k : Go p l e R s m args below meth c n0 Q cells slots h (mkF m n Ls (.int v :: st))) : Go p l e R s m args below meth c n0 Q cells slots h (mkF m pc Ls (st)) := by
  subst hn hv
  exact Go.via (fun T locs X _ t q => XS.iconst X.here C.x rfl (hb C.by hd)  q) k
theorem G.bipush (C : Cx p s m meth c Z y bytes maxL ret) {i : Int} (v : Int32) (hd : decode bytes pc = .ok (.bipush i, 2)) (hv : (Int8.ofInt i).toInt32 = v) (hn : pc + 2 = n) (k : Go p l e R s m args below meth c n0 Q cells slots h (mkF m n Ls (.int v :: st))) : Go p l e R s m args below meth c n0 Q cells slots h (mkF m pc Ls (st)) := by
  subst hn hv
  exact Go.via (fun T locs X _ t q => XS.bipush X.here C.x rfl (hb C.by hd)  q) k
theorem G.sipush (C : Cx p s m meth c Z y bytes maxL ret) {i : Int} (v : Int32) (hd : decode bytes pc = .ok (.sipush i, 3)) (hv : (Int16.ofInt i).toInt32 = v) (hn : pc + 3 = n) (k : Go p l e R s m args below meth c n0 Q cells slots h (mkF m n Ls (.int v :: st))) : Go p l e R s m args below meth c n0 Q cells slots h (mkF m pc Ls (st)) := by
  subst hn hv
  exact Go.via (fun T locs X _ t q => XS.sipush X.here C.x rfl (hb C.by hd)  q) k
theorem G.lconst (C : Cx p s m meth c Z y bytes maxL ret) {i : Fin 2} (v : Int64) (hd : decode bytes pc = .ok (.lconst i, 1)) (hv : Int64.ofNat i = v) (hn : pc + 1 = n) (k : Go p l e R s m args below meth c n0 Q cells slots h (mkF m n Ls (.long v :: st))) : Go p l e R s m args below meth c n0 Q cells slots h (mkF m pc Ls (st)) := by
  subst hn hv
  exact Go.via (fun T locs X _ t q => XS.lconst X.here C.x rfl (hb C.by hd)  q) k
theorem G.aconst_null (C : Cx p s m meth c Z y bytes maxL ret)  (hd : decode bytes pc = .ok (.aconst_null, 1))  (hn : pc + 1 = n) (k : Go p l e R s m args below meth c n0 Q cells slots h (mkF m n Ls (.null :: st))) : Go p l e R s m args below meth c n0 Q cells slots h (mkF m pc Ls (st)) := by
  subst hn
  exact Go.via (fun T locs X _ t q => XS.aconstNull X.here C.x rfl (hb C.by hd)  q) k
theorem G.iload (C : Cx p s m meth c Z y bytes maxL ret) {k : Nat} {v : Int32} (hd : decode bytes pc = .ok (.iload k, 2)) (hl : Ls[k]? = some (.val (.int v)))  (hn : pc + 2 = n) (k : Go p l e R s m args below meth c n0 Q cells slots h (mkF m n Ls (.int v :: st))) : Go p l e R s m args below meth c n0 Q cells slots h (mkF m pc Ls (st)) := by
  subst hn
  exact Go.via (fun T locs X _ t q => XS.iload X.here C.x rfl (hb C.by hd) hl q) k
theorem G.iloadN (C : Cx p s m meth c Z y bytes maxL ret) {k : Fin 4} {v : Int32} (hd : decode bytes pc = .ok (.iload_n k, 1)) (hl : Ls[k.val]? = some (.val (.int v)))  (hn : pc + 1 = n) (k : Go p l e R s m args below meth c n0 Q cells slots h (mkF m n Ls (.int v :: st))) : Go p l e R s m args below meth c n0 Q cells slots h (mkF m pc Ls (st)) := by
  subst hn
  exact Go.via (fun T locs X _ t q => XS.iloadN X.here C.x rfl (hb C.by hd) hl q) k
theorem G.lload (C : Cx p s m meth c Z y bytes maxL ret) {k : Nat} {v : Int64} (hd : decode bytes pc = .ok (.lload k, 2)) (hl : Ls[k]? = some (.val (.long v)))  (hn : pc + 2 = n) (k : Go p l e R s m args below meth c n0 Q cells slots h (mkF m n Ls (.long v :: st))) : Go p l e R s m args below meth c n0 Q cells slots h (mkF m pc Ls (st)) := by
  subst hn
  exact Go.via (fun T locs X _ t q => XS.lload X.here C.x rfl (hb C.by hd) hl q) k
theorem G.lloadN (C : Cx p s m meth c Z y bytes maxL ret) {k : Fin 4} {v : Int64} (hd : decode bytes pc = .ok (.lload_n k, 1)) (hl : Ls[k.val]? = some (.val (.long v)))  (hn : pc + 1 = n) (k : Go p l e R s m args below meth c n0 Q cells slots h (mkF m n Ls (.long v :: st))) : Go p l e R s m args below meth c n0 Q cells slots h (mkF m pc Ls (st)) := by
  subst hn
  exact Go.via (fun T locs X _ t q => XS.lloadN X.here C.x rfl (hb C.by hd) hl q) k
theorem G.aload (C : Cx p s m meth c Z y bytes maxL ret) {k : Nat} {v : Value} (hd : decode bytes pc = .ok (.aload k, 2)) (hl : Ls[k]? = some (.val (v))) (hv : v.isRef = true) (hn : pc + 2 = n) (k : Go p l e R s m args below meth c n0 Q cells slots h (mkF m n Ls (v :: st))) : Go p l e R s m args below meth c n0 Q cells slots h (mkF m pc Ls (st)) := by
  subst hn
  exact Go.via (fun T locs X _ t q => XS.aload X.here C.x rfl (hb C.by hd) hl hv q) k
theorem G.aloadN (C : Cx p s m meth c Z y bytes maxL ret) {k : Fin 4} {v : Value} (hd : decode bytes pc = .ok (.aload_n k, 1)) (hl : Ls[k.val]? = some (.val (v))) (hv : v.isRef = true) (hn : pc + 1 = n) (k : Go p l e R s m args below meth c n0 Q cells slots h (mkF m n Ls (v :: st))) : Go p l e R s m args below meth c n0 Q cells slots h (mkF m pc Ls (st)) := by
  subst hn
  exact Go.via (fun T locs X _ t q => XS.aloadN X.here C.x rfl (hb C.by hd) hl hv q) k
theorem G.istore (C : Cx p s m meth c Z y bytes maxL ret) {k : Nat} {x : Int32} {l' : Array Slot} (hd : decode bytes pc = .ok (.istore k, 2))  (hl : storeLocals Ls k (.int x) = some l') (hn : pc + 2 = n) (kk : Go p l e R s m args below meth c n0 Q cells slots h (mkF m n l' (st))) : Go p l e R s m args below meth c n0 Q cells slots h (mkF m pc Ls (.int x :: st)) := by
  subst hn
  exact Go.via (fun T locs X _ t q => XS.istore X.here C.x rfl (hb C.by hd) rfl hl q) kk
theorem G.istoreZ (C : Cx p s m meth c Z y bytes maxL ret) {k : Nat} {x : Int32} {l' : Int32 → Array Slot} (hd : decode bytes pc = .ok (.istore k, 2)) (hl : ∀ z, storeLocals Ls k (.int z) = some (l' z)) (hn : pc + 2 = n) (kk : ∀ z, z = x → Go p l e R s m args below meth c n0 Q cells slots h (mkF m n (l' z) (st))) : Go p l e R s m args below meth c n0 Q cells slots h (mkF m pc Ls (.int x :: st)) :=
  G.istore C hd (hl x) hn (kk x rfl)
theorem G.istoreN (C : Cx p s m meth c Z y bytes maxL ret) {k : Fin 4} {x : Int32} {l' : Array Slot} (hd : decode bytes pc = .ok (.istore_n k, 1))  (hl : storeLocals Ls k.val (.int x) = some l') (hn : pc + 1 = n) (kk : Go p l e R s m args below meth c n0 Q cells slots h (mkF m n l' (st))) : Go p l e R s m args below meth c n0 Q cells slots h (mkF m pc Ls (.int x :: st)) := by
  subst hn
  exact Go.via (fun T locs X _ t q => XS.istoreN X.here C.x rfl (hb C.by hd) rfl hl q) kk
theorem G.istoreNZ (C : Cx p s m meth c Z y bytes maxL ret) {k : Fin 4} {x : Int32} {l' : Int32 → Array Slot} (hd : decode bytes pc = .ok (.istore_n k, 1)) (hl : ∀ z, storeLocals Ls k.val (.int z) = some (l' z)) (hn : pc + 1 = n) (kk : ∀ z, z = x → Go p l e R s m args below meth c n0 Q cells slots h (mkF m n (l' z) (st))) : Go p l e R s m args below meth c n0 Q cells slots h (mkF m pc Ls (.int x :: st)) :=
  G.istoreN C hd (hl x) hn (kk x rfl)
theorem G.lstore (C : Cx p s m meth c Z y bytes maxL ret) {k : Nat} {x : Int64} {l' : Array Slot} (hd : decode bytes pc = .ok (.lstore k, 2))  (hl : storeLocals Ls k (.long x) = some l') (hn : pc + 2 = n) (kk : Go p l e R s m args below meth c n0 Q cells slots h (mkF m n l' (st))) : Go p l e R s m args below meth c n0 Q cells slots h (mkF m pc Ls (.long x :: st)) := by
  subst hn
  exact Go.via (fun T locs X _ t q => XS.lstore X.here C.x rfl (hb C.by hd) rfl hl q) kk
theorem G.lstoreZ (C : Cx p s m meth c Z y bytes maxL ret) {k : Nat} {x : Int64} {l' : Int64 → Array Slot} (hd : decode bytes pc = .ok (.lstore k, 2)) (hl : ∀ z, storeLocals Ls k (.long z) = some (l' z)) (hn : pc + 2 = n) (kk : ∀ z, z = x → Go p l e R s m args below meth c n0 Q cells slots h (mkF m n (l' z) (st))) : Go p l e R s m args below meth c n0 Q cells slots h (mkF m pc Ls (.long x :: st)) :=
  G.lstore C hd (hl x) hn (kk x rfl)
theorem G.lstoreN (C : Cx p s m meth c Z y bytes maxL ret) {k : Fin 4} {x : Int64} {l' : Array Slot} (hd : decode bytes pc = .ok (.lstore_n k, 1))  (hl : storeLocals Ls k.val (.long x) = some l') (hn : pc + 1 = n) (kk : Go p l e R s m args below meth c n0 Q cells slots h (mkF m n l' (st))) : Go p l e R s m args below meth c n0 Q cells slots h (mkF m pc Ls (.long x :: st)) := by
  subst hn
  exact Go.via (fun T locs X _ t q => XS.lstoreN X.here C.x rfl (hb C.by hd) rfl hl q) kk
theorem G.lstoreNZ (C : Cx p s m meth c Z y bytes maxL ret) {k : Fin 4} {x : Int64} {l' : Int64 → Array Slot} (hd : decode bytes pc = .ok (.lstore_n k, 1)) (hl : ∀ z, storeLocals Ls k.val (.long z) = some (l' z)) (hn : pc + 1 = n) (kk : ∀ z, z = x → Go p l e R s m args below meth c n0 Q cells slots h (mkF m n (l' z) (st))) : Go p l e R s m args below meth c n0 Q cells slots h (mkF m pc Ls (.long x :: st)) :=
  G.lstoreN C hd (hl x) hn (kk x rfl)
theorem G.astore (C : Cx p s m meth c Z y bytes maxL ret) {k : Nat} {x : Value} {l' : Array Slot} (hd : decode bytes pc = .ok (.astore k, 2)) (hv : x.isRef = true) (hl : storeLocals Ls k (x) = some l') (hn : pc + 2 = n) (kk : Go p l e R s m args below meth c n0 Q cells slots h (mkF m n l' (st))) : Go p l e R s m args below meth c n0 Q cells slots h (mkF m pc Ls (x :: st)) := by
  subst hn
  exact Go.via (fun T locs X _ t q => XS.astore X.here C.x rfl (hb C.by hd) rfl hv hl q) kk
theorem G.astoreN (C : Cx p s m meth c Z y bytes maxL ret) {k : Fin 4} {x : Value} {l' : Array Slot} (hd : decode bytes pc = .ok (.astore_n k, 1)) (hv : x.isRef = true) (hl : storeLocals Ls k.val (x) = some l') (hn : pc + 1 = n) (kk : Go p l e R s m args below meth c n0 Q cells slots h (mkF m n l' (st))) : Go p l e R s m args below meth c n0 Q cells slots h (mkF m pc Ls (x :: st)) := by
  subst hn
  exact Go.via (fun T locs X _ t q => XS.astoreN X.here C.x rfl (hb C.by hd) rfl hv hl q) kk
theorem G.iinc (C : Cx p s m meth c Z y bytes maxL ret) {k : Nat} {cst : Int} (v : Int32) {x : Int32} {l' : Array Slot} (hd : decode bytes pc = .ok (.iinc k cst, 3)) (hv : Int32.ofInt cst = v) (hx : Ls[k]? = some (.val (.int x))) (hl : storeLocals Ls k (.int (x + v)) = some l') (hn : pc + 3 = n) (kk : Go p l e R s m args below meth c n0 Q cells slots h (mkF m n l' (st))) : Go p l e R s m args below meth c n0 Q cells slots h (mkF m pc Ls (st)) := by
  subst hn hv
  exact Go.via (fun T locs X _ t q => XS.iinc X.here C.x rfl (hb C.by hd) hx hl q) kk
theorem G.iincZ (C : Cx p s m meth c Z y bytes maxL ret) {k : Nat} {cst : Int} (v : Int32) {x : Int32} {l' : Int32 → Array Slot} (hd : decode bytes pc = .ok (.iinc k cst, 3)) (hv : Int32.ofInt cst = v) (hx : Ls[k]? = some (.val (.int x))) (hl : ∀ z, storeLocals Ls k (.int z) = some (l' z)) (hn : pc + 3 = n) (kk : ∀ z, z = x + v → Go p l e R s m args below meth c n0 Q cells slots h (mkF m n (l' z) (st))) : Go p l e R s m args below meth c n0 Q cells slots h (mkF m pc Ls (st)) :=
  G.iinc C v hd hv hx (hl _) hn (kk _ rfl)
theorem G.iincK (C : Cx p s m meth c Z y bytes maxL ret) {k : Nat} {cst : Int} (v : Int32) {x : Int32} (z : Int32) {l' : Array Slot} (hd : decode bytes pc = .ok (.iinc k cst, 3)) (hv : Int32.ofInt cst = v) (hx : Ls[k]? = some (.val (.int x))) (hz : x + v = z) (hl : storeLocals Ls k (.int z) = some l') (hn : pc + 3 = n) (kk : Go p l e R s m args below meth c n0 Q cells slots h (mkF m n l' (st))) : Go p l e R s m args below meth c n0 Q cells slots h (mkF m pc Ls (st)) := by
  subst hz
  exact G.iinc C v hd hv hx hl hn kk
theorem G.name_int {x : Int32} (kk : ∀ z, z = x → Go p l e R s m args below meth c n0 Q cells slots h (mkF m pc Ls (.int z :: st))) : Go p l e R s m args below meth c n0 Q cells slots h (mkF m pc Ls (.int x :: st)) := kk x rfl
theorem G.name_long {x : Int64} (kk : ∀ z, z = x → Go p l e R s m args below meth c n0 Q cells slots h (mkF m pc Ls (.long z :: st))) : Go p l e R s m args below meth c n0 Q cells slots h (mkF m pc Ls (.long x :: st)) := kk x rfl
theorem G.fold_int {x z : Int32} (hz : x = z) (kk : Go p l e R s m args below meth c n0 Q cells slots h (mkF m pc Ls (.int z :: st))) : Go p l e R s m args below meth c n0 Q cells slots h (mkF m pc Ls (.int x :: st)) := hz ▸ kk
theorem G.fold_long {x z : Int64} (hz : x = z) (kk : Go p l e R s m args below meth c n0 Q cells slots h (mkF m pc Ls (.long z :: st))) : Go p l e R s m args below meth c n0 Q cells slots h (mkF m pc Ls (.long x :: st)) := hz ▸ kk
theorem G.dup (C : Cx p s m meth c Z y bytes maxL ret) {x : Value} (hd : decode bytes pc = .ok (.dup, 1)) (hc : x.category = 1) (hn : pc + 1 = n) (k : Go p l e R s m args below meth c n0 Q cells slots h (mkF m n Ls (x :: x :: st))) : Go p l e R s m args below meth c n0 Q cells slots h (mkF m pc Ls (x :: st)) := by
  subst hn
  exact Go.via (fun T locs X _ t q => XS.dup X.here C.x rfl (hb C.by hd) rfl hc q) k
theorem G.pop (C : Cx p s m meth c Z y bytes maxL ret) {x : Value} (hd : decode bytes pc = .ok (.pop, 1)) (hc : x.category = 1) (hn : pc + 1 = n) (k : Go p l e R s m args below meth c n0 Q cells slots h (mkF m n Ls (st))) : Go p l e R s m args below meth c n0 Q cells slots h (mkF m pc Ls (x :: st)) := by
  subst hn
  exact Go.via (fun T locs X _ t q => XS.pop X.here C.x rfl (hb C.by hd) rfl hc q) k
theorem G.dup_x1 (C : Cx p s m meth c Z y bytes maxL ret) {x x2 : Value} (hd : decode bytes pc = .ok (.dup_x1, 1)) (hc : x.category = 1) (hc2 : x2.category = 1) (hn : pc + 1 = n) (k : Go p l e R s m args below meth c n0 Q cells slots h (mkF m n Ls (x :: x2 :: x :: st))) : Go p l e R s m args below meth c n0 Q cells slots h (mkF m pc Ls (x :: x2 :: st)) := by
  subst hn
  exact Go.via (fun T locs X _ t q => XS.dupX1 X.here C.x rfl (hb C.by hd) rfl hc hc2 q) k
theorem G.dup2 (C : Cx p s m meth c Z y bytes maxL ret) {x x2 : Value} (hd : decode bytes pc = .ok (.dup2, 1)) (hc : x.category = 1) (hc2 : x2.category = 1) (hn : pc + 1 = n) (k : Go p l e R s m args below meth c n0 Q cells slots h (mkF m n Ls (x :: x2 :: x :: x2 :: st))) : Go p l e R s m args below meth c n0 Q cells slots h (mkF m pc Ls (x :: x2 :: st)) := by
  subst hn
  exact Go.via (fun T locs X _ t q => XT.dup2 X.here C.x rfl (hb C.by hd) rfl hc hc2 q) k
theorem G.dup2L (C : Cx p s m meth c Z y bytes maxL ret) {x : Int64} (hd : decode bytes pc = .ok (.dup2, 1)) (hn : pc + 1 = n) (k : Go p l e R s m args below meth c n0 Q cells slots h (mkF m n Ls (.long x :: .long x :: st))) : Go p l e R s m args below meth c n0 Q cells slots h (mkF m pc Ls (.long x :: st)) := by
  subst hn
  exact Go.via (fun T locs X _ t q => XT.dup2L X.here C.x rfl (hb C.by hd) rfl q) k
theorem G.goto (C : Cx p s m meth c Z y bytes maxL ret) {o : Int} (hd : decode bytes pc = .ok (.goto o, 3)) (ho : 0 ≤ (pc : Int) + o) (hp : ((pc : Int) + o).toNat = n) (k : Go p l e R s m args below meth c n0 Q cells slots h (mkF m n Ls (st))) : Go p l e R s m args below meth c n0 Q cells slots h (mkF m pc Ls (st)) :=
  Go.via (fun T locs X _ t q => XS.goto X.here C.x rfl rfl (hb C.by hd) ho hp q) k
theorem lt_i {x y : Int32} : x < y ↔ x.toInt < y.toInt := Int32.lt_iff_toInt_lt
theorem lt_l {x y : Int64} : x < y ↔ x.toInt < y.toInt := Int64.lt_iff_toInt_lt
theorem le_i {x y : Int32} : x ≤ y ↔ x.toInt ≤ y.toInt := Int32.le_iff_toInt_le
theorem le_l {x y : Int64} : x ≤ y ↔ x.toInt ≤ y.toInt := Int64.le_iff_toInt_le
theorem ich_lt {x1 x2 : Int32} : (x1.toInt < x2.toInt ∧ if_icmp.holds .lt x1 x2 = true) ∨ (x2.toInt ≤ x1.toInt ∧ if_icmp.holds .lt x1 x2 = false) := by
  by_cases q : x1.toInt < x2.toInt
  · exact Or.inl ⟨q, by simp [if_icmp.holds, lt_i, le_i, Int32.lt_iff_toInt_lt, Int32.le_iff_toInt_le, q]⟩
  · exact Or.inr ⟨by omega, by first | (simp [if_icmp.holds, lt_i, le_i, Int32.lt_iff_toInt_lt, Int32.le_iff_toInt_le, q]; done) | (simp [if_icmp.holds, lt_i, le_i, Int32.lt_iff_toInt_lt, Int32.le_iff_toInt_le]; omega)⟩
theorem G.icmp_lt (C : Cx p s m meth c Z y bytes maxL ret) {x1 x2 : Int32} {o : Int} {A B : Int} (hA : x1.toInt = A) (hB : x2.toInt = B) (hd : decode bytes pc = .ok (.if_icmp .lt o, 3)) (ho : 0 ≤ (pc : Int) + o) (hp : ((pc : Int) + o).toNat = n') (hn : pc + 3 = n) (kt : A < B → Go p l e R s m args below meth c n0 Q cells slots h (mkF m n' Ls (st))) (kf : B ≤ A → Go p l e R s m args below meth c n0 Q cells slots h (mkF m n Ls (st))) : Go p l e R s m args below meth c n0 Q cells slots h (mkF m pc Ls (.int x2 :: .int x1 :: st)) := by
  subst hn hA hB
  rcases ich_lt (x1 := x1) (x2 := x2) with ⟨q, r⟩ | ⟨q, r⟩
  · exact Go.via (fun T locs X _ t q => XS.icmpYes X.here C.x rfl rfl (hb C.by hd) rfl r ho hp q) (kt q)
  · exact Go.via (fun T locs X _ t q => XS.icmpNo X.here C.x rfl (hb C.by hd) rfl r q) (kf q)
theorem G.if_lt (C : Cx p s m meth c Z y bytes maxL ret) {x1 : Int32} {o : Int} {A : Int} (hA : x1.toInt = A) (hd : decode bytes pc = .ok (.ifCond .lt o, 3)) (ho : 0 ≤ (pc : Int) + o) (hp : ((pc : Int) + o).toNat = n') (hn : pc + 3 = n) (kt : A < 0 → Go p l e R s m args below meth c n0 Q cells slots h (mkF m n' Ls (st))) (kf : 0 ≤ A → Go p l e R s m args below meth c n0 Q cells slots h (mkF m n Ls (st))) : Go p l e R s m args below meth c n0 Q cells slots h (mkF m pc Ls (.int x1 :: st)) := by
  subst hn hA
  rcases ich_lt (x1 := x1) (x2 := 0) with ⟨q, r⟩ | ⟨q, r⟩
  · exact Go.via (fun T locs X _ t q => XS.ifYes X.here C.x rfl rfl (hb C.by hd) rfl ((if0 _ _).trans r) ho hp q) (kt q)
  · exact Go.via (fun T locs X _ t q => XS.ifNo X.here C.x rfl (hb C.by hd) rfl ((if0 _ _).trans r) q) (kf q)
theorem lch_lt (x1 x2 : Int64) : ((lcmpW x1 x2).toInt < 0 → x1.toInt < x2.toInt) ∧ (0 ≤ (lcmpW x1 x2).toInt → x2.toInt ≤ x1.toInt) := by
  have q := c_lcmp x1 x2
  have z : ∀ x : Int32, x = 0 ↔ x.toInt = 0 := fun x => ⟨fun q => by rw [q]; rfl, fun q => Int32.toInt_inj.mp q⟩
  have w : x1 = x2 ↔ x1.toInt = x2.toInt := Int64.toInt_inj.symm
  
  constructor <;> intro r <;> omega
theorem G.lcmp_lt (C : Cx p s m meth c Z y bytes maxL ret) {x1 x2 : Int64} {o : Int} {A B : Int} (hA : x1.toInt = A) (hB : x2.toInt = B) (hc : decode bytes pc = .ok (.lcmp, 1)) (hd : decode bytes (pc + 1) = .ok (.ifCond .lt o, 3)) (ho : 0 ≤ ((pc + 1 : Nat) : Int) + o) (hp : (((pc + 1 : Nat) : Int) + o).toNat = n') (hn : pc + 4 = n) (kt : A < B → Go p l e R s m args below meth c n0 Q cells slots h (mkF m n' Ls (st))) (kf : B ≤ A → Go p l e R s m args below meth c n0 Q cells slots h (mkF m n Ls (st))) : Go p l e R s m args below meth c n0 Q cells slots h (mkF m pc Ls (.long x2 :: .long x1 :: st)) := by
  subst hn hA hB
  refine Go.via (fun T locs X _ t q => XS.lcmp X.here C.x rfl (hb C.by hc) rfl q) ?_
  exact G.if_lt C (A := (lcmpW x1 x2).toInt) rfl (pc := pc + 1) hd ho hp (n := pc + 4) rfl (fun q => kt ((lch_lt x1 x2).1 q)) (fun q => kf ((lch_lt x1 x2).2 q))
theorem ich_ge {x1 x2 : Int32} : (x2.toInt ≤ x1.toInt ∧ if_icmp.holds .ge x1 x2 = true) ∨ (x1.toInt < x2.toInt ∧ if_icmp.holds .ge x1 x2 = false) := by
  by_cases q : x2.toInt ≤ x1.toInt
  · exact Or.inl ⟨q, by simp [if_icmp.holds, lt_i, le_i, Int32.lt_iff_toInt_lt, Int32.le_iff_toInt_le, q]⟩
  · exact Or.inr ⟨by omega, by first | (simp [if_icmp.holds, lt_i, le_i, Int32.lt_iff_toInt_lt, Int32.le_iff_toInt_le, q]; done) | (simp [if_icmp.holds, lt_i, le_i, Int32.lt_iff_toInt_lt, Int32.le_iff_toInt_le]; omega)⟩
theorem G.icmp_ge (C : Cx p s m meth c Z y bytes maxL ret) {x1 x2 : Int32} {o : Int} {A B : Int} (hA : x1.toInt = A) (hB : x2.toInt = B) (hd : decode bytes pc = .ok (.if_icmp .ge o, 3)) (ho : 0 ≤ (pc : Int) + o) (hp : ((pc : Int) + o).toNat = n') (hn : pc + 3 = n) (kt : B ≤ A → Go p l e R s m args below meth c n0 Q cells slots h (mkF m n' Ls (st))) (kf : A < B → Go p l e R s m args below meth c n0 Q cells slots h (mkF m n Ls (st))) : Go p l e R s m args below meth c n0 Q cells slots h (mkF m pc Ls (.int x2 :: .int x1 :: st)) := by
  subst hn hA hB
  rcases ich_ge (x1 := x1) (x2 := x2) with ⟨q, r⟩ | ⟨q, r⟩
  · exact Go.via (fun T locs X _ t q => XS.icmpYes X.here C.x rfl rfl (hb C.by hd) rfl r ho hp q) (kt q)
  · exact Go.via (fun T locs X _ t q => XS.icmpNo X.here C.x rfl (hb C.by hd) rfl r q) (kf q)
theorem G.if_ge (C : Cx p s m meth c Z y bytes maxL ret) {x1 : Int32} {o : Int} {A : Int} (hA : x1.toInt = A) (hd : decode bytes pc = .ok (.ifCond .ge o, 3)) (ho : 0 ≤ (pc : Int) + o) (hp : ((pc : Int) + o).toNat = n') (hn : pc + 3 = n) (kt : 0 ≤ A → Go p l e R s m args below meth c n0 Q cells slots h (mkF m n' Ls (st))) (kf : A < 0 → Go p l e R s m args below meth c n0 Q cells slots h (mkF m n Ls (st))) : Go p l e R s m args below meth c n0 Q cells slots h (mkF m pc Ls (.int x1 :: st)) := by
  subst hn hA
  rcases ich_ge (x1 := x1) (x2 := 0) with ⟨q, r⟩ | ⟨q, r⟩
  · exact Go.via (fun T locs X _ t q => XS.ifYes X.here C.x rfl rfl (hb C.by hd) rfl ((if0 _ _).trans r) ho hp q) (kt q)
  · exact Go.via (fun T locs X _ t q => XS.ifNo X.here C.x rfl (hb C.by hd) rfl ((if0 _ _).trans r) q) (kf q)
theorem lch_ge (x1 x2 : Int64) : (0 ≤ (lcmpW x1 x2).toInt → x2.toInt ≤ x1.toInt) ∧ ((lcmpW x1 x2).toInt < 0 → x1.toInt < x2.toInt) := by
  have q := c_lcmp x1 x2
  have z : ∀ x : Int32, x = 0 ↔ x.toInt = 0 := fun x => ⟨fun q => by rw [q]; rfl, fun q => Int32.toInt_inj.mp q⟩
  have w : x1 = x2 ↔ x1.toInt = x2.toInt := Int64.toInt_inj.symm
  
  constructor <;> intro r <;> omega
theorem G.lcmp_ge (C : Cx p s m meth c Z y bytes maxL ret) {x1 x2 : Int64} {o : Int} {A B : Int} (hA : x1.toInt = A) (hB : x2.toInt = B) (hc : decode bytes pc = .ok (.lcmp, 1)) (hd : decode bytes (pc + 1) = .ok (.ifCond .ge o, 3)) (ho : 0 ≤ ((pc + 1 : Nat) : Int) + o) (hp : (((pc + 1 : Nat) : Int) + o).toNat = n') (hn : pc + 4 = n) (kt : B ≤ A → Go p l e R s m args below meth c n0 Q cells slots h (mkF m n' Ls (st))) (kf : A < B → Go p l e R s m args below meth c n0 Q cells slots h (mkF m n Ls (st))) : Go p l e R s m args below meth c n0 Q cells slots h (mkF m pc Ls (.long x2 :: .long x1 :: st)) := by
  subst hn hA hB
  refine Go.via (fun T locs X _ t q => XS.lcmp X.here C.x rfl (hb C.by hc) rfl q) ?_
  exact G.if_ge C (A := (lcmpW x1 x2).toInt) rfl (pc := pc + 1) hd ho hp (n := pc + 4) rfl (fun q => kt ((lch_ge x1 x2).1 q)) (fun q => kf ((lch_ge x1 x2).2 q))
theorem ich_gt {x1 x2 : Int32} : (x2.toInt < x1.toInt ∧ if_icmp.holds .gt x1 x2 = true) ∨ (x1.toInt ≤ x2.toInt ∧ if_icmp.holds .gt x1 x2 = false) := by
  by_cases q : x2.toInt < x1.toInt
  · exact Or.inl ⟨q, by simp [if_icmp.holds, lt_i, le_i, Int32.lt_iff_toInt_lt, Int32.le_iff_toInt_le, q]⟩
  · exact Or.inr ⟨by omega, by first | (simp [if_icmp.holds, lt_i, le_i, Int32.lt_iff_toInt_lt, Int32.le_iff_toInt_le, q]; done) | (simp [if_icmp.holds, lt_i, le_i, Int32.lt_iff_toInt_lt, Int32.le_iff_toInt_le]; omega)⟩
theorem G.icmp_gt (C : Cx p s m meth c Z y bytes maxL ret) {x1 x2 : Int32} {o : Int} {A B : Int} (hA : x1.toInt = A) (hB : x2.toInt = B) (hd : decode bytes pc = .ok (.if_icmp .gt o, 3)) (ho : 0 ≤ (pc : Int) + o) (hp : ((pc : Int) + o).toNat = n') (hn : pc + 3 = n) (kt : B < A → Go p l e R s m args below meth c n0 Q cells slots h (mkF m n' Ls (st))) (kf : A ≤ B → Go p l e R s m args below meth c n0 Q cells slots h (mkF m n Ls (st))) : Go p l e R s m args below meth c n0 Q cells slots h (mkF m pc Ls (.int x2 :: .int x1 :: st)) := by
  subst hn hA hB
  rcases ich_gt (x1 := x1) (x2 := x2) with ⟨q, r⟩ | ⟨q, r⟩
  · exact Go.via (fun T locs X _ t q => XS.icmpYes X.here C.x rfl rfl (hb C.by hd) rfl r ho hp q) (kt q)
  · exact Go.via (fun T locs X _ t q => XS.icmpNo X.here C.x rfl (hb C.by hd) rfl r q) (kf q)
theorem G.if_gt (C : Cx p s m meth c Z y bytes maxL ret) {x1 : Int32} {o : Int} {A : Int} (hA : x1.toInt = A) (hd : decode bytes pc = .ok (.ifCond .gt o, 3)) (ho : 0 ≤ (pc : Int) + o) (hp : ((pc : Int) + o).toNat = n') (hn : pc + 3 = n) (kt : 0 < A → Go p l e R s m args below meth c n0 Q cells slots h (mkF m n' Ls (st))) (kf : A ≤ 0 → Go p l e R s m args below meth c n0 Q cells slots h (mkF m n Ls (st))) : Go p l e R s m args below meth c n0 Q cells slots h (mkF m pc Ls (.int x1 :: st)) := by
  subst hn hA
  rcases ich_gt (x1 := x1) (x2 := 0) with ⟨q, r⟩ | ⟨q, r⟩
  · exact Go.via (fun T locs X _ t q => XS.ifYes X.here C.x rfl rfl (hb C.by hd) rfl ((if0 _ _).trans r) ho hp q) (kt q)
  · exact Go.via (fun T locs X _ t q => XS.ifNo X.here C.x rfl (hb C.by hd) rfl ((if0 _ _).trans r) q) (kf q)
theorem lch_gt (x1 x2 : Int64) : (0 < (lcmpW x1 x2).toInt → x2.toInt < x1.toInt) ∧ ((lcmpW x1 x2).toInt ≤ 0 → x1.toInt ≤ x2.toInt) := by
  have q := c_lcmp x1 x2
  have z : ∀ x : Int32, x = 0 ↔ x.toInt = 0 := fun x => ⟨fun q => by rw [q]; rfl, fun q => Int32.toInt_inj.mp q⟩
  have w : x1 = x2 ↔ x1.toInt = x2.toInt := Int64.toInt_inj.symm
  
  constructor <;> intro r <;> omega
theorem G.lcmp_gt (C : Cx p s m meth c Z y bytes maxL ret) {x1 x2 : Int64} {o : Int} {A B : Int} (hA : x1.toInt = A) (hB : x2.toInt = B) (hc : decode bytes pc = .ok (.lcmp, 1)) (hd : decode bytes (pc + 1) = .ok (.ifCond .gt o, 3)) (ho : 0 ≤ ((pc + 1 : Nat) : Int) + o) (hp : (((pc + 1 : Nat) : Int) + o).toNat = n') (hn : pc + 4 = n) (kt : B < A → Go p l e R s m args below meth c n0 Q cells slots h (mkF m n' Ls (st))) (kf : A ≤ B → Go p l e R s m args below meth c n0 Q cells slots h (mkF m n Ls (st))) : Go p l e R s m args below meth c n0 Q cells slots h (mkF m pc Ls (.long x2 :: .long x1 :: st)) := by
  subst hn hA hB
  refine Go.via (fun T locs X _ t q => XS.lcmp X.here C.x rfl (hb C.by hc) rfl q) ?_
  exact G.if_gt C (A := (lcmpW x1 x2).toInt) rfl (pc := pc + 1) hd ho hp (n := pc + 4) rfl (fun q => kt ((lch_gt x1 x2).1 q)) (fun q => kf ((lch_gt x1 x2).2 q))
theorem ich_le {x1 x2 : Int32} : (x1.toInt ≤ x2.toInt ∧ if_icmp.holds .le x1 x2 = true) ∨ (x2.toInt < x1.toInt ∧ if_icmp.holds .le x1 x2 = false) := by
  by_cases q : x1.toInt ≤ x2.toInt
  · exact Or.inl ⟨q, by simp [if_icmp.holds, lt_i, le_i, Int32.lt_iff_toInt_lt, Int32.le_iff_toInt_le, q]⟩
  · exact Or.inr ⟨by omega, by first | (simp [if_icmp.holds, lt_i, le_i, Int32.lt_iff_toInt_lt, Int32.le_iff_toInt_le, q]; done) | (simp [if_icmp.holds, lt_i, le_i, Int32.lt_iff_toInt_lt, Int32.le_iff_toInt_le]; omega)⟩
theorem G.icmp_le (C : Cx p s m meth c Z y bytes maxL ret) {x1 x2 : Int32} {o : Int} {A B : Int} (hA : x1.toInt = A) (hB : x2.toInt = B) (hd : decode bytes pc = .ok (.if_icmp .le o, 3)) (ho : 0 ≤ (pc : Int) + o) (hp : ((pc : Int) + o).toNat = n') (hn : pc + 3 = n) (kt : A ≤ B → Go p l e R s m args below meth c n0 Q cells slots h (mkF m n' Ls (st))) (kf : B < A → Go p l e R s m args below meth c n0 Q cells slots h (mkF m n Ls (st))) : Go p l e R s m args below meth c n0 Q cells slots h (mkF m pc Ls (.int x2 :: .int x1 :: st)) := by
  subst hn hA hB
  rcases ich_le (x1 := x1) (x2 := x2) with ⟨q, r⟩ | ⟨q, r⟩
  · exact Go.via (fun T locs X _ t q => XS.icmpYes X.here C.x rfl rfl (hb C.by hd) rfl r ho hp q) (kt q)
  · exact Go.via (fun T locs X _ t q => XS.icmpNo X.here C.x rfl (hb C.by hd) rfl r q) (kf q)
theorem G.if_le (C : Cx p s m meth c Z y bytes maxL ret) {x1 : Int32} {o : Int} {A : Int} (hA : x1.toInt = A) (hd : decode bytes pc = .ok (.ifCond .le o, 3)) (ho : 0 ≤ (pc : Int) + o) (hp : ((pc : Int) + o).toNat = n') (hn : pc + 3 = n) (kt : A ≤ 0 → Go p l e R s m args below meth c n0 Q cells slots h (mkF m n' Ls (st))) (kf : 0 < A → Go p l e R s m args below meth c n0 Q cells slots h (mkF m n Ls (st))) : Go p l e R s m args below meth c n0 Q cells slots h (mkF m pc Ls (.int x1 :: st)) := by
  subst hn hA
  rcases ich_le (x1 := x1) (x2 := 0) with ⟨q, r⟩ | ⟨q, r⟩
  · exact Go.via (fun T locs X _ t q => XS.ifYes X.here C.x rfl rfl (hb C.by hd) rfl ((if0 _ _).trans r) ho hp q) (kt q)
  · exact Go.via (fun T locs X _ t q => XS.ifNo X.here C.x rfl (hb C.by hd) rfl ((if0 _ _).trans r) q) (kf q)
theorem lch_le (x1 x2 : Int64) : ((lcmpW x1 x2).toInt ≤ 0 → x1.toInt ≤ x2.toInt) ∧ (0 < (lcmpW x1 x2).toInt → x2.toInt < x1.toInt) := by
  have q := c_lcmp x1 x2
  have z : ∀ x : Int32, x = 0 ↔ x.toInt = 0 := fun x => ⟨fun q => by rw [q]; rfl, fun q => Int32.toInt_inj.mp q⟩
  have w : x1 = x2 ↔ x1.toInt = x2.toInt := Int64.toInt_inj.symm
  
  constructor <;> intro r <;> omega
theorem G.lcmp_le (C : Cx p s m meth c Z y bytes maxL ret) {x1 x2 : Int64} {o : Int} {A B : Int} (hA : x1.toInt = A) (hB : x2.toInt = B) (hc : decode bytes pc = .ok (.lcmp, 1)) (hd : decode bytes (pc + 1) = .ok (.ifCond .le o, 3)) (ho : 0 ≤ ((pc + 1 : Nat) : Int) + o) (hp : (((pc + 1 : Nat) : Int) + o).toNat = n') (hn : pc + 4 = n) (kt : A ≤ B → Go p l e R s m args below meth c n0 Q cells slots h (mkF m n' Ls (st))) (kf : B < A → Go p l e R s m args below meth c n0 Q cells slots h (mkF m n Ls (st))) : Go p l e R s m args below meth c n0 Q cells slots h (mkF m pc Ls (.long x2 :: .long x1 :: st)) := by
  subst hn hA hB
  refine Go.via (fun T locs X _ t q => XS.lcmp X.here C.x rfl (hb C.by hc) rfl q) ?_
  exact G.if_le C (A := (lcmpW x1 x2).toInt) rfl (pc := pc + 1) hd ho hp (n := pc + 4) rfl (fun q => kt ((lch_le x1 x2).1 q)) (fun q => kf ((lch_le x1 x2).2 q))
theorem ich_eq {x1 x2 : Int32} : (x1 = x2 ∧ if_icmp.holds .eq x1 x2 = true) ∨ (x1 ≠ x2 ∧ if_icmp.holds .eq x1 x2 = false) := by
  by_cases q : x1 = x2 <;> simp [if_icmp.holds, q]
theorem G.icmp_eq (C : Cx p s m meth c Z y bytes maxL ret) {x1 x2 : Int32} {o : Int} {A B : Int} (hA : x1.toInt = A) (hB : x2.toInt = B) (hd : decode bytes pc = .ok (.if_icmp .eq o, 3)) (ho : 0 ≤ (pc : Int) + o) (hp : ((pc : Int) + o).toNat = n') (hn : pc + 3 = n) (kt : x1 = x2 → A = B → Go p l e R s m args below meth c n0 Q cells slots h (mkF m n' Ls (st))) (kf : x1 ≠ x2 → A ≠ B → Go p l e R s m args below meth c n0 Q cells slots h (mkF m n Ls (st))) : Go p l e R s m args below meth c n0 Q cells slots h (mkF m pc Ls (.int x2 :: .int x1 :: st)) := by
  subst hn hA hB
  rcases ich_eq (x1 := x1) (x2 := x2) with ⟨q, r⟩ | ⟨q, r⟩
  · exact Go.via (fun T locs X _ t q => XS.icmpYes X.here C.x rfl rfl (hb C.by hd) rfl r ho hp q) (kt q (congrArg _ q))
  · exact Go.via (fun T locs X _ t q => XS.icmpNo X.here C.x rfl (hb C.by hd) rfl r q) (kf q (fun r => q (Int32.toInt_inj.mp r)))
theorem G.if_eq (C : Cx p s m meth c Z y bytes maxL ret) {x1 : Int32} {o : Int} {A : Int} (hA : x1.toInt = A) (hd : decode bytes pc = .ok (.ifCond .eq o, 3)) (ho : 0 ≤ (pc : Int) + o) (hp : ((pc : Int) + o).toNat = n') (hn : pc + 3 = n) (kt : x1 = 0 → A = 0 → Go p l e R s m args below meth c n0 Q cells slots h (mkF m n' Ls (st))) (kf : x1 ≠ 0 → A ≠ 0 → Go p l e R s m args below meth c n0 Q cells slots h (mkF m n Ls (st))) : Go p l e R s m args below meth c n0 Q cells slots h (mkF m pc Ls (.int x1 :: st)) := by
  subst hn hA
  rcases ich_eq (x1 := x1) (x2 := 0) with ⟨q, r⟩ | ⟨q, r⟩
  · exact Go.via (fun T locs X _ t q => XS.ifYes X.here C.x rfl rfl (hb C.by hd) rfl ((if0 _ _).trans r) ho hp q) (kt q (congrArg Int32.toInt q))
  · exact Go.via (fun T locs X _ t q => XS.ifNo X.here C.x rfl (hb C.by hd) rfl ((if0 _ _).trans r) q) (kf q (fun r => q (Int32.toInt_inj.mp r)))
theorem lch_eq (x1 x2 : Int64) : ((lcmpW x1 x2) = 0 → x1 = x2) ∧ ((lcmpW x1 x2) ≠ 0 → x1 ≠ x2) := by
  have q := c_lcmp x1 x2
  have z : ∀ x : Int32, x = 0 ↔ x.toInt = 0 := fun x => ⟨fun q => by rw [q]; rfl, fun q => Int32.toInt_inj.mp q⟩
  have w : x1 = x2 ↔ x1.toInt = x2.toInt := Int64.toInt_inj.symm
  simp only [ne_eq, z, w]
  constructor <;> intro r <;> omega
theorem G.lcmp_eq (C : Cx p s m meth c Z y bytes maxL ret) {x1 x2 : Int64} {o : Int} {A B : Int} (hA : x1.toInt = A) (hB : x2.toInt = B) (hc : decode bytes pc = .ok (.lcmp, 1)) (hd : decode bytes (pc + 1) = .ok (.ifCond .eq o, 3)) (ho : 0 ≤ ((pc + 1 : Nat) : Int) + o) (hp : (((pc + 1 : Nat) : Int) + o).toNat = n') (hn : pc + 4 = n) (kt : x1 = x2 → A = B → Go p l e R s m args below meth c n0 Q cells slots h (mkF m n' Ls (st))) (kf : x1 ≠ x2 → A ≠ B → Go p l e R s m args below meth c n0 Q cells slots h (mkF m n Ls (st))) : Go p l e R s m args below meth c n0 Q cells slots h (mkF m pc Ls (.long x2 :: .long x1 :: st)) := by
  subst hn hA hB
  refine Go.via (fun T locs X _ t q => XS.lcmp X.here C.x rfl (hb C.by hc) rfl q) ?_
  exact G.if_eq C (A := (lcmpW x1 x2).toInt) rfl (pc := pc + 1) hd ho hp (n := pc + 4) rfl (fun q _ => kt ((lch_eq x1 x2).1 q) (congrArg _ ((lch_eq x1 x2).1 q))) (fun q _ => kf ((lch_eq x1 x2).2 q) (fun r => (lch_eq x1 x2).2 q (Int64.toInt_inj.mp r)))
theorem ich_ne {x1 x2 : Int32} : (x1 ≠ x2 ∧ if_icmp.holds .ne x1 x2 = true) ∨ (x1 = x2 ∧ if_icmp.holds .ne x1 x2 = false) := by
  by_cases q : x1 = x2 <;> simp [if_icmp.holds, q]
theorem G.icmp_ne (C : Cx p s m meth c Z y bytes maxL ret) {x1 x2 : Int32} {o : Int} {A B : Int} (hA : x1.toInt = A) (hB : x2.toInt = B) (hd : decode bytes pc = .ok (.if_icmp .ne o, 3)) (ho : 0 ≤ (pc : Int) + o) (hp : ((pc : Int) + o).toNat = n') (hn : pc + 3 = n) (kt : x1 ≠ x2 → A ≠ B → Go p l e R s m args below meth c n0 Q cells slots h (mkF m n' Ls (st))) (kf : x1 = x2 → A = B → Go p l e R s m args below meth c n0 Q cells slots h (mkF m n Ls (st))) : Go p l e R s m args below meth c n0 Q cells slots h (mkF m pc Ls (.int x2 :: .int x1 :: st)) := by
  subst hn hA hB
  rcases ich_ne (x1 := x1) (x2 := x2) with ⟨q, r⟩ | ⟨q, r⟩
  · exact Go.via (fun T locs X _ t q => XS.icmpYes X.here C.x rfl rfl (hb C.by hd) rfl r ho hp q) (kt q (fun r => q (Int32.toInt_inj.mp r)))
  · exact Go.via (fun T locs X _ t q => XS.icmpNo X.here C.x rfl (hb C.by hd) rfl r q) (kf q (congrArg _ q))
theorem G.if_ne (C : Cx p s m meth c Z y bytes maxL ret) {x1 : Int32} {o : Int} {A : Int} (hA : x1.toInt = A) (hd : decode bytes pc = .ok (.ifCond .ne o, 3)) (ho : 0 ≤ (pc : Int) + o) (hp : ((pc : Int) + o).toNat = n') (hn : pc + 3 = n) (kt : x1 ≠ 0 → A ≠ 0 → Go p l e R s m args below meth c n0 Q cells slots h (mkF m n' Ls (st))) (kf : x1 = 0 → A = 0 → Go p l e R s m args below meth c n0 Q cells slots h (mkF m n Ls (st))) : Go p l e R s m args below meth c n0 Q cells slots h (mkF m pc Ls (.int x1 :: st)) := by
  subst hn hA
  rcases ich_ne (x1 := x1) (x2 := 0) with ⟨q, r⟩ | ⟨q, r⟩
  · exact Go.via (fun T locs X _ t q => XS.ifYes X.here C.x rfl rfl (hb C.by hd) rfl ((if0 _ _).trans r) ho hp q) (kt q (fun r => q (Int32.toInt_inj.mp r)))
  · exact Go.via (fun T locs X _ t q => XS.ifNo X.here C.x rfl (hb C.by hd) rfl ((if0 _ _).trans r) q) (kf q (congrArg Int32.toInt q))
theorem lch_ne (x1 x2 : Int64) : ((lcmpW x1 x2) ≠ 0 → x1 ≠ x2) ∧ ((lcmpW x1 x2) = 0 → x1 = x2) := by
  have q := c_lcmp x1 x2
  have z : ∀ x : Int32, x = 0 ↔ x.toInt = 0 := fun x => ⟨fun q => by rw [q]; rfl, fun q => Int32.toInt_inj.mp q⟩
  have w : x1 = x2 ↔ x1.toInt = x2.toInt := Int64.toInt_inj.symm
  simp only [ne_eq, z, w]
  constructor <;> intro r <;> omega
theorem G.lcmp_ne (C : Cx p s m meth c Z y bytes maxL ret) {x1 x2 : Int64} {o : Int} {A B : Int} (hA : x1.toInt = A) (hB : x2.toInt = B) (hc : decode bytes pc = .ok (.lcmp, 1)) (hd : decode bytes (pc + 1) = .ok (.ifCond .ne o, 3)) (ho : 0 ≤ ((pc + 1 : Nat) : Int) + o) (hp : (((pc + 1 : Nat) : Int) + o).toNat = n') (hn : pc + 4 = n) (kt : x1 ≠ x2 → A ≠ B → Go p l e R s m args below meth c n0 Q cells slots h (mkF m n' Ls (st))) (kf : x1 = x2 → A = B → Go p l e R s m args below meth c n0 Q cells slots h (mkF m n Ls (st))) : Go p l e R s m args below meth c n0 Q cells slots h (mkF m pc Ls (.long x2 :: .long x1 :: st)) := by
  subst hn hA hB
  refine Go.via (fun T locs X _ t q => XS.lcmp X.here C.x rfl (hb C.by hc) rfl q) ?_
  exact G.if_ne C (A := (lcmpW x1 x2).toInt) rfl (pc := pc + 1) hd ho hp (n := pc + 4) rfl (fun q _ => kt ((lch_ne x1 x2).1 q) (fun r => (lch_ne x1 x2).1 q (Int64.toInt_inj.mp r))) (fun q _ => kf ((lch_ne x1 x2).2 q) (congrArg _ ((lch_ne x1 x2).2 q)))
theorem G.ifnullN (C : Cx p s m meth c Z y bytes maxL ret) {b : Addr} {o : Int} (hd : decode bytes pc = .ok (.ifnull o, 3)) (hn : pc + 3 = n) (k : Go p l e R s m args below meth c n0 Q cells slots h (mkF m n Ls (st))) : Go p l e R s m args below meth c n0 Q cells slots h (mkF m pc Ls (.ref b :: st)) := by
  subst hn
  exact Go.via (fun T locs X _ t q => XS.ifnullNo X.here C.x rfl (hb C.by hd) rfl q) k
theorem G.ifnullY (C : Cx p s m meth c Z y bytes maxL ret) {o : Int} (hd : decode bytes pc = .ok (.ifnull o, 3)) (ho : 0 ≤ (pc : Int) + o) (hp : ((pc : Int) + o).toNat = n) (k : Go p l e R s m args below meth c n0 Q cells slots h (mkF m n Ls (st))) : Go p l e R s m args below meth c n0 Q cells slots h (mkF m pc Ls (.null :: st)) :=
  Go.via (fun T locs X _ t q => XS.ifnullYes X.here C.x rfl rfl (hb C.by hd) rfl ho hp q) k
theorem G.ifnonnullY (C : Cx p s m meth c Z y bytes maxL ret) {b : Addr} {o : Int} (hd : decode bytes pc = .ok (.ifnonnull o, 3)) (ho : 0 ≤ (pc : Int) + o) (hp : ((pc : Int) + o).toNat = n) (k : Go p l e R s m args below meth c n0 Q cells slots h (mkF m n Ls (st))) : Go p l e R s m args below meth c n0 Q cells slots h (mkF m pc Ls (.ref b :: st)) :=
  Go.via (fun T locs X _ t q => XS.ifnonnullYes X.here C.x rfl rfl (hb C.by hd) rfl ho hp q) k
theorem G.ifnonnullN (C : Cx p s m meth c Z y bytes maxL ret) {o : Int} (hd : decode bytes pc = .ok (.ifnonnull o, 3)) (hn : pc + 3 = n) (k : Go p l e R s m args below meth c n0 Q cells slots h (mkF m n Ls (st))) : Go p l e R s m args below meth c n0 Q cells slots h (mkF m pc Ls (.null :: st)) := by
  subst hn
  exact Go.via (fun T locs X _ t q => XS.ifnonnullNo X.here C.x rfl (hb C.by hd) rfl q) k
theorem G.acmp_eq (C : Cx p s m meth c Z y bytes maxL ret) {x1 x2 : Value} {o : Int} (h1 : x1.isRef = true) (h2 : x2.isRef = true) (hd : decode bytes pc = .ok (.if_acmp .eq o, 3)) (ho : 0 ≤ (pc : Int) + o) (hp : ((pc : Int) + o).toNat = n') (hn : pc + 3 = n) (kt : x1 = x2 → Go p l e R s m args below meth c n0 Q cells slots h (mkF m n' Ls (st))) (kf : x1 ≠ x2 → Go p l e R s m args below meth c n0 Q cells slots h (mkF m n Ls (st))) : Go p l e R s m args below meth c n0 Q cells slots h (mkF m pc Ls (x2 :: x1 :: st)) := by
  subst hn
  by_cases r : x1 = x2
  · exact Go.via (fun T locs X _ t q => Jvm.RoadKit.acmp (g := mkF m pc Ls (x2 :: x1 :: st)) X C.x rfl h1 h2 (same := true) rfl (hb C.by hd) rfl (decide_eq_true r) ho (hp.symm) q) (kt r)
  · exact Go.via (fun T locs X _ t q => Jvm.RoadKit.acmp (g := mkF m pc Ls (x2 :: x1 :: st)) X C.x rfl h1 h2 (same := false) rfl (hb C.by hd) rfl (decide_eq_false r) ho (rfl) q) (kf r)
theorem G.acmp_ne (C : Cx p s m meth c Z y bytes maxL ret) {x1 x2 : Value} {o : Int} (h1 : x1.isRef = true) (h2 : x2.isRef = true) (hd : decode bytes pc = .ok (.if_acmp .ne o, 3)) (ho : 0 ≤ (pc : Int) + o) (hp : ((pc : Int) + o).toNat = n') (hn : pc + 3 = n) (kt : x1 ≠ x2 → Go p l e R s m args below meth c n0 Q cells slots h (mkF m n' Ls (st))) (kf : x1 = x2 → Go p l e R s m args below meth c n0 Q cells slots h (mkF m n Ls (st))) : Go p l e R s m args below meth c n0 Q cells slots h (mkF m pc Ls (x2 :: x1 :: st)) := by
  subst hn
  by_cases r : x1 = x2
  · exact Go.via (fun T locs X _ t q => Jvm.RoadKit.acmp (g := mkF m pc Ls (x2 :: x1 :: st)) X C.x rfl h1 h2 (same := true) rfl (hb C.by hd) rfl (decide_eq_true r) ho (rfl) q) (kf r)
  · exact Go.via (fun T locs X _ t q => Jvm.RoadKit.acmp (g := mkF m pc Ls (x2 :: x1 :: st)) X C.x rfl h1 h2 (same := false) rfl (hb C.by hd) rfl (decide_eq_false r) ho (hp.symm) q) (kt r)
theorem G.ldc (C : Cx p s m meth c Z y bytes maxL ret) {index : Nat} {v : Int32} (w : (Jvm.Cond.constant y.cls index v).before a0 Z = true) (hd : decode bytes pc = .ok (.ldc index, 2)) (hn : pc + 2 = n) (k : Go p l e R s m args below meth c n0 Q cells slots h (mkF m n Ls (.int v :: st))) : Go p l e R s m args below meth c n0 Q cells slots h (mkF m pc Ls (st)) := by
  subst hn
  exact Go.via (fun T locs X _ t q => X.ldcInt C.x C.own (mvT C.z w) (g := mkF m pc Ls st) rfl (hb C.by hd) t q) k
theorem G.ldc_w (C : Cx p s m meth c Z y bytes maxL ret) {index : Nat} {v : Int32} (w : (Jvm.Cond.constant y.cls index v).before a0 Z = true) (hd : decode bytes pc = .ok (.ldc_w index, 3)) (hn : pc + 3 = n) (k : Go p l e R s m args below meth c n0 Q cells slots h (mkF m n Ls (.int v :: st))) : Go p l e R s m args below meth c n0 Q cells slots h (mkF m pc Ls (st)) := by
  subst hn
  exact Go.via (fun T locs X _ t q => X.ldcwInt C.x C.own (mvT C.z w) (g := mkF m pc Ls st) rfl (hb C.by hd) t q) k
theorem G.ldc2 (C : Cx p s m meth c Z y bytes maxL ret) {index : Nat} {v : Int64} (w : (Jvm.Cond.constantLong y.cls index v).before a0 Z = true) (hd : decode bytes pc = .ok (.ldc2_w index, 3)) (hn : pc + 3 = n) (k : Go p l e R s m args below meth c n0 Q cells slots h (mkF m n Ls (.long v :: st))) : Go p l e R s m args below meth c n0 Q cells slots h (mkF m pc Ls (st)) := by
  subst hn
  exact Go.via (fun T locs X _ t q => X.ldc2Long C.x C.own (mvT C.z w) (g := mkF m pc Ls st) rfl (hb C.by hd) t q) k
theorem Go.leave (C : Cx p s m meth c Z y bytes maxL ret) {v : Option Value} {f : JFrame} (hv : ret = none → v = none) (hc : cells ≤ R.cells) (hs : slots ≤ R.slots)
    (hret : ∀ T locs, Stand p l e R s m args below meth c T locs cells slots → ∀ fs, (∀ (f : JFrame) (acts : List Action), f.method = m → f.locked = none → f.entered = [] → (doReturn e (T.setTop f) acts v).1 = T.setFrames fs) → Steps p.tables e below (T.setTop f) (T.setFrames fs))
    (q : Q v h) : Go p l e R s m args below meth c n0 Q cells slots h f := fun T locs X N e0 => by
  obtain ⟨fs, hr, hrun, hended, hW, hsame⟩ := X.leave (v := v) (fun q => hv (C.rt.symm.trans q)) C.locks
  refine ⟨_, _, hret T locs X fs hr, hrun, hended, v, locs, rfl, ⟨N, ?_⟩, ⟨_, rfl⟩, hW, hsame.mono hc hs⟩
  show Q v T.heap
  rw [e0]; exact q
theorem G.return_ (C : Cx p s m meth c Z y bytes maxL none) (hd : decode bytes pc = .ok (.return_, 1)) (hc : cells ≤ R.cells) (hs : slots ≤ R.slots) (q : Q none h) : Go p l e R s m args below meth c n0 Q cells slots h (mkF m pc Ls ([])) :=
  Go.leave C (v := none) (fun _ => rfl) hc hs (fun T locs X fs hr => X.returnOut C.x C.rt (hb C.by hd) hr) q
theorem G.ireturn {t : FieldType} (C : Cx p s m meth c Z y bytes maxL (some t)) {x : Int32} (hd : decode bytes pc = .ok (.ireturn, 1)) (hnn : narrow t (.int x) = .int x) (ht : t = .int ∨ t = .boolean ∨ t = .byte ∨ t = .char ∨ t = .short) (hc : cells ≤ R.cells) (hs : slots ≤ R.slots) (q : Q (some (.int x)) h) : Go p l e R s m args below meth c n0 Q cells slots h (mkF m pc Ls (.int x :: st)) :=
  Go.leave C (v := some (.int x)) (fun q => nomatch q) hc hs (fun T locs X fs hr => retOut X C.x C.rt hnn (Or.inl ⟨rfl, ht, _, rfl⟩) (hb C.by hd) hr) q
theorem G.lreturn (C : Cx p s m meth c Z y bytes maxL (some .long)) {x : Int64} (hd : decode bytes pc = .ok (.lreturn, 1)) (hc : cells ≤ R.cells) (hs : slots ≤ R.slots) (q : Q (some (.long x)) h) : Go p l e R s m args below meth c n0 Q cells slots h (mkF m pc Ls (.long x :: st)) :=
  Go.leave C (v := some (.long x)) (fun q => nomatch q) hc hs (fun T locs X fs hr => retOut X C.x C.rt rfl (Or.inr (Or.inl ⟨rfl, rfl, _, rfl⟩)) (hb C.by hd) hr) q
theorem G.areturn {t : FieldType} (C : Cx p s m meth c Z y bytes maxL (some t)) {x : Value} (hd : decode bytes pc = .ok (.areturn, 1)) (ht : t.isReference = true) (hx : x.isRef = true) (hnn : narrow t x = x) (hc : cells ≤ R.cells) (hs : slots ≤ R.slots) (q : Q (some x) h) : Go p l e R s m args below meth c n0 Q cells slots h (mkF m pc Ls (x :: st)) :=
  Go.leave C (v := some x) (fun q => nomatch q) hc hs (fun T locs X fs hr => retOut X C.x C.rt hnn (Or.inr (Or.inr (Or.inr (Or.inr ⟨rfl, ht, hx⟩)))) (hb C.by hd) hr) q
theorem G.getfield (C : Cx p s m meth c Z y bytes maxL ret) {R0 O nm d host : String} {index : Nat} (w : (Jvm.Cond.fieldLink y.cls index R0 nm d).before a0 Z = true ∨ (Jvm.Cond.fieldLinkNest y.cls index R0 nm d host).before a0 Z = true) (via : Via Z R0 O nm d) {a : Addr} {v : Value} (F : Fld Z h a O nm d v) (hd : decode bytes pc = .ok (.getfield index, 3)) (hn : pc + 3 = n) (k : Go p l e R s m args below meth c n0 Q cells slots h (mkF m n Ls (v :: st))) : Go p l e R s m args below meth c n0 Q cells slots h (mkF m pc Ls (.ref a :: st)) := fun T locs X N q => by
  subst hn
  obtain ⟨T', X', e', st'⟩ := getF X C.x C.z C.own w via q F (g := mkF m pc Ls (.ref a :: st)) rfl rfl (hb C.by hd)
  obtain ⟨t, o, s1, r⟩ := k T' locs X' N e'
  exact ⟨t, o, st' t s1, r⟩
theorem G.getstatic (C : Cx p s m meth c Z y bytes maxL ret) {R0 O nm d host : String} {index : Nat} (w : (Jvm.Cond.fieldLink y.cls index R0 nm d).before a0 Z = true ∨ (Jvm.Cond.fieldLinkNest y.cls index R0 nm d host).before a0 Z = true) (via : Via Z R0 O nm d) {v : Value} (F : Sta Z h O nm d v) (hd : decode bytes pc = .ok (.getstatic index, 3)) (hn : pc + 3 = n) (k : Go p l e R s m args below meth c n0 Q cells slots h (mkF m n Ls (v :: st))) : Go p l e R s m args below meth c n0 Q cells slots h (mkF m pc Ls (st)) := fun T locs X N q => by
  subst hn
  obtain ⟨T', X', e', st'⟩ := getS2 X C.x C.z C.own w via q F (g := mkF m pc Ls st) rfl (hb C.by hd)
  obtain ⟨t, o, s1, r⟩ := k T' locs X' N e'
  exact ⟨t, o, st' t s1, r⟩
theorem G.putfield (C : Cx p s m meth c Z y bytes maxL ret) {R0 O nm d host K : String} {index kk : Nat} {ty : FieldType} (w : (Jvm.Cond.fieldLink y.cls index R0 nm d).before a0 Z = true ∨ (Jvm.Cond.fieldLinkNest y.cls index R0 nm d host).before a0 Z = true) (via : Via Z R0 O nm d) {a : Addr} {v old : Value} (F : Fld Z h a O nm d old) (E : Exa Z h a K)
    (L : (Jvm.Cond.lays K O nm d).before a0 Z = true ∨ ((Jvm.Cond.laysFinal K O nm d).before a0 Z = true ∧ y.cls = O ∧ y.name = "<init>")) (wi : (Jvm.Cond.instantiable K kk).before a0 Z = true) (hty : parseFieldDescriptor d = some ty) (hnn : narrow ty v = v) (hf : fits ty v = true) (g : n0 ≤ a)
    (hd : decode bytes pc = .ok (.putfield index, 3)) (hn : pc + 3 = n) (k : ∀ h', Wr h h' a (RoadKit.slotOf Z O nm d) v → Go p l e R s m args below meth c n0 Q cells slots h' (mkF m n Ls (st))) : Go p l e R s m args below meth c n0 Q cells slots h (mkF m pc Ls (v :: .ref a :: st)) := fun T locs X N q => by
  subst hn
  obtain ⟨T', h', X', e', W, st'⟩ := putF X C.x C.z C.own w via q F E (L.imp id fun r => ⟨r.1, r.2.1, C.nm.trans r.2.2⟩) wi hty hnn hf (g := mkF m pc Ls (v :: .ref a :: st)) rfl rfl (hb C.by hd)
  obtain ⟨t, o, s1, r⟩ := k h' W T' _ X' (Fr.snoc X' N g) e'
  exact ⟨t, o, st' t s1, r⟩
theorem G.putfieldN (C : Cx p s m meth c Z y bytes maxL ret) {R0 O nm d K : String} {index kk : Nat} {ty : FieldType} (w : (Jvm.Cond.fieldLink y.cls index R0 nm d).before a0 Z = true) (via : Via Z R0 O nm d) {a : Addr} {v v' old : Value} (F : Fld Z h a O nm d old) (E : Exa Z h a K)
    (L : (Jvm.Cond.lays K O nm d).before a0 Z = true ∨ ((Jvm.Cond.laysFinal K O nm d).before a0 Z = true ∧ y.cls = O ∧ y.name = "<init>")) (wi : (Jvm.Cond.instantiable K kk).before a0 Z = true) (hty : parseFieldDescriptor d = some ty) (hnn : narrow ty v = v') (hf : fits ty v' = true) (g : n0 ≤ a)
    (hd : decode bytes pc = .ok (.putfield index, 3)) (hn : pc + 3 = n) (k : ∀ h', Wr h h' a (RoadKit.slotOf Z O nm d) v' → Go p l e R s m args below meth c n0 Q cells slots h' (mkF m n Ls (st))) : Go p l e R s m args below meth c n0 Q cells slots h (mkF m pc Ls (v :: .ref a :: st)) := fun T locs X N q => by
  subst hn
  obtain ⟨T', h', X', e', W, st'⟩ := putFN X C.x C.z C.own w via q F E (L.imp id fun r => ⟨r.1, r.2.1, C.nm.trans r.2.2⟩) wi hty hnn hf (g := mkF m pc Ls (v :: .ref a :: st)) rfl rfl (hb C.by hd)
  obtain ⟨t, o, s1, r⟩ := k h' W T' _ X' (Fr.snoc X' N g) e'
  exact ⟨t, o, st' t s1, r⟩
theorem G.new (C : Cx p s m meth c Z y bytes maxL ret) {K : String} {index ns c' s' : Nat} (w : (Jvm.Cond.classLink y.cls index K).before a0 Z = true) (wi : (Jvm.Cond.instantiable K ns).before a0 Z = true) (wz : (Jvm.Cond.initialized K).before a0 Z = true) (hd : decode bytes pc = .ok (.new index, 3)) (hn : pc + 3 = n) (hc' : cells + 1 = c') (hs' : slots + ns = s') (hc : c' ≤ R.cells) (hs : s' ≤ R.slots)
    (k : ∀ h' b, b = h.size → Ext h h' → Exa Z h' b K → (∀ {O nm d : String} {ty : FieldType}, Laid Z a0 K O nm d → parseFieldDescriptor d = some ty → Fld Z h' b O nm d (defaultValue ty)) → Go p l e R s m args below meth c n0 Q c' s' h' (mkF m n Ls (.ref b :: st))) : Go p l e R s m args below meth c n0 Q cells slots h (mkF m pc Ls (st)) := fun T locs X N q => by
  subst hn hc' hs'
  obtain ⟨T', h', X', e', E, A, D, -, st'⟩ := newO X C.x C.z C.own w wi wz q (g := mkF m pc Ls st) rfl (hb C.by hd) hc hs
  obtain ⟨t, o, s1, r⟩ := k h' _ rfl E A D T' _ X' N e'
  exact ⟨t, o, st' t s1, r⟩
theorem G.objinit (C : Cx p s m meth c Z y bytes maxL ret) {index W : Nat} (w1 : (Jvm.Cond.methodLink y.cls index Lib.objectInit).before a0 Z = true) (w2 : (Jvm.Cond.instanceMethod Lib.objectInit).before a0 Z = true) (w3 : (Jvm.Cond.code Lib.objectInit ⟨#[0xb1]⟩ 1 none).before a0 Z = true) {a : Addr} (hd : decode bytes pc = .ok (.invokespecial index, 3)) (hsz : Ls.size = maxL) (hf : 1 ≤ R.frames) (hW : (st.map fun v => v.category).sum = W) (hl : W + 12 ≤ R.locals) (hn : pc + 3 = n) (k : Go p l e R s m args below meth c n0 Q cells slots h (mkF m n Ls (st))) : Go p l e R s m args below meth c n0 Q cells slots h (mkF m pc Ls (.ref a :: st)) := fun T locs X N q => by
  subst hn hW
  obtain ⟨T', X', e', st'⟩ := initO X C.x C.z C.own w1 w2 w3 q (g := mkF m pc Ls (.ref a :: st)) rfl (hsz.trans C.ml.symm) rfl (hb C.by hd) hf (W := (st.map fun v => v.category).sum) (by show 2 * 0 + _ ≤ _; omega) hl
  obtain ⟨t, o, s1, r⟩ := k T' locs X' N e'
  exact ⟨t, o, st' t s1, r⟩
theorem G.callS (C : Cx p s m meth c Z y bytes maxL ret) {index W : Nat} {yc : MethodName} {bc : ByteArray} {mc : Nat} {rc : Option FieldType} {rm : Room} {c' s' : Nat} {Qc : Option Value → Heap → Prop} {ps : List FieldType} {argsL stk : List Value} (w1 : (Jvm.Cond.methodLink y.cls index yc).before a0 Z = true) (w2 : (Jvm.Cond.static yc).before a0 Z = true) (w3 : (Jvm.Cond.initialized yc.cls).before a0 Z = true) (w4 : (Jvm.Cond.code yc bc mc rc).before a0 Z = true) (hy : yc.cls ≠ "java/lang/invoke/MethodHandle" ∧ yc.cls ≠ "java/lang/invoke/VarHandle") (M : Met l Z yc bc mc rc rm argsL.toArray h n0 Qc) (hsz : Ls.size = maxL) (hf : rm.frames + 1 ≤ R.frames) (hW : (st.map fun v => v.category).sum = W) (hl : W + (mc + 11) + rm.locals ≤ R.locals) (hc' : cells + rm.cells = c') (hs' : slots + rm.slots = s') (hc : c' ≤ R.cells) (hs : s' ≤ R.slots) (hd : decode bytes pc = .ok (.invokestatic index, 3)) (hn : pc + 3 = n) (hlen : parseMethodDescriptor yc.desc = some ⟨ps, rc⟩) (hal : argsL.length = ps.length) (hst : stk = argsL.reverse ++ st) (k : ∀ v h', Qc v h' → Go p l e R s m args below meth c n0 Q c' s' h' (mkF m n Ls (v.toList ++ st))) : Go p l e R s m args below meth c n0 Q cells slots h (mkF m pc Ls (stk)) := fun T locs X N q => by
  subst hn hW hc' hs' hst
  obtain ⟨v, _, ⟨T', L', k', n''⟩, -, X', ⟨Lc, hQ, h1, h2, h3⟩, st'⟩ := Jvm.LawKit.callS X C.x (y := yc) C.own (mvT C.z w1) (mvT C.z w2) (mvT C.z w3) (mvT C.z w4) hy (backOf (W := (st.map fun v => v.category).sum) (Q := fun v h L => Fr n0 L ∧ Qc v h) (M []) C.z w4 w3 hf hl) (g := mkF m pc Ls (argsL.reverse ++ st)) rfl (hsz.trans C.ml.symm) (argsL := argsL) (rest := st) (lenOf hlen hal) rfl (by show 2 * 0 + _ ≤ _; omega) (hb C.by hd) (fun _ _ => ⟨rfl, q, hc, hs⟩)
  dsimp only [Pt.U, Pt.locs, Pt.cells, Pt.slots] at X' h1 h2 h3 st' hQ
  subst h1 h2 h3
  obtain ⟨t, o, s1, r⟩ := k v _ hQ.2 T' _ X' (Fr.app N hQ.1) rfl
  exact ⟨t, o, st' t s1, r⟩
theorem G.callC (C : Cx p s m meth c Z y bytes maxL ret) {index W : Nat} {yc : MethodName} {bc : ByteArray} {mc : Nat} {rm : Room} {c' s' : Nat} {Qc : Option Value → Heap → Prop} {ps : List FieldType} {argsL stk : List Value} {a : Addr} (hy1 : yc.name = "<init>") (w1 : (Jvm.Cond.methodLink y.cls index yc).before a0 Z = true) (w2 : (Jvm.Cond.instanceMethod yc).before a0 Z = true) (w3 : (Jvm.Cond.initialized yc.cls).before a0 Z = true) (w4 : (Jvm.Cond.code yc bc mc none).before a0 Z = true) (hy : yc.cls ≠ "java/lang/invoke/MethodHandle" ∧ yc.cls ≠ "java/lang/invoke/VarHandle") (M : Met l Z yc bc mc none rm (.ref a :: argsL).toArray h n0 Qc) (hsz : Ls.size = maxL) (hf : rm.frames + 1 ≤ R.frames) (hW : (st.map fun v => v.category).sum = W) (hl : W + (mc + 11) + rm.locals ≤ R.locals) (hc' : cells + rm.cells = c') (hs' : slots + rm.slots = s') (hc : c' ≤ R.cells) (hs : s' ≤ R.slots) (hd : decode bytes pc = .ok (.invokespecial index, 3)) (hn : pc + 3 = n) (hlen : parseMethodDescriptor yc.desc = some ⟨ps, none⟩) (hal : argsL.length = ps.length) (hst : stk = argsL.reverse ++ .ref a :: st) (k : ∀ v h', Qc v h' → Go p l e R s m args below meth c n0 Q c' s' h' (mkF m n Ls (v.toList ++ st))) : Go p l e R s m args below meth c n0 Q cells slots h (mkF m pc Ls (stk)) := fun T locs X N q => by
  subst hn hW hc' hs' hst
  obtain ⟨v, _, ⟨T', L', k', n''⟩, -, X', ⟨Lc, hQ, h1, h2, h3⟩, st'⟩ := X.specialBack C.x (y := yc) hy1 C.own (mvT C.z w1) (mvT C.z w2) (mvT C.z w4) hy (backOf (W := (st.map fun v => v.category).sum) (Q := fun v h L => Fr n0 L ∧ Qc v h) (M []) C.z w4 w3 hf hl) (g := mkF m pc Ls (argsL.reverse ++ .ref a :: st)) rfl (hsz.trans C.ml.symm) (Steps.refl _) (a := a) (argsL := argsL) (rest := st) (lenOf hlen hal) rfl (by show 2 * 0 + _ ≤ _; omega) (hb C.by hd) (fun _ _ => ⟨rfl, q, hc, hs⟩)
  dsimp only [Pt.U, Pt.locs, Pt.cells, Pt.slots] at X' h1 h2 h3 st' hQ
  subst h1 h2 h3
  obtain ⟨t, o, s1, r⟩ := k v _ hQ.2 T' _ X' (Fr.app N hQ.1) rfl
  exact ⟨t, o, st'.trans s1, r⟩
theorem G.callV (C : Cx p s m meth c Z y bytes maxL ret) {index W : Nat} {yc : MethodName} {bc : ByteArray} {mc : Nat} {rc : Option FieldType} {rm : Room} {c' s' : Nat} {Qc : Option Value → Heap → Prop} {ps : List FieldType} {K : String} {yr : MethodName} {argsL stk : List Value} {a : Addr} (E : Exa Z h a K) (w1 : (Jvm.Cond.methodLink y.cls index yr).before a0 Z = true) (w5 : (Jvm.Cond.declares yr).before a0 Z = true) (hnf : ∀ s : State, Z.Warmed39 s.vm → NotFace s yr) (w6 : (Jvm.Cond.selects K yr yc).before a0 Z = true) (w2 : (Jvm.Cond.instanceMethod yc).before a0 Z = true) (w3 : (Jvm.Cond.initialized yc.cls).before a0 Z = true) (w4 : (Jvm.Cond.code yc bc mc rc).before a0 Z = true) (hy : yr.cls ≠ "java/lang/invoke/MethodHandle" ∧ yr.cls ≠ "java/lang/invoke/VarHandle") (M : Met l Z yc bc mc rc rm (.ref a :: argsL).toArray h n0 Qc) (hsz : Ls.size = maxL) (hf : rm.frames + 1 ≤ R.frames) (hW : (st.map fun v => v.category).sum = W) (hl : W + (mc + 11) + rm.locals ≤ R.locals) (hc' : cells + rm.cells = c') (hs' : slots + rm.slots = s') (hc : c' ≤ R.cells) (hs : s' ≤ R.slots) (hd : decode bytes pc = .ok (.invokevirtual index, 3)) (hn : pc + 3 = n) (hlen : parseMethodDescriptor yr.desc = some ⟨ps, rc⟩) (hal : argsL.length = ps.length) (hst : stk = argsL.reverse ++ .ref a :: st) (k : ∀ v h', Qc v h' → Go p l e R s m args below meth c n0 Q c' s' h' (mkF m n Ls (v.toList ++ st))) : Go p l e R s m args below meth c n0 Q cells slots h (mkF m pc Ls (stk)) := fun T locs X N q => by
  subst hn hW hc' hs' hst
  obtain ⟨cq, kq, qa, qb, qc⟩ := isOf C.z q E
  obtain ⟨v, _, ⟨T', L', k', n''⟩, -, X', ⟨Lc, hQ, h1, h2, h3⟩, st'⟩ := X.virtualBack C.x (y := yr) (z := yc) C.own (mvT C.z w1) (mvT C.z w5) (hnf s C.z) (mvT C.z w6) (mvT C.z w2) hy (backOf (W := (st.map fun v => v.category).sum) (Q := fun v h L => Fr n0 L ∧ Qc v h) (M []) C.z w4 w3 hf hl) qa qc (g := mkF m pc Ls (argsL.reverse ++ .ref a :: st)) rfl (hsz.trans C.ml.symm) (Steps.refl _) (argsL := argsL) (rest := st) (lenOf hlen hal) rfl (by show 2 * 0 + _ ≤ _; omega) (hb C.by hd) (fun _ _ => ⟨rfl, q, hc, hs⟩)
  dsimp only [Pt.U, Pt.locs, Pt.cells, Pt.slots] at X' h1 h2 h3 st' hQ
  subst h1 h2 h3
  obtain ⟨t, o, s1, r⟩ := k v _ hQ.2 T' _ X' (Fr.app N hQ.1) rfl
  exact ⟨t, o, st'.trans s1, r⟩
theorem nfS {yr : MethodName} {K : String} {z : MethodName} (w6 : (Jvm.Cond.selects K yr z).before a0 Z = true) (hz : z = yr) : ∀ s : State, Z.Warmed39 s.vm → NotFace s yr := fun s hZ => by
  subst hz
  exact notFace_of_selects (args := #[]) (mvT hZ w6)
def Ints (Z : State) (h : Heap) (a : Addr) (ty : FieldType) (vs : List Int32) : Prop := ∃ k z, Arv Z h a k ty z (vs.map Value.int) (.int 0) ∧ z.toInt = vs.length
def Longs (Z : State) (h : Heap) (a : Addr) (vs : List Int64) : Prop := ∃ k z, Arv Z h a k .long z (vs.map Value.long) (.long 0) ∧ z.toInt = vs.length
theorem nat_clamp {j : Int32} : j.toNatClampNeg = j.toInt.toNat := rfl
theorem not_neg {j : Int32} (hj : 0 ≤ j.toInt) : ¬ j < 0 := by rw [lt_i]; exact Int.not_lt.mpr hj
theorem of_not_neg {j : Int32} (hj : ¬ j < 0) : 0 ≤ j.toInt := by rw [lt_i] at hj; exact Int.not_lt.mp hj
theorem inb {j z : Int32} {cl : Cell} {len : Nat} (hj : 0 ≤ j.toInt) (S : cl.slots.size = z.toNatClampNeg) (hz : z.toInt = len) (hl : j.toInt.toNat < len) : ¬ (j < 0 ∨ cl.slots.size ≤ j.toNatClampNeg) := by
  rintro (q | q)
  · exact not_neg hj q
  · rw [S, nat_clamp, nat_clamp, hz] at q; omega
theorem getD_map {α : Type} (f : α → Value) (vs : List α) (i : Nat) (d : Value) {x : α} (hx : vs[i]? = some x) : (vs.map f).getD i d = f x := by
  rw [List.getD_eq_getElem?_getD, List.getElem?_map, hx]; rfl
theorem lt_of_some {α : Type} {vs : List α} {i : Nat} {x : α} (hx : vs[i]? = some x) : i < vs.length := (List.getElem?_eq_some_iff.mp hx).1
theorem Ints.lt {a : Addr} {ty : FieldType} {vs : List Int32} (F : Ints Z h a ty vs) : a < h.size := by obtain ⟨k, z, A, -⟩ := F; exact A.lt
theorem Ints.ext {h' : Heap} {a : Addr} {ty : FieldType} {vs : List Int32} (F : Ints Z h a ty vs) (E : Ext h h') : Ints Z h' a ty vs := by obtain ⟨k, z, A, q⟩ := F; exact ⟨k, z, A.ext E, q⟩
theorem Ints.keep {h' : Heap} {ws : List Addr} {a : Addr} {ty : FieldType} {vs : List Int32} (F : Ints Z h a ty vs) (K : Keep h h' ws) (r : a ∉ ws) : Ints Z h' a ty vs := by obtain ⟨k, z, A, q⟩ := F; exact ⟨k, z, A.keep K r, q⟩
theorem Ints.other {h' : Heap} {sl : Nat} {v : Value} {a b : Addr} {ty : FieldType} {vs : List Int32} (F : Ints Z h a ty vs) (W : Wr h h' b sl v) (r : a ≠ b) : Ints Z h' a ty vs := by obtain ⟨k, z, A, q⟩ := F; exact ⟨k, z, A.other W r, q⟩
theorem Ints.len {a : Addr} {ty : FieldType} {vs : List Int32} (F : Ints Z h a ty vs) : (vs.length : Int) < 2147483648 := by obtain ⟨k, z, A, q⟩ := F; rw [← q]; exact (rng32 z).2
theorem Ints.at {a : Addr} {ty : FieldType} {vs : List Int32} (F : Ints Z h a ty vs) {j : Int32} {x : Int32} (hj : 0 ≤ j.toInt) (hx : vs[j.toInt.toNat]? = some x) : ∃ cl, Arr Z h a cl ty ∧ ¬ (j < 0 ∨ cl.slots.size ≤ j.toNatClampNeg) ∧ cl.slots[j.toNatClampNeg]? = some (.int x) ∧ fits ty (.int x) = true := by
  obtain ⟨k, z, ⟨cl, A, q1, S, N, H, G⟩, hz⟩ := F
  have hi := inb hj S hz (lt_of_some hx)
  have hi2 : j.toNatClampNeg < cl.slots.size := Nat.lt_of_not_le fun y => hi (Or.inr y)
  have e1 := H _ hi2
  have e2 := G _ hi2
  rw [nat_clamp, getD_map _ _ _ _ hx] at e1 e2
  exact ⟨cl, A, hi, e1, e2⟩
theorem Ints.put {h' : Heap} {a : Addr} {ty : FieldType} {vs : List Int32} (F : Ints Z h a ty vs) {j : Int32} {x : Int32} (hj : 0 ≤ j.toInt) (hl : j.toInt < vs.length) (hf : fits ty (.int x) = true) : ∃ cl, Arr Z h a cl ty ∧ ¬ (j < 0 ∨ cl.slots.size ≤ j.toNatClampNeg) ∧ (Wr h h' a j.toNatClampNeg (.int x) → Ints Z h' a ty (vs.set j.toInt.toNat x)) := by
  obtain ⟨k, z, ⟨cl, A, q1, S, N, H, G⟩, hz⟩ := F
  have hl2 : j.toInt.toNat < vs.length := by omega
  refine ⟨cl, A, inb hj S hz hl2, fun W => ⟨k, z, ?_, ?_⟩⟩
  · have r := Arv.set A q1 S N H G hf W j.toInt.toNat rfl (by rw [List.length_map]; exact hl2)
    rw [List.map_set]; exact r
  · rw [List.length_set]; exact hz
theorem Longs.lt {a : Addr} {vs : List Int64} (F : Longs Z h a vs) : a < h.size := by obtain ⟨k, z, A, -⟩ := F; exact A.lt
theorem Longs.ext {h' : Heap} {a : Addr} {vs : List Int64} (F : Longs Z h a vs) (E : Ext h h') : Longs Z h' a vs := by obtain ⟨k, z, A, q⟩ := F; exact ⟨k, z, A.ext E, q⟩
theorem Longs.keep {h' : Heap} {ws : List Addr} {a : Addr} {vs : List Int64} (F : Longs Z h a vs) (K : Keep h h' ws) (r : a ∉ ws) : Longs Z h' a vs := by obtain ⟨k, z, A, q⟩ := F; exact ⟨k, z, A.keep K r, q⟩
theorem Longs.other {h' : Heap} {sl : Nat} {v : Value} {a b : Addr} {vs : List Int64} (F : Longs Z h a vs) (W : Wr h h' b sl v) (r : a ≠ b) : Longs Z h' a vs := by obtain ⟨k, z, A, q⟩ := F; exact ⟨k, z, A.other W r, q⟩
theorem Longs.len {a : Addr} {vs : List Int64} (F : Longs Z h a vs) : (vs.length : Int) < 2147483648 := by obtain ⟨k, z, A, q⟩ := F; rw [← q]; exact (rng32 z).2
theorem Longs.at {a : Addr} {vs : List Int64} (F : Longs Z h a vs) {j : Int32} {x : Int64} (hj : 0 ≤ j.toInt) (hx : vs[j.toInt.toNat]? = some x) : ∃ cl, Arr Z h a cl .long ∧ ¬ (j < 0 ∨ cl.slots.size ≤ j.toNatClampNeg) ∧ cl.slots[j.toNatClampNeg]? = some (.long x) ∧ fits .long (.long x) = true := by
  obtain ⟨k, z, ⟨cl, A, q1, S, N, H, G⟩, hz⟩ := F
  have hi := inb hj S hz (lt_of_some hx)
  have hi2 : j.toNatClampNeg < cl.slots.size := Nat.lt_of_not_le fun y => hi (Or.inr y)
  have e1 := H _ hi2
  have e2 := G _ hi2
  rw [nat_clamp, getD_map _ _ _ _ hx] at e1 e2
  exact ⟨cl, A, hi, e1, e2⟩
theorem Longs.put {h' : Heap} {a : Addr} {vs : List Int64} (F : Longs Z h a vs) {j : Int32} {x : Int64} (hj : 0 ≤ j.toInt) (hl : j.toInt < vs.length) (hf : fits .long (.long x) = true) : ∃ cl, Arr Z h a cl .long ∧ ¬ (j < 0 ∨ cl.slots.size ≤ j.toNatClampNeg) ∧ (Wr h h' a j.toNatClampNeg (.long x) → Longs Z h' a (vs.set j.toInt.toNat x)) := by
  obtain ⟨k, z, ⟨cl, A, q1, S, N, H, G⟩, hz⟩ := F
  have hl2 : j.toInt.toNat < vs.length := by omega
  refine ⟨cl, A, inb hj S hz hl2, fun W => ⟨k, z, ?_, ?_⟩⟩
  · have r := Arv.set A q1 S N H G hf W j.toInt.toNat rfl (by rw [List.length_map]; exact hl2)
    rw [List.map_set]; exact r
  · rw [List.length_set]; exact hz
theorem G.iaload (C : Cx p s m meth c Z y bytes maxL ret) {a : Addr} {j : Int32} {x : Int32} {vs : List Int32} (F : Ints Z h a .int vs) (hj : 0 ≤ j.toInt) (hx : vs[j.toInt.toNat]? = some x) (hd : decode bytes pc = .ok (.iaload, 1)) (hn : pc + 1 = n) (k : Go p l e R s m args below meth c n0 Q cells slots h (mkF m n Ls (.int x :: st))) : Go p l e R s m args below meth c n0 Q cells slots h (mkF m pc Ls (.int j :: .ref a :: st)) := by
  subst hn
  obtain ⟨cl, A, h1, h2, -⟩ := F.at hj hx
  exact Go.via (fun T locs X q t r => X.iaload C.x (j := j) (v := .int x) (by rw [q]; exact A.1) (State.isArrayOf_alike C.z.alike A.2.1) A.2.2 h1 h2 (g := mkF m pc Ls (.int j :: .ref a :: st)) rfl rfl (hb C.by hd) t r) k
theorem G.laload (C : Cx p s m meth c Z y bytes maxL ret) {a : Addr} {j : Int32} {x : Int64} {vs : List Int64} (F : Longs Z h a vs) (hj : 0 ≤ j.toInt) (hx : vs[j.toInt.toNat]? = some x) (hd : decode bytes pc = .ok (.laload, 1)) (hn : pc + 1 = n) (k : Go p l e R s m args below meth c n0 Q cells slots h (mkF m n Ls (.long x :: st))) : Go p l e R s m args below meth c n0 Q cells slots h (mkF m pc Ls (.int j :: .ref a :: st)) := by
  subst hn
  obtain ⟨cl, A, h1, h2, -⟩ := F.at hj hx
  exact Go.via (fun T locs X q t r => X.laload C.x (j := j) (v := .long x) (by rw [q]; exact A.1) (State.isArrayOf_alike C.z.alike A.2.1) A.2.2 h1 h2 (g := mkF m pc Ls (.int j :: .ref a :: st)) rfl rfl (hb C.by hd) t r) k
theorem G.caload (C : Cx p s m meth c Z y bytes maxL ret) {a : Addr} {j : Int32} {x : Int32} {vs : List Int32} (F : Ints Z h a .char vs) (hj : 0 ≤ j.toInt) (hx : vs[j.toInt.toNat]? = some x) (hd : decode bytes pc = .ok (.caload, 1)) (hn : pc + 1 = n) (k : Go p l e R s m args below meth c n0 Q cells slots h (mkF m n Ls (.int x :: st))) : Go p l e R s m args below meth c n0 Q cells slots h (mkF m pc Ls (.int j :: .ref a :: st)) := by
  subst hn
  obtain ⟨cl, A, h1, h2, -⟩ := F.at hj hx
  exact Go.via (fun T locs X q t r => X.caload C.x (j := j) (v := .int x) (by rw [q]; exact A.1) (State.isArrayOf_alike C.z.alike A.2.1) A.2.2 h1 h2 (g := mkF m pc Ls (.int j :: .ref a :: st)) rfl rfl (hb C.by hd) t r) k
theorem G.baload (C : Cx p s m meth c Z y bytes maxL ret) {a : Addr} {j : Int32} {x : Int32} {vs : List Int32} (F : Ints Z h a .byte vs) (hj : 0 ≤ j.toInt) (hx : vs[j.toInt.toNat]? = some x) (hd : decode bytes pc = .ok (.baload, 1)) (hn : pc + 1 = n) (k : Go p l e R s m args below meth c n0 Q cells slots h (mkF m n Ls (.int x :: st))) : Go p l e R s m args below meth c n0 Q cells slots h (mkF m pc Ls (.int j :: .ref a :: st)) := by
  subst hn
  obtain ⟨cl, A, h1, h2, -⟩ := F.at hj hx
  exact Go.via (fun T locs X q t r => X.baloadBytes C.x (j := j) (v := .int x) (by rw [q]; exact A.1) (State.isArrayOf_alike C.z.alike A.2.1) A.2.2 h1 h2 (g := mkF m pc Ls (.int j :: .ref a :: st)) rfl rfl (hb C.by hd) t r) k
theorem G.baloadZ (C : Cx p s m meth c Z y bytes maxL ret) {a : Addr} {j : Int32} {x : Int32} {vs : List Int32} (F : Ints Z h a .boolean vs) (hj : 0 ≤ j.toInt) (hx : vs[j.toInt.toNat]? = some x) (hd : decode bytes pc = .ok (.baload, 1)) (hn : pc + 1 = n) (k : Go p l e R s m args below meth c n0 Q cells slots h (mkF m n Ls (.int x :: st))) : Go p l e R s m args below meth c n0 Q cells slots h (mkF m pc Ls (.int j :: .ref a :: st)) := by
  subst hn
  obtain ⟨cl, A, h1, h2, -⟩ := F.at hj hx
  exact Go.via (fun T locs X q t r => X.baloadBooleans C.x (j := j) (v := .int x) (by rw [q]; exact A.1) (State.isArrayOf_alike C.z.alike A.2.1) A.2.2 h1 h2 (g := mkF m pc Ls (.int j :: .ref a :: st)) rfl rfl (hb C.by hd) t r) k
theorem G.iastore (C : Cx p s m meth c Z y bytes maxL ret) {a : Addr} {j : Int32} {x : Int32} {vs : List Int32} (F : Ints Z h a .int vs) (hj : 0 ≤ j.toInt) (hl : j.toInt < vs.length) (g : n0 ≤ a) (hd : decode bytes pc = .ok (.iastore, 1)) (hn : pc + 1 = n) (k : ∀ h', Keep h h' [a] → (∃ w, Wr h h' a j.toNatClampNeg w) → Ints Z h' a .int (vs.set j.toInt.toNat x) → Go p l e R s m args below meth c n0 Q cells slots h' (mkF m n Ls (st))) : Go p l e R s m args below meth c n0 Q cells slots h (mkF m pc Ls (.int x :: .int j :: .ref a :: st)) := fun T locs X N q => by
  subst hn
  obtain ⟨cl, A, h1, -⟩ := F.put (h' := h) hj hl (x := x) rfl
  obtain ⟨T', h', X', e', W, st'⟩ := stI X C.x C.z q A (j := j) h1 (g := mkF m pc Ls (.int x :: .int j :: .ref a :: st)) rfl rfl (hb C.by hd)
  obtain ⟨cl2, A2, -, h3⟩ := F.put (h' := h') hj hl (x := x) rfl
  obtain ⟨t, o, s1, r⟩ := k h' (Keep.of_wr W) ⟨_, W⟩ (h3 W) T' _ X' (Fr.snoc X' N g) e'
  exact ⟨t, o, st' t s1, r⟩
theorem G.lastore (C : Cx p s m meth c Z y bytes maxL ret) {a : Addr} {j : Int32} {x : Int64} {vs : List Int64} (F : Longs Z h a vs) (hj : 0 ≤ j.toInt) (hl : j.toInt < vs.length) (g : n0 ≤ a) (hd : decode bytes pc = .ok (.lastore, 1)) (hn : pc + 1 = n) (k : ∀ h', Keep h h' [a] → (∃ w, Wr h h' a j.toNatClampNeg w) → Longs Z h' a (vs.set j.toInt.toNat x) → Go p l e R s m args below meth c n0 Q cells slots h' (mkF m n Ls (st))) : Go p l e R s m args below meth c n0 Q cells slots h (mkF m pc Ls (.long x :: .int j :: .ref a :: st)) := fun T locs X N q => by
  subst hn
  obtain ⟨cl, A, h1, -⟩ := F.put (h' := h) hj hl (x := x) rfl
  obtain ⟨T', h', X', e', W, st'⟩ := stJ X C.x C.z q A (j := j) h1 (g := mkF m pc Ls (.long x :: .int j :: .ref a :: st)) rfl rfl (hb C.by hd)
  obtain ⟨cl2, A2, -, h3⟩ := F.put (h' := h') hj hl (x := x) rfl
  obtain ⟨t, o, s1, r⟩ := k h' (Keep.of_wr W) ⟨_, W⟩ (h3 W) T' _ X' (Fr.snoc X' N g) e'
  exact ⟨t, o, st' t s1, r⟩
theorem G.castore (C : Cx p s m meth c Z y bytes maxL ret) {a : Addr} {j : Int32} {x : Int32} {vs : List Int32} (F : Ints Z h a .char vs) (hj : 0 ≤ j.toInt) (hl : j.toInt < vs.length) (g : n0 ≤ a) (hd : decode bytes pc = .ok (.castore, 1)) (hn : pc + 1 = n) (k : ∀ h', Keep h h' [a] → (∃ w, Wr h h' a j.toNatClampNeg w) → Ints Z h' a .char (vs.set j.toInt.toNat (nar .char x)) → Go p l e R s m args below meth c n0 Q cells slots h' (mkF m n Ls (st))) : Go p l e R s m args below meth c n0 Q cells slots h (mkF m pc Ls (.int x :: .int j :: .ref a :: st)) := fun T locs X N q => by
  subst hn
  obtain ⟨cl, A, h1, -⟩ := F.put (h' := h) hj hl (x := (nar .char x)) (fits_nar_char x)
  obtain ⟨T', h', X', e', W, st'⟩ := stC X C.x C.z q A (j := j) h1 (g := mkF m pc Ls (.int x :: .int j :: .ref a :: st)) rfl rfl (hb C.by hd)
  obtain ⟨cl2, A2, -, h3⟩ := F.put (h' := h') hj hl (x := (nar .char x)) (fits_nar_char x)
  obtain ⟨t, o, s1, r⟩ := k h' (Keep.of_wr W) ⟨_, W⟩ (h3 W) T' _ X' (Fr.snoc X' N g) e'
  exact ⟨t, o, st' t s1, r⟩
theorem G.bastore (C : Cx p s m meth c Z y bytes maxL ret) {a : Addr} {j : Int32} {x : Int32} {vs : List Int32} (F : Ints Z h a .byte vs) (hj : 0 ≤ j.toInt) (hl : j.toInt < vs.length) (g : n0 ≤ a) (hd : decode bytes pc = .ok (.bastore, 1)) (hn : pc + 1 = n) (k : ∀ h', Keep h h' [a] → (∃ w, Wr h h' a j.toNatClampNeg w) → Ints Z h' a .byte (vs.set j.toInt.toNat (nar .byte x)) → Go p l e R s m args below meth c n0 Q cells slots h' (mkF m n Ls (st))) : Go p l e R s m args below meth c n0 Q cells slots h (mkF m pc Ls (.int x :: .int j :: .ref a :: st)) := fun T locs X N q => by
  subst hn
  obtain ⟨cl, A, h1, -⟩ := F.put (h' := h) hj hl (x := (nar .byte x)) (fits_nar_byte x)
  obtain ⟨T', h', X', e', W, st'⟩ := stB X C.x C.z q A (j := j) h1 (g := mkF m pc Ls (.int x :: .int j :: .ref a :: st)) rfl rfl (hb C.by hd)
  obtain ⟨cl2, A2, -, h3⟩ := F.put (h' := h') hj hl (x := (nar .byte x)) (fits_nar_byte x)
  obtain ⟨t, o, s1, r⟩ := k h' (Keep.of_wr W) ⟨_, W⟩ (h3 W) T' _ X' (Fr.snoc X' N g) e'
  exact ⟨t, o, st' t s1, r⟩
theorem G.bastoreZ (C : Cx p s m meth c Z y bytes maxL ret) {a : Addr} {j : Int32} {x : Int32} {vs : List Int32} (F : Ints Z h a .boolean vs) (hj : 0 ≤ j.toInt) (hl : j.toInt < vs.length) (g : n0 ≤ a) (hd : decode bytes pc = .ok (.bastore, 1)) (hn : pc + 1 = n) (k : ∀ h', Keep h h' [a] → (∃ w, Wr h h' a j.toNatClampNeg w) → Ints Z h' a .boolean (vs.set j.toInt.toNat (nar .boolean x)) → Go p l e R s m args below meth c n0 Q cells slots h' (mkF m n Ls (st))) : Go p l e R s m args below meth c n0 Q cells slots h (mkF m pc Ls (.int x :: .int j :: .ref a :: st)) := fun T locs X N q => by
  subst hn
  obtain ⟨cl, A, h1, -⟩ := F.put (h' := h) hj hl (x := (nar .boolean x)) (fits_nar_bool x)
  obtain ⟨T', h', X', e', W, st'⟩ := stZ X C.x C.z q A (j := j) h1 (g := mkF m pc Ls (.int x :: .int j :: .ref a :: st)) rfl rfl (hb C.by hd)
  obtain ⟨cl2, A2, -, h3⟩ := F.put (h' := h') hj hl (x := (nar .boolean x)) (fits_nar_bool x)
  obtain ⟨t, o, s1, r⟩ := k h' (Keep.of_wr W) ⟨_, W⟩ (h3 W) T' _ X' (Fr.snoc X' N g) e'
  exact ⟨t, o, st' t s1, r⟩
theorem len32 {z : Int32} {k : Nat} (hz : z.toInt = k) : z = Int32.ofNat k := by
  have h2 := (rng32 z).2
  exact Int32.toInt_inj.mp (by rw [Int32.toInt_ofNat_of_lt (by omega)]; exact hz)
theorem G.arraylengthI (C : Cx p s m meth c Z y bytes maxL ret) {a : Addr} {ty : FieldType} {vs : List Int32} {len : Int32} (F : Ints Z h a ty vs) (hlen : len.toInt = vs.length) (hd : decode bytes pc = .ok (.arraylength, 1)) (hn : pc + 1 = n) (k : Go p l e R s m args below meth c n0 Q cells slots h (mkF m n Ls (.int len :: st))) : Go p l e R s m args below meth c n0 Q cells slots h (mkF m pc Ls (.ref a :: st)) := by
  subst hn
  obtain ⟨k', z, ⟨cl, A, q1, S, N, H, G⟩, hz⟩ := F
  have e1 : cl.slots.size.toInt32 = len := (len_of S N).trans (Int32.toInt_inj.mp (hz.trans hlen.symm))
  exact Go.via (fun T locs X q t r => X.arraylength C.x (by rw [q]; exact A.1) (State.isArrayOf_alike C.z.alike A.2.1) (g := mkF m pc Ls (.ref a :: st)) rfl rfl (hb C.by hd) t (by rw [e1]; exact r)) k
theorem G.arraylengthL (C : Cx p s m meth c Z y bytes maxL ret) {a : Addr} {vs : List Int64} {len : Int32} (F : Longs Z h a vs) (hlen : len.toInt = vs.length) (hd : decode bytes pc = .ok (.arraylength, 1)) (hn : pc + 1 = n) (k : Go p l e R s m args below meth c n0 Q cells slots h (mkF m n Ls (.int len :: st))) : Go p l e R s m args below meth c n0 Q cells slots h (mkF m pc Ls (.ref a :: st)) := by
  subst hn
  obtain ⟨k', z, ⟨cl, A, q1, S, N, H, G⟩, hz⟩ := F
  have e1 : cl.slots.size.toInt32 = len := (len_of S N).trans (Int32.toInt_inj.mp (hz.trans hlen.symm))
  exact Go.via (fun T locs X q t r => X.arraylength C.x (by rw [q]; exact A.1) (State.isArrayOf_alike C.z.alike A.2.1) (g := mkF m pc Ls (.ref a :: st)) rfl rfl (hb C.by hd) t (by rw [e1]; exact r)) k
theorem G.newarray (C : Cx p s m meth c Z y bytes maxL ret) {aty : ArrayType} {ty : FieldType} {len : Int32} {cap c' s' : Nat} (w : (Jvm.Cond.arrayClass ty).before a0 Z = true) (hty : newarray.typeOf aty = ty) (hdv : defaultValue ty = .int 0) (hlen : 0 ≤ len.toInt) (hcap : len.toInt ≤ cap) (hbig : cap * 8 ≤ 536870912) (hd : decode bytes pc = .ok (.newarray aty, 2)) (hn : pc + 2 = n) (hc' : cells + 1 = c') (hs' : slots + cap = s') (hc : c' ≤ R.cells) (hs : s' ≤ R.slots)
    (k : ∀ h' b, b = h.size → Ext h h' → Ints Z h' b ty (List.replicate len.toInt.toNat 0) → Go p l e R s m args below meth c n0 Q c' s' h' (mkF m n Ls (.ref b :: st))) : Go p l e R s m args below meth c n0 Q cells slots h (mkF m pc Ls (.int len :: st)) := fun T locs X N q => by
  subst hn hc' hs' hty
  obtain ⟨T', h', cA, X', e', E, A, st'⟩ := newP X C.x C.z w q (g := mkF m pc Ls (.int len :: st)) rfl (hb C.by hd) rfl (not_neg hlen) (cap := cap) (by rw [nat_clamp]; omega) hbig hc hs
  have V := (Arv.new A (not_neg hlen))
  rw [hdv] at V
  have V2 := V.pad (pad_rep [] _ len.toInt.toNat)
  rw [List.nil_append, ← List.map_replicate (f := Value.int)] at V2
  obtain ⟨t, o, s1, r⟩ := k h' _ rfl E ⟨cA, len, V2, by rw [List.length_replicate]; omega⟩ T' _ X' N e'
  exact ⟨t, o, st' t s1, r⟩
theorem G.newarrayJ (C : Cx p s m meth c Z y bytes maxL ret) {aty : ArrayType} {ty : FieldType} {len : Int32} {cap c' s' : Nat} (w : (Jvm.Cond.arrayClass ty).before a0 Z = true) (hty : newarray.typeOf aty = ty) (hdv : defaultValue ty = .long 0) (hJ : ty = .long) (hlen : 0 ≤ len.toInt) (hcap : len.toInt ≤ cap) (hbig : cap * 8 ≤ 536870912) (hd : decode bytes pc = .ok (.newarray aty, 2)) (hn : pc + 2 = n) (hc' : cells + 1 = c') (hs' : slots + cap = s') (hc : c' ≤ R.cells) (hs : s' ≤ R.slots)
    (k : ∀ h' b, b = h.size → Ext h h' → Longs Z h' b (List.replicate len.toInt.toNat 0) → Go p l e R s m args below meth c n0 Q c' s' h' (mkF m n Ls (.ref b :: st))) : Go p l e R s m args below meth c n0 Q cells slots h (mkF m pc Ls (.int len :: st)) := fun T locs X N q => by
  subst hn hc' hs' hty
  obtain ⟨T', h', cA, X', e', E, A, st'⟩ := newP X C.x C.z w q (g := mkF m pc Ls (.int len :: st)) rfl (hb C.by hd) rfl (not_neg hlen) (cap := cap) (by rw [nat_clamp]; omega) hbig hc hs
  have V := (Arv.new A (not_neg hlen))
  rw [hdv] at V
  have V2 := V.pad (pad_rep [] _ len.toInt.toNat)
  rw [List.nil_append, ← List.map_replicate (f := Value.long), hJ] at V2
  obtain ⟨t, o, s1, r⟩ := k h' _ rfl E ⟨cA, len, V2, by rw [List.length_replicate]; omega⟩ T' _ X' N e'
  exact ⟨t, o, st' t s1, r⟩
theorem getD_at {α : Type} {vs : List α} {i : Nat} {d : α} (h : i < vs.length) : vs[i]? = some (vs.getD i d) := by
  rw [List.getD_eq_getElem?_getD, List.getElem?_eq_getElem h]; rfl
def Refs (Z : State) (h : Heap) (a : Addr) (ty : FieldType) (vs : List Value) : Prop := ∃ k z, Arv Z h a k ty z vs .null ∧ z.toInt = vs.length
theorem Refs.lt {a : Addr} {ty : FieldType} {vs : List Value} (F : Refs Z h a ty vs) : a < h.size := by obtain ⟨k, z, A, -⟩ := F; exact A.lt
theorem Refs.keep {h' : Heap} {ws : List Addr} {a : Addr} {ty : FieldType} {vs : List Value} (F : Refs Z h a ty vs) (K : Keep h h' ws) (r : a ∉ ws) : Refs Z h' a ty vs := by obtain ⟨k, z, A, q⟩ := F; exact ⟨k, z, A.keep K r, q⟩
theorem Refs.at {a : Addr} {ty : FieldType} {vs : List Value} (F : Refs Z h a ty vs) {j : Int32} {x : Value} (hj : 0 ≤ j.toInt) (hx : vs[j.toInt.toNat]? = some x) : ∃ cl, Arr Z h a cl ty ∧ ¬ (j < 0 ∨ cl.slots.size ≤ j.toNatClampNeg) ∧ cl.slots[j.toNatClampNeg]? = some x := by
  obtain ⟨k, z, ⟨cl, A, q1, S, N, H, G⟩, hz⟩ := F
  have hi := inb hj S hz (lt_of_some hx)
  have hi2 : j.toNatClampNeg < cl.slots.size := Nat.lt_of_not_le fun y => hi (Or.inr y)
  have e1 := H _ hi2
  rw [nat_clamp, List.getD_eq_getElem?_getD, hx] at e1
  exact ⟨cl, A, hi, e1⟩
theorem G.aaload (C : Cx p s m meth c Z y bytes maxL ret) {a : Addr} {j : Int32} {x : Value} {ty : FieldType} {vs : List Value} (F : Refs Z h a ty vs) (hty : ty.isReference = true) (hj : 0 ≤ j.toInt) (hx : vs[j.toInt.toNat]? = some x) (hd : decode bytes pc = .ok (.aaload, 1)) (hn : pc + 1 = n) (k : Go p l e R s m args below meth c n0 Q cells slots h (mkF m n Ls (x :: st))) : Go p l e R s m args below meth c n0 Q cells slots h (mkF m pc Ls (.int j :: .ref a :: st)) := by
  subst hn
  obtain ⟨cl, A, h1, h2⟩ := F.at hj hx
  exact Go.via (fun T locs X q t r => X.aaload C.x (j := j) (v := x) (by rw [q]; exact A.1) (State.isArrayOf_alike C.z.alike A.2.1) hty A.2.2 h1 h2 (g := mkF m pc Ls (.int j :: .ref a :: st)) rfl rfl (hb C.by hd) t r) k
theorem G.arraylengthR (C : Cx p s m meth c Z y bytes maxL ret) {a : Addr} {ty : FieldType} {vs : List Value} {len : Int32} (F : Refs Z h a ty vs) (hlen : len.toInt = vs.length) (hd : decode bytes pc = .ok (.arraylength, 1)) (hn : pc + 1 = n) (k : Go p l e R s m args below meth c n0 Q cells slots h (mkF m n Ls (.int len :: st))) : Go p l e R s m args below meth c n0 Q cells slots h (mkF m pc Ls (.ref a :: st)) := by
  subst hn
  obtain ⟨k', z, ⟨cl, A, q1, S, N, H, G⟩, hz⟩ := F
  have e1 : cl.slots.size.toInt32 = len := (len_of S N).trans (Int32.toInt_inj.mp (hz.trans hlen.symm))
  exact Go.via (fun T locs X q t r => X.arraylength C.x (by rw [q]; exact A.1) (State.isArrayOf_alike C.z.alike A.2.1) (g := mkF m pc Ls (.ref a :: st)) rfl rfl (hb C.by hd) t (by rw [e1]; exact r)) k
theorem eqv_r {Z : State} {args : Array Value} {X F : Term} {idx : List Nat} {y : Addr} (hF : F.eval args Z none idx Z = some (.ref y)) (h : (Jvm.Cond.eq X F).value args Z none Z idx = some true) : X.eval args Z none idx Z = some (.ref y) := by
  obtain ⟨x, y', e1, e2, k1, k2⟩ := cmp_v (Or.inl h)
  cases hF.symm.trans e2
  have hx : x.isRef = true := k2.2
  have := gotT (eq_R e1 hF hx rfl) h
  rw [e1, this]
theorem len_q {Z : State} {args : Array Value} {t : Term} {a : Addr} {cl : Cell} {y : Int32} (ht : t.eval args Z none [] Z = some (.ref a)) (ha : Z.arrayAt? a = some cl) (h : (Term.length t).eval args Z none [] Z = some (.int y)) : cl.slots.size < 2 ^ 31 ∧ cl.slots.size.toInt32 = y := by
  simp [Term.eval, ht, ha] at h
  exact h
theorem Refs.start {s : State} {a : Addr} {cl : Cell} {ty : FieldType} {z : Int32} {vs : List Value} (hf : Fit s) (A : Arr s s.heap a cl ty) (q : cl.slots.size < 2 ^ 31 ∧ cl.slots.size.toInt32 = z) (hz : z.toInt = vs.length) (H : HasL cl 0 vs) : Refs s s.heap a ty vs :=
  ⟨cl.cls, z, Arv.start hf A q.1 q.2 (not_neg (by omega)) (by rw [nat_clamp]; omega) H, hz⟩
theorem Ints.start {s : State} {a : Addr} {cl : Cell} {ty : FieldType} {z : Int32} {vs : List Int32} (hf : Fit s) (A : Arr s s.heap a cl ty) (q : cl.slots.size < 2 ^ 31 ∧ cl.slots.size.toInt32 = z) (hz : z.toInt = vs.length) (H : HasL cl 0 (vs.map Value.int)) : Ints s s.heap a ty vs :=
  ⟨cl.cls, z, Arv.start hf A q.1 q.2 (not_neg (by omega)) (by rw [nat_clamp, List.length_map]; omega) H, hz⟩
theorem us_all (vs : List Int32) : ((List.range vs.length).map fun i => (vs.map Value.int).getD (0 + i) (.int 0)) = vs.map Value.int := by
  apply List.ext_getElem (by simp)
  intro i h1 h2
  simp at h1
  simp [h1]
theorem G.arraycopy0 (C : Cx p s m meth c Z y bytes maxL ret) {index W : Nat} {ty : FieldType} {a b : Addr} {vs vd : List Int32} {nn : Int32} (w1 : (Jvm.Cond.methodLink y.cls index Jvm.Stand.acN).before a0 Z = true) (w2 : (Jvm.Cond.native Jvm.Stand.acN).before a0 Z = true) (w3 : (Jvm.Cond.static Jvm.Stand.acN).before a0 Z = true) (w4 : (Jvm.Cond.initialized "java/lang/System").before a0 Z = true) (A : Ints Z h a ty vs) (B : Ints Z h b ty vd) (hp : refKind ty = false) (h3 : nn.toInt = vs.length) (h5 : vs.length ≤ vd.length) (g : n0 ≤ b)
    (hd : decode bytes pc = .ok (.invokestatic index, 3)) (hsz : Ls.size = maxL) (hf : 1 ≤ R.frames) (hW : (st.map fun v => v.category).sum = W) (hlo : W + (nativeFrameWords "java/lang/System" "arraycopy" 5 + 11) ≤ R.locals) (hn : pc + 3 = n) (k : ∀ h', Keep h h' [b] → Ints Z h' b ty (vs ++ vd.drop vs.length) → Go p l e R s m args below meth c n0 Q cells slots h' (mkF m n Ls (st))) : Go p l e R s m args below meth c n0 Q cells slots h (mkF m pc Ls (.int nn :: .int 0 :: .ref b :: .int 0 :: .ref a :: st)) := fun T locs X N q => by
  subst hn hW
  obtain ⟨k1, z1, A1, e1⟩ := A
  obtain ⟨k2, z2, B1, e2⟩ := B
  have hnn : nn.toNatClampNeg = vs.length := by rw [nat_clamp, h3]; rfl
  have z1n : z1.toNatClampNeg = vs.length := by rw [nat_clamp, e1]; rfl
  have z2n : z2.toNatClampNeg = vd.length := by rw [nat_clamp, e2]; rfl
  obtain ⟨T', h', L, X', e', NL, K, V, st'⟩ := cpA X C.x C.z C.own w1 w2 w3 w4 q (us := vs.map Value.int) A1 B1 (Or.inl ⟨rfl, hp⟩) (sp := 0) (dp := 0) (nn := nn) (by decide) (by decide) (not_neg (by omega)) (by rw [hnn, z1n]; show 0 + _ ≤ _; omega) (by rw [hnn, z2n]; show 0 + _ ≤ _; omega) (by rw [hnn]; exact (us_all vs).symm) (by rw [hnn, List.length_map]; show 0 + _ ≤ _; omega) N g (g := mkF m pc Ls (.int nn :: .int 0 :: .ref b :: .int 0 :: .ref a :: st)) rfl (hsz.trans C.ml.symm) rfl (hb C.by hd) hf (W := (st.map fun v => v.category).sum) (by show 2 * 0 + _ ≤ _; omega) hlo
  rw [hnn, show (0 : Int32).toNatClampNeg = 0 from rfl, List.take_zero, List.nil_append, Nat.zero_add, ← List.map_drop, ← List.map_append] at V
  obtain ⟨t, o, s1, r⟩ := k h' K ⟨k2, z2, V, by rw [e2, List.length_append, List.length_drop]; omega⟩ T' L X' NL e'
  exact ⟨t, o, st' t s1, r⟩
theorem kext {h' : Heap} (E : Ext h h') : Keep h h' [] := (Keep.refl h []).ext E
theorem Keep.tr {h' h'' : Heap} {ws ws' : List Addr} (K : Keep h h' ws) (K' : Keep h' h'' ws') (q : ∀ x ∈ ws', x ∈ ws ∨ h.size ≤ x) : Keep h h'' ws := K.trans K' q
end
end Jvm.Own
namespace Jvm.Pilot.@@N@@
open Jvm Jvm.ClassFile Sem Op Lib Jvm.Free Jvm.Stand Jvm.LawKit Jvm.RoadKit Jvm.Own Bundle Jvm.Pilot.@@N@@.Jvm.D
def ub (vs : List Int32) (i : Int) : Int := ((vs.getD i.toNat 0) &&& (255 : Int32)).toInt
def sq (b0 b1 b2 b3 rem : Int) : Int :=
  if b0 < 128 then 1
  else if 194 ≤ b0 ∧ b0 ≤ 223 ∧ 2 ≤ rem ∧ 128 ≤ b1 ∧ b1 ≤ 191 then 2
  else if 224 ≤ b0 ∧ b0 ≤ 239 ∧ 3 ≤ rem ∧ 128 ≤ b1 ∧ b1 ≤ 191 ∧ 128 ≤ b2 ∧ b2 ≤ 191 ∧ ¬ (b0 = 224 ∧ b1 < 160) ∧ ¬ (b0 = 237 ∧ 159 < b1) then 3
  else if 240 ≤ b0 ∧ b0 ≤ 244 ∧ 4 ≤ rem ∧ 128 ≤ b1 ∧ b1 ≤ 191 ∧ 128 ≤ b2 ∧ b2 ≤ 191 ∧ 128 ≤ b3 ∧ b3 ≤ 191 ∧ ¬ (b0 = 240 ∧ b1 < 144) ∧ ¬ (b0 = 244 ∧ 143 < b1) then 4
  else 0
def sqv (vs : List Int32) (A E : Int) : Int := sq (ub vs A) (ub vs (A + 1)) (ub vs (A + 2)) (ub vs (A + 3)) (E - A)
theorem sq_1 {b0 b1 b2 b3 rem : Int} (h : b0 < 128) : sq b0 b1 b2 b3 rem = 1 := if_pos h
theorem sq_2 {b0 b1 b2 b3 rem : Int} (h : 194 ≤ b0 ∧ b0 ≤ 223 ∧ 2 ≤ rem ∧ 128 ≤ b1 ∧ b1 ≤ 191) : sq b0 b1 b2 b3 rem = 2 := by
  unfold sq
  rw [if_neg (by omega), if_pos h]
theorem sq_3 {b0 b1 b2 b3 rem : Int} (h : 224 ≤ b0 ∧ b0 ≤ 239 ∧ 3 ≤ rem ∧ 128 ≤ b1 ∧ b1 ≤ 191 ∧ 128 ≤ b2 ∧ b2 ≤ 191) (h1 : ¬ (b0 = 224 ∧ b1 < 160)) (h2 : ¬ (b0 = 237 ∧ 159 < b1)) : sq b0 b1 b2 b3 rem = 3 := by
  unfold sq
  rw [if_neg (by omega), if_neg (by omega), if_pos ⟨h.1, h.2.1, h.2.2.1, h.2.2.2.1, h.2.2.2.2.1, h.2.2.2.2.2.1, h.2.2.2.2.2.2, h1, h2⟩]
theorem sq_4 {b0 b1 b2 b3 rem : Int} (h : 240 ≤ b0 ∧ b0 ≤ 244 ∧ 4 ≤ rem ∧ 128 ≤ b1 ∧ b1 ≤ 191 ∧ 128 ≤ b2 ∧ b2 ≤ 191 ∧ 128 ≤ b3 ∧ b3 ≤ 191) (h1 : ¬ (b0 = 240 ∧ b1 < 144)) (h2 : ¬ (b0 = 244 ∧ 143 < b1)) : sq b0 b1 b2 b3 rem = 4 := by
  unfold sq
  rw [if_neg (by omega), if_neg (by omega), if_neg (by omega), if_pos ⟨h.1, h.2.1, h.2.2.1, h.2.2.2.1, h.2.2.2.2.1, h.2.2.2.2.2.1, h.2.2.2.2.2.2.1, h.2.2.2.2.2.2.2.1, h.2.2.2.2.2.2.2.2, h1, h2⟩]
theorem sq_0x {b0 b1 b2 b3 rem : Int} (h : 128 ≤ b0) (h2 : b0 < 194 ∨ 244 < b0) : sq b0 b1 b2 b3 rem = 0 := by
  unfold sq
  rw [if_neg (by omega), if_neg (by omega), if_neg (by omega), if_neg (by omega)]
theorem sq_02 {b0 b1 b2 b3 rem : Int} (h : 194 ≤ b0 ∧ b0 ≤ 223) (h2 : rem < 2 ∨ b1 < 128 ∨ 191 < b1) : sq b0 b1 b2 b3 rem = 0 := by
  unfold sq
  rw [if_neg (by omega), if_neg (by omega), if_neg (by omega), if_neg (by omega)]
theorem sq_03 {b0 b1 b2 b3 rem : Int} (h : 224 ≤ b0 ∧ b0 ≤ 239) (h2 : rem < 3 ∨ b1 < 128 ∨ 191 < b1 ∨ b2 < 128 ∨ 191 < b2 ∨ (b0 = 224 ∧ b1 < 160) ∨ (b0 = 237 ∧ 159 < b1)) : sq b0 b1 b2 b3 rem = 0 := by
  unfold sq
  rw [if_neg (by omega), if_neg (by omega), if_neg (fun q => by obtain ⟨a, b, c, d, e, f, g, i, j⟩ := q; rcases h2 with h | h | h | h | h | h | h <;> first | omega | exact i h | exact j h), if_neg (by omega)]
theorem sq_04 {b0 b1 b2 b3 rem : Int} (h : 240 ≤ b0 ∧ b0 ≤ 244) (h2 : rem < 4 ∨ b1 < 128 ∨ 191 < b1 ∨ b2 < 128 ∨ 191 < b2 ∨ b3 < 128 ∨ 191 < b3 ∨ (b0 = 240 ∧ b1 < 144) ∨ (b0 = 244 ∧ 143 < b1)) : sq b0 b1 b2 b3 rem = 0 := by
  unfold sq
  rw [if_neg (by omega), if_neg (by omega), if_neg (by omega), if_neg (fun q => by obtain ⟨a, b, c, d, e, f, g, k, l, i, j⟩ := q; rcases h2 with h | h | h | h | h | h | h | h | h <;> first | omega | exact i h | exact j h)]
theorem sq_02x {b0 b1 b2 b3 rem : Int} (h : 192 ≤ b0 ∧ b0 ≤ 223) (h2 : b0 < 194 ∨ rem < 2 ∨ b1 < 128 ∨ 191 < b1) : sq b0 b1 b2 b3 rem = 0 := by
  by_cases e : b0 < 194
  · exact sq_0x (by omega) (by omega)
  · exact sq_02 (by omega) (by omega)
theorem sq_04x {b0 b1 b2 b3 rem : Int} (h : 240 ≤ b0 ∧ b0 < 248) (h2 : 244 < b0 ∨ rem < 4 ∨ b1 < 128 ∨ 191 < b1 ∨ b2 < 128 ∨ 191 < b2 ∨ b3 < 128 ∨ 191 < b3 ∨ (b0 = 240 ∧ b1 < 144) ∨ (b0 = 244 ∧ 143 < b1)) : sq b0 b1 b2 b3 rem = 0 := by
  by_cases e : 244 < b0
  · exact sq_0x (by omega) (by omega)
  · exact sq_04 (by omega) (by omega)
theorem sq_r (b0 b1 b2 b3 rem : Int) : 0 ≤ sq b0 b1 b2 b3 rem ∧ sq b0 b1 b2 b3 rem ≤ 4 := by
  unfold sq
  repeat' split
  all_goals decide
theorem k224 : ∀ n : Fin 256, ((Int32.ofNat n.val &&& (224 : Int32)).toInt = 192 ↔ (192 ≤ n.val ∧ n.val < 224)) := by decide +kernel
theorem k240 : ∀ n : Fin 256, ((Int32.ofNat n.val &&& (240 : Int32)).toInt = 224 ↔ (224 ≤ n.val ∧ n.val < 240)) := by decide +kernel
theorem k248 : ∀ n : Fin 256, ((Int32.ofNat n.val &&& (248 : Int32)).toInt = 240 ↔ (240 ≤ n.val ∧ n.val < 248)) := by decide +kernel
theorem k192 : ∀ n : Fin 256, ((Int32.ofNat n.val &&& (192 : Int32)).toInt = 128 ↔ (128 ≤ n.val ∧ n.val ≤ 191)) := by decide +kernel
theorem k192s : ∀ n : Fin 256, ((Int32.ofInt ((n.val : Int) - 128) &&& (192 : Int32)).toInt = 128 ↔ (128 ≤ (Int32.ofInt ((n.val : Int) - 128) &&& (255 : Int32)).toInt ∧ (Int32.ofInt ((n.val : Int) - 128) &&& (255 : Int32)).toInt ≤ 191)) := by decide +kernel
theorem asFin {b : Int32} (h : 0 ≤ b.toInt ∧ b.toInt ≤ 255) : ∃ n : Fin 256, b = Int32.ofNat n.val ∧ b.toInt = n.val := by
  refine ⟨⟨b.toInt.toNat, by omega⟩, Int32.toInt_inj.mp ?_, ?_⟩
  · rw [Int32.toInt_ofNat_of_lt (by show b.toInt.toNat < _; omega)]; show _ = ((b.toInt.toNat : Nat) : Int); omega
  · show _ = ((b.toInt.toNat : Nat) : Int); omega
theorem a224 {b : Int32} (h : 0 ≤ b.toInt ∧ b.toInt ≤ 255) : (b &&& (224 : Int32)).toInt = 192 ↔ (192 ≤ b.toInt ∧ b.toInt < 224) := by
  obtain ⟨n, e1, e2⟩ := asFin h
  rw [e1, k224 n, ← e1, e2]; omega
theorem a240 {b : Int32} (h : 0 ≤ b.toInt ∧ b.toInt ≤ 255) : (b &&& (240 : Int32)).toInt = 224 ↔ (224 ≤ b.toInt ∧ b.toInt < 240) := by
  obtain ⟨n, e1, e2⟩ := asFin h
  rw [e1, k240 n, ← e1, e2]; omega
theorem a248 {b : Int32} (h : 0 ≤ b.toInt ∧ b.toInt ≤ 255) : (b &&& (248 : Int32)).toInt = 240 ↔ (240 ≤ b.toInt ∧ b.toInt < 248) := by
  obtain ⟨n, e1, e2⟩ := asFin h
  rw [e1, k248 n, ← e1, e2]; omega
theorem a192 {b : Int32} (h : 0 ≤ b.toInt ∧ b.toInt ≤ 255) : (b &&& (192 : Int32)).toInt = 128 ↔ (128 ≤ b.toInt ∧ b.toInt ≤ 191) := by
  obtain ⟨n, e1, e2⟩ := asFin h
  rw [e1, k192 n, ← e1, e2]; omega
theorem a192s {b : Int32} (h : -128 ≤ b.toInt ∧ b.toInt ≤ 127) : (b &&& (192 : Int32)).toInt = 128 ↔ (128 ≤ (b &&& (255 : Int32)).toInt ∧ (b &&& (255 : Int32)).toInt ≤ 191) := by
  have e : b = Int32.ofInt (((⟨(b.toInt + 128).toNat, by omega⟩ : Fin 256).val : Int) - 128) := by
    apply Int32.toInt_inj.mp
    show b.toInt = (Int32.ofInt ((((b.toInt + 128).toNat : Nat) : Int) - 128)).toInt
    rw [show ((((b.toInt + 128).toNat : Nat) : Int) - 128) = b.toInt by omega, Int32.ofInt_toInt]
  rw [e]
  exact k192s _
theorem u255 (e : Int32) : 0 ≤ (e &&& (255 : Int32)).toInt ∧ (e &&& (255 : Int32)).toInt ≤ 255 := c_and e 255 (by decide)
theorem cpx {cp c : Int32} (h0 : 0 ≤ cp.toInt) (h1 : cp.toInt < 1048576) : ((cp <<< ((6 : Int32) &&& 31)) ||| (c &&& (63 : Int32))).toInt = cp.toInt * 64 + c.toInt % 64 := by
  have q1 := c_ishl cp 6 6 (by decide)
  have q2 := rng32 (cp <<< ((6 : Int32) &&& 31))
  have q3 : (c &&& (63 : Int32)).toInt = c.toInt % ((2 ^ 6 : Nat) : Int) := c_mask c 63 6 (by decide) (by decide)
  have q4 := c_or (cp <<< ((6 : Int32) &&& 31)) (c &&& (63 : Int32)) 6 (by decide) 64 rfl (by omega) (by omega) (by omega)
  have q5 := rng32 ((cp <<< ((6 : Int32) &&& 31)) ||| (c &&& (63 : Int32)))
  omega
theorem Ints_byte {Z : State} {h : Heap} {a : Addr} {vs : List Int32} (F : Ints Z h a .byte vs) {i : Nat} (hi : i < vs.length) : -128 ≤ (vs.getD i 0).toInt ∧ (vs.getD i 0).toInt ≤ 127 := by
  have hl := F.len
  have e : (Int32.ofNat i).toInt = i := Int32.toInt_ofNat_of_lt (by omega)
  obtain ⟨cl, A, -, -, q⟩ := F.at (j := Int32.ofNat i) (x := vs.getD i 0) (by omega) (by rw [e]; exact getD_at hi)
  have r := rng_byte q
  rw [lt_i, lt_i] at r
  have e1 : (-128 : Int32).toInt = -128 := rfl
  have e2 : (127 : Int32).toInt = 127 := rfl
  omega
theorem ixk {i k : Int32} {K : Int} (hk : k.toInt = K) (h0 : 0 ≤ i.toInt) (hK : 0 ≤ K) (h1 : i.toInt + K < 2147483648) : (i + k).toInt = i.toInt + K := by
  have q1 := c_iadd i k
  have q2 := rng32 (i + k)
  omega
theorem isubk {x y : Int32} (hx : 0 ≤ x.toInt) (hy : 0 ≤ y.toInt) : (x - y).toInt = x.toInt - y.toInt := by
  have q1 := c_isub x y
  have q2 := rng32 (x - y)
  have q3 := rng32 x
  have q4 := rng32 y
  omega
def stp (vs : List Int32) (E A : Int) : Int := if A < 0 ∨ E ≤ A then A else if sqv vs A E = 0 then -1 else A + sqv vs A E
def wfn (vs : List Int32) (E : Int) : Nat → Int → Bool
  | 0, _ => true
  | k + 1, A => if E ≤ A then true else if sqv vs A E = 0 then false else wfn vs E k (A + sqv vs A E)
def itn (vs : List Int32) (E : Int) : Nat → Int → Int
  | 0, A => A
  | k + 1, A => itn vs E k (stp vs E A)
theorem itn_neg (vs : List Int32) (E : Int) : ∀ k, itn vs E k (-1) = -1
  | 0 => rfl
  | k + 1 => by
    show itn vs E k (stp vs E (-1)) = -1
    rw [show stp vs E (-1) = -1 from if_pos (Or.inl (by decide))]
    exact itn_neg vs E k
theorem itn_end (vs : List Int32) (E A : Int) (h : E ≤ A) : ∀ k, itn vs E k A = A
  | 0 => rfl
  | k + 1 => by
    show itn vs E k (stp vs E A) = A
    rw [show stp vs E A = A from if_pos (Or.inr h)]
    exact itn_end vs E A h k
theorem itn_wfn (vs : List Int32) (E : Int) : ∀ (k : Nat) (A : Int), 0 ≤ A → E - A ≤ k → wfn vs E k A = decide (0 ≤ itn vs E k A)
  | 0, A, h0, h1 => by
    show true = decide (0 ≤ A)
    rw [decide_eq_true h0]
  | k + 1, A, h0, h1 => by
    have r := sq_r (ub vs A) (ub vs (A + 1)) (ub vs (A + 2)) (ub vs (A + 3)) (E - A)
    have r' : 0 ≤ sqv vs A E := r.1
    show (if E ≤ A then true else if sqv vs A E = 0 then false else wfn vs E k (A + sqv vs A E)) = decide (0 ≤ itn vs E k (stp vs E A))
    by_cases e : E ≤ A
    · rw [if_pos e, show stp vs E A = A from if_pos (Or.inr e), itn_end vs E A e, decide_eq_true h0]
    · rw [if_neg e]
      by_cases z : sqv vs A E = 0
      · rw [if_pos z, show stp vs E A = -1 by unfold stp; rw [if_neg (by omega), if_pos z], itn_neg]; rfl
      · rw [if_neg z, show stp vs E A = A + sqv vs A E by unfold stp; rw [if_neg (by omega), if_neg z]]
        exact itn_wfn vs E k _ (by omega) (by omega)
theorem d3_0 : decode method_5_code 0 = .ok (.aload_n 0, 1) := by decide +kernel
theorem d3_1 : decode method_5_code 1 = .ok (.iload_n 1, 1) := by decide +kernel
theorem d3_2 : decode method_5_code 2 = .ok (.baload, 1) := by decide +kernel
theorem d3_3 : decode method_5_code 3 = .ok (.sipush 255, 3) := by decide +kernel
theorem d3_6 : decode method_5_code 6 = .ok (.iand, 1) := by decide +kernel
theorem d3_7 : decode method_5_code 7 = .ok (.istore_n 3, 1) := by decide +kernel
theorem d3_8 : decode method_5_code 8 = .ok (.iload_n 3, 1) := by decide +kernel
theorem d3_9 : decode method_5_code 9 = .ok (.sipush 128, 3) := by decide +kernel
theorem d3_12 : decode method_5_code 12 = .ok (.if_icmp .ge 5, 3) := by decide +kernel
theorem d3_15 : decode method_5_code 15 = .ok (.iconst 1, 1) := by decide +kernel
theorem d3_16 : decode method_5_code 16 = .ok (.ireturn, 1) := by decide +kernel
theorem d3_17 : decode method_5_code 17 = .ok (.iload_n 3, 1) := by decide +kernel
theorem d3_18 : decode method_5_code 18 = .ok (.sipush 224, 3) := by decide +kernel
theorem d3_21 : decode method_5_code 21 = .ok (.iand, 1) := by decide +kernel
theorem d3_22 : decode method_5_code 22 = .ok (.sipush 192, 3) := by decide +kernel
theorem d3_25 : decode method_5_code 25 = .ok (.if_icmp .ne 15, 3) := by decide +kernel
theorem d3_28 : decode method_5_code 28 = .ok (.iconst 2, 1) := by decide +kernel
theorem d3_29 : decode method_5_code 29 = .ok (.istore 4, 2) := by decide +kernel
theorem d3_31 : decode method_5_code 31 = .ok (.iload_n 3, 1) := by decide +kernel
theorem d3_32 : decode method_5_code 32 = .ok (.bipush 31, 2) := by decide +kernel
theorem d3_34 : decode method_5_code 34 = .ok (.iand, 1) := by decide +kernel
theorem d3_35 : decode method_5_code 35 = .ok (.istore 5, 2) := by decide +kernel
theorem d3_37 : decode method_5_code 37 = .ok (.goto 51, 3) := by decide +kernel
theorem d3_40 : decode method_5_code 40 = .ok (.iload_n 3, 1) := by decide +kernel
theorem d3_41 : decode method_5_code 41 = .ok (.sipush 240, 3) := by decide +kernel
theorem d3_44 : decode method_5_code 44 = .ok (.iand, 1) := by decide +kernel
theorem d3_45 : decode method_5_code 45 = .ok (.sipush 224, 3) := by decide +kernel
theorem d3_48 : decode method_5_code 48 = .ok (.if_icmp .ne 15, 3) := by decide +kernel
theorem d3_51 : decode method_5_code 51 = .ok (.iconst 3, 1) := by decide +kernel
theorem d3_52 : decode method_5_code 52 = .ok (.istore 4, 2) := by decide +kernel
theorem d3_54 : decode method_5_code 54 = .ok (.iload_n 3, 1) := by decide +kernel
theorem d3_55 : decode method_5_code 55 = .ok (.bipush 15, 2) := by decide +kernel
theorem d3_57 : decode method_5_code 57 = .ok (.iand, 1) := by decide +kernel
theorem d3_58 : decode method_5_code 58 = .ok (.istore 5, 2) := by decide +kernel
theorem d3_60 : decode method_5_code 60 = .ok (.goto 28, 3) := by decide +kernel
theorem d3_63 : decode method_5_code 63 = .ok (.iload_n 3, 1) := by decide +kernel
theorem d3_64 : decode method_5_code 64 = .ok (.sipush 248, 3) := by decide +kernel
theorem d3_67 : decode method_5_code 67 = .ok (.iand, 1) := by decide +kernel
theorem d3_68 : decode method_5_code 68 = .ok (.sipush 240, 3) := by decide +kernel
theorem d3_71 : decode method_5_code 71 = .ok (.if_icmp .ne 15, 3) := by decide +kernel
theorem d3_74 : decode method_5_code 74 = .ok (.iconst 4, 1) := by decide +kernel
theorem d3_75 : decode method_5_code 75 = .ok (.istore 4, 2) := by decide +kernel
theorem d3_77 : decode method_5_code 77 = .ok (.iload_n 3, 1) := by decide +kernel
theorem d3_78 : decode method_5_code 78 = .ok (.bipush 7, 2) := by decide +kernel
theorem d3_80 : decode method_5_code 80 = .ok (.iand, 1) := by decide +kernel
theorem d3_81 : decode method_5_code 81 = .ok (.istore 5, 2) := by decide +kernel
theorem d3_83 : decode method_5_code 83 = .ok (.goto 5, 3) := by decide +kernel
theorem d3_86 : decode method_5_code 86 = .ok (.iconst 0, 1) := by decide +kernel
theorem d3_87 : decode method_5_code 87 = .ok (.ireturn, 1) := by decide +kernel
theorem d3_88 : decode method_5_code 88 = .ok (.iload_n 2, 1) := by decide +kernel
theorem d3_89 : decode method_5_code 89 = .ok (.iload_n 1, 1) := by decide +kernel
theorem d3_90 : decode method_5_code 90 = .ok (.isub, 1) := by decide +kernel
theorem d3_91 : decode method_5_code 91 = .ok (.iload 4, 2) := by decide +kernel
theorem d3_93 : decode method_5_code 93 = .ok (.if_icmp .ge 5, 3) := by decide +kernel
theorem d3_96 : decode method_5_code 96 = .ok (.iconst 0, 1) := by decide +kernel
theorem d3_97 : decode method_5_code 97 = .ok (.ireturn, 1) := by decide +kernel
theorem d3_98 : decode method_5_code 98 = .ok (.aload_n 0, 1) := by decide +kernel
theorem d3_99 : decode method_5_code 99 = .ok (.iload_n 1, 1) := by decide +kernel
theorem d3_100 : decode method_5_code 100 = .ok (.iconst 1, 1) := by decide +kernel
theorem d3_101 : decode method_5_code 101 = .ok (.iadd, 1) := by decide +kernel
theorem d3_102 : decode method_5_code 102 = .ok (.baload, 1) := by decide +kernel
theorem d3_103 : decode method_5_code 103 = .ok (.sipush 255, 3) := by decide +kernel
theorem d3_106 : decode method_5_code 106 = .ok (.iand, 1) := by decide +kernel
theorem d3_107 : decode method_5_code 107 = .ok (.istore 6, 2) := by decide +kernel
theorem d3_109 : decode method_5_code 109 = .ok (.iload 6, 2) := by decide +kernel
theorem d3_111 : decode method_5_code 111 = .ok (.sipush 192, 3) := by decide +kernel
theorem d3_114 : decode method_5_code 114 = .ok (.iand, 1) := by decide +kernel
theorem d3_115 : decode method_5_code 115 = .ok (.sipush 128, 3) := by decide +kernel
theorem d3_118 : decode method_5_code 118 = .ok (.if_icmp .eq 5, 3) := by decide +kernel
theorem d3_121 : decode method_5_code 121 = .ok (.iconst 0, 1) := by decide +kernel
theorem d3_122 : decode method_5_code 122 = .ok (.ireturn, 1) := by decide +kernel
theorem d3_123 : decode method_5_code 123 = .ok (.iload 5, 2) := by decide +kernel
theorem d3_125 : decode method_5_code 125 = .ok (.bipush 6, 2) := by decide +kernel
theorem d3_127 : decode method_5_code 127 = .ok (.ishl, 1) := by decide +kernel
theorem d3_128 : decode method_5_code 128 = .ok (.iload 6, 2) := by decide +kernel
theorem d3_130 : decode method_5_code 130 = .ok (.bipush 63, 2) := by decide +kernel
theorem d3_132 : decode method_5_code 132 = .ok (.iand, 1) := by decide +kernel
theorem d3_133 : decode method_5_code 133 = .ok (.ior, 1) := by decide +kernel
theorem d3_134 : decode method_5_code 134 = .ok (.istore 5, 2) := by decide +kernel
theorem d3_136 : decode method_5_code 136 = .ok (.iload 4, 2) := by decide +kernel
theorem d3_138 : decode method_5_code 138 = .ok (.iconst 3, 1) := by decide +kernel
theorem d3_139 : decode method_5_code 139 = .ok (.if_icmp .lt 41, 3) := by decide +kernel
theorem d3_142 : decode method_5_code 142 = .ok (.aload_n 0, 1) := by decide +kernel
theorem d3_143 : decode method_5_code 143 = .ok (.iload_n 1, 1) := by decide +kernel
theorem d3_144 : decode method_5_code 144 = .ok (.iconst 2, 1) := by decide +kernel
theorem d3_145 : decode method_5_code 145 = .ok (.iadd, 1) := by decide +kernel
theorem d3_146 : decode method_5_code 146 = .ok (.baload, 1) := by decide +kernel
theorem d3_147 : decode method_5_code 147 = .ok (.sipush 255, 3) := by decide +kernel
theorem d3_150 : decode method_5_code 150 = .ok (.iand, 1) := by decide +kernel
theorem d3_151 : decode method_5_code 151 = .ok (.istore 7, 2) := by decide +kernel
theorem d3_153 : decode method_5_code 153 = .ok (.iload 7, 2) := by decide +kernel
theorem d3_155 : decode method_5_code 155 = .ok (.sipush 192, 3) := by decide +kernel
theorem d3_158 : decode method_5_code 158 = .ok (.iand, 1) := by decide +kernel
theorem d3_159 : decode method_5_code 159 = .ok (.sipush 128, 3) := by decide +kernel
theorem d3_162 : decode method_5_code 162 = .ok (.if_icmp .eq 5, 3) := by decide +kernel
theorem d3_165 : decode method_5_code 165 = .ok (.iconst 0, 1) := by decide +kernel
theorem d3_166 : decode method_5_code 166 = .ok (.ireturn, 1) := by decide +kernel
theorem d3_167 : decode method_5_code 167 = .ok (.iload 5, 2) := by decide +kernel
theorem d3_169 : decode method_5_code 169 = .ok (.bipush 6, 2) := by decide +kernel
theorem d3_171 : decode method_5_code 171 = .ok (.ishl, 1) := by decide +kernel
theorem d3_172 : decode method_5_code 172 = .ok (.iload 7, 2) := by decide +kernel
theorem d3_174 : decode method_5_code 174 = .ok (.bipush 63, 2) := by decide +kernel
theorem d3_176 : decode method_5_code 176 = .ok (.iand, 1) := by decide +kernel
theorem d3_177 : decode method_5_code 177 = .ok (.ior, 1) := by decide +kernel
theorem d3_178 : decode method_5_code 178 = .ok (.istore 5, 2) := by decide +kernel
theorem d3_180 : decode method_5_code 180 = .ok (.iload 4, 2) := by decide +kernel
theorem d3_182 : decode method_5_code 182 = .ok (.iconst 4, 1) := by decide +kernel
theorem d3_183 : decode method_5_code 183 = .ok (.if_icmp .ne 41, 3) := by decide +kernel
theorem d3_186 : decode method_5_code 186 = .ok (.aload_n 0, 1) := by decide +kernel
theorem d3_187 : decode method_5_code 187 = .ok (.iload_n 1, 1) := by decide +kernel
theorem d3_188 : decode method_5_code 188 = .ok (.iconst 3, 1) := by decide +kernel
theorem d3_189 : decode method_5_code 189 = .ok (.iadd, 1) := by decide +kernel
theorem d3_190 : decode method_5_code 190 = .ok (.baload, 1) := by decide +kernel
theorem d3_191 : decode method_5_code 191 = .ok (.sipush 255, 3) := by decide +kernel
theorem d3_194 : decode method_5_code 194 = .ok (.iand, 1) := by decide +kernel
theorem d3_195 : decode method_5_code 195 = .ok (.istore 7, 2) := by decide +kernel
theorem d3_197 : decode method_5_code 197 = .ok (.iload 7, 2) := by decide +kernel
theorem d3_199 : decode method_5_code 199 = .ok (.sipush 192, 3) := by decide +kernel
theorem d3_202 : decode method_5_code 202 = .ok (.iand, 1) := by decide +kernel
theorem d3_203 : decode method_5_code 203 = .ok (.sipush 128, 3) := by decide +kernel
theorem d3_206 : decode method_5_code 206 = .ok (.if_icmp .eq 5, 3) := by decide +kernel
theorem d3_209 : decode method_5_code 209 = .ok (.iconst 0, 1) := by decide +kernel
theorem d3_210 : decode method_5_code 210 = .ok (.ireturn, 1) := by decide +kernel
theorem d3_211 : decode method_5_code 211 = .ok (.iload 5, 2) := by decide +kernel
theorem d3_213 : decode method_5_code 213 = .ok (.bipush 6, 2) := by decide +kernel
theorem d3_215 : decode method_5_code 215 = .ok (.ishl, 1) := by decide +kernel
theorem d3_216 : decode method_5_code 216 = .ok (.iload 7, 2) := by decide +kernel
theorem d3_218 : decode method_5_code 218 = .ok (.bipush 63, 2) := by decide +kernel
theorem d3_220 : decode method_5_code 220 = .ok (.iand, 1) := by decide +kernel
theorem d3_221 : decode method_5_code 221 = .ok (.ior, 1) := by decide +kernel
theorem d3_222 : decode method_5_code 222 = .ok (.istore 5, 2) := by decide +kernel
theorem d3_224 : decode method_5_code 224 = .ok (.iload 4, 2) := by decide +kernel
theorem d3_226 : decode method_5_code 226 = .ok (.iconst 2, 1) := by decide +kernel
theorem d3_227 : decode method_5_code 227 = .ok (.if_icmp .ne 9, 3) := by decide +kernel
theorem d3_230 : decode method_5_code 230 = .ok (.sipush 128, 3) := by decide +kernel
theorem d3_233 : decode method_5_code 233 = .ok (.goto 17, 3) := by decide +kernel
theorem d3_236 : decode method_5_code 236 = .ok (.iload 4, 2) := by decide +kernel
theorem d3_238 : decode method_5_code 238 = .ok (.iconst 3, 1) := by decide +kernel
theorem d3_239 : decode method_5_code 239 = .ok (.if_icmp .ne 9, 3) := by decide +kernel
theorem d3_242 : decode method_5_code 242 = .ok (.sipush 2048, 3) := by decide +kernel
theorem d3_245 : decode method_5_code 245 = .ok (.goto 5, 3) := by decide +kernel
theorem d3_248 : decode method_5_code 248 = .ok (.ldc 26, 2) := by decide +kernel
theorem d3_250 : decode method_5_code 250 = .ok (.istore 7, 2) := by decide +kernel
theorem d3_252 : decode method_5_code 252 = .ok (.iload 5, 2) := by decide +kernel
theorem d3_254 : decode method_5_code 254 = .ok (.iload 7, 2) := by decide +kernel
theorem d3_256 : decode method_5_code 256 = .ok (.if_icmp .ge 5, 3) := by decide +kernel
theorem d3_259 : decode method_5_code 259 = .ok (.iconst 0, 1) := by decide +kernel
theorem d3_260 : decode method_5_code 260 = .ok (.ireturn, 1) := by decide +kernel
theorem d3_261 : decode method_5_code 261 = .ok (.iload 5, 2) := by decide +kernel
theorem d3_263 : decode method_5_code 263 = .ok (.ldc 27, 2) := by decide +kernel
theorem d3_265 : decode method_5_code 265 = .ok (.if_icmp .lt 12, 3) := by decide +kernel
theorem d3_268 : decode method_5_code 268 = .ok (.iload 5, 2) := by decide +kernel
theorem d3_270 : decode method_5_code 270 = .ok (.ldc 28, 2) := by decide +kernel
theorem d3_272 : decode method_5_code 272 = .ok (.if_icmp .gt 5, 3) := by decide +kernel
theorem d3_275 : decode method_5_code 275 = .ok (.iconst 0, 1) := by decide +kernel
theorem d3_276 : decode method_5_code 276 = .ok (.ireturn, 1) := by decide +kernel
theorem d3_277 : decode method_5_code 277 = .ok (.iload 5, 2) := by decide +kernel
theorem d3_279 : decode method_5_code 279 = .ok (.ldc 29, 2) := by decide +kernel
theorem d3_281 : decode method_5_code 281 = .ok (.if_icmp .le 5, 3) := by decide +kernel
theorem d3_284 : decode method_5_code 284 = .ok (.iconst 0, 1) := by decide +kernel
theorem d3_285 : decode method_5_code 285 = .ok (.ireturn, 1) := by decide +kernel
theorem d3_286 : decode method_5_code 286 = .ok (.iload 4, 2) := by decide +kernel
theorem d3_288 : decode method_5_code 288 = .ok (.ireturn, 1) := by decide +kernel
theorem pn0 : plainName "com/example/veilrelay/veilrelay/core/IdentifiersWellFormedUtf8PinLaw" = true := by first | (simp [plainName, overriddenIn]; done) | decide +kernel
theorem ef1 (m : MethodId) (a : Addr) (i : Int32) (e2 : Int32) : entryFrame m #[(.ref a), (.int i), (.int e2)] 8 = mkF m 0 #[.val (.ref a), .val (.int i), .val (.int e2), .unset, .unset, .unset, .unset, .unset] [] := by first | (simp [entryFrame, mkF, argsToLocals, Value.category]; done) | rfl
abbrev Q_seq (Z : State) (h0 : Heap) (n0 : Nat) (a : Addr) (i : Int32) (e2 : Int32) (vs : List Int32) : Option Value → Heap → Prop := fun v h' => ∃ r : Int32, v = some (.int r) ∧ h0 = h' ∧ r.toInt = sqv vs i.toInt e2.toInt
abbrev R_seq : Room := { frames := 0, cells := 0, slots := 0, locals := 0 }
set_option maxRecDepth 65536 in
set_option maxHeartbeats 40000000 in
theorem m_seq (l : Launch) (Z : State) (a0 : Array Value) (hw : ∀ d ∈ tables_1, d.before a0 Z = true) (a : Addr) (i : Int32) (e2 : Int32) (vs : List Int32) (h0 : Heap) (n0 : Nat) (Z0 : n0 ≤ h0.size) (O_a : Ints Z h0 a .byte vs) (q_l : vs.length = 6) (q_0 : 0 ≤ i.toInt) (q_1 : i.toInt < e2.toInt) (q_6 : e2.toInt ≤ 6) : Met l Z (⟨"com/example/veilrelay/veilrelay/core/IdentifiersWellFormedUtf8PinLaw", "seq", "([BII)I"⟩ : MethodName) method_5_code 8 (some .int) R_seq #[(.ref a), (.int i), (.int e2)] h0 n0 (Q_seq Z h0 n0 a i e2 vs) := by
  refine Met.of (plainFor_of_name pn0) (fun m => ef1 m a i e2) ?_
  intro p e s m args below meth c C
  refine G.aloadN C d3_0 rfl rfl (n := 1) rfl ?_
  refine G.iloadN C d3_1 rfl (n := 2) rfl ?_
  refine G.baload C (x := (vs.getD i.toInt.toNat 0)) O_a (by omega) (getD_at (by omega)) d3_2 (n := 3) rfl ?_
  refine G.sipush C (v := (255 : Int32)) d3_3 (by decide) (n := 6) rfl ?_
  refine G.iand C d3_6 (n := 7) rfl ?_
  refine G.name_int ?_
  intro b2 hb2
  have R0 : 0 ≤ b2.toInt ∧ b2.toInt ≤ 255 := by rw [hb2]; exact u255 _
  have U0 : b2.toInt = ub vs (i.toInt) := by rw [hb2]; rfl
  refine G.istoreN C d3_7 (l' := #[.val (.ref a), .val (.int i), .val (.int e2), .val (.int b2), .unset, .unset, .unset, .unset]) rfl (n := 8) rfl ?_
  refine G.iloadN C d3_8 rfl (n := 9) rfl ?_
  refine G.sipush C (v := (128 : Int32)) d3_9 (by decide) (n := 12) rfl ?_
  refine G.icmp_ge C (A := b2.toInt) (B := 128) rfl (by decide) d3_12 (by decide) (by decide) (n := 15) (n' := 17) rfl (fun c12_3 => ?_) (fun c12_3 => ?_)
  · refine G.iloadN C d3_17 rfl (n := 18) rfl ?_
    refine G.sipush C (v := (224 : Int32)) d3_18 (by decide) (n := 21) rfl ?_
    refine G.iand C d3_21 (n := 22) rfl ?_
    refine G.sipush C (v := (192 : Int32)) d3_22 (by decide) (n := 25) rfl ?_
    refine G.icmp_ne C (A := (b2 &&& (224 : Int32)).toInt) (B := 192) rfl (by decide) d3_25 (by decide) (by decide) (n := 28) (n' := 40) rfl (fun c25_4 c25_4i => ?_) (fun c25_4 c25_4i => ?_)
    · have r40 : ¬ (192 ≤ b2.toInt ∧ b2.toInt < 224) := fun q => c25_4i ((a224 R0).mpr q)
      refine G.iloadN C d3_40 rfl (n := 41) rfl ?_
      refine G.sipush C (v := (240 : Int32)) d3_41 (by decide) (n := 44) rfl ?_
      refine G.iand C d3_44 (n := 45) rfl ?_
      refine G.sipush C (v := (224 : Int32)) d3_45 (by decide) (n := 48) rfl ?_
      refine G.icmp_ne C (A := (b2 &&& (240 : Int32)).toInt) (B := 224) rfl (by decide) d3_48 (by decide) (by decide) (n := 51) (n' := 63) rfl (fun c48_5 c48_5i => ?_) (fun c48_5 c48_5i => ?_)
      · have r63 : ¬ (224 ≤ b2.toInt ∧ b2.toInt < 240) := fun q => c48_5i ((a240 R0).mpr q)
        refine G.iloadN C d3_63 rfl (n := 64) rfl ?_
        refine G.sipush C (v := (248 : Int32)) d3_64 (by decide) (n := 67) rfl ?_
        refine G.iand C d3_67 (n := 68) rfl ?_
        refine G.sipush C (v := (240 : Int32)) d3_68 (by decide) (n := 71) rfl ?_
        refine G.icmp_ne C (A := (b2 &&& (248 : Int32)).toInt) (B := 240) rfl (by decide) d3_71 (by decide) (by decide) (n := 74) (n' := 86) rfl (fun c71_6 c71_6i => ?_) (fun c71_6 c71_6i => ?_)
        · have r86 : ¬ (240 ≤ b2.toInt ∧ b2.toInt < 248) := fun q => c71_6i ((a248 R0).mpr q)
          refine G.iconst C (v := (0 : Int32)) d3_86 (by decide) (n := 87) rfl ?_
          refine G.ireturn C d3_87 (rfl) (by simp) (by decide) (by decide) ?_
          refine ⟨_, rfl, rfl, ?_⟩
          show (0 : Int) = sqv vs i.toInt e2.toInt
          symm
          unfold sqv
          exact sq_0x (by omega) (by omega)
        · have r74 := (a248 R0).mp c71_6i
          refine G.iconst C (v := (4 : Int32)) d3_74 (by decide) (n := 75) rfl ?_
          refine G.istore C d3_75 (l' := #[.val (.ref a), .val (.int i), .val (.int e2), .val (.int b2), .val (.int (4 : Int32)), .unset, .unset, .unset]) rfl (n := 77) rfl ?_
          refine G.iloadN C d3_77 rfl (n := 78) rfl ?_
          refine G.bipush C (v := (7 : Int32)) d3_78 (by decide) (n := 80) rfl ?_
          refine G.iand C d3_80 (n := 81) rfl ?_
          refine G.name_int ?_
          intro cp7 hcp7
          have C0 : cp7.toInt = b2.toInt % ((2 ^ 3 : Nat) : Int) := by rw [hcp7]; exact c_mask _ 7 3 (by decide) (by decide)
          refine G.istore C d3_81 (l' := #[.val (.ref a), .val (.int i), .val (.int e2), .val (.int b2), .val (.int (4 : Int32)), .val (.int cp7), .unset, .unset]) rfl (n := 83) rfl ?_
          refine G.goto C d3_83 (by decide) (n := 88) (by decide) ?_
          have q_rem := isubk (x := e2) (y := i) (by omega) q_0
          refine G.iloadN C d3_88 rfl (n := 89) rfl ?_
          refine G.iloadN C d3_89 rfl (n := 90) rfl ?_
          refine G.isub C d3_90 (n := 91) rfl ?_
          refine G.iload C d3_91 rfl (n := 93) rfl ?_
          refine G.icmp_ge C (A := (e2 - i).toInt) (B := 4) rfl (by decide) d3_93 (by decide) (by decide) (n := 96) (n' := 98) rfl (fun c93_9 => ?_) (fun c93_9 => ?_)
          · refine G.aloadN C d3_98 rfl rfl (n := 99) rfl ?_
            refine G.iloadN C d3_99 rfl (n := 100) rfl ?_
            refine G.iconst C (v := (1 : Int32)) d3_100 (by decide) (n := 101) rfl ?_
            refine G.iadd C d3_101 (n := 102) rfl ?_
            have x10 : ((i + (1 : Int32))).toInt = i.toInt + 1 := ixk (by decide) q_0 (by decide) (by omega)
            have x10n : ((i + (1 : Int32))).toInt.toNat = (i.toInt + 1).toNat := congrArg Int.toNat x10
            refine G.baload C (x := (vs.getD (i.toInt + 1).toNat 0)) O_a (by omega) (by rw [x10n]; exact getD_at (by omega)) d3_102 (n := 103) rfl ?_
            refine G.sipush C (v := (255 : Int32)) d3_103 (by decide) (n := 106) rfl ?_
            refine G.iand C d3_106 (n := 107) rfl ?_
            refine G.name_int ?_
            intro b11 hb11
            have R1 : 0 ≤ b11.toInt ∧ b11.toInt ≤ 255 := by rw [hb11]; exact u255 _
            have U1 : b11.toInt = ub vs (i.toInt + 1) := by rw [hb11]; rfl
            refine G.istore C d3_107 (l' := #[.val (.ref a), .val (.int i), .val (.int e2), .val (.int b2), .val (.int (4 : Int32)), .val (.int cp7), .val (.int b11), .unset]) rfl (n := 109) rfl ?_
            refine G.iload C d3_109 rfl (n := 111) rfl ?_
            refine G.sipush C (v := (192 : Int32)) d3_111 (by decide) (n := 114) rfl ?_
            refine G.iand C d3_114 (n := 115) rfl ?_
            refine G.sipush C (v := (128 : Int32)) d3_115 (by decide) (n := 118) rfl ?_
            refine G.icmp_eq C (A := (b11 &&& (192 : Int32)).toInt) (B := 128) rfl (by decide) d3_118 (by decide) (by decide) (n := 121) (n' := 123) rfl (fun c118_12 c118_12i => ?_) (fun c118_12 c118_12i => ?_)
            · have r123 := (a192 R1).mp c118_12i
              refine G.iload C d3_123 rfl (n := 125) rfl ?_
              refine G.bipush C (v := (6 : Int32)) d3_125 (by decide) (n := 127) rfl ?_
              refine G.ishl C d3_127 (n := 128) rfl ?_
              refine G.iload C d3_128 rfl (n := 130) rfl ?_
              refine G.bipush C (v := (63 : Int32)) d3_130 (by decide) (n := 132) rfl ?_
              refine G.iand C d3_132 (n := 133) rfl ?_
              refine G.ior C d3_133 (n := 134) rfl ?_
              refine G.name_int ?_
              intro cp13 hcp13
              have C1 : cp13.toInt = cp7.toInt * 64 + b11.toInt % 64 := by rw [hcp13]; exact cpx (by omega) (by omega)
              refine G.istore C d3_134 (l' := #[.val (.ref a), .val (.int i), .val (.int e2), .val (.int b2), .val (.int (4 : Int32)), .val (.int cp13), .val (.int b11), .unset]) rfl (n := 136) rfl ?_
              refine G.iload C d3_136 rfl (n := 138) rfl ?_
              refine G.iconst C (v := (3 : Int32)) d3_138 (by decide) (n := 139) rfl ?_
              refine G.icmp_lt C (A := 4) (B := 3) (by decide) (by decide) d3_139 (by decide) (by decide) (n := 142) (n' := 180) rfl (fun c139_14 => ?_) (fun c139_14 => ?_)
              · exact absurd c139_14 (by decide)
              refine G.aloadN C d3_142 rfl rfl (n := 143) rfl ?_
              refine G.iloadN C d3_143 rfl (n := 144) rfl ?_
              refine G.iconst C (v := (2 : Int32)) d3_144 (by decide) (n := 145) rfl ?_
              refine G.iadd C d3_145 (n := 146) rfl ?_
              have x15 : ((i + (2 : Int32))).toInt = i.toInt + 2 := ixk (by decide) q_0 (by decide) (by omega)
              have x15n : ((i + (2 : Int32))).toInt.toNat = (i.toInt + 2).toNat := congrArg Int.toNat x15
              refine G.baload C (x := (vs.getD (i.toInt + 2).toNat 0)) O_a (by omega) (by rw [x15n]; exact getD_at (by omega)) d3_146 (n := 147) rfl ?_
              refine G.sipush C (v := (255 : Int32)) d3_147 (by decide) (n := 150) rfl ?_
              refine G.iand C d3_150 (n := 151) rfl ?_
              refine G.name_int ?_
              intro b16 hb16
              have R2 : 0 ≤ b16.toInt ∧ b16.toInt ≤ 255 := by rw [hb16]; exact u255 _
              have U2 : b16.toInt = ub vs (i.toInt + 2) := by rw [hb16]; rfl
              refine G.istore C d3_151 (l' := #[.val (.ref a), .val (.int i), .val (.int e2), .val (.int b2), .val (.int (4 : Int32)), .val (.int cp13), .val (.int b11), .val (.int b16)]) rfl (n := 153) rfl ?_
              refine G.iload C d3_153 rfl (n := 155) rfl ?_
              refine G.sipush C (v := (192 : Int32)) d3_155 (by decide) (n := 158) rfl ?_
              refine G.iand C d3_158 (n := 159) rfl ?_
              refine G.sipush C (v := (128 : Int32)) d3_159 (by decide) (n := 162) rfl ?_
              refine G.icmp_eq C (A := (b16 &&& (192 : Int32)).toInt) (B := 128) rfl (by decide) d3_162 (by decide) (by decide) (n := 165) (n' := 167) rfl (fun c162_17 c162_17i => ?_) (fun c162_17 c162_17i => ?_)
              · have r167 := (a192 R2).mp c162_17i
                refine G.iload C d3_167 rfl (n := 169) rfl ?_
                refine G.bipush C (v := (6 : Int32)) d3_169 (by decide) (n := 171) rfl ?_
                refine G.ishl C d3_171 (n := 172) rfl ?_
                refine G.iload C d3_172 rfl (n := 174) rfl ?_
                refine G.bipush C (v := (63 : Int32)) d3_174 (by decide) (n := 176) rfl ?_
                refine G.iand C d3_176 (n := 177) rfl ?_
                refine G.ior C d3_177 (n := 178) rfl ?_
                refine G.name_int ?_
                intro cp18 hcp18
                have C2 : cp18.toInt = cp13.toInt * 64 + b16.toInt % 64 := by rw [hcp18]; exact cpx (by omega) (by omega)
                refine G.istore C d3_178 (l' := #[.val (.ref a), .val (.int i), .val (.int e2), .val (.int b2), .val (.int (4 : Int32)), .val (.int cp18), .val (.int b11), .val (.int b16)]) rfl (n := 180) rfl ?_
                refine G.iload C d3_180 rfl (n := 182) rfl ?_
                refine G.iconst C (v := (4 : Int32)) d3_182 (by decide) (n := 183) rfl ?_
                refine G.icmp_ne C (A := 4) (B := 4) (by decide) (by decide) d3_183 (by decide) (by decide) (n := 186) (n' := 224) rfl (fun c183_19 c183_19i => ?_) (fun c183_19 c183_19i => ?_)
                · exact absurd c183_19 (by decide)
                refine G.aloadN C d3_186 rfl rfl (n := 187) rfl ?_
                refine G.iloadN C d3_187 rfl (n := 188) rfl ?_
                refine G.iconst C (v := (3 : Int32)) d3_188 (by decide) (n := 189) rfl ?_
                refine G.iadd C d3_189 (n := 190) rfl ?_
                have x20 : ((i + (3 : Int32))).toInt = i.toInt + 3 := ixk (by decide) q_0 (by decide) (by omega)
                have x20n : ((i + (3 : Int32))).toInt.toNat = (i.toInt + 3).toNat := congrArg Int.toNat x20
                refine G.baload C (x := (vs.getD (i.toInt + 3).toNat 0)) O_a (by omega) (by rw [x20n]; exact getD_at (by omega)) d3_190 (n := 191) rfl ?_
                refine G.sipush C (v := (255 : Int32)) d3_191 (by decide) (n := 194) rfl ?_
                refine G.iand C d3_194 (n := 195) rfl ?_
                refine G.name_int ?_
                intro b21 hb21
                have R3 : 0 ≤ b21.toInt ∧ b21.toInt ≤ 255 := by rw [hb21]; exact u255 _
                have U3 : b21.toInt = ub vs (i.toInt + 3) := by rw [hb21]; rfl
                refine G.istore C d3_195 (l' := #[.val (.ref a), .val (.int i), .val (.int e2), .val (.int b2), .val (.int (4 : Int32)), .val (.int cp18), .val (.int b11), .val (.int b21)]) rfl (n := 197) rfl ?_
                refine G.iload C d3_197 rfl (n := 199) rfl ?_
                refine G.sipush C (v := (192 : Int32)) d3_199 (by decide) (n := 202) rfl ?_
                refine G.iand C d3_202 (n := 203) rfl ?_
                refine G.sipush C (v := (128 : Int32)) d3_203 (by decide) (n := 206) rfl ?_
                refine G.icmp_eq C (A := (b21 &&& (192 : Int32)).toInt) (B := 128) rfl (by decide) d3_206 (by decide) (by decide) (n := 209) (n' := 211) rfl (fun c206_22 c206_22i => ?_) (fun c206_22 c206_22i => ?_)
                · have r211 := (a192 R3).mp c206_22i
                  refine G.iload C d3_211 rfl (n := 213) rfl ?_
                  refine G.bipush C (v := (6 : Int32)) d3_213 (by decide) (n := 215) rfl ?_
                  refine G.ishl C d3_215 (n := 216) rfl ?_
                  refine G.iload C d3_216 rfl (n := 218) rfl ?_
                  refine G.bipush C (v := (63 : Int32)) d3_218 (by decide) (n := 220) rfl ?_
                  refine G.iand C d3_220 (n := 221) rfl ?_
                  refine G.ior C d3_221 (n := 222) rfl ?_
                  refine G.name_int ?_
                  intro cp23 hcp23
                  have C3 : cp23.toInt = cp18.toInt * 64 + b21.toInt % 64 := by rw [hcp23]; exact cpx (by omega) (by omega)
                  refine G.istore C d3_222 (l' := #[.val (.ref a), .val (.int i), .val (.int e2), .val (.int b2), .val (.int (4 : Int32)), .val (.int cp23), .val (.int b11), .val (.int b21)]) rfl (n := 224) rfl ?_
                  refine G.iload C d3_224 rfl (n := 226) rfl ?_
                  refine G.iconst C (v := (2 : Int32)) d3_226 (by decide) (n := 227) rfl ?_
                  refine G.icmp_ne C (A := 4) (B := 2) (by decide) (by decide) d3_227 (by decide) (by decide) (n := 230) (n' := 236) rfl (fun c227_24 c227_24i => ?_) (fun c227_24 c227_24i => ?_)
                  rotate_left
                  · exact absurd c227_24 (by decide)
                  refine G.iload C d3_236 rfl (n := 238) rfl ?_
                  refine G.iconst C (v := (3 : Int32)) d3_238 (by decide) (n := 239) rfl ?_
                  refine G.icmp_ne C (A := 4) (B := 3) (by decide) (by decide) d3_239 (by decide) (by decide) (n := 242) (n' := 248) rfl (fun c239_25 c239_25i => ?_) (fun c239_25 c239_25i => ?_)
                  rotate_left
                  · exact absurd c239_25 (by decide)
                  refine G.ldc C (v := (65536 : Int32)) (wd hw 18 rfl) d3_248 (n := 250) rfl ?_
                  refine G.istore C d3_250 (l' := #[.val (.ref a), .val (.int i), .val (.int e2), .val (.int b2), .val (.int (4 : Int32)), .val (.int cp23), .val (.int b11), .val (.int (65536 : Int32))]) rfl (n := 252) rfl ?_
                  refine G.iload C d3_252 rfl (n := 254) rfl ?_
                  refine G.iload C d3_254 rfl (n := 256) rfl ?_
                  refine G.icmp_ge C (A := cp23.toInt) (B := 65536) rfl (by decide) d3_256 (by decide) (by decide) (n := 259) (n' := 261) rfl (fun c256_26 => ?_) (fun c256_26 => ?_)
                  · refine G.iload C d3_261 rfl (n := 263) rfl ?_
                    refine G.ldc C (v := (55296 : Int32)) (wd hw 16 rfl) d3_263 (n := 265) rfl ?_
                    refine G.icmp_lt C (A := cp23.toInt) (B := 55296) rfl (by decide) d3_265 (by decide) (by decide) (n := 268) (n' := 277) rfl (fun c265_27 => ?_) (fun c265_27 => ?_)
                    · refine G.iload C d3_277 rfl (n := 279) rfl ?_
                      refine G.ldc C (v := (1114111 : Int32)) (wd hw 17 rfl) d3_279 (n := 281) rfl ?_
                      refine G.icmp_le C (A := cp23.toInt) (B := 1114111) rfl (by decide) d3_281 (by decide) (by decide) (n := 284) (n' := 286) rfl (fun c281_28 => ?_) (fun c281_28 => ?_)
                      · refine G.iload C d3_286 rfl (n := 288) rfl ?_
                        refine G.ireturn C d3_288 (rfl) (by simp) (by decide) (by decide) ?_
                        refine ⟨_, rfl, rfl, ?_⟩
                        show (4 : Int) = sqv vs i.toInt e2.toInt
                        symm
                        unfold sqv
                        exact sq_4 (by omega) (by omega) (by omega)
                      · refine G.iconst C (v := (0 : Int32)) d3_284 (by decide) (n := 285) rfl ?_
                        refine G.ireturn C d3_285 (rfl) (by simp) (by decide) (by decide) ?_
                        refine ⟨_, rfl, rfl, ?_⟩
                        show (0 : Int) = sqv vs i.toInt e2.toInt
                        symm
                        unfold sqv
                        exact sq_04x (by omega) (by omega)
                    · refine G.iload C d3_268 rfl (n := 270) rfl ?_
                      refine G.ldc C (v := (57343 : Int32)) (wd hw 19 rfl) d3_270 (n := 272) rfl ?_
                      refine G.icmp_gt C (A := cp23.toInt) (B := 57343) rfl (by decide) d3_272 (by decide) (by decide) (n := 275) (n' := 277) rfl (fun c272_29 => ?_) (fun c272_29 => ?_)
                      · refine G.iload C d3_277 rfl (n := 279) rfl ?_
                        refine G.ldc C (v := (1114111 : Int32)) (wd hw 17 rfl) d3_279 (n := 281) rfl ?_
                        refine G.icmp_le C (A := cp23.toInt) (B := 1114111) rfl (by decide) d3_281 (by decide) (by decide) (n := 284) (n' := 286) rfl (fun c281_30 => ?_) (fun c281_30 => ?_)
                        · refine G.iload C d3_286 rfl (n := 288) rfl ?_
                          refine G.ireturn C d3_288 (rfl) (by simp) (by decide) (by decide) ?_
                          refine ⟨_, rfl, rfl, ?_⟩
                          show (4 : Int) = sqv vs i.toInt e2.toInt
                          symm
                          unfold sqv
                          exact sq_4 (by omega) (by omega) (by omega)
                        · refine G.iconst C (v := (0 : Int32)) d3_284 (by decide) (n := 285) rfl ?_
                          refine G.ireturn C d3_285 (rfl) (by simp) (by decide) (by decide) ?_
                          refine ⟨_, rfl, rfl, ?_⟩
                          show (0 : Int) = sqv vs i.toInt e2.toInt
                          symm
                          unfold sqv
                          exact sq_04x (by omega) (by omega)
                      · refine G.iconst C (v := (0 : Int32)) d3_275 (by decide) (n := 276) rfl ?_
                        refine G.ireturn C d3_276 (rfl) (by simp) (by decide) (by decide) ?_
                        refine ⟨_, rfl, rfl, ?_⟩
                        show (0 : Int) = sqv vs i.toInt e2.toInt
                        symm
                        unfold sqv
                        exact sq_04x (by omega) (by omega)
                  · refine G.iconst C (v := (0 : Int32)) d3_259 (by decide) (n := 260) rfl ?_
                    refine G.ireturn C d3_260 (rfl) (by simp) (by decide) (by decide) ?_
                    refine ⟨_, rfl, rfl, ?_⟩
                    show (0 : Int) = sqv vs i.toInt e2.toInt
                    symm
                    unfold sqv
                    exact sq_04x (by omega) (by omega)
                · have r209 : ¬ (128 ≤ b21.toInt ∧ b21.toInt ≤ 191) := fun q => c206_22i ((a192 R3).mpr q)
                  refine G.iconst C (v := (0 : Int32)) d3_209 (by decide) (n := 210) rfl ?_
                  refine G.ireturn C d3_210 (rfl) (by simp) (by decide) (by decide) ?_
                  refine ⟨_, rfl, rfl, ?_⟩
                  show (0 : Int) = sqv vs i.toInt e2.toInt
                  symm
                  unfold sqv
                  exact sq_04x (by omega) (by omega)
              · have r165 : ¬ (128 ≤ b16.toInt ∧ b16.toInt ≤ 191) := fun q => c162_17i ((a192 R2).mpr q)
                refine G.iconst C (v := (0 : Int32)) d3_165 (by decide) (n := 166) rfl ?_
                refine G.ireturn C d3_166 (rfl) (by simp) (by decide) (by decide) ?_
                refine ⟨_, rfl, rfl, ?_⟩
                show (0 : Int) = sqv vs i.toInt e2.toInt
                symm
                unfold sqv
                exact sq_04x (by omega) (by omega)
            · have r121 : ¬ (128 ≤ b11.toInt ∧ b11.toInt ≤ 191) := fun q => c118_12i ((a192 R1).mpr q)
              refine G.iconst C (v := (0 : Int32)) d3_121 (by decide) (n := 122) rfl ?_
              refine G.ireturn C d3_122 (rfl) (by simp) (by decide) (by decide) ?_
              refine ⟨_, rfl, rfl, ?_⟩
              show (0 : Int) = sqv vs i.toInt e2.toInt
              symm
              unfold sqv
              exact sq_04x (by omega) (by omega)
          · refine G.iconst C (v := (0 : Int32)) d3_96 (by decide) (n := 97) rfl ?_
            refine G.ireturn C d3_97 (rfl) (by simp) (by decide) (by decide) ?_
            refine ⟨_, rfl, rfl, ?_⟩
            show (0 : Int) = sqv vs i.toInt e2.toInt
            symm
            unfold sqv
            exact sq_04x (by omega) (by omega)
      · have r51 := (a240 R0).mp c48_5i
        refine G.iconst C (v := (3 : Int32)) d3_51 (by decide) (n := 52) rfl ?_
        refine G.istore C d3_52 (l' := #[.val (.ref a), .val (.int i), .val (.int e2), .val (.int b2), .val (.int (3 : Int32)), .unset, .unset, .unset]) rfl (n := 54) rfl ?_
        refine G.iloadN C d3_54 rfl (n := 55) rfl ?_
        refine G.bipush C (v := (15 : Int32)) d3_55 (by decide) (n := 57) rfl ?_
        refine G.iand C d3_57 (n := 58) rfl ?_
        refine G.name_int ?_
        intro cp31 hcp31
        have C0 : cp31.toInt = b2.toInt % ((2 ^ 4 : Nat) : Int) := by rw [hcp31]; exact c_mask _ 15 4 (by decide) (by decide)
        refine G.istore C d3_58 (l' := #[.val (.ref a), .val (.int i), .val (.int e2), .val (.int b2), .val (.int (3 : Int32)), .val (.int cp31), .unset, .unset]) rfl (n := 60) rfl ?_
        refine G.goto C d3_60 (by decide) (n := 88) (by decide) ?_
        have q_rem := isubk (x := e2) (y := i) (by omega) q_0
        refine G.iloadN C d3_88 rfl (n := 89) rfl ?_
        refine G.iloadN C d3_89 rfl (n := 90) rfl ?_
        refine G.isub C d3_90 (n := 91) rfl ?_
        refine G.iload C d3_91 rfl (n := 93) rfl ?_
        refine G.icmp_ge C (A := (e2 - i).toInt) (B := 3) rfl (by decide) d3_93 (by decide) (by decide) (n := 96) (n' := 98) rfl (fun c93_33 => ?_) (fun c93_33 => ?_)
        · refine G.aloadN C d3_98 rfl rfl (n := 99) rfl ?_
          refine G.iloadN C d3_99 rfl (n := 100) rfl ?_
          refine G.iconst C (v := (1 : Int32)) d3_100 (by decide) (n := 101) rfl ?_
          refine G.iadd C d3_101 (n := 102) rfl ?_
          have x34 : ((i + (1 : Int32))).toInt = i.toInt + 1 := ixk (by decide) q_0 (by decide) (by omega)
          have x34n : ((i + (1 : Int32))).toInt.toNat = (i.toInt + 1).toNat := congrArg Int.toNat x34
          refine G.baload C (x := (vs.getD (i.toInt + 1).toNat 0)) O_a (by omega) (by rw [x34n]; exact getD_at (by omega)) d3_102 (n := 103) rfl ?_
          refine G.sipush C (v := (255 : Int32)) d3_103 (by decide) (n := 106) rfl ?_
          refine G.iand C d3_106 (n := 107) rfl ?_
          refine G.name_int ?_
          intro b35 hb35
          have R1 : 0 ≤ b35.toInt ∧ b35.toInt ≤ 255 := by rw [hb35]; exact u255 _
          have U1 : b35.toInt = ub vs (i.toInt + 1) := by rw [hb35]; rfl
          refine G.istore C d3_107 (l' := #[.val (.ref a), .val (.int i), .val (.int e2), .val (.int b2), .val (.int (3 : Int32)), .val (.int cp31), .val (.int b35), .unset]) rfl (n := 109) rfl ?_
          refine G.iload C d3_109 rfl (n := 111) rfl ?_
          refine G.sipush C (v := (192 : Int32)) d3_111 (by decide) (n := 114) rfl ?_
          refine G.iand C d3_114 (n := 115) rfl ?_
          refine G.sipush C (v := (128 : Int32)) d3_115 (by decide) (n := 118) rfl ?_
          refine G.icmp_eq C (A := (b35 &&& (192 : Int32)).toInt) (B := 128) rfl (by decide) d3_118 (by decide) (by decide) (n := 121) (n' := 123) rfl (fun c118_36 c118_36i => ?_) (fun c118_36 c118_36i => ?_)
          · have r123 := (a192 R1).mp c118_36i
            refine G.iload C d3_123 rfl (n := 125) rfl ?_
            refine G.bipush C (v := (6 : Int32)) d3_125 (by decide) (n := 127) rfl ?_
            refine G.ishl C d3_127 (n := 128) rfl ?_
            refine G.iload C d3_128 rfl (n := 130) rfl ?_
            refine G.bipush C (v := (63 : Int32)) d3_130 (by decide) (n := 132) rfl ?_
            refine G.iand C d3_132 (n := 133) rfl ?_
            refine G.ior C d3_133 (n := 134) rfl ?_
            refine G.name_int ?_
            intro cp37 hcp37
            have C1 : cp37.toInt = cp31.toInt * 64 + b35.toInt % 64 := by rw [hcp37]; exact cpx (by omega) (by omega)
            refine G.istore C d3_134 (l' := #[.val (.ref a), .val (.int i), .val (.int e2), .val (.int b2), .val (.int (3 : Int32)), .val (.int cp37), .val (.int b35), .unset]) rfl (n := 136) rfl ?_
            refine G.iload C d3_136 rfl (n := 138) rfl ?_
            refine G.iconst C (v := (3 : Int32)) d3_138 (by decide) (n := 139) rfl ?_
            refine G.icmp_lt C (A := 3) (B := 3) (by decide) (by decide) d3_139 (by decide) (by decide) (n := 142) (n' := 180) rfl (fun c139_38 => ?_) (fun c139_38 => ?_)
            · exact absurd c139_38 (by decide)
            refine G.aloadN C d3_142 rfl rfl (n := 143) rfl ?_
            refine G.iloadN C d3_143 rfl (n := 144) rfl ?_
            refine G.iconst C (v := (2 : Int32)) d3_144 (by decide) (n := 145) rfl ?_
            refine G.iadd C d3_145 (n := 146) rfl ?_
            have x39 : ((i + (2 : Int32))).toInt = i.toInt + 2 := ixk (by decide) q_0 (by decide) (by omega)
            have x39n : ((i + (2 : Int32))).toInt.toNat = (i.toInt + 2).toNat := congrArg Int.toNat x39
            refine G.baload C (x := (vs.getD (i.toInt + 2).toNat 0)) O_a (by omega) (by rw [x39n]; exact getD_at (by omega)) d3_146 (n := 147) rfl ?_
            refine G.sipush C (v := (255 : Int32)) d3_147 (by decide) (n := 150) rfl ?_
            refine G.iand C d3_150 (n := 151) rfl ?_
            refine G.name_int ?_
            intro b40 hb40
            have R2 : 0 ≤ b40.toInt ∧ b40.toInt ≤ 255 := by rw [hb40]; exact u255 _
            have U2 : b40.toInt = ub vs (i.toInt + 2) := by rw [hb40]; rfl
            refine G.istore C d3_151 (l' := #[.val (.ref a), .val (.int i), .val (.int e2), .val (.int b2), .val (.int (3 : Int32)), .val (.int cp37), .val (.int b35), .val (.int b40)]) rfl (n := 153) rfl ?_
            refine G.iload C d3_153 rfl (n := 155) rfl ?_
            refine G.sipush C (v := (192 : Int32)) d3_155 (by decide) (n := 158) rfl ?_
            refine G.iand C d3_158 (n := 159) rfl ?_
            refine G.sipush C (v := (128 : Int32)) d3_159 (by decide) (n := 162) rfl ?_
            refine G.icmp_eq C (A := (b40 &&& (192 : Int32)).toInt) (B := 128) rfl (by decide) d3_162 (by decide) (by decide) (n := 165) (n' := 167) rfl (fun c162_41 c162_41i => ?_) (fun c162_41 c162_41i => ?_)
            · have r167 := (a192 R2).mp c162_41i
              refine G.iload C d3_167 rfl (n := 169) rfl ?_
              refine G.bipush C (v := (6 : Int32)) d3_169 (by decide) (n := 171) rfl ?_
              refine G.ishl C d3_171 (n := 172) rfl ?_
              refine G.iload C d3_172 rfl (n := 174) rfl ?_
              refine G.bipush C (v := (63 : Int32)) d3_174 (by decide) (n := 176) rfl ?_
              refine G.iand C d3_176 (n := 177) rfl ?_
              refine G.ior C d3_177 (n := 178) rfl ?_
              refine G.name_int ?_
              intro cp42 hcp42
              have C2 : cp42.toInt = cp37.toInt * 64 + b40.toInt % 64 := by rw [hcp42]; exact cpx (by omega) (by omega)
              refine G.istore C d3_178 (l' := #[.val (.ref a), .val (.int i), .val (.int e2), .val (.int b2), .val (.int (3 : Int32)), .val (.int cp42), .val (.int b35), .val (.int b40)]) rfl (n := 180) rfl ?_
              refine G.iload C d3_180 rfl (n := 182) rfl ?_
              refine G.iconst C (v := (4 : Int32)) d3_182 (by decide) (n := 183) rfl ?_
              refine G.icmp_ne C (A := 3) (B := 4) (by decide) (by decide) d3_183 (by decide) (by decide) (n := 186) (n' := 224) rfl (fun c183_43 c183_43i => ?_) (fun c183_43 c183_43i => ?_)
              rotate_left
              · exact absurd c183_43 (by decide)
              refine G.iload C d3_224 rfl (n := 226) rfl ?_
              refine G.iconst C (v := (2 : Int32)) d3_226 (by decide) (n := 227) rfl ?_
              refine G.icmp_ne C (A := 3) (B := 2) (by decide) (by decide) d3_227 (by decide) (by decide) (n := 230) (n' := 236) rfl (fun c227_44 c227_44i => ?_) (fun c227_44 c227_44i => ?_)
              rotate_left
              · exact absurd c227_44 (by decide)
              refine G.iload C d3_236 rfl (n := 238) rfl ?_
              refine G.iconst C (v := (3 : Int32)) d3_238 (by decide) (n := 239) rfl ?_
              refine G.icmp_ne C (A := 3) (B := 3) (by decide) (by decide) d3_239 (by decide) (by decide) (n := 242) (n' := 248) rfl (fun c239_45 c239_45i => ?_) (fun c239_45 c239_45i => ?_)
              · exact absurd c239_45 (by decide)
              refine G.sipush C (v := (2048 : Int32)) d3_242 (by decide) (n := 245) rfl ?_
              refine G.goto C d3_245 (by decide) (n := 250) (by decide) ?_
              refine G.istore C d3_250 (l' := #[.val (.ref a), .val (.int i), .val (.int e2), .val (.int b2), .val (.int (3 : Int32)), .val (.int cp42), .val (.int b35), .val (.int (2048 : Int32))]) rfl (n := 252) rfl ?_
              refine G.iload C d3_252 rfl (n := 254) rfl ?_
              refine G.iload C d3_254 rfl (n := 256) rfl ?_
              refine G.icmp_ge C (A := cp42.toInt) (B := 2048) rfl (by decide) d3_256 (by decide) (by decide) (n := 259) (n' := 261) rfl (fun c256_46 => ?_) (fun c256_46 => ?_)
              · refine G.iload C d3_261 rfl (n := 263) rfl ?_
                refine G.ldc C (v := (55296 : Int32)) (wd hw 16 rfl) d3_263 (n := 265) rfl ?_
                refine G.icmp_lt C (A := cp42.toInt) (B := 55296) rfl (by decide) d3_265 (by decide) (by decide) (n := 268) (n' := 277) rfl (fun c265_47 => ?_) (fun c265_47 => ?_)
                · refine G.iload C d3_277 rfl (n := 279) rfl ?_
                  refine G.ldc C (v := (1114111 : Int32)) (wd hw 17 rfl) d3_279 (n := 281) rfl ?_
                  refine G.icmp_le C (A := cp42.toInt) (B := 1114111) rfl (by decide) d3_281 (by decide) (by decide) (n := 284) (n' := 286) rfl (fun c281_48 => ?_) (fun c281_48 => ?_)
                  · refine G.iload C d3_286 rfl (n := 288) rfl ?_
                    refine G.ireturn C d3_288 (rfl) (by simp) (by decide) (by decide) ?_
                    refine ⟨_, rfl, rfl, ?_⟩
                    show (3 : Int) = sqv vs i.toInt e2.toInt
                    symm
                    unfold sqv
                    exact sq_3 (by omega) (by omega) (by omega)
                  · refine G.iconst C (v := (0 : Int32)) d3_284 (by decide) (n := 285) rfl ?_
                    refine G.ireturn C d3_285 (rfl) (by simp) (by decide) (by decide) ?_
                    refine ⟨_, rfl, rfl, ?_⟩
                    show (0 : Int) = sqv vs i.toInt e2.toInt
                    symm
                    unfold sqv
                    exact sq_03 (by omega) (by omega)
                · refine G.iload C d3_268 rfl (n := 270) rfl ?_
                  refine G.ldc C (v := (57343 : Int32)) (wd hw 19 rfl) d3_270 (n := 272) rfl ?_
                  refine G.icmp_gt C (A := cp42.toInt) (B := 57343) rfl (by decide) d3_272 (by decide) (by decide) (n := 275) (n' := 277) rfl (fun c272_49 => ?_) (fun c272_49 => ?_)
                  · refine G.iload C d3_277 rfl (n := 279) rfl ?_
                    refine G.ldc C (v := (1114111 : Int32)) (wd hw 17 rfl) d3_279 (n := 281) rfl ?_
                    refine G.icmp_le C (A := cp42.toInt) (B := 1114111) rfl (by decide) d3_281 (by decide) (by decide) (n := 284) (n' := 286) rfl (fun c281_50 => ?_) (fun c281_50 => ?_)
                    · refine G.iload C d3_286 rfl (n := 288) rfl ?_
                      refine G.ireturn C d3_288 (rfl) (by simp) (by decide) (by decide) ?_
                      refine ⟨_, rfl, rfl, ?_⟩
                      show (3 : Int) = sqv vs i.toInt e2.toInt
                      symm
                      unfold sqv
                      exact sq_3 (by omega) (by omega) (by omega)
                    · refine G.iconst C (v := (0 : Int32)) d3_284 (by decide) (n := 285) rfl ?_
                      refine G.ireturn C d3_285 (rfl) (by simp) (by decide) (by decide) ?_
                      refine ⟨_, rfl, rfl, ?_⟩
                      show (0 : Int) = sqv vs i.toInt e2.toInt
                      symm
                      unfold sqv
                      exact sq_03 (by omega) (by omega)
                  · refine G.iconst C (v := (0 : Int32)) d3_275 (by decide) (n := 276) rfl ?_
                    refine G.ireturn C d3_276 (rfl) (by simp) (by decide) (by decide) ?_
                    refine ⟨_, rfl, rfl, ?_⟩
                    show (0 : Int) = sqv vs i.toInt e2.toInt
                    symm
                    unfold sqv
                    exact sq_03 (by omega) (by omega)
              · refine G.iconst C (v := (0 : Int32)) d3_259 (by decide) (n := 260) rfl ?_
                refine G.ireturn C d3_260 (rfl) (by simp) (by decide) (by decide) ?_
                refine ⟨_, rfl, rfl, ?_⟩
                show (0 : Int) = sqv vs i.toInt e2.toInt
                symm
                unfold sqv
                exact sq_03 (by omega) (by omega)
            · have r165 : ¬ (128 ≤ b40.toInt ∧ b40.toInt ≤ 191) := fun q => c162_41i ((a192 R2).mpr q)
              refine G.iconst C (v := (0 : Int32)) d3_165 (by decide) (n := 166) rfl ?_
              refine G.ireturn C d3_166 (rfl) (by simp) (by decide) (by decide) ?_
              refine ⟨_, rfl, rfl, ?_⟩
              show (0 : Int) = sqv vs i.toInt e2.toInt
              symm
              unfold sqv
              exact sq_03 (by omega) (by omega)
          · have r121 : ¬ (128 ≤ b35.toInt ∧ b35.toInt ≤ 191) := fun q => c118_36i ((a192 R1).mpr q)
            refine G.iconst C (v := (0 : Int32)) d3_121 (by decide) (n := 122) rfl ?_
            refine G.ireturn C d3_122 (rfl) (by simp) (by decide) (by decide) ?_
            refine ⟨_, rfl, rfl, ?_⟩
            show (0 : Int) = sqv vs i.toInt e2.toInt
            symm
            unfold sqv
            exact sq_03 (by omega) (by omega)
        · refine G.iconst C (v := (0 : Int32)) d3_96 (by decide) (n := 97) rfl ?_
          refine G.ireturn C d3_97 (rfl) (by simp) (by decide) (by decide) ?_
          refine ⟨_, rfl, rfl, ?_⟩
          show (0 : Int) = sqv vs i.toInt e2.toInt
          symm
          unfold sqv
          exact sq_03 (by omega) (by omega)
    · have r28 := (a224 R0).mp c25_4i
      refine G.iconst C (v := (2 : Int32)) d3_28 (by decide) (n := 29) rfl ?_
      refine G.istore C d3_29 (l' := #[.val (.ref a), .val (.int i), .val (.int e2), .val (.int b2), .val (.int (2 : Int32)), .unset, .unset, .unset]) rfl (n := 31) rfl ?_
      refine G.iloadN C d3_31 rfl (n := 32) rfl ?_
      refine G.bipush C (v := (31 : Int32)) d3_32 (by decide) (n := 34) rfl ?_
      refine G.iand C d3_34 (n := 35) rfl ?_
      refine G.name_int ?_
      intro cp51 hcp51
      have C0 : cp51.toInt = b2.toInt % ((2 ^ 5 : Nat) : Int) := by rw [hcp51]; exact c_mask _ 31 5 (by decide) (by decide)
      refine G.istore C d3_35 (l' := #[.val (.ref a), .val (.int i), .val (.int e2), .val (.int b2), .val (.int (2 : Int32)), .val (.int cp51), .unset, .unset]) rfl (n := 37) rfl ?_
      refine G.goto C d3_37 (by decide) (n := 88) (by decide) ?_
      have q_rem := isubk (x := e2) (y := i) (by omega) q_0
      refine G.iloadN C d3_88 rfl (n := 89) rfl ?_
      refine G.iloadN C d3_89 rfl (n := 90) rfl ?_
      refine G.isub C d3_90 (n := 91) rfl ?_
      refine G.iload C d3_91 rfl (n := 93) rfl ?_
      refine G.icmp_ge C (A := (e2 - i).toInt) (B := 2) rfl (by decide) d3_93 (by decide) (by decide) (n := 96) (n' := 98) rfl (fun c93_53 => ?_) (fun c93_53 => ?_)
      · refine G.aloadN C d3_98 rfl rfl (n := 99) rfl ?_
        refine G.iloadN C d3_99 rfl (n := 100) rfl ?_
        refine G.iconst C (v := (1 : Int32)) d3_100 (by decide) (n := 101) rfl ?_
        refine G.iadd C d3_101 (n := 102) rfl ?_
        have x54 : ((i + (1 : Int32))).toInt = i.toInt + 1 := ixk (by decide) q_0 (by decide) (by omega)
        have x54n : ((i + (1 : Int32))).toInt.toNat = (i.toInt + 1).toNat := congrArg Int.toNat x54
        refine G.baload C (x := (vs.getD (i.toInt + 1).toNat 0)) O_a (by omega) (by rw [x54n]; exact getD_at (by omega)) d3_102 (n := 103) rfl ?_
        refine G.sipush C (v := (255 : Int32)) d3_103 (by decide) (n := 106) rfl ?_
        refine G.iand C d3_106 (n := 107) rfl ?_
        refine G.name_int ?_
        intro b55 hb55
        have R1 : 0 ≤ b55.toInt ∧ b55.toInt ≤ 255 := by rw [hb55]; exact u255 _
        have U1 : b55.toInt = ub vs (i.toInt + 1) := by rw [hb55]; rfl
        refine G.istore C d3_107 (l' := #[.val (.ref a), .val (.int i), .val (.int e2), .val (.int b2), .val (.int (2 : Int32)), .val (.int cp51), .val (.int b55), .unset]) rfl (n := 109) rfl ?_
        refine G.iload C d3_109 rfl (n := 111) rfl ?_
        refine G.sipush C (v := (192 : Int32)) d3_111 (by decide) (n := 114) rfl ?_
        refine G.iand C d3_114 (n := 115) rfl ?_
        refine G.sipush C (v := (128 : Int32)) d3_115 (by decide) (n := 118) rfl ?_
        refine G.icmp_eq C (A := (b55 &&& (192 : Int32)).toInt) (B := 128) rfl (by decide) d3_118 (by decide) (by decide) (n := 121) (n' := 123) rfl (fun c118_56 c118_56i => ?_) (fun c118_56 c118_56i => ?_)
        · have r123 := (a192 R1).mp c118_56i
          refine G.iload C d3_123 rfl (n := 125) rfl ?_
          refine G.bipush C (v := (6 : Int32)) d3_125 (by decide) (n := 127) rfl ?_
          refine G.ishl C d3_127 (n := 128) rfl ?_
          refine G.iload C d3_128 rfl (n := 130) rfl ?_
          refine G.bipush C (v := (63 : Int32)) d3_130 (by decide) (n := 132) rfl ?_
          refine G.iand C d3_132 (n := 133) rfl ?_
          refine G.ior C d3_133 (n := 134) rfl ?_
          refine G.name_int ?_
          intro cp57 hcp57
          have C1 : cp57.toInt = cp51.toInt * 64 + b55.toInt % 64 := by rw [hcp57]; exact cpx (by omega) (by omega)
          refine G.istore C d3_134 (l' := #[.val (.ref a), .val (.int i), .val (.int e2), .val (.int b2), .val (.int (2 : Int32)), .val (.int cp57), .val (.int b55), .unset]) rfl (n := 136) rfl ?_
          refine G.iload C d3_136 rfl (n := 138) rfl ?_
          refine G.iconst C (v := (3 : Int32)) d3_138 (by decide) (n := 139) rfl ?_
          refine G.icmp_lt C (A := 2) (B := 3) (by decide) (by decide) d3_139 (by decide) (by decide) (n := 142) (n' := 180) rfl (fun c139_58 => ?_) (fun c139_58 => ?_)
          rotate_left
          · exact absurd c139_58 (by decide)
          refine G.iload C d3_180 rfl (n := 182) rfl ?_
          refine G.iconst C (v := (4 : Int32)) d3_182 (by decide) (n := 183) rfl ?_
          refine G.icmp_ne C (A := 2) (B := 4) (by decide) (by decide) d3_183 (by decide) (by decide) (n := 186) (n' := 224) rfl (fun c183_59 c183_59i => ?_) (fun c183_59 c183_59i => ?_)
          rotate_left
          · exact absurd c183_59 (by decide)
          refine G.iload C d3_224 rfl (n := 226) rfl ?_
          refine G.iconst C (v := (2 : Int32)) d3_226 (by decide) (n := 227) rfl ?_
          refine G.icmp_ne C (A := 2) (B := 2) (by decide) (by decide) d3_227 (by decide) (by decide) (n := 230) (n' := 236) rfl (fun c227_60 c227_60i => ?_) (fun c227_60 c227_60i => ?_)
          · exact absurd c227_60 (by decide)
          refine G.sipush C (v := (128 : Int32)) d3_230 (by decide) (n := 233) rfl ?_
          refine G.goto C d3_233 (by decide) (n := 250) (by decide) ?_
          refine G.istore C d3_250 (l' := #[.val (.ref a), .val (.int i), .val (.int e2), .val (.int b2), .val (.int (2 : Int32)), .val (.int cp57), .val (.int b55), .val (.int (128 : Int32))]) rfl (n := 252) rfl ?_
          refine G.iload C d3_252 rfl (n := 254) rfl ?_
          refine G.iload C d3_254 rfl (n := 256) rfl ?_
          refine G.icmp_ge C (A := cp57.toInt) (B := 128) rfl (by decide) d3_256 (by decide) (by decide) (n := 259) (n' := 261) rfl (fun c256_61 => ?_) (fun c256_61 => ?_)
          · refine G.iload C d3_261 rfl (n := 263) rfl ?_
            refine G.ldc C (v := (55296 : Int32)) (wd hw 16 rfl) d3_263 (n := 265) rfl ?_
            refine G.icmp_lt C (A := cp57.toInt) (B := 55296) rfl (by decide) d3_265 (by decide) (by decide) (n := 268) (n' := 277) rfl (fun c265_62 => ?_) (fun c265_62 => ?_)
            · refine G.iload C d3_277 rfl (n := 279) rfl ?_
              refine G.ldc C (v := (1114111 : Int32)) (wd hw 17 rfl) d3_279 (n := 281) rfl ?_
              refine G.icmp_le C (A := cp57.toInt) (B := 1114111) rfl (by decide) d3_281 (by decide) (by decide) (n := 284) (n' := 286) rfl (fun c281_63 => ?_) (fun c281_63 => ?_)
              · refine G.iload C d3_286 rfl (n := 288) rfl ?_
                refine G.ireturn C d3_288 (rfl) (by simp) (by decide) (by decide) ?_
                refine ⟨_, rfl, rfl, ?_⟩
                show (2 : Int) = sqv vs i.toInt e2.toInt
                symm
                unfold sqv
                exact sq_2 (by omega)
              · refine G.iconst C (v := (0 : Int32)) d3_284 (by decide) (n := 285) rfl ?_
                refine G.ireturn C d3_285 (rfl) (by simp) (by decide) (by decide) ?_
                refine ⟨_, rfl, rfl, ?_⟩
                show (0 : Int) = sqv vs i.toInt e2.toInt
                symm
                unfold sqv
                exact sq_02x (by omega) (by omega)
            · refine G.iload C d3_268 rfl (n := 270) rfl ?_
              refine G.ldc C (v := (57343 : Int32)) (wd hw 19 rfl) d3_270 (n := 272) rfl ?_
              refine G.icmp_gt C (A := cp57.toInt) (B := 57343) rfl (by decide) d3_272 (by decide) (by decide) (n := 275) (n' := 277) rfl (fun c272_64 => ?_) (fun c272_64 => ?_)
              · refine G.iload C d3_277 rfl (n := 279) rfl ?_
                refine G.ldc C (v := (1114111 : Int32)) (wd hw 17 rfl) d3_279 (n := 281) rfl ?_
                refine G.icmp_le C (A := cp57.toInt) (B := 1114111) rfl (by decide) d3_281 (by decide) (by decide) (n := 284) (n' := 286) rfl (fun c281_65 => ?_) (fun c281_65 => ?_)
                · refine G.iload C d3_286 rfl (n := 288) rfl ?_
                  refine G.ireturn C d3_288 (rfl) (by simp) (by decide) (by decide) ?_
                  refine ⟨_, rfl, rfl, ?_⟩
                  show (2 : Int) = sqv vs i.toInt e2.toInt
                  symm
                  unfold sqv
                  exact sq_2 (by omega)
                · refine G.iconst C (v := (0 : Int32)) d3_284 (by decide) (n := 285) rfl ?_
                  refine G.ireturn C d3_285 (rfl) (by simp) (by decide) (by decide) ?_
                  refine ⟨_, rfl, rfl, ?_⟩
                  show (0 : Int) = sqv vs i.toInt e2.toInt
                  symm
                  unfold sqv
                  exact sq_02x (by omega) (by omega)
              · refine G.iconst C (v := (0 : Int32)) d3_275 (by decide) (n := 276) rfl ?_
                refine G.ireturn C d3_276 (rfl) (by simp) (by decide) (by decide) ?_
                refine ⟨_, rfl, rfl, ?_⟩
                show (0 : Int) = sqv vs i.toInt e2.toInt
                symm
                unfold sqv
                exact sq_02x (by omega) (by omega)
          · refine G.iconst C (v := (0 : Int32)) d3_259 (by decide) (n := 260) rfl ?_
            refine G.ireturn C d3_260 (rfl) (by simp) (by decide) (by decide) ?_
            refine ⟨_, rfl, rfl, ?_⟩
            show (0 : Int) = sqv vs i.toInt e2.toInt
            symm
            unfold sqv
            exact sq_02x (by omega) (by omega)
        · have r121 : ¬ (128 ≤ b55.toInt ∧ b55.toInt ≤ 191) := fun q => c118_56i ((a192 R1).mpr q)
          refine G.iconst C (v := (0 : Int32)) d3_121 (by decide) (n := 122) rfl ?_
          refine G.ireturn C d3_122 (rfl) (by simp) (by decide) (by decide) ?_
          refine ⟨_, rfl, rfl, ?_⟩
          show (0 : Int) = sqv vs i.toInt e2.toInt
          symm
          unfold sqv
          exact sq_02x (by omega) (by omega)
      · refine G.iconst C (v := (0 : Int32)) d3_96 (by decide) (n := 97) rfl ?_
        refine G.ireturn C d3_97 (rfl) (by simp) (by decide) (by decide) ?_
        refine ⟨_, rfl, rfl, ?_⟩
        show (0 : Int) = sqv vs i.toInt e2.toInt
        symm
        unfold sqv
        exact sq_02x (by omega) (by omega)
  · refine G.iconst C (v := (1 : Int32)) d3_15 (by decide) (n := 16) rfl ?_
    refine G.ireturn C d3_16 (rfl) (by simp) (by decide) (by decide) ?_
    refine ⟨_, rfl, rfl, ?_⟩
    show (1 : Int) = sqv vs i.toInt e2.toInt
    symm
    unfold sqv
    exact sq_1 (by omega)
theorem d2_0 : decode method_4_code 0 = .ok (.iload_n 1, 1) := by decide +kernel
theorem d2_1 : decode method_4_code 1 = .ok (.ifCond .lt 8, 3) := by decide +kernel
theorem d2_4 : decode method_4_code 4 = .ok (.iload_n 1, 1) := by decide +kernel
theorem d2_5 : decode method_4_code 5 = .ok (.iload_n 2, 1) := by decide +kernel
theorem d2_6 : decode method_4_code 6 = .ok (.if_icmp .lt 5, 3) := by decide +kernel
theorem d2_9 : decode method_4_code 9 = .ok (.iload_n 1, 1) := by decide +kernel
theorem d2_10 : decode method_4_code 10 = .ok (.ireturn, 1) := by decide +kernel
theorem d2_11 : decode method_4_code 11 = .ok (.aload_n 0, 1) := by decide +kernel
theorem d2_12 : decode method_4_code 12 = .ok (.iload_n 1, 1) := by decide +kernel
theorem d2_13 : decode method_4_code 13 = .ok (.iload_n 2, 1) := by decide +kernel
theorem d2_14 : decode method_4_code 14 = .ok (.invokestatic 23, 3) := by decide +kernel
theorem d2_17 : decode method_4_code 17 = .ok (.istore_n 3, 1) := by decide +kernel
theorem d2_18 : decode method_4_code 18 = .ok (.iload_n 3, 1) := by decide +kernel
theorem d2_19 : decode method_4_code 19 = .ok (.ifCond .ne 5, 3) := by decide +kernel
theorem d2_22 : decode method_4_code 22 = .ok (.iconst (-1), 1) := by decide +kernel
theorem d2_23 : decode method_4_code 23 = .ok (.ireturn, 1) := by decide +kernel
theorem d2_24 : decode method_4_code 24 = .ok (.iload_n 1, 1) := by decide +kernel
theorem d2_25 : decode method_4_code 25 = .ok (.iload_n 3, 1) := by decide +kernel
theorem d2_26 : decode method_4_code 26 = .ok (.iadd, 1) := by decide +kernel
theorem d2_27 : decode method_4_code 27 = .ok (.ireturn, 1) := by decide +kernel
theorem pd0 : parseMethodDescriptor "([BII)I" = some ⟨[(.array .byte), .int, .int], some .int⟩ := by decide +kernel
theorem ef2 (m : MethodId) (a : Addr) (i : Int32) (e2 : Int32) : entryFrame m #[(.ref a), (.int i), (.int e2)] 4 = mkF m 0 #[.val (.ref a), .val (.int i), .val (.int e2), .unset] [] := by first | (simp [entryFrame, mkF, argsToLocals, Value.category]; done) | rfl
abbrev Q_step (Z : State) (h0 : Heap) (n0 : Nat) (a : Addr) (i : Int32) (e2 : Int32) (vs : List Int32) : Option Value → Heap → Prop := fun v h' => ∃ r : Int32, v = some (.int r) ∧ h0 = h' ∧ r.toInt = stp vs e2.toInt i.toInt
abbrev R_step : Room := { frames := 1, cells := 0, slots := 0, locals := 19 }
set_option maxRecDepth 65536 in
set_option maxHeartbeats 40000000 in
theorem m_step (l : Launch) (Z : State) (a0 : Array Value) (hw : ∀ d ∈ tables_1, d.before a0 Z = true) (a : Addr) (i : Int32) (e2 : Int32) (vs : List Int32) (h0 : Heap) (n0 : Nat) (Z0 : n0 ≤ h0.size) (O_a : Ints Z h0 a .byte vs) (q_l : vs.length = 6) (q_6 : e2.toInt ≤ 6) : Met l Z (⟨"com/example/veilrelay/veilrelay/core/IdentifiersWellFormedUtf8PinLaw", "step", "([BII)I"⟩ : MethodName) method_4_code 4 (some .int) R_step #[(.ref a), (.int i), (.int e2)] h0 n0 (Q_step Z h0 n0 a i e2 vs) := by
  refine Met.of (plainFor_of_name pn0) (fun m => ef2 m a i e2) ?_
  intro p e s m args below meth c C
  refine G.iloadN C d2_0 rfl (n := 1) rfl ?_
  refine G.if_lt C (A := i.toInt) rfl d2_1 (by decide) (by decide) (n := 4) (n' := 9) rfl (fun c1_1 => ?_) (fun c1_1 => ?_)
  · refine G.iloadN C d2_9 rfl (n := 10) rfl ?_
    refine G.ireturn C d2_10 (rfl) (by simp) (by decide) (by decide) ?_
    exact ⟨_, rfl, rfl, (if_pos (by omega)).symm⟩
  · refine G.iloadN C d2_4 rfl (n := 5) rfl ?_
    refine G.iloadN C d2_5 rfl (n := 6) rfl ?_
    refine G.icmp_lt C (A := i.toInt) (B := e2.toInt) rfl rfl d2_6 (by decide) (by decide) (n := 9) (n' := 11) rfl (fun c6_2 => ?_) (fun c6_2 => ?_)
    · refine G.aloadN C d2_11 rfl rfl (n := 12) rfl ?_
      refine G.iloadN C d2_12 rfl (n := 13) rfl ?_
      refine G.iloadN C d2_13 rfl (n := 14) rfl ?_
      refine G.callS C (argsL := [(.ref a), (.int i), (.int e2)]) (yc := (⟨"com/example/veilrelay/veilrelay/core/IdentifiersWellFormedUtf8PinLaw", "seq", "([BII)I"⟩ : MethodName)) (wd hw 9 rfl) (wd hw 10 rfl) (wd hw 4 rfl) (wd hw 11 rfl) (by decide) (m_seq l Z a0 hw a i e2 vs h0 n0 Z0 O_a q_l (by omega) (by omega) q_6) rfl (by decide) (W := 0) rfl (by decide) (c' := 0) (s' := 0) rfl rfl (by decide) (by decide) d2_14 (n := 17) rfl pd0 rfl rfl ?_
      rintro _ h6 ⟨r3, rfl, rfl, hr4⟩
      refine G.istoreN C d2_17 (l' := #[.val (.ref a), .val (.int i), .val (.int e2), .val (.int r3)]) rfl (n := 18) rfl ?_
      refine G.iloadN C d2_18 rfl (n := 19) rfl ?_
      refine G.if_ne C (A := r3.toInt) rfl d2_19 (by decide) (by decide) (n := 22) (n' := 24) rfl (fun c19_7 c19_7i => ?_) (fun c19_7 c19_7i => ?_)
      · refine G.iloadN C d2_24 rfl (n := 25) rfl ?_
        refine G.iloadN C d2_25 rfl (n := 26) rfl ?_
        refine G.iadd C d2_26 (n := 27) rfl ?_
        refine G.ireturn C d2_27 (rfl) (by simp) (by decide) (by decide) ?_
        have q_r := sq_r (ub vs i.toInt) (ub vs (i.toInt + 1)) (ub vs (i.toInt + 2)) (ub vs (i.toInt + 3)) (e2.toInt - i.toInt)
        have q_r2 : sqv vs i.toInt e2.toInt ≤ 4 := q_r.2
        have q_r1 : 0 ≤ sqv vs i.toInt e2.toInt := q_r.1
        clear q_r
        refine ⟨_, rfl, rfl, ?_⟩
        unfold stp
        rw [if_neg (by omega), if_neg (by omega), ← hr4]
        exact ixk rfl (by omega) (by omega) (by omega)
      · refine G.iconst C (v := (-1 : Int32)) d2_22 (by decide) (n := 23) rfl ?_
        refine G.ireturn C d2_23 (rfl) (by simp) (by decide) (by decide) ?_
        refine ⟨_, rfl, rfl, ?_⟩
        show (-1 : Int) = stp vs e2.toInt i.toInt
        unfold stp
        rw [if_neg (by omega), if_pos (by omega)]
    · refine G.iloadN C d2_9 rfl (n := 10) rfl ?_
      refine G.ireturn C d2_10 (rfl) (by simp) (by decide) (by decide) ?_
      exact ⟨_, rfl, rfl, (if_pos (by omega)).symm⟩
theorem d1_0 : decode method_3_code 0 = .ok (.iload_n 1, 1) := by decide +kernel
theorem d1_1 : decode method_3_code 1 = .ok (.istore_n 3, 1) := by decide +kernel
theorem d1_2 : decode method_3_code 2 = .ok (.aload_n 0, 1) := by decide +kernel
theorem d1_3 : decode method_3_code 3 = .ok (.iload_n 3, 1) := by decide +kernel
theorem d1_4 : decode method_3_code 4 = .ok (.iload_n 2, 1) := by decide +kernel
theorem d1_5 : decode method_3_code 5 = .ok (.invokestatic 19, 3) := by decide +kernel
theorem d1_8 : decode method_3_code 8 = .ok (.istore_n 3, 1) := by decide +kernel
theorem d1_9 : decode method_3_code 9 = .ok (.aload_n 0, 1) := by decide +kernel
theorem d1_10 : decode method_3_code 10 = .ok (.iload_n 3, 1) := by decide +kernel
theorem d1_11 : decode method_3_code 11 = .ok (.iload_n 2, 1) := by decide +kernel
theorem d1_12 : decode method_3_code 12 = .ok (.invokestatic 19, 3) := by decide +kernel
theorem d1_15 : decode method_3_code 15 = .ok (.istore_n 3, 1) := by decide +kernel
theorem d1_16 : decode method_3_code 16 = .ok (.aload_n 0, 1) := by decide +kernel
theorem d1_17 : decode method_3_code 17 = .ok (.iload_n 3, 1) := by decide +kernel
theorem d1_18 : decode method_3_code 18 = .ok (.iload_n 2, 1) := by decide +kernel
theorem d1_19 : decode method_3_code 19 = .ok (.invokestatic 19, 3) := by decide +kernel
theorem d1_22 : decode method_3_code 22 = .ok (.istore_n 3, 1) := by decide +kernel
theorem d1_23 : decode method_3_code 23 = .ok (.aload_n 0, 1) := by decide +kernel
theorem d1_24 : decode method_3_code 24 = .ok (.iload_n 3, 1) := by decide +kernel
theorem d1_25 : decode method_3_code 25 = .ok (.iload_n 2, 1) := by decide +kernel
theorem d1_26 : decode method_3_code 26 = .ok (.invokestatic 19, 3) := by decide +kernel
theorem d1_29 : decode method_3_code 29 = .ok (.istore_n 3, 1) := by decide +kernel
theorem d1_30 : decode method_3_code 30 = .ok (.aload_n 0, 1) := by decide +kernel
theorem d1_31 : decode method_3_code 31 = .ok (.iload_n 3, 1) := by decide +kernel
theorem d1_32 : decode method_3_code 32 = .ok (.iload_n 2, 1) := by decide +kernel
theorem d1_33 : decode method_3_code 33 = .ok (.invokestatic 19, 3) := by decide +kernel
theorem d1_36 : decode method_3_code 36 = .ok (.istore_n 3, 1) := by decide +kernel
theorem d1_37 : decode method_3_code 37 = .ok (.aload_n 0, 1) := by decide +kernel
theorem d1_38 : decode method_3_code 38 = .ok (.iload_n 3, 1) := by decide +kernel
theorem d1_39 : decode method_3_code 39 = .ok (.iload_n 2, 1) := by decide +kernel
theorem d1_40 : decode method_3_code 40 = .ok (.invokestatic 19, 3) := by decide +kernel
theorem d1_43 : decode method_3_code 43 = .ok (.istore_n 3, 1) := by decide +kernel
theorem d1_44 : decode method_3_code 44 = .ok (.iload_n 3, 1) := by decide +kernel
theorem d1_45 : decode method_3_code 45 = .ok (.ifCond .lt 7, 3) := by decide +kernel
theorem d1_48 : decode method_3_code 48 = .ok (.iconst 1, 1) := by decide +kernel
theorem d1_49 : decode method_3_code 49 = .ok (.goto 4, 3) := by decide +kernel
theorem d1_52 : decode method_3_code 52 = .ok (.iconst 0, 1) := by decide +kernel
theorem d1_53 : decode method_3_code 53 = .ok (.ireturn, 1) := by decide +kernel
theorem ef3 (m : MethodId) (a : Addr) (i : Int32) (e2 : Int32) : entryFrame m #[(.ref a), (.int i), (.int e2)] 4 = mkF m 0 #[.val (.ref a), .val (.int i), .val (.int e2), .unset] [] := by first | (simp [entryFrame, mkF, argsToLocals, Value.category]; done) | rfl
abbrev Q_ref (Z : State) (h0 : Heap) (n0 : Nat) (a : Addr) (i : Int32) (e2 : Int32) (vs : List Int32) : Option Value → Heap → Prop := fun v h' => v = some (.int (b2i (decide (0 ≤ itn vs e2.toInt 6 i.toInt)))) ∧ h0 = h'
abbrev R_ref : Room := { frames := 2, cells := 0, slots := 0, locals := 34 }
set_option maxRecDepth 65536 in
set_option maxHeartbeats 40000000 in
theorem m_ref (l : Launch) (Z : State) (a0 : Array Value) (hw : ∀ d ∈ tables_1, d.before a0 Z = true) (a : Addr) (i : Int32) (e2 : Int32) (vs : List Int32) (h0 : Heap) (n0 : Nat) (Z0 : n0 ≤ h0.size) (O_a : Ints Z h0 a .byte vs) (q_l : vs.length = 6) (q_6 : e2.toInt ≤ 6) : Met l Z (⟨"com/example/veilrelay/veilrelay/core/IdentifiersWellFormedUtf8PinLaw", "reference", "([BII)Z"⟩ : MethodName) method_3_code 4 (some .boolean) R_ref #[(.ref a), (.int i), (.int e2)] h0 n0 (Q_ref Z h0 n0 a i e2 vs) := by
  refine Met.of (plainFor_of_name pn0) (fun m => ef3 m a i e2) ?_
  intro p e s m args below meth c C
  refine G.iloadN C d1_0 rfl (n := 1) rfl ?_
  refine G.istoreN C d1_1 (l' := #[.val (.ref a), .val (.int i), .val (.int e2), .val (.int i)]) rfl (n := 2) rfl ?_
  refine G.aloadN C d1_2 rfl rfl (n := 3) rfl ?_
  refine G.iloadN C d1_3 rfl (n := 4) rfl ?_
  refine G.iloadN C d1_4 rfl (n := 5) rfl ?_
  refine G.callS C (argsL := [(.ref a), (.int i), (.int e2)]) (yc := (⟨"com/example/veilrelay/veilrelay/core/IdentifiersWellFormedUtf8PinLaw", "step", "([BII)I"⟩ : MethodName)) (wd hw 6 rfl) (wd hw 7 rfl) (wd hw 4 rfl) (wd hw 8 rfl) (by decide) (m_step l Z a0 hw a i e2 vs h0 n0 Z0 O_a q_l q_6) rfl (by decide) (W := 0) rfl (by decide) (c' := 0) (s' := 0) rfl rfl (by decide) (by decide) d1_5 (n := 8) rfl pd0 rfl rfl ?_
  rintro _ h4 ⟨r1, rfl, rfl, hr2⟩
  refine G.istoreN C d1_8 (l' := #[.val (.ref a), .val (.int i), .val (.int e2), .val (.int r1)]) rfl (n := 9) rfl ?_
  refine G.aloadN C d1_9 rfl rfl (n := 10) rfl ?_
  refine G.iloadN C d1_10 rfl (n := 11) rfl ?_
  refine G.iloadN C d1_11 rfl (n := 12) rfl ?_
  refine G.callS C (argsL := [(.ref a), (.int r1), (.int e2)]) (yc := (⟨"com/example/veilrelay/veilrelay/core/IdentifiersWellFormedUtf8PinLaw", "step", "([BII)I"⟩ : MethodName)) (wd hw 6 rfl) (wd hw 7 rfl) (wd hw 4 rfl) (wd hw 8 rfl) (by decide) (m_step l Z a0 hw a r1 e2 vs h0 n0 Z0 O_a q_l q_6) rfl (by decide) (W := 0) rfl (by decide) (c' := 0) (s' := 0) rfl rfl (by decide) (by decide) d1_12 (n := 15) rfl pd0 rfl rfl ?_
  rintro _ h8 ⟨r5, rfl, rfl, hr6⟩
  refine G.istoreN C d1_15 (l' := #[.val (.ref a), .val (.int i), .val (.int e2), .val (.int r5)]) rfl (n := 16) rfl ?_
  refine G.aloadN C d1_16 rfl rfl (n := 17) rfl ?_
  refine G.iloadN C d1_17 rfl (n := 18) rfl ?_
  refine G.iloadN C d1_18 rfl (n := 19) rfl ?_
  refine G.callS C (argsL := [(.ref a), (.int r5), (.int e2)]) (yc := (⟨"com/example/veilrelay/veilrelay/core/IdentifiersWellFormedUtf8PinLaw", "step", "([BII)I"⟩ : MethodName)) (wd hw 6 rfl) (wd hw 7 rfl) (wd hw 4 rfl) (wd hw 8 rfl) (by decide) (m_step l Z a0 hw a r5 e2 vs h0 n0 Z0 O_a q_l q_6) rfl (by decide) (W := 0) rfl (by decide) (c' := 0) (s' := 0) rfl rfl (by decide) (by decide) d1_19 (n := 22) rfl pd0 rfl rfl ?_
  rintro _ h12 ⟨r9, rfl, rfl, hr10⟩
  refine G.istoreN C d1_22 (l' := #[.val (.ref a), .val (.int i), .val (.int e2), .val (.int r9)]) rfl (n := 23) rfl ?_
  refine G.aloadN C d1_23 rfl rfl (n := 24) rfl ?_
  refine G.iloadN C d1_24 rfl (n := 25) rfl ?_
  refine G.iloadN C d1_25 rfl (n := 26) rfl ?_
  refine G.callS C (argsL := [(.ref a), (.int r9), (.int e2)]) (yc := (⟨"com/example/veilrelay/veilrelay/core/IdentifiersWellFormedUtf8PinLaw", "step", "([BII)I"⟩ : MethodName)) (wd hw 6 rfl) (wd hw 7 rfl) (wd hw 4 rfl) (wd hw 8 rfl) (by decide) (m_step l Z a0 hw a r9 e2 vs h0 n0 Z0 O_a q_l q_6) rfl (by decide) (W := 0) rfl (by decide) (c' := 0) (s' := 0) rfl rfl (by decide) (by decide) d1_26 (n := 29) rfl pd0 rfl rfl ?_
  rintro _ h16 ⟨r13, rfl, rfl, hr14⟩
  refine G.istoreN C d1_29 (l' := #[.val (.ref a), .val (.int i), .val (.int e2), .val (.int r13)]) rfl (n := 30) rfl ?_
  refine G.aloadN C d1_30 rfl rfl (n := 31) rfl ?_
  refine G.iloadN C d1_31 rfl (n := 32) rfl ?_
  refine G.iloadN C d1_32 rfl (n := 33) rfl ?_
  refine G.callS C (argsL := [(.ref a), (.int r13), (.int e2)]) (yc := (⟨"com/example/veilrelay/veilrelay/core/IdentifiersWellFormedUtf8PinLaw", "step", "([BII)I"⟩ : MethodName)) (wd hw 6 rfl) (wd hw 7 rfl) (wd hw 4 rfl) (wd hw 8 rfl) (by decide) (m_step l Z a0 hw a r13 e2 vs h0 n0 Z0 O_a q_l q_6) rfl (by decide) (W := 0) rfl (by decide) (c' := 0) (s' := 0) rfl rfl (by decide) (by decide) d1_33 (n := 36) rfl pd0 rfl rfl ?_
  rintro _ h20 ⟨r17, rfl, rfl, hr18⟩
  refine G.istoreN C d1_36 (l' := #[.val (.ref a), .val (.int i), .val (.int e2), .val (.int r17)]) rfl (n := 37) rfl ?_
  refine G.aloadN C d1_37 rfl rfl (n := 38) rfl ?_
  refine G.iloadN C d1_38 rfl (n := 39) rfl ?_
  refine G.iloadN C d1_39 rfl (n := 40) rfl ?_
  refine G.callS C (argsL := [(.ref a), (.int r17), (.int e2)]) (yc := (⟨"com/example/veilrelay/veilrelay/core/IdentifiersWellFormedUtf8PinLaw", "step", "([BII)I"⟩ : MethodName)) (wd hw 6 rfl) (wd hw 7 rfl) (wd hw 4 rfl) (wd hw 8 rfl) (by decide) (m_step l Z a0 hw a r17 e2 vs h0 n0 Z0 O_a q_l q_6) rfl (by decide) (W := 0) rfl (by decide) (c' := 0) (s' := 0) rfl rfl (by decide) (by decide) d1_40 (n := 43) rfl pd0 rfl rfl ?_
  rintro _ h24 ⟨r21, rfl, rfl, hr22⟩
  refine G.istoreN C d1_43 (l' := #[.val (.ref a), .val (.int i), .val (.int e2), .val (.int r21)]) rfl (n := 44) rfl ?_
  refine G.iloadN C d1_44 rfl (n := 45) rfl ?_
  refine G.if_lt C (A := r21.toInt) rfl d1_45 (by decide) (by decide) (n := 48) (n' := 52) rfl (fun c45_25 => ?_) (fun c45_25 => ?_)
  · refine G.iconst C (v := (0 : Int32)) d1_52 (by decide) (n := 53) rfl ?_
    refine G.ireturn C d1_53 (rfl) (by simp) (by decide) (by decide) ?_
    have q_it : r21.toInt = itn vs e2.toInt 6 i.toInt := by rw [hr22, hr18, hr14, hr10, hr6, hr2]; rfl
    exact ⟨by rw [show decide (0 ≤ itn vs e2.toInt 6 i.toInt) = false from decide_eq_false (by omega)]; rfl, rfl⟩
  · refine G.iconst C (v := (1 : Int32)) d1_48 (by decide) (n := 49) rfl ?_
    refine G.goto C d1_49 (by decide) (n := 53) (by decide) ?_
    refine G.ireturn C d1_53 (rfl) (by simp) (by decide) (by decide) ?_
    have q_it : r21.toInt = itn vs e2.toInt 6 i.toInt := by rw [hr22, hr18, hr14, hr10, hr6, hr2]; rfl
    exact ⟨by rw [show decide (0 ≤ itn vs e2.toInt 6 i.toInt) = true from decide_eq_true (by omega)]; rfl, rfl⟩
theorem wf_s {vs : List Int32} {E A : Int} {k : Nat} {W : Bool} (h : wfn vs E (k + 1) A = W) (h1 : A < E) (h2 : sqv vs A E ≠ 0) : wfn vs E k (A + sqv vs A E) = W := by
  rw [← h]
  show _ = (if E ≤ A then true else if sqv vs A E = 0 then false else wfn vs E k (A + sqv vs A E))
  rw [if_neg (by omega), if_neg h2]
theorem wf_t0 {vs : List Int32} {E A : Int} {W : Bool} (h : wfn vs E 0 A = W) : W = true := h.symm
theorem wf_t {vs : List Int32} {E A : Int} {k : Nat} {W : Bool} (h : wfn vs E (k + 1) A = W) (h1 : E ≤ A) : W = true := by
  rw [← h]
  exact if_pos h1
theorem wf_f {vs : List Int32} {E A : Int} {k : Nat} {W : Bool} (h : wfn vs E (k + 1) A = W) (h1 : A < E) (h2 : sqv vs A E = 0) : W = false := by
  rw [← h]
  show (if E ≤ A then true else if sqv vs A E = 0 then false else wfn vs E k (A + sqv vs A E)) = false
  rw [if_neg (by omega), if_pos h2]
theorem d4_0 : decode prog_20_method_4_code 0 = .ok (.iload_n 1, 1) := by decide +kernel
theorem d4_1 : decode prog_20_method_4_code 1 = .ok (.iload_n 2, 1) := by decide +kernel
theorem d4_2 : decode prog_20_method_4_code 2 = .ok (.iadd, 1) := by decide +kernel
theorem d4_3 : decode prog_20_method_4_code 3 = .ok (.istore_n 3, 1) := by decide +kernel
theorem d4_4 : decode prog_20_method_4_code 4 = .ok (.iload_n 1, 1) := by decide +kernel
theorem d4_5 : decode prog_20_method_4_code 5 = .ok (.istore 4, 2) := by decide +kernel
theorem d4_7 : decode prog_20_method_4_code 7 = .ok (.iload 4, 2) := by decide +kernel
theorem d4_9 : decode prog_20_method_4_code 9 = .ok (.iload_n 3, 1) := by decide +kernel
theorem d4_10 : decode prog_20_method_4_code 10 = .ok (.if_icmp .ge 263, 3) := by decide +kernel
theorem d4_13 : decode prog_20_method_4_code 13 = .ok (.aload_n 0, 1) := by decide +kernel
theorem d4_14 : decode prog_20_method_4_code 14 = .ok (.iload 4, 2) := by decide +kernel
theorem d4_16 : decode prog_20_method_4_code 16 = .ok (.baload, 1) := by decide +kernel
theorem d4_17 : decode prog_20_method_4_code 17 = .ok (.sipush 255, 3) := by decide +kernel
theorem d4_20 : decode prog_20_method_4_code 20 = .ok (.iand, 1) := by decide +kernel
theorem d4_21 : decode prog_20_method_4_code 21 = .ok (.istore 5, 2) := by decide +kernel
theorem d4_23 : decode prog_20_method_4_code 23 = .ok (.iload 5, 2) := by decide +kernel
theorem d4_25 : decode prog_20_method_4_code 25 = .ok (.sipush 128, 3) := by decide +kernel
theorem d4_28 : decode prog_20_method_4_code 28 = .ok (.if_icmp .ge 9, 3) := by decide +kernel
theorem d4_31 : decode prog_20_method_4_code 31 = .ok (.iinc 4 1, 3) := by decide +kernel
theorem d4_34 : decode prog_20_method_4_code 34 = .ok (.goto (-27), 3) := by decide +kernel
theorem d4_37 : decode prog_20_method_4_code 37 = .ok (.sipush 128, 3) := by decide +kernel
theorem d4_40 : decode prog_20_method_4_code 40 = .ok (.istore 7, 2) := by decide +kernel
theorem d4_42 : decode prog_20_method_4_code 42 = .ok (.sipush 191, 3) := by decide +kernel
theorem d4_45 : decode prog_20_method_4_code 45 = .ok (.istore 8, 2) := by decide +kernel
theorem d4_47 : decode prog_20_method_4_code 47 = .ok (.iload 5, 2) := by decide +kernel
theorem d4_49 : decode prog_20_method_4_code 49 = .ok (.sipush 194, 3) := by decide +kernel
theorem d4_52 : decode prog_20_method_4_code 52 = .ok (.if_icmp .lt 17, 3) := by decide +kernel
theorem d4_55 : decode prog_20_method_4_code 55 = .ok (.iload 5, 2) := by decide +kernel
theorem d4_57 : decode prog_20_method_4_code 57 = .ok (.sipush 223, 3) := by decide +kernel
theorem d4_60 : decode prog_20_method_4_code 60 = .ok (.if_icmp .gt 9, 3) := by decide +kernel
theorem d4_63 : decode prog_20_method_4_code 63 = .ok (.iconst 1, 1) := by decide +kernel
theorem d4_64 : decode prog_20_method_4_code 64 = .ok (.istore 6, 2) := by decide +kernel
theorem d4_66 : decode prog_20_method_4_code 66 = .ok (.goto 121, 3) := by decide +kernel
theorem d4_69 : decode prog_20_method_4_code 69 = .ok (.iload 5, 2) := by decide +kernel
theorem d4_71 : decode prog_20_method_4_code 71 = .ok (.sipush 224, 3) := by decide +kernel
theorem d4_74 : decode prog_20_method_4_code 74 = .ok (.if_icmp .lt 53, 3) := by decide +kernel
theorem d4_77 : decode prog_20_method_4_code 77 = .ok (.iload 5, 2) := by decide +kernel
theorem d4_79 : decode prog_20_method_4_code 79 = .ok (.sipush 239, 3) := by decide +kernel
theorem d4_82 : decode prog_20_method_4_code 82 = .ok (.if_icmp .gt 45, 3) := by decide +kernel
theorem d4_85 : decode prog_20_method_4_code 85 = .ok (.iconst 2, 1) := by decide +kernel
theorem d4_86 : decode prog_20_method_4_code 86 = .ok (.istore 6, 2) := by decide +kernel
theorem d4_88 : decode prog_20_method_4_code 88 = .ok (.iload 5, 2) := by decide +kernel
theorem d4_90 : decode prog_20_method_4_code 90 = .ok (.sipush 224, 3) := by decide +kernel
theorem d4_93 : decode prog_20_method_4_code 93 = .ok (.if_icmp .ne 9, 3) := by decide +kernel
theorem d4_96 : decode prog_20_method_4_code 96 = .ok (.sipush 160, 3) := by decide +kernel
theorem d4_99 : decode prog_20_method_4_code 99 = .ok (.goto 5, 3) := by decide +kernel
theorem d4_102 : decode prog_20_method_4_code 102 = .ok (.iload 7, 2) := by decide +kernel
theorem d4_104 : decode prog_20_method_4_code 104 = .ok (.istore 7, 2) := by decide +kernel
theorem d4_106 : decode prog_20_method_4_code 106 = .ok (.iload 5, 2) := by decide +kernel
theorem d4_108 : decode prog_20_method_4_code 108 = .ok (.sipush 237, 3) := by decide +kernel
theorem d4_111 : decode prog_20_method_4_code 111 = .ok (.if_icmp .ne 9, 3) := by decide +kernel
theorem d4_114 : decode prog_20_method_4_code 114 = .ok (.sipush 159, 3) := by decide +kernel
theorem d4_117 : decode prog_20_method_4_code 117 = .ok (.goto 5, 3) := by decide +kernel
theorem d4_120 : decode prog_20_method_4_code 120 = .ok (.iload 8, 2) := by decide +kernel
theorem d4_122 : decode prog_20_method_4_code 122 = .ok (.istore 8, 2) := by decide +kernel
theorem d4_124 : decode prog_20_method_4_code 124 = .ok (.goto 63, 3) := by decide +kernel
theorem d4_127 : decode prog_20_method_4_code 127 = .ok (.iload 5, 2) := by decide +kernel
theorem d4_129 : decode prog_20_method_4_code 129 = .ok (.sipush 240, 3) := by decide +kernel
theorem d4_132 : decode prog_20_method_4_code 132 = .ok (.if_icmp .lt 53, 3) := by decide +kernel
theorem d4_135 : decode prog_20_method_4_code 135 = .ok (.iload 5, 2) := by decide +kernel
theorem d4_137 : decode prog_20_method_4_code 137 = .ok (.sipush 244, 3) := by decide +kernel
theorem d4_140 : decode prog_20_method_4_code 140 = .ok (.if_icmp .gt 45, 3) := by decide +kernel
theorem d4_143 : decode prog_20_method_4_code 143 = .ok (.iconst 3, 1) := by decide +kernel
theorem d4_144 : decode prog_20_method_4_code 144 = .ok (.istore 6, 2) := by decide +kernel
theorem d4_146 : decode prog_20_method_4_code 146 = .ok (.iload 5, 2) := by decide +kernel
theorem d4_148 : decode prog_20_method_4_code 148 = .ok (.sipush 240, 3) := by decide +kernel
theorem d4_151 : decode prog_20_method_4_code 151 = .ok (.if_icmp .ne 9, 3) := by decide +kernel
theorem d4_154 : decode prog_20_method_4_code 154 = .ok (.sipush 144, 3) := by decide +kernel
theorem d4_157 : decode prog_20_method_4_code 157 = .ok (.goto 5, 3) := by decide +kernel
theorem d4_160 : decode prog_20_method_4_code 160 = .ok (.iload 7, 2) := by decide +kernel
theorem d4_162 : decode prog_20_method_4_code 162 = .ok (.istore 7, 2) := by decide +kernel
theorem d4_164 : decode prog_20_method_4_code 164 = .ok (.iload 5, 2) := by decide +kernel
theorem d4_166 : decode prog_20_method_4_code 166 = .ok (.sipush 244, 3) := by decide +kernel
theorem d4_169 : decode prog_20_method_4_code 169 = .ok (.if_icmp .ne 9, 3) := by decide +kernel
theorem d4_172 : decode prog_20_method_4_code 172 = .ok (.sipush 143, 3) := by decide +kernel
theorem d4_175 : decode prog_20_method_4_code 175 = .ok (.goto 5, 3) := by decide +kernel
theorem d4_178 : decode prog_20_method_4_code 178 = .ok (.iload 8, 2) := by decide +kernel
theorem d4_180 : decode prog_20_method_4_code 180 = .ok (.istore 8, 2) := by decide +kernel
theorem d4_182 : decode prog_20_method_4_code 182 = .ok (.goto 5, 3) := by decide +kernel
theorem d4_185 : decode prog_20_method_4_code 185 = .ok (.iconst 0, 1) := by decide +kernel
theorem d4_186 : decode prog_20_method_4_code 186 = .ok (.ireturn, 1) := by decide +kernel
theorem d4_187 : decode prog_20_method_4_code 187 = .ok (.iload_n 3, 1) := by decide +kernel
theorem d4_188 : decode prog_20_method_4_code 188 = .ok (.iload 4, 2) := by decide +kernel
theorem d4_190 : decode prog_20_method_4_code 190 = .ok (.isub, 1) := by decide +kernel
theorem d4_191 : decode prog_20_method_4_code 191 = .ok (.iload 6, 2) := by decide +kernel
theorem d4_193 : decode prog_20_method_4_code 193 = .ok (.if_icmp .gt 5, 3) := by decide +kernel
theorem d4_196 : decode prog_20_method_4_code 196 = .ok (.iconst 0, 1) := by decide +kernel
theorem d4_197 : decode prog_20_method_4_code 197 = .ok (.ireturn, 1) := by decide +kernel
theorem d4_198 : decode prog_20_method_4_code 198 = .ok (.aload_n 0, 1) := by decide +kernel
theorem d4_199 : decode prog_20_method_4_code 199 = .ok (.iload 4, 2) := by decide +kernel
theorem d4_201 : decode prog_20_method_4_code 201 = .ok (.iconst 1, 1) := by decide +kernel
theorem d4_202 : decode prog_20_method_4_code 202 = .ok (.iadd, 1) := by decide +kernel
theorem d4_203 : decode prog_20_method_4_code 203 = .ok (.baload, 1) := by decide +kernel
theorem d4_204 : decode prog_20_method_4_code 204 = .ok (.sipush 255, 3) := by decide +kernel
theorem d4_207 : decode prog_20_method_4_code 207 = .ok (.iand, 1) := by decide +kernel
theorem d4_208 : decode prog_20_method_4_code 208 = .ok (.istore 9, 2) := by decide +kernel
theorem d4_210 : decode prog_20_method_4_code 210 = .ok (.iload 9, 2) := by decide +kernel
theorem d4_212 : decode prog_20_method_4_code 212 = .ok (.iload 7, 2) := by decide +kernel
theorem d4_214 : decode prog_20_method_4_code 214 = .ok (.if_icmp .lt 10, 3) := by decide +kernel
theorem d4_217 : decode prog_20_method_4_code 217 = .ok (.iload 9, 2) := by decide +kernel
theorem d4_219 : decode prog_20_method_4_code 219 = .ok (.iload 8, 2) := by decide +kernel
theorem d4_221 : decode prog_20_method_4_code 221 = .ok (.if_icmp .le 5, 3) := by decide +kernel
theorem d4_224 : decode prog_20_method_4_code 224 = .ok (.iconst 0, 1) := by decide +kernel
theorem d4_225 : decode prog_20_method_4_code 225 = .ok (.ireturn, 1) := by decide +kernel
theorem d4_226 : decode prog_20_method_4_code 226 = .ok (.iconst 2, 1) := by decide +kernel
theorem d4_227 : decode prog_20_method_4_code 227 = .ok (.istore 10, 2) := by decide +kernel
theorem d4_229 : decode prog_20_method_4_code 229 = .ok (.iload 10, 2) := by decide +kernel
theorem d4_231 : decode prog_20_method_4_code 231 = .ok (.iload 6, 2) := by decide +kernel
theorem d4_233 : decode prog_20_method_4_code 233 = .ok (.if_icmp .gt 28, 3) := by decide +kernel
theorem d4_236 : decode prog_20_method_4_code 236 = .ok (.aload_n 0, 1) := by decide +kernel
theorem d4_237 : decode prog_20_method_4_code 237 = .ok (.iload 4, 2) := by decide +kernel
theorem d4_239 : decode prog_20_method_4_code 239 = .ok (.iload 10, 2) := by decide +kernel
theorem d4_241 : decode prog_20_method_4_code 241 = .ok (.iadd, 1) := by decide +kernel
theorem d4_242 : decode prog_20_method_4_code 242 = .ok (.baload, 1) := by decide +kernel
theorem d4_243 : decode prog_20_method_4_code 243 = .ok (.sipush 192, 3) := by decide +kernel
theorem d4_246 : decode prog_20_method_4_code 246 = .ok (.iand, 1) := by decide +kernel
theorem d4_247 : decode prog_20_method_4_code 247 = .ok (.sipush 128, 3) := by decide +kernel
theorem d4_250 : decode prog_20_method_4_code 250 = .ok (.if_icmp .eq 5, 3) := by decide +kernel
theorem d4_253 : decode prog_20_method_4_code 253 = .ok (.iconst 0, 1) := by decide +kernel
theorem d4_254 : decode prog_20_method_4_code 254 = .ok (.ireturn, 1) := by decide +kernel
theorem d4_255 : decode prog_20_method_4_code 255 = .ok (.iinc 10 1, 3) := by decide +kernel
theorem d4_258 : decode prog_20_method_4_code 258 = .ok (.goto (-29), 3) := by decide +kernel
theorem d4_261 : decode prog_20_method_4_code 261 = .ok (.iload 4, 2) := by decide +kernel
theorem d4_263 : decode prog_20_method_4_code 263 = .ok (.iconst 1, 1) := by decide +kernel
theorem d4_264 : decode prog_20_method_4_code 264 = .ok (.iload 6, 2) := by decide +kernel
theorem d4_266 : decode prog_20_method_4_code 266 = .ok (.iadd, 1) := by decide +kernel
theorem d4_267 : decode prog_20_method_4_code 267 = .ok (.iadd, 1) := by decide +kernel
theorem d4_268 : decode prog_20_method_4_code 268 = .ok (.istore 4, 2) := by decide +kernel
theorem d4_270 : decode prog_20_method_4_code 270 = .ok (.goto (-263), 3) := by decide +kernel
theorem d4_273 : decode prog_20_method_4_code 273 = .ok (.iconst 1, 1) := by decide +kernel
theorem d4_274 : decode prog_20_method_4_code 274 = .ok (.ireturn, 1) := by decide +kernel
theorem pn1 : plainName "com/example/veilrelay/veilrelay/core/Identifiers" = true := by first | (simp [plainName, overriddenIn]; done) | decide +kernel
theorem ef4 (m : MethodId) (a : Addr) (o : Int32) (n : Int32) : entryFrame m #[(.ref a), (.int o), (.int n)] 11 = mkF m 0 #[.val (.ref a), .val (.int o), .val (.int n), .unset, .unset, .unset, .unset, .unset, .unset, .unset, .unset] [] := by first | (simp [entryFrame, mkF, argsToLocals, Value.category]; done) | rfl
abbrev Q_wf (Z : State) (h0 : Heap) (n0 : Nat) (a : Addr) (o : Int32) (n : Int32) (vs : List Int32) (W : Bool) : Option Value → Heap → Prop := fun v h' => v = some (.int (b2i W)) ∧ h0 = h'
abbrev R_wf : Room := { frames := 0, cells := 0, slots := 0, locals := 0 }
set_option maxRecDepth 65536 in
set_option maxHeartbeats 40000000 in
theorem m_wf (l : Launch) (Z : State) (a0 : Array Value) (hw : ∀ d ∈ tables_1, d.before a0 Z = true) (a : Addr) (o : Int32) (n : Int32) (vs : List Int32) (W : Bool) (h0 : Heap) (n0 : Nat) (Z0 : n0 ≤ h0.size) (O_a : Ints Z h0 a .byte vs) (q_l : vs.length = 6) (q_o : 0 ≤ o.toInt) (q_n : 0 ≤ n.toInt) (q_6 : o.toInt + n.toInt ≤ 6) (e_W : wfn vs (o.toInt + n.toInt) 6 o.toInt = W) : Met l Z (⟨"com/example/veilrelay/veilrelay/core/Identifiers", "wellFormedUtf8", "([BII)Z"⟩ : MethodName) prog_20_method_4_code 11 (some .boolean) R_wf #[(.ref a), (.int o), (.int n)] h0 n0 (Q_wf Z h0 n0 a o n vs W) := by
  refine Met.of (plainFor_of_name pn1) (fun m => ef4 m a o n) ?_
  intro p e s m args below meth c C
  refine G.iloadN C d4_0 rfl (n := 1) rfl ?_
  refine G.iloadN C d4_1 rfl (n := 2) rfl ?_
  refine G.iadd C d4_2 (n := 3) rfl ?_
  refine G.istoreNZ C d4_3 (l' := fun z => #[.val (.ref a), .val (.int o), .val (.int n), .val (.int z), .unset, .unset, .unset, .unset, .unset, .unset, .unset]) (fun _ => rfl) (n := 4) rfl ?_
  intro v1 hv1
  refine G.iloadN C d4_4 rfl (n := 5) rfl ?_
  refine G.istore C d4_5 (l' := #[.val (.ref a), .val (.int o), .val (.int n), .val (.int v1), .val (.int o), .unset, .unset, .unset, .unset, .unset, .unset]) rfl (n := 7) rfl ?_
  have qE : v1.toInt = o.toInt + n.toInt := by rw [hv1]; exact ixk rfl q_o (by omega) (by omega)
  have loop2 : ∀ k : Nat, ∀ (i : Int32) (s5 : Slot) (s6 : Slot) (s7 : Slot) (s8 : Slot) (s9 : Slot) (s10 : Slot), (0 ≤ i.toInt) → (v1.toInt - i.toInt ≤ (k : Int)) → (wfn vs v1.toInt k i.toInt = W) → (s5 = .unset ∨ ∃ w, s5 = .val w ∧ w.category = 1) → (s6 = .unset ∨ ∃ w, s6 = .val w ∧ w.category = 1) → (s7 = .unset ∨ ∃ w, s7 = .val w ∧ w.category = 1) → (s8 = .unset ∨ ∃ w, s8 = .val w ∧ w.category = 1) → (s9 = .unset ∨ ∃ w, s9 = .val w ∧ w.category = 1) → (s10 = .unset ∨ ∃ w, s10 = .val w ∧ w.category = 1) → Go p l e R_wf s m args below meth c n0 (Q_wf Z h0 n0 a o n vs W) 0 0 h0 (mkF m 7 #[.val (.ref a), .val (.int o), .val (.int n), .val (.int v1), .val (.int i), s5, s6, s7, s8, s9, s10] []) := by
    intro k
    induction k with
    | zero =>
      intro i s5 s6 s7 s8 s9 s10 q_0 q_k q_W hs5 hs6 hs7 hs8 hs9 hs10
      refine G.iload C d4_7 rfl (n := 9) rfl ?_
      refine G.iloadN C d4_9 rfl (n := 10) rfl ?_
      refine G.icmp_ge C (A := i.toInt) (B := v1.toInt) rfl rfl d4_10 (by decide) (by decide) (n := 13) (n' := 273) rfl (fun c10_3 => ?_) (fun c10_3 => ?_)
      rotate_left
      · exact absurd c10_3 (by omega)
      refine G.iconst C (v := (1 : Int32)) d4_273 (by decide) (n := 274) rfl ?_
      refine G.ireturn C d4_274 (rfl) (by simp) (by decide) (by decide) ?_
      exact ⟨by rw [show W = true by first | exact wf_t0 q_W | exact wf_t q_W (by omega)]; rfl, rfl⟩
    | succ k ih =>
      intro i s5 s6 s7 s8 s9 s10 q_0 q_k q_W hs5 hs6 hs7 hs8 hs9 hs10
      refine G.iload C d4_7 rfl (n := 9) rfl ?_
      refine G.iloadN C d4_9 rfl (n := 10) rfl ?_
      refine G.icmp_ge C (A := i.toInt) (B := v1.toInt) rfl rfl d4_10 (by decide) (by decide) (n := 13) (n' := 273) rfl (fun c10_4 => ?_) (fun c10_4 => ?_)
      · refine G.iconst C (v := (1 : Int32)) d4_273 (by decide) (n := 274) rfl ?_
        refine G.ireturn C d4_274 (rfl) (by simp) (by decide) (by decide) ?_
        exact ⟨by rw [show W = true by first | exact wf_t0 q_W | exact wf_t q_W (by omega)]; rfl, rfl⟩
      · refine G.aloadN C d4_13 rfl rfl (n := 14) rfl ?_
        refine G.iload C d4_14 rfl (n := 16) rfl ?_
        refine G.baload C (x := (vs.getD i.toInt.toNat 0)) O_a (by omega) (getD_at (by omega)) d4_16 (n := 17) rfl ?_
        refine G.sipush C (v := (255 : Int32)) d4_17 (by decide) (n := 20) rfl ?_
        refine G.iand C d4_20 (n := 21) rfl ?_
        refine G.name_int ?_
        intro b6 hb6
        have R0 : 0 ≤ b6.toInt ∧ b6.toInt ≤ 255 := by rw [hb6]; exact u255 _
        have U0 : b6.toInt = ub vs (i.toInt) := by rw [hb6]; rfl
        refine G.istore C d4_21 (l' := #[.val (.ref a), .val (.int o), .val (.int n), .val (.int v1), .val (.int i), .val (.int b6), s6, s7, s8, s9, s10]) (Jvm.Free.XS.store1 rfl hs5 rfl) (n := 23) rfl ?_
        refine G.iload C d4_23 rfl (n := 25) rfl ?_
        refine G.sipush C (v := (128 : Int32)) d4_25 (by decide) (n := 28) rfl ?_
        refine G.icmp_ge C (A := b6.toInt) (B := 128) rfl (by decide) d4_28 (by decide) (by decide) (n := 31) (n' := 37) rfl (fun c28_7 => ?_) (fun c28_7 => ?_)
        · refine G.sipush C (v := (128 : Int32)) d4_37 (by decide) (n := 40) rfl ?_
          refine G.istore C d4_40 (l' := #[.val (.ref a), .val (.int o), .val (.int n), .val (.int v1), .val (.int i), .val (.int b6), s6, .val (.int (128 : Int32)), s8, s9, s10]) (Jvm.Free.XS.store1 rfl hs7 rfl) (n := 42) rfl ?_
          refine G.sipush C (v := (191 : Int32)) d4_42 (by decide) (n := 45) rfl ?_
          refine G.istore C d4_45 (l' := #[.val (.ref a), .val (.int o), .val (.int n), .val (.int v1), .val (.int i), .val (.int b6), s6, .val (.int (128 : Int32)), .val (.int (191 : Int32)), s9, s10]) (Jvm.Free.XS.store1 rfl hs8 rfl) (n := 47) rfl ?_
          refine G.iload C d4_47 rfl (n := 49) rfl ?_
          refine G.sipush C (v := (194 : Int32)) d4_49 (by decide) (n := 52) rfl ?_
          refine G.icmp_lt C (A := b6.toInt) (B := 194) rfl (by decide) d4_52 (by decide) (by decide) (n := 55) (n' := 69) rfl (fun c52_8 => ?_) (fun c52_8 => ?_)
          · refine G.iload C d4_69 rfl (n := 71) rfl ?_
            refine G.sipush C (v := (224 : Int32)) d4_71 (by decide) (n := 74) rfl ?_
            refine G.icmp_lt C (A := b6.toInt) (B := 224) rfl (by decide) d4_74 (by decide) (by decide) (n := 77) (n' := 127) rfl (fun c74_9 => ?_) (fun c74_9 => ?_)
            · refine G.iload C d4_127 rfl (n := 129) rfl ?_
              refine G.sipush C (v := (240 : Int32)) d4_129 (by decide) (n := 132) rfl ?_
              refine G.icmp_lt C (A := b6.toInt) (B := 240) rfl (by decide) d4_132 (by decide) (by decide) (n := 135) (n' := 185) rfl (fun c132_10 => ?_) (fun c132_10 => ?_)
              · refine G.iconst C (v := (0 : Int32)) d4_185 (by decide) (n := 186) rfl ?_
                refine G.ireturn C d4_186 (rfl) (by simp) (by decide) (by decide) ?_
                exact ⟨by rw [wf_f q_W (by omega) (by unfold sqv; exact sq_0x (by omega) (by omega))]; rfl, rfl⟩
              · refine G.iload C d4_135 rfl (n := 137) rfl ?_
                refine G.sipush C (v := (244 : Int32)) d4_137 (by decide) (n := 140) rfl ?_
                refine G.icmp_gt C (A := b6.toInt) (B := 244) rfl (by decide) d4_140 (by decide) (by decide) (n := 143) (n' := 185) rfl (fun c140_11 => ?_) (fun c140_11 => ?_)
                · refine G.iconst C (v := (0 : Int32)) d4_185 (by decide) (n := 186) rfl ?_
                  refine G.ireturn C d4_186 (rfl) (by simp) (by decide) (by decide) ?_
                  exact ⟨by rw [wf_f q_W (by omega) (by unfold sqv; exact sq_0x (by omega) (by omega))]; rfl, rfl⟩
                · refine G.iconst C (v := (3 : Int32)) d4_143 (by decide) (n := 144) rfl ?_
                  refine G.istore C d4_144 (l' := #[.val (.ref a), .val (.int o), .val (.int n), .val (.int v1), .val (.int i), .val (.int b6), .val (.int (3 : Int32)), .val (.int (128 : Int32)), .val (.int (191 : Int32)), s9, s10]) (Jvm.Free.XS.store1 rfl hs6 rfl) (n := 146) rfl ?_
                  refine G.iload C d4_146 rfl (n := 148) rfl ?_
                  refine G.sipush C (v := (240 : Int32)) d4_148 (by decide) (n := 151) rfl ?_
                  refine G.icmp_ne C (A := b6.toInt) (B := 240) rfl (by decide) d4_151 (by decide) (by decide) (n := 154) (n' := 160) rfl (fun c151_12 c151_12i => ?_) (fun c151_12 c151_12i => ?_)
                  · refine G.iload C d4_160 rfl (n := 162) rfl ?_
                    refine G.istore C d4_162 (l' := #[.val (.ref a), .val (.int o), .val (.int n), .val (.int v1), .val (.int i), .val (.int b6), .val (.int (3 : Int32)), .val (.int (128 : Int32)), .val (.int (191 : Int32)), s9, s10]) rfl (n := 164) rfl ?_
                    refine G.iload C d4_164 rfl (n := 166) rfl ?_
                    refine G.sipush C (v := (244 : Int32)) d4_166 (by decide) (n := 169) rfl ?_
                    refine G.icmp_ne C (A := b6.toInt) (B := 244) rfl (by decide) d4_169 (by decide) (by decide) (n := 172) (n' := 178) rfl (fun c169_13 c169_13i => ?_) (fun c169_13 c169_13i => ?_)
                    · refine G.iload C d4_178 rfl (n := 180) rfl ?_
                      refine G.istore C d4_180 (l' := #[.val (.ref a), .val (.int o), .val (.int n), .val (.int v1), .val (.int i), .val (.int b6), .val (.int (3 : Int32)), .val (.int (128 : Int32)), .val (.int (191 : Int32)), s9, s10]) rfl (n := 182) rfl ?_
                      refine G.goto C d4_182 (by decide) (n := 187) (by decide) ?_
                      have q_rem := isubk (x := v1) (y := i) (by omega) q_0
                      refine G.iloadN C d4_187 rfl (n := 188) rfl ?_
                      refine G.iload C d4_188 rfl (n := 190) rfl ?_
                      refine G.isub C d4_190 (n := 191) rfl ?_
                      refine G.iload C d4_191 rfl (n := 193) rfl ?_
                      refine G.icmp_gt C (A := (v1 - i).toInt) (B := 3) rfl (by decide) d4_193 (by decide) (by decide) (n := 196) (n' := 198) rfl (fun c193_14 => ?_) (fun c193_14 => ?_)
                      · refine G.aloadN C d4_198 rfl rfl (n := 199) rfl ?_
                        refine G.iload C d4_199 rfl (n := 201) rfl ?_
                        refine G.iconst C (v := (1 : Int32)) d4_201 (by decide) (n := 202) rfl ?_
                        refine G.iadd C d4_202 (n := 203) rfl ?_
                        have x15 : ((i + (1 : Int32))).toInt = i.toInt + 1 := ixk (by decide) q_0 (by decide) (by omega)
                        have x15n : ((i + (1 : Int32))).toInt.toNat = (i.toInt + 1).toNat := congrArg Int.toNat x15
                        refine G.baload C (x := (vs.getD (i.toInt + 1).toNat 0)) O_a (by omega) (by rw [x15n]; exact getD_at (by omega)) d4_203 (n := 204) rfl ?_
                        refine G.sipush C (v := (255 : Int32)) d4_204 (by decide) (n := 207) rfl ?_
                        refine G.iand C d4_207 (n := 208) rfl ?_
                        refine G.name_int ?_
                        intro b16 hb16
                        have R1 : 0 ≤ b16.toInt ∧ b16.toInt ≤ 255 := by rw [hb16]; exact u255 _
                        have U1 : b16.toInt = ub vs (i.toInt + 1) := by rw [hb16]; rfl
                        refine G.istore C d4_208 (l' := #[.val (.ref a), .val (.int o), .val (.int n), .val (.int v1), .val (.int i), .val (.int b6), .val (.int (3 : Int32)), .val (.int (128 : Int32)), .val (.int (191 : Int32)), .val (.int b16), s10]) (Jvm.Free.XS.store1 rfl hs9 rfl) (n := 210) rfl ?_
                        refine G.iload C d4_210 rfl (n := 212) rfl ?_
                        refine G.iload C d4_212 rfl (n := 214) rfl ?_
                        refine G.icmp_lt C (A := b16.toInt) (B := 128) rfl (by decide) d4_214 (by decide) (by decide) (n := 217) (n' := 224) rfl (fun c214_17 => ?_) (fun c214_17 => ?_)
                        · refine G.iconst C (v := (0 : Int32)) d4_224 (by decide) (n := 225) rfl ?_
                          refine G.ireturn C d4_225 (rfl) (by simp) (by decide) (by decide) ?_
                          exact ⟨by rw [wf_f q_W (by omega) (by unfold sqv; exact sq_04 (by omega) (by omega))]; rfl, rfl⟩
                        · refine G.iload C d4_217 rfl (n := 219) rfl ?_
                          refine G.iload C d4_219 rfl (n := 221) rfl ?_
                          refine G.icmp_le C (A := b16.toInt) (B := 191) rfl (by decide) d4_221 (by decide) (by decide) (n := 224) (n' := 226) rfl (fun c221_18 => ?_) (fun c221_18 => ?_)
                          · refine G.iconst C (v := (2 : Int32)) d4_226 (by decide) (n := 227) rfl ?_
                            refine G.istore C d4_227 (l' := #[.val (.ref a), .val (.int o), .val (.int n), .val (.int v1), .val (.int i), .val (.int b6), .val (.int (3 : Int32)), .val (.int (128 : Int32)), .val (.int (191 : Int32)), .val (.int b16), .val (.int (2 : Int32))]) (Jvm.Free.XS.store1 rfl hs10 rfl) (n := 229) rfl ?_
                            refine G.iload C d4_229 rfl (n := 231) rfl ?_
                            refine G.iload C d4_231 rfl (n := 233) rfl ?_
                            refine G.icmp_gt C (A := 2) (B := 3) (by decide) (by decide) d4_233 (by decide) (by decide) (n := 236) (n' := 261) rfl (fun c233_19 => ?_) (fun c233_19 => ?_)
                            · exact absurd c233_19 (by decide)
                            refine G.aloadN C d4_236 rfl rfl (n := 237) rfl ?_
                            refine G.iload C d4_237 rfl (n := 239) rfl ?_
                            refine G.iload C d4_239 rfl (n := 241) rfl ?_
                            refine G.iadd C d4_241 (n := 242) rfl ?_
                            have x20 : ((i + (2 : Int32))).toInt = i.toInt + 2 := ixk (by decide) q_0 (by decide) (by omega)
                            have x20n : ((i + (2 : Int32))).toInt.toNat = (i.toInt + 2).toNat := congrArg Int.toNat x20
                            refine G.baload C (x := (vs.getD (i.toInt + 2).toNat 0)) O_a (by omega) (by rw [x20n]; exact getD_at (by omega)) d4_242 (n := 243) rfl ?_
                            refine G.sipush C (v := (192 : Int32)) d4_243 (by decide) (n := 246) rfl ?_
                            have RS2 := Ints_byte O_a (i := (i.toInt + 2).toNat) (by omega)
                            have US2 : ub vs (i.toInt + 2) = ((vs.getD (i.toInt + 2).toNat 0) &&& (255 : Int32)).toInt := rfl
                            refine G.iand C d4_246 (n := 247) rfl ?_
                            refine G.sipush C (v := (128 : Int32)) d4_247 (by decide) (n := 250) rfl ?_
                            refine G.icmp_eq C (A := ((vs.getD (i.toInt + 2).toNat 0) &&& (192 : Int32)).toInt) (B := 128) rfl (by decide) d4_250 (by decide) (by decide) (n := 253) (n' := 255) rfl (fun c250_21 c250_21i => ?_) (fun c250_21 c250_21i => ?_)
                            · have rs2 : (128 ≤ ub vs (i.toInt + 2) ∧ ub vs (i.toInt + 2) ≤ 191) := (a192s RS2).mp c250_21i
                              refine G.iincK C (v := (1 : Int32)) (z := (3 : Int32)) d4_255 (by decide) rfl (by decide) (l' := #[.val (.ref a), .val (.int o), .val (.int n), .val (.int v1), .val (.int i), .val (.int b6), .val (.int (3 : Int32)), .val (.int (128 : Int32)), .val (.int (191 : Int32)), .val (.int b16), .val (.int (3 : Int32))]) rfl (n := 258) rfl ?_
                              refine G.goto C d4_258 (by decide) (n := 229) (by decide) ?_
                              refine G.iload C d4_229 rfl (n := 231) rfl ?_
                              refine G.iload C d4_231 rfl (n := 233) rfl ?_
                              refine G.icmp_gt C (A := 3) (B := 3) (by decide) (by decide) d4_233 (by decide) (by decide) (n := 236) (n' := 261) rfl (fun c233_22 => ?_) (fun c233_22 => ?_)
                              · exact absurd c233_22 (by decide)
                              refine G.aloadN C d4_236 rfl rfl (n := 237) rfl ?_
                              refine G.iload C d4_237 rfl (n := 239) rfl ?_
                              refine G.iload C d4_239 rfl (n := 241) rfl ?_
                              refine G.iadd C d4_241 (n := 242) rfl ?_
                              have x23 : ((i + (3 : Int32))).toInt = i.toInt + 3 := ixk (by decide) q_0 (by decide) (by omega)
                              have x23n : ((i + (3 : Int32))).toInt.toNat = (i.toInt + 3).toNat := congrArg Int.toNat x23
                              refine G.baload C (x := (vs.getD (i.toInt + 3).toNat 0)) O_a (by omega) (by rw [x23n]; exact getD_at (by omega)) d4_242 (n := 243) rfl ?_
                              refine G.sipush C (v := (192 : Int32)) d4_243 (by decide) (n := 246) rfl ?_
                              have RS3 := Ints_byte O_a (i := (i.toInt + 3).toNat) (by omega)
                              have US3 : ub vs (i.toInt + 3) = ((vs.getD (i.toInt + 3).toNat 0) &&& (255 : Int32)).toInt := rfl
                              refine G.iand C d4_246 (n := 247) rfl ?_
                              refine G.sipush C (v := (128 : Int32)) d4_247 (by decide) (n := 250) rfl ?_
                              refine G.icmp_eq C (A := ((vs.getD (i.toInt + 3).toNat 0) &&& (192 : Int32)).toInt) (B := 128) rfl (by decide) d4_250 (by decide) (by decide) (n := 253) (n' := 255) rfl (fun c250_24 c250_24i => ?_) (fun c250_24 c250_24i => ?_)
                              · have rs3 : (128 ≤ ub vs (i.toInt + 3) ∧ ub vs (i.toInt + 3) ≤ 191) := (a192s RS3).mp c250_24i
                                refine G.iincK C (v := (1 : Int32)) (z := (4 : Int32)) d4_255 (by decide) rfl (by decide) (l' := #[.val (.ref a), .val (.int o), .val (.int n), .val (.int v1), .val (.int i), .val (.int b6), .val (.int (3 : Int32)), .val (.int (128 : Int32)), .val (.int (191 : Int32)), .val (.int b16), .val (.int (4 : Int32))]) rfl (n := 258) rfl ?_
                                refine G.goto C d4_258 (by decide) (n := 229) (by decide) ?_
                                refine G.iload C d4_229 rfl (n := 231) rfl ?_
                                refine G.iload C d4_231 rfl (n := 233) rfl ?_
                                refine G.icmp_gt C (A := 4) (B := 3) (by decide) (by decide) d4_233 (by decide) (by decide) (n := 236) (n' := 261) rfl (fun c233_25 => ?_) (fun c233_25 => ?_)
                                rotate_left
                                · exact absurd c233_25 (by decide)
                                refine G.iload C d4_261 rfl (n := 263) rfl ?_
                                refine G.iconst C (v := (1 : Int32)) d4_263 (by decide) (n := 264) rfl ?_
                                refine G.iload C d4_264 rfl (n := 266) rfl ?_
                                refine G.iadd C d4_266 (n := 267) rfl ?_
                                refine G.fold_int (z := (4 : Int32)) (by decide) ?_
                                refine G.iadd C d4_267 (n := 268) rfl ?_
                                refine G.fold_int (z := i + (4 : Int32)) rfl ?_
                                refine G.istoreZ C d4_268 (l' := fun z => #[.val (.ref a), .val (.int o), .val (.int n), .val (.int v1), .val (.int z), .val (.int b6), .val (.int (3 : Int32)), .val (.int (128 : Int32)), .val (.int (191 : Int32)), .val (.int b16), .val (.int (4 : Int32))]) (fun _ => rfl) (n := 270) rfl ?_
                                intro v26 hv26
                                refine G.goto C d4_270 (by decide) (n := 7) (by decide) ?_
                                have q_i2 : v26.toInt = i.toInt + 4 := by rw [hv26]; exact ixk (by decide) q_0 (by decide) (by omega)
                                have q_sq : sqv vs i.toInt v1.toInt = 4 := by unfold sqv; exact sq_4 (by omega) (by omega) (by omega)
                                exact ih v26 (.val (.int b6)) (.val (.int (3 : Int32))) (.val (.int (128 : Int32))) (.val (.int (191 : Int32))) (.val (.int b16)) (.val (.int (4 : Int32)))  (by omega) (by omega) (by rw [q_i2, ← q_sq]; exact wf_s q_W (by omega) (by omega)) (Or.inr ⟨_, rfl, rfl⟩) (Or.inr ⟨_, rfl, rfl⟩) (Or.inr ⟨_, rfl, rfl⟩) (Or.inr ⟨_, rfl, rfl⟩) (Or.inr ⟨_, rfl, rfl⟩) (Or.inr ⟨_, rfl, rfl⟩)
                              · have rs3 : ¬ (128 ≤ ub vs (i.toInt + 3) ∧ ub vs (i.toInt + 3) ≤ 191) := fun q => c250_24i ((a192s RS3).mpr q)
                                refine G.iconst C (v := (0 : Int32)) d4_253 (by decide) (n := 254) rfl ?_
                                refine G.ireturn C d4_254 (rfl) (by simp) (by decide) (by decide) ?_
                                exact ⟨by rw [wf_f q_W (by omega) (by unfold sqv; exact sq_04 (by omega) (by omega))]; rfl, rfl⟩
                            · have rs2 : ¬ (128 ≤ ub vs (i.toInt + 2) ∧ ub vs (i.toInt + 2) ≤ 191) := fun q => c250_21i ((a192s RS2).mpr q)
                              refine G.iconst C (v := (0 : Int32)) d4_253 (by decide) (n := 254) rfl ?_
                              refine G.ireturn C d4_254 (rfl) (by simp) (by decide) (by decide) ?_
                              exact ⟨by rw [wf_f q_W (by omega) (by unfold sqv; exact sq_04 (by omega) (by omega))]; rfl, rfl⟩
                          · refine G.iconst C (v := (0 : Int32)) d4_224 (by decide) (n := 225) rfl ?_
                            refine G.ireturn C d4_225 (rfl) (by simp) (by decide) (by decide) ?_
                            exact ⟨by rw [wf_f q_W (by omega) (by unfold sqv; exact sq_04 (by omega) (by omega))]; rfl, rfl⟩
                      · refine G.iconst C (v := (0 : Int32)) d4_196 (by decide) (n := 197) rfl ?_
                        refine G.ireturn C d4_197 (rfl) (by simp) (by decide) (by decide) ?_
                        exact ⟨by rw [wf_f q_W (by omega) (by unfold sqv; exact sq_04 (by omega) (by omega))]; rfl, rfl⟩
                    · refine G.sipush C (v := (143 : Int32)) d4_172 (by decide) (n := 175) rfl ?_
                      refine G.goto C d4_175 (by decide) (n := 180) (by decide) ?_
                      refine G.istore C d4_180 (l' := #[.val (.ref a), .val (.int o), .val (.int n), .val (.int v1), .val (.int i), .val (.int b6), .val (.int (3 : Int32)), .val (.int (128 : Int32)), .val (.int (143 : Int32)), s9, s10]) rfl (n := 182) rfl ?_
                      refine G.goto C d4_182 (by decide) (n := 187) (by decide) ?_
                      have q_rem := isubk (x := v1) (y := i) (by omega) q_0
                      refine G.iloadN C d4_187 rfl (n := 188) rfl ?_
                      refine G.iload C d4_188 rfl (n := 190) rfl ?_
                      refine G.isub C d4_190 (n := 191) rfl ?_
                      refine G.iload C d4_191 rfl (n := 193) rfl ?_
                      refine G.icmp_gt C (A := (v1 - i).toInt) (B := 3) rfl (by decide) d4_193 (by decide) (by decide) (n := 196) (n' := 198) rfl (fun c193_27 => ?_) (fun c193_27 => ?_)
                      · refine G.aloadN C d4_198 rfl rfl (n := 199) rfl ?_
                        refine G.iload C d4_199 rfl (n := 201) rfl ?_
                        refine G.iconst C (v := (1 : Int32)) d4_201 (by decide) (n := 202) rfl ?_
                        refine G.iadd C d4_202 (n := 203) rfl ?_
                        have x28 : ((i + (1 : Int32))).toInt = i.toInt + 1 := ixk (by decide) q_0 (by decide) (by omega)
                        have x28n : ((i + (1 : Int32))).toInt.toNat = (i.toInt + 1).toNat := congrArg Int.toNat x28
                        refine G.baload C (x := (vs.getD (i.toInt + 1).toNat 0)) O_a (by omega) (by rw [x28n]; exact getD_at (by omega)) d4_203 (n := 204) rfl ?_
                        refine G.sipush C (v := (255 : Int32)) d4_204 (by decide) (n := 207) rfl ?_
                        refine G.iand C d4_207 (n := 208) rfl ?_
                        refine G.name_int ?_
                        intro b29 hb29
                        have R1 : 0 ≤ b29.toInt ∧ b29.toInt ≤ 255 := by rw [hb29]; exact u255 _
                        have U1 : b29.toInt = ub vs (i.toInt + 1) := by rw [hb29]; rfl
                        refine G.istore C d4_208 (l' := #[.val (.ref a), .val (.int o), .val (.int n), .val (.int v1), .val (.int i), .val (.int b6), .val (.int (3 : Int32)), .val (.int (128 : Int32)), .val (.int (143 : Int32)), .val (.int b29), s10]) (Jvm.Free.XS.store1 rfl hs9 rfl) (n := 210) rfl ?_
                        refine G.iload C d4_210 rfl (n := 212) rfl ?_
                        refine G.iload C d4_212 rfl (n := 214) rfl ?_
                        refine G.icmp_lt C (A := b29.toInt) (B := 128) rfl (by decide) d4_214 (by decide) (by decide) (n := 217) (n' := 224) rfl (fun c214_30 => ?_) (fun c214_30 => ?_)
                        · refine G.iconst C (v := (0 : Int32)) d4_224 (by decide) (n := 225) rfl ?_
                          refine G.ireturn C d4_225 (rfl) (by simp) (by decide) (by decide) ?_
                          exact ⟨by rw [wf_f q_W (by omega) (by unfold sqv; exact sq_04 (by omega) (by omega))]; rfl, rfl⟩
                        · refine G.iload C d4_217 rfl (n := 219) rfl ?_
                          refine G.iload C d4_219 rfl (n := 221) rfl ?_
                          refine G.icmp_le C (A := b29.toInt) (B := 143) rfl (by decide) d4_221 (by decide) (by decide) (n := 224) (n' := 226) rfl (fun c221_31 => ?_) (fun c221_31 => ?_)
                          · refine G.iconst C (v := (2 : Int32)) d4_226 (by decide) (n := 227) rfl ?_
                            refine G.istore C d4_227 (l' := #[.val (.ref a), .val (.int o), .val (.int n), .val (.int v1), .val (.int i), .val (.int b6), .val (.int (3 : Int32)), .val (.int (128 : Int32)), .val (.int (143 : Int32)), .val (.int b29), .val (.int (2 : Int32))]) (Jvm.Free.XS.store1 rfl hs10 rfl) (n := 229) rfl ?_
                            refine G.iload C d4_229 rfl (n := 231) rfl ?_
                            refine G.iload C d4_231 rfl (n := 233) rfl ?_
                            refine G.icmp_gt C (A := 2) (B := 3) (by decide) (by decide) d4_233 (by decide) (by decide) (n := 236) (n' := 261) rfl (fun c233_32 => ?_) (fun c233_32 => ?_)
                            · exact absurd c233_32 (by decide)
                            refine G.aloadN C d4_236 rfl rfl (n := 237) rfl ?_
                            refine G.iload C d4_237 rfl (n := 239) rfl ?_
                            refine G.iload C d4_239 rfl (n := 241) rfl ?_
                            refine G.iadd C d4_241 (n := 242) rfl ?_
                            have x33 : ((i + (2 : Int32))).toInt = i.toInt + 2 := ixk (by decide) q_0 (by decide) (by omega)
                            have x33n : ((i + (2 : Int32))).toInt.toNat = (i.toInt + 2).toNat := congrArg Int.toNat x33
                            refine G.baload C (x := (vs.getD (i.toInt + 2).toNat 0)) O_a (by omega) (by rw [x33n]; exact getD_at (by omega)) d4_242 (n := 243) rfl ?_
                            refine G.sipush C (v := (192 : Int32)) d4_243 (by decide) (n := 246) rfl ?_
                            have RS2 := Ints_byte O_a (i := (i.toInt + 2).toNat) (by omega)
                            have US2 : ub vs (i.toInt + 2) = ((vs.getD (i.toInt + 2).toNat 0) &&& (255 : Int32)).toInt := rfl
                            refine G.iand C d4_246 (n := 247) rfl ?_
                            refine G.sipush C (v := (128 : Int32)) d4_247 (by decide) (n := 250) rfl ?_
                            refine G.icmp_eq C (A := ((vs.getD (i.toInt + 2).toNat 0) &&& (192 : Int32)).toInt) (B := 128) rfl (by decide) d4_250 (by decide) (by decide) (n := 253) (n' := 255) rfl (fun c250_34 c250_34i => ?_) (fun c250_34 c250_34i => ?_)
                            · have rs2 : (128 ≤ ub vs (i.toInt + 2) ∧ ub vs (i.toInt + 2) ≤ 191) := (a192s RS2).mp c250_34i
                              refine G.iincK C (v := (1 : Int32)) (z := (3 : Int32)) d4_255 (by decide) rfl (by decide) (l' := #[.val (.ref a), .val (.int o), .val (.int n), .val (.int v1), .val (.int i), .val (.int b6), .val (.int (3 : Int32)), .val (.int (128 : Int32)), .val (.int (143 : Int32)), .val (.int b29), .val (.int (3 : Int32))]) rfl (n := 258) rfl ?_
                              refine G.goto C d4_258 (by decide) (n := 229) (by decide) ?_
                              refine G.iload C d4_229 rfl (n := 231) rfl ?_
                              refine G.iload C d4_231 rfl (n := 233) rfl ?_
                              refine G.icmp_gt C (A := 3) (B := 3) (by decide) (by decide) d4_233 (by decide) (by decide) (n := 236) (n' := 261) rfl (fun c233_35 => ?_) (fun c233_35 => ?_)
                              · exact absurd c233_35 (by decide)
                              refine G.aloadN C d4_236 rfl rfl (n := 237) rfl ?_
                              refine G.iload C d4_237 rfl (n := 239) rfl ?_
                              refine G.iload C d4_239 rfl (n := 241) rfl ?_
                              refine G.iadd C d4_241 (n := 242) rfl ?_
                              have x36 : ((i + (3 : Int32))).toInt = i.toInt + 3 := ixk (by decide) q_0 (by decide) (by omega)
                              have x36n : ((i + (3 : Int32))).toInt.toNat = (i.toInt + 3).toNat := congrArg Int.toNat x36
                              refine G.baload C (x := (vs.getD (i.toInt + 3).toNat 0)) O_a (by omega) (by rw [x36n]; exact getD_at (by omega)) d4_242 (n := 243) rfl ?_
                              refine G.sipush C (v := (192 : Int32)) d4_243 (by decide) (n := 246) rfl ?_
                              have RS3 := Ints_byte O_a (i := (i.toInt + 3).toNat) (by omega)
                              have US3 : ub vs (i.toInt + 3) = ((vs.getD (i.toInt + 3).toNat 0) &&& (255 : Int32)).toInt := rfl
                              refine G.iand C d4_246 (n := 247) rfl ?_
                              refine G.sipush C (v := (128 : Int32)) d4_247 (by decide) (n := 250) rfl ?_
                              refine G.icmp_eq C (A := ((vs.getD (i.toInt + 3).toNat 0) &&& (192 : Int32)).toInt) (B := 128) rfl (by decide) d4_250 (by decide) (by decide) (n := 253) (n' := 255) rfl (fun c250_37 c250_37i => ?_) (fun c250_37 c250_37i => ?_)
                              · have rs3 : (128 ≤ ub vs (i.toInt + 3) ∧ ub vs (i.toInt + 3) ≤ 191) := (a192s RS3).mp c250_37i
                                refine G.iincK C (v := (1 : Int32)) (z := (4 : Int32)) d4_255 (by decide) rfl (by decide) (l' := #[.val (.ref a), .val (.int o), .val (.int n), .val (.int v1), .val (.int i), .val (.int b6), .val (.int (3 : Int32)), .val (.int (128 : Int32)), .val (.int (143 : Int32)), .val (.int b29), .val (.int (4 : Int32))]) rfl (n := 258) rfl ?_
                                refine G.goto C d4_258 (by decide) (n := 229) (by decide) ?_
                                refine G.iload C d4_229 rfl (n := 231) rfl ?_
                                refine G.iload C d4_231 rfl (n := 233) rfl ?_
                                refine G.icmp_gt C (A := 4) (B := 3) (by decide) (by decide) d4_233 (by decide) (by decide) (n := 236) (n' := 261) rfl (fun c233_38 => ?_) (fun c233_38 => ?_)
                                rotate_left
                                · exact absurd c233_38 (by decide)
                                refine G.iload C d4_261 rfl (n := 263) rfl ?_
                                refine G.iconst C (v := (1 : Int32)) d4_263 (by decide) (n := 264) rfl ?_
                                refine G.iload C d4_264 rfl (n := 266) rfl ?_
                                refine G.iadd C d4_266 (n := 267) rfl ?_
                                refine G.fold_int (z := (4 : Int32)) (by decide) ?_
                                refine G.iadd C d4_267 (n := 268) rfl ?_
                                refine G.fold_int (z := i + (4 : Int32)) rfl ?_
                                refine G.istoreZ C d4_268 (l' := fun z => #[.val (.ref a), .val (.int o), .val (.int n), .val (.int v1), .val (.int z), .val (.int b6), .val (.int (3 : Int32)), .val (.int (128 : Int32)), .val (.int (143 : Int32)), .val (.int b29), .val (.int (4 : Int32))]) (fun _ => rfl) (n := 270) rfl ?_
                                intro v39 hv39
                                refine G.goto C d4_270 (by decide) (n := 7) (by decide) ?_
                                have q_i2 : v39.toInt = i.toInt + 4 := by rw [hv39]; exact ixk (by decide) q_0 (by decide) (by omega)
                                have q_sq : sqv vs i.toInt v1.toInt = 4 := by unfold sqv; exact sq_4 (by omega) (by omega) (by omega)
                                exact ih v39 (.val (.int b6)) (.val (.int (3 : Int32))) (.val (.int (128 : Int32))) (.val (.int (143 : Int32))) (.val (.int b29)) (.val (.int (4 : Int32)))  (by omega) (by omega) (by rw [q_i2, ← q_sq]; exact wf_s q_W (by omega) (by omega)) (Or.inr ⟨_, rfl, rfl⟩) (Or.inr ⟨_, rfl, rfl⟩) (Or.inr ⟨_, rfl, rfl⟩) (Or.inr ⟨_, rfl, rfl⟩) (Or.inr ⟨_, rfl, rfl⟩) (Or.inr ⟨_, rfl, rfl⟩)
                              · have rs3 : ¬ (128 ≤ ub vs (i.toInt + 3) ∧ ub vs (i.toInt + 3) ≤ 191) := fun q => c250_37i ((a192s RS3).mpr q)
                                refine G.iconst C (v := (0 : Int32)) d4_253 (by decide) (n := 254) rfl ?_
                                refine G.ireturn C d4_254 (rfl) (by simp) (by decide) (by decide) ?_
                                exact ⟨by rw [wf_f q_W (by omega) (by unfold sqv; exact sq_04 (by omega) (by omega))]; rfl, rfl⟩
                            · have rs2 : ¬ (128 ≤ ub vs (i.toInt + 2) ∧ ub vs (i.toInt + 2) ≤ 191) := fun q => c250_34i ((a192s RS2).mpr q)
                              refine G.iconst C (v := (0 : Int32)) d4_253 (by decide) (n := 254) rfl ?_
                              refine G.ireturn C d4_254 (rfl) (by simp) (by decide) (by decide) ?_
                              exact ⟨by rw [wf_f q_W (by omega) (by unfold sqv; exact sq_04 (by omega) (by omega))]; rfl, rfl⟩
                          · refine G.iconst C (v := (0 : Int32)) d4_224 (by decide) (n := 225) rfl ?_
                            refine G.ireturn C d4_225 (rfl) (by simp) (by decide) (by decide) ?_
                            exact ⟨by rw [wf_f q_W (by omega) (by unfold sqv; exact sq_04 (by omega) (by omega))]; rfl, rfl⟩
                      · refine G.iconst C (v := (0 : Int32)) d4_196 (by decide) (n := 197) rfl ?_
                        refine G.ireturn C d4_197 (rfl) (by simp) (by decide) (by decide) ?_
                        exact ⟨by rw [wf_f q_W (by omega) (by unfold sqv; exact sq_04 (by omega) (by omega))]; rfl, rfl⟩
                  · refine G.sipush C (v := (144 : Int32)) d4_154 (by decide) (n := 157) rfl ?_
                    refine G.goto C d4_157 (by decide) (n := 162) (by decide) ?_
                    refine G.istore C d4_162 (l' := #[.val (.ref a), .val (.int o), .val (.int n), .val (.int v1), .val (.int i), .val (.int b6), .val (.int (3 : Int32)), .val (.int (144 : Int32)), .val (.int (191 : Int32)), s9, s10]) rfl (n := 164) rfl ?_
                    refine G.iload C d4_164 rfl (n := 166) rfl ?_
                    refine G.sipush C (v := (244 : Int32)) d4_166 (by decide) (n := 169) rfl ?_
                    refine G.icmp_ne C (A := b6.toInt) (B := 244) rfl (by decide) d4_169 (by decide) (by decide) (n := 172) (n' := 178) rfl (fun c169_40 c169_40i => ?_) (fun c169_40 c169_40i => ?_)
                    · refine G.iload C d4_178 rfl (n := 180) rfl ?_
                      refine G.istore C d4_180 (l' := #[.val (.ref a), .val (.int o), .val (.int n), .val (.int v1), .val (.int i), .val (.int b6), .val (.int (3 : Int32)), .val (.int (144 : Int32)), .val (.int (191 : Int32)), s9, s10]) rfl (n := 182) rfl ?_
                      refine G.goto C d4_182 (by decide) (n := 187) (by decide) ?_
                      have q_rem := isubk (x := v1) (y := i) (by omega) q_0
                      refine G.iloadN C d4_187 rfl (n := 188) rfl ?_
                      refine G.iload C d4_188 rfl (n := 190) rfl ?_
                      refine G.isub C d4_190 (n := 191) rfl ?_
                      refine G.iload C d4_191 rfl (n := 193) rfl ?_
                      refine G.icmp_gt C (A := (v1 - i).toInt) (B := 3) rfl (by decide) d4_193 (by decide) (by decide) (n := 196) (n' := 198) rfl (fun c193_41 => ?_) (fun c193_41 => ?_)
                      · refine G.aloadN C d4_198 rfl rfl (n := 199) rfl ?_
                        refine G.iload C d4_199 rfl (n := 201) rfl ?_
                        refine G.iconst C (v := (1 : Int32)) d4_201 (by decide) (n := 202) rfl ?_
                        refine G.iadd C d4_202 (n := 203) rfl ?_
                        have x42 : ((i + (1 : Int32))).toInt = i.toInt + 1 := ixk (by decide) q_0 (by decide) (by omega)
                        have x42n : ((i + (1 : Int32))).toInt.toNat = (i.toInt + 1).toNat := congrArg Int.toNat x42
                        refine G.baload C (x := (vs.getD (i.toInt + 1).toNat 0)) O_a (by omega) (by rw [x42n]; exact getD_at (by omega)) d4_203 (n := 204) rfl ?_
                        refine G.sipush C (v := (255 : Int32)) d4_204 (by decide) (n := 207) rfl ?_
                        refine G.iand C d4_207 (n := 208) rfl ?_
                        refine G.name_int ?_
                        intro b43 hb43
                        have R1 : 0 ≤ b43.toInt ∧ b43.toInt ≤ 255 := by rw [hb43]; exact u255 _
                        have U1 : b43.toInt = ub vs (i.toInt + 1) := by rw [hb43]; rfl
                        refine G.istore C d4_208 (l' := #[.val (.ref a), .val (.int o), .val (.int n), .val (.int v1), .val (.int i), .val (.int b6), .val (.int (3 : Int32)), .val (.int (144 : Int32)), .val (.int (191 : Int32)), .val (.int b43), s10]) (Jvm.Free.XS.store1 rfl hs9 rfl) (n := 210) rfl ?_
                        refine G.iload C d4_210 rfl (n := 212) rfl ?_
                        refine G.iload C d4_212 rfl (n := 214) rfl ?_
                        refine G.icmp_lt C (A := b43.toInt) (B := 144) rfl (by decide) d4_214 (by decide) (by decide) (n := 217) (n' := 224) rfl (fun c214_44 => ?_) (fun c214_44 => ?_)
                        · refine G.iconst C (v := (0 : Int32)) d4_224 (by decide) (n := 225) rfl ?_
                          refine G.ireturn C d4_225 (rfl) (by simp) (by decide) (by decide) ?_
                          exact ⟨by rw [wf_f q_W (by omega) (by unfold sqv; exact sq_04 (by omega) (by omega))]; rfl, rfl⟩
                        · refine G.iload C d4_217 rfl (n := 219) rfl ?_
                          refine G.iload C d4_219 rfl (n := 221) rfl ?_
                          refine G.icmp_le C (A := b43.toInt) (B := 191) rfl (by decide) d4_221 (by decide) (by decide) (n := 224) (n' := 226) rfl (fun c221_45 => ?_) (fun c221_45 => ?_)
                          · refine G.iconst C (v := (2 : Int32)) d4_226 (by decide) (n := 227) rfl ?_
                            refine G.istore C d4_227 (l' := #[.val (.ref a), .val (.int o), .val (.int n), .val (.int v1), .val (.int i), .val (.int b6), .val (.int (3 : Int32)), .val (.int (144 : Int32)), .val (.int (191 : Int32)), .val (.int b43), .val (.int (2 : Int32))]) (Jvm.Free.XS.store1 rfl hs10 rfl) (n := 229) rfl ?_
                            refine G.iload C d4_229 rfl (n := 231) rfl ?_
                            refine G.iload C d4_231 rfl (n := 233) rfl ?_
                            refine G.icmp_gt C (A := 2) (B := 3) (by decide) (by decide) d4_233 (by decide) (by decide) (n := 236) (n' := 261) rfl (fun c233_46 => ?_) (fun c233_46 => ?_)
                            · exact absurd c233_46 (by decide)
                            refine G.aloadN C d4_236 rfl rfl (n := 237) rfl ?_
                            refine G.iload C d4_237 rfl (n := 239) rfl ?_
                            refine G.iload C d4_239 rfl (n := 241) rfl ?_
                            refine G.iadd C d4_241 (n := 242) rfl ?_
                            have x47 : ((i + (2 : Int32))).toInt = i.toInt + 2 := ixk (by decide) q_0 (by decide) (by omega)
                            have x47n : ((i + (2 : Int32))).toInt.toNat = (i.toInt + 2).toNat := congrArg Int.toNat x47
                            refine G.baload C (x := (vs.getD (i.toInt + 2).toNat 0)) O_a (by omega) (by rw [x47n]; exact getD_at (by omega)) d4_242 (n := 243) rfl ?_
                            refine G.sipush C (v := (192 : Int32)) d4_243 (by decide) (n := 246) rfl ?_
                            have RS2 := Ints_byte O_a (i := (i.toInt + 2).toNat) (by omega)
                            have US2 : ub vs (i.toInt + 2) = ((vs.getD (i.toInt + 2).toNat 0) &&& (255 : Int32)).toInt := rfl
                            refine G.iand C d4_246 (n := 247) rfl ?_
                            refine G.sipush C (v := (128 : Int32)) d4_247 (by decide) (n := 250) rfl ?_
                            refine G.icmp_eq C (A := ((vs.getD (i.toInt + 2).toNat 0) &&& (192 : Int32)).toInt) (B := 128) rfl (by decide) d4_250 (by decide) (by decide) (n := 253) (n' := 255) rfl (fun c250_48 c250_48i => ?_) (fun c250_48 c250_48i => ?_)
                            · have rs2 : (128 ≤ ub vs (i.toInt + 2) ∧ ub vs (i.toInt + 2) ≤ 191) := (a192s RS2).mp c250_48i
                              refine G.iincK C (v := (1 : Int32)) (z := (3 : Int32)) d4_255 (by decide) rfl (by decide) (l' := #[.val (.ref a), .val (.int o), .val (.int n), .val (.int v1), .val (.int i), .val (.int b6), .val (.int (3 : Int32)), .val (.int (144 : Int32)), .val (.int (191 : Int32)), .val (.int b43), .val (.int (3 : Int32))]) rfl (n := 258) rfl ?_
                              refine G.goto C d4_258 (by decide) (n := 229) (by decide) ?_
                              refine G.iload C d4_229 rfl (n := 231) rfl ?_
                              refine G.iload C d4_231 rfl (n := 233) rfl ?_
                              refine G.icmp_gt C (A := 3) (B := 3) (by decide) (by decide) d4_233 (by decide) (by decide) (n := 236) (n' := 261) rfl (fun c233_49 => ?_) (fun c233_49 => ?_)
                              · exact absurd c233_49 (by decide)
                              refine G.aloadN C d4_236 rfl rfl (n := 237) rfl ?_
                              refine G.iload C d4_237 rfl (n := 239) rfl ?_
                              refine G.iload C d4_239 rfl (n := 241) rfl ?_
                              refine G.iadd C d4_241 (n := 242) rfl ?_
                              have x50 : ((i + (3 : Int32))).toInt = i.toInt + 3 := ixk (by decide) q_0 (by decide) (by omega)
                              have x50n : ((i + (3 : Int32))).toInt.toNat = (i.toInt + 3).toNat := congrArg Int.toNat x50
                              refine G.baload C (x := (vs.getD (i.toInt + 3).toNat 0)) O_a (by omega) (by rw [x50n]; exact getD_at (by omega)) d4_242 (n := 243) rfl ?_
                              refine G.sipush C (v := (192 : Int32)) d4_243 (by decide) (n := 246) rfl ?_
                              have RS3 := Ints_byte O_a (i := (i.toInt + 3).toNat) (by omega)
                              have US3 : ub vs (i.toInt + 3) = ((vs.getD (i.toInt + 3).toNat 0) &&& (255 : Int32)).toInt := rfl
                              refine G.iand C d4_246 (n := 247) rfl ?_
                              refine G.sipush C (v := (128 : Int32)) d4_247 (by decide) (n := 250) rfl ?_
                              refine G.icmp_eq C (A := ((vs.getD (i.toInt + 3).toNat 0) &&& (192 : Int32)).toInt) (B := 128) rfl (by decide) d4_250 (by decide) (by decide) (n := 253) (n' := 255) rfl (fun c250_51 c250_51i => ?_) (fun c250_51 c250_51i => ?_)
                              · have rs3 : (128 ≤ ub vs (i.toInt + 3) ∧ ub vs (i.toInt + 3) ≤ 191) := (a192s RS3).mp c250_51i
                                refine G.iincK C (v := (1 : Int32)) (z := (4 : Int32)) d4_255 (by decide) rfl (by decide) (l' := #[.val (.ref a), .val (.int o), .val (.int n), .val (.int v1), .val (.int i), .val (.int b6), .val (.int (3 : Int32)), .val (.int (144 : Int32)), .val (.int (191 : Int32)), .val (.int b43), .val (.int (4 : Int32))]) rfl (n := 258) rfl ?_
                                refine G.goto C d4_258 (by decide) (n := 229) (by decide) ?_
                                refine G.iload C d4_229 rfl (n := 231) rfl ?_
                                refine G.iload C d4_231 rfl (n := 233) rfl ?_
                                refine G.icmp_gt C (A := 4) (B := 3) (by decide) (by decide) d4_233 (by decide) (by decide) (n := 236) (n' := 261) rfl (fun c233_52 => ?_) (fun c233_52 => ?_)
                                rotate_left
                                · exact absurd c233_52 (by decide)
                                refine G.iload C d4_261 rfl (n := 263) rfl ?_
                                refine G.iconst C (v := (1 : Int32)) d4_263 (by decide) (n := 264) rfl ?_
                                refine G.iload C d4_264 rfl (n := 266) rfl ?_
                                refine G.iadd C d4_266 (n := 267) rfl ?_
                                refine G.fold_int (z := (4 : Int32)) (by decide) ?_
                                refine G.iadd C d4_267 (n := 268) rfl ?_
                                refine G.fold_int (z := i + (4 : Int32)) rfl ?_
                                refine G.istoreZ C d4_268 (l' := fun z => #[.val (.ref a), .val (.int o), .val (.int n), .val (.int v1), .val (.int z), .val (.int b6), .val (.int (3 : Int32)), .val (.int (144 : Int32)), .val (.int (191 : Int32)), .val (.int b43), .val (.int (4 : Int32))]) (fun _ => rfl) (n := 270) rfl ?_
                                intro v53 hv53
                                refine G.goto C d4_270 (by decide) (n := 7) (by decide) ?_
                                have q_i2 : v53.toInt = i.toInt + 4 := by rw [hv53]; exact ixk (by decide) q_0 (by decide) (by omega)
                                have q_sq : sqv vs i.toInt v1.toInt = 4 := by unfold sqv; exact sq_4 (by omega) (by omega) (by omega)
                                exact ih v53 (.val (.int b6)) (.val (.int (3 : Int32))) (.val (.int (144 : Int32))) (.val (.int (191 : Int32))) (.val (.int b43)) (.val (.int (4 : Int32)))  (by omega) (by omega) (by rw [q_i2, ← q_sq]; exact wf_s q_W (by omega) (by omega)) (Or.inr ⟨_, rfl, rfl⟩) (Or.inr ⟨_, rfl, rfl⟩) (Or.inr ⟨_, rfl, rfl⟩) (Or.inr ⟨_, rfl, rfl⟩) (Or.inr ⟨_, rfl, rfl⟩) (Or.inr ⟨_, rfl, rfl⟩)
                              · have rs3 : ¬ (128 ≤ ub vs (i.toInt + 3) ∧ ub vs (i.toInt + 3) ≤ 191) := fun q => c250_51i ((a192s RS3).mpr q)
                                refine G.iconst C (v := (0 : Int32)) d4_253 (by decide) (n := 254) rfl ?_
                                refine G.ireturn C d4_254 (rfl) (by simp) (by decide) (by decide) ?_
                                exact ⟨by rw [wf_f q_W (by omega) (by unfold sqv; exact sq_04 (by omega) (by omega))]; rfl, rfl⟩
                            · have rs2 : ¬ (128 ≤ ub vs (i.toInt + 2) ∧ ub vs (i.toInt + 2) ≤ 191) := fun q => c250_48i ((a192s RS2).mpr q)
                              refine G.iconst C (v := (0 : Int32)) d4_253 (by decide) (n := 254) rfl ?_
                              refine G.ireturn C d4_254 (rfl) (by simp) (by decide) (by decide) ?_
                              exact ⟨by rw [wf_f q_W (by omega) (by unfold sqv; exact sq_04 (by omega) (by omega))]; rfl, rfl⟩
                          · refine G.iconst C (v := (0 : Int32)) d4_224 (by decide) (n := 225) rfl ?_
                            refine G.ireturn C d4_225 (rfl) (by simp) (by decide) (by decide) ?_
                            exact ⟨by rw [wf_f q_W (by omega) (by unfold sqv; exact sq_04 (by omega) (by omega))]; rfl, rfl⟩
                      · refine G.iconst C (v := (0 : Int32)) d4_196 (by decide) (n := 197) rfl ?_
                        refine G.ireturn C d4_197 (rfl) (by simp) (by decide) (by decide) ?_
                        exact ⟨by rw [wf_f q_W (by omega) (by unfold sqv; exact sq_04 (by omega) (by omega))]; rfl, rfl⟩
                    · refine G.sipush C (v := (143 : Int32)) d4_172 (by decide) (n := 175) rfl ?_
                      refine G.goto C d4_175 (by decide) (n := 180) (by decide) ?_
                      refine G.istore C d4_180 (l' := #[.val (.ref a), .val (.int o), .val (.int n), .val (.int v1), .val (.int i), .val (.int b6), .val (.int (3 : Int32)), .val (.int (144 : Int32)), .val (.int (143 : Int32)), s9, s10]) rfl (n := 182) rfl ?_
                      refine G.goto C d4_182 (by decide) (n := 187) (by decide) ?_
                      have q_rem := isubk (x := v1) (y := i) (by omega) q_0
                      refine G.iloadN C d4_187 rfl (n := 188) rfl ?_
                      refine G.iload C d4_188 rfl (n := 190) rfl ?_
                      refine G.isub C d4_190 (n := 191) rfl ?_
                      refine G.iload C d4_191 rfl (n := 193) rfl ?_
                      refine G.icmp_gt C (A := (v1 - i).toInt) (B := 3) rfl (by decide) d4_193 (by decide) (by decide) (n := 196) (n' := 198) rfl (fun c193_54 => ?_) (fun c193_54 => ?_)
                      · refine G.aloadN C d4_198 rfl rfl (n := 199) rfl ?_
                        refine G.iload C d4_199 rfl (n := 201) rfl ?_
                        refine G.iconst C (v := (1 : Int32)) d4_201 (by decide) (n := 202) rfl ?_
                        refine G.iadd C d4_202 (n := 203) rfl ?_
                        have x55 : ((i + (1 : Int32))).toInt = i.toInt + 1 := ixk (by decide) q_0 (by decide) (by omega)
                        have x55n : ((i + (1 : Int32))).toInt.toNat = (i.toInt + 1).toNat := congrArg Int.toNat x55
                        refine G.baload C (x := (vs.getD (i.toInt + 1).toNat 0)) O_a (by omega) (by rw [x55n]; exact getD_at (by omega)) d4_203 (n := 204) rfl ?_
                        refine G.sipush C (v := (255 : Int32)) d4_204 (by decide) (n := 207) rfl ?_
                        refine G.iand C d4_207 (n := 208) rfl ?_
                        refine G.name_int ?_
                        intro b56 hb56
                        have R1 : 0 ≤ b56.toInt ∧ b56.toInt ≤ 255 := by rw [hb56]; exact u255 _
                        have U1 : b56.toInt = ub vs (i.toInt + 1) := by rw [hb56]; rfl
                        refine G.istore C d4_208 (l' := #[.val (.ref a), .val (.int o), .val (.int n), .val (.int v1), .val (.int i), .val (.int b6), .val (.int (3 : Int32)), .val (.int (144 : Int32)), .val (.int (143 : Int32)), .val (.int b56), s10]) (Jvm.Free.XS.store1 rfl hs9 rfl) (n := 210) rfl ?_
                        refine G.iload C d4_210 rfl (n := 212) rfl ?_
                        refine G.iload C d4_212 rfl (n := 214) rfl ?_
                        refine G.icmp_lt C (A := b56.toInt) (B := 144) rfl (by decide) d4_214 (by decide) (by decide) (n := 217) (n' := 224) rfl (fun c214_57 => ?_) (fun c214_57 => ?_)
                        · refine G.iconst C (v := (0 : Int32)) d4_224 (by decide) (n := 225) rfl ?_
                          refine G.ireturn C d4_225 (rfl) (by simp) (by decide) (by decide) ?_
                          exact ⟨by rw [wf_f q_W (by omega) (by unfold sqv; exact sq_04 (by omega) (by omega))]; rfl, rfl⟩
                        · refine G.iload C d4_217 rfl (n := 219) rfl ?_
                          refine G.iload C d4_219 rfl (n := 221) rfl ?_
                          refine G.icmp_le C (A := b56.toInt) (B := 143) rfl (by decide) d4_221 (by decide) (by decide) (n := 224) (n' := 226) rfl (fun c221_58 => ?_) (fun c221_58 => ?_)
                          · refine G.iconst C (v := (2 : Int32)) d4_226 (by decide) (n := 227) rfl ?_
                            refine G.istore C d4_227 (l' := #[.val (.ref a), .val (.int o), .val (.int n), .val (.int v1), .val (.int i), .val (.int b6), .val (.int (3 : Int32)), .val (.int (144 : Int32)), .val (.int (143 : Int32)), .val (.int b56), .val (.int (2 : Int32))]) (Jvm.Free.XS.store1 rfl hs10 rfl) (n := 229) rfl ?_
                            refine G.iload C d4_229 rfl (n := 231) rfl ?_
                            refine G.iload C d4_231 rfl (n := 233) rfl ?_
                            refine G.icmp_gt C (A := 2) (B := 3) (by decide) (by decide) d4_233 (by decide) (by decide) (n := 236) (n' := 261) rfl (fun c233_59 => ?_) (fun c233_59 => ?_)
                            · exact absurd c233_59 (by decide)
                            refine G.aloadN C d4_236 rfl rfl (n := 237) rfl ?_
                            refine G.iload C d4_237 rfl (n := 239) rfl ?_
                            refine G.iload C d4_239 rfl (n := 241) rfl ?_
                            refine G.iadd C d4_241 (n := 242) rfl ?_
                            have x60 : ((i + (2 : Int32))).toInt = i.toInt + 2 := ixk (by decide) q_0 (by decide) (by omega)
                            have x60n : ((i + (2 : Int32))).toInt.toNat = (i.toInt + 2).toNat := congrArg Int.toNat x60
                            refine G.baload C (x := (vs.getD (i.toInt + 2).toNat 0)) O_a (by omega) (by rw [x60n]; exact getD_at (by omega)) d4_242 (n := 243) rfl ?_
                            refine G.sipush C (v := (192 : Int32)) d4_243 (by decide) (n := 246) rfl ?_
                            have RS2 := Ints_byte O_a (i := (i.toInt + 2).toNat) (by omega)
                            have US2 : ub vs (i.toInt + 2) = ((vs.getD (i.toInt + 2).toNat 0) &&& (255 : Int32)).toInt := rfl
                            refine G.iand C d4_246 (n := 247) rfl ?_
                            refine G.sipush C (v := (128 : Int32)) d4_247 (by decide) (n := 250) rfl ?_
                            refine G.icmp_eq C (A := ((vs.getD (i.toInt + 2).toNat 0) &&& (192 : Int32)).toInt) (B := 128) rfl (by decide) d4_250 (by decide) (by decide) (n := 253) (n' := 255) rfl (fun c250_61 c250_61i => ?_) (fun c250_61 c250_61i => ?_)
                            · have rs2 : (128 ≤ ub vs (i.toInt + 2) ∧ ub vs (i.toInt + 2) ≤ 191) := (a192s RS2).mp c250_61i
                              refine G.iincK C (v := (1 : Int32)) (z := (3 : Int32)) d4_255 (by decide) rfl (by decide) (l' := #[.val (.ref a), .val (.int o), .val (.int n), .val (.int v1), .val (.int i), .val (.int b6), .val (.int (3 : Int32)), .val (.int (144 : Int32)), .val (.int (143 : Int32)), .val (.int b56), .val (.int (3 : Int32))]) rfl (n := 258) rfl ?_
                              refine G.goto C d4_258 (by decide) (n := 229) (by decide) ?_
                              refine G.iload C d4_229 rfl (n := 231) rfl ?_
                              refine G.iload C d4_231 rfl (n := 233) rfl ?_
                              refine G.icmp_gt C (A := 3) (B := 3) (by decide) (by decide) d4_233 (by decide) (by decide) (n := 236) (n' := 261) rfl (fun c233_62 => ?_) (fun c233_62 => ?_)
                              · exact absurd c233_62 (by decide)
                              refine G.aloadN C d4_236 rfl rfl (n := 237) rfl ?_
                              refine G.iload C d4_237 rfl (n := 239) rfl ?_
                              refine G.iload C d4_239 rfl (n := 241) rfl ?_
                              refine G.iadd C d4_241 (n := 242) rfl ?_
                              have x63 : ((i + (3 : Int32))).toInt = i.toInt + 3 := ixk (by decide) q_0 (by decide) (by omega)
                              have x63n : ((i + (3 : Int32))).toInt.toNat = (i.toInt + 3).toNat := congrArg Int.toNat x63
                              refine G.baload C (x := (vs.getD (i.toInt + 3).toNat 0)) O_a (by omega) (by rw [x63n]; exact getD_at (by omega)) d4_242 (n := 243) rfl ?_
                              refine G.sipush C (v := (192 : Int32)) d4_243 (by decide) (n := 246) rfl ?_
                              have RS3 := Ints_byte O_a (i := (i.toInt + 3).toNat) (by omega)
                              have US3 : ub vs (i.toInt + 3) = ((vs.getD (i.toInt + 3).toNat 0) &&& (255 : Int32)).toInt := rfl
                              refine G.iand C d4_246 (n := 247) rfl ?_
                              refine G.sipush C (v := (128 : Int32)) d4_247 (by decide) (n := 250) rfl ?_
                              refine G.icmp_eq C (A := ((vs.getD (i.toInt + 3).toNat 0) &&& (192 : Int32)).toInt) (B := 128) rfl (by decide) d4_250 (by decide) (by decide) (n := 253) (n' := 255) rfl (fun c250_64 c250_64i => ?_) (fun c250_64 c250_64i => ?_)
                              · have rs3 : (128 ≤ ub vs (i.toInt + 3) ∧ ub vs (i.toInt + 3) ≤ 191) := (a192s RS3).mp c250_64i
                                refine G.iincK C (v := (1 : Int32)) (z := (4 : Int32)) d4_255 (by decide) rfl (by decide) (l' := #[.val (.ref a), .val (.int o), .val (.int n), .val (.int v1), .val (.int i), .val (.int b6), .val (.int (3 : Int32)), .val (.int (144 : Int32)), .val (.int (143 : Int32)), .val (.int b56), .val (.int (4 : Int32))]) rfl (n := 258) rfl ?_
                                refine G.goto C d4_258 (by decide) (n := 229) (by decide) ?_
                                refine G.iload C d4_229 rfl (n := 231) rfl ?_
                                refine G.iload C d4_231 rfl (n := 233) rfl ?_
                                refine G.icmp_gt C (A := 4) (B := 3) (by decide) (by decide) d4_233 (by decide) (by decide) (n := 236) (n' := 261) rfl (fun c233_65 => ?_) (fun c233_65 => ?_)
                                rotate_left
                                · exact absurd c233_65 (by decide)
                                refine G.iload C d4_261 rfl (n := 263) rfl ?_
                                refine G.iconst C (v := (1 : Int32)) d4_263 (by decide) (n := 264) rfl ?_
                                refine G.iload C d4_264 rfl (n := 266) rfl ?_
                                refine G.iadd C d4_266 (n := 267) rfl ?_
                                refine G.fold_int (z := (4 : Int32)) (by decide) ?_
                                refine G.iadd C d4_267 (n := 268) rfl ?_
                                refine G.fold_int (z := i + (4 : Int32)) rfl ?_
                                refine G.istoreZ C d4_268 (l' := fun z => #[.val (.ref a), .val (.int o), .val (.int n), .val (.int v1), .val (.int z), .val (.int b6), .val (.int (3 : Int32)), .val (.int (144 : Int32)), .val (.int (143 : Int32)), .val (.int b56), .val (.int (4 : Int32))]) (fun _ => rfl) (n := 270) rfl ?_
                                intro v66 hv66
                                refine G.goto C d4_270 (by decide) (n := 7) (by decide) ?_
                                have q_i2 : v66.toInt = i.toInt + 4 := by rw [hv66]; exact ixk (by decide) q_0 (by decide) (by omega)
                                have q_sq : sqv vs i.toInt v1.toInt = 4 := by unfold sqv; exact sq_4 (by omega) (by omega) (by omega)
                                exact ih v66 (.val (.int b6)) (.val (.int (3 : Int32))) (.val (.int (144 : Int32))) (.val (.int (143 : Int32))) (.val (.int b56)) (.val (.int (4 : Int32)))  (by omega) (by omega) (by rw [q_i2, ← q_sq]; exact wf_s q_W (by omega) (by omega)) (Or.inr ⟨_, rfl, rfl⟩) (Or.inr ⟨_, rfl, rfl⟩) (Or.inr ⟨_, rfl, rfl⟩) (Or.inr ⟨_, rfl, rfl⟩) (Or.inr ⟨_, rfl, rfl⟩) (Or.inr ⟨_, rfl, rfl⟩)
                              · have rs3 : ¬ (128 ≤ ub vs (i.toInt + 3) ∧ ub vs (i.toInt + 3) ≤ 191) := fun q => c250_64i ((a192s RS3).mpr q)
                                refine G.iconst C (v := (0 : Int32)) d4_253 (by decide) (n := 254) rfl ?_
                                refine G.ireturn C d4_254 (rfl) (by simp) (by decide) (by decide) ?_
                                exact ⟨by rw [wf_f q_W (by omega) (by unfold sqv; exact sq_04 (by omega) (by omega))]; rfl, rfl⟩
                            · have rs2 : ¬ (128 ≤ ub vs (i.toInt + 2) ∧ ub vs (i.toInt + 2) ≤ 191) := fun q => c250_61i ((a192s RS2).mpr q)
                              refine G.iconst C (v := (0 : Int32)) d4_253 (by decide) (n := 254) rfl ?_
                              refine G.ireturn C d4_254 (rfl) (by simp) (by decide) (by decide) ?_
                              exact ⟨by rw [wf_f q_W (by omega) (by unfold sqv; exact sq_04 (by omega) (by omega))]; rfl, rfl⟩
                          · refine G.iconst C (v := (0 : Int32)) d4_224 (by decide) (n := 225) rfl ?_
                            refine G.ireturn C d4_225 (rfl) (by simp) (by decide) (by decide) ?_
                            exact ⟨by rw [wf_f q_W (by omega) (by unfold sqv; exact sq_04 (by omega) (by omega))]; rfl, rfl⟩
                      · refine G.iconst C (v := (0 : Int32)) d4_196 (by decide) (n := 197) rfl ?_
                        refine G.ireturn C d4_197 (rfl) (by simp) (by decide) (by decide) ?_
                        exact ⟨by rw [wf_f q_W (by omega) (by unfold sqv; exact sq_04 (by omega) (by omega))]; rfl, rfl⟩
            · refine G.iload C d4_77 rfl (n := 79) rfl ?_
              refine G.sipush C (v := (239 : Int32)) d4_79 (by decide) (n := 82) rfl ?_
              refine G.icmp_gt C (A := b6.toInt) (B := 239) rfl (by decide) d4_82 (by decide) (by decide) (n := 85) (n' := 127) rfl (fun c82_67 => ?_) (fun c82_67 => ?_)
              · refine G.iload C d4_127 rfl (n := 129) rfl ?_
                refine G.sipush C (v := (240 : Int32)) d4_129 (by decide) (n := 132) rfl ?_
                refine G.icmp_lt C (A := b6.toInt) (B := 240) rfl (by decide) d4_132 (by decide) (by decide) (n := 135) (n' := 185) rfl (fun c132_68 => ?_) (fun c132_68 => ?_)
                · refine G.iconst C (v := (0 : Int32)) d4_185 (by decide) (n := 186) rfl ?_
                  refine G.ireturn C d4_186 (rfl) (by simp) (by decide) (by decide) ?_
                  exact ⟨by rw [wf_f q_W (by omega) (by unfold sqv; exact sq_0x (by omega) (by omega))]; rfl, rfl⟩
                · refine G.iload C d4_135 rfl (n := 137) rfl ?_
                  refine G.sipush C (v := (244 : Int32)) d4_137 (by decide) (n := 140) rfl ?_
                  refine G.icmp_gt C (A := b6.toInt) (B := 244) rfl (by decide) d4_140 (by decide) (by decide) (n := 143) (n' := 185) rfl (fun c140_69 => ?_) (fun c140_69 => ?_)
                  · refine G.iconst C (v := (0 : Int32)) d4_185 (by decide) (n := 186) rfl ?_
                    refine G.ireturn C d4_186 (rfl) (by simp) (by decide) (by decide) ?_
                    exact ⟨by rw [wf_f q_W (by omega) (by unfold sqv; exact sq_0x (by omega) (by omega))]; rfl, rfl⟩
                  · refine G.iconst C (v := (3 : Int32)) d4_143 (by decide) (n := 144) rfl ?_
                    refine G.istore C d4_144 (l' := #[.val (.ref a), .val (.int o), .val (.int n), .val (.int v1), .val (.int i), .val (.int b6), .val (.int (3 : Int32)), .val (.int (128 : Int32)), .val (.int (191 : Int32)), s9, s10]) (Jvm.Free.XS.store1 rfl hs6 rfl) (n := 146) rfl ?_
                    refine G.iload C d4_146 rfl (n := 148) rfl ?_
                    refine G.sipush C (v := (240 : Int32)) d4_148 (by decide) (n := 151) rfl ?_
                    refine G.icmp_ne C (A := b6.toInt) (B := 240) rfl (by decide) d4_151 (by decide) (by decide) (n := 154) (n' := 160) rfl (fun c151_70 c151_70i => ?_) (fun c151_70 c151_70i => ?_)
                    · refine G.iload C d4_160 rfl (n := 162) rfl ?_
                      refine G.istore C d4_162 (l' := #[.val (.ref a), .val (.int o), .val (.int n), .val (.int v1), .val (.int i), .val (.int b6), .val (.int (3 : Int32)), .val (.int (128 : Int32)), .val (.int (191 : Int32)), s9, s10]) rfl (n := 164) rfl ?_
                      refine G.iload C d4_164 rfl (n := 166) rfl ?_
                      refine G.sipush C (v := (244 : Int32)) d4_166 (by decide) (n := 169) rfl ?_
                      refine G.icmp_ne C (A := b6.toInt) (B := 244) rfl (by decide) d4_169 (by decide) (by decide) (n := 172) (n' := 178) rfl (fun c169_71 c169_71i => ?_) (fun c169_71 c169_71i => ?_)
                      · refine G.iload C d4_178 rfl (n := 180) rfl ?_
                        refine G.istore C d4_180 (l' := #[.val (.ref a), .val (.int o), .val (.int n), .val (.int v1), .val (.int i), .val (.int b6), .val (.int (3 : Int32)), .val (.int (128 : Int32)), .val (.int (191 : Int32)), s9, s10]) rfl (n := 182) rfl ?_
                        refine G.goto C d4_182 (by decide) (n := 187) (by decide) ?_
                        have q_rem := isubk (x := v1) (y := i) (by omega) q_0
                        refine G.iloadN C d4_187 rfl (n := 188) rfl ?_
                        refine G.iload C d4_188 rfl (n := 190) rfl ?_
                        refine G.isub C d4_190 (n := 191) rfl ?_
                        refine G.iload C d4_191 rfl (n := 193) rfl ?_
                        refine G.icmp_gt C (A := (v1 - i).toInt) (B := 3) rfl (by decide) d4_193 (by decide) (by decide) (n := 196) (n' := 198) rfl (fun c193_72 => ?_) (fun c193_72 => ?_)
                        · refine G.aloadN C d4_198 rfl rfl (n := 199) rfl ?_
                          refine G.iload C d4_199 rfl (n := 201) rfl ?_
                          refine G.iconst C (v := (1 : Int32)) d4_201 (by decide) (n := 202) rfl ?_
                          refine G.iadd C d4_202 (n := 203) rfl ?_
                          have x73 : ((i + (1 : Int32))).toInt = i.toInt + 1 := ixk (by decide) q_0 (by decide) (by omega)
                          have x73n : ((i + (1 : Int32))).toInt.toNat = (i.toInt + 1).toNat := congrArg Int.toNat x73
                          refine G.baload C (x := (vs.getD (i.toInt + 1).toNat 0)) O_a (by omega) (by rw [x73n]; exact getD_at (by omega)) d4_203 (n := 204) rfl ?_
                          refine G.sipush C (v := (255 : Int32)) d4_204 (by decide) (n := 207) rfl ?_
                          refine G.iand C d4_207 (n := 208) rfl ?_
                          refine G.name_int ?_
                          intro b74 hb74
                          have R1 : 0 ≤ b74.toInt ∧ b74.toInt ≤ 255 := by rw [hb74]; exact u255 _
                          have U1 : b74.toInt = ub vs (i.toInt + 1) := by rw [hb74]; rfl
                          refine G.istore C d4_208 (l' := #[.val (.ref a), .val (.int o), .val (.int n), .val (.int v1), .val (.int i), .val (.int b6), .val (.int (3 : Int32)), .val (.int (128 : Int32)), .val (.int (191 : Int32)), .val (.int b74), s10]) (Jvm.Free.XS.store1 rfl hs9 rfl) (n := 210) rfl ?_
                          refine G.iload C d4_210 rfl (n := 212) rfl ?_
                          refine G.iload C d4_212 rfl (n := 214) rfl ?_
                          refine G.icmp_lt C (A := b74.toInt) (B := 128) rfl (by decide) d4_214 (by decide) (by decide) (n := 217) (n' := 224) rfl (fun c214_75 => ?_) (fun c214_75 => ?_)
                          · refine G.iconst C (v := (0 : Int32)) d4_224 (by decide) (n := 225) rfl ?_
                            refine G.ireturn C d4_225 (rfl) (by simp) (by decide) (by decide) ?_
                            exact ⟨by rw [wf_f q_W (by omega) (by unfold sqv; exact sq_04 (by omega) (by omega))]; rfl, rfl⟩
                          · refine G.iload C d4_217 rfl (n := 219) rfl ?_
                            refine G.iload C d4_219 rfl (n := 221) rfl ?_
                            refine G.icmp_le C (A := b74.toInt) (B := 191) rfl (by decide) d4_221 (by decide) (by decide) (n := 224) (n' := 226) rfl (fun c221_76 => ?_) (fun c221_76 => ?_)
                            · refine G.iconst C (v := (2 : Int32)) d4_226 (by decide) (n := 227) rfl ?_
                              refine G.istore C d4_227 (l' := #[.val (.ref a), .val (.int o), .val (.int n), .val (.int v1), .val (.int i), .val (.int b6), .val (.int (3 : Int32)), .val (.int (128 : Int32)), .val (.int (191 : Int32)), .val (.int b74), .val (.int (2 : Int32))]) (Jvm.Free.XS.store1 rfl hs10 rfl) (n := 229) rfl ?_
                              refine G.iload C d4_229 rfl (n := 231) rfl ?_
                              refine G.iload C d4_231 rfl (n := 233) rfl ?_
                              refine G.icmp_gt C (A := 2) (B := 3) (by decide) (by decide) d4_233 (by decide) (by decide) (n := 236) (n' := 261) rfl (fun c233_77 => ?_) (fun c233_77 => ?_)
                              · exact absurd c233_77 (by decide)
                              refine G.aloadN C d4_236 rfl rfl (n := 237) rfl ?_
                              refine G.iload C d4_237 rfl (n := 239) rfl ?_
                              refine G.iload C d4_239 rfl (n := 241) rfl ?_
                              refine G.iadd C d4_241 (n := 242) rfl ?_
                              have x78 : ((i + (2 : Int32))).toInt = i.toInt + 2 := ixk (by decide) q_0 (by decide) (by omega)
                              have x78n : ((i + (2 : Int32))).toInt.toNat = (i.toInt + 2).toNat := congrArg Int.toNat x78
                              refine G.baload C (x := (vs.getD (i.toInt + 2).toNat 0)) O_a (by omega) (by rw [x78n]; exact getD_at (by omega)) d4_242 (n := 243) rfl ?_
                              refine G.sipush C (v := (192 : Int32)) d4_243 (by decide) (n := 246) rfl ?_
                              have RS2 := Ints_byte O_a (i := (i.toInt + 2).toNat) (by omega)
                              have US2 : ub vs (i.toInt + 2) = ((vs.getD (i.toInt + 2).toNat 0) &&& (255 : Int32)).toInt := rfl
                              refine G.iand C d4_246 (n := 247) rfl ?_
                              refine G.sipush C (v := (128 : Int32)) d4_247 (by decide) (n := 250) rfl ?_
                              refine G.icmp_eq C (A := ((vs.getD (i.toInt + 2).toNat 0) &&& (192 : Int32)).toInt) (B := 128) rfl (by decide) d4_250 (by decide) (by decide) (n := 253) (n' := 255) rfl (fun c250_79 c250_79i => ?_) (fun c250_79 c250_79i => ?_)
                              · have rs2 : (128 ≤ ub vs (i.toInt + 2) ∧ ub vs (i.toInt + 2) ≤ 191) := (a192s RS2).mp c250_79i
                                refine G.iincK C (v := (1 : Int32)) (z := (3 : Int32)) d4_255 (by decide) rfl (by decide) (l' := #[.val (.ref a), .val (.int o), .val (.int n), .val (.int v1), .val (.int i), .val (.int b6), .val (.int (3 : Int32)), .val (.int (128 : Int32)), .val (.int (191 : Int32)), .val (.int b74), .val (.int (3 : Int32))]) rfl (n := 258) rfl ?_
                                refine G.goto C d4_258 (by decide) (n := 229) (by decide) ?_
                                refine G.iload C d4_229 rfl (n := 231) rfl ?_
                                refine G.iload C d4_231 rfl (n := 233) rfl ?_
                                refine G.icmp_gt C (A := 3) (B := 3) (by decide) (by decide) d4_233 (by decide) (by decide) (n := 236) (n' := 261) rfl (fun c233_80 => ?_) (fun c233_80 => ?_)
                                · exact absurd c233_80 (by decide)
                                refine G.aloadN C d4_236 rfl rfl (n := 237) rfl ?_
                                refine G.iload C d4_237 rfl (n := 239) rfl ?_
                                refine G.iload C d4_239 rfl (n := 241) rfl ?_
                                refine G.iadd C d4_241 (n := 242) rfl ?_
                                have x81 : ((i + (3 : Int32))).toInt = i.toInt + 3 := ixk (by decide) q_0 (by decide) (by omega)
                                have x81n : ((i + (3 : Int32))).toInt.toNat = (i.toInt + 3).toNat := congrArg Int.toNat x81
                                refine G.baload C (x := (vs.getD (i.toInt + 3).toNat 0)) O_a (by omega) (by rw [x81n]; exact getD_at (by omega)) d4_242 (n := 243) rfl ?_
                                refine G.sipush C (v := (192 : Int32)) d4_243 (by decide) (n := 246) rfl ?_
                                have RS3 := Ints_byte O_a (i := (i.toInt + 3).toNat) (by omega)
                                have US3 : ub vs (i.toInt + 3) = ((vs.getD (i.toInt + 3).toNat 0) &&& (255 : Int32)).toInt := rfl
                                refine G.iand C d4_246 (n := 247) rfl ?_
                                refine G.sipush C (v := (128 : Int32)) d4_247 (by decide) (n := 250) rfl ?_
                                refine G.icmp_eq C (A := ((vs.getD (i.toInt + 3).toNat 0) &&& (192 : Int32)).toInt) (B := 128) rfl (by decide) d4_250 (by decide) (by decide) (n := 253) (n' := 255) rfl (fun c250_82 c250_82i => ?_) (fun c250_82 c250_82i => ?_)
                                · have rs3 : (128 ≤ ub vs (i.toInt + 3) ∧ ub vs (i.toInt + 3) ≤ 191) := (a192s RS3).mp c250_82i
                                  refine G.iincK C (v := (1 : Int32)) (z := (4 : Int32)) d4_255 (by decide) rfl (by decide) (l' := #[.val (.ref a), .val (.int o), .val (.int n), .val (.int v1), .val (.int i), .val (.int b6), .val (.int (3 : Int32)), .val (.int (128 : Int32)), .val (.int (191 : Int32)), .val (.int b74), .val (.int (4 : Int32))]) rfl (n := 258) rfl ?_
                                  refine G.goto C d4_258 (by decide) (n := 229) (by decide) ?_
                                  refine G.iload C d4_229 rfl (n := 231) rfl ?_
                                  refine G.iload C d4_231 rfl (n := 233) rfl ?_
                                  refine G.icmp_gt C (A := 4) (B := 3) (by decide) (by decide) d4_233 (by decide) (by decide) (n := 236) (n' := 261) rfl (fun c233_83 => ?_) (fun c233_83 => ?_)
                                  rotate_left
                                  · exact absurd c233_83 (by decide)
                                  refine G.iload C d4_261 rfl (n := 263) rfl ?_
                                  refine G.iconst C (v := (1 : Int32)) d4_263 (by decide) (n := 264) rfl ?_
                                  refine G.iload C d4_264 rfl (n := 266) rfl ?_
                                  refine G.iadd C d4_266 (n := 267) rfl ?_
                                  refine G.fold_int (z := (4 : Int32)) (by decide) ?_
                                  refine G.iadd C d4_267 (n := 268) rfl ?_
                                  refine G.fold_int (z := i + (4 : Int32)) rfl ?_
                                  refine G.istoreZ C d4_268 (l' := fun z => #[.val (.ref a), .val (.int o), .val (.int n), .val (.int v1), .val (.int z), .val (.int b6), .val (.int (3 : Int32)), .val (.int (128 : Int32)), .val (.int (191 : Int32)), .val (.int b74), .val (.int (4 : Int32))]) (fun _ => rfl) (n := 270) rfl ?_
                                  intro v84 hv84
                                  refine G.goto C d4_270 (by decide) (n := 7) (by decide) ?_
                                  have q_i2 : v84.toInt = i.toInt + 4 := by rw [hv84]; exact ixk (by decide) q_0 (by decide) (by omega)
                                  have q_sq : sqv vs i.toInt v1.toInt = 4 := by unfold sqv; exact sq_4 (by omega) (by omega) (by omega)
                                  exact ih v84 (.val (.int b6)) (.val (.int (3 : Int32))) (.val (.int (128 : Int32))) (.val (.int (191 : Int32))) (.val (.int b74)) (.val (.int (4 : Int32)))  (by omega) (by omega) (by rw [q_i2, ← q_sq]; exact wf_s q_W (by omega) (by omega)) (Or.inr ⟨_, rfl, rfl⟩) (Or.inr ⟨_, rfl, rfl⟩) (Or.inr ⟨_, rfl, rfl⟩) (Or.inr ⟨_, rfl, rfl⟩) (Or.inr ⟨_, rfl, rfl⟩) (Or.inr ⟨_, rfl, rfl⟩)
                                · have rs3 : ¬ (128 ≤ ub vs (i.toInt + 3) ∧ ub vs (i.toInt + 3) ≤ 191) := fun q => c250_82i ((a192s RS3).mpr q)
                                  refine G.iconst C (v := (0 : Int32)) d4_253 (by decide) (n := 254) rfl ?_
                                  refine G.ireturn C d4_254 (rfl) (by simp) (by decide) (by decide) ?_
                                  exact ⟨by rw [wf_f q_W (by omega) (by unfold sqv; exact sq_04 (by omega) (by omega))]; rfl, rfl⟩
                              · have rs2 : ¬ (128 ≤ ub vs (i.toInt + 2) ∧ ub vs (i.toInt + 2) ≤ 191) := fun q => c250_79i ((a192s RS2).mpr q)
                                refine G.iconst C (v := (0 : Int32)) d4_253 (by decide) (n := 254) rfl ?_
                                refine G.ireturn C d4_254 (rfl) (by simp) (by decide) (by decide) ?_
                                exact ⟨by rw [wf_f q_W (by omega) (by unfold sqv; exact sq_04 (by omega) (by omega))]; rfl, rfl⟩
                            · refine G.iconst C (v := (0 : Int32)) d4_224 (by decide) (n := 225) rfl ?_
                              refine G.ireturn C d4_225 (rfl) (by simp) (by decide) (by decide) ?_
                              exact ⟨by rw [wf_f q_W (by omega) (by unfold sqv; exact sq_04 (by omega) (by omega))]; rfl, rfl⟩
                        · refine G.iconst C (v := (0 : Int32)) d4_196 (by decide) (n := 197) rfl ?_
                          refine G.ireturn C d4_197 (rfl) (by simp) (by decide) (by decide) ?_
                          exact ⟨by rw [wf_f q_W (by omega) (by unfold sqv; exact sq_04 (by omega) (by omega))]; rfl, rfl⟩
                      · refine G.sipush C (v := (143 : Int32)) d4_172 (by decide) (n := 175) rfl ?_
                        refine G.goto C d4_175 (by decide) (n := 180) (by decide) ?_
                        refine G.istore C d4_180 (l' := #[.val (.ref a), .val (.int o), .val (.int n), .val (.int v1), .val (.int i), .val (.int b6), .val (.int (3 : Int32)), .val (.int (128 : Int32)), .val (.int (143 : Int32)), s9, s10]) rfl (n := 182) rfl ?_
                        refine G.goto C d4_182 (by decide) (n := 187) (by decide) ?_
                        have q_rem := isubk (x := v1) (y := i) (by omega) q_0
                        refine G.iloadN C d4_187 rfl (n := 188) rfl ?_
                        refine G.iload C d4_188 rfl (n := 190) rfl ?_
                        refine G.isub C d4_190 (n := 191) rfl ?_
                        refine G.iload C d4_191 rfl (n := 193) rfl ?_
                        refine G.icmp_gt C (A := (v1 - i).toInt) (B := 3) rfl (by decide) d4_193 (by decide) (by decide) (n := 196) (n' := 198) rfl (fun c193_85 => ?_) (fun c193_85 => ?_)
                        · refine G.aloadN C d4_198 rfl rfl (n := 199) rfl ?_
                          refine G.iload C d4_199 rfl (n := 201) rfl ?_
                          refine G.iconst C (v := (1 : Int32)) d4_201 (by decide) (n := 202) rfl ?_
                          refine G.iadd C d4_202 (n := 203) rfl ?_
                          have x86 : ((i + (1 : Int32))).toInt = i.toInt + 1 := ixk (by decide) q_0 (by decide) (by omega)
                          have x86n : ((i + (1 : Int32))).toInt.toNat = (i.toInt + 1).toNat := congrArg Int.toNat x86
                          refine G.baload C (x := (vs.getD (i.toInt + 1).toNat 0)) O_a (by omega) (by rw [x86n]; exact getD_at (by omega)) d4_203 (n := 204) rfl ?_
                          refine G.sipush C (v := (255 : Int32)) d4_204 (by decide) (n := 207) rfl ?_
                          refine G.iand C d4_207 (n := 208) rfl ?_
                          refine G.name_int ?_
                          intro b87 hb87
                          have R1 : 0 ≤ b87.toInt ∧ b87.toInt ≤ 255 := by rw [hb87]; exact u255 _
                          have U1 : b87.toInt = ub vs (i.toInt + 1) := by rw [hb87]; rfl
                          refine G.istore C d4_208 (l' := #[.val (.ref a), .val (.int o), .val (.int n), .val (.int v1), .val (.int i), .val (.int b6), .val (.int (3 : Int32)), .val (.int (128 : Int32)), .val (.int (143 : Int32)), .val (.int b87), s10]) (Jvm.Free.XS.store1 rfl hs9 rfl) (n := 210) rfl ?_
                          refine G.iload C d4_210 rfl (n := 212) rfl ?_
                          refine G.iload C d4_212 rfl (n := 214) rfl ?_
                          refine G.icmp_lt C (A := b87.toInt) (B := 128) rfl (by decide) d4_214 (by decide) (by decide) (n := 217) (n' := 224) rfl (fun c214_88 => ?_) (fun c214_88 => ?_)
                          · refine G.iconst C (v := (0 : Int32)) d4_224 (by decide) (n := 225) rfl ?_
                            refine G.ireturn C d4_225 (rfl) (by simp) (by decide) (by decide) ?_
                            exact ⟨by rw [wf_f q_W (by omega) (by unfold sqv; exact sq_04 (by omega) (by omega))]; rfl, rfl⟩
                          · refine G.iload C d4_217 rfl (n := 219) rfl ?_
                            refine G.iload C d4_219 rfl (n := 221) rfl ?_
                            refine G.icmp_le C (A := b87.toInt) (B := 143) rfl (by decide) d4_221 (by decide) (by decide) (n := 224) (n' := 226) rfl (fun c221_89 => ?_) (fun c221_89 => ?_)
                            · refine G.iconst C (v := (2 : Int32)) d4_226 (by decide) (n := 227) rfl ?_
                              refine G.istore C d4_227 (l' := #[.val (.ref a), .val (.int o), .val (.int n), .val (.int v1), .val (.int i), .val (.int b6), .val (.int (3 : Int32)), .val (.int (128 : Int32)), .val (.int (143 : Int32)), .val (.int b87), .val (.int (2 : Int32))]) (Jvm.Free.XS.store1 rfl hs10 rfl) (n := 229) rfl ?_
                              refine G.iload C d4_229 rfl (n := 231) rfl ?_
                              refine G.iload C d4_231 rfl (n := 233) rfl ?_
                              refine G.icmp_gt C (A := 2) (B := 3) (by decide) (by decide) d4_233 (by decide) (by decide) (n := 236) (n' := 261) rfl (fun c233_90 => ?_) (fun c233_90 => ?_)
                              · exact absurd c233_90 (by decide)
                              refine G.aloadN C d4_236 rfl rfl (n := 237) rfl ?_
                              refine G.iload C d4_237 rfl (n := 239) rfl ?_
                              refine G.iload C d4_239 rfl (n := 241) rfl ?_
                              refine G.iadd C d4_241 (n := 242) rfl ?_
                              have x91 : ((i + (2 : Int32))).toInt = i.toInt + 2 := ixk (by decide) q_0 (by decide) (by omega)
                              have x91n : ((i + (2 : Int32))).toInt.toNat = (i.toInt + 2).toNat := congrArg Int.toNat x91
                              refine G.baload C (x := (vs.getD (i.toInt + 2).toNat 0)) O_a (by omega) (by rw [x91n]; exact getD_at (by omega)) d4_242 (n := 243) rfl ?_
                              refine G.sipush C (v := (192 : Int32)) d4_243 (by decide) (n := 246) rfl ?_
                              have RS2 := Ints_byte O_a (i := (i.toInt + 2).toNat) (by omega)
                              have US2 : ub vs (i.toInt + 2) = ((vs.getD (i.toInt + 2).toNat 0) &&& (255 : Int32)).toInt := rfl
                              refine G.iand C d4_246 (n := 247) rfl ?_
                              refine G.sipush C (v := (128 : Int32)) d4_247 (by decide) (n := 250) rfl ?_
                              refine G.icmp_eq C (A := ((vs.getD (i.toInt + 2).toNat 0) &&& (192 : Int32)).toInt) (B := 128) rfl (by decide) d4_250 (by decide) (by decide) (n := 253) (n' := 255) rfl (fun c250_92 c250_92i => ?_) (fun c250_92 c250_92i => ?_)
                              · have rs2 : (128 ≤ ub vs (i.toInt + 2) ∧ ub vs (i.toInt + 2) ≤ 191) := (a192s RS2).mp c250_92i
                                refine G.iincK C (v := (1 : Int32)) (z := (3 : Int32)) d4_255 (by decide) rfl (by decide) (l' := #[.val (.ref a), .val (.int o), .val (.int n), .val (.int v1), .val (.int i), .val (.int b6), .val (.int (3 : Int32)), .val (.int (128 : Int32)), .val (.int (143 : Int32)), .val (.int b87), .val (.int (3 : Int32))]) rfl (n := 258) rfl ?_
                                refine G.goto C d4_258 (by decide) (n := 229) (by decide) ?_
                                refine G.iload C d4_229 rfl (n := 231) rfl ?_
                                refine G.iload C d4_231 rfl (n := 233) rfl ?_
                                refine G.icmp_gt C (A := 3) (B := 3) (by decide) (by decide) d4_233 (by decide) (by decide) (n := 236) (n' := 261) rfl (fun c233_93 => ?_) (fun c233_93 => ?_)
                                · exact absurd c233_93 (by decide)
                                refine G.aloadN C d4_236 rfl rfl (n := 237) rfl ?_
                                refine G.iload C d4_237 rfl (n := 239) rfl ?_
                                refine G.iload C d4_239 rfl (n := 241) rfl ?_
                                refine G.iadd C d4_241 (n := 242) rfl ?_
                                have x94 : ((i + (3 : Int32))).toInt = i.toInt + 3 := ixk (by decide) q_0 (by decide) (by omega)
                                have x94n : ((i + (3 : Int32))).toInt.toNat = (i.toInt + 3).toNat := congrArg Int.toNat x94
                                refine G.baload C (x := (vs.getD (i.toInt + 3).toNat 0)) O_a (by omega) (by rw [x94n]; exact getD_at (by omega)) d4_242 (n := 243) rfl ?_
                                refine G.sipush C (v := (192 : Int32)) d4_243 (by decide) (n := 246) rfl ?_
                                have RS3 := Ints_byte O_a (i := (i.toInt + 3).toNat) (by omega)
                                have US3 : ub vs (i.toInt + 3) = ((vs.getD (i.toInt + 3).toNat 0) &&& (255 : Int32)).toInt := rfl
                                refine G.iand C d4_246 (n := 247) rfl ?_
                                refine G.sipush C (v := (128 : Int32)) d4_247 (by decide) (n := 250) rfl ?_
                                refine G.icmp_eq C (A := ((vs.getD (i.toInt + 3).toNat 0) &&& (192 : Int32)).toInt) (B := 128) rfl (by decide) d4_250 (by decide) (by decide) (n := 253) (n' := 255) rfl (fun c250_95 c250_95i => ?_) (fun c250_95 c250_95i => ?_)
                                · have rs3 : (128 ≤ ub vs (i.toInt + 3) ∧ ub vs (i.toInt + 3) ≤ 191) := (a192s RS3).mp c250_95i
                                  refine G.iincK C (v := (1 : Int32)) (z := (4 : Int32)) d4_255 (by decide) rfl (by decide) (l' := #[.val (.ref a), .val (.int o), .val (.int n), .val (.int v1), .val (.int i), .val (.int b6), .val (.int (3 : Int32)), .val (.int (128 : Int32)), .val (.int (143 : Int32)), .val (.int b87), .val (.int (4 : Int32))]) rfl (n := 258) rfl ?_
                                  refine G.goto C d4_258 (by decide) (n := 229) (by decide) ?_
                                  refine G.iload C d4_229 rfl (n := 231) rfl ?_
                                  refine G.iload C d4_231 rfl (n := 233) rfl ?_
                                  refine G.icmp_gt C (A := 4) (B := 3) (by decide) (by decide) d4_233 (by decide) (by decide) (n := 236) (n' := 261) rfl (fun c233_96 => ?_) (fun c233_96 => ?_)
                                  rotate_left
                                  · exact absurd c233_96 (by decide)
                                  refine G.iload C d4_261 rfl (n := 263) rfl ?_
                                  refine G.iconst C (v := (1 : Int32)) d4_263 (by decide) (n := 264) rfl ?_
                                  refine G.iload C d4_264 rfl (n := 266) rfl ?_
                                  refine G.iadd C d4_266 (n := 267) rfl ?_
                                  refine G.fold_int (z := (4 : Int32)) (by decide) ?_
                                  refine G.iadd C d4_267 (n := 268) rfl ?_
                                  refine G.fold_int (z := i + (4 : Int32)) rfl ?_
                                  refine G.istoreZ C d4_268 (l' := fun z => #[.val (.ref a), .val (.int o), .val (.int n), .val (.int v1), .val (.int z), .val (.int b6), .val (.int (3 : Int32)), .val (.int (128 : Int32)), .val (.int (143 : Int32)), .val (.int b87), .val (.int (4 : Int32))]) (fun _ => rfl) (n := 270) rfl ?_
                                  intro v97 hv97
                                  refine G.goto C d4_270 (by decide) (n := 7) (by decide) ?_
                                  have q_i2 : v97.toInt = i.toInt + 4 := by rw [hv97]; exact ixk (by decide) q_0 (by decide) (by omega)
                                  have q_sq : sqv vs i.toInt v1.toInt = 4 := by unfold sqv; exact sq_4 (by omega) (by omega) (by omega)
                                  exact ih v97 (.val (.int b6)) (.val (.int (3 : Int32))) (.val (.int (128 : Int32))) (.val (.int (143 : Int32))) (.val (.int b87)) (.val (.int (4 : Int32)))  (by omega) (by omega) (by rw [q_i2, ← q_sq]; exact wf_s q_W (by omega) (by omega)) (Or.inr ⟨_, rfl, rfl⟩) (Or.inr ⟨_, rfl, rfl⟩) (Or.inr ⟨_, rfl, rfl⟩) (Or.inr ⟨_, rfl, rfl⟩) (Or.inr ⟨_, rfl, rfl⟩) (Or.inr ⟨_, rfl, rfl⟩)
                                · have rs3 : ¬ (128 ≤ ub vs (i.toInt + 3) ∧ ub vs (i.toInt + 3) ≤ 191) := fun q => c250_95i ((a192s RS3).mpr q)
                                  refine G.iconst C (v := (0 : Int32)) d4_253 (by decide) (n := 254) rfl ?_
                                  refine G.ireturn C d4_254 (rfl) (by simp) (by decide) (by decide) ?_
                                  exact ⟨by rw [wf_f q_W (by omega) (by unfold sqv; exact sq_04 (by omega) (by omega))]; rfl, rfl⟩
                              · have rs2 : ¬ (128 ≤ ub vs (i.toInt + 2) ∧ ub vs (i.toInt + 2) ≤ 191) := fun q => c250_92i ((a192s RS2).mpr q)
                                refine G.iconst C (v := (0 : Int32)) d4_253 (by decide) (n := 254) rfl ?_
                                refine G.ireturn C d4_254 (rfl) (by simp) (by decide) (by decide) ?_
                                exact ⟨by rw [wf_f q_W (by omega) (by unfold sqv; exact sq_04 (by omega) (by omega))]; rfl, rfl⟩
                            · refine G.iconst C (v := (0 : Int32)) d4_224 (by decide) (n := 225) rfl ?_
                              refine G.ireturn C d4_225 (rfl) (by simp) (by decide) (by decide) ?_
                              exact ⟨by rw [wf_f q_W (by omega) (by unfold sqv; exact sq_04 (by omega) (by omega))]; rfl, rfl⟩
                        · refine G.iconst C (v := (0 : Int32)) d4_196 (by decide) (n := 197) rfl ?_
                          refine G.ireturn C d4_197 (rfl) (by simp) (by decide) (by decide) ?_
                          exact ⟨by rw [wf_f q_W (by omega) (by unfold sqv; exact sq_04 (by omega) (by omega))]; rfl, rfl⟩
                    · refine G.sipush C (v := (144 : Int32)) d4_154 (by decide) (n := 157) rfl ?_
                      refine G.goto C d4_157 (by decide) (n := 162) (by decide) ?_
                      refine G.istore C d4_162 (l' := #[.val (.ref a), .val (.int o), .val (.int n), .val (.int v1), .val (.int i), .val (.int b6), .val (.int (3 : Int32)), .val (.int (144 : Int32)), .val (.int (191 : Int32)), s9, s10]) rfl (n := 164) rfl ?_
                      refine G.iload C d4_164 rfl (n := 166) rfl ?_
                      refine G.sipush C (v := (244 : Int32)) d4_166 (by decide) (n := 169) rfl ?_
                      refine G.icmp_ne C (A := b6.toInt) (B := 244) rfl (by decide) d4_169 (by decide) (by decide) (n := 172) (n' := 178) rfl (fun c169_98 c169_98i => ?_) (fun c169_98 c169_98i => ?_)
                      · refine G.iload C d4_178 rfl (n := 180) rfl ?_
                        refine G.istore C d4_180 (l' := #[.val (.ref a), .val (.int o), .val (.int n), .val (.int v1), .val (.int i), .val (.int b6), .val (.int (3 : Int32)), .val (.int (144 : Int32)), .val (.int (191 : Int32)), s9, s10]) rfl (n := 182) rfl ?_
                        refine G.goto C d4_182 (by decide) (n := 187) (by decide) ?_
                        have q_rem := isubk (x := v1) (y := i) (by omega) q_0
                        refine G.iloadN C d4_187 rfl (n := 188) rfl ?_
                        refine G.iload C d4_188 rfl (n := 190) rfl ?_
                        refine G.isub C d4_190 (n := 191) rfl ?_
                        refine G.iload C d4_191 rfl (n := 193) rfl ?_
                        refine G.icmp_gt C (A := (v1 - i).toInt) (B := 3) rfl (by decide) d4_193 (by decide) (by decide) (n := 196) (n' := 198) rfl (fun c193_99 => ?_) (fun c193_99 => ?_)
                        · refine G.aloadN C d4_198 rfl rfl (n := 199) rfl ?_
                          refine G.iload C d4_199 rfl (n := 201) rfl ?_
                          refine G.iconst C (v := (1 : Int32)) d4_201 (by decide) (n := 202) rfl ?_
                          refine G.iadd C d4_202 (n := 203) rfl ?_
                          have x100 : ((i + (1 : Int32))).toInt = i.toInt + 1 := ixk (by decide) q_0 (by decide) (by omega)
                          have x100n : ((i + (1 : Int32))).toInt.toNat = (i.toInt + 1).toNat := congrArg Int.toNat x100
                          refine G.baload C (x := (vs.getD (i.toInt + 1).toNat 0)) O_a (by omega) (by rw [x100n]; exact getD_at (by omega)) d4_203 (n := 204) rfl ?_
                          refine G.sipush C (v := (255 : Int32)) d4_204 (by decide) (n := 207) rfl ?_
                          refine G.iand C d4_207 (n := 208) rfl ?_
                          refine G.name_int ?_
                          intro b101 hb101
                          have R1 : 0 ≤ b101.toInt ∧ b101.toInt ≤ 255 := by rw [hb101]; exact u255 _
                          have U1 : b101.toInt = ub vs (i.toInt + 1) := by rw [hb101]; rfl
                          refine G.istore C d4_208 (l' := #[.val (.ref a), .val (.int o), .val (.int n), .val (.int v1), .val (.int i), .val (.int b6), .val (.int (3 : Int32)), .val (.int (144 : Int32)), .val (.int (191 : Int32)), .val (.int b101), s10]) (Jvm.Free.XS.store1 rfl hs9 rfl) (n := 210) rfl ?_
                          refine G.iload C d4_210 rfl (n := 212) rfl ?_
                          refine G.iload C d4_212 rfl (n := 214) rfl ?_
                          refine G.icmp_lt C (A := b101.toInt) (B := 144) rfl (by decide) d4_214 (by decide) (by decide) (n := 217) (n' := 224) rfl (fun c214_102 => ?_) (fun c214_102 => ?_)
                          · refine G.iconst C (v := (0 : Int32)) d4_224 (by decide) (n := 225) rfl ?_
                            refine G.ireturn C d4_225 (rfl) (by simp) (by decide) (by decide) ?_
                            exact ⟨by rw [wf_f q_W (by omega) (by unfold sqv; exact sq_04 (by omega) (by omega))]; rfl, rfl⟩
                          · refine G.iload C d4_217 rfl (n := 219) rfl ?_
                            refine G.iload C d4_219 rfl (n := 221) rfl ?_
                            refine G.icmp_le C (A := b101.toInt) (B := 191) rfl (by decide) d4_221 (by decide) (by decide) (n := 224) (n' := 226) rfl (fun c221_103 => ?_) (fun c221_103 => ?_)
                            · refine G.iconst C (v := (2 : Int32)) d4_226 (by decide) (n := 227) rfl ?_
                              refine G.istore C d4_227 (l' := #[.val (.ref a), .val (.int o), .val (.int n), .val (.int v1), .val (.int i), .val (.int b6), .val (.int (3 : Int32)), .val (.int (144 : Int32)), .val (.int (191 : Int32)), .val (.int b101), .val (.int (2 : Int32))]) (Jvm.Free.XS.store1 rfl hs10 rfl) (n := 229) rfl ?_
                              refine G.iload C d4_229 rfl (n := 231) rfl ?_
                              refine G.iload C d4_231 rfl (n := 233) rfl ?_
                              refine G.icmp_gt C (A := 2) (B := 3) (by decide) (by decide) d4_233 (by decide) (by decide) (n := 236) (n' := 261) rfl (fun c233_104 => ?_) (fun c233_104 => ?_)
                              · exact absurd c233_104 (by decide)
                              refine G.aloadN C d4_236 rfl rfl (n := 237) rfl ?_
                              refine G.iload C d4_237 rfl (n := 239) rfl ?_
                              refine G.iload C d4_239 rfl (n := 241) rfl ?_
                              refine G.iadd C d4_241 (n := 242) rfl ?_
                              have x105 : ((i + (2 : Int32))).toInt = i.toInt + 2 := ixk (by decide) q_0 (by decide) (by omega)
                              have x105n : ((i + (2 : Int32))).toInt.toNat = (i.toInt + 2).toNat := congrArg Int.toNat x105
                              refine G.baload C (x := (vs.getD (i.toInt + 2).toNat 0)) O_a (by omega) (by rw [x105n]; exact getD_at (by omega)) d4_242 (n := 243) rfl ?_
                              refine G.sipush C (v := (192 : Int32)) d4_243 (by decide) (n := 246) rfl ?_
                              have RS2 := Ints_byte O_a (i := (i.toInt + 2).toNat) (by omega)
                              have US2 : ub vs (i.toInt + 2) = ((vs.getD (i.toInt + 2).toNat 0) &&& (255 : Int32)).toInt := rfl
                              refine G.iand C d4_246 (n := 247) rfl ?_
                              refine G.sipush C (v := (128 : Int32)) d4_247 (by decide) (n := 250) rfl ?_
                              refine G.icmp_eq C (A := ((vs.getD (i.toInt + 2).toNat 0) &&& (192 : Int32)).toInt) (B := 128) rfl (by decide) d4_250 (by decide) (by decide) (n := 253) (n' := 255) rfl (fun c250_106 c250_106i => ?_) (fun c250_106 c250_106i => ?_)
                              · have rs2 : (128 ≤ ub vs (i.toInt + 2) ∧ ub vs (i.toInt + 2) ≤ 191) := (a192s RS2).mp c250_106i
                                refine G.iincK C (v := (1 : Int32)) (z := (3 : Int32)) d4_255 (by decide) rfl (by decide) (l' := #[.val (.ref a), .val (.int o), .val (.int n), .val (.int v1), .val (.int i), .val (.int b6), .val (.int (3 : Int32)), .val (.int (144 : Int32)), .val (.int (191 : Int32)), .val (.int b101), .val (.int (3 : Int32))]) rfl (n := 258) rfl ?_
                                refine G.goto C d4_258 (by decide) (n := 229) (by decide) ?_
                                refine G.iload C d4_229 rfl (n := 231) rfl ?_
                                refine G.iload C d4_231 rfl (n := 233) rfl ?_
                                refine G.icmp_gt C (A := 3) (B := 3) (by decide) (by decide) d4_233 (by decide) (by decide) (n := 236) (n' := 261) rfl (fun c233_107 => ?_) (fun c233_107 => ?_)
                                · exact absurd c233_107 (by decide)
                                refine G.aloadN C d4_236 rfl rfl (n := 237) rfl ?_
                                refine G.iload C d4_237 rfl (n := 239) rfl ?_
                                refine G.iload C d4_239 rfl (n := 241) rfl ?_
                                refine G.iadd C d4_241 (n := 242) rfl ?_
                                have x108 : ((i + (3 : Int32))).toInt = i.toInt + 3 := ixk (by decide) q_0 (by decide) (by omega)
                                have x108n : ((i + (3 : Int32))).toInt.toNat = (i.toInt + 3).toNat := congrArg Int.toNat x108
                                refine G.baload C (x := (vs.getD (i.toInt + 3).toNat 0)) O_a (by omega) (by rw [x108n]; exact getD_at (by omega)) d4_242 (n := 243) rfl ?_
                                refine G.sipush C (v := (192 : Int32)) d4_243 (by decide) (n := 246) rfl ?_
                                have RS3 := Ints_byte O_a (i := (i.toInt + 3).toNat) (by omega)
                                have US3 : ub vs (i.toInt + 3) = ((vs.getD (i.toInt + 3).toNat 0) &&& (255 : Int32)).toInt := rfl
                                refine G.iand C d4_246 (n := 247) rfl ?_
                                refine G.sipush C (v := (128 : Int32)) d4_247 (by decide) (n := 250) rfl ?_
                                refine G.icmp_eq C (A := ((vs.getD (i.toInt + 3).toNat 0) &&& (192 : Int32)).toInt) (B := 128) rfl (by decide) d4_250 (by decide) (by decide) (n := 253) (n' := 255) rfl (fun c250_109 c250_109i => ?_) (fun c250_109 c250_109i => ?_)
                                · have rs3 : (128 ≤ ub vs (i.toInt + 3) ∧ ub vs (i.toInt + 3) ≤ 191) := (a192s RS3).mp c250_109i
                                  refine G.iincK C (v := (1 : Int32)) (z := (4 : Int32)) d4_255 (by decide) rfl (by decide) (l' := #[.val (.ref a), .val (.int o), .val (.int n), .val (.int v1), .val (.int i), .val (.int b6), .val (.int (3 : Int32)), .val (.int (144 : Int32)), .val (.int (191 : Int32)), .val (.int b101), .val (.int (4 : Int32))]) rfl (n := 258) rfl ?_
                                  refine G.goto C d4_258 (by decide) (n := 229) (by decide) ?_
                                  refine G.iload C d4_229 rfl (n := 231) rfl ?_
                                  refine G.iload C d4_231 rfl (n := 233) rfl ?_
                                  refine G.icmp_gt C (A := 4) (B := 3) (by decide) (by decide) d4_233 (by decide) (by decide) (n := 236) (n' := 261) rfl (fun c233_110 => ?_) (fun c233_110 => ?_)
                                  rotate_left
                                  · exact absurd c233_110 (by decide)
                                  refine G.iload C d4_261 rfl (n := 263) rfl ?_
                                  refine G.iconst C (v := (1 : Int32)) d4_263 (by decide) (n := 264) rfl ?_
                                  refine G.iload C d4_264 rfl (n := 266) rfl ?_
                                  refine G.iadd C d4_266 (n := 267) rfl ?_
                                  refine G.fold_int (z := (4 : Int32)) (by decide) ?_
                                  refine G.iadd C d4_267 (n := 268) rfl ?_
                                  refine G.fold_int (z := i + (4 : Int32)) rfl ?_
                                  refine G.istoreZ C d4_268 (l' := fun z => #[.val (.ref a), .val (.int o), .val (.int n), .val (.int v1), .val (.int z), .val (.int b6), .val (.int (3 : Int32)), .val (.int (144 : Int32)), .val (.int (191 : Int32)), .val (.int b101), .val (.int (4 : Int32))]) (fun _ => rfl) (n := 270) rfl ?_
                                  intro v111 hv111
                                  refine G.goto C d4_270 (by decide) (n := 7) (by decide) ?_
                                  have q_i2 : v111.toInt = i.toInt + 4 := by rw [hv111]; exact ixk (by decide) q_0 (by decide) (by omega)
                                  have q_sq : sqv vs i.toInt v1.toInt = 4 := by unfold sqv; exact sq_4 (by omega) (by omega) (by omega)
                                  exact ih v111 (.val (.int b6)) (.val (.int (3 : Int32))) (.val (.int (144 : Int32))) (.val (.int (191 : Int32))) (.val (.int b101)) (.val (.int (4 : Int32)))  (by omega) (by omega) (by rw [q_i2, ← q_sq]; exact wf_s q_W (by omega) (by omega)) (Or.inr ⟨_, rfl, rfl⟩) (Or.inr ⟨_, rfl, rfl⟩) (Or.inr ⟨_, rfl, rfl⟩) (Or.inr ⟨_, rfl, rfl⟩) (Or.inr ⟨_, rfl, rfl⟩) (Or.inr ⟨_, rfl, rfl⟩)
                                · have rs3 : ¬ (128 ≤ ub vs (i.toInt + 3) ∧ ub vs (i.toInt + 3) ≤ 191) := fun q => c250_109i ((a192s RS3).mpr q)
                                  refine G.iconst C (v := (0 : Int32)) d4_253 (by decide) (n := 254) rfl ?_
                                  refine G.ireturn C d4_254 (rfl) (by simp) (by decide) (by decide) ?_
                                  exact ⟨by rw [wf_f q_W (by omega) (by unfold sqv; exact sq_04 (by omega) (by omega))]; rfl, rfl⟩
                              · have rs2 : ¬ (128 ≤ ub vs (i.toInt + 2) ∧ ub vs (i.toInt + 2) ≤ 191) := fun q => c250_106i ((a192s RS2).mpr q)
                                refine G.iconst C (v := (0 : Int32)) d4_253 (by decide) (n := 254) rfl ?_
                                refine G.ireturn C d4_254 (rfl) (by simp) (by decide) (by decide) ?_
                                exact ⟨by rw [wf_f q_W (by omega) (by unfold sqv; exact sq_04 (by omega) (by omega))]; rfl, rfl⟩
                            · refine G.iconst C (v := (0 : Int32)) d4_224 (by decide) (n := 225) rfl ?_
                              refine G.ireturn C d4_225 (rfl) (by simp) (by decide) (by decide) ?_
                              exact ⟨by rw [wf_f q_W (by omega) (by unfold sqv; exact sq_04 (by omega) (by omega))]; rfl, rfl⟩
                        · refine G.iconst C (v := (0 : Int32)) d4_196 (by decide) (n := 197) rfl ?_
                          refine G.ireturn C d4_197 (rfl) (by simp) (by decide) (by decide) ?_
                          exact ⟨by rw [wf_f q_W (by omega) (by unfold sqv; exact sq_04 (by omega) (by omega))]; rfl, rfl⟩
                      · refine G.sipush C (v := (143 : Int32)) d4_172 (by decide) (n := 175) rfl ?_
                        refine G.goto C d4_175 (by decide) (n := 180) (by decide) ?_
                        refine G.istore C d4_180 (l' := #[.val (.ref a), .val (.int o), .val (.int n), .val (.int v1), .val (.int i), .val (.int b6), .val (.int (3 : Int32)), .val (.int (144 : Int32)), .val (.int (143 : Int32)), s9, s10]) rfl (n := 182) rfl ?_
                        refine G.goto C d4_182 (by decide) (n := 187) (by decide) ?_
                        have q_rem := isubk (x := v1) (y := i) (by omega) q_0
                        refine G.iloadN C d4_187 rfl (n := 188) rfl ?_
                        refine G.iload C d4_188 rfl (n := 190) rfl ?_
                        refine G.isub C d4_190 (n := 191) rfl ?_
                        refine G.iload C d4_191 rfl (n := 193) rfl ?_
                        refine G.icmp_gt C (A := (v1 - i).toInt) (B := 3) rfl (by decide) d4_193 (by decide) (by decide) (n := 196) (n' := 198) rfl (fun c193_112 => ?_) (fun c193_112 => ?_)
                        · refine G.aloadN C d4_198 rfl rfl (n := 199) rfl ?_
                          refine G.iload C d4_199 rfl (n := 201) rfl ?_
                          refine G.iconst C (v := (1 : Int32)) d4_201 (by decide) (n := 202) rfl ?_
                          refine G.iadd C d4_202 (n := 203) rfl ?_
                          have x113 : ((i + (1 : Int32))).toInt = i.toInt + 1 := ixk (by decide) q_0 (by decide) (by omega)
                          have x113n : ((i + (1 : Int32))).toInt.toNat = (i.toInt + 1).toNat := congrArg Int.toNat x113
                          refine G.baload C (x := (vs.getD (i.toInt + 1).toNat 0)) O_a (by omega) (by rw [x113n]; exact getD_at (by omega)) d4_203 (n := 204) rfl ?_
                          refine G.sipush C (v := (255 : Int32)) d4_204 (by decide) (n := 207) rfl ?_
                          refine G.iand C d4_207 (n := 208) rfl ?_
                          refine G.name_int ?_
                          intro b114 hb114
                          have R1 : 0 ≤ b114.toInt ∧ b114.toInt ≤ 255 := by rw [hb114]; exact u255 _
                          have U1 : b114.toInt = ub vs (i.toInt + 1) := by rw [hb114]; rfl
                          refine G.istore C d4_208 (l' := #[.val (.ref a), .val (.int o), .val (.int n), .val (.int v1), .val (.int i), .val (.int b6), .val (.int (3 : Int32)), .val (.int (144 : Int32)), .val (.int (143 : Int32)), .val (.int b114), s10]) (Jvm.Free.XS.store1 rfl hs9 rfl) (n := 210) rfl ?_
                          refine G.iload C d4_210 rfl (n := 212) rfl ?_
                          refine G.iload C d4_212 rfl (n := 214) rfl ?_
                          refine G.icmp_lt C (A := b114.toInt) (B := 144) rfl (by decide) d4_214 (by decide) (by decide) (n := 217) (n' := 224) rfl (fun c214_115 => ?_) (fun c214_115 => ?_)
                          · refine G.iconst C (v := (0 : Int32)) d4_224 (by decide) (n := 225) rfl ?_
                            refine G.ireturn C d4_225 (rfl) (by simp) (by decide) (by decide) ?_
                            exact ⟨by rw [wf_f q_W (by omega) (by unfold sqv; exact sq_04 (by omega) (by omega))]; rfl, rfl⟩
                          · refine G.iload C d4_217 rfl (n := 219) rfl ?_
                            refine G.iload C d4_219 rfl (n := 221) rfl ?_
                            refine G.icmp_le C (A := b114.toInt) (B := 143) rfl (by decide) d4_221 (by decide) (by decide) (n := 224) (n' := 226) rfl (fun c221_116 => ?_) (fun c221_116 => ?_)
                            · refine G.iconst C (v := (2 : Int32)) d4_226 (by decide) (n := 227) rfl ?_
                              refine G.istore C d4_227 (l' := #[.val (.ref a), .val (.int o), .val (.int n), .val (.int v1), .val (.int i), .val (.int b6), .val (.int (3 : Int32)), .val (.int (144 : Int32)), .val (.int (143 : Int32)), .val (.int b114), .val (.int (2 : Int32))]) (Jvm.Free.XS.store1 rfl hs10 rfl) (n := 229) rfl ?_
                              refine G.iload C d4_229 rfl (n := 231) rfl ?_
                              refine G.iload C d4_231 rfl (n := 233) rfl ?_
                              refine G.icmp_gt C (A := 2) (B := 3) (by decide) (by decide) d4_233 (by decide) (by decide) (n := 236) (n' := 261) rfl (fun c233_117 => ?_) (fun c233_117 => ?_)
                              · exact absurd c233_117 (by decide)
                              refine G.aloadN C d4_236 rfl rfl (n := 237) rfl ?_
                              refine G.iload C d4_237 rfl (n := 239) rfl ?_
                              refine G.iload C d4_239 rfl (n := 241) rfl ?_
                              refine G.iadd C d4_241 (n := 242) rfl ?_
                              have x118 : ((i + (2 : Int32))).toInt = i.toInt + 2 := ixk (by decide) q_0 (by decide) (by omega)
                              have x118n : ((i + (2 : Int32))).toInt.toNat = (i.toInt + 2).toNat := congrArg Int.toNat x118
                              refine G.baload C (x := (vs.getD (i.toInt + 2).toNat 0)) O_a (by omega) (by rw [x118n]; exact getD_at (by omega)) d4_242 (n := 243) rfl ?_
                              refine G.sipush C (v := (192 : Int32)) d4_243 (by decide) (n := 246) rfl ?_
                              have RS2 := Ints_byte O_a (i := (i.toInt + 2).toNat) (by omega)
                              have US2 : ub vs (i.toInt + 2) = ((vs.getD (i.toInt + 2).toNat 0) &&& (255 : Int32)).toInt := rfl
                              refine G.iand C d4_246 (n := 247) rfl ?_
                              refine G.sipush C (v := (128 : Int32)) d4_247 (by decide) (n := 250) rfl ?_
                              refine G.icmp_eq C (A := ((vs.getD (i.toInt + 2).toNat 0) &&& (192 : Int32)).toInt) (B := 128) rfl (by decide) d4_250 (by decide) (by decide) (n := 253) (n' := 255) rfl (fun c250_119 c250_119i => ?_) (fun c250_119 c250_119i => ?_)
                              · have rs2 : (128 ≤ ub vs (i.toInt + 2) ∧ ub vs (i.toInt + 2) ≤ 191) := (a192s RS2).mp c250_119i
                                refine G.iincK C (v := (1 : Int32)) (z := (3 : Int32)) d4_255 (by decide) rfl (by decide) (l' := #[.val (.ref a), .val (.int o), .val (.int n), .val (.int v1), .val (.int i), .val (.int b6), .val (.int (3 : Int32)), .val (.int (144 : Int32)), .val (.int (143 : Int32)), .val (.int b114), .val (.int (3 : Int32))]) rfl (n := 258) rfl ?_
                                refine G.goto C d4_258 (by decide) (n := 229) (by decide) ?_
                                refine G.iload C d4_229 rfl (n := 231) rfl ?_
                                refine G.iload C d4_231 rfl (n := 233) rfl ?_
                                refine G.icmp_gt C (A := 3) (B := 3) (by decide) (by decide) d4_233 (by decide) (by decide) (n := 236) (n' := 261) rfl (fun c233_120 => ?_) (fun c233_120 => ?_)
                                · exact absurd c233_120 (by decide)
                                refine G.aloadN C d4_236 rfl rfl (n := 237) rfl ?_
                                refine G.iload C d4_237 rfl (n := 239) rfl ?_
                                refine G.iload C d4_239 rfl (n := 241) rfl ?_
                                refine G.iadd C d4_241 (n := 242) rfl ?_
                                have x121 : ((i + (3 : Int32))).toInt = i.toInt + 3 := ixk (by decide) q_0 (by decide) (by omega)
                                have x121n : ((i + (3 : Int32))).toInt.toNat = (i.toInt + 3).toNat := congrArg Int.toNat x121
                                refine G.baload C (x := (vs.getD (i.toInt + 3).toNat 0)) O_a (by omega) (by rw [x121n]; exact getD_at (by omega)) d4_242 (n := 243) rfl ?_
                                refine G.sipush C (v := (192 : Int32)) d4_243 (by decide) (n := 246) rfl ?_
                                have RS3 := Ints_byte O_a (i := (i.toInt + 3).toNat) (by omega)
                                have US3 : ub vs (i.toInt + 3) = ((vs.getD (i.toInt + 3).toNat 0) &&& (255 : Int32)).toInt := rfl
                                refine G.iand C d4_246 (n := 247) rfl ?_
                                refine G.sipush C (v := (128 : Int32)) d4_247 (by decide) (n := 250) rfl ?_
                                refine G.icmp_eq C (A := ((vs.getD (i.toInt + 3).toNat 0) &&& (192 : Int32)).toInt) (B := 128) rfl (by decide) d4_250 (by decide) (by decide) (n := 253) (n' := 255) rfl (fun c250_122 c250_122i => ?_) (fun c250_122 c250_122i => ?_)
                                · have rs3 : (128 ≤ ub vs (i.toInt + 3) ∧ ub vs (i.toInt + 3) ≤ 191) := (a192s RS3).mp c250_122i
                                  refine G.iincK C (v := (1 : Int32)) (z := (4 : Int32)) d4_255 (by decide) rfl (by decide) (l' := #[.val (.ref a), .val (.int o), .val (.int n), .val (.int v1), .val (.int i), .val (.int b6), .val (.int (3 : Int32)), .val (.int (144 : Int32)), .val (.int (143 : Int32)), .val (.int b114), .val (.int (4 : Int32))]) rfl (n := 258) rfl ?_
                                  refine G.goto C d4_258 (by decide) (n := 229) (by decide) ?_
                                  refine G.iload C d4_229 rfl (n := 231) rfl ?_
                                  refine G.iload C d4_231 rfl (n := 233) rfl ?_
                                  refine G.icmp_gt C (A := 4) (B := 3) (by decide) (by decide) d4_233 (by decide) (by decide) (n := 236) (n' := 261) rfl (fun c233_123 => ?_) (fun c233_123 => ?_)
                                  rotate_left
                                  · exact absurd c233_123 (by decide)
                                  refine G.iload C d4_261 rfl (n := 263) rfl ?_
                                  refine G.iconst C (v := (1 : Int32)) d4_263 (by decide) (n := 264) rfl ?_
                                  refine G.iload C d4_264 rfl (n := 266) rfl ?_
                                  refine G.iadd C d4_266 (n := 267) rfl ?_
                                  refine G.fold_int (z := (4 : Int32)) (by decide) ?_
                                  refine G.iadd C d4_267 (n := 268) rfl ?_
                                  refine G.fold_int (z := i + (4 : Int32)) rfl ?_
                                  refine G.istoreZ C d4_268 (l' := fun z => #[.val (.ref a), .val (.int o), .val (.int n), .val (.int v1), .val (.int z), .val (.int b6), .val (.int (3 : Int32)), .val (.int (144 : Int32)), .val (.int (143 : Int32)), .val (.int b114), .val (.int (4 : Int32))]) (fun _ => rfl) (n := 270) rfl ?_
                                  intro v124 hv124
                                  refine G.goto C d4_270 (by decide) (n := 7) (by decide) ?_
                                  have q_i2 : v124.toInt = i.toInt + 4 := by rw [hv124]; exact ixk (by decide) q_0 (by decide) (by omega)
                                  have q_sq : sqv vs i.toInt v1.toInt = 4 := by unfold sqv; exact sq_4 (by omega) (by omega) (by omega)
                                  exact ih v124 (.val (.int b6)) (.val (.int (3 : Int32))) (.val (.int (144 : Int32))) (.val (.int (143 : Int32))) (.val (.int b114)) (.val (.int (4 : Int32)))  (by omega) (by omega) (by rw [q_i2, ← q_sq]; exact wf_s q_W (by omega) (by omega)) (Or.inr ⟨_, rfl, rfl⟩) (Or.inr ⟨_, rfl, rfl⟩) (Or.inr ⟨_, rfl, rfl⟩) (Or.inr ⟨_, rfl, rfl⟩) (Or.inr ⟨_, rfl, rfl⟩) (Or.inr ⟨_, rfl, rfl⟩)
                                · have rs3 : ¬ (128 ≤ ub vs (i.toInt + 3) ∧ ub vs (i.toInt + 3) ≤ 191) := fun q => c250_122i ((a192s RS3).mpr q)
                                  refine G.iconst C (v := (0 : Int32)) d4_253 (by decide) (n := 254) rfl ?_
                                  refine G.ireturn C d4_254 (rfl) (by simp) (by decide) (by decide) ?_
                                  exact ⟨by rw [wf_f q_W (by omega) (by unfold sqv; exact sq_04 (by omega) (by omega))]; rfl, rfl⟩
                              · have rs2 : ¬ (128 ≤ ub vs (i.toInt + 2) ∧ ub vs (i.toInt + 2) ≤ 191) := fun q => c250_119i ((a192s RS2).mpr q)
                                refine G.iconst C (v := (0 : Int32)) d4_253 (by decide) (n := 254) rfl ?_
                                refine G.ireturn C d4_254 (rfl) (by simp) (by decide) (by decide) ?_
                                exact ⟨by rw [wf_f q_W (by omega) (by unfold sqv; exact sq_04 (by omega) (by omega))]; rfl, rfl⟩
                            · refine G.iconst C (v := (0 : Int32)) d4_224 (by decide) (n := 225) rfl ?_
                              refine G.ireturn C d4_225 (rfl) (by simp) (by decide) (by decide) ?_
                              exact ⟨by rw [wf_f q_W (by omega) (by unfold sqv; exact sq_04 (by omega) (by omega))]; rfl, rfl⟩
                        · refine G.iconst C (v := (0 : Int32)) d4_196 (by decide) (n := 197) rfl ?_
                          refine G.ireturn C d4_197 (rfl) (by simp) (by decide) (by decide) ?_
                          exact ⟨by rw [wf_f q_W (by omega) (by unfold sqv; exact sq_04 (by omega) (by omega))]; rfl, rfl⟩
              · refine G.iconst C (v := (2 : Int32)) d4_85 (by decide) (n := 86) rfl ?_
                refine G.istore C d4_86 (l' := #[.val (.ref a), .val (.int o), .val (.int n), .val (.int v1), .val (.int i), .val (.int b6), .val (.int (2 : Int32)), .val (.int (128 : Int32)), .val (.int (191 : Int32)), s9, s10]) (Jvm.Free.XS.store1 rfl hs6 rfl) (n := 88) rfl ?_
                refine G.iload C d4_88 rfl (n := 90) rfl ?_
                refine G.sipush C (v := (224 : Int32)) d4_90 (by decide) (n := 93) rfl ?_
                refine G.icmp_ne C (A := b6.toInt) (B := 224) rfl (by decide) d4_93 (by decide) (by decide) (n := 96) (n' := 102) rfl (fun c93_125 c93_125i => ?_) (fun c93_125 c93_125i => ?_)
                · refine G.iload C d4_102 rfl (n := 104) rfl ?_
                  refine G.istore C d4_104 (l' := #[.val (.ref a), .val (.int o), .val (.int n), .val (.int v1), .val (.int i), .val (.int b6), .val (.int (2 : Int32)), .val (.int (128 : Int32)), .val (.int (191 : Int32)), s9, s10]) rfl (n := 106) rfl ?_
                  refine G.iload C d4_106 rfl (n := 108) rfl ?_
                  refine G.sipush C (v := (237 : Int32)) d4_108 (by decide) (n := 111) rfl ?_
                  refine G.icmp_ne C (A := b6.toInt) (B := 237) rfl (by decide) d4_111 (by decide) (by decide) (n := 114) (n' := 120) rfl (fun c111_126 c111_126i => ?_) (fun c111_126 c111_126i => ?_)
                  · refine G.iload C d4_120 rfl (n := 122) rfl ?_
                    refine G.istore C d4_122 (l' := #[.val (.ref a), .val (.int o), .val (.int n), .val (.int v1), .val (.int i), .val (.int b6), .val (.int (2 : Int32)), .val (.int (128 : Int32)), .val (.int (191 : Int32)), s9, s10]) rfl (n := 124) rfl ?_
                    refine G.goto C d4_124 (by decide) (n := 187) (by decide) ?_
                    have q_rem := isubk (x := v1) (y := i) (by omega) q_0
                    refine G.iloadN C d4_187 rfl (n := 188) rfl ?_
                    refine G.iload C d4_188 rfl (n := 190) rfl ?_
                    refine G.isub C d4_190 (n := 191) rfl ?_
                    refine G.iload C d4_191 rfl (n := 193) rfl ?_
                    refine G.icmp_gt C (A := (v1 - i).toInt) (B := 2) rfl (by decide) d4_193 (by decide) (by decide) (n := 196) (n' := 198) rfl (fun c193_127 => ?_) (fun c193_127 => ?_)
                    · refine G.aloadN C d4_198 rfl rfl (n := 199) rfl ?_
                      refine G.iload C d4_199 rfl (n := 201) rfl ?_
                      refine G.iconst C (v := (1 : Int32)) d4_201 (by decide) (n := 202) rfl ?_
                      refine G.iadd C d4_202 (n := 203) rfl ?_
                      have x128 : ((i + (1 : Int32))).toInt = i.toInt + 1 := ixk (by decide) q_0 (by decide) (by omega)
                      have x128n : ((i + (1 : Int32))).toInt.toNat = (i.toInt + 1).toNat := congrArg Int.toNat x128
                      refine G.baload C (x := (vs.getD (i.toInt + 1).toNat 0)) O_a (by omega) (by rw [x128n]; exact getD_at (by omega)) d4_203 (n := 204) rfl ?_
                      refine G.sipush C (v := (255 : Int32)) d4_204 (by decide) (n := 207) rfl ?_
                      refine G.iand C d4_207 (n := 208) rfl ?_
                      refine G.name_int ?_
                      intro b129 hb129
                      have R1 : 0 ≤ b129.toInt ∧ b129.toInt ≤ 255 := by rw [hb129]; exact u255 _
                      have U1 : b129.toInt = ub vs (i.toInt + 1) := by rw [hb129]; rfl
                      refine G.istore C d4_208 (l' := #[.val (.ref a), .val (.int o), .val (.int n), .val (.int v1), .val (.int i), .val (.int b6), .val (.int (2 : Int32)), .val (.int (128 : Int32)), .val (.int (191 : Int32)), .val (.int b129), s10]) (Jvm.Free.XS.store1 rfl hs9 rfl) (n := 210) rfl ?_
                      refine G.iload C d4_210 rfl (n := 212) rfl ?_
                      refine G.iload C d4_212 rfl (n := 214) rfl ?_
                      refine G.icmp_lt C (A := b129.toInt) (B := 128) rfl (by decide) d4_214 (by decide) (by decide) (n := 217) (n' := 224) rfl (fun c214_130 => ?_) (fun c214_130 => ?_)
                      · refine G.iconst C (v := (0 : Int32)) d4_224 (by decide) (n := 225) rfl ?_
                        refine G.ireturn C d4_225 (rfl) (by simp) (by decide) (by decide) ?_
                        exact ⟨by rw [wf_f q_W (by omega) (by unfold sqv; exact sq_03 (by omega) (by omega))]; rfl, rfl⟩
                      · refine G.iload C d4_217 rfl (n := 219) rfl ?_
                        refine G.iload C d4_219 rfl (n := 221) rfl ?_
                        refine G.icmp_le C (A := b129.toInt) (B := 191) rfl (by decide) d4_221 (by decide) (by decide) (n := 224) (n' := 226) rfl (fun c221_131 => ?_) (fun c221_131 => ?_)
                        · refine G.iconst C (v := (2 : Int32)) d4_226 (by decide) (n := 227) rfl ?_
                          refine G.istore C d4_227 (l' := #[.val (.ref a), .val (.int o), .val (.int n), .val (.int v1), .val (.int i), .val (.int b6), .val (.int (2 : Int32)), .val (.int (128 : Int32)), .val (.int (191 : Int32)), .val (.int b129), .val (.int (2 : Int32))]) (Jvm.Free.XS.store1 rfl hs10 rfl) (n := 229) rfl ?_
                          refine G.iload C d4_229 rfl (n := 231) rfl ?_
                          refine G.iload C d4_231 rfl (n := 233) rfl ?_
                          refine G.icmp_gt C (A := 2) (B := 2) (by decide) (by decide) d4_233 (by decide) (by decide) (n := 236) (n' := 261) rfl (fun c233_132 => ?_) (fun c233_132 => ?_)
                          · exact absurd c233_132 (by decide)
                          refine G.aloadN C d4_236 rfl rfl (n := 237) rfl ?_
                          refine G.iload C d4_237 rfl (n := 239) rfl ?_
                          refine G.iload C d4_239 rfl (n := 241) rfl ?_
                          refine G.iadd C d4_241 (n := 242) rfl ?_
                          have x133 : ((i + (2 : Int32))).toInt = i.toInt + 2 := ixk (by decide) q_0 (by decide) (by omega)
                          have x133n : ((i + (2 : Int32))).toInt.toNat = (i.toInt + 2).toNat := congrArg Int.toNat x133
                          refine G.baload C (x := (vs.getD (i.toInt + 2).toNat 0)) O_a (by omega) (by rw [x133n]; exact getD_at (by omega)) d4_242 (n := 243) rfl ?_
                          refine G.sipush C (v := (192 : Int32)) d4_243 (by decide) (n := 246) rfl ?_
                          have RS2 := Ints_byte O_a (i := (i.toInt + 2).toNat) (by omega)
                          have US2 : ub vs (i.toInt + 2) = ((vs.getD (i.toInt + 2).toNat 0) &&& (255 : Int32)).toInt := rfl
                          refine G.iand C d4_246 (n := 247) rfl ?_
                          refine G.sipush C (v := (128 : Int32)) d4_247 (by decide) (n := 250) rfl ?_
                          refine G.icmp_eq C (A := ((vs.getD (i.toInt + 2).toNat 0) &&& (192 : Int32)).toInt) (B := 128) rfl (by decide) d4_250 (by decide) (by decide) (n := 253) (n' := 255) rfl (fun c250_134 c250_134i => ?_) (fun c250_134 c250_134i => ?_)
                          · have rs2 : (128 ≤ ub vs (i.toInt + 2) ∧ ub vs (i.toInt + 2) ≤ 191) := (a192s RS2).mp c250_134i
                            refine G.iincK C (v := (1 : Int32)) (z := (3 : Int32)) d4_255 (by decide) rfl (by decide) (l' := #[.val (.ref a), .val (.int o), .val (.int n), .val (.int v1), .val (.int i), .val (.int b6), .val (.int (2 : Int32)), .val (.int (128 : Int32)), .val (.int (191 : Int32)), .val (.int b129), .val (.int (3 : Int32))]) rfl (n := 258) rfl ?_
                            refine G.goto C d4_258 (by decide) (n := 229) (by decide) ?_
                            refine G.iload C d4_229 rfl (n := 231) rfl ?_
                            refine G.iload C d4_231 rfl (n := 233) rfl ?_
                            refine G.icmp_gt C (A := 3) (B := 2) (by decide) (by decide) d4_233 (by decide) (by decide) (n := 236) (n' := 261) rfl (fun c233_135 => ?_) (fun c233_135 => ?_)
                            rotate_left
                            · exact absurd c233_135 (by decide)
                            refine G.iload C d4_261 rfl (n := 263) rfl ?_
                            refine G.iconst C (v := (1 : Int32)) d4_263 (by decide) (n := 264) rfl ?_
                            refine G.iload C d4_264 rfl (n := 266) rfl ?_
                            refine G.iadd C d4_266 (n := 267) rfl ?_
                            refine G.fold_int (z := (3 : Int32)) (by decide) ?_
                            refine G.iadd C d4_267 (n := 268) rfl ?_
                            refine G.fold_int (z := i + (3 : Int32)) rfl ?_
                            refine G.istoreZ C d4_268 (l' := fun z => #[.val (.ref a), .val (.int o), .val (.int n), .val (.int v1), .val (.int z), .val (.int b6), .val (.int (2 : Int32)), .val (.int (128 : Int32)), .val (.int (191 : Int32)), .val (.int b129), .val (.int (3 : Int32))]) (fun _ => rfl) (n := 270) rfl ?_
                            intro v136 hv136
                            refine G.goto C d4_270 (by decide) (n := 7) (by decide) ?_
                            have q_i2 : v136.toInt = i.toInt + 3 := by rw [hv136]; exact ixk (by decide) q_0 (by decide) (by omega)
                            have q_sq : sqv vs i.toInt v1.toInt = 3 := by unfold sqv; exact sq_3 (by omega) (by omega) (by omega)
                            exact ih v136 (.val (.int b6)) (.val (.int (2 : Int32))) (.val (.int (128 : Int32))) (.val (.int (191 : Int32))) (.val (.int b129)) (.val (.int (3 : Int32)))  (by omega) (by omega) (by rw [q_i2, ← q_sq]; exact wf_s q_W (by omega) (by omega)) (Or.inr ⟨_, rfl, rfl⟩) (Or.inr ⟨_, rfl, rfl⟩) (Or.inr ⟨_, rfl, rfl⟩) (Or.inr ⟨_, rfl, rfl⟩) (Or.inr ⟨_, rfl, rfl⟩) (Or.inr ⟨_, rfl, rfl⟩)
                          · have rs2 : ¬ (128 ≤ ub vs (i.toInt + 2) ∧ ub vs (i.toInt + 2) ≤ 191) := fun q => c250_134i ((a192s RS2).mpr q)
                            refine G.iconst C (v := (0 : Int32)) d4_253 (by decide) (n := 254) rfl ?_
                            refine G.ireturn C d4_254 (rfl) (by simp) (by decide) (by decide) ?_
                            exact ⟨by rw [wf_f q_W (by omega) (by unfold sqv; exact sq_03 (by omega) (by omega))]; rfl, rfl⟩
                        · refine G.iconst C (v := (0 : Int32)) d4_224 (by decide) (n := 225) rfl ?_
                          refine G.ireturn C d4_225 (rfl) (by simp) (by decide) (by decide) ?_
                          exact ⟨by rw [wf_f q_W (by omega) (by unfold sqv; exact sq_03 (by omega) (by omega))]; rfl, rfl⟩
                    · refine G.iconst C (v := (0 : Int32)) d4_196 (by decide) (n := 197) rfl ?_
                      refine G.ireturn C d4_197 (rfl) (by simp) (by decide) (by decide) ?_
                      exact ⟨by rw [wf_f q_W (by omega) (by unfold sqv; exact sq_03 (by omega) (by omega))]; rfl, rfl⟩
                  · refine G.sipush C (v := (159 : Int32)) d4_114 (by decide) (n := 117) rfl ?_
                    refine G.goto C d4_117 (by decide) (n := 122) (by decide) ?_
                    refine G.istore C d4_122 (l' := #[.val (.ref a), .val (.int o), .val (.int n), .val (.int v1), .val (.int i), .val (.int b6), .val (.int (2 : Int32)), .val (.int (128 : Int32)), .val (.int (159 : Int32)), s9, s10]) rfl (n := 124) rfl ?_
                    refine G.goto C d4_124 (by decide) (n := 187) (by decide) ?_
                    have q_rem := isubk (x := v1) (y := i) (by omega) q_0
                    refine G.iloadN C d4_187 rfl (n := 188) rfl ?_
                    refine G.iload C d4_188 rfl (n := 190) rfl ?_
                    refine G.isub C d4_190 (n := 191) rfl ?_
                    refine G.iload C d4_191 rfl (n := 193) rfl ?_
                    refine G.icmp_gt C (A := (v1 - i).toInt) (B := 2) rfl (by decide) d4_193 (by decide) (by decide) (n := 196) (n' := 198) rfl (fun c193_137 => ?_) (fun c193_137 => ?_)
                    · refine G.aloadN C d4_198 rfl rfl (n := 199) rfl ?_
                      refine G.iload C d4_199 rfl (n := 201) rfl ?_
                      refine G.iconst C (v := (1 : Int32)) d4_201 (by decide) (n := 202) rfl ?_
                      refine G.iadd C d4_202 (n := 203) rfl ?_
                      have x138 : ((i + (1 : Int32))).toInt = i.toInt + 1 := ixk (by decide) q_0 (by decide) (by omega)
                      have x138n : ((i + (1 : Int32))).toInt.toNat = (i.toInt + 1).toNat := congrArg Int.toNat x138
                      refine G.baload C (x := (vs.getD (i.toInt + 1).toNat 0)) O_a (by omega) (by rw [x138n]; exact getD_at (by omega)) d4_203 (n := 204) rfl ?_
                      refine G.sipush C (v := (255 : Int32)) d4_204 (by decide) (n := 207) rfl ?_
                      refine G.iand C d4_207 (n := 208) rfl ?_
                      refine G.name_int ?_
                      intro b139 hb139
                      have R1 : 0 ≤ b139.toInt ∧ b139.toInt ≤ 255 := by rw [hb139]; exact u255 _
                      have U1 : b139.toInt = ub vs (i.toInt + 1) := by rw [hb139]; rfl
                      refine G.istore C d4_208 (l' := #[.val (.ref a), .val (.int o), .val (.int n), .val (.int v1), .val (.int i), .val (.int b6), .val (.int (2 : Int32)), .val (.int (128 : Int32)), .val (.int (159 : Int32)), .val (.int b139), s10]) (Jvm.Free.XS.store1 rfl hs9 rfl) (n := 210) rfl ?_
                      refine G.iload C d4_210 rfl (n := 212) rfl ?_
                      refine G.iload C d4_212 rfl (n := 214) rfl ?_
                      refine G.icmp_lt C (A := b139.toInt) (B := 128) rfl (by decide) d4_214 (by decide) (by decide) (n := 217) (n' := 224) rfl (fun c214_140 => ?_) (fun c214_140 => ?_)
                      · refine G.iconst C (v := (0 : Int32)) d4_224 (by decide) (n := 225) rfl ?_
                        refine G.ireturn C d4_225 (rfl) (by simp) (by decide) (by decide) ?_
                        exact ⟨by rw [wf_f q_W (by omega) (by unfold sqv; exact sq_03 (by omega) (by omega))]; rfl, rfl⟩
                      · refine G.iload C d4_217 rfl (n := 219) rfl ?_
                        refine G.iload C d4_219 rfl (n := 221) rfl ?_
                        refine G.icmp_le C (A := b139.toInt) (B := 159) rfl (by decide) d4_221 (by decide) (by decide) (n := 224) (n' := 226) rfl (fun c221_141 => ?_) (fun c221_141 => ?_)
                        · refine G.iconst C (v := (2 : Int32)) d4_226 (by decide) (n := 227) rfl ?_
                          refine G.istore C d4_227 (l' := #[.val (.ref a), .val (.int o), .val (.int n), .val (.int v1), .val (.int i), .val (.int b6), .val (.int (2 : Int32)), .val (.int (128 : Int32)), .val (.int (159 : Int32)), .val (.int b139), .val (.int (2 : Int32))]) (Jvm.Free.XS.store1 rfl hs10 rfl) (n := 229) rfl ?_
                          refine G.iload C d4_229 rfl (n := 231) rfl ?_
                          refine G.iload C d4_231 rfl (n := 233) rfl ?_
                          refine G.icmp_gt C (A := 2) (B := 2) (by decide) (by decide) d4_233 (by decide) (by decide) (n := 236) (n' := 261) rfl (fun c233_142 => ?_) (fun c233_142 => ?_)
                          · exact absurd c233_142 (by decide)
                          refine G.aloadN C d4_236 rfl rfl (n := 237) rfl ?_
                          refine G.iload C d4_237 rfl (n := 239) rfl ?_
                          refine G.iload C d4_239 rfl (n := 241) rfl ?_
                          refine G.iadd C d4_241 (n := 242) rfl ?_
                          have x143 : ((i + (2 : Int32))).toInt = i.toInt + 2 := ixk (by decide) q_0 (by decide) (by omega)
                          have x143n : ((i + (2 : Int32))).toInt.toNat = (i.toInt + 2).toNat := congrArg Int.toNat x143
                          refine G.baload C (x := (vs.getD (i.toInt + 2).toNat 0)) O_a (by omega) (by rw [x143n]; exact getD_at (by omega)) d4_242 (n := 243) rfl ?_
                          refine G.sipush C (v := (192 : Int32)) d4_243 (by decide) (n := 246) rfl ?_
                          have RS2 := Ints_byte O_a (i := (i.toInt + 2).toNat) (by omega)
                          have US2 : ub vs (i.toInt + 2) = ((vs.getD (i.toInt + 2).toNat 0) &&& (255 : Int32)).toInt := rfl
                          refine G.iand C d4_246 (n := 247) rfl ?_
                          refine G.sipush C (v := (128 : Int32)) d4_247 (by decide) (n := 250) rfl ?_
                          refine G.icmp_eq C (A := ((vs.getD (i.toInt + 2).toNat 0) &&& (192 : Int32)).toInt) (B := 128) rfl (by decide) d4_250 (by decide) (by decide) (n := 253) (n' := 255) rfl (fun c250_144 c250_144i => ?_) (fun c250_144 c250_144i => ?_)
                          · have rs2 : (128 ≤ ub vs (i.toInt + 2) ∧ ub vs (i.toInt + 2) ≤ 191) := (a192s RS2).mp c250_144i
                            refine G.iincK C (v := (1 : Int32)) (z := (3 : Int32)) d4_255 (by decide) rfl (by decide) (l' := #[.val (.ref a), .val (.int o), .val (.int n), .val (.int v1), .val (.int i), .val (.int b6), .val (.int (2 : Int32)), .val (.int (128 : Int32)), .val (.int (159 : Int32)), .val (.int b139), .val (.int (3 : Int32))]) rfl (n := 258) rfl ?_
                            refine G.goto C d4_258 (by decide) (n := 229) (by decide) ?_
                            refine G.iload C d4_229 rfl (n := 231) rfl ?_
                            refine G.iload C d4_231 rfl (n := 233) rfl ?_
                            refine G.icmp_gt C (A := 3) (B := 2) (by decide) (by decide) d4_233 (by decide) (by decide) (n := 236) (n' := 261) rfl (fun c233_145 => ?_) (fun c233_145 => ?_)
                            rotate_left
                            · exact absurd c233_145 (by decide)
                            refine G.iload C d4_261 rfl (n := 263) rfl ?_
                            refine G.iconst C (v := (1 : Int32)) d4_263 (by decide) (n := 264) rfl ?_
                            refine G.iload C d4_264 rfl (n := 266) rfl ?_
                            refine G.iadd C d4_266 (n := 267) rfl ?_
                            refine G.fold_int (z := (3 : Int32)) (by decide) ?_
                            refine G.iadd C d4_267 (n := 268) rfl ?_
                            refine G.fold_int (z := i + (3 : Int32)) rfl ?_
                            refine G.istoreZ C d4_268 (l' := fun z => #[.val (.ref a), .val (.int o), .val (.int n), .val (.int v1), .val (.int z), .val (.int b6), .val (.int (2 : Int32)), .val (.int (128 : Int32)), .val (.int (159 : Int32)), .val (.int b139), .val (.int (3 : Int32))]) (fun _ => rfl) (n := 270) rfl ?_
                            intro v146 hv146
                            refine G.goto C d4_270 (by decide) (n := 7) (by decide) ?_
                            have q_i2 : v146.toInt = i.toInt + 3 := by rw [hv146]; exact ixk (by decide) q_0 (by decide) (by omega)
                            have q_sq : sqv vs i.toInt v1.toInt = 3 := by unfold sqv; exact sq_3 (by omega) (by omega) (by omega)
                            exact ih v146 (.val (.int b6)) (.val (.int (2 : Int32))) (.val (.int (128 : Int32))) (.val (.int (159 : Int32))) (.val (.int b139)) (.val (.int (3 : Int32)))  (by omega) (by omega) (by rw [q_i2, ← q_sq]; exact wf_s q_W (by omega) (by omega)) (Or.inr ⟨_, rfl, rfl⟩) (Or.inr ⟨_, rfl, rfl⟩) (Or.inr ⟨_, rfl, rfl⟩) (Or.inr ⟨_, rfl, rfl⟩) (Or.inr ⟨_, rfl, rfl⟩) (Or.inr ⟨_, rfl, rfl⟩)
                          · have rs2 : ¬ (128 ≤ ub vs (i.toInt + 2) ∧ ub vs (i.toInt + 2) ≤ 191) := fun q => c250_144i ((a192s RS2).mpr q)
                            refine G.iconst C (v := (0 : Int32)) d4_253 (by decide) (n := 254) rfl ?_
                            refine G.ireturn C d4_254 (rfl) (by simp) (by decide) (by decide) ?_
                            exact ⟨by rw [wf_f q_W (by omega) (by unfold sqv; exact sq_03 (by omega) (by omega))]; rfl, rfl⟩
                        · refine G.iconst C (v := (0 : Int32)) d4_224 (by decide) (n := 225) rfl ?_
                          refine G.ireturn C d4_225 (rfl) (by simp) (by decide) (by decide) ?_
                          exact ⟨by rw [wf_f q_W (by omega) (by unfold sqv; exact sq_03 (by omega) (by omega))]; rfl, rfl⟩
                    · refine G.iconst C (v := (0 : Int32)) d4_196 (by decide) (n := 197) rfl ?_
                      refine G.ireturn C d4_197 (rfl) (by simp) (by decide) (by decide) ?_
                      exact ⟨by rw [wf_f q_W (by omega) (by unfold sqv; exact sq_03 (by omega) (by omega))]; rfl, rfl⟩
                · refine G.sipush C (v := (160 : Int32)) d4_96 (by decide) (n := 99) rfl ?_
                  refine G.goto C d4_99 (by decide) (n := 104) (by decide) ?_
                  refine G.istore C d4_104 (l' := #[.val (.ref a), .val (.int o), .val (.int n), .val (.int v1), .val (.int i), .val (.int b6), .val (.int (2 : Int32)), .val (.int (160 : Int32)), .val (.int (191 : Int32)), s9, s10]) rfl (n := 106) rfl ?_
                  refine G.iload C d4_106 rfl (n := 108) rfl ?_
                  refine G.sipush C (v := (237 : Int32)) d4_108 (by decide) (n := 111) rfl ?_
                  refine G.icmp_ne C (A := b6.toInt) (B := 237) rfl (by decide) d4_111 (by decide) (by decide) (n := 114) (n' := 120) rfl (fun c111_147 c111_147i => ?_) (fun c111_147 c111_147i => ?_)
                  · refine G.iload C d4_120 rfl (n := 122) rfl ?_
                    refine G.istore C d4_122 (l' := #[.val (.ref a), .val (.int o), .val (.int n), .val (.int v1), .val (.int i), .val (.int b6), .val (.int (2 : Int32)), .val (.int (160 : Int32)), .val (.int (191 : Int32)), s9, s10]) rfl (n := 124) rfl ?_
                    refine G.goto C d4_124 (by decide) (n := 187) (by decide) ?_
                    have q_rem := isubk (x := v1) (y := i) (by omega) q_0
                    refine G.iloadN C d4_187 rfl (n := 188) rfl ?_
                    refine G.iload C d4_188 rfl (n := 190) rfl ?_
                    refine G.isub C d4_190 (n := 191) rfl ?_
                    refine G.iload C d4_191 rfl (n := 193) rfl ?_
                    refine G.icmp_gt C (A := (v1 - i).toInt) (B := 2) rfl (by decide) d4_193 (by decide) (by decide) (n := 196) (n' := 198) rfl (fun c193_148 => ?_) (fun c193_148 => ?_)
                    · refine G.aloadN C d4_198 rfl rfl (n := 199) rfl ?_
                      refine G.iload C d4_199 rfl (n := 201) rfl ?_
                      refine G.iconst C (v := (1 : Int32)) d4_201 (by decide) (n := 202) rfl ?_
                      refine G.iadd C d4_202 (n := 203) rfl ?_
                      have x149 : ((i + (1 : Int32))).toInt = i.toInt + 1 := ixk (by decide) q_0 (by decide) (by omega)
                      have x149n : ((i + (1 : Int32))).toInt.toNat = (i.toInt + 1).toNat := congrArg Int.toNat x149
                      refine G.baload C (x := (vs.getD (i.toInt + 1).toNat 0)) O_a (by omega) (by rw [x149n]; exact getD_at (by omega)) d4_203 (n := 204) rfl ?_
                      refine G.sipush C (v := (255 : Int32)) d4_204 (by decide) (n := 207) rfl ?_
                      refine G.iand C d4_207 (n := 208) rfl ?_
                      refine G.name_int ?_
                      intro b150 hb150
                      have R1 : 0 ≤ b150.toInt ∧ b150.toInt ≤ 255 := by rw [hb150]; exact u255 _
                      have U1 : b150.toInt = ub vs (i.toInt + 1) := by rw [hb150]; rfl
                      refine G.istore C d4_208 (l' := #[.val (.ref a), .val (.int o), .val (.int n), .val (.int v1), .val (.int i), .val (.int b6), .val (.int (2 : Int32)), .val (.int (160 : Int32)), .val (.int (191 : Int32)), .val (.int b150), s10]) (Jvm.Free.XS.store1 rfl hs9 rfl) (n := 210) rfl ?_
                      refine G.iload C d4_210 rfl (n := 212) rfl ?_
                      refine G.iload C d4_212 rfl (n := 214) rfl ?_
                      refine G.icmp_lt C (A := b150.toInt) (B := 160) rfl (by decide) d4_214 (by decide) (by decide) (n := 217) (n' := 224) rfl (fun c214_151 => ?_) (fun c214_151 => ?_)
                      · refine G.iconst C (v := (0 : Int32)) d4_224 (by decide) (n := 225) rfl ?_
                        refine G.ireturn C d4_225 (rfl) (by simp) (by decide) (by decide) ?_
                        exact ⟨by rw [wf_f q_W (by omega) (by unfold sqv; exact sq_03 (by omega) (by omega))]; rfl, rfl⟩
                      · refine G.iload C d4_217 rfl (n := 219) rfl ?_
                        refine G.iload C d4_219 rfl (n := 221) rfl ?_
                        refine G.icmp_le C (A := b150.toInt) (B := 191) rfl (by decide) d4_221 (by decide) (by decide) (n := 224) (n' := 226) rfl (fun c221_152 => ?_) (fun c221_152 => ?_)
                        · refine G.iconst C (v := (2 : Int32)) d4_226 (by decide) (n := 227) rfl ?_
                          refine G.istore C d4_227 (l' := #[.val (.ref a), .val (.int o), .val (.int n), .val (.int v1), .val (.int i), .val (.int b6), .val (.int (2 : Int32)), .val (.int (160 : Int32)), .val (.int (191 : Int32)), .val (.int b150), .val (.int (2 : Int32))]) (Jvm.Free.XS.store1 rfl hs10 rfl) (n := 229) rfl ?_
                          refine G.iload C d4_229 rfl (n := 231) rfl ?_
                          refine G.iload C d4_231 rfl (n := 233) rfl ?_
                          refine G.icmp_gt C (A := 2) (B := 2) (by decide) (by decide) d4_233 (by decide) (by decide) (n := 236) (n' := 261) rfl (fun c233_153 => ?_) (fun c233_153 => ?_)
                          · exact absurd c233_153 (by decide)
                          refine G.aloadN C d4_236 rfl rfl (n := 237) rfl ?_
                          refine G.iload C d4_237 rfl (n := 239) rfl ?_
                          refine G.iload C d4_239 rfl (n := 241) rfl ?_
                          refine G.iadd C d4_241 (n := 242) rfl ?_
                          have x154 : ((i + (2 : Int32))).toInt = i.toInt + 2 := ixk (by decide) q_0 (by decide) (by omega)
                          have x154n : ((i + (2 : Int32))).toInt.toNat = (i.toInt + 2).toNat := congrArg Int.toNat x154
                          refine G.baload C (x := (vs.getD (i.toInt + 2).toNat 0)) O_a (by omega) (by rw [x154n]; exact getD_at (by omega)) d4_242 (n := 243) rfl ?_
                          refine G.sipush C (v := (192 : Int32)) d4_243 (by decide) (n := 246) rfl ?_
                          have RS2 := Ints_byte O_a (i := (i.toInt + 2).toNat) (by omega)
                          have US2 : ub vs (i.toInt + 2) = ((vs.getD (i.toInt + 2).toNat 0) &&& (255 : Int32)).toInt := rfl
                          refine G.iand C d4_246 (n := 247) rfl ?_
                          refine G.sipush C (v := (128 : Int32)) d4_247 (by decide) (n := 250) rfl ?_
                          refine G.icmp_eq C (A := ((vs.getD (i.toInt + 2).toNat 0) &&& (192 : Int32)).toInt) (B := 128) rfl (by decide) d4_250 (by decide) (by decide) (n := 253) (n' := 255) rfl (fun c250_155 c250_155i => ?_) (fun c250_155 c250_155i => ?_)
                          · have rs2 : (128 ≤ ub vs (i.toInt + 2) ∧ ub vs (i.toInt + 2) ≤ 191) := (a192s RS2).mp c250_155i
                            refine G.iincK C (v := (1 : Int32)) (z := (3 : Int32)) d4_255 (by decide) rfl (by decide) (l' := #[.val (.ref a), .val (.int o), .val (.int n), .val (.int v1), .val (.int i), .val (.int b6), .val (.int (2 : Int32)), .val (.int (160 : Int32)), .val (.int (191 : Int32)), .val (.int b150), .val (.int (3 : Int32))]) rfl (n := 258) rfl ?_
                            refine G.goto C d4_258 (by decide) (n := 229) (by decide) ?_
                            refine G.iload C d4_229 rfl (n := 231) rfl ?_
                            refine G.iload C d4_231 rfl (n := 233) rfl ?_
                            refine G.icmp_gt C (A := 3) (B := 2) (by decide) (by decide) d4_233 (by decide) (by decide) (n := 236) (n' := 261) rfl (fun c233_156 => ?_) (fun c233_156 => ?_)
                            rotate_left
                            · exact absurd c233_156 (by decide)
                            refine G.iload C d4_261 rfl (n := 263) rfl ?_
                            refine G.iconst C (v := (1 : Int32)) d4_263 (by decide) (n := 264) rfl ?_
                            refine G.iload C d4_264 rfl (n := 266) rfl ?_
                            refine G.iadd C d4_266 (n := 267) rfl ?_
                            refine G.fold_int (z := (3 : Int32)) (by decide) ?_
                            refine G.iadd C d4_267 (n := 268) rfl ?_
                            refine G.fold_int (z := i + (3 : Int32)) rfl ?_
                            refine G.istoreZ C d4_268 (l' := fun z => #[.val (.ref a), .val (.int o), .val (.int n), .val (.int v1), .val (.int z), .val (.int b6), .val (.int (2 : Int32)), .val (.int (160 : Int32)), .val (.int (191 : Int32)), .val (.int b150), .val (.int (3 : Int32))]) (fun _ => rfl) (n := 270) rfl ?_
                            intro v157 hv157
                            refine G.goto C d4_270 (by decide) (n := 7) (by decide) ?_
                            have q_i2 : v157.toInt = i.toInt + 3 := by rw [hv157]; exact ixk (by decide) q_0 (by decide) (by omega)
                            have q_sq : sqv vs i.toInt v1.toInt = 3 := by unfold sqv; exact sq_3 (by omega) (by omega) (by omega)
                            exact ih v157 (.val (.int b6)) (.val (.int (2 : Int32))) (.val (.int (160 : Int32))) (.val (.int (191 : Int32))) (.val (.int b150)) (.val (.int (3 : Int32)))  (by omega) (by omega) (by rw [q_i2, ← q_sq]; exact wf_s q_W (by omega) (by omega)) (Or.inr ⟨_, rfl, rfl⟩) (Or.inr ⟨_, rfl, rfl⟩) (Or.inr ⟨_, rfl, rfl⟩) (Or.inr ⟨_, rfl, rfl⟩) (Or.inr ⟨_, rfl, rfl⟩) (Or.inr ⟨_, rfl, rfl⟩)
                          · have rs2 : ¬ (128 ≤ ub vs (i.toInt + 2) ∧ ub vs (i.toInt + 2) ≤ 191) := fun q => c250_155i ((a192s RS2).mpr q)
                            refine G.iconst C (v := (0 : Int32)) d4_253 (by decide) (n := 254) rfl ?_
                            refine G.ireturn C d4_254 (rfl) (by simp) (by decide) (by decide) ?_
                            exact ⟨by rw [wf_f q_W (by omega) (by unfold sqv; exact sq_03 (by omega) (by omega))]; rfl, rfl⟩
                        · refine G.iconst C (v := (0 : Int32)) d4_224 (by decide) (n := 225) rfl ?_
                          refine G.ireturn C d4_225 (rfl) (by simp) (by decide) (by decide) ?_
                          exact ⟨by rw [wf_f q_W (by omega) (by unfold sqv; exact sq_03 (by omega) (by omega))]; rfl, rfl⟩
                    · refine G.iconst C (v := (0 : Int32)) d4_196 (by decide) (n := 197) rfl ?_
                      refine G.ireturn C d4_197 (rfl) (by simp) (by decide) (by decide) ?_
                      exact ⟨by rw [wf_f q_W (by omega) (by unfold sqv; exact sq_03 (by omega) (by omega))]; rfl, rfl⟩
                  · refine G.sipush C (v := (159 : Int32)) d4_114 (by decide) (n := 117) rfl ?_
                    refine G.goto C d4_117 (by decide) (n := 122) (by decide) ?_
                    refine G.istore C d4_122 (l' := #[.val (.ref a), .val (.int o), .val (.int n), .val (.int v1), .val (.int i), .val (.int b6), .val (.int (2 : Int32)), .val (.int (160 : Int32)), .val (.int (159 : Int32)), s9, s10]) rfl (n := 124) rfl ?_
                    refine G.goto C d4_124 (by decide) (n := 187) (by decide) ?_
                    have q_rem := isubk (x := v1) (y := i) (by omega) q_0
                    refine G.iloadN C d4_187 rfl (n := 188) rfl ?_
                    refine G.iload C d4_188 rfl (n := 190) rfl ?_
                    refine G.isub C d4_190 (n := 191) rfl ?_
                    refine G.iload C d4_191 rfl (n := 193) rfl ?_
                    refine G.icmp_gt C (A := (v1 - i).toInt) (B := 2) rfl (by decide) d4_193 (by decide) (by decide) (n := 196) (n' := 198) rfl (fun c193_158 => ?_) (fun c193_158 => ?_)
                    · refine G.aloadN C d4_198 rfl rfl (n := 199) rfl ?_
                      refine G.iload C d4_199 rfl (n := 201) rfl ?_
                      refine G.iconst C (v := (1 : Int32)) d4_201 (by decide) (n := 202) rfl ?_
                      refine G.iadd C d4_202 (n := 203) rfl ?_
                      have x159 : ((i + (1 : Int32))).toInt = i.toInt + 1 := ixk (by decide) q_0 (by decide) (by omega)
                      have x159n : ((i + (1 : Int32))).toInt.toNat = (i.toInt + 1).toNat := congrArg Int.toNat x159
                      refine G.baload C (x := (vs.getD (i.toInt + 1).toNat 0)) O_a (by omega) (by rw [x159n]; exact getD_at (by omega)) d4_203 (n := 204) rfl ?_
                      refine G.sipush C (v := (255 : Int32)) d4_204 (by decide) (n := 207) rfl ?_
                      refine G.iand C d4_207 (n := 208) rfl ?_
                      refine G.name_int ?_
                      intro b160 hb160
                      have R1 : 0 ≤ b160.toInt ∧ b160.toInt ≤ 255 := by rw [hb160]; exact u255 _
                      have U1 : b160.toInt = ub vs (i.toInt + 1) := by rw [hb160]; rfl
                      refine G.istore C d4_208 (l' := #[.val (.ref a), .val (.int o), .val (.int n), .val (.int v1), .val (.int i), .val (.int b6), .val (.int (2 : Int32)), .val (.int (160 : Int32)), .val (.int (159 : Int32)), .val (.int b160), s10]) (Jvm.Free.XS.store1 rfl hs9 rfl) (n := 210) rfl ?_
                      refine G.iload C d4_210 rfl (n := 212) rfl ?_
                      refine G.iload C d4_212 rfl (n := 214) rfl ?_
                      refine G.icmp_lt C (A := b160.toInt) (B := 160) rfl (by decide) d4_214 (by decide) (by decide) (n := 217) (n' := 224) rfl (fun c214_161 => ?_) (fun c214_161 => ?_)
                      · refine G.iconst C (v := (0 : Int32)) d4_224 (by decide) (n := 225) rfl ?_
                        refine G.ireturn C d4_225 (rfl) (by simp) (by decide) (by decide) ?_
                        exact ⟨by rw [wf_f q_W (by omega) (by unfold sqv; exact sq_03 (by omega) (by omega))]; rfl, rfl⟩
                      · refine G.iload C d4_217 rfl (n := 219) rfl ?_
                        refine G.iload C d4_219 rfl (n := 221) rfl ?_
                        refine G.icmp_le C (A := b160.toInt) (B := 159) rfl (by decide) d4_221 (by decide) (by decide) (n := 224) (n' := 226) rfl (fun c221_162 => ?_) (fun c221_162 => ?_)
                        · refine G.iconst C (v := (2 : Int32)) d4_226 (by decide) (n := 227) rfl ?_
                          refine G.istore C d4_227 (l' := #[.val (.ref a), .val (.int o), .val (.int n), .val (.int v1), .val (.int i), .val (.int b6), .val (.int (2 : Int32)), .val (.int (160 : Int32)), .val (.int (159 : Int32)), .val (.int b160), .val (.int (2 : Int32))]) (Jvm.Free.XS.store1 rfl hs10 rfl) (n := 229) rfl ?_
                          refine G.iload C d4_229 rfl (n := 231) rfl ?_
                          refine G.iload C d4_231 rfl (n := 233) rfl ?_
                          refine G.icmp_gt C (A := 2) (B := 2) (by decide) (by decide) d4_233 (by decide) (by decide) (n := 236) (n' := 261) rfl (fun c233_163 => ?_) (fun c233_163 => ?_)
                          · exact absurd c233_163 (by decide)
                          refine G.aloadN C d4_236 rfl rfl (n := 237) rfl ?_
                          refine G.iload C d4_237 rfl (n := 239) rfl ?_
                          refine G.iload C d4_239 rfl (n := 241) rfl ?_
                          refine G.iadd C d4_241 (n := 242) rfl ?_
                          have x164 : ((i + (2 : Int32))).toInt = i.toInt + 2 := ixk (by decide) q_0 (by decide) (by omega)
                          have x164n : ((i + (2 : Int32))).toInt.toNat = (i.toInt + 2).toNat := congrArg Int.toNat x164
                          refine G.baload C (x := (vs.getD (i.toInt + 2).toNat 0)) O_a (by omega) (by rw [x164n]; exact getD_at (by omega)) d4_242 (n := 243) rfl ?_
                          refine G.sipush C (v := (192 : Int32)) d4_243 (by decide) (n := 246) rfl ?_
                          have RS2 := Ints_byte O_a (i := (i.toInt + 2).toNat) (by omega)
                          have US2 : ub vs (i.toInt + 2) = ((vs.getD (i.toInt + 2).toNat 0) &&& (255 : Int32)).toInt := rfl
                          refine G.iand C d4_246 (n := 247) rfl ?_
                          refine G.sipush C (v := (128 : Int32)) d4_247 (by decide) (n := 250) rfl ?_
                          refine G.icmp_eq C (A := ((vs.getD (i.toInt + 2).toNat 0) &&& (192 : Int32)).toInt) (B := 128) rfl (by decide) d4_250 (by decide) (by decide) (n := 253) (n' := 255) rfl (fun c250_165 c250_165i => ?_) (fun c250_165 c250_165i => ?_)
                          · have rs2 : (128 ≤ ub vs (i.toInt + 2) ∧ ub vs (i.toInt + 2) ≤ 191) := (a192s RS2).mp c250_165i
                            refine G.iincK C (v := (1 : Int32)) (z := (3 : Int32)) d4_255 (by decide) rfl (by decide) (l' := #[.val (.ref a), .val (.int o), .val (.int n), .val (.int v1), .val (.int i), .val (.int b6), .val (.int (2 : Int32)), .val (.int (160 : Int32)), .val (.int (159 : Int32)), .val (.int b160), .val (.int (3 : Int32))]) rfl (n := 258) rfl ?_
                            refine G.goto C d4_258 (by decide) (n := 229) (by decide) ?_
                            refine G.iload C d4_229 rfl (n := 231) rfl ?_
                            refine G.iload C d4_231 rfl (n := 233) rfl ?_
                            refine G.icmp_gt C (A := 3) (B := 2) (by decide) (by decide) d4_233 (by decide) (by decide) (n := 236) (n' := 261) rfl (fun c233_166 => ?_) (fun c233_166 => ?_)
                            rotate_left
                            · exact absurd c233_166 (by decide)
                            refine G.iload C d4_261 rfl (n := 263) rfl ?_
                            refine G.iconst C (v := (1 : Int32)) d4_263 (by decide) (n := 264) rfl ?_
                            refine G.iload C d4_264 rfl (n := 266) rfl ?_
                            refine G.iadd C d4_266 (n := 267) rfl ?_
                            refine G.fold_int (z := (3 : Int32)) (by decide) ?_
                            refine G.iadd C d4_267 (n := 268) rfl ?_
                            refine G.fold_int (z := i + (3 : Int32)) rfl ?_
                            refine G.istoreZ C d4_268 (l' := fun z => #[.val (.ref a), .val (.int o), .val (.int n), .val (.int v1), .val (.int z), .val (.int b6), .val (.int (2 : Int32)), .val (.int (160 : Int32)), .val (.int (159 : Int32)), .val (.int b160), .val (.int (3 : Int32))]) (fun _ => rfl) (n := 270) rfl ?_
                            intro v167 hv167
                            refine G.goto C d4_270 (by decide) (n := 7) (by decide) ?_
                            have q_i2 : v167.toInt = i.toInt + 3 := by rw [hv167]; exact ixk (by decide) q_0 (by decide) (by omega)
                            have q_sq : sqv vs i.toInt v1.toInt = 3 := by unfold sqv; exact sq_3 (by omega) (by omega) (by omega)
                            exact ih v167 (.val (.int b6)) (.val (.int (2 : Int32))) (.val (.int (160 : Int32))) (.val (.int (159 : Int32))) (.val (.int b160)) (.val (.int (3 : Int32)))  (by omega) (by omega) (by rw [q_i2, ← q_sq]; exact wf_s q_W (by omega) (by omega)) (Or.inr ⟨_, rfl, rfl⟩) (Or.inr ⟨_, rfl, rfl⟩) (Or.inr ⟨_, rfl, rfl⟩) (Or.inr ⟨_, rfl, rfl⟩) (Or.inr ⟨_, rfl, rfl⟩) (Or.inr ⟨_, rfl, rfl⟩)
                          · have rs2 : ¬ (128 ≤ ub vs (i.toInt + 2) ∧ ub vs (i.toInt + 2) ≤ 191) := fun q => c250_165i ((a192s RS2).mpr q)
                            refine G.iconst C (v := (0 : Int32)) d4_253 (by decide) (n := 254) rfl ?_
                            refine G.ireturn C d4_254 (rfl) (by simp) (by decide) (by decide) ?_
                            exact ⟨by rw [wf_f q_W (by omega) (by unfold sqv; exact sq_03 (by omega) (by omega))]; rfl, rfl⟩
                        · refine G.iconst C (v := (0 : Int32)) d4_224 (by decide) (n := 225) rfl ?_
                          refine G.ireturn C d4_225 (rfl) (by simp) (by decide) (by decide) ?_
                          exact ⟨by rw [wf_f q_W (by omega) (by unfold sqv; exact sq_03 (by omega) (by omega))]; rfl, rfl⟩
                    · refine G.iconst C (v := (0 : Int32)) d4_196 (by decide) (n := 197) rfl ?_
                      refine G.ireturn C d4_197 (rfl) (by simp) (by decide) (by decide) ?_
                      exact ⟨by rw [wf_f q_W (by omega) (by unfold sqv; exact sq_03 (by omega) (by omega))]; rfl, rfl⟩
          · refine G.iload C d4_55 rfl (n := 57) rfl ?_
            refine G.sipush C (v := (223 : Int32)) d4_57 (by decide) (n := 60) rfl ?_
            refine G.icmp_gt C (A := b6.toInt) (B := 223) rfl (by decide) d4_60 (by decide) (by decide) (n := 63) (n' := 69) rfl (fun c60_168 => ?_) (fun c60_168 => ?_)
            · refine G.iload C d4_69 rfl (n := 71) rfl ?_
              refine G.sipush C (v := (224 : Int32)) d4_71 (by decide) (n := 74) rfl ?_
              refine G.icmp_lt C (A := b6.toInt) (B := 224) rfl (by decide) d4_74 (by decide) (by decide) (n := 77) (n' := 127) rfl (fun c74_169 => ?_) (fun c74_169 => ?_)
              · refine G.iload C d4_127 rfl (n := 129) rfl ?_
                refine G.sipush C (v := (240 : Int32)) d4_129 (by decide) (n := 132) rfl ?_
                refine G.icmp_lt C (A := b6.toInt) (B := 240) rfl (by decide) d4_132 (by decide) (by decide) (n := 135) (n' := 185) rfl (fun c132_170 => ?_) (fun c132_170 => ?_)
                · refine G.iconst C (v := (0 : Int32)) d4_185 (by decide) (n := 186) rfl ?_
                  refine G.ireturn C d4_186 (rfl) (by simp) (by decide) (by decide) ?_
                  exact ⟨by rw [wf_f q_W (by omega) (by unfold sqv; exact sq_0x (by omega) (by omega))]; rfl, rfl⟩
                · refine G.iload C d4_135 rfl (n := 137) rfl ?_
                  refine G.sipush C (v := (244 : Int32)) d4_137 (by decide) (n := 140) rfl ?_
                  refine G.icmp_gt C (A := b6.toInt) (B := 244) rfl (by decide) d4_140 (by decide) (by decide) (n := 143) (n' := 185) rfl (fun c140_171 => ?_) (fun c140_171 => ?_)
                  · refine G.iconst C (v := (0 : Int32)) d4_185 (by decide) (n := 186) rfl ?_
                    refine G.ireturn C d4_186 (rfl) (by simp) (by decide) (by decide) ?_
                    exact ⟨by rw [wf_f q_W (by omega) (by unfold sqv; exact sq_0x (by omega) (by omega))]; rfl, rfl⟩
                  · refine G.iconst C (v := (3 : Int32)) d4_143 (by decide) (n := 144) rfl ?_
                    refine G.istore C d4_144 (l' := #[.val (.ref a), .val (.int o), .val (.int n), .val (.int v1), .val (.int i), .val (.int b6), .val (.int (3 : Int32)), .val (.int (128 : Int32)), .val (.int (191 : Int32)), s9, s10]) (Jvm.Free.XS.store1 rfl hs6 rfl) (n := 146) rfl ?_
                    refine G.iload C d4_146 rfl (n := 148) rfl ?_
                    refine G.sipush C (v := (240 : Int32)) d4_148 (by decide) (n := 151) rfl ?_
                    refine G.icmp_ne C (A := b6.toInt) (B := 240) rfl (by decide) d4_151 (by decide) (by decide) (n := 154) (n' := 160) rfl (fun c151_172 c151_172i => ?_) (fun c151_172 c151_172i => ?_)
                    · refine G.iload C d4_160 rfl (n := 162) rfl ?_
                      refine G.istore C d4_162 (l' := #[.val (.ref a), .val (.int o), .val (.int n), .val (.int v1), .val (.int i), .val (.int b6), .val (.int (3 : Int32)), .val (.int (128 : Int32)), .val (.int (191 : Int32)), s9, s10]) rfl (n := 164) rfl ?_
                      refine G.iload C d4_164 rfl (n := 166) rfl ?_
                      refine G.sipush C (v := (244 : Int32)) d4_166 (by decide) (n := 169) rfl ?_
                      refine G.icmp_ne C (A := b6.toInt) (B := 244) rfl (by decide) d4_169 (by decide) (by decide) (n := 172) (n' := 178) rfl (fun c169_173 c169_173i => ?_) (fun c169_173 c169_173i => ?_)
                      · refine G.iload C d4_178 rfl (n := 180) rfl ?_
                        refine G.istore C d4_180 (l' := #[.val (.ref a), .val (.int o), .val (.int n), .val (.int v1), .val (.int i), .val (.int b6), .val (.int (3 : Int32)), .val (.int (128 : Int32)), .val (.int (191 : Int32)), s9, s10]) rfl (n := 182) rfl ?_
                        refine G.goto C d4_182 (by decide) (n := 187) (by decide) ?_
                        have q_rem := isubk (x := v1) (y := i) (by omega) q_0
                        refine G.iloadN C d4_187 rfl (n := 188) rfl ?_
                        refine G.iload C d4_188 rfl (n := 190) rfl ?_
                        refine G.isub C d4_190 (n := 191) rfl ?_
                        refine G.iload C d4_191 rfl (n := 193) rfl ?_
                        refine G.icmp_gt C (A := (v1 - i).toInt) (B := 3) rfl (by decide) d4_193 (by decide) (by decide) (n := 196) (n' := 198) rfl (fun c193_174 => ?_) (fun c193_174 => ?_)
                        · refine G.aloadN C d4_198 rfl rfl (n := 199) rfl ?_
                          refine G.iload C d4_199 rfl (n := 201) rfl ?_
                          refine G.iconst C (v := (1 : Int32)) d4_201 (by decide) (n := 202) rfl ?_
                          refine G.iadd C d4_202 (n := 203) rfl ?_
                          have x175 : ((i + (1 : Int32))).toInt = i.toInt + 1 := ixk (by decide) q_0 (by decide) (by omega)
                          have x175n : ((i + (1 : Int32))).toInt.toNat = (i.toInt + 1).toNat := congrArg Int.toNat x175
                          refine G.baload C (x := (vs.getD (i.toInt + 1).toNat 0)) O_a (by omega) (by rw [x175n]; exact getD_at (by omega)) d4_203 (n := 204) rfl ?_
                          refine G.sipush C (v := (255 : Int32)) d4_204 (by decide) (n := 207) rfl ?_
                          refine G.iand C d4_207 (n := 208) rfl ?_
                          refine G.name_int ?_
                          intro b176 hb176
                          have R1 : 0 ≤ b176.toInt ∧ b176.toInt ≤ 255 := by rw [hb176]; exact u255 _
                          have U1 : b176.toInt = ub vs (i.toInt + 1) := by rw [hb176]; rfl
                          refine G.istore C d4_208 (l' := #[.val (.ref a), .val (.int o), .val (.int n), .val (.int v1), .val (.int i), .val (.int b6), .val (.int (3 : Int32)), .val (.int (128 : Int32)), .val (.int (191 : Int32)), .val (.int b176), s10]) (Jvm.Free.XS.store1 rfl hs9 rfl) (n := 210) rfl ?_
                          refine G.iload C d4_210 rfl (n := 212) rfl ?_
                          refine G.iload C d4_212 rfl (n := 214) rfl ?_
                          refine G.icmp_lt C (A := b176.toInt) (B := 128) rfl (by decide) d4_214 (by decide) (by decide) (n := 217) (n' := 224) rfl (fun c214_177 => ?_) (fun c214_177 => ?_)
                          · refine G.iconst C (v := (0 : Int32)) d4_224 (by decide) (n := 225) rfl ?_
                            refine G.ireturn C d4_225 (rfl) (by simp) (by decide) (by decide) ?_
                            exact ⟨by rw [wf_f q_W (by omega) (by unfold sqv; exact sq_04 (by omega) (by omega))]; rfl, rfl⟩
                          · refine G.iload C d4_217 rfl (n := 219) rfl ?_
                            refine G.iload C d4_219 rfl (n := 221) rfl ?_
                            refine G.icmp_le C (A := b176.toInt) (B := 191) rfl (by decide) d4_221 (by decide) (by decide) (n := 224) (n' := 226) rfl (fun c221_178 => ?_) (fun c221_178 => ?_)
                            · refine G.iconst C (v := (2 : Int32)) d4_226 (by decide) (n := 227) rfl ?_
                              refine G.istore C d4_227 (l' := #[.val (.ref a), .val (.int o), .val (.int n), .val (.int v1), .val (.int i), .val (.int b6), .val (.int (3 : Int32)), .val (.int (128 : Int32)), .val (.int (191 : Int32)), .val (.int b176), .val (.int (2 : Int32))]) (Jvm.Free.XS.store1 rfl hs10 rfl) (n := 229) rfl ?_
                              refine G.iload C d4_229 rfl (n := 231) rfl ?_
                              refine G.iload C d4_231 rfl (n := 233) rfl ?_
                              refine G.icmp_gt C (A := 2) (B := 3) (by decide) (by decide) d4_233 (by decide) (by decide) (n := 236) (n' := 261) rfl (fun c233_179 => ?_) (fun c233_179 => ?_)
                              · exact absurd c233_179 (by decide)
                              refine G.aloadN C d4_236 rfl rfl (n := 237) rfl ?_
                              refine G.iload C d4_237 rfl (n := 239) rfl ?_
                              refine G.iload C d4_239 rfl (n := 241) rfl ?_
                              refine G.iadd C d4_241 (n := 242) rfl ?_
                              have x180 : ((i + (2 : Int32))).toInt = i.toInt + 2 := ixk (by decide) q_0 (by decide) (by omega)
                              have x180n : ((i + (2 : Int32))).toInt.toNat = (i.toInt + 2).toNat := congrArg Int.toNat x180
                              refine G.baload C (x := (vs.getD (i.toInt + 2).toNat 0)) O_a (by omega) (by rw [x180n]; exact getD_at (by omega)) d4_242 (n := 243) rfl ?_
                              refine G.sipush C (v := (192 : Int32)) d4_243 (by decide) (n := 246) rfl ?_
                              have RS2 := Ints_byte O_a (i := (i.toInt + 2).toNat) (by omega)
                              have US2 : ub vs (i.toInt + 2) = ((vs.getD (i.toInt + 2).toNat 0) &&& (255 : Int32)).toInt := rfl
                              refine G.iand C d4_246 (n := 247) rfl ?_
                              refine G.sipush C (v := (128 : Int32)) d4_247 (by decide) (n := 250) rfl ?_
                              refine G.icmp_eq C (A := ((vs.getD (i.toInt + 2).toNat 0) &&& (192 : Int32)).toInt) (B := 128) rfl (by decide) d4_250 (by decide) (by decide) (n := 253) (n' := 255) rfl (fun c250_181 c250_181i => ?_) (fun c250_181 c250_181i => ?_)
                              · have rs2 : (128 ≤ ub vs (i.toInt + 2) ∧ ub vs (i.toInt + 2) ≤ 191) := (a192s RS2).mp c250_181i
                                refine G.iincK C (v := (1 : Int32)) (z := (3 : Int32)) d4_255 (by decide) rfl (by decide) (l' := #[.val (.ref a), .val (.int o), .val (.int n), .val (.int v1), .val (.int i), .val (.int b6), .val (.int (3 : Int32)), .val (.int (128 : Int32)), .val (.int (191 : Int32)), .val (.int b176), .val (.int (3 : Int32))]) rfl (n := 258) rfl ?_
                                refine G.goto C d4_258 (by decide) (n := 229) (by decide) ?_
                                refine G.iload C d4_229 rfl (n := 231) rfl ?_
                                refine G.iload C d4_231 rfl (n := 233) rfl ?_
                                refine G.icmp_gt C (A := 3) (B := 3) (by decide) (by decide) d4_233 (by decide) (by decide) (n := 236) (n' := 261) rfl (fun c233_182 => ?_) (fun c233_182 => ?_)
                                · exact absurd c233_182 (by decide)
                                refine G.aloadN C d4_236 rfl rfl (n := 237) rfl ?_
                                refine G.iload C d4_237 rfl (n := 239) rfl ?_
                                refine G.iload C d4_239 rfl (n := 241) rfl ?_
                                refine G.iadd C d4_241 (n := 242) rfl ?_
                                have x183 : ((i + (3 : Int32))).toInt = i.toInt + 3 := ixk (by decide) q_0 (by decide) (by omega)
                                have x183n : ((i + (3 : Int32))).toInt.toNat = (i.toInt + 3).toNat := congrArg Int.toNat x183
                                refine G.baload C (x := (vs.getD (i.toInt + 3).toNat 0)) O_a (by omega) (by rw [x183n]; exact getD_at (by omega)) d4_242 (n := 243) rfl ?_
                                refine G.sipush C (v := (192 : Int32)) d4_243 (by decide) (n := 246) rfl ?_
                                have RS3 := Ints_byte O_a (i := (i.toInt + 3).toNat) (by omega)
                                have US3 : ub vs (i.toInt + 3) = ((vs.getD (i.toInt + 3).toNat 0) &&& (255 : Int32)).toInt := rfl
                                refine G.iand C d4_246 (n := 247) rfl ?_
                                refine G.sipush C (v := (128 : Int32)) d4_247 (by decide) (n := 250) rfl ?_
                                refine G.icmp_eq C (A := ((vs.getD (i.toInt + 3).toNat 0) &&& (192 : Int32)).toInt) (B := 128) rfl (by decide) d4_250 (by decide) (by decide) (n := 253) (n' := 255) rfl (fun c250_184 c250_184i => ?_) (fun c250_184 c250_184i => ?_)
                                · have rs3 : (128 ≤ ub vs (i.toInt + 3) ∧ ub vs (i.toInt + 3) ≤ 191) := (a192s RS3).mp c250_184i
                                  refine G.iincK C (v := (1 : Int32)) (z := (4 : Int32)) d4_255 (by decide) rfl (by decide) (l' := #[.val (.ref a), .val (.int o), .val (.int n), .val (.int v1), .val (.int i), .val (.int b6), .val (.int (3 : Int32)), .val (.int (128 : Int32)), .val (.int (191 : Int32)), .val (.int b176), .val (.int (4 : Int32))]) rfl (n := 258) rfl ?_
                                  refine G.goto C d4_258 (by decide) (n := 229) (by decide) ?_
                                  refine G.iload C d4_229 rfl (n := 231) rfl ?_
                                  refine G.iload C d4_231 rfl (n := 233) rfl ?_
                                  refine G.icmp_gt C (A := 4) (B := 3) (by decide) (by decide) d4_233 (by decide) (by decide) (n := 236) (n' := 261) rfl (fun c233_185 => ?_) (fun c233_185 => ?_)
                                  rotate_left
                                  · exact absurd c233_185 (by decide)
                                  refine G.iload C d4_261 rfl (n := 263) rfl ?_
                                  refine G.iconst C (v := (1 : Int32)) d4_263 (by decide) (n := 264) rfl ?_
                                  refine G.iload C d4_264 rfl (n := 266) rfl ?_
                                  refine G.iadd C d4_266 (n := 267) rfl ?_
                                  refine G.fold_int (z := (4 : Int32)) (by decide) ?_
                                  refine G.iadd C d4_267 (n := 268) rfl ?_
                                  refine G.fold_int (z := i + (4 : Int32)) rfl ?_
                                  refine G.istoreZ C d4_268 (l' := fun z => #[.val (.ref a), .val (.int o), .val (.int n), .val (.int v1), .val (.int z), .val (.int b6), .val (.int (3 : Int32)), .val (.int (128 : Int32)), .val (.int (191 : Int32)), .val (.int b176), .val (.int (4 : Int32))]) (fun _ => rfl) (n := 270) rfl ?_
                                  intro v186 hv186
                                  refine G.goto C d4_270 (by decide) (n := 7) (by decide) ?_
                                  have q_i2 : v186.toInt = i.toInt + 4 := by rw [hv186]; exact ixk (by decide) q_0 (by decide) (by omega)
                                  have q_sq : sqv vs i.toInt v1.toInt = 4 := by unfold sqv; exact sq_4 (by omega) (by omega) (by omega)
                                  exact ih v186 (.val (.int b6)) (.val (.int (3 : Int32))) (.val (.int (128 : Int32))) (.val (.int (191 : Int32))) (.val (.int b176)) (.val (.int (4 : Int32)))  (by omega) (by omega) (by rw [q_i2, ← q_sq]; exact wf_s q_W (by omega) (by omega)) (Or.inr ⟨_, rfl, rfl⟩) (Or.inr ⟨_, rfl, rfl⟩) (Or.inr ⟨_, rfl, rfl⟩) (Or.inr ⟨_, rfl, rfl⟩) (Or.inr ⟨_, rfl, rfl⟩) (Or.inr ⟨_, rfl, rfl⟩)
                                · have rs3 : ¬ (128 ≤ ub vs (i.toInt + 3) ∧ ub vs (i.toInt + 3) ≤ 191) := fun q => c250_184i ((a192s RS3).mpr q)
                                  refine G.iconst C (v := (0 : Int32)) d4_253 (by decide) (n := 254) rfl ?_
                                  refine G.ireturn C d4_254 (rfl) (by simp) (by decide) (by decide) ?_
                                  exact ⟨by rw [wf_f q_W (by omega) (by unfold sqv; exact sq_04 (by omega) (by omega))]; rfl, rfl⟩
                              · have rs2 : ¬ (128 ≤ ub vs (i.toInt + 2) ∧ ub vs (i.toInt + 2) ≤ 191) := fun q => c250_181i ((a192s RS2).mpr q)
                                refine G.iconst C (v := (0 : Int32)) d4_253 (by decide) (n := 254) rfl ?_
                                refine G.ireturn C d4_254 (rfl) (by simp) (by decide) (by decide) ?_
                                exact ⟨by rw [wf_f q_W (by omega) (by unfold sqv; exact sq_04 (by omega) (by omega))]; rfl, rfl⟩
                            · refine G.iconst C (v := (0 : Int32)) d4_224 (by decide) (n := 225) rfl ?_
                              refine G.ireturn C d4_225 (rfl) (by simp) (by decide) (by decide) ?_
                              exact ⟨by rw [wf_f q_W (by omega) (by unfold sqv; exact sq_04 (by omega) (by omega))]; rfl, rfl⟩
                        · refine G.iconst C (v := (0 : Int32)) d4_196 (by decide) (n := 197) rfl ?_
                          refine G.ireturn C d4_197 (rfl) (by simp) (by decide) (by decide) ?_
                          exact ⟨by rw [wf_f q_W (by omega) (by unfold sqv; exact sq_04 (by omega) (by omega))]; rfl, rfl⟩
                      · refine G.sipush C (v := (143 : Int32)) d4_172 (by decide) (n := 175) rfl ?_
                        refine G.goto C d4_175 (by decide) (n := 180) (by decide) ?_
                        refine G.istore C d4_180 (l' := #[.val (.ref a), .val (.int o), .val (.int n), .val (.int v1), .val (.int i), .val (.int b6), .val (.int (3 : Int32)), .val (.int (128 : Int32)), .val (.int (143 : Int32)), s9, s10]) rfl (n := 182) rfl ?_
                        refine G.goto C d4_182 (by decide) (n := 187) (by decide) ?_
                        have q_rem := isubk (x := v1) (y := i) (by omega) q_0
                        refine G.iloadN C d4_187 rfl (n := 188) rfl ?_
                        refine G.iload C d4_188 rfl (n := 190) rfl ?_
                        refine G.isub C d4_190 (n := 191) rfl ?_
                        refine G.iload C d4_191 rfl (n := 193) rfl ?_
                        refine G.icmp_gt C (A := (v1 - i).toInt) (B := 3) rfl (by decide) d4_193 (by decide) (by decide) (n := 196) (n' := 198) rfl (fun c193_187 => ?_) (fun c193_187 => ?_)
                        · refine G.aloadN C d4_198 rfl rfl (n := 199) rfl ?_
                          refine G.iload C d4_199 rfl (n := 201) rfl ?_
                          refine G.iconst C (v := (1 : Int32)) d4_201 (by decide) (n := 202) rfl ?_
                          refine G.iadd C d4_202 (n := 203) rfl ?_
                          have x188 : ((i + (1 : Int32))).toInt = i.toInt + 1 := ixk (by decide) q_0 (by decide) (by omega)
                          have x188n : ((i + (1 : Int32))).toInt.toNat = (i.toInt + 1).toNat := congrArg Int.toNat x188
                          refine G.baload C (x := (vs.getD (i.toInt + 1).toNat 0)) O_a (by omega) (by rw [x188n]; exact getD_at (by omega)) d4_203 (n := 204) rfl ?_
                          refine G.sipush C (v := (255 : Int32)) d4_204 (by decide) (n := 207) rfl ?_
                          refine G.iand C d4_207 (n := 208) rfl ?_
                          refine G.name_int ?_
                          intro b189 hb189
                          have R1 : 0 ≤ b189.toInt ∧ b189.toInt ≤ 255 := by rw [hb189]; exact u255 _
                          have U1 : b189.toInt = ub vs (i.toInt + 1) := by rw [hb189]; rfl
                          refine G.istore C d4_208 (l' := #[.val (.ref a), .val (.int o), .val (.int n), .val (.int v1), .val (.int i), .val (.int b6), .val (.int (3 : Int32)), .val (.int (128 : Int32)), .val (.int (143 : Int32)), .val (.int b189), s10]) (Jvm.Free.XS.store1 rfl hs9 rfl) (n := 210) rfl ?_
                          refine G.iload C d4_210 rfl (n := 212) rfl ?_
                          refine G.iload C d4_212 rfl (n := 214) rfl ?_
                          refine G.icmp_lt C (A := b189.toInt) (B := 128) rfl (by decide) d4_214 (by decide) (by decide) (n := 217) (n' := 224) rfl (fun c214_190 => ?_) (fun c214_190 => ?_)
                          · refine G.iconst C (v := (0 : Int32)) d4_224 (by decide) (n := 225) rfl ?_
                            refine G.ireturn C d4_225 (rfl) (by simp) (by decide) (by decide) ?_
                            exact ⟨by rw [wf_f q_W (by omega) (by unfold sqv; exact sq_04 (by omega) (by omega))]; rfl, rfl⟩
                          · refine G.iload C d4_217 rfl (n := 219) rfl ?_
                            refine G.iload C d4_219 rfl (n := 221) rfl ?_
                            refine G.icmp_le C (A := b189.toInt) (B := 143) rfl (by decide) d4_221 (by decide) (by decide) (n := 224) (n' := 226) rfl (fun c221_191 => ?_) (fun c221_191 => ?_)
                            · refine G.iconst C (v := (2 : Int32)) d4_226 (by decide) (n := 227) rfl ?_
                              refine G.istore C d4_227 (l' := #[.val (.ref a), .val (.int o), .val (.int n), .val (.int v1), .val (.int i), .val (.int b6), .val (.int (3 : Int32)), .val (.int (128 : Int32)), .val (.int (143 : Int32)), .val (.int b189), .val (.int (2 : Int32))]) (Jvm.Free.XS.store1 rfl hs10 rfl) (n := 229) rfl ?_
                              refine G.iload C d4_229 rfl (n := 231) rfl ?_
                              refine G.iload C d4_231 rfl (n := 233) rfl ?_
                              refine G.icmp_gt C (A := 2) (B := 3) (by decide) (by decide) d4_233 (by decide) (by decide) (n := 236) (n' := 261) rfl (fun c233_192 => ?_) (fun c233_192 => ?_)
                              · exact absurd c233_192 (by decide)
                              refine G.aloadN C d4_236 rfl rfl (n := 237) rfl ?_
                              refine G.iload C d4_237 rfl (n := 239) rfl ?_
                              refine G.iload C d4_239 rfl (n := 241) rfl ?_
                              refine G.iadd C d4_241 (n := 242) rfl ?_
                              have x193 : ((i + (2 : Int32))).toInt = i.toInt + 2 := ixk (by decide) q_0 (by decide) (by omega)
                              have x193n : ((i + (2 : Int32))).toInt.toNat = (i.toInt + 2).toNat := congrArg Int.toNat x193
                              refine G.baload C (x := (vs.getD (i.toInt + 2).toNat 0)) O_a (by omega) (by rw [x193n]; exact getD_at (by omega)) d4_242 (n := 243) rfl ?_
                              refine G.sipush C (v := (192 : Int32)) d4_243 (by decide) (n := 246) rfl ?_
                              have RS2 := Ints_byte O_a (i := (i.toInt + 2).toNat) (by omega)
                              have US2 : ub vs (i.toInt + 2) = ((vs.getD (i.toInt + 2).toNat 0) &&& (255 : Int32)).toInt := rfl
                              refine G.iand C d4_246 (n := 247) rfl ?_
                              refine G.sipush C (v := (128 : Int32)) d4_247 (by decide) (n := 250) rfl ?_
                              refine G.icmp_eq C (A := ((vs.getD (i.toInt + 2).toNat 0) &&& (192 : Int32)).toInt) (B := 128) rfl (by decide) d4_250 (by decide) (by decide) (n := 253) (n' := 255) rfl (fun c250_194 c250_194i => ?_) (fun c250_194 c250_194i => ?_)
                              · have rs2 : (128 ≤ ub vs (i.toInt + 2) ∧ ub vs (i.toInt + 2) ≤ 191) := (a192s RS2).mp c250_194i
                                refine G.iincK C (v := (1 : Int32)) (z := (3 : Int32)) d4_255 (by decide) rfl (by decide) (l' := #[.val (.ref a), .val (.int o), .val (.int n), .val (.int v1), .val (.int i), .val (.int b6), .val (.int (3 : Int32)), .val (.int (128 : Int32)), .val (.int (143 : Int32)), .val (.int b189), .val (.int (3 : Int32))]) rfl (n := 258) rfl ?_
                                refine G.goto C d4_258 (by decide) (n := 229) (by decide) ?_
                                refine G.iload C d4_229 rfl (n := 231) rfl ?_
                                refine G.iload C d4_231 rfl (n := 233) rfl ?_
                                refine G.icmp_gt C (A := 3) (B := 3) (by decide) (by decide) d4_233 (by decide) (by decide) (n := 236) (n' := 261) rfl (fun c233_195 => ?_) (fun c233_195 => ?_)
                                · exact absurd c233_195 (by decide)
                                refine G.aloadN C d4_236 rfl rfl (n := 237) rfl ?_
                                refine G.iload C d4_237 rfl (n := 239) rfl ?_
                                refine G.iload C d4_239 rfl (n := 241) rfl ?_
                                refine G.iadd C d4_241 (n := 242) rfl ?_
                                have x196 : ((i + (3 : Int32))).toInt = i.toInt + 3 := ixk (by decide) q_0 (by decide) (by omega)
                                have x196n : ((i + (3 : Int32))).toInt.toNat = (i.toInt + 3).toNat := congrArg Int.toNat x196
                                refine G.baload C (x := (vs.getD (i.toInt + 3).toNat 0)) O_a (by omega) (by rw [x196n]; exact getD_at (by omega)) d4_242 (n := 243) rfl ?_
                                refine G.sipush C (v := (192 : Int32)) d4_243 (by decide) (n := 246) rfl ?_
                                have RS3 := Ints_byte O_a (i := (i.toInt + 3).toNat) (by omega)
                                have US3 : ub vs (i.toInt + 3) = ((vs.getD (i.toInt + 3).toNat 0) &&& (255 : Int32)).toInt := rfl
                                refine G.iand C d4_246 (n := 247) rfl ?_
                                refine G.sipush C (v := (128 : Int32)) d4_247 (by decide) (n := 250) rfl ?_
                                refine G.icmp_eq C (A := ((vs.getD (i.toInt + 3).toNat 0) &&& (192 : Int32)).toInt) (B := 128) rfl (by decide) d4_250 (by decide) (by decide) (n := 253) (n' := 255) rfl (fun c250_197 c250_197i => ?_) (fun c250_197 c250_197i => ?_)
                                · have rs3 : (128 ≤ ub vs (i.toInt + 3) ∧ ub vs (i.toInt + 3) ≤ 191) := (a192s RS3).mp c250_197i
                                  refine G.iincK C (v := (1 : Int32)) (z := (4 : Int32)) d4_255 (by decide) rfl (by decide) (l' := #[.val (.ref a), .val (.int o), .val (.int n), .val (.int v1), .val (.int i), .val (.int b6), .val (.int (3 : Int32)), .val (.int (128 : Int32)), .val (.int (143 : Int32)), .val (.int b189), .val (.int (4 : Int32))]) rfl (n := 258) rfl ?_
                                  refine G.goto C d4_258 (by decide) (n := 229) (by decide) ?_
                                  refine G.iload C d4_229 rfl (n := 231) rfl ?_
                                  refine G.iload C d4_231 rfl (n := 233) rfl ?_
                                  refine G.icmp_gt C (A := 4) (B := 3) (by decide) (by decide) d4_233 (by decide) (by decide) (n := 236) (n' := 261) rfl (fun c233_198 => ?_) (fun c233_198 => ?_)
                                  rotate_left
                                  · exact absurd c233_198 (by decide)
                                  refine G.iload C d4_261 rfl (n := 263) rfl ?_
                                  refine G.iconst C (v := (1 : Int32)) d4_263 (by decide) (n := 264) rfl ?_
                                  refine G.iload C d4_264 rfl (n := 266) rfl ?_
                                  refine G.iadd C d4_266 (n := 267) rfl ?_
                                  refine G.fold_int (z := (4 : Int32)) (by decide) ?_
                                  refine G.iadd C d4_267 (n := 268) rfl ?_
                                  refine G.fold_int (z := i + (4 : Int32)) rfl ?_
                                  refine G.istoreZ C d4_268 (l' := fun z => #[.val (.ref a), .val (.int o), .val (.int n), .val (.int v1), .val (.int z), .val (.int b6), .val (.int (3 : Int32)), .val (.int (128 : Int32)), .val (.int (143 : Int32)), .val (.int b189), .val (.int (4 : Int32))]) (fun _ => rfl) (n := 270) rfl ?_
                                  intro v199 hv199
                                  refine G.goto C d4_270 (by decide) (n := 7) (by decide) ?_
                                  have q_i2 : v199.toInt = i.toInt + 4 := by rw [hv199]; exact ixk (by decide) q_0 (by decide) (by omega)
                                  have q_sq : sqv vs i.toInt v1.toInt = 4 := by unfold sqv; exact sq_4 (by omega) (by omega) (by omega)
                                  exact ih v199 (.val (.int b6)) (.val (.int (3 : Int32))) (.val (.int (128 : Int32))) (.val (.int (143 : Int32))) (.val (.int b189)) (.val (.int (4 : Int32)))  (by omega) (by omega) (by rw [q_i2, ← q_sq]; exact wf_s q_W (by omega) (by omega)) (Or.inr ⟨_, rfl, rfl⟩) (Or.inr ⟨_, rfl, rfl⟩) (Or.inr ⟨_, rfl, rfl⟩) (Or.inr ⟨_, rfl, rfl⟩) (Or.inr ⟨_, rfl, rfl⟩) (Or.inr ⟨_, rfl, rfl⟩)
                                · have rs3 : ¬ (128 ≤ ub vs (i.toInt + 3) ∧ ub vs (i.toInt + 3) ≤ 191) := fun q => c250_197i ((a192s RS3).mpr q)
                                  refine G.iconst C (v := (0 : Int32)) d4_253 (by decide) (n := 254) rfl ?_
                                  refine G.ireturn C d4_254 (rfl) (by simp) (by decide) (by decide) ?_
                                  exact ⟨by rw [wf_f q_W (by omega) (by unfold sqv; exact sq_04 (by omega) (by omega))]; rfl, rfl⟩
                              · have rs2 : ¬ (128 ≤ ub vs (i.toInt + 2) ∧ ub vs (i.toInt + 2) ≤ 191) := fun q => c250_194i ((a192s RS2).mpr q)
                                refine G.iconst C (v := (0 : Int32)) d4_253 (by decide) (n := 254) rfl ?_
                                refine G.ireturn C d4_254 (rfl) (by simp) (by decide) (by decide) ?_
                                exact ⟨by rw [wf_f q_W (by omega) (by unfold sqv; exact sq_04 (by omega) (by omega))]; rfl, rfl⟩
                            · refine G.iconst C (v := (0 : Int32)) d4_224 (by decide) (n := 225) rfl ?_
                              refine G.ireturn C d4_225 (rfl) (by simp) (by decide) (by decide) ?_
                              exact ⟨by rw [wf_f q_W (by omega) (by unfold sqv; exact sq_04 (by omega) (by omega))]; rfl, rfl⟩
                        · refine G.iconst C (v := (0 : Int32)) d4_196 (by decide) (n := 197) rfl ?_
                          refine G.ireturn C d4_197 (rfl) (by simp) (by decide) (by decide) ?_
                          exact ⟨by rw [wf_f q_W (by omega) (by unfold sqv; exact sq_04 (by omega) (by omega))]; rfl, rfl⟩
                    · refine G.sipush C (v := (144 : Int32)) d4_154 (by decide) (n := 157) rfl ?_
                      refine G.goto C d4_157 (by decide) (n := 162) (by decide) ?_
                      refine G.istore C d4_162 (l' := #[.val (.ref a), .val (.int o), .val (.int n), .val (.int v1), .val (.int i), .val (.int b6), .val (.int (3 : Int32)), .val (.int (144 : Int32)), .val (.int (191 : Int32)), s9, s10]) rfl (n := 164) rfl ?_
                      refine G.iload C d4_164 rfl (n := 166) rfl ?_
                      refine G.sipush C (v := (244 : Int32)) d4_166 (by decide) (n := 169) rfl ?_
                      refine G.icmp_ne C (A := b6.toInt) (B := 244) rfl (by decide) d4_169 (by decide) (by decide) (n := 172) (n' := 178) rfl (fun c169_200 c169_200i => ?_) (fun c169_200 c169_200i => ?_)
                      · refine G.iload C d4_178 rfl (n := 180) rfl ?_
                        refine G.istore C d4_180 (l' := #[.val (.ref a), .val (.int o), .val (.int n), .val (.int v1), .val (.int i), .val (.int b6), .val (.int (3 : Int32)), .val (.int (144 : Int32)), .val (.int (191 : Int32)), s9, s10]) rfl (n := 182) rfl ?_
                        refine G.goto C d4_182 (by decide) (n := 187) (by decide) ?_
                        have q_rem := isubk (x := v1) (y := i) (by omega) q_0
                        refine G.iloadN C d4_187 rfl (n := 188) rfl ?_
                        refine G.iload C d4_188 rfl (n := 190) rfl ?_
                        refine G.isub C d4_190 (n := 191) rfl ?_
                        refine G.iload C d4_191 rfl (n := 193) rfl ?_
                        refine G.icmp_gt C (A := (v1 - i).toInt) (B := 3) rfl (by decide) d4_193 (by decide) (by decide) (n := 196) (n' := 198) rfl (fun c193_201 => ?_) (fun c193_201 => ?_)
                        · refine G.aloadN C d4_198 rfl rfl (n := 199) rfl ?_
                          refine G.iload C d4_199 rfl (n := 201) rfl ?_
                          refine G.iconst C (v := (1 : Int32)) d4_201 (by decide) (n := 202) rfl ?_
                          refine G.iadd C d4_202 (n := 203) rfl ?_
                          have x202 : ((i + (1 : Int32))).toInt = i.toInt + 1 := ixk (by decide) q_0 (by decide) (by omega)
                          have x202n : ((i + (1 : Int32))).toInt.toNat = (i.toInt + 1).toNat := congrArg Int.toNat x202
                          refine G.baload C (x := (vs.getD (i.toInt + 1).toNat 0)) O_a (by omega) (by rw [x202n]; exact getD_at (by omega)) d4_203 (n := 204) rfl ?_
                          refine G.sipush C (v := (255 : Int32)) d4_204 (by decide) (n := 207) rfl ?_
                          refine G.iand C d4_207 (n := 208) rfl ?_
                          refine G.name_int ?_
                          intro b203 hb203
                          have R1 : 0 ≤ b203.toInt ∧ b203.toInt ≤ 255 := by rw [hb203]; exact u255 _
                          have U1 : b203.toInt = ub vs (i.toInt + 1) := by rw [hb203]; rfl
                          refine G.istore C d4_208 (l' := #[.val (.ref a), .val (.int o), .val (.int n), .val (.int v1), .val (.int i), .val (.int b6), .val (.int (3 : Int32)), .val (.int (144 : Int32)), .val (.int (191 : Int32)), .val (.int b203), s10]) (Jvm.Free.XS.store1 rfl hs9 rfl) (n := 210) rfl ?_
                          refine G.iload C d4_210 rfl (n := 212) rfl ?_
                          refine G.iload C d4_212 rfl (n := 214) rfl ?_
                          refine G.icmp_lt C (A := b203.toInt) (B := 144) rfl (by decide) d4_214 (by decide) (by decide) (n := 217) (n' := 224) rfl (fun c214_204 => ?_) (fun c214_204 => ?_)
                          · refine G.iconst C (v := (0 : Int32)) d4_224 (by decide) (n := 225) rfl ?_
                            refine G.ireturn C d4_225 (rfl) (by simp) (by decide) (by decide) ?_
                            exact ⟨by rw [wf_f q_W (by omega) (by unfold sqv; exact sq_04 (by omega) (by omega))]; rfl, rfl⟩
                          · refine G.iload C d4_217 rfl (n := 219) rfl ?_
                            refine G.iload C d4_219 rfl (n := 221) rfl ?_
                            refine G.icmp_le C (A := b203.toInt) (B := 191) rfl (by decide) d4_221 (by decide) (by decide) (n := 224) (n' := 226) rfl (fun c221_205 => ?_) (fun c221_205 => ?_)
                            · refine G.iconst C (v := (2 : Int32)) d4_226 (by decide) (n := 227) rfl ?_
                              refine G.istore C d4_227 (l' := #[.val (.ref a), .val (.int o), .val (.int n), .val (.int v1), .val (.int i), .val (.int b6), .val (.int (3 : Int32)), .val (.int (144 : Int32)), .val (.int (191 : Int32)), .val (.int b203), .val (.int (2 : Int32))]) (Jvm.Free.XS.store1 rfl hs10 rfl) (n := 229) rfl ?_
                              refine G.iload C d4_229 rfl (n := 231) rfl ?_
                              refine G.iload C d4_231 rfl (n := 233) rfl ?_
                              refine G.icmp_gt C (A := 2) (B := 3) (by decide) (by decide) d4_233 (by decide) (by decide) (n := 236) (n' := 261) rfl (fun c233_206 => ?_) (fun c233_206 => ?_)
                              · exact absurd c233_206 (by decide)
                              refine G.aloadN C d4_236 rfl rfl (n := 237) rfl ?_
                              refine G.iload C d4_237 rfl (n := 239) rfl ?_
                              refine G.iload C d4_239 rfl (n := 241) rfl ?_
                              refine G.iadd C d4_241 (n := 242) rfl ?_
                              have x207 : ((i + (2 : Int32))).toInt = i.toInt + 2 := ixk (by decide) q_0 (by decide) (by omega)
                              have x207n : ((i + (2 : Int32))).toInt.toNat = (i.toInt + 2).toNat := congrArg Int.toNat x207
                              refine G.baload C (x := (vs.getD (i.toInt + 2).toNat 0)) O_a (by omega) (by rw [x207n]; exact getD_at (by omega)) d4_242 (n := 243) rfl ?_
                              refine G.sipush C (v := (192 : Int32)) d4_243 (by decide) (n := 246) rfl ?_
                              have RS2 := Ints_byte O_a (i := (i.toInt + 2).toNat) (by omega)
                              have US2 : ub vs (i.toInt + 2) = ((vs.getD (i.toInt + 2).toNat 0) &&& (255 : Int32)).toInt := rfl
                              refine G.iand C d4_246 (n := 247) rfl ?_
                              refine G.sipush C (v := (128 : Int32)) d4_247 (by decide) (n := 250) rfl ?_
                              refine G.icmp_eq C (A := ((vs.getD (i.toInt + 2).toNat 0) &&& (192 : Int32)).toInt) (B := 128) rfl (by decide) d4_250 (by decide) (by decide) (n := 253) (n' := 255) rfl (fun c250_208 c250_208i => ?_) (fun c250_208 c250_208i => ?_)
                              · have rs2 : (128 ≤ ub vs (i.toInt + 2) ∧ ub vs (i.toInt + 2) ≤ 191) := (a192s RS2).mp c250_208i
                                refine G.iincK C (v := (1 : Int32)) (z := (3 : Int32)) d4_255 (by decide) rfl (by decide) (l' := #[.val (.ref a), .val (.int o), .val (.int n), .val (.int v1), .val (.int i), .val (.int b6), .val (.int (3 : Int32)), .val (.int (144 : Int32)), .val (.int (191 : Int32)), .val (.int b203), .val (.int (3 : Int32))]) rfl (n := 258) rfl ?_
                                refine G.goto C d4_258 (by decide) (n := 229) (by decide) ?_
                                refine G.iload C d4_229 rfl (n := 231) rfl ?_
                                refine G.iload C d4_231 rfl (n := 233) rfl ?_
                                refine G.icmp_gt C (A := 3) (B := 3) (by decide) (by decide) d4_233 (by decide) (by decide) (n := 236) (n' := 261) rfl (fun c233_209 => ?_) (fun c233_209 => ?_)
                                · exact absurd c233_209 (by decide)
                                refine G.aloadN C d4_236 rfl rfl (n := 237) rfl ?_
                                refine G.iload C d4_237 rfl (n := 239) rfl ?_
                                refine G.iload C d4_239 rfl (n := 241) rfl ?_
                                refine G.iadd C d4_241 (n := 242) rfl ?_
                                have x210 : ((i + (3 : Int32))).toInt = i.toInt + 3 := ixk (by decide) q_0 (by decide) (by omega)
                                have x210n : ((i + (3 : Int32))).toInt.toNat = (i.toInt + 3).toNat := congrArg Int.toNat x210
                                refine G.baload C (x := (vs.getD (i.toInt + 3).toNat 0)) O_a (by omega) (by rw [x210n]; exact getD_at (by omega)) d4_242 (n := 243) rfl ?_
                                refine G.sipush C (v := (192 : Int32)) d4_243 (by decide) (n := 246) rfl ?_
                                have RS3 := Ints_byte O_a (i := (i.toInt + 3).toNat) (by omega)
                                have US3 : ub vs (i.toInt + 3) = ((vs.getD (i.toInt + 3).toNat 0) &&& (255 : Int32)).toInt := rfl
                                refine G.iand C d4_246 (n := 247) rfl ?_
                                refine G.sipush C (v := (128 : Int32)) d4_247 (by decide) (n := 250) rfl ?_
                                refine G.icmp_eq C (A := ((vs.getD (i.toInt + 3).toNat 0) &&& (192 : Int32)).toInt) (B := 128) rfl (by decide) d4_250 (by decide) (by decide) (n := 253) (n' := 255) rfl (fun c250_211 c250_211i => ?_) (fun c250_211 c250_211i => ?_)
                                · have rs3 : (128 ≤ ub vs (i.toInt + 3) ∧ ub vs (i.toInt + 3) ≤ 191) := (a192s RS3).mp c250_211i
                                  refine G.iincK C (v := (1 : Int32)) (z := (4 : Int32)) d4_255 (by decide) rfl (by decide) (l' := #[.val (.ref a), .val (.int o), .val (.int n), .val (.int v1), .val (.int i), .val (.int b6), .val (.int (3 : Int32)), .val (.int (144 : Int32)), .val (.int (191 : Int32)), .val (.int b203), .val (.int (4 : Int32))]) rfl (n := 258) rfl ?_
                                  refine G.goto C d4_258 (by decide) (n := 229) (by decide) ?_
                                  refine G.iload C d4_229 rfl (n := 231) rfl ?_
                                  refine G.iload C d4_231 rfl (n := 233) rfl ?_
                                  refine G.icmp_gt C (A := 4) (B := 3) (by decide) (by decide) d4_233 (by decide) (by decide) (n := 236) (n' := 261) rfl (fun c233_212 => ?_) (fun c233_212 => ?_)
                                  rotate_left
                                  · exact absurd c233_212 (by decide)
                                  refine G.iload C d4_261 rfl (n := 263) rfl ?_
                                  refine G.iconst C (v := (1 : Int32)) d4_263 (by decide) (n := 264) rfl ?_
                                  refine G.iload C d4_264 rfl (n := 266) rfl ?_
                                  refine G.iadd C d4_266 (n := 267) rfl ?_
                                  refine G.fold_int (z := (4 : Int32)) (by decide) ?_
                                  refine G.iadd C d4_267 (n := 268) rfl ?_
                                  refine G.fold_int (z := i + (4 : Int32)) rfl ?_
                                  refine G.istoreZ C d4_268 (l' := fun z => #[.val (.ref a), .val (.int o), .val (.int n), .val (.int v1), .val (.int z), .val (.int b6), .val (.int (3 : Int32)), .val (.int (144 : Int32)), .val (.int (191 : Int32)), .val (.int b203), .val (.int (4 : Int32))]) (fun _ => rfl) (n := 270) rfl ?_
                                  intro v213 hv213
                                  refine G.goto C d4_270 (by decide) (n := 7) (by decide) ?_
                                  have q_i2 : v213.toInt = i.toInt + 4 := by rw [hv213]; exact ixk (by decide) q_0 (by decide) (by omega)
                                  have q_sq : sqv vs i.toInt v1.toInt = 4 := by unfold sqv; exact sq_4 (by omega) (by omega) (by omega)
                                  exact ih v213 (.val (.int b6)) (.val (.int (3 : Int32))) (.val (.int (144 : Int32))) (.val (.int (191 : Int32))) (.val (.int b203)) (.val (.int (4 : Int32)))  (by omega) (by omega) (by rw [q_i2, ← q_sq]; exact wf_s q_W (by omega) (by omega)) (Or.inr ⟨_, rfl, rfl⟩) (Or.inr ⟨_, rfl, rfl⟩) (Or.inr ⟨_, rfl, rfl⟩) (Or.inr ⟨_, rfl, rfl⟩) (Or.inr ⟨_, rfl, rfl⟩) (Or.inr ⟨_, rfl, rfl⟩)
                                · have rs3 : ¬ (128 ≤ ub vs (i.toInt + 3) ∧ ub vs (i.toInt + 3) ≤ 191) := fun q => c250_211i ((a192s RS3).mpr q)
                                  refine G.iconst C (v := (0 : Int32)) d4_253 (by decide) (n := 254) rfl ?_
                                  refine G.ireturn C d4_254 (rfl) (by simp) (by decide) (by decide) ?_
                                  exact ⟨by rw [wf_f q_W (by omega) (by unfold sqv; exact sq_04 (by omega) (by omega))]; rfl, rfl⟩
                              · have rs2 : ¬ (128 ≤ ub vs (i.toInt + 2) ∧ ub vs (i.toInt + 2) ≤ 191) := fun q => c250_208i ((a192s RS2).mpr q)
                                refine G.iconst C (v := (0 : Int32)) d4_253 (by decide) (n := 254) rfl ?_
                                refine G.ireturn C d4_254 (rfl) (by simp) (by decide) (by decide) ?_
                                exact ⟨by rw [wf_f q_W (by omega) (by unfold sqv; exact sq_04 (by omega) (by omega))]; rfl, rfl⟩
                            · refine G.iconst C (v := (0 : Int32)) d4_224 (by decide) (n := 225) rfl ?_
                              refine G.ireturn C d4_225 (rfl) (by simp) (by decide) (by decide) ?_
                              exact ⟨by rw [wf_f q_W (by omega) (by unfold sqv; exact sq_04 (by omega) (by omega))]; rfl, rfl⟩
                        · refine G.iconst C (v := (0 : Int32)) d4_196 (by decide) (n := 197) rfl ?_
                          refine G.ireturn C d4_197 (rfl) (by simp) (by decide) (by decide) ?_
                          exact ⟨by rw [wf_f q_W (by omega) (by unfold sqv; exact sq_04 (by omega) (by omega))]; rfl, rfl⟩
                      · refine G.sipush C (v := (143 : Int32)) d4_172 (by decide) (n := 175) rfl ?_
                        refine G.goto C d4_175 (by decide) (n := 180) (by decide) ?_
                        refine G.istore C d4_180 (l' := #[.val (.ref a), .val (.int o), .val (.int n), .val (.int v1), .val (.int i), .val (.int b6), .val (.int (3 : Int32)), .val (.int (144 : Int32)), .val (.int (143 : Int32)), s9, s10]) rfl (n := 182) rfl ?_
                        refine G.goto C d4_182 (by decide) (n := 187) (by decide) ?_
                        have q_rem := isubk (x := v1) (y := i) (by omega) q_0
                        refine G.iloadN C d4_187 rfl (n := 188) rfl ?_
                        refine G.iload C d4_188 rfl (n := 190) rfl ?_
                        refine G.isub C d4_190 (n := 191) rfl ?_
                        refine G.iload C d4_191 rfl (n := 193) rfl ?_
                        refine G.icmp_gt C (A := (v1 - i).toInt) (B := 3) rfl (by decide) d4_193 (by decide) (by decide) (n := 196) (n' := 198) rfl (fun c193_214 => ?_) (fun c193_214 => ?_)
                        · refine G.aloadN C d4_198 rfl rfl (n := 199) rfl ?_
                          refine G.iload C d4_199 rfl (n := 201) rfl ?_
                          refine G.iconst C (v := (1 : Int32)) d4_201 (by decide) (n := 202) rfl ?_
                          refine G.iadd C d4_202 (n := 203) rfl ?_
                          have x215 : ((i + (1 : Int32))).toInt = i.toInt + 1 := ixk (by decide) q_0 (by decide) (by omega)
                          have x215n : ((i + (1 : Int32))).toInt.toNat = (i.toInt + 1).toNat := congrArg Int.toNat x215
                          refine G.baload C (x := (vs.getD (i.toInt + 1).toNat 0)) O_a (by omega) (by rw [x215n]; exact getD_at (by omega)) d4_203 (n := 204) rfl ?_
                          refine G.sipush C (v := (255 : Int32)) d4_204 (by decide) (n := 207) rfl ?_
                          refine G.iand C d4_207 (n := 208) rfl ?_
                          refine G.name_int ?_
                          intro b216 hb216
                          have R1 : 0 ≤ b216.toInt ∧ b216.toInt ≤ 255 := by rw [hb216]; exact u255 _
                          have U1 : b216.toInt = ub vs (i.toInt + 1) := by rw [hb216]; rfl
                          refine G.istore C d4_208 (l' := #[.val (.ref a), .val (.int o), .val (.int n), .val (.int v1), .val (.int i), .val (.int b6), .val (.int (3 : Int32)), .val (.int (144 : Int32)), .val (.int (143 : Int32)), .val (.int b216), s10]) (Jvm.Free.XS.store1 rfl hs9 rfl) (n := 210) rfl ?_
                          refine G.iload C d4_210 rfl (n := 212) rfl ?_
                          refine G.iload C d4_212 rfl (n := 214) rfl ?_
                          refine G.icmp_lt C (A := b216.toInt) (B := 144) rfl (by decide) d4_214 (by decide) (by decide) (n := 217) (n' := 224) rfl (fun c214_217 => ?_) (fun c214_217 => ?_)
                          · refine G.iconst C (v := (0 : Int32)) d4_224 (by decide) (n := 225) rfl ?_
                            refine G.ireturn C d4_225 (rfl) (by simp) (by decide) (by decide) ?_
                            exact ⟨by rw [wf_f q_W (by omega) (by unfold sqv; exact sq_04 (by omega) (by omega))]; rfl, rfl⟩
                          · refine G.iload C d4_217 rfl (n := 219) rfl ?_
                            refine G.iload C d4_219 rfl (n := 221) rfl ?_
                            refine G.icmp_le C (A := b216.toInt) (B := 143) rfl (by decide) d4_221 (by decide) (by decide) (n := 224) (n' := 226) rfl (fun c221_218 => ?_) (fun c221_218 => ?_)
                            · refine G.iconst C (v := (2 : Int32)) d4_226 (by decide) (n := 227) rfl ?_
                              refine G.istore C d4_227 (l' := #[.val (.ref a), .val (.int o), .val (.int n), .val (.int v1), .val (.int i), .val (.int b6), .val (.int (3 : Int32)), .val (.int (144 : Int32)), .val (.int (143 : Int32)), .val (.int b216), .val (.int (2 : Int32))]) (Jvm.Free.XS.store1 rfl hs10 rfl) (n := 229) rfl ?_
                              refine G.iload C d4_229 rfl (n := 231) rfl ?_
                              refine G.iload C d4_231 rfl (n := 233) rfl ?_
                              refine G.icmp_gt C (A := 2) (B := 3) (by decide) (by decide) d4_233 (by decide) (by decide) (n := 236) (n' := 261) rfl (fun c233_219 => ?_) (fun c233_219 => ?_)
                              · exact absurd c233_219 (by decide)
                              refine G.aloadN C d4_236 rfl rfl (n := 237) rfl ?_
                              refine G.iload C d4_237 rfl (n := 239) rfl ?_
                              refine G.iload C d4_239 rfl (n := 241) rfl ?_
                              refine G.iadd C d4_241 (n := 242) rfl ?_
                              have x220 : ((i + (2 : Int32))).toInt = i.toInt + 2 := ixk (by decide) q_0 (by decide) (by omega)
                              have x220n : ((i + (2 : Int32))).toInt.toNat = (i.toInt + 2).toNat := congrArg Int.toNat x220
                              refine G.baload C (x := (vs.getD (i.toInt + 2).toNat 0)) O_a (by omega) (by rw [x220n]; exact getD_at (by omega)) d4_242 (n := 243) rfl ?_
                              refine G.sipush C (v := (192 : Int32)) d4_243 (by decide) (n := 246) rfl ?_
                              have RS2 := Ints_byte O_a (i := (i.toInt + 2).toNat) (by omega)
                              have US2 : ub vs (i.toInt + 2) = ((vs.getD (i.toInt + 2).toNat 0) &&& (255 : Int32)).toInt := rfl
                              refine G.iand C d4_246 (n := 247) rfl ?_
                              refine G.sipush C (v := (128 : Int32)) d4_247 (by decide) (n := 250) rfl ?_
                              refine G.icmp_eq C (A := ((vs.getD (i.toInt + 2).toNat 0) &&& (192 : Int32)).toInt) (B := 128) rfl (by decide) d4_250 (by decide) (by decide) (n := 253) (n' := 255) rfl (fun c250_221 c250_221i => ?_) (fun c250_221 c250_221i => ?_)
                              · have rs2 : (128 ≤ ub vs (i.toInt + 2) ∧ ub vs (i.toInt + 2) ≤ 191) := (a192s RS2).mp c250_221i
                                refine G.iincK C (v := (1 : Int32)) (z := (3 : Int32)) d4_255 (by decide) rfl (by decide) (l' := #[.val (.ref a), .val (.int o), .val (.int n), .val (.int v1), .val (.int i), .val (.int b6), .val (.int (3 : Int32)), .val (.int (144 : Int32)), .val (.int (143 : Int32)), .val (.int b216), .val (.int (3 : Int32))]) rfl (n := 258) rfl ?_
                                refine G.goto C d4_258 (by decide) (n := 229) (by decide) ?_
                                refine G.iload C d4_229 rfl (n := 231) rfl ?_
                                refine G.iload C d4_231 rfl (n := 233) rfl ?_
                                refine G.icmp_gt C (A := 3) (B := 3) (by decide) (by decide) d4_233 (by decide) (by decide) (n := 236) (n' := 261) rfl (fun c233_222 => ?_) (fun c233_222 => ?_)
                                · exact absurd c233_222 (by decide)
                                refine G.aloadN C d4_236 rfl rfl (n := 237) rfl ?_
                                refine G.iload C d4_237 rfl (n := 239) rfl ?_
                                refine G.iload C d4_239 rfl (n := 241) rfl ?_
                                refine G.iadd C d4_241 (n := 242) rfl ?_
                                have x223 : ((i + (3 : Int32))).toInt = i.toInt + 3 := ixk (by decide) q_0 (by decide) (by omega)
                                have x223n : ((i + (3 : Int32))).toInt.toNat = (i.toInt + 3).toNat := congrArg Int.toNat x223
                                refine G.baload C (x := (vs.getD (i.toInt + 3).toNat 0)) O_a (by omega) (by rw [x223n]; exact getD_at (by omega)) d4_242 (n := 243) rfl ?_
                                refine G.sipush C (v := (192 : Int32)) d4_243 (by decide) (n := 246) rfl ?_
                                have RS3 := Ints_byte O_a (i := (i.toInt + 3).toNat) (by omega)
                                have US3 : ub vs (i.toInt + 3) = ((vs.getD (i.toInt + 3).toNat 0) &&& (255 : Int32)).toInt := rfl
                                refine G.iand C d4_246 (n := 247) rfl ?_
                                refine G.sipush C (v := (128 : Int32)) d4_247 (by decide) (n := 250) rfl ?_
                                refine G.icmp_eq C (A := ((vs.getD (i.toInt + 3).toNat 0) &&& (192 : Int32)).toInt) (B := 128) rfl (by decide) d4_250 (by decide) (by decide) (n := 253) (n' := 255) rfl (fun c250_224 c250_224i => ?_) (fun c250_224 c250_224i => ?_)
                                · have rs3 : (128 ≤ ub vs (i.toInt + 3) ∧ ub vs (i.toInt + 3) ≤ 191) := (a192s RS3).mp c250_224i
                                  refine G.iincK C (v := (1 : Int32)) (z := (4 : Int32)) d4_255 (by decide) rfl (by decide) (l' := #[.val (.ref a), .val (.int o), .val (.int n), .val (.int v1), .val (.int i), .val (.int b6), .val (.int (3 : Int32)), .val (.int (144 : Int32)), .val (.int (143 : Int32)), .val (.int b216), .val (.int (4 : Int32))]) rfl (n := 258) rfl ?_
                                  refine G.goto C d4_258 (by decide) (n := 229) (by decide) ?_
                                  refine G.iload C d4_229 rfl (n := 231) rfl ?_
                                  refine G.iload C d4_231 rfl (n := 233) rfl ?_
                                  refine G.icmp_gt C (A := 4) (B := 3) (by decide) (by decide) d4_233 (by decide) (by decide) (n := 236) (n' := 261) rfl (fun c233_225 => ?_) (fun c233_225 => ?_)
                                  rotate_left
                                  · exact absurd c233_225 (by decide)
                                  refine G.iload C d4_261 rfl (n := 263) rfl ?_
                                  refine G.iconst C (v := (1 : Int32)) d4_263 (by decide) (n := 264) rfl ?_
                                  refine G.iload C d4_264 rfl (n := 266) rfl ?_
                                  refine G.iadd C d4_266 (n := 267) rfl ?_
                                  refine G.fold_int (z := (4 : Int32)) (by decide) ?_
                                  refine G.iadd C d4_267 (n := 268) rfl ?_
                                  refine G.fold_int (z := i + (4 : Int32)) rfl ?_
                                  refine G.istoreZ C d4_268 (l' := fun z => #[.val (.ref a), .val (.int o), .val (.int n), .val (.int v1), .val (.int z), .val (.int b6), .val (.int (3 : Int32)), .val (.int (144 : Int32)), .val (.int (143 : Int32)), .val (.int b216), .val (.int (4 : Int32))]) (fun _ => rfl) (n := 270) rfl ?_
                                  intro v226 hv226
                                  refine G.goto C d4_270 (by decide) (n := 7) (by decide) ?_
                                  have q_i2 : v226.toInt = i.toInt + 4 := by rw [hv226]; exact ixk (by decide) q_0 (by decide) (by omega)
                                  have q_sq : sqv vs i.toInt v1.toInt = 4 := by unfold sqv; exact sq_4 (by omega) (by omega) (by omega)
                                  exact ih v226 (.val (.int b6)) (.val (.int (3 : Int32))) (.val (.int (144 : Int32))) (.val (.int (143 : Int32))) (.val (.int b216)) (.val (.int (4 : Int32)))  (by omega) (by omega) (by rw [q_i2, ← q_sq]; exact wf_s q_W (by omega) (by omega)) (Or.inr ⟨_, rfl, rfl⟩) (Or.inr ⟨_, rfl, rfl⟩) (Or.inr ⟨_, rfl, rfl⟩) (Or.inr ⟨_, rfl, rfl⟩) (Or.inr ⟨_, rfl, rfl⟩) (Or.inr ⟨_, rfl, rfl⟩)
                                · have rs3 : ¬ (128 ≤ ub vs (i.toInt + 3) ∧ ub vs (i.toInt + 3) ≤ 191) := fun q => c250_224i ((a192s RS3).mpr q)
                                  refine G.iconst C (v := (0 : Int32)) d4_253 (by decide) (n := 254) rfl ?_
                                  refine G.ireturn C d4_254 (rfl) (by simp) (by decide) (by decide) ?_
                                  exact ⟨by rw [wf_f q_W (by omega) (by unfold sqv; exact sq_04 (by omega) (by omega))]; rfl, rfl⟩
                              · have rs2 : ¬ (128 ≤ ub vs (i.toInt + 2) ∧ ub vs (i.toInt + 2) ≤ 191) := fun q => c250_221i ((a192s RS2).mpr q)
                                refine G.iconst C (v := (0 : Int32)) d4_253 (by decide) (n := 254) rfl ?_
                                refine G.ireturn C d4_254 (rfl) (by simp) (by decide) (by decide) ?_
                                exact ⟨by rw [wf_f q_W (by omega) (by unfold sqv; exact sq_04 (by omega) (by omega))]; rfl, rfl⟩
                            · refine G.iconst C (v := (0 : Int32)) d4_224 (by decide) (n := 225) rfl ?_
                              refine G.ireturn C d4_225 (rfl) (by simp) (by decide) (by decide) ?_
                              exact ⟨by rw [wf_f q_W (by omega) (by unfold sqv; exact sq_04 (by omega) (by omega))]; rfl, rfl⟩
                        · refine G.iconst C (v := (0 : Int32)) d4_196 (by decide) (n := 197) rfl ?_
                          refine G.ireturn C d4_197 (rfl) (by simp) (by decide) (by decide) ?_
                          exact ⟨by rw [wf_f q_W (by omega) (by unfold sqv; exact sq_04 (by omega) (by omega))]; rfl, rfl⟩
              · refine G.iload C d4_77 rfl (n := 79) rfl ?_
                refine G.sipush C (v := (239 : Int32)) d4_79 (by decide) (n := 82) rfl ?_
                refine G.icmp_gt C (A := b6.toInt) (B := 239) rfl (by decide) d4_82 (by decide) (by decide) (n := 85) (n' := 127) rfl (fun c82_227 => ?_) (fun c82_227 => ?_)
                · refine G.iload C d4_127 rfl (n := 129) rfl ?_
                  refine G.sipush C (v := (240 : Int32)) d4_129 (by decide) (n := 132) rfl ?_
                  refine G.icmp_lt C (A := b6.toInt) (B := 240) rfl (by decide) d4_132 (by decide) (by decide) (n := 135) (n' := 185) rfl (fun c132_228 => ?_) (fun c132_228 => ?_)
                  · refine G.iconst C (v := (0 : Int32)) d4_185 (by decide) (n := 186) rfl ?_
                    refine G.ireturn C d4_186 (rfl) (by simp) (by decide) (by decide) ?_
                    exact ⟨by rw [wf_f q_W (by omega) (by unfold sqv; exact sq_0x (by omega) (by omega))]; rfl, rfl⟩
                  · refine G.iload C d4_135 rfl (n := 137) rfl ?_
                    refine G.sipush C (v := (244 : Int32)) d4_137 (by decide) (n := 140) rfl ?_
                    refine G.icmp_gt C (A := b6.toInt) (B := 244) rfl (by decide) d4_140 (by decide) (by decide) (n := 143) (n' := 185) rfl (fun c140_229 => ?_) (fun c140_229 => ?_)
                    · refine G.iconst C (v := (0 : Int32)) d4_185 (by decide) (n := 186) rfl ?_
                      refine G.ireturn C d4_186 (rfl) (by simp) (by decide) (by decide) ?_
                      exact ⟨by rw [wf_f q_W (by omega) (by unfold sqv; exact sq_0x (by omega) (by omega))]; rfl, rfl⟩
                    · refine G.iconst C (v := (3 : Int32)) d4_143 (by decide) (n := 144) rfl ?_
                      refine G.istore C d4_144 (l' := #[.val (.ref a), .val (.int o), .val (.int n), .val (.int v1), .val (.int i), .val (.int b6), .val (.int (3 : Int32)), .val (.int (128 : Int32)), .val (.int (191 : Int32)), s9, s10]) (Jvm.Free.XS.store1 rfl hs6 rfl) (n := 146) rfl ?_
                      refine G.iload C d4_146 rfl (n := 148) rfl ?_
                      refine G.sipush C (v := (240 : Int32)) d4_148 (by decide) (n := 151) rfl ?_
                      refine G.icmp_ne C (A := b6.toInt) (B := 240) rfl (by decide) d4_151 (by decide) (by decide) (n := 154) (n' := 160) rfl (fun c151_230 c151_230i => ?_) (fun c151_230 c151_230i => ?_)
                      · refine G.iload C d4_160 rfl (n := 162) rfl ?_
                        refine G.istore C d4_162 (l' := #[.val (.ref a), .val (.int o), .val (.int n), .val (.int v1), .val (.int i), .val (.int b6), .val (.int (3 : Int32)), .val (.int (128 : Int32)), .val (.int (191 : Int32)), s9, s10]) rfl (n := 164) rfl ?_
                        refine G.iload C d4_164 rfl (n := 166) rfl ?_
                        refine G.sipush C (v := (244 : Int32)) d4_166 (by decide) (n := 169) rfl ?_
                        refine G.icmp_ne C (A := b6.toInt) (B := 244) rfl (by decide) d4_169 (by decide) (by decide) (n := 172) (n' := 178) rfl (fun c169_231 c169_231i => ?_) (fun c169_231 c169_231i => ?_)
                        · refine G.iload C d4_178 rfl (n := 180) rfl ?_
                          refine G.istore C d4_180 (l' := #[.val (.ref a), .val (.int o), .val (.int n), .val (.int v1), .val (.int i), .val (.int b6), .val (.int (3 : Int32)), .val (.int (128 : Int32)), .val (.int (191 : Int32)), s9, s10]) rfl (n := 182) rfl ?_
                          refine G.goto C d4_182 (by decide) (n := 187) (by decide) ?_
                          have q_rem := isubk (x := v1) (y := i) (by omega) q_0
                          refine G.iloadN C d4_187 rfl (n := 188) rfl ?_
                          refine G.iload C d4_188 rfl (n := 190) rfl ?_
                          refine G.isub C d4_190 (n := 191) rfl ?_
                          refine G.iload C d4_191 rfl (n := 193) rfl ?_
                          refine G.icmp_gt C (A := (v1 - i).toInt) (B := 3) rfl (by decide) d4_193 (by decide) (by decide) (n := 196) (n' := 198) rfl (fun c193_232 => ?_) (fun c193_232 => ?_)
                          · refine G.aloadN C d4_198 rfl rfl (n := 199) rfl ?_
                            refine G.iload C d4_199 rfl (n := 201) rfl ?_
                            refine G.iconst C (v := (1 : Int32)) d4_201 (by decide) (n := 202) rfl ?_
                            refine G.iadd C d4_202 (n := 203) rfl ?_
                            have x233 : ((i + (1 : Int32))).toInt = i.toInt + 1 := ixk (by decide) q_0 (by decide) (by omega)
                            have x233n : ((i + (1 : Int32))).toInt.toNat = (i.toInt + 1).toNat := congrArg Int.toNat x233
                            refine G.baload C (x := (vs.getD (i.toInt + 1).toNat 0)) O_a (by omega) (by rw [x233n]; exact getD_at (by omega)) d4_203 (n := 204) rfl ?_
                            refine G.sipush C (v := (255 : Int32)) d4_204 (by decide) (n := 207) rfl ?_
                            refine G.iand C d4_207 (n := 208) rfl ?_
                            refine G.name_int ?_
                            intro b234 hb234
                            have R1 : 0 ≤ b234.toInt ∧ b234.toInt ≤ 255 := by rw [hb234]; exact u255 _
                            have U1 : b234.toInt = ub vs (i.toInt + 1) := by rw [hb234]; rfl
                            refine G.istore C d4_208 (l' := #[.val (.ref a), .val (.int o), .val (.int n), .val (.int v1), .val (.int i), .val (.int b6), .val (.int (3 : Int32)), .val (.int (128 : Int32)), .val (.int (191 : Int32)), .val (.int b234), s10]) (Jvm.Free.XS.store1 rfl hs9 rfl) (n := 210) rfl ?_
                            refine G.iload C d4_210 rfl (n := 212) rfl ?_
                            refine G.iload C d4_212 rfl (n := 214) rfl ?_
                            refine G.icmp_lt C (A := b234.toInt) (B := 128) rfl (by decide) d4_214 (by decide) (by decide) (n := 217) (n' := 224) rfl (fun c214_235 => ?_) (fun c214_235 => ?_)
                            · refine G.iconst C (v := (0 : Int32)) d4_224 (by decide) (n := 225) rfl ?_
                              refine G.ireturn C d4_225 (rfl) (by simp) (by decide) (by decide) ?_
                              exact ⟨by rw [wf_f q_W (by omega) (by unfold sqv; exact sq_04 (by omega) (by omega))]; rfl, rfl⟩
                            · refine G.iload C d4_217 rfl (n := 219) rfl ?_
                              refine G.iload C d4_219 rfl (n := 221) rfl ?_
                              refine G.icmp_le C (A := b234.toInt) (B := 191) rfl (by decide) d4_221 (by decide) (by decide) (n := 224) (n' := 226) rfl (fun c221_236 => ?_) (fun c221_236 => ?_)
                              · refine G.iconst C (v := (2 : Int32)) d4_226 (by decide) (n := 227) rfl ?_
                                refine G.istore C d4_227 (l' := #[.val (.ref a), .val (.int o), .val (.int n), .val (.int v1), .val (.int i), .val (.int b6), .val (.int (3 : Int32)), .val (.int (128 : Int32)), .val (.int (191 : Int32)), .val (.int b234), .val (.int (2 : Int32))]) (Jvm.Free.XS.store1 rfl hs10 rfl) (n := 229) rfl ?_
                                refine G.iload C d4_229 rfl (n := 231) rfl ?_
                                refine G.iload C d4_231 rfl (n := 233) rfl ?_
                                refine G.icmp_gt C (A := 2) (B := 3) (by decide) (by decide) d4_233 (by decide) (by decide) (n := 236) (n' := 261) rfl (fun c233_237 => ?_) (fun c233_237 => ?_)
                                · exact absurd c233_237 (by decide)
                                refine G.aloadN C d4_236 rfl rfl (n := 237) rfl ?_
                                refine G.iload C d4_237 rfl (n := 239) rfl ?_
                                refine G.iload C d4_239 rfl (n := 241) rfl ?_
                                refine G.iadd C d4_241 (n := 242) rfl ?_
                                have x238 : ((i + (2 : Int32))).toInt = i.toInt + 2 := ixk (by decide) q_0 (by decide) (by omega)
                                have x238n : ((i + (2 : Int32))).toInt.toNat = (i.toInt + 2).toNat := congrArg Int.toNat x238
                                refine G.baload C (x := (vs.getD (i.toInt + 2).toNat 0)) O_a (by omega) (by rw [x238n]; exact getD_at (by omega)) d4_242 (n := 243) rfl ?_
                                refine G.sipush C (v := (192 : Int32)) d4_243 (by decide) (n := 246) rfl ?_
                                have RS2 := Ints_byte O_a (i := (i.toInt + 2).toNat) (by omega)
                                have US2 : ub vs (i.toInt + 2) = ((vs.getD (i.toInt + 2).toNat 0) &&& (255 : Int32)).toInt := rfl
                                refine G.iand C d4_246 (n := 247) rfl ?_
                                refine G.sipush C (v := (128 : Int32)) d4_247 (by decide) (n := 250) rfl ?_
                                refine G.icmp_eq C (A := ((vs.getD (i.toInt + 2).toNat 0) &&& (192 : Int32)).toInt) (B := 128) rfl (by decide) d4_250 (by decide) (by decide) (n := 253) (n' := 255) rfl (fun c250_239 c250_239i => ?_) (fun c250_239 c250_239i => ?_)
                                · have rs2 : (128 ≤ ub vs (i.toInt + 2) ∧ ub vs (i.toInt + 2) ≤ 191) := (a192s RS2).mp c250_239i
                                  refine G.iincK C (v := (1 : Int32)) (z := (3 : Int32)) d4_255 (by decide) rfl (by decide) (l' := #[.val (.ref a), .val (.int o), .val (.int n), .val (.int v1), .val (.int i), .val (.int b6), .val (.int (3 : Int32)), .val (.int (128 : Int32)), .val (.int (191 : Int32)), .val (.int b234), .val (.int (3 : Int32))]) rfl (n := 258) rfl ?_
                                  refine G.goto C d4_258 (by decide) (n := 229) (by decide) ?_
                                  refine G.iload C d4_229 rfl (n := 231) rfl ?_
                                  refine G.iload C d4_231 rfl (n := 233) rfl ?_
                                  refine G.icmp_gt C (A := 3) (B := 3) (by decide) (by decide) d4_233 (by decide) (by decide) (n := 236) (n' := 261) rfl (fun c233_240 => ?_) (fun c233_240 => ?_)
                                  · exact absurd c233_240 (by decide)
                                  refine G.aloadN C d4_236 rfl rfl (n := 237) rfl ?_
                                  refine G.iload C d4_237 rfl (n := 239) rfl ?_
                                  refine G.iload C d4_239 rfl (n := 241) rfl ?_
                                  refine G.iadd C d4_241 (n := 242) rfl ?_
                                  have x241 : ((i + (3 : Int32))).toInt = i.toInt + 3 := ixk (by decide) q_0 (by decide) (by omega)
                                  have x241n : ((i + (3 : Int32))).toInt.toNat = (i.toInt + 3).toNat := congrArg Int.toNat x241
                                  refine G.baload C (x := (vs.getD (i.toInt + 3).toNat 0)) O_a (by omega) (by rw [x241n]; exact getD_at (by omega)) d4_242 (n := 243) rfl ?_
                                  refine G.sipush C (v := (192 : Int32)) d4_243 (by decide) (n := 246) rfl ?_
                                  have RS3 := Ints_byte O_a (i := (i.toInt + 3).toNat) (by omega)
                                  have US3 : ub vs (i.toInt + 3) = ((vs.getD (i.toInt + 3).toNat 0) &&& (255 : Int32)).toInt := rfl
                                  refine G.iand C d4_246 (n := 247) rfl ?_
                                  refine G.sipush C (v := (128 : Int32)) d4_247 (by decide) (n := 250) rfl ?_
                                  refine G.icmp_eq C (A := ((vs.getD (i.toInt + 3).toNat 0) &&& (192 : Int32)).toInt) (B := 128) rfl (by decide) d4_250 (by decide) (by decide) (n := 253) (n' := 255) rfl (fun c250_242 c250_242i => ?_) (fun c250_242 c250_242i => ?_)
                                  · have rs3 : (128 ≤ ub vs (i.toInt + 3) ∧ ub vs (i.toInt + 3) ≤ 191) := (a192s RS3).mp c250_242i
                                    refine G.iincK C (v := (1 : Int32)) (z := (4 : Int32)) d4_255 (by decide) rfl (by decide) (l' := #[.val (.ref a), .val (.int o), .val (.int n), .val (.int v1), .val (.int i), .val (.int b6), .val (.int (3 : Int32)), .val (.int (128 : Int32)), .val (.int (191 : Int32)), .val (.int b234), .val (.int (4 : Int32))]) rfl (n := 258) rfl ?_
                                    refine G.goto C d4_258 (by decide) (n := 229) (by decide) ?_
                                    refine G.iload C d4_229 rfl (n := 231) rfl ?_
                                    refine G.iload C d4_231 rfl (n := 233) rfl ?_
                                    refine G.icmp_gt C (A := 4) (B := 3) (by decide) (by decide) d4_233 (by decide) (by decide) (n := 236) (n' := 261) rfl (fun c233_243 => ?_) (fun c233_243 => ?_)
                                    rotate_left
                                    · exact absurd c233_243 (by decide)
                                    refine G.iload C d4_261 rfl (n := 263) rfl ?_
                                    refine G.iconst C (v := (1 : Int32)) d4_263 (by decide) (n := 264) rfl ?_
                                    refine G.iload C d4_264 rfl (n := 266) rfl ?_
                                    refine G.iadd C d4_266 (n := 267) rfl ?_
                                    refine G.fold_int (z := (4 : Int32)) (by decide) ?_
                                    refine G.iadd C d4_267 (n := 268) rfl ?_
                                    refine G.fold_int (z := i + (4 : Int32)) rfl ?_
                                    refine G.istoreZ C d4_268 (l' := fun z => #[.val (.ref a), .val (.int o), .val (.int n), .val (.int v1), .val (.int z), .val (.int b6), .val (.int (3 : Int32)), .val (.int (128 : Int32)), .val (.int (191 : Int32)), .val (.int b234), .val (.int (4 : Int32))]) (fun _ => rfl) (n := 270) rfl ?_
                                    intro v244 hv244
                                    refine G.goto C d4_270 (by decide) (n := 7) (by decide) ?_
                                    have q_i2 : v244.toInt = i.toInt + 4 := by rw [hv244]; exact ixk (by decide) q_0 (by decide) (by omega)
                                    have q_sq : sqv vs i.toInt v1.toInt = 4 := by unfold sqv; exact sq_4 (by omega) (by omega) (by omega)
                                    exact ih v244 (.val (.int b6)) (.val (.int (3 : Int32))) (.val (.int (128 : Int32))) (.val (.int (191 : Int32))) (.val (.int b234)) (.val (.int (4 : Int32)))  (by omega) (by omega) (by rw [q_i2, ← q_sq]; exact wf_s q_W (by omega) (by omega)) (Or.inr ⟨_, rfl, rfl⟩) (Or.inr ⟨_, rfl, rfl⟩) (Or.inr ⟨_, rfl, rfl⟩) (Or.inr ⟨_, rfl, rfl⟩) (Or.inr ⟨_, rfl, rfl⟩) (Or.inr ⟨_, rfl, rfl⟩)
                                  · have rs3 : ¬ (128 ≤ ub vs (i.toInt + 3) ∧ ub vs (i.toInt + 3) ≤ 191) := fun q => c250_242i ((a192s RS3).mpr q)
                                    refine G.iconst C (v := (0 : Int32)) d4_253 (by decide) (n := 254) rfl ?_
                                    refine G.ireturn C d4_254 (rfl) (by simp) (by decide) (by decide) ?_
                                    exact ⟨by rw [wf_f q_W (by omega) (by unfold sqv; exact sq_04 (by omega) (by omega))]; rfl, rfl⟩
                                · have rs2 : ¬ (128 ≤ ub vs (i.toInt + 2) ∧ ub vs (i.toInt + 2) ≤ 191) := fun q => c250_239i ((a192s RS2).mpr q)
                                  refine G.iconst C (v := (0 : Int32)) d4_253 (by decide) (n := 254) rfl ?_
                                  refine G.ireturn C d4_254 (rfl) (by simp) (by decide) (by decide) ?_
                                  exact ⟨by rw [wf_f q_W (by omega) (by unfold sqv; exact sq_04 (by omega) (by omega))]; rfl, rfl⟩
                              · refine G.iconst C (v := (0 : Int32)) d4_224 (by decide) (n := 225) rfl ?_
                                refine G.ireturn C d4_225 (rfl) (by simp) (by decide) (by decide) ?_
                                exact ⟨by rw [wf_f q_W (by omega) (by unfold sqv; exact sq_04 (by omega) (by omega))]; rfl, rfl⟩
                          · refine G.iconst C (v := (0 : Int32)) d4_196 (by decide) (n := 197) rfl ?_
                            refine G.ireturn C d4_197 (rfl) (by simp) (by decide) (by decide) ?_
                            exact ⟨by rw [wf_f q_W (by omega) (by unfold sqv; exact sq_04 (by omega) (by omega))]; rfl, rfl⟩
                        · refine G.sipush C (v := (143 : Int32)) d4_172 (by decide) (n := 175) rfl ?_
                          refine G.goto C d4_175 (by decide) (n := 180) (by decide) ?_
                          refine G.istore C d4_180 (l' := #[.val (.ref a), .val (.int o), .val (.int n), .val (.int v1), .val (.int i), .val (.int b6), .val (.int (3 : Int32)), .val (.int (128 : Int32)), .val (.int (143 : Int32)), s9, s10]) rfl (n := 182) rfl ?_
                          refine G.goto C d4_182 (by decide) (n := 187) (by decide) ?_
                          have q_rem := isubk (x := v1) (y := i) (by omega) q_0
                          refine G.iloadN C d4_187 rfl (n := 188) rfl ?_
                          refine G.iload C d4_188 rfl (n := 190) rfl ?_
                          refine G.isub C d4_190 (n := 191) rfl ?_
                          refine G.iload C d4_191 rfl (n := 193) rfl ?_
                          refine G.icmp_gt C (A := (v1 - i).toInt) (B := 3) rfl (by decide) d4_193 (by decide) (by decide) (n := 196) (n' := 198) rfl (fun c193_245 => ?_) (fun c193_245 => ?_)
                          · refine G.aloadN C d4_198 rfl rfl (n := 199) rfl ?_
                            refine G.iload C d4_199 rfl (n := 201) rfl ?_
                            refine G.iconst C (v := (1 : Int32)) d4_201 (by decide) (n := 202) rfl ?_
                            refine G.iadd C d4_202 (n := 203) rfl ?_
                            have x246 : ((i + (1 : Int32))).toInt = i.toInt + 1 := ixk (by decide) q_0 (by decide) (by omega)
                            have x246n : ((i + (1 : Int32))).toInt.toNat = (i.toInt + 1).toNat := congrArg Int.toNat x246
                            refine G.baload C (x := (vs.getD (i.toInt + 1).toNat 0)) O_a (by omega) (by rw [x246n]; exact getD_at (by omega)) d4_203 (n := 204) rfl ?_
                            refine G.sipush C (v := (255 : Int32)) d4_204 (by decide) (n := 207) rfl ?_
                            refine G.iand C d4_207 (n := 208) rfl ?_
                            refine G.name_int ?_
                            intro b247 hb247
                            have R1 : 0 ≤ b247.toInt ∧ b247.toInt ≤ 255 := by rw [hb247]; exact u255 _
                            have U1 : b247.toInt = ub vs (i.toInt + 1) := by rw [hb247]; rfl
                            refine G.istore C d4_208 (l' := #[.val (.ref a), .val (.int o), .val (.int n), .val (.int v1), .val (.int i), .val (.int b6), .val (.int (3 : Int32)), .val (.int (128 : Int32)), .val (.int (143 : Int32)), .val (.int b247), s10]) (Jvm.Free.XS.store1 rfl hs9 rfl) (n := 210) rfl ?_
                            refine G.iload C d4_210 rfl (n := 212) rfl ?_
                            refine G.iload C d4_212 rfl (n := 214) rfl ?_
                            refine G.icmp_lt C (A := b247.toInt) (B := 128) rfl (by decide) d4_214 (by decide) (by decide) (n := 217) (n' := 224) rfl (fun c214_248 => ?_) (fun c214_248 => ?_)
                            · refine G.iconst C (v := (0 : Int32)) d4_224 (by decide) (n := 225) rfl ?_
                              refine G.ireturn C d4_225 (rfl) (by simp) (by decide) (by decide) ?_
                              exact ⟨by rw [wf_f q_W (by omega) (by unfold sqv; exact sq_04 (by omega) (by omega))]; rfl, rfl⟩
                            · refine G.iload C d4_217 rfl (n := 219) rfl ?_
                              refine G.iload C d4_219 rfl (n := 221) rfl ?_
                              refine G.icmp_le C (A := b247.toInt) (B := 143) rfl (by decide) d4_221 (by decide) (by decide) (n := 224) (n' := 226) rfl (fun c221_249 => ?_) (fun c221_249 => ?_)
                              · refine G.iconst C (v := (2 : Int32)) d4_226 (by decide) (n := 227) rfl ?_
                                refine G.istore C d4_227 (l' := #[.val (.ref a), .val (.int o), .val (.int n), .val (.int v1), .val (.int i), .val (.int b6), .val (.int (3 : Int32)), .val (.int (128 : Int32)), .val (.int (143 : Int32)), .val (.int b247), .val (.int (2 : Int32))]) (Jvm.Free.XS.store1 rfl hs10 rfl) (n := 229) rfl ?_
                                refine G.iload C d4_229 rfl (n := 231) rfl ?_
                                refine G.iload C d4_231 rfl (n := 233) rfl ?_
                                refine G.icmp_gt C (A := 2) (B := 3) (by decide) (by decide) d4_233 (by decide) (by decide) (n := 236) (n' := 261) rfl (fun c233_250 => ?_) (fun c233_250 => ?_)
                                · exact absurd c233_250 (by decide)
                                refine G.aloadN C d4_236 rfl rfl (n := 237) rfl ?_
                                refine G.iload C d4_237 rfl (n := 239) rfl ?_
                                refine G.iload C d4_239 rfl (n := 241) rfl ?_
                                refine G.iadd C d4_241 (n := 242) rfl ?_
                                have x251 : ((i + (2 : Int32))).toInt = i.toInt + 2 := ixk (by decide) q_0 (by decide) (by omega)
                                have x251n : ((i + (2 : Int32))).toInt.toNat = (i.toInt + 2).toNat := congrArg Int.toNat x251
                                refine G.baload C (x := (vs.getD (i.toInt + 2).toNat 0)) O_a (by omega) (by rw [x251n]; exact getD_at (by omega)) d4_242 (n := 243) rfl ?_
                                refine G.sipush C (v := (192 : Int32)) d4_243 (by decide) (n := 246) rfl ?_
                                have RS2 := Ints_byte O_a (i := (i.toInt + 2).toNat) (by omega)
                                have US2 : ub vs (i.toInt + 2) = ((vs.getD (i.toInt + 2).toNat 0) &&& (255 : Int32)).toInt := rfl
                                refine G.iand C d4_246 (n := 247) rfl ?_
                                refine G.sipush C (v := (128 : Int32)) d4_247 (by decide) (n := 250) rfl ?_
                                refine G.icmp_eq C (A := ((vs.getD (i.toInt + 2).toNat 0) &&& (192 : Int32)).toInt) (B := 128) rfl (by decide) d4_250 (by decide) (by decide) (n := 253) (n' := 255) rfl (fun c250_252 c250_252i => ?_) (fun c250_252 c250_252i => ?_)
                                · have rs2 : (128 ≤ ub vs (i.toInt + 2) ∧ ub vs (i.toInt + 2) ≤ 191) := (a192s RS2).mp c250_252i
                                  refine G.iincK C (v := (1 : Int32)) (z := (3 : Int32)) d4_255 (by decide) rfl (by decide) (l' := #[.val (.ref a), .val (.int o), .val (.int n), .val (.int v1), .val (.int i), .val (.int b6), .val (.int (3 : Int32)), .val (.int (128 : Int32)), .val (.int (143 : Int32)), .val (.int b247), .val (.int (3 : Int32))]) rfl (n := 258) rfl ?_
                                  refine G.goto C d4_258 (by decide) (n := 229) (by decide) ?_
                                  refine G.iload C d4_229 rfl (n := 231) rfl ?_
                                  refine G.iload C d4_231 rfl (n := 233) rfl ?_
                                  refine G.icmp_gt C (A := 3) (B := 3) (by decide) (by decide) d4_233 (by decide) (by decide) (n := 236) (n' := 261) rfl (fun c233_253 => ?_) (fun c233_253 => ?_)
                                  · exact absurd c233_253 (by decide)
                                  refine G.aloadN C d4_236 rfl rfl (n := 237) rfl ?_
                                  refine G.iload C d4_237 rfl (n := 239) rfl ?_
                                  refine G.iload C d4_239 rfl (n := 241) rfl ?_
                                  refine G.iadd C d4_241 (n := 242) rfl ?_
                                  have x254 : ((i + (3 : Int32))).toInt = i.toInt + 3 := ixk (by decide) q_0 (by decide) (by omega)
                                  have x254n : ((i + (3 : Int32))).toInt.toNat = (i.toInt + 3).toNat := congrArg Int.toNat x254
                                  refine G.baload C (x := (vs.getD (i.toInt + 3).toNat 0)) O_a (by omega) (by rw [x254n]; exact getD_at (by omega)) d4_242 (n := 243) rfl ?_
                                  refine G.sipush C (v := (192 : Int32)) d4_243 (by decide) (n := 246) rfl ?_
                                  have RS3 := Ints_byte O_a (i := (i.toInt + 3).toNat) (by omega)
                                  have US3 : ub vs (i.toInt + 3) = ((vs.getD (i.toInt + 3).toNat 0) &&& (255 : Int32)).toInt := rfl
                                  refine G.iand C d4_246 (n := 247) rfl ?_
                                  refine G.sipush C (v := (128 : Int32)) d4_247 (by decide) (n := 250) rfl ?_
                                  refine G.icmp_eq C (A := ((vs.getD (i.toInt + 3).toNat 0) &&& (192 : Int32)).toInt) (B := 128) rfl (by decide) d4_250 (by decide) (by decide) (n := 253) (n' := 255) rfl (fun c250_255 c250_255i => ?_) (fun c250_255 c250_255i => ?_)
                                  · have rs3 : (128 ≤ ub vs (i.toInt + 3) ∧ ub vs (i.toInt + 3) ≤ 191) := (a192s RS3).mp c250_255i
                                    refine G.iincK C (v := (1 : Int32)) (z := (4 : Int32)) d4_255 (by decide) rfl (by decide) (l' := #[.val (.ref a), .val (.int o), .val (.int n), .val (.int v1), .val (.int i), .val (.int b6), .val (.int (3 : Int32)), .val (.int (128 : Int32)), .val (.int (143 : Int32)), .val (.int b247), .val (.int (4 : Int32))]) rfl (n := 258) rfl ?_
                                    refine G.goto C d4_258 (by decide) (n := 229) (by decide) ?_
                                    refine G.iload C d4_229 rfl (n := 231) rfl ?_
                                    refine G.iload C d4_231 rfl (n := 233) rfl ?_
                                    refine G.icmp_gt C (A := 4) (B := 3) (by decide) (by decide) d4_233 (by decide) (by decide) (n := 236) (n' := 261) rfl (fun c233_256 => ?_) (fun c233_256 => ?_)
                                    rotate_left
                                    · exact absurd c233_256 (by decide)
                                    refine G.iload C d4_261 rfl (n := 263) rfl ?_
                                    refine G.iconst C (v := (1 : Int32)) d4_263 (by decide) (n := 264) rfl ?_
                                    refine G.iload C d4_264 rfl (n := 266) rfl ?_
                                    refine G.iadd C d4_266 (n := 267) rfl ?_
                                    refine G.fold_int (z := (4 : Int32)) (by decide) ?_
                                    refine G.iadd C d4_267 (n := 268) rfl ?_
                                    refine G.fold_int (z := i + (4 : Int32)) rfl ?_
                                    refine G.istoreZ C d4_268 (l' := fun z => #[.val (.ref a), .val (.int o), .val (.int n), .val (.int v1), .val (.int z), .val (.int b6), .val (.int (3 : Int32)), .val (.int (128 : Int32)), .val (.int (143 : Int32)), .val (.int b247), .val (.int (4 : Int32))]) (fun _ => rfl) (n := 270) rfl ?_
                                    intro v257 hv257
                                    refine G.goto C d4_270 (by decide) (n := 7) (by decide) ?_
                                    have q_i2 : v257.toInt = i.toInt + 4 := by rw [hv257]; exact ixk (by decide) q_0 (by decide) (by omega)
                                    have q_sq : sqv vs i.toInt v1.toInt = 4 := by unfold sqv; exact sq_4 (by omega) (by omega) (by omega)
                                    exact ih v257 (.val (.int b6)) (.val (.int (3 : Int32))) (.val (.int (128 : Int32))) (.val (.int (143 : Int32))) (.val (.int b247)) (.val (.int (4 : Int32)))  (by omega) (by omega) (by rw [q_i2, ← q_sq]; exact wf_s q_W (by omega) (by omega)) (Or.inr ⟨_, rfl, rfl⟩) (Or.inr ⟨_, rfl, rfl⟩) (Or.inr ⟨_, rfl, rfl⟩) (Or.inr ⟨_, rfl, rfl⟩) (Or.inr ⟨_, rfl, rfl⟩) (Or.inr ⟨_, rfl, rfl⟩)
                                  · have rs3 : ¬ (128 ≤ ub vs (i.toInt + 3) ∧ ub vs (i.toInt + 3) ≤ 191) := fun q => c250_255i ((a192s RS3).mpr q)
                                    refine G.iconst C (v := (0 : Int32)) d4_253 (by decide) (n := 254) rfl ?_
                                    refine G.ireturn C d4_254 (rfl) (by simp) (by decide) (by decide) ?_
                                    exact ⟨by rw [wf_f q_W (by omega) (by unfold sqv; exact sq_04 (by omega) (by omega))]; rfl, rfl⟩
                                · have rs2 : ¬ (128 ≤ ub vs (i.toInt + 2) ∧ ub vs (i.toInt + 2) ≤ 191) := fun q => c250_252i ((a192s RS2).mpr q)
                                  refine G.iconst C (v := (0 : Int32)) d4_253 (by decide) (n := 254) rfl ?_
                                  refine G.ireturn C d4_254 (rfl) (by simp) (by decide) (by decide) ?_
                                  exact ⟨by rw [wf_f q_W (by omega) (by unfold sqv; exact sq_04 (by omega) (by omega))]; rfl, rfl⟩
                              · refine G.iconst C (v := (0 : Int32)) d4_224 (by decide) (n := 225) rfl ?_
                                refine G.ireturn C d4_225 (rfl) (by simp) (by decide) (by decide) ?_
                                exact ⟨by rw [wf_f q_W (by omega) (by unfold sqv; exact sq_04 (by omega) (by omega))]; rfl, rfl⟩
                          · refine G.iconst C (v := (0 : Int32)) d4_196 (by decide) (n := 197) rfl ?_
                            refine G.ireturn C d4_197 (rfl) (by simp) (by decide) (by decide) ?_
                            exact ⟨by rw [wf_f q_W (by omega) (by unfold sqv; exact sq_04 (by omega) (by omega))]; rfl, rfl⟩
                      · refine G.sipush C (v := (144 : Int32)) d4_154 (by decide) (n := 157) rfl ?_
                        refine G.goto C d4_157 (by decide) (n := 162) (by decide) ?_
                        refine G.istore C d4_162 (l' := #[.val (.ref a), .val (.int o), .val (.int n), .val (.int v1), .val (.int i), .val (.int b6), .val (.int (3 : Int32)), .val (.int (144 : Int32)), .val (.int (191 : Int32)), s9, s10]) rfl (n := 164) rfl ?_
                        refine G.iload C d4_164 rfl (n := 166) rfl ?_
                        refine G.sipush C (v := (244 : Int32)) d4_166 (by decide) (n := 169) rfl ?_
                        refine G.icmp_ne C (A := b6.toInt) (B := 244) rfl (by decide) d4_169 (by decide) (by decide) (n := 172) (n' := 178) rfl (fun c169_258 c169_258i => ?_) (fun c169_258 c169_258i => ?_)
                        · refine G.iload C d4_178 rfl (n := 180) rfl ?_
                          refine G.istore C d4_180 (l' := #[.val (.ref a), .val (.int o), .val (.int n), .val (.int v1), .val (.int i), .val (.int b6), .val (.int (3 : Int32)), .val (.int (144 : Int32)), .val (.int (191 : Int32)), s9, s10]) rfl (n := 182) rfl ?_
                          refine G.goto C d4_182 (by decide) (n := 187) (by decide) ?_
                          have q_rem := isubk (x := v1) (y := i) (by omega) q_0
                          refine G.iloadN C d4_187 rfl (n := 188) rfl ?_
                          refine G.iload C d4_188 rfl (n := 190) rfl ?_
                          refine G.isub C d4_190 (n := 191) rfl ?_
                          refine G.iload C d4_191 rfl (n := 193) rfl ?_
                          refine G.icmp_gt C (A := (v1 - i).toInt) (B := 3) rfl (by decide) d4_193 (by decide) (by decide) (n := 196) (n' := 198) rfl (fun c193_259 => ?_) (fun c193_259 => ?_)
                          · refine G.aloadN C d4_198 rfl rfl (n := 199) rfl ?_
                            refine G.iload C d4_199 rfl (n := 201) rfl ?_
                            refine G.iconst C (v := (1 : Int32)) d4_201 (by decide) (n := 202) rfl ?_
                            refine G.iadd C d4_202 (n := 203) rfl ?_
                            have x260 : ((i + (1 : Int32))).toInt = i.toInt + 1 := ixk (by decide) q_0 (by decide) (by omega)
                            have x260n : ((i + (1 : Int32))).toInt.toNat = (i.toInt + 1).toNat := congrArg Int.toNat x260
                            refine G.baload C (x := (vs.getD (i.toInt + 1).toNat 0)) O_a (by omega) (by rw [x260n]; exact getD_at (by omega)) d4_203 (n := 204) rfl ?_
                            refine G.sipush C (v := (255 : Int32)) d4_204 (by decide) (n := 207) rfl ?_
                            refine G.iand C d4_207 (n := 208) rfl ?_
                            refine G.name_int ?_
                            intro b261 hb261
                            have R1 : 0 ≤ b261.toInt ∧ b261.toInt ≤ 255 := by rw [hb261]; exact u255 _
                            have U1 : b261.toInt = ub vs (i.toInt + 1) := by rw [hb261]; rfl
                            refine G.istore C d4_208 (l' := #[.val (.ref a), .val (.int o), .val (.int n), .val (.int v1), .val (.int i), .val (.int b6), .val (.int (3 : Int32)), .val (.int (144 : Int32)), .val (.int (191 : Int32)), .val (.int b261), s10]) (Jvm.Free.XS.store1 rfl hs9 rfl) (n := 210) rfl ?_
                            refine G.iload C d4_210 rfl (n := 212) rfl ?_
                            refine G.iload C d4_212 rfl (n := 214) rfl ?_
                            refine G.icmp_lt C (A := b261.toInt) (B := 144) rfl (by decide) d4_214 (by decide) (by decide) (n := 217) (n' := 224) rfl (fun c214_262 => ?_) (fun c214_262 => ?_)
                            · refine G.iconst C (v := (0 : Int32)) d4_224 (by decide) (n := 225) rfl ?_
                              refine G.ireturn C d4_225 (rfl) (by simp) (by decide) (by decide) ?_
                              exact ⟨by rw [wf_f q_W (by omega) (by unfold sqv; exact sq_04 (by omega) (by omega))]; rfl, rfl⟩
                            · refine G.iload C d4_217 rfl (n := 219) rfl ?_
                              refine G.iload C d4_219 rfl (n := 221) rfl ?_
                              refine G.icmp_le C (A := b261.toInt) (B := 191) rfl (by decide) d4_221 (by decide) (by decide) (n := 224) (n' := 226) rfl (fun c221_263 => ?_) (fun c221_263 => ?_)
                              · refine G.iconst C (v := (2 : Int32)) d4_226 (by decide) (n := 227) rfl ?_
                                refine G.istore C d4_227 (l' := #[.val (.ref a), .val (.int o), .val (.int n), .val (.int v1), .val (.int i), .val (.int b6), .val (.int (3 : Int32)), .val (.int (144 : Int32)), .val (.int (191 : Int32)), .val (.int b261), .val (.int (2 : Int32))]) (Jvm.Free.XS.store1 rfl hs10 rfl) (n := 229) rfl ?_
                                refine G.iload C d4_229 rfl (n := 231) rfl ?_
                                refine G.iload C d4_231 rfl (n := 233) rfl ?_
                                refine G.icmp_gt C (A := 2) (B := 3) (by decide) (by decide) d4_233 (by decide) (by decide) (n := 236) (n' := 261) rfl (fun c233_264 => ?_) (fun c233_264 => ?_)
                                · exact absurd c233_264 (by decide)
                                refine G.aloadN C d4_236 rfl rfl (n := 237) rfl ?_
                                refine G.iload C d4_237 rfl (n := 239) rfl ?_
                                refine G.iload C d4_239 rfl (n := 241) rfl ?_
                                refine G.iadd C d4_241 (n := 242) rfl ?_
                                have x265 : ((i + (2 : Int32))).toInt = i.toInt + 2 := ixk (by decide) q_0 (by decide) (by omega)
                                have x265n : ((i + (2 : Int32))).toInt.toNat = (i.toInt + 2).toNat := congrArg Int.toNat x265
                                refine G.baload C (x := (vs.getD (i.toInt + 2).toNat 0)) O_a (by omega) (by rw [x265n]; exact getD_at (by omega)) d4_242 (n := 243) rfl ?_
                                refine G.sipush C (v := (192 : Int32)) d4_243 (by decide) (n := 246) rfl ?_
                                have RS2 := Ints_byte O_a (i := (i.toInt + 2).toNat) (by omega)
                                have US2 : ub vs (i.toInt + 2) = ((vs.getD (i.toInt + 2).toNat 0) &&& (255 : Int32)).toInt := rfl
                                refine G.iand C d4_246 (n := 247) rfl ?_
                                refine G.sipush C (v := (128 : Int32)) d4_247 (by decide) (n := 250) rfl ?_
                                refine G.icmp_eq C (A := ((vs.getD (i.toInt + 2).toNat 0) &&& (192 : Int32)).toInt) (B := 128) rfl (by decide) d4_250 (by decide) (by decide) (n := 253) (n' := 255) rfl (fun c250_266 c250_266i => ?_) (fun c250_266 c250_266i => ?_)
                                · have rs2 : (128 ≤ ub vs (i.toInt + 2) ∧ ub vs (i.toInt + 2) ≤ 191) := (a192s RS2).mp c250_266i
                                  refine G.iincK C (v := (1 : Int32)) (z := (3 : Int32)) d4_255 (by decide) rfl (by decide) (l' := #[.val (.ref a), .val (.int o), .val (.int n), .val (.int v1), .val (.int i), .val (.int b6), .val (.int (3 : Int32)), .val (.int (144 : Int32)), .val (.int (191 : Int32)), .val (.int b261), .val (.int (3 : Int32))]) rfl (n := 258) rfl ?_
                                  refine G.goto C d4_258 (by decide) (n := 229) (by decide) ?_
                                  refine G.iload C d4_229 rfl (n := 231) rfl ?_
                                  refine G.iload C d4_231 rfl (n := 233) rfl ?_
                                  refine G.icmp_gt C (A := 3) (B := 3) (by decide) (by decide) d4_233 (by decide) (by decide) (n := 236) (n' := 261) rfl (fun c233_267 => ?_) (fun c233_267 => ?_)
                                  · exact absurd c233_267 (by decide)
                                  refine G.aloadN C d4_236 rfl rfl (n := 237) rfl ?_
                                  refine G.iload C d4_237 rfl (n := 239) rfl ?_
                                  refine G.iload C d4_239 rfl (n := 241) rfl ?_
                                  refine G.iadd C d4_241 (n := 242) rfl ?_
                                  have x268 : ((i + (3 : Int32))).toInt = i.toInt + 3 := ixk (by decide) q_0 (by decide) (by omega)
                                  have x268n : ((i + (3 : Int32))).toInt.toNat = (i.toInt + 3).toNat := congrArg Int.toNat x268
                                  refine G.baload C (x := (vs.getD (i.toInt + 3).toNat 0)) O_a (by omega) (by rw [x268n]; exact getD_at (by omega)) d4_242 (n := 243) rfl ?_
                                  refine G.sipush C (v := (192 : Int32)) d4_243 (by decide) (n := 246) rfl ?_
                                  have RS3 := Ints_byte O_a (i := (i.toInt + 3).toNat) (by omega)
                                  have US3 : ub vs (i.toInt + 3) = ((vs.getD (i.toInt + 3).toNat 0) &&& (255 : Int32)).toInt := rfl
                                  refine G.iand C d4_246 (n := 247) rfl ?_
                                  refine G.sipush C (v := (128 : Int32)) d4_247 (by decide) (n := 250) rfl ?_
                                  refine G.icmp_eq C (A := ((vs.getD (i.toInt + 3).toNat 0) &&& (192 : Int32)).toInt) (B := 128) rfl (by decide) d4_250 (by decide) (by decide) (n := 253) (n' := 255) rfl (fun c250_269 c250_269i => ?_) (fun c250_269 c250_269i => ?_)
                                  · have rs3 : (128 ≤ ub vs (i.toInt + 3) ∧ ub vs (i.toInt + 3) ≤ 191) := (a192s RS3).mp c250_269i
                                    refine G.iincK C (v := (1 : Int32)) (z := (4 : Int32)) d4_255 (by decide) rfl (by decide) (l' := #[.val (.ref a), .val (.int o), .val (.int n), .val (.int v1), .val (.int i), .val (.int b6), .val (.int (3 : Int32)), .val (.int (144 : Int32)), .val (.int (191 : Int32)), .val (.int b261), .val (.int (4 : Int32))]) rfl (n := 258) rfl ?_
                                    refine G.goto C d4_258 (by decide) (n := 229) (by decide) ?_
                                    refine G.iload C d4_229 rfl (n := 231) rfl ?_
                                    refine G.iload C d4_231 rfl (n := 233) rfl ?_
                                    refine G.icmp_gt C (A := 4) (B := 3) (by decide) (by decide) d4_233 (by decide) (by decide) (n := 236) (n' := 261) rfl (fun c233_270 => ?_) (fun c233_270 => ?_)
                                    rotate_left
                                    · exact absurd c233_270 (by decide)
                                    refine G.iload C d4_261 rfl (n := 263) rfl ?_
                                    refine G.iconst C (v := (1 : Int32)) d4_263 (by decide) (n := 264) rfl ?_
                                    refine G.iload C d4_264 rfl (n := 266) rfl ?_
                                    refine G.iadd C d4_266 (n := 267) rfl ?_
                                    refine G.fold_int (z := (4 : Int32)) (by decide) ?_
                                    refine G.iadd C d4_267 (n := 268) rfl ?_
                                    refine G.fold_int (z := i + (4 : Int32)) rfl ?_
                                    refine G.istoreZ C d4_268 (l' := fun z => #[.val (.ref a), .val (.int o), .val (.int n), .val (.int v1), .val (.int z), .val (.int b6), .val (.int (3 : Int32)), .val (.int (144 : Int32)), .val (.int (191 : Int32)), .val (.int b261), .val (.int (4 : Int32))]) (fun _ => rfl) (n := 270) rfl ?_
                                    intro v271 hv271
                                    refine G.goto C d4_270 (by decide) (n := 7) (by decide) ?_
                                    have q_i2 : v271.toInt = i.toInt + 4 := by rw [hv271]; exact ixk (by decide) q_0 (by decide) (by omega)
                                    have q_sq : sqv vs i.toInt v1.toInt = 4 := by unfold sqv; exact sq_4 (by omega) (by omega) (by omega)
                                    exact ih v271 (.val (.int b6)) (.val (.int (3 : Int32))) (.val (.int (144 : Int32))) (.val (.int (191 : Int32))) (.val (.int b261)) (.val (.int (4 : Int32)))  (by omega) (by omega) (by rw [q_i2, ← q_sq]; exact wf_s q_W (by omega) (by omega)) (Or.inr ⟨_, rfl, rfl⟩) (Or.inr ⟨_, rfl, rfl⟩) (Or.inr ⟨_, rfl, rfl⟩) (Or.inr ⟨_, rfl, rfl⟩) (Or.inr ⟨_, rfl, rfl⟩) (Or.inr ⟨_, rfl, rfl⟩)
                                  · have rs3 : ¬ (128 ≤ ub vs (i.toInt + 3) ∧ ub vs (i.toInt + 3) ≤ 191) := fun q => c250_269i ((a192s RS3).mpr q)
                                    refine G.iconst C (v := (0 : Int32)) d4_253 (by decide) (n := 254) rfl ?_
                                    refine G.ireturn C d4_254 (rfl) (by simp) (by decide) (by decide) ?_
                                    exact ⟨by rw [wf_f q_W (by omega) (by unfold sqv; exact sq_04 (by omega) (by omega))]; rfl, rfl⟩
                                · have rs2 : ¬ (128 ≤ ub vs (i.toInt + 2) ∧ ub vs (i.toInt + 2) ≤ 191) := fun q => c250_266i ((a192s RS2).mpr q)
                                  refine G.iconst C (v := (0 : Int32)) d4_253 (by decide) (n := 254) rfl ?_
                                  refine G.ireturn C d4_254 (rfl) (by simp) (by decide) (by decide) ?_
                                  exact ⟨by rw [wf_f q_W (by omega) (by unfold sqv; exact sq_04 (by omega) (by omega))]; rfl, rfl⟩
                              · refine G.iconst C (v := (0 : Int32)) d4_224 (by decide) (n := 225) rfl ?_
                                refine G.ireturn C d4_225 (rfl) (by simp) (by decide) (by decide) ?_
                                exact ⟨by rw [wf_f q_W (by omega) (by unfold sqv; exact sq_04 (by omega) (by omega))]; rfl, rfl⟩
                          · refine G.iconst C (v := (0 : Int32)) d4_196 (by decide) (n := 197) rfl ?_
                            refine G.ireturn C d4_197 (rfl) (by simp) (by decide) (by decide) ?_
                            exact ⟨by rw [wf_f q_W (by omega) (by unfold sqv; exact sq_04 (by omega) (by omega))]; rfl, rfl⟩
                        · refine G.sipush C (v := (143 : Int32)) d4_172 (by decide) (n := 175) rfl ?_
                          refine G.goto C d4_175 (by decide) (n := 180) (by decide) ?_
                          refine G.istore C d4_180 (l' := #[.val (.ref a), .val (.int o), .val (.int n), .val (.int v1), .val (.int i), .val (.int b6), .val (.int (3 : Int32)), .val (.int (144 : Int32)), .val (.int (143 : Int32)), s9, s10]) rfl (n := 182) rfl ?_
                          refine G.goto C d4_182 (by decide) (n := 187) (by decide) ?_
                          have q_rem := isubk (x := v1) (y := i) (by omega) q_0
                          refine G.iloadN C d4_187 rfl (n := 188) rfl ?_
                          refine G.iload C d4_188 rfl (n := 190) rfl ?_
                          refine G.isub C d4_190 (n := 191) rfl ?_
                          refine G.iload C d4_191 rfl (n := 193) rfl ?_
                          refine G.icmp_gt C (A := (v1 - i).toInt) (B := 3) rfl (by decide) d4_193 (by decide) (by decide) (n := 196) (n' := 198) rfl (fun c193_272 => ?_) (fun c193_272 => ?_)
                          · refine G.aloadN C d4_198 rfl rfl (n := 199) rfl ?_
                            refine G.iload C d4_199 rfl (n := 201) rfl ?_
                            refine G.iconst C (v := (1 : Int32)) d4_201 (by decide) (n := 202) rfl ?_
                            refine G.iadd C d4_202 (n := 203) rfl ?_
                            have x273 : ((i + (1 : Int32))).toInt = i.toInt + 1 := ixk (by decide) q_0 (by decide) (by omega)
                            have x273n : ((i + (1 : Int32))).toInt.toNat = (i.toInt + 1).toNat := congrArg Int.toNat x273
                            refine G.baload C (x := (vs.getD (i.toInt + 1).toNat 0)) O_a (by omega) (by rw [x273n]; exact getD_at (by omega)) d4_203 (n := 204) rfl ?_
                            refine G.sipush C (v := (255 : Int32)) d4_204 (by decide) (n := 207) rfl ?_
                            refine G.iand C d4_207 (n := 208) rfl ?_
                            refine G.name_int ?_
                            intro b274 hb274
                            have R1 : 0 ≤ b274.toInt ∧ b274.toInt ≤ 255 := by rw [hb274]; exact u255 _
                            have U1 : b274.toInt = ub vs (i.toInt + 1) := by rw [hb274]; rfl
                            refine G.istore C d4_208 (l' := #[.val (.ref a), .val (.int o), .val (.int n), .val (.int v1), .val (.int i), .val (.int b6), .val (.int (3 : Int32)), .val (.int (144 : Int32)), .val (.int (143 : Int32)), .val (.int b274), s10]) (Jvm.Free.XS.store1 rfl hs9 rfl) (n := 210) rfl ?_
                            refine G.iload C d4_210 rfl (n := 212) rfl ?_
                            refine G.iload C d4_212 rfl (n := 214) rfl ?_
                            refine G.icmp_lt C (A := b274.toInt) (B := 144) rfl (by decide) d4_214 (by decide) (by decide) (n := 217) (n' := 224) rfl (fun c214_275 => ?_) (fun c214_275 => ?_)
                            · refine G.iconst C (v := (0 : Int32)) d4_224 (by decide) (n := 225) rfl ?_
                              refine G.ireturn C d4_225 (rfl) (by simp) (by decide) (by decide) ?_
                              exact ⟨by rw [wf_f q_W (by omega) (by unfold sqv; exact sq_04 (by omega) (by omega))]; rfl, rfl⟩
                            · refine G.iload C d4_217 rfl (n := 219) rfl ?_
                              refine G.iload C d4_219 rfl (n := 221) rfl ?_
                              refine G.icmp_le C (A := b274.toInt) (B := 143) rfl (by decide) d4_221 (by decide) (by decide) (n := 224) (n' := 226) rfl (fun c221_276 => ?_) (fun c221_276 => ?_)
                              · refine G.iconst C (v := (2 : Int32)) d4_226 (by decide) (n := 227) rfl ?_
                                refine G.istore C d4_227 (l' := #[.val (.ref a), .val (.int o), .val (.int n), .val (.int v1), .val (.int i), .val (.int b6), .val (.int (3 : Int32)), .val (.int (144 : Int32)), .val (.int (143 : Int32)), .val (.int b274), .val (.int (2 : Int32))]) (Jvm.Free.XS.store1 rfl hs10 rfl) (n := 229) rfl ?_
                                refine G.iload C d4_229 rfl (n := 231) rfl ?_
                                refine G.iload C d4_231 rfl (n := 233) rfl ?_
                                refine G.icmp_gt C (A := 2) (B := 3) (by decide) (by decide) d4_233 (by decide) (by decide) (n := 236) (n' := 261) rfl (fun c233_277 => ?_) (fun c233_277 => ?_)
                                · exact absurd c233_277 (by decide)
                                refine G.aloadN C d4_236 rfl rfl (n := 237) rfl ?_
                                refine G.iload C d4_237 rfl (n := 239) rfl ?_
                                refine G.iload C d4_239 rfl (n := 241) rfl ?_
                                refine G.iadd C d4_241 (n := 242) rfl ?_
                                have x278 : ((i + (2 : Int32))).toInt = i.toInt + 2 := ixk (by decide) q_0 (by decide) (by omega)
                                have x278n : ((i + (2 : Int32))).toInt.toNat = (i.toInt + 2).toNat := congrArg Int.toNat x278
                                refine G.baload C (x := (vs.getD (i.toInt + 2).toNat 0)) O_a (by omega) (by rw [x278n]; exact getD_at (by omega)) d4_242 (n := 243) rfl ?_
                                refine G.sipush C (v := (192 : Int32)) d4_243 (by decide) (n := 246) rfl ?_
                                have RS2 := Ints_byte O_a (i := (i.toInt + 2).toNat) (by omega)
                                have US2 : ub vs (i.toInt + 2) = ((vs.getD (i.toInt + 2).toNat 0) &&& (255 : Int32)).toInt := rfl
                                refine G.iand C d4_246 (n := 247) rfl ?_
                                refine G.sipush C (v := (128 : Int32)) d4_247 (by decide) (n := 250) rfl ?_
                                refine G.icmp_eq C (A := ((vs.getD (i.toInt + 2).toNat 0) &&& (192 : Int32)).toInt) (B := 128) rfl (by decide) d4_250 (by decide) (by decide) (n := 253) (n' := 255) rfl (fun c250_279 c250_279i => ?_) (fun c250_279 c250_279i => ?_)
                                · have rs2 : (128 ≤ ub vs (i.toInt + 2) ∧ ub vs (i.toInt + 2) ≤ 191) := (a192s RS2).mp c250_279i
                                  refine G.iincK C (v := (1 : Int32)) (z := (3 : Int32)) d4_255 (by decide) rfl (by decide) (l' := #[.val (.ref a), .val (.int o), .val (.int n), .val (.int v1), .val (.int i), .val (.int b6), .val (.int (3 : Int32)), .val (.int (144 : Int32)), .val (.int (143 : Int32)), .val (.int b274), .val (.int (3 : Int32))]) rfl (n := 258) rfl ?_
                                  refine G.goto C d4_258 (by decide) (n := 229) (by decide) ?_
                                  refine G.iload C d4_229 rfl (n := 231) rfl ?_
                                  refine G.iload C d4_231 rfl (n := 233) rfl ?_
                                  refine G.icmp_gt C (A := 3) (B := 3) (by decide) (by decide) d4_233 (by decide) (by decide) (n := 236) (n' := 261) rfl (fun c233_280 => ?_) (fun c233_280 => ?_)
                                  · exact absurd c233_280 (by decide)
                                  refine G.aloadN C d4_236 rfl rfl (n := 237) rfl ?_
                                  refine G.iload C d4_237 rfl (n := 239) rfl ?_
                                  refine G.iload C d4_239 rfl (n := 241) rfl ?_
                                  refine G.iadd C d4_241 (n := 242) rfl ?_
                                  have x281 : ((i + (3 : Int32))).toInt = i.toInt + 3 := ixk (by decide) q_0 (by decide) (by omega)
                                  have x281n : ((i + (3 : Int32))).toInt.toNat = (i.toInt + 3).toNat := congrArg Int.toNat x281
                                  refine G.baload C (x := (vs.getD (i.toInt + 3).toNat 0)) O_a (by omega) (by rw [x281n]; exact getD_at (by omega)) d4_242 (n := 243) rfl ?_
                                  refine G.sipush C (v := (192 : Int32)) d4_243 (by decide) (n := 246) rfl ?_
                                  have RS3 := Ints_byte O_a (i := (i.toInt + 3).toNat) (by omega)
                                  have US3 : ub vs (i.toInt + 3) = ((vs.getD (i.toInt + 3).toNat 0) &&& (255 : Int32)).toInt := rfl
                                  refine G.iand C d4_246 (n := 247) rfl ?_
                                  refine G.sipush C (v := (128 : Int32)) d4_247 (by decide) (n := 250) rfl ?_
                                  refine G.icmp_eq C (A := ((vs.getD (i.toInt + 3).toNat 0) &&& (192 : Int32)).toInt) (B := 128) rfl (by decide) d4_250 (by decide) (by decide) (n := 253) (n' := 255) rfl (fun c250_282 c250_282i => ?_) (fun c250_282 c250_282i => ?_)
                                  · have rs3 : (128 ≤ ub vs (i.toInt + 3) ∧ ub vs (i.toInt + 3) ≤ 191) := (a192s RS3).mp c250_282i
                                    refine G.iincK C (v := (1 : Int32)) (z := (4 : Int32)) d4_255 (by decide) rfl (by decide) (l' := #[.val (.ref a), .val (.int o), .val (.int n), .val (.int v1), .val (.int i), .val (.int b6), .val (.int (3 : Int32)), .val (.int (144 : Int32)), .val (.int (143 : Int32)), .val (.int b274), .val (.int (4 : Int32))]) rfl (n := 258) rfl ?_
                                    refine G.goto C d4_258 (by decide) (n := 229) (by decide) ?_
                                    refine G.iload C d4_229 rfl (n := 231) rfl ?_
                                    refine G.iload C d4_231 rfl (n := 233) rfl ?_
                                    refine G.icmp_gt C (A := 4) (B := 3) (by decide) (by decide) d4_233 (by decide) (by decide) (n := 236) (n' := 261) rfl (fun c233_283 => ?_) (fun c233_283 => ?_)
                                    rotate_left
                                    · exact absurd c233_283 (by decide)
                                    refine G.iload C d4_261 rfl (n := 263) rfl ?_
                                    refine G.iconst C (v := (1 : Int32)) d4_263 (by decide) (n := 264) rfl ?_
                                    refine G.iload C d4_264 rfl (n := 266) rfl ?_
                                    refine G.iadd C d4_266 (n := 267) rfl ?_
                                    refine G.fold_int (z := (4 : Int32)) (by decide) ?_
                                    refine G.iadd C d4_267 (n := 268) rfl ?_
                                    refine G.fold_int (z := i + (4 : Int32)) rfl ?_
                                    refine G.istoreZ C d4_268 (l' := fun z => #[.val (.ref a), .val (.int o), .val (.int n), .val (.int v1), .val (.int z), .val (.int b6), .val (.int (3 : Int32)), .val (.int (144 : Int32)), .val (.int (143 : Int32)), .val (.int b274), .val (.int (4 : Int32))]) (fun _ => rfl) (n := 270) rfl ?_
                                    intro v284 hv284
                                    refine G.goto C d4_270 (by decide) (n := 7) (by decide) ?_
                                    have q_i2 : v284.toInt = i.toInt + 4 := by rw [hv284]; exact ixk (by decide) q_0 (by decide) (by omega)
                                    have q_sq : sqv vs i.toInt v1.toInt = 4 := by unfold sqv; exact sq_4 (by omega) (by omega) (by omega)
                                    exact ih v284 (.val (.int b6)) (.val (.int (3 : Int32))) (.val (.int (144 : Int32))) (.val (.int (143 : Int32))) (.val (.int b274)) (.val (.int (4 : Int32)))  (by omega) (by omega) (by rw [q_i2, ← q_sq]; exact wf_s q_W (by omega) (by omega)) (Or.inr ⟨_, rfl, rfl⟩) (Or.inr ⟨_, rfl, rfl⟩) (Or.inr ⟨_, rfl, rfl⟩) (Or.inr ⟨_, rfl, rfl⟩) (Or.inr ⟨_, rfl, rfl⟩) (Or.inr ⟨_, rfl, rfl⟩)
                                  · have rs3 : ¬ (128 ≤ ub vs (i.toInt + 3) ∧ ub vs (i.toInt + 3) ≤ 191) := fun q => c250_282i ((a192s RS3).mpr q)
                                    refine G.iconst C (v := (0 : Int32)) d4_253 (by decide) (n := 254) rfl ?_
                                    refine G.ireturn C d4_254 (rfl) (by simp) (by decide) (by decide) ?_
                                    exact ⟨by rw [wf_f q_W (by omega) (by unfold sqv; exact sq_04 (by omega) (by omega))]; rfl, rfl⟩
                                · have rs2 : ¬ (128 ≤ ub vs (i.toInt + 2) ∧ ub vs (i.toInt + 2) ≤ 191) := fun q => c250_279i ((a192s RS2).mpr q)
                                  refine G.iconst C (v := (0 : Int32)) d4_253 (by decide) (n := 254) rfl ?_
                                  refine G.ireturn C d4_254 (rfl) (by simp) (by decide) (by decide) ?_
                                  exact ⟨by rw [wf_f q_W (by omega) (by unfold sqv; exact sq_04 (by omega) (by omega))]; rfl, rfl⟩
                              · refine G.iconst C (v := (0 : Int32)) d4_224 (by decide) (n := 225) rfl ?_
                                refine G.ireturn C d4_225 (rfl) (by simp) (by decide) (by decide) ?_
                                exact ⟨by rw [wf_f q_W (by omega) (by unfold sqv; exact sq_04 (by omega) (by omega))]; rfl, rfl⟩
                          · refine G.iconst C (v := (0 : Int32)) d4_196 (by decide) (n := 197) rfl ?_
                            refine G.ireturn C d4_197 (rfl) (by simp) (by decide) (by decide) ?_
                            exact ⟨by rw [wf_f q_W (by omega) (by unfold sqv; exact sq_04 (by omega) (by omega))]; rfl, rfl⟩
                · refine G.iconst C (v := (2 : Int32)) d4_85 (by decide) (n := 86) rfl ?_
                  refine G.istore C d4_86 (l' := #[.val (.ref a), .val (.int o), .val (.int n), .val (.int v1), .val (.int i), .val (.int b6), .val (.int (2 : Int32)), .val (.int (128 : Int32)), .val (.int (191 : Int32)), s9, s10]) (Jvm.Free.XS.store1 rfl hs6 rfl) (n := 88) rfl ?_
                  refine G.iload C d4_88 rfl (n := 90) rfl ?_
                  refine G.sipush C (v := (224 : Int32)) d4_90 (by decide) (n := 93) rfl ?_
                  refine G.icmp_ne C (A := b6.toInt) (B := 224) rfl (by decide) d4_93 (by decide) (by decide) (n := 96) (n' := 102) rfl (fun c93_285 c93_285i => ?_) (fun c93_285 c93_285i => ?_)
                  · refine G.iload C d4_102 rfl (n := 104) rfl ?_
                    refine G.istore C d4_104 (l' := #[.val (.ref a), .val (.int o), .val (.int n), .val (.int v1), .val (.int i), .val (.int b6), .val (.int (2 : Int32)), .val (.int (128 : Int32)), .val (.int (191 : Int32)), s9, s10]) rfl (n := 106) rfl ?_
                    refine G.iload C d4_106 rfl (n := 108) rfl ?_
                    refine G.sipush C (v := (237 : Int32)) d4_108 (by decide) (n := 111) rfl ?_
                    refine G.icmp_ne C (A := b6.toInt) (B := 237) rfl (by decide) d4_111 (by decide) (by decide) (n := 114) (n' := 120) rfl (fun c111_286 c111_286i => ?_) (fun c111_286 c111_286i => ?_)
                    · refine G.iload C d4_120 rfl (n := 122) rfl ?_
                      refine G.istore C d4_122 (l' := #[.val (.ref a), .val (.int o), .val (.int n), .val (.int v1), .val (.int i), .val (.int b6), .val (.int (2 : Int32)), .val (.int (128 : Int32)), .val (.int (191 : Int32)), s9, s10]) rfl (n := 124) rfl ?_
                      refine G.goto C d4_124 (by decide) (n := 187) (by decide) ?_
                      have q_rem := isubk (x := v1) (y := i) (by omega) q_0
                      refine G.iloadN C d4_187 rfl (n := 188) rfl ?_
                      refine G.iload C d4_188 rfl (n := 190) rfl ?_
                      refine G.isub C d4_190 (n := 191) rfl ?_
                      refine G.iload C d4_191 rfl (n := 193) rfl ?_
                      refine G.icmp_gt C (A := (v1 - i).toInt) (B := 2) rfl (by decide) d4_193 (by decide) (by decide) (n := 196) (n' := 198) rfl (fun c193_287 => ?_) (fun c193_287 => ?_)
                      · refine G.aloadN C d4_198 rfl rfl (n := 199) rfl ?_
                        refine G.iload C d4_199 rfl (n := 201) rfl ?_
                        refine G.iconst C (v := (1 : Int32)) d4_201 (by decide) (n := 202) rfl ?_
                        refine G.iadd C d4_202 (n := 203) rfl ?_
                        have x288 : ((i + (1 : Int32))).toInt = i.toInt + 1 := ixk (by decide) q_0 (by decide) (by omega)
                        have x288n : ((i + (1 : Int32))).toInt.toNat = (i.toInt + 1).toNat := congrArg Int.toNat x288
                        refine G.baload C (x := (vs.getD (i.toInt + 1).toNat 0)) O_a (by omega) (by rw [x288n]; exact getD_at (by omega)) d4_203 (n := 204) rfl ?_
                        refine G.sipush C (v := (255 : Int32)) d4_204 (by decide) (n := 207) rfl ?_
                        refine G.iand C d4_207 (n := 208) rfl ?_
                        refine G.name_int ?_
                        intro b289 hb289
                        have R1 : 0 ≤ b289.toInt ∧ b289.toInt ≤ 255 := by rw [hb289]; exact u255 _
                        have U1 : b289.toInt = ub vs (i.toInt + 1) := by rw [hb289]; rfl
                        refine G.istore C d4_208 (l' := #[.val (.ref a), .val (.int o), .val (.int n), .val (.int v1), .val (.int i), .val (.int b6), .val (.int (2 : Int32)), .val (.int (128 : Int32)), .val (.int (191 : Int32)), .val (.int b289), s10]) (Jvm.Free.XS.store1 rfl hs9 rfl) (n := 210) rfl ?_
                        refine G.iload C d4_210 rfl (n := 212) rfl ?_
                        refine G.iload C d4_212 rfl (n := 214) rfl ?_
                        refine G.icmp_lt C (A := b289.toInt) (B := 128) rfl (by decide) d4_214 (by decide) (by decide) (n := 217) (n' := 224) rfl (fun c214_290 => ?_) (fun c214_290 => ?_)
                        · refine G.iconst C (v := (0 : Int32)) d4_224 (by decide) (n := 225) rfl ?_
                          refine G.ireturn C d4_225 (rfl) (by simp) (by decide) (by decide) ?_
                          exact ⟨by rw [wf_f q_W (by omega) (by unfold sqv; exact sq_03 (by omega) (by omega))]; rfl, rfl⟩
                        · refine G.iload C d4_217 rfl (n := 219) rfl ?_
                          refine G.iload C d4_219 rfl (n := 221) rfl ?_
                          refine G.icmp_le C (A := b289.toInt) (B := 191) rfl (by decide) d4_221 (by decide) (by decide) (n := 224) (n' := 226) rfl (fun c221_291 => ?_) (fun c221_291 => ?_)
                          · refine G.iconst C (v := (2 : Int32)) d4_226 (by decide) (n := 227) rfl ?_
                            refine G.istore C d4_227 (l' := #[.val (.ref a), .val (.int o), .val (.int n), .val (.int v1), .val (.int i), .val (.int b6), .val (.int (2 : Int32)), .val (.int (128 : Int32)), .val (.int (191 : Int32)), .val (.int b289), .val (.int (2 : Int32))]) (Jvm.Free.XS.store1 rfl hs10 rfl) (n := 229) rfl ?_
                            refine G.iload C d4_229 rfl (n := 231) rfl ?_
                            refine G.iload C d4_231 rfl (n := 233) rfl ?_
                            refine G.icmp_gt C (A := 2) (B := 2) (by decide) (by decide) d4_233 (by decide) (by decide) (n := 236) (n' := 261) rfl (fun c233_292 => ?_) (fun c233_292 => ?_)
                            · exact absurd c233_292 (by decide)
                            refine G.aloadN C d4_236 rfl rfl (n := 237) rfl ?_
                            refine G.iload C d4_237 rfl (n := 239) rfl ?_
                            refine G.iload C d4_239 rfl (n := 241) rfl ?_
                            refine G.iadd C d4_241 (n := 242) rfl ?_
                            have x293 : ((i + (2 : Int32))).toInt = i.toInt + 2 := ixk (by decide) q_0 (by decide) (by omega)
                            have x293n : ((i + (2 : Int32))).toInt.toNat = (i.toInt + 2).toNat := congrArg Int.toNat x293
                            refine G.baload C (x := (vs.getD (i.toInt + 2).toNat 0)) O_a (by omega) (by rw [x293n]; exact getD_at (by omega)) d4_242 (n := 243) rfl ?_
                            refine G.sipush C (v := (192 : Int32)) d4_243 (by decide) (n := 246) rfl ?_
                            have RS2 := Ints_byte O_a (i := (i.toInt + 2).toNat) (by omega)
                            have US2 : ub vs (i.toInt + 2) = ((vs.getD (i.toInt + 2).toNat 0) &&& (255 : Int32)).toInt := rfl
                            refine G.iand C d4_246 (n := 247) rfl ?_
                            refine G.sipush C (v := (128 : Int32)) d4_247 (by decide) (n := 250) rfl ?_
                            refine G.icmp_eq C (A := ((vs.getD (i.toInt + 2).toNat 0) &&& (192 : Int32)).toInt) (B := 128) rfl (by decide) d4_250 (by decide) (by decide) (n := 253) (n' := 255) rfl (fun c250_294 c250_294i => ?_) (fun c250_294 c250_294i => ?_)
                            · have rs2 : (128 ≤ ub vs (i.toInt + 2) ∧ ub vs (i.toInt + 2) ≤ 191) := (a192s RS2).mp c250_294i
                              refine G.iincK C (v := (1 : Int32)) (z := (3 : Int32)) d4_255 (by decide) rfl (by decide) (l' := #[.val (.ref a), .val (.int o), .val (.int n), .val (.int v1), .val (.int i), .val (.int b6), .val (.int (2 : Int32)), .val (.int (128 : Int32)), .val (.int (191 : Int32)), .val (.int b289), .val (.int (3 : Int32))]) rfl (n := 258) rfl ?_
                              refine G.goto C d4_258 (by decide) (n := 229) (by decide) ?_
                              refine G.iload C d4_229 rfl (n := 231) rfl ?_
                              refine G.iload C d4_231 rfl (n := 233) rfl ?_
                              refine G.icmp_gt C (A := 3) (B := 2) (by decide) (by decide) d4_233 (by decide) (by decide) (n := 236) (n' := 261) rfl (fun c233_295 => ?_) (fun c233_295 => ?_)
                              rotate_left
                              · exact absurd c233_295 (by decide)
                              refine G.iload C d4_261 rfl (n := 263) rfl ?_
                              refine G.iconst C (v := (1 : Int32)) d4_263 (by decide) (n := 264) rfl ?_
                              refine G.iload C d4_264 rfl (n := 266) rfl ?_
                              refine G.iadd C d4_266 (n := 267) rfl ?_
                              refine G.fold_int (z := (3 : Int32)) (by decide) ?_
                              refine G.iadd C d4_267 (n := 268) rfl ?_
                              refine G.fold_int (z := i + (3 : Int32)) rfl ?_
                              refine G.istoreZ C d4_268 (l' := fun z => #[.val (.ref a), .val (.int o), .val (.int n), .val (.int v1), .val (.int z), .val (.int b6), .val (.int (2 : Int32)), .val (.int (128 : Int32)), .val (.int (191 : Int32)), .val (.int b289), .val (.int (3 : Int32))]) (fun _ => rfl) (n := 270) rfl ?_
                              intro v296 hv296
                              refine G.goto C d4_270 (by decide) (n := 7) (by decide) ?_
                              have q_i2 : v296.toInt = i.toInt + 3 := by rw [hv296]; exact ixk (by decide) q_0 (by decide) (by omega)
                              have q_sq : sqv vs i.toInt v1.toInt = 3 := by unfold sqv; exact sq_3 (by omega) (by omega) (by omega)
                              exact ih v296 (.val (.int b6)) (.val (.int (2 : Int32))) (.val (.int (128 : Int32))) (.val (.int (191 : Int32))) (.val (.int b289)) (.val (.int (3 : Int32)))  (by omega) (by omega) (by rw [q_i2, ← q_sq]; exact wf_s q_W (by omega) (by omega)) (Or.inr ⟨_, rfl, rfl⟩) (Or.inr ⟨_, rfl, rfl⟩) (Or.inr ⟨_, rfl, rfl⟩) (Or.inr ⟨_, rfl, rfl⟩) (Or.inr ⟨_, rfl, rfl⟩) (Or.inr ⟨_, rfl, rfl⟩)
                            · have rs2 : ¬ (128 ≤ ub vs (i.toInt + 2) ∧ ub vs (i.toInt + 2) ≤ 191) := fun q => c250_294i ((a192s RS2).mpr q)
                              refine G.iconst C (v := (0 : Int32)) d4_253 (by decide) (n := 254) rfl ?_
                              refine G.ireturn C d4_254 (rfl) (by simp) (by decide) (by decide) ?_
                              exact ⟨by rw [wf_f q_W (by omega) (by unfold sqv; exact sq_03 (by omega) (by omega))]; rfl, rfl⟩
                          · refine G.iconst C (v := (0 : Int32)) d4_224 (by decide) (n := 225) rfl ?_
                            refine G.ireturn C d4_225 (rfl) (by simp) (by decide) (by decide) ?_
                            exact ⟨by rw [wf_f q_W (by omega) (by unfold sqv; exact sq_03 (by omega) (by omega))]; rfl, rfl⟩
                      · refine G.iconst C (v := (0 : Int32)) d4_196 (by decide) (n := 197) rfl ?_
                        refine G.ireturn C d4_197 (rfl) (by simp) (by decide) (by decide) ?_
                        exact ⟨by rw [wf_f q_W (by omega) (by unfold sqv; exact sq_03 (by omega) (by omega))]; rfl, rfl⟩
                    · refine G.sipush C (v := (159 : Int32)) d4_114 (by decide) (n := 117) rfl ?_
                      refine G.goto C d4_117 (by decide) (n := 122) (by decide) ?_
                      refine G.istore C d4_122 (l' := #[.val (.ref a), .val (.int o), .val (.int n), .val (.int v1), .val (.int i), .val (.int b6), .val (.int (2 : Int32)), .val (.int (128 : Int32)), .val (.int (159 : Int32)), s9, s10]) rfl (n := 124) rfl ?_
                      refine G.goto C d4_124 (by decide) (n := 187) (by decide) ?_
                      have q_rem := isubk (x := v1) (y := i) (by omega) q_0
                      refine G.iloadN C d4_187 rfl (n := 188) rfl ?_
                      refine G.iload C d4_188 rfl (n := 190) rfl ?_
                      refine G.isub C d4_190 (n := 191) rfl ?_
                      refine G.iload C d4_191 rfl (n := 193) rfl ?_
                      refine G.icmp_gt C (A := (v1 - i).toInt) (B := 2) rfl (by decide) d4_193 (by decide) (by decide) (n := 196) (n' := 198) rfl (fun c193_297 => ?_) (fun c193_297 => ?_)
                      · refine G.aloadN C d4_198 rfl rfl (n := 199) rfl ?_
                        refine G.iload C d4_199 rfl (n := 201) rfl ?_
                        refine G.iconst C (v := (1 : Int32)) d4_201 (by decide) (n := 202) rfl ?_
                        refine G.iadd C d4_202 (n := 203) rfl ?_
                        have x298 : ((i + (1 : Int32))).toInt = i.toInt + 1 := ixk (by decide) q_0 (by decide) (by omega)
                        have x298n : ((i + (1 : Int32))).toInt.toNat = (i.toInt + 1).toNat := congrArg Int.toNat x298
                        refine G.baload C (x := (vs.getD (i.toInt + 1).toNat 0)) O_a (by omega) (by rw [x298n]; exact getD_at (by omega)) d4_203 (n := 204) rfl ?_
                        refine G.sipush C (v := (255 : Int32)) d4_204 (by decide) (n := 207) rfl ?_
                        refine G.iand C d4_207 (n := 208) rfl ?_
                        refine G.name_int ?_
                        intro b299 hb299
                        have R1 : 0 ≤ b299.toInt ∧ b299.toInt ≤ 255 := by rw [hb299]; exact u255 _
                        have U1 : b299.toInt = ub vs (i.toInt + 1) := by rw [hb299]; rfl
                        refine G.istore C d4_208 (l' := #[.val (.ref a), .val (.int o), .val (.int n), .val (.int v1), .val (.int i), .val (.int b6), .val (.int (2 : Int32)), .val (.int (128 : Int32)), .val (.int (159 : Int32)), .val (.int b299), s10]) (Jvm.Free.XS.store1 rfl hs9 rfl) (n := 210) rfl ?_
                        refine G.iload C d4_210 rfl (n := 212) rfl ?_
                        refine G.iload C d4_212 rfl (n := 214) rfl ?_
                        refine G.icmp_lt C (A := b299.toInt) (B := 128) rfl (by decide) d4_214 (by decide) (by decide) (n := 217) (n' := 224) rfl (fun c214_300 => ?_) (fun c214_300 => ?_)
                        · refine G.iconst C (v := (0 : Int32)) d4_224 (by decide) (n := 225) rfl ?_
                          refine G.ireturn C d4_225 (rfl) (by simp) (by decide) (by decide) ?_
                          exact ⟨by rw [wf_f q_W (by omega) (by unfold sqv; exact sq_03 (by omega) (by omega))]; rfl, rfl⟩
                        · refine G.iload C d4_217 rfl (n := 219) rfl ?_
                          refine G.iload C d4_219 rfl (n := 221) rfl ?_
                          refine G.icmp_le C (A := b299.toInt) (B := 159) rfl (by decide) d4_221 (by decide) (by decide) (n := 224) (n' := 226) rfl (fun c221_301 => ?_) (fun c221_301 => ?_)
                          · refine G.iconst C (v := (2 : Int32)) d4_226 (by decide) (n := 227) rfl ?_
                            refine G.istore C d4_227 (l' := #[.val (.ref a), .val (.int o), .val (.int n), .val (.int v1), .val (.int i), .val (.int b6), .val (.int (2 : Int32)), .val (.int (128 : Int32)), .val (.int (159 : Int32)), .val (.int b299), .val (.int (2 : Int32))]) (Jvm.Free.XS.store1 rfl hs10 rfl) (n := 229) rfl ?_
                            refine G.iload C d4_229 rfl (n := 231) rfl ?_
                            refine G.iload C d4_231 rfl (n := 233) rfl ?_
                            refine G.icmp_gt C (A := 2) (B := 2) (by decide) (by decide) d4_233 (by decide) (by decide) (n := 236) (n' := 261) rfl (fun c233_302 => ?_) (fun c233_302 => ?_)
                            · exact absurd c233_302 (by decide)
                            refine G.aloadN C d4_236 rfl rfl (n := 237) rfl ?_
                            refine G.iload C d4_237 rfl (n := 239) rfl ?_
                            refine G.iload C d4_239 rfl (n := 241) rfl ?_
                            refine G.iadd C d4_241 (n := 242) rfl ?_
                            have x303 : ((i + (2 : Int32))).toInt = i.toInt + 2 := ixk (by decide) q_0 (by decide) (by omega)
                            have x303n : ((i + (2 : Int32))).toInt.toNat = (i.toInt + 2).toNat := congrArg Int.toNat x303
                            refine G.baload C (x := (vs.getD (i.toInt + 2).toNat 0)) O_a (by omega) (by rw [x303n]; exact getD_at (by omega)) d4_242 (n := 243) rfl ?_
                            refine G.sipush C (v := (192 : Int32)) d4_243 (by decide) (n := 246) rfl ?_
                            have RS2 := Ints_byte O_a (i := (i.toInt + 2).toNat) (by omega)
                            have US2 : ub vs (i.toInt + 2) = ((vs.getD (i.toInt + 2).toNat 0) &&& (255 : Int32)).toInt := rfl
                            refine G.iand C d4_246 (n := 247) rfl ?_
                            refine G.sipush C (v := (128 : Int32)) d4_247 (by decide) (n := 250) rfl ?_
                            refine G.icmp_eq C (A := ((vs.getD (i.toInt + 2).toNat 0) &&& (192 : Int32)).toInt) (B := 128) rfl (by decide) d4_250 (by decide) (by decide) (n := 253) (n' := 255) rfl (fun c250_304 c250_304i => ?_) (fun c250_304 c250_304i => ?_)
                            · have rs2 : (128 ≤ ub vs (i.toInt + 2) ∧ ub vs (i.toInt + 2) ≤ 191) := (a192s RS2).mp c250_304i
                              refine G.iincK C (v := (1 : Int32)) (z := (3 : Int32)) d4_255 (by decide) rfl (by decide) (l' := #[.val (.ref a), .val (.int o), .val (.int n), .val (.int v1), .val (.int i), .val (.int b6), .val (.int (2 : Int32)), .val (.int (128 : Int32)), .val (.int (159 : Int32)), .val (.int b299), .val (.int (3 : Int32))]) rfl (n := 258) rfl ?_
                              refine G.goto C d4_258 (by decide) (n := 229) (by decide) ?_
                              refine G.iload C d4_229 rfl (n := 231) rfl ?_
                              refine G.iload C d4_231 rfl (n := 233) rfl ?_
                              refine G.icmp_gt C (A := 3) (B := 2) (by decide) (by decide) d4_233 (by decide) (by decide) (n := 236) (n' := 261) rfl (fun c233_305 => ?_) (fun c233_305 => ?_)
                              rotate_left
                              · exact absurd c233_305 (by decide)
                              refine G.iload C d4_261 rfl (n := 263) rfl ?_
                              refine G.iconst C (v := (1 : Int32)) d4_263 (by decide) (n := 264) rfl ?_
                              refine G.iload C d4_264 rfl (n := 266) rfl ?_
                              refine G.iadd C d4_266 (n := 267) rfl ?_
                              refine G.fold_int (z := (3 : Int32)) (by decide) ?_
                              refine G.iadd C d4_267 (n := 268) rfl ?_
                              refine G.fold_int (z := i + (3 : Int32)) rfl ?_
                              refine G.istoreZ C d4_268 (l' := fun z => #[.val (.ref a), .val (.int o), .val (.int n), .val (.int v1), .val (.int z), .val (.int b6), .val (.int (2 : Int32)), .val (.int (128 : Int32)), .val (.int (159 : Int32)), .val (.int b299), .val (.int (3 : Int32))]) (fun _ => rfl) (n := 270) rfl ?_
                              intro v306 hv306
                              refine G.goto C d4_270 (by decide) (n := 7) (by decide) ?_
                              have q_i2 : v306.toInt = i.toInt + 3 := by rw [hv306]; exact ixk (by decide) q_0 (by decide) (by omega)
                              have q_sq : sqv vs i.toInt v1.toInt = 3 := by unfold sqv; exact sq_3 (by omega) (by omega) (by omega)
                              exact ih v306 (.val (.int b6)) (.val (.int (2 : Int32))) (.val (.int (128 : Int32))) (.val (.int (159 : Int32))) (.val (.int b299)) (.val (.int (3 : Int32)))  (by omega) (by omega) (by rw [q_i2, ← q_sq]; exact wf_s q_W (by omega) (by omega)) (Or.inr ⟨_, rfl, rfl⟩) (Or.inr ⟨_, rfl, rfl⟩) (Or.inr ⟨_, rfl, rfl⟩) (Or.inr ⟨_, rfl, rfl⟩) (Or.inr ⟨_, rfl, rfl⟩) (Or.inr ⟨_, rfl, rfl⟩)
                            · have rs2 : ¬ (128 ≤ ub vs (i.toInt + 2) ∧ ub vs (i.toInt + 2) ≤ 191) := fun q => c250_304i ((a192s RS2).mpr q)
                              refine G.iconst C (v := (0 : Int32)) d4_253 (by decide) (n := 254) rfl ?_
                              refine G.ireturn C d4_254 (rfl) (by simp) (by decide) (by decide) ?_
                              exact ⟨by rw [wf_f q_W (by omega) (by unfold sqv; exact sq_03 (by omega) (by omega))]; rfl, rfl⟩
                          · refine G.iconst C (v := (0 : Int32)) d4_224 (by decide) (n := 225) rfl ?_
                            refine G.ireturn C d4_225 (rfl) (by simp) (by decide) (by decide) ?_
                            exact ⟨by rw [wf_f q_W (by omega) (by unfold sqv; exact sq_03 (by omega) (by omega))]; rfl, rfl⟩
                      · refine G.iconst C (v := (0 : Int32)) d4_196 (by decide) (n := 197) rfl ?_
                        refine G.ireturn C d4_197 (rfl) (by simp) (by decide) (by decide) ?_
                        exact ⟨by rw [wf_f q_W (by omega) (by unfold sqv; exact sq_03 (by omega) (by omega))]; rfl, rfl⟩
                  · refine G.sipush C (v := (160 : Int32)) d4_96 (by decide) (n := 99) rfl ?_
                    refine G.goto C d4_99 (by decide) (n := 104) (by decide) ?_
                    refine G.istore C d4_104 (l' := #[.val (.ref a), .val (.int o), .val (.int n), .val (.int v1), .val (.int i), .val (.int b6), .val (.int (2 : Int32)), .val (.int (160 : Int32)), .val (.int (191 : Int32)), s9, s10]) rfl (n := 106) rfl ?_
                    refine G.iload C d4_106 rfl (n := 108) rfl ?_
                    refine G.sipush C (v := (237 : Int32)) d4_108 (by decide) (n := 111) rfl ?_
                    refine G.icmp_ne C (A := b6.toInt) (B := 237) rfl (by decide) d4_111 (by decide) (by decide) (n := 114) (n' := 120) rfl (fun c111_307 c111_307i => ?_) (fun c111_307 c111_307i => ?_)
                    · refine G.iload C d4_120 rfl (n := 122) rfl ?_
                      refine G.istore C d4_122 (l' := #[.val (.ref a), .val (.int o), .val (.int n), .val (.int v1), .val (.int i), .val (.int b6), .val (.int (2 : Int32)), .val (.int (160 : Int32)), .val (.int (191 : Int32)), s9, s10]) rfl (n := 124) rfl ?_
                      refine G.goto C d4_124 (by decide) (n := 187) (by decide) ?_
                      have q_rem := isubk (x := v1) (y := i) (by omega) q_0
                      refine G.iloadN C d4_187 rfl (n := 188) rfl ?_
                      refine G.iload C d4_188 rfl (n := 190) rfl ?_
                      refine G.isub C d4_190 (n := 191) rfl ?_
                      refine G.iload C d4_191 rfl (n := 193) rfl ?_
                      refine G.icmp_gt C (A := (v1 - i).toInt) (B := 2) rfl (by decide) d4_193 (by decide) (by decide) (n := 196) (n' := 198) rfl (fun c193_308 => ?_) (fun c193_308 => ?_)
                      · refine G.aloadN C d4_198 rfl rfl (n := 199) rfl ?_
                        refine G.iload C d4_199 rfl (n := 201) rfl ?_
                        refine G.iconst C (v := (1 : Int32)) d4_201 (by decide) (n := 202) rfl ?_
                        refine G.iadd C d4_202 (n := 203) rfl ?_
                        have x309 : ((i + (1 : Int32))).toInt = i.toInt + 1 := ixk (by decide) q_0 (by decide) (by omega)
                        have x309n : ((i + (1 : Int32))).toInt.toNat = (i.toInt + 1).toNat := congrArg Int.toNat x309
                        refine G.baload C (x := (vs.getD (i.toInt + 1).toNat 0)) O_a (by omega) (by rw [x309n]; exact getD_at (by omega)) d4_203 (n := 204) rfl ?_
                        refine G.sipush C (v := (255 : Int32)) d4_204 (by decide) (n := 207) rfl ?_
                        refine G.iand C d4_207 (n := 208) rfl ?_
                        refine G.name_int ?_
                        intro b310 hb310
                        have R1 : 0 ≤ b310.toInt ∧ b310.toInt ≤ 255 := by rw [hb310]; exact u255 _
                        have U1 : b310.toInt = ub vs (i.toInt + 1) := by rw [hb310]; rfl
                        refine G.istore C d4_208 (l' := #[.val (.ref a), .val (.int o), .val (.int n), .val (.int v1), .val (.int i), .val (.int b6), .val (.int (2 : Int32)), .val (.int (160 : Int32)), .val (.int (191 : Int32)), .val (.int b310), s10]) (Jvm.Free.XS.store1 rfl hs9 rfl) (n := 210) rfl ?_
                        refine G.iload C d4_210 rfl (n := 212) rfl ?_
                        refine G.iload C d4_212 rfl (n := 214) rfl ?_
                        refine G.icmp_lt C (A := b310.toInt) (B := 160) rfl (by decide) d4_214 (by decide) (by decide) (n := 217) (n' := 224) rfl (fun c214_311 => ?_) (fun c214_311 => ?_)
                        · refine G.iconst C (v := (0 : Int32)) d4_224 (by decide) (n := 225) rfl ?_
                          refine G.ireturn C d4_225 (rfl) (by simp) (by decide) (by decide) ?_
                          exact ⟨by rw [wf_f q_W (by omega) (by unfold sqv; exact sq_03 (by omega) (by omega))]; rfl, rfl⟩
                        · refine G.iload C d4_217 rfl (n := 219) rfl ?_
                          refine G.iload C d4_219 rfl (n := 221) rfl ?_
                          refine G.icmp_le C (A := b310.toInt) (B := 191) rfl (by decide) d4_221 (by decide) (by decide) (n := 224) (n' := 226) rfl (fun c221_312 => ?_) (fun c221_312 => ?_)
                          · refine G.iconst C (v := (2 : Int32)) d4_226 (by decide) (n := 227) rfl ?_
                            refine G.istore C d4_227 (l' := #[.val (.ref a), .val (.int o), .val (.int n), .val (.int v1), .val (.int i), .val (.int b6), .val (.int (2 : Int32)), .val (.int (160 : Int32)), .val (.int (191 : Int32)), .val (.int b310), .val (.int (2 : Int32))]) (Jvm.Free.XS.store1 rfl hs10 rfl) (n := 229) rfl ?_
                            refine G.iload C d4_229 rfl (n := 231) rfl ?_
                            refine G.iload C d4_231 rfl (n := 233) rfl ?_
                            refine G.icmp_gt C (A := 2) (B := 2) (by decide) (by decide) d4_233 (by decide) (by decide) (n := 236) (n' := 261) rfl (fun c233_313 => ?_) (fun c233_313 => ?_)
                            · exact absurd c233_313 (by decide)
                            refine G.aloadN C d4_236 rfl rfl (n := 237) rfl ?_
                            refine G.iload C d4_237 rfl (n := 239) rfl ?_
                            refine G.iload C d4_239 rfl (n := 241) rfl ?_
                            refine G.iadd C d4_241 (n := 242) rfl ?_
                            have x314 : ((i + (2 : Int32))).toInt = i.toInt + 2 := ixk (by decide) q_0 (by decide) (by omega)
                            have x314n : ((i + (2 : Int32))).toInt.toNat = (i.toInt + 2).toNat := congrArg Int.toNat x314
                            refine G.baload C (x := (vs.getD (i.toInt + 2).toNat 0)) O_a (by omega) (by rw [x314n]; exact getD_at (by omega)) d4_242 (n := 243) rfl ?_
                            refine G.sipush C (v := (192 : Int32)) d4_243 (by decide) (n := 246) rfl ?_
                            have RS2 := Ints_byte O_a (i := (i.toInt + 2).toNat) (by omega)
                            have US2 : ub vs (i.toInt + 2) = ((vs.getD (i.toInt + 2).toNat 0) &&& (255 : Int32)).toInt := rfl
                            refine G.iand C d4_246 (n := 247) rfl ?_
                            refine G.sipush C (v := (128 : Int32)) d4_247 (by decide) (n := 250) rfl ?_
                            refine G.icmp_eq C (A := ((vs.getD (i.toInt + 2).toNat 0) &&& (192 : Int32)).toInt) (B := 128) rfl (by decide) d4_250 (by decide) (by decide) (n := 253) (n' := 255) rfl (fun c250_315 c250_315i => ?_) (fun c250_315 c250_315i => ?_)
                            · have rs2 : (128 ≤ ub vs (i.toInt + 2) ∧ ub vs (i.toInt + 2) ≤ 191) := (a192s RS2).mp c250_315i
                              refine G.iincK C (v := (1 : Int32)) (z := (3 : Int32)) d4_255 (by decide) rfl (by decide) (l' := #[.val (.ref a), .val (.int o), .val (.int n), .val (.int v1), .val (.int i), .val (.int b6), .val (.int (2 : Int32)), .val (.int (160 : Int32)), .val (.int (191 : Int32)), .val (.int b310), .val (.int (3 : Int32))]) rfl (n := 258) rfl ?_
                              refine G.goto C d4_258 (by decide) (n := 229) (by decide) ?_
                              refine G.iload C d4_229 rfl (n := 231) rfl ?_
                              refine G.iload C d4_231 rfl (n := 233) rfl ?_
                              refine G.icmp_gt C (A := 3) (B := 2) (by decide) (by decide) d4_233 (by decide) (by decide) (n := 236) (n' := 261) rfl (fun c233_316 => ?_) (fun c233_316 => ?_)
                              rotate_left
                              · exact absurd c233_316 (by decide)
                              refine G.iload C d4_261 rfl (n := 263) rfl ?_
                              refine G.iconst C (v := (1 : Int32)) d4_263 (by decide) (n := 264) rfl ?_
                              refine G.iload C d4_264 rfl (n := 266) rfl ?_
                              refine G.iadd C d4_266 (n := 267) rfl ?_
                              refine G.fold_int (z := (3 : Int32)) (by decide) ?_
                              refine G.iadd C d4_267 (n := 268) rfl ?_
                              refine G.fold_int (z := i + (3 : Int32)) rfl ?_
                              refine G.istoreZ C d4_268 (l' := fun z => #[.val (.ref a), .val (.int o), .val (.int n), .val (.int v1), .val (.int z), .val (.int b6), .val (.int (2 : Int32)), .val (.int (160 : Int32)), .val (.int (191 : Int32)), .val (.int b310), .val (.int (3 : Int32))]) (fun _ => rfl) (n := 270) rfl ?_
                              intro v317 hv317
                              refine G.goto C d4_270 (by decide) (n := 7) (by decide) ?_
                              have q_i2 : v317.toInt = i.toInt + 3 := by rw [hv317]; exact ixk (by decide) q_0 (by decide) (by omega)
                              have q_sq : sqv vs i.toInt v1.toInt = 3 := by unfold sqv; exact sq_3 (by omega) (by omega) (by omega)
                              exact ih v317 (.val (.int b6)) (.val (.int (2 : Int32))) (.val (.int (160 : Int32))) (.val (.int (191 : Int32))) (.val (.int b310)) (.val (.int (3 : Int32)))  (by omega) (by omega) (by rw [q_i2, ← q_sq]; exact wf_s q_W (by omega) (by omega)) (Or.inr ⟨_, rfl, rfl⟩) (Or.inr ⟨_, rfl, rfl⟩) (Or.inr ⟨_, rfl, rfl⟩) (Or.inr ⟨_, rfl, rfl⟩) (Or.inr ⟨_, rfl, rfl⟩) (Or.inr ⟨_, rfl, rfl⟩)
                            · have rs2 : ¬ (128 ≤ ub vs (i.toInt + 2) ∧ ub vs (i.toInt + 2) ≤ 191) := fun q => c250_315i ((a192s RS2).mpr q)
                              refine G.iconst C (v := (0 : Int32)) d4_253 (by decide) (n := 254) rfl ?_
                              refine G.ireturn C d4_254 (rfl) (by simp) (by decide) (by decide) ?_
                              exact ⟨by rw [wf_f q_W (by omega) (by unfold sqv; exact sq_03 (by omega) (by omega))]; rfl, rfl⟩
                          · refine G.iconst C (v := (0 : Int32)) d4_224 (by decide) (n := 225) rfl ?_
                            refine G.ireturn C d4_225 (rfl) (by simp) (by decide) (by decide) ?_
                            exact ⟨by rw [wf_f q_W (by omega) (by unfold sqv; exact sq_03 (by omega) (by omega))]; rfl, rfl⟩
                      · refine G.iconst C (v := (0 : Int32)) d4_196 (by decide) (n := 197) rfl ?_
                        refine G.ireturn C d4_197 (rfl) (by simp) (by decide) (by decide) ?_
                        exact ⟨by rw [wf_f q_W (by omega) (by unfold sqv; exact sq_03 (by omega) (by omega))]; rfl, rfl⟩
                    · refine G.sipush C (v := (159 : Int32)) d4_114 (by decide) (n := 117) rfl ?_
                      refine G.goto C d4_117 (by decide) (n := 122) (by decide) ?_
                      refine G.istore C d4_122 (l' := #[.val (.ref a), .val (.int o), .val (.int n), .val (.int v1), .val (.int i), .val (.int b6), .val (.int (2 : Int32)), .val (.int (160 : Int32)), .val (.int (159 : Int32)), s9, s10]) rfl (n := 124) rfl ?_
                      refine G.goto C d4_124 (by decide) (n := 187) (by decide) ?_
                      have q_rem := isubk (x := v1) (y := i) (by omega) q_0
                      refine G.iloadN C d4_187 rfl (n := 188) rfl ?_
                      refine G.iload C d4_188 rfl (n := 190) rfl ?_
                      refine G.isub C d4_190 (n := 191) rfl ?_
                      refine G.iload C d4_191 rfl (n := 193) rfl ?_
                      refine G.icmp_gt C (A := (v1 - i).toInt) (B := 2) rfl (by decide) d4_193 (by decide) (by decide) (n := 196) (n' := 198) rfl (fun c193_318 => ?_) (fun c193_318 => ?_)
                      · refine G.aloadN C d4_198 rfl rfl (n := 199) rfl ?_
                        refine G.iload C d4_199 rfl (n := 201) rfl ?_
                        refine G.iconst C (v := (1 : Int32)) d4_201 (by decide) (n := 202) rfl ?_
                        refine G.iadd C d4_202 (n := 203) rfl ?_
                        have x319 : ((i + (1 : Int32))).toInt = i.toInt + 1 := ixk (by decide) q_0 (by decide) (by omega)
                        have x319n : ((i + (1 : Int32))).toInt.toNat = (i.toInt + 1).toNat := congrArg Int.toNat x319
                        refine G.baload C (x := (vs.getD (i.toInt + 1).toNat 0)) O_a (by omega) (by rw [x319n]; exact getD_at (by omega)) d4_203 (n := 204) rfl ?_
                        refine G.sipush C (v := (255 : Int32)) d4_204 (by decide) (n := 207) rfl ?_
                        refine G.iand C d4_207 (n := 208) rfl ?_
                        refine G.name_int ?_
                        intro b320 hb320
                        have R1 : 0 ≤ b320.toInt ∧ b320.toInt ≤ 255 := by rw [hb320]; exact u255 _
                        have U1 : b320.toInt = ub vs (i.toInt + 1) := by rw [hb320]; rfl
                        refine G.istore C d4_208 (l' := #[.val (.ref a), .val (.int o), .val (.int n), .val (.int v1), .val (.int i), .val (.int b6), .val (.int (2 : Int32)), .val (.int (160 : Int32)), .val (.int (159 : Int32)), .val (.int b320), s10]) (Jvm.Free.XS.store1 rfl hs9 rfl) (n := 210) rfl ?_
                        refine G.iload C d4_210 rfl (n := 212) rfl ?_
                        refine G.iload C d4_212 rfl (n := 214) rfl ?_
                        refine G.icmp_lt C (A := b320.toInt) (B := 160) rfl (by decide) d4_214 (by decide) (by decide) (n := 217) (n' := 224) rfl (fun c214_321 => ?_) (fun c214_321 => ?_)
                        · refine G.iconst C (v := (0 : Int32)) d4_224 (by decide) (n := 225) rfl ?_
                          refine G.ireturn C d4_225 (rfl) (by simp) (by decide) (by decide) ?_
                          exact ⟨by rw [wf_f q_W (by omega) (by unfold sqv; exact sq_03 (by omega) (by omega))]; rfl, rfl⟩
                        · refine G.iload C d4_217 rfl (n := 219) rfl ?_
                          refine G.iload C d4_219 rfl (n := 221) rfl ?_
                          refine G.icmp_le C (A := b320.toInt) (B := 159) rfl (by decide) d4_221 (by decide) (by decide) (n := 224) (n' := 226) rfl (fun c221_322 => ?_) (fun c221_322 => ?_)
                          · refine G.iconst C (v := (2 : Int32)) d4_226 (by decide) (n := 227) rfl ?_
                            refine G.istore C d4_227 (l' := #[.val (.ref a), .val (.int o), .val (.int n), .val (.int v1), .val (.int i), .val (.int b6), .val (.int (2 : Int32)), .val (.int (160 : Int32)), .val (.int (159 : Int32)), .val (.int b320), .val (.int (2 : Int32))]) (Jvm.Free.XS.store1 rfl hs10 rfl) (n := 229) rfl ?_
                            refine G.iload C d4_229 rfl (n := 231) rfl ?_
                            refine G.iload C d4_231 rfl (n := 233) rfl ?_
                            refine G.icmp_gt C (A := 2) (B := 2) (by decide) (by decide) d4_233 (by decide) (by decide) (n := 236) (n' := 261) rfl (fun c233_323 => ?_) (fun c233_323 => ?_)
                            · exact absurd c233_323 (by decide)
                            refine G.aloadN C d4_236 rfl rfl (n := 237) rfl ?_
                            refine G.iload C d4_237 rfl (n := 239) rfl ?_
                            refine G.iload C d4_239 rfl (n := 241) rfl ?_
                            refine G.iadd C d4_241 (n := 242) rfl ?_
                            have x324 : ((i + (2 : Int32))).toInt = i.toInt + 2 := ixk (by decide) q_0 (by decide) (by omega)
                            have x324n : ((i + (2 : Int32))).toInt.toNat = (i.toInt + 2).toNat := congrArg Int.toNat x324
                            refine G.baload C (x := (vs.getD (i.toInt + 2).toNat 0)) O_a (by omega) (by rw [x324n]; exact getD_at (by omega)) d4_242 (n := 243) rfl ?_
                            refine G.sipush C (v := (192 : Int32)) d4_243 (by decide) (n := 246) rfl ?_
                            have RS2 := Ints_byte O_a (i := (i.toInt + 2).toNat) (by omega)
                            have US2 : ub vs (i.toInt + 2) = ((vs.getD (i.toInt + 2).toNat 0) &&& (255 : Int32)).toInt := rfl
                            refine G.iand C d4_246 (n := 247) rfl ?_
                            refine G.sipush C (v := (128 : Int32)) d4_247 (by decide) (n := 250) rfl ?_
                            refine G.icmp_eq C (A := ((vs.getD (i.toInt + 2).toNat 0) &&& (192 : Int32)).toInt) (B := 128) rfl (by decide) d4_250 (by decide) (by decide) (n := 253) (n' := 255) rfl (fun c250_325 c250_325i => ?_) (fun c250_325 c250_325i => ?_)
                            · have rs2 : (128 ≤ ub vs (i.toInt + 2) ∧ ub vs (i.toInt + 2) ≤ 191) := (a192s RS2).mp c250_325i
                              refine G.iincK C (v := (1 : Int32)) (z := (3 : Int32)) d4_255 (by decide) rfl (by decide) (l' := #[.val (.ref a), .val (.int o), .val (.int n), .val (.int v1), .val (.int i), .val (.int b6), .val (.int (2 : Int32)), .val (.int (160 : Int32)), .val (.int (159 : Int32)), .val (.int b320), .val (.int (3 : Int32))]) rfl (n := 258) rfl ?_
                              refine G.goto C d4_258 (by decide) (n := 229) (by decide) ?_
                              refine G.iload C d4_229 rfl (n := 231) rfl ?_
                              refine G.iload C d4_231 rfl (n := 233) rfl ?_
                              refine G.icmp_gt C (A := 3) (B := 2) (by decide) (by decide) d4_233 (by decide) (by decide) (n := 236) (n' := 261) rfl (fun c233_326 => ?_) (fun c233_326 => ?_)
                              rotate_left
                              · exact absurd c233_326 (by decide)
                              refine G.iload C d4_261 rfl (n := 263) rfl ?_
                              refine G.iconst C (v := (1 : Int32)) d4_263 (by decide) (n := 264) rfl ?_
                              refine G.iload C d4_264 rfl (n := 266) rfl ?_
                              refine G.iadd C d4_266 (n := 267) rfl ?_
                              refine G.fold_int (z := (3 : Int32)) (by decide) ?_
                              refine G.iadd C d4_267 (n := 268) rfl ?_
                              refine G.fold_int (z := i + (3 : Int32)) rfl ?_
                              refine G.istoreZ C d4_268 (l' := fun z => #[.val (.ref a), .val (.int o), .val (.int n), .val (.int v1), .val (.int z), .val (.int b6), .val (.int (2 : Int32)), .val (.int (160 : Int32)), .val (.int (159 : Int32)), .val (.int b320), .val (.int (3 : Int32))]) (fun _ => rfl) (n := 270) rfl ?_
                              intro v327 hv327
                              refine G.goto C d4_270 (by decide) (n := 7) (by decide) ?_
                              have q_i2 : v327.toInt = i.toInt + 3 := by rw [hv327]; exact ixk (by decide) q_0 (by decide) (by omega)
                              have q_sq : sqv vs i.toInt v1.toInt = 3 := by unfold sqv; exact sq_3 (by omega) (by omega) (by omega)
                              exact ih v327 (.val (.int b6)) (.val (.int (2 : Int32))) (.val (.int (160 : Int32))) (.val (.int (159 : Int32))) (.val (.int b320)) (.val (.int (3 : Int32)))  (by omega) (by omega) (by rw [q_i2, ← q_sq]; exact wf_s q_W (by omega) (by omega)) (Or.inr ⟨_, rfl, rfl⟩) (Or.inr ⟨_, rfl, rfl⟩) (Or.inr ⟨_, rfl, rfl⟩) (Or.inr ⟨_, rfl, rfl⟩) (Or.inr ⟨_, rfl, rfl⟩) (Or.inr ⟨_, rfl, rfl⟩)
                            · have rs2 : ¬ (128 ≤ ub vs (i.toInt + 2) ∧ ub vs (i.toInt + 2) ≤ 191) := fun q => c250_325i ((a192s RS2).mpr q)
                              refine G.iconst C (v := (0 : Int32)) d4_253 (by decide) (n := 254) rfl ?_
                              refine G.ireturn C d4_254 (rfl) (by simp) (by decide) (by decide) ?_
                              exact ⟨by rw [wf_f q_W (by omega) (by unfold sqv; exact sq_03 (by omega) (by omega))]; rfl, rfl⟩
                          · refine G.iconst C (v := (0 : Int32)) d4_224 (by decide) (n := 225) rfl ?_
                            refine G.ireturn C d4_225 (rfl) (by simp) (by decide) (by decide) ?_
                            exact ⟨by rw [wf_f q_W (by omega) (by unfold sqv; exact sq_03 (by omega) (by omega))]; rfl, rfl⟩
                      · refine G.iconst C (v := (0 : Int32)) d4_196 (by decide) (n := 197) rfl ?_
                        refine G.ireturn C d4_197 (rfl) (by simp) (by decide) (by decide) ?_
                        exact ⟨by rw [wf_f q_W (by omega) (by unfold sqv; exact sq_03 (by omega) (by omega))]; rfl, rfl⟩
            · refine G.iconst C (v := (1 : Int32)) d4_63 (by decide) (n := 64) rfl ?_
              refine G.istore C d4_64 (l' := #[.val (.ref a), .val (.int o), .val (.int n), .val (.int v1), .val (.int i), .val (.int b6), .val (.int (1 : Int32)), .val (.int (128 : Int32)), .val (.int (191 : Int32)), s9, s10]) (Jvm.Free.XS.store1 rfl hs6 rfl) (n := 66) rfl ?_
              refine G.goto C d4_66 (by decide) (n := 187) (by decide) ?_
              have q_rem := isubk (x := v1) (y := i) (by omega) q_0
              refine G.iloadN C d4_187 rfl (n := 188) rfl ?_
              refine G.iload C d4_188 rfl (n := 190) rfl ?_
              refine G.isub C d4_190 (n := 191) rfl ?_
              refine G.iload C d4_191 rfl (n := 193) rfl ?_
              refine G.icmp_gt C (A := (v1 - i).toInt) (B := 1) rfl (by decide) d4_193 (by decide) (by decide) (n := 196) (n' := 198) rfl (fun c193_328 => ?_) (fun c193_328 => ?_)
              · refine G.aloadN C d4_198 rfl rfl (n := 199) rfl ?_
                refine G.iload C d4_199 rfl (n := 201) rfl ?_
                refine G.iconst C (v := (1 : Int32)) d4_201 (by decide) (n := 202) rfl ?_
                refine G.iadd C d4_202 (n := 203) rfl ?_
                have x329 : ((i + (1 : Int32))).toInt = i.toInt + 1 := ixk (by decide) q_0 (by decide) (by omega)
                have x329n : ((i + (1 : Int32))).toInt.toNat = (i.toInt + 1).toNat := congrArg Int.toNat x329
                refine G.baload C (x := (vs.getD (i.toInt + 1).toNat 0)) O_a (by omega) (by rw [x329n]; exact getD_at (by omega)) d4_203 (n := 204) rfl ?_
                refine G.sipush C (v := (255 : Int32)) d4_204 (by decide) (n := 207) rfl ?_
                refine G.iand C d4_207 (n := 208) rfl ?_
                refine G.name_int ?_
                intro b330 hb330
                have R1 : 0 ≤ b330.toInt ∧ b330.toInt ≤ 255 := by rw [hb330]; exact u255 _
                have U1 : b330.toInt = ub vs (i.toInt + 1) := by rw [hb330]; rfl
                refine G.istore C d4_208 (l' := #[.val (.ref a), .val (.int o), .val (.int n), .val (.int v1), .val (.int i), .val (.int b6), .val (.int (1 : Int32)), .val (.int (128 : Int32)), .val (.int (191 : Int32)), .val (.int b330), s10]) (Jvm.Free.XS.store1 rfl hs9 rfl) (n := 210) rfl ?_
                refine G.iload C d4_210 rfl (n := 212) rfl ?_
                refine G.iload C d4_212 rfl (n := 214) rfl ?_
                refine G.icmp_lt C (A := b330.toInt) (B := 128) rfl (by decide) d4_214 (by decide) (by decide) (n := 217) (n' := 224) rfl (fun c214_331 => ?_) (fun c214_331 => ?_)
                · refine G.iconst C (v := (0 : Int32)) d4_224 (by decide) (n := 225) rfl ?_
                  refine G.ireturn C d4_225 (rfl) (by simp) (by decide) (by decide) ?_
                  exact ⟨by rw [wf_f q_W (by omega) (by unfold sqv; exact sq_02 (by omega) (by omega))]; rfl, rfl⟩
                · refine G.iload C d4_217 rfl (n := 219) rfl ?_
                  refine G.iload C d4_219 rfl (n := 221) rfl ?_
                  refine G.icmp_le C (A := b330.toInt) (B := 191) rfl (by decide) d4_221 (by decide) (by decide) (n := 224) (n' := 226) rfl (fun c221_332 => ?_) (fun c221_332 => ?_)
                  · refine G.iconst C (v := (2 : Int32)) d4_226 (by decide) (n := 227) rfl ?_
                    refine G.istore C d4_227 (l' := #[.val (.ref a), .val (.int o), .val (.int n), .val (.int v1), .val (.int i), .val (.int b6), .val (.int (1 : Int32)), .val (.int (128 : Int32)), .val (.int (191 : Int32)), .val (.int b330), .val (.int (2 : Int32))]) (Jvm.Free.XS.store1 rfl hs10 rfl) (n := 229) rfl ?_
                    refine G.iload C d4_229 rfl (n := 231) rfl ?_
                    refine G.iload C d4_231 rfl (n := 233) rfl ?_
                    refine G.icmp_gt C (A := 2) (B := 1) (by decide) (by decide) d4_233 (by decide) (by decide) (n := 236) (n' := 261) rfl (fun c233_333 => ?_) (fun c233_333 => ?_)
                    rotate_left
                    · exact absurd c233_333 (by decide)
                    refine G.iload C d4_261 rfl (n := 263) rfl ?_
                    refine G.iconst C (v := (1 : Int32)) d4_263 (by decide) (n := 264) rfl ?_
                    refine G.iload C d4_264 rfl (n := 266) rfl ?_
                    refine G.iadd C d4_266 (n := 267) rfl ?_
                    refine G.fold_int (z := (2 : Int32)) (by decide) ?_
                    refine G.iadd C d4_267 (n := 268) rfl ?_
                    refine G.fold_int (z := i + (2 : Int32)) rfl ?_
                    refine G.istoreZ C d4_268 (l' := fun z => #[.val (.ref a), .val (.int o), .val (.int n), .val (.int v1), .val (.int z), .val (.int b6), .val (.int (1 : Int32)), .val (.int (128 : Int32)), .val (.int (191 : Int32)), .val (.int b330), .val (.int (2 : Int32))]) (fun _ => rfl) (n := 270) rfl ?_
                    intro v334 hv334
                    refine G.goto C d4_270 (by decide) (n := 7) (by decide) ?_
                    have q_i2 : v334.toInt = i.toInt + 2 := by rw [hv334]; exact ixk (by decide) q_0 (by decide) (by omega)
                    have q_sq : sqv vs i.toInt v1.toInt = 2 := by unfold sqv; exact sq_2 (by omega)
                    exact ih v334 (.val (.int b6)) (.val (.int (1 : Int32))) (.val (.int (128 : Int32))) (.val (.int (191 : Int32))) (.val (.int b330)) (.val (.int (2 : Int32)))  (by omega) (by omega) (by rw [q_i2, ← q_sq]; exact wf_s q_W (by omega) (by omega)) (Or.inr ⟨_, rfl, rfl⟩) (Or.inr ⟨_, rfl, rfl⟩) (Or.inr ⟨_, rfl, rfl⟩) (Or.inr ⟨_, rfl, rfl⟩) (Or.inr ⟨_, rfl, rfl⟩) (Or.inr ⟨_, rfl, rfl⟩)
                  · refine G.iconst C (v := (0 : Int32)) d4_224 (by decide) (n := 225) rfl ?_
                    refine G.ireturn C d4_225 (rfl) (by simp) (by decide) (by decide) ?_
                    exact ⟨by rw [wf_f q_W (by omega) (by unfold sqv; exact sq_02 (by omega) (by omega))]; rfl, rfl⟩
              · refine G.iconst C (v := (0 : Int32)) d4_196 (by decide) (n := 197) rfl ?_
                refine G.ireturn C d4_197 (rfl) (by simp) (by decide) (by decide) ?_
                exact ⟨by rw [wf_f q_W (by omega) (by unfold sqv; exact sq_02 (by omega) (by omega))]; rfl, rfl⟩
        · refine G.iincZ C (v := (1 : Int32)) d4_31 (by decide) rfl (l' := fun z => #[.val (.ref a), .val (.int o), .val (.int n), .val (.int v1), .val (.int z), .val (.int b6), s6, s7, s8, s9, s10]) (fun _ => rfl) (n := 34) rfl ?_
          intro v335 hv335
          refine G.goto C d4_34 (by decide) (n := 7) (by decide) ?_
          have q_i2 : v335.toInt = i.toInt + 1 := by rw [hv335]; exact ixk (by decide) q_0 (by decide) (by omega)
          have q_sq : sqv vs i.toInt v1.toInt = 1 := by unfold sqv; exact sq_1 (by omega)
          exact ih v335 (.val (.int b6)) (s6) (s7) (s8) (s9) (s10)  (by omega) (by omega) (by rw [q_i2, ← q_sq]; exact wf_s q_W (by omega) (by omega)) (Or.inr ⟨_, rfl, rfl⟩) hs6 hs7 hs8 hs9 hs10
  exact loop2 6 o (.unset) (.unset) (.unset) (.unset) (.unset) (.unset)  q_o (by omega) (by rw [qE]; exact e_W) (Or.inl rfl) (Or.inl rfl) (Or.inl rfl) (Or.inl rfl) (Or.inl rfl) (Or.inl rfl)
theorem rem_v {x d : Int32} (hd : 0 < d.toInt) : 0 ≤ ((x &&& (2147483647 : Int32)) % d).toInt ∧ ((x &&& (2147483647 : Int32)) % d).toInt < d.toInt := by
  have q := (c_iremV (x &&& 2147483647) d).1 (c_and x 2147483647 (by decide)).1 hd
  exact ⟨q.1, q.2.1⟩
theorem nz_pos {d : Int32} (hd : 0 < d.toInt) : d ≠ 0 := fun h => by rw [h] at hd; exact absurd hd (by decide)
theorem pd1 : parseMethodDescriptor "([BII)Z" = some ⟨[(.array .byte), .int, .int], some .boolean⟩ := by decide +kernel
theorem ef5 (m : MethodId) (i0 : Int32) (i1 : Int32) (i2 : Int32) (i3 : Int32) : entryFrame m #[(.int i0), (.int i1), (.int i2), (.int i3)] 9 = mkF m 0 #[.val (.int i0), .val (.int i1), .val (.int i2), .val (.int i3), .unset, .unset, .unset, .unset, .unset] [] := by first | (simp [entryFrame, mkF, argsToLocals, Value.category]; done) | rfl
abbrev Q_law (Z : State) (h0 : Heap) (n0 : Nat) (i0 : Int32) (i1 : Int32) (i2 : Int32) (i3 : Int32) : Option Value → Heap → Prop := fun v h' => v = some (.int 1)
set_option maxRecDepth 65536 in
set_option maxHeartbeats 40000000 in
theorem m_law (l : Launch) (Z : State) (a0 : Array Value) (hw : ∀ d ∈ tables_1, d.before a0 Z = true) (i0 : Int32) (i1 : Int32) (i2 : Int32) (i3 : Int32) (h0 : Heap) (n0 : Nat) (Z0 : n0 ≤ h0.size)  : Met l Z (⟨"com/example/veilrelay/veilrelay/core/IdentifiersWellFormedUtf8PinLaw", "law", "(IIII)Z"⟩ : MethodName) code 9 (some .boolean) room_1 #[(.int i0), (.int i1), (.int i2), (.int i3)] h0 n0 (Q_law Z h0 n0 i0 i1 i2 i3) := by
  refine Met.of (plainFor_of_name pn0) (fun m => ef5 m i0 i1 i2 i3) ?_
  intro p e s m args below meth c C
  refine G.bipush C (v := (6 : Int32)) at_0 (by decide) (n := 2) rfl ?_
  refine G.newarray C (ty := .byte) (cap := 6) (wd hw 0 rfl) rfl rfl (by decide) (by decide) (by decide) at_2 (n := 4) rfl (c' := 1) (s' := 6) rfl rfl (by decide) (by decide) ?_
  intro h1 b2 q3 E4 O5
  have O6 : Ints Z h1 b2 .byte [0, 0, 0, 0, 0, 0] := O5
  have g7 : n0 ≤ b2 := Nat.le_trans Z0 (Nat.le_of_eq q3.symm)
  have K8 := kext E4
  have Z9 : n0 ≤ h1.size := Nat.le_trans Z0 K8.1
  refine G.astore C at_4 rfl (l' := #[.val (.int i0), .val (.int i1), .val (.int i2), .val (.int i3), .val (.ref b2), .unset, .unset, .unset, .unset]) rfl (n := 6) rfl ?_
  refine G.aload C at_6 rfl rfl (n := 8) rfl ?_
  refine G.iconst C (v := (0 : Int32)) at_8 (by decide) (n := 9) rfl ?_
  refine G.iloadN C at_9 rfl (n := 10) rfl ?_
  refine G.i2b C at_10 (n := 11) rfl ?_
  refine G.bastore C O6 (by decide) (show (0 : Int32).toInt < ((6 : Nat) : Int) by decide) g7 at_11 (n := 12) rfl ?_
  intro h10 K11 W12 O13
  have O14 : Ints Z h10 b2 .byte [(nar .byte (i0.toInt8.toInt32)), 0, 0, 0, 0, 0] := O13
  have Z15 : n0 ≤ h10.size := Nat.le_trans Z9 K11.1
  refine G.aload C at_12 rfl rfl (n := 14) rfl ?_
  refine G.iconst C (v := (1 : Int32)) at_14 (by decide) (n := 15) rfl ?_
  refine G.iloadN C at_15 rfl (n := 16) rfl ?_
  refine G.bipush C (v := (8 : Int32)) at_16 (by decide) (n := 18) rfl ?_
  refine G.iushr C at_18 (n := 19) rfl ?_
  refine G.i2b C at_19 (n := 20) rfl ?_
  refine G.bastore C O14 (by decide) (show (1 : Int32).toInt < ((6 : Nat) : Int) by decide) g7 at_20 (n := 21) rfl ?_
  intro h16 K17 W18 O19
  have O20 : Ints Z h16 b2 .byte [(nar .byte (i0.toInt8.toInt32)), (nar .byte (((i0.toUInt32 >>> ((8 : Int32) &&& 31).toUInt32).toInt32).toInt8.toInt32)), 0, 0, 0, 0] := O19
  have Z21 : n0 ≤ h16.size := Nat.le_trans Z15 K17.1
  refine G.aload C at_21 rfl rfl (n := 23) rfl ?_
  refine G.iconst C (v := (2 : Int32)) at_23 (by decide) (n := 24) rfl ?_
  refine G.iloadN C at_24 rfl (n := 25) rfl ?_
  refine G.bipush C (v := (16 : Int32)) at_25 (by decide) (n := 27) rfl ?_
  refine G.iushr C at_27 (n := 28) rfl ?_
  refine G.i2b C at_28 (n := 29) rfl ?_
  refine G.bastore C O20 (by decide) (show (2 : Int32).toInt < ((6 : Nat) : Int) by decide) g7 at_29 (n := 30) rfl ?_
  intro h22 K23 W24 O25
  have O26 : Ints Z h22 b2 .byte [(nar .byte (i0.toInt8.toInt32)), (nar .byte (((i0.toUInt32 >>> ((8 : Int32) &&& 31).toUInt32).toInt32).toInt8.toInt32)), (nar .byte (((i0.toUInt32 >>> ((16 : Int32) &&& 31).toUInt32).toInt32).toInt8.toInt32)), 0, 0, 0] := O25
  have Z27 : n0 ≤ h22.size := Nat.le_trans Z21 K23.1
  refine G.aload C at_30 rfl rfl (n := 32) rfl ?_
  refine G.iconst C (v := (3 : Int32)) at_32 (by decide) (n := 33) rfl ?_
  refine G.iloadN C at_33 rfl (n := 34) rfl ?_
  refine G.bipush C (v := (24 : Int32)) at_34 (by decide) (n := 36) rfl ?_
  refine G.iushr C at_36 (n := 37) rfl ?_
  refine G.i2b C at_37 (n := 38) rfl ?_
  refine G.bastore C O26 (by decide) (show (3 : Int32).toInt < ((6 : Nat) : Int) by decide) g7 at_38 (n := 39) rfl ?_
  intro h28 K29 W30 O31
  have O32 : Ints Z h28 b2 .byte [(nar .byte (i0.toInt8.toInt32)), (nar .byte (((i0.toUInt32 >>> ((8 : Int32) &&& 31).toUInt32).toInt32).toInt8.toInt32)), (nar .byte (((i0.toUInt32 >>> ((16 : Int32) &&& 31).toUInt32).toInt32).toInt8.toInt32)), (nar .byte (((i0.toUInt32 >>> ((24 : Int32) &&& 31).toUInt32).toInt32).toInt8.toInt32)), 0, 0] := O31
  have Z33 : n0 ≤ h28.size := Nat.le_trans Z27 K29.1
  refine G.aload C at_39 rfl rfl (n := 41) rfl ?_
  refine G.iconst C (v := (4 : Int32)) at_41 (by decide) (n := 42) rfl ?_
  refine G.iloadN C at_42 rfl (n := 43) rfl ?_
  refine G.i2b C at_43 (n := 44) rfl ?_
  refine G.bastore C O32 (by decide) (show (4 : Int32).toInt < ((6 : Nat) : Int) by decide) g7 at_44 (n := 45) rfl ?_
  intro h34 K35 W36 O37
  have O38 : Ints Z h34 b2 .byte [(nar .byte (i0.toInt8.toInt32)), (nar .byte (((i0.toUInt32 >>> ((8 : Int32) &&& 31).toUInt32).toInt32).toInt8.toInt32)), (nar .byte (((i0.toUInt32 >>> ((16 : Int32) &&& 31).toUInt32).toInt32).toInt8.toInt32)), (nar .byte (((i0.toUInt32 >>> ((24 : Int32) &&& 31).toUInt32).toInt32).toInt8.toInt32)), (nar .byte (i1.toInt8.toInt32)), 0] := O37
  have Z39 : n0 ≤ h34.size := Nat.le_trans Z33 K35.1
  refine G.aload C at_45 rfl rfl (n := 47) rfl ?_
  refine G.iconst C (v := (5 : Int32)) at_47 (by decide) (n := 48) rfl ?_
  refine G.iloadN C at_48 rfl (n := 49) rfl ?_
  refine G.bipush C (v := (8 : Int32)) at_49 (by decide) (n := 51) rfl ?_
  refine G.iushr C at_51 (n := 52) rfl ?_
  refine G.i2b C at_52 (n := 53) rfl ?_
  refine G.bastore C O38 (by decide) (show (5 : Int32).toInt < ((6 : Nat) : Int) by decide) g7 at_53 (n := 54) rfl ?_
  intro h40 K41 W42 O43
  have O44 : Ints Z h40 b2 .byte [(nar .byte (i0.toInt8.toInt32)), (nar .byte (((i0.toUInt32 >>> ((8 : Int32) &&& 31).toUInt32).toInt32).toInt8.toInt32)), (nar .byte (((i0.toUInt32 >>> ((16 : Int32) &&& 31).toUInt32).toInt32).toInt8.toInt32)), (nar .byte (((i0.toUInt32 >>> ((24 : Int32) &&& 31).toUInt32).toInt32).toInt8.toInt32)), (nar .byte (i1.toInt8.toInt32)), (nar .byte (((i1.toUInt32 >>> ((8 : Int32) &&& 31).toUInt32).toInt32).toInt8.toInt32))] := O43
  have Z45 : n0 ≤ h40.size := Nat.le_trans Z39 K41.1
  refine G.iloadN C at_54 rfl (n := 55) rfl ?_
  refine G.ldc C (v := (2147483647 : Int32)) (wd hw 1 rfl) at_55 (n := 57) rfl ?_
  refine G.iand C at_57 (n := 58) rfl ?_
  refine G.bipush C (v := (7 : Int32)) at_58 (by decide) (n := 60) rfl ?_
  refine G.irem C at_60 (by decide) (n := 61) rfl ?_
  refine G.istoreZ C at_61 (l' := fun z => #[.val (.int i0), .val (.int i1), .val (.int i2), .val (.int i3), .val (.ref b2), .val (.int z), .unset, .unset, .unset]) (fun _ => rfl) (n := 63) rfl ?_
  intro v46 hv46
  have qo : 0 ≤ v46.toInt ∧ v46.toInt < 7 := by rw [hv46]; exact rem_v (d := 7) (by decide)
  have q7 : ((7 : Int32) - v46).toInt = 7 - v46.toInt := isubk (by decide) qo.1
  refine G.iloadN C at_63 rfl (n := 64) rfl ?_
  refine G.ldc C (v := (2147483647 : Int32)) (wd hw 1 rfl) at_64 (n := 66) rfl ?_
  refine G.iand C at_66 (n := 67) rfl ?_
  refine G.bipush C (v := (7 : Int32)) at_67 (by decide) (n := 69) rfl ?_
  refine G.iload C at_69 rfl (n := 71) rfl ?_
  refine G.isub C at_71 (n := 72) rfl ?_
  refine G.irem C at_72 (nz_pos (by omega)) (n := 73) rfl ?_
  refine G.istoreZ C at_73 (l' := fun z => #[.val (.int i0), .val (.int i1), .val (.int i2), .val (.int i3), .val (.ref b2), .val (.int v46), .val (.int z), .unset, .unset]) (fun _ => rfl) (n := 75) rfl ?_
  intro v47 hv47
  have qn : 0 ≤ v47.toInt ∧ v47.toInt < ((7 : Int32) - v46).toInt := by rw [hv47]; exact rem_v (by omega)
  have q_sum : (v46 + v47).toInt = v46.toInt + v47.toInt := ixk rfl qo.1 qn.1 (by omega)
  have q_end : (v46 + v47).toInt ≤ 6 := by omega
  refine G.aload C at_75 rfl rfl (n := 77) rfl ?_
  refine G.iload C at_77 rfl (n := 79) rfl ?_
  refine G.iload C at_79 rfl (n := 81) rfl ?_
  refine G.iload C at_81 rfl (n := 83) rfl ?_
  refine G.iadd C at_83 (n := 84) rfl ?_
  refine G.callS C (argsL := [(.ref b2), (.int v46), (.int (v46 + v47))]) (yc := (⟨"com/example/veilrelay/veilrelay/core/IdentifiersWellFormedUtf8PinLaw", "reference", "([BII)Z"⟩ : MethodName)) (wd hw 2 rfl) (wd hw 3 rfl) (wd hw 4 rfl) (wd hw 5 rfl) (by decide) (m_ref l Z a0 hw b2 v46 (v46 + v47) [(nar .byte (i0.toInt8.toInt32)), (nar .byte (((i0.toUInt32 >>> ((8 : Int32) &&& 31).toUInt32).toInt32).toInt8.toInt32)), (nar .byte (((i0.toUInt32 >>> ((16 : Int32) &&& 31).toUInt32).toInt32).toInt8.toInt32)), (nar .byte (((i0.toUInt32 >>> ((24 : Int32) &&& 31).toUInt32).toInt32).toInt8.toInt32)), (nar .byte (i1.toInt8.toInt32)), (nar .byte (((i1.toUInt32 >>> ((8 : Int32) &&& 31).toUInt32).toInt32).toInt8.toInt32))] h40 n0 Z45 O44 rfl q_end) rfl (by decide) (W := 0) rfl (by decide) (c' := 1) (s' := 6) rfl rfl (by decide) (by decide) at_84 (n := 87) rfl pd1 rfl rfl ?_
  rintro _ _ ⟨rfl, rfl⟩
  refine G.istoreZ C at_87 (l' := fun z => #[.val (.int i0), .val (.int i1), .val (.int i2), .val (.int i3), .val (.ref b2), .val (.int v46), .val (.int v47), .val (.int z), .unset]) (fun _ => rfl) (n := 89) rfl ?_
  intro v50 hv50
  refine G.aload C at_89 rfl rfl (n := 91) rfl ?_
  refine G.iload C at_91 rfl (n := 93) rfl ?_
  refine G.iload C at_93 rfl (n := 95) rfl ?_
  refine G.callS C (argsL := [(.ref b2), (.int v46), (.int v47)]) (yc := (⟨"com/example/veilrelay/veilrelay/core/Identifiers", "wellFormedUtf8", "([BII)Z"⟩ : MethodName)) (wd hw 12 rfl) (wd hw 13 rfl) (wd hw 14 rfl) (wd hw 15 rfl) (by decide) (m_wf l Z a0 hw b2 v46 v47 [(nar .byte (i0.toInt8.toInt32)), (nar .byte (((i0.toUInt32 >>> ((8 : Int32) &&& 31).toUInt32).toInt32).toInt8.toInt32)), (nar .byte (((i0.toUInt32 >>> ((16 : Int32) &&& 31).toUInt32).toInt32).toInt8.toInt32)), (nar .byte (((i0.toUInt32 >>> ((24 : Int32) &&& 31).toUInt32).toInt32).toInt8.toInt32)), (nar .byte (i1.toInt8.toInt32)), (nar .byte (((i1.toUInt32 >>> ((8 : Int32) &&& 31).toUInt32).toInt32).toInt8.toInt32))] (wfn [(nar .byte (i0.toInt8.toInt32)), (nar .byte (((i0.toUInt32 >>> ((8 : Int32) &&& 31).toUInt32).toInt32).toInt8.toInt32)), (nar .byte (((i0.toUInt32 >>> ((16 : Int32) &&& 31).toUInt32).toInt32).toInt8.toInt32)), (nar .byte (((i0.toUInt32 >>> ((24 : Int32) &&& 31).toUInt32).toInt32).toInt8.toInt32)), (nar .byte (i1.toInt8.toInt32)), (nar .byte (((i1.toUInt32 >>> ((8 : Int32) &&& 31).toUInt32).toInt32).toInt8.toInt32))] (v46.toInt + v47.toInt) 6 v46.toInt) h40 n0 Z45 O44 rfl (by omega) (by omega) (by omega) rfl) rfl (by decide) (W := 0) rfl (by decide) (c' := 1) (s' := 6) rfl rfl (by decide) (by decide) at_95 (n := 98) rfl pd1 rfl rfl ?_
  rintro _ _ ⟨rfl, rfl⟩
  refine G.istoreZ C at_98 (l' := fun z => #[.val (.int i0), .val (.int i1), .val (.int i2), .val (.int i3), .val (.ref b2), .val (.int v46), .val (.int v47), .val (.int v50), .val (.int z)]) (fun _ => rfl) (n := 100) rfl ?_
  intro v53 hv53
  refine G.iload C at_100 rfl (n := 102) rfl ?_
  refine G.iload C at_102 rfl (n := 104) rfl ?_
  refine G.icmp_ne C (A := v50.toInt) (B := v53.toInt) rfl rfl at_104 (by decide) (by decide) (n := 107) (n' := 111) rfl (fun c104_54 c104_54i => ?_) (fun c104_54 c104_54i => ?_)
  · exact absurd (by rw [hv50, hv53, q_sum, itn_wfn _ _ 6 _ qo.1 (by omega)]) c104_54
  refine G.iconst C (v := (1 : Int32)) at_107 (by decide) (n := 108) rfl ?_
  refine G.goto C at_108 (by decide) (n := 112) (by decide) ?_
  refine G.ireturn C at_112 (rfl) (by simp) (by decide) (by decide) ?_
  exact rfl
set_option maxRecDepth 65536 in
set_option maxHeartbeats 40000000 in
theorem comes_1 {Post : Tables → Env → Array Value → State → Outcome → State → Prop} (hpost : ∀ tb e args s v u, (limb_1_1.after args s (.returned v) u = true ∧ limb_1_2.after args s (.returned v) u = true ∧ True) → FrameEnd s (.returned v) u (Jvm.fieldLocs frame_1_writes args s ++ Jvm.arrayLocs frame_1_arrays args s ++ Jvm.staticLocs frame_1_statics s) 16 128 → Post tb e args s (.returned v) u) :
    ArmFor flags0 classFile x code maxLocals ret World_1 tables_1 room_1 Calls_1 rest_1 Pre_1 Post := by
  intro l hfl _ _ p e ha hc hk s m args below hf hA hF happ hP
  obtain ⟨hcalls, hrest, hpre⟩ := hP
  obtain ⟨-, -, -, hnamed, -, -, -, hat⟩ := (Spec.applies_iff hf).mp happ
  obtain ⟨hg, hn⟩ := and_e (Cond.before_iff.mp (show (Jvm.Cond.and given_1 narrow_1).before args s = true from hpre))
  obtain ⟨k1, k2⟩ := and_e hg
  obtain ⟨w0, w1, w2, w3, rfl⟩ : ∃ w0 w1 w2 w3 : Value, args = #[w0, w1, w2, w3] := by
    have hs : args.size = 4 := by simpa [Cond.value, given_1] using k1
    obtain ⟨L⟩ := args
    match L, hs with
    | [w0, w1, w2, w3], _ => exact ⟨w0, w1, w2, w3, rfl⟩
  have hw := fun d (hd : d ∈ tables_1) => atoms_spec (ws := Jvm.Cond.code x code maxLocals ret :: tables_1) hat d (List.mem_cons_of_mem _ hd)
  have hfit : Fit s := fun {y c} hc i hi => by
    obtain ⟨ha, rfl⟩ := Array.getElem?_eq_some_iff.mp hc
    have q := List.all_eq_true.mp ((Array.all_eq_true_iff_forall_mem.mp hF) _ (Array.getElem_mem ha)) i (List.mem_range.mpr hi)
    simpa [Array.getElem?_eq_getElem hi] using q
  obtain ⟨u0, k2⟩ := and_e k2
  obtain ⟨i0, e0⟩ := is_v u0
  obtain rfl : w0 = (.int i0) := Option.some.inj e0
  obtain ⟨u1, k2⟩ := and_e k2
  obtain ⟨i1, e1⟩ := is_v u1
  obtain rfl : w1 = (.int i1) := Option.some.inj e1
  obtain ⟨u2, k2⟩ := and_e k2
  obtain ⟨i2, e2⟩ := is_v u2
  obtain rfl : w2 = (.int i2) := Option.some.inj e2
  have u3 := k2
  obtain ⟨i3, e3⟩ := is_v u3
  obtain rfl : w3 = (.int i3) := Option.some.inj e3
  obtain ⟨n, o, h1, h2, h3, _, L, rfl, ⟨N, rfl⟩, hq⟩ := m_law l s _ hw i0 i1 i2 i3 s.heap s.heap.size (Nat.le_refl _)  tables_1 p e ha hc hk s m _ below hf ((Spec.applies_iff_loose hf).mp happ).1 ⟨rfl, State.Warmed39.refl s, rfl⟩ trivial
  refine ⟨n, _, h1, h2, h3, hpost _ _ _ _ _ _ ⟨Cond.after_iff.mpr rfl, Cond.after_iff.mpr (eq_i res_at (Term.int_eval (1)) rfl), trivial⟩ ⟨hq.1, hq.2.1, (hq.2.2.sift fun y hy => Or.inr (N y hy)).mono (by decide) (by decide)⟩⟩
theorem main_1_1 : Claimed_1_1 := comes_1 fun _ _ _ _ _ _ h hF => ⟨h.1, hF⟩
theorem main_1_2 : Claimed_1_2 := comes_1 fun _ _ _ _ _ _ h hF => ⟨h.2.1, hF⟩
end Jvm.Pilot.@@N@@
namespace Jvm.Pilot.@@N@@
open Jvm Jvm.ClassFile Sem Op Lib Jvm.Free Jvm.Stand Jvm.Pilot.@@N@@.Jvm.D
/-! MADE BY PROGRAM (witnessworld.py) out of the Statement's table words and the real class files: 9 classes; the members and pool entries that the words name. The judged class is class 1, her method 1. -/
namespace start1
open Jvm.ClassFile
def u (s : String) : CpInfo := .utf8 (stringToUtf16 s)
/-- a pool by its gaps: so many unusable entries, then the entry; so many at the end -/
def gap : Nat → List CpInfo → List CpInfo
  | 0, r => r
  | n + 1, r => .unusable :: gap n r
def poolList (es : List (Nat × CpInfo)) (last : Nat) : List CpInfo := es.foldr (fun e r => gap e.1 (e.2 :: r)) (gap last [])
def pool (es : List (Nat × CpInfo)) (last : Nat) : Array CpInfo := ⟨poolList es last⟩
def fileOf (pool : Array CpInfo) (this : Nat) (attrs : Array Attribute := #[]) (ms : Array MethodInfo := #[]) (fl : Nat := 33) (sup : Nat := 0) (ifs : Array Nat := #[]) (fds : Array FieldInfo := #[]) : ClassFile where
  minorVersion := 0
  majorVersion := 65
  constantPool := pool
  accessFlags := fl
  thisClass := this
  superClass := sup
  interfaces := ifs
  fields := fds
  methods := ms
  attributes := attrs
def plain (name : String) (sup : Option ClassId) : Class where
  name := name
  kind := .ordinary
  loader := none
  accessFlags := 33
  super := sup
  interfaces := #[]
  cf := none
  fields := #[]
  methods := #[]
  instanceTypes := #[]
  staticTypes := #[]
  resolved := #[]
  callSites := []
  init := .initialized
  statics := none
  mirror := none

def pool0 : Array CpInfo := pool [(5, u "<init>"), (0, u "()V"), (1, .class_ 10), (1, u "java/lang/Object")] 113

def k0m0 : Method := { name := "<init>", desc := "()V", sig := { parameters := [], returnType := none }, accessFlags := 1, code := none }
/-- java/lang/Object -/
def k0 : Class := { plain "java/lang/Object" none with
  accessFlags := 33
  interfaces := #[]
  cf := some (fileOf pool0 8 #[] #[{ accessFlags := 1, nameIndex := 5, descriptorIndex := 6, attributes := #[] }] 33 0 #[] #[])
  fields := #[]
  methods := #[k0m0]
  instanceTypes := #[]
  staticTypes := #[]
  resolved := Array.replicate 124 none
  statics := none }

def pool1 : Array CpInfo := pool [(2, .class_ 4), (1, u "java/lang/Object"), (0, u "<init>"), (0, u "()V"), (0, .integer 2147483647), (0, .methodref 9 10), (0, .class_ 11), (0, .nameAndType 12 13), (0, u "com/example/veilrelay/veilrelay/core/IdentifiersWellFormedUtf8PinLaw"), (0, u "reference"), (0, u "([BII)Z"), (0, .methodref 15 16), (0, .class_ 17), (0, .nameAndType 18 13), (0, u "com/example/veilrelay/veilrelay/core/Identifiers"), (0, u "wellFormedUtf8"), (0, .methodref 9 20), (0, .nameAndType 21 22), (0, u "step"), (0, u "([BII)I"), (0, .methodref 9 24), (0, .nameAndType 25 22), (0, u "seq"), (0, .integer 65536), (0, .integer 55296), (0, .integer 57343), (0, .integer 1114111), (2, u "law"), (0, u "(IIII)Z")] 5

def k1m0 : Method := { name := "<init>", desc := "()V", sig := { parameters := [], returnType := none }, accessFlags := 2, code := none }
def k1c1 : Code := { maxStack := 4, maxLocals := 9, code := code, exceptionTable := #[], attributes := #[] }
def k1m1 : Method := { name := "law", desc := "(IIII)Z", sig := { parameters := [.int, .int, .int, .int], returnType := some .boolean }, accessFlags := 9, code := some k1c1 }
def k1c2 : Code := { maxStack := 3, maxLocals := 4, code := method_3_code, exceptionTable := #[], attributes := #[] }
def k1m2 : Method := { name := "reference", desc := "([BII)Z", sig := { parameters := [(.array .byte), .int, .int], returnType := some .boolean }, accessFlags := 10, code := some k1c2 }
def k1c3 : Code := { maxStack := 3, maxLocals := 4, code := method_4_code, exceptionTable := #[], attributes := #[] }
def k1m3 : Method := { name := "step", desc := "([BII)I", sig := { parameters := [(.array .byte), .int, .int], returnType := some .int }, accessFlags := 10, code := some k1c3 }
def k1c4 : Code := { maxStack := 3, maxLocals := 8, code := method_5_code, exceptionTable := #[], attributes := #[] }
def k1m4 : Method := { name := "seq", desc := "([BII)I", sig := { parameters := [(.array .byte), .int, .int], returnType := some .int }, accessFlags := 10, code := some k1c4 }
/-- com/example/veilrelay/veilrelay/core/IdentifiersWellFormedUtf8PinLaw -/
def k1 : Class := { plain "com/example/veilrelay/veilrelay/core/IdentifiersWellFormedUtf8PinLaw" (some 0) with
  accessFlags := 49
  interfaces := #[]
  cf := some (fileOf pool1 9 #[] #[{ accessFlags := 2, nameIndex := 5, descriptorIndex := 6, attributes := #[] }, { accessFlags := 9, nameIndex := 32, descriptorIndex := 33, attributes := #[] }, { accessFlags := 10, nameIndex := 12, descriptorIndex := 13, attributes := #[] }, { accessFlags := 10, nameIndex := 21, descriptorIndex := 22, attributes := #[] }, { accessFlags := 10, nameIndex := 25, descriptorIndex := 22, attributes := #[] }] 49 2 #[] #[])
  fields := #[]
  methods := #[k1m0, k1m1, k1m2, k1m3, k1m4]
  instanceTypes := #[]
  staticTypes := #[]
  resolved := Array.replicate 39 none
  statics := none }

def pool2 : Array CpInfo := pool [(2, .class_ 4), (1, u "java/lang/Object"), (0, u "<init>"), (0, u "()V"), (36, .class_ 44), (0, u "com/example/veilrelay/veilrelay/core/Identifiers"), (8, u "wellFormedUtf8"), (0, u "([BII)Z"), (2, u "MAX_BYTES"), (0, u "I")] 15

def k2m0 : Method := { name := "<init>", desc := "()V", sig := { parameters := [], returnType := none }, accessFlags := 2, code := none }
def k2c1 : Code := { maxStack := 3, maxLocals := 11, code := prog_20_method_4_code, exceptionTable := #[], attributes := #[] }
def k2m1 : Method := { name := "wellFormedUtf8", desc := "([BII)Z", sig := { parameters := [(.array .byte), .int, .int], returnType := some .boolean }, accessFlags := 9, code := some k2c1 }
/-- com/example/veilrelay/veilrelay/core/Identifiers -/
def k2 : Class := { plain "com/example/veilrelay/veilrelay/core/Identifiers" (some 0) with
  accessFlags := 49
  interfaces := #[]
  cf := some (fileOf pool2 43 #[] #[{ accessFlags := 2, nameIndex := 5, descriptorIndex := 6, attributes := #[] }, { accessFlags := 9, nameIndex := 53, descriptorIndex := 54, attributes := #[] }] 49 2 #[] #[{ accessFlags := 25, nameIndex := 57, descriptorIndex := 58, attributes := #[] }])
  fields := #[{ name := "MAX_BYTES", type := .int, accessFlags := 25, slot := 0, constantValue := 0 }]
  methods := #[k2m0, k2m1]
  instanceTypes := #[]
  staticTypes := #[.int]
  resolved := Array.replicate 74 none
  statics := none }

def pool3 : Array CpInfo := pool [(1, u "java/lang/Cloneable"), (0, .class_ 1), (0, u "java/lang/Object"), (0, .class_ 3)] 3

/-- java/lang/Cloneable -/
def k3 : Class := { plain "java/lang/Cloneable" (some 0) with
  accessFlags := 1537
  interfaces := #[]
  cf := some (fileOf pool3 2 #[] #[] 1537 4 #[] #[])
  fields := #[]
  methods := #[]
  instanceTypes := #[]
  staticTypes := #[]
  resolved := Array.replicate 8 none
  statics := none }

def pool4 : Array CpInfo := pool [(1, u "java/io/Serializable"), (0, .class_ 1), (0, u "java/lang/Object"), (0, .class_ 3)] 3

/-- java/io/Serializable -/
def k4 : Class := { plain "java/io/Serializable" (some 0) with
  accessFlags := 1537
  interfaces := #[]
  cf := some (fileOf pool4 2 #[] #[] 1537 4 #[] #[])
  fields := #[]
  methods := #[]
  instanceTypes := #[]
  staticTypes := #[]
  resolved := Array.replicate 8 none
  statics := none }

/-- the primitive byte -/
def k5 : Class := { plain "byte" none with kind := .primitive 'B', accessFlags := 0x411 }
/-- [B -/
def k6 : Class := { plain "[B" (some 0) with kind := .array 5 .byte, interfaces := #[3, 4], accessFlags := 1041 }

/-- the primitive int -/
def k7 : Class := { plain "int" none with kind := .primitive 'I', accessFlags := 0x411 }
/-- [I -/
def k8 : Class := { plain "[I" (some 0) with kind := .array 7 .int, interfaces := #[3, 4], accessFlags := 1041 }

def heap : Heap := #[]
def classes : Array Class := #[k0, k1, k2, k3, k4, k5, k6, k7, k8]
def interned : List (Array UInt16 × Addr) := []
def slotsUsed : Nat := 0
def theMethod : MethodId := ⟨1, 1⟩
def args0 : Array Value := #[.int 5, .int 6, .int 7, .int 1]
def aboutOver (below : List Frame) : State where
  vm := { classes := classes, interned := interned.toArray }
  heap := heap
  slotsUsed := slotsUsed
  threads := #[{ frames := .invoking theMethod args0 :: below }]
def below0 : List Frame := [.native { method := ⟨0, 0⟩, args := #[] }]
def about1 : State := aboutOver below0
def p0 : Program := .bare "" "" ""
def e0 : Env := launch0.env 0 0 0
theorem w_frames : about1.frames = Frame.invoking theMethod args0 :: below0 := rfl
set_option maxRecDepth 65536 in
theorem w_args : argsFit about1.vm theMethod args0 = true := by decide +kernel
set_option maxRecDepth 65536 in
theorem w_heap : heapFits about1 = true := by decide +kernel
set_option maxRecDepth 65536 in
theorem w_runnable : about1.curStatus? = some .runnable := by decide +kernel
set_option maxRecDepth 65536 in
theorem w_alone : about1.alone = true := by decide +kernel
set_option maxRecDepth 65536 in
theorem w_named : about1.methodNamed? x = some theMethod := by decide +kernel
set_option maxRecDepth 65536 in
theorem w_hears : about1.hears theMethod below0 = true := by decide +kernel
set_option maxRecDepth 65536 in
theorem w_ripe : about1.ripe theMethod args0 below0 = true := by decide +kernel
theorem w_running : about1.status = .running := rfl
set_option maxRecDepth 65536 in
theorem w_room : about1.hasRoom e0.platform room_1 = true :=
  launch0.hasRoom_least _ room_1 (by decide +kernel) (by decide +kernel) (by decide +kernel) (by decide +kernel) (by decide +kernel) (by decide +kernel)
theorem allAtoms_all (ts : List Jvm.Cond) (a : Array Jvm.Value) (st : Jvm.State) : (allAtoms ts).before a st = ts.all (fun c => c.before a st) := by
  induction ts with
  | nil => rfl
  | cons c t ih =>
    show (Jvm.Cond.and c (allAtoms t)).before a st = _
    rw [Jvm.Cond.before_and, ih, List.all_cons]
def words1 : List Jvm.Cond := Jvm.Cond.code x code maxLocals ret :: tables_1
/-- a 'code' word, met by the world's own term for the bytes: nothing is compared byte by byte -/
theorem code_word {y : MethodName} {bytes : ByteArray} {mx : Nat} {rt : Option FieldType} {a : Array Value} {s : State} {m : MethodId} {meth : Method} {c : Code} (h1 : s.methodNamed? y = some m) (h2 : s.vm.method? m = some meth) (h3 : meth.code = some c) (h4 : c.code = bytes)
    (h5 : (c.maxLocals == mx && c.exceptionTable.isEmpty && decide (c.maxStack ≤ mostOperands) && decide (meth.sig.returnType = rt) && !meth.locks && decide (parseMethodDescriptor y.desc = some meth.sig)) = true) : (Jvm.Cond.code y bytes mx rt).before a s = true := by
  simp only [Bool.and_eq_true, beq_iff_eq, Bool.not_eq_true', decide_eq_true_eq] at h5
  obtain ⟨⟨⟨⟨⟨g1, g2⟩, g3⟩, g4⟩, g5⟩, g6⟩ := h5
  simp [Cond.before, Cond.holds, Cond.value, h1, h2, h3, h4, g1, g2, g3, g4, g5, g6]
def isCode : Jvm.Cond → Bool
  | .code _ _ _ _ => true
  | _ => false
theorem all_split {L : List Jvm.Cond} {P : Jvm.Cond → Bool} (h1 : L.all (fun c => isCode c || P c) = true) (h2 : ∀ c ∈ L.filter isCode, P c = true) : L.all P = true := by
  refine List.all_eq_true.mpr fun c hc => ?_
  have h := List.all_eq_true.mp h1 c hc
  rcases Bool.eq_false_or_eq_true (isCode c) with hi | hi
  · exact h2 c (List.mem_filter.mpr ⟨hc, hi⟩)
  · simpa [hi] using h
set_option maxRecDepth 65536 in
theorem w_c0 : (Jvm.Cond.code x code maxLocals ret).before args0 about1 = true := code_word (m := ⟨1, 1⟩) (meth := k1m1) (c := k1c1) (by decide +kernel) rfl rfl rfl (by decide +kernel)
set_option maxRecDepth 65536 in
theorem w_c1 : (Jvm.Cond.code ({ cls := "com/example/veilrelay/veilrelay/core/IdentifiersWellFormedUtf8PinLaw", name := "reference", desc := "([BII)Z" } : Jvm.MethodName) method_3_code (4 : Nat) (Option.some Jvm.ClassFile.FieldType.boolean)).before args0 about1 = true := code_word (m := ⟨1, 2⟩) (meth := k1m2) (c := k1c2) (by decide +kernel) rfl rfl rfl (by decide +kernel)
set_option maxRecDepth 65536 in
theorem w_c2 : (Jvm.Cond.code ({ cls := "com/example/veilrelay/veilrelay/core/IdentifiersWellFormedUtf8PinLaw", name := "step", desc := "([BII)I" } : Jvm.MethodName) method_4_code (4 : Nat) (Option.some Jvm.ClassFile.FieldType.int)).before args0 about1 = true := code_word (m := ⟨1, 3⟩) (meth := k1m3) (c := k1c3) (by decide +kernel) rfl rfl rfl (by decide +kernel)
set_option maxRecDepth 65536 in
theorem w_c3 : (Jvm.Cond.code ({ cls := "com/example/veilrelay/veilrelay/core/IdentifiersWellFormedUtf8PinLaw", name := "seq", desc := "([BII)I" } : Jvm.MethodName) method_5_code (8 : Nat) (Option.some Jvm.ClassFile.FieldType.int)).before args0 about1 = true := code_word (m := ⟨1, 4⟩) (meth := k1m4) (c := k1c4) (by decide +kernel) rfl rfl rfl (by decide +kernel)
set_option maxRecDepth 65536 in
theorem w_c4 : (Jvm.Cond.code ({ cls := "com/example/veilrelay/veilrelay/core/Identifiers", name := "wellFormedUtf8", desc := "([BII)Z" } : Jvm.MethodName) prog_20_method_4_code (11 : Nat) (Option.some Jvm.ClassFile.FieldType.boolean)).before args0 about1 = true := code_word (m := ⟨2, 1⟩) (meth := k2m1) (c := k2c1) (by decide +kernel) rfl rfl rfl (by decide +kernel)
def codes1 : List Jvm.Cond := [Jvm.Cond.code x code maxLocals ret, Jvm.Cond.code ({ cls := "com/example/veilrelay/veilrelay/core/IdentifiersWellFormedUtf8PinLaw", name := "reference", desc := "([BII)Z" } : Jvm.MethodName) method_3_code (4 : Nat) (Option.some Jvm.ClassFile.FieldType.boolean), Jvm.Cond.code ({ cls := "com/example/veilrelay/veilrelay/core/IdentifiersWellFormedUtf8PinLaw", name := "step", desc := "([BII)I" } : Jvm.MethodName) method_4_code (4 : Nat) (Option.some Jvm.ClassFile.FieldType.int), Jvm.Cond.code ({ cls := "com/example/veilrelay/veilrelay/core/IdentifiersWellFormedUtf8PinLaw", name := "seq", desc := "([BII)I" } : Jvm.MethodName) method_5_code (8 : Nat) (Option.some Jvm.ClassFile.FieldType.int), Jvm.Cond.code ({ cls := "com/example/veilrelay/veilrelay/core/Identifiers", name := "wellFormedUtf8", desc := "([BII)Z" } : Jvm.MethodName) prog_20_method_4_code (11 : Nat) (Option.some Jvm.ClassFile.FieldType.boolean)]
set_option maxRecDepth 65536 in
theorem codes_eq : words1.filter isCode = codes1 := rfl
theorem w_codes : ∀ c ∈ words1.filter isCode, c.before args0 about1 = true := by
  rw [codes_eq]
  intro c hc
  simp only [codes1, List.mem_cons, List.not_mem_nil, or_false] at hc
  rcases hc with rfl | rfl | rfl | rfl | rfl
  · exact w_c0
  · exact w_c1
  · exact w_c2
  · exact w_c3
  · exact w_c4
set_option maxRecDepth 65536 in
theorem w_t1 : words1.all (fun c => isCode c || c.before args0 about1) = true := by decide +kernel
theorem w_tables : (allAtoms (Jvm.Cond.code x code maxLocals ret :: tables_1)).before args0 about1 = true := by
  rw [allAtoms_all]
  show words1.all (fun c => c.before args0 about1) = true
  refine all_split ?_ w_codes
  rw [w_t1]
set_option maxRecDepth 65536 in
theorem w_case : (Jvm.Cond.and given_1 narrow_1).before args0 about1 = true := by decide +kernel
theorem w_applies : (headSpec (Jvm.Cond.code x code maxLocals ret :: tables_1) room_1).applies x e0.platform about1 = true :=
  (Spec.applies_iff w_frames).mpr ⟨w_running, w_runnable, w_alone, w_named, w_hears, w_ripe, w_room, w_tables⟩
theorem atStart : AtStart classFile x code maxLocals ret World_1 tables_1 room_1 Calls_1 rest_1 Pre_1 launch0 p0 e0 about1 theMethod args0 below0 :=
  ⟨lists_1, trivial, launch0.admits_env _ _ _, launch0.least_env, fairChoices_fair.cas, fairChoices_fair.clock, w_frames, w_args, w_heap, w_applies, trivial, trivial, w_case⟩
end start1
theorem witness_1 : WitnessClaimed_1 := ⟨start1.p0, start1.e0, start1.about1, start1.theMethod, start1.args0, start1.below0, start1.atStart⟩
end Jvm.Pilot.@@N@@
