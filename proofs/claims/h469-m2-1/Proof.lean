import JvmDerived
import JvmDerived.Pilot.@@N@@Statement
import JvmDerived.Pilot.@@N@@Code
set_option linter.unusedVariables false
set_option linter.unusedSimpArgs false
namespace Jvm.Own
open Jvm Jvm.ClassFile Sem Op Lib Jvm.Free Jvm.Stand Jvm.LawKit Jvm.RoadKit
def b2i (b : Bool) : Int32 := if b then 1 else 0
theorem wd {ws : List Jvm.Cond} {a0 : Array Value} {Z : State} (hw : ∀ d ∈ ws, d.before a0 Z = true) (i : Nat) {d : Jvm.Cond} (h : ws[i]? = some d) : d.before a0 Z = true := hw d (List.mem_of_getElem? h)
/-- a contract of a body: from the heap h with these arguments it returns, writes nothing below n0, and Q holds of what it returns and of the heap -/
def Met (l : Launch) (Z : State) (y : MethodName) (bytes : ByteArray) (maxL : Nat) (ret : Option FieldType) (rm : Room) (as' : Array Value) (h : Heap) (n0 : Nat) (Q : Option Value → Heap → Prop) : Prop :=
  ∀ ws, MetFree l y (head1 (Jvm.Cond.code y bytes maxL ret :: ws) rm) (fun a U => a = as' ∧ Z.Warmed39 U.vm ∧ U.heap = h) (fun _ _ _ _ _ => True) (fun _ U o U' => ∃ v L, o = .returned v ∧ (Fr n0 L ∧ Q v U'.heap) ∧ FrameEnd U o U' L rm.cells rm.slots)
def Cx (p : Program) (s : State) (m : MethodId) (meth : Method) (c : Code) (Z : State) (y : MethodName) (bytes : ByteArray) (maxL : Nat) (ret : Option FieldType) : Prop :=
  p.tables.exec = Jvm.exec ∧ Z.Warmed39 s.vm ∧ s.vm.findClass y.cls = some m.cls ∧ meth.name = y.name ∧ c.code = bytes ∧ c.maxLocals = maxL ∧ meth.sig.returnType = ret ∧ meth.locks = false
def Go (p : Program) (l : Launch) (e : Env) (R : Room) (s : State) (m : MethodId) (args : Array Value) (below : List Frame) (meth : Method) (c : Code) (n0 : Nat) (Q : Option Value → Heap → Prop) (cells slots : Nat) (h : Heap) (f : JFrame) : Prop :=
  ∀ T locs, Stand p l e R s m args below meth c T locs cells slots → Fr n0 locs → T.heap = h → ∃ t o, Steps p.tables e below (T.setTop f) t ∧ t.status = .running ∧ Ended t below o ∧ ∃ v L, o = .returned v ∧ (Fr n0 L ∧ Q v t.heap) ∧ FrameEnd s o t L R.cells R.slots
section
variable {p : Program} {l : Launch} {e : Env} {R : Room} {s : State} {m : MethodId} {args : Array Value} {below : List Frame} {meth : Method} {c : Code} {Z : State} {y : MethodName} {bytes : ByteArray} {maxL : Nat} {ret : Option FieldType} {n0 : Nat} {Q : Option Value → Heap → Prop} {cells slots : Nat} {h : Heap} {pc n n' : Nat} {Ls : Array Slot} {st : List Value} {a0 : Array Value}
theorem Cx.x (C : Cx p s m meth c Z y bytes maxL ret) : p.tables.exec = Jvm.exec := C.1
theorem Cx.z (C : Cx p s m meth c Z y bytes maxL ret) : Z.Warmed39 s.vm := C.2.1
theorem Cx.own (C : Cx p s m meth c Z y bytes maxL ret) : s.vm.findClass y.cls = some m.cls := C.2.2.1
theorem Cx.nm (C : Cx p s m meth c Z y bytes maxL ret) : meth.name = y.name := C.2.2.2.1
theorem Cx.by (C : Cx p s m meth c Z y bytes maxL ret) : c.code = bytes := C.2.2.2.2.1
theorem Cx.ml (C : Cx p s m meth c Z y bytes maxL ret) : c.maxLocals = maxL := C.2.2.2.2.2.1
theorem Cx.rt (C : Cx p s m meth c Z y bytes maxL ret) : meth.sig.returnType = ret := C.2.2.2.2.2.2.1
theorem Cx.locks (C : Cx p s m meth c Z y bytes maxL ret) : meth.locks = false := C.2.2.2.2.2.2.2
theorem Met.of {rm : Room} {as' : Array Value} {Ls0 : Array Slot} (hp : plainFor y = true) (he : ∀ m, entryFrame m as' maxL = mkF m 0 Ls0 [])
    (body : ∀ p e s m args below meth c, Cx p s m meth c Z y bytes maxL ret → Go p l e rm s m args below meth c n0 Q 0 0 h (mkF m 0 Ls0 [])) : Met l Z y bytes maxL ret rm as' h n0 Q := by
  intro ws
  refine MetFree.of_bodySF hp hisR ?_
  intro p e s m args below meth c s₁ Bd hml0 hP hK
  obtain ⟨rfl, hZ, hh⟩ := hP
  have C : Cx p s m meth c Z y bytes maxL ret := ⟨Bd.exec, hZ, findClass_of_methodNamed Bd.named, (name_of_methodNamed Bd.named Bd.method).1, Bd.bytes, hml0, Bd.returns, Bd.notSynchronized⟩
  have X0 : Stand p l e rm s m args below meth c s₁ [] 0 0 := Stand.of_body Bd
  have e0 : s₁.heap = h := by rw [← hh, Bd.state]; rfl
  obtain ⟨t, o, st, r⟩ := body p e s m args below meth c C s₁ [] X0 (Fr.nil n0) e0
  exact ⟨t, o, castTop (he m) st, r⟩
theorem Met.weaken {rm : Room} {as' : Array Value} {Q' : Option Value → Heap → Prop} (M : Met l Z y bytes maxL ret rm as' h n0 Q) (q : ∀ v h', Q v h' → Q' v h') : Met l Z y bytes maxL ret rm as' h n0 Q' := by
  intro ws p e ha hc hk s m args below hf happ hP hK
  obtain ⟨n, o, h1, h2, h3, v, L, h4, h5, h6⟩ := M ws p e ha hc hk s m args below hf happ hP hK
  exact ⟨n, o, h1, h2, h3, v, L, h4, ⟨h5.1, q _ _ h5.2⟩, h6⟩
theorem Go.via {f f' : JFrame} (hs : ∀ T locs, Stand p l e R s m args below meth c T locs cells slots → T.heap = h → ∀ t, Steps p.tables e below (T.setTop f') t → Steps p.tables e below (T.setTop f) t)
    (k : Go p l e R s m args below meth c n0 Q cells slots h f') : Go p l e R s m args below meth c n0 Q cells slots h f := fun T locs X N q => by
  obtain ⟨t, o, st, r⟩ := k T locs X N q
  exact ⟨t, o, hs T locs X q t st, r⟩
theorem Go.mono {f : JFrame} {cells' slots' : Nat} (h1 : cells ≤ cells') (h2 : slots ≤ slots') (k : Go p l e R s m args below meth c n0 Q cells' slots' h f) : Go p l e R s m args below meth c n0 Q cells slots h f := fun T locs X N q =>
  k T locs ⟨X.admits, X.cas, X.clock, X.frames, X.room, X.hears, X.method, X.code, X.here, X.tail, X.warmed, X.limits, X.bytes, X.same.mono h1 h2⟩ N q
theorem Go.cast {f f' : JFrame} (q : f = f') (k : Go p l e R s m args below meth c n0 Q cells slots h f') : Go p l e R s m args below meth c n0 Q cells slots h f := q ▸ k

theorem G.iadd (C : Cx p s m meth c Z y bytes maxL ret) {x1 x2 : Int32} (hd : decode bytes pc = .ok (.iadd, 1))  (hn : pc + 1 = n) (k : Go p l e R s m args below meth c n0 Q cells slots h (mkF m n Ls (.int (x1 + x2) :: st))) : Go p l e R s m args below meth c n0 Q cells slots h (mkF m pc Ls (.int x2 :: .int x1 :: st)) := by
  subst hn
  exact Go.via (fun T locs X _ t q => XS.iadd X.here C.x rfl (hb C.by hd) rfl q) k
theorem G.isub (C : Cx p s m meth c Z y bytes maxL ret) {x1 x2 : Int32} (hd : decode bytes pc = .ok (.isub, 1))  (hn : pc + 1 = n) (k : Go p l e R s m args below meth c n0 Q cells slots h (mkF m n Ls (.int (x1 - x2) :: st))) : Go p l e R s m args below meth c n0 Q cells slots h (mkF m pc Ls (.int x2 :: .int x1 :: st)) := by
  subst hn
  exact Go.via (fun T locs X _ t q => XS.isub X.here C.x rfl (hb C.by hd) rfl q) k
theorem G.imul (C : Cx p s m meth c Z y bytes maxL ret) {x1 x2 : Int32} (hd : decode bytes pc = .ok (.imul, 1))  (hn : pc + 1 = n) (k : Go p l e R s m args below meth c n0 Q cells slots h (mkF m n Ls (.int (x1 * x2) :: st))) : Go p l e R s m args below meth c n0 Q cells slots h (mkF m pc Ls (.int x2 :: .int x1 :: st)) := by
  subst hn
  exact Go.via (fun T locs X _ t q => XS.imul X.here C.x rfl (hb C.by hd) rfl q) k
theorem G.iand (C : Cx p s m meth c Z y bytes maxL ret) {x1 x2 : Int32} (hd : decode bytes pc = .ok (.iand, 1))  (hn : pc + 1 = n) (k : Go p l e R s m args below meth c n0 Q cells slots h (mkF m n Ls (.int (x1 &&& x2) :: st))) : Go p l e R s m args below meth c n0 Q cells slots h (mkF m pc Ls (.int x2 :: .int x1 :: st)) := by
  subst hn
  exact Go.via (fun T locs X _ t q => XS.iand X.here C.x rfl (hb C.by hd) rfl q) k
theorem G.ior (C : Cx p s m meth c Z y bytes maxL ret) {x1 x2 : Int32} (hd : decode bytes pc = .ok (.ior, 1))  (hn : pc + 1 = n) (k : Go p l e R s m args below meth c n0 Q cells slots h (mkF m n Ls (.int (x1 ||| x2) :: st))) : Go p l e R s m args below meth c n0 Q cells slots h (mkF m pc Ls (.int x2 :: .int x1 :: st)) := by
  subst hn
  exact Go.via (fun T locs X _ t q => XS.ior X.here C.x rfl (hb C.by hd) rfl q) k
theorem G.ixor (C : Cx p s m meth c Z y bytes maxL ret) {x1 x2 : Int32} (hd : decode bytes pc = .ok (.ixor, 1))  (hn : pc + 1 = n) (k : Go p l e R s m args below meth c n0 Q cells slots h (mkF m n Ls (.int (x1 ^^^ x2) :: st))) : Go p l e R s m args below meth c n0 Q cells slots h (mkF m pc Ls (.int x2 :: .int x1 :: st)) := by
  subst hn
  exact Go.via (fun T locs X _ t q => XS.ixor X.here C.x rfl (hb C.by hd) rfl q) k
theorem G.ladd (C : Cx p s m meth c Z y bytes maxL ret) {x1 x2 : Int64} (hd : decode bytes pc = .ok (.ladd, 1))  (hn : pc + 1 = n) (k : Go p l e R s m args below meth c n0 Q cells slots h (mkF m n Ls (.long (x1 + x2) :: st))) : Go p l e R s m args below meth c n0 Q cells slots h (mkF m pc Ls (.long x2 :: .long x1 :: st)) := by
  subst hn
  exact Go.via (fun T locs X _ t q => XS.ladd X.here C.x rfl (hb C.by hd) rfl q) k
theorem G.lsub (C : Cx p s m meth c Z y bytes maxL ret) {x1 x2 : Int64} (hd : decode bytes pc = .ok (.lsub, 1))  (hn : pc + 1 = n) (k : Go p l e R s m args below meth c n0 Q cells slots h (mkF m n Ls (.long (x1 - x2) :: st))) : Go p l e R s m args below meth c n0 Q cells slots h (mkF m pc Ls (.long x2 :: .long x1 :: st)) := by
  subst hn
  exact Go.via (fun T locs X _ t q => XS.lsub X.here C.x rfl (hb C.by hd) rfl q) k
theorem G.lmul (C : Cx p s m meth c Z y bytes maxL ret) {x1 x2 : Int64} (hd : decode bytes pc = .ok (.lmul, 1))  (hn : pc + 1 = n) (k : Go p l e R s m args below meth c n0 Q cells slots h (mkF m n Ls (.long (x1 * x2) :: st))) : Go p l e R s m args below meth c n0 Q cells slots h (mkF m pc Ls (.long x2 :: .long x1 :: st)) := by
  subst hn
  exact Go.via (fun T locs X _ t q => XS.lmul X.here C.x rfl (hb C.by hd) rfl q) k
theorem G.land (C : Cx p s m meth c Z y bytes maxL ret) {x1 x2 : Int64} (hd : decode bytes pc = .ok (.land, 1))  (hn : pc + 1 = n) (k : Go p l e R s m args below meth c n0 Q cells slots h (mkF m n Ls (.long (x1 &&& x2) :: st))) : Go p l e R s m args below meth c n0 Q cells slots h (mkF m pc Ls (.long x2 :: .long x1 :: st)) := by
  subst hn
  exact Go.via (fun T locs X _ t q => XS.land X.here C.x rfl (hb C.by hd) rfl q) k
theorem G.lor (C : Cx p s m meth c Z y bytes maxL ret) {x1 x2 : Int64} (hd : decode bytes pc = .ok (.lor, 1))  (hn : pc + 1 = n) (k : Go p l e R s m args below meth c n0 Q cells slots h (mkF m n Ls (.long (x1 ||| x2) :: st))) : Go p l e R s m args below meth c n0 Q cells slots h (mkF m pc Ls (.long x2 :: .long x1 :: st)) := by
  subst hn
  exact Go.via (fun T locs X _ t q => XS.lor X.here C.x rfl (hb C.by hd) rfl q) k
theorem G.lxor (C : Cx p s m meth c Z y bytes maxL ret) {x1 x2 : Int64} (hd : decode bytes pc = .ok (.lxor, 1))  (hn : pc + 1 = n) (k : Go p l e R s m args below meth c n0 Q cells slots h (mkF m n Ls (.long (x1 ^^^ x2) :: st))) : Go p l e R s m args below meth c n0 Q cells slots h (mkF m pc Ls (.long x2 :: .long x1 :: st)) := by
  subst hn
  exact Go.via (fun T locs X _ t q => XS.lxor X.here C.x rfl (hb C.by hd) rfl q) k
theorem G.idiv (C : Cx p s m meth c Z y bytes maxL ret) {x1 x2 : Int32} (hd : decode bytes pc = .ok (.idiv, 1)) (hy : x2 ≠ 0) (hn : pc + 1 = n) (k : Go p l e R s m args below meth c n0 Q cells slots h (mkF m n Ls (.int (x1 / x2) :: st))) : Go p l e R s m args below meth c n0 Q cells slots h (mkF m pc Ls (.int x2 :: .int x1 :: st)) := by
  subst hn
  exact Go.via (fun T locs X _ t q => XS.idiv X.here C.x rfl (hb C.by hd) rfl hy q) k
theorem G.ishl (C : Cx p s m meth c Z y bytes maxL ret) {x1 x2 : Int32} (hd : decode bytes pc = .ok (.ishl, 1))  (hn : pc + 1 = n) (k : Go p l e R s m args below meth c n0 Q cells slots h (mkF m n Ls (.int (x1 <<< (x2 &&& 31)) :: st))) : Go p l e R s m args below meth c n0 Q cells slots h (mkF m pc Ls (.int x2 :: .int x1 :: st)) := by
  subst hn
  exact Go.via (fun T locs X _ t q => XS.ishl X.here C.x rfl (hb C.by hd) rfl q) k
theorem G.ishr (C : Cx p s m meth c Z y bytes maxL ret) {x1 x2 : Int32} (hd : decode bytes pc = .ok (.ishr, 1))  (hn : pc + 1 = n) (k : Go p l e R s m args below meth c n0 Q cells slots h (mkF m n Ls (.int (x1 >>> (x2 &&& 31)) :: st))) : Go p l e R s m args below meth c n0 Q cells slots h (mkF m pc Ls (.int x2 :: .int x1 :: st)) := by
  subst hn
  exact Go.via (fun T locs X _ t q => XS.ishr X.here C.x rfl (hb C.by hd) rfl q) k
theorem G.iushr (C : Cx p s m meth c Z y bytes maxL ret) {x1 x2 : Int32} (hd : decode bytes pc = .ok (.iushr, 1))  (hn : pc + 1 = n) (k : Go p l e R s m args below meth c n0 Q cells slots h (mkF m n Ls (.int ((x1.toUInt32 >>> (x2 &&& 31).toUInt32).toInt32) :: st))) : Go p l e R s m args below meth c n0 Q cells slots h (mkF m pc Ls (.int x2 :: .int x1 :: st)) := by
  subst hn
  exact Go.via (fun T locs X _ t q => XS.iushr X.here C.x rfl (hb C.by hd) rfl q) k
theorem G.irem (C : Cx p s m meth c Z y bytes maxL ret) {x1 x2 : Int32} (hd : decode bytes pc = .ok (.irem, 1)) (hy : x2 ≠ 0) (hn : pc + 1 = n) (k : Go p l e R s m args below meth c n0 Q cells slots h (mkF m n Ls (.int (x1 % x2) :: st))) : Go p l e R s m args below meth c n0 Q cells slots h (mkF m pc Ls (.int x2 :: .int x1 :: st)) := by
  subst hn
  exact Go.via (fun T locs X _ t q => iremM X C.x rfl (hb C.by hd) rfl hy q) k
theorem G.ldiv (C : Cx p s m meth c Z y bytes maxL ret) {x1 x2 : Int64} (hd : decode bytes pc = .ok (.ldiv, 1)) (hy : x2 ≠ 0) (hn : pc + 1 = n) (k : Go p l e R s m args below meth c n0 Q cells slots h (mkF m n Ls (.long (x1 / x2) :: st))) : Go p l e R s m args below meth c n0 Q cells slots h (mkF m pc Ls (.long x2 :: .long x1 :: st)) := by
  subst hn
  exact Go.via (fun T locs X _ t q => XS.ldiv X.here C.x rfl (hb C.by hd) rfl hy q) k
theorem G.lrem (C : Cx p s m meth c Z y bytes maxL ret) {x1 x2 : Int64} (hd : decode bytes pc = .ok (.lrem, 1)) (hy : x2 ≠ 0) (hn : pc + 1 = n) (k : Go p l e R s m args below meth c n0 Q cells slots h (mkF m n Ls (.long (x1 - (x1 / x2) * x2) :: st))) : Go p l e R s m args below meth c n0 Q cells slots h (mkF m pc Ls (.long x2 :: .long x1 :: st)) := by
  subst hn
  exact Go.via (fun T locs X _ t q => XS.lrem X.here C.x rfl (hb C.by hd) rfl hy q) k
theorem G.lshl (C : Cx p s m meth c Z y bytes maxL ret) {x1 : Int64} {x2 : Int32} (hd : decode bytes pc = .ok (.lshl, 1))  (hn : pc + 1 = n) (k : Go p l e R s m args below meth c n0 Q cells slots h (mkF m n Ls (.long (x1 <<< (x2 &&& 0x3f).toInt64) :: st))) : Go p l e R s m args below meth c n0 Q cells slots h (mkF m pc Ls (.int x2 :: .long x1 :: st)) := by
  subst hn
  exact Go.via (fun T locs X _ t q => XS.lshl X.here C.x rfl (hb C.by hd) rfl q) k
theorem G.lshr (C : Cx p s m meth c Z y bytes maxL ret) {x1 : Int64} {x2 : Int32} (hd : decode bytes pc = .ok (.lshr, 1))  (hn : pc + 1 = n) (k : Go p l e R s m args below meth c n0 Q cells slots h (mkF m n Ls (.long (x1 >>> (x2 &&& 0x3f).toInt64) :: st))) : Go p l e R s m args below meth c n0 Q cells slots h (mkF m pc Ls (.int x2 :: .long x1 :: st)) := by
  subst hn
  exact Go.via (fun T locs X _ t q => XS.lshr X.here C.x rfl (hb C.by hd) rfl q) k
theorem G.lushr (C : Cx p s m meth c Z y bytes maxL ret) {x1 : Int64} {x2 : Int32} (hd : decode bytes pc = .ok (.lushr, 1))  (hn : pc + 1 = n) (k : Go p l e R s m args below meth c n0 Q cells slots h (mkF m n Ls (.long ((x1.toUInt64 >>> (x2 &&& 0x3f).toInt64.toUInt64).toInt64) :: st))) : Go p l e R s m args below meth c n0 Q cells slots h (mkF m pc Ls (.int x2 :: .long x1 :: st)) := by
  subst hn
  exact Go.via (fun T locs X _ t q => XS.lushr X.here C.x rfl (hb C.by hd) rfl q) k
theorem G.ineg (C : Cx p s m meth c Z y bytes maxL ret) {x : Int32} (hd : decode bytes pc = .ok (.ineg, 1))  (hn : pc + 1 = n) (k : Go p l e R s m args below meth c n0 Q cells slots h (mkF m n Ls (.int (-x) :: st))) : Go p l e R s m args below meth c n0 Q cells slots h (mkF m pc Ls (.int x :: st)) := by
  subst hn
  exact Go.via (fun T locs X _ t q => XS.ineg X.here C.x rfl (hb C.by hd) rfl q) k
theorem G.lneg (C : Cx p s m meth c Z y bytes maxL ret) {x : Int64} (hd : decode bytes pc = .ok (.lneg, 1))  (hn : pc + 1 = n) (k : Go p l e R s m args below meth c n0 Q cells slots h (mkF m n Ls (.long (-x) :: st))) : Go p l e R s m args below meth c n0 Q cells slots h (mkF m pc Ls (.long x :: st)) := by
  subst hn
  exact Go.via (fun T locs X _ t q => XS.lneg X.here C.x rfl (hb C.by hd) rfl q) k
theorem G.i2l (C : Cx p s m meth c Z y bytes maxL ret) {x : Int32} (hd : decode bytes pc = .ok (.i2l, 1))  (hn : pc + 1 = n) (k : Go p l e R s m args below meth c n0 Q cells slots h (mkF m n Ls (.long (x.toInt64) :: st))) : Go p l e R s m args below meth c n0 Q cells slots h (mkF m pc Ls (.int x :: st)) := by
  subst hn
  exact Go.via (fun T locs X _ t q => XS.i2l X.here C.x rfl (hb C.by hd) rfl q) k
theorem G.l2i (C : Cx p s m meth c Z y bytes maxL ret) {x : Int64} (hd : decode bytes pc = .ok (.l2i, 1))  (hn : pc + 1 = n) (k : Go p l e R s m args below meth c n0 Q cells slots h (mkF m n Ls (.int (x.toInt32) :: st))) : Go p l e R s m args below meth c n0 Q cells slots h (mkF m pc Ls (.long x :: st)) := by
  subst hn
  exact Go.via (fun T locs X _ t q => XS.l2i X.here C.x rfl (hb C.by hd) rfl q) k
theorem G.i2b (C : Cx p s m meth c Z y bytes maxL ret) {x : Int32} (hd : decode bytes pc = .ok (.i2b, 1))  (hn : pc + 1 = n) (k : Go p l e R s m args below meth c n0 Q cells slots h (mkF m n Ls (.int (x.toInt8.toInt32) :: st))) : Go p l e R s m args below meth c n0 Q cells slots h (mkF m pc Ls (.int x :: st)) := by
  subst hn
  exact Go.via (fun T locs X _ t q => XS.i2b X.here C.x rfl (hb C.by hd) rfl q) k
theorem G.i2s (C : Cx p s m meth c Z y bytes maxL ret) {x : Int32} (hd : decode bytes pc = .ok (.i2s, 1))  (hn : pc + 1 = n) (k : Go p l e R s m args below meth c n0 Q cells slots h (mkF m n Ls (.int (x.toInt16.toInt32) :: st))) : Go p l e R s m args below meth c n0 Q cells slots h (mkF m pc Ls (.int x :: st)) := by
  subst hn
  exact Go.via (fun T locs X _ t q => XS.i2s X.here C.x rfl (hb C.by hd) rfl q) k
theorem G.i2c (C : Cx p s m meth c Z y bytes maxL ret) {x : Int32} (hd : decode bytes pc = .ok (.i2c, 1))  (hn : pc + 1 = n) (k : Go p l e R s m args below meth c n0 Q cells slots h (mkF m n Ls (.int (x.toUInt32.toUInt16.toUInt32.toInt32) :: st))) : Go p l e R s m args below meth c n0 Q cells slots h (mkF m pc Ls (.int x :: st)) := by
  subst hn
  exact Go.via (fun T locs X _ t q => XS.i2c X.here C.x rfl (hb C.by hd) rfl q) k
theorem G.iconst (C : Cx p s m meth c Z y bytes maxL ret) {i : Int} (v : Int32) (hd : decode bytes pc = .ok (.iconst i, 1)) (hv : Int32.ofInt i = v) (hn : pc + 1 = n) (k : Go p l e R s m args below meth c n0 Q cells slots h (mkF m n Ls (.int v :: st))) : Go p l e R s m args below meth c n0 Q cells slots h (mkF m pc Ls (st)) := by
  subst hn hv
  exact Go.via (fun T locs X _ t q => XS.iconst X.here C.x rfl (hb C.by hd)  q) k
theorem G.bipush (C : Cx p s m meth c Z y bytes maxL ret) {i : Int} (v : Int32) (hd : decode bytes pc = .ok (.bipush i, 2)) (hv : (Int8.ofInt i).toInt32 = v) (hn : pc + 2 = n) (k : Go p l e R s m args below meth c n0 Q cells slots h (mkF m n Ls (.int v :: st))) : Go p l e R s m args below meth c n0 Q cells slots h (mkF m pc Ls (st)) := by
  subst hn hv
  exact Go.via (fun T locs X _ t q => XS.bipush X.here C.x rfl (hb C.by hd)  q) k
theorem G.sipush (C : Cx p s m meth c Z y bytes maxL ret) {i : Int} (v : Int32) (hd : decode bytes pc = .ok (.sipush i, 3)) (hv : (Int16.ofInt i).toInt32 = v) (hn : pc + 3 = n) (k : Go p l e R s m args below meth c n0 Q cells slots h (mkF m n Ls (.int v :: st))) : Go p l e R s m args below meth c n0 Q cells slots h (mkF m pc Ls (st)) := by
  subst hn hv
  exact Go.via (fun T locs X _ t q => XS.sipush X.here C.x rfl (hb C.by hd)  q) k
theorem G.lconst (C : Cx p s m meth c Z y bytes maxL ret) {i : Fin 2} (v : Int64) (hd : decode bytes pc = .ok (.lconst i, 1)) (hv : Int64.ofNat i = v) (hn : pc + 1 = n) (k : Go p l e R s m args below meth c n0 Q cells slots h (mkF m n Ls (.long v :: st))) : Go p l e R s m args below meth c n0 Q cells slots h (mkF m pc Ls (st)) := by
  subst hn hv
  exact Go.via (fun T locs X _ t q => XS.lconst X.here C.x rfl (hb C.by hd)  q) k
theorem G.aconst_null (C : Cx p s m meth c Z y bytes maxL ret)  (hd : decode bytes pc = .ok (.aconst_null, 1))  (hn : pc + 1 = n) (k : Go p l e R s m args below meth c n0 Q cells slots h (mkF m n Ls (.null :: st))) : Go p l e R s m args below meth c n0 Q cells slots h (mkF m pc Ls (st)) := by
  subst hn
  exact Go.via (fun T locs X _ t q => XS.aconstNull X.here C.x rfl (hb C.by hd)  q) k
theorem G.iload (C : Cx p s m meth c Z y bytes maxL ret) {k : Nat} {v : Int32} (hd : decode bytes pc = .ok (.iload k, 2)) (hl : Ls[k]? = some (.val (.int v)))  (hn : pc + 2 = n) (k : Go p l e R s m args below meth c n0 Q cells slots h (mkF m n Ls (.int v :: st))) : Go p l e R s m args below meth c n0 Q cells slots h (mkF m pc Ls (st)) := by
  subst hn
  exact Go.via (fun T locs X _ t q => XS.iload X.here C.x rfl (hb C.by hd) hl q) k
theorem G.iloadN (C : Cx p s m meth c Z y bytes maxL ret) {k : Fin 4} {v : Int32} (hd : decode bytes pc = .ok (.iload_n k, 1)) (hl : Ls[k.val]? = some (.val (.int v)))  (hn : pc + 1 = n) (k : Go p l e R s m args below meth c n0 Q cells slots h (mkF m n Ls (.int v :: st))) : Go p l e R s m args below meth c n0 Q cells slots h (mkF m pc Ls (st)) := by
  subst hn
  exact Go.via (fun T locs X _ t q => XS.iloadN X.here C.x rfl (hb C.by hd) hl q) k
theorem G.lload (C : Cx p s m meth c Z y bytes maxL ret) {k : Nat} {v : Int64} (hd : decode bytes pc = .ok (.lload k, 2)) (hl : Ls[k]? = some (.val (.long v)))  (hn : pc + 2 = n) (k : Go p l e R s m args below meth c n0 Q cells slots h (mkF m n Ls (.long v :: st))) : Go p l e R s m args below meth c n0 Q cells slots h (mkF m pc Ls (st)) := by
  subst hn
  exact Go.via (fun T locs X _ t q => XS.lload X.here C.x rfl (hb C.by hd) hl q) k
theorem G.lloadN (C : Cx p s m meth c Z y bytes maxL ret) {k : Fin 4} {v : Int64} (hd : decode bytes pc = .ok (.lload_n k, 1)) (hl : Ls[k.val]? = some (.val (.long v)))  (hn : pc + 1 = n) (k : Go p l e R s m args below meth c n0 Q cells slots h (mkF m n Ls (.long v :: st))) : Go p l e R s m args below meth c n0 Q cells slots h (mkF m pc Ls (st)) := by
  subst hn
  exact Go.via (fun T locs X _ t q => XS.lloadN X.here C.x rfl (hb C.by hd) hl q) k
theorem G.aload (C : Cx p s m meth c Z y bytes maxL ret) {k : Nat} {v : Value} (hd : decode bytes pc = .ok (.aload k, 2)) (hl : Ls[k]? = some (.val (v))) (hv : v.isRef = true) (hn : pc + 2 = n) (k : Go p l e R s m args below meth c n0 Q cells slots h (mkF m n Ls (v :: st))) : Go p l e R s m args below meth c n0 Q cells slots h (mkF m pc Ls (st)) := by
  subst hn
  exact Go.via (fun T locs X _ t q => XS.aload X.here C.x rfl (hb C.by hd) hl hv q) k
theorem G.aloadN (C : Cx p s m meth c Z y bytes maxL ret) {k : Fin 4} {v : Value} (hd : decode bytes pc = .ok (.aload_n k, 1)) (hl : Ls[k.val]? = some (.val (v))) (hv : v.isRef = true) (hn : pc + 1 = n) (k : Go p l e R s m args below meth c n0 Q cells slots h (mkF m n Ls (v :: st))) : Go p l e R s m args below meth c n0 Q cells slots h (mkF m pc Ls (st)) := by
  subst hn
  exact Go.via (fun T locs X _ t q => XS.aloadN X.here C.x rfl (hb C.by hd) hl hv q) k
theorem G.istore (C : Cx p s m meth c Z y bytes maxL ret) {k : Nat} {x : Int32} {l' : Array Slot} (hd : decode bytes pc = .ok (.istore k, 2))  (hl : storeLocals Ls k (.int x) = some l') (hn : pc + 2 = n) (kk : Go p l e R s m args below meth c n0 Q cells slots h (mkF m n l' (st))) : Go p l e R s m args below meth c n0 Q cells slots h (mkF m pc Ls (.int x :: st)) := by
  subst hn
  exact Go.via (fun T locs X _ t q => XS.istore X.here C.x rfl (hb C.by hd) rfl hl q) kk
theorem G.istoreZ (C : Cx p s m meth c Z y bytes maxL ret) {k : Nat} {x : Int32} {l' : Int32 → Array Slot} (hd : decode bytes pc = .ok (.istore k, 2)) (hl : ∀ z, storeLocals Ls k (.int z) = some (l' z)) (hn : pc + 2 = n) (kk : ∀ z, z = x → Go p l e R s m args below meth c n0 Q cells slots h (mkF m n (l' z) (st))) : Go p l e R s m args below meth c n0 Q cells slots h (mkF m pc Ls (.int x :: st)) :=
  G.istore C hd (hl x) hn (kk x rfl)
theorem G.istoreN (C : Cx p s m meth c Z y bytes maxL ret) {k : Fin 4} {x : Int32} {l' : Array Slot} (hd : decode bytes pc = .ok (.istore_n k, 1))  (hl : storeLocals Ls k.val (.int x) = some l') (hn : pc + 1 = n) (kk : Go p l e R s m args below meth c n0 Q cells slots h (mkF m n l' (st))) : Go p l e R s m args below meth c n0 Q cells slots h (mkF m pc Ls (.int x :: st)) := by
  subst hn
  exact Go.via (fun T locs X _ t q => XS.istoreN X.here C.x rfl (hb C.by hd) rfl hl q) kk
theorem G.istoreNZ (C : Cx p s m meth c Z y bytes maxL ret) {k : Fin 4} {x : Int32} {l' : Int32 → Array Slot} (hd : decode bytes pc = .ok (.istore_n k, 1)) (hl : ∀ z, storeLocals Ls k.val (.int z) = some (l' z)) (hn : pc + 1 = n) (kk : ∀ z, z = x → Go p l e R s m args below meth c n0 Q cells slots h (mkF m n (l' z) (st))) : Go p l e R s m args below meth c n0 Q cells slots h (mkF m pc Ls (.int x :: st)) :=
  G.istoreN C hd (hl x) hn (kk x rfl)
theorem G.lstore (C : Cx p s m meth c Z y bytes maxL ret) {k : Nat} {x : Int64} {l' : Array Slot} (hd : decode bytes pc = .ok (.lstore k, 2))  (hl : storeLocals Ls k (.long x) = some l') (hn : pc + 2 = n) (kk : Go p l e R s m args below meth c n0 Q cells slots h (mkF m n l' (st))) : Go p l e R s m args below meth c n0 Q cells slots h (mkF m pc Ls (.long x :: st)) := by
  subst hn
  exact Go.via (fun T locs X _ t q => XS.lstore X.here C.x rfl (hb C.by hd) rfl hl q) kk
theorem G.lstoreZ (C : Cx p s m meth c Z y bytes maxL ret) {k : Nat} {x : Int64} {l' : Int64 → Array Slot} (hd : decode bytes pc = .ok (.lstore k, 2)) (hl : ∀ z, storeLocals Ls k (.long z) = some (l' z)) (hn : pc + 2 = n) (kk : ∀ z, z = x → Go p l e R s m args below meth c n0 Q cells slots h (mkF m n (l' z) (st))) : Go p l e R s m args below meth c n0 Q cells slots h (mkF m pc Ls (.long x :: st)) :=
  G.lstore C hd (hl x) hn (kk x rfl)
theorem G.lstoreN (C : Cx p s m meth c Z y bytes maxL ret) {k : Fin 4} {x : Int64} {l' : Array Slot} (hd : decode bytes pc = .ok (.lstore_n k, 1))  (hl : storeLocals Ls k.val (.long x) = some l') (hn : pc + 1 = n) (kk : Go p l e R s m args below meth c n0 Q cells slots h (mkF m n l' (st))) : Go p l e R s m args below meth c n0 Q cells slots h (mkF m pc Ls (.long x :: st)) := by
  subst hn
  exact Go.via (fun T locs X _ t q => XS.lstoreN X.here C.x rfl (hb C.by hd) rfl hl q) kk
theorem G.lstoreNZ (C : Cx p s m meth c Z y bytes maxL ret) {k : Fin 4} {x : Int64} {l' : Int64 → Array Slot} (hd : decode bytes pc = .ok (.lstore_n k, 1)) (hl : ∀ z, storeLocals Ls k.val (.long z) = some (l' z)) (hn : pc + 1 = n) (kk : ∀ z, z = x → Go p l e R s m args below meth c n0 Q cells slots h (mkF m n (l' z) (st))) : Go p l e R s m args below meth c n0 Q cells slots h (mkF m pc Ls (.long x :: st)) :=
  G.lstoreN C hd (hl x) hn (kk x rfl)
theorem G.astore (C : Cx p s m meth c Z y bytes maxL ret) {k : Nat} {x : Value} {l' : Array Slot} (hd : decode bytes pc = .ok (.astore k, 2)) (hv : x.isRef = true) (hl : storeLocals Ls k (x) = some l') (hn : pc + 2 = n) (kk : Go p l e R s m args below meth c n0 Q cells slots h (mkF m n l' (st))) : Go p l e R s m args below meth c n0 Q cells slots h (mkF m pc Ls (x :: st)) := by
  subst hn
  exact Go.via (fun T locs X _ t q => XS.astore X.here C.x rfl (hb C.by hd) rfl hv hl q) kk
theorem G.astoreN (C : Cx p s m meth c Z y bytes maxL ret) {k : Fin 4} {x : Value} {l' : Array Slot} (hd : decode bytes pc = .ok (.astore_n k, 1)) (hv : x.isRef = true) (hl : storeLocals Ls k.val (x) = some l') (hn : pc + 1 = n) (kk : Go p l e R s m args below meth c n0 Q cells slots h (mkF m n l' (st))) : Go p l e R s m args below meth c n0 Q cells slots h (mkF m pc Ls (x :: st)) := by
  subst hn
  exact Go.via (fun T locs X _ t q => XS.astoreN X.here C.x rfl (hb C.by hd) rfl hv hl q) kk
theorem G.iinc (C : Cx p s m meth c Z y bytes maxL ret) {k : Nat} {cst : Int} (v : Int32) {x : Int32} {l' : Array Slot} (hd : decode bytes pc = .ok (.iinc k cst, 3)) (hv : Int32.ofInt cst = v) (hx : Ls[k]? = some (.val (.int x))) (hl : storeLocals Ls k (.int (x + v)) = some l') (hn : pc + 3 = n) (kk : Go p l e R s m args below meth c n0 Q cells slots h (mkF m n l' (st))) : Go p l e R s m args below meth c n0 Q cells slots h (mkF m pc Ls (st)) := by
  subst hn hv
  exact Go.via (fun T locs X _ t q => XS.iinc X.here C.x rfl (hb C.by hd) hx hl q) kk
theorem G.iincZ (C : Cx p s m meth c Z y bytes maxL ret) {k : Nat} {cst : Int} (v : Int32) {x : Int32} {l' : Int32 → Array Slot} (hd : decode bytes pc = .ok (.iinc k cst, 3)) (hv : Int32.ofInt cst = v) (hx : Ls[k]? = some (.val (.int x))) (hl : ∀ z, storeLocals Ls k (.int z) = some (l' z)) (hn : pc + 3 = n) (kk : ∀ z, z = x + v → Go p l e R s m args below meth c n0 Q cells slots h (mkF m n (l' z) (st))) : Go p l e R s m args below meth c n0 Q cells slots h (mkF m pc Ls (st)) :=
  G.iinc C v hd hv hx (hl _) hn (kk _ rfl)
theorem G.iincK (C : Cx p s m meth c Z y bytes maxL ret) {k : Nat} {cst : Int} (v : Int32) {x : Int32} (z : Int32) {l' : Array Slot} (hd : decode bytes pc = .ok (.iinc k cst, 3)) (hv : Int32.ofInt cst = v) (hx : Ls[k]? = some (.val (.int x))) (hz : x + v = z) (hl : storeLocals Ls k (.int z) = some l') (hn : pc + 3 = n) (kk : Go p l e R s m args below meth c n0 Q cells slots h (mkF m n l' (st))) : Go p l e R s m args below meth c n0 Q cells slots h (mkF m pc Ls (st)) := by
  subst hz
  exact G.iinc C v hd hv hx hl hn kk
theorem G.name_int {x : Int32} (kk : ∀ z, z = x → Go p l e R s m args below meth c n0 Q cells slots h (mkF m pc Ls (.int z :: st))) : Go p l e R s m args below meth c n0 Q cells slots h (mkF m pc Ls (.int x :: st)) := kk x rfl
theorem G.name_long {x : Int64} (kk : ∀ z, z = x → Go p l e R s m args below meth c n0 Q cells slots h (mkF m pc Ls (.long z :: st))) : Go p l e R s m args below meth c n0 Q cells slots h (mkF m pc Ls (.long x :: st)) := kk x rfl
theorem G.fold_int {x z : Int32} (hz : x = z) (kk : Go p l e R s m args below meth c n0 Q cells slots h (mkF m pc Ls (.int z :: st))) : Go p l e R s m args below meth c n0 Q cells slots h (mkF m pc Ls (.int x :: st)) := hz ▸ kk
theorem G.fold_long {x z : Int64} (hz : x = z) (kk : Go p l e R s m args below meth c n0 Q cells slots h (mkF m pc Ls (.long z :: st))) : Go p l e R s m args below meth c n0 Q cells slots h (mkF m pc Ls (.long x :: st)) := hz ▸ kk
theorem G.dup (C : Cx p s m meth c Z y bytes maxL ret) {x : Value} (hd : decode bytes pc = .ok (.dup, 1)) (hc : x.category = 1) (hn : pc + 1 = n) (k : Go p l e R s m args below meth c n0 Q cells slots h (mkF m n Ls (x :: x :: st))) : Go p l e R s m args below meth c n0 Q cells slots h (mkF m pc Ls (x :: st)) := by
  subst hn
  exact Go.via (fun T locs X _ t q => XS.dup X.here C.x rfl (hb C.by hd) rfl hc q) k
theorem G.pop (C : Cx p s m meth c Z y bytes maxL ret) {x : Value} (hd : decode bytes pc = .ok (.pop, 1)) (hc : x.category = 1) (hn : pc + 1 = n) (k : Go p l e R s m args below meth c n0 Q cells slots h (mkF m n Ls (st))) : Go p l e R s m args below meth c n0 Q cells slots h (mkF m pc Ls (x :: st)) := by
  subst hn
  exact Go.via (fun T locs X _ t q => XS.pop X.here C.x rfl (hb C.by hd) rfl hc q) k
theorem G.dup_x1 (C : Cx p s m meth c Z y bytes maxL ret) {x x2 : Value} (hd : decode bytes pc = .ok (.dup_x1, 1)) (hc : x.category = 1) (hc2 : x2.category = 1) (hn : pc + 1 = n) (k : Go p l e R s m args below meth c n0 Q cells slots h (mkF m n Ls (x :: x2 :: x :: st))) : Go p l e R s m args below meth c n0 Q cells slots h (mkF m pc Ls (x :: x2 :: st)) := by
  subst hn
  exact Go.via (fun T locs X _ t q => XS.dupX1 X.here C.x rfl (hb C.by hd) rfl hc hc2 q) k
theorem G.dup2 (C : Cx p s m meth c Z y bytes maxL ret) {x x2 : Value} (hd : decode bytes pc = .ok (.dup2, 1)) (hc : x.category = 1) (hc2 : x2.category = 1) (hn : pc + 1 = n) (k : Go p l e R s m args below meth c n0 Q cells slots h (mkF m n Ls (x :: x2 :: x :: x2 :: st))) : Go p l e R s m args below meth c n0 Q cells slots h (mkF m pc Ls (x :: x2 :: st)) := by
  subst hn
  exact Go.via (fun T locs X _ t q => XT.dup2 X.here C.x rfl (hb C.by hd) rfl hc hc2 q) k
theorem G.dup2L (C : Cx p s m meth c Z y bytes maxL ret) {x : Int64} (hd : decode bytes pc = .ok (.dup2, 1)) (hn : pc + 1 = n) (k : Go p l e R s m args below meth c n0 Q cells slots h (mkF m n Ls (.long x :: .long x :: st))) : Go p l e R s m args below meth c n0 Q cells slots h (mkF m pc Ls (.long x :: st)) := by
  subst hn
  exact Go.via (fun T locs X _ t q => XT.dup2L X.here C.x rfl (hb C.by hd) rfl q) k
theorem G.goto (C : Cx p s m meth c Z y bytes maxL ret) {o : Int} (hd : decode bytes pc = .ok (.goto o, 3)) (ho : 0 ≤ (pc : Int) + o) (hp : ((pc : Int) + o).toNat = n) (k : Go p l e R s m args below meth c n0 Q cells slots h (mkF m n Ls (st))) : Go p l e R s m args below meth c n0 Q cells slots h (mkF m pc Ls (st)) :=
  Go.via (fun T locs X _ t q => XS.goto X.here C.x rfl rfl (hb C.by hd) ho hp q) k
theorem lt_i {x y : Int32} : x < y ↔ x.toInt < y.toInt := Int32.lt_iff_toInt_lt
theorem lt_l {x y : Int64} : x < y ↔ x.toInt < y.toInt := Int64.lt_iff_toInt_lt
theorem le_i {x y : Int32} : x ≤ y ↔ x.toInt ≤ y.toInt := Int32.le_iff_toInt_le
theorem le_l {x y : Int64} : x ≤ y ↔ x.toInt ≤ y.toInt := Int64.le_iff_toInt_le
theorem ich_lt {x1 x2 : Int32} : (x1.toInt < x2.toInt ∧ if_icmp.holds .lt x1 x2 = true) ∨ (x2.toInt ≤ x1.toInt ∧ if_icmp.holds .lt x1 x2 = false) := by
  by_cases q : x1.toInt < x2.toInt
  · exact Or.inl ⟨q, by simp [if_icmp.holds, lt_i, le_i, Int32.lt_iff_toInt_lt, Int32.le_iff_toInt_le, q]⟩
  · exact Or.inr ⟨by omega, by first | (simp [if_icmp.holds, lt_i, le_i, Int32.lt_iff_toInt_lt, Int32.le_iff_toInt_le, q]; done) | (simp [if_icmp.holds, lt_i, le_i, Int32.lt_iff_toInt_lt, Int32.le_iff_toInt_le]; omega)⟩
theorem G.icmp_lt (C : Cx p s m meth c Z y bytes maxL ret) {x1 x2 : Int32} {o : Int} {A B : Int} (hA : x1.toInt = A) (hB : x2.toInt = B) (hd : decode bytes pc = .ok (.if_icmp .lt o, 3)) (ho : 0 ≤ (pc : Int) + o) (hp : ((pc : Int) + o).toNat = n') (hn : pc + 3 = n) (kt : A < B → Go p l e R s m args below meth c n0 Q cells slots h (mkF m n' Ls (st))) (kf : B ≤ A → Go p l e R s m args below meth c n0 Q cells slots h (mkF m n Ls (st))) : Go p l e R s m args below meth c n0 Q cells slots h (mkF m pc Ls (.int x2 :: .int x1 :: st)) := by
  subst hn hA hB
  rcases ich_lt (x1 := x1) (x2 := x2) with ⟨q, r⟩ | ⟨q, r⟩
  · exact Go.via (fun T locs X _ t q => XS.icmpYes X.here C.x rfl rfl (hb C.by hd) rfl r ho hp q) (kt q)
  · exact Go.via (fun T locs X _ t q => XS.icmpNo X.here C.x rfl (hb C.by hd) rfl r q) (kf q)
theorem G.if_lt (C : Cx p s m meth c Z y bytes maxL ret) {x1 : Int32} {o : Int} {A : Int} (hA : x1.toInt = A) (hd : decode bytes pc = .ok (.ifCond .lt o, 3)) (ho : 0 ≤ (pc : Int) + o) (hp : ((pc : Int) + o).toNat = n') (hn : pc + 3 = n) (kt : A < 0 → Go p l e R s m args below meth c n0 Q cells slots h (mkF m n' Ls (st))) (kf : 0 ≤ A → Go p l e R s m args below meth c n0 Q cells slots h (mkF m n Ls (st))) : Go p l e R s m args below meth c n0 Q cells slots h (mkF m pc Ls (.int x1 :: st)) := by
  subst hn hA
  rcases ich_lt (x1 := x1) (x2 := 0) with ⟨q, r⟩ | ⟨q, r⟩
  · exact Go.via (fun T locs X _ t q => XS.ifYes X.here C.x rfl rfl (hb C.by hd) rfl ((if0 _ _).trans r) ho hp q) (kt q)
  · exact Go.via (fun T locs X _ t q => XS.ifNo X.here C.x rfl (hb C.by hd) rfl ((if0 _ _).trans r) q) (kf q)
theorem lch_lt (x1 x2 : Int64) : ((lcmpW x1 x2).toInt < 0 → x1.toInt < x2.toInt) ∧ (0 ≤ (lcmpW x1 x2).toInt → x2.toInt ≤ x1.toInt) := by
  have q := c_lcmp x1 x2
  have z : ∀ x : Int32, x = 0 ↔ x.toInt = 0 := fun x => ⟨fun q => by rw [q]; rfl, fun q => Int32.toInt_inj.mp q⟩
  have w : x1 = x2 ↔ x1.toInt = x2.toInt := Int64.toInt_inj.symm
  
  constructor <;> intro r <;> omega
theorem G.lcmp_lt (C : Cx p s m meth c Z y bytes maxL ret) {x1 x2 : Int64} {o : Int} {A B : Int} (hA : x1.toInt = A) (hB : x2.toInt = B) (hc : decode bytes pc = .ok (.lcmp, 1)) (hd : decode bytes (pc + 1) = .ok (.ifCond .lt o, 3)) (ho : 0 ≤ ((pc + 1 : Nat) : Int) + o) (hp : (((pc + 1 : Nat) : Int) + o).toNat = n') (hn : pc + 4 = n) (kt : A < B → Go p l e R s m args below meth c n0 Q cells slots h (mkF m n' Ls (st))) (kf : B ≤ A → Go p l e R s m args below meth c n0 Q cells slots h (mkF m n Ls (st))) : Go p l e R s m args below meth c n0 Q cells slots h (mkF m pc Ls (.long x2 :: .long x1 :: st)) := by
  subst hn hA hB
  refine Go.via (fun T locs X _ t q => XS.lcmp X.here C.x rfl (hb C.by hc) rfl q) ?_
  exact G.if_lt C (A := (lcmpW x1 x2).toInt) rfl (pc := pc + 1) hd ho hp (n := pc + 4) rfl (fun q => kt ((lch_lt x1 x2).1 q)) (fun q => kf ((lch_lt x1 x2).2 q))
theorem ich_ge {x1 x2 : Int32} : (x2.toInt ≤ x1.toInt ∧ if_icmp.holds .ge x1 x2 = true) ∨ (x1.toInt < x2.toInt ∧ if_icmp.holds .ge x1 x2 = false) := by
  by_cases q : x2.toInt ≤ x1.toInt
  · exact Or.inl ⟨q, by simp [if_icmp.holds, lt_i, le_i, Int32.lt_iff_toInt_lt, Int32.le_iff_toInt_le, q]⟩
  · exact Or.inr ⟨by omega, by first | (simp [if_icmp.holds, lt_i, le_i, Int32.lt_iff_toInt_lt, Int32.le_iff_toInt_le, q]; done) | (simp [if_icmp.holds, lt_i, le_i, Int32.lt_iff_toInt_lt, Int32.le_iff_toInt_le]; omega)⟩
theorem G.icmp_ge (C : Cx p s m meth c Z y bytes maxL ret) {x1 x2 : Int32} {o : Int} {A B : Int} (hA : x1.toInt = A) (hB : x2.toInt = B) (hd : decode bytes pc = .ok (.if_icmp .ge o, 3)) (ho : 0 ≤ (pc : Int) + o) (hp : ((pc : Int) + o).toNat = n') (hn : pc + 3 = n) (kt : B ≤ A → Go p l e R s m args below meth c n0 Q cells slots h (mkF m n' Ls (st))) (kf : A < B → Go p l e R s m args below meth c n0 Q cells slots h (mkF m n Ls (st))) : Go p l e R s m args below meth c n0 Q cells slots h (mkF m pc Ls (.int x2 :: .int x1 :: st)) := by
  subst hn hA hB
  rcases ich_ge (x1 := x1) (x2 := x2) with ⟨q, r⟩ | ⟨q, r⟩
  · exact Go.via (fun T locs X _ t q => XS.icmpYes X.here C.x rfl rfl (hb C.by hd) rfl r ho hp q) (kt q)
  · exact Go.via (fun T locs X _ t q => XS.icmpNo X.here C.x rfl (hb C.by hd) rfl r q) (kf q)
theorem G.if_ge (C : Cx p s m meth c Z y bytes maxL ret) {x1 : Int32} {o : Int} {A : Int} (hA : x1.toInt = A) (hd : decode bytes pc = .ok (.ifCond .ge o, 3)) (ho : 0 ≤ (pc : Int) + o) (hp : ((pc : Int) + o).toNat = n') (hn : pc + 3 = n) (kt : 0 ≤ A → Go p l e R s m args below meth c n0 Q cells slots h (mkF m n' Ls (st))) (kf : A < 0 → Go p l e R s m args below meth c n0 Q cells slots h (mkF m n Ls (st))) : Go p l e R s m args below meth c n0 Q cells slots h (mkF m pc Ls (.int x1 :: st)) := by
  subst hn hA
  rcases ich_ge (x1 := x1) (x2 := 0) with ⟨q, r⟩ | ⟨q, r⟩
  · exact Go.via (fun T locs X _ t q => XS.ifYes X.here C.x rfl rfl (hb C.by hd) rfl ((if0 _ _).trans r) ho hp q) (kt q)
  · exact Go.via (fun T locs X _ t q => XS.ifNo X.here C.x rfl (hb C.by hd) rfl ((if0 _ _).trans r) q) (kf q)
theorem lch_ge (x1 x2 : Int64) : (0 ≤ (lcmpW x1 x2).toInt → x2.toInt ≤ x1.toInt) ∧ ((lcmpW x1 x2).toInt < 0 → x1.toInt < x2.toInt) := by
  have q := c_lcmp x1 x2
  have z : ∀ x : Int32, x = 0 ↔ x.toInt = 0 := fun x => ⟨fun q => by rw [q]; rfl, fun q => Int32.toInt_inj.mp q⟩
  have w : x1 = x2 ↔ x1.toInt = x2.toInt := Int64.toInt_inj.symm
  
  constructor <;> intro r <;> omega
theorem G.lcmp_ge (C : Cx p s m meth c Z y bytes maxL ret) {x1 x2 : Int64} {o : Int} {A B : Int} (hA : x1.toInt = A) (hB : x2.toInt = B) (hc : decode bytes pc = .ok (.lcmp, 1)) (hd : decode bytes (pc + 1) = .ok (.ifCond .ge o, 3)) (ho : 0 ≤ ((pc + 1 : Nat) : Int) + o) (hp : (((pc + 1 : Nat) : Int) + o).toNat = n') (hn : pc + 4 = n) (kt : B ≤ A → Go p l e R s m args below meth c n0 Q cells slots h (mkF m n' Ls (st))) (kf : A < B → Go p l e R s m args below meth c n0 Q cells slots h (mkF m n Ls (st))) : Go p l e R s m args below meth c n0 Q cells slots h (mkF m pc Ls (.long x2 :: .long x1 :: st)) := by
  subst hn hA hB
  refine Go.via (fun T locs X _ t q => XS.lcmp X.here C.x rfl (hb C.by hc) rfl q) ?_
  exact G.if_ge C (A := (lcmpW x1 x2).toInt) rfl (pc := pc + 1) hd ho hp (n := pc + 4) rfl (fun q => kt ((lch_ge x1 x2).1 q)) (fun q => kf ((lch_ge x1 x2).2 q))
theorem ich_gt {x1 x2 : Int32} : (x2.toInt < x1.toInt ∧ if_icmp.holds .gt x1 x2 = true) ∨ (x1.toInt ≤ x2.toInt ∧ if_icmp.holds .gt x1 x2 = false) := by
  by_cases q : x2.toInt < x1.toInt
  · exact Or.inl ⟨q, by simp [if_icmp.holds, lt_i, le_i, Int32.lt_iff_toInt_lt, Int32.le_iff_toInt_le, q]⟩
  · exact Or.inr ⟨by omega, by first | (simp [if_icmp.holds, lt_i, le_i, Int32.lt_iff_toInt_lt, Int32.le_iff_toInt_le, q]; done) | (simp [if_icmp.holds, lt_i, le_i, Int32.lt_iff_toInt_lt, Int32.le_iff_toInt_le]; omega)⟩
theorem G.icmp_gt (C : Cx p s m meth c Z y bytes maxL ret) {x1 x2 : Int32} {o : Int} {A B : Int} (hA : x1.toInt = A) (hB : x2.toInt = B) (hd : decode bytes pc = .ok (.if_icmp .gt o, 3)) (ho : 0 ≤ (pc : Int) + o) (hp : ((pc : Int) + o).toNat = n') (hn : pc + 3 = n) (kt : B < A → Go p l e R s m args below meth c n0 Q cells slots h (mkF m n' Ls (st))) (kf : A ≤ B → Go p l e R s m args below meth c n0 Q cells slots h (mkF m n Ls (st))) : Go p l e R s m args below meth c n0 Q cells slots h (mkF m pc Ls (.int x2 :: .int x1 :: st)) := by
  subst hn hA hB
  rcases ich_gt (x1 := x1) (x2 := x2) with ⟨q, r⟩ | ⟨q, r⟩
  · exact Go.via (fun T locs X _ t q => XS.icmpYes X.here C.x rfl rfl (hb C.by hd) rfl r ho hp q) (kt q)
  · exact Go.via (fun T locs X _ t q => XS.icmpNo X.here C.x rfl (hb C.by hd) rfl r q) (kf q)
theorem G.if_gt (C : Cx p s m meth c Z y bytes maxL ret) {x1 : Int32} {o : Int} {A : Int} (hA : x1.toInt = A) (hd : decode bytes pc = .ok (.ifCond .gt o, 3)) (ho : 0 ≤ (pc : Int) + o) (hp : ((pc : Int) + o).toNat = n') (hn : pc + 3 = n) (kt : 0 < A → Go p l e R s m args below meth c n0 Q cells slots h (mkF m n' Ls (st))) (kf : A ≤ 0 → Go p l e R s m args below meth c n0 Q cells slots h (mkF m n Ls (st))) : Go p l e R s m args below meth c n0 Q cells slots h (mkF m pc Ls (.int x1 :: st)) := by
  subst hn hA
  rcases ich_gt (x1 := x1) (x2 := 0) with ⟨q, r⟩ | ⟨q, r⟩
  · exact Go.via (fun T locs X _ t q => XS.ifYes X.here C.x rfl rfl (hb C.by hd) rfl ((if0 _ _).trans r) ho hp q) (kt q)
  · exact Go.via (fun T locs X _ t q => XS.ifNo X.here C.x rfl (hb C.by hd) rfl ((if0 _ _).trans r) q) (kf q)
theorem lch_gt (x1 x2 : Int64) : (0 < (lcmpW x1 x2).toInt → x2.toInt < x1.toInt) ∧ ((lcmpW x1 x2).toInt ≤ 0 → x1.toInt ≤ x2.toInt) := by
  have q := c_lcmp x1 x2
  have z : ∀ x : Int32, x = 0 ↔ x.toInt = 0 := fun x => ⟨fun q => by rw [q]; rfl, fun q => Int32.toInt_inj.mp q⟩
  have w : x1 = x2 ↔ x1.toInt = x2.toInt := Int64.toInt_inj.symm
  
  constructor <;> intro r <;> omega
theorem G.lcmp_gt (C : Cx p s m meth c Z y bytes maxL ret) {x1 x2 : Int64} {o : Int} {A B : Int} (hA : x1.toInt = A) (hB : x2.toInt = B) (hc : decode bytes pc = .ok (.lcmp, 1)) (hd : decode bytes (pc + 1) = .ok (.ifCond .gt o, 3)) (ho : 0 ≤ ((pc + 1 : Nat) : Int) + o) (hp : (((pc + 1 : Nat) : Int) + o).toNat = n') (hn : pc + 4 = n) (kt : B < A → Go p l e R s m args below meth c n0 Q cells slots h (mkF m n' Ls (st))) (kf : A ≤ B → Go p l e R s m args below meth c n0 Q cells slots h (mkF m n Ls (st))) : Go p l e R s m args below meth c n0 Q cells slots h (mkF m pc Ls (.long x2 :: .long x1 :: st)) := by
  subst hn hA hB
  refine Go.via (fun T locs X _ t q => XS.lcmp X.here C.x rfl (hb C.by hc) rfl q) ?_
  exact G.if_gt C (A := (lcmpW x1 x2).toInt) rfl (pc := pc + 1) hd ho hp (n := pc + 4) rfl (fun q => kt ((lch_gt x1 x2).1 q)) (fun q => kf ((lch_gt x1 x2).2 q))
theorem ich_le {x1 x2 : Int32} : (x1.toInt ≤ x2.toInt ∧ if_icmp.holds .le x1 x2 = true) ∨ (x2.toInt < x1.toInt ∧ if_icmp.holds .le x1 x2 = false) := by
  by_cases q : x1.toInt ≤ x2.toInt
  · exact Or.inl ⟨q, by simp [if_icmp.holds, lt_i, le_i, Int32.lt_iff_toInt_lt, Int32.le_iff_toInt_le, q]⟩
  · exact Or.inr ⟨by omega, by first | (simp [if_icmp.holds, lt_i, le_i, Int32.lt_iff_toInt_lt, Int32.le_iff_toInt_le, q]; done) | (simp [if_icmp.holds, lt_i, le_i, Int32.lt_iff_toInt_lt, Int32.le_iff_toInt_le]; omega)⟩
theorem G.icmp_le (C : Cx p s m meth c Z y bytes maxL ret) {x1 x2 : Int32} {o : Int} {A B : Int} (hA : x1.toInt = A) (hB : x2.toInt = B) (hd : decode bytes pc = .ok (.if_icmp .le o, 3)) (ho : 0 ≤ (pc : Int) + o) (hp : ((pc : Int) + o).toNat = n') (hn : pc + 3 = n) (kt : A ≤ B → Go p l e R s m args below meth c n0 Q cells slots h (mkF m n' Ls (st))) (kf : B < A → Go p l e R s m args below meth c n0 Q cells slots h (mkF m n Ls (st))) : Go p l e R s m args below meth c n0 Q cells slots h (mkF m pc Ls (.int x2 :: .int x1 :: st)) := by
  subst hn hA hB
  rcases ich_le (x1 := x1) (x2 := x2) with ⟨q, r⟩ | ⟨q, r⟩
  · exact Go.via (fun T locs X _ t q => XS.icmpYes X.here C.x rfl rfl (hb C.by hd) rfl r ho hp q) (kt q)
  · exact Go.via (fun T locs X _ t q => XS.icmpNo X.here C.x rfl (hb C.by hd) rfl r q) (kf q)
theorem G.if_le (C : Cx p s m meth c Z y bytes maxL ret) {x1 : Int32} {o : Int} {A : Int} (hA : x1.toInt = A) (hd : decode bytes pc = .ok (.ifCond .le o, 3)) (ho : 0 ≤ (pc : Int) + o) (hp : ((pc : Int) + o).toNat = n') (hn : pc + 3 = n) (kt : A ≤ 0 → Go p l e R s m args below meth c n0 Q cells slots h (mkF m n' Ls (st))) (kf : 0 < A → Go p l e R s m args below meth c n0 Q cells slots h (mkF m n Ls (st))) : Go p l e R s m args below meth c n0 Q cells slots h (mkF m pc Ls (.int x1 :: st)) := by
  subst hn hA
  rcases ich_le (x1 := x1) (x2 := 0) with ⟨q, r⟩ | ⟨q, r⟩
  · exact Go.via (fun T locs X _ t q => XS.ifYes X.here C.x rfl rfl (hb C.by hd) rfl ((if0 _ _).trans r) ho hp q) (kt q)
  · exact Go.via (fun T locs X _ t q => XS.ifNo X.here C.x rfl (hb C.by hd) rfl ((if0 _ _).trans r) q) (kf q)
theorem lch_le (x1 x2 : Int64) : ((lcmpW x1 x2).toInt ≤ 0 → x1.toInt ≤ x2.toInt) ∧ (0 < (lcmpW x1 x2).toInt → x2.toInt < x1.toInt) := by
  have q := c_lcmp x1 x2
  have z : ∀ x : Int32, x = 0 ↔ x.toInt = 0 := fun x => ⟨fun q => by rw [q]; rfl, fun q => Int32.toInt_inj.mp q⟩
  have w : x1 = x2 ↔ x1.toInt = x2.toInt := Int64.toInt_inj.symm
  
  constructor <;> intro r <;> omega
theorem G.lcmp_le (C : Cx p s m meth c Z y bytes maxL ret) {x1 x2 : Int64} {o : Int} {A B : Int} (hA : x1.toInt = A) (hB : x2.toInt = B) (hc : decode bytes pc = .ok (.lcmp, 1)) (hd : decode bytes (pc + 1) = .ok (.ifCond .le o, 3)) (ho : 0 ≤ ((pc + 1 : Nat) : Int) + o) (hp : (((pc + 1 : Nat) : Int) + o).toNat = n') (hn : pc + 4 = n) (kt : A ≤ B → Go p l e R s m args below meth c n0 Q cells slots h (mkF m n' Ls (st))) (kf : B < A → Go p l e R s m args below meth c n0 Q cells slots h (mkF m n Ls (st))) : Go p l e R s m args below meth c n0 Q cells slots h (mkF m pc Ls (.long x2 :: .long x1 :: st)) := by
  subst hn hA hB
  refine Go.via (fun T locs X _ t q => XS.lcmp X.here C.x rfl (hb C.by hc) rfl q) ?_
  exact G.if_le C (A := (lcmpW x1 x2).toInt) rfl (pc := pc + 1) hd ho hp (n := pc + 4) rfl (fun q => kt ((lch_le x1 x2).1 q)) (fun q => kf ((lch_le x1 x2).2 q))
theorem ich_eq {x1 x2 : Int32} : (x1 = x2 ∧ if_icmp.holds .eq x1 x2 = true) ∨ (x1 ≠ x2 ∧ if_icmp.holds .eq x1 x2 = false) := by
  by_cases q : x1 = x2 <;> simp [if_icmp.holds, q]
theorem G.icmp_eq (C : Cx p s m meth c Z y bytes maxL ret) {x1 x2 : Int32} {o : Int} {A B : Int} (hA : x1.toInt = A) (hB : x2.toInt = B) (hd : decode bytes pc = .ok (.if_icmp .eq o, 3)) (ho : 0 ≤ (pc : Int) + o) (hp : ((pc : Int) + o).toNat = n') (hn : pc + 3 = n) (kt : x1 = x2 → A = B → Go p l e R s m args below meth c n0 Q cells slots h (mkF m n' Ls (st))) (kf : x1 ≠ x2 → A ≠ B → Go p l e R s m args below meth c n0 Q cells slots h (mkF m n Ls (st))) : Go p l e R s m args below meth c n0 Q cells slots h (mkF m pc Ls (.int x2 :: .int x1 :: st)) := by
  subst hn hA hB
  rcases ich_eq (x1 := x1) (x2 := x2) with ⟨q, r⟩ | ⟨q, r⟩
  · exact Go.via (fun T locs X _ t q => XS.icmpYes X.here C.x rfl rfl (hb C.by hd) rfl r ho hp q) (kt q (congrArg _ q))
  · exact Go.via (fun T locs X _ t q => XS.icmpNo X.here C.x rfl (hb C.by hd) rfl r q) (kf q (fun r => q (Int32.toInt_inj.mp r)))
theorem G.if_eq (C : Cx p s m meth c Z y bytes maxL ret) {x1 : Int32} {o : Int} {A : Int} (hA : x1.toInt = A) (hd : decode bytes pc = .ok (.ifCond .eq o, 3)) (ho : 0 ≤ (pc : Int) + o) (hp : ((pc : Int) + o).toNat = n') (hn : pc + 3 = n) (kt : x1 = 0 → A = 0 → Go p l e R s m args below meth c n0 Q cells slots h (mkF m n' Ls (st))) (kf : x1 ≠ 0 → A ≠ 0 → Go p l e R s m args below meth c n0 Q cells slots h (mkF m n Ls (st))) : Go p l e R s m args below meth c n0 Q cells slots h (mkF m pc Ls (.int x1 :: st)) := by
  subst hn hA
  rcases ich_eq (x1 := x1) (x2 := 0) with ⟨q, r⟩ | ⟨q, r⟩
  · exact Go.via (fun T locs X _ t q => XS.ifYes X.here C.x rfl rfl (hb C.by hd) rfl ((if0 _ _).trans r) ho hp q) (kt q (congrArg Int32.toInt q))
  · exact Go.via (fun T locs X _ t q => XS.ifNo X.here C.x rfl (hb C.by hd) rfl ((if0 _ _).trans r) q) (kf q (fun r => q (Int32.toInt_inj.mp r)))
theorem lch_eq (x1 x2 : Int64) : ((lcmpW x1 x2) = 0 → x1 = x2) ∧ ((lcmpW x1 x2) ≠ 0 → x1 ≠ x2) := by
  have q := c_lcmp x1 x2
  have z : ∀ x : Int32, x = 0 ↔ x.toInt = 0 := fun x => ⟨fun q => by rw [q]; rfl, fun q => Int32.toInt_inj.mp q⟩
  have w : x1 = x2 ↔ x1.toInt = x2.toInt := Int64.toInt_inj.symm
  simp only [ne_eq, z, w]
  constructor <;> intro r <;> omega
theorem G.lcmp_eq (C : Cx p s m meth c Z y bytes maxL ret) {x1 x2 : Int64} {o : Int} {A B : Int} (hA : x1.toInt = A) (hB : x2.toInt = B) (hc : decode bytes pc = .ok (.lcmp, 1)) (hd : decode bytes (pc + 1) = .ok (.ifCond .eq o, 3)) (ho : 0 ≤ ((pc + 1 : Nat) : Int) + o) (hp : (((pc + 1 : Nat) : Int) + o).toNat = n') (hn : pc + 4 = n) (kt : x1 = x2 → A = B → Go p l e R s m args below meth c n0 Q cells slots h (mkF m n' Ls (st))) (kf : x1 ≠ x2 → A ≠ B → Go p l e R s m args below meth c n0 Q cells slots h (mkF m n Ls (st))) : Go p l e R s m args below meth c n0 Q cells slots h (mkF m pc Ls (.long x2 :: .long x1 :: st)) := by
  subst hn hA hB
  refine Go.via (fun T locs X _ t q => XS.lcmp X.here C.x rfl (hb C.by hc) rfl q) ?_
  exact G.if_eq C (A := (lcmpW x1 x2).toInt) rfl (pc := pc + 1) hd ho hp (n := pc + 4) rfl (fun q _ => kt ((lch_eq x1 x2).1 q) (congrArg _ ((lch_eq x1 x2).1 q))) (fun q _ => kf ((lch_eq x1 x2).2 q) (fun r => (lch_eq x1 x2).2 q (Int64.toInt_inj.mp r)))
theorem ich_ne {x1 x2 : Int32} : (x1 ≠ x2 ∧ if_icmp.holds .ne x1 x2 = true) ∨ (x1 = x2 ∧ if_icmp.holds .ne x1 x2 = false) := by
  by_cases q : x1 = x2 <;> simp [if_icmp.holds, q]
theorem G.icmp_ne (C : Cx p s m meth c Z y bytes maxL ret) {x1 x2 : Int32} {o : Int} {A B : Int} (hA : x1.toInt = A) (hB : x2.toInt = B) (hd : decode bytes pc = .ok (.if_icmp .ne o, 3)) (ho : 0 ≤ (pc : Int) + o) (hp : ((pc : Int) + o).toNat = n') (hn : pc + 3 = n) (kt : x1 ≠ x2 → A ≠ B → Go p l e R s m args below meth c n0 Q cells slots h (mkF m n' Ls (st))) (kf : x1 = x2 → A = B → Go p l e R s m args below meth c n0 Q cells slots h (mkF m n Ls (st))) : Go p l e R s m args below meth c n0 Q cells slots h (mkF m pc Ls (.int x2 :: .int x1 :: st)) := by
  subst hn hA hB
  rcases ich_ne (x1 := x1) (x2 := x2) with ⟨q, r⟩ | ⟨q, r⟩
  · exact Go.via (fun T locs X _ t q => XS.icmpYes X.here C.x rfl rfl (hb C.by hd) rfl r ho hp q) (kt q (fun r => q (Int32.toInt_inj.mp r)))
  · exact Go.via (fun T locs X _ t q => XS.icmpNo X.here C.x rfl (hb C.by hd) rfl r q) (kf q (congrArg _ q))
theorem G.if_ne (C : Cx p s m meth c Z y bytes maxL ret) {x1 : Int32} {o : Int} {A : Int} (hA : x1.toInt = A) (hd : decode bytes pc = .ok (.ifCond .ne o, 3)) (ho : 0 ≤ (pc : Int) + o) (hp : ((pc : Int) + o).toNat = n') (hn : pc + 3 = n) (kt : x1 ≠ 0 → A ≠ 0 → Go p l e R s m args below meth c n0 Q cells slots h (mkF m n' Ls (st))) (kf : x1 = 0 → A = 0 → Go p l e R s m args below meth c n0 Q cells slots h (mkF m n Ls (st))) : Go p l e R s m args below meth c n0 Q cells slots h (mkF m pc Ls (.int x1 :: st)) := by
  subst hn hA
  rcases ich_ne (x1 := x1) (x2 := 0) with ⟨q, r⟩ | ⟨q, r⟩
  · exact Go.via (fun T locs X _ t q => XS.ifYes X.here C.x rfl rfl (hb C.by hd) rfl ((if0 _ _).trans r) ho hp q) (kt q (fun r => q (Int32.toInt_inj.mp r)))
  · exact Go.via (fun T locs X _ t q => XS.ifNo X.here C.x rfl (hb C.by hd) rfl ((if0 _ _).trans r) q) (kf q (congrArg Int32.toInt q))
theorem lch_ne (x1 x2 : Int64) : ((lcmpW x1 x2) ≠ 0 → x1 ≠ x2) ∧ ((lcmpW x1 x2) = 0 → x1 = x2) := by
  have q := c_lcmp x1 x2
  have z : ∀ x : Int32, x = 0 ↔ x.toInt = 0 := fun x => ⟨fun q => by rw [q]; rfl, fun q => Int32.toInt_inj.mp q⟩
  have w : x1 = x2 ↔ x1.toInt = x2.toInt := Int64.toInt_inj.symm
  simp only [ne_eq, z, w]
  constructor <;> intro r <;> omega
theorem G.lcmp_ne (C : Cx p s m meth c Z y bytes maxL ret) {x1 x2 : Int64} {o : Int} {A B : Int} (hA : x1.toInt = A) (hB : x2.toInt = B) (hc : decode bytes pc = .ok (.lcmp, 1)) (hd : decode bytes (pc + 1) = .ok (.ifCond .ne o, 3)) (ho : 0 ≤ ((pc + 1 : Nat) : Int) + o) (hp : (((pc + 1 : Nat) : Int) + o).toNat = n') (hn : pc + 4 = n) (kt : x1 ≠ x2 → A ≠ B → Go p l e R s m args below meth c n0 Q cells slots h (mkF m n' Ls (st))) (kf : x1 = x2 → A = B → Go p l e R s m args below meth c n0 Q cells slots h (mkF m n Ls (st))) : Go p l e R s m args below meth c n0 Q cells slots h (mkF m pc Ls (.long x2 :: .long x1 :: st)) := by
  subst hn hA hB
  refine Go.via (fun T locs X _ t q => XS.lcmp X.here C.x rfl (hb C.by hc) rfl q) ?_
  exact G.if_ne C (A := (lcmpW x1 x2).toInt) rfl (pc := pc + 1) hd ho hp (n := pc + 4) rfl (fun q _ => kt ((lch_ne x1 x2).1 q) (fun r => (lch_ne x1 x2).1 q (Int64.toInt_inj.mp r))) (fun q _ => kf ((lch_ne x1 x2).2 q) (congrArg _ ((lch_ne x1 x2).2 q)))
theorem G.ifnullN (C : Cx p s m meth c Z y bytes maxL ret) {b : Addr} {o : Int} (hd : decode bytes pc = .ok (.ifnull o, 3)) (hn : pc + 3 = n) (k : Go p l e R s m args below meth c n0 Q cells slots h (mkF m n Ls (st))) : Go p l e R s m args below meth c n0 Q cells slots h (mkF m pc Ls (.ref b :: st)) := by
  subst hn
  exact Go.via (fun T locs X _ t q => XS.ifnullNo X.here C.x rfl (hb C.by hd) rfl q) k
theorem G.ifnullY (C : Cx p s m meth c Z y bytes maxL ret) {o : Int} (hd : decode bytes pc = .ok (.ifnull o, 3)) (ho : 0 ≤ (pc : Int) + o) (hp : ((pc : Int) + o).toNat = n) (k : Go p l e R s m args below meth c n0 Q cells slots h (mkF m n Ls (st))) : Go p l e R s m args below meth c n0 Q cells slots h (mkF m pc Ls (.null :: st)) :=
  Go.via (fun T locs X _ t q => XS.ifnullYes X.here C.x rfl rfl (hb C.by hd) rfl ho hp q) k
theorem G.ifnonnullY (C : Cx p s m meth c Z y bytes maxL ret) {b : Addr} {o : Int} (hd : decode bytes pc = .ok (.ifnonnull o, 3)) (ho : 0 ≤ (pc : Int) + o) (hp : ((pc : Int) + o).toNat = n) (k : Go p l e R s m args below meth c n0 Q cells slots h (mkF m n Ls (st))) : Go p l e R s m args below meth c n0 Q cells slots h (mkF m pc Ls (.ref b :: st)) :=
  Go.via (fun T locs X _ t q => XS.ifnonnullYes X.here C.x rfl rfl (hb C.by hd) rfl ho hp q) k
theorem G.ifnonnullN (C : Cx p s m meth c Z y bytes maxL ret) {o : Int} (hd : decode bytes pc = .ok (.ifnonnull o, 3)) (hn : pc + 3 = n) (k : Go p l e R s m args below meth c n0 Q cells slots h (mkF m n Ls (st))) : Go p l e R s m args below meth c n0 Q cells slots h (mkF m pc Ls (.null :: st)) := by
  subst hn
  exact Go.via (fun T locs X _ t q => XS.ifnonnullNo X.here C.x rfl (hb C.by hd) rfl q) k
theorem G.acmp_eq (C : Cx p s m meth c Z y bytes maxL ret) {x1 x2 : Value} {o : Int} (h1 : x1.isRef = true) (h2 : x2.isRef = true) (hd : decode bytes pc = .ok (.if_acmp .eq o, 3)) (ho : 0 ≤ (pc : Int) + o) (hp : ((pc : Int) + o).toNat = n') (hn : pc + 3 = n) (kt : x1 = x2 → Go p l e R s m args below meth c n0 Q cells slots h (mkF m n' Ls (st))) (kf : x1 ≠ x2 → Go p l e R s m args below meth c n0 Q cells slots h (mkF m n Ls (st))) : Go p l e R s m args below meth c n0 Q cells slots h (mkF m pc Ls (x2 :: x1 :: st)) := by
  subst hn
  by_cases r : x1 = x2
  · exact Go.via (fun T locs X _ t q => Jvm.RoadKit.acmp (g := mkF m pc Ls (x2 :: x1 :: st)) X C.x rfl h1 h2 (same := true) rfl (hb C.by hd) rfl (decide_eq_true r) ho (hp.symm) q) (kt r)
  · exact Go.via (fun T locs X _ t q => Jvm.RoadKit.acmp (g := mkF m pc Ls (x2 :: x1 :: st)) X C.x rfl h1 h2 (same := false) rfl (hb C.by hd) rfl (decide_eq_false r) ho (rfl) q) (kf r)
theorem G.acmp_ne (C : Cx p s m meth c Z y bytes maxL ret) {x1 x2 : Value} {o : Int} (h1 : x1.isRef = true) (h2 : x2.isRef = true) (hd : decode bytes pc = .ok (.if_acmp .ne o, 3)) (ho : 0 ≤ (pc : Int) + o) (hp : ((pc : Int) + o).toNat = n') (hn : pc + 3 = n) (kt : x1 ≠ x2 → Go p l e R s m args below meth c n0 Q cells slots h (mkF m n' Ls (st))) (kf : x1 = x2 → Go p l e R s m args below meth c n0 Q cells slots h (mkF m n Ls (st))) : Go p l e R s m args below meth c n0 Q cells slots h (mkF m pc Ls (x2 :: x1 :: st)) := by
  subst hn
  by_cases r : x1 = x2
  · exact Go.via (fun T locs X _ t q => Jvm.RoadKit.acmp (g := mkF m pc Ls (x2 :: x1 :: st)) X C.x rfl h1 h2 (same := true) rfl (hb C.by hd) rfl (decide_eq_true r) ho (rfl) q) (kf r)
  · exact Go.via (fun T locs X _ t q => Jvm.RoadKit.acmp (g := mkF m pc Ls (x2 :: x1 :: st)) X C.x rfl h1 h2 (same := false) rfl (hb C.by hd) rfl (decide_eq_false r) ho (hp.symm) q) (kt r)
theorem G.ldc (C : Cx p s m meth c Z y bytes maxL ret) {index : Nat} {v : Int32} (w : (Jvm.Cond.constant y.cls index v).before a0 Z = true) (hd : decode bytes pc = .ok (.ldc index, 2)) (hn : pc + 2 = n) (k : Go p l e R s m args below meth c n0 Q cells slots h (mkF m n Ls (.int v :: st))) : Go p l e R s m args below meth c n0 Q cells slots h (mkF m pc Ls (st)) := by
  subst hn
  exact Go.via (fun T locs X _ t q => X.ldcInt C.x C.own (mvT C.z w) (g := mkF m pc Ls st) rfl (hb C.by hd) t q) k
theorem G.ldc_w (C : Cx p s m meth c Z y bytes maxL ret) {index : Nat} {v : Int32} (w : (Jvm.Cond.constant y.cls index v).before a0 Z = true) (hd : decode bytes pc = .ok (.ldc_w index, 3)) (hn : pc + 3 = n) (k : Go p l e R s m args below meth c n0 Q cells slots h (mkF m n Ls (.int v :: st))) : Go p l e R s m args below meth c n0 Q cells slots h (mkF m pc Ls (st)) := by
  subst hn
  exact Go.via (fun T locs X _ t q => X.ldcwInt C.x C.own (mvT C.z w) (g := mkF m pc Ls st) rfl (hb C.by hd) t q) k
theorem G.ldc2 (C : Cx p s m meth c Z y bytes maxL ret) {index : Nat} {v : Int64} (w : (Jvm.Cond.constantLong y.cls index v).before a0 Z = true) (hd : decode bytes pc = .ok (.ldc2_w index, 3)) (hn : pc + 3 = n) (k : Go p l e R s m args below meth c n0 Q cells slots h (mkF m n Ls (.long v :: st))) : Go p l e R s m args below meth c n0 Q cells slots h (mkF m pc Ls (st)) := by
  subst hn
  exact Go.via (fun T locs X _ t q => X.ldc2Long C.x C.own (mvT C.z w) (g := mkF m pc Ls st) rfl (hb C.by hd) t q) k
theorem Go.leave (C : Cx p s m meth c Z y bytes maxL ret) {v : Option Value} {f : JFrame} (hv : ret = none → v = none) (hc : cells ≤ R.cells) (hs : slots ≤ R.slots)
    (hret : ∀ T locs, Stand p l e R s m args below meth c T locs cells slots → ∀ fs, (∀ (f : JFrame) (acts : List Action), f.method = m → f.locked = none → f.entered = [] → (doReturn e (T.setTop f) acts v).1 = T.setFrames fs) → Steps p.tables e below (T.setTop f) (T.setFrames fs))
    (q : Q v h) : Go p l e R s m args below meth c n0 Q cells slots h f := fun T locs X N e0 => by
  obtain ⟨fs, hr, hrun, hended, hW, hsame⟩ := X.leave (v := v) (fun q => hv (C.rt.symm.trans q)) C.locks
  refine ⟨_, _, hret T locs X fs hr, hrun, hended, v, locs, rfl, ⟨N, ?_⟩, ⟨_, rfl⟩, hW, hsame.mono hc hs⟩
  show Q v T.heap
  rw [e0]; exact q
theorem G.return_ (C : Cx p s m meth c Z y bytes maxL none) (hd : decode bytes pc = .ok (.return_, 1)) (hc : cells ≤ R.cells) (hs : slots ≤ R.slots) (q : Q none h) : Go p l e R s m args below meth c n0 Q cells slots h (mkF m pc Ls ([])) :=
  Go.leave C (v := none) (fun _ => rfl) hc hs (fun T locs X fs hr => X.returnOut C.x C.rt (hb C.by hd) hr) q
theorem G.ireturn {t : FieldType} (C : Cx p s m meth c Z y bytes maxL (some t)) {x : Int32} (hd : decode bytes pc = .ok (.ireturn, 1)) (hnn : narrow t (.int x) = .int x) (ht : t = .int ∨ t = .boolean ∨ t = .byte ∨ t = .char ∨ t = .short) (hc : cells ≤ R.cells) (hs : slots ≤ R.slots) (q : Q (some (.int x)) h) : Go p l e R s m args below meth c n0 Q cells slots h (mkF m pc Ls (.int x :: st)) :=
  Go.leave C (v := some (.int x)) (fun q => nomatch q) hc hs (fun T locs X fs hr => retOut X C.x C.rt hnn (Or.inl ⟨rfl, ht, _, rfl⟩) (hb C.by hd) hr) q
theorem G.lreturn (C : Cx p s m meth c Z y bytes maxL (some .long)) {x : Int64} (hd : decode bytes pc = .ok (.lreturn, 1)) (hc : cells ≤ R.cells) (hs : slots ≤ R.slots) (q : Q (some (.long x)) h) : Go p l e R s m args below meth c n0 Q cells slots h (mkF m pc Ls (.long x :: st)) :=
  Go.leave C (v := some (.long x)) (fun q => nomatch q) hc hs (fun T locs X fs hr => retOut X C.x C.rt rfl (Or.inr (Or.inl ⟨rfl, rfl, _, rfl⟩)) (hb C.by hd) hr) q
theorem G.areturn {t : FieldType} (C : Cx p s m meth c Z y bytes maxL (some t)) {x : Value} (hd : decode bytes pc = .ok (.areturn, 1)) (ht : t.isReference = true) (hx : x.isRef = true) (hnn : narrow t x = x) (hc : cells ≤ R.cells) (hs : slots ≤ R.slots) (q : Q (some x) h) : Go p l e R s m args below meth c n0 Q cells slots h (mkF m pc Ls (x :: st)) :=
  Go.leave C (v := some x) (fun q => nomatch q) hc hs (fun T locs X fs hr => retOut X C.x C.rt hnn (Or.inr (Or.inr (Or.inr (Or.inr ⟨rfl, ht, hx⟩)))) (hb C.by hd) hr) q
theorem G.getfield (C : Cx p s m meth c Z y bytes maxL ret) {R0 O nm d host : String} {index : Nat} (w : (Jvm.Cond.fieldLink y.cls index R0 nm d).before a0 Z = true ∨ (Jvm.Cond.fieldLinkNest y.cls index R0 nm d host).before a0 Z = true) (via : Via Z R0 O nm d) {a : Addr} {v : Value} (F : Fld Z h a O nm d v) (hd : decode bytes pc = .ok (.getfield index, 3)) (hn : pc + 3 = n) (k : Go p l e R s m args below meth c n0 Q cells slots h (mkF m n Ls (v :: st))) : Go p l e R s m args below meth c n0 Q cells slots h (mkF m pc Ls (.ref a :: st)) := fun T locs X N q => by
  subst hn
  obtain ⟨T', X', e', st'⟩ := getF X C.x C.z C.own w via q F (g := mkF m pc Ls (.ref a :: st)) rfl rfl (hb C.by hd)
  obtain ⟨t, o, s1, r⟩ := k T' locs X' N e'
  exact ⟨t, o, st' t s1, r⟩
theorem G.getstatic (C : Cx p s m meth c Z y bytes maxL ret) {R0 O nm d host : String} {index : Nat} (w : (Jvm.Cond.fieldLink y.cls index R0 nm d).before a0 Z = true ∨ (Jvm.Cond.fieldLinkNest y.cls index R0 nm d host).before a0 Z = true) (via : Via Z R0 O nm d) {v : Value} (F : Sta Z h O nm d v) (hd : decode bytes pc = .ok (.getstatic index, 3)) (hn : pc + 3 = n) (k : Go p l e R s m args below meth c n0 Q cells slots h (mkF m n Ls (v :: st))) : Go p l e R s m args below meth c n0 Q cells slots h (mkF m pc Ls (st)) := fun T locs X N q => by
  subst hn
  obtain ⟨T', X', e', st'⟩ := getS2 X C.x C.z C.own w via q F (g := mkF m pc Ls st) rfl (hb C.by hd)
  obtain ⟨t, o, s1, r⟩ := k T' locs X' N e'
  exact ⟨t, o, st' t s1, r⟩
theorem G.putfield (C : Cx p s m meth c Z y bytes maxL ret) {R0 O nm d host K : String} {index kk : Nat} {ty : FieldType} (w : (Jvm.Cond.fieldLink y.cls index R0 nm d).before a0 Z = true ∨ (Jvm.Cond.fieldLinkNest y.cls index R0 nm d host).before a0 Z = true) (via : Via Z R0 O nm d) {a : Addr} {v old : Value} (F : Fld Z h a O nm d old) (E : Exa Z h a K)
    (L : (Jvm.Cond.lays K O nm d).before a0 Z = true ∨ ((Jvm.Cond.laysFinal K O nm d).before a0 Z = true ∧ y.cls = O ∧ y.name = "<init>")) (wi : (Jvm.Cond.instantiable K kk).before a0 Z = true) (hty : parseFieldDescriptor d = some ty) (hnn : narrow ty v = v) (hf : fits ty v = true) (g : n0 ≤ a)
    (hd : decode bytes pc = .ok (.putfield index, 3)) (hn : pc + 3 = n) (k : ∀ h', Wr h h' a (RoadKit.slotOf Z O nm d) v → Go p l e R s m args below meth c n0 Q cells slots h' (mkF m n Ls (st))) : Go p l e R s m args below meth c n0 Q cells slots h (mkF m pc Ls (v :: .ref a :: st)) := fun T locs X N q => by
  subst hn
  obtain ⟨T', h', X', e', W, st'⟩ := putF X C.x C.z C.own w via q F E (L.imp id fun r => ⟨r.1, r.2.1, C.nm.trans r.2.2⟩) wi hty hnn hf (g := mkF m pc Ls (v :: .ref a :: st)) rfl rfl (hb C.by hd)
  obtain ⟨t, o, s1, r⟩ := k h' W T' _ X' (Fr.snoc X' N g) e'
  exact ⟨t, o, st' t s1, r⟩
theorem G.putfieldN (C : Cx p s m meth c Z y bytes maxL ret) {R0 O nm d K : String} {index kk : Nat} {ty : FieldType} (w : (Jvm.Cond.fieldLink y.cls index R0 nm d).before a0 Z = true) (via : Via Z R0 O nm d) {a : Addr} {v v' old : Value} (F : Fld Z h a O nm d old) (E : Exa Z h a K)
    (L : (Jvm.Cond.lays K O nm d).before a0 Z = true ∨ ((Jvm.Cond.laysFinal K O nm d).before a0 Z = true ∧ y.cls = O ∧ y.name = "<init>")) (wi : (Jvm.Cond.instantiable K kk).before a0 Z = true) (hty : parseFieldDescriptor d = some ty) (hnn : narrow ty v = v') (hf : fits ty v' = true) (g : n0 ≤ a)
    (hd : decode bytes pc = .ok (.putfield index, 3)) (hn : pc + 3 = n) (k : ∀ h', Wr h h' a (RoadKit.slotOf Z O nm d) v' → Go p l e R s m args below meth c n0 Q cells slots h' (mkF m n Ls (st))) : Go p l e R s m args below meth c n0 Q cells slots h (mkF m pc Ls (v :: .ref a :: st)) := fun T locs X N q => by
  subst hn
  obtain ⟨T', h', X', e', W, st'⟩ := putFN X C.x C.z C.own w via q F E (L.imp id fun r => ⟨r.1, r.2.1, C.nm.trans r.2.2⟩) wi hty hnn hf (g := mkF m pc Ls (v :: .ref a :: st)) rfl rfl (hb C.by hd)
  obtain ⟨t, o, s1, r⟩ := k h' W T' _ X' (Fr.snoc X' N g) e'
  exact ⟨t, o, st' t s1, r⟩
theorem G.new (C : Cx p s m meth c Z y bytes maxL ret) {K : String} {index ns c' s' : Nat} (w : (Jvm.Cond.classLink y.cls index K).before a0 Z = true) (wi : (Jvm.Cond.instantiable K ns).before a0 Z = true) (wz : (Jvm.Cond.initialized K).before a0 Z = true) (hd : decode bytes pc = .ok (.new index, 3)) (hn : pc + 3 = n) (hc' : cells + 1 = c') (hs' : slots + ns = s') (hc : c' ≤ R.cells) (hs : s' ≤ R.slots)
    (k : ∀ h' b, b = h.size → Ext h h' → Exa Z h' b K → (∀ {O nm d : String} {ty : FieldType}, Laid Z a0 K O nm d → parseFieldDescriptor d = some ty → Fld Z h' b O nm d (defaultValue ty)) → Go p l e R s m args below meth c n0 Q c' s' h' (mkF m n Ls (.ref b :: st))) : Go p l e R s m args below meth c n0 Q cells slots h (mkF m pc Ls (st)) := fun T locs X N q => by
  subst hn hc' hs'
  obtain ⟨T', h', X', e', E, A, D, -, st'⟩ := newO X C.x C.z C.own w wi wz q (g := mkF m pc Ls st) rfl (hb C.by hd) hc hs
  obtain ⟨t, o, s1, r⟩ := k h' _ rfl E A D T' _ X' N e'
  exact ⟨t, o, st' t s1, r⟩
theorem G.objinit (C : Cx p s m meth c Z y bytes maxL ret) {index W : Nat} (w1 : (Jvm.Cond.methodLink y.cls index Lib.objectInit).before a0 Z = true) (w2 : (Jvm.Cond.instanceMethod Lib.objectInit).before a0 Z = true) (w3 : (Jvm.Cond.code Lib.objectInit ⟨#[0xb1]⟩ 1 none).before a0 Z = true) {a : Addr} (hd : decode bytes pc = .ok (.invokespecial index, 3)) (hsz : Ls.size = maxL) (hf : 1 ≤ R.frames) (hW : (st.map fun v => v.category).sum = W) (hl : W + 12 ≤ R.locals) (hn : pc + 3 = n) (k : Go p l e R s m args below meth c n0 Q cells slots h (mkF m n Ls (st))) : Go p l e R s m args below meth c n0 Q cells slots h (mkF m pc Ls (.ref a :: st)) := fun T locs X N q => by
  subst hn hW
  obtain ⟨T', X', e', st'⟩ := initO X C.x C.z C.own w1 w2 w3 q (g := mkF m pc Ls (.ref a :: st)) rfl (hsz.trans C.ml.symm) rfl (hb C.by hd) hf (W := (st.map fun v => v.category).sum) (by show 2 * 0 + _ ≤ _; omega) hl
  obtain ⟨t, o, s1, r⟩ := k T' locs X' N e'
  exact ⟨t, o, st' t s1, r⟩
theorem G.callS (C : Cx p s m meth c Z y bytes maxL ret) {index W : Nat} {yc : MethodName} {bc : ByteArray} {mc : Nat} {rc : Option FieldType} {rm : Room} {c' s' : Nat} {Qc : Option Value → Heap → Prop} {ps : List FieldType} {argsL stk : List Value} (w1 : (Jvm.Cond.methodLink y.cls index yc).before a0 Z = true) (w2 : (Jvm.Cond.static yc).before a0 Z = true) (w3 : (Jvm.Cond.initialized yc.cls).before a0 Z = true) (w4 : (Jvm.Cond.code yc bc mc rc).before a0 Z = true) (hy : yc.cls ≠ "java/lang/invoke/MethodHandle" ∧ yc.cls ≠ "java/lang/invoke/VarHandle") (M : Met l Z yc bc mc rc rm argsL.toArray h n0 Qc) (hsz : Ls.size = maxL) (hf : rm.frames + 1 ≤ R.frames) (hW : (st.map fun v => v.category).sum = W) (hl : W + (mc + 11) + rm.locals ≤ R.locals) (hc' : cells + rm.cells = c') (hs' : slots + rm.slots = s') (hc : c' ≤ R.cells) (hs : s' ≤ R.slots) (hd : decode bytes pc = .ok (.invokestatic index, 3)) (hn : pc + 3 = n) (hlen : parseMethodDescriptor yc.desc = some ⟨ps, rc⟩) (hal : argsL.length = ps.length) (hst : stk = argsL.reverse ++ st) (k : ∀ v h', Qc v h' → Go p l e R s m args below meth c n0 Q c' s' h' (mkF m n Ls (v.toList ++ st))) : Go p l e R s m args below meth c n0 Q cells slots h (mkF m pc Ls (stk)) := fun T locs X N q => by
  subst hn hW hc' hs' hst
  obtain ⟨v, _, ⟨T', L', k', n''⟩, -, X', ⟨Lc, hQ, h1, h2, h3⟩, st'⟩ := Jvm.LawKit.callS X C.x (y := yc) C.own (mvT C.z w1) (mvT C.z w2) (mvT C.z w3) (mvT C.z w4) hy (backOf (W := (st.map fun v => v.category).sum) (Q := fun v h L => Fr n0 L ∧ Qc v h) (M []) C.z w4 w3 hf hl) (g := mkF m pc Ls (argsL.reverse ++ st)) rfl (hsz.trans C.ml.symm) (argsL := argsL) (rest := st) (lenOf hlen hal) rfl (by show 2 * 0 + _ ≤ _; omega) (hb C.by hd) (fun _ _ => ⟨rfl, q, hc, hs⟩)
  dsimp only [Pt.U, Pt.locs, Pt.cells, Pt.slots] at X' h1 h2 h3 st' hQ
  subst h1 h2 h3
  obtain ⟨t, o, s1, r⟩ := k v _ hQ.2 T' _ X' (Fr.app N hQ.1) rfl
  exact ⟨t, o, st' t s1, r⟩
theorem G.callC (C : Cx p s m meth c Z y bytes maxL ret) {index W : Nat} {yc : MethodName} {bc : ByteArray} {mc : Nat} {rm : Room} {c' s' : Nat} {Qc : Option Value → Heap → Prop} {ps : List FieldType} {argsL stk : List Value} {a : Addr} (hy1 : yc.name = "<init>") (w1 : (Jvm.Cond.methodLink y.cls index yc).before a0 Z = true) (w2 : (Jvm.Cond.instanceMethod yc).before a0 Z = true) (w3 : (Jvm.Cond.initialized yc.cls).before a0 Z = true) (w4 : (Jvm.Cond.code yc bc mc none).before a0 Z = true) (hy : yc.cls ≠ "java/lang/invoke/MethodHandle" ∧ yc.cls ≠ "java/lang/invoke/VarHandle") (M : Met l Z yc bc mc none rm (.ref a :: argsL).toArray h n0 Qc) (hsz : Ls.size = maxL) (hf : rm.frames + 1 ≤ R.frames) (hW : (st.map fun v => v.category).sum = W) (hl : W + (mc + 11) + rm.locals ≤ R.locals) (hc' : cells + rm.cells = c') (hs' : slots + rm.slots = s') (hc : c' ≤ R.cells) (hs : s' ≤ R.slots) (hd : decode bytes pc = .ok (.invokespecial index, 3)) (hn : pc + 3 = n) (hlen : parseMethodDescriptor yc.desc = some ⟨ps, none⟩) (hal : argsL.length = ps.length) (hst : stk = argsL.reverse ++ .ref a :: st) (k : ∀ v h', Qc v h' → Go p l e R s m args below meth c n0 Q c' s' h' (mkF m n Ls (v.toList ++ st))) : Go p l e R s m args below meth c n0 Q cells slots h (mkF m pc Ls (stk)) := fun T locs X N q => by
  subst hn hW hc' hs' hst
  obtain ⟨v, _, ⟨T', L', k', n''⟩, -, X', ⟨Lc, hQ, h1, h2, h3⟩, st'⟩ := X.specialBack C.x (y := yc) hy1 C.own (mvT C.z w1) (mvT C.z w2) (mvT C.z w4) hy (backOf (W := (st.map fun v => v.category).sum) (Q := fun v h L => Fr n0 L ∧ Qc v h) (M []) C.z w4 w3 hf hl) (g := mkF m pc Ls (argsL.reverse ++ .ref a :: st)) rfl (hsz.trans C.ml.symm) (Steps.refl _) (a := a) (argsL := argsL) (rest := st) (lenOf hlen hal) rfl (by show 2 * 0 + _ ≤ _; omega) (hb C.by hd) (fun _ _ => ⟨rfl, q, hc, hs⟩)
  dsimp only [Pt.U, Pt.locs, Pt.cells, Pt.slots] at X' h1 h2 h3 st' hQ
  subst h1 h2 h3
  obtain ⟨t, o, s1, r⟩ := k v _ hQ.2 T' _ X' (Fr.app N hQ.1) rfl
  exact ⟨t, o, st'.trans s1, r⟩
theorem G.callV (C : Cx p s m meth c Z y bytes maxL ret) {index W : Nat} {yc : MethodName} {bc : ByteArray} {mc : Nat} {rc : Option FieldType} {rm : Room} {c' s' : Nat} {Qc : Option Value → Heap → Prop} {ps : List FieldType} {K : String} {yr : MethodName} {argsL stk : List Value} {a : Addr} (E : Exa Z h a K) (w1 : (Jvm.Cond.methodLink y.cls index yr).before a0 Z = true) (w5 : (Jvm.Cond.declares yr).before a0 Z = true) (hnf : ∀ s : State, Z.Warmed39 s.vm → NotFace s yr) (w6 : (Jvm.Cond.selects K yr yc).before a0 Z = true) (w2 : (Jvm.Cond.instanceMethod yc).before a0 Z = true) (w3 : (Jvm.Cond.initialized yc.cls).before a0 Z = true) (w4 : (Jvm.Cond.code yc bc mc rc).before a0 Z = true) (hy : yr.cls ≠ "java/lang/invoke/MethodHandle" ∧ yr.cls ≠ "java/lang/invoke/VarHandle") (M : Met l Z yc bc mc rc rm (.ref a :: argsL).toArray h n0 Qc) (hsz : Ls.size = maxL) (hf : rm.frames + 1 ≤ R.frames) (hW : (st.map fun v => v.category).sum = W) (hl : W + (mc + 11) + rm.locals ≤ R.locals) (hc' : cells + rm.cells = c') (hs' : slots + rm.slots = s') (hc : c' ≤ R.cells) (hs : s' ≤ R.slots) (hd : decode bytes pc = .ok (.invokevirtual index, 3)) (hn : pc + 3 = n) (hlen : parseMethodDescriptor yr.desc = some ⟨ps, rc⟩) (hal : argsL.length = ps.length) (hst : stk = argsL.reverse ++ .ref a :: st) (k : ∀ v h', Qc v h' → Go p l e R s m args below meth c n0 Q c' s' h' (mkF m n Ls (v.toList ++ st))) : Go p l e R s m args below meth c n0 Q cells slots h (mkF m pc Ls (stk)) := fun T locs X N q => by
  subst hn hW hc' hs' hst
  obtain ⟨cq, kq, qa, qb, qc⟩ := isOf C.z q E
  obtain ⟨v, _, ⟨T', L', k', n''⟩, -, X', ⟨Lc, hQ, h1, h2, h3⟩, st'⟩ := X.virtualBack C.x (y := yr) (z := yc) C.own (mvT C.z w1) (mvT C.z w5) (hnf s C.z) (mvT C.z w6) (mvT C.z w2) hy (backOf (W := (st.map fun v => v.category).sum) (Q := fun v h L => Fr n0 L ∧ Qc v h) (M []) C.z w4 w3 hf hl) qa qc (g := mkF m pc Ls (argsL.reverse ++ .ref a :: st)) rfl (hsz.trans C.ml.symm) (Steps.refl _) (argsL := argsL) (rest := st) (lenOf hlen hal) rfl (by show 2 * 0 + _ ≤ _; omega) (hb C.by hd) (fun _ _ => ⟨rfl, q, hc, hs⟩)
  dsimp only [Pt.U, Pt.locs, Pt.cells, Pt.slots] at X' h1 h2 h3 st' hQ
  subst h1 h2 h3
  obtain ⟨t, o, s1, r⟩ := k v _ hQ.2 T' _ X' (Fr.app N hQ.1) rfl
  exact ⟨t, o, st'.trans s1, r⟩
theorem nfS {yr : MethodName} {K : String} {z : MethodName} (w6 : (Jvm.Cond.selects K yr z).before a0 Z = true) (hz : z = yr) : ∀ s : State, Z.Warmed39 s.vm → NotFace s yr := fun s hZ => by
  subst hz
  exact notFace_of_selects (args := #[]) (mvT hZ w6)
def Ints (Z : State) (h : Heap) (a : Addr) (ty : FieldType) (vs : List Int32) : Prop := ∃ k z, Arv Z h a k ty z (vs.map Value.int) (.int 0) ∧ z.toInt = vs.length
def Longs (Z : State) (h : Heap) (a : Addr) (vs : List Int64) : Prop := ∃ k z, Arv Z h a k .long z (vs.map Value.long) (.long 0) ∧ z.toInt = vs.length
theorem nat_clamp {j : Int32} : j.toNatClampNeg = j.toInt.toNat := rfl
theorem not_neg {j : Int32} (hj : 0 ≤ j.toInt) : ¬ j < 0 := by rw [lt_i]; exact Int.not_lt.mpr hj
theorem of_not_neg {j : Int32} (hj : ¬ j < 0) : 0 ≤ j.toInt := by rw [lt_i] at hj; exact Int.not_lt.mp hj
theorem inb {j z : Int32} {cl : Cell} {len : Nat} (hj : 0 ≤ j.toInt) (S : cl.slots.size = z.toNatClampNeg) (hz : z.toInt = len) (hl : j.toInt.toNat < len) : ¬ (j < 0 ∨ cl.slots.size ≤ j.toNatClampNeg) := by
  rintro (q | q)
  · exact not_neg hj q
  · rw [S, nat_clamp, nat_clamp, hz] at q; omega
theorem getD_map {α : Type} (f : α → Value) (vs : List α) (i : Nat) (d : Value) {x : α} (hx : vs[i]? = some x) : (vs.map f).getD i d = f x := by
  rw [List.getD_eq_getElem?_getD, List.getElem?_map, hx]; rfl
theorem lt_of_some {α : Type} {vs : List α} {i : Nat} {x : α} (hx : vs[i]? = some x) : i < vs.length := (List.getElem?_eq_some_iff.mp hx).1
theorem Ints.lt {a : Addr} {ty : FieldType} {vs : List Int32} (F : Ints Z h a ty vs) : a < h.size := by obtain ⟨k, z, A, -⟩ := F; exact A.lt
theorem Ints.ext {h' : Heap} {a : Addr} {ty : FieldType} {vs : List Int32} (F : Ints Z h a ty vs) (E : Ext h h') : Ints Z h' a ty vs := by obtain ⟨k, z, A, q⟩ := F; exact ⟨k, z, A.ext E, q⟩
theorem Ints.keep {h' : Heap} {ws : List Addr} {a : Addr} {ty : FieldType} {vs : List Int32} (F : Ints Z h a ty vs) (K : Keep h h' ws) (r : a ∉ ws) : Ints Z h' a ty vs := by obtain ⟨k, z, A, q⟩ := F; exact ⟨k, z, A.keep K r, q⟩
theorem Ints.other {h' : Heap} {sl : Nat} {v : Value} {a b : Addr} {ty : FieldType} {vs : List Int32} (F : Ints Z h a ty vs) (W : Wr h h' b sl v) (r : a ≠ b) : Ints Z h' a ty vs := by obtain ⟨k, z, A, q⟩ := F; exact ⟨k, z, A.other W r, q⟩
theorem Ints.len {a : Addr} {ty : FieldType} {vs : List Int32} (F : Ints Z h a ty vs) : (vs.length : Int) < 2147483648 := by obtain ⟨k, z, A, q⟩ := F; rw [← q]; exact (rng32 z).2
theorem Ints.at {a : Addr} {ty : FieldType} {vs : List Int32} (F : Ints Z h a ty vs) {j : Int32} {x : Int32} (hj : 0 ≤ j.toInt) (hx : vs[j.toInt.toNat]? = some x) : ∃ cl, Arr Z h a cl ty ∧ ¬ (j < 0 ∨ cl.slots.size ≤ j.toNatClampNeg) ∧ cl.slots[j.toNatClampNeg]? = some (.int x) ∧ fits ty (.int x) = true := by
  obtain ⟨k, z, ⟨cl, A, q1, S, N, H, G⟩, hz⟩ := F
  have hi := inb hj S hz (lt_of_some hx)
  have hi2 : j.toNatClampNeg < cl.slots.size := Nat.lt_of_not_le fun y => hi (Or.inr y)
  have e1 := H _ hi2
  have e2 := G _ hi2
  rw [nat_clamp, getD_map _ _ _ _ hx] at e1 e2
  exact ⟨cl, A, hi, e1, e2⟩
theorem Ints.put {h' : Heap} {a : Addr} {ty : FieldType} {vs : List Int32} (F : Ints Z h a ty vs) {j : Int32} {x : Int32} (hj : 0 ≤ j.toInt) (hl : j.toInt < vs.length) (hf : fits ty (.int x) = true) : ∃ cl, Arr Z h a cl ty ∧ ¬ (j < 0 ∨ cl.slots.size ≤ j.toNatClampNeg) ∧ (Wr h h' a j.toNatClampNeg (.int x) → Ints Z h' a ty (vs.set j.toInt.toNat x)) := by
  obtain ⟨k, z, ⟨cl, A, q1, S, N, H, G⟩, hz⟩ := F
  have hl2 : j.toInt.toNat < vs.length := by omega
  refine ⟨cl, A, inb hj S hz hl2, fun W => ⟨k, z, ?_, ?_⟩⟩
  · have r := Arv.set A q1 S N H G hf W j.toInt.toNat rfl (by rw [List.length_map]; exact hl2)
    rw [List.map_set]; exact r
  · rw [List.length_set]; exact hz
theorem Longs.lt {a : Addr} {vs : List Int64} (F : Longs Z h a vs) : a < h.size := by obtain ⟨k, z, A, -⟩ := F; exact A.lt
theorem Longs.ext {h' : Heap} {a : Addr} {vs : List Int64} (F : Longs Z h a vs) (E : Ext h h') : Longs Z h' a vs := by obtain ⟨k, z, A, q⟩ := F; exact ⟨k, z, A.ext E, q⟩
theorem Longs.keep {h' : Heap} {ws : List Addr} {a : Addr} {vs : List Int64} (F : Longs Z h a vs) (K : Keep h h' ws) (r : a ∉ ws) : Longs Z h' a vs := by obtain ⟨k, z, A, q⟩ := F; exact ⟨k, z, A.keep K r, q⟩
theorem Longs.other {h' : Heap} {sl : Nat} {v : Value} {a b : Addr} {vs : List Int64} (F : Longs Z h a vs) (W : Wr h h' b sl v) (r : a ≠ b) : Longs Z h' a vs := by obtain ⟨k, z, A, q⟩ := F; exact ⟨k, z, A.other W r, q⟩
theorem Longs.len {a : Addr} {vs : List Int64} (F : Longs Z h a vs) : (vs.length : Int) < 2147483648 := by obtain ⟨k, z, A, q⟩ := F; rw [← q]; exact (rng32 z).2
theorem Longs.at {a : Addr} {vs : List Int64} (F : Longs Z h a vs) {j : Int32} {x : Int64} (hj : 0 ≤ j.toInt) (hx : vs[j.toInt.toNat]? = some x) : ∃ cl, Arr Z h a cl .long ∧ ¬ (j < 0 ∨ cl.slots.size ≤ j.toNatClampNeg) ∧ cl.slots[j.toNatClampNeg]? = some (.long x) ∧ fits .long (.long x) = true := by
  obtain ⟨k, z, ⟨cl, A, q1, S, N, H, G⟩, hz⟩ := F
  have hi := inb hj S hz (lt_of_some hx)
  have hi2 : j.toNatClampNeg < cl.slots.size := Nat.lt_of_not_le fun y => hi (Or.inr y)
  have e1 := H _ hi2
  have e2 := G _ hi2
  rw [nat_clamp, getD_map _ _ _ _ hx] at e1 e2
  exact ⟨cl, A, hi, e1, e2⟩
theorem Longs.put {h' : Heap} {a : Addr} {vs : List Int64} (F : Longs Z h a vs) {j : Int32} {x : Int64} (hj : 0 ≤ j.toInt) (hl : j.toInt < vs.length) (hf : fits .long (.long x) = true) : ∃ cl, Arr Z h a cl .long ∧ ¬ (j < 0 ∨ cl.slots.size ≤ j.toNatClampNeg) ∧ (Wr h h' a j.toNatClampNeg (.long x) → Longs Z h' a (vs.set j.toInt.toNat x)) := by
  obtain ⟨k, z, ⟨cl, A, q1, S, N, H, G⟩, hz⟩ := F
  have hl2 : j.toInt.toNat < vs.length := by omega
  refine ⟨cl, A, inb hj S hz hl2, fun W => ⟨k, z, ?_, ?_⟩⟩
  · have r := Arv.set A q1 S N H G hf W j.toInt.toNat rfl (by rw [List.length_map]; exact hl2)
    rw [List.map_set]; exact r
  · rw [List.length_set]; exact hz
theorem G.iaload (C : Cx p s m meth c Z y bytes maxL ret) {a : Addr} {j : Int32} {x : Int32} {vs : List Int32} (F : Ints Z h a .int vs) (hj : 0 ≤ j.toInt) (hx : vs[j.toInt.toNat]? = some x) (hd : decode bytes pc = .ok (.iaload, 1)) (hn : pc + 1 = n) (k : Go p l e R s m args below meth c n0 Q cells slots h (mkF m n Ls (.int x :: st))) : Go p l e R s m args below meth c n0 Q cells slots h (mkF m pc Ls (.int j :: .ref a :: st)) := by
  subst hn
  obtain ⟨cl, A, h1, h2, -⟩ := F.at hj hx
  exact Go.via (fun T locs X q t r => X.iaload C.x (j := j) (v := .int x) (by rw [q]; exact A.1) (State.isArrayOf_alike C.z.alike A.2.1) A.2.2 h1 h2 (g := mkF m pc Ls (.int j :: .ref a :: st)) rfl rfl (hb C.by hd) t r) k
theorem G.laload (C : Cx p s m meth c Z y bytes maxL ret) {a : Addr} {j : Int32} {x : Int64} {vs : List Int64} (F : Longs Z h a vs) (hj : 0 ≤ j.toInt) (hx : vs[j.toInt.toNat]? = some x) (hd : decode bytes pc = .ok (.laload, 1)) (hn : pc + 1 = n) (k : Go p l e R s m args below meth c n0 Q cells slots h (mkF m n Ls (.long x :: st))) : Go p l e R s m args below meth c n0 Q cells slots h (mkF m pc Ls (.int j :: .ref a :: st)) := by
  subst hn
  obtain ⟨cl, A, h1, h2, -⟩ := F.at hj hx
  exact Go.via (fun T locs X q t r => X.laload C.x (j := j) (v := .long x) (by rw [q]; exact A.1) (State.isArrayOf_alike C.z.alike A.2.1) A.2.2 h1 h2 (g := mkF m pc Ls (.int j :: .ref a :: st)) rfl rfl (hb C.by hd) t r) k
theorem G.caload (C : Cx p s m meth c Z y bytes maxL ret) {a : Addr} {j : Int32} {x : Int32} {vs : List Int32} (F : Ints Z h a .char vs) (hj : 0 ≤ j.toInt) (hx : vs[j.toInt.toNat]? = some x) (hd : decode bytes pc = .ok (.caload, 1)) (hn : pc + 1 = n) (k : Go p l e R s m args below meth c n0 Q cells slots h (mkF m n Ls (.int x :: st))) : Go p l e R s m args below meth c n0 Q cells slots h (mkF m pc Ls (.int j :: .ref a :: st)) := by
  subst hn
  obtain ⟨cl, A, h1, h2, -⟩ := F.at hj hx
  exact Go.via (fun T locs X q t r => X.caload C.x (j := j) (v := .int x) (by rw [q]; exact A.1) (State.isArrayOf_alike C.z.alike A.2.1) A.2.2 h1 h2 (g := mkF m pc Ls (.int j :: .ref a :: st)) rfl rfl (hb C.by hd) t r) k
theorem G.baload (C : Cx p s m meth c Z y bytes maxL ret) {a : Addr} {j : Int32} {x : Int32} {vs : List Int32} (F : Ints Z h a .byte vs) (hj : 0 ≤ j.toInt) (hx : vs[j.toInt.toNat]? = some x) (hd : decode bytes pc = .ok (.baload, 1)) (hn : pc + 1 = n) (k : Go p l e R s m args below meth c n0 Q cells slots h (mkF m n Ls (.int x :: st))) : Go p l e R s m args below meth c n0 Q cells slots h (mkF m pc Ls (.int j :: .ref a :: st)) := by
  subst hn
  obtain ⟨cl, A, h1, h2, -⟩ := F.at hj hx
  exact Go.via (fun T locs X q t r => X.baloadBytes C.x (j := j) (v := .int x) (by rw [q]; exact A.1) (State.isArrayOf_alike C.z.alike A.2.1) A.2.2 h1 h2 (g := mkF m pc Ls (.int j :: .ref a :: st)) rfl rfl (hb C.by hd) t r) k
theorem G.baloadZ (C : Cx p s m meth c Z y bytes maxL ret) {a : Addr} {j : Int32} {x : Int32} {vs : List Int32} (F : Ints Z h a .boolean vs) (hj : 0 ≤ j.toInt) (hx : vs[j.toInt.toNat]? = some x) (hd : decode bytes pc = .ok (.baload, 1)) (hn : pc + 1 = n) (k : Go p l e R s m args below meth c n0 Q cells slots h (mkF m n Ls (.int x :: st))) : Go p l e R s m args below meth c n0 Q cells slots h (mkF m pc Ls (.int j :: .ref a :: st)) := by
  subst hn
  obtain ⟨cl, A, h1, h2, -⟩ := F.at hj hx
  exact Go.via (fun T locs X q t r => X.baloadBooleans C.x (j := j) (v := .int x) (by rw [q]; exact A.1) (State.isArrayOf_alike C.z.alike A.2.1) A.2.2 h1 h2 (g := mkF m pc Ls (.int j :: .ref a :: st)) rfl rfl (hb C.by hd) t r) k
theorem G.iastore (C : Cx p s m meth c Z y bytes maxL ret) {a : Addr} {j : Int32} {x : Int32} {vs : List Int32} (F : Ints Z h a .int vs) (hj : 0 ≤ j.toInt) (hl : j.toInt < vs.length) (g : n0 ≤ a) (hd : decode bytes pc = .ok (.iastore, 1)) (hn : pc + 1 = n) (k : ∀ h', Keep h h' [a] → (∃ w, Wr h h' a j.toNatClampNeg w) → Ints Z h' a .int (vs.set j.toInt.toNat x) → Go p l e R s m args below meth c n0 Q cells slots h' (mkF m n Ls (st))) : Go p l e R s m args below meth c n0 Q cells slots h (mkF m pc Ls (.int x :: .int j :: .ref a :: st)) := fun T locs X N q => by
  subst hn
  obtain ⟨cl, A, h1, -⟩ := F.put (h' := h) hj hl (x := x) rfl
  obtain ⟨T', h', X', e', W, st'⟩ := stI X C.x C.z q A (j := j) h1 (g := mkF m pc Ls (.int x :: .int j :: .ref a :: st)) rfl rfl (hb C.by hd)
  obtain ⟨cl2, A2, -, h3⟩ := F.put (h' := h') hj hl (x := x) rfl
  obtain ⟨t, o, s1, r⟩ := k h' (Keep.of_wr W) ⟨_, W⟩ (h3 W) T' _ X' (Fr.snoc X' N g) e'
  exact ⟨t, o, st' t s1, r⟩
theorem G.lastore (C : Cx p s m meth c Z y bytes maxL ret) {a : Addr} {j : Int32} {x : Int64} {vs : List Int64} (F : Longs Z h a vs) (hj : 0 ≤ j.toInt) (hl : j.toInt < vs.length) (g : n0 ≤ a) (hd : decode bytes pc = .ok (.lastore, 1)) (hn : pc + 1 = n) (k : ∀ h', Keep h h' [a] → (∃ w, Wr h h' a j.toNatClampNeg w) → Longs Z h' a (vs.set j.toInt.toNat x) → Go p l e R s m args below meth c n0 Q cells slots h' (mkF m n Ls (st))) : Go p l e R s m args below meth c n0 Q cells slots h (mkF m pc Ls (.long x :: .int j :: .ref a :: st)) := fun T locs X N q => by
  subst hn
  obtain ⟨cl, A, h1, -⟩ := F.put (h' := h) hj hl (x := x) rfl
  obtain ⟨T', h', X', e', W, st'⟩ := stJ X C.x C.z q A (j := j) h1 (g := mkF m pc Ls (.long x :: .int j :: .ref a :: st)) rfl rfl (hb C.by hd)
  obtain ⟨cl2, A2, -, h3⟩ := F.put (h' := h') hj hl (x := x) rfl
  obtain ⟨t, o, s1, r⟩ := k h' (Keep.of_wr W) ⟨_, W⟩ (h3 W) T' _ X' (Fr.snoc X' N g) e'
  exact ⟨t, o, st' t s1, r⟩
theorem G.castore (C : Cx p s m meth c Z y bytes maxL ret) {a : Addr} {j : Int32} {x : Int32} {vs : List Int32} (F : Ints Z h a .char vs) (hj : 0 ≤ j.toInt) (hl : j.toInt < vs.length) (g : n0 ≤ a) (hd : decode bytes pc = .ok (.castore, 1)) (hn : pc + 1 = n) (k : ∀ h', Keep h h' [a] → (∃ w, Wr h h' a j.toNatClampNeg w) → Ints Z h' a .char (vs.set j.toInt.toNat (nar .char x)) → Go p l e R s m args below meth c n0 Q cells slots h' (mkF m n Ls (st))) : Go p l e R s m args below meth c n0 Q cells slots h (mkF m pc Ls (.int x :: .int j :: .ref a :: st)) := fun T locs X N q => by
  subst hn
  obtain ⟨cl, A, h1, -⟩ := F.put (h' := h) hj hl (x := (nar .char x)) (fits_nar_char x)
  obtain ⟨T', h', X', e', W, st'⟩ := stC X C.x C.z q A (j := j) h1 (g := mkF m pc Ls (.int x :: .int j :: .ref a :: st)) rfl rfl (hb C.by hd)
  obtain ⟨cl2, A2, -, h3⟩ := F.put (h' := h') hj hl (x := (nar .char x)) (fits_nar_char x)
  obtain ⟨t, o, s1, r⟩ := k h' (Keep.of_wr W) ⟨_, W⟩ (h3 W) T' _ X' (Fr.snoc X' N g) e'
  exact ⟨t, o, st' t s1, r⟩
theorem G.bastore (C : Cx p s m meth c Z y bytes maxL ret) {a : Addr} {j : Int32} {x : Int32} {vs : List Int32} (F : Ints Z h a .byte vs) (hj : 0 ≤ j.toInt) (hl : j.toInt < vs.length) (g : n0 ≤ a) (hd : decode bytes pc = .ok (.bastore, 1)) (hn : pc + 1 = n) (k : ∀ h', Keep h h' [a] → (∃ w, Wr h h' a j.toNatClampNeg w) → Ints Z h' a .byte (vs.set j.toInt.toNat (nar .byte x)) → Go p l e R s m args below meth c n0 Q cells slots h' (mkF m n Ls (st))) : Go p l e R s m args below meth c n0 Q cells slots h (mkF m pc Ls (.int x :: .int j :: .ref a :: st)) := fun T locs X N q => by
  subst hn
  obtain ⟨cl, A, h1, -⟩ := F.put (h' := h) hj hl (x := (nar .byte x)) (fits_nar_byte x)
  obtain ⟨T', h', X', e', W, st'⟩ := stB X C.x C.z q A (j := j) h1 (g := mkF m pc Ls (.int x :: .int j :: .ref a :: st)) rfl rfl (hb C.by hd)
  obtain ⟨cl2, A2, -, h3⟩ := F.put (h' := h') hj hl (x := (nar .byte x)) (fits_nar_byte x)
  obtain ⟨t, o, s1, r⟩ := k h' (Keep.of_wr W) ⟨_, W⟩ (h3 W) T' _ X' (Fr.snoc X' N g) e'
  exact ⟨t, o, st' t s1, r⟩
theorem G.bastoreZ (C : Cx p s m meth c Z y bytes maxL ret) {a : Addr} {j : Int32} {x : Int32} {vs : List Int32} (F : Ints Z h a .boolean vs) (hj : 0 ≤ j.toInt) (hl : j.toInt < vs.length) (g : n0 ≤ a) (hd : decode bytes pc = .ok (.bastore, 1)) (hn : pc + 1 = n) (k : ∀ h', Keep h h' [a] → (∃ w, Wr h h' a j.toNatClampNeg w) → Ints Z h' a .boolean (vs.set j.toInt.toNat (nar .boolean x)) → Go p l e R s m args below meth c n0 Q cells slots h' (mkF m n Ls (st))) : Go p l e R s m args below meth c n0 Q cells slots h (mkF m pc Ls (.int x :: .int j :: .ref a :: st)) := fun T locs X N q => by
  subst hn
  obtain ⟨cl, A, h1, -⟩ := F.put (h' := h) hj hl (x := (nar .boolean x)) (fits_nar_bool x)
  obtain ⟨T', h', X', e', W, st'⟩ := stZ X C.x C.z q A (j := j) h1 (g := mkF m pc Ls (.int x :: .int j :: .ref a :: st)) rfl rfl (hb C.by hd)
  obtain ⟨cl2, A2, -, h3⟩ := F.put (h' := h') hj hl (x := (nar .boolean x)) (fits_nar_bool x)
  obtain ⟨t, o, s1, r⟩ := k h' (Keep.of_wr W) ⟨_, W⟩ (h3 W) T' _ X' (Fr.snoc X' N g) e'
  exact ⟨t, o, st' t s1, r⟩
theorem len32 {z : Int32} {k : Nat} (hz : z.toInt = k) : z = Int32.ofNat k := by
  have h2 := (rng32 z).2
  exact Int32.toInt_inj.mp (by rw [Int32.toInt_ofNat_of_lt (by omega)]; exact hz)
theorem G.arraylengthI (C : Cx p s m meth c Z y bytes maxL ret) {a : Addr} {ty : FieldType} {vs : List Int32} {len : Int32} (F : Ints Z h a ty vs) (hlen : len.toInt = vs.length) (hd : decode bytes pc = .ok (.arraylength, 1)) (hn : pc + 1 = n) (k : Go p l e R s m args below meth c n0 Q cells slots h (mkF m n Ls (.int len :: st))) : Go p l e R s m args below meth c n0 Q cells slots h (mkF m pc Ls (.ref a :: st)) := by
  subst hn
  obtain ⟨k', z, ⟨cl, A, q1, S, N, H, G⟩, hz⟩ := F
  have e1 : cl.slots.size.toInt32 = len := (len_of S N).trans (Int32.toInt_inj.mp (hz.trans hlen.symm))
  exact Go.via (fun T locs X q t r => X.arraylength C.x (by rw [q]; exact A.1) (State.isArrayOf_alike C.z.alike A.2.1) (g := mkF m pc Ls (.ref a :: st)) rfl rfl (hb C.by hd) t (by rw [e1]; exact r)) k
theorem G.arraylengthL (C : Cx p s m meth c Z y bytes maxL ret) {a : Addr} {vs : List Int64} {len : Int32} (F : Longs Z h a vs) (hlen : len.toInt = vs.length) (hd : decode bytes pc = .ok (.arraylength, 1)) (hn : pc + 1 = n) (k : Go p l e R s m args below meth c n0 Q cells slots h (mkF m n Ls (.int len :: st))) : Go p l e R s m args below meth c n0 Q cells slots h (mkF m pc Ls (.ref a :: st)) := by
  subst hn
  obtain ⟨k', z, ⟨cl, A, q1, S, N, H, G⟩, hz⟩ := F
  have e1 : cl.slots.size.toInt32 = len := (len_of S N).trans (Int32.toInt_inj.mp (hz.trans hlen.symm))
  exact Go.via (fun T locs X q t r => X.arraylength C.x (by rw [q]; exact A.1) (State.isArrayOf_alike C.z.alike A.2.1) (g := mkF m pc Ls (.ref a :: st)) rfl rfl (hb C.by hd) t (by rw [e1]; exact r)) k
theorem G.newarray (C : Cx p s m meth c Z y bytes maxL ret) {aty : ArrayType} {ty : FieldType} {len : Int32} {cap c' s' : Nat} (w : (Jvm.Cond.arrayClass ty).before a0 Z = true) (hty : newarray.typeOf aty = ty) (hdv : defaultValue ty = .int 0) (hlen : 0 ≤ len.toInt) (hcap : len.toInt ≤ cap) (hbig : cap * 8 ≤ 536870912) (hd : decode bytes pc = .ok (.newarray aty, 2)) (hn : pc + 2 = n) (hc' : cells + 1 = c') (hs' : slots + cap = s') (hc : c' ≤ R.cells) (hs : s' ≤ R.slots)
    (k : ∀ h' b, b = h.size → Ext h h' → Ints Z h' b ty (List.replicate len.toInt.toNat 0) → Go p l e R s m args below meth c n0 Q c' s' h' (mkF m n Ls (.ref b :: st))) : Go p l e R s m args below meth c n0 Q cells slots h (mkF m pc Ls (.int len :: st)) := fun T locs X N q => by
  subst hn hc' hs' hty
  obtain ⟨T', h', cA, X', e', E, A, st'⟩ := newP X C.x C.z w q (g := mkF m pc Ls (.int len :: st)) rfl (hb C.by hd) rfl (not_neg hlen) (cap := cap) (by rw [nat_clamp]; omega) hbig hc hs
  have V := (Arv.new A (not_neg hlen))
  rw [hdv] at V
  have V2 := V.pad (pad_rep [] _ len.toInt.toNat)
  rw [List.nil_append, ← List.map_replicate (f := Value.int)] at V2
  obtain ⟨t, o, s1, r⟩ := k h' _ rfl E ⟨cA, len, V2, by rw [List.length_replicate]; omega⟩ T' _ X' N e'
  exact ⟨t, o, st' t s1, r⟩
theorem G.newarrayJ (C : Cx p s m meth c Z y bytes maxL ret) {aty : ArrayType} {ty : FieldType} {len : Int32} {cap c' s' : Nat} (w : (Jvm.Cond.arrayClass ty).before a0 Z = true) (hty : newarray.typeOf aty = ty) (hdv : defaultValue ty = .long 0) (hJ : ty = .long) (hlen : 0 ≤ len.toInt) (hcap : len.toInt ≤ cap) (hbig : cap * 8 ≤ 536870912) (hd : decode bytes pc = .ok (.newarray aty, 2)) (hn : pc + 2 = n) (hc' : cells + 1 = c') (hs' : slots + cap = s') (hc : c' ≤ R.cells) (hs : s' ≤ R.slots)
    (k : ∀ h' b, b = h.size → Ext h h' → Longs Z h' b (List.replicate len.toInt.toNat 0) → Go p l e R s m args below meth c n0 Q c' s' h' (mkF m n Ls (.ref b :: st))) : Go p l e R s m args below meth c n0 Q cells slots h (mkF m pc Ls (.int len :: st)) := fun T locs X N q => by
  subst hn hc' hs' hty
  obtain ⟨T', h', cA, X', e', E, A, st'⟩ := newP X C.x C.z w q (g := mkF m pc Ls (.int len :: st)) rfl (hb C.by hd) rfl (not_neg hlen) (cap := cap) (by rw [nat_clamp]; omega) hbig hc hs
  have V := (Arv.new A (not_neg hlen))
  rw [hdv] at V
  have V2 := V.pad (pad_rep [] _ len.toInt.toNat)
  rw [List.nil_append, ← List.map_replicate (f := Value.long), hJ] at V2
  obtain ⟨t, o, s1, r⟩ := k h' _ rfl E ⟨cA, len, V2, by rw [List.length_replicate]; omega⟩ T' _ X' N e'
  exact ⟨t, o, st' t s1, r⟩
theorem getD_at {α : Type} {vs : List α} {i : Nat} {d : α} (h : i < vs.length) : vs[i]? = some (vs.getD i d) := by
  rw [List.getD_eq_getElem?_getD, List.getElem?_eq_getElem h]; rfl
theorem kext {h' : Heap} (E : Ext h h') : Keep h h' [] := (Keep.refl h []).ext E
theorem Keep.tr {h' h'' : Heap} {ws ws' : List Addr} (K : Keep h h' ws) (K' : Keep h' h'' ws') (q : ∀ x ∈ ws', x ∈ ws ∨ h.size ≤ x) : Keep h h'' ws := K.trans K' q
end
end Jvm.Own
namespace Jvm.Pilot.@@N@@
open Jvm Jvm.ClassFile Sem Op Lib Jvm.Free Jvm.Stand Jvm.LawKit Jvm.RoadKit Jvm.Own Bundle Jvm.Pilot.@@N@@.Jvm.D
theorem d1_0 : decode method_2_code 0 = .ok (.bipush 9, 2) := by decide +kernel
theorem d1_2 : decode method_2_code 2 = .ok (.newarray .long, 2) := by decide +kernel
theorem d1_4 : decode method_2_code 4 = .ok (.dup, 1) := by decide +kernel
theorem d1_5 : decode method_2_code 5 = .ok (.iconst 0, 1) := by decide +kernel
theorem d1_6 : decode method_2_code 6 = .ok (.lload_n 0, 1) := by decide +kernel
theorem d1_7 : decode method_2_code 7 = .ok (.lastore, 1) := by decide +kernel
theorem d1_8 : decode method_2_code 8 = .ok (.dup, 1) := by decide +kernel
theorem d1_9 : decode method_2_code 9 = .ok (.iconst 1, 1) := by decide +kernel
theorem d1_10 : decode method_2_code 10 = .ok (.lload_n 2, 1) := by decide +kernel
theorem d1_11 : decode method_2_code 11 = .ok (.lastore, 1) := by decide +kernel
theorem d1_12 : decode method_2_code 12 = .ok (.dup, 1) := by decide +kernel
theorem d1_13 : decode method_2_code 13 = .ok (.iconst 2, 1) := by decide +kernel
theorem d1_14 : decode method_2_code 14 = .ok (.lload_n 0, 1) := by decide +kernel
theorem d1_15 : decode method_2_code 15 = .ok (.lload_n 2, 1) := by decide +kernel
theorem d1_16 : decode method_2_code 16 = .ok (.lxor, 1) := by decide +kernel
theorem d1_17 : decode method_2_code 17 = .ok (.lastore, 1) := by decide +kernel
theorem d1_18 : decode method_2_code 18 = .ok (.dup, 1) := by decide +kernel
theorem d1_19 : decode method_2_code 19 = .ok (.iconst 3, 1) := by decide +kernel
theorem d1_20 : decode method_2_code 20 = .ok (.lload_n 0, 1) := by decide +kernel
theorem d1_21 : decode method_2_code 21 = .ok (.lload_n 2, 1) := by decide +kernel
theorem d1_22 : decode method_2_code 22 = .ok (.ladd, 1) := by decide +kernel
theorem d1_23 : decode method_2_code 23 = .ok (.lastore, 1) := by decide +kernel
theorem d1_24 : decode method_2_code 24 = .ok (.dup, 1) := by decide +kernel
theorem d1_25 : decode method_2_code 25 = .ok (.iconst 4, 1) := by decide +kernel
theorem d1_26 : decode method_2_code 26 = .ok (.lload_n 0, 1) := by decide +kernel
theorem d1_27 : decode method_2_code 27 = .ok (.ldc2_w 7, 3) := by decide +kernel
theorem d1_30 : decode method_2_code 30 = .ok (.lxor, 1) := by decide +kernel
theorem d1_31 : decode method_2_code 31 = .ok (.lastore, 1) := by decide +kernel
theorem d1_32 : decode method_2_code 32 = .ok (.dup, 1) := by decide +kernel
theorem d1_33 : decode method_2_code 33 = .ok (.iconst 5, 1) := by decide +kernel
theorem d1_34 : decode method_2_code 34 = .ok (.lload_n 0, 1) := by decide +kernel
theorem d1_35 : decode method_2_code 35 = .ok (.lload_n 2, 1) := by decide +kernel
theorem d1_36 : decode method_2_code 36 = .ok (.lsub, 1) := by decide +kernel
theorem d1_37 : decode method_2_code 37 = .ok (.lastore, 1) := by decide +kernel
theorem d1_38 : decode method_2_code 38 = .ok (.dup, 1) := by decide +kernel
theorem d1_39 : decode method_2_code 39 = .ok (.bipush 6, 2) := by decide +kernel
theorem d1_41 : decode method_2_code 41 = .ok (.ldc2_w 9, 3) := by decide +kernel
theorem d1_44 : decode method_2_code 44 = .ok (.lload_n 2, 1) := by decide +kernel
theorem d1_45 : decode method_2_code 45 = .ok (.lmul, 1) := by decide +kernel
theorem d1_46 : decode method_2_code 46 = .ok (.lastore, 1) := by decide +kernel
theorem d1_47 : decode method_2_code 47 = .ok (.dup, 1) := by decide +kernel
theorem d1_48 : decode method_2_code 48 = .ok (.bipush 7, 2) := by decide +kernel
theorem d1_50 : decode method_2_code 50 = .ok (.ldc2_w 11, 3) := by decide +kernel
theorem d1_53 : decode method_2_code 53 = .ok (.lload_n 0, 1) := by decide +kernel
theorem d1_54 : decode method_2_code 54 = .ok (.lmul, 1) := by decide +kernel
theorem d1_55 : decode method_2_code 55 = .ok (.lload_n 2, 1) := by decide +kernel
theorem d1_56 : decode method_2_code 56 = .ok (.lxor, 1) := by decide +kernel
theorem d1_57 : decode method_2_code 57 = .ok (.lastore, 1) := by decide +kernel
theorem d1_58 : decode method_2_code 58 = .ok (.dup, 1) := by decide +kernel
theorem d1_59 : decode method_2_code 59 = .ok (.bipush 8, 2) := by decide +kernel
theorem d1_61 : decode method_2_code 61 = .ok (.lload_n 0, 1) := by decide +kernel
theorem d1_62 : decode method_2_code 62 = .ok (.lneg, 1) := by decide +kernel
theorem d1_63 : decode method_2_code 63 = .ok (.lastore, 1) := by decide +kernel
theorem d1_64 : decode method_2_code 64 = .ok (.areturn, 1) := by decide +kernel
theorem pn0 : plainName "com/example/veilrelay/veilrelay/core/curve/P521FieldSelectPinLaw" = true := by first | (simp [plainName, overriddenIn]; done) | decide +kernel
theorem ef1 (m : MethodId) (x : Int64) (y : Int64) : entryFrame m #[(.long x), (.long y)] 4 = mkF m 0 #[.val (.long x), .second, .val (.long y), .second] [] := by first | (simp [entryFrame, mkF, argsToLocals, Value.category]; done) | rfl
abbrev Q_limbs (Z : State) (h0 : Heap) (x : Int64) (y : Int64) : Option Value → Heap → Prop := fun v h' => ∃ b, v = some (.ref b) ∧ h0.size ≤ b ∧ Keep h0 h' [] ∧ Longs Z h' b [x, y, (x ^^^ y), (x + y), (x ^^^ (-1 : Int64)), (x - y), ((3 : Int64) * y), (((5 : Int64) * x) ^^^ y), (-x)]
abbrev R_limbs : Room := { frames := 0, cells := 1, slots := 9, locals := 0 }
set_option maxRecDepth 65536 in
set_option maxHeartbeats 40000000 in
theorem m_limbs (l : Launch) (Z : State) (a0 : Array Value) (hw : ∀ d ∈ tables_1, d.before a0 Z = true) (x : Int64) (y : Int64) (h0 : Heap) (n0 : Nat) (Z0 : n0 ≤ h0.size)  : Met l Z (⟨"com/example/veilrelay/veilrelay/core/curve/P521FieldSelectPinLaw", "limbs", "(JJ)[J"⟩ : MethodName) method_2_code 4 (some (.array .long)) R_limbs #[(.long x), (.long y)] h0 n0 (Q_limbs Z h0 x y) := by
  refine Met.of (plainFor_of_name pn0) (fun m => ef1 m x y) ?_
  intro p e s m args below meth c C
  refine G.bipush C (v := (9 : Int32)) d1_0 (by decide) (n := 2) rfl ?_
  refine G.newarrayJ C (ty := .long) (cap := 9) (wd hw 5 rfl) rfl rfl rfl (by decide) (by decide) (by decide) d1_2 (n := 4) rfl (c' := 1) (s' := 9) rfl rfl (by decide) (by decide) ?_
  intro h1 b2 q3 E4 O5
  have O6 : Longs Z h1 b2 [0, 0, 0, 0, 0, 0, 0, 0, 0] := O5
  have g7 : n0 ≤ b2 := Nat.le_trans Z0 (Nat.le_of_eq q3.symm)
  have f8 : h0.size ≤ b2 := Nat.le_trans (Keep.refl h0 []).1 (Nat.le_of_eq q3.symm)
  have K9 := kext E4
  have Z10 : n0 ≤ h1.size := Nat.le_trans Z0 K9.1
  have K11 : Keep h0 h1 [] := Keep.tr (Keep.refl h0 _) K9 all0
  refine G.dup C d1_4 rfl (n := 5) rfl ?_
  refine G.iconst C (v := (0 : Int32)) d1_5 (by decide) (n := 6) rfl ?_
  refine G.lloadN C d1_6 rfl (n := 7) rfl ?_
  refine G.lastore C O6 (by decide) (show (0 : Int32).toInt < ((9 : Nat) : Int) by decide) g7 d1_7 (n := 8) rfl ?_
  intro h12 K13 W14 O15
  have O16 : Longs Z h12 b2 [x, 0, 0, 0, 0, 0, 0, 0, 0] := O15
  have Z17 : n0 ≤ h12.size := Nat.le_trans Z10 K13.1
  have K18 : Keep h0 h12 [] := Keep.tr K11 K13 (allS (Or.inr f8) all0)
  refine G.dup C d1_8 rfl (n := 9) rfl ?_
  refine G.iconst C (v := (1 : Int32)) d1_9 (by decide) (n := 10) rfl ?_
  refine G.lloadN C d1_10 rfl (n := 11) rfl ?_
  refine G.lastore C O16 (by decide) (show (1 : Int32).toInt < ((9 : Nat) : Int) by decide) g7 d1_11 (n := 12) rfl ?_
  intro h19 K20 W21 O22
  have O23 : Longs Z h19 b2 [x, y, 0, 0, 0, 0, 0, 0, 0] := O22
  have Z24 : n0 ≤ h19.size := Nat.le_trans Z17 K20.1
  have K25 : Keep h0 h19 [] := Keep.tr K18 K20 (allS (Or.inr f8) all0)
  refine G.dup C d1_12 rfl (n := 13) rfl ?_
  refine G.iconst C (v := (2 : Int32)) d1_13 (by decide) (n := 14) rfl ?_
  refine G.lloadN C d1_14 rfl (n := 15) rfl ?_
  refine G.lloadN C d1_15 rfl (n := 16) rfl ?_
  refine G.lxor C d1_16 (n := 17) rfl ?_
  refine G.lastore C O23 (by decide) (show (2 : Int32).toInt < ((9 : Nat) : Int) by decide) g7 d1_17 (n := 18) rfl ?_
  intro h26 K27 W28 O29
  have O30 : Longs Z h26 b2 [x, y, (x ^^^ y), 0, 0, 0, 0, 0, 0] := O29
  have Z31 : n0 ≤ h26.size := Nat.le_trans Z24 K27.1
  have K32 : Keep h0 h26 [] := Keep.tr K25 K27 (allS (Or.inr f8) all0)
  refine G.dup C d1_18 rfl (n := 19) rfl ?_
  refine G.iconst C (v := (3 : Int32)) d1_19 (by decide) (n := 20) rfl ?_
  refine G.lloadN C d1_20 rfl (n := 21) rfl ?_
  refine G.lloadN C d1_21 rfl (n := 22) rfl ?_
  refine G.ladd C d1_22 (n := 23) rfl ?_
  refine G.lastore C O30 (by decide) (show (3 : Int32).toInt < ((9 : Nat) : Int) by decide) g7 d1_23 (n := 24) rfl ?_
  intro h33 K34 W35 O36
  have O37 : Longs Z h33 b2 [x, y, (x ^^^ y), (x + y), 0, 0, 0, 0, 0] := O36
  have Z38 : n0 ≤ h33.size := Nat.le_trans Z31 K34.1
  have K39 : Keep h0 h33 [] := Keep.tr K32 K34 (allS (Or.inr f8) all0)
  refine G.dup C d1_24 rfl (n := 25) rfl ?_
  refine G.iconst C (v := (4 : Int32)) d1_25 (by decide) (n := 26) rfl ?_
  refine G.lloadN C d1_26 rfl (n := 27) rfl ?_
  refine G.ldc2 C (v := (-1 : Int64)) (wd hw 0 rfl) d1_27 (n := 30) rfl ?_
  refine G.lxor C d1_30 (n := 31) rfl ?_
  refine G.lastore C O37 (by decide) (show (4 : Int32).toInt < ((9 : Nat) : Int) by decide) g7 d1_31 (n := 32) rfl ?_
  intro h40 K41 W42 O43
  have O44 : Longs Z h40 b2 [x, y, (x ^^^ y), (x + y), (x ^^^ (-1 : Int64)), 0, 0, 0, 0] := O43
  have Z45 : n0 ≤ h40.size := Nat.le_trans Z38 K41.1
  have K46 : Keep h0 h40 [] := Keep.tr K39 K41 (allS (Or.inr f8) all0)
  refine G.dup C d1_32 rfl (n := 33) rfl ?_
  refine G.iconst C (v := (5 : Int32)) d1_33 (by decide) (n := 34) rfl ?_
  refine G.lloadN C d1_34 rfl (n := 35) rfl ?_
  refine G.lloadN C d1_35 rfl (n := 36) rfl ?_
  refine G.lsub C d1_36 (n := 37) rfl ?_
  refine G.lastore C O44 (by decide) (show (5 : Int32).toInt < ((9 : Nat) : Int) by decide) g7 d1_37 (n := 38) rfl ?_
  intro h47 K48 W49 O50
  have O51 : Longs Z h47 b2 [x, y, (x ^^^ y), (x + y), (x ^^^ (-1 : Int64)), (x - y), 0, 0, 0] := O50
  have Z52 : n0 ≤ h47.size := Nat.le_trans Z45 K48.1
  have K53 : Keep h0 h47 [] := Keep.tr K46 K48 (allS (Or.inr f8) all0)
  refine G.dup C d1_38 rfl (n := 39) rfl ?_
  refine G.bipush C (v := (6 : Int32)) d1_39 (by decide) (n := 41) rfl ?_
  refine G.ldc2 C (v := (3 : Int64)) (wd hw 6 rfl) d1_41 (n := 44) rfl ?_
  refine G.lloadN C d1_44 rfl (n := 45) rfl ?_
  refine G.lmul C d1_45 (n := 46) rfl ?_
  refine G.lastore C O51 (by decide) (show (6 : Int32).toInt < ((9 : Nat) : Int) by decide) g7 d1_46 (n := 47) rfl ?_
  intro h54 K55 W56 O57
  have O58 : Longs Z h54 b2 [x, y, (x ^^^ y), (x + y), (x ^^^ (-1 : Int64)), (x - y), ((3 : Int64) * y), 0, 0] := O57
  have Z59 : n0 ≤ h54.size := Nat.le_trans Z52 K55.1
  have K60 : Keep h0 h54 [] := Keep.tr K53 K55 (allS (Or.inr f8) all0)
  refine G.dup C d1_47 rfl (n := 48) rfl ?_
  refine G.bipush C (v := (7 : Int32)) d1_48 (by decide) (n := 50) rfl ?_
  refine G.ldc2 C (v := (5 : Int64)) (wd hw 7 rfl) d1_50 (n := 53) rfl ?_
  refine G.lloadN C d1_53 rfl (n := 54) rfl ?_
  refine G.lmul C d1_54 (n := 55) rfl ?_
  refine G.lloadN C d1_55 rfl (n := 56) rfl ?_
  refine G.lxor C d1_56 (n := 57) rfl ?_
  refine G.lastore C O58 (by decide) (show (7 : Int32).toInt < ((9 : Nat) : Int) by decide) g7 d1_57 (n := 58) rfl ?_
  intro h61 K62 W63 O64
  have O65 : Longs Z h61 b2 [x, y, (x ^^^ y), (x + y), (x ^^^ (-1 : Int64)), (x - y), ((3 : Int64) * y), (((5 : Int64) * x) ^^^ y), 0] := O64
  have Z66 : n0 ≤ h61.size := Nat.le_trans Z59 K62.1
  have K67 : Keep h0 h61 [] := Keep.tr K60 K62 (allS (Or.inr f8) all0)
  refine G.dup C d1_58 rfl (n := 59) rfl ?_
  refine G.bipush C (v := (8 : Int32)) d1_59 (by decide) (n := 61) rfl ?_
  refine G.lloadN C d1_61 rfl (n := 62) rfl ?_
  refine G.lneg C d1_62 (n := 63) rfl ?_
  refine G.lastore C O65 (by decide) (show (8 : Int32).toInt < ((9 : Nat) : Int) by decide) g7 d1_63 (n := 64) rfl ?_
  intro h68 K69 W70 O71
  have O72 : Longs Z h68 b2 [x, y, (x ^^^ y), (x + y), (x ^^^ (-1 : Int64)), (x - y), ((3 : Int64) * y), (((5 : Int64) * x) ^^^ y), (-x)] := O71
  have Z73 : n0 ≤ h68.size := Nat.le_trans Z66 K69.1
  have K74 : Keep h0 h68 [] := Keep.tr K67 K69 (allS (Or.inr f8) all0)
  refine G.areturn C d1_64 rfl rfl rfl (by decide) (by decide) ?_
  exact ⟨b2, rfl, f8, K74, O72⟩
theorem d2_0 : decode prog_31_method_6_code 0 = .ok (.iconst 0, 1) := by decide +kernel
theorem d2_1 : decode prog_31_method_6_code 1 = .ok (.istore 4, 2) := by decide +kernel
theorem d2_3 : decode prog_31_method_6_code 3 = .ok (.iload 4, 2) := by decide +kernel
theorem d2_5 : decode prog_31_method_6_code 5 = .ok (.bipush 9, 2) := by decide +kernel
theorem d2_7 : decode prog_31_method_6_code 7 = .ok (.if_icmp .ge 27, 3) := by decide +kernel
theorem d2_10 : decode prog_31_method_6_code 10 = .ok (.aload_n 0, 1) := by decide +kernel
theorem d2_11 : decode prog_31_method_6_code 11 = .ok (.iload 4, 2) := by decide +kernel
theorem d2_13 : decode prog_31_method_6_code 13 = .ok (.dup2, 1) := by decide +kernel
theorem d2_14 : decode prog_31_method_6_code 14 = .ok (.laload, 1) := by decide +kernel
theorem d2_15 : decode prog_31_method_6_code 15 = .ok (.lload_n 2, 1) := by decide +kernel
theorem d2_16 : decode prog_31_method_6_code 16 = .ok (.aload_n 0, 1) := by decide +kernel
theorem d2_17 : decode prog_31_method_6_code 17 = .ok (.iload 4, 2) := by decide +kernel
theorem d2_19 : decode prog_31_method_6_code 19 = .ok (.laload, 1) := by decide +kernel
theorem d2_20 : decode prog_31_method_6_code 20 = .ok (.aload_n 1, 1) := by decide +kernel
theorem d2_21 : decode prog_31_method_6_code 21 = .ok (.iload 4, 2) := by decide +kernel
theorem d2_23 : decode prog_31_method_6_code 23 = .ok (.laload, 1) := by decide +kernel
theorem d2_24 : decode prog_31_method_6_code 24 = .ok (.lxor, 1) := by decide +kernel
theorem d2_25 : decode prog_31_method_6_code 25 = .ok (.land, 1) := by decide +kernel
theorem d2_26 : decode prog_31_method_6_code 26 = .ok (.lxor, 1) := by decide +kernel
theorem d2_27 : decode prog_31_method_6_code 27 = .ok (.lastore, 1) := by decide +kernel
theorem d2_28 : decode prog_31_method_6_code 28 = .ok (.iinc 4 1, 3) := by decide +kernel
theorem d2_31 : decode prog_31_method_6_code 31 = .ok (.goto (-28), 3) := by decide +kernel
theorem d2_34 : decode prog_31_method_6_code 34 = .ok (.return_, 1) := by decide +kernel
theorem pn1 : plainName "com/example/veilrelay/veilrelay/core/curve/P521Field" = true := by first | (simp [plainName, overriddenIn]; done) | decide +kernel
theorem ef2 (m : MethodId) (a : Addr) (b : Addr) (mk : Int64) : entryFrame m #[(.ref a), (.ref b), (.long mk)] 5 = mkF m 0 #[.val (.ref a), .val (.ref b), .val (.long mk), .second, .unset] [] := by first | (simp [entryFrame, mkF, argsToLocals, Value.category]; done) | rfl
abbrev Q_select (Z : State) (h0 : Heap) (a : Addr) (b : Addr) (mk : Int64) (r0 : Int64) (r1 : Int64) (r2 : Int64) (r3 : Int64) (r4 : Int64) (r5 : Int64) (r6 : Int64) (r7 : Int64) (r8 : Int64) (t0 : Int64) (t1 : Int64) (t2 : Int64) (t3 : Int64) (t4 : Int64) (t5 : Int64) (t6 : Int64) (t7 : Int64) (t8 : Int64) : Option Value → Heap → Prop := fun v h' => v = none ∧ Keep h0 h' [a] ∧ Longs Z h' a [(r0 ^^^ (mk &&& (r0 ^^^ t0))), (r1 ^^^ (mk &&& (r1 ^^^ t1))), (r2 ^^^ (mk &&& (r2 ^^^ t2))), (r3 ^^^ (mk &&& (r3 ^^^ t3))), (r4 ^^^ (mk &&& (r4 ^^^ t4))), (r5 ^^^ (mk &&& (r5 ^^^ t5))), (r6 ^^^ (mk &&& (r6 ^^^ t6))), (r7 ^^^ (mk &&& (r7 ^^^ t7))), (r8 ^^^ (mk &&& (r8 ^^^ t8)))]
abbrev R_select : Room := { frames := 0, cells := 0, slots := 0, locals := 0 }
set_option maxRecDepth 65536 in
set_option maxHeartbeats 40000000 in
theorem m_select (l : Launch) (Z : State) (a0 : Array Value) (hw : ∀ d ∈ tables_1, d.before a0 Z = true) (a : Addr) (b : Addr) (mk : Int64) (r0 : Int64) (r1 : Int64) (r2 : Int64) (r3 : Int64) (r4 : Int64) (r5 : Int64) (r6 : Int64) (r7 : Int64) (r8 : Int64) (t0 : Int64) (t1 : Int64) (t2 : Int64) (t3 : Int64) (t4 : Int64) (t5 : Int64) (t6 : Int64) (t7 : Int64) (t8 : Int64) (h0 : Heap) (n0 : Nat) (Z0 : n0 ≤ h0.size) (O_a : Longs Z h0 a [r0, r1, r2, r3, r4, r5, r6, r7, r8]) (O_b : Longs Z h0 b [t0, t1, t2, t3, t4, t5, t6, t7, t8]) (ne_ba : b ≠ a) (g_a : n0 ≤ a) : Met l Z (⟨"com/example/veilrelay/veilrelay/core/curve/P521Field", "select", "([J[JJ)V"⟩ : MethodName) prog_31_method_6_code 5 none R_select #[(.ref a), (.ref b), (.long mk)] h0 n0 (Q_select Z h0 a b mk r0 r1 r2 r3 r4 r5 r6 r7 r8 t0 t1 t2 t3 t4 t5 t6 t7 t8) := by
  refine Met.of (plainFor_of_name pn1) (fun m => ef2 m a b mk) ?_
  intro p e s m args below meth c C
  refine G.iconst C (v := (0 : Int32)) d2_0 (by decide) (n := 1) rfl ?_
  refine G.istore C d2_1 (l' := #[.val (.ref a), .val (.ref b), .val (.long mk), .second, .val (.int (0 : Int32))]) rfl (n := 3) rfl ?_
  refine G.iload C d2_3 rfl (n := 5) rfl ?_
  refine G.bipush C (v := (9 : Int32)) d2_5 (by decide) (n := 7) rfl ?_
  refine G.icmp_ge C (A := 0) (B := 9) (by decide) (by decide) d2_7 (by decide) (by decide) (n := 10) (n' := 34) rfl (fun c7_1 => ?_) (fun c7_1 => ?_)
  · exact absurd c7_1 (by decide)
  refine G.aloadN C d2_10 rfl rfl (n := 11) rfl ?_
  refine G.iload C d2_11 rfl (n := 13) rfl ?_
  refine G.dup2 C d2_13 rfl rfl (n := 14) rfl ?_
  refine G.laload C (x := r0) O_a (by decide) rfl d2_14 (n := 15) rfl ?_
  refine G.lloadN C d2_15 rfl (n := 16) rfl ?_
  refine G.aloadN C d2_16 rfl rfl (n := 17) rfl ?_
  refine G.iload C d2_17 rfl (n := 19) rfl ?_
  refine G.laload C (x := r0) O_a (by decide) rfl d2_19 (n := 20) rfl ?_
  refine G.aloadN C d2_20 rfl rfl (n := 21) rfl ?_
  refine G.iload C d2_21 rfl (n := 23) rfl ?_
  refine G.laload C (x := t0) O_b (by decide) rfl d2_23 (n := 24) rfl ?_
  refine G.lxor C d2_24 (n := 25) rfl ?_
  refine G.land C d2_25 (n := 26) rfl ?_
  refine G.lxor C d2_26 (n := 27) rfl ?_
  refine G.lastore C O_a (by decide) (show (0 : Int32).toInt < ((9 : Nat) : Int) by decide) g_a d2_27 (n := 28) rfl ?_
  intro h2 K3 W4 O5
  have O6 : Longs Z h2 a [(r0 ^^^ (mk &&& (r0 ^^^ t0))), r1, r2, r3, r4, r5, r6, r7, r8] := O5
  have O7 := O_b.keep K3 (ninS ne_ba nin0)
  have Z8 : n0 ≤ h2.size := Nat.le_trans Z0 K3.1
  have K9 : Keep h0 h2 [a] := Keep.tr (Keep.refl h0 _) K3 (allS (Or.inl (List.mem_of_getElem? (i := 0) rfl)) all0)
  refine G.iincK C (v := (1 : Int32)) (z := (1 : Int32)) d2_28 (by decide) rfl (by decide) (l' := #[.val (.ref a), .val (.ref b), .val (.long mk), .second, .val (.int (1 : Int32))]) rfl (n := 31) rfl ?_
  refine G.goto C d2_31 (by decide) (n := 3) (by decide) ?_
  refine G.iload C d2_3 rfl (n := 5) rfl ?_
  refine G.bipush C (v := (9 : Int32)) d2_5 (by decide) (n := 7) rfl ?_
  refine G.icmp_ge C (A := 1) (B := 9) (by decide) (by decide) d2_7 (by decide) (by decide) (n := 10) (n' := 34) rfl (fun c7_10 => ?_) (fun c7_10 => ?_)
  · exact absurd c7_10 (by decide)
  refine G.aloadN C d2_10 rfl rfl (n := 11) rfl ?_
  refine G.iload C d2_11 rfl (n := 13) rfl ?_
  refine G.dup2 C d2_13 rfl rfl (n := 14) rfl ?_
  refine G.laload C (x := r1) O6 (by decide) rfl d2_14 (n := 15) rfl ?_
  refine G.lloadN C d2_15 rfl (n := 16) rfl ?_
  refine G.aloadN C d2_16 rfl rfl (n := 17) rfl ?_
  refine G.iload C d2_17 rfl (n := 19) rfl ?_
  refine G.laload C (x := r1) O6 (by decide) rfl d2_19 (n := 20) rfl ?_
  refine G.aloadN C d2_20 rfl rfl (n := 21) rfl ?_
  refine G.iload C d2_21 rfl (n := 23) rfl ?_
  refine G.laload C (x := t1) O7 (by decide) rfl d2_23 (n := 24) rfl ?_
  refine G.lxor C d2_24 (n := 25) rfl ?_
  refine G.land C d2_25 (n := 26) rfl ?_
  refine G.lxor C d2_26 (n := 27) rfl ?_
  refine G.lastore C O6 (by decide) (show (1 : Int32).toInt < ((9 : Nat) : Int) by decide) g_a d2_27 (n := 28) rfl ?_
  intro h11 K12 W13 O14
  have O15 : Longs Z h11 a [(r0 ^^^ (mk &&& (r0 ^^^ t0))), (r1 ^^^ (mk &&& (r1 ^^^ t1))), r2, r3, r4, r5, r6, r7, r8] := O14
  have O16 := O7.keep K12 (ninS ne_ba nin0)
  have Z17 : n0 ≤ h11.size := Nat.le_trans Z8 K12.1
  have K18 : Keep h0 h11 [a] := Keep.tr K9 K12 (allS (Or.inl (List.mem_of_getElem? (i := 0) rfl)) all0)
  refine G.iincK C (v := (1 : Int32)) (z := (2 : Int32)) d2_28 (by decide) rfl (by decide) (l' := #[.val (.ref a), .val (.ref b), .val (.long mk), .second, .val (.int (2 : Int32))]) rfl (n := 31) rfl ?_
  refine G.goto C d2_31 (by decide) (n := 3) (by decide) ?_
  refine G.iload C d2_3 rfl (n := 5) rfl ?_
  refine G.bipush C (v := (9 : Int32)) d2_5 (by decide) (n := 7) rfl ?_
  refine G.icmp_ge C (A := 2) (B := 9) (by decide) (by decide) d2_7 (by decide) (by decide) (n := 10) (n' := 34) rfl (fun c7_19 => ?_) (fun c7_19 => ?_)
  · exact absurd c7_19 (by decide)
  refine G.aloadN C d2_10 rfl rfl (n := 11) rfl ?_
  refine G.iload C d2_11 rfl (n := 13) rfl ?_
  refine G.dup2 C d2_13 rfl rfl (n := 14) rfl ?_
  refine G.laload C (x := r2) O15 (by decide) rfl d2_14 (n := 15) rfl ?_
  refine G.lloadN C d2_15 rfl (n := 16) rfl ?_
  refine G.aloadN C d2_16 rfl rfl (n := 17) rfl ?_
  refine G.iload C d2_17 rfl (n := 19) rfl ?_
  refine G.laload C (x := r2) O15 (by decide) rfl d2_19 (n := 20) rfl ?_
  refine G.aloadN C d2_20 rfl rfl (n := 21) rfl ?_
  refine G.iload C d2_21 rfl (n := 23) rfl ?_
  refine G.laload C (x := t2) O16 (by decide) rfl d2_23 (n := 24) rfl ?_
  refine G.lxor C d2_24 (n := 25) rfl ?_
  refine G.land C d2_25 (n := 26) rfl ?_
  refine G.lxor C d2_26 (n := 27) rfl ?_
  refine G.lastore C O15 (by decide) (show (2 : Int32).toInt < ((9 : Nat) : Int) by decide) g_a d2_27 (n := 28) rfl ?_
  intro h20 K21 W22 O23
  have O24 : Longs Z h20 a [(r0 ^^^ (mk &&& (r0 ^^^ t0))), (r1 ^^^ (mk &&& (r1 ^^^ t1))), (r2 ^^^ (mk &&& (r2 ^^^ t2))), r3, r4, r5, r6, r7, r8] := O23
  have O25 := O16.keep K21 (ninS ne_ba nin0)
  have Z26 : n0 ≤ h20.size := Nat.le_trans Z17 K21.1
  have K27 : Keep h0 h20 [a] := Keep.tr K18 K21 (allS (Or.inl (List.mem_of_getElem? (i := 0) rfl)) all0)
  refine G.iincK C (v := (1 : Int32)) (z := (3 : Int32)) d2_28 (by decide) rfl (by decide) (l' := #[.val (.ref a), .val (.ref b), .val (.long mk), .second, .val (.int (3 : Int32))]) rfl (n := 31) rfl ?_
  refine G.goto C d2_31 (by decide) (n := 3) (by decide) ?_
  refine G.iload C d2_3 rfl (n := 5) rfl ?_
  refine G.bipush C (v := (9 : Int32)) d2_5 (by decide) (n := 7) rfl ?_
  refine G.icmp_ge C (A := 3) (B := 9) (by decide) (by decide) d2_7 (by decide) (by decide) (n := 10) (n' := 34) rfl (fun c7_28 => ?_) (fun c7_28 => ?_)
  · exact absurd c7_28 (by decide)
  refine G.aloadN C d2_10 rfl rfl (n := 11) rfl ?_
  refine G.iload C d2_11 rfl (n := 13) rfl ?_
  refine G.dup2 C d2_13 rfl rfl (n := 14) rfl ?_
  refine G.laload C (x := r3) O24 (by decide) rfl d2_14 (n := 15) rfl ?_
  refine G.lloadN C d2_15 rfl (n := 16) rfl ?_
  refine G.aloadN C d2_16 rfl rfl (n := 17) rfl ?_
  refine G.iload C d2_17 rfl (n := 19) rfl ?_
  refine G.laload C (x := r3) O24 (by decide) rfl d2_19 (n := 20) rfl ?_
  refine G.aloadN C d2_20 rfl rfl (n := 21) rfl ?_
  refine G.iload C d2_21 rfl (n := 23) rfl ?_
  refine G.laload C (x := t3) O25 (by decide) rfl d2_23 (n := 24) rfl ?_
  refine G.lxor C d2_24 (n := 25) rfl ?_
  refine G.land C d2_25 (n := 26) rfl ?_
  refine G.lxor C d2_26 (n := 27) rfl ?_
  refine G.lastore C O24 (by decide) (show (3 : Int32).toInt < ((9 : Nat) : Int) by decide) g_a d2_27 (n := 28) rfl ?_
  intro h29 K30 W31 O32
  have O33 : Longs Z h29 a [(r0 ^^^ (mk &&& (r0 ^^^ t0))), (r1 ^^^ (mk &&& (r1 ^^^ t1))), (r2 ^^^ (mk &&& (r2 ^^^ t2))), (r3 ^^^ (mk &&& (r3 ^^^ t3))), r4, r5, r6, r7, r8] := O32
  have O34 := O25.keep K30 (ninS ne_ba nin0)
  have Z35 : n0 ≤ h29.size := Nat.le_trans Z26 K30.1
  have K36 : Keep h0 h29 [a] := Keep.tr K27 K30 (allS (Or.inl (List.mem_of_getElem? (i := 0) rfl)) all0)
  refine G.iincK C (v := (1 : Int32)) (z := (4 : Int32)) d2_28 (by decide) rfl (by decide) (l' := #[.val (.ref a), .val (.ref b), .val (.long mk), .second, .val (.int (4 : Int32))]) rfl (n := 31) rfl ?_
  refine G.goto C d2_31 (by decide) (n := 3) (by decide) ?_
  refine G.iload C d2_3 rfl (n := 5) rfl ?_
  refine G.bipush C (v := (9 : Int32)) d2_5 (by decide) (n := 7) rfl ?_
  refine G.icmp_ge C (A := 4) (B := 9) (by decide) (by decide) d2_7 (by decide) (by decide) (n := 10) (n' := 34) rfl (fun c7_37 => ?_) (fun c7_37 => ?_)
  · exact absurd c7_37 (by decide)
  refine G.aloadN C d2_10 rfl rfl (n := 11) rfl ?_
  refine G.iload C d2_11 rfl (n := 13) rfl ?_
  refine G.dup2 C d2_13 rfl rfl (n := 14) rfl ?_
  refine G.laload C (x := r4) O33 (by decide) rfl d2_14 (n := 15) rfl ?_
  refine G.lloadN C d2_15 rfl (n := 16) rfl ?_
  refine G.aloadN C d2_16 rfl rfl (n := 17) rfl ?_
  refine G.iload C d2_17 rfl (n := 19) rfl ?_
  refine G.laload C (x := r4) O33 (by decide) rfl d2_19 (n := 20) rfl ?_
  refine G.aloadN C d2_20 rfl rfl (n := 21) rfl ?_
  refine G.iload C d2_21 rfl (n := 23) rfl ?_
  refine G.laload C (x := t4) O34 (by decide) rfl d2_23 (n := 24) rfl ?_
  refine G.lxor C d2_24 (n := 25) rfl ?_
  refine G.land C d2_25 (n := 26) rfl ?_
  refine G.lxor C d2_26 (n := 27) rfl ?_
  refine G.lastore C O33 (by decide) (show (4 : Int32).toInt < ((9 : Nat) : Int) by decide) g_a d2_27 (n := 28) rfl ?_
  intro h38 K39 W40 O41
  have O42 : Longs Z h38 a [(r0 ^^^ (mk &&& (r0 ^^^ t0))), (r1 ^^^ (mk &&& (r1 ^^^ t1))), (r2 ^^^ (mk &&& (r2 ^^^ t2))), (r3 ^^^ (mk &&& (r3 ^^^ t3))), (r4 ^^^ (mk &&& (r4 ^^^ t4))), r5, r6, r7, r8] := O41
  have O43 := O34.keep K39 (ninS ne_ba nin0)
  have Z44 : n0 ≤ h38.size := Nat.le_trans Z35 K39.1
  have K45 : Keep h0 h38 [a] := Keep.tr K36 K39 (allS (Or.inl (List.mem_of_getElem? (i := 0) rfl)) all0)
  refine G.iincK C (v := (1 : Int32)) (z := (5 : Int32)) d2_28 (by decide) rfl (by decide) (l' := #[.val (.ref a), .val (.ref b), .val (.long mk), .second, .val (.int (5 : Int32))]) rfl (n := 31) rfl ?_
  refine G.goto C d2_31 (by decide) (n := 3) (by decide) ?_
  refine G.iload C d2_3 rfl (n := 5) rfl ?_
  refine G.bipush C (v := (9 : Int32)) d2_5 (by decide) (n := 7) rfl ?_
  refine G.icmp_ge C (A := 5) (B := 9) (by decide) (by decide) d2_7 (by decide) (by decide) (n := 10) (n' := 34) rfl (fun c7_46 => ?_) (fun c7_46 => ?_)
  · exact absurd c7_46 (by decide)
  refine G.aloadN C d2_10 rfl rfl (n := 11) rfl ?_
  refine G.iload C d2_11 rfl (n := 13) rfl ?_
  refine G.dup2 C d2_13 rfl rfl (n := 14) rfl ?_
  refine G.laload C (x := r5) O42 (by decide) rfl d2_14 (n := 15) rfl ?_
  refine G.lloadN C d2_15 rfl (n := 16) rfl ?_
  refine G.aloadN C d2_16 rfl rfl (n := 17) rfl ?_
  refine G.iload C d2_17 rfl (n := 19) rfl ?_
  refine G.laload C (x := r5) O42 (by decide) rfl d2_19 (n := 20) rfl ?_
  refine G.aloadN C d2_20 rfl rfl (n := 21) rfl ?_
  refine G.iload C d2_21 rfl (n := 23) rfl ?_
  refine G.laload C (x := t5) O43 (by decide) rfl d2_23 (n := 24) rfl ?_
  refine G.lxor C d2_24 (n := 25) rfl ?_
  refine G.land C d2_25 (n := 26) rfl ?_
  refine G.lxor C d2_26 (n := 27) rfl ?_
  refine G.lastore C O42 (by decide) (show (5 : Int32).toInt < ((9 : Nat) : Int) by decide) g_a d2_27 (n := 28) rfl ?_
  intro h47 K48 W49 O50
  have O51 : Longs Z h47 a [(r0 ^^^ (mk &&& (r0 ^^^ t0))), (r1 ^^^ (mk &&& (r1 ^^^ t1))), (r2 ^^^ (mk &&& (r2 ^^^ t2))), (r3 ^^^ (mk &&& (r3 ^^^ t3))), (r4 ^^^ (mk &&& (r4 ^^^ t4))), (r5 ^^^ (mk &&& (r5 ^^^ t5))), r6, r7, r8] := O50
  have O52 := O43.keep K48 (ninS ne_ba nin0)
  have Z53 : n0 ≤ h47.size := Nat.le_trans Z44 K48.1
  have K54 : Keep h0 h47 [a] := Keep.tr K45 K48 (allS (Or.inl (List.mem_of_getElem? (i := 0) rfl)) all0)
  refine G.iincK C (v := (1 : Int32)) (z := (6 : Int32)) d2_28 (by decide) rfl (by decide) (l' := #[.val (.ref a), .val (.ref b), .val (.long mk), .second, .val (.int (6 : Int32))]) rfl (n := 31) rfl ?_
  refine G.goto C d2_31 (by decide) (n := 3) (by decide) ?_
  refine G.iload C d2_3 rfl (n := 5) rfl ?_
  refine G.bipush C (v := (9 : Int32)) d2_5 (by decide) (n := 7) rfl ?_
  refine G.icmp_ge C (A := 6) (B := 9) (by decide) (by decide) d2_7 (by decide) (by decide) (n := 10) (n' := 34) rfl (fun c7_55 => ?_) (fun c7_55 => ?_)
  · exact absurd c7_55 (by decide)
  refine G.aloadN C d2_10 rfl rfl (n := 11) rfl ?_
  refine G.iload C d2_11 rfl (n := 13) rfl ?_
  refine G.dup2 C d2_13 rfl rfl (n := 14) rfl ?_
  refine G.laload C (x := r6) O51 (by decide) rfl d2_14 (n := 15) rfl ?_
  refine G.lloadN C d2_15 rfl (n := 16) rfl ?_
  refine G.aloadN C d2_16 rfl rfl (n := 17) rfl ?_
  refine G.iload C d2_17 rfl (n := 19) rfl ?_
  refine G.laload C (x := r6) O51 (by decide) rfl d2_19 (n := 20) rfl ?_
  refine G.aloadN C d2_20 rfl rfl (n := 21) rfl ?_
  refine G.iload C d2_21 rfl (n := 23) rfl ?_
  refine G.laload C (x := t6) O52 (by decide) rfl d2_23 (n := 24) rfl ?_
  refine G.lxor C d2_24 (n := 25) rfl ?_
  refine G.land C d2_25 (n := 26) rfl ?_
  refine G.lxor C d2_26 (n := 27) rfl ?_
  refine G.lastore C O51 (by decide) (show (6 : Int32).toInt < ((9 : Nat) : Int) by decide) g_a d2_27 (n := 28) rfl ?_
  intro h56 K57 W58 O59
  have O60 : Longs Z h56 a [(r0 ^^^ (mk &&& (r0 ^^^ t0))), (r1 ^^^ (mk &&& (r1 ^^^ t1))), (r2 ^^^ (mk &&& (r2 ^^^ t2))), (r3 ^^^ (mk &&& (r3 ^^^ t3))), (r4 ^^^ (mk &&& (r4 ^^^ t4))), (r5 ^^^ (mk &&& (r5 ^^^ t5))), (r6 ^^^ (mk &&& (r6 ^^^ t6))), r7, r8] := O59
  have O61 := O52.keep K57 (ninS ne_ba nin0)
  have Z62 : n0 ≤ h56.size := Nat.le_trans Z53 K57.1
  have K63 : Keep h0 h56 [a] := Keep.tr K54 K57 (allS (Or.inl (List.mem_of_getElem? (i := 0) rfl)) all0)
  refine G.iincK C (v := (1 : Int32)) (z := (7 : Int32)) d2_28 (by decide) rfl (by decide) (l' := #[.val (.ref a), .val (.ref b), .val (.long mk), .second, .val (.int (7 : Int32))]) rfl (n := 31) rfl ?_
  refine G.goto C d2_31 (by decide) (n := 3) (by decide) ?_
  refine G.iload C d2_3 rfl (n := 5) rfl ?_
  refine G.bipush C (v := (9 : Int32)) d2_5 (by decide) (n := 7) rfl ?_
  refine G.icmp_ge C (A := 7) (B := 9) (by decide) (by decide) d2_7 (by decide) (by decide) (n := 10) (n' := 34) rfl (fun c7_64 => ?_) (fun c7_64 => ?_)
  · exact absurd c7_64 (by decide)
  refine G.aloadN C d2_10 rfl rfl (n := 11) rfl ?_
  refine G.iload C d2_11 rfl (n := 13) rfl ?_
  refine G.dup2 C d2_13 rfl rfl (n := 14) rfl ?_
  refine G.laload C (x := r7) O60 (by decide) rfl d2_14 (n := 15) rfl ?_
  refine G.lloadN C d2_15 rfl (n := 16) rfl ?_
  refine G.aloadN C d2_16 rfl rfl (n := 17) rfl ?_
  refine G.iload C d2_17 rfl (n := 19) rfl ?_
  refine G.laload C (x := r7) O60 (by decide) rfl d2_19 (n := 20) rfl ?_
  refine G.aloadN C d2_20 rfl rfl (n := 21) rfl ?_
  refine G.iload C d2_21 rfl (n := 23) rfl ?_
  refine G.laload C (x := t7) O61 (by decide) rfl d2_23 (n := 24) rfl ?_
  refine G.lxor C d2_24 (n := 25) rfl ?_
  refine G.land C d2_25 (n := 26) rfl ?_
  refine G.lxor C d2_26 (n := 27) rfl ?_
  refine G.lastore C O60 (by decide) (show (7 : Int32).toInt < ((9 : Nat) : Int) by decide) g_a d2_27 (n := 28) rfl ?_
  intro h65 K66 W67 O68
  have O69 : Longs Z h65 a [(r0 ^^^ (mk &&& (r0 ^^^ t0))), (r1 ^^^ (mk &&& (r1 ^^^ t1))), (r2 ^^^ (mk &&& (r2 ^^^ t2))), (r3 ^^^ (mk &&& (r3 ^^^ t3))), (r4 ^^^ (mk &&& (r4 ^^^ t4))), (r5 ^^^ (mk &&& (r5 ^^^ t5))), (r6 ^^^ (mk &&& (r6 ^^^ t6))), (r7 ^^^ (mk &&& (r7 ^^^ t7))), r8] := O68
  have O70 := O61.keep K66 (ninS ne_ba nin0)
  have Z71 : n0 ≤ h65.size := Nat.le_trans Z62 K66.1
  have K72 : Keep h0 h65 [a] := Keep.tr K63 K66 (allS (Or.inl (List.mem_of_getElem? (i := 0) rfl)) all0)
  refine G.iincK C (v := (1 : Int32)) (z := (8 : Int32)) d2_28 (by decide) rfl (by decide) (l' := #[.val (.ref a), .val (.ref b), .val (.long mk), .second, .val (.int (8 : Int32))]) rfl (n := 31) rfl ?_
  refine G.goto C d2_31 (by decide) (n := 3) (by decide) ?_
  refine G.iload C d2_3 rfl (n := 5) rfl ?_
  refine G.bipush C (v := (9 : Int32)) d2_5 (by decide) (n := 7) rfl ?_
  refine G.icmp_ge C (A := 8) (B := 9) (by decide) (by decide) d2_7 (by decide) (by decide) (n := 10) (n' := 34) rfl (fun c7_73 => ?_) (fun c7_73 => ?_)
  · exact absurd c7_73 (by decide)
  refine G.aloadN C d2_10 rfl rfl (n := 11) rfl ?_
  refine G.iload C d2_11 rfl (n := 13) rfl ?_
  refine G.dup2 C d2_13 rfl rfl (n := 14) rfl ?_
  refine G.laload C (x := r8) O69 (by decide) rfl d2_14 (n := 15) rfl ?_
  refine G.lloadN C d2_15 rfl (n := 16) rfl ?_
  refine G.aloadN C d2_16 rfl rfl (n := 17) rfl ?_
  refine G.iload C d2_17 rfl (n := 19) rfl ?_
  refine G.laload C (x := r8) O69 (by decide) rfl d2_19 (n := 20) rfl ?_
  refine G.aloadN C d2_20 rfl rfl (n := 21) rfl ?_
  refine G.iload C d2_21 rfl (n := 23) rfl ?_
  refine G.laload C (x := t8) O70 (by decide) rfl d2_23 (n := 24) rfl ?_
  refine G.lxor C d2_24 (n := 25) rfl ?_
  refine G.land C d2_25 (n := 26) rfl ?_
  refine G.lxor C d2_26 (n := 27) rfl ?_
  refine G.lastore C O69 (by decide) (show (8 : Int32).toInt < ((9 : Nat) : Int) by decide) g_a d2_27 (n := 28) rfl ?_
  intro h74 K75 W76 O77
  have O78 : Longs Z h74 a [(r0 ^^^ (mk &&& (r0 ^^^ t0))), (r1 ^^^ (mk &&& (r1 ^^^ t1))), (r2 ^^^ (mk &&& (r2 ^^^ t2))), (r3 ^^^ (mk &&& (r3 ^^^ t3))), (r4 ^^^ (mk &&& (r4 ^^^ t4))), (r5 ^^^ (mk &&& (r5 ^^^ t5))), (r6 ^^^ (mk &&& (r6 ^^^ t6))), (r7 ^^^ (mk &&& (r7 ^^^ t7))), (r8 ^^^ (mk &&& (r8 ^^^ t8)))] := O77
  have O79 := O70.keep K75 (ninS ne_ba nin0)
  have Z80 : n0 ≤ h74.size := Nat.le_trans Z71 K75.1
  have K81 : Keep h0 h74 [a] := Keep.tr K72 K75 (allS (Or.inl (List.mem_of_getElem? (i := 0) rfl)) all0)
  refine G.iincK C (v := (1 : Int32)) (z := (9 : Int32)) d2_28 (by decide) rfl (by decide) (l' := #[.val (.ref a), .val (.ref b), .val (.long mk), .second, .val (.int (9 : Int32))]) rfl (n := 31) rfl ?_
  refine G.goto C d2_31 (by decide) (n := 3) (by decide) ?_
  refine G.iload C d2_3 rfl (n := 5) rfl ?_
  refine G.bipush C (v := (9 : Int32)) d2_5 (by decide) (n := 7) rfl ?_
  refine G.icmp_ge C (A := 9) (B := 9) (by decide) (by decide) d2_7 (by decide) (by decide) (n := 10) (n' := 34) rfl (fun c7_82 => ?_) (fun c7_82 => ?_)
  rotate_left
  · exact absurd c7_82 (by decide)
  refine G.return_ C d2_34 (by decide) (by decide) ?_
  exact ⟨rfl, K81, O78⟩
theorem sel_n (r t : Int64) : (r ^^^ ((0 : Int64) &&& (r ^^^ t))) = r := by rw [Int64.zero_and, Int64.xor_zero]
theorem sel_y (r t : Int64) : (r ^^^ ((-1 : Int64) &&& (r ^^^ t))) = t := by rw [Int64.neg_one_and, ← Int64.xor_assoc, Int64.xor_self, Int64.zero_xor]
theorem d3_0 : decode method_3_code 0 = .ok (.aload_n 0, 1) := by decide +kernel
theorem d3_1 : decode method_3_code 1 = .ok (.iconst 0, 1) := by decide +kernel
theorem d3_2 : decode method_3_code 2 = .ok (.laload, 1) := by decide +kernel
theorem d3_3 : decode method_3_code 3 = .ok (.aload_n 1, 1) := by decide +kernel
theorem d3_4 : decode method_3_code 4 = .ok (.iconst 0, 1) := by decide +kernel
theorem d3_5 : decode method_3_code 5 = .ok (.laload, 1) := by decide +kernel
theorem d3_6 : decode method_3_code 6 = .ok (.lcmp, 1) := by decide +kernel
theorem d3_7 : decode method_3_code 7 = .ok (.ifCond .ne 93, 3) := by decide +kernel
theorem d3_10 : decode method_3_code 10 = .ok (.aload_n 0, 1) := by decide +kernel
theorem d3_11 : decode method_3_code 11 = .ok (.iconst 1, 1) := by decide +kernel
theorem d3_12 : decode method_3_code 12 = .ok (.laload, 1) := by decide +kernel
theorem d3_13 : decode method_3_code 13 = .ok (.aload_n 1, 1) := by decide +kernel
theorem d3_14 : decode method_3_code 14 = .ok (.iconst 1, 1) := by decide +kernel
theorem d3_15 : decode method_3_code 15 = .ok (.laload, 1) := by decide +kernel
theorem d3_16 : decode method_3_code 16 = .ok (.lcmp, 1) := by decide +kernel
theorem d3_17 : decode method_3_code 17 = .ok (.ifCond .ne 83, 3) := by decide +kernel
theorem d3_20 : decode method_3_code 20 = .ok (.aload_n 0, 1) := by decide +kernel
theorem d3_21 : decode method_3_code 21 = .ok (.iconst 2, 1) := by decide +kernel
theorem d3_22 : decode method_3_code 22 = .ok (.laload, 1) := by decide +kernel
theorem d3_23 : decode method_3_code 23 = .ok (.aload_n 1, 1) := by decide +kernel
theorem d3_24 : decode method_3_code 24 = .ok (.iconst 2, 1) := by decide +kernel
theorem d3_25 : decode method_3_code 25 = .ok (.laload, 1) := by decide +kernel
theorem d3_26 : decode method_3_code 26 = .ok (.lcmp, 1) := by decide +kernel
theorem d3_27 : decode method_3_code 27 = .ok (.ifCond .ne 73, 3) := by decide +kernel
theorem d3_30 : decode method_3_code 30 = .ok (.aload_n 0, 1) := by decide +kernel
theorem d3_31 : decode method_3_code 31 = .ok (.iconst 3, 1) := by decide +kernel
theorem d3_32 : decode method_3_code 32 = .ok (.laload, 1) := by decide +kernel
theorem d3_33 : decode method_3_code 33 = .ok (.aload_n 1, 1) := by decide +kernel
theorem d3_34 : decode method_3_code 34 = .ok (.iconst 3, 1) := by decide +kernel
theorem d3_35 : decode method_3_code 35 = .ok (.laload, 1) := by decide +kernel
theorem d3_36 : decode method_3_code 36 = .ok (.lcmp, 1) := by decide +kernel
theorem d3_37 : decode method_3_code 37 = .ok (.ifCond .ne 63, 3) := by decide +kernel
theorem d3_40 : decode method_3_code 40 = .ok (.aload_n 0, 1) := by decide +kernel
theorem d3_41 : decode method_3_code 41 = .ok (.iconst 4, 1) := by decide +kernel
theorem d3_42 : decode method_3_code 42 = .ok (.laload, 1) := by decide +kernel
theorem d3_43 : decode method_3_code 43 = .ok (.aload_n 1, 1) := by decide +kernel
theorem d3_44 : decode method_3_code 44 = .ok (.iconst 4, 1) := by decide +kernel
theorem d3_45 : decode method_3_code 45 = .ok (.laload, 1) := by decide +kernel
theorem d3_46 : decode method_3_code 46 = .ok (.lcmp, 1) := by decide +kernel
theorem d3_47 : decode method_3_code 47 = .ok (.ifCond .ne 53, 3) := by decide +kernel
theorem d3_50 : decode method_3_code 50 = .ok (.aload_n 0, 1) := by decide +kernel
theorem d3_51 : decode method_3_code 51 = .ok (.iconst 5, 1) := by decide +kernel
theorem d3_52 : decode method_3_code 52 = .ok (.laload, 1) := by decide +kernel
theorem d3_53 : decode method_3_code 53 = .ok (.aload_n 1, 1) := by decide +kernel
theorem d3_54 : decode method_3_code 54 = .ok (.iconst 5, 1) := by decide +kernel
theorem d3_55 : decode method_3_code 55 = .ok (.laload, 1) := by decide +kernel
theorem d3_56 : decode method_3_code 56 = .ok (.lcmp, 1) := by decide +kernel
theorem d3_57 : decode method_3_code 57 = .ok (.ifCond .ne 43, 3) := by decide +kernel
theorem d3_60 : decode method_3_code 60 = .ok (.aload_n 0, 1) := by decide +kernel
theorem d3_61 : decode method_3_code 61 = .ok (.bipush 6, 2) := by decide +kernel
theorem d3_63 : decode method_3_code 63 = .ok (.laload, 1) := by decide +kernel
theorem d3_64 : decode method_3_code 64 = .ok (.aload_n 1, 1) := by decide +kernel
theorem d3_65 : decode method_3_code 65 = .ok (.bipush 6, 2) := by decide +kernel
theorem d3_67 : decode method_3_code 67 = .ok (.laload, 1) := by decide +kernel
theorem d3_68 : decode method_3_code 68 = .ok (.lcmp, 1) := by decide +kernel
theorem d3_69 : decode method_3_code 69 = .ok (.ifCond .ne 31, 3) := by decide +kernel
theorem d3_72 : decode method_3_code 72 = .ok (.aload_n 0, 1) := by decide +kernel
theorem d3_73 : decode method_3_code 73 = .ok (.bipush 7, 2) := by decide +kernel
theorem d3_75 : decode method_3_code 75 = .ok (.laload, 1) := by decide +kernel
theorem d3_76 : decode method_3_code 76 = .ok (.aload_n 1, 1) := by decide +kernel
theorem d3_77 : decode method_3_code 77 = .ok (.bipush 7, 2) := by decide +kernel
theorem d3_79 : decode method_3_code 79 = .ok (.laload, 1) := by decide +kernel
theorem d3_80 : decode method_3_code 80 = .ok (.lcmp, 1) := by decide +kernel
theorem d3_81 : decode method_3_code 81 = .ok (.ifCond .ne 19, 3) := by decide +kernel
theorem d3_84 : decode method_3_code 84 = .ok (.aload_n 0, 1) := by decide +kernel
theorem d3_85 : decode method_3_code 85 = .ok (.bipush 8, 2) := by decide +kernel
theorem d3_87 : decode method_3_code 87 = .ok (.laload, 1) := by decide +kernel
theorem d3_88 : decode method_3_code 88 = .ok (.aload_n 1, 1) := by decide +kernel
theorem d3_89 : decode method_3_code 89 = .ok (.bipush 8, 2) := by decide +kernel
theorem d3_91 : decode method_3_code 91 = .ok (.laload, 1) := by decide +kernel
theorem d3_92 : decode method_3_code 92 = .ok (.lcmp, 1) := by decide +kernel
theorem d3_93 : decode method_3_code 93 = .ok (.ifCond .ne 7, 3) := by decide +kernel
theorem d3_96 : decode method_3_code 96 = .ok (.iconst 1, 1) := by decide +kernel
theorem d3_97 : decode method_3_code 97 = .ok (.goto 4, 3) := by decide +kernel
theorem d3_100 : decode method_3_code 100 = .ok (.iconst 0, 1) := by decide +kernel
theorem d3_101 : decode method_3_code 101 = .ok (.ireturn, 1) := by decide +kernel
theorem ef3 (m : MethodId) (a : Addr) (b : Addr) : entryFrame m #[(.ref a), (.ref b)] 2 = mkF m 0 #[.val (.ref a), .val (.ref b)] [] := by first | (simp [entryFrame, mkF, argsToLocals, Value.category]; done) | rfl
abbrev Q_same (Z : State) (h0 : Heap) (a : Addr) (b : Addr) (r0 : Int64) (r1 : Int64) (r2 : Int64) (r3 : Int64) (r4 : Int64) (r5 : Int64) (r6 : Int64) (r7 : Int64) (r8 : Int64) : Option Value → Heap → Prop := fun v h' => v = some (.int 1) ∧ h0 = h'
abbrev R_same : Room := { frames := 0, cells := 0, slots := 0, locals := 0 }
set_option maxRecDepth 65536 in
set_option maxHeartbeats 40000000 in
theorem m_same (l : Launch) (Z : State) (a0 : Array Value) (hw : ∀ d ∈ tables_1, d.before a0 Z = true) (a : Addr) (b : Addr) (r0 : Int64) (r1 : Int64) (r2 : Int64) (r3 : Int64) (r4 : Int64) (r5 : Int64) (r6 : Int64) (r7 : Int64) (r8 : Int64) (h0 : Heap) (n0 : Nat) (Z0 : n0 ≤ h0.size) (O_a : Longs Z h0 a [r0, r1, r2, r3, r4, r5, r6, r7, r8]) (O_b : Longs Z h0 b [r0, r1, r2, r3, r4, r5, r6, r7, r8]) : Met l Z (⟨"com/example/veilrelay/veilrelay/core/curve/P521FieldSelectPinLaw", "same", "([J[J)Z"⟩ : MethodName) method_3_code 2 (some .boolean) R_same #[(.ref a), (.ref b)] h0 n0 (Q_same Z h0 a b r0 r1 r2 r3 r4 r5 r6 r7 r8) := by
  refine Met.of (plainFor_of_name pn0) (fun m => ef3 m a b) ?_
  intro p e s m args below meth c C
  refine G.aloadN C d3_0 rfl rfl (n := 1) rfl ?_
  refine G.iconst C (v := (0 : Int32)) d3_1 (by decide) (n := 2) rfl ?_
  refine G.laload C (x := r0) O_a (by decide) rfl d3_2 (n := 3) rfl ?_
  refine G.aloadN C d3_3 rfl rfl (n := 4) rfl ?_
  refine G.iconst C (v := (0 : Int32)) d3_4 (by decide) (n := 5) rfl ?_
  refine G.laload C (x := r0) O_b (by decide) rfl d3_5 (n := 6) rfl ?_
  refine G.lcmp_ne C (A := r0.toInt) (B := r0.toInt) rfl rfl d3_6 d3_7 (by decide) (by decide) (n := 10) (n' := 100) rfl (fun c7_1 c7_1i => ?_) (fun c7_1 c7_1i => ?_)
  · exact absurd rfl c7_1
  refine G.aloadN C d3_10 rfl rfl (n := 11) rfl ?_
  refine G.iconst C (v := (1 : Int32)) d3_11 (by decide) (n := 12) rfl ?_
  refine G.laload C (x := r1) O_a (by decide) rfl d3_12 (n := 13) rfl ?_
  refine G.aloadN C d3_13 rfl rfl (n := 14) rfl ?_
  refine G.iconst C (v := (1 : Int32)) d3_14 (by decide) (n := 15) rfl ?_
  refine G.laload C (x := r1) O_b (by decide) rfl d3_15 (n := 16) rfl ?_
  refine G.lcmp_ne C (A := r1.toInt) (B := r1.toInt) rfl rfl d3_16 d3_17 (by decide) (by decide) (n := 20) (n' := 100) rfl (fun c17_2 c17_2i => ?_) (fun c17_2 c17_2i => ?_)
  · exact absurd rfl c17_2
  refine G.aloadN C d3_20 rfl rfl (n := 21) rfl ?_
  refine G.iconst C (v := (2 : Int32)) d3_21 (by decide) (n := 22) rfl ?_
  refine G.laload C (x := r2) O_a (by decide) rfl d3_22 (n := 23) rfl ?_
  refine G.aloadN C d3_23 rfl rfl (n := 24) rfl ?_
  refine G.iconst C (v := (2 : Int32)) d3_24 (by decide) (n := 25) rfl ?_
  refine G.laload C (x := r2) O_b (by decide) rfl d3_25 (n := 26) rfl ?_
  refine G.lcmp_ne C (A := r2.toInt) (B := r2.toInt) rfl rfl d3_26 d3_27 (by decide) (by decide) (n := 30) (n' := 100) rfl (fun c27_3 c27_3i => ?_) (fun c27_3 c27_3i => ?_)
  · exact absurd rfl c27_3
  refine G.aloadN C d3_30 rfl rfl (n := 31) rfl ?_
  refine G.iconst C (v := (3 : Int32)) d3_31 (by decide) (n := 32) rfl ?_
  refine G.laload C (x := r3) O_a (by decide) rfl d3_32 (n := 33) rfl ?_
  refine G.aloadN C d3_33 rfl rfl (n := 34) rfl ?_
  refine G.iconst C (v := (3 : Int32)) d3_34 (by decide) (n := 35) rfl ?_
  refine G.laload C (x := r3) O_b (by decide) rfl d3_35 (n := 36) rfl ?_
  refine G.lcmp_ne C (A := r3.toInt) (B := r3.toInt) rfl rfl d3_36 d3_37 (by decide) (by decide) (n := 40) (n' := 100) rfl (fun c37_4 c37_4i => ?_) (fun c37_4 c37_4i => ?_)
  · exact absurd rfl c37_4
  refine G.aloadN C d3_40 rfl rfl (n := 41) rfl ?_
  refine G.iconst C (v := (4 : Int32)) d3_41 (by decide) (n := 42) rfl ?_
  refine G.laload C (x := r4) O_a (by decide) rfl d3_42 (n := 43) rfl ?_
  refine G.aloadN C d3_43 rfl rfl (n := 44) rfl ?_
  refine G.iconst C (v := (4 : Int32)) d3_44 (by decide) (n := 45) rfl ?_
  refine G.laload C (x := r4) O_b (by decide) rfl d3_45 (n := 46) rfl ?_
  refine G.lcmp_ne C (A := r4.toInt) (B := r4.toInt) rfl rfl d3_46 d3_47 (by decide) (by decide) (n := 50) (n' := 100) rfl (fun c47_5 c47_5i => ?_) (fun c47_5 c47_5i => ?_)
  · exact absurd rfl c47_5
  refine G.aloadN C d3_50 rfl rfl (n := 51) rfl ?_
  refine G.iconst C (v := (5 : Int32)) d3_51 (by decide) (n := 52) rfl ?_
  refine G.laload C (x := r5) O_a (by decide) rfl d3_52 (n := 53) rfl ?_
  refine G.aloadN C d3_53 rfl rfl (n := 54) rfl ?_
  refine G.iconst C (v := (5 : Int32)) d3_54 (by decide) (n := 55) rfl ?_
  refine G.laload C (x := r5) O_b (by decide) rfl d3_55 (n := 56) rfl ?_
  refine G.lcmp_ne C (A := r5.toInt) (B := r5.toInt) rfl rfl d3_56 d3_57 (by decide) (by decide) (n := 60) (n' := 100) rfl (fun c57_6 c57_6i => ?_) (fun c57_6 c57_6i => ?_)
  · exact absurd rfl c57_6
  refine G.aloadN C d3_60 rfl rfl (n := 61) rfl ?_
  refine G.bipush C (v := (6 : Int32)) d3_61 (by decide) (n := 63) rfl ?_
  refine G.laload C (x := r6) O_a (by decide) rfl d3_63 (n := 64) rfl ?_
  refine G.aloadN C d3_64 rfl rfl (n := 65) rfl ?_
  refine G.bipush C (v := (6 : Int32)) d3_65 (by decide) (n := 67) rfl ?_
  refine G.laload C (x := r6) O_b (by decide) rfl d3_67 (n := 68) rfl ?_
  refine G.lcmp_ne C (A := r6.toInt) (B := r6.toInt) rfl rfl d3_68 d3_69 (by decide) (by decide) (n := 72) (n' := 100) rfl (fun c69_7 c69_7i => ?_) (fun c69_7 c69_7i => ?_)
  · exact absurd rfl c69_7
  refine G.aloadN C d3_72 rfl rfl (n := 73) rfl ?_
  refine G.bipush C (v := (7 : Int32)) d3_73 (by decide) (n := 75) rfl ?_
  refine G.laload C (x := r7) O_a (by decide) rfl d3_75 (n := 76) rfl ?_
  refine G.aloadN C d3_76 rfl rfl (n := 77) rfl ?_
  refine G.bipush C (v := (7 : Int32)) d3_77 (by decide) (n := 79) rfl ?_
  refine G.laload C (x := r7) O_b (by decide) rfl d3_79 (n := 80) rfl ?_
  refine G.lcmp_ne C (A := r7.toInt) (B := r7.toInt) rfl rfl d3_80 d3_81 (by decide) (by decide) (n := 84) (n' := 100) rfl (fun c81_8 c81_8i => ?_) (fun c81_8 c81_8i => ?_)
  · exact absurd rfl c81_8
  refine G.aloadN C d3_84 rfl rfl (n := 85) rfl ?_
  refine G.bipush C (v := (8 : Int32)) d3_85 (by decide) (n := 87) rfl ?_
  refine G.laload C (x := r8) O_a (by decide) rfl d3_87 (n := 88) rfl ?_
  refine G.aloadN C d3_88 rfl rfl (n := 89) rfl ?_
  refine G.bipush C (v := (8 : Int32)) d3_89 (by decide) (n := 91) rfl ?_
  refine G.laload C (x := r8) O_b (by decide) rfl d3_91 (n := 92) rfl ?_
  refine G.lcmp_ne C (A := r8.toInt) (B := r8.toInt) rfl rfl d3_92 d3_93 (by decide) (by decide) (n := 96) (n' := 100) rfl (fun c93_9 c93_9i => ?_) (fun c93_9 c93_9i => ?_)
  · exact absurd rfl c93_9
  refine G.iconst C (v := (1 : Int32)) d3_96 (by decide) (n := 97) rfl ?_
  refine G.goto C d3_97 (by decide) (n := 101) (by decide) ?_
  refine G.ireturn C d3_101 (rfl) (by simp) (by decide) (by decide) ?_
  exact ⟨rfl, rfl⟩
theorem pd0 : parseMethodDescriptor "(JJ)[J" = some ⟨[.long, .long], some (.array .long)⟩ := by decide +kernel
theorem pd1 : parseMethodDescriptor "([J[JJ)V" = some ⟨[(.array .long), (.array .long), .long], none⟩ := by decide +kernel
theorem pd2 : parseMethodDescriptor "([J[J)Z" = some ⟨[(.array .long), (.array .long)], some .boolean⟩ := by decide +kernel
theorem ef4 (m : MethodId) (i0 : Int64) (i1 : Int64) (i2 : Int64) (i3 : Int64) (i4 : Int32) : entryFrame m #[(.long i0), (.long i1), (.long i2), (.long i3), (.int i4)] 17 = mkF m 0 #[.val (.long i0), .second, .val (.long i1), .second, .val (.long i2), .second, .val (.long i3), .second, .val (.int i4), .unset, .unset, .unset, .unset, .unset, .unset, .unset, .unset] [] := by first | (simp [entryFrame, mkF, argsToLocals, Value.category]; done) | rfl
abbrev Q_law (Z : State) (h0 : Heap) (i0 : Int64) (i1 : Int64) (i2 : Int64) (i3 : Int64) (i4 : Int32) : Option Value → Heap → Prop := fun v h' => v = some (.int 1)
set_option maxRecDepth 65536 in
set_option maxHeartbeats 40000000 in
theorem m_law (l : Launch) (Z : State) (a0 : Array Value) (hw : ∀ d ∈ tables_1, d.before a0 Z = true) (i0 : Int64) (i1 : Int64) (i2 : Int64) (i3 : Int64) (i4 : Int32) (h0 : Heap) (n0 : Nat) (Z0 : n0 ≤ h0.size)  : Met l Z (⟨"com/example/veilrelay/veilrelay/core/curve/P521FieldSelectPinLaw", "law", "(JJJJI)Z"⟩ : MethodName) code 17 (some .boolean) room_1 #[(.long i0), (.long i1), (.long i2), (.long i3), (.int i4)] h0 n0 (Q_law Z h0 i0 i1 i2 i3 i4) := by
  refine Met.of (plainFor_of_name pn0) (fun m => ef4 m i0 i1 i2 i3 i4) ?_
  intro p e s m args below meth c C
  refine G.iload C at_0 rfl (n := 2) rfl ?_
  refine G.iconst C (v := (1 : Int32)) at_2 (by decide) (n := 3) rfl ?_
  refine G.iand C at_3 (n := 4) rfl ?_
  refine G.if_eq C (A := (i4 &&& (1 : Int32)).toInt) rfl at_4 (by decide) (by decide) (n := 7) (n' := 11) rfl (fun c4_1 c4_1i => ?_) (fun c4_1 c4_1i => ?_)
  · refine G.iconst C (v := (0 : Int32)) at_11 (by decide) (n := 12) rfl ?_
    refine G.istore C at_12 (l' := #[.val (.long i0), .second, .val (.long i1), .second, .val (.long i2), .second, .val (.long i3), .second, .val (.int i4), .val (.int (0 : Int32)), .unset, .unset, .unset, .unset, .unset, .unset, .unset]) rfl (n := 14) rfl ?_
    refine G.iload C at_14 rfl (n := 16) rfl ?_
    refine G.if_eq C (A := 0) (by decide) at_16 (by decide) (by decide) (n := 19) (n' := 25) rfl (fun c16_2 c16_2i => ?_) (fun c16_2 c16_2i => ?_)
    rotate_left
    · exact absurd c16_2 (by decide)
    refine G.lconst C (v := (0 : Int64)) at_25 (by decide) (n := 26) rfl ?_
    refine G.lstore C at_26 (l' := #[.val (.long i0), .second, .val (.long i1), .second, .val (.long i2), .second, .val (.long i3), .second, .val (.int i4), .val (.int (0 : Int32)), .val (.long (0 : Int64)), .second, .unset, .unset, .unset, .unset, .unset]) rfl (n := 28) rfl ?_
    refine G.lloadN C at_28 rfl (n := 29) rfl ?_
    refine G.lloadN C at_29 rfl (n := 30) rfl ?_
    refine G.callS C (argsL := [(.long i0), (.long i1)]) (yc := (⟨"com/example/veilrelay/veilrelay/core/curve/P521FieldSelectPinLaw", "limbs", "(JJ)[J"⟩ : MethodName)) (wd hw 1 rfl) (wd hw 2 rfl) (wd hw 3 rfl) (wd hw 4 rfl) (by decide) (m_limbs l Z a0 hw i0 i1 h0 n0 Z0) rfl (by decide) (W := 0) rfl (by decide) (c' := 1) (s' := 9) rfl rfl (by decide) (by decide) at_30 (n := 33) rfl pd0 rfl rfl ?_
    rintro _ h8 ⟨b3, rfl, f4, K5, O6⟩
    have g9 : n0 ≤ b3 := Nat.le_trans Z0 f4
    have Z10 : n0 ≤ h8.size := Nat.le_trans Z0 K5.1
    refine G.astore C at_33 rfl (l' := #[.val (.long i0), .second, .val (.long i1), .second, .val (.long i2), .second, .val (.long i3), .second, .val (.int i4), .val (.int (0 : Int32)), .val (.long (0 : Int64)), .second, .val (.ref b3), .unset, .unset, .unset, .unset]) rfl (n := 35) rfl ?_
    refine G.lload C at_35 rfl (n := 37) rfl ?_
    refine G.lload C at_37 rfl (n := 39) rfl ?_
    refine G.callS C (argsL := [(.long i2), (.long i3)]) (yc := (⟨"com/example/veilrelay/veilrelay/core/curve/P521FieldSelectPinLaw", "limbs", "(JJ)[J"⟩ : MethodName)) (wd hw 1 rfl) (wd hw 2 rfl) (wd hw 3 rfl) (wd hw 4 rfl) (by decide) (m_limbs l Z a0 hw i2 i3 h8 n0 Z10) rfl (by decide) (W := 0) rfl (by decide) (c' := 2) (s' := 18) rfl rfl (by decide) (by decide) at_39 (n := 42) rfl pd0 rfl rfl ?_
    rintro _ h16 ⟨b11, rfl, f12, K13, O14⟩
    have ne17 : b3 ≠ b11 := Nat.ne_of_lt (Nat.lt_of_lt_of_le O6.lt f12)
    have g18 : n0 ≤ b11 := Nat.le_trans Z10 f12
    have O19 := O6.keep K13 nin0
    have Z20 : n0 ≤ h16.size := Nat.le_trans Z10 K13.1
    refine G.astore C at_42 rfl (l' := #[.val (.long i0), .second, .val (.long i1), .second, .val (.long i2), .second, .val (.long i3), .second, .val (.int i4), .val (.int (0 : Int32)), .val (.long (0 : Int64)), .second, .val (.ref b3), .val (.ref b11), .unset, .unset, .unset]) rfl (n := 44) rfl ?_
    refine G.lloadN C at_44 rfl (n := 45) rfl ?_
    refine G.lloadN C at_45 rfl (n := 46) rfl ?_
    refine G.callS C (argsL := [(.long i0), (.long i1)]) (yc := (⟨"com/example/veilrelay/veilrelay/core/curve/P521FieldSelectPinLaw", "limbs", "(JJ)[J"⟩ : MethodName)) (wd hw 1 rfl) (wd hw 2 rfl) (wd hw 3 rfl) (wd hw 4 rfl) (by decide) (m_limbs l Z a0 hw i0 i1 h16 n0 Z20) rfl (by decide) (W := 0) rfl (by decide) (c' := 3) (s' := 27) rfl rfl (by decide) (by decide) at_46 (n := 49) rfl pd0 rfl rfl ?_
    rintro _ h26 ⟨b21, rfl, f22, K23, O24⟩
    have ne27 : b3 ≠ b21 := Nat.ne_of_lt (Nat.lt_of_lt_of_le O19.lt f22)
    have ne28 : b11 ≠ b21 := Nat.ne_of_lt (Nat.lt_of_lt_of_le O14.lt f22)
    have g29 : n0 ≤ b21 := Nat.le_trans Z20 f22
    have O30 := O19.keep K23 nin0
    have O31 := O14.keep K23 nin0
    have Z32 : n0 ≤ h26.size := Nat.le_trans Z20 K23.1
    refine G.astore C at_49 rfl (l' := #[.val (.long i0), .second, .val (.long i1), .second, .val (.long i2), .second, .val (.long i3), .second, .val (.int i4), .val (.int (0 : Int32)), .val (.long (0 : Int64)), .second, .val (.ref b3), .val (.ref b11), .val (.ref b21), .unset, .unset]) rfl (n := 51) rfl ?_
    refine G.lload C at_51 rfl (n := 53) rfl ?_
    refine G.lload C at_53 rfl (n := 55) rfl ?_
    refine G.callS C (argsL := [(.long i2), (.long i3)]) (yc := (⟨"com/example/veilrelay/veilrelay/core/curve/P521FieldSelectPinLaw", "limbs", "(JJ)[J"⟩ : MethodName)) (wd hw 1 rfl) (wd hw 2 rfl) (wd hw 3 rfl) (wd hw 4 rfl) (by decide) (m_limbs l Z a0 hw i2 i3 h26 n0 Z32) rfl (by decide) (W := 0) rfl (by decide) (c' := 4) (s' := 36) rfl rfl (by decide) (by decide) at_55 (n := 58) rfl pd0 rfl rfl ?_
    rintro _ h38 ⟨b33, rfl, f34, K35, O36⟩
    have ne39 : b3 ≠ b33 := Nat.ne_of_lt (Nat.lt_of_lt_of_le O30.lt f34)
    have ne40 : b11 ≠ b33 := Nat.ne_of_lt (Nat.lt_of_lt_of_le O31.lt f34)
    have ne41 : b21 ≠ b33 := Nat.ne_of_lt (Nat.lt_of_lt_of_le O24.lt f34)
    have g42 : n0 ≤ b33 := Nat.le_trans Z32 f34
    have O43 := O30.keep K35 nin0
    have O44 := O31.keep K35 nin0
    have O45 := O24.keep K35 nin0
    have Z46 : n0 ≤ h38.size := Nat.le_trans Z32 K35.1
    refine G.astore C at_58 rfl (l' := #[.val (.long i0), .second, .val (.long i1), .second, .val (.long i2), .second, .val (.long i3), .second, .val (.int i4), .val (.int (0 : Int32)), .val (.long (0 : Int64)), .second, .val (.ref b3), .val (.ref b11), .val (.ref b21), .val (.ref b33), .unset]) rfl (n := 60) rfl ?_
    refine G.aload C at_60 rfl rfl (n := 62) rfl ?_
    refine G.aload C at_62 rfl rfl (n := 64) rfl ?_
    refine G.lload C at_64 rfl (n := 66) rfl ?_
    refine G.callS C (argsL := [(.ref b3), (.ref b11), (.long (0 : Int64))]) (yc := (⟨"com/example/veilrelay/veilrelay/core/curve/P521Field", "select", "([J[JJ)V"⟩ : MethodName)) (wd hw 8 rfl) (wd hw 9 rfl) (wd hw 10 rfl) (wd hw 11 rfl) (by decide) (m_select l Z a0 hw b3 b11 (0 : Int64) i0 i1 (i0 ^^^ i1) (i0 + i1) (i0 ^^^ (-1 : Int64)) (i0 - i1) ((3 : Int64) * i1) (((5 : Int64) * i0) ^^^ i1) (-i0) i2 i3 (i2 ^^^ i3) (i2 + i3) (i2 ^^^ (-1 : Int64)) (i2 - i3) ((3 : Int64) * i3) (((5 : Int64) * i2) ^^^ i3) (-i2) h38 n0 Z46 O43 O44 (Ne.symm ne17) g9) rfl (by decide) (W := 0) rfl (by decide) (c' := 4) (s' := 36) rfl rfl (by decide) (by decide) at_66 (n := 69) rfl pd1 rfl rfl ?_
    rintro _ h50 ⟨rfl, K47, O48⟩
    have O51 : Longs Z h50 b3 [i0, i1, (i0 ^^^ i1), (i0 + i1), (i0 ^^^ (-1 : Int64)), (i0 - i1), ((3 : Int64) * i1), (((5 : Int64) * i0) ^^^ i1), (-i0)] := by simpa only [sel_n] using O48
    have O52 := O44.keep K47 (ninS (Ne.symm ne17) nin0)
    have O53 := O45.keep K47 (ninS (Ne.symm ne27) nin0)
    have O54 := O36.keep K47 (ninS (Ne.symm ne39) nin0)
    have Z55 : n0 ≤ h50.size := Nat.le_trans Z46 K47.1
    refine G.iload C at_69 rfl (n := 71) rfl ?_
    refine G.if_eq C (A := 0) (by decide) at_71 (by decide) (by decide) (n := 74) (n' := 79) rfl (fun c71_56 c71_56i => ?_) (fun c71_56 c71_56i => ?_)
    rotate_left
    · exact absurd c71_56 (by decide)
    refine G.aload C at_79 rfl rfl (n := 81) rfl ?_
    refine G.astore C at_81 rfl (l' := #[.val (.long i0), .second, .val (.long i1), .second, .val (.long i2), .second, .val (.long i3), .second, .val (.int i4), .val (.int (0 : Int32)), .val (.long (0 : Int64)), .second, .val (.ref b3), .val (.ref b11), .val (.ref b21), .val (.ref b33), .val (.ref b21)]) rfl (n := 83) rfl ?_
    refine G.aload C at_83 rfl rfl (n := 85) rfl ?_
    refine G.aload C at_85 rfl rfl (n := 87) rfl ?_
    refine G.callS C (argsL := [(.ref b3), (.ref b21)]) (yc := (⟨"com/example/veilrelay/veilrelay/core/curve/P521FieldSelectPinLaw", "same", "([J[J)Z"⟩ : MethodName)) (wd hw 12 rfl) (wd hw 13 rfl) (wd hw 3 rfl) (wd hw 14 rfl) (by decide) (m_same l Z a0 hw b3 b21 i0 i1 (i0 ^^^ i1) (i0 + i1) (i0 ^^^ (-1 : Int64)) (i0 - i1) ((3 : Int64) * i1) (((5 : Int64) * i0) ^^^ i1) (-i0) h50 n0 Z55 O51 O53) rfl (by decide) (W := 0) rfl (by decide) (c' := 4) (s' := 36) rfl rfl (by decide) (by decide) at_87 (n := 90) rfl pd2 rfl rfl ?_
    rintro _ _ ⟨rfl, rfl⟩
    refine G.if_eq C (A := 1) (by decide) at_90 (by decide) (by decide) (n := 93) (n' := 107) rfl (fun c90_59 c90_59i => ?_) (fun c90_59 c90_59i => ?_)
    · exact absurd c90_59 (by decide)
    refine G.aload C at_93 rfl rfl (n := 95) rfl ?_
    refine G.aload C at_95 rfl rfl (n := 97) rfl ?_
    refine G.callS C (argsL := [(.ref b11), (.ref b33)]) (yc := (⟨"com/example/veilrelay/veilrelay/core/curve/P521FieldSelectPinLaw", "same", "([J[J)Z"⟩ : MethodName)) (wd hw 12 rfl) (wd hw 13 rfl) (wd hw 3 rfl) (wd hw 14 rfl) (by decide) (m_same l Z a0 hw b11 b33 i2 i3 (i2 ^^^ i3) (i2 + i3) (i2 ^^^ (-1 : Int64)) (i2 - i3) ((3 : Int64) * i3) (((5 : Int64) * i2) ^^^ i3) (-i2) h50 n0 Z55 O52 O54) rfl (by decide) (W := 0) rfl (by decide) (c' := 4) (s' := 36) rfl rfl (by decide) (by decide) at_97 (n := 100) rfl pd2 rfl rfl ?_
    rintro _ _ ⟨rfl, rfl⟩
    refine G.if_eq C (A := 1) (by decide) at_100 (by decide) (by decide) (n := 103) (n' := 107) rfl (fun c100_62 c100_62i => ?_) (fun c100_62 c100_62i => ?_)
    · exact absurd c100_62 (by decide)
    refine G.iconst C (v := (1 : Int32)) at_103 (by decide) (n := 104) rfl ?_
    refine G.goto C at_104 (by decide) (n := 108) (by decide) ?_
    refine G.ireturn C at_108 (rfl) (by simp) (by decide) (by decide) ?_
    exact rfl
  · refine G.iconst C (v := (1 : Int32)) at_7 (by decide) (n := 8) rfl ?_
    refine G.goto C at_8 (by decide) (n := 12) (by decide) ?_
    refine G.istore C at_12 (l' := #[.val (.long i0), .second, .val (.long i1), .second, .val (.long i2), .second, .val (.long i3), .second, .val (.int i4), .val (.int (1 : Int32)), .unset, .unset, .unset, .unset, .unset, .unset, .unset]) rfl (n := 14) rfl ?_
    refine G.iload C at_14 rfl (n := 16) rfl ?_
    refine G.if_eq C (A := 1) (by decide) at_16 (by decide) (by decide) (n := 19) (n' := 25) rfl (fun c16_63 c16_63i => ?_) (fun c16_63 c16_63i => ?_)
    · exact absurd c16_63 (by decide)
    refine G.ldc2 C (v := (-1 : Int64)) (wd hw 0 rfl) at_19 (n := 22) rfl ?_
    refine G.goto C at_22 (by decide) (n := 26) (by decide) ?_
    refine G.lstore C at_26 (l' := #[.val (.long i0), .second, .val (.long i1), .second, .val (.long i2), .second, .val (.long i3), .second, .val (.int i4), .val (.int (1 : Int32)), .val (.long (-1 : Int64)), .second, .unset, .unset, .unset, .unset, .unset]) rfl (n := 28) rfl ?_
    refine G.lloadN C at_28 rfl (n := 29) rfl ?_
    refine G.lloadN C at_29 rfl (n := 30) rfl ?_
    refine G.callS C (argsL := [(.long i0), (.long i1)]) (yc := (⟨"com/example/veilrelay/veilrelay/core/curve/P521FieldSelectPinLaw", "limbs", "(JJ)[J"⟩ : MethodName)) (wd hw 1 rfl) (wd hw 2 rfl) (wd hw 3 rfl) (wd hw 4 rfl) (by decide) (m_limbs l Z a0 hw i0 i1 h0 n0 Z0) rfl (by decide) (W := 0) rfl (by decide) (c' := 1) (s' := 9) rfl rfl (by decide) (by decide) at_30 (n := 33) rfl pd0 rfl rfl ?_
    rintro _ h69 ⟨b64, rfl, f65, K66, O67⟩
    have g70 : n0 ≤ b64 := Nat.le_trans Z0 f65
    have Z71 : n0 ≤ h69.size := Nat.le_trans Z0 K66.1
    refine G.astore C at_33 rfl (l' := #[.val (.long i0), .second, .val (.long i1), .second, .val (.long i2), .second, .val (.long i3), .second, .val (.int i4), .val (.int (1 : Int32)), .val (.long (-1 : Int64)), .second, .val (.ref b64), .unset, .unset, .unset, .unset]) rfl (n := 35) rfl ?_
    refine G.lload C at_35 rfl (n := 37) rfl ?_
    refine G.lload C at_37 rfl (n := 39) rfl ?_
    refine G.callS C (argsL := [(.long i2), (.long i3)]) (yc := (⟨"com/example/veilrelay/veilrelay/core/curve/P521FieldSelectPinLaw", "limbs", "(JJ)[J"⟩ : MethodName)) (wd hw 1 rfl) (wd hw 2 rfl) (wd hw 3 rfl) (wd hw 4 rfl) (by decide) (m_limbs l Z a0 hw i2 i3 h69 n0 Z71) rfl (by decide) (W := 0) rfl (by decide) (c' := 2) (s' := 18) rfl rfl (by decide) (by decide) at_39 (n := 42) rfl pd0 rfl rfl ?_
    rintro _ h77 ⟨b72, rfl, f73, K74, O75⟩
    have ne78 : b64 ≠ b72 := Nat.ne_of_lt (Nat.lt_of_lt_of_le O67.lt f73)
    have g79 : n0 ≤ b72 := Nat.le_trans Z71 f73
    have O80 := O67.keep K74 nin0
    have Z81 : n0 ≤ h77.size := Nat.le_trans Z71 K74.1
    refine G.astore C at_42 rfl (l' := #[.val (.long i0), .second, .val (.long i1), .second, .val (.long i2), .second, .val (.long i3), .second, .val (.int i4), .val (.int (1 : Int32)), .val (.long (-1 : Int64)), .second, .val (.ref b64), .val (.ref b72), .unset, .unset, .unset]) rfl (n := 44) rfl ?_
    refine G.lloadN C at_44 rfl (n := 45) rfl ?_
    refine G.lloadN C at_45 rfl (n := 46) rfl ?_
    refine G.callS C (argsL := [(.long i0), (.long i1)]) (yc := (⟨"com/example/veilrelay/veilrelay/core/curve/P521FieldSelectPinLaw", "limbs", "(JJ)[J"⟩ : MethodName)) (wd hw 1 rfl) (wd hw 2 rfl) (wd hw 3 rfl) (wd hw 4 rfl) (by decide) (m_limbs l Z a0 hw i0 i1 h77 n0 Z81) rfl (by decide) (W := 0) rfl (by decide) (c' := 3) (s' := 27) rfl rfl (by decide) (by decide) at_46 (n := 49) rfl pd0 rfl rfl ?_
    rintro _ h87 ⟨b82, rfl, f83, K84, O85⟩
    have ne88 : b64 ≠ b82 := Nat.ne_of_lt (Nat.lt_of_lt_of_le O80.lt f83)
    have ne89 : b72 ≠ b82 := Nat.ne_of_lt (Nat.lt_of_lt_of_le O75.lt f83)
    have g90 : n0 ≤ b82 := Nat.le_trans Z81 f83
    have O91 := O80.keep K84 nin0
    have O92 := O75.keep K84 nin0
    have Z93 : n0 ≤ h87.size := Nat.le_trans Z81 K84.1
    refine G.astore C at_49 rfl (l' := #[.val (.long i0), .second, .val (.long i1), .second, .val (.long i2), .second, .val (.long i3), .second, .val (.int i4), .val (.int (1 : Int32)), .val (.long (-1 : Int64)), .second, .val (.ref b64), .val (.ref b72), .val (.ref b82), .unset, .unset]) rfl (n := 51) rfl ?_
    refine G.lload C at_51 rfl (n := 53) rfl ?_
    refine G.lload C at_53 rfl (n := 55) rfl ?_
    refine G.callS C (argsL := [(.long i2), (.long i3)]) (yc := (⟨"com/example/veilrelay/veilrelay/core/curve/P521FieldSelectPinLaw", "limbs", "(JJ)[J"⟩ : MethodName)) (wd hw 1 rfl) (wd hw 2 rfl) (wd hw 3 rfl) (wd hw 4 rfl) (by decide) (m_limbs l Z a0 hw i2 i3 h87 n0 Z93) rfl (by decide) (W := 0) rfl (by decide) (c' := 4) (s' := 36) rfl rfl (by decide) (by decide) at_55 (n := 58) rfl pd0 rfl rfl ?_
    rintro _ h99 ⟨b94, rfl, f95, K96, O97⟩
    have ne100 : b64 ≠ b94 := Nat.ne_of_lt (Nat.lt_of_lt_of_le O91.lt f95)
    have ne101 : b72 ≠ b94 := Nat.ne_of_lt (Nat.lt_of_lt_of_le O92.lt f95)
    have ne102 : b82 ≠ b94 := Nat.ne_of_lt (Nat.lt_of_lt_of_le O85.lt f95)
    have g103 : n0 ≤ b94 := Nat.le_trans Z93 f95
    have O104 := O91.keep K96 nin0
    have O105 := O92.keep K96 nin0
    have O106 := O85.keep K96 nin0
    have Z107 : n0 ≤ h99.size := Nat.le_trans Z93 K96.1
    refine G.astore C at_58 rfl (l' := #[.val (.long i0), .second, .val (.long i1), .second, .val (.long i2), .second, .val (.long i3), .second, .val (.int i4), .val (.int (1 : Int32)), .val (.long (-1 : Int64)), .second, .val (.ref b64), .val (.ref b72), .val (.ref b82), .val (.ref b94), .unset]) rfl (n := 60) rfl ?_
    refine G.aload C at_60 rfl rfl (n := 62) rfl ?_
    refine G.aload C at_62 rfl rfl (n := 64) rfl ?_
    refine G.lload C at_64 rfl (n := 66) rfl ?_
    refine G.callS C (argsL := [(.ref b64), (.ref b72), (.long (-1 : Int64))]) (yc := (⟨"com/example/veilrelay/veilrelay/core/curve/P521Field", "select", "([J[JJ)V"⟩ : MethodName)) (wd hw 8 rfl) (wd hw 9 rfl) (wd hw 10 rfl) (wd hw 11 rfl) (by decide) (m_select l Z a0 hw b64 b72 (-1 : Int64) i0 i1 (i0 ^^^ i1) (i0 + i1) (i0 ^^^ (-1 : Int64)) (i0 - i1) ((3 : Int64) * i1) (((5 : Int64) * i0) ^^^ i1) (-i0) i2 i3 (i2 ^^^ i3) (i2 + i3) (i2 ^^^ (-1 : Int64)) (i2 - i3) ((3 : Int64) * i3) (((5 : Int64) * i2) ^^^ i3) (-i2) h99 n0 Z107 O104 O105 (Ne.symm ne78) g70) rfl (by decide) (W := 0) rfl (by decide) (c' := 4) (s' := 36) rfl rfl (by decide) (by decide) at_66 (n := 69) rfl pd1 rfl rfl ?_
    rintro _ h111 ⟨rfl, K108, O109⟩
    have O112 : Longs Z h111 b64 [i2, i3, (i2 ^^^ i3), (i2 + i3), (i2 ^^^ (-1 : Int64)), (i2 - i3), ((3 : Int64) * i3), (((5 : Int64) * i2) ^^^ i3), (-i2)] := by simpa only [sel_y] using O109
    have O113 := O105.keep K108 (ninS (Ne.symm ne78) nin0)
    have O114 := O106.keep K108 (ninS (Ne.symm ne88) nin0)
    have O115 := O97.keep K108 (ninS (Ne.symm ne100) nin0)
    have Z116 : n0 ≤ h111.size := Nat.le_trans Z107 K108.1
    refine G.iload C at_69 rfl (n := 71) rfl ?_
    refine G.if_eq C (A := 1) (by decide) at_71 (by decide) (by decide) (n := 74) (n' := 79) rfl (fun c71_117 c71_117i => ?_) (fun c71_117 c71_117i => ?_)
    · exact absurd c71_117 (by decide)
    refine G.aload C at_74 rfl rfl (n := 76) rfl ?_
    refine G.goto C at_76 (by decide) (n := 81) (by decide) ?_
    refine G.astore C at_81 rfl (l' := #[.val (.long i0), .second, .val (.long i1), .second, .val (.long i2), .second, .val (.long i3), .second, .val (.int i4), .val (.int (1 : Int32)), .val (.long (-1 : Int64)), .second, .val (.ref b64), .val (.ref b72), .val (.ref b82), .val (.ref b94), .val (.ref b94)]) rfl (n := 83) rfl ?_
    refine G.aload C at_83 rfl rfl (n := 85) rfl ?_
    refine G.aload C at_85 rfl rfl (n := 87) rfl ?_
    refine G.callS C (argsL := [(.ref b64), (.ref b94)]) (yc := (⟨"com/example/veilrelay/veilrelay/core/curve/P521FieldSelectPinLaw", "same", "([J[J)Z"⟩ : MethodName)) (wd hw 12 rfl) (wd hw 13 rfl) (wd hw 3 rfl) (wd hw 14 rfl) (by decide) (m_same l Z a0 hw b64 b94 i2 i3 (i2 ^^^ i3) (i2 + i3) (i2 ^^^ (-1 : Int64)) (i2 - i3) ((3 : Int64) * i3) (((5 : Int64) * i2) ^^^ i3) (-i2) h111 n0 Z116 O112 O115) rfl (by decide) (W := 0) rfl (by decide) (c' := 4) (s' := 36) rfl rfl (by decide) (by decide) at_87 (n := 90) rfl pd2 rfl rfl ?_
    rintro _ _ ⟨rfl, rfl⟩
    refine G.if_eq C (A := 1) (by decide) at_90 (by decide) (by decide) (n := 93) (n' := 107) rfl (fun c90_120 c90_120i => ?_) (fun c90_120 c90_120i => ?_)
    · exact absurd c90_120 (by decide)
    refine G.aload C at_93 rfl rfl (n := 95) rfl ?_
    refine G.aload C at_95 rfl rfl (n := 97) rfl ?_
    refine G.callS C (argsL := [(.ref b72), (.ref b94)]) (yc := (⟨"com/example/veilrelay/veilrelay/core/curve/P521FieldSelectPinLaw", "same", "([J[J)Z"⟩ : MethodName)) (wd hw 12 rfl) (wd hw 13 rfl) (wd hw 3 rfl) (wd hw 14 rfl) (by decide) (m_same l Z a0 hw b72 b94 i2 i3 (i2 ^^^ i3) (i2 + i3) (i2 ^^^ (-1 : Int64)) (i2 - i3) ((3 : Int64) * i3) (((5 : Int64) * i2) ^^^ i3) (-i2) h111 n0 Z116 O113 O115) rfl (by decide) (W := 0) rfl (by decide) (c' := 4) (s' := 36) rfl rfl (by decide) (by decide) at_97 (n := 100) rfl pd2 rfl rfl ?_
    rintro _ _ ⟨rfl, rfl⟩
    refine G.if_eq C (A := 1) (by decide) at_100 (by decide) (by decide) (n := 103) (n' := 107) rfl (fun c100_123 c100_123i => ?_) (fun c100_123 c100_123i => ?_)
    · exact absurd c100_123 (by decide)
    refine G.iconst C (v := (1 : Int32)) at_103 (by decide) (n := 104) rfl ?_
    refine G.goto C at_104 (by decide) (n := 108) (by decide) ?_
    refine G.ireturn C at_108 (rfl) (by simp) (by decide) (by decide) ?_
    exact rfl
set_option maxRecDepth 65536 in
set_option maxHeartbeats 40000000 in
theorem comes_1 {Post : Tables → Env → Array Value → State → Outcome → State → Prop} (hpost : ∀ tb e args s v u, (limb_1_1.after args s (.returned v) u = true ∧ limb_1_2.after args s (.returned v) u = true ∧ True) → FrameEnd s (.returned v) u (Jvm.fieldLocs frame_1_writes args s ++ Jvm.arrayLocs frame_1_arrays args s ++ Jvm.staticLocs frame_1_statics s) 16 192 → Post tb e args s (.returned v) u) :
    ArmFor flags0 classFile x code maxLocals ret World_1 tables_1 room_1 Calls_1 rest_1 Pre_1 Post := by
  intro l hfl _ _ p e ha hc hk s m args below hf hA hF happ hP
  obtain ⟨hcalls, hrest, hpre⟩ := hP
  obtain ⟨-, -, -, hnamed, -, -, -, hat⟩ := (Spec.applies_iff hf).mp happ
  obtain ⟨hg, hn⟩ := and_e (Cond.before_iff.mp (show (Jvm.Cond.and given_1 narrow_1).before args s = true from hpre))
  obtain ⟨k1, k2⟩ := and_e hg
  obtain ⟨w0, w1, w2, w3, w4, rfl⟩ : ∃ w0 w1 w2 w3 w4 : Value, args = #[w0, w1, w2, w3, w4] := by
    have hs : args.size = 5 := by simpa [Cond.value, given_1] using k1
    obtain ⟨L⟩ := args
    match L, hs with
    | [w0, w1, w2, w3, w4], _ => exact ⟨w0, w1, w2, w3, w4, rfl⟩
  have hw := fun d (hd : d ∈ tables_1) => atoms_spec (ws := Jvm.Cond.code x code maxLocals ret :: tables_1) hat d (List.mem_cons_of_mem _ hd)
  have hfit : Fit s := fun {y c} hc i hi => by
    obtain ⟨ha, rfl⟩ := Array.getElem?_eq_some_iff.mp hc
    have q := List.all_eq_true.mp ((Array.all_eq_true_iff_forall_mem.mp hF) _ (Array.getElem_mem ha)) i (List.mem_range.mpr hi)
    simpa [Array.getElem?_eq_getElem hi] using q
  obtain ⟨u0, k2⟩ := and_e k2
  obtain ⟨i0, e0⟩ := isL_v u0
  obtain rfl : w0 = (.long i0) := Option.some.inj e0
  obtain ⟨u1, k2⟩ := and_e k2
  obtain ⟨i1, e1⟩ := isL_v u1
  obtain rfl : w1 = (.long i1) := Option.some.inj e1
  obtain ⟨u2, k2⟩ := and_e k2
  obtain ⟨i2, e2⟩ := isL_v u2
  obtain rfl : w2 = (.long i2) := Option.some.inj e2
  obtain ⟨u3, k2⟩ := and_e k2
  obtain ⟨i3, e3⟩ := isL_v u3
  obtain rfl : w3 = (.long i3) := Option.some.inj e3
  have u4 := k2
  obtain ⟨i4, e4⟩ := is_v u4
  obtain rfl : w4 = (.int i4) := Option.some.inj e4
  obtain ⟨n, o, h1, h2, h3, _, L, rfl, ⟨N, rfl⟩, hq⟩ := m_law l s _ hw i0 i1 i2 i3 i4 s.heap s.heap.size (Nat.le_refl _)  tables_1 p e ha hc hk s m _ below hf ((Spec.applies_iff_loose hf).mp happ).1 ⟨rfl, State.Warmed39.refl s, rfl⟩ trivial
  refine ⟨n, _, h1, h2, h3, hpost _ _ _ _ _ _ ⟨Cond.after_iff.mpr rfl, Cond.after_iff.mpr (eq_i res_at (Term.int_eval (1)) rfl), trivial⟩ ⟨hq.1, hq.2.1, (hq.2.2.sift fun y hy => Or.inr (N y hy)).mono (by decide) (by decide)⟩⟩
theorem main_1_1 : Claimed_1_1 := comes_1 fun _ _ _ _ _ _ h hF => ⟨h.1, hF⟩
theorem main_1_2 : Claimed_1_2 := comes_1 fun _ _ _ _ _ _ h hF => ⟨h.2.1, hF⟩
end Jvm.Pilot.@@N@@
namespace Jvm.Pilot.@@N@@
open Jvm Jvm.ClassFile Sem Op Lib Jvm.Free Jvm.Stand Jvm.Pilot.@@N@@.Jvm.D
/-! MADE BY PROGRAM (witnessworld.py) out of the Statement's table words and the real class files: 11 classes; the members and pool entries that the words name. The judged class is class 1, her method 3. -/
namespace start1
open Jvm.ClassFile
def u (s : String) : CpInfo := .utf8 (stringToUtf16 s)
/-- a pool by its gaps: so many unusable entries, then the entry; so many at the end -/
def gap : Nat → List CpInfo → List CpInfo
  | 0, r => r
  | n + 1, r => .unusable :: gap n r
def poolList (es : List (Nat × CpInfo)) (last : Nat) : List CpInfo := es.foldr (fun e r => gap e.1 (e.2 :: r)) (gap last [])
def pool (es : List (Nat × CpInfo)) (last : Nat) : Array CpInfo := ⟨poolList es last⟩
def fileOf (pool : Array CpInfo) (this : Nat) (attrs : Array Attribute := #[]) (ms : Array MethodInfo := #[]) (fl : Nat := 33) (sup : Nat := 0) (ifs : Array Nat := #[]) (fds : Array FieldInfo := #[]) : ClassFile where
  minorVersion := 0
  majorVersion := 65
  constantPool := pool
  accessFlags := fl
  thisClass := this
  superClass := sup
  interfaces := ifs
  fields := fds
  methods := ms
  attributes := attrs
def plain (name : String) (sup : Option ClassId) : Class where
  name := name
  kind := .ordinary
  loader := none
  accessFlags := 33
  super := sup
  interfaces := #[]
  cf := none
  fields := #[]
  methods := #[]
  instanceTypes := #[]
  staticTypes := #[]
  resolved := #[]
  callSites := []
  init := .initialized
  statics := none
  mirror := none

def pool0 : Array CpInfo := pool [(5, u "<init>"), (0, u "()V"), (1, .class_ 10), (1, u "java/lang/Object")] 113

def k0m0 : Method := { name := "<init>", desc := "()V", sig := { parameters := [], returnType := none }, accessFlags := 1, code := none }
/-- java/lang/Object -/
def k0 : Class := { plain "java/lang/Object" none with
  accessFlags := 33
  interfaces := #[]
  cf := some (fileOf pool0 8 #[] #[{ accessFlags := 1, nameIndex := 5, descriptorIndex := 6, attributes := #[] }] 33 0 #[] #[])
  fields := #[]
  methods := #[k0m0]
  instanceTypes := #[]
  staticTypes := #[]
  resolved := Array.replicate 124 none
  statics := none }

def pool1 : Array CpInfo := pool [(2, .class_ 4), (1, u "java/lang/Object"), (0, u "<init>"), (0, u "()V"), (0, .long 18446744073709551615), (1, .long 3), (1, .long 5), (1, .methodref 14 15), (0, .class_ 16), (0, .nameAndType 17 18), (0, u "com/example/veilrelay/veilrelay/core/curve/P521FieldSelectPinLaw"), (0, u "limbs"), (0, u "(JJ)[J"), (0, .methodref 20 21), (0, .class_ 22), (0, .nameAndType 23 24), (0, u "com/example/veilrelay/veilrelay/core/curve/P521Field"), (0, u "select"), (0, u "([J[JJ)V"), (0, .methodref 14 26), (0, .nameAndType 27 28), (0, u "same"), (0, u "([J[J)Z"), (3, u "law"), (0, u "(JJJJI)Z")] 4

def k1m0 : Method := { name := "<init>", desc := "()V", sig := { parameters := [], returnType := none }, accessFlags := 2, code := none }
def k1c1 : Code := { maxStack := 7, maxLocals := 4, code := method_2_code, exceptionTable := #[], attributes := #[] }
def k1m1 : Method := { name := "limbs", desc := "(JJ)[J", sig := { parameters := [.long, .long], returnType := some (.array .long) }, accessFlags := 10, code := some k1c1 }
def k1c2 : Code := { maxStack := 4, maxLocals := 2, code := method_3_code, exceptionTable := #[], attributes := #[] }
def k1m2 : Method := { name := "same", desc := "([J[J)Z", sig := { parameters := [(.array .long), (.array .long)], returnType := some .boolean }, accessFlags := 10, code := some k1c2 }
def k1c3 : Code := { maxStack := 4, maxLocals := 17, code := code, exceptionTable := #[], attributes := #[] }
def k1m3 : Method := { name := "law", desc := "(JJJJI)Z", sig := { parameters := [.long, .long, .long, .long, .int], returnType := some .boolean }, accessFlags := 9, code := some k1c3 }
/-- com/example/veilrelay/veilrelay/core/curve/P521FieldSelectPinLaw -/
def k1 : Class := { plain "com/example/veilrelay/veilrelay/core/curve/P521FieldSelectPinLaw" (some 0) with
  accessFlags := 49
  interfaces := #[]
  cf := some (fileOf pool1 14 #[] #[{ accessFlags := 2, nameIndex := 5, descriptorIndex := 6, attributes := #[] }, { accessFlags := 10, nameIndex := 17, descriptorIndex := 18, attributes := #[] }, { accessFlags := 10, nameIndex := 27, descriptorIndex := 28, attributes := #[] }, { accessFlags := 9, nameIndex := 32, descriptorIndex := 33, attributes := #[] }] 49 2 #[] #[])
  fields := #[]
  methods := #[k1m0, k1m1, k1m2, k1m3]
  instanceTypes := #[]
  staticTypes := #[]
  resolved := Array.replicate 38 none
  statics := none }

def pool2 : Array CpInfo := pool [(1, .class_ 2), (0, u "com/example/veilrelay/veilrelay/core/curve/P521Field"), (1, .class_ 6), (1, u "java/lang/Object"), (0, u "<init>"), (0, u "()V"), (47, u "SIXTEEN_P"), (0, u "[J"), (34, u "select"), (0, u "([J[JJ)V"), (4, u "LIMBS"), (0, u "I"), (2, u "RADIX_BITS"), (1, u "LIMB_MASK"), (0, u "J"), (0, u "TOP_BITS"), (1, u "TOP_MASK")] 19

def k2m0 : Method := { name := "<init>", desc := "()V", sig := { parameters := [], returnType := none }, accessFlags := 2, code := none }
def k2c1 : Code := { maxStack := 10, maxLocals := 5, code := prog_31_method_6_code, exceptionTable := #[], attributes := #[] }
def k2m1 : Method := { name := "select", desc := "([J[JJ)V", sig := { parameters := [(.array .long), (.array .long), .long], returnType := none }, accessFlags := 8, code := some k2c1 }
/-- com/example/veilrelay/veilrelay/core/curve/P521Field -/
def k2 : Class := { plain "com/example/veilrelay/veilrelay/core/curve/P521Field" (some 0) with
  accessFlags := 48
  interfaces := #[]
  cf := some (fileOf pool2 1 #[] #[{ accessFlags := 2, nameIndex := 7, descriptorIndex := 8, attributes := #[] }, { accessFlags := 8, nameIndex := 92, descriptorIndex := 93, attributes := #[] }] 48 4 #[] #[{ accessFlags := 24, nameIndex := 98, descriptorIndex := 99, attributes := #[] }, { accessFlags := 26, nameIndex := 102, descriptorIndex := 99, attributes := #[] }, { accessFlags := 26, nameIndex := 104, descriptorIndex := 105, attributes := #[] }, { accessFlags := 26, nameIndex := 106, descriptorIndex := 99, attributes := #[] }, { accessFlags := 26, nameIndex := 108, descriptorIndex := 105, attributes := #[] }, { accessFlags := 26, nameIndex := 56, descriptorIndex := 57, attributes := #[] }])
  fields := #[{ name := "LIMBS", type := .int, accessFlags := 24, slot := 0, constantValue := 0 }, { name := "RADIX_BITS", type := .int, accessFlags := 26, slot := 1, constantValue := 0 }, { name := "LIMB_MASK", type := .long, accessFlags := 26, slot := 2, constantValue := 0 }, { name := "TOP_BITS", type := .int, accessFlags := 26, slot := 3, constantValue := 0 }, { name := "TOP_MASK", type := .long, accessFlags := 26, slot := 4, constantValue := 0 }, { name := "SIXTEEN_P", type := (.array .long), accessFlags := 26, slot := 5, constantValue := 0 }]
  methods := #[k2m0, k2m1]
  instanceTypes := #[]
  staticTypes := #[.int, .int, .long, .int, .long, (.array .long)]
  resolved := Array.replicate 128 none
  statics := none }

def pool3 : Array CpInfo := pool [(1, u "java/lang/Cloneable"), (0, .class_ 1), (0, u "java/lang/Object"), (0, .class_ 3)] 3

/-- java/lang/Cloneable -/
def k3 : Class := { plain "java/lang/Cloneable" (some 0) with
  accessFlags := 1537
  interfaces := #[]
  cf := some (fileOf pool3 2 #[] #[] 1537 4 #[] #[])
  fields := #[]
  methods := #[]
  instanceTypes := #[]
  staticTypes := #[]
  resolved := Array.replicate 8 none
  statics := none }

def pool4 : Array CpInfo := pool [(1, u "java/io/Serializable"), (0, .class_ 1), (0, u "java/lang/Object"), (0, .class_ 3)] 3

/-- java/io/Serializable -/
def k4 : Class := { plain "java/io/Serializable" (some 0) with
  accessFlags := 1537
  interfaces := #[]
  cf := some (fileOf pool4 2 #[] #[] 1537 4 #[] #[])
  fields := #[]
  methods := #[]
  instanceTypes := #[]
  staticTypes := #[]
  resolved := Array.replicate 8 none
  statics := none }

/-- the primitive byte -/
def k5 : Class := { plain "byte" none with kind := .primitive 'B', accessFlags := 0x411 }
/-- [B -/
def k6 : Class := { plain "[B" (some 0) with kind := .array 5 .byte, interfaces := #[3, 4], accessFlags := 1041 }

/-- the primitive int -/
def k7 : Class := { plain "int" none with kind := .primitive 'I', accessFlags := 0x411 }
/-- [I -/
def k8 : Class := { plain "[I" (some 0) with kind := .array 7 .int, interfaces := #[3, 4], accessFlags := 1041 }

/-- the primitive long -/
def k9 : Class := { plain "long" none with kind := .primitive 'J', accessFlags := 0x411 }
/-- [J -/
def k10 : Class := { plain "[J" (some 0) with kind := .array 9 .long, interfaces := #[3, 4], accessFlags := 1041 }

def heap : Heap := #[]
def classes : Array Class := #[k0, k1, k2, k3, k4, k5, k6, k7, k8, k9, k10]
def interned : List (Array UInt16 × Addr) := []
def slotsUsed : Nat := 0
def theMethod : MethodId := ⟨1, 3⟩
def args0 : Array Value := #[.long 5, .long 6, .long 7, .long 1, .int 3]
def aboutOver (below : List Frame) : State where
  vm := { classes := classes, interned := interned.toArray }
  heap := heap
  slotsUsed := slotsUsed
  threads := #[{ frames := .invoking theMethod args0 :: below }]
def below0 : List Frame := [.native { method := ⟨0, 0⟩, args := #[] }]
def about1 : State := aboutOver below0
def p0 : Program := .bare "" "" ""
def e0 : Env := launch0.env 0 0 0
theorem w_frames : about1.frames = Frame.invoking theMethod args0 :: below0 := rfl
set_option maxRecDepth 65536 in
theorem w_args : argsFit about1.vm theMethod args0 = true := by decide +kernel
set_option maxRecDepth 65536 in
theorem w_heap : heapFits about1 = true := by decide +kernel
set_option maxRecDepth 65536 in
theorem w_runnable : about1.curStatus? = some .runnable := by decide +kernel
set_option maxRecDepth 65536 in
theorem w_alone : about1.alone = true := by decide +kernel
set_option maxRecDepth 65536 in
theorem w_named : about1.methodNamed? x = some theMethod := by decide +kernel
set_option maxRecDepth 65536 in
theorem w_hears : about1.hears theMethod below0 = true := by decide +kernel
set_option maxRecDepth 65536 in
theorem w_ripe : about1.ripe theMethod args0 below0 = true := by decide +kernel
theorem w_running : about1.status = .running := rfl
set_option maxRecDepth 65536 in
theorem w_room : about1.hasRoom e0.platform room_1 = true :=
  launch0.hasRoom_least _ room_1 (by decide +kernel) (by decide +kernel) (by decide +kernel) (by decide +kernel) (by decide +kernel) (by decide +kernel)
theorem allAtoms_all (ts : List Jvm.Cond) (a : Array Jvm.Value) (st : Jvm.State) : (allAtoms ts).before a st = ts.all (fun c => c.before a st) := by
  induction ts with
  | nil => rfl
  | cons c t ih =>
    show (Jvm.Cond.and c (allAtoms t)).before a st = _
    rw [Jvm.Cond.before_and, ih, List.all_cons]
def words1 : List Jvm.Cond := Jvm.Cond.code x code maxLocals ret :: tables_1
/-- a 'code' word, met by the world's own term for the bytes: nothing is compared byte by byte -/
theorem code_word {y : MethodName} {bytes : ByteArray} {mx : Nat} {rt : Option FieldType} {a : Array Value} {s : State} {m : MethodId} {meth : Method} {c : Code} (h1 : s.methodNamed? y = some m) (h2 : s.vm.method? m = some meth) (h3 : meth.code = some c) (h4 : c.code = bytes)
    (h5 : (c.maxLocals == mx && c.exceptionTable.isEmpty && decide (c.maxStack ≤ mostOperands) && decide (meth.sig.returnType = rt) && !meth.locks && decide (parseMethodDescriptor y.desc = some meth.sig)) = true) : (Jvm.Cond.code y bytes mx rt).before a s = true := by
  simp only [Bool.and_eq_true, beq_iff_eq, Bool.not_eq_true', decide_eq_true_eq] at h5
  obtain ⟨⟨⟨⟨⟨g1, g2⟩, g3⟩, g4⟩, g5⟩, g6⟩ := h5
  simp [Cond.before, Cond.holds, Cond.value, h1, h2, h3, h4, g1, g2, g3, g4, g5, g6]
def isCode : Jvm.Cond → Bool
  | .code _ _ _ _ => true
  | _ => false
theorem all_split {L : List Jvm.Cond} {P : Jvm.Cond → Bool} (h1 : L.all (fun c => isCode c || P c) = true) (h2 : ∀ c ∈ L.filter isCode, P c = true) : L.all P = true := by
  refine List.all_eq_true.mpr fun c hc => ?_
  have h := List.all_eq_true.mp h1 c hc
  rcases Bool.eq_false_or_eq_true (isCode c) with hi | hi
  · exact h2 c (List.mem_filter.mpr ⟨hc, hi⟩)
  · simpa [hi] using h
set_option maxRecDepth 65536 in
theorem w_c0 : (Jvm.Cond.code x code maxLocals ret).before args0 about1 = true := code_word (m := ⟨1, 3⟩) (meth := k1m3) (c := k1c3) (by decide +kernel) rfl rfl rfl (by decide +kernel)
set_option maxRecDepth 65536 in
theorem w_c1 : (Jvm.Cond.code ({ cls := "com/example/veilrelay/veilrelay/core/curve/P521FieldSelectPinLaw", name := "limbs", desc := "(JJ)[J" } : Jvm.MethodName) method_2_code (4 : Nat) (Option.some (Jvm.ClassFile.FieldType.array Jvm.ClassFile.FieldType.long))).before args0 about1 = true := code_word (m := ⟨1, 1⟩) (meth := k1m1) (c := k1c1) (by decide +kernel) rfl rfl rfl (by decide +kernel)
set_option maxRecDepth 65536 in
theorem w_c2 : (Jvm.Cond.code ({ cls := "com/example/veilrelay/veilrelay/core/curve/P521Field", name := "select", desc := "([J[JJ)V" } : Jvm.MethodName) prog_31_method_6_code (5 : Nat) (Option.none : Option Jvm.ClassFile.FieldType)).before args0 about1 = true := code_word (m := ⟨2, 1⟩) (meth := k2m1) (c := k2c1) (by decide +kernel) rfl rfl rfl (by decide +kernel)
set_option maxRecDepth 65536 in
theorem w_c3 : (Jvm.Cond.code ({ cls := "com/example/veilrelay/veilrelay/core/curve/P521FieldSelectPinLaw", name := "same", desc := "([J[J)Z" } : Jvm.MethodName) method_3_code (2 : Nat) (Option.some Jvm.ClassFile.FieldType.boolean)).before args0 about1 = true := code_word (m := ⟨1, 2⟩) (meth := k1m2) (c := k1c2) (by decide +kernel) rfl rfl rfl (by decide +kernel)
def codes1 : List Jvm.Cond := [Jvm.Cond.code x code maxLocals ret, Jvm.Cond.code ({ cls := "com/example/veilrelay/veilrelay/core/curve/P521FieldSelectPinLaw", name := "limbs", desc := "(JJ)[J" } : Jvm.MethodName) method_2_code (4 : Nat) (Option.some (Jvm.ClassFile.FieldType.array Jvm.ClassFile.FieldType.long)), Jvm.Cond.code ({ cls := "com/example/veilrelay/veilrelay/core/curve/P521Field", name := "select", desc := "([J[JJ)V" } : Jvm.MethodName) prog_31_method_6_code (5 : Nat) (Option.none : Option Jvm.ClassFile.FieldType), Jvm.Cond.code ({ cls := "com/example/veilrelay/veilrelay/core/curve/P521FieldSelectPinLaw", name := "same", desc := "([J[J)Z" } : Jvm.MethodName) method_3_code (2 : Nat) (Option.some Jvm.ClassFile.FieldType.boolean)]
set_option maxRecDepth 65536 in
theorem codes_eq : words1.filter isCode = codes1 := rfl
theorem w_codes : ∀ c ∈ words1.filter isCode, c.before args0 about1 = true := by
  rw [codes_eq]
  intro c hc
  simp only [codes1, List.mem_cons, List.not_mem_nil, or_false] at hc
  rcases hc with rfl | rfl | rfl | rfl
  · exact w_c0
  · exact w_c1
  · exact w_c2
  · exact w_c3
set_option maxRecDepth 65536 in
theorem w_t1 : words1.all (fun c => isCode c || c.before args0 about1) = true := by decide +kernel
theorem w_tables : (allAtoms (Jvm.Cond.code x code maxLocals ret :: tables_1)).before args0 about1 = true := by
  rw [allAtoms_all]
  show words1.all (fun c => c.before args0 about1) = true
  refine all_split ?_ w_codes
  rw [w_t1]
set_option maxRecDepth 65536 in
theorem w_case : (Jvm.Cond.and given_1 narrow_1).before args0 about1 = true := by decide +kernel
theorem w_applies : (headSpec (Jvm.Cond.code x code maxLocals ret :: tables_1) room_1).applies x e0.platform about1 = true :=
  (Spec.applies_iff w_frames).mpr ⟨w_running, w_runnable, w_alone, w_named, w_hears, w_ripe, w_room, w_tables⟩
theorem atStart : AtStart classFile x code maxLocals ret World_1 tables_1 room_1 Calls_1 rest_1 Pre_1 launch0 p0 e0 about1 theMethod args0 below0 :=
  ⟨lists_1, trivial, launch0.admits_env _ _ _, launch0.least_env, fairChoices_fair.cas, fairChoices_fair.clock, w_frames, w_args, w_heap, w_applies, trivial, trivial, w_case⟩
end start1
theorem witness_1 : WitnessClaimed_1 := ⟨start1.p0, start1.e0, start1.about1, start1.theMethod, start1.args0, start1.below0, start1.atStart⟩
end Jvm.Pilot.@@N@@
