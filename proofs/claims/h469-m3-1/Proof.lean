import JvmDerived
import JvmDerived.Pilot.@@N@@Statement
import JvmDerived.Pilot.@@N@@Code
set_option linter.unusedVariables false
set_option linter.unusedSimpArgs false
namespace Jvm.Own
open Jvm Jvm.ClassFile Sem Op Lib Jvm.Free Jvm.Stand Jvm.LawKit Jvm.RoadKit
def b2i (b : Bool) : Int32 := if b then 1 else 0
theorem wd {ws : List Jvm.Cond} {a0 : Array Value} {Z : State} (hw : ∀ d ∈ ws, d.before a0 Z = true) (i : Nat) {d : Jvm.Cond} (h : ws[i]? = some d) : d.before a0 Z = true := hw d (List.mem_of_getElem? h)
/-- a contract of a body: from the heap h with these arguments it returns, writes nothing below n0, and Q holds of what it returns and of the heap -/
def Met (l : Launch) (Z : State) (y : MethodName) (bytes : ByteArray) (maxL : Nat) (ret : Option FieldType) (rm : Room) (as' : Array Value) (h : Heap) (n0 : Nat) (Q : Option Value → Heap → Prop) : Prop :=
  ∀ ws, MetFree l y (head1 (Jvm.Cond.code y bytes maxL ret :: ws) rm) (fun a U => a = as' ∧ Z.Warmed39 U.vm ∧ U.heap = h) (fun _ _ _ _ _ => True) (fun _ U o U' => ∃ v L, o = .returned v ∧ (Fr n0 L ∧ Q v U'.heap) ∧ FrameEnd U o U' L rm.cells rm.slots)
def Cx (p : Program) (s : State) (m : MethodId) (meth : Method) (c : Code) (Z : State) (y : MethodName) (bytes : ByteArray) (maxL : Nat) (ret : Option FieldType) : Prop :=
  p.tables.exec = Jvm.exec ∧ Z.Warmed39 s.vm ∧ s.vm.findClass y.cls = some m.cls ∧ meth.name = y.name ∧ c.code = bytes ∧ c.maxLocals = maxL ∧ meth.sig.returnType = ret ∧ meth.locks = false
def Go (p : Program) (l : Launch) (e : Env) (R : Room) (s : State) (m : MethodId) (args : Array Value) (below : List Frame) (meth : Method) (c : Code) (n0 : Nat) (Q : Option Value → Heap → Prop) (cells slots : Nat) (h : Heap) (f : JFrame) : Prop :=
  ∀ T locs, Stand p l e R s m args below meth c T locs cells slots → Fr n0 locs → T.heap = h → ∃ t o, Steps p.tables e below (T.setTop f) t ∧ t.status = .running ∧ Ended t below o ∧ ∃ v L, o = .returned v ∧ (Fr n0 L ∧ Q v t.heap) ∧ FrameEnd s o t L R.cells R.slots
section
variable {p : Program} {l : Launch} {e : Env} {R : Room} {s : State} {m : MethodId} {args : Array Value} {below : List Frame} {meth : Method} {c : Code} {Z : State} {y : MethodName} {bytes : ByteArray} {maxL : Nat} {ret : Option FieldType} {n0 : Nat} {Q : Option Value → Heap → Prop} {cells slots : Nat} {h : Heap} {pc n n' : Nat} {Ls : Array Slot} {st : List Value} {a0 : Array Value}
theorem Cx.x (C : Cx p s m meth c Z y bytes maxL ret) : p.tables.exec = Jvm.exec := C.1
theorem Cx.z (C : Cx p s m meth c Z y bytes maxL ret) : Z.Warmed39 s.vm := C.2.1
theorem Cx.own (C : Cx p s m meth c Z y bytes maxL ret) : s.vm.findClass y.cls = some m.cls := C.2.2.1
theorem Cx.nm (C : Cx p s m meth c Z y bytes maxL ret) : meth.name = y.name := C.2.2.2.1
theorem Cx.by (C : Cx p s m meth c Z y bytes maxL ret) : c.code = bytes := C.2.2.2.2.1
theorem Cx.ml (C : Cx p s m meth c Z y bytes maxL ret) : c.maxLocals = maxL := C.2.2.2.2.2.1
theorem Cx.rt (C : Cx p s m meth c Z y bytes maxL ret) : meth.sig.returnType = ret := C.2.2.2.2.2.2.1
theorem Cx.locks (C : Cx p s m meth c Z y bytes maxL ret) : meth.locks = false := C.2.2.2.2.2.2.2
theorem Met.of {rm : Room} {as' : Array Value} {Ls0 : Array Slot} (hp : plainFor y = true) (he : ∀ m, entryFrame m as' maxL = mkF m 0 Ls0 [])
    (body : ∀ p e s m args below meth c, Cx p s m meth c Z y bytes maxL ret → Go p l e rm s m args below meth c n0 Q 0 0 h (mkF m 0 Ls0 [])) : Met l Z y bytes maxL ret rm as' h n0 Q := by
  intro ws
  refine MetFree.of_bodySF hp hisR ?_
  intro p e s m args below meth c s₁ Bd hml0 hP hK
  obtain ⟨rfl, hZ, hh⟩ := hP
  have C : Cx p s m meth c Z y bytes maxL ret := ⟨Bd.exec, hZ, findClass_of_methodNamed Bd.named, (name_of_methodNamed Bd.named Bd.method).1, Bd.bytes, hml0, Bd.returns, Bd.notSynchronized⟩
  have X0 : Stand p l e rm s m args below meth c s₁ [] 0 0 := Stand.of_body Bd
  have e0 : s₁.heap = h := by rw [← hh, Bd.state]; rfl
  obtain ⟨t, o, st, r⟩ := body p e s m args below meth c C s₁ [] X0 (Fr.nil n0) e0
  exact ⟨t, o, castTop (he m) st, r⟩
theorem Met.weaken {rm : Room} {as' : Array Value} {Q' : Option Value → Heap → Prop} (M : Met l Z y bytes maxL ret rm as' h n0 Q) (q : ∀ v h', Q v h' → Q' v h') : Met l Z y bytes maxL ret rm as' h n0 Q' := by
  intro ws p e ha hc hk s m args below hf happ hP hK
  obtain ⟨n, o, h1, h2, h3, v, L, h4, h5, h6⟩ := M ws p e ha hc hk s m args below hf happ hP hK
  exact ⟨n, o, h1, h2, h3, v, L, h4, ⟨h5.1, q _ _ h5.2⟩, h6⟩
theorem Go.via {f f' : JFrame} (hs : ∀ T locs, Stand p l e R s m args below meth c T locs cells slots → T.heap = h → ∀ t, Steps p.tables e below (T.setTop f') t → Steps p.tables e below (T.setTop f) t)
    (k : Go p l e R s m args below meth c n0 Q cells slots h f') : Go p l e R s m args below meth c n0 Q cells slots h f := fun T locs X N q => by
  obtain ⟨t, o, st, r⟩ := k T locs X N q
  exact ⟨t, o, hs T locs X q t st, r⟩
theorem Go.mono {f : JFrame} {cells' slots' : Nat} (h1 : cells ≤ cells') (h2 : slots ≤ slots') (k : Go p l e R s m args below meth c n0 Q cells' slots' h f) : Go p l e R s m args below meth c n0 Q cells slots h f := fun T locs X N q =>
  k T locs ⟨X.admits, X.cas, X.clock, X.frames, X.room, X.hears, X.method, X.code, X.here, X.tail, X.warmed, X.limits, X.bytes, X.same.mono h1 h2⟩ N q
theorem Go.cast {f f' : JFrame} (q : f = f') (k : Go p l e R s m args below meth c n0 Q cells slots h f') : Go p l e R s m args below meth c n0 Q cells slots h f := q ▸ k

theorem G.iadd (C : Cx p s m meth c Z y bytes maxL ret) {x1 x2 : Int32} (hd : decode bytes pc = .ok (.iadd, 1))  (hn : pc + 1 = n) (k : Go p l e R s m args below meth c n0 Q cells slots h (mkF m n Ls (.int (x1 + x2) :: st))) : Go p l e R s m args below meth c n0 Q cells slots h (mkF m pc Ls (.int x2 :: .int x1 :: st)) := by
  subst hn
  exact Go.via (fun T locs X _ t q => XS.iadd X.here C.x rfl (hb C.by hd) rfl q) k
theorem G.isub (C : Cx p s m meth c Z y bytes maxL ret) {x1 x2 : Int32} (hd : decode bytes pc = .ok (.isub, 1))  (hn : pc + 1 = n) (k : Go p l e R s m args below meth c n0 Q cells slots h (mkF m n Ls (.int (x1 - x2) :: st))) : Go p l e R s m args below meth c n0 Q cells slots h (mkF m pc Ls (.int x2 :: .int x1 :: st)) := by
  subst hn
  exact Go.via (fun T locs X _ t q => XS.isub X.here C.x rfl (hb C.by hd) rfl q) k
theorem G.imul (C : Cx p s m meth c Z y bytes maxL ret) {x1 x2 : Int32} (hd : decode bytes pc = .ok (.imul, 1))  (hn : pc + 1 = n) (k : Go p l e R s m args below meth c n0 Q cells slots h (mkF m n Ls (.int (x1 * x2) :: st))) : Go p l e R s m args below meth c n0 Q cells slots h (mkF m pc Ls (.int x2 :: .int x1 :: st)) := by
  subst hn
  exact Go.via (fun T locs X _ t q => XS.imul X.here C.x rfl (hb C.by hd) rfl q) k
theorem G.iand (C : Cx p s m meth c Z y bytes maxL ret) {x1 x2 : Int32} (hd : decode bytes pc = .ok (.iand, 1))  (hn : pc + 1 = n) (k : Go p l e R s m args below meth c n0 Q cells slots h (mkF m n Ls (.int (x1 &&& x2) :: st))) : Go p l e R s m args below meth c n0 Q cells slots h (mkF m pc Ls (.int x2 :: .int x1 :: st)) := by
  subst hn
  exact Go.via (fun T locs X _ t q => XS.iand X.here C.x rfl (hb C.by hd) rfl q) k
theorem G.ior (C : Cx p s m meth c Z y bytes maxL ret) {x1 x2 : Int32} (hd : decode bytes pc = .ok (.ior, 1))  (hn : pc + 1 = n) (k : Go p l e R s m args below meth c n0 Q cells slots h (mkF m n Ls (.int (x1 ||| x2) :: st))) : Go p l e R s m args below meth c n0 Q cells slots h (mkF m pc Ls (.int x2 :: .int x1 :: st)) := by
  subst hn
  exact Go.via (fun T locs X _ t q => XS.ior X.here C.x rfl (hb C.by hd) rfl q) k
theorem G.ixor (C : Cx p s m meth c Z y bytes maxL ret) {x1 x2 : Int32} (hd : decode bytes pc = .ok (.ixor, 1))  (hn : pc + 1 = n) (k : Go p l e R s m args below meth c n0 Q cells slots h (mkF m n Ls (.int (x1 ^^^ x2) :: st))) : Go p l e R s m args below meth c n0 Q cells slots h (mkF m pc Ls (.int x2 :: .int x1 :: st)) := by
  subst hn
  exact Go.via (fun T locs X _ t q => XS.ixor X.here C.x rfl (hb C.by hd) rfl q) k
theorem G.ladd (C : Cx p s m meth c Z y bytes maxL ret) {x1 x2 : Int64} (hd : decode bytes pc = .ok (.ladd, 1))  (hn : pc + 1 = n) (k : Go p l e R s m args below meth c n0 Q cells slots h (mkF m n Ls (.long (x1 + x2) :: st))) : Go p l e R s m args below meth c n0 Q cells slots h (mkF m pc Ls (.long x2 :: .long x1 :: st)) := by
  subst hn
  exact Go.via (fun T locs X _ t q => XS.ladd X.here C.x rfl (hb C.by hd) rfl q) k
theorem G.lsub (C : Cx p s m meth c Z y bytes maxL ret) {x1 x2 : Int64} (hd : decode bytes pc = .ok (.lsub, 1))  (hn : pc + 1 = n) (k : Go p l e R s m args below meth c n0 Q cells slots h (mkF m n Ls (.long (x1 - x2) :: st))) : Go p l e R s m args below meth c n0 Q cells slots h (mkF m pc Ls (.long x2 :: .long x1 :: st)) := by
  subst hn
  exact Go.via (fun T locs X _ t q => XS.lsub X.here C.x rfl (hb C.by hd) rfl q) k
theorem G.lmul (C : Cx p s m meth c Z y bytes maxL ret) {x1 x2 : Int64} (hd : decode bytes pc = .ok (.lmul, 1))  (hn : pc + 1 = n) (k : Go p l e R s m args below meth c n0 Q cells slots h (mkF m n Ls (.long (x1 * x2) :: st))) : Go p l e R s m args below meth c n0 Q cells slots h (mkF m pc Ls (.long x2 :: .long x1 :: st)) := by
  subst hn
  exact Go.via (fun T locs X _ t q => XS.lmul X.here C.x rfl (hb C.by hd) rfl q) k
theorem G.land (C : Cx p s m meth c Z y bytes maxL ret) {x1 x2 : Int64} (hd : decode bytes pc = .ok (.land, 1))  (hn : pc + 1 = n) (k : Go p l e R s m args below meth c n0 Q cells slots h (mkF m n Ls (.long (x1 &&& x2) :: st))) : Go p l e R s m args below meth c n0 Q cells slots h (mkF m pc Ls (.long x2 :: .long x1 :: st)) := by
  subst hn
  exact Go.via (fun T locs X _ t q => XS.land X.here C.x rfl (hb C.by hd) rfl q) k
theorem G.lor (C : Cx p s m meth c Z y bytes maxL ret) {x1 x2 : Int64} (hd : decode bytes pc = .ok (.lor, 1))  (hn : pc + 1 = n) (k : Go p l e R s m args below meth c n0 Q cells slots h (mkF m n Ls (.long (x1 ||| x2) :: st))) : Go p l e R s m args below meth c n0 Q cells slots h (mkF m pc Ls (.long x2 :: .long x1 :: st)) := by
  subst hn
  exact Go.via (fun T locs X _ t q => XS.lor X.here C.x rfl (hb C.by hd) rfl q) k
theorem G.lxor (C : Cx p s m meth c Z y bytes maxL ret) {x1 x2 : Int64} (hd : decode bytes pc = .ok (.lxor, 1))  (hn : pc + 1 = n) (k : Go p l e R s m args below meth c n0 Q cells slots h (mkF m n Ls (.long (x1 ^^^ x2) :: st))) : Go p l e R s m args below meth c n0 Q cells slots h (mkF m pc Ls (.long x2 :: .long x1 :: st)) := by
  subst hn
  exact Go.via (fun T locs X _ t q => XS.lxor X.here C.x rfl (hb C.by hd) rfl q) k
theorem G.idiv (C : Cx p s m meth c Z y bytes maxL ret) {x1 x2 : Int32} (hd : decode bytes pc = .ok (.idiv, 1)) (hy : x2 ≠ 0) (hn : pc + 1 = n) (k : Go p l e R s m args below meth c n0 Q cells slots h (mkF m n Ls (.int (x1 / x2) :: st))) : Go p l e R s m args below meth c n0 Q cells slots h (mkF m pc Ls (.int x2 :: .int x1 :: st)) := by
  subst hn
  exact Go.via (fun T locs X _ t q => XS.idiv X.here C.x rfl (hb C.by hd) rfl hy q) k
theorem G.ishl (C : Cx p s m meth c Z y bytes maxL ret) {x1 x2 : Int32} (hd : decode bytes pc = .ok (.ishl, 1))  (hn : pc + 1 = n) (k : Go p l e R s m args below meth c n0 Q cells slots h (mkF m n Ls (.int (x1 <<< (x2 &&& 31)) :: st))) : Go p l e R s m args below meth c n0 Q cells slots h (mkF m pc Ls (.int x2 :: .int x1 :: st)) := by
  subst hn
  exact Go.via (fun T locs X _ t q => XS.ishl X.here C.x rfl (hb C.by hd) rfl q) k
theorem G.ishr (C : Cx p s m meth c Z y bytes maxL ret) {x1 x2 : Int32} (hd : decode bytes pc = .ok (.ishr, 1))  (hn : pc + 1 = n) (k : Go p l e R s m args below meth c n0 Q cells slots h (mkF m n Ls (.int (x1 >>> (x2 &&& 31)) :: st))) : Go p l e R s m args below meth c n0 Q cells slots h (mkF m pc Ls (.int x2 :: .int x1 :: st)) := by
  subst hn
  exact Go.via (fun T locs X _ t q => XS.ishr X.here C.x rfl (hb C.by hd) rfl q) k
theorem G.iushr (C : Cx p s m meth c Z y bytes maxL ret) {x1 x2 : Int32} (hd : decode bytes pc = .ok (.iushr, 1))  (hn : pc + 1 = n) (k : Go p l e R s m args below meth c n0 Q cells slots h (mkF m n Ls (.int ((x1.toUInt32 >>> (x2 &&& 31).toUInt32).toInt32) :: st))) : Go p l e R s m args below meth c n0 Q cells slots h (mkF m pc Ls (.int x2 :: .int x1 :: st)) := by
  subst hn
  exact Go.via (fun T locs X _ t q => XS.iushr X.here C.x rfl (hb C.by hd) rfl q) k
theorem G.irem (C : Cx p s m meth c Z y bytes maxL ret) {x1 x2 : Int32} (hd : decode bytes pc = .ok (.irem, 1)) (hy : x2 ≠ 0) (hn : pc + 1 = n) (k : Go p l e R s m args below meth c n0 Q cells slots h (mkF m n Ls (.int (x1 % x2) :: st))) : Go p l e R s m args below meth c n0 Q cells slots h (mkF m pc Ls (.int x2 :: .int x1 :: st)) := by
  subst hn
  exact Go.via (fun T locs X _ t q => iremM X C.x rfl (hb C.by hd) rfl hy q) k
theorem G.ldiv (C : Cx p s m meth c Z y bytes maxL ret) {x1 x2 : Int64} (hd : decode bytes pc = .ok (.ldiv, 1)) (hy : x2 ≠ 0) (hn : pc + 1 = n) (k : Go p l e R s m args below meth c n0 Q cells slots h (mkF m n Ls (.long (x1 / x2) :: st))) : Go p l e R s m args below meth c n0 Q cells slots h (mkF m pc Ls (.long x2 :: .long x1 :: st)) := by
  subst hn
  exact Go.via (fun T locs X _ t q => XS.ldiv X.here C.x rfl (hb C.by hd) rfl hy q) k
theorem G.lrem (C : Cx p s m meth c Z y bytes maxL ret) {x1 x2 : Int64} (hd : decode bytes pc = .ok (.lrem, 1)) (hy : x2 ≠ 0) (hn : pc + 1 = n) (k : Go p l e R s m args below meth c n0 Q cells slots h (mkF m n Ls (.long (x1 - (x1 / x2) * x2) :: st))) : Go p l e R s m args below meth c n0 Q cells slots h (mkF m pc Ls (.long x2 :: .long x1 :: st)) := by
  subst hn
  exact Go.via (fun T locs X _ t q => XS.lrem X.here C.x rfl (hb C.by hd) rfl hy q) k
theorem G.lshl (C : Cx p s m meth c Z y bytes maxL ret) {x1 : Int64} {x2 : Int32} (hd : decode bytes pc = .ok (.lshl, 1))  (hn : pc + 1 = n) (k : Go p l e R s m args below meth c n0 Q cells slots h (mkF m n Ls (.long (x1 <<< (x2 &&& 0x3f).toInt64) :: st))) : Go p l e R s m args below meth c n0 Q cells slots h (mkF m pc Ls (.int x2 :: .long x1 :: st)) := by
  subst hn
  exact Go.via (fun T locs X _ t q => XS.lshl X.here C.x rfl (hb C.by hd) rfl q) k
theorem G.lshr (C : Cx p s m meth c Z y bytes maxL ret) {x1 : Int64} {x2 : Int32} (hd : decode bytes pc = .ok (.lshr, 1))  (hn : pc + 1 = n) (k : Go p l e R s m args below meth c n0 Q cells slots h (mkF m n Ls (.long (x1 >>> (x2 &&& 0x3f).toInt64) :: st))) : Go p l e R s m args below meth c n0 Q cells slots h (mkF m pc Ls (.int x2 :: .long x1 :: st)) := by
  subst hn
  exact Go.via (fun T locs X _ t q => XS.lshr X.here C.x rfl (hb C.by hd) rfl q) k
theorem G.lushr (C : Cx p s m meth c Z y bytes maxL ret) {x1 : Int64} {x2 : Int32} (hd : decode bytes pc = .ok (.lushr, 1))  (hn : pc + 1 = n) (k : Go p l e R s m args below meth c n0 Q cells slots h (mkF m n Ls (.long ((x1.toUInt64 >>> (x2 &&& 0x3f).toInt64.toUInt64).toInt64) :: st))) : Go p l e R s m args below meth c n0 Q cells slots h (mkF m pc Ls (.int x2 :: .long x1 :: st)) := by
  subst hn
  exact Go.via (fun T locs X _ t q => XS.lushr X.here C.x rfl (hb C.by hd) rfl q) k
theorem G.ineg (C : Cx p s m meth c Z y bytes maxL ret) {x : Int32} (hd : decode bytes pc = .ok (.ineg, 1))  (hn : pc + 1 = n) (k : Go p l e R s m args below meth c n0 Q cells slots h (mkF m n Ls (.int (-x) :: st))) : Go p l e R s m args below meth c n0 Q cells slots h (mkF m pc Ls (.int x :: st)) := by
  subst hn
  exact Go.via (fun T locs X _ t q => XS.ineg X.here C.x rfl (hb C.by hd) rfl q) k
theorem G.lneg (C : Cx p s m meth c Z y bytes maxL ret) {x : Int64} (hd : decode bytes pc = .ok (.lneg, 1))  (hn : pc + 1 = n) (k : Go p l e R s m args below meth c n0 Q cells slots h (mkF m n Ls (.long (-x) :: st))) : Go p l e R s m args below meth c n0 Q cells slots h (mkF m pc Ls (.long x :: st)) := by
  subst hn
  exact Go.via (fun T locs X _ t q => XS.lneg X.here C.x rfl (hb C.by hd) rfl q) k
theorem G.i2l (C : Cx p s m meth c Z y bytes maxL ret) {x : Int32} (hd : decode bytes pc = .ok (.i2l, 1))  (hn : pc + 1 = n) (k : Go p l e R s m args below meth c n0 Q cells slots h (mkF m n Ls (.long (x.toInt64) :: st))) : Go p l e R s m args below meth c n0 Q cells slots h (mkF m pc Ls (.int x :: st)) := by
  subst hn
  exact Go.via (fun T locs X _ t q => XS.i2l X.here C.x rfl (hb C.by hd) rfl q) k
theorem G.l2i (C : Cx p s m meth c Z y bytes maxL ret) {x : Int64} (hd : decode bytes pc = .ok (.l2i, 1))  (hn : pc + 1 = n) (k : Go p l e R s m args below meth c n0 Q cells slots h (mkF m n Ls (.int (x.toInt32) :: st))) : Go p l e R s m args below meth c n0 Q cells slots h (mkF m pc Ls (.long x :: st)) := by
  subst hn
  exact Go.via (fun T locs X _ t q => XS.l2i X.here C.x rfl (hb C.by hd) rfl q) k
theorem G.i2b (C : Cx p s m meth c Z y bytes maxL ret) {x : Int32} (hd : decode bytes pc = .ok (.i2b, 1))  (hn : pc + 1 = n) (k : Go p l e R s m args below meth c n0 Q cells slots h (mkF m n Ls (.int (x.toInt8.toInt32) :: st))) : Go p l e R s m args below meth c n0 Q cells slots h (mkF m pc Ls (.int x :: st)) := by
  subst hn
  exact Go.via (fun T locs X _ t q => XS.i2b X.here C.x rfl (hb C.by hd) rfl q) k
theorem G.i2s (C : Cx p s m meth c Z y bytes maxL ret) {x : Int32} (hd : decode bytes pc = .ok (.i2s, 1))  (hn : pc + 1 = n) (k : Go p l e R s m args below meth c n0 Q cells slots h (mkF m n Ls (.int (x.toInt16.toInt32) :: st))) : Go p l e R s m args below meth c n0 Q cells slots h (mkF m pc Ls (.int x :: st)) := by
  subst hn
  exact Go.via (fun T locs X _ t q => XS.i2s X.here C.x rfl (hb C.by hd) rfl q) k
theorem G.i2c (C : Cx p s m meth c Z y bytes maxL ret) {x : Int32} (hd : decode bytes pc = .ok (.i2c, 1))  (hn : pc + 1 = n) (k : Go p l e R s m args below meth c n0 Q cells slots h (mkF m n Ls (.int (x.toUInt32.toUInt16.toUInt32.toInt32) :: st))) : Go p l e R s m args below meth c n0 Q cells slots h (mkF m pc Ls (.int x :: st)) := by
  subst hn
  exact Go.via (fun T locs X _ t q => XS.i2c X.here C.x rfl (hb C.by hd) rfl q) k
theorem G.iconst (C : Cx p s m meth c Z y bytes maxL ret) {i : Int} (v : Int32) (hd : decode bytes pc = .ok (.iconst i, 1)) (hv : Int32.ofInt i = v) (hn : pc + 1 = n) (k : Go p l e R s m args below meth c n0 Q cells slots h (mkF m n Ls (.int v :: st))) : Go p l e R s m args below meth c n0 Q cells slots h (mkF m pc Ls (st)) := by
  subst hn hv
  exact Go.via (fun T locs X _ t q => XS.iconst X.here C.x rfl (hb C.by hd)  q) k
theorem G.bipush (C : Cx p s m meth c Z y bytes maxL ret) {i : Int} (v : Int32) (hd : decode bytes pc = .ok (.bipush i, 2)) (hv : (Int8.ofInt i).toInt32 = v) (hn : pc + 2 = n) (k : Go p l e R s m args below meth c n0 Q cells slots h (mkF m n Ls (.int v :: st))) : Go p l e R s m args below meth c n0 Q cells slots h (mkF m pc Ls (st)) := by
  subst hn hv
  exact Go.via (fun T locs X _ t q => XS.bipush X.here C.x rfl (hb C.by hd)  q) k
theorem G.sipush (C : Cx p s m meth c Z y bytes maxL ret) {i : Int} (v : Int32) (hd : decode bytes pc = .ok (.sipush i, 3)) (hv : (Int16.ofInt i).toInt32 = v) (hn : pc + 3 = n) (k : Go p l e R s m args below meth c n0 Q cells slots h (mkF m n Ls (.int v :: st))) : Go p l e R s m args below meth c n0 Q cells slots h (mkF m pc Ls (st)) := by
  subst hn hv
  exact Go.via (fun T locs X _ t q => XS.sipush X.here C.x rfl (hb C.by hd)  q) k
theorem G.lconst (C : Cx p s m meth c Z y bytes maxL ret) {i : Fin 2} (v : Int64) (hd : decode bytes pc = .ok (.lconst i, 1)) (hv : Int64.ofNat i = v) (hn : pc + 1 = n) (k : Go p l e R s m args below meth c n0 Q cells slots h (mkF m n Ls (.long v :: st))) : Go p l e R s m args below meth c n0 Q cells slots h (mkF m pc Ls (st)) := by
  subst hn hv
  exact Go.via (fun T locs X _ t q => XS.lconst X.here C.x rfl (hb C.by hd)  q) k
theorem G.aconst_null (C : Cx p s m meth c Z y bytes maxL ret)  (hd : decode bytes pc = .ok (.aconst_null, 1))  (hn : pc + 1 = n) (k : Go p l e R s m args below meth c n0 Q cells slots h (mkF m n Ls (.null :: st))) : Go p l e R s m args below meth c n0 Q cells slots h (mkF m pc Ls (st)) := by
  subst hn
  exact Go.via (fun T locs X _ t q => XS.aconstNull X.here C.x rfl (hb C.by hd)  q) k
theorem G.iload (C : Cx p s m meth c Z y bytes maxL ret) {k : Nat} {v : Int32} (hd : decode bytes pc = .ok (.iload k, 2)) (hl : Ls[k]? = some (.val (.int v)))  (hn : pc + 2 = n) (k : Go p l e R s m args below meth c n0 Q cells slots h (mkF m n Ls (.int v :: st))) : Go p l e R s m args below meth c n0 Q cells slots h (mkF m pc Ls (st)) := by
  subst hn
  exact Go.via (fun T locs X _ t q => XS.iload X.here C.x rfl (hb C.by hd) hl q) k
theorem G.iloadN (C : Cx p s m meth c Z y bytes maxL ret) {k : Fin 4} {v : Int32} (hd : decode bytes pc = .ok (.iload_n k, 1)) (hl : Ls[k.val]? = some (.val (.int v)))  (hn : pc + 1 = n) (k : Go p l e R s m args below meth c n0 Q cells slots h (mkF m n Ls (.int v :: st))) : Go p l e R s m args below meth c n0 Q cells slots h (mkF m pc Ls (st)) := by
  subst hn
  exact Go.via (fun T locs X _ t q => XS.iloadN X.here C.x rfl (hb C.by hd) hl q) k
theorem G.lload (C : Cx p s m meth c Z y bytes maxL ret) {k : Nat} {v : Int64} (hd : decode bytes pc = .ok (.lload k, 2)) (hl : Ls[k]? = some (.val (.long v)))  (hn : pc + 2 = n) (k : Go p l e R s m args below meth c n0 Q cells slots h (mkF m n Ls (.long v :: st))) : Go p l e R s m args below meth c n0 Q cells slots h (mkF m pc Ls (st)) := by
  subst hn
  exact Go.via (fun T locs X _ t q => XS.lload X.here C.x rfl (hb C.by hd) hl q) k
theorem G.lloadN (C : Cx p s m meth c Z y bytes maxL ret) {k : Fin 4} {v : Int64} (hd : decode bytes pc = .ok (.lload_n k, 1)) (hl : Ls[k.val]? = some (.val (.long v)))  (hn : pc + 1 = n) (k : Go p l e R s m args below meth c n0 Q cells slots h (mkF m n Ls (.long v :: st))) : Go p l e R s m args below meth c n0 Q cells slots h (mkF m pc Ls (st)) := by
  subst hn
  exact Go.via (fun T locs X _ t q => XS.lloadN X.here C.x rfl (hb C.by hd) hl q) k
theorem G.aload (C : Cx p s m meth c Z y bytes maxL ret) {k : Nat} {v : Value} (hd : decode bytes pc = .ok (.aload k, 2)) (hl : Ls[k]? = some (.val (v))) (hv : v.isRef = true) (hn : pc + 2 = n) (k : Go p l e R s m args below meth c n0 Q cells slots h (mkF m n Ls (v :: st))) : Go p l e R s m args below meth c n0 Q cells slots h (mkF m pc Ls (st)) := by
  subst hn
  exact Go.via (fun T locs X _ t q => XS.aload X.here C.x rfl (hb C.by hd) hl hv q) k
theorem G.aloadN (C : Cx p s m meth c Z y bytes maxL ret) {k : Fin 4} {v : Value} (hd : decode bytes pc = .ok (.aload_n k, 1)) (hl : Ls[k.val]? = some (.val (v))) (hv : v.isRef = true) (hn : pc + 1 = n) (k : Go p l e R s m args below meth c n0 Q cells slots h (mkF m n Ls (v :: st))) : Go p l e R s m args below meth c n0 Q cells slots h (mkF m pc Ls (st)) := by
  subst hn
  exact Go.via (fun T locs X _ t q => XS.aloadN X.here C.x rfl (hb C.by hd) hl hv q) k
theorem G.istore (C : Cx p s m meth c Z y bytes maxL ret) {k : Nat} {x : Int32} {l' : Array Slot} (hd : decode bytes pc = .ok (.istore k, 2))  (hl : storeLocals Ls k (.int x) = some l') (hn : pc + 2 = n) (kk : Go p l e R s m args below meth c n0 Q cells slots h (mkF m n l' (st))) : Go p l e R s m args below meth c n0 Q cells slots h (mkF m pc Ls (.int x :: st)) := by
  subst hn
  exact Go.via (fun T locs X _ t q => XS.istore X.here C.x rfl (hb C.by hd) rfl hl q) kk
theorem G.istoreZ (C : Cx p s m meth c Z y bytes maxL ret) {k : Nat} {x : Int32} {l' : Int32 → Array Slot} (hd : decode bytes pc = .ok (.istore k, 2)) (hl : ∀ z, storeLocals Ls k (.int z) = some (l' z)) (hn : pc + 2 = n) (kk : ∀ z, z = x → Go p l e R s m args below meth c n0 Q cells slots h (mkF m n (l' z) (st))) : Go p l e R s m args below meth c n0 Q cells slots h (mkF m pc Ls (.int x :: st)) :=
  G.istore C hd (hl x) hn (kk x rfl)
theorem G.istoreN (C : Cx p s m meth c Z y bytes maxL ret) {k : Fin 4} {x : Int32} {l' : Array Slot} (hd : decode bytes pc = .ok (.istore_n k, 1))  (hl : storeLocals Ls k.val (.int x) = some l') (hn : pc + 1 = n) (kk : Go p l e R s m args below meth c n0 Q cells slots h (mkF m n l' (st))) : Go p l e R s m args below meth c n0 Q cells slots h (mkF m pc Ls (.int x :: st)) := by
  subst hn
  exact Go.via (fun T locs X _ t q => XS.istoreN X.here C.x rfl (hb C.by hd) rfl hl q) kk
theorem G.istoreNZ (C : Cx p s m meth c Z y bytes maxL ret) {k : Fin 4} {x : Int32} {l' : Int32 → Array Slot} (hd : decode bytes pc = .ok (.istore_n k, 1)) (hl : ∀ z, storeLocals Ls k.val (.int z) = some (l' z)) (hn : pc + 1 = n) (kk : ∀ z, z = x → Go p l e R s m args below meth c n0 Q cells slots h (mkF m n (l' z) (st))) : Go p l e R s m args below meth c n0 Q cells slots h (mkF m pc Ls (.int x :: st)) :=
  G.istoreN C hd (hl x) hn (kk x rfl)
theorem G.lstore (C : Cx p s m meth c Z y bytes maxL ret) {k : Nat} {x : Int64} {l' : Array Slot} (hd : decode bytes pc = .ok (.lstore k, 2))  (hl : storeLocals Ls k (.long x) = some l') (hn : pc + 2 = n) (kk : Go p l e R s m args below meth c n0 Q cells slots h (mkF m n l' (st))) : Go p l e R s m args below meth c n0 Q cells slots h (mkF m pc Ls (.long x :: st)) := by
  subst hn
  exact Go.via (fun T locs X _ t q => XS.lstore X.here C.x rfl (hb C.by hd) rfl hl q) kk
theorem G.lstoreZ (C : Cx p s m meth c Z y bytes maxL ret) {k : Nat} {x : Int64} {l' : Int64 → Array Slot} (hd : decode bytes pc = .ok (.lstore k, 2)) (hl : ∀ z, storeLocals Ls k (.long z) = some (l' z)) (hn : pc + 2 = n) (kk : ∀ z, z = x → Go p l e R s m args below meth c n0 Q cells slots h (mkF m n (l' z) (st))) : Go p l e R s m args below meth c n0 Q cells slots h (mkF m pc Ls (.long x :: st)) :=
  G.lstore C hd (hl x) hn (kk x rfl)
theorem G.lstoreN (C : Cx p s m meth c Z y bytes maxL ret) {k : Fin 4} {x : Int64} {l' : Array Slot} (hd : decode bytes pc = .ok (.lstore_n k, 1))  (hl : storeLocals Ls k.val (.long x) = some l') (hn : pc + 1 = n) (kk : Go p l e R s m args below meth c n0 Q cells slots h (mkF m n l' (st))) : Go p l e R s m args below meth c n0 Q cells slots h (mkF m pc Ls (.long x :: st)) := by
  subst hn
  exact Go.via (fun T locs X _ t q => XS.lstoreN X.here C.x rfl (hb C.by hd) rfl hl q) kk
theorem G.lstoreNZ (C : Cx p s m meth c Z y bytes maxL ret) {k : Fin 4} {x : Int64} {l' : Int64 → Array Slot} (hd : decode bytes pc = .ok (.lstore_n k, 1)) (hl : ∀ z, storeLocals Ls k.val (.long z) = some (l' z)) (hn : pc + 1 = n) (kk : ∀ z, z = x → Go p l e R s m args below meth c n0 Q cells slots h (mkF m n (l' z) (st))) : Go p l e R s m args below meth c n0 Q cells slots h (mkF m pc Ls (.long x :: st)) :=
  G.lstoreN C hd (hl x) hn (kk x rfl)
theorem G.astore (C : Cx p s m meth c Z y bytes maxL ret) {k : Nat} {x : Value} {l' : Array Slot} (hd : decode bytes pc = .ok (.astore k, 2)) (hv : x.isRef = true) (hl : storeLocals Ls k (x) = some l') (hn : pc + 2 = n) (kk : Go p l e R s m args below meth c n0 Q cells slots h (mkF m n l' (st))) : Go p l e R s m args below meth c n0 Q cells slots h (mkF m pc Ls (x :: st)) := by
  subst hn
  exact Go.via (fun T locs X _ t q => XS.astore X.here C.x rfl (hb C.by hd) rfl hv hl q) kk
theorem G.astoreN (C : Cx p s m meth c Z y bytes maxL ret) {k : Fin 4} {x : Value} {l' : Array Slot} (hd : decode bytes pc = .ok (.astore_n k, 1)) (hv : x.isRef = true) (hl : storeLocals Ls k.val (x) = some l') (hn : pc + 1 = n) (kk : Go p l e R s m args below meth c n0 Q cells slots h (mkF m n l' (st))) : Go p l e R s m args below meth c n0 Q cells slots h (mkF m pc Ls (x :: st)) := by
  subst hn
  exact Go.via (fun T locs X _ t q => XS.astoreN X.here C.x rfl (hb C.by hd) rfl hv hl q) kk
theorem G.iinc (C : Cx p s m meth c Z y bytes maxL ret) {k : Nat} {cst : Int} (v : Int32) {x : Int32} {l' : Array Slot} (hd : decode bytes pc = .ok (.iinc k cst, 3)) (hv : Int32.ofInt cst = v) (hx : Ls[k]? = some (.val (.int x))) (hl : storeLocals Ls k (.int (x + v)) = some l') (hn : pc + 3 = n) (kk : Go p l e R s m args below meth c n0 Q cells slots h (mkF m n l' (st))) : Go p l e R s m args below meth c n0 Q cells slots h (mkF m pc Ls (st)) := by
  subst hn hv
  exact Go.via (fun T locs X _ t q => XS.iinc X.here C.x rfl (hb C.by hd) hx hl q) kk
theorem G.iincZ (C : Cx p s m meth c Z y bytes maxL ret) {k : Nat} {cst : Int} (v : Int32) {x : Int32} {l' : Int32 → Array Slot} (hd : decode bytes pc = .ok (.iinc k cst, 3)) (hv : Int32.ofInt cst = v) (hx : Ls[k]? = some (.val (.int x))) (hl : ∀ z, storeLocals Ls k (.int z) = some (l' z)) (hn : pc + 3 = n) (kk : ∀ z, z = x + v → Go p l e R s m args below meth c n0 Q cells slots h (mkF m n (l' z) (st))) : Go p l e R s m args below meth c n0 Q cells slots h (mkF m pc Ls (st)) :=
  G.iinc C v hd hv hx (hl _) hn (kk _ rfl)
theorem G.iincK (C : Cx p s m meth c Z y bytes maxL ret) {k : Nat} {cst : Int} (v : Int32) {x : Int32} (z : Int32) {l' : Array Slot} (hd : decode bytes pc = .ok (.iinc k cst, 3)) (hv : Int32.ofInt cst = v) (hx : Ls[k]? = some (.val (.int x))) (hz : x + v = z) (hl : storeLocals Ls k (.int z) = some l') (hn : pc + 3 = n) (kk : Go p l e R s m args below meth c n0 Q cells slots h (mkF m n l' (st))) : Go p l e R s m args below meth c n0 Q cells slots h (mkF m pc Ls (st)) := by
  subst hz
  exact G.iinc C v hd hv hx hl hn kk
theorem G.name_int {x : Int32} (kk : ∀ z, z = x → Go p l e R s m args below meth c n0 Q cells slots h (mkF m pc Ls (.int z :: st))) : Go p l e R s m args below meth c n0 Q cells slots h (mkF m pc Ls (.int x :: st)) := kk x rfl
theorem G.name_long {x : Int64} (kk : ∀ z, z = x → Go p l e R s m args below meth c n0 Q cells slots h (mkF m pc Ls (.long z :: st))) : Go p l e R s m args below meth c n0 Q cells slots h (mkF m pc Ls (.long x :: st)) := kk x rfl
theorem G.fold_int {x z : Int32} (hz : x = z) (kk : Go p l e R s m args below meth c n0 Q cells slots h (mkF m pc Ls (.int z :: st))) : Go p l e R s m args below meth c n0 Q cells slots h (mkF m pc Ls (.int x :: st)) := hz ▸ kk
theorem G.fold_long {x z : Int64} (hz : x = z) (kk : Go p l e R s m args below meth c n0 Q cells slots h (mkF m pc Ls (.long z :: st))) : Go p l e R s m args below meth c n0 Q cells slots h (mkF m pc Ls (.long x :: st)) := hz ▸ kk
theorem G.dup (C : Cx p s m meth c Z y bytes maxL ret) {x : Value} (hd : decode bytes pc = .ok (.dup, 1)) (hc : x.category = 1) (hn : pc + 1 = n) (k : Go p l e R s m args below meth c n0 Q cells slots h (mkF m n Ls (x :: x :: st))) : Go p l e R s m args below meth c n0 Q cells slots h (mkF m pc Ls (x :: st)) := by
  subst hn
  exact Go.via (fun T locs X _ t q => XS.dup X.here C.x rfl (hb C.by hd) rfl hc q) k
theorem G.pop (C : Cx p s m meth c Z y bytes maxL ret) {x : Value} (hd : decode bytes pc = .ok (.pop, 1)) (hc : x.category = 1) (hn : pc + 1 = n) (k : Go p l e R s m args below meth c n0 Q cells slots h (mkF m n Ls (st))) : Go p l e R s m args below meth c n0 Q cells slots h (mkF m pc Ls (x :: st)) := by
  subst hn
  exact Go.via (fun T locs X _ t q => XS.pop X.here C.x rfl (hb C.by hd) rfl hc q) k
theorem G.dup_x1 (C : Cx p s m meth c Z y bytes maxL ret) {x x2 : Value} (hd : decode bytes pc = .ok (.dup_x1, 1)) (hc : x.category = 1) (hc2 : x2.category = 1) (hn : pc + 1 = n) (k : Go p l e R s m args below meth c n0 Q cells slots h (mkF m n Ls (x :: x2 :: x :: st))) : Go p l e R s m args below meth c n0 Q cells slots h (mkF m pc Ls (x :: x2 :: st)) := by
  subst hn
  exact Go.via (fun T locs X _ t q => XS.dupX1 X.here C.x rfl (hb C.by hd) rfl hc hc2 q) k
theorem G.dup2 (C : Cx p s m meth c Z y bytes maxL ret) {x x2 : Value} (hd : decode bytes pc = .ok (.dup2, 1)) (hc : x.category = 1) (hc2 : x2.category = 1) (hn : pc + 1 = n) (k : Go p l e R s m args below meth c n0 Q cells slots h (mkF m n Ls (x :: x2 :: x :: x2 :: st))) : Go p l e R s m args below meth c n0 Q cells slots h (mkF m pc Ls (x :: x2 :: st)) := by
  subst hn
  exact Go.via (fun T locs X _ t q => XT.dup2 X.here C.x rfl (hb C.by hd) rfl hc hc2 q) k
theorem G.dup2L (C : Cx p s m meth c Z y bytes maxL ret) {x : Int64} (hd : decode bytes pc = .ok (.dup2, 1)) (hn : pc + 1 = n) (k : Go p l e R s m args below meth c n0 Q cells slots h (mkF m n Ls (.long x :: .long x :: st))) : Go p l e R s m args below meth c n0 Q cells slots h (mkF m pc Ls (.long x :: st)) := by
  subst hn
  exact Go.via (fun T locs X _ t q => XT.dup2L X.here C.x rfl (hb C.by hd) rfl q) k
theorem G.goto (C : Cx p s m meth c Z y bytes maxL ret) {o : Int} (hd : decode bytes pc = .ok (.goto o, 3)) (ho : 0 ≤ (pc : Int) + o) (hp : ((pc : Int) + o).toNat = n) (k : Go p l e R s m args below meth c n0 Q cells slots h (mkF m n Ls (st))) : Go p l e R s m args below meth c n0 Q cells slots h (mkF m pc Ls (st)) :=
  Go.via (fun T locs X _ t q => XS.goto X.here C.x rfl rfl (hb C.by hd) ho hp q) k
theorem lt_i {x y : Int32} : x < y ↔ x.toInt < y.toInt := Int32.lt_iff_toInt_lt
theorem lt_l {x y : Int64} : x < y ↔ x.toInt < y.toInt := Int64.lt_iff_toInt_lt
theorem le_i {x y : Int32} : x ≤ y ↔ x.toInt ≤ y.toInt := Int32.le_iff_toInt_le
theorem le_l {x y : Int64} : x ≤ y ↔ x.toInt ≤ y.toInt := Int64.le_iff_toInt_le
theorem ich_lt {x1 x2 : Int32} : (x1.toInt < x2.toInt ∧ if_icmp.holds .lt x1 x2 = true) ∨ (x2.toInt ≤ x1.toInt ∧ if_icmp.holds .lt x1 x2 = false) := by
  by_cases q : x1.toInt < x2.toInt
  · exact Or.inl ⟨q, by simp [if_icmp.holds, lt_i, le_i, Int32.lt_iff_toInt_lt, Int32.le_iff_toInt_le, q]⟩
  · exact Or.inr ⟨by omega, by first | (simp [if_icmp.holds, lt_i, le_i, Int32.lt_iff_toInt_lt, Int32.le_iff_toInt_le, q]; done) | (simp [if_icmp.holds, lt_i, le_i, Int32.lt_iff_toInt_lt, Int32.le_iff_toInt_le]; omega)⟩
theorem G.icmp_lt (C : Cx p s m meth c Z y bytes maxL ret) {x1 x2 : Int32} {o : Int} {A B : Int} (hA : x1.toInt = A) (hB : x2.toInt = B) (hd : decode bytes pc = .ok (.if_icmp .lt o, 3)) (ho : 0 ≤ (pc : Int) + o) (hp : ((pc : Int) + o).toNat = n') (hn : pc + 3 = n) (kt : A < B → Go p l e R s m args below meth c n0 Q cells slots h (mkF m n' Ls (st))) (kf : B ≤ A → Go p l e R s m args below meth c n0 Q cells slots h (mkF m n Ls (st))) : Go p l e R s m args below meth c n0 Q cells slots h (mkF m pc Ls (.int x2 :: .int x1 :: st)) := by
  subst hn hA hB
  rcases ich_lt (x1 := x1) (x2 := x2) with ⟨q, r⟩ | ⟨q, r⟩
  · exact Go.via (fun T locs X _ t q => XS.icmpYes X.here C.x rfl rfl (hb C.by hd) rfl r ho hp q) (kt q)
  · exact Go.via (fun T locs X _ t q => XS.icmpNo X.here C.x rfl (hb C.by hd) rfl r q) (kf q)
theorem G.if_lt (C : Cx p s m meth c Z y bytes maxL ret) {x1 : Int32} {o : Int} {A : Int} (hA : x1.toInt = A) (hd : decode bytes pc = .ok (.ifCond .lt o, 3)) (ho : 0 ≤ (pc : Int) + o) (hp : ((pc : Int) + o).toNat = n') (hn : pc + 3 = n) (kt : A < 0 → Go p l e R s m args below meth c n0 Q cells slots h (mkF m n' Ls (st))) (kf : 0 ≤ A → Go p l e R s m args below meth c n0 Q cells slots h (mkF m n Ls (st))) : Go p l e R s m args below meth c n0 Q cells slots h (mkF m pc Ls (.int x1 :: st)) := by
  subst hn hA
  rcases ich_lt (x1 := x1) (x2 := 0) with ⟨q, r⟩ | ⟨q, r⟩
  · exact Go.via (fun T locs X _ t q => XS.ifYes X.here C.x rfl rfl (hb C.by hd) rfl ((if0 _ _).trans r) ho hp q) (kt q)
  · exact Go.via (fun T locs X _ t q => XS.ifNo X.here C.x rfl (hb C.by hd) rfl ((if0 _ _).trans r) q) (kf q)
theorem lch_lt (x1 x2 : Int64) : ((lcmpW x1 x2).toInt < 0 → x1.toInt < x2.toInt) ∧ (0 ≤ (lcmpW x1 x2).toInt → x2.toInt ≤ x1.toInt) := by
  have q := c_lcmp x1 x2
  have z : ∀ x : Int32, x = 0 ↔ x.toInt = 0 := fun x => ⟨fun q => by rw [q]; rfl, fun q => Int32.toInt_inj.mp q⟩
  have w : x1 = x2 ↔ x1.toInt = x2.toInt := Int64.toInt_inj.symm
  
  constructor <;> intro r <;> omega
theorem G.lcmp_lt (C : Cx p s m meth c Z y bytes maxL ret) {x1 x2 : Int64} {o : Int} {A B : Int} (hA : x1.toInt = A) (hB : x2.toInt = B) (hc : decode bytes pc = .ok (.lcmp, 1)) (hd : decode bytes (pc + 1) = .ok (.ifCond .lt o, 3)) (ho : 0 ≤ ((pc + 1 : Nat) : Int) + o) (hp : (((pc + 1 : Nat) : Int) + o).toNat = n') (hn : pc + 4 = n) (kt : A < B → Go p l e R s m args below meth c n0 Q cells slots h (mkF m n' Ls (st))) (kf : B ≤ A → Go p l e R s m args below meth c n0 Q cells slots h (mkF m n Ls (st))) : Go p l e R s m args below meth c n0 Q cells slots h (mkF m pc Ls (.long x2 :: .long x1 :: st)) := by
  subst hn hA hB
  refine Go.via (fun T locs X _ t q => XS.lcmp X.here C.x rfl (hb C.by hc) rfl q) ?_
  exact G.if_lt C (A := (lcmpW x1 x2).toInt) rfl (pc := pc + 1) hd ho hp (n := pc + 4) rfl (fun q => kt ((lch_lt x1 x2).1 q)) (fun q => kf ((lch_lt x1 x2).2 q))
theorem ich_ge {x1 x2 : Int32} : (x2.toInt ≤ x1.toInt ∧ if_icmp.holds .ge x1 x2 = true) ∨ (x1.toInt < x2.toInt ∧ if_icmp.holds .ge x1 x2 = false) := by
  by_cases q : x2.toInt ≤ x1.toInt
  · exact Or.inl ⟨q, by simp [if_icmp.holds, lt_i, le_i, Int32.lt_iff_toInt_lt, Int32.le_iff_toInt_le, q]⟩
  · exact Or.inr ⟨by omega, by first | (simp [if_icmp.holds, lt_i, le_i, Int32.lt_iff_toInt_lt, Int32.le_iff_toInt_le, q]; done) | (simp [if_icmp.holds, lt_i, le_i, Int32.lt_iff_toInt_lt, Int32.le_iff_toInt_le]; omega)⟩
theorem G.icmp_ge (C : Cx p s m meth c Z y bytes maxL ret) {x1 x2 : Int32} {o : Int} {A B : Int} (hA : x1.toInt = A) (hB : x2.toInt = B) (hd : decode bytes pc = .ok (.if_icmp .ge o, 3)) (ho : 0 ≤ (pc : Int) + o) (hp : ((pc : Int) + o).toNat = n') (hn : pc + 3 = n) (kt : B ≤ A → Go p l e R s m args below meth c n0 Q cells slots h (mkF m n' Ls (st))) (kf : A < B → Go p l e R s m args below meth c n0 Q cells slots h (mkF m n Ls (st))) : Go p l e R s m args below meth c n0 Q cells slots h (mkF m pc Ls (.int x2 :: .int x1 :: st)) := by
  subst hn hA hB
  rcases ich_ge (x1 := x1) (x2 := x2) with ⟨q, r⟩ | ⟨q, r⟩
  · exact Go.via (fun T locs X _ t q => XS.icmpYes X.here C.x rfl rfl (hb C.by hd) rfl r ho hp q) (kt q)
  · exact Go.via (fun T locs X _ t q => XS.icmpNo X.here C.x rfl (hb C.by hd) rfl r q) (kf q)
theorem G.if_ge (C : Cx p s m meth c Z y bytes maxL ret) {x1 : Int32} {o : Int} {A : Int} (hA : x1.toInt = A) (hd : decode bytes pc = .ok (.ifCond .ge o, 3)) (ho : 0 ≤ (pc : Int) + o) (hp : ((pc : Int) + o).toNat = n') (hn : pc + 3 = n) (kt : 0 ≤ A → Go p l e R s m args below meth c n0 Q cells slots h (mkF m n' Ls (st))) (kf : A < 0 → Go p l e R s m args below meth c n0 Q cells slots h (mkF m n Ls (st))) : Go p l e R s m args below meth c n0 Q cells slots h (mkF m pc Ls (.int x1 :: st)) := by
  subst hn hA
  rcases ich_ge (x1 := x1) (x2 := 0) with ⟨q, r⟩ | ⟨q, r⟩
  · exact Go.via (fun T locs X _ t q => XS.ifYes X.here C.x rfl rfl (hb C.by hd) rfl ((if0 _ _).trans r) ho hp q) (kt q)
  · exact Go.via (fun T locs X _ t q => XS.ifNo X.here C.x rfl (hb C.by hd) rfl ((if0 _ _).trans r) q) (kf q)
theorem lch_ge (x1 x2 : Int64) : (0 ≤ (lcmpW x1 x2).toInt → x2.toInt ≤ x1.toInt) ∧ ((lcmpW x1 x2).toInt < 0 → x1.toInt < x2.toInt) := by
  have q := c_lcmp x1 x2
  have z : ∀ x : Int32, x = 0 ↔ x.toInt = 0 := fun x => ⟨fun q => by rw [q]; rfl, fun q => Int32.toInt_inj.mp q⟩
  have w : x1 = x2 ↔ x1.toInt = x2.toInt := Int64.toInt_inj.symm
  
  constructor <;> intro r <;> omega
theorem G.lcmp_ge (C : Cx p s m meth c Z y bytes maxL ret) {x1 x2 : Int64} {o : Int} {A B : Int} (hA : x1.toInt = A) (hB : x2.toInt = B) (hc : decode bytes pc = .ok (.lcmp, 1)) (hd : decode bytes (pc + 1) = .ok (.ifCond .ge o, 3)) (ho : 0 ≤ ((pc + 1 : Nat) : Int) + o) (hp : (((pc + 1 : Nat) : Int) + o).toNat = n') (hn : pc + 4 = n) (kt : B ≤ A → Go p l e R s m args below meth c n0 Q cells slots h (mkF m n' Ls (st))) (kf : A < B → Go p l e R s m args below meth c n0 Q cells slots h (mkF m n Ls (st))) : Go p l e R s m args below meth c n0 Q cells slots h (mkF m pc Ls (.long x2 :: .long x1 :: st)) := by
  subst hn hA hB
  refine Go.via (fun T locs X _ t q => XS.lcmp X.here C.x rfl (hb C.by hc) rfl q) ?_
  exact G.if_ge C (A := (lcmpW x1 x2).toInt) rfl (pc := pc + 1) hd ho hp (n := pc + 4) rfl (fun q => kt ((lch_ge x1 x2).1 q)) (fun q => kf ((lch_ge x1 x2).2 q))
theorem ich_gt {x1 x2 : Int32} : (x2.toInt < x1.toInt ∧ if_icmp.holds .gt x1 x2 = true) ∨ (x1.toInt ≤ x2.toInt ∧ if_icmp.holds .gt x1 x2 = false) := by
  by_cases q : x2.toInt < x1.toInt
  · exact Or.inl ⟨q, by simp [if_icmp.holds, lt_i, le_i, Int32.lt_iff_toInt_lt, Int32.le_iff_toInt_le, q]⟩
  · exact Or.inr ⟨by omega, by first | (simp [if_icmp.holds, lt_i, le_i, Int32.lt_iff_toInt_lt, Int32.le_iff_toInt_le, q]; done) | (simp [if_icmp.holds, lt_i, le_i, Int32.lt_iff_toInt_lt, Int32.le_iff_toInt_le]; omega)⟩
theorem G.icmp_gt (C : Cx p s m meth c Z y bytes maxL ret) {x1 x2 : Int32} {o : Int} {A B : Int} (hA : x1.toInt = A) (hB : x2.toInt = B) (hd : decode bytes pc = .ok (.if_icmp .gt o, 3)) (ho : 0 ≤ (pc : Int) + o) (hp : ((pc : Int) + o).toNat = n') (hn : pc + 3 = n) (kt : B < A → Go p l e R s m args below meth c n0 Q cells slots h (mkF m n' Ls (st))) (kf : A ≤ B → Go p l e R s m args below meth c n0 Q cells slots h (mkF m n Ls (st))) : Go p l e R s m args below meth c n0 Q cells slots h (mkF m pc Ls (.int x2 :: .int x1 :: st)) := by
  subst hn hA hB
  rcases ich_gt (x1 := x1) (x2 := x2) with ⟨q, r⟩ | ⟨q, r⟩
  · exact Go.via (fun T locs X _ t q => XS.icmpYes X.here C.x rfl rfl (hb C.by hd) rfl r ho hp q) (kt q)
  · exact Go.via (fun T locs X _ t q => XS.icmpNo X.here C.x rfl (hb C.by hd) rfl r q) (kf q)
theorem G.if_gt (C : Cx p s m meth c Z y bytes maxL ret) {x1 : Int32} {o : Int} {A : Int} (hA : x1.toInt = A) (hd : decode bytes pc = .ok (.ifCond .gt o, 3)) (ho : 0 ≤ (pc : Int) + o) (hp : ((pc : Int) + o).toNat = n') (hn : pc + 3 = n) (kt : 0 < A → Go p l e R s m args below meth c n0 Q cells slots h (mkF m n' Ls (st))) (kf : A ≤ 0 → Go p l e R s m args below meth c n0 Q cells slots h (mkF m n Ls (st))) : Go p l e R s m args below meth c n0 Q cells slots h (mkF m pc Ls (.int x1 :: st)) := by
  subst hn hA
  rcases ich_gt (x1 := x1) (x2 := 0) with ⟨q, r⟩ | ⟨q, r⟩
  · exact Go.via (fun T locs X _ t q => XS.ifYes X.here C.x rfl rfl (hb C.by hd) rfl ((if0 _ _).trans r) ho hp q) (kt q)
  · exact Go.via (fun T locs X _ t q => XS.ifNo X.here C.x rfl (hb C.by hd) rfl ((if0 _ _).trans r) q) (kf q)
theorem lch_gt (x1 x2 : Int64) : (0 < (lcmpW x1 x2).toInt → x2.toInt < x1.toInt) ∧ ((lcmpW x1 x2).toInt ≤ 0 → x1.toInt ≤ x2.toInt) := by
  have q := c_lcmp x1 x2
  have z : ∀ x : Int32, x = 0 ↔ x.toInt = 0 := fun x => ⟨fun q => by rw [q]; rfl, fun q => Int32.toInt_inj.mp q⟩
  have w : x1 = x2 ↔ x1.toInt = x2.toInt := Int64.toInt_inj.symm
  
  constructor <;> intro r <;> omega
theorem G.lcmp_gt (C : Cx p s m meth c Z y bytes maxL ret) {x1 x2 : Int64} {o : Int} {A B : Int} (hA : x1.toInt = A) (hB : x2.toInt = B) (hc : decode bytes pc = .ok (.lcmp, 1)) (hd : decode bytes (pc + 1) = .ok (.ifCond .gt o, 3)) (ho : 0 ≤ ((pc + 1 : Nat) : Int) + o) (hp : (((pc + 1 : Nat) : Int) + o).toNat = n') (hn : pc + 4 = n) (kt : B < A → Go p l e R s m args below meth c n0 Q cells slots h (mkF m n' Ls (st))) (kf : A ≤ B → Go p l e R s m args below meth c n0 Q cells slots h (mkF m n Ls (st))) : Go p l e R s m args below meth c n0 Q cells slots h (mkF m pc Ls (.long x2 :: .long x1 :: st)) := by
  subst hn hA hB
  refine Go.via (fun T locs X _ t q => XS.lcmp X.here C.x rfl (hb C.by hc) rfl q) ?_
  exact G.if_gt C (A := (lcmpW x1 x2).toInt) rfl (pc := pc + 1) hd ho hp (n := pc + 4) rfl (fun q => kt ((lch_gt x1 x2).1 q)) (fun q => kf ((lch_gt x1 x2).2 q))
theorem ich_le {x1 x2 : Int32} : (x1.toInt ≤ x2.toInt ∧ if_icmp.holds .le x1 x2 = true) ∨ (x2.toInt < x1.toInt ∧ if_icmp.holds .le x1 x2 = false) := by
  by_cases q : x1.toInt ≤ x2.toInt
  · exact Or.inl ⟨q, by simp [if_icmp.holds, lt_i, le_i, Int32.lt_iff_toInt_lt, Int32.le_iff_toInt_le, q]⟩
  · exact Or.inr ⟨by omega, by first | (simp [if_icmp.holds, lt_i, le_i, Int32.lt_iff_toInt_lt, Int32.le_iff_toInt_le, q]; done) | (simp [if_icmp.holds, lt_i, le_i, Int32.lt_iff_toInt_lt, Int32.le_iff_toInt_le]; omega)⟩
theorem G.icmp_le (C : Cx p s m meth c Z y bytes maxL ret) {x1 x2 : Int32} {o : Int} {A B : Int} (hA : x1.toInt = A) (hB : x2.toInt = B) (hd : decode bytes pc = .ok (.if_icmp .le o, 3)) (ho : 0 ≤ (pc : Int) + o) (hp : ((pc : Int) + o).toNat = n') (hn : pc + 3 = n) (kt : A ≤ B → Go p l e R s m args below meth c n0 Q cells slots h (mkF m n' Ls (st))) (kf : B < A → Go p l e R s m args below meth c n0 Q cells slots h (mkF m n Ls (st))) : Go p l e R s m args below meth c n0 Q cells slots h (mkF m pc Ls (.int x2 :: .int x1 :: st)) := by
  subst hn hA hB
  rcases ich_le (x1 := x1) (x2 := x2) with ⟨q, r⟩ | ⟨q, r⟩
  · exact Go.via (fun T locs X _ t q => XS.icmpYes X.here C.x rfl rfl (hb C.by hd) rfl r ho hp q) (kt q)
  · exact Go.via (fun T locs X _ t q => XS.icmpNo X.here C.x rfl (hb C.by hd) rfl r q) (kf q)
theorem G.if_le (C : Cx p s m meth c Z y bytes maxL ret) {x1 : Int32} {o : Int} {A : Int} (hA : x1.toInt = A) (hd : decode bytes pc = .ok (.ifCond .le o, 3)) (ho : 0 ≤ (pc : Int) + o) (hp : ((pc : Int) + o).toNat = n') (hn : pc + 3 = n) (kt : A ≤ 0 → Go p l e R s m args below meth c n0 Q cells slots h (mkF m n' Ls (st))) (kf : 0 < A → Go p l e R s m args below meth c n0 Q cells slots h (mkF m n Ls (st))) : Go p l e R s m args below meth c n0 Q cells slots h (mkF m pc Ls (.int x1 :: st)) := by
  subst hn hA
  rcases ich_le (x1 := x1) (x2 := 0) with ⟨q, r⟩ | ⟨q, r⟩
  · exact Go.via (fun T locs X _ t q => XS.ifYes X.here C.x rfl rfl (hb C.by hd) rfl ((if0 _ _).trans r) ho hp q) (kt q)
  · exact Go.via (fun T locs X _ t q => XS.ifNo X.here C.x rfl (hb C.by hd) rfl ((if0 _ _).trans r) q) (kf q)
theorem lch_le (x1 x2 : Int64) : ((lcmpW x1 x2).toInt ≤ 0 → x1.toInt ≤ x2.toInt) ∧ (0 < (lcmpW x1 x2).toInt → x2.toInt < x1.toInt) := by
  have q := c_lcmp x1 x2
  have z : ∀ x : Int32, x = 0 ↔ x.toInt = 0 := fun x => ⟨fun q => by rw [q]; rfl, fun q => Int32.toInt_inj.mp q⟩
  have w : x1 = x2 ↔ x1.toInt = x2.toInt := Int64.toInt_inj.symm
  
  constructor <;> intro r <;> omega
theorem G.lcmp_le (C : Cx p s m meth c Z y bytes maxL ret) {x1 x2 : Int64} {o : Int} {A B : Int} (hA : x1.toInt = A) (hB : x2.toInt = B) (hc : decode bytes pc = .ok (.lcmp, 1)) (hd : decode bytes (pc + 1) = .ok (.ifCond .le o, 3)) (ho : 0 ≤ ((pc + 1 : Nat) : Int) + o) (hp : (((pc + 1 : Nat) : Int) + o).toNat = n') (hn : pc + 4 = n) (kt : A ≤ B → Go p l e R s m args below meth c n0 Q cells slots h (mkF m n' Ls (st))) (kf : B < A → Go p l e R s m args below meth c n0 Q cells slots h (mkF m n Ls (st))) : Go p l e R s m args below meth c n0 Q cells slots h (mkF m pc Ls (.long x2 :: .long x1 :: st)) := by
  subst hn hA hB
  refine Go.via (fun T locs X _ t q => XS.lcmp X.here C.x rfl (hb C.by hc) rfl q) ?_
  exact G.if_le C (A := (lcmpW x1 x2).toInt) rfl (pc := pc + 1) hd ho hp (n := pc + 4) rfl (fun q => kt ((lch_le x1 x2).1 q)) (fun q => kf ((lch_le x1 x2).2 q))
theorem ich_eq {x1 x2 : Int32} : (x1 = x2 ∧ if_icmp.holds .eq x1 x2 = true) ∨ (x1 ≠ x2 ∧ if_icmp.holds .eq x1 x2 = false) := by
  by_cases q : x1 = x2 <;> simp [if_icmp.holds, q]
theorem G.icmp_eq (C : Cx p s m meth c Z y bytes maxL ret) {x1 x2 : Int32} {o : Int} {A B : Int} (hA : x1.toInt = A) (hB : x2.toInt = B) (hd : decode bytes pc = .ok (.if_icmp .eq o, 3)) (ho : 0 ≤ (pc : Int) + o) (hp : ((pc : Int) + o).toNat = n') (hn : pc + 3 = n) (kt : x1 = x2 → A = B → Go p l e R s m args below meth c n0 Q cells slots h (mkF m n' Ls (st))) (kf : x1 ≠ x2 → A ≠ B → Go p l e R s m args below meth c n0 Q cells slots h (mkF m n Ls (st))) : Go p l e R s m args below meth c n0 Q cells slots h (mkF m pc Ls (.int x2 :: .int x1 :: st)) := by
  subst hn hA hB
  rcases ich_eq (x1 := x1) (x2 := x2) with ⟨q, r⟩ | ⟨q, r⟩
  · exact Go.via (fun T locs X _ t q => XS.icmpYes X.here C.x rfl rfl (hb C.by hd) rfl r ho hp q) (kt q (congrArg _ q))
  · exact Go.via (fun T locs X _ t q => XS.icmpNo X.here C.x rfl (hb C.by hd) rfl r q) (kf q (fun r => q (Int32.toInt_inj.mp r)))
theorem G.if_eq (C : Cx p s m meth c Z y bytes maxL ret) {x1 : Int32} {o : Int} {A : Int} (hA : x1.toInt = A) (hd : decode bytes pc = .ok (.ifCond .eq o, 3)) (ho : 0 ≤ (pc : Int) + o) (hp : ((pc : Int) + o).toNat = n') (hn : pc + 3 = n) (kt : x1 = 0 → A = 0 → Go p l e R s m args below meth c n0 Q cells slots h (mkF m n' Ls (st))) (kf : x1 ≠ 0 → A ≠ 0 → Go p l e R s m args below meth c n0 Q cells slots h (mkF m n Ls (st))) : Go p l e R s m args below meth c n0 Q cells slots h (mkF m pc Ls (.int x1 :: st)) := by
  subst hn hA
  rcases ich_eq (x1 := x1) (x2 := 0) with ⟨q, r⟩ | ⟨q, r⟩
  · exact Go.via (fun T locs X _ t q => XS.ifYes X.here C.x rfl rfl (hb C.by hd) rfl ((if0 _ _).trans r) ho hp q) (kt q (congrArg Int32.toInt q))
  · exact Go.via (fun T locs X _ t q => XS.ifNo X.here C.x rfl (hb C.by hd) rfl ((if0 _ _).trans r) q) (kf q (fun r => q (Int32.toInt_inj.mp r)))
theorem lch_eq (x1 x2 : Int64) : ((lcmpW x1 x2) = 0 → x1 = x2) ∧ ((lcmpW x1 x2) ≠ 0 → x1 ≠ x2) := by
  have q := c_lcmp x1 x2
  have z : ∀ x : Int32, x = 0 ↔ x.toInt = 0 := fun x => ⟨fun q => by rw [q]; rfl, fun q => Int32.toInt_inj.mp q⟩
  have w : x1 = x2 ↔ x1.toInt = x2.toInt := Int64.toInt_inj.symm
  simp only [ne_eq, z, w]
  constructor <;> intro r <;> omega
theorem G.lcmp_eq (C : Cx p s m meth c Z y bytes maxL ret) {x1 x2 : Int64} {o : Int} {A B : Int} (hA : x1.toInt = A) (hB : x2.toInt = B) (hc : decode bytes pc = .ok (.lcmp, 1)) (hd : decode bytes (pc + 1) = .ok (.ifCond .eq o, 3)) (ho : 0 ≤ ((pc + 1 : Nat) : Int) + o) (hp : (((pc + 1 : Nat) : Int) + o).toNat = n') (hn : pc + 4 = n) (kt : x1 = x2 → A = B → Go p l e R s m args below meth c n0 Q cells slots h (mkF m n' Ls (st))) (kf : x1 ≠ x2 → A ≠ B → Go p l e R s m args below meth c n0 Q cells slots h (mkF m n Ls (st))) : Go p l e R s m args below meth c n0 Q cells slots h (mkF m pc Ls (.long x2 :: .long x1 :: st)) := by
  subst hn hA hB
  refine Go.via (fun T locs X _ t q => XS.lcmp X.here C.x rfl (hb C.by hc) rfl q) ?_
  exact G.if_eq C (A := (lcmpW x1 x2).toInt) rfl (pc := pc + 1) hd ho hp (n := pc + 4) rfl (fun q _ => kt ((lch_eq x1 x2).1 q) (congrArg _ ((lch_eq x1 x2).1 q))) (fun q _ => kf ((lch_eq x1 x2).2 q) (fun r => (lch_eq x1 x2).2 q (Int64.toInt_inj.mp r)))
theorem ich_ne {x1 x2 : Int32} : (x1 ≠ x2 ∧ if_icmp.holds .ne x1 x2 = true) ∨ (x1 = x2 ∧ if_icmp.holds .ne x1 x2 = false) := by
  by_cases q : x1 = x2 <;> simp [if_icmp.holds, q]
theorem G.icmp_ne (C : Cx p s m meth c Z y bytes maxL ret) {x1 x2 : Int32} {o : Int} {A B : Int} (hA : x1.toInt = A) (hB : x2.toInt = B) (hd : decode bytes pc = .ok (.if_icmp .ne o, 3)) (ho : 0 ≤ (pc : Int) + o) (hp : ((pc : Int) + o).toNat = n') (hn : pc + 3 = n) (kt : x1 ≠ x2 → A ≠ B → Go p l e R s m args below meth c n0 Q cells slots h (mkF m n' Ls (st))) (kf : x1 = x2 → A = B → Go p l e R s m args below meth c n0 Q cells slots h (mkF m n Ls (st))) : Go p l e R s m args below meth c n0 Q cells slots h (mkF m pc Ls (.int x2 :: .int x1 :: st)) := by
  subst hn hA hB
  rcases ich_ne (x1 := x1) (x2 := x2) with ⟨q, r⟩ | ⟨q, r⟩
  · exact Go.via (fun T locs X _ t q => XS.icmpYes X.here C.x rfl rfl (hb C.by hd) rfl r ho hp q) (kt q (fun r => q (Int32.toInt_inj.mp r)))
  · exact Go.via (fun T locs X _ t q => XS.icmpNo X.here C.x rfl (hb C.by hd) rfl r q) (kf q (congrArg _ q))
theorem G.if_ne (C : Cx p s m meth c Z y bytes maxL ret) {x1 : Int32} {o : Int} {A : Int} (hA : x1.toInt = A) (hd : decode bytes pc = .ok (.ifCond .ne o, 3)) (ho : 0 ≤ (pc : Int) + o) (hp : ((pc : Int) + o).toNat = n') (hn : pc + 3 = n) (kt : x1 ≠ 0 → A ≠ 0 → Go p l e R s m args below meth c n0 Q cells slots h (mkF m n' Ls (st))) (kf : x1 = 0 → A = 0 → Go p l e R s m args below meth c n0 Q cells slots h (mkF m n Ls (st))) : Go p l e R s m args below meth c n0 Q cells slots h (mkF m pc Ls (.int x1 :: st)) := by
  subst hn hA
  rcases ich_ne (x1 := x1) (x2 := 0) with ⟨q, r⟩ | ⟨q, r⟩
  · exact Go.via (fun T locs X _ t q => XS.ifYes X.here C.x rfl rfl (hb C.by hd) rfl ((if0 _ _).trans r) ho hp q) (kt q (fun r => q (Int32.toInt_inj.mp r)))
  · exact Go.via (fun T locs X _ t q => XS.ifNo X.here C.x rfl (hb C.by hd) rfl ((if0 _ _).trans r) q) (kf q (congrArg Int32.toInt q))
theorem lch_ne (x1 x2 : Int64) : ((lcmpW x1 x2) ≠ 0 → x1 ≠ x2) ∧ ((lcmpW x1 x2) = 0 → x1 = x2) := by
  have q := c_lcmp x1 x2
  have z : ∀ x : Int32, x = 0 ↔ x.toInt = 0 := fun x => ⟨fun q => by rw [q]; rfl, fun q => Int32.toInt_inj.mp q⟩
  have w : x1 = x2 ↔ x1.toInt = x2.toInt := Int64.toInt_inj.symm
  simp only [ne_eq, z, w]
  constructor <;> intro r <;> omega
theorem G.lcmp_ne (C : Cx p s m meth c Z y bytes maxL ret) {x1 x2 : Int64} {o : Int} {A B : Int} (hA : x1.toInt = A) (hB : x2.toInt = B) (hc : decode bytes pc = .ok (.lcmp, 1)) (hd : decode bytes (pc + 1) = .ok (.ifCond .ne o, 3)) (ho : 0 ≤ ((pc + 1 : Nat) : Int) + o) (hp : (((pc + 1 : Nat) : Int) + o).toNat = n') (hn : pc + 4 = n) (kt : x1 ≠ x2 → A ≠ B → Go p l e R s m args below meth c n0 Q cells slots h (mkF m n' Ls (st))) (kf : x1 = x2 → A = B → Go p l e R s m args below meth c n0 Q cells slots h (mkF m n Ls (st))) : Go p l e R s m args below meth c n0 Q cells slots h (mkF m pc Ls (.long x2 :: .long x1 :: st)) := by
  subst hn hA hB
  refine Go.via (fun T locs X _ t q => XS.lcmp X.here C.x rfl (hb C.by hc) rfl q) ?_
  exact G.if_ne C (A := (lcmpW x1 x2).toInt) rfl (pc := pc + 1) hd ho hp (n := pc + 4) rfl (fun q _ => kt ((lch_ne x1 x2).1 q) (fun r => (lch_ne x1 x2).1 q (Int64.toInt_inj.mp r))) (fun q _ => kf ((lch_ne x1 x2).2 q) (congrArg _ ((lch_ne x1 x2).2 q)))
theorem G.ifnullN (C : Cx p s m meth c Z y bytes maxL ret) {b : Addr} {o : Int} (hd : decode bytes pc = .ok (.ifnull o, 3)) (hn : pc + 3 = n) (k : Go p l e R s m args below meth c n0 Q cells slots h (mkF m n Ls (st))) : Go p l e R s m args below meth c n0 Q cells slots h (mkF m pc Ls (.ref b :: st)) := by
  subst hn
  exact Go.via (fun T locs X _ t q => XS.ifnullNo X.here C.x rfl (hb C.by hd) rfl q) k
theorem G.ifnullY (C : Cx p s m meth c Z y bytes maxL ret) {o : Int} (hd : decode bytes pc = .ok (.ifnull o, 3)) (ho : 0 ≤ (pc : Int) + o) (hp : ((pc : Int) + o).toNat = n) (k : Go p l e R s m args below meth c n0 Q cells slots h (mkF m n Ls (st))) : Go p l e R s m args below meth c n0 Q cells slots h (mkF m pc Ls (.null :: st)) :=
  Go.via (fun T locs X _ t q => XS.ifnullYes X.here C.x rfl rfl (hb C.by hd) rfl ho hp q) k
theorem G.ifnonnullY (C : Cx p s m meth c Z y bytes maxL ret) {b : Addr} {o : Int} (hd : decode bytes pc = .ok (.ifnonnull o, 3)) (ho : 0 ≤ (pc : Int) + o) (hp : ((pc : Int) + o).toNat = n) (k : Go p l e R s m args below meth c n0 Q cells slots h (mkF m n Ls (st))) : Go p l e R s m args below meth c n0 Q cells slots h (mkF m pc Ls (.ref b :: st)) :=
  Go.via (fun T locs X _ t q => XS.ifnonnullYes X.here C.x rfl rfl (hb C.by hd) rfl ho hp q) k
theorem G.ifnonnullN (C : Cx p s m meth c Z y bytes maxL ret) {o : Int} (hd : decode bytes pc = .ok (.ifnonnull o, 3)) (hn : pc + 3 = n) (k : Go p l e R s m args below meth c n0 Q cells slots h (mkF m n Ls (st))) : Go p l e R s m args below meth c n0 Q cells slots h (mkF m pc Ls (.null :: st)) := by
  subst hn
  exact Go.via (fun T locs X _ t q => XS.ifnonnullNo X.here C.x rfl (hb C.by hd) rfl q) k
theorem G.acmp_eq (C : Cx p s m meth c Z y bytes maxL ret) {x1 x2 : Value} {o : Int} (h1 : x1.isRef = true) (h2 : x2.isRef = true) (hd : decode bytes pc = .ok (.if_acmp .eq o, 3)) (ho : 0 ≤ (pc : Int) + o) (hp : ((pc : Int) + o).toNat = n') (hn : pc + 3 = n) (kt : x1 = x2 → Go p l e R s m args below meth c n0 Q cells slots h (mkF m n' Ls (st))) (kf : x1 ≠ x2 → Go p l e R s m args below meth c n0 Q cells slots h (mkF m n Ls (st))) : Go p l e R s m args below meth c n0 Q cells slots h (mkF m pc Ls (x2 :: x1 :: st)) := by
  subst hn
  by_cases r : x1 = x2
  · exact Go.via (fun T locs X _ t q => Jvm.RoadKit.acmp (g := mkF m pc Ls (x2 :: x1 :: st)) X C.x rfl h1 h2 (same := true) rfl (hb C.by hd) rfl (decide_eq_true r) ho (hp.symm) q) (kt r)
  · exact Go.via (fun T locs X _ t q => Jvm.RoadKit.acmp (g := mkF m pc Ls (x2 :: x1 :: st)) X C.x rfl h1 h2 (same := false) rfl (hb C.by hd) rfl (decide_eq_false r) ho (rfl) q) (kf r)
theorem G.acmp_ne (C : Cx p s m meth c Z y bytes maxL ret) {x1 x2 : Value} {o : Int} (h1 : x1.isRef = true) (h2 : x2.isRef = true) (hd : decode bytes pc = .ok (.if_acmp .ne o, 3)) (ho : 0 ≤ (pc : Int) + o) (hp : ((pc : Int) + o).toNat = n') (hn : pc + 3 = n) (kt : x1 ≠ x2 → Go p l e R s m args below meth c n0 Q cells slots h (mkF m n' Ls (st))) (kf : x1 = x2 → Go p l e R s m args below meth c n0 Q cells slots h (mkF m n Ls (st))) : Go p l e R s m args below meth c n0 Q cells slots h (mkF m pc Ls (x2 :: x1 :: st)) := by
  subst hn
  by_cases r : x1 = x2
  · exact Go.via (fun T locs X _ t q => Jvm.RoadKit.acmp (g := mkF m pc Ls (x2 :: x1 :: st)) X C.x rfl h1 h2 (same := true) rfl (hb C.by hd) rfl (decide_eq_true r) ho (rfl) q) (kf r)
  · exact Go.via (fun T locs X _ t q => Jvm.RoadKit.acmp (g := mkF m pc Ls (x2 :: x1 :: st)) X C.x rfl h1 h2 (same := false) rfl (hb C.by hd) rfl (decide_eq_false r) ho (hp.symm) q) (kt r)
theorem G.ldc (C : Cx p s m meth c Z y bytes maxL ret) {index : Nat} {v : Int32} (w : (Jvm.Cond.constant y.cls index v).before a0 Z = true) (hd : decode bytes pc = .ok (.ldc index, 2)) (hn : pc + 2 = n) (k : Go p l e R s m args below meth c n0 Q cells slots h (mkF m n Ls (.int v :: st))) : Go p l e R s m args below meth c n0 Q cells slots h (mkF m pc Ls (st)) := by
  subst hn
  exact Go.via (fun T locs X _ t q => X.ldcInt C.x C.own (mvT C.z w) (g := mkF m pc Ls st) rfl (hb C.by hd) t q) k
theorem G.ldc_w (C : Cx p s m meth c Z y bytes maxL ret) {index : Nat} {v : Int32} (w : (Jvm.Cond.constant y.cls index v).before a0 Z = true) (hd : decode bytes pc = .ok (.ldc_w index, 3)) (hn : pc + 3 = n) (k : Go p l e R s m args below meth c n0 Q cells slots h (mkF m n Ls (.int v :: st))) : Go p l e R s m args below meth c n0 Q cells slots h (mkF m pc Ls (st)) := by
  subst hn
  exact Go.via (fun T locs X _ t q => X.ldcwInt C.x C.own (mvT C.z w) (g := mkF m pc Ls st) rfl (hb C.by hd) t q) k
theorem G.ldc2 (C : Cx p s m meth c Z y bytes maxL ret) {index : Nat} {v : Int64} (w : (Jvm.Cond.constantLong y.cls index v).before a0 Z = true) (hd : decode bytes pc = .ok (.ldc2_w index, 3)) (hn : pc + 3 = n) (k : Go p l e R s m args below meth c n0 Q cells slots h (mkF m n Ls (.long v :: st))) : Go p l e R s m args below meth c n0 Q cells slots h (mkF m pc Ls (st)) := by
  subst hn
  exact Go.via (fun T locs X _ t q => X.ldc2Long C.x C.own (mvT C.z w) (g := mkF m pc Ls st) rfl (hb C.by hd) t q) k
theorem Go.leave (C : Cx p s m meth c Z y bytes maxL ret) {v : Option Value} {f : JFrame} (hv : ret = none → v = none) (hc : cells ≤ R.cells) (hs : slots ≤ R.slots)
    (hret : ∀ T locs, Stand p l e R s m args below meth c T locs cells slots → ∀ fs, (∀ (f : JFrame) (acts : List Action), f.method = m → f.locked = none → f.entered = [] → (doReturn e (T.setTop f) acts v).1 = T.setFrames fs) → Steps p.tables e below (T.setTop f) (T.setFrames fs))
    (q : Q v h) : Go p l e R s m args below meth c n0 Q cells slots h f := fun T locs X N e0 => by
  obtain ⟨fs, hr, hrun, hended, hW, hsame⟩ := X.leave (v := v) (fun q => hv (C.rt.symm.trans q)) C.locks
  refine ⟨_, _, hret T locs X fs hr, hrun, hended, v, locs, rfl, ⟨N, ?_⟩, ⟨_, rfl⟩, hW, hsame.mono hc hs⟩
  show Q v T.heap
  rw [e0]; exact q
theorem G.return_ (C : Cx p s m meth c Z y bytes maxL none) (hd : decode bytes pc = .ok (.return_, 1)) (hc : cells ≤ R.cells) (hs : slots ≤ R.slots) (q : Q none h) : Go p l e R s m args below meth c n0 Q cells slots h (mkF m pc Ls ([])) :=
  Go.leave C (v := none) (fun _ => rfl) hc hs (fun T locs X fs hr => X.returnOut C.x C.rt (hb C.by hd) hr) q
theorem G.ireturn {t : FieldType} (C : Cx p s m meth c Z y bytes maxL (some t)) {x : Int32} (hd : decode bytes pc = .ok (.ireturn, 1)) (hnn : narrow t (.int x) = .int x) (ht : t = .int ∨ t = .boolean ∨ t = .byte ∨ t = .char ∨ t = .short) (hc : cells ≤ R.cells) (hs : slots ≤ R.slots) (q : Q (some (.int x)) h) : Go p l e R s m args below meth c n0 Q cells slots h (mkF m pc Ls (.int x :: st)) :=
  Go.leave C (v := some (.int x)) (fun q => nomatch q) hc hs (fun T locs X fs hr => retOut X C.x C.rt hnn (Or.inl ⟨rfl, ht, _, rfl⟩) (hb C.by hd) hr) q
theorem G.lreturn (C : Cx p s m meth c Z y bytes maxL (some .long)) {x : Int64} (hd : decode bytes pc = .ok (.lreturn, 1)) (hc : cells ≤ R.cells) (hs : slots ≤ R.slots) (q : Q (some (.long x)) h) : Go p l e R s m args below meth c n0 Q cells slots h (mkF m pc Ls (.long x :: st)) :=
  Go.leave C (v := some (.long x)) (fun q => nomatch q) hc hs (fun T locs X fs hr => retOut X C.x C.rt rfl (Or.inr (Or.inl ⟨rfl, rfl, _, rfl⟩)) (hb C.by hd) hr) q
theorem G.areturn {t : FieldType} (C : Cx p s m meth c Z y bytes maxL (some t)) {x : Value} (hd : decode bytes pc = .ok (.areturn, 1)) (ht : t.isReference = true) (hx : x.isRef = true) (hnn : narrow t x = x) (hc : cells ≤ R.cells) (hs : slots ≤ R.slots) (q : Q (some x) h) : Go p l e R s m args below meth c n0 Q cells slots h (mkF m pc Ls (x :: st)) :=
  Go.leave C (v := some x) (fun q => nomatch q) hc hs (fun T locs X fs hr => retOut X C.x C.rt hnn (Or.inr (Or.inr (Or.inr (Or.inr ⟨rfl, ht, hx⟩)))) (hb C.by hd) hr) q
theorem G.getfield (C : Cx p s m meth c Z y bytes maxL ret) {R0 O nm d host : String} {index : Nat} (w : (Jvm.Cond.fieldLink y.cls index R0 nm d).before a0 Z = true ∨ (Jvm.Cond.fieldLinkNest y.cls index R0 nm d host).before a0 Z = true) (via : Via Z R0 O nm d) {a : Addr} {v : Value} (F : Fld Z h a O nm d v) (hd : decode bytes pc = .ok (.getfield index, 3)) (hn : pc + 3 = n) (k : Go p l e R s m args below meth c n0 Q cells slots h (mkF m n Ls (v :: st))) : Go p l e R s m args below meth c n0 Q cells slots h (mkF m pc Ls (.ref a :: st)) := fun T locs X N q => by
  subst hn
  obtain ⟨T', X', e', st'⟩ := getF X C.x C.z C.own w via q F (g := mkF m pc Ls (.ref a :: st)) rfl rfl (hb C.by hd)
  obtain ⟨t, o, s1, r⟩ := k T' locs X' N e'
  exact ⟨t, o, st' t s1, r⟩
theorem G.getstatic (C : Cx p s m meth c Z y bytes maxL ret) {R0 O nm d host : String} {index : Nat} (w : (Jvm.Cond.fieldLink y.cls index R0 nm d).before a0 Z = true ∨ (Jvm.Cond.fieldLinkNest y.cls index R0 nm d host).before a0 Z = true) (via : Via Z R0 O nm d) {v : Value} (F : Sta Z h O nm d v) (hd : decode bytes pc = .ok (.getstatic index, 3)) (hn : pc + 3 = n) (k : Go p l e R s m args below meth c n0 Q cells slots h (mkF m n Ls (v :: st))) : Go p l e R s m args below meth c n0 Q cells slots h (mkF m pc Ls (st)) := fun T locs X N q => by
  subst hn
  obtain ⟨T', X', e', st'⟩ := getS2 X C.x C.z C.own w via q F (g := mkF m pc Ls st) rfl (hb C.by hd)
  obtain ⟨t, o, s1, r⟩ := k T' locs X' N e'
  exact ⟨t, o, st' t s1, r⟩
theorem G.putfield (C : Cx p s m meth c Z y bytes maxL ret) {R0 O nm d host K : String} {index kk : Nat} {ty : FieldType} (w : (Jvm.Cond.fieldLink y.cls index R0 nm d).before a0 Z = true ∨ (Jvm.Cond.fieldLinkNest y.cls index R0 nm d host).before a0 Z = true) (via : Via Z R0 O nm d) {a : Addr} {v old : Value} (F : Fld Z h a O nm d old) (E : Exa Z h a K)
    (L : (Jvm.Cond.lays K O nm d).before a0 Z = true ∨ ((Jvm.Cond.laysFinal K O nm d).before a0 Z = true ∧ y.cls = O ∧ y.name = "<init>")) (wi : (Jvm.Cond.instantiable K kk).before a0 Z = true) (hty : parseFieldDescriptor d = some ty) (hnn : narrow ty v = v) (hf : fits ty v = true) (g : n0 ≤ a)
    (hd : decode bytes pc = .ok (.putfield index, 3)) (hn : pc + 3 = n) (k : ∀ h', Wr h h' a (RoadKit.slotOf Z O nm d) v → Go p l e R s m args below meth c n0 Q cells slots h' (mkF m n Ls (st))) : Go p l e R s m args below meth c n0 Q cells slots h (mkF m pc Ls (v :: .ref a :: st)) := fun T locs X N q => by
  subst hn
  obtain ⟨T', h', X', e', W, st'⟩ := putF X C.x C.z C.own w via q F E (L.imp id fun r => ⟨r.1, r.2.1, C.nm.trans r.2.2⟩) wi hty hnn hf (g := mkF m pc Ls (v :: .ref a :: st)) rfl rfl (hb C.by hd)
  obtain ⟨t, o, s1, r⟩ := k h' W T' _ X' (Fr.snoc X' N g) e'
  exact ⟨t, o, st' t s1, r⟩
theorem G.putfieldN (C : Cx p s m meth c Z y bytes maxL ret) {R0 O nm d K : String} {index kk : Nat} {ty : FieldType} (w : (Jvm.Cond.fieldLink y.cls index R0 nm d).before a0 Z = true) (via : Via Z R0 O nm d) {a : Addr} {v v' old : Value} (F : Fld Z h a O nm d old) (E : Exa Z h a K)
    (L : (Jvm.Cond.lays K O nm d).before a0 Z = true ∨ ((Jvm.Cond.laysFinal K O nm d).before a0 Z = true ∧ y.cls = O ∧ y.name = "<init>")) (wi : (Jvm.Cond.instantiable K kk).before a0 Z = true) (hty : parseFieldDescriptor d = some ty) (hnn : narrow ty v = v') (hf : fits ty v' = true) (g : n0 ≤ a)
    (hd : decode bytes pc = .ok (.putfield index, 3)) (hn : pc + 3 = n) (k : ∀ h', Wr h h' a (RoadKit.slotOf Z O nm d) v' → Go p l e R s m args below meth c n0 Q cells slots h' (mkF m n Ls (st))) : Go p l e R s m args below meth c n0 Q cells slots h (mkF m pc Ls (v :: .ref a :: st)) := fun T locs X N q => by
  subst hn
  obtain ⟨T', h', X', e', W, st'⟩ := putFN X C.x C.z C.own w via q F E (L.imp id fun r => ⟨r.1, r.2.1, C.nm.trans r.2.2⟩) wi hty hnn hf (g := mkF m pc Ls (v :: .ref a :: st)) rfl rfl (hb C.by hd)
  obtain ⟨t, o, s1, r⟩ := k h' W T' _ X' (Fr.snoc X' N g) e'
  exact ⟨t, o, st' t s1, r⟩
theorem G.new (C : Cx p s m meth c Z y bytes maxL ret) {K : String} {index ns c' s' : Nat} (w : (Jvm.Cond.classLink y.cls index K).before a0 Z = true) (wi : (Jvm.Cond.instantiable K ns).before a0 Z = true) (wz : (Jvm.Cond.initialized K).before a0 Z = true) (hd : decode bytes pc = .ok (.new index, 3)) (hn : pc + 3 = n) (hc' : cells + 1 = c') (hs' : slots + ns = s') (hc : c' ≤ R.cells) (hs : s' ≤ R.slots)
    (k : ∀ h' b, b = h.size → Ext h h' → Exa Z h' b K → (∀ {O nm d : String} {ty : FieldType}, Laid Z a0 K O nm d → parseFieldDescriptor d = some ty → Fld Z h' b O nm d (defaultValue ty)) → Go p l e R s m args below meth c n0 Q c' s' h' (mkF m n Ls (.ref b :: st))) : Go p l e R s m args below meth c n0 Q cells slots h (mkF m pc Ls (st)) := fun T locs X N q => by
  subst hn hc' hs'
  obtain ⟨T', h', X', e', E, A, D, -, st'⟩ := newO X C.x C.z C.own w wi wz q (g := mkF m pc Ls st) rfl (hb C.by hd) hc hs
  obtain ⟨t, o, s1, r⟩ := k h' _ rfl E A D T' _ X' N e'
  exact ⟨t, o, st' t s1, r⟩
theorem G.objinit (C : Cx p s m meth c Z y bytes maxL ret) {index W : Nat} (w1 : (Jvm.Cond.methodLink y.cls index Lib.objectInit).before a0 Z = true) (w2 : (Jvm.Cond.instanceMethod Lib.objectInit).before a0 Z = true) (w3 : (Jvm.Cond.code Lib.objectInit ⟨#[0xb1]⟩ 1 none).before a0 Z = true) {a : Addr} (hd : decode bytes pc = .ok (.invokespecial index, 3)) (hsz : Ls.size = maxL) (hf : 1 ≤ R.frames) (hW : (st.map fun v => v.category).sum = W) (hl : W + 12 ≤ R.locals) (hn : pc + 3 = n) (k : Go p l e R s m args below meth c n0 Q cells slots h (mkF m n Ls (st))) : Go p l e R s m args below meth c n0 Q cells slots h (mkF m pc Ls (.ref a :: st)) := fun T locs X N q => by
  subst hn hW
  obtain ⟨T', X', e', st'⟩ := initO X C.x C.z C.own w1 w2 w3 q (g := mkF m pc Ls (.ref a :: st)) rfl (hsz.trans C.ml.symm) rfl (hb C.by hd) hf (W := (st.map fun v => v.category).sum) (by show 2 * 0 + _ ≤ _; omega) hl
  obtain ⟨t, o, s1, r⟩ := k T' locs X' N e'
  exact ⟨t, o, st' t s1, r⟩
theorem G.callS (C : Cx p s m meth c Z y bytes maxL ret) {index W : Nat} {yc : MethodName} {bc : ByteArray} {mc : Nat} {rc : Option FieldType} {rm : Room} {c' s' : Nat} {Qc : Option Value → Heap → Prop} {ps : List FieldType} {argsL stk : List Value} (w1 : (Jvm.Cond.methodLink y.cls index yc).before a0 Z = true) (w2 : (Jvm.Cond.static yc).before a0 Z = true) (w3 : (Jvm.Cond.initialized yc.cls).before a0 Z = true) (w4 : (Jvm.Cond.code yc bc mc rc).before a0 Z = true) (hy : yc.cls ≠ "java/lang/invoke/MethodHandle" ∧ yc.cls ≠ "java/lang/invoke/VarHandle") (M : Met l Z yc bc mc rc rm argsL.toArray h n0 Qc) (hsz : Ls.size = maxL) (hf : rm.frames + 1 ≤ R.frames) (hW : (st.map fun v => v.category).sum = W) (hl : W + (mc + 11) + rm.locals ≤ R.locals) (hc' : cells + rm.cells = c') (hs' : slots + rm.slots = s') (hc : c' ≤ R.cells) (hs : s' ≤ R.slots) (hd : decode bytes pc = .ok (.invokestatic index, 3)) (hn : pc + 3 = n) (hlen : parseMethodDescriptor yc.desc = some ⟨ps, rc⟩) (hal : argsL.length = ps.length) (hst : stk = argsL.reverse ++ st) (k : ∀ v h', Qc v h' → Go p l e R s m args below meth c n0 Q c' s' h' (mkF m n Ls (v.toList ++ st))) : Go p l e R s m args below meth c n0 Q cells slots h (mkF m pc Ls (stk)) := fun T locs X N q => by
  subst hn hW hc' hs' hst
  obtain ⟨v, _, ⟨T', L', k', n''⟩, -, X', ⟨Lc, hQ, h1, h2, h3⟩, st'⟩ := Jvm.LawKit.callS X C.x (y := yc) C.own (mvT C.z w1) (mvT C.z w2) (mvT C.z w3) (mvT C.z w4) hy (backOf (W := (st.map fun v => v.category).sum) (Q := fun v h L => Fr n0 L ∧ Qc v h) (M []) C.z w4 w3 hf hl) (g := mkF m pc Ls (argsL.reverse ++ st)) rfl (hsz.trans C.ml.symm) (argsL := argsL) (rest := st) (lenOf hlen hal) rfl (by show 2 * 0 + _ ≤ _; omega) (hb C.by hd) (fun _ _ => ⟨rfl, q, hc, hs⟩)
  dsimp only [Pt.U, Pt.locs, Pt.cells, Pt.slots] at X' h1 h2 h3 st' hQ
  subst h1 h2 h3
  obtain ⟨t, o, s1, r⟩ := k v _ hQ.2 T' _ X' (Fr.app N hQ.1) rfl
  exact ⟨t, o, st' t s1, r⟩
theorem G.callC (C : Cx p s m meth c Z y bytes maxL ret) {index W : Nat} {yc : MethodName} {bc : ByteArray} {mc : Nat} {rm : Room} {c' s' : Nat} {Qc : Option Value → Heap → Prop} {ps : List FieldType} {argsL stk : List Value} {a : Addr} (hy1 : yc.name = "<init>") (w1 : (Jvm.Cond.methodLink y.cls index yc).before a0 Z = true) (w2 : (Jvm.Cond.instanceMethod yc).before a0 Z = true) (w3 : (Jvm.Cond.initialized yc.cls).before a0 Z = true) (w4 : (Jvm.Cond.code yc bc mc none).before a0 Z = true) (hy : yc.cls ≠ "java/lang/invoke/MethodHandle" ∧ yc.cls ≠ "java/lang/invoke/VarHandle") (M : Met l Z yc bc mc none rm (.ref a :: argsL).toArray h n0 Qc) (hsz : Ls.size = maxL) (hf : rm.frames + 1 ≤ R.frames) (hW : (st.map fun v => v.category).sum = W) (hl : W + (mc + 11) + rm.locals ≤ R.locals) (hc' : cells + rm.cells = c') (hs' : slots + rm.slots = s') (hc : c' ≤ R.cells) (hs : s' ≤ R.slots) (hd : decode bytes pc = .ok (.invokespecial index, 3)) (hn : pc + 3 = n) (hlen : parseMethodDescriptor yc.desc = some ⟨ps, none⟩) (hal : argsL.length = ps.length) (hst : stk = argsL.reverse ++ .ref a :: st) (k : ∀ v h', Qc v h' → Go p l e R s m args below meth c n0 Q c' s' h' (mkF m n Ls (v.toList ++ st))) : Go p l e R s m args below meth c n0 Q cells slots h (mkF m pc Ls (stk)) := fun T locs X N q => by
  subst hn hW hc' hs' hst
  obtain ⟨v, _, ⟨T', L', k', n''⟩, -, X', ⟨Lc, hQ, h1, h2, h3⟩, st'⟩ := X.specialBack C.x (y := yc) hy1 C.own (mvT C.z w1) (mvT C.z w2) (mvT C.z w4) hy (backOf (W := (st.map fun v => v.category).sum) (Q := fun v h L => Fr n0 L ∧ Qc v h) (M []) C.z w4 w3 hf hl) (g := mkF m pc Ls (argsL.reverse ++ .ref a :: st)) rfl (hsz.trans C.ml.symm) (Steps.refl _) (a := a) (argsL := argsL) (rest := st) (lenOf hlen hal) rfl (by show 2 * 0 + _ ≤ _; omega) (hb C.by hd) (fun _ _ => ⟨rfl, q, hc, hs⟩)
  dsimp only [Pt.U, Pt.locs, Pt.cells, Pt.slots] at X' h1 h2 h3 st' hQ
  subst h1 h2 h3
  obtain ⟨t, o, s1, r⟩ := k v _ hQ.2 T' _ X' (Fr.app N hQ.1) rfl
  exact ⟨t, o, st'.trans s1, r⟩
theorem G.callV (C : Cx p s m meth c Z y bytes maxL ret) {index W : Nat} {yc : MethodName} {bc : ByteArray} {mc : Nat} {rc : Option FieldType} {rm : Room} {c' s' : Nat} {Qc : Option Value → Heap → Prop} {ps : List FieldType} {K : String} {yr : MethodName} {argsL stk : List Value} {a : Addr} (E : Exa Z h a K) (w1 : (Jvm.Cond.methodLink y.cls index yr).before a0 Z = true) (w5 : (Jvm.Cond.declares yr).before a0 Z = true) (hnf : ∀ s : State, Z.Warmed39 s.vm → NotFace s yr) (w6 : (Jvm.Cond.selects K yr yc).before a0 Z = true) (w2 : (Jvm.Cond.instanceMethod yc).before a0 Z = true) (w3 : (Jvm.Cond.initialized yc.cls).before a0 Z = true) (w4 : (Jvm.Cond.code yc bc mc rc).before a0 Z = true) (hy : yr.cls ≠ "java/lang/invoke/MethodHandle" ∧ yr.cls ≠ "java/lang/invoke/VarHandle") (M : Met l Z yc bc mc rc rm (.ref a :: argsL).toArray h n0 Qc) (hsz : Ls.size = maxL) (hf : rm.frames + 1 ≤ R.frames) (hW : (st.map fun v => v.category).sum = W) (hl : W + (mc + 11) + rm.locals ≤ R.locals) (hc' : cells + rm.cells = c') (hs' : slots + rm.slots = s') (hc : c' ≤ R.cells) (hs : s' ≤ R.slots) (hd : decode bytes pc = .ok (.invokevirtual index, 3)) (hn : pc + 3 = n) (hlen : parseMethodDescriptor yr.desc = some ⟨ps, rc⟩) (hal : argsL.length = ps.length) (hst : stk = argsL.reverse ++ .ref a :: st) (k : ∀ v h', Qc v h' → Go p l e R s m args below meth c n0 Q c' s' h' (mkF m n Ls (v.toList ++ st))) : Go p l e R s m args below meth c n0 Q cells slots h (mkF m pc Ls (stk)) := fun T locs X N q => by
  subst hn hW hc' hs' hst
  obtain ⟨cq, kq, qa, qb, qc⟩ := isOf C.z q E
  obtain ⟨v, _, ⟨T', L', k', n''⟩, -, X', ⟨Lc, hQ, h1, h2, h3⟩, st'⟩ := X.virtualBack C.x (y := yr) (z := yc) C.own (mvT C.z w1) (mvT C.z w5) (hnf s C.z) (mvT C.z w6) (mvT C.z w2) hy (backOf (W := (st.map fun v => v.category).sum) (Q := fun v h L => Fr n0 L ∧ Qc v h) (M []) C.z w4 w3 hf hl) qa qc (g := mkF m pc Ls (argsL.reverse ++ .ref a :: st)) rfl (hsz.trans C.ml.symm) (Steps.refl _) (argsL := argsL) (rest := st) (lenOf hlen hal) rfl (by show 2 * 0 + _ ≤ _; omega) (hb C.by hd) (fun _ _ => ⟨rfl, q, hc, hs⟩)
  dsimp only [Pt.U, Pt.locs, Pt.cells, Pt.slots] at X' h1 h2 h3 st' hQ
  subst h1 h2 h3
  obtain ⟨t, o, s1, r⟩ := k v _ hQ.2 T' _ X' (Fr.app N hQ.1) rfl
  exact ⟨t, o, st'.trans s1, r⟩
theorem nfS {yr : MethodName} {K : String} {z : MethodName} (w6 : (Jvm.Cond.selects K yr z).before a0 Z = true) (hz : z = yr) : ∀ s : State, Z.Warmed39 s.vm → NotFace s yr := fun s hZ => by
  subst hz
  exact notFace_of_selects (args := #[]) (mvT hZ w6)
def Ints (Z : State) (h : Heap) (a : Addr) (ty : FieldType) (vs : List Int32) : Prop := ∃ k z, Arv Z h a k ty z (vs.map Value.int) (.int 0) ∧ z.toInt = vs.length
def Longs (Z : State) (h : Heap) (a : Addr) (vs : List Int64) : Prop := ∃ k z, Arv Z h a k .long z (vs.map Value.long) (.long 0) ∧ z.toInt = vs.length
theorem nat_clamp {j : Int32} : j.toNatClampNeg = j.toInt.toNat := rfl
theorem not_neg {j : Int32} (hj : 0 ≤ j.toInt) : ¬ j < 0 := by rw [lt_i]; exact Int.not_lt.mpr hj
theorem of_not_neg {j : Int32} (hj : ¬ j < 0) : 0 ≤ j.toInt := by rw [lt_i] at hj; exact Int.not_lt.mp hj
theorem inb {j z : Int32} {cl : Cell} {len : Nat} (hj : 0 ≤ j.toInt) (S : cl.slots.size = z.toNatClampNeg) (hz : z.toInt = len) (hl : j.toInt.toNat < len) : ¬ (j < 0 ∨ cl.slots.size ≤ j.toNatClampNeg) := by
  rintro (q | q)
  · exact not_neg hj q
  · rw [S, nat_clamp, nat_clamp, hz] at q; omega
theorem getD_map {α : Type} (f : α → Value) (vs : List α) (i : Nat) (d : Value) {x : α} (hx : vs[i]? = some x) : (vs.map f).getD i d = f x := by
  rw [List.getD_eq_getElem?_getD, List.getElem?_map, hx]; rfl
theorem lt_of_some {α : Type} {vs : List α} {i : Nat} {x : α} (hx : vs[i]? = some x) : i < vs.length := (List.getElem?_eq_some_iff.mp hx).1
theorem Ints.lt {a : Addr} {ty : FieldType} {vs : List Int32} (F : Ints Z h a ty vs) : a < h.size := by obtain ⟨k, z, A, -⟩ := F; exact A.lt
theorem Ints.ext {h' : Heap} {a : Addr} {ty : FieldType} {vs : List Int32} (F : Ints Z h a ty vs) (E : Ext h h') : Ints Z h' a ty vs := by obtain ⟨k, z, A, q⟩ := F; exact ⟨k, z, A.ext E, q⟩
theorem Ints.keep {h' : Heap} {ws : List Addr} {a : Addr} {ty : FieldType} {vs : List Int32} (F : Ints Z h a ty vs) (K : Keep h h' ws) (r : a ∉ ws) : Ints Z h' a ty vs := by obtain ⟨k, z, A, q⟩ := F; exact ⟨k, z, A.keep K r, q⟩
theorem Ints.other {h' : Heap} {sl : Nat} {v : Value} {a b : Addr} {ty : FieldType} {vs : List Int32} (F : Ints Z h a ty vs) (W : Wr h h' b sl v) (r : a ≠ b) : Ints Z h' a ty vs := by obtain ⟨k, z, A, q⟩ := F; exact ⟨k, z, A.other W r, q⟩
theorem Ints.len {a : Addr} {ty : FieldType} {vs : List Int32} (F : Ints Z h a ty vs) : (vs.length : Int) < 2147483648 := by obtain ⟨k, z, A, q⟩ := F; rw [← q]; exact (rng32 z).2
theorem Ints.at {a : Addr} {ty : FieldType} {vs : List Int32} (F : Ints Z h a ty vs) {j : Int32} {x : Int32} (hj : 0 ≤ j.toInt) (hx : vs[j.toInt.toNat]? = some x) : ∃ cl, Arr Z h a cl ty ∧ ¬ (j < 0 ∨ cl.slots.size ≤ j.toNatClampNeg) ∧ cl.slots[j.toNatClampNeg]? = some (.int x) ∧ fits ty (.int x) = true := by
  obtain ⟨k, z, ⟨cl, A, q1, S, N, H, G⟩, hz⟩ := F
  have hi := inb hj S hz (lt_of_some hx)
  have hi2 : j.toNatClampNeg < cl.slots.size := Nat.lt_of_not_le fun y => hi (Or.inr y)
  have e1 := H _ hi2
  have e2 := G _ hi2
  rw [nat_clamp, getD_map _ _ _ _ hx] at e1 e2
  exact ⟨cl, A, hi, e1, e2⟩
theorem Ints.put {h' : Heap} {a : Addr} {ty : FieldType} {vs : List Int32} (F : Ints Z h a ty vs) {j : Int32} {x : Int32} (hj : 0 ≤ j.toInt) (hl : j.toInt < vs.length) (hf : fits ty (.int x) = true) : ∃ cl, Arr Z h a cl ty ∧ ¬ (j < 0 ∨ cl.slots.size ≤ j.toNatClampNeg) ∧ (Wr h h' a j.toNatClampNeg (.int x) → Ints Z h' a ty (vs.set j.toInt.toNat x)) := by
  obtain ⟨k, z, ⟨cl, A, q1, S, N, H, G⟩, hz⟩ := F
  have hl2 : j.toInt.toNat < vs.length := by omega
  refine ⟨cl, A, inb hj S hz hl2, fun W => ⟨k, z, ?_, ?_⟩⟩
  · have r := Arv.set A q1 S N H G hf W j.toInt.toNat rfl (by rw [List.length_map]; exact hl2)
    rw [List.map_set]; exact r
  · rw [List.length_set]; exact hz
theorem Longs.lt {a : Addr} {vs : List Int64} (F : Longs Z h a vs) : a < h.size := by obtain ⟨k, z, A, -⟩ := F; exact A.lt
theorem Longs.ext {h' : Heap} {a : Addr} {vs : List Int64} (F : Longs Z h a vs) (E : Ext h h') : Longs Z h' a vs := by obtain ⟨k, z, A, q⟩ := F; exact ⟨k, z, A.ext E, q⟩
theorem Longs.keep {h' : Heap} {ws : List Addr} {a : Addr} {vs : List Int64} (F : Longs Z h a vs) (K : Keep h h' ws) (r : a ∉ ws) : Longs Z h' a vs := by obtain ⟨k, z, A, q⟩ := F; exact ⟨k, z, A.keep K r, q⟩
theorem Longs.other {h' : Heap} {sl : Nat} {v : Value} {a b : Addr} {vs : List Int64} (F : Longs Z h a vs) (W : Wr h h' b sl v) (r : a ≠ b) : Longs Z h' a vs := by obtain ⟨k, z, A, q⟩ := F; exact ⟨k, z, A.other W r, q⟩
theorem Longs.len {a : Addr} {vs : List Int64} (F : Longs Z h a vs) : (vs.length : Int) < 2147483648 := by obtain ⟨k, z, A, q⟩ := F; rw [← q]; exact (rng32 z).2
theorem Longs.at {a : Addr} {vs : List Int64} (F : Longs Z h a vs) {j : Int32} {x : Int64} (hj : 0 ≤ j.toInt) (hx : vs[j.toInt.toNat]? = some x) : ∃ cl, Arr Z h a cl .long ∧ ¬ (j < 0 ∨ cl.slots.size ≤ j.toNatClampNeg) ∧ cl.slots[j.toNatClampNeg]? = some (.long x) ∧ fits .long (.long x) = true := by
  obtain ⟨k, z, ⟨cl, A, q1, S, N, H, G⟩, hz⟩ := F
  have hi := inb hj S hz (lt_of_some hx)
  have hi2 : j.toNatClampNeg < cl.slots.size := Nat.lt_of_not_le fun y => hi (Or.inr y)
  have e1 := H _ hi2
  have e2 := G _ hi2
  rw [nat_clamp, getD_map _ _ _ _ hx] at e1 e2
  exact ⟨cl, A, hi, e1, e2⟩
theorem Longs.put {h' : Heap} {a : Addr} {vs : List Int64} (F : Longs Z h a vs) {j : Int32} {x : Int64} (hj : 0 ≤ j.toInt) (hl : j.toInt < vs.length) (hf : fits .long (.long x) = true) : ∃ cl, Arr Z h a cl .long ∧ ¬ (j < 0 ∨ cl.slots.size ≤ j.toNatClampNeg) ∧ (Wr h h' a j.toNatClampNeg (.long x) → Longs Z h' a (vs.set j.toInt.toNat x)) := by
  obtain ⟨k, z, ⟨cl, A, q1, S, N, H, G⟩, hz⟩ := F
  have hl2 : j.toInt.toNat < vs.length := by omega
  refine ⟨cl, A, inb hj S hz hl2, fun W => ⟨k, z, ?_, ?_⟩⟩
  · have r := Arv.set A q1 S N H G hf W j.toInt.toNat rfl (by rw [List.length_map]; exact hl2)
    rw [List.map_set]; exact r
  · rw [List.length_set]; exact hz
theorem G.iaload (C : Cx p s m meth c Z y bytes maxL ret) {a : Addr} {j : Int32} {x : Int32} {vs : List Int32} (F : Ints Z h a .int vs) (hj : 0 ≤ j.toInt) (hx : vs[j.toInt.toNat]? = some x) (hd : decode bytes pc = .ok (.iaload, 1)) (hn : pc + 1 = n) (k : Go p l e R s m args below meth c n0 Q cells slots h (mkF m n Ls (.int x :: st))) : Go p l e R s m args below meth c n0 Q cells slots h (mkF m pc Ls (.int j :: .ref a :: st)) := by
  subst hn
  obtain ⟨cl, A, h1, h2, -⟩ := F.at hj hx
  exact Go.via (fun T locs X q t r => X.iaload C.x (j := j) (v := .int x) (by rw [q]; exact A.1) (State.isArrayOf_alike C.z.alike A.2.1) A.2.2 h1 h2 (g := mkF m pc Ls (.int j :: .ref a :: st)) rfl rfl (hb C.by hd) t r) k
theorem G.laload (C : Cx p s m meth c Z y bytes maxL ret) {a : Addr} {j : Int32} {x : Int64} {vs : List Int64} (F : Longs Z h a vs) (hj : 0 ≤ j.toInt) (hx : vs[j.toInt.toNat]? = some x) (hd : decode bytes pc = .ok (.laload, 1)) (hn : pc + 1 = n) (k : Go p l e R s m args below meth c n0 Q cells slots h (mkF m n Ls (.long x :: st))) : Go p l e R s m args below meth c n0 Q cells slots h (mkF m pc Ls (.int j :: .ref a :: st)) := by
  subst hn
  obtain ⟨cl, A, h1, h2, -⟩ := F.at hj hx
  exact Go.via (fun T locs X q t r => X.laload C.x (j := j) (v := .long x) (by rw [q]; exact A.1) (State.isArrayOf_alike C.z.alike A.2.1) A.2.2 h1 h2 (g := mkF m pc Ls (.int j :: .ref a :: st)) rfl rfl (hb C.by hd) t r) k
theorem G.caload (C : Cx p s m meth c Z y bytes maxL ret) {a : Addr} {j : Int32} {x : Int32} {vs : List Int32} (F : Ints Z h a .char vs) (hj : 0 ≤ j.toInt) (hx : vs[j.toInt.toNat]? = some x) (hd : decode bytes pc = .ok (.caload, 1)) (hn : pc + 1 = n) (k : Go p l e R s m args below meth c n0 Q cells slots h (mkF m n Ls (.int x :: st))) : Go p l e R s m args below meth c n0 Q cells slots h (mkF m pc Ls (.int j :: .ref a :: st)) := by
  subst hn
  obtain ⟨cl, A, h1, h2, -⟩ := F.at hj hx
  exact Go.via (fun T locs X q t r => X.caload C.x (j := j) (v := .int x) (by rw [q]; exact A.1) (State.isArrayOf_alike C.z.alike A.2.1) A.2.2 h1 h2 (g := mkF m pc Ls (.int j :: .ref a :: st)) rfl rfl (hb C.by hd) t r) k
theorem G.baload (C : Cx p s m meth c Z y bytes maxL ret) {a : Addr} {j : Int32} {x : Int32} {vs : List Int32} (F : Ints Z h a .byte vs) (hj : 0 ≤ j.toInt) (hx : vs[j.toInt.toNat]? = some x) (hd : decode bytes pc = .ok (.baload, 1)) (hn : pc + 1 = n) (k : Go p l e R s m args below meth c n0 Q cells slots h (mkF m n Ls (.int x :: st))) : Go p l e R s m args below meth c n0 Q cells slots h (mkF m pc Ls (.int j :: .ref a :: st)) := by
  subst hn
  obtain ⟨cl, A, h1, h2, -⟩ := F.at hj hx
  exact Go.via (fun T locs X q t r => X.baloadBytes C.x (j := j) (v := .int x) (by rw [q]; exact A.1) (State.isArrayOf_alike C.z.alike A.2.1) A.2.2 h1 h2 (g := mkF m pc Ls (.int j :: .ref a :: st)) rfl rfl (hb C.by hd) t r) k
theorem G.baloadZ (C : Cx p s m meth c Z y bytes maxL ret) {a : Addr} {j : Int32} {x : Int32} {vs : List Int32} (F : Ints Z h a .boolean vs) (hj : 0 ≤ j.toInt) (hx : vs[j.toInt.toNat]? = some x) (hd : decode bytes pc = .ok (.baload, 1)) (hn : pc + 1 = n) (k : Go p l e R s m args below meth c n0 Q cells slots h (mkF m n Ls (.int x :: st))) : Go p l e R s m args below meth c n0 Q cells slots h (mkF m pc Ls (.int j :: .ref a :: st)) := by
  subst hn
  obtain ⟨cl, A, h1, h2, -⟩ := F.at hj hx
  exact Go.via (fun T locs X q t r => X.baloadBooleans C.x (j := j) (v := .int x) (by rw [q]; exact A.1) (State.isArrayOf_alike C.z.alike A.2.1) A.2.2 h1 h2 (g := mkF m pc Ls (.int j :: .ref a :: st)) rfl rfl (hb C.by hd) t r) k
theorem G.iastore (C : Cx p s m meth c Z y bytes maxL ret) {a : Addr} {j : Int32} {x : Int32} {vs : List Int32} (F : Ints Z h a .int vs) (hj : 0 ≤ j.toInt) (hl : j.toInt < vs.length) (g : n0 ≤ a) (hd : decode bytes pc = .ok (.iastore, 1)) (hn : pc + 1 = n) (k : ∀ h', Keep h h' [a] → (∃ w, Wr h h' a j.toNatClampNeg w) → Ints Z h' a .int (vs.set j.toInt.toNat x) → Go p l e R s m args below meth c n0 Q cells slots h' (mkF m n Ls (st))) : Go p l e R s m args below meth c n0 Q cells slots h (mkF m pc Ls (.int x :: .int j :: .ref a :: st)) := fun T locs X N q => by
  subst hn
  obtain ⟨cl, A, h1, -⟩ := F.put (h' := h) hj hl (x := x) rfl
  obtain ⟨T', h', X', e', W, st'⟩ := stI X C.x C.z q A (j := j) h1 (g := mkF m pc Ls (.int x :: .int j :: .ref a :: st)) rfl rfl (hb C.by hd)
  obtain ⟨cl2, A2, -, h3⟩ := F.put (h' := h') hj hl (x := x) rfl
  obtain ⟨t, o, s1, r⟩ := k h' (Keep.of_wr W) ⟨_, W⟩ (h3 W) T' _ X' (Fr.snoc X' N g) e'
  exact ⟨t, o, st' t s1, r⟩
theorem G.lastore (C : Cx p s m meth c Z y bytes maxL ret) {a : Addr} {j : Int32} {x : Int64} {vs : List Int64} (F : Longs Z h a vs) (hj : 0 ≤ j.toInt) (hl : j.toInt < vs.length) (g : n0 ≤ a) (hd : decode bytes pc = .ok (.lastore, 1)) (hn : pc + 1 = n) (k : ∀ h', Keep h h' [a] → (∃ w, Wr h h' a j.toNatClampNeg w) → Longs Z h' a (vs.set j.toInt.toNat x) → Go p l e R s m args below meth c n0 Q cells slots h' (mkF m n Ls (st))) : Go p l e R s m args below meth c n0 Q cells slots h (mkF m pc Ls (.long x :: .int j :: .ref a :: st)) := fun T locs X N q => by
  subst hn
  obtain ⟨cl, A, h1, -⟩ := F.put (h' := h) hj hl (x := x) rfl
  obtain ⟨T', h', X', e', W, st'⟩ := stJ X C.x C.z q A (j := j) h1 (g := mkF m pc Ls (.long x :: .int j :: .ref a :: st)) rfl rfl (hb C.by hd)
  obtain ⟨cl2, A2, -, h3⟩ := F.put (h' := h') hj hl (x := x) rfl
  obtain ⟨t, o, s1, r⟩ := k h' (Keep.of_wr W) ⟨_, W⟩ (h3 W) T' _ X' (Fr.snoc X' N g) e'
  exact ⟨t, o, st' t s1, r⟩
theorem G.castore (C : Cx p s m meth c Z y bytes maxL ret) {a : Addr} {j : Int32} {x : Int32} {vs : List Int32} (F : Ints Z h a .char vs) (hj : 0 ≤ j.toInt) (hl : j.toInt < vs.length) (g : n0 ≤ a) (hd : decode bytes pc = .ok (.castore, 1)) (hn : pc + 1 = n) (k : ∀ h', Keep h h' [a] → (∃ w, Wr h h' a j.toNatClampNeg w) → Ints Z h' a .char (vs.set j.toInt.toNat (nar .char x)) → Go p l e R s m args below meth c n0 Q cells slots h' (mkF m n Ls (st))) : Go p l e R s m args below meth c n0 Q cells slots h (mkF m pc Ls (.int x :: .int j :: .ref a :: st)) := fun T locs X N q => by
  subst hn
  obtain ⟨cl, A, h1, -⟩ := F.put (h' := h) hj hl (x := (nar .char x)) (fits_nar_char x)
  obtain ⟨T', h', X', e', W, st'⟩ := stC X C.x C.z q A (j := j) h1 (g := mkF m pc Ls (.int x :: .int j :: .ref a :: st)) rfl rfl (hb C.by hd)
  obtain ⟨cl2, A2, -, h3⟩ := F.put (h' := h') hj hl (x := (nar .char x)) (fits_nar_char x)
  obtain ⟨t, o, s1, r⟩ := k h' (Keep.of_wr W) ⟨_, W⟩ (h3 W) T' _ X' (Fr.snoc X' N g) e'
  exact ⟨t, o, st' t s1, r⟩
theorem G.bastore (C : Cx p s m meth c Z y bytes maxL ret) {a : Addr} {j : Int32} {x : Int32} {vs : List Int32} (F : Ints Z h a .byte vs) (hj : 0 ≤ j.toInt) (hl : j.toInt < vs.length) (g : n0 ≤ a) (hd : decode bytes pc = .ok (.bastore, 1)) (hn : pc + 1 = n) (k : ∀ h', Keep h h' [a] → (∃ w, Wr h h' a j.toNatClampNeg w) → Ints Z h' a .byte (vs.set j.toInt.toNat (nar .byte x)) → Go p l e R s m args below meth c n0 Q cells slots h' (mkF m n Ls (st))) : Go p l e R s m args below meth c n0 Q cells slots h (mkF m pc Ls (.int x :: .int j :: .ref a :: st)) := fun T locs X N q => by
  subst hn
  obtain ⟨cl, A, h1, -⟩ := F.put (h' := h) hj hl (x := (nar .byte x)) (fits_nar_byte x)
  obtain ⟨T', h', X', e', W, st'⟩ := stB X C.x C.z q A (j := j) h1 (g := mkF m pc Ls (.int x :: .int j :: .ref a :: st)) rfl rfl (hb C.by hd)
  obtain ⟨cl2, A2, -, h3⟩ := F.put (h' := h') hj hl (x := (nar .byte x)) (fits_nar_byte x)
  obtain ⟨t, o, s1, r⟩ := k h' (Keep.of_wr W) ⟨_, W⟩ (h3 W) T' _ X' (Fr.snoc X' N g) e'
  exact ⟨t, o, st' t s1, r⟩
theorem G.bastoreZ (C : Cx p s m meth c Z y bytes maxL ret) {a : Addr} {j : Int32} {x : Int32} {vs : List Int32} (F : Ints Z h a .boolean vs) (hj : 0 ≤ j.toInt) (hl : j.toInt < vs.length) (g : n0 ≤ a) (hd : decode bytes pc = .ok (.bastore, 1)) (hn : pc + 1 = n) (k : ∀ h', Keep h h' [a] → (∃ w, Wr h h' a j.toNatClampNeg w) → Ints Z h' a .boolean (vs.set j.toInt.toNat (nar .boolean x)) → Go p l e R s m args below meth c n0 Q cells slots h' (mkF m n Ls (st))) : Go p l e R s m args below meth c n0 Q cells slots h (mkF m pc Ls (.int x :: .int j :: .ref a :: st)) := fun T locs X N q => by
  subst hn
  obtain ⟨cl, A, h1, -⟩ := F.put (h' := h) hj hl (x := (nar .boolean x)) (fits_nar_bool x)
  obtain ⟨T', h', X', e', W, st'⟩ := stZ X C.x C.z q A (j := j) h1 (g := mkF m pc Ls (.int x :: .int j :: .ref a :: st)) rfl rfl (hb C.by hd)
  obtain ⟨cl2, A2, -, h3⟩ := F.put (h' := h') hj hl (x := (nar .boolean x)) (fits_nar_bool x)
  obtain ⟨t, o, s1, r⟩ := k h' (Keep.of_wr W) ⟨_, W⟩ (h3 W) T' _ X' (Fr.snoc X' N g) e'
  exact ⟨t, o, st' t s1, r⟩
theorem len32 {z : Int32} {k : Nat} (hz : z.toInt = k) : z = Int32.ofNat k := by
  have h2 := (rng32 z).2
  exact Int32.toInt_inj.mp (by rw [Int32.toInt_ofNat_of_lt (by omega)]; exact hz)
theorem G.arraylengthI (C : Cx p s m meth c Z y bytes maxL ret) {a : Addr} {ty : FieldType} {vs : List Int32} {len : Int32} (F : Ints Z h a ty vs) (hlen : len.toInt = vs.length) (hd : decode bytes pc = .ok (.arraylength, 1)) (hn : pc + 1 = n) (k : Go p l e R s m args below meth c n0 Q cells slots h (mkF m n Ls (.int len :: st))) : Go p l e R s m args below meth c n0 Q cells slots h (mkF m pc Ls (.ref a :: st)) := by
  subst hn
  obtain ⟨k', z, ⟨cl, A, q1, S, N, H, G⟩, hz⟩ := F
  have e1 : cl.slots.size.toInt32 = len := (len_of S N).trans (Int32.toInt_inj.mp (hz.trans hlen.symm))
  exact Go.via (fun T locs X q t r => X.arraylength C.x (by rw [q]; exact A.1) (State.isArrayOf_alike C.z.alike A.2.1) (g := mkF m pc Ls (.ref a :: st)) rfl rfl (hb C.by hd) t (by rw [e1]; exact r)) k
theorem G.arraylengthL (C : Cx p s m meth c Z y bytes maxL ret) {a : Addr} {vs : List Int64} {len : Int32} (F : Longs Z h a vs) (hlen : len.toInt = vs.length) (hd : decode bytes pc = .ok (.arraylength, 1)) (hn : pc + 1 = n) (k : Go p l e R s m args below meth c n0 Q cells slots h (mkF m n Ls (.int len :: st))) : Go p l e R s m args below meth c n0 Q cells slots h (mkF m pc Ls (.ref a :: st)) := by
  subst hn
  obtain ⟨k', z, ⟨cl, A, q1, S, N, H, G⟩, hz⟩ := F
  have e1 : cl.slots.size.toInt32 = len := (len_of S N).trans (Int32.toInt_inj.mp (hz.trans hlen.symm))
  exact Go.via (fun T locs X q t r => X.arraylength C.x (by rw [q]; exact A.1) (State.isArrayOf_alike C.z.alike A.2.1) (g := mkF m pc Ls (.ref a :: st)) rfl rfl (hb C.by hd) t (by rw [e1]; exact r)) k
theorem G.newarray (C : Cx p s m meth c Z y bytes maxL ret) {aty : ArrayType} {ty : FieldType} {len : Int32} {cap c' s' : Nat} (w : (Jvm.Cond.arrayClass ty).before a0 Z = true) (hty : newarray.typeOf aty = ty) (hdv : defaultValue ty = .int 0) (hlen : 0 ≤ len.toInt) (hcap : len.toInt ≤ cap) (hbig : cap * 8 ≤ 536870912) (hd : decode bytes pc = .ok (.newarray aty, 2)) (hn : pc + 2 = n) (hc' : cells + 1 = c') (hs' : slots + cap = s') (hc : c' ≤ R.cells) (hs : s' ≤ R.slots)
    (k : ∀ h' b, b = h.size → Ext h h' → Ints Z h' b ty (List.replicate len.toInt.toNat 0) → Go p l e R s m args below meth c n0 Q c' s' h' (mkF m n Ls (.ref b :: st))) : Go p l e R s m args below meth c n0 Q cells slots h (mkF m pc Ls (.int len :: st)) := fun T locs X N q => by
  subst hn hc' hs' hty
  obtain ⟨T', h', cA, X', e', E, A, st'⟩ := newP X C.x C.z w q (g := mkF m pc Ls (.int len :: st)) rfl (hb C.by hd) rfl (not_neg hlen) (cap := cap) (by rw [nat_clamp]; omega) hbig hc hs
  have V := (Arv.new A (not_neg hlen))
  rw [hdv] at V
  have V2 := V.pad (pad_rep [] _ len.toInt.toNat)
  rw [List.nil_append, ← List.map_replicate (f := Value.int)] at V2
  obtain ⟨t, o, s1, r⟩ := k h' _ rfl E ⟨cA, len, V2, by rw [List.length_replicate]; omega⟩ T' _ X' N e'
  exact ⟨t, o, st' t s1, r⟩
theorem G.newarrayJ (C : Cx p s m meth c Z y bytes maxL ret) {aty : ArrayType} {ty : FieldType} {len : Int32} {cap c' s' : Nat} (w : (Jvm.Cond.arrayClass ty).before a0 Z = true) (hty : newarray.typeOf aty = ty) (hdv : defaultValue ty = .long 0) (hJ : ty = .long) (hlen : 0 ≤ len.toInt) (hcap : len.toInt ≤ cap) (hbig : cap * 8 ≤ 536870912) (hd : decode bytes pc = .ok (.newarray aty, 2)) (hn : pc + 2 = n) (hc' : cells + 1 = c') (hs' : slots + cap = s') (hc : c' ≤ R.cells) (hs : s' ≤ R.slots)
    (k : ∀ h' b, b = h.size → Ext h h' → Longs Z h' b (List.replicate len.toInt.toNat 0) → Go p l e R s m args below meth c n0 Q c' s' h' (mkF m n Ls (.ref b :: st))) : Go p l e R s m args below meth c n0 Q cells slots h (mkF m pc Ls (.int len :: st)) := fun T locs X N q => by
  subst hn hc' hs' hty
  obtain ⟨T', h', cA, X', e', E, A, st'⟩ := newP X C.x C.z w q (g := mkF m pc Ls (.int len :: st)) rfl (hb C.by hd) rfl (not_neg hlen) (cap := cap) (by rw [nat_clamp]; omega) hbig hc hs
  have V := (Arv.new A (not_neg hlen))
  rw [hdv] at V
  have V2 := V.pad (pad_rep [] _ len.toInt.toNat)
  rw [List.nil_append, ← List.map_replicate (f := Value.long), hJ] at V2
  obtain ⟨t, o, s1, r⟩ := k h' _ rfl E ⟨cA, len, V2, by rw [List.length_replicate]; omega⟩ T' _ X' N e'
  exact ⟨t, o, st' t s1, r⟩
theorem getD_at {α : Type} {vs : List α} {i : Nat} {d : α} (h : i < vs.length) : vs[i]? = some (vs.getD i d) := by
  rw [List.getD_eq_getElem?_getD, List.getElem?_eq_getElem h]; rfl
def Refs (Z : State) (h : Heap) (a : Addr) (ty : FieldType) (vs : List Value) : Prop := ∃ k z, Arv Z h a k ty z vs .null ∧ z.toInt = vs.length
theorem Refs.lt {a : Addr} {ty : FieldType} {vs : List Value} (F : Refs Z h a ty vs) : a < h.size := by obtain ⟨k, z, A, -⟩ := F; exact A.lt
theorem Refs.keep {h' : Heap} {ws : List Addr} {a : Addr} {ty : FieldType} {vs : List Value} (F : Refs Z h a ty vs) (K : Keep h h' ws) (r : a ∉ ws) : Refs Z h' a ty vs := by obtain ⟨k, z, A, q⟩ := F; exact ⟨k, z, A.keep K r, q⟩
theorem Refs.at {a : Addr} {ty : FieldType} {vs : List Value} (F : Refs Z h a ty vs) {j : Int32} {x : Value} (hj : 0 ≤ j.toInt) (hx : vs[j.toInt.toNat]? = some x) : ∃ cl, Arr Z h a cl ty ∧ ¬ (j < 0 ∨ cl.slots.size ≤ j.toNatClampNeg) ∧ cl.slots[j.toNatClampNeg]? = some x := by
  obtain ⟨k, z, ⟨cl, A, q1, S, N, H, G⟩, hz⟩ := F
  have hi := inb hj S hz (lt_of_some hx)
  have hi2 : j.toNatClampNeg < cl.slots.size := Nat.lt_of_not_le fun y => hi (Or.inr y)
  have e1 := H _ hi2
  rw [nat_clamp, List.getD_eq_getElem?_getD, hx] at e1
  exact ⟨cl, A, hi, e1⟩
theorem G.aaload (C : Cx p s m meth c Z y bytes maxL ret) {a : Addr} {j : Int32} {x : Value} {ty : FieldType} {vs : List Value} (F : Refs Z h a ty vs) (hty : ty.isReference = true) (hj : 0 ≤ j.toInt) (hx : vs[j.toInt.toNat]? = some x) (hd : decode bytes pc = .ok (.aaload, 1)) (hn : pc + 1 = n) (k : Go p l e R s m args below meth c n0 Q cells slots h (mkF m n Ls (x :: st))) : Go p l e R s m args below meth c n0 Q cells slots h (mkF m pc Ls (.int j :: .ref a :: st)) := by
  subst hn
  obtain ⟨cl, A, h1, h2⟩ := F.at hj hx
  exact Go.via (fun T locs X q t r => X.aaload C.x (j := j) (v := x) (by rw [q]; exact A.1) (State.isArrayOf_alike C.z.alike A.2.1) hty A.2.2 h1 h2 (g := mkF m pc Ls (.int j :: .ref a :: st)) rfl rfl (hb C.by hd) t r) k
theorem G.arraylengthR (C : Cx p s m meth c Z y bytes maxL ret) {a : Addr} {ty : FieldType} {vs : List Value} {len : Int32} (F : Refs Z h a ty vs) (hlen : len.toInt = vs.length) (hd : decode bytes pc = .ok (.arraylength, 1)) (hn : pc + 1 = n) (k : Go p l e R s m args below meth c n0 Q cells slots h (mkF m n Ls (.int len :: st))) : Go p l e R s m args below meth c n0 Q cells slots h (mkF m pc Ls (.ref a :: st)) := by
  subst hn
  obtain ⟨k', z, ⟨cl, A, q1, S, N, H, G⟩, hz⟩ := F
  have e1 : cl.slots.size.toInt32 = len := (len_of S N).trans (Int32.toInt_inj.mp (hz.trans hlen.symm))
  exact Go.via (fun T locs X q t r => X.arraylength C.x (by rw [q]; exact A.1) (State.isArrayOf_alike C.z.alike A.2.1) (g := mkF m pc Ls (.ref a :: st)) rfl rfl (hb C.by hd) t (by rw [e1]; exact r)) k
theorem eqv_r {Z : State} {args : Array Value} {X F : Term} {idx : List Nat} {y : Addr} (hF : F.eval args Z none idx Z = some (.ref y)) (h : (Jvm.Cond.eq X F).value args Z none Z idx = some true) : X.eval args Z none idx Z = some (.ref y) := by
  obtain ⟨x, y', e1, e2, k1, k2⟩ := cmp_v (Or.inl h)
  cases hF.symm.trans e2
  have hx : x.isRef = true := k2.2
  have := gotT (eq_R e1 hF hx rfl) h
  rw [e1, this]
theorem len_q {Z : State} {args : Array Value} {t : Term} {a : Addr} {cl : Cell} {y : Int32} (ht : t.eval args Z none [] Z = some (.ref a)) (ha : Z.arrayAt? a = some cl) (h : (Term.length t).eval args Z none [] Z = some (.int y)) : cl.slots.size < 2 ^ 31 ∧ cl.slots.size.toInt32 = y := by
  simp [Term.eval, ht, ha] at h
  exact h
theorem Refs.start {s : State} {a : Addr} {cl : Cell} {ty : FieldType} {z : Int32} {vs : List Value} (hf : Fit s) (A : Arr s s.heap a cl ty) (q : cl.slots.size < 2 ^ 31 ∧ cl.slots.size.toInt32 = z) (hz : z.toInt = vs.length) (H : HasL cl 0 vs) : Refs s s.heap a ty vs :=
  ⟨cl.cls, z, Arv.start hf A q.1 q.2 (not_neg (by omega)) (by rw [nat_clamp]; omega) H, hz⟩
theorem Ints.start {s : State} {a : Addr} {cl : Cell} {ty : FieldType} {z : Int32} {vs : List Int32} (hf : Fit s) (A : Arr s s.heap a cl ty) (q : cl.slots.size < 2 ^ 31 ∧ cl.slots.size.toInt32 = z) (hz : z.toInt = vs.length) (H : HasL cl 0 (vs.map Value.int)) : Ints s s.heap a ty vs :=
  ⟨cl.cls, z, Arv.start hf A q.1 q.2 (not_neg (by omega)) (by rw [nat_clamp, List.length_map]; omega) H, hz⟩
theorem us_all (vs : List Int32) : ((List.range vs.length).map fun i => (vs.map Value.int).getD (0 + i) (.int 0)) = vs.map Value.int := by
  apply List.ext_getElem (by simp)
  intro i h1 h2
  simp at h1
  simp [h1]
theorem G.arraycopy0 (C : Cx p s m meth c Z y bytes maxL ret) {index W : Nat} {ty : FieldType} {a b : Addr} {vs vd : List Int32} {nn : Int32} (w1 : (Jvm.Cond.methodLink y.cls index Jvm.Stand.acN).before a0 Z = true) (w2 : (Jvm.Cond.native Jvm.Stand.acN).before a0 Z = true) (w3 : (Jvm.Cond.static Jvm.Stand.acN).before a0 Z = true) (w4 : (Jvm.Cond.initialized "java/lang/System").before a0 Z = true) (A : Ints Z h a ty vs) (B : Ints Z h b ty vd) (hp : refKind ty = false) (h3 : nn.toInt = vs.length) (h5 : vs.length ≤ vd.length) (g : n0 ≤ b)
    (hd : decode bytes pc = .ok (.invokestatic index, 3)) (hsz : Ls.size = maxL) (hf : 1 ≤ R.frames) (hW : (st.map fun v => v.category).sum = W) (hlo : W + (nativeFrameWords "java/lang/System" "arraycopy" 5 + 11) ≤ R.locals) (hn : pc + 3 = n) (k : ∀ h', Keep h h' [b] → Ints Z h' b ty (vs ++ vd.drop vs.length) → Go p l e R s m args below meth c n0 Q cells slots h' (mkF m n Ls (st))) : Go p l e R s m args below meth c n0 Q cells slots h (mkF m pc Ls (.int nn :: .int 0 :: .ref b :: .int 0 :: .ref a :: st)) := fun T locs X N q => by
  subst hn hW
  obtain ⟨k1, z1, A1, e1⟩ := A
  obtain ⟨k2, z2, B1, e2⟩ := B
  have hnn : nn.toNatClampNeg = vs.length := by rw [nat_clamp, h3]; rfl
  have z1n : z1.toNatClampNeg = vs.length := by rw [nat_clamp, e1]; rfl
  have z2n : z2.toNatClampNeg = vd.length := by rw [nat_clamp, e2]; rfl
  obtain ⟨T', h', L, X', e', NL, K, V, st'⟩ := cpA X C.x C.z C.own w1 w2 w3 w4 q (us := vs.map Value.int) A1 B1 (Or.inl ⟨rfl, hp⟩) (sp := 0) (dp := 0) (nn := nn) (by decide) (by decide) (not_neg (by omega)) (by rw [hnn, z1n]; show 0 + _ ≤ _; omega) (by rw [hnn, z2n]; show 0 + _ ≤ _; omega) (by rw [hnn]; exact (us_all vs).symm) (by rw [hnn, List.length_map]; show 0 + _ ≤ _; omega) N g (g := mkF m pc Ls (.int nn :: .int 0 :: .ref b :: .int 0 :: .ref a :: st)) rfl (hsz.trans C.ml.symm) rfl (hb C.by hd) hf (W := (st.map fun v => v.category).sum) (by show 2 * 0 + _ ≤ _; omega) hlo
  rw [hnn, show (0 : Int32).toNatClampNeg = 0 from rfl, List.take_zero, List.nil_append, Nat.zero_add, ← List.map_drop, ← List.map_append] at V
  obtain ⟨t, o, s1, r⟩ := k h' K ⟨k2, z2, V, by rw [e2, List.length_append, List.length_drop]; omega⟩ T' L X' NL e'
  exact ⟨t, o, st' t s1, r⟩
theorem kext {h' : Heap} (E : Ext h h') : Keep h h' [] := (Keep.refl h []).ext E
theorem Keep.tr {h' h'' : Heap} {ws ws' : List Addr} (K : Keep h h' ws) (K' : Keep h' h'' ws') (q : ∀ x ∈ ws', x ∈ ws ∨ h.size ≤ x) : Keep h h'' ws := K.trans K' q
theorem G.dconst0 (C : Cx p s m meth c Z y bytes maxL ret)  (hd : decode bytes pc = .ok (.dconst 0, 1))  (hn : pc + 1 = n) (k : Go p l e R s m args below meth c n0 Q cells slots h (mkF m n Ls (.double FP.dconst0 :: st))) : Go p l e R s m args below meth c n0 Q cells slots h (mkF m pc Ls (st)) := by
  subst hn
  exact Go.via (fun T locs X _ t q => XS.dconst0 X.here C.x rfl (hb C.by hd) rfl q) k
theorem G.dconst1 (C : Cx p s m meth c Z y bytes maxL ret)  (hd : decode bytes pc = .ok (.dconst 1, 1))  (hn : pc + 1 = n) (k : Go p l e R s m args below meth c n0 Q cells slots h (mkF m n Ls (.double FP.dconst1 :: st))) : Go p l e R s m args below meth c n0 Q cells slots h (mkF m pc Ls (st)) := by
  subst hn
  exact Go.via (fun T locs X _ t q => XS.dconst1 X.here C.x rfl (hb C.by hd) rfl q) k
theorem G.dload (C : Cx p s m meth c Z y bytes maxL ret) {k : Nat} {v : UInt64} (hd : decode bytes pc = .ok (.dload k, 2)) (hl : Ls[k]? = some (.val (.double v))) (hn : pc + 2 = n) (k : Go p l e R s m args below meth c n0 Q cells slots h (mkF m n Ls (.double v :: st))) : Go p l e R s m args below meth c n0 Q cells slots h (mkF m pc Ls (st)) := by
  subst hn
  exact Go.via (fun T locs X _ t q => XS.dload X.here C.x rfl (hb C.by hd) hl q) k
theorem G.dloadN (C : Cx p s m meth c Z y bytes maxL ret) {k : Fin 4} {v : UInt64} (hd : decode bytes pc = .ok (.dload_n k, 1)) (hl : Ls[k.val]? = some (.val (.double v))) (hn : pc + 1 = n) (k : Go p l e R s m args below meth c n0 Q cells slots h (mkF m n Ls (.double v :: st))) : Go p l e R s m args below meth c n0 Q cells slots h (mkF m pc Ls (st)) := by
  subst hn
  exact Go.via (fun T locs X _ t q => XS.dloadN X.here C.x rfl (hb C.by hd) hl q) k
theorem G.ldc2D (C : Cx p s m meth c Z y bytes maxL ret) {index : Nat} {v : UInt64} (w : (Jvm.Cond.constantDouble y.cls index v).before a0 Z = true) (hd : decode bytes pc = .ok (.ldc2_w index, 3)) (hn : pc + 3 = n) (k : Go p l e R s m args below meth c n0 Q cells slots h (mkF m n Ls (.double v :: st))) : Go p l e R s m args below meth c n0 Q cells slots h (mkF m pc Ls (st)) := by
  subst hn
  exact Go.via (fun T locs X _ t q => X.ldc2DoubleC C.x C.own (mvT C.z w) (g := mkF m pc Ls st) rfl (hb C.by hd) t q) k
def ArrN (Z : State) (h : Heap) (a : Addr) (ty : FieldType) (k : Nat) : Prop := ∃ cl, Arr Z h a cl ty ∧ cl.slots.size = k
theorem ArrN.lt {a : Addr} {ty : FieldType} {k : Nat} (F : ArrN Z h a ty k) : a < h.size := by obtain ⟨cl, A, -⟩ := F; exact A.lt
theorem ArrN.keep {h' : Heap} {ws : List Addr} {a : Addr} {ty : FieldType} {k : Nat} (F : ArrN Z h a ty k) (K : Keep h h' ws) (r : a ∉ ws) : ArrN Z h' a ty k := by obtain ⟨cl, A, q⟩ := F; exact ⟨cl, ⟨K.2.1 a cl A.1 r, A.2⟩, q⟩
theorem ArrN.wr {h' : Heap} {a : Addr} {ty : FieldType} {k sl : Nat} {v : Value} (F : ArrN Z h a ty k) (W : Wr h h' a sl v) : ArrN Z h' a ty k := by obtain ⟨cl, A, q⟩ := F; exact ⟨_, Arr.same W A, by simp [Cell.setSlot, q]⟩
theorem nob {cl : Cell} {j : Int32} {k : Nat} (hj : 0 ≤ j.toInt) (hl : j.toInt < k) (q : cl.slots.size = k) : ¬ (j < 0 ∨ cl.slots.size ≤ j.toNatClampNeg) := by
  rintro (r | r)
  · exact not_neg hj r
  · rw [q, nat_clamp] at r; omega
theorem G.dastore (C : Cx p s m meth c Z y bytes maxL ret) {a : Addr} {j : Int32} {x : UInt64} {kn : Nat} (F : ArrN Z h a .double kn) (hj : 0 ≤ j.toInt) (hl : j.toInt < kn) (g : n0 ≤ a) (hd : decode bytes pc = .ok (.dastore, 1)) (hn : pc + 1 = n) (k : ∀ h', Keep h h' [a] → ArrN Z h' a .double kn → Go p l e R s m args below meth c n0 Q cells slots h' (mkF m n Ls (st))) : Go p l e R s m args below meth c n0 Q cells slots h (mkF m pc Ls (.double x :: .int j :: .ref a :: st)) := fun T locs X N q => by
  subst hn
  obtain ⟨cl, A, q1⟩ := F
  obtain ⟨T', h', X', e', W, st'⟩ := stD X C.x C.z q A (j := j) (nob hj hl q1) (g := mkF m pc Ls (.double x :: .int j :: .ref a :: st)) rfl rfl (hb C.by hd)
  obtain ⟨t, o, s1, r⟩ := k h' (Keep.of_wr W) (ArrN.wr ⟨cl, A, q1⟩ W) T' _ X' (Fr.snoc X' N g) e'
  exact ⟨t, o, st' t s1, r⟩
theorem G.aastoreNull (C : Cx p s m meth c Z y bytes maxL ret) {a : Addr} {j : Int32} {ty : FieldType} {kn : Nat} (F : ArrN Z h a ty kn) (hty : ty.isReference = true) (hj : 0 ≤ j.toInt) (hl : j.toInt < kn) (g : n0 ≤ a) (hd : decode bytes pc = .ok (.aastore, 1)) (hn : pc + 1 = n) (k : ∀ h', Keep h h' [a] → ArrN Z h' a ty kn → Go p l e R s m args below meth c n0 Q cells slots h' (mkF m n Ls (st))) : Go p l e R s m args below meth c n0 Q cells slots h (mkF m pc Ls (.null :: .int j :: .ref a :: st)) := fun T locs X N q => by
  subst hn
  obtain ⟨cl, A, q1⟩ := F
  obtain ⟨T', h', X', e', W, st'⟩ := stR X C.x C.z q A (j := j) (v := .null) (nob hj hl q1) hty (Or.inl rfl) (g := mkF m pc Ls (.null :: .int j :: .ref a :: st)) rfl rfl (hb C.by hd)
  obtain ⟨t, o, s1, r⟩ := k h' (Keep.of_wr W) (ArrN.wr ⟨cl, A, q1⟩ W) T' _ X' (Fr.snoc X' N g) e'
  exact ⟨t, o, st' t s1, r⟩
theorem G.arraylengthN (C : Cx p s m meth c Z y bytes maxL ret) {a : Addr} {ty : FieldType} {kn : Nat} {len : Int32} (F : ArrN Z h a ty kn) (hlen : len.toInt = kn) (hd : decode bytes pc = .ok (.arraylength, 1)) (hn : pc + 1 = n) (k : Go p l e R s m args below meth c n0 Q cells slots h (mkF m n Ls (.int len :: st))) : Go p l e R s m args below meth c n0 Q cells slots h (mkF m pc Ls (.ref a :: st)) := by
  subst hn
  obtain ⟨cl, A, q1⟩ := F
  have e1 : cl.slots.size.toInt32 = len := by rw [q1]; exact (len32 hlen).symm
  exact Go.via (fun T locs X q t r => X.arraylength C.x (by rw [q]; exact A.1) (State.isArrayOf_alike C.z.alike A.2.1) (g := mkF m pc Ls (.ref a :: st)) rfl rfl (hb C.by hd) t (by rw [e1]; exact r)) k
theorem G.newarrayN (C : Cx p s m meth c Z y bytes maxL ret) {aty : ArrayType} {ty : FieldType} {len : Int32} {cap c' s' : Nat} (w : (Jvm.Cond.arrayClass ty).before a0 Z = true) (hty : newarray.typeOf aty = ty) (hlen : len.toInt = cap) (hbig : cap * 8 ≤ 536870912) (hd : decode bytes pc = .ok (.newarray aty, 2)) (hn : pc + 2 = n) (hc' : cells + 1 = c') (hs' : slots + cap = s') (hc : c' ≤ R.cells) (hs : s' ≤ R.slots)
    (k : ∀ h' b, b = h.size → Ext h h' → ArrN Z h' b ty cap → Go p l e R s m args below meth c n0 Q c' s' h' (mkF m n Ls (.ref b :: st))) : Go p l e R s m args below meth c n0 Q cells slots h (mkF m pc Ls (.int len :: st)) := fun T locs X N q => by
  subst hn hc' hs' hty
  obtain ⟨T', h', cA, X', e', E, A, st'⟩ := newP X C.x C.z w q (g := mkF m pc Ls (.int len :: st)) rfl (hb C.by hd) rfl (not_neg (by omega)) (cap := cap) (by rw [nat_clamp]; omega) hbig hc hs
  obtain ⟨t, o, s1, r⟩ := k h' _ rfl E ⟨_, A, by rw [sz_new, nat_clamp]; omega⟩ T' _ X' N e'
  exact ⟨t, o, st' t s1, r⟩
theorem G.anewarrayN (C : Cx p s m meth c Z y bytes maxL ret) {K : String} {index : Nat} {len : Int32} {cap c' s' : Nat} (w1 : (Jvm.Cond.classLink y.cls index K).before a0 Z = true) (w2 : (Jvm.Cond.arrayOver (.object K)).before a0 Z = true) (hlen : len.toInt = cap) (hbig : cap * 8 ≤ 536870912) (hd : decode bytes pc = .ok (.anewarray index, 3)) (hn : pc + 3 = n) (hc' : cells + 1 = c') (hs' : slots + cap = s') (hc : c' ≤ R.cells) (hs : s' ≤ R.slots)
    (k : ∀ h' b, b = h.size → Ext h h' → ArrN Z h' b (.object K) cap → Go p l e R s m args below meth c n0 Q c' s' h' (mkF m n Ls (.ref b :: st))) : Go p l e R s m args below meth c n0 Q cells slots h (mkF m pc Ls (.int len :: st)) := fun T locs X N q => by
  subst hn hc' hs'
  obtain ⟨T', h', cA, X', e', E, A, -, st'⟩ := newR X C.x C.z C.own w1 w2 q (g := mkF m pc Ls (.int len :: st)) rfl (hb C.by hd) rfl (not_neg (by omega)) (cap := cap) (by rw [nat_clamp]; omega) hbig hc hs
  obtain ⟨t, o, s1, r⟩ := k h' _ rfl E ⟨_, A, by rw [sz_new, nat_clamp]; omega⟩ T' _ X' N e'
  exact ⟨t, o, st' t s1, r⟩
theorem G.callP (C : Cx p s m meth c Z y bytes maxL ret) {index W : Nat} {yc : MethodName} {bc : ByteArray} {mc : Nat} {rc : Option FieldType} {rm : Room} {c' s' : Nat} {Qc : Option Value → Heap → Prop} {ps : List FieldType} {K K' : String} {yo : MethodName} {argsL stk : List Value} {a : Addr} (E : Exa Z h a K) (w1 : (Jvm.Cond.methodLink y.cls index yc).before a0 Z = true) (w5 : (Jvm.Cond.selects K' yo yo).before a0 Z = true) (hyo : yo.cls = yc.cls) (w6 : (Jvm.Cond.privateMethod yc).before a0 Z = true) (w2 : (Jvm.Cond.instanceMethod yc).before a0 Z = true) (w3 : (Jvm.Cond.initialized yc.cls).before a0 Z = true) (w4 : (Jvm.Cond.code yc bc mc rc).before a0 Z = true) (hy : yc.cls ≠ "java/lang/invoke/MethodHandle" ∧ yc.cls ≠ "java/lang/invoke/VarHandle") (M : Met l Z yc bc mc rc rm (.ref a :: argsL).toArray h n0 Qc) (hsz : Ls.size = maxL) (hf : rm.frames + 1 ≤ R.frames) (hW : (st.map fun v => v.category).sum = W) (hl : W + (mc + 11) + rm.locals ≤ R.locals) (hc' : cells + rm.cells = c') (hs' : slots + rm.slots = s') (hc : c' ≤ R.cells) (hs : s' ≤ R.slots) (hd : decode bytes pc = .ok (.invokevirtual index, 3)) (hn : pc + 3 = n) (hlen : parseMethodDescriptor yc.desc = some ⟨ps, rc⟩) (hal : argsL.length = ps.length) (hst : stk = argsL.reverse ++ .ref a :: st) (k : ∀ v h', Qc v h' → Go p l e R s m args below meth c n0 Q c' s' h' (mkF m n Ls (v.toList ++ st))) : Go p l e R s m args below meth c n0 Q cells slots h (mkF m pc Ls (stk)) := fun T locs X N q => by
  subst hn hW hc' hs' hst
  obtain ⟨cq, qa, qb⟩ := E.cell
  obtain ⟨c2, r2, m2, -, -, q3, -, kP, hkP, hkPi⟩ := Cond.selects_spec (mvT (args := #[]) C.z w5)
  have hpv := Cond.privateMethod_at (mvP C.z w6 (args := #[]))
  have hsel : (Jvm.Cond.selects yc.cls yc yc).before args s = true := selects_self_of_private (by rw [← hyo]; exact findClass_of_methodNamed q3) hkP hkPi hpv (mvT C.z w2) hy
  obtain ⟨v, _, ⟨T', L', k', n''⟩, -, X', ⟨Lc, hQ, h1, h2, h3⟩, st'⟩ := X.privateBack C.x (y := yc) C.own (mvT C.z w1) (mvT C.z w2) hsel hpv (mvT C.z w4) hy (backOf (W := (st.map fun v => v.category).sum) (Q := fun v h L => Fr n0 L ∧ Qc v h) (M []) C.z w4 w3 hf hl) (g := mkF m pc Ls (argsL.reverse ++ .ref a :: st)) rfl (hsz.trans C.ml.symm) (Steps.refl _) (a := a) (cell := cq) (by rw [q]; exact qa) qb (argsL := argsL) (rest := st) (lenOf hlen hal) rfl (by show 2 * 0 + _ ≤ _; omega) (hb C.by hd) (fun _ _ => ⟨rfl, q, hc, hs⟩)
  dsimp only [Pt.U, Pt.locs, Pt.cells, Pt.slots] at X' h1 h2 h3 st' hQ
  subst h1 h2 h3
  obtain ⟨t, o, s1, r⟩ := k v _ hQ.2 T' _ X' (Fr.app N hQ.1) rfl
  exact ⟨t, o, st'.trans s1, r⟩
theorem G.checkcast (C : Cx p s m meth c Z y bytes maxL ret) {K : String} {index : Nat} {a : Addr} (w : (Jvm.Cond.classLink y.cls index K).before a0 Z = true) (F : Ins Z h a K true) (hd : decode bytes pc = .ok (.checkcast index, 3)) (hn : pc + 3 = n) (k : Go p l e R s m args below meth c n0 Q cells slots h (mkF m n Ls (.ref a :: st))) : Go p l e R s m args below meth c n0 Q cells slots h (mkF m pc Ls (.ref a :: st)) := fun T locs X N q => by
  subst hn
  obtain ⟨T', X', e', st'⟩ := castY X C.x C.z C.own w q F (g := mkF m pc Ls (.ref a :: st)) rfl rfl (hb C.by hd)
  obtain ⟨t, o, s1, r⟩ := k T' locs X' N e'
  exact ⟨t, o, st' t s1, r⟩
theorem G.instY (C : Cx p s m meth c Z y bytes maxL ret) {K : String} {index : Nat} {a : Addr} (w : (Jvm.Cond.classLink y.cls index K).before a0 Z = true) (F : Ins Z h a K true) (hd : decode bytes pc = .ok (.instanceof index, 3)) (hn : pc + 3 = n) (k : Go p l e R s m args below meth c n0 Q cells slots h (mkF m n Ls (.int 1 :: st))) : Go p l e R s m args below meth c n0 Q cells slots h (mkF m pc Ls (.ref a :: st)) := fun T locs X N q => by
  subst hn
  obtain ⟨T', X', e', st'⟩ := instY X C.x C.z C.own w q F (g := mkF m pc Ls (.ref a :: st)) rfl rfl (hb C.by hd)
  obtain ⟨t, o, s1, r⟩ := k T' locs X' N e'
  exact ⟨t, o, st' t s1, r⟩
theorem G.instNo (C : Cx p s m meth c Z y bytes maxL ret) {K K' : String} {index : Nat} {a : Addr} (w : (Jvm.Cond.classLink y.cls index K).before a0 Z = true) (E : Exa Z h a K') (F : ∃ c t, Z.vm.findClass K' = some c ∧ Z.vm.findClass K = some t ∧ Z.vm.assignable c t = false) (hd : decode bytes pc = .ok (.instanceof index, 3)) (hn : pc + 3 = n) (k : Go p l e R s m args below meth c n0 Q cells slots h (mkF m n Ls (.int 0 :: st))) : Go p l e R s m args below meth c n0 Q cells slots h (mkF m pc Ls (.ref a :: st)) := fun T locs X N q => by
  subst hn
  obtain ⟨T', X', e', st'⟩ := instNo X C.x C.z C.own w q E F (g := mkF m pc Ls (.ref a :: st)) rfl rfl (hb C.by hd)
  obtain ⟨t, o, s1, r⟩ := k T' locs X' N e'
  exact ⟨t, o, st' t s1, r⟩
theorem G.instNull (C : Cx p s m meth c Z y bytes maxL ret) {index : Nat} (hd : decode bytes pc = .ok (.instanceof index, 3)) (hn : pc + 3 = n) (k : Go p l e R s m args below meth c n0 Q cells slots h (mkF m n Ls (.int 0 :: st))) : Go p l e R s m args below meth c n0 Q cells slots h (mkF m pc Ls (.null :: st)) := by
  subst hn
  exact Go.via (fun T locs X _ t q => X.instanceofNull C.x (g := mkF m pc Ls (.null :: st)) rfl rfl (hb C.by hd) t q) k
def RefsO (Z : State) (h : Heap) (a : Addr) (K : String) (vs : List Value) : Prop := ∃ k z, Arv Z h a k (.object K) z vs .null ∧ z.toInt = vs.length ∧ Ovr Z k K
theorem RefsO.lt {a : Addr} {K : String} {vs : List Value} (F : RefsO Z h a K vs) : a < h.size := by obtain ⟨k, z, A, -⟩ := F; exact A.lt
theorem RefsO.keep {h' : Heap} {ws : List Addr} {a : Addr} {K : String} {vs : List Value} (F : RefsO Z h a K vs) (Kp : Keep h h' ws) (r : a ∉ ws) : RefsO Z h' a K vs := by obtain ⟨k, z, A, q⟩ := F; exact ⟨k, z, A.keep Kp r, q⟩
theorem RefsO.refs {a : Addr} {K : String} {vs : List Value} (F : RefsO Z h a K vs) : Refs Z h a (.object K) vs := by obtain ⟨k, z, A, q, -⟩ := F; exact ⟨k, z, A, q⟩
theorem G.anewarrayO (C : Cx p s m meth c Z y bytes maxL ret) {K : String} {index : Nat} {len : Int32} {cap c' s' : Nat} (w1 : (Jvm.Cond.classLink y.cls index K).before a0 Z = true) (w2 : (Jvm.Cond.arrayOver (.object K)).before a0 Z = true) (hlen : len.toInt = cap) (hbig : cap * 8 ≤ 536870912) (hd : decode bytes pc = .ok (.anewarray index, 3)) (hn : pc + 3 = n) (hc' : cells + 1 = c') (hs' : slots + cap = s') (hc : c' ≤ R.cells) (hs : s' ≤ R.slots)
    (k : ∀ h' b, b = h.size → Ext h h' → RefsO Z h' b K (List.replicate cap .null) → Go p l e R s m args below meth c n0 Q c' s' h' (mkF m n Ls (.ref b :: st))) : Go p l e R s m args below meth c n0 Q cells slots h (mkF m pc Ls (.int len :: st)) := fun T locs X N q => by
  subst hn hc' hs'
  obtain ⟨T', h', cA, X', e', E, A, O, st'⟩ := newR X C.x C.z C.own w1 w2 q (g := mkF m pc Ls (.int len :: st)) rfl (hb C.by hd) rfl (not_neg (by omega)) (cap := cap) (by rw [nat_clamp]; omega) hbig hc hs
  have V := (Arv.new A (not_neg (by omega)))
  have V2 := V.pad (pad_rep [] _ cap)
  rw [List.nil_append] at V2
  obtain ⟨t, o, s1, r⟩ := k h' _ rfl E ⟨cA, len, V2, by rw [List.length_replicate]; exact hlen, O⟩ T' _ X' N e'
  exact ⟨t, o, st' t s1, r⟩
theorem G.aastoreO (C : Cx p s m meth c Z y bytes maxL ret) {a b : Addr} {j : Int32} {K : String} {vs : List Value} (F : RefsO Z h a K vs) (I : Ins Z h b K true) (hj : 0 ≤ j.toInt) (hl : j.toInt < vs.length) (g : n0 ≤ a) (hd : decode bytes pc = .ok (.aastore, 1)) (hn : pc + 1 = n) (k : ∀ h', Keep h h' [a] → RefsO Z h' a K (vs.set j.toInt.toNat (.ref b)) → Go p l e R s m args below meth c n0 Q cells slots h' (mkF m n Ls (st))) : Go p l e R s m args below meth c n0 Q cells slots h (mkF m pc Ls (.ref b :: .int j :: .ref a :: st)) := fun T locs X N q => by
  subst hn
  obtain ⟨kk, z, ⟨cl, A, q1, S, N1, H, G⟩, hz, O⟩ := F
  have hl2 : j.toInt.toNat < vs.length := by omega
  obtain ⟨T', h', X', e', W, st'⟩ := stR X C.x C.z q A (j := j) (v := .ref b) (inb hj S hz hl2) rfl (Sto.of A (q1 ▸ O) I) (g := mkF m pc Ls (.ref b :: .int j :: .ref a :: st)) rfl rfl (hb C.by hd)
  have V := Arv.set A q1 S N1 H G (v := .ref b) rfl W j.toInt.toNat rfl hl2
  obtain ⟨t, o, s1, r⟩ := k h' (Keep.of_wr W) ⟨kk, z, V, by rw [List.length_set]; exact hz, O⟩ T' _ X' (Fr.snoc X' N g) e'
  exact ⟨t, o, st' t s1, r⟩
def MetH (l : Launch) (Z : State) (y : MethodName) (bytes : ByteArray) (maxL : Nat) (ret : Option FieldType) (hs : List (Nat × Nat × Nat × Nat)) (rm : Room) (as' : Array Value) (h : Heap) (n0 : Nat) (Q : Option Value → Heap → Prop) : Prop :=
  ∀ ws, MetFree l y (head1 (Jvm.Cond.codeWith y bytes maxL ret hs :: ws) rm) (fun a U => a = as' ∧ Z.Warmed39 U.vm ∧ U.heap = h) (fun _ _ _ _ _ => True) (fun _ U o U' => ∃ v L, o = .returned v ∧ (Fr n0 L ∧ Q v U'.heap) ∧ FrameEnd U o U' L rm.cells rm.slots)
theorem MetH.of {rm : Room} {hs : List (Nat × Nat × Nat × Nat)} {as' : Array Value} {Ls0 : Array Slot} (hp : plainFor y = true) (he : ∀ m, entryFrame m as' maxL = mkF m 0 Ls0 [])
    (body : ∀ p e s m args below meth c, Cx p s m meth c Z y bytes maxL ret → Go p l e rm s m args below meth c n0 Q 0 0 h (mkF m 0 Ls0 [])) : MetH l Z y bytes maxL ret hs rm as' h n0 Q := by
  intro ws
  refine MetFree.of_bodySF hp hisWith ?_
  intro p e s m args below meth c s₁ Bd hml0 hP hK
  obtain ⟨rfl, hZ, hh⟩ := hP
  have C : Cx p s m meth c Z y bytes maxL ret := ⟨Bd.exec, hZ, findClass_of_methodNamed Bd.named, (name_of_methodNamed Bd.named Bd.method).1, Bd.bytes, hml0, Bd.returns, Bd.notSynchronized⟩
  have X0 : Stand p l e rm s m args below meth c s₁ [] 0 0 := Stand.of_body Bd
  have e0 : s₁.heap = h := by rw [← hh, Bd.state]; rfl
  obtain ⟨t, o, st, r⟩ := body p e s m args below meth c C s₁ [] X0 (Fr.nil n0) e0
  exact ⟨t, o, castTop (he m) st, r⟩
theorem G.callSH (C : Cx p s m meth c Z y bytes maxL ret) {index W : Nat} {yc : MethodName} {bc : ByteArray} {mc : Nat} {rc : Option FieldType} {rm : Room} {hs0 : List (Nat × Nat × Nat × Nat)} {c' s' : Nat} {Qc : Option Value → Heap → Prop} {ps : List FieldType} {argsL stk : List Value} (w1 : (Jvm.Cond.methodLink y.cls index yc).before a0 Z = true) (w2 : (Jvm.Cond.static yc).before a0 Z = true) (w3 : (Jvm.Cond.initialized yc.cls).before a0 Z = true) (w4 : (Jvm.Cond.codeWith yc bc mc rc hs0).before a0 Z = true) (hy : yc.cls ≠ "java/lang/invoke/MethodHandle" ∧ yc.cls ≠ "java/lang/invoke/VarHandle") (M : MetH l Z yc bc mc rc hs0 rm argsL.toArray h n0 Qc) (hsz : Ls.size = maxL) (hf : rm.frames + 1 ≤ R.frames) (hW : (st.map fun v => v.category).sum = W) (hl : W + (mc + 11) + rm.locals ≤ R.locals) (hc' : cells + rm.cells = c') (hs' : slots + rm.slots = s') (hc : c' ≤ R.cells) (hs : s' ≤ R.slots) (hd : decode bytes pc = .ok (.invokestatic index, 3)) (hn : pc + 3 = n) (hlen : parseMethodDescriptor yc.desc = some ⟨ps, rc⟩) (hal : argsL.length = ps.length) (hst : stk = argsL.reverse ++ st) (k : ∀ v h', Qc v h' → Go p l e R s m args below meth c n0 Q c' s' h' (mkF m n Ls (v.toList ++ st))) : Go p l e R s m args below meth c n0 Q cells slots h (mkF m pc Ls (stk)) := fun T locs X N q => by
  subst hn hW hc' hs' hst
  obtain ⟨v, _, ⟨T', L', k', n''⟩, -, X', ⟨Lc, hQ, h1, h2, h3⟩, st'⟩ := callSH X C.x (y := yc) C.own (mvT C.z w1) (mvT C.z w2) (mvT C.z w3) (mvT C.z w4) hy (backOfWith (W := (st.map fun v => v.category).sum) (Q := fun v h L => Fr n0 L ∧ Qc v h) (M []) C.z w4 w3 hf hl) (g := mkF m pc Ls (argsL.reverse ++ st)) rfl (hsz.trans C.ml.symm) (argsL := argsL) (rest := st) (lenOf hlen hal) rfl (by show 2 * 0 + _ ≤ _; omega) (hb C.by hd) (fun _ _ => ⟨rfl, q, hc, hs⟩)
  dsimp only [Pt.U, Pt.locs, Pt.cells, Pt.slots] at X' h1 h2 h3 st' hQ
  subst h1 h2 h3
  obtain ⟨t, o, s1, r⟩ := k v _ hQ.2 T' _ X' (Fr.app N hQ.1) rfl
  exact ⟨t, o, st' t s1, r⟩
theorem G.callI (C : Cx p s m meth c Z y bytes maxL ret) {index W : Nat} {yc : MethodName} {bc : ByteArray} {mc : Nat} {rc : Option FieldType} {rm : Room} {c' s' : Nat} {Qc : Option Value → Heap → Prop} {ps : List FieldType} {K : String} {yr : MethodName} {count : Nat} {argsL stk : List Value} {a : Addr} (E : Exa Z h a K) (w1 : (Jvm.Cond.methodLink y.cls index yr).before a0 Z = true) (w5 : (Jvm.Cond.declares yr).before a0 Z = true) (w7 : (Jvm.Cond.interfaceMethod yr.cls yr.cls yr.name yr.desc).before a0 Z = true) (w6 : (Jvm.Cond.selects K yr yc).before a0 Z = true) (w2 : (Jvm.Cond.instanceMethod yc).before a0 Z = true) (w8 : (Jvm.Cond.publicMethod yc).before a0 Z = true) (w9 : (Jvm.Cond.unhidden K yr.name yr.desc).before a0 Z = true) (w10 : (Jvm.Cond.castable K yr.cls).before a0 Z = true) (w3 : (Jvm.Cond.initialized yc.cls).before a0 Z = true) (w4 : (Jvm.Cond.code yc bc mc rc).before a0 Z = true) (hy : yr.cls ≠ "java/lang/invoke/MethodHandle" ∧ yr.cls ≠ "java/lang/invoke/VarHandle") (M : Met l Z yc bc mc rc rm (.ref a :: argsL).toArray h n0 Qc) (hsz : Ls.size = maxL) (hf : rm.frames + 1 ≤ R.frames) (hW : (st.map fun v => v.category).sum = W) (hl : W + (mc + 11) + rm.locals ≤ R.locals) (hc' : cells + rm.cells = c') (hs' : slots + rm.slots = s') (hc : c' ≤ R.cells) (hs : s' ≤ R.slots) (hd : decode bytes pc = .ok (.invokeinterface index count, 5)) (hn : pc + 5 = n) (hlen : parseMethodDescriptor yr.desc = some ⟨ps, rc⟩) (hal : argsL.length = ps.length) (hst : stk = argsL.reverse ++ .ref a :: st) (k : ∀ v h', Qc v h' → Go p l e R s m args below meth c n0 Q c' s' h' (mkF m n Ls (v.toList ++ st))) : Go p l e R s m args below meth c n0 Q cells slots h (mkF m pc Ls (stk)) := fun T locs X N q => by
  subst hn hW hc' hs' hst
  obtain ⟨cq, kq, qa, qb, qc⟩ := isOf C.z q E
  obtain ⟨v, _, ⟨T', L', k', n''⟩, -, X', ⟨Lc, hQ, h1, h2, h3⟩, st'⟩ := X.interfaceBack C.x (xi := yr) (y := yc) C.own (mvT C.z w1) (mvT C.z w5) (mvT C.z w7 (by simp [Cond.onTables, Cond.keepsFace, Cond.keeps, Cond.steady, Cond.faceAtom]; exact hy)) (mvT C.z w6) (mvT C.z w2) (mvT C.z w8) (mvT C.z w9) (mvT C.z w10) hy (backOf (W := (st.map fun v => v.category).sum) (Q := fun v h L => Fr n0 L ∧ Qc v h) (M []) C.z w4 w3 hf hl) qa qb qc (g := mkF m pc Ls (argsL.reverse ++ .ref a :: st)) rfl (hsz.trans C.ml.symm) (Steps.refl _) (argsL := argsL) (rest := st) (lenOf hlen hal) rfl (by show 2 * 0 + _ ≤ _; omega) (hb C.by hd) (fun _ _ => ⟨rfl, q, hc, hs⟩)
  dsimp only [Pt.U, Pt.locs, Pt.cells, Pt.slots] at X' h1 h2 h3 st' hQ
  subst h1 h2 h3
  obtain ⟨t, o, s1, r⟩ := k v _ hQ.2 T' _ X' (Fr.app N hQ.1) rfl
  exact ⟨t, o, st'.trans s1, r⟩
theorem mvMN {Z s : State} {a0 args : Array Value} {own host : String} {index : Nat} {x : MethodName} (hZ : Z.Warmed39 s.vm) (w : (Jvm.Cond.methodLinkNest own index x host).before a0 Z = true) : (Jvm.Cond.methodLinkNest own index x host).before args s = true := (Cond.methodLinkNest_wide hZ w :)
theorem G.callCN (C : Cx p s m meth c Z y bytes maxL ret) {index W : Nat} {host : String} {yc : MethodName} {bc : ByteArray} {mc : Nat} {rm : Room} {c' s' : Nat} {Qc : Option Value → Heap → Prop} {ps : List FieldType} {argsL stk : List Value} {a : Addr} (hy1 : yc.name = "<init>") (w1 : (Jvm.Cond.methodLinkNest y.cls index yc host).before a0 Z = true) (w2 : (Jvm.Cond.instanceMethod yc).before a0 Z = true) (w3 : (Jvm.Cond.initialized yc.cls).before a0 Z = true) (w4 : (Jvm.Cond.code yc bc mc none).before a0 Z = true) (hy : yc.cls ≠ "java/lang/invoke/MethodHandle" ∧ yc.cls ≠ "java/lang/invoke/VarHandle") (M : Met l Z yc bc mc none rm (.ref a :: argsL).toArray h n0 Qc) (hsz : Ls.size = maxL) (hf : rm.frames + 1 ≤ R.frames) (hW : (st.map fun v => v.category).sum = W) (hl : W + (mc + 11) + rm.locals ≤ R.locals) (hc' : cells + rm.cells = c') (hs' : slots + rm.slots = s') (hc : c' ≤ R.cells) (hs : s' ≤ R.slots) (hd : decode bytes pc = .ok (.invokespecial index, 3)) (hn : pc + 3 = n) (hlen : parseMethodDescriptor yc.desc = some ⟨ps, none⟩) (hal : argsL.length = ps.length) (hst : stk = argsL.reverse ++ .ref a :: st) (k : ∀ v h', Qc v h' → Go p l e R s m args below meth c n0 Q c' s' h' (mkF m n Ls (v.toList ++ st))) : Go p l e R s m args below meth c n0 Q cells slots h (mkF m pc Ls (stk)) := fun T locs X N q => by
  subst hn hW hc' hs' hst
  obtain ⟨v, _, ⟨T', L', k', n''⟩, -, X', ⟨Lc, hQ, h1, h2, h3⟩, st'⟩ := X.specialBackNest C.x (y := yc) hy1 C.own (mvMN C.z w1) (mvT C.z w2) (mvT C.z w4) hy (backOf (W := (st.map fun v => v.category).sum) (Q := fun v h L => Fr n0 L ∧ Qc v h) (M []) C.z w4 w3 hf hl) (g := mkF m pc Ls (argsL.reverse ++ .ref a :: st)) rfl (hsz.trans C.ml.symm) (Steps.refl _) (a := a) (argsL := argsL) (rest := st) (lenOf hlen hal) rfl (by show 2 * 0 + _ ≤ _; omega) (hb C.by hd) (fun _ _ => ⟨rfl, q, hc, hs⟩)
  dsimp only [Pt.U, Pt.locs, Pt.cells, Pt.slots] at X' h1 h2 h3 st' hQ
  subst h1 h2 h3
  obtain ⟨t, o, s1, r⟩ := k v _ hQ.2 T' _ X' (Fr.app N hQ.1) rfl
  exact ⟨t, o, st'.trans s1, r⟩
theorem G.tswIn (C : Cx p s m meth c Z y bytes maxL ret) {dflt low high : Int} {offs : Array Int} {len : Nat} {o : Int} {i : Int32} (hd : decode bytes pc = .ok (.tableswitch dflt low high offs, len)) (hin : ¬ (i.toInt < low ∨ i.toInt > high)) (hoff : offs[(i.toInt - low).toNat]? = some o) (ho : 0 ≤ (pc : Int) + o) (hp : ((pc : Int) + o).toNat = n) (k : Go p l e R s m args below meth c n0 Q cells slots h (mkF m n Ls (st))) : Go p l e R s m args below meth c n0 Q cells slots h (mkF m pc Ls (.int i :: st)) :=
  Go.via (fun T locs X _ t q => XS.tswIn X.here C.x rfl rfl (hb C.by hd) rfl hin hoff ho hp q) k
theorem G.tswOut (C : Cx p s m meth c Z y bytes maxL ret) {dflt low high : Int} {offs : Array Int} {len : Nat} {i : Int32} (hd : decode bytes pc = .ok (.tableswitch dflt low high offs, len)) (hout : i.toInt < low ∨ i.toInt > high) (ho : 0 ≤ (pc : Int) + dflt) (hp : ((pc : Int) + dflt).toNat = n) (k : Go p l e R s m args below meth c n0 Q cells slots h (mkF m n Ls (st))) : Go p l e R s m args below meth c n0 Q cells slots h (mkF m pc Ls (.int i :: st)) :=
  Go.via (fun T locs X _ t q => XS.tswOut X.here C.x rfl rfl (hb C.by hd) rfl hout ho hp q) k
def MirA (Z : State) (K : String) (mr : Addr) : Prop := ∃ (c : ClassId) (k : Class), Z.vm.findClass K = some c ∧ Z.vm.classes[c]? = some k ∧ k.mirror = some mr
theorem G.getClass (C : Cx p s m meth c Z y bytes maxL ret) {K : String} {index W : Nat} {a mr : Addr} (E : Exa Z h a K) (Mr : MirA Z K mr) (w1 : (Jvm.Cond.methodLink y.cls index Jvm.Stand.gcN).before a0 Z = true) (w2 : (Jvm.Cond.declares Jvm.Stand.gcN).before a0 Z = true) (w3 : (Jvm.Cond.noSuperclass "java/lang/Object").before a0 Z = true) (w4 : (Jvm.Cond.selects K Jvm.Stand.gcN Jvm.Stand.gcN).before a0 Z = true) (w5 : (Jvm.Cond.instanceMethod Jvm.Stand.gcN).before a0 Z = true) (w6 : (Jvm.Cond.native Jvm.Stand.gcN).before a0 Z = true)
    (hd : decode bytes pc = .ok (.invokevirtual index, 3)) (hsz : Ls.size = maxL) (hf : 1 ≤ R.frames) (hW : (st.map fun v => v.category).sum = W) (hl : W + (nativeFrameWords "java/lang/Object" "getClass" 1 + 11) ≤ R.locals) (hn : pc + 3 = n) (k : Go p l e R s m args below meth c n0 Q cells slots h (mkF m n Ls (.ref mr :: st))) : Go p l e R s m args below meth c n0 Q cells slots h (mkF m pc Ls (.ref a :: st)) := fun T locs X N q => by
  subst hn hW
  obtain ⟨cB, kB, i1, i2, i3⟩ := isOf C.z q E
  obtain ⟨cc, kc, m1, m2, m3⟩ := Mr
  rw [C.z.alike.findClass] at i1
  cases i1.symm.trans m1
  obtain ⟨k', q2, ek⟩ := C.z.alike.2.2 _ _ m2
  obtain ⟨vm', X', st'⟩ := X.getClassOf C.x C.own (mvT C.z w1) (mvT C.z w2) (nf_top (args := #[]) (mvT C.z w3)) (mvT C.z w4) (mvT C.z w5) (mvT C.z w6) (by rw [C.z.alike.findClass]; exact m1) i3 q2 (by rw [ek]; exact m3) (g := mkF m pc Ls (.ref a :: st)) rfl (hsz.trans C.ml.symm) rfl (hb C.by hd) hf (by show 2 * 0 + _ + _ ≤ _; omega)
  obtain ⟨t, o, s1, r⟩ := k _ locs X' N q
  exact ⟨t, o, st' t s1, r⟩
theorem className_at {cp : ConstantPool} {index : Nat} {nm : String} (h : cp.className? index = some nm) : ∃ i, cp[index]? = some (.class_ i) := by
  unfold ConstantPool.className? at h
  split at h
  · rename_i i hi; exact ⟨i, hi⟩
  · cases h
theorem ldc_classCold {Q : Unit → Pre} {E : CtlPost} {e : Env} {d : Bool} {acts : List Action} {s : State} {f : JFrame} {index i c : Nat} {vm' : Vm} {k k' : Class} {cf : ClassFile} (hs : s.topJava?.isSome) (hk : s.vm.classes[f.method.cls]? = some k) (hcf : k.cf = some cf) (hc : cf.constantPool[index]? = some (.class_ i))
    (hg : (Jvm.resolveClass f.method.cls index).Gives e.toSetting s.vm (.ok c) vm') (hr : vm'.classReady f.method.cls index c) (hk' : vm'.classes[f.method.cls]? = some k') (hcf' : k'.cf = some cf) (hsz : vm'.classes.size ≤ s.vm.classes.size) :
    wp (ldc.sem index) Q E e d acts (s.setTop f) ↔ wp (ldc.sem index) Q E e d acts ((s.setVm vm').setTop f) := by
  have hs' : (s.setVm vm').topJava?.isSome := hs
  have hk2 : (s.setVm vm').vm.classes[f.method.cls]? = some k' := hk'
  simp only [ldc.sem, wp_bind', Jvm.constantAt, W.currentClass, W.theClass, State.method?_setTop f hs, State.method?_setTop f hs', State.vm_setTop, Option.some.injEq, exists_eq_left', hk, hk2, hcf, hcf', Option.bind_some, hc, wp_pure']
  exact W.resolveClassAt_transfer (s := s.setTop f) (State.method?_setTop f hs) hg hr hsz
theorem G.ldcClass (C : Cx p s m meth c Z y bytes maxL ret) {K : String} {index : Nat} {mr : Addr} (w : (Jvm.Cond.classLink y.cls index K).before a0 Z = true) (Mr : MirA Z K mr) (hd : decode bytes pc = .ok (.ldc index, 2)) (hn : pc + 2 = n) (k : Go p l e R s m args below meth c n0 Q cells slots h (mkF m n Ls (.ref mr :: st))) : Go p l e R s m args below meth c n0 Q cells slots h (mkF m pc Ls (st)) := fun T locs X N q => by
  subst hn
  have hpl : e.platform.magicAccessors = ({} : Platform).magicAccessors := by rw [X.admits.platform]
  obtain ⟨cc, hcc, hcl⟩ := Cond.classLink_spec C.own (mvT (args := args) C.z w) e.platform hpl
  obtain ⟨c1, kc, m1, m2, m3⟩ := Mr
  rw [C.z.alike.findClass] at hcc
  cases hcc.symm.trans m1
  obtain ⟨kS, q2, ek⟩ := C.z.alike.2.2 _ _ m2
  obtain ⟨dk, cf, nm, kt, hdk, hcf, _, hcn, _, hkt, _, hopen⟩ := hcl.here
  obtain ⟨i, hci⟩ := className_at hcn
  have hcl₀ := X.warmed.classLinks hcl
  have hW' : s.WarmedH (T.vm.noted m.cls index (.cls cc)) := X.warmed.noted hdk hopen (State.rightAt_cls hcl)
  obtain ⟨d1, hd1, e1⟩ := X.warmed.alike.2.2 _ _ hdk
  obtain ⟨d2, hd2, e2⟩ := hW'.alike.2.2 _ _ hdk
  obtain ⟨kt', hkt', e3⟩ := hW'.alike.2.2 _ _ q2
  have hst : ∀ t, Steps p.tables e below ((T.setVm (T.vm.noted m.cls index (.cls cc))).setTop (mkF m (pc + 2) Ls (.ref mr :: st))) t → Steps p.tables e below (T.setTop (mkF m pc Ls st)) t := fun t hrest => by
    have hdc : decode c.code (mkF m pc Ls st).pc = .ok (.ldc index, 2) := hb C.by hd
    jvm_step X.here [C.x, hdc, ldc_classCold (e := e) (s := T) (f := mkF m pc Ls st) X.here.top hd1 (by rw [e1]; exact hcf) hci (resolveClass_links e.toSetting hcl₀) hcl₀.ready hd2 (by rw [e2]; exact hcf) (by no_record), ldc.wp_class (s := T.setVm (T.vm.noted m.cls index (.cls cc))) (f := mkF m pc Ls st) X.here.top hd2 (by rw [e2]; exact hcf) hci hcl₀.ready hkt' (by rw [e3, ek]; exact m3)]
    exact hrest
  obtain ⟨t, o, s1, r⟩ := k _ locs (X.noted hW') N q
  exact ⟨t, o, hst t s1, r⟩
def RefsX (Z : State) (h : Heap) (a : Addr) (vs : List Value) : Prop := RefsO Z h a "java/lang/Object" vs ∧ Exa Z h a "[Ljava/lang/Object;"
theorem RefsX.lt {a : Addr} {vs : List Value} (F : RefsX Z h a vs) : a < h.size := F.1.lt
theorem RefsX.keep {h' : Heap} {ws : List Addr} {a : Addr} {vs : List Value} (F : RefsX Z h a vs) (Kp : Keep h h' ws) (r : a ∉ ws) : RefsX Z h' a vs := ⟨F.1.keep Kp r, F.2.keep Kp⟩
theorem RefsX.refs {a : Addr} {vs : List Value} (F : RefsX Z h a vs) : Refs Z h a (.object "java/lang/Object") vs := F.1.refs
theorem Refs.ext {h' : Heap} {a : Addr} {ty : FieldType} {vs : List Value} (F : Refs Z h a ty vs) (E : Ext h h') : Refs Z h' a ty vs := by obtain ⟨k, z, A, q⟩ := F; exact ⟨k, z, A.ext E, q⟩
theorem G.anewarrayX (C : Cx p s m meth c Z y bytes maxL ret) {index : Nat} {len : Int32} {cap c' s' : Nat} (w1 : (Jvm.Cond.classLink y.cls index "java/lang/Object").before a0 Z = true) (w2 : (Jvm.Cond.arrayOver (.object "java/lang/Object")).before a0 Z = true) (hlen : len.toInt = cap) (hbig : cap * 8 ≤ 536870912) (hd : decode bytes pc = .ok (.anewarray index, 3)) (hn : pc + 3 = n) (hc' : cells + 1 = c') (hs' : slots + cap = s') (hc : c' ≤ R.cells) (hs : s' ≤ R.slots)
    (k : ∀ h' b, b = h.size → Ext h h' → RefsX Z h' b (List.replicate cap .null) → Go p l e R s m args below meth c n0 Q c' s' h' (mkF m n Ls (.ref b :: st))) : Go p l e R s m args below meth c n0 Q cells slots h (mkF m pc Ls (.int len :: st)) := fun T locs X N q => by
  subst hn hc' hs'
  obtain ⟨T', h', cA, X', e', E, A, F, O, st'⟩ := newRE X C.x C.z C.own w1 w2 q (g := mkF m pc Ls (.int len :: st)) rfl (hb C.by hd) rfl (not_neg (by omega)) (cap := cap) (by rw [nat_clamp]; omega) hbig hc hs (ad := "[Ljava/lang/Object;") (by decide)
  have V := (Arv.new A (not_neg (by omega)))
  have V2 := V.pad (pad_rep [] _ cap)
  rw [List.nil_append] at V2
  obtain ⟨t, o, s1, r⟩ := k h' _ rfl E ⟨⟨cA, len, V2, by rw [List.length_replicate]; exact hlen, O⟩, F⟩ T' _ X' N e'
  exact ⟨t, o, st' t s1, r⟩
theorem G.aastoreX (C : Cx p s m meth c Z y bytes maxL ret) {a b : Addr} {j : Int32} {vs : List Value} (F : RefsX Z h a vs) (I : Ins Z h b "java/lang/Object" true) (hj : 0 ≤ j.toInt) (hl : j.toInt < vs.length) (g : n0 ≤ a) (hd : decode bytes pc = .ok (.aastore, 1)) (hn : pc + 1 = n) (k : ∀ h', Keep h h' [a] → RefsX Z h' a (vs.set j.toInt.toNat (.ref b)) → Go p l e R s m args below meth c n0 Q cells slots h' (mkF m n Ls (st))) : Go p l e R s m args below meth c n0 Q cells slots h (mkF m pc Ls (.ref b :: .int j :: .ref a :: st)) :=
  G.aastoreO C F.1 I hj hl g hd hn (fun h' K R => k h' K ⟨R, F.2.keep K⟩)
theorem StoL.of {a : Addr} : ∀ (us : List Value), (∀ v ∈ us, Sto Z h a v) → StoL Z h a us
  | [], _ => trivial
  | _ :: r, H => ⟨H _ (List.mem_cons_self ..), StoL.of r fun v q => H v (List.mem_cons_of_mem _ q)⟩
theorem G.arraycopyX (C : Cx p s m meth c Z y bytes maxL ret) {index W : Nat} {a b : Addr} {vs vd us ws : List Value} {nn : Int32} (w1 : (Jvm.Cond.methodLink y.cls index Jvm.Stand.acN).before a0 Z = true) (w2 : (Jvm.Cond.native Jvm.Stand.acN).before a0 Z = true) (w3 : (Jvm.Cond.static Jvm.Stand.acN).before a0 Z = true) (w4 : (Jvm.Cond.initialized "java/lang/System").before a0 Z = true) (A : RefsX Z h a vs) (B : RefsX Z h b vd)
    (hI : ∀ v ∈ us, v = .null ∨ ∃ x, v = .ref x ∧ Ins Z h x "java/lang/Object" true) (h0 : 0 ≤ nn.toInt) (h4 : nn.toInt ≤ vs.length) (h5 : nn.toInt ≤ vd.length) (hus : us = (List.range nn.toInt.toNat).map fun i => vs.getD (0 + i) .null) (hws : us ++ vd.drop nn.toInt.toNat = ws) (g : n0 ≤ b)
    (hd : decode bytes pc = .ok (.invokestatic index, 3)) (hsz : Ls.size = maxL) (hf : 1 ≤ R.frames) (hW : (st.map fun v => v.category).sum = W) (hlo : W + (nativeFrameWords "java/lang/System" "arraycopy" 5 + 11) ≤ R.locals) (hn : pc + 3 = n) (k : ∀ h', Keep h h' [b] → RefsX Z h' b ws → Go p l e R s m args below meth c n0 Q cells slots h' (mkF m n Ls (st))) : Go p l e R s m args below meth c n0 Q cells slots h (mkF m pc Ls (.int nn :: .int 0 :: .ref b :: .int 0 :: .ref a :: st)) := fun T locs X N q => by
  subst hn hW
  obtain ⟨k1, z1, A1, e1⟩ := A.1.refs
  obtain ⟨⟨k2, z2, B1, e2, O2⟩, E2⟩ := B
  have hnn : nn.toNatClampNeg = nn.toInt.toNat := nat_clamp
  have z1n : z1.toNatClampNeg = vs.length := by rw [nat_clamp, e1]; rfl
  have z2n : z2.toNatClampNeg = vd.length := by rw [nat_clamp, e2]; rfl
  have hS : StoL Z h b us := StoL.of us fun v hv => by
    rcases hI v hv with rfl | ⟨x, rfl, I⟩
    · exact Or.inl rfl
    · obtain ⟨cl, A2, q1, -⟩ := B1
      exact Sto.of A2 (q1 ▸ O2) I
  obtain ⟨T', h', L, X', e', NL, K, V, st'⟩ := cpA X C.x C.z C.own w1 w2 w3 w4 q (us := us) A1 B1 (Or.inr ⟨rfl, rfl, hS⟩) (sp := 0) (dp := 0) (nn := nn) (by decide) (by decide) (not_neg h0) (by rw [hnn, z1n]; show 0 + _ ≤ _; omega) (by rw [hnn, z2n]; show 0 + _ ≤ _; omega) (by rw [hnn]; exact hus) (by rw [hnn]; show 0 + _ ≤ _; omega) N g (g := mkF m pc Ls (.int nn :: .int 0 :: .ref b :: .int 0 :: .ref a :: st)) rfl (hsz.trans C.ml.symm) rfl (hb C.by hd) hf (W := (st.map fun v => v.category).sum) (by show 2 * 0 + _ ≤ _; omega) hlo
  rw [hnn, show (0 : Int32).toNatClampNeg = 0 from rfl, List.take_zero, List.nil_append, Nat.zero_add, hws] at V
  have hlw : (ws.length : Int) = vd.length := by
    have := congrArg List.length hus
    rw [List.length_map, List.length_range] at this
    rw [← hws, List.length_append, List.length_drop]; omega
  obtain ⟨t, o, s1, r⟩ := k h' K ⟨⟨k2, z2, V, by rw [e2, hlw], O2⟩, E2.keep K⟩ T' L X' NL e'
  exact ⟨t, o, st' t s1, r⟩
end
end Jvm.Own
namespace Jvm.Pilot.@@N@@
open Jvm Jvm.ClassFile Sem Op Lib Jvm.Free Jvm.Stand Jvm.LawKit Jvm.RoadKit Jvm.Own Bundle Jvm.Pilot.@@N@@.Jvm.D
def Ob_Sd (Z : State) (h : Heap) (a : Addr) (f_bits : Int32) (f_prime : Int64) (f_orderFactors : Value) : Prop := Exa Z h a "com/example/veilrelay/veilrelay/core/derived/SmallDomain" ∧ Fld Z h a "com/example/veilrelay/veilrelay/core/derived/SmallDomain" "bits" "I" (.int f_bits) ∧ Fld Z h a "com/example/veilrelay/veilrelay/core/derived/SmallDomain" "prime" "J" (.long f_prime) ∧ Fld Z h a "com/example/veilrelay/veilrelay/core/derived/SmallDomain" "orderFactors" "Ljava/util/List;" f_orderFactors
theorem Ob_Sd.keep {Z : State} {h h' : Heap} {ws : List Addr} {a : Addr} {f_bits : Int32} {f_prime : Int64} {f_orderFactors : Value} (O : Ob_Sd Z h a f_bits f_prime f_orderFactors) (K : Keep h h' ws) (r : a ∉ ws) : Ob_Sd Z h' a f_bits f_prime f_orderFactors := ⟨(O.1).keep K, (O.2.1).keep K r, (O.2.2.1).keep K r, (O.2.2.2).keep K r⟩
theorem Ob_Sd.lt {Z : State} {h : Heap} {a : Addr} {f_bits : Int32} {f_prime : Int64} {f_orderFactors : Value} (O : Ob_Sd Z h a f_bits f_prime f_orderFactors) : a < h.size := Exa.lt (O.1)
theorem Ob_Sd.set_bits {Z : State} {a0 : Array Value} (hw : ∀ d ∈ tables_1, d.before a0 Z = true) {h h' : Heap} {a : Addr} {f_bits : Int32} {f_prime : Int64} {f_orderFactors : Value} {v : Int32} (O : Ob_Sd Z h a f_bits f_prime f_orderFactors) (W : Wr h h' a (RoadKit.slotOf Z "com/example/veilrelay/veilrelay/core/derived/SmallDomain" "bits" "I") (.int v)) : Ob_Sd Z h' a v f_prime f_orderFactors := ⟨(O.1).wr W, (O.2.1).same W, (O.2.2.1).other W (Or.inr (slot_ne (Or.inr (wd hw 25 rfl)) (Or.inr (wd hw 19 rfl)) (by decide) (t := .long) (t' := .int) (by decide) (by decide))), (O.2.2.2).other W (Or.inr (slot_ne (Or.inr (wd hw 183 rfl)) (Or.inr (wd hw 19 rfl)) (by decide) (t := (.object "java/util/List")) (t' := .int) (by decide) (by decide)))⟩
theorem Ob_Sd.set_prime {Z : State} {a0 : Array Value} (hw : ∀ d ∈ tables_1, d.before a0 Z = true) {h h' : Heap} {a : Addr} {f_bits : Int32} {f_prime : Int64} {f_orderFactors : Value} {v : Int64} (O : Ob_Sd Z h a f_bits f_prime f_orderFactors) (W : Wr h h' a (RoadKit.slotOf Z "com/example/veilrelay/veilrelay/core/derived/SmallDomain" "prime" "J") (.long v)) : Ob_Sd Z h' a f_bits v f_orderFactors := ⟨(O.1).wr W, (O.2.1).other W (Or.inr (slot_ne (Or.inr (wd hw 19 rfl)) (Or.inr (wd hw 25 rfl)) (by decide) (t := .int) (t' := .long) (by decide) (by decide))), (O.2.2.1).same W, (O.2.2.2).other W (Or.inr (slot_ne (Or.inr (wd hw 183 rfl)) (Or.inr (wd hw 25 rfl)) (by decide) (t := (.object "java/util/List")) (t' := .long) (by decide) (by decide)))⟩
theorem Ob_Sd.set_orderFactors {Z : State} {a0 : Array Value} (hw : ∀ d ∈ tables_1, d.before a0 Z = true) {h h' : Heap} {a : Addr} {f_bits : Int32} {f_prime : Int64} {f_orderFactors : Value} {v : Value} (O : Ob_Sd Z h a f_bits f_prime f_orderFactors) (W : Wr h h' a (RoadKit.slotOf Z "com/example/veilrelay/veilrelay/core/derived/SmallDomain" "orderFactors" "Ljava/util/List;") v) : Ob_Sd Z h' a f_bits f_prime v := ⟨(O.1).wr W, (O.2.1).other W (Or.inr (slot_ne (Or.inr (wd hw 19 rfl)) (Or.inr (wd hw 183 rfl)) (by decide) (t := .int) (t' := (.object "java/util/List")) (by decide) (by decide))), (O.2.2.1).other W (Or.inr (slot_ne (Or.inr (wd hw 25 rfl)) (Or.inr (wd hw 183 rfl)) (by decide) (t := .long) (t' := (.object "java/util/List")) (by decide) (by decide))), (O.2.2.2).same W⟩
theorem Ob_Sd.new {Z : State} {a0 : Array Value} (hw : ∀ d ∈ tables_1, d.before a0 Z = true) {h : Heap} {a : Addr} (E : Exa Z h a "com/example/veilrelay/veilrelay/core/derived/SmallDomain") (D : ∀ {O nm d : String} {ty : FieldType}, Laid Z a0 "com/example/veilrelay/veilrelay/core/derived/SmallDomain" O nm d → parseFieldDescriptor d = some ty → Fld Z h a O nm d (defaultValue ty)) : Ob_Sd Z h a (0 : Int32) (0 : Int64) .null := ⟨E, D (Or.inr (wd hw 19 rfl)) (ty := .int) (by decide), D (Or.inr (wd hw 25 rfl)) (ty := .long) (by decide), D (Or.inr (wd hw 183 rfl)) (ty := (.object "java/util/List")) (by decide)⟩
def Ob_Al (Z : State) (h : Heap) (a : Addr) (f_modCount : Int32) (f_elementData : Value) (f_size : Int32) : Prop := Exa Z h a "java/util/ArrayList" ∧ Fld Z h a "java/util/AbstractList" "modCount" "I" (.int f_modCount) ∧ Fld Z h a "java/util/ArrayList" "elementData" "[Ljava/lang/Object;" f_elementData ∧ Fld Z h a "java/util/ArrayList" "size" "I" (.int f_size)
theorem Ob_Al.keep {Z : State} {h h' : Heap} {ws : List Addr} {a : Addr} {f_modCount : Int32} {f_elementData : Value} {f_size : Int32} (O : Ob_Al Z h a f_modCount f_elementData f_size) (K : Keep h h' ws) (r : a ∉ ws) : Ob_Al Z h' a f_modCount f_elementData f_size := ⟨(O.1).keep K, (O.2.1).keep K r, (O.2.2.1).keep K r, (O.2.2.2).keep K r⟩
theorem Ob_Al.lt {Z : State} {h : Heap} {a : Addr} {f_modCount : Int32} {f_elementData : Value} {f_size : Int32} (O : Ob_Al Z h a f_modCount f_elementData f_size) : a < h.size := Exa.lt (O.1)
theorem Ob_Al.set_modCount {Z : State} {a0 : Array Value} (hw : ∀ d ∈ tables_1, d.before a0 Z = true) {h h' : Heap} {a : Addr} {f_modCount : Int32} {f_elementData : Value} {f_size : Int32} {v : Int32} (O : Ob_Al Z h a f_modCount f_elementData f_size) (W : Wr h h' a (RoadKit.slotOf Z "java/util/AbstractList" "modCount" "I") (.int v)) : Ob_Al Z h' a v f_elementData f_size := ⟨(O.1).wr W, (O.2.1).same W, (O.2.2.1).other W (Or.inr (slot_ne (Or.inl (wd hw 52 rfl)) (Or.inl (wd hw 49 rfl)) (by decide) (t := (.array (.object "java/lang/Object"))) (t' := .int) (by decide) (by decide))), (O.2.2.2).other W (Or.inr (slot_ne (Or.inl (wd hw 73 rfl)) (Or.inl (wd hw 49 rfl)) (by decide) (t := .int) (t' := .int) (by decide) (by decide)))⟩
theorem Ob_Al.set_elementData {Z : State} {a0 : Array Value} (hw : ∀ d ∈ tables_1, d.before a0 Z = true) {h h' : Heap} {a : Addr} {f_modCount : Int32} {f_elementData : Value} {f_size : Int32} {v : Value} (O : Ob_Al Z h a f_modCount f_elementData f_size) (W : Wr h h' a (RoadKit.slotOf Z "java/util/ArrayList" "elementData" "[Ljava/lang/Object;") v) : Ob_Al Z h' a f_modCount v f_size := ⟨(O.1).wr W, (O.2.1).other W (Or.inr (slot_ne (Or.inl (wd hw 49 rfl)) (Or.inl (wd hw 52 rfl)) (by decide) (t := .int) (t' := (.array (.object "java/lang/Object"))) (by decide) (by decide))), (O.2.2.1).same W, (O.2.2.2).other W (Or.inr (slot_ne (Or.inl (wd hw 73 rfl)) (Or.inl (wd hw 52 rfl)) (by decide) (t := .int) (t' := (.array (.object "java/lang/Object"))) (by decide) (by decide)))⟩
theorem Ob_Al.set_size {Z : State} {a0 : Array Value} (hw : ∀ d ∈ tables_1, d.before a0 Z = true) {h h' : Heap} {a : Addr} {f_modCount : Int32} {f_elementData : Value} {f_size : Int32} {v : Int32} (O : Ob_Al Z h a f_modCount f_elementData f_size) (W : Wr h h' a (RoadKit.slotOf Z "java/util/ArrayList" "size" "I") (.int v)) : Ob_Al Z h' a f_modCount f_elementData v := ⟨(O.1).wr W, (O.2.1).other W (Or.inr (slot_ne (Or.inl (wd hw 49 rfl)) (Or.inl (wd hw 73 rfl)) (by decide) (t := .int) (t' := .int) (by decide) (by decide))), (O.2.2.1).other W (Or.inr (slot_ne (Or.inl (wd hw 52 rfl)) (Or.inl (wd hw 73 rfl)) (by decide) (t := (.array (.object "java/lang/Object"))) (t' := .int) (by decide) (by decide))), (O.2.2.2).same W⟩
theorem Ob_Al.new {Z : State} {a0 : Array Value} (hw : ∀ d ∈ tables_1, d.before a0 Z = true) {h : Heap} {a : Addr} (E : Exa Z h a "java/util/ArrayList") (D : ∀ {O nm d : String} {ty : FieldType}, Laid Z a0 "java/util/ArrayList" O nm d → parseFieldDescriptor d = some ty → Fld Z h a O nm d (defaultValue ty)) : Ob_Al Z h a (0 : Int32) .null (0 : Int32) := ⟨E, D (Or.inl (wd hw 49 rfl)) (ty := .int) (by decide), D (Or.inl (wd hw 52 rfl)) (ty := (.array (.object "java/lang/Object"))) (by decide), D (Or.inl (wd hw 73 rfl)) (ty := .int) (by decide)⟩
def Ob_L2 (Z : State) (h : Heap) (a : Addr) (f_e0 : Value) (f_e1 : Value) : Prop := Exa Z h a "java/util/ImmutableCollections$List12" ∧ Fld Z h a "java/util/ImmutableCollections$List12" "e0" "Ljava/lang/Object;" f_e0 ∧ Fld Z h a "java/util/ImmutableCollections$List12" "e1" "Ljava/lang/Object;" f_e1
theorem Ob_L2.keep {Z : State} {h h' : Heap} {ws : List Addr} {a : Addr} {f_e0 : Value} {f_e1 : Value} (O : Ob_L2 Z h a f_e0 f_e1) (K : Keep h h' ws) (r : a ∉ ws) : Ob_L2 Z h' a f_e0 f_e1 := ⟨(O.1).keep K, (O.2.1).keep K r, (O.2.2).keep K r⟩
theorem Ob_L2.lt {Z : State} {h : Heap} {a : Addr} {f_e0 : Value} {f_e1 : Value} (O : Ob_L2 Z h a f_e0 f_e1) : a < h.size := Exa.lt (O.1)
theorem Ob_L2.set_e0 {Z : State} {a0 : Array Value} (hw : ∀ d ∈ tables_1, d.before a0 Z = true) {h h' : Heap} {a : Addr} {f_e0 : Value} {f_e1 : Value} {v : Value} (O : Ob_L2 Z h a f_e0 f_e1) (W : Wr h h' a (RoadKit.slotOf Z "java/util/ImmutableCollections$List12" "e0" "Ljava/lang/Object;") v) : Ob_L2 Z h' a v f_e1 := ⟨(O.1).wr W, (O.2.1).same W, (O.2.2).other W (Or.inr (slot_ne (Or.inr (wd hw 181 rfl)) (Or.inr (wd hw 178 rfl)) (by decide) (t := (.object "java/lang/Object")) (t' := (.object "java/lang/Object")) (by decide) (by decide)))⟩
theorem Ob_L2.set_e1 {Z : State} {a0 : Array Value} (hw : ∀ d ∈ tables_1, d.before a0 Z = true) {h h' : Heap} {a : Addr} {f_e0 : Value} {f_e1 : Value} {v : Value} (O : Ob_L2 Z h a f_e0 f_e1) (W : Wr h h' a (RoadKit.slotOf Z "java/util/ImmutableCollections$List12" "e1" "Ljava/lang/Object;") v) : Ob_L2 Z h' a f_e0 v := ⟨(O.1).wr W, (O.2.1).other W (Or.inr (slot_ne (Or.inr (wd hw 178 rfl)) (Or.inr (wd hw 181 rfl)) (by decide) (t := (.object "java/lang/Object")) (t' := (.object "java/lang/Object")) (by decide) (by decide))), (O.2.2).same W⟩
theorem Ob_L2.new {Z : State} {a0 : Array Value} (hw : ∀ d ∈ tables_1, d.before a0 Z = true) {h : Heap} {a : Addr} (E : Exa Z h a "java/util/ImmutableCollections$List12") (D : ∀ {O nm d : String} {ty : FieldType}, Laid Z a0 "java/util/ImmutableCollections$List12" O nm d → parseFieldDescriptor d = some ty → Fld Z h a O nm d (defaultValue ty)) : Ob_L2 Z h a .null .null := ⟨E, D (Or.inr (wd hw 178 rfl)) (ty := (.object "java/lang/Object")) (by decide), D (Or.inr (wd hw 181 rfl)) (ty := (.object "java/lang/Object")) (by decide)⟩
def Ob_Ln (Z : State) (h : Heap) (a : Addr) (f_elements : Value) (f_allowNulls : Int32) : Prop := Exa Z h a "java/util/ImmutableCollections$ListN" ∧ Fld Z h a "java/util/ImmutableCollections$ListN" "elements" "[Ljava/lang/Object;" f_elements ∧ Fld Z h a "java/util/ImmutableCollections$ListN" "allowNulls" "Z" (.int f_allowNulls)
theorem Ob_Ln.keep {Z : State} {h h' : Heap} {ws : List Addr} {a : Addr} {f_elements : Value} {f_allowNulls : Int32} (O : Ob_Ln Z h a f_elements f_allowNulls) (K : Keep h h' ws) (r : a ∉ ws) : Ob_Ln Z h' a f_elements f_allowNulls := ⟨(O.1).keep K, (O.2.1).keep K r, (O.2.2).keep K r⟩
theorem Ob_Ln.lt {Z : State} {h : Heap} {a : Addr} {f_elements : Value} {f_allowNulls : Int32} (O : Ob_Ln Z h a f_elements f_allowNulls) : a < h.size := Exa.lt (O.1)
theorem Ob_Ln.set_elements {Z : State} {a0 : Array Value} (hw : ∀ d ∈ tables_1, d.before a0 Z = true) {h h' : Heap} {a : Addr} {f_elements : Value} {f_allowNulls : Int32} {v : Value} (O : Ob_Ln Z h a f_elements f_allowNulls) (W : Wr h h' a (RoadKit.slotOf Z "java/util/ImmutableCollections$ListN" "elements" "[Ljava/lang/Object;") v) : Ob_Ln Z h' a v f_allowNulls := ⟨(O.1).wr W, (O.2.1).same W, (O.2.2).other W (Or.inr (slot_ne (Or.inr (wd hw 208 rfl)) (Or.inr (wd hw 206 rfl)) (by decide) (t := .boolean) (t' := (.array (.object "java/lang/Object"))) (by decide) (by decide)))⟩
theorem Ob_Ln.set_allowNulls {Z : State} {a0 : Array Value} (hw : ∀ d ∈ tables_1, d.before a0 Z = true) {h h' : Heap} {a : Addr} {f_elements : Value} {f_allowNulls : Int32} {v : Int32} (O : Ob_Ln Z h a f_elements f_allowNulls) (W : Wr h h' a (RoadKit.slotOf Z "java/util/ImmutableCollections$ListN" "allowNulls" "Z") (.int v)) : Ob_Ln Z h' a f_elements v := ⟨(O.1).wr W, (O.2.1).other W (Or.inr (slot_ne (Or.inr (wd hw 206 rfl)) (Or.inr (wd hw 208 rfl)) (by decide) (t := (.array (.object "java/lang/Object"))) (t' := .boolean) (by decide) (by decide))), (O.2.2).same W⟩
theorem Ob_Ln.new {Z : State} {a0 : Array Value} (hw : ∀ d ∈ tables_1, d.before a0 Z = true) {h : Heap} {a : Addr} (E : Exa Z h a "java/util/ImmutableCollections$ListN") (D : ∀ {O nm d : String} {ty : FieldType}, Laid Z a0 "java/util/ImmutableCollections$ListN" O nm d → parseFieldDescriptor d = some ty → Fld Z h a O nm d (defaultValue ty)) : Ob_Ln Z h a .null (0 : Int32) := ⟨E, D (Or.inr (wd hw 206 rfl)) (ty := (.array (.object "java/lang/Object"))) (by decide), D (Or.inr (wd hw 208 rfl)) (ty := .boolean) (by decide)⟩
theorem ns_inst {Z : State} {a0 : Array Value} {A S K : String} {k : Nat} (w : (Jvm.Cond.superclass A S).before a0 Z = true) (wk : (Jvm.Cond.instantiable K k).before a0 Z = true) (n : NS Z A K) (hn : A ≠ K) : ∃ c t, Z.vm.findClass A = some c ∧ Z.vm.findClass K = some t ∧ Z.vm.assignable c t = false := by
  obtain ⟨c, t, h0, g0, n3⟩ := n
  obtain ⟨p, k, kp, h1, h2, h3, h4, h5, -, h7⟩ := Cond.superclass_spec h0 w
  obtain ⟨t2, k', g1, g2, g3, g4, -⟩ := Cond.instantiable_spec wk
  cases g0.symm.trans g1
  have g5 : k'.isInterface = false := by revert g4; cases k'.isInterface <;> simp
  have ne := ids_ne h0 g0 hn
  refine ⟨c, t, h0, g0, ?_⟩
  show Z.vm.assignableAux (255 + 1) c t = false
  simp [Vm.assignableAux, ne, h2, g2, h5, g5, g3, Vm.isSubclass, n3]
theorem ns_root {Z : State} {a0 : Array Value} {O K : String} {k : Nat} (w : (Jvm.Cond.noSuperclass O).before a0 Z = true) (wk : (Jvm.Cond.instantiable K k).before a0 Z = true) (hn : O ≠ K) : NS Z O K := by
  obtain ⟨c, k, h1, h2, h3, -, -⟩ := Cond.noSuperclass_spec w
  obtain ⟨t, k', g1, -⟩ := Cond.instantiable_spec wk
  have ne := ids_ne h1 g1 hn
  refine ⟨c, t, h1, g1, fun fuel => ?_⟩
  cases fuel with
  | zero => rfl
  | succ f => simp [Vm.isSubclassAux, ne, h2, h3]
theorem d3_0 : decode prog_36_method_13_code 0 = .ok (.ldc2_w 68, 3) := by decide +kernel
theorem d3_3 : decode prog_36_method_13_code 3 = .ok (.lstore_n 2, 1) := by decide +kernel
theorem d3_4 : decode prog_36_method_13_code 4 = .ok (.lload_n 2, 1) := by decide +kernel
theorem d3_5 : decode prog_36_method_13_code 5 = .ok (.lload_n 2, 1) := by decide +kernel
theorem d3_6 : decode prog_36_method_13_code 6 = .ok (.lmul, 1) := by decide +kernel
theorem d3_7 : decode prog_36_method_13_code 7 = .ok (.lload_n 0, 1) := by decide +kernel
theorem d3_8 : decode prog_36_method_13_code 8 = .ok (.lcmp, 1) := by decide +kernel
theorem d3_9 : decode prog_36_method_13_code 9 = .ok (.ifCond .gt 20, 3) := by decide +kernel
theorem d3_12 : decode prog_36_method_13_code 12 = .ok (.lload_n 0, 1) := by decide +kernel
theorem d3_13 : decode prog_36_method_13_code 13 = .ok (.lload_n 2, 1) := by decide +kernel
theorem d3_14 : decode prog_36_method_13_code 14 = .ok (.lrem, 1) := by decide +kernel
theorem d3_15 : decode prog_36_method_13_code 15 = .ok (.lconst 0, 1) := by decide +kernel
theorem d3_16 : decode prog_36_method_13_code 16 = .ok (.lcmp, 1) := by decide +kernel
theorem d3_17 : decode prog_36_method_13_code 17 = .ok (.ifCond .ne 5, 3) := by decide +kernel
theorem d3_20 : decode prog_36_method_13_code 20 = .ok (.iconst 0, 1) := by decide +kernel
theorem d3_21 : decode prog_36_method_13_code 21 = .ok (.ireturn, 1) := by decide +kernel
theorem d3_22 : decode prog_36_method_13_code 22 = .ok (.lload_n 2, 1) := by decide +kernel
theorem d3_23 : decode prog_36_method_13_code 23 = .ok (.lconst 1, 1) := by decide +kernel
theorem d3_24 : decode prog_36_method_13_code 24 = .ok (.ladd, 1) := by decide +kernel
theorem d3_25 : decode prog_36_method_13_code 25 = .ok (.lstore_n 2, 1) := by decide +kernel
theorem d3_26 : decode prog_36_method_13_code 26 = .ok (.goto (-22), 3) := by decide +kernel
theorem d3_29 : decode prog_36_method_13_code 29 = .ok (.iconst 1, 1) := by decide +kernel
theorem d3_30 : decode prog_36_method_13_code 30 = .ok (.ireturn, 1) := by decide +kernel
theorem pn0 : plainName "com/example/veilrelay/veilrelay/core/derived/SmallDomain" = true := by first | (simp [plainName, overriddenIn]; done) | decide +kernel
theorem ef1 (m : MethodId)  : entryFrame m #[(.long (3 : Int64))] 4 = mkF m 0 #[.val (.long (3 : Int64)), .second, .unset, .unset] [] := by first | (simp [entryFrame, mkF, argsToLocals, Value.category]; done) | rfl
abbrev Q_ip3 (Z : State) (h0 : Heap) (n0 : Nat)  : Option Value → Heap → Prop := fun v h' => v = some (.int 1) ∧ h0 = h'
abbrev R_ip3 : Room := { frames := 0, cells := 0, slots := 0, locals := 0 }
set_option maxRecDepth 65536 in
set_option maxHeartbeats 40000000 in
theorem m_ip3 (l : Launch) (Z : State) (a0 : Array Value) (hw : ∀ d ∈ tables_1, d.before a0 Z = true)  (h0 : Heap) (n0 : Nat) (Z0 : n0 ≤ h0.size)  : Met l Z (⟨"com/example/veilrelay/veilrelay/core/derived/SmallDomain", "isPrime", "(J)Z"⟩ : MethodName) prog_36_method_13_code 4 (some .boolean) R_ip3 #[(.long (3 : Int64))] h0 n0 (Q_ip3 Z h0 n0 ) := by
  refine Met.of (plainFor_of_name pn0) (fun m => ef1 m ) ?_
  intro p e s m args below meth c C
  refine G.ldc2 C (v := (2 : Int64)) (wd hw 23 rfl) d3_0 (n := 3) rfl ?_
  refine G.lstoreN C d3_3 (l' := #[.val (.long (3 : Int64)), .second, .val (.long (2 : Int64)), .second]) rfl (n := 4) rfl ?_
  refine G.lloadN C d3_4 rfl (n := 5) rfl ?_
  refine G.lloadN C d3_5 rfl (n := 6) rfl ?_
  refine G.lmul C d3_6 (n := 7) rfl ?_
  refine G.fold_long (z := (4 : Int64)) (by decide) ?_
  refine G.lloadN C d3_7 rfl (n := 8) rfl ?_
  refine G.lcmp_gt C (A := 4) (B := 3) (by decide) (by decide) d3_8 d3_9 (by decide) (by decide) (n := 12) (n' := 29) rfl (fun c9_1 => ?_) (fun c9_1 => ?_)
  rotate_left
  · exact absurd c9_1 (by decide)
  refine G.iconst C (v := (1 : Int32)) d3_29 (by decide) (n := 30) rfl ?_
  refine G.ireturn C d3_30 (rfl) (by simp) (by decide) (by decide) ?_
  exact ⟨rfl, rfl⟩
theorem ef2 (m : MethodId)  : entryFrame m #[(.long (7 : Int64))] 4 = mkF m 0 #[.val (.long (7 : Int64)), .second, .unset, .unset] [] := by first | (simp [entryFrame, mkF, argsToLocals, Value.category]; done) | rfl
abbrev Q_ip7 (Z : State) (h0 : Heap) (n0 : Nat)  : Option Value → Heap → Prop := fun v h' => v = some (.int 1) ∧ h0 = h'
abbrev R_ip7 : Room := { frames := 0, cells := 0, slots := 0, locals := 0 }
set_option maxRecDepth 65536 in
set_option maxHeartbeats 40000000 in
theorem m_ip7 (l : Launch) (Z : State) (a0 : Array Value) (hw : ∀ d ∈ tables_1, d.before a0 Z = true)  (h0 : Heap) (n0 : Nat) (Z0 : n0 ≤ h0.size)  : Met l Z (⟨"com/example/veilrelay/veilrelay/core/derived/SmallDomain", "isPrime", "(J)Z"⟩ : MethodName) prog_36_method_13_code 4 (some .boolean) R_ip7 #[(.long (7 : Int64))] h0 n0 (Q_ip7 Z h0 n0 ) := by
  refine Met.of (plainFor_of_name pn0) (fun m => ef2 m ) ?_
  intro p e s m args below meth c C
  refine G.ldc2 C (v := (2 : Int64)) (wd hw 23 rfl) d3_0 (n := 3) rfl ?_
  refine G.lstoreN C d3_3 (l' := #[.val (.long (7 : Int64)), .second, .val (.long (2 : Int64)), .second]) rfl (n := 4) rfl ?_
  refine G.lloadN C d3_4 rfl (n := 5) rfl ?_
  refine G.lloadN C d3_5 rfl (n := 6) rfl ?_
  refine G.lmul C d3_6 (n := 7) rfl ?_
  refine G.fold_long (z := (4 : Int64)) (by decide) ?_
  refine G.lloadN C d3_7 rfl (n := 8) rfl ?_
  refine G.lcmp_gt C (A := 4) (B := 7) (by decide) (by decide) d3_8 d3_9 (by decide) (by decide) (n := 12) (n' := 29) rfl (fun c9_1 => ?_) (fun c9_1 => ?_)
  · exact absurd c9_1 (by decide)
  refine G.lloadN C d3_12 rfl (n := 13) rfl ?_
  refine G.lloadN C d3_13 rfl (n := 14) rfl ?_
  refine G.lrem C d3_14 (by decide) (n := 15) rfl ?_
  refine G.fold_long (z := (1 : Int64)) (by decide) ?_
  refine G.lconst C (v := (0 : Int64)) d3_15 (by decide) (n := 16) rfl ?_
  refine G.lcmp_ne C (A := 1) (B := 0) (by decide) (by decide) d3_16 d3_17 (by decide) (by decide) (n := 20) (n' := 22) rfl (fun c17_2 c17_2i => ?_) (fun c17_2 c17_2i => ?_)
  rotate_left
  · exact absurd c17_2 (by decide)
  refine G.lloadN C d3_22 rfl (n := 23) rfl ?_
  refine G.lconst C (v := (1 : Int64)) d3_23 (by decide) (n := 24) rfl ?_
  refine G.ladd C d3_24 (n := 25) rfl ?_
  refine G.fold_long (z := (3 : Int64)) (by decide) ?_
  refine G.lstoreN C d3_25 (l' := #[.val (.long (7 : Int64)), .second, .val (.long (3 : Int64)), .second]) rfl (n := 26) rfl ?_
  refine G.goto C d3_26 (by decide) (n := 4) (by decide) ?_
  refine G.lloadN C d3_4 rfl (n := 5) rfl ?_
  refine G.lloadN C d3_5 rfl (n := 6) rfl ?_
  refine G.lmul C d3_6 (n := 7) rfl ?_
  refine G.fold_long (z := (9 : Int64)) (by decide) ?_
  refine G.lloadN C d3_7 rfl (n := 8) rfl ?_
  refine G.lcmp_gt C (A := 9) (B := 7) (by decide) (by decide) d3_8 d3_9 (by decide) (by decide) (n := 12) (n' := 29) rfl (fun c9_3 => ?_) (fun c9_3 => ?_)
  rotate_left
  · exact absurd c9_3 (by decide)
  refine G.iconst C (v := (1 : Int32)) d3_29 (by decide) (n := 30) rfl ?_
  refine G.ireturn C d3_30 (rfl) (by simp) (by decide) (by decide) ?_
  exact ⟨rfl, rfl⟩
theorem ef3 (m : MethodId)  : entryFrame m #[(.long (13 : Int64))] 4 = mkF m 0 #[.val (.long (13 : Int64)), .second, .unset, .unset] [] := by first | (simp [entryFrame, mkF, argsToLocals, Value.category]; done) | rfl
abbrev Q_ip13 (Z : State) (h0 : Heap) (n0 : Nat)  : Option Value → Heap → Prop := fun v h' => v = some (.int 1) ∧ h0 = h'
abbrev R_ip13 : Room := { frames := 0, cells := 0, slots := 0, locals := 0 }
set_option maxRecDepth 65536 in
set_option maxHeartbeats 40000000 in
theorem m_ip13 (l : Launch) (Z : State) (a0 : Array Value) (hw : ∀ d ∈ tables_1, d.before a0 Z = true)  (h0 : Heap) (n0 : Nat) (Z0 : n0 ≤ h0.size)  : Met l Z (⟨"com/example/veilrelay/veilrelay/core/derived/SmallDomain", "isPrime", "(J)Z"⟩ : MethodName) prog_36_method_13_code 4 (some .boolean) R_ip13 #[(.long (13 : Int64))] h0 n0 (Q_ip13 Z h0 n0 ) := by
  refine Met.of (plainFor_of_name pn0) (fun m => ef3 m ) ?_
  intro p e s m args below meth c C
  refine G.ldc2 C (v := (2 : Int64)) (wd hw 23 rfl) d3_0 (n := 3) rfl ?_
  refine G.lstoreN C d3_3 (l' := #[.val (.long (13 : Int64)), .second, .val (.long (2 : Int64)), .second]) rfl (n := 4) rfl ?_
  refine G.lloadN C d3_4 rfl (n := 5) rfl ?_
  refine G.lloadN C d3_5 rfl (n := 6) rfl ?_
  refine G.lmul C d3_6 (n := 7) rfl ?_
  refine G.fold_long (z := (4 : Int64)) (by decide) ?_
  refine G.lloadN C d3_7 rfl (n := 8) rfl ?_
  refine G.lcmp_gt C (A := 4) (B := 13) (by decide) (by decide) d3_8 d3_9 (by decide) (by decide) (n := 12) (n' := 29) rfl (fun c9_1 => ?_) (fun c9_1 => ?_)
  · exact absurd c9_1 (by decide)
  refine G.lloadN C d3_12 rfl (n := 13) rfl ?_
  refine G.lloadN C d3_13 rfl (n := 14) rfl ?_
  refine G.lrem C d3_14 (by decide) (n := 15) rfl ?_
  refine G.fold_long (z := (1 : Int64)) (by decide) ?_
  refine G.lconst C (v := (0 : Int64)) d3_15 (by decide) (n := 16) rfl ?_
  refine G.lcmp_ne C (A := 1) (B := 0) (by decide) (by decide) d3_16 d3_17 (by decide) (by decide) (n := 20) (n' := 22) rfl (fun c17_2 c17_2i => ?_) (fun c17_2 c17_2i => ?_)
  rotate_left
  · exact absurd c17_2 (by decide)
  refine G.lloadN C d3_22 rfl (n := 23) rfl ?_
  refine G.lconst C (v := (1 : Int64)) d3_23 (by decide) (n := 24) rfl ?_
  refine G.ladd C d3_24 (n := 25) rfl ?_
  refine G.fold_long (z := (3 : Int64)) (by decide) ?_
  refine G.lstoreN C d3_25 (l' := #[.val (.long (13 : Int64)), .second, .val (.long (3 : Int64)), .second]) rfl (n := 26) rfl ?_
  refine G.goto C d3_26 (by decide) (n := 4) (by decide) ?_
  refine G.lloadN C d3_4 rfl (n := 5) rfl ?_
  refine G.lloadN C d3_5 rfl (n := 6) rfl ?_
  refine G.lmul C d3_6 (n := 7) rfl ?_
  refine G.fold_long (z := (9 : Int64)) (by decide) ?_
  refine G.lloadN C d3_7 rfl (n := 8) rfl ?_
  refine G.lcmp_gt C (A := 9) (B := 13) (by decide) (by decide) d3_8 d3_9 (by decide) (by decide) (n := 12) (n' := 29) rfl (fun c9_3 => ?_) (fun c9_3 => ?_)
  · exact absurd c9_3 (by decide)
  refine G.lloadN C d3_12 rfl (n := 13) rfl ?_
  refine G.lloadN C d3_13 rfl (n := 14) rfl ?_
  refine G.lrem C d3_14 (by decide) (n := 15) rfl ?_
  refine G.fold_long (z := (1 : Int64)) (by decide) ?_
  refine G.lconst C (v := (0 : Int64)) d3_15 (by decide) (n := 16) rfl ?_
  refine G.lcmp_ne C (A := 1) (B := 0) (by decide) (by decide) d3_16 d3_17 (by decide) (by decide) (n := 20) (n' := 22) rfl (fun c17_4 c17_4i => ?_) (fun c17_4 c17_4i => ?_)
  rotate_left
  · exact absurd c17_4 (by decide)
  refine G.lloadN C d3_22 rfl (n := 23) rfl ?_
  refine G.lconst C (v := (1 : Int64)) d3_23 (by decide) (n := 24) rfl ?_
  refine G.ladd C d3_24 (n := 25) rfl ?_
  refine G.fold_long (z := (4 : Int64)) (by decide) ?_
  refine G.lstoreN C d3_25 (l' := #[.val (.long (13 : Int64)), .second, .val (.long (4 : Int64)), .second]) rfl (n := 26) rfl ?_
  refine G.goto C d3_26 (by decide) (n := 4) (by decide) ?_
  refine G.lloadN C d3_4 rfl (n := 5) rfl ?_
  refine G.lloadN C d3_5 rfl (n := 6) rfl ?_
  refine G.lmul C d3_6 (n := 7) rfl ?_
  refine G.fold_long (z := (16 : Int64)) (by decide) ?_
  refine G.lloadN C d3_7 rfl (n := 8) rfl ?_
  refine G.lcmp_gt C (A := 16) (B := 13) (by decide) (by decide) d3_8 d3_9 (by decide) (by decide) (n := 12) (n' := 29) rfl (fun c9_5 => ?_) (fun c9_5 => ?_)
  rotate_left
  · exact absurd c9_5 (by decide)
  refine G.iconst C (v := (1 : Int32)) d3_29 (by decide) (n := 30) rfl ?_
  refine G.ireturn C d3_30 (rfl) (by simp) (by decide) (by decide) ?_
  exact ⟨rfl, rfl⟩
theorem ef4 (m : MethodId)  : entryFrame m #[(.long (14 : Int64))] 4 = mkF m 0 #[.val (.long (14 : Int64)), .second, .unset, .unset] [] := by first | (simp [entryFrame, mkF, argsToLocals, Value.category]; done) | rfl
abbrev Q_ip14 (Z : State) (h0 : Heap) (n0 : Nat)  : Option Value → Heap → Prop := fun v h' => v = some (.int 0) ∧ h0 = h'
abbrev R_ip14 : Room := { frames := 0, cells := 0, slots := 0, locals := 0 }
set_option maxRecDepth 65536 in
set_option maxHeartbeats 40000000 in
theorem m_ip14 (l : Launch) (Z : State) (a0 : Array Value) (hw : ∀ d ∈ tables_1, d.before a0 Z = true)  (h0 : Heap) (n0 : Nat) (Z0 : n0 ≤ h0.size)  : Met l Z (⟨"com/example/veilrelay/veilrelay/core/derived/SmallDomain", "isPrime", "(J)Z"⟩ : MethodName) prog_36_method_13_code 4 (some .boolean) R_ip14 #[(.long (14 : Int64))] h0 n0 (Q_ip14 Z h0 n0 ) := by
  refine Met.of (plainFor_of_name pn0) (fun m => ef4 m ) ?_
  intro p e s m args below meth c C
  refine G.ldc2 C (v := (2 : Int64)) (wd hw 23 rfl) d3_0 (n := 3) rfl ?_
  refine G.lstoreN C d3_3 (l' := #[.val (.long (14 : Int64)), .second, .val (.long (2 : Int64)), .second]) rfl (n := 4) rfl ?_
  refine G.lloadN C d3_4 rfl (n := 5) rfl ?_
  refine G.lloadN C d3_5 rfl (n := 6) rfl ?_
  refine G.lmul C d3_6 (n := 7) rfl ?_
  refine G.fold_long (z := (4 : Int64)) (by decide) ?_
  refine G.lloadN C d3_7 rfl (n := 8) rfl ?_
  refine G.lcmp_gt C (A := 4) (B := 14) (by decide) (by decide) d3_8 d3_9 (by decide) (by decide) (n := 12) (n' := 29) rfl (fun c9_1 => ?_) (fun c9_1 => ?_)
  · exact absurd c9_1 (by decide)
  refine G.lloadN C d3_12 rfl (n := 13) rfl ?_
  refine G.lloadN C d3_13 rfl (n := 14) rfl ?_
  refine G.lrem C d3_14 (by decide) (n := 15) rfl ?_
  refine G.fold_long (z := (0 : Int64)) (by decide) ?_
  refine G.lconst C (v := (0 : Int64)) d3_15 (by decide) (n := 16) rfl ?_
  refine G.lcmp_ne C (A := 0) (B := 0) (by decide) (by decide) d3_16 d3_17 (by decide) (by decide) (n := 20) (n' := 22) rfl (fun c17_2 c17_2i => ?_) (fun c17_2 c17_2i => ?_)
  · exact absurd c17_2 (by decide)
  refine G.iconst C (v := (0 : Int32)) d3_20 (by decide) (n := 21) rfl ?_
  refine G.ireturn C d3_21 (rfl) (by simp) (by decide) (by decide) ?_
  exact ⟨rfl, rfl⟩
theorem ef5 (m : MethodId)  : entryFrame m #[(.long (15 : Int64))] 4 = mkF m 0 #[.val (.long (15 : Int64)), .second, .unset, .unset] [] := by first | (simp [entryFrame, mkF, argsToLocals, Value.category]; done) | rfl
abbrev Q_ip15 (Z : State) (h0 : Heap) (n0 : Nat)  : Option Value → Heap → Prop := fun v h' => v = some (.int 0) ∧ h0 = h'
abbrev R_ip15 : Room := { frames := 0, cells := 0, slots := 0, locals := 0 }
set_option maxRecDepth 65536 in
set_option maxHeartbeats 40000000 in
theorem m_ip15 (l : Launch) (Z : State) (a0 : Array Value) (hw : ∀ d ∈ tables_1, d.before a0 Z = true)  (h0 : Heap) (n0 : Nat) (Z0 : n0 ≤ h0.size)  : Met l Z (⟨"com/example/veilrelay/veilrelay/core/derived/SmallDomain", "isPrime", "(J)Z"⟩ : MethodName) prog_36_method_13_code 4 (some .boolean) R_ip15 #[(.long (15 : Int64))] h0 n0 (Q_ip15 Z h0 n0 ) := by
  refine Met.of (plainFor_of_name pn0) (fun m => ef5 m ) ?_
  intro p e s m args below meth c C
  refine G.ldc2 C (v := (2 : Int64)) (wd hw 23 rfl) d3_0 (n := 3) rfl ?_
  refine G.lstoreN C d3_3 (l' := #[.val (.long (15 : Int64)), .second, .val (.long (2 : Int64)), .second]) rfl (n := 4) rfl ?_
  refine G.lloadN C d3_4 rfl (n := 5) rfl ?_
  refine G.lloadN C d3_5 rfl (n := 6) rfl ?_
  refine G.lmul C d3_6 (n := 7) rfl ?_
  refine G.fold_long (z := (4 : Int64)) (by decide) ?_
  refine G.lloadN C d3_7 rfl (n := 8) rfl ?_
  refine G.lcmp_gt C (A := 4) (B := 15) (by decide) (by decide) d3_8 d3_9 (by decide) (by decide) (n := 12) (n' := 29) rfl (fun c9_1 => ?_) (fun c9_1 => ?_)
  · exact absurd c9_1 (by decide)
  refine G.lloadN C d3_12 rfl (n := 13) rfl ?_
  refine G.lloadN C d3_13 rfl (n := 14) rfl ?_
  refine G.lrem C d3_14 (by decide) (n := 15) rfl ?_
  refine G.fold_long (z := (1 : Int64)) (by decide) ?_
  refine G.lconst C (v := (0 : Int64)) d3_15 (by decide) (n := 16) rfl ?_
  refine G.lcmp_ne C (A := 1) (B := 0) (by decide) (by decide) d3_16 d3_17 (by decide) (by decide) (n := 20) (n' := 22) rfl (fun c17_2 c17_2i => ?_) (fun c17_2 c17_2i => ?_)
  rotate_left
  · exact absurd c17_2 (by decide)
  refine G.lloadN C d3_22 rfl (n := 23) rfl ?_
  refine G.lconst C (v := (1 : Int64)) d3_23 (by decide) (n := 24) rfl ?_
  refine G.ladd C d3_24 (n := 25) rfl ?_
  refine G.fold_long (z := (3 : Int64)) (by decide) ?_
  refine G.lstoreN C d3_25 (l' := #[.val (.long (15 : Int64)), .second, .val (.long (3 : Int64)), .second]) rfl (n := 26) rfl ?_
  refine G.goto C d3_26 (by decide) (n := 4) (by decide) ?_
  refine G.lloadN C d3_4 rfl (n := 5) rfl ?_
  refine G.lloadN C d3_5 rfl (n := 6) rfl ?_
  refine G.lmul C d3_6 (n := 7) rfl ?_
  refine G.fold_long (z := (9 : Int64)) (by decide) ?_
  refine G.lloadN C d3_7 rfl (n := 8) rfl ?_
  refine G.lcmp_gt C (A := 9) (B := 15) (by decide) (by decide) d3_8 d3_9 (by decide) (by decide) (n := 12) (n' := 29) rfl (fun c9_3 => ?_) (fun c9_3 => ?_)
  · exact absurd c9_3 (by decide)
  refine G.lloadN C d3_12 rfl (n := 13) rfl ?_
  refine G.lloadN C d3_13 rfl (n := 14) rfl ?_
  refine G.lrem C d3_14 (by decide) (n := 15) rfl ?_
  refine G.fold_long (z := (0 : Int64)) (by decide) ?_
  refine G.lconst C (v := (0 : Int64)) d3_15 (by decide) (n := 16) rfl ?_
  refine G.lcmp_ne C (A := 0) (B := 0) (by decide) (by decide) d3_16 d3_17 (by decide) (by decide) (n := 20) (n' := 22) rfl (fun c17_4 c17_4i => ?_) (fun c17_4 c17_4i => ?_)
  · exact absurd c17_4 (by decide)
  refine G.iconst C (v := (0 : Int32)) d3_20 (by decide) (n := 21) rfl ?_
  refine G.ireturn C d3_21 (rfl) (by simp) (by decide) (by decide) ?_
  exact ⟨rfl, rfl⟩
theorem ef6 (m : MethodId)  : entryFrame m #[(.long (31 : Int64))] 4 = mkF m 0 #[.val (.long (31 : Int64)), .second, .unset, .unset] [] := by first | (simp [entryFrame, mkF, argsToLocals, Value.category]; done) | rfl
abbrev Q_ip31 (Z : State) (h0 : Heap) (n0 : Nat)  : Option Value → Heap → Prop := fun v h' => v = some (.int 1) ∧ h0 = h'
abbrev R_ip31 : Room := { frames := 0, cells := 0, slots := 0, locals := 0 }
set_option maxRecDepth 65536 in
set_option maxHeartbeats 40000000 in
theorem m_ip31 (l : Launch) (Z : State) (a0 : Array Value) (hw : ∀ d ∈ tables_1, d.before a0 Z = true)  (h0 : Heap) (n0 : Nat) (Z0 : n0 ≤ h0.size)  : Met l Z (⟨"com/example/veilrelay/veilrelay/core/derived/SmallDomain", "isPrime", "(J)Z"⟩ : MethodName) prog_36_method_13_code 4 (some .boolean) R_ip31 #[(.long (31 : Int64))] h0 n0 (Q_ip31 Z h0 n0 ) := by
  refine Met.of (plainFor_of_name pn0) (fun m => ef6 m ) ?_
  intro p e s m args below meth c C
  refine G.ldc2 C (v := (2 : Int64)) (wd hw 23 rfl) d3_0 (n := 3) rfl ?_
  refine G.lstoreN C d3_3 (l' := #[.val (.long (31 : Int64)), .second, .val (.long (2 : Int64)), .second]) rfl (n := 4) rfl ?_
  refine G.lloadN C d3_4 rfl (n := 5) rfl ?_
  refine G.lloadN C d3_5 rfl (n := 6) rfl ?_
  refine G.lmul C d3_6 (n := 7) rfl ?_
  refine G.fold_long (z := (4 : Int64)) (by decide) ?_
  refine G.lloadN C d3_7 rfl (n := 8) rfl ?_
  refine G.lcmp_gt C (A := 4) (B := 31) (by decide) (by decide) d3_8 d3_9 (by decide) (by decide) (n := 12) (n' := 29) rfl (fun c9_1 => ?_) (fun c9_1 => ?_)
  · exact absurd c9_1 (by decide)
  refine G.lloadN C d3_12 rfl (n := 13) rfl ?_
  refine G.lloadN C d3_13 rfl (n := 14) rfl ?_
  refine G.lrem C d3_14 (by decide) (n := 15) rfl ?_
  refine G.fold_long (z := (1 : Int64)) (by decide) ?_
  refine G.lconst C (v := (0 : Int64)) d3_15 (by decide) (n := 16) rfl ?_
  refine G.lcmp_ne C (A := 1) (B := 0) (by decide) (by decide) d3_16 d3_17 (by decide) (by decide) (n := 20) (n' := 22) rfl (fun c17_2 c17_2i => ?_) (fun c17_2 c17_2i => ?_)
  rotate_left
  · exact absurd c17_2 (by decide)
  refine G.lloadN C d3_22 rfl (n := 23) rfl ?_
  refine G.lconst C (v := (1 : Int64)) d3_23 (by decide) (n := 24) rfl ?_
  refine G.ladd C d3_24 (n := 25) rfl ?_
  refine G.fold_long (z := (3 : Int64)) (by decide) ?_
  refine G.lstoreN C d3_25 (l' := #[.val (.long (31 : Int64)), .second, .val (.long (3 : Int64)), .second]) rfl (n := 26) rfl ?_
  refine G.goto C d3_26 (by decide) (n := 4) (by decide) ?_
  refine G.lloadN C d3_4 rfl (n := 5) rfl ?_
  refine G.lloadN C d3_5 rfl (n := 6) rfl ?_
  refine G.lmul C d3_6 (n := 7) rfl ?_
  refine G.fold_long (z := (9 : Int64)) (by decide) ?_
  refine G.lloadN C d3_7 rfl (n := 8) rfl ?_
  refine G.lcmp_gt C (A := 9) (B := 31) (by decide) (by decide) d3_8 d3_9 (by decide) (by decide) (n := 12) (n' := 29) rfl (fun c9_3 => ?_) (fun c9_3 => ?_)
  · exact absurd c9_3 (by decide)
  refine G.lloadN C d3_12 rfl (n := 13) rfl ?_
  refine G.lloadN C d3_13 rfl (n := 14) rfl ?_
  refine G.lrem C d3_14 (by decide) (n := 15) rfl ?_
  refine G.fold_long (z := (1 : Int64)) (by decide) ?_
  refine G.lconst C (v := (0 : Int64)) d3_15 (by decide) (n := 16) rfl ?_
  refine G.lcmp_ne C (A := 1) (B := 0) (by decide) (by decide) d3_16 d3_17 (by decide) (by decide) (n := 20) (n' := 22) rfl (fun c17_4 c17_4i => ?_) (fun c17_4 c17_4i => ?_)
  rotate_left
  · exact absurd c17_4 (by decide)
  refine G.lloadN C d3_22 rfl (n := 23) rfl ?_
  refine G.lconst C (v := (1 : Int64)) d3_23 (by decide) (n := 24) rfl ?_
  refine G.ladd C d3_24 (n := 25) rfl ?_
  refine G.fold_long (z := (4 : Int64)) (by decide) ?_
  refine G.lstoreN C d3_25 (l' := #[.val (.long (31 : Int64)), .second, .val (.long (4 : Int64)), .second]) rfl (n := 26) rfl ?_
  refine G.goto C d3_26 (by decide) (n := 4) (by decide) ?_
  refine G.lloadN C d3_4 rfl (n := 5) rfl ?_
  refine G.lloadN C d3_5 rfl (n := 6) rfl ?_
  refine G.lmul C d3_6 (n := 7) rfl ?_
  refine G.fold_long (z := (16 : Int64)) (by decide) ?_
  refine G.lloadN C d3_7 rfl (n := 8) rfl ?_
  refine G.lcmp_gt C (A := 16) (B := 31) (by decide) (by decide) d3_8 d3_9 (by decide) (by decide) (n := 12) (n' := 29) rfl (fun c9_5 => ?_) (fun c9_5 => ?_)
  · exact absurd c9_5 (by decide)
  refine G.lloadN C d3_12 rfl (n := 13) rfl ?_
  refine G.lloadN C d3_13 rfl (n := 14) rfl ?_
  refine G.lrem C d3_14 (by decide) (n := 15) rfl ?_
  refine G.fold_long (z := (3 : Int64)) (by decide) ?_
  refine G.lconst C (v := (0 : Int64)) d3_15 (by decide) (n := 16) rfl ?_
  refine G.lcmp_ne C (A := 3) (B := 0) (by decide) (by decide) d3_16 d3_17 (by decide) (by decide) (n := 20) (n' := 22) rfl (fun c17_6 c17_6i => ?_) (fun c17_6 c17_6i => ?_)
  rotate_left
  · exact absurd c17_6 (by decide)
  refine G.lloadN C d3_22 rfl (n := 23) rfl ?_
  refine G.lconst C (v := (1 : Int64)) d3_23 (by decide) (n := 24) rfl ?_
  refine G.ladd C d3_24 (n := 25) rfl ?_
  refine G.fold_long (z := (5 : Int64)) (by decide) ?_
  refine G.lstoreN C d3_25 (l' := #[.val (.long (31 : Int64)), .second, .val (.long (5 : Int64)), .second]) rfl (n := 26) rfl ?_
  refine G.goto C d3_26 (by decide) (n := 4) (by decide) ?_
  refine G.lloadN C d3_4 rfl (n := 5) rfl ?_
  refine G.lloadN C d3_5 rfl (n := 6) rfl ?_
  refine G.lmul C d3_6 (n := 7) rfl ?_
  refine G.fold_long (z := (25 : Int64)) (by decide) ?_
  refine G.lloadN C d3_7 rfl (n := 8) rfl ?_
  refine G.lcmp_gt C (A := 25) (B := 31) (by decide) (by decide) d3_8 d3_9 (by decide) (by decide) (n := 12) (n' := 29) rfl (fun c9_7 => ?_) (fun c9_7 => ?_)
  · exact absurd c9_7 (by decide)
  refine G.lloadN C d3_12 rfl (n := 13) rfl ?_
  refine G.lloadN C d3_13 rfl (n := 14) rfl ?_
  refine G.lrem C d3_14 (by decide) (n := 15) rfl ?_
  refine G.fold_long (z := (1 : Int64)) (by decide) ?_
  refine G.lconst C (v := (0 : Int64)) d3_15 (by decide) (n := 16) rfl ?_
  refine G.lcmp_ne C (A := 1) (B := 0) (by decide) (by decide) d3_16 d3_17 (by decide) (by decide) (n := 20) (n' := 22) rfl (fun c17_8 c17_8i => ?_) (fun c17_8 c17_8i => ?_)
  rotate_left
  · exact absurd c17_8 (by decide)
  refine G.lloadN C d3_22 rfl (n := 23) rfl ?_
  refine G.lconst C (v := (1 : Int64)) d3_23 (by decide) (n := 24) rfl ?_
  refine G.ladd C d3_24 (n := 25) rfl ?_
  refine G.fold_long (z := (6 : Int64)) (by decide) ?_
  refine G.lstoreN C d3_25 (l' := #[.val (.long (31 : Int64)), .second, .val (.long (6 : Int64)), .second]) rfl (n := 26) rfl ?_
  refine G.goto C d3_26 (by decide) (n := 4) (by decide) ?_
  refine G.lloadN C d3_4 rfl (n := 5) rfl ?_
  refine G.lloadN C d3_5 rfl (n := 6) rfl ?_
  refine G.lmul C d3_6 (n := 7) rfl ?_
  refine G.fold_long (z := (36 : Int64)) (by decide) ?_
  refine G.lloadN C d3_7 rfl (n := 8) rfl ?_
  refine G.lcmp_gt C (A := 36) (B := 31) (by decide) (by decide) d3_8 d3_9 (by decide) (by decide) (n := 12) (n' := 29) rfl (fun c9_9 => ?_) (fun c9_9 => ?_)
  rotate_left
  · exact absurd c9_9 (by decide)
  refine G.iconst C (v := (1 : Int32)) d3_29 (by decide) (n := 30) rfl ?_
  refine G.ireturn C d3_30 (rfl) (by simp) (by decide) (by decide) ?_
  exact ⟨rfl, rfl⟩
theorem ef7 (m : MethodId)  : entryFrame m #[(.long (61 : Int64))] 4 = mkF m 0 #[.val (.long (61 : Int64)), .second, .unset, .unset] [] := by first | (simp [entryFrame, mkF, argsToLocals, Value.category]; done) | rfl
abbrev Q_ip61 (Z : State) (h0 : Heap) (n0 : Nat)  : Option Value → Heap → Prop := fun v h' => v = some (.int 1) ∧ h0 = h'
abbrev R_ip61 : Room := { frames := 0, cells := 0, slots := 0, locals := 0 }
set_option maxRecDepth 65536 in
set_option maxHeartbeats 40000000 in
theorem m_ip61 (l : Launch) (Z : State) (a0 : Array Value) (hw : ∀ d ∈ tables_1, d.before a0 Z = true)  (h0 : Heap) (n0 : Nat) (Z0 : n0 ≤ h0.size)  : Met l Z (⟨"com/example/veilrelay/veilrelay/core/derived/SmallDomain", "isPrime", "(J)Z"⟩ : MethodName) prog_36_method_13_code 4 (some .boolean) R_ip61 #[(.long (61 : Int64))] h0 n0 (Q_ip61 Z h0 n0 ) := by
  refine Met.of (plainFor_of_name pn0) (fun m => ef7 m ) ?_
  intro p e s m args below meth c C
  refine G.ldc2 C (v := (2 : Int64)) (wd hw 23 rfl) d3_0 (n := 3) rfl ?_
  refine G.lstoreN C d3_3 (l' := #[.val (.long (61 : Int64)), .second, .val (.long (2 : Int64)), .second]) rfl (n := 4) rfl ?_
  refine G.lloadN C d3_4 rfl (n := 5) rfl ?_
  refine G.lloadN C d3_5 rfl (n := 6) rfl ?_
  refine G.lmul C d3_6 (n := 7) rfl ?_
  refine G.fold_long (z := (4 : Int64)) (by decide) ?_
  refine G.lloadN C d3_7 rfl (n := 8) rfl ?_
  refine G.lcmp_gt C (A := 4) (B := 61) (by decide) (by decide) d3_8 d3_9 (by decide) (by decide) (n := 12) (n' := 29) rfl (fun c9_1 => ?_) (fun c9_1 => ?_)
  · exact absurd c9_1 (by decide)
  refine G.lloadN C d3_12 rfl (n := 13) rfl ?_
  refine G.lloadN C d3_13 rfl (n := 14) rfl ?_
  refine G.lrem C d3_14 (by decide) (n := 15) rfl ?_
  refine G.fold_long (z := (1 : Int64)) (by decide) ?_
  refine G.lconst C (v := (0 : Int64)) d3_15 (by decide) (n := 16) rfl ?_
  refine G.lcmp_ne C (A := 1) (B := 0) (by decide) (by decide) d3_16 d3_17 (by decide) (by decide) (n := 20) (n' := 22) rfl (fun c17_2 c17_2i => ?_) (fun c17_2 c17_2i => ?_)
  rotate_left
  · exact absurd c17_2 (by decide)
  refine G.lloadN C d3_22 rfl (n := 23) rfl ?_
  refine G.lconst C (v := (1 : Int64)) d3_23 (by decide) (n := 24) rfl ?_
  refine G.ladd C d3_24 (n := 25) rfl ?_
  refine G.fold_long (z := (3 : Int64)) (by decide) ?_
  refine G.lstoreN C d3_25 (l' := #[.val (.long (61 : Int64)), .second, .val (.long (3 : Int64)), .second]) rfl (n := 26) rfl ?_
  refine G.goto C d3_26 (by decide) (n := 4) (by decide) ?_
  refine G.lloadN C d3_4 rfl (n := 5) rfl ?_
  refine G.lloadN C d3_5 rfl (n := 6) rfl ?_
  refine G.lmul C d3_6 (n := 7) rfl ?_
  refine G.fold_long (z := (9 : Int64)) (by decide) ?_
  refine G.lloadN C d3_7 rfl (n := 8) rfl ?_
  refine G.lcmp_gt C (A := 9) (B := 61) (by decide) (by decide) d3_8 d3_9 (by decide) (by decide) (n := 12) (n' := 29) rfl (fun c9_3 => ?_) (fun c9_3 => ?_)
  · exact absurd c9_3 (by decide)
  refine G.lloadN C d3_12 rfl (n := 13) rfl ?_
  refine G.lloadN C d3_13 rfl (n := 14) rfl ?_
  refine G.lrem C d3_14 (by decide) (n := 15) rfl ?_
  refine G.fold_long (z := (1 : Int64)) (by decide) ?_
  refine G.lconst C (v := (0 : Int64)) d3_15 (by decide) (n := 16) rfl ?_
  refine G.lcmp_ne C (A := 1) (B := 0) (by decide) (by decide) d3_16 d3_17 (by decide) (by decide) (n := 20) (n' := 22) rfl (fun c17_4 c17_4i => ?_) (fun c17_4 c17_4i => ?_)
  rotate_left
  · exact absurd c17_4 (by decide)
  refine G.lloadN C d3_22 rfl (n := 23) rfl ?_
  refine G.lconst C (v := (1 : Int64)) d3_23 (by decide) (n := 24) rfl ?_
  refine G.ladd C d3_24 (n := 25) rfl ?_
  refine G.fold_long (z := (4 : Int64)) (by decide) ?_
  refine G.lstoreN C d3_25 (l' := #[.val (.long (61 : Int64)), .second, .val (.long (4 : Int64)), .second]) rfl (n := 26) rfl ?_
  refine G.goto C d3_26 (by decide) (n := 4) (by decide) ?_
  refine G.lloadN C d3_4 rfl (n := 5) rfl ?_
  refine G.lloadN C d3_5 rfl (n := 6) rfl ?_
  refine G.lmul C d3_6 (n := 7) rfl ?_
  refine G.fold_long (z := (16 : Int64)) (by decide) ?_
  refine G.lloadN C d3_7 rfl (n := 8) rfl ?_
  refine G.lcmp_gt C (A := 16) (B := 61) (by decide) (by decide) d3_8 d3_9 (by decide) (by decide) (n := 12) (n' := 29) rfl (fun c9_5 => ?_) (fun c9_5 => ?_)
  · exact absurd c9_5 (by decide)
  refine G.lloadN C d3_12 rfl (n := 13) rfl ?_
  refine G.lloadN C d3_13 rfl (n := 14) rfl ?_
  refine G.lrem C d3_14 (by decide) (n := 15) rfl ?_
  refine G.fold_long (z := (1 : Int64)) (by decide) ?_
  refine G.lconst C (v := (0 : Int64)) d3_15 (by decide) (n := 16) rfl ?_
  refine G.lcmp_ne C (A := 1) (B := 0) (by decide) (by decide) d3_16 d3_17 (by decide) (by decide) (n := 20) (n' := 22) rfl (fun c17_6 c17_6i => ?_) (fun c17_6 c17_6i => ?_)
  rotate_left
  · exact absurd c17_6 (by decide)
  refine G.lloadN C d3_22 rfl (n := 23) rfl ?_
  refine G.lconst C (v := (1 : Int64)) d3_23 (by decide) (n := 24) rfl ?_
  refine G.ladd C d3_24 (n := 25) rfl ?_
  refine G.fold_long (z := (5 : Int64)) (by decide) ?_
  refine G.lstoreN C d3_25 (l' := #[.val (.long (61 : Int64)), .second, .val (.long (5 : Int64)), .second]) rfl (n := 26) rfl ?_
  refine G.goto C d3_26 (by decide) (n := 4) (by decide) ?_
  refine G.lloadN C d3_4 rfl (n := 5) rfl ?_
  refine G.lloadN C d3_5 rfl (n := 6) rfl ?_
  refine G.lmul C d3_6 (n := 7) rfl ?_
  refine G.fold_long (z := (25 : Int64)) (by decide) ?_
  refine G.lloadN C d3_7 rfl (n := 8) rfl ?_
  refine G.lcmp_gt C (A := 25) (B := 61) (by decide) (by decide) d3_8 d3_9 (by decide) (by decide) (n := 12) (n' := 29) rfl (fun c9_7 => ?_) (fun c9_7 => ?_)
  · exact absurd c9_7 (by decide)
  refine G.lloadN C d3_12 rfl (n := 13) rfl ?_
  refine G.lloadN C d3_13 rfl (n := 14) rfl ?_
  refine G.lrem C d3_14 (by decide) (n := 15) rfl ?_
  refine G.fold_long (z := (1 : Int64)) (by decide) ?_
  refine G.lconst C (v := (0 : Int64)) d3_15 (by decide) (n := 16) rfl ?_
  refine G.lcmp_ne C (A := 1) (B := 0) (by decide) (by decide) d3_16 d3_17 (by decide) (by decide) (n := 20) (n' := 22) rfl (fun c17_8 c17_8i => ?_) (fun c17_8 c17_8i => ?_)
  rotate_left
  · exact absurd c17_8 (by decide)
  refine G.lloadN C d3_22 rfl (n := 23) rfl ?_
  refine G.lconst C (v := (1 : Int64)) d3_23 (by decide) (n := 24) rfl ?_
  refine G.ladd C d3_24 (n := 25) rfl ?_
  refine G.fold_long (z := (6 : Int64)) (by decide) ?_
  refine G.lstoreN C d3_25 (l' := #[.val (.long (61 : Int64)), .second, .val (.long (6 : Int64)), .second]) rfl (n := 26) rfl ?_
  refine G.goto C d3_26 (by decide) (n := 4) (by decide) ?_
  refine G.lloadN C d3_4 rfl (n := 5) rfl ?_
  refine G.lloadN C d3_5 rfl (n := 6) rfl ?_
  refine G.lmul C d3_6 (n := 7) rfl ?_
  refine G.fold_long (z := (36 : Int64)) (by decide) ?_
  refine G.lloadN C d3_7 rfl (n := 8) rfl ?_
  refine G.lcmp_gt C (A := 36) (B := 61) (by decide) (by decide) d3_8 d3_9 (by decide) (by decide) (n := 12) (n' := 29) rfl (fun c9_9 => ?_) (fun c9_9 => ?_)
  · exact absurd c9_9 (by decide)
  refine G.lloadN C d3_12 rfl (n := 13) rfl ?_
  refine G.lloadN C d3_13 rfl (n := 14) rfl ?_
  refine G.lrem C d3_14 (by decide) (n := 15) rfl ?_
  refine G.fold_long (z := (1 : Int64)) (by decide) ?_
  refine G.lconst C (v := (0 : Int64)) d3_15 (by decide) (n := 16) rfl ?_
  refine G.lcmp_ne C (A := 1) (B := 0) (by decide) (by decide) d3_16 d3_17 (by decide) (by decide) (n := 20) (n' := 22) rfl (fun c17_10 c17_10i => ?_) (fun c17_10 c17_10i => ?_)
  rotate_left
  · exact absurd c17_10 (by decide)
  refine G.lloadN C d3_22 rfl (n := 23) rfl ?_
  refine G.lconst C (v := (1 : Int64)) d3_23 (by decide) (n := 24) rfl ?_
  refine G.ladd C d3_24 (n := 25) rfl ?_
  refine G.fold_long (z := (7 : Int64)) (by decide) ?_
  refine G.lstoreN C d3_25 (l' := #[.val (.long (61 : Int64)), .second, .val (.long (7 : Int64)), .second]) rfl (n := 26) rfl ?_
  refine G.goto C d3_26 (by decide) (n := 4) (by decide) ?_
  refine G.lloadN C d3_4 rfl (n := 5) rfl ?_
  refine G.lloadN C d3_5 rfl (n := 6) rfl ?_
  refine G.lmul C d3_6 (n := 7) rfl ?_
  refine G.fold_long (z := (49 : Int64)) (by decide) ?_
  refine G.lloadN C d3_7 rfl (n := 8) rfl ?_
  refine G.lcmp_gt C (A := 49) (B := 61) (by decide) (by decide) d3_8 d3_9 (by decide) (by decide) (n := 12) (n' := 29) rfl (fun c9_11 => ?_) (fun c9_11 => ?_)
  · exact absurd c9_11 (by decide)
  refine G.lloadN C d3_12 rfl (n := 13) rfl ?_
  refine G.lloadN C d3_13 rfl (n := 14) rfl ?_
  refine G.lrem C d3_14 (by decide) (n := 15) rfl ?_
  refine G.fold_long (z := (5 : Int64)) (by decide) ?_
  refine G.lconst C (v := (0 : Int64)) d3_15 (by decide) (n := 16) rfl ?_
  refine G.lcmp_ne C (A := 5) (B := 0) (by decide) (by decide) d3_16 d3_17 (by decide) (by decide) (n := 20) (n' := 22) rfl (fun c17_12 c17_12i => ?_) (fun c17_12 c17_12i => ?_)
  rotate_left
  · exact absurd c17_12 (by decide)
  refine G.lloadN C d3_22 rfl (n := 23) rfl ?_
  refine G.lconst C (v := (1 : Int64)) d3_23 (by decide) (n := 24) rfl ?_
  refine G.ladd C d3_24 (n := 25) rfl ?_
  refine G.fold_long (z := (8 : Int64)) (by decide) ?_
  refine G.lstoreN C d3_25 (l' := #[.val (.long (61 : Int64)), .second, .val (.long (8 : Int64)), .second]) rfl (n := 26) rfl ?_
  refine G.goto C d3_26 (by decide) (n := 4) (by decide) ?_
  refine G.lloadN C d3_4 rfl (n := 5) rfl ?_
  refine G.lloadN C d3_5 rfl (n := 6) rfl ?_
  refine G.lmul C d3_6 (n := 7) rfl ?_
  refine G.fold_long (z := (64 : Int64)) (by decide) ?_
  refine G.lloadN C d3_7 rfl (n := 8) rfl ?_
  refine G.lcmp_gt C (A := 64) (B := 61) (by decide) (by decide) d3_8 d3_9 (by decide) (by decide) (n := 12) (n' := 29) rfl (fun c9_13 => ?_) (fun c9_13 => ?_)
  rotate_left
  · exact absurd c9_13 (by decide)
  refine G.iconst C (v := (1 : Int32)) d3_29 (by decide) (n := 30) rfl ?_
  refine G.ireturn C d3_30 (rfl) (by simp) (by decide) (by decide) ?_
  exact ⟨rfl, rfl⟩
theorem ef8 (m : MethodId)  : entryFrame m #[(.long (62 : Int64))] 4 = mkF m 0 #[.val (.long (62 : Int64)), .second, .unset, .unset] [] := by first | (simp [entryFrame, mkF, argsToLocals, Value.category]; done) | rfl
abbrev Q_ip62 (Z : State) (h0 : Heap) (n0 : Nat)  : Option Value → Heap → Prop := fun v h' => v = some (.int 0) ∧ h0 = h'
abbrev R_ip62 : Room := { frames := 0, cells := 0, slots := 0, locals := 0 }
set_option maxRecDepth 65536 in
set_option maxHeartbeats 40000000 in
theorem m_ip62 (l : Launch) (Z : State) (a0 : Array Value) (hw : ∀ d ∈ tables_1, d.before a0 Z = true)  (h0 : Heap) (n0 : Nat) (Z0 : n0 ≤ h0.size)  : Met l Z (⟨"com/example/veilrelay/veilrelay/core/derived/SmallDomain", "isPrime", "(J)Z"⟩ : MethodName) prog_36_method_13_code 4 (some .boolean) R_ip62 #[(.long (62 : Int64))] h0 n0 (Q_ip62 Z h0 n0 ) := by
  refine Met.of (plainFor_of_name pn0) (fun m => ef8 m ) ?_
  intro p e s m args below meth c C
  refine G.ldc2 C (v := (2 : Int64)) (wd hw 23 rfl) d3_0 (n := 3) rfl ?_
  refine G.lstoreN C d3_3 (l' := #[.val (.long (62 : Int64)), .second, .val (.long (2 : Int64)), .second]) rfl (n := 4) rfl ?_
  refine G.lloadN C d3_4 rfl (n := 5) rfl ?_
  refine G.lloadN C d3_5 rfl (n := 6) rfl ?_
  refine G.lmul C d3_6 (n := 7) rfl ?_
  refine G.fold_long (z := (4 : Int64)) (by decide) ?_
  refine G.lloadN C d3_7 rfl (n := 8) rfl ?_
  refine G.lcmp_gt C (A := 4) (B := 62) (by decide) (by decide) d3_8 d3_9 (by decide) (by decide) (n := 12) (n' := 29) rfl (fun c9_1 => ?_) (fun c9_1 => ?_)
  · exact absurd c9_1 (by decide)
  refine G.lloadN C d3_12 rfl (n := 13) rfl ?_
  refine G.lloadN C d3_13 rfl (n := 14) rfl ?_
  refine G.lrem C d3_14 (by decide) (n := 15) rfl ?_
  refine G.fold_long (z := (0 : Int64)) (by decide) ?_
  refine G.lconst C (v := (0 : Int64)) d3_15 (by decide) (n := 16) rfl ?_
  refine G.lcmp_ne C (A := 0) (B := 0) (by decide) (by decide) d3_16 d3_17 (by decide) (by decide) (n := 20) (n' := 22) rfl (fun c17_2 c17_2i => ?_) (fun c17_2 c17_2i => ?_)
  · exact absurd c17_2 (by decide)
  refine G.iconst C (v := (0 : Int32)) d3_20 (by decide) (n := 21) rfl ?_
  refine G.ireturn C d3_21 (rfl) (by simp) (by decide) (by decide) ?_
  exact ⟨rfl, rfl⟩
theorem ef9 (m : MethodId)  : entryFrame m #[(.long (63 : Int64))] 4 = mkF m 0 #[.val (.long (63 : Int64)), .second, .unset, .unset] [] := by first | (simp [entryFrame, mkF, argsToLocals, Value.category]; done) | rfl
abbrev Q_ip63 (Z : State) (h0 : Heap) (n0 : Nat)  : Option Value → Heap → Prop := fun v h' => v = some (.int 0) ∧ h0 = h'
abbrev R_ip63 : Room := { frames := 0, cells := 0, slots := 0, locals := 0 }
set_option maxRecDepth 65536 in
set_option maxHeartbeats 40000000 in
theorem m_ip63 (l : Launch) (Z : State) (a0 : Array Value) (hw : ∀ d ∈ tables_1, d.before a0 Z = true)  (h0 : Heap) (n0 : Nat) (Z0 : n0 ≤ h0.size)  : Met l Z (⟨"com/example/veilrelay/veilrelay/core/derived/SmallDomain", "isPrime", "(J)Z"⟩ : MethodName) prog_36_method_13_code 4 (some .boolean) R_ip63 #[(.long (63 : Int64))] h0 n0 (Q_ip63 Z h0 n0 ) := by
  refine Met.of (plainFor_of_name pn0) (fun m => ef9 m ) ?_
  intro p e s m args below meth c C
  refine G.ldc2 C (v := (2 : Int64)) (wd hw 23 rfl) d3_0 (n := 3) rfl ?_
  refine G.lstoreN C d3_3 (l' := #[.val (.long (63 : Int64)), .second, .val (.long (2 : Int64)), .second]) rfl (n := 4) rfl ?_
  refine G.lloadN C d3_4 rfl (n := 5) rfl ?_
  refine G.lloadN C d3_5 rfl (n := 6) rfl ?_
  refine G.lmul C d3_6 (n := 7) rfl ?_
  refine G.fold_long (z := (4 : Int64)) (by decide) ?_
  refine G.lloadN C d3_7 rfl (n := 8) rfl ?_
  refine G.lcmp_gt C (A := 4) (B := 63) (by decide) (by decide) d3_8 d3_9 (by decide) (by decide) (n := 12) (n' := 29) rfl (fun c9_1 => ?_) (fun c9_1 => ?_)
  · exact absurd c9_1 (by decide)
  refine G.lloadN C d3_12 rfl (n := 13) rfl ?_
  refine G.lloadN C d3_13 rfl (n := 14) rfl ?_
  refine G.lrem C d3_14 (by decide) (n := 15) rfl ?_
  refine G.fold_long (z := (1 : Int64)) (by decide) ?_
  refine G.lconst C (v := (0 : Int64)) d3_15 (by decide) (n := 16) rfl ?_
  refine G.lcmp_ne C (A := 1) (B := 0) (by decide) (by decide) d3_16 d3_17 (by decide) (by decide) (n := 20) (n' := 22) rfl (fun c17_2 c17_2i => ?_) (fun c17_2 c17_2i => ?_)
  rotate_left
  · exact absurd c17_2 (by decide)
  refine G.lloadN C d3_22 rfl (n := 23) rfl ?_
  refine G.lconst C (v := (1 : Int64)) d3_23 (by decide) (n := 24) rfl ?_
  refine G.ladd C d3_24 (n := 25) rfl ?_
  refine G.fold_long (z := (3 : Int64)) (by decide) ?_
  refine G.lstoreN C d3_25 (l' := #[.val (.long (63 : Int64)), .second, .val (.long (3 : Int64)), .second]) rfl (n := 26) rfl ?_
  refine G.goto C d3_26 (by decide) (n := 4) (by decide) ?_
  refine G.lloadN C d3_4 rfl (n := 5) rfl ?_
  refine G.lloadN C d3_5 rfl (n := 6) rfl ?_
  refine G.lmul C d3_6 (n := 7) rfl ?_
  refine G.fold_long (z := (9 : Int64)) (by decide) ?_
  refine G.lloadN C d3_7 rfl (n := 8) rfl ?_
  refine G.lcmp_gt C (A := 9) (B := 63) (by decide) (by decide) d3_8 d3_9 (by decide) (by decide) (n := 12) (n' := 29) rfl (fun c9_3 => ?_) (fun c9_3 => ?_)
  · exact absurd c9_3 (by decide)
  refine G.lloadN C d3_12 rfl (n := 13) rfl ?_
  refine G.lloadN C d3_13 rfl (n := 14) rfl ?_
  refine G.lrem C d3_14 (by decide) (n := 15) rfl ?_
  refine G.fold_long (z := (0 : Int64)) (by decide) ?_
  refine G.lconst C (v := (0 : Int64)) d3_15 (by decide) (n := 16) rfl ?_
  refine G.lcmp_ne C (A := 0) (B := 0) (by decide) (by decide) d3_16 d3_17 (by decide) (by decide) (n := 20) (n' := 22) rfl (fun c17_4 c17_4i => ?_) (fun c17_4 c17_4i => ?_)
  · exact absurd c17_4 (by decide)
  refine G.iconst C (v := (0 : Int32)) d3_20 (by decide) (n := 21) rfl ?_
  refine G.ireturn C d3_21 (rfl) (by simp) (by decide) (by decide) ?_
  exact ⟨rfl, rfl⟩
theorem ef10 (m : MethodId)  : entryFrame m #[(.long (127 : Int64))] 4 = mkF m 0 #[.val (.long (127 : Int64)), .second, .unset, .unset] [] := by first | (simp [entryFrame, mkF, argsToLocals, Value.category]; done) | rfl
abbrev Q_ip127 (Z : State) (h0 : Heap) (n0 : Nat)  : Option Value → Heap → Prop := fun v h' => v = some (.int 1) ∧ h0 = h'
abbrev R_ip127 : Room := { frames := 0, cells := 0, slots := 0, locals := 0 }
set_option maxRecDepth 65536 in
set_option maxHeartbeats 40000000 in
theorem m_ip127 (l : Launch) (Z : State) (a0 : Array Value) (hw : ∀ d ∈ tables_1, d.before a0 Z = true)  (h0 : Heap) (n0 : Nat) (Z0 : n0 ≤ h0.size)  : Met l Z (⟨"com/example/veilrelay/veilrelay/core/derived/SmallDomain", "isPrime", "(J)Z"⟩ : MethodName) prog_36_method_13_code 4 (some .boolean) R_ip127 #[(.long (127 : Int64))] h0 n0 (Q_ip127 Z h0 n0 ) := by
  refine Met.of (plainFor_of_name pn0) (fun m => ef10 m ) ?_
  intro p e s m args below meth c C
  refine G.ldc2 C (v := (2 : Int64)) (wd hw 23 rfl) d3_0 (n := 3) rfl ?_
  refine G.lstoreN C d3_3 (l' := #[.val (.long (127 : Int64)), .second, .val (.long (2 : Int64)), .second]) rfl (n := 4) rfl ?_
  refine G.lloadN C d3_4 rfl (n := 5) rfl ?_
  refine G.lloadN C d3_5 rfl (n := 6) rfl ?_
  refine G.lmul C d3_6 (n := 7) rfl ?_
  refine G.fold_long (z := (4 : Int64)) (by decide) ?_
  refine G.lloadN C d3_7 rfl (n := 8) rfl ?_
  refine G.lcmp_gt C (A := 4) (B := 127) (by decide) (by decide) d3_8 d3_9 (by decide) (by decide) (n := 12) (n' := 29) rfl (fun c9_1 => ?_) (fun c9_1 => ?_)
  · exact absurd c9_1 (by decide)
  refine G.lloadN C d3_12 rfl (n := 13) rfl ?_
  refine G.lloadN C d3_13 rfl (n := 14) rfl ?_
  refine G.lrem C d3_14 (by decide) (n := 15) rfl ?_
  refine G.fold_long (z := (1 : Int64)) (by decide) ?_
  refine G.lconst C (v := (0 : Int64)) d3_15 (by decide) (n := 16) rfl ?_
  refine G.lcmp_ne C (A := 1) (B := 0) (by decide) (by decide) d3_16 d3_17 (by decide) (by decide) (n := 20) (n' := 22) rfl (fun c17_2 c17_2i => ?_) (fun c17_2 c17_2i => ?_)
  rotate_left
  · exact absurd c17_2 (by decide)
  refine G.lloadN C d3_22 rfl (n := 23) rfl ?_
  refine G.lconst C (v := (1 : Int64)) d3_23 (by decide) (n := 24) rfl ?_
  refine G.ladd C d3_24 (n := 25) rfl ?_
  refine G.fold_long (z := (3 : Int64)) (by decide) ?_
  refine G.lstoreN C d3_25 (l' := #[.val (.long (127 : Int64)), .second, .val (.long (3 : Int64)), .second]) rfl (n := 26) rfl ?_
  refine G.goto C d3_26 (by decide) (n := 4) (by decide) ?_
  refine G.lloadN C d3_4 rfl (n := 5) rfl ?_
  refine G.lloadN C d3_5 rfl (n := 6) rfl ?_
  refine G.lmul C d3_6 (n := 7) rfl ?_
  refine G.fold_long (z := (9 : Int64)) (by decide) ?_
  refine G.lloadN C d3_7 rfl (n := 8) rfl ?_
  refine G.lcmp_gt C (A := 9) (B := 127) (by decide) (by decide) d3_8 d3_9 (by decide) (by decide) (n := 12) (n' := 29) rfl (fun c9_3 => ?_) (fun c9_3 => ?_)
  · exact absurd c9_3 (by decide)
  refine G.lloadN C d3_12 rfl (n := 13) rfl ?_
  refine G.lloadN C d3_13 rfl (n := 14) rfl ?_
  refine G.lrem C d3_14 (by decide) (n := 15) rfl ?_
  refine G.fold_long (z := (1 : Int64)) (by decide) ?_
  refine G.lconst C (v := (0 : Int64)) d3_15 (by decide) (n := 16) rfl ?_
  refine G.lcmp_ne C (A := 1) (B := 0) (by decide) (by decide) d3_16 d3_17 (by decide) (by decide) (n := 20) (n' := 22) rfl (fun c17_4 c17_4i => ?_) (fun c17_4 c17_4i => ?_)
  rotate_left
  · exact absurd c17_4 (by decide)
  refine G.lloadN C d3_22 rfl (n := 23) rfl ?_
  refine G.lconst C (v := (1 : Int64)) d3_23 (by decide) (n := 24) rfl ?_
  refine G.ladd C d3_24 (n := 25) rfl ?_
  refine G.fold_long (z := (4 : Int64)) (by decide) ?_
  refine G.lstoreN C d3_25 (l' := #[.val (.long (127 : Int64)), .second, .val (.long (4 : Int64)), .second]) rfl (n := 26) rfl ?_
  refine G.goto C d3_26 (by decide) (n := 4) (by decide) ?_
  refine G.lloadN C d3_4 rfl (n := 5) rfl ?_
  refine G.lloadN C d3_5 rfl (n := 6) rfl ?_
  refine G.lmul C d3_6 (n := 7) rfl ?_
  refine G.fold_long (z := (16 : Int64)) (by decide) ?_
  refine G.lloadN C d3_7 rfl (n := 8) rfl ?_
  refine G.lcmp_gt C (A := 16) (B := 127) (by decide) (by decide) d3_8 d3_9 (by decide) (by decide) (n := 12) (n' := 29) rfl (fun c9_5 => ?_) (fun c9_5 => ?_)
  · exact absurd c9_5 (by decide)
  refine G.lloadN C d3_12 rfl (n := 13) rfl ?_
  refine G.lloadN C d3_13 rfl (n := 14) rfl ?_
  refine G.lrem C d3_14 (by decide) (n := 15) rfl ?_
  refine G.fold_long (z := (3 : Int64)) (by decide) ?_
  refine G.lconst C (v := (0 : Int64)) d3_15 (by decide) (n := 16) rfl ?_
  refine G.lcmp_ne C (A := 3) (B := 0) (by decide) (by decide) d3_16 d3_17 (by decide) (by decide) (n := 20) (n' := 22) rfl (fun c17_6 c17_6i => ?_) (fun c17_6 c17_6i => ?_)
  rotate_left
  · exact absurd c17_6 (by decide)
  refine G.lloadN C d3_22 rfl (n := 23) rfl ?_
  refine G.lconst C (v := (1 : Int64)) d3_23 (by decide) (n := 24) rfl ?_
  refine G.ladd C d3_24 (n := 25) rfl ?_
  refine G.fold_long (z := (5 : Int64)) (by decide) ?_
  refine G.lstoreN C d3_25 (l' := #[.val (.long (127 : Int64)), .second, .val (.long (5 : Int64)), .second]) rfl (n := 26) rfl ?_
  refine G.goto C d3_26 (by decide) (n := 4) (by decide) ?_
  refine G.lloadN C d3_4 rfl (n := 5) rfl ?_
  refine G.lloadN C d3_5 rfl (n := 6) rfl ?_
  refine G.lmul C d3_6 (n := 7) rfl ?_
  refine G.fold_long (z := (25 : Int64)) (by decide) ?_
  refine G.lloadN C d3_7 rfl (n := 8) rfl ?_
  refine G.lcmp_gt C (A := 25) (B := 127) (by decide) (by decide) d3_8 d3_9 (by decide) (by decide) (n := 12) (n' := 29) rfl (fun c9_7 => ?_) (fun c9_7 => ?_)
  · exact absurd c9_7 (by decide)
  refine G.lloadN C d3_12 rfl (n := 13) rfl ?_
  refine G.lloadN C d3_13 rfl (n := 14) rfl ?_
  refine G.lrem C d3_14 (by decide) (n := 15) rfl ?_
  refine G.fold_long (z := (2 : Int64)) (by decide) ?_
  refine G.lconst C (v := (0 : Int64)) d3_15 (by decide) (n := 16) rfl ?_
  refine G.lcmp_ne C (A := 2) (B := 0) (by decide) (by decide) d3_16 d3_17 (by decide) (by decide) (n := 20) (n' := 22) rfl (fun c17_8 c17_8i => ?_) (fun c17_8 c17_8i => ?_)
  rotate_left
  · exact absurd c17_8 (by decide)
  refine G.lloadN C d3_22 rfl (n := 23) rfl ?_
  refine G.lconst C (v := (1 : Int64)) d3_23 (by decide) (n := 24) rfl ?_
  refine G.ladd C d3_24 (n := 25) rfl ?_
  refine G.fold_long (z := (6 : Int64)) (by decide) ?_
  refine G.lstoreN C d3_25 (l' := #[.val (.long (127 : Int64)), .second, .val (.long (6 : Int64)), .second]) rfl (n := 26) rfl ?_
  refine G.goto C d3_26 (by decide) (n := 4) (by decide) ?_
  refine G.lloadN C d3_4 rfl (n := 5) rfl ?_
  refine G.lloadN C d3_5 rfl (n := 6) rfl ?_
  refine G.lmul C d3_6 (n := 7) rfl ?_
  refine G.fold_long (z := (36 : Int64)) (by decide) ?_
  refine G.lloadN C d3_7 rfl (n := 8) rfl ?_
  refine G.lcmp_gt C (A := 36) (B := 127) (by decide) (by decide) d3_8 d3_9 (by decide) (by decide) (n := 12) (n' := 29) rfl (fun c9_9 => ?_) (fun c9_9 => ?_)
  · exact absurd c9_9 (by decide)
  refine G.lloadN C d3_12 rfl (n := 13) rfl ?_
  refine G.lloadN C d3_13 rfl (n := 14) rfl ?_
  refine G.lrem C d3_14 (by decide) (n := 15) rfl ?_
  refine G.fold_long (z := (1 : Int64)) (by decide) ?_
  refine G.lconst C (v := (0 : Int64)) d3_15 (by decide) (n := 16) rfl ?_
  refine G.lcmp_ne C (A := 1) (B := 0) (by decide) (by decide) d3_16 d3_17 (by decide) (by decide) (n := 20) (n' := 22) rfl (fun c17_10 c17_10i => ?_) (fun c17_10 c17_10i => ?_)
  rotate_left
  · exact absurd c17_10 (by decide)
  refine G.lloadN C d3_22 rfl (n := 23) rfl ?_
  refine G.lconst C (v := (1 : Int64)) d3_23 (by decide) (n := 24) rfl ?_
  refine G.ladd C d3_24 (n := 25) rfl ?_
  refine G.fold_long (z := (7 : Int64)) (by decide) ?_
  refine G.lstoreN C d3_25 (l' := #[.val (.long (127 : Int64)), .second, .val (.long (7 : Int64)), .second]) rfl (n := 26) rfl ?_
  refine G.goto C d3_26 (by decide) (n := 4) (by decide) ?_
  refine G.lloadN C d3_4 rfl (n := 5) rfl ?_
  refine G.lloadN C d3_5 rfl (n := 6) rfl ?_
  refine G.lmul C d3_6 (n := 7) rfl ?_
  refine G.fold_long (z := (49 : Int64)) (by decide) ?_
  refine G.lloadN C d3_7 rfl (n := 8) rfl ?_
  refine G.lcmp_gt C (A := 49) (B := 127) (by decide) (by decide) d3_8 d3_9 (by decide) (by decide) (n := 12) (n' := 29) rfl (fun c9_11 => ?_) (fun c9_11 => ?_)
  · exact absurd c9_11 (by decide)
  refine G.lloadN C d3_12 rfl (n := 13) rfl ?_
  refine G.lloadN C d3_13 rfl (n := 14) rfl ?_
  refine G.lrem C d3_14 (by decide) (n := 15) rfl ?_
  refine G.fold_long (z := (1 : Int64)) (by decide) ?_
  refine G.lconst C (v := (0 : Int64)) d3_15 (by decide) (n := 16) rfl ?_
  refine G.lcmp_ne C (A := 1) (B := 0) (by decide) (by decide) d3_16 d3_17 (by decide) (by decide) (n := 20) (n' := 22) rfl (fun c17_12 c17_12i => ?_) (fun c17_12 c17_12i => ?_)
  rotate_left
  · exact absurd c17_12 (by decide)
  refine G.lloadN C d3_22 rfl (n := 23) rfl ?_
  refine G.lconst C (v := (1 : Int64)) d3_23 (by decide) (n := 24) rfl ?_
  refine G.ladd C d3_24 (n := 25) rfl ?_
  refine G.fold_long (z := (8 : Int64)) (by decide) ?_
  refine G.lstoreN C d3_25 (l' := #[.val (.long (127 : Int64)), .second, .val (.long (8 : Int64)), .second]) rfl (n := 26) rfl ?_
  refine G.goto C d3_26 (by decide) (n := 4) (by decide) ?_
  refine G.lloadN C d3_4 rfl (n := 5) rfl ?_
  refine G.lloadN C d3_5 rfl (n := 6) rfl ?_
  refine G.lmul C d3_6 (n := 7) rfl ?_
  refine G.fold_long (z := (64 : Int64)) (by decide) ?_
  refine G.lloadN C d3_7 rfl (n := 8) rfl ?_
  refine G.lcmp_gt C (A := 64) (B := 127) (by decide) (by decide) d3_8 d3_9 (by decide) (by decide) (n := 12) (n' := 29) rfl (fun c9_13 => ?_) (fun c9_13 => ?_)
  · exact absurd c9_13 (by decide)
  refine G.lloadN C d3_12 rfl (n := 13) rfl ?_
  refine G.lloadN C d3_13 rfl (n := 14) rfl ?_
  refine G.lrem C d3_14 (by decide) (n := 15) rfl ?_
  refine G.fold_long (z := (7 : Int64)) (by decide) ?_
  refine G.lconst C (v := (0 : Int64)) d3_15 (by decide) (n := 16) rfl ?_
  refine G.lcmp_ne C (A := 7) (B := 0) (by decide) (by decide) d3_16 d3_17 (by decide) (by decide) (n := 20) (n' := 22) rfl (fun c17_14 c17_14i => ?_) (fun c17_14 c17_14i => ?_)
  rotate_left
  · exact absurd c17_14 (by decide)
  refine G.lloadN C d3_22 rfl (n := 23) rfl ?_
  refine G.lconst C (v := (1 : Int64)) d3_23 (by decide) (n := 24) rfl ?_
  refine G.ladd C d3_24 (n := 25) rfl ?_
  refine G.fold_long (z := (9 : Int64)) (by decide) ?_
  refine G.lstoreN C d3_25 (l' := #[.val (.long (127 : Int64)), .second, .val (.long (9 : Int64)), .second]) rfl (n := 26) rfl ?_
  refine G.goto C d3_26 (by decide) (n := 4) (by decide) ?_
  refine G.lloadN C d3_4 rfl (n := 5) rfl ?_
  refine G.lloadN C d3_5 rfl (n := 6) rfl ?_
  refine G.lmul C d3_6 (n := 7) rfl ?_
  refine G.fold_long (z := (81 : Int64)) (by decide) ?_
  refine G.lloadN C d3_7 rfl (n := 8) rfl ?_
  refine G.lcmp_gt C (A := 81) (B := 127) (by decide) (by decide) d3_8 d3_9 (by decide) (by decide) (n := 12) (n' := 29) rfl (fun c9_15 => ?_) (fun c9_15 => ?_)
  · exact absurd c9_15 (by decide)
  refine G.lloadN C d3_12 rfl (n := 13) rfl ?_
  refine G.lloadN C d3_13 rfl (n := 14) rfl ?_
  refine G.lrem C d3_14 (by decide) (n := 15) rfl ?_
  refine G.fold_long (z := (1 : Int64)) (by decide) ?_
  refine G.lconst C (v := (0 : Int64)) d3_15 (by decide) (n := 16) rfl ?_
  refine G.lcmp_ne C (A := 1) (B := 0) (by decide) (by decide) d3_16 d3_17 (by decide) (by decide) (n := 20) (n' := 22) rfl (fun c17_16 c17_16i => ?_) (fun c17_16 c17_16i => ?_)
  rotate_left
  · exact absurd c17_16 (by decide)
  refine G.lloadN C d3_22 rfl (n := 23) rfl ?_
  refine G.lconst C (v := (1 : Int64)) d3_23 (by decide) (n := 24) rfl ?_
  refine G.ladd C d3_24 (n := 25) rfl ?_
  refine G.fold_long (z := (10 : Int64)) (by decide) ?_
  refine G.lstoreN C d3_25 (l' := #[.val (.long (127 : Int64)), .second, .val (.long (10 : Int64)), .second]) rfl (n := 26) rfl ?_
  refine G.goto C d3_26 (by decide) (n := 4) (by decide) ?_
  refine G.lloadN C d3_4 rfl (n := 5) rfl ?_
  refine G.lloadN C d3_5 rfl (n := 6) rfl ?_
  refine G.lmul C d3_6 (n := 7) rfl ?_
  refine G.fold_long (z := (100 : Int64)) (by decide) ?_
  refine G.lloadN C d3_7 rfl (n := 8) rfl ?_
  refine G.lcmp_gt C (A := 100) (B := 127) (by decide) (by decide) d3_8 d3_9 (by decide) (by decide) (n := 12) (n' := 29) rfl (fun c9_17 => ?_) (fun c9_17 => ?_)
  · exact absurd c9_17 (by decide)
  refine G.lloadN C d3_12 rfl (n := 13) rfl ?_
  refine G.lloadN C d3_13 rfl (n := 14) rfl ?_
  refine G.lrem C d3_14 (by decide) (n := 15) rfl ?_
  refine G.fold_long (z := (7 : Int64)) (by decide) ?_
  refine G.lconst C (v := (0 : Int64)) d3_15 (by decide) (n := 16) rfl ?_
  refine G.lcmp_ne C (A := 7) (B := 0) (by decide) (by decide) d3_16 d3_17 (by decide) (by decide) (n := 20) (n' := 22) rfl (fun c17_18 c17_18i => ?_) (fun c17_18 c17_18i => ?_)
  rotate_left
  · exact absurd c17_18 (by decide)
  refine G.lloadN C d3_22 rfl (n := 23) rfl ?_
  refine G.lconst C (v := (1 : Int64)) d3_23 (by decide) (n := 24) rfl ?_
  refine G.ladd C d3_24 (n := 25) rfl ?_
  refine G.fold_long (z := (11 : Int64)) (by decide) ?_
  refine G.lstoreN C d3_25 (l' := #[.val (.long (127 : Int64)), .second, .val (.long (11 : Int64)), .second]) rfl (n := 26) rfl ?_
  refine G.goto C d3_26 (by decide) (n := 4) (by decide) ?_
  refine G.lloadN C d3_4 rfl (n := 5) rfl ?_
  refine G.lloadN C d3_5 rfl (n := 6) rfl ?_
  refine G.lmul C d3_6 (n := 7) rfl ?_
  refine G.fold_long (z := (121 : Int64)) (by decide) ?_
  refine G.lloadN C d3_7 rfl (n := 8) rfl ?_
  refine G.lcmp_gt C (A := 121) (B := 127) (by decide) (by decide) d3_8 d3_9 (by decide) (by decide) (n := 12) (n' := 29) rfl (fun c9_19 => ?_) (fun c9_19 => ?_)
  · exact absurd c9_19 (by decide)
  refine G.lloadN C d3_12 rfl (n := 13) rfl ?_
  refine G.lloadN C d3_13 rfl (n := 14) rfl ?_
  refine G.lrem C d3_14 (by decide) (n := 15) rfl ?_
  refine G.fold_long (z := (6 : Int64)) (by decide) ?_
  refine G.lconst C (v := (0 : Int64)) d3_15 (by decide) (n := 16) rfl ?_
  refine G.lcmp_ne C (A := 6) (B := 0) (by decide) (by decide) d3_16 d3_17 (by decide) (by decide) (n := 20) (n' := 22) rfl (fun c17_20 c17_20i => ?_) (fun c17_20 c17_20i => ?_)
  rotate_left
  · exact absurd c17_20 (by decide)
  refine G.lloadN C d3_22 rfl (n := 23) rfl ?_
  refine G.lconst C (v := (1 : Int64)) d3_23 (by decide) (n := 24) rfl ?_
  refine G.ladd C d3_24 (n := 25) rfl ?_
  refine G.fold_long (z := (12 : Int64)) (by decide) ?_
  refine G.lstoreN C d3_25 (l' := #[.val (.long (127 : Int64)), .second, .val (.long (12 : Int64)), .second]) rfl (n := 26) rfl ?_
  refine G.goto C d3_26 (by decide) (n := 4) (by decide) ?_
  refine G.lloadN C d3_4 rfl (n := 5) rfl ?_
  refine G.lloadN C d3_5 rfl (n := 6) rfl ?_
  refine G.lmul C d3_6 (n := 7) rfl ?_
  refine G.fold_long (z := (144 : Int64)) (by decide) ?_
  refine G.lloadN C d3_7 rfl (n := 8) rfl ?_
  refine G.lcmp_gt C (A := 144) (B := 127) (by decide) (by decide) d3_8 d3_9 (by decide) (by decide) (n := 12) (n' := 29) rfl (fun c9_21 => ?_) (fun c9_21 => ?_)
  rotate_left
  · exact absurd c9_21 (by decide)
  refine G.iconst C (v := (1 : Int32)) d3_29 (by decide) (n := 30) rfl ?_
  refine G.ireturn C d3_30 (rfl) (by simp) (by decide) (by decide) ?_
  exact ⟨rfl, rfl⟩
theorem ef11 (m : MethodId)  : entryFrame m #[(.long (251 : Int64))] 4 = mkF m 0 #[.val (.long (251 : Int64)), .second, .unset, .unset] [] := by first | (simp [entryFrame, mkF, argsToLocals, Value.category]; done) | rfl
abbrev Q_ip251 (Z : State) (h0 : Heap) (n0 : Nat)  : Option Value → Heap → Prop := fun v h' => v = some (.int 1) ∧ h0 = h'
abbrev R_ip251 : Room := { frames := 0, cells := 0, slots := 0, locals := 0 }
set_option maxRecDepth 65536 in
set_option maxHeartbeats 40000000 in
theorem m_ip251 (l : Launch) (Z : State) (a0 : Array Value) (hw : ∀ d ∈ tables_1, d.before a0 Z = true)  (h0 : Heap) (n0 : Nat) (Z0 : n0 ≤ h0.size)  : Met l Z (⟨"com/example/veilrelay/veilrelay/core/derived/SmallDomain", "isPrime", "(J)Z"⟩ : MethodName) prog_36_method_13_code 4 (some .boolean) R_ip251 #[(.long (251 : Int64))] h0 n0 (Q_ip251 Z h0 n0 ) := by
  refine Met.of (plainFor_of_name pn0) (fun m => ef11 m ) ?_
  intro p e s m args below meth c C
  refine G.ldc2 C (v := (2 : Int64)) (wd hw 23 rfl) d3_0 (n := 3) rfl ?_
  refine G.lstoreN C d3_3 (l' := #[.val (.long (251 : Int64)), .second, .val (.long (2 : Int64)), .second]) rfl (n := 4) rfl ?_
  refine G.lloadN C d3_4 rfl (n := 5) rfl ?_
  refine G.lloadN C d3_5 rfl (n := 6) rfl ?_
  refine G.lmul C d3_6 (n := 7) rfl ?_
  refine G.fold_long (z := (4 : Int64)) (by decide) ?_
  refine G.lloadN C d3_7 rfl (n := 8) rfl ?_
  refine G.lcmp_gt C (A := 4) (B := 251) (by decide) (by decide) d3_8 d3_9 (by decide) (by decide) (n := 12) (n' := 29) rfl (fun c9_1 => ?_) (fun c9_1 => ?_)
  · exact absurd c9_1 (by decide)
  refine G.lloadN C d3_12 rfl (n := 13) rfl ?_
  refine G.lloadN C d3_13 rfl (n := 14) rfl ?_
  refine G.lrem C d3_14 (by decide) (n := 15) rfl ?_
  refine G.fold_long (z := (1 : Int64)) (by decide) ?_
  refine G.lconst C (v := (0 : Int64)) d3_15 (by decide) (n := 16) rfl ?_
  refine G.lcmp_ne C (A := 1) (B := 0) (by decide) (by decide) d3_16 d3_17 (by decide) (by decide) (n := 20) (n' := 22) rfl (fun c17_2 c17_2i => ?_) (fun c17_2 c17_2i => ?_)
  rotate_left
  · exact absurd c17_2 (by decide)
  refine G.lloadN C d3_22 rfl (n := 23) rfl ?_
  refine G.lconst C (v := (1 : Int64)) d3_23 (by decide) (n := 24) rfl ?_
  refine G.ladd C d3_24 (n := 25) rfl ?_
  refine G.fold_long (z := (3 : Int64)) (by decide) ?_
  refine G.lstoreN C d3_25 (l' := #[.val (.long (251 : Int64)), .second, .val (.long (3 : Int64)), .second]) rfl (n := 26) rfl ?_
  refine G.goto C d3_26 (by decide) (n := 4) (by decide) ?_
  refine G.lloadN C d3_4 rfl (n := 5) rfl ?_
  refine G.lloadN C d3_5 rfl (n := 6) rfl ?_
  refine G.lmul C d3_6 (n := 7) rfl ?_
  refine G.fold_long (z := (9 : Int64)) (by decide) ?_
  refine G.lloadN C d3_7 rfl (n := 8) rfl ?_
  refine G.lcmp_gt C (A := 9) (B := 251) (by decide) (by decide) d3_8 d3_9 (by decide) (by decide) (n := 12) (n' := 29) rfl (fun c9_3 => ?_) (fun c9_3 => ?_)
  · exact absurd c9_3 (by decide)
  refine G.lloadN C d3_12 rfl (n := 13) rfl ?_
  refine G.lloadN C d3_13 rfl (n := 14) rfl ?_
  refine G.lrem C d3_14 (by decide) (n := 15) rfl ?_
  refine G.fold_long (z := (2 : Int64)) (by decide) ?_
  refine G.lconst C (v := (0 : Int64)) d3_15 (by decide) (n := 16) rfl ?_
  refine G.lcmp_ne C (A := 2) (B := 0) (by decide) (by decide) d3_16 d3_17 (by decide) (by decide) (n := 20) (n' := 22) rfl (fun c17_4 c17_4i => ?_) (fun c17_4 c17_4i => ?_)
  rotate_left
  · exact absurd c17_4 (by decide)
  refine G.lloadN C d3_22 rfl (n := 23) rfl ?_
  refine G.lconst C (v := (1 : Int64)) d3_23 (by decide) (n := 24) rfl ?_
  refine G.ladd C d3_24 (n := 25) rfl ?_
  refine G.fold_long (z := (4 : Int64)) (by decide) ?_
  refine G.lstoreN C d3_25 (l' := #[.val (.long (251 : Int64)), .second, .val (.long (4 : Int64)), .second]) rfl (n := 26) rfl ?_
  refine G.goto C d3_26 (by decide) (n := 4) (by decide) ?_
  refine G.lloadN C d3_4 rfl (n := 5) rfl ?_
  refine G.lloadN C d3_5 rfl (n := 6) rfl ?_
  refine G.lmul C d3_6 (n := 7) rfl ?_
  refine G.fold_long (z := (16 : Int64)) (by decide) ?_
  refine G.lloadN C d3_7 rfl (n := 8) rfl ?_
  refine G.lcmp_gt C (A := 16) (B := 251) (by decide) (by decide) d3_8 d3_9 (by decide) (by decide) (n := 12) (n' := 29) rfl (fun c9_5 => ?_) (fun c9_5 => ?_)
  · exact absurd c9_5 (by decide)
  refine G.lloadN C d3_12 rfl (n := 13) rfl ?_
  refine G.lloadN C d3_13 rfl (n := 14) rfl ?_
  refine G.lrem C d3_14 (by decide) (n := 15) rfl ?_
  refine G.fold_long (z := (3 : Int64)) (by decide) ?_
  refine G.lconst C (v := (0 : Int64)) d3_15 (by decide) (n := 16) rfl ?_
  refine G.lcmp_ne C (A := 3) (B := 0) (by decide) (by decide) d3_16 d3_17 (by decide) (by decide) (n := 20) (n' := 22) rfl (fun c17_6 c17_6i => ?_) (fun c17_6 c17_6i => ?_)
  rotate_left
  · exact absurd c17_6 (by decide)
  refine G.lloadN C d3_22 rfl (n := 23) rfl ?_
  refine G.lconst C (v := (1 : Int64)) d3_23 (by decide) (n := 24) rfl ?_
  refine G.ladd C d3_24 (n := 25) rfl ?_
  refine G.fold_long (z := (5 : Int64)) (by decide) ?_
  refine G.lstoreN C d3_25 (l' := #[.val (.long (251 : Int64)), .second, .val (.long (5 : Int64)), .second]) rfl (n := 26) rfl ?_
  refine G.goto C d3_26 (by decide) (n := 4) (by decide) ?_
  refine G.lloadN C d3_4 rfl (n := 5) rfl ?_
  refine G.lloadN C d3_5 rfl (n := 6) rfl ?_
  refine G.lmul C d3_6 (n := 7) rfl ?_
  refine G.fold_long (z := (25 : Int64)) (by decide) ?_
  refine G.lloadN C d3_7 rfl (n := 8) rfl ?_
  refine G.lcmp_gt C (A := 25) (B := 251) (by decide) (by decide) d3_8 d3_9 (by decide) (by decide) (n := 12) (n' := 29) rfl (fun c9_7 => ?_) (fun c9_7 => ?_)
  · exact absurd c9_7 (by decide)
  refine G.lloadN C d3_12 rfl (n := 13) rfl ?_
  refine G.lloadN C d3_13 rfl (n := 14) rfl ?_
  refine G.lrem C d3_14 (by decide) (n := 15) rfl ?_
  refine G.fold_long (z := (1 : Int64)) (by decide) ?_
  refine G.lconst C (v := (0 : Int64)) d3_15 (by decide) (n := 16) rfl ?_
  refine G.lcmp_ne C (A := 1) (B := 0) (by decide) (by decide) d3_16 d3_17 (by decide) (by decide) (n := 20) (n' := 22) rfl (fun c17_8 c17_8i => ?_) (fun c17_8 c17_8i => ?_)
  rotate_left
  · exact absurd c17_8 (by decide)
  refine G.lloadN C d3_22 rfl (n := 23) rfl ?_
  refine G.lconst C (v := (1 : Int64)) d3_23 (by decide) (n := 24) rfl ?_
  refine G.ladd C d3_24 (n := 25) rfl ?_
  refine G.fold_long (z := (6 : Int64)) (by decide) ?_
  refine G.lstoreN C d3_25 (l' := #[.val (.long (251 : Int64)), .second, .val (.long (6 : Int64)), .second]) rfl (n := 26) rfl ?_
  refine G.goto C d3_26 (by decide) (n := 4) (by decide) ?_
  refine G.lloadN C d3_4 rfl (n := 5) rfl ?_
  refine G.lloadN C d3_5 rfl (n := 6) rfl ?_
  refine G.lmul C d3_6 (n := 7) rfl ?_
  refine G.fold_long (z := (36 : Int64)) (by decide) ?_
  refine G.lloadN C d3_7 rfl (n := 8) rfl ?_
  refine G.lcmp_gt C (A := 36) (B := 251) (by decide) (by decide) d3_8 d3_9 (by decide) (by decide) (n := 12) (n' := 29) rfl (fun c9_9 => ?_) (fun c9_9 => ?_)
  · exact absurd c9_9 (by decide)
  refine G.lloadN C d3_12 rfl (n := 13) rfl ?_
  refine G.lloadN C d3_13 rfl (n := 14) rfl ?_
  refine G.lrem C d3_14 (by decide) (n := 15) rfl ?_
  refine G.fold_long (z := (5 : Int64)) (by decide) ?_
  refine G.lconst C (v := (0 : Int64)) d3_15 (by decide) (n := 16) rfl ?_
  refine G.lcmp_ne C (A := 5) (B := 0) (by decide) (by decide) d3_16 d3_17 (by decide) (by decide) (n := 20) (n' := 22) rfl (fun c17_10 c17_10i => ?_) (fun c17_10 c17_10i => ?_)
  rotate_left
  · exact absurd c17_10 (by decide)
  refine G.lloadN C d3_22 rfl (n := 23) rfl ?_
  refine G.lconst C (v := (1 : Int64)) d3_23 (by decide) (n := 24) rfl ?_
  refine G.ladd C d3_24 (n := 25) rfl ?_
  refine G.fold_long (z := (7 : Int64)) (by decide) ?_
  refine G.lstoreN C d3_25 (l' := #[.val (.long (251 : Int64)), .second, .val (.long (7 : Int64)), .second]) rfl (n := 26) rfl ?_
  refine G.goto C d3_26 (by decide) (n := 4) (by decide) ?_
  refine G.lloadN C d3_4 rfl (n := 5) rfl ?_
  refine G.lloadN C d3_5 rfl (n := 6) rfl ?_
  refine G.lmul C d3_6 (n := 7) rfl ?_
  refine G.fold_long (z := (49 : Int64)) (by decide) ?_
  refine G.lloadN C d3_7 rfl (n := 8) rfl ?_
  refine G.lcmp_gt C (A := 49) (B := 251) (by decide) (by decide) d3_8 d3_9 (by decide) (by decide) (n := 12) (n' := 29) rfl (fun c9_11 => ?_) (fun c9_11 => ?_)
  · exact absurd c9_11 (by decide)
  refine G.lloadN C d3_12 rfl (n := 13) rfl ?_
  refine G.lloadN C d3_13 rfl (n := 14) rfl ?_
  refine G.lrem C d3_14 (by decide) (n := 15) rfl ?_
  refine G.fold_long (z := (6 : Int64)) (by decide) ?_
  refine G.lconst C (v := (0 : Int64)) d3_15 (by decide) (n := 16) rfl ?_
  refine G.lcmp_ne C (A := 6) (B := 0) (by decide) (by decide) d3_16 d3_17 (by decide) (by decide) (n := 20) (n' := 22) rfl (fun c17_12 c17_12i => ?_) (fun c17_12 c17_12i => ?_)
  rotate_left
  · exact absurd c17_12 (by decide)
  refine G.lloadN C d3_22 rfl (n := 23) rfl ?_
  refine G.lconst C (v := (1 : Int64)) d3_23 (by decide) (n := 24) rfl ?_
  refine G.ladd C d3_24 (n := 25) rfl ?_
  refine G.fold_long (z := (8 : Int64)) (by decide) ?_
  refine G.lstoreN C d3_25 (l' := #[.val (.long (251 : Int64)), .second, .val (.long (8 : Int64)), .second]) rfl (n := 26) rfl ?_
  refine G.goto C d3_26 (by decide) (n := 4) (by decide) ?_
  refine G.lloadN C d3_4 rfl (n := 5) rfl ?_
  refine G.lloadN C d3_5 rfl (n := 6) rfl ?_
  refine G.lmul C d3_6 (n := 7) rfl ?_
  refine G.fold_long (z := (64 : Int64)) (by decide) ?_
  refine G.lloadN C d3_7 rfl (n := 8) rfl ?_
  refine G.lcmp_gt C (A := 64) (B := 251) (by decide) (by decide) d3_8 d3_9 (by decide) (by decide) (n := 12) (n' := 29) rfl (fun c9_13 => ?_) (fun c9_13 => ?_)
  · exact absurd c9_13 (by decide)
  refine G.lloadN C d3_12 rfl (n := 13) rfl ?_
  refine G.lloadN C d3_13 rfl (n := 14) rfl ?_
  refine G.lrem C d3_14 (by decide) (n := 15) rfl ?_
  refine G.fold_long (z := (3 : Int64)) (by decide) ?_
  refine G.lconst C (v := (0 : Int64)) d3_15 (by decide) (n := 16) rfl ?_
  refine G.lcmp_ne C (A := 3) (B := 0) (by decide) (by decide) d3_16 d3_17 (by decide) (by decide) (n := 20) (n' := 22) rfl (fun c17_14 c17_14i => ?_) (fun c17_14 c17_14i => ?_)
  rotate_left
  · exact absurd c17_14 (by decide)
  refine G.lloadN C d3_22 rfl (n := 23) rfl ?_
  refine G.lconst C (v := (1 : Int64)) d3_23 (by decide) (n := 24) rfl ?_
  refine G.ladd C d3_24 (n := 25) rfl ?_
  refine G.fold_long (z := (9 : Int64)) (by decide) ?_
  refine G.lstoreN C d3_25 (l' := #[.val (.long (251 : Int64)), .second, .val (.long (9 : Int64)), .second]) rfl (n := 26) rfl ?_
  refine G.goto C d3_26 (by decide) (n := 4) (by decide) ?_
  refine G.lloadN C d3_4 rfl (n := 5) rfl ?_
  refine G.lloadN C d3_5 rfl (n := 6) rfl ?_
  refine G.lmul C d3_6 (n := 7) rfl ?_
  refine G.fold_long (z := (81 : Int64)) (by decide) ?_
  refine G.lloadN C d3_7 rfl (n := 8) rfl ?_
  refine G.lcmp_gt C (A := 81) (B := 251) (by decide) (by decide) d3_8 d3_9 (by decide) (by decide) (n := 12) (n' := 29) rfl (fun c9_15 => ?_) (fun c9_15 => ?_)
  · exact absurd c9_15 (by decide)
  refine G.lloadN C d3_12 rfl (n := 13) rfl ?_
  refine G.lloadN C d3_13 rfl (n := 14) rfl ?_
  refine G.lrem C d3_14 (by decide) (n := 15) rfl ?_
  refine G.fold_long (z := (8 : Int64)) (by decide) ?_
  refine G.lconst C (v := (0 : Int64)) d3_15 (by decide) (n := 16) rfl ?_
  refine G.lcmp_ne C (A := 8) (B := 0) (by decide) (by decide) d3_16 d3_17 (by decide) (by decide) (n := 20) (n' := 22) rfl (fun c17_16 c17_16i => ?_) (fun c17_16 c17_16i => ?_)
  rotate_left
  · exact absurd c17_16 (by decide)
  refine G.lloadN C d3_22 rfl (n := 23) rfl ?_
  refine G.lconst C (v := (1 : Int64)) d3_23 (by decide) (n := 24) rfl ?_
  refine G.ladd C d3_24 (n := 25) rfl ?_
  refine G.fold_long (z := (10 : Int64)) (by decide) ?_
  refine G.lstoreN C d3_25 (l' := #[.val (.long (251 : Int64)), .second, .val (.long (10 : Int64)), .second]) rfl (n := 26) rfl ?_
  refine G.goto C d3_26 (by decide) (n := 4) (by decide) ?_
  refine G.lloadN C d3_4 rfl (n := 5) rfl ?_
  refine G.lloadN C d3_5 rfl (n := 6) rfl ?_
  refine G.lmul C d3_6 (n := 7) rfl ?_
  refine G.fold_long (z := (100 : Int64)) (by decide) ?_
  refine G.lloadN C d3_7 rfl (n := 8) rfl ?_
  refine G.lcmp_gt C (A := 100) (B := 251) (by decide) (by decide) d3_8 d3_9 (by decide) (by decide) (n := 12) (n' := 29) rfl (fun c9_17 => ?_) (fun c9_17 => ?_)
  · exact absurd c9_17 (by decide)
  refine G.lloadN C d3_12 rfl (n := 13) rfl ?_
  refine G.lloadN C d3_13 rfl (n := 14) rfl ?_
  refine G.lrem C d3_14 (by decide) (n := 15) rfl ?_
  refine G.fold_long (z := (1 : Int64)) (by decide) ?_
  refine G.lconst C (v := (0 : Int64)) d3_15 (by decide) (n := 16) rfl ?_
  refine G.lcmp_ne C (A := 1) (B := 0) (by decide) (by decide) d3_16 d3_17 (by decide) (by decide) (n := 20) (n' := 22) rfl (fun c17_18 c17_18i => ?_) (fun c17_18 c17_18i => ?_)
  rotate_left
  · exact absurd c17_18 (by decide)
  refine G.lloadN C d3_22 rfl (n := 23) rfl ?_
  refine G.lconst C (v := (1 : Int64)) d3_23 (by decide) (n := 24) rfl ?_
  refine G.ladd C d3_24 (n := 25) rfl ?_
  refine G.fold_long (z := (11 : Int64)) (by decide) ?_
  refine G.lstoreN C d3_25 (l' := #[.val (.long (251 : Int64)), .second, .val (.long (11 : Int64)), .second]) rfl (n := 26) rfl ?_
  refine G.goto C d3_26 (by decide) (n := 4) (by decide) ?_
  refine G.lloadN C d3_4 rfl (n := 5) rfl ?_
  refine G.lloadN C d3_5 rfl (n := 6) rfl ?_
  refine G.lmul C d3_6 (n := 7) rfl ?_
  refine G.fold_long (z := (121 : Int64)) (by decide) ?_
  refine G.lloadN C d3_7 rfl (n := 8) rfl ?_
  refine G.lcmp_gt C (A := 121) (B := 251) (by decide) (by decide) d3_8 d3_9 (by decide) (by decide) (n := 12) (n' := 29) rfl (fun c9_19 => ?_) (fun c9_19 => ?_)
  · exact absurd c9_19 (by decide)
  refine G.lloadN C d3_12 rfl (n := 13) rfl ?_
  refine G.lloadN C d3_13 rfl (n := 14) rfl ?_
  refine G.lrem C d3_14 (by decide) (n := 15) rfl ?_
  refine G.fold_long (z := (9 : Int64)) (by decide) ?_
  refine G.lconst C (v := (0 : Int64)) d3_15 (by decide) (n := 16) rfl ?_
  refine G.lcmp_ne C (A := 9) (B := 0) (by decide) (by decide) d3_16 d3_17 (by decide) (by decide) (n := 20) (n' := 22) rfl (fun c17_20 c17_20i => ?_) (fun c17_20 c17_20i => ?_)
  rotate_left
  · exact absurd c17_20 (by decide)
  refine G.lloadN C d3_22 rfl (n := 23) rfl ?_
  refine G.lconst C (v := (1 : Int64)) d3_23 (by decide) (n := 24) rfl ?_
  refine G.ladd C d3_24 (n := 25) rfl ?_
  refine G.fold_long (z := (12 : Int64)) (by decide) ?_
  refine G.lstoreN C d3_25 (l' := #[.val (.long (251 : Int64)), .second, .val (.long (12 : Int64)), .second]) rfl (n := 26) rfl ?_
  refine G.goto C d3_26 (by decide) (n := 4) (by decide) ?_
  refine G.lloadN C d3_4 rfl (n := 5) rfl ?_
  refine G.lloadN C d3_5 rfl (n := 6) rfl ?_
  refine G.lmul C d3_6 (n := 7) rfl ?_
  refine G.fold_long (z := (144 : Int64)) (by decide) ?_
  refine G.lloadN C d3_7 rfl (n := 8) rfl ?_
  refine G.lcmp_gt C (A := 144) (B := 251) (by decide) (by decide) d3_8 d3_9 (by decide) (by decide) (n := 12) (n' := 29) rfl (fun c9_21 => ?_) (fun c9_21 => ?_)
  · exact absurd c9_21 (by decide)
  refine G.lloadN C d3_12 rfl (n := 13) rfl ?_
  refine G.lloadN C d3_13 rfl (n := 14) rfl ?_
  refine G.lrem C d3_14 (by decide) (n := 15) rfl ?_
  refine G.fold_long (z := (11 : Int64)) (by decide) ?_
  refine G.lconst C (v := (0 : Int64)) d3_15 (by decide) (n := 16) rfl ?_
  refine G.lcmp_ne C (A := 11) (B := 0) (by decide) (by decide) d3_16 d3_17 (by decide) (by decide) (n := 20) (n' := 22) rfl (fun c17_22 c17_22i => ?_) (fun c17_22 c17_22i => ?_)
  rotate_left
  · exact absurd c17_22 (by decide)
  refine G.lloadN C d3_22 rfl (n := 23) rfl ?_
  refine G.lconst C (v := (1 : Int64)) d3_23 (by decide) (n := 24) rfl ?_
  refine G.ladd C d3_24 (n := 25) rfl ?_
  refine G.fold_long (z := (13 : Int64)) (by decide) ?_
  refine G.lstoreN C d3_25 (l' := #[.val (.long (251 : Int64)), .second, .val (.long (13 : Int64)), .second]) rfl (n := 26) rfl ?_
  refine G.goto C d3_26 (by decide) (n := 4) (by decide) ?_
  refine G.lloadN C d3_4 rfl (n := 5) rfl ?_
  refine G.lloadN C d3_5 rfl (n := 6) rfl ?_
  refine G.lmul C d3_6 (n := 7) rfl ?_
  refine G.fold_long (z := (169 : Int64)) (by decide) ?_
  refine G.lloadN C d3_7 rfl (n := 8) rfl ?_
  refine G.lcmp_gt C (A := 169) (B := 251) (by decide) (by decide) d3_8 d3_9 (by decide) (by decide) (n := 12) (n' := 29) rfl (fun c9_23 => ?_) (fun c9_23 => ?_)
  · exact absurd c9_23 (by decide)
  refine G.lloadN C d3_12 rfl (n := 13) rfl ?_
  refine G.lloadN C d3_13 rfl (n := 14) rfl ?_
  refine G.lrem C d3_14 (by decide) (n := 15) rfl ?_
  refine G.fold_long (z := (4 : Int64)) (by decide) ?_
  refine G.lconst C (v := (0 : Int64)) d3_15 (by decide) (n := 16) rfl ?_
  refine G.lcmp_ne C (A := 4) (B := 0) (by decide) (by decide) d3_16 d3_17 (by decide) (by decide) (n := 20) (n' := 22) rfl (fun c17_24 c17_24i => ?_) (fun c17_24 c17_24i => ?_)
  rotate_left
  · exact absurd c17_24 (by decide)
  refine G.lloadN C d3_22 rfl (n := 23) rfl ?_
  refine G.lconst C (v := (1 : Int64)) d3_23 (by decide) (n := 24) rfl ?_
  refine G.ladd C d3_24 (n := 25) rfl ?_
  refine G.fold_long (z := (14 : Int64)) (by decide) ?_
  refine G.lstoreN C d3_25 (l' := #[.val (.long (251 : Int64)), .second, .val (.long (14 : Int64)), .second]) rfl (n := 26) rfl ?_
  refine G.goto C d3_26 (by decide) (n := 4) (by decide) ?_
  refine G.lloadN C d3_4 rfl (n := 5) rfl ?_
  refine G.lloadN C d3_5 rfl (n := 6) rfl ?_
  refine G.lmul C d3_6 (n := 7) rfl ?_
  refine G.fold_long (z := (196 : Int64)) (by decide) ?_
  refine G.lloadN C d3_7 rfl (n := 8) rfl ?_
  refine G.lcmp_gt C (A := 196) (B := 251) (by decide) (by decide) d3_8 d3_9 (by decide) (by decide) (n := 12) (n' := 29) rfl (fun c9_25 => ?_) (fun c9_25 => ?_)
  · exact absurd c9_25 (by decide)
  refine G.lloadN C d3_12 rfl (n := 13) rfl ?_
  refine G.lloadN C d3_13 rfl (n := 14) rfl ?_
  refine G.lrem C d3_14 (by decide) (n := 15) rfl ?_
  refine G.fold_long (z := (13 : Int64)) (by decide) ?_
  refine G.lconst C (v := (0 : Int64)) d3_15 (by decide) (n := 16) rfl ?_
  refine G.lcmp_ne C (A := 13) (B := 0) (by decide) (by decide) d3_16 d3_17 (by decide) (by decide) (n := 20) (n' := 22) rfl (fun c17_26 c17_26i => ?_) (fun c17_26 c17_26i => ?_)
  rotate_left
  · exact absurd c17_26 (by decide)
  refine G.lloadN C d3_22 rfl (n := 23) rfl ?_
  refine G.lconst C (v := (1 : Int64)) d3_23 (by decide) (n := 24) rfl ?_
  refine G.ladd C d3_24 (n := 25) rfl ?_
  refine G.fold_long (z := (15 : Int64)) (by decide) ?_
  refine G.lstoreN C d3_25 (l' := #[.val (.long (251 : Int64)), .second, .val (.long (15 : Int64)), .second]) rfl (n := 26) rfl ?_
  refine G.goto C d3_26 (by decide) (n := 4) (by decide) ?_
  refine G.lloadN C d3_4 rfl (n := 5) rfl ?_
  refine G.lloadN C d3_5 rfl (n := 6) rfl ?_
  refine G.lmul C d3_6 (n := 7) rfl ?_
  refine G.fold_long (z := (225 : Int64)) (by decide) ?_
  refine G.lloadN C d3_7 rfl (n := 8) rfl ?_
  refine G.lcmp_gt C (A := 225) (B := 251) (by decide) (by decide) d3_8 d3_9 (by decide) (by decide) (n := 12) (n' := 29) rfl (fun c9_27 => ?_) (fun c9_27 => ?_)
  · exact absurd c9_27 (by decide)
  refine G.lloadN C d3_12 rfl (n := 13) rfl ?_
  refine G.lloadN C d3_13 rfl (n := 14) rfl ?_
  refine G.lrem C d3_14 (by decide) (n := 15) rfl ?_
  refine G.fold_long (z := (11 : Int64)) (by decide) ?_
  refine G.lconst C (v := (0 : Int64)) d3_15 (by decide) (n := 16) rfl ?_
  refine G.lcmp_ne C (A := 11) (B := 0) (by decide) (by decide) d3_16 d3_17 (by decide) (by decide) (n := 20) (n' := 22) rfl (fun c17_28 c17_28i => ?_) (fun c17_28 c17_28i => ?_)
  rotate_left
  · exact absurd c17_28 (by decide)
  refine G.lloadN C d3_22 rfl (n := 23) rfl ?_
  refine G.lconst C (v := (1 : Int64)) d3_23 (by decide) (n := 24) rfl ?_
  refine G.ladd C d3_24 (n := 25) rfl ?_
  refine G.fold_long (z := (16 : Int64)) (by decide) ?_
  refine G.lstoreN C d3_25 (l' := #[.val (.long (251 : Int64)), .second, .val (.long (16 : Int64)), .second]) rfl (n := 26) rfl ?_
  refine G.goto C d3_26 (by decide) (n := 4) (by decide) ?_
  refine G.lloadN C d3_4 rfl (n := 5) rfl ?_
  refine G.lloadN C d3_5 rfl (n := 6) rfl ?_
  refine G.lmul C d3_6 (n := 7) rfl ?_
  refine G.fold_long (z := (256 : Int64)) (by decide) ?_
  refine G.lloadN C d3_7 rfl (n := 8) rfl ?_
  refine G.lcmp_gt C (A := 256) (B := 251) (by decide) (by decide) d3_8 d3_9 (by decide) (by decide) (n := 12) (n' := 29) rfl (fun c9_29 => ?_) (fun c9_29 => ?_)
  rotate_left
  · exact absurd c9_29 (by decide)
  refine G.iconst C (v := (1 : Int32)) d3_29 (by decide) (n := 30) rfl ?_
  refine G.ireturn C d3_30 (rfl) (by simp) (by decide) (by decide) ?_
  exact ⟨rfl, rfl⟩
theorem ef12 (m : MethodId)  : entryFrame m #[(.long (252 : Int64))] 4 = mkF m 0 #[.val (.long (252 : Int64)), .second, .unset, .unset] [] := by first | (simp [entryFrame, mkF, argsToLocals, Value.category]; done) | rfl
abbrev Q_ip252 (Z : State) (h0 : Heap) (n0 : Nat)  : Option Value → Heap → Prop := fun v h' => v = some (.int 0) ∧ h0 = h'
abbrev R_ip252 : Room := { frames := 0, cells := 0, slots := 0, locals := 0 }
set_option maxRecDepth 65536 in
set_option maxHeartbeats 40000000 in
theorem m_ip252 (l : Launch) (Z : State) (a0 : Array Value) (hw : ∀ d ∈ tables_1, d.before a0 Z = true)  (h0 : Heap) (n0 : Nat) (Z0 : n0 ≤ h0.size)  : Met l Z (⟨"com/example/veilrelay/veilrelay/core/derived/SmallDomain", "isPrime", "(J)Z"⟩ : MethodName) prog_36_method_13_code 4 (some .boolean) R_ip252 #[(.long (252 : Int64))] h0 n0 (Q_ip252 Z h0 n0 ) := by
  refine Met.of (plainFor_of_name pn0) (fun m => ef12 m ) ?_
  intro p e s m args below meth c C
  refine G.ldc2 C (v := (2 : Int64)) (wd hw 23 rfl) d3_0 (n := 3) rfl ?_
  refine G.lstoreN C d3_3 (l' := #[.val (.long (252 : Int64)), .second, .val (.long (2 : Int64)), .second]) rfl (n := 4) rfl ?_
  refine G.lloadN C d3_4 rfl (n := 5) rfl ?_
  refine G.lloadN C d3_5 rfl (n := 6) rfl ?_
  refine G.lmul C d3_6 (n := 7) rfl ?_
  refine G.fold_long (z := (4 : Int64)) (by decide) ?_
  refine G.lloadN C d3_7 rfl (n := 8) rfl ?_
  refine G.lcmp_gt C (A := 4) (B := 252) (by decide) (by decide) d3_8 d3_9 (by decide) (by decide) (n := 12) (n' := 29) rfl (fun c9_1 => ?_) (fun c9_1 => ?_)
  · exact absurd c9_1 (by decide)
  refine G.lloadN C d3_12 rfl (n := 13) rfl ?_
  refine G.lloadN C d3_13 rfl (n := 14) rfl ?_
  refine G.lrem C d3_14 (by decide) (n := 15) rfl ?_
  refine G.fold_long (z := (0 : Int64)) (by decide) ?_
  refine G.lconst C (v := (0 : Int64)) d3_15 (by decide) (n := 16) rfl ?_
  refine G.lcmp_ne C (A := 0) (B := 0) (by decide) (by decide) d3_16 d3_17 (by decide) (by decide) (n := 20) (n' := 22) rfl (fun c17_2 c17_2i => ?_) (fun c17_2 c17_2i => ?_)
  · exact absurd c17_2 (by decide)
  refine G.iconst C (v := (0 : Int32)) d3_20 (by decide) (n := 21) rfl ?_
  refine G.ireturn C d3_21 (rfl) (by simp) (by decide) (by decide) ?_
  exact ⟨rfl, rfl⟩
theorem ef13 (m : MethodId)  : entryFrame m #[(.long (253 : Int64))] 4 = mkF m 0 #[.val (.long (253 : Int64)), .second, .unset, .unset] [] := by first | (simp [entryFrame, mkF, argsToLocals, Value.category]; done) | rfl
abbrev Q_ip253 (Z : State) (h0 : Heap) (n0 : Nat)  : Option Value → Heap → Prop := fun v h' => v = some (.int 0) ∧ h0 = h'
abbrev R_ip253 : Room := { frames := 0, cells := 0, slots := 0, locals := 0 }
set_option maxRecDepth 65536 in
set_option maxHeartbeats 40000000 in
theorem m_ip253 (l : Launch) (Z : State) (a0 : Array Value) (hw : ∀ d ∈ tables_1, d.before a0 Z = true)  (h0 : Heap) (n0 : Nat) (Z0 : n0 ≤ h0.size)  : Met l Z (⟨"com/example/veilrelay/veilrelay/core/derived/SmallDomain", "isPrime", "(J)Z"⟩ : MethodName) prog_36_method_13_code 4 (some .boolean) R_ip253 #[(.long (253 : Int64))] h0 n0 (Q_ip253 Z h0 n0 ) := by
  refine Met.of (plainFor_of_name pn0) (fun m => ef13 m ) ?_
  intro p e s m args below meth c C
  refine G.ldc2 C (v := (2 : Int64)) (wd hw 23 rfl) d3_0 (n := 3) rfl ?_
  refine G.lstoreN C d3_3 (l' := #[.val (.long (253 : Int64)), .second, .val (.long (2 : Int64)), .second]) rfl (n := 4) rfl ?_
  refine G.lloadN C d3_4 rfl (n := 5) rfl ?_
  refine G.lloadN C d3_5 rfl (n := 6) rfl ?_
  refine G.lmul C d3_6 (n := 7) rfl ?_
  refine G.fold_long (z := (4 : Int64)) (by decide) ?_
  refine G.lloadN C d3_7 rfl (n := 8) rfl ?_
  refine G.lcmp_gt C (A := 4) (B := 253) (by decide) (by decide) d3_8 d3_9 (by decide) (by decide) (n := 12) (n' := 29) rfl (fun c9_1 => ?_) (fun c9_1 => ?_)
  · exact absurd c9_1 (by decide)
  refine G.lloadN C d3_12 rfl (n := 13) rfl ?_
  refine G.lloadN C d3_13 rfl (n := 14) rfl ?_
  refine G.lrem C d3_14 (by decide) (n := 15) rfl ?_
  refine G.fold_long (z := (1 : Int64)) (by decide) ?_
  refine G.lconst C (v := (0 : Int64)) d3_15 (by decide) (n := 16) rfl ?_
  refine G.lcmp_ne C (A := 1) (B := 0) (by decide) (by decide) d3_16 d3_17 (by decide) (by decide) (n := 20) (n' := 22) rfl (fun c17_2 c17_2i => ?_) (fun c17_2 c17_2i => ?_)
  rotate_left
  · exact absurd c17_2 (by decide)
  refine G.lloadN C d3_22 rfl (n := 23) rfl ?_
  refine G.lconst C (v := (1 : Int64)) d3_23 (by decide) (n := 24) rfl ?_
  refine G.ladd C d3_24 (n := 25) rfl ?_
  refine G.fold_long (z := (3 : Int64)) (by decide) ?_
  refine G.lstoreN C d3_25 (l' := #[.val (.long (253 : Int64)), .second, .val (.long (3 : Int64)), .second]) rfl (n := 26) rfl ?_
  refine G.goto C d3_26 (by decide) (n := 4) (by decide) ?_
  refine G.lloadN C d3_4 rfl (n := 5) rfl ?_
  refine G.lloadN C d3_5 rfl (n := 6) rfl ?_
  refine G.lmul C d3_6 (n := 7) rfl ?_
  refine G.fold_long (z := (9 : Int64)) (by decide) ?_
  refine G.lloadN C d3_7 rfl (n := 8) rfl ?_
  refine G.lcmp_gt C (A := 9) (B := 253) (by decide) (by decide) d3_8 d3_9 (by decide) (by decide) (n := 12) (n' := 29) rfl (fun c9_3 => ?_) (fun c9_3 => ?_)
  · exact absurd c9_3 (by decide)
  refine G.lloadN C d3_12 rfl (n := 13) rfl ?_
  refine G.lloadN C d3_13 rfl (n := 14) rfl ?_
  refine G.lrem C d3_14 (by decide) (n := 15) rfl ?_
  refine G.fold_long (z := (1 : Int64)) (by decide) ?_
  refine G.lconst C (v := (0 : Int64)) d3_15 (by decide) (n := 16) rfl ?_
  refine G.lcmp_ne C (A := 1) (B := 0) (by decide) (by decide) d3_16 d3_17 (by decide) (by decide) (n := 20) (n' := 22) rfl (fun c17_4 c17_4i => ?_) (fun c17_4 c17_4i => ?_)
  rotate_left
  · exact absurd c17_4 (by decide)
  refine G.lloadN C d3_22 rfl (n := 23) rfl ?_
  refine G.lconst C (v := (1 : Int64)) d3_23 (by decide) (n := 24) rfl ?_
  refine G.ladd C d3_24 (n := 25) rfl ?_
  refine G.fold_long (z := (4 : Int64)) (by decide) ?_
  refine G.lstoreN C d3_25 (l' := #[.val (.long (253 : Int64)), .second, .val (.long (4 : Int64)), .second]) rfl (n := 26) rfl ?_
  refine G.goto C d3_26 (by decide) (n := 4) (by decide) ?_
  refine G.lloadN C d3_4 rfl (n := 5) rfl ?_
  refine G.lloadN C d3_5 rfl (n := 6) rfl ?_
  refine G.lmul C d3_6 (n := 7) rfl ?_
  refine G.fold_long (z := (16 : Int64)) (by decide) ?_
  refine G.lloadN C d3_7 rfl (n := 8) rfl ?_
  refine G.lcmp_gt C (A := 16) (B := 253) (by decide) (by decide) d3_8 d3_9 (by decide) (by decide) (n := 12) (n' := 29) rfl (fun c9_5 => ?_) (fun c9_5 => ?_)
  · exact absurd c9_5 (by decide)
  refine G.lloadN C d3_12 rfl (n := 13) rfl ?_
  refine G.lloadN C d3_13 rfl (n := 14) rfl ?_
  refine G.lrem C d3_14 (by decide) (n := 15) rfl ?_
  refine G.fold_long (z := (1 : Int64)) (by decide) ?_
  refine G.lconst C (v := (0 : Int64)) d3_15 (by decide) (n := 16) rfl ?_
  refine G.lcmp_ne C (A := 1) (B := 0) (by decide) (by decide) d3_16 d3_17 (by decide) (by decide) (n := 20) (n' := 22) rfl (fun c17_6 c17_6i => ?_) (fun c17_6 c17_6i => ?_)
  rotate_left
  · exact absurd c17_6 (by decide)
  refine G.lloadN C d3_22 rfl (n := 23) rfl ?_
  refine G.lconst C (v := (1 : Int64)) d3_23 (by decide) (n := 24) rfl ?_
  refine G.ladd C d3_24 (n := 25) rfl ?_
  refine G.fold_long (z := (5 : Int64)) (by decide) ?_
  refine G.lstoreN C d3_25 (l' := #[.val (.long (253 : Int64)), .second, .val (.long (5 : Int64)), .second]) rfl (n := 26) rfl ?_
  refine G.goto C d3_26 (by decide) (n := 4) (by decide) ?_
  refine G.lloadN C d3_4 rfl (n := 5) rfl ?_
  refine G.lloadN C d3_5 rfl (n := 6) rfl ?_
  refine G.lmul C d3_6 (n := 7) rfl ?_
  refine G.fold_long (z := (25 : Int64)) (by decide) ?_
  refine G.lloadN C d3_7 rfl (n := 8) rfl ?_
  refine G.lcmp_gt C (A := 25) (B := 253) (by decide) (by decide) d3_8 d3_9 (by decide) (by decide) (n := 12) (n' := 29) rfl (fun c9_7 => ?_) (fun c9_7 => ?_)
  · exact absurd c9_7 (by decide)
  refine G.lloadN C d3_12 rfl (n := 13) rfl ?_
  refine G.lloadN C d3_13 rfl (n := 14) rfl ?_
  refine G.lrem C d3_14 (by decide) (n := 15) rfl ?_
  refine G.fold_long (z := (3 : Int64)) (by decide) ?_
  refine G.lconst C (v := (0 : Int64)) d3_15 (by decide) (n := 16) rfl ?_
  refine G.lcmp_ne C (A := 3) (B := 0) (by decide) (by decide) d3_16 d3_17 (by decide) (by decide) (n := 20) (n' := 22) rfl (fun c17_8 c17_8i => ?_) (fun c17_8 c17_8i => ?_)
  rotate_left
  · exact absurd c17_8 (by decide)
  refine G.lloadN C d3_22 rfl (n := 23) rfl ?_
  refine G.lconst C (v := (1 : Int64)) d3_23 (by decide) (n := 24) rfl ?_
  refine G.ladd C d3_24 (n := 25) rfl ?_
  refine G.fold_long (z := (6 : Int64)) (by decide) ?_
  refine G.lstoreN C d3_25 (l' := #[.val (.long (253 : Int64)), .second, .val (.long (6 : Int64)), .second]) rfl (n := 26) rfl ?_
  refine G.goto C d3_26 (by decide) (n := 4) (by decide) ?_
  refine G.lloadN C d3_4 rfl (n := 5) rfl ?_
  refine G.lloadN C d3_5 rfl (n := 6) rfl ?_
  refine G.lmul C d3_6 (n := 7) rfl ?_
  refine G.fold_long (z := (36 : Int64)) (by decide) ?_
  refine G.lloadN C d3_7 rfl (n := 8) rfl ?_
  refine G.lcmp_gt C (A := 36) (B := 253) (by decide) (by decide) d3_8 d3_9 (by decide) (by decide) (n := 12) (n' := 29) rfl (fun c9_9 => ?_) (fun c9_9 => ?_)
  · exact absurd c9_9 (by decide)
  refine G.lloadN C d3_12 rfl (n := 13) rfl ?_
  refine G.lloadN C d3_13 rfl (n := 14) rfl ?_
  refine G.lrem C d3_14 (by decide) (n := 15) rfl ?_
  refine G.fold_long (z := (1 : Int64)) (by decide) ?_
  refine G.lconst C (v := (0 : Int64)) d3_15 (by decide) (n := 16) rfl ?_
  refine G.lcmp_ne C (A := 1) (B := 0) (by decide) (by decide) d3_16 d3_17 (by decide) (by decide) (n := 20) (n' := 22) rfl (fun c17_10 c17_10i => ?_) (fun c17_10 c17_10i => ?_)
  rotate_left
  · exact absurd c17_10 (by decide)
  refine G.lloadN C d3_22 rfl (n := 23) rfl ?_
  refine G.lconst C (v := (1 : Int64)) d3_23 (by decide) (n := 24) rfl ?_
  refine G.ladd C d3_24 (n := 25) rfl ?_
  refine G.fold_long (z := (7 : Int64)) (by decide) ?_
  refine G.lstoreN C d3_25 (l' := #[.val (.long (253 : Int64)), .second, .val (.long (7 : Int64)), .second]) rfl (n := 26) rfl ?_
  refine G.goto C d3_26 (by decide) (n := 4) (by decide) ?_
  refine G.lloadN C d3_4 rfl (n := 5) rfl ?_
  refine G.lloadN C d3_5 rfl (n := 6) rfl ?_
  refine G.lmul C d3_6 (n := 7) rfl ?_
  refine G.fold_long (z := (49 : Int64)) (by decide) ?_
  refine G.lloadN C d3_7 rfl (n := 8) rfl ?_
  refine G.lcmp_gt C (A := 49) (B := 253) (by decide) (by decide) d3_8 d3_9 (by decide) (by decide) (n := 12) (n' := 29) rfl (fun c9_11 => ?_) (fun c9_11 => ?_)
  · exact absurd c9_11 (by decide)
  refine G.lloadN C d3_12 rfl (n := 13) rfl ?_
  refine G.lloadN C d3_13 rfl (n := 14) rfl ?_
  refine G.lrem C d3_14 (by decide) (n := 15) rfl ?_
  refine G.fold_long (z := (1 : Int64)) (by decide) ?_
  refine G.lconst C (v := (0 : Int64)) d3_15 (by decide) (n := 16) rfl ?_
  refine G.lcmp_ne C (A := 1) (B := 0) (by decide) (by decide) d3_16 d3_17 (by decide) (by decide) (n := 20) (n' := 22) rfl (fun c17_12 c17_12i => ?_) (fun c17_12 c17_12i => ?_)
  rotate_left
  · exact absurd c17_12 (by decide)
  refine G.lloadN C d3_22 rfl (n := 23) rfl ?_
  refine G.lconst C (v := (1 : Int64)) d3_23 (by decide) (n := 24) rfl ?_
  refine G.ladd C d3_24 (n := 25) rfl ?_
  refine G.fold_long (z := (8 : Int64)) (by decide) ?_
  refine G.lstoreN C d3_25 (l' := #[.val (.long (253 : Int64)), .second, .val (.long (8 : Int64)), .second]) rfl (n := 26) rfl ?_
  refine G.goto C d3_26 (by decide) (n := 4) (by decide) ?_
  refine G.lloadN C d3_4 rfl (n := 5) rfl ?_
  refine G.lloadN C d3_5 rfl (n := 6) rfl ?_
  refine G.lmul C d3_6 (n := 7) rfl ?_
  refine G.fold_long (z := (64 : Int64)) (by decide) ?_
  refine G.lloadN C d3_7 rfl (n := 8) rfl ?_
  refine G.lcmp_gt C (A := 64) (B := 253) (by decide) (by decide) d3_8 d3_9 (by decide) (by decide) (n := 12) (n' := 29) rfl (fun c9_13 => ?_) (fun c9_13 => ?_)
  · exact absurd c9_13 (by decide)
  refine G.lloadN C d3_12 rfl (n := 13) rfl ?_
  refine G.lloadN C d3_13 rfl (n := 14) rfl ?_
  refine G.lrem C d3_14 (by decide) (n := 15) rfl ?_
  refine G.fold_long (z := (5 : Int64)) (by decide) ?_
  refine G.lconst C (v := (0 : Int64)) d3_15 (by decide) (n := 16) rfl ?_
  refine G.lcmp_ne C (A := 5) (B := 0) (by decide) (by decide) d3_16 d3_17 (by decide) (by decide) (n := 20) (n' := 22) rfl (fun c17_14 c17_14i => ?_) (fun c17_14 c17_14i => ?_)
  rotate_left
  · exact absurd c17_14 (by decide)
  refine G.lloadN C d3_22 rfl (n := 23) rfl ?_
  refine G.lconst C (v := (1 : Int64)) d3_23 (by decide) (n := 24) rfl ?_
  refine G.ladd C d3_24 (n := 25) rfl ?_
  refine G.fold_long (z := (9 : Int64)) (by decide) ?_
  refine G.lstoreN C d3_25 (l' := #[.val (.long (253 : Int64)), .second, .val (.long (9 : Int64)), .second]) rfl (n := 26) rfl ?_
  refine G.goto C d3_26 (by decide) (n := 4) (by decide) ?_
  refine G.lloadN C d3_4 rfl (n := 5) rfl ?_
  refine G.lloadN C d3_5 rfl (n := 6) rfl ?_
  refine G.lmul C d3_6 (n := 7) rfl ?_
  refine G.fold_long (z := (81 : Int64)) (by decide) ?_
  refine G.lloadN C d3_7 rfl (n := 8) rfl ?_
  refine G.lcmp_gt C (A := 81) (B := 253) (by decide) (by decide) d3_8 d3_9 (by decide) (by decide) (n := 12) (n' := 29) rfl (fun c9_15 => ?_) (fun c9_15 => ?_)
  · exact absurd c9_15 (by decide)
  refine G.lloadN C d3_12 rfl (n := 13) rfl ?_
  refine G.lloadN C d3_13 rfl (n := 14) rfl ?_
  refine G.lrem C d3_14 (by decide) (n := 15) rfl ?_
  refine G.fold_long (z := (1 : Int64)) (by decide) ?_
  refine G.lconst C (v := (0 : Int64)) d3_15 (by decide) (n := 16) rfl ?_
  refine G.lcmp_ne C (A := 1) (B := 0) (by decide) (by decide) d3_16 d3_17 (by decide) (by decide) (n := 20) (n' := 22) rfl (fun c17_16 c17_16i => ?_) (fun c17_16 c17_16i => ?_)
  rotate_left
  · exact absurd c17_16 (by decide)
  refine G.lloadN C d3_22 rfl (n := 23) rfl ?_
  refine G.lconst C (v := (1 : Int64)) d3_23 (by decide) (n := 24) rfl ?_
  refine G.ladd C d3_24 (n := 25) rfl ?_
  refine G.fold_long (z := (10 : Int64)) (by decide) ?_
  refine G.lstoreN C d3_25 (l' := #[.val (.long (253 : Int64)), .second, .val (.long (10 : Int64)), .second]) rfl (n := 26) rfl ?_
  refine G.goto C d3_26 (by decide) (n := 4) (by decide) ?_
  refine G.lloadN C d3_4 rfl (n := 5) rfl ?_
  refine G.lloadN C d3_5 rfl (n := 6) rfl ?_
  refine G.lmul C d3_6 (n := 7) rfl ?_
  refine G.fold_long (z := (100 : Int64)) (by decide) ?_
  refine G.lloadN C d3_7 rfl (n := 8) rfl ?_
  refine G.lcmp_gt C (A := 100) (B := 253) (by decide) (by decide) d3_8 d3_9 (by decide) (by decide) (n := 12) (n' := 29) rfl (fun c9_17 => ?_) (fun c9_17 => ?_)
  · exact absurd c9_17 (by decide)
  refine G.lloadN C d3_12 rfl (n := 13) rfl ?_
  refine G.lloadN C d3_13 rfl (n := 14) rfl ?_
  refine G.lrem C d3_14 (by decide) (n := 15) rfl ?_
  refine G.fold_long (z := (3 : Int64)) (by decide) ?_
  refine G.lconst C (v := (0 : Int64)) d3_15 (by decide) (n := 16) rfl ?_
  refine G.lcmp_ne C (A := 3) (B := 0) (by decide) (by decide) d3_16 d3_17 (by decide) (by decide) (n := 20) (n' := 22) rfl (fun c17_18 c17_18i => ?_) (fun c17_18 c17_18i => ?_)
  rotate_left
  · exact absurd c17_18 (by decide)
  refine G.lloadN C d3_22 rfl (n := 23) rfl ?_
  refine G.lconst C (v := (1 : Int64)) d3_23 (by decide) (n := 24) rfl ?_
  refine G.ladd C d3_24 (n := 25) rfl ?_
  refine G.fold_long (z := (11 : Int64)) (by decide) ?_
  refine G.lstoreN C d3_25 (l' := #[.val (.long (253 : Int64)), .second, .val (.long (11 : Int64)), .second]) rfl (n := 26) rfl ?_
  refine G.goto C d3_26 (by decide) (n := 4) (by decide) ?_
  refine G.lloadN C d3_4 rfl (n := 5) rfl ?_
  refine G.lloadN C d3_5 rfl (n := 6) rfl ?_
  refine G.lmul C d3_6 (n := 7) rfl ?_
  refine G.fold_long (z := (121 : Int64)) (by decide) ?_
  refine G.lloadN C d3_7 rfl (n := 8) rfl ?_
  refine G.lcmp_gt C (A := 121) (B := 253) (by decide) (by decide) d3_8 d3_9 (by decide) (by decide) (n := 12) (n' := 29) rfl (fun c9_19 => ?_) (fun c9_19 => ?_)
  · exact absurd c9_19 (by decide)
  refine G.lloadN C d3_12 rfl (n := 13) rfl ?_
  refine G.lloadN C d3_13 rfl (n := 14) rfl ?_
  refine G.lrem C d3_14 (by decide) (n := 15) rfl ?_
  refine G.fold_long (z := (0 : Int64)) (by decide) ?_
  refine G.lconst C (v := (0 : Int64)) d3_15 (by decide) (n := 16) rfl ?_
  refine G.lcmp_ne C (A := 0) (B := 0) (by decide) (by decide) d3_16 d3_17 (by decide) (by decide) (n := 20) (n' := 22) rfl (fun c17_20 c17_20i => ?_) (fun c17_20 c17_20i => ?_)
  · exact absurd c17_20 (by decide)
  refine G.iconst C (v := (0 : Int32)) d3_20 (by decide) (n := 21) rfl ?_
  refine G.ireturn C d3_21 (rfl) (by simp) (by decide) (by decide) ?_
  exact ⟨rfl, rfl⟩
theorem ef14 (m : MethodId)  : entryFrame m #[(.long (254 : Int64))] 4 = mkF m 0 #[.val (.long (254 : Int64)), .second, .unset, .unset] [] := by first | (simp [entryFrame, mkF, argsToLocals, Value.category]; done) | rfl
abbrev Q_ip254 (Z : State) (h0 : Heap) (n0 : Nat)  : Option Value → Heap → Prop := fun v h' => v = some (.int 0) ∧ h0 = h'
abbrev R_ip254 : Room := { frames := 0, cells := 0, slots := 0, locals := 0 }
set_option maxRecDepth 65536 in
set_option maxHeartbeats 40000000 in
theorem m_ip254 (l : Launch) (Z : State) (a0 : Array Value) (hw : ∀ d ∈ tables_1, d.before a0 Z = true)  (h0 : Heap) (n0 : Nat) (Z0 : n0 ≤ h0.size)  : Met l Z (⟨"com/example/veilrelay/veilrelay/core/derived/SmallDomain", "isPrime", "(J)Z"⟩ : MethodName) prog_36_method_13_code 4 (some .boolean) R_ip254 #[(.long (254 : Int64))] h0 n0 (Q_ip254 Z h0 n0 ) := by
  refine Met.of (plainFor_of_name pn0) (fun m => ef14 m ) ?_
  intro p e s m args below meth c C
  refine G.ldc2 C (v := (2 : Int64)) (wd hw 23 rfl) d3_0 (n := 3) rfl ?_
  refine G.lstoreN C d3_3 (l' := #[.val (.long (254 : Int64)), .second, .val (.long (2 : Int64)), .second]) rfl (n := 4) rfl ?_
  refine G.lloadN C d3_4 rfl (n := 5) rfl ?_
  refine G.lloadN C d3_5 rfl (n := 6) rfl ?_
  refine G.lmul C d3_6 (n := 7) rfl ?_
  refine G.fold_long (z := (4 : Int64)) (by decide) ?_
  refine G.lloadN C d3_7 rfl (n := 8) rfl ?_
  refine G.lcmp_gt C (A := 4) (B := 254) (by decide) (by decide) d3_8 d3_9 (by decide) (by decide) (n := 12) (n' := 29) rfl (fun c9_1 => ?_) (fun c9_1 => ?_)
  · exact absurd c9_1 (by decide)
  refine G.lloadN C d3_12 rfl (n := 13) rfl ?_
  refine G.lloadN C d3_13 rfl (n := 14) rfl ?_
  refine G.lrem C d3_14 (by decide) (n := 15) rfl ?_
  refine G.fold_long (z := (0 : Int64)) (by decide) ?_
  refine G.lconst C (v := (0 : Int64)) d3_15 (by decide) (n := 16) rfl ?_
  refine G.lcmp_ne C (A := 0) (B := 0) (by decide) (by decide) d3_16 d3_17 (by decide) (by decide) (n := 20) (n' := 22) rfl (fun c17_2 c17_2i => ?_) (fun c17_2 c17_2i => ?_)
  · exact absurd c17_2 (by decide)
  refine G.iconst C (v := (0 : Int32)) d3_20 (by decide) (n := 21) rfl ?_
  refine G.ireturn C d3_21 (rfl) (by simp) (by decide) (by decide) ?_
  exact ⟨rfl, rfl⟩
theorem ef15 (m : MethodId)  : entryFrame m #[(.long (255 : Int64))] 4 = mkF m 0 #[.val (.long (255 : Int64)), .second, .unset, .unset] [] := by first | (simp [entryFrame, mkF, argsToLocals, Value.category]; done) | rfl
abbrev Q_ip255 (Z : State) (h0 : Heap) (n0 : Nat)  : Option Value → Heap → Prop := fun v h' => v = some (.int 0) ∧ h0 = h'
abbrev R_ip255 : Room := { frames := 0, cells := 0, slots := 0, locals := 0 }
set_option maxRecDepth 65536 in
set_option maxHeartbeats 40000000 in
theorem m_ip255 (l : Launch) (Z : State) (a0 : Array Value) (hw : ∀ d ∈ tables_1, d.before a0 Z = true)  (h0 : Heap) (n0 : Nat) (Z0 : n0 ≤ h0.size)  : Met l Z (⟨"com/example/veilrelay/veilrelay/core/derived/SmallDomain", "isPrime", "(J)Z"⟩ : MethodName) prog_36_method_13_code 4 (some .boolean) R_ip255 #[(.long (255 : Int64))] h0 n0 (Q_ip255 Z h0 n0 ) := by
  refine Met.of (plainFor_of_name pn0) (fun m => ef15 m ) ?_
  intro p e s m args below meth c C
  refine G.ldc2 C (v := (2 : Int64)) (wd hw 23 rfl) d3_0 (n := 3) rfl ?_
  refine G.lstoreN C d3_3 (l' := #[.val (.long (255 : Int64)), .second, .val (.long (2 : Int64)), .second]) rfl (n := 4) rfl ?_
  refine G.lloadN C d3_4 rfl (n := 5) rfl ?_
  refine G.lloadN C d3_5 rfl (n := 6) rfl ?_
  refine G.lmul C d3_6 (n := 7) rfl ?_
  refine G.fold_long (z := (4 : Int64)) (by decide) ?_
  refine G.lloadN C d3_7 rfl (n := 8) rfl ?_
  refine G.lcmp_gt C (A := 4) (B := 255) (by decide) (by decide) d3_8 d3_9 (by decide) (by decide) (n := 12) (n' := 29) rfl (fun c9_1 => ?_) (fun c9_1 => ?_)
  · exact absurd c9_1 (by decide)
  refine G.lloadN C d3_12 rfl (n := 13) rfl ?_
  refine G.lloadN C d3_13 rfl (n := 14) rfl ?_
  refine G.lrem C d3_14 (by decide) (n := 15) rfl ?_
  refine G.fold_long (z := (1 : Int64)) (by decide) ?_
  refine G.lconst C (v := (0 : Int64)) d3_15 (by decide) (n := 16) rfl ?_
  refine G.lcmp_ne C (A := 1) (B := 0) (by decide) (by decide) d3_16 d3_17 (by decide) (by decide) (n := 20) (n' := 22) rfl (fun c17_2 c17_2i => ?_) (fun c17_2 c17_2i => ?_)
  rotate_left
  · exact absurd c17_2 (by decide)
  refine G.lloadN C d3_22 rfl (n := 23) rfl ?_
  refine G.lconst C (v := (1 : Int64)) d3_23 (by decide) (n := 24) rfl ?_
  refine G.ladd C d3_24 (n := 25) rfl ?_
  refine G.fold_long (z := (3 : Int64)) (by decide) ?_
  refine G.lstoreN C d3_25 (l' := #[.val (.long (255 : Int64)), .second, .val (.long (3 : Int64)), .second]) rfl (n := 26) rfl ?_
  refine G.goto C d3_26 (by decide) (n := 4) (by decide) ?_
  refine G.lloadN C d3_4 rfl (n := 5) rfl ?_
  refine G.lloadN C d3_5 rfl (n := 6) rfl ?_
  refine G.lmul C d3_6 (n := 7) rfl ?_
  refine G.fold_long (z := (9 : Int64)) (by decide) ?_
  refine G.lloadN C d3_7 rfl (n := 8) rfl ?_
  refine G.lcmp_gt C (A := 9) (B := 255) (by decide) (by decide) d3_8 d3_9 (by decide) (by decide) (n := 12) (n' := 29) rfl (fun c9_3 => ?_) (fun c9_3 => ?_)
  · exact absurd c9_3 (by decide)
  refine G.lloadN C d3_12 rfl (n := 13) rfl ?_
  refine G.lloadN C d3_13 rfl (n := 14) rfl ?_
  refine G.lrem C d3_14 (by decide) (n := 15) rfl ?_
  refine G.fold_long (z := (0 : Int64)) (by decide) ?_
  refine G.lconst C (v := (0 : Int64)) d3_15 (by decide) (n := 16) rfl ?_
  refine G.lcmp_ne C (A := 0) (B := 0) (by decide) (by decide) d3_16 d3_17 (by decide) (by decide) (n := 20) (n' := 22) rfl (fun c17_4 c17_4i => ?_) (fun c17_4 c17_4i => ?_)
  · exact absurd c17_4 (by decide)
  refine G.iconst C (v := (0 : Int32)) d3_20 (by decide) (n := 21) rfl ?_
  refine G.ireturn C d3_21 (rfl) (by simp) (by decide) (by decide) ?_
  exact ⟨rfl, rfl⟩
theorem ef16 (m : MethodId)  : entryFrame m #[(.long (509 : Int64))] 4 = mkF m 0 #[.val (.long (509 : Int64)), .second, .unset, .unset] [] := by first | (simp [entryFrame, mkF, argsToLocals, Value.category]; done) | rfl
abbrev Q_ip509 (Z : State) (h0 : Heap) (n0 : Nat)  : Option Value → Heap → Prop := fun v h' => v = some (.int 1) ∧ h0 = h'
abbrev R_ip509 : Room := { frames := 0, cells := 0, slots := 0, locals := 0 }
set_option maxRecDepth 65536 in
set_option maxHeartbeats 40000000 in
theorem m_ip509 (l : Launch) (Z : State) (a0 : Array Value) (hw : ∀ d ∈ tables_1, d.before a0 Z = true)  (h0 : Heap) (n0 : Nat) (Z0 : n0 ≤ h0.size)  : Met l Z (⟨"com/example/veilrelay/veilrelay/core/derived/SmallDomain", "isPrime", "(J)Z"⟩ : MethodName) prog_36_method_13_code 4 (some .boolean) R_ip509 #[(.long (509 : Int64))] h0 n0 (Q_ip509 Z h0 n0 ) := by
  refine Met.of (plainFor_of_name pn0) (fun m => ef16 m ) ?_
  intro p e s m args below meth c C
  refine G.ldc2 C (v := (2 : Int64)) (wd hw 23 rfl) d3_0 (n := 3) rfl ?_
  refine G.lstoreN C d3_3 (l' := #[.val (.long (509 : Int64)), .second, .val (.long (2 : Int64)), .second]) rfl (n := 4) rfl ?_
  refine G.lloadN C d3_4 rfl (n := 5) rfl ?_
  refine G.lloadN C d3_5 rfl (n := 6) rfl ?_
  refine G.lmul C d3_6 (n := 7) rfl ?_
  refine G.fold_long (z := (4 : Int64)) (by decide) ?_
  refine G.lloadN C d3_7 rfl (n := 8) rfl ?_
  refine G.lcmp_gt C (A := 4) (B := 509) (by decide) (by decide) d3_8 d3_9 (by decide) (by decide) (n := 12) (n' := 29) rfl (fun c9_1 => ?_) (fun c9_1 => ?_)
  · exact absurd c9_1 (by decide)
  refine G.lloadN C d3_12 rfl (n := 13) rfl ?_
  refine G.lloadN C d3_13 rfl (n := 14) rfl ?_
  refine G.lrem C d3_14 (by decide) (n := 15) rfl ?_
  refine G.fold_long (z := (1 : Int64)) (by decide) ?_
  refine G.lconst C (v := (0 : Int64)) d3_15 (by decide) (n := 16) rfl ?_
  refine G.lcmp_ne C (A := 1) (B := 0) (by decide) (by decide) d3_16 d3_17 (by decide) (by decide) (n := 20) (n' := 22) rfl (fun c17_2 c17_2i => ?_) (fun c17_2 c17_2i => ?_)
  rotate_left
  · exact absurd c17_2 (by decide)
  refine G.lloadN C d3_22 rfl (n := 23) rfl ?_
  refine G.lconst C (v := (1 : Int64)) d3_23 (by decide) (n := 24) rfl ?_
  refine G.ladd C d3_24 (n := 25) rfl ?_
  refine G.fold_long (z := (3 : Int64)) (by decide) ?_
  refine G.lstoreN C d3_25 (l' := #[.val (.long (509 : Int64)), .second, .val (.long (3 : Int64)), .second]) rfl (n := 26) rfl ?_
  refine G.goto C d3_26 (by decide) (n := 4) (by decide) ?_
  refine G.lloadN C d3_4 rfl (n := 5) rfl ?_
  refine G.lloadN C d3_5 rfl (n := 6) rfl ?_
  refine G.lmul C d3_6 (n := 7) rfl ?_
  refine G.fold_long (z := (9 : Int64)) (by decide) ?_
  refine G.lloadN C d3_7 rfl (n := 8) rfl ?_
  refine G.lcmp_gt C (A := 9) (B := 509) (by decide) (by decide) d3_8 d3_9 (by decide) (by decide) (n := 12) (n' := 29) rfl (fun c9_3 => ?_) (fun c9_3 => ?_)
  · exact absurd c9_3 (by decide)
  refine G.lloadN C d3_12 rfl (n := 13) rfl ?_
  refine G.lloadN C d3_13 rfl (n := 14) rfl ?_
  refine G.lrem C d3_14 (by decide) (n := 15) rfl ?_
  refine G.fold_long (z := (2 : Int64)) (by decide) ?_
  refine G.lconst C (v := (0 : Int64)) d3_15 (by decide) (n := 16) rfl ?_
  refine G.lcmp_ne C (A := 2) (B := 0) (by decide) (by decide) d3_16 d3_17 (by decide) (by decide) (n := 20) (n' := 22) rfl (fun c17_4 c17_4i => ?_) (fun c17_4 c17_4i => ?_)
  rotate_left
  · exact absurd c17_4 (by decide)
  refine G.lloadN C d3_22 rfl (n := 23) rfl ?_
  refine G.lconst C (v := (1 : Int64)) d3_23 (by decide) (n := 24) rfl ?_
  refine G.ladd C d3_24 (n := 25) rfl ?_
  refine G.fold_long (z := (4 : Int64)) (by decide) ?_
  refine G.lstoreN C d3_25 (l' := #[.val (.long (509 : Int64)), .second, .val (.long (4 : Int64)), .second]) rfl (n := 26) rfl ?_
  refine G.goto C d3_26 (by decide) (n := 4) (by decide) ?_
  refine G.lloadN C d3_4 rfl (n := 5) rfl ?_
  refine G.lloadN C d3_5 rfl (n := 6) rfl ?_
  refine G.lmul C d3_6 (n := 7) rfl ?_
  refine G.fold_long (z := (16 : Int64)) (by decide) ?_
  refine G.lloadN C d3_7 rfl (n := 8) rfl ?_
  refine G.lcmp_gt C (A := 16) (B := 509) (by decide) (by decide) d3_8 d3_9 (by decide) (by decide) (n := 12) (n' := 29) rfl (fun c9_5 => ?_) (fun c9_5 => ?_)
  · exact absurd c9_5 (by decide)
  refine G.lloadN C d3_12 rfl (n := 13) rfl ?_
  refine G.lloadN C d3_13 rfl (n := 14) rfl ?_
  refine G.lrem C d3_14 (by decide) (n := 15) rfl ?_
  refine G.fold_long (z := (1 : Int64)) (by decide) ?_
  refine G.lconst C (v := (0 : Int64)) d3_15 (by decide) (n := 16) rfl ?_
  refine G.lcmp_ne C (A := 1) (B := 0) (by decide) (by decide) d3_16 d3_17 (by decide) (by decide) (n := 20) (n' := 22) rfl (fun c17_6 c17_6i => ?_) (fun c17_6 c17_6i => ?_)
  rotate_left
  · exact absurd c17_6 (by decide)
  refine G.lloadN C d3_22 rfl (n := 23) rfl ?_
  refine G.lconst C (v := (1 : Int64)) d3_23 (by decide) (n := 24) rfl ?_
  refine G.ladd C d3_24 (n := 25) rfl ?_
  refine G.fold_long (z := (5 : Int64)) (by decide) ?_
  refine G.lstoreN C d3_25 (l' := #[.val (.long (509 : Int64)), .second, .val (.long (5 : Int64)), .second]) rfl (n := 26) rfl ?_
  refine G.goto C d3_26 (by decide) (n := 4) (by decide) ?_
  refine G.lloadN C d3_4 rfl (n := 5) rfl ?_
  refine G.lloadN C d3_5 rfl (n := 6) rfl ?_
  refine G.lmul C d3_6 (n := 7) rfl ?_
  refine G.fold_long (z := (25 : Int64)) (by decide) ?_
  refine G.lloadN C d3_7 rfl (n := 8) rfl ?_
  refine G.lcmp_gt C (A := 25) (B := 509) (by decide) (by decide) d3_8 d3_9 (by decide) (by decide) (n := 12) (n' := 29) rfl (fun c9_7 => ?_) (fun c9_7 => ?_)
  · exact absurd c9_7 (by decide)
  refine G.lloadN C d3_12 rfl (n := 13) rfl ?_
  refine G.lloadN C d3_13 rfl (n := 14) rfl ?_
  refine G.lrem C d3_14 (by decide) (n := 15) rfl ?_
  refine G.fold_long (z := (4 : Int64)) (by decide) ?_
  refine G.lconst C (v := (0 : Int64)) d3_15 (by decide) (n := 16) rfl ?_
  refine G.lcmp_ne C (A := 4) (B := 0) (by decide) (by decide) d3_16 d3_17 (by decide) (by decide) (n := 20) (n' := 22) rfl (fun c17_8 c17_8i => ?_) (fun c17_8 c17_8i => ?_)
  rotate_left
  · exact absurd c17_8 (by decide)
  refine G.lloadN C d3_22 rfl (n := 23) rfl ?_
  refine G.lconst C (v := (1 : Int64)) d3_23 (by decide) (n := 24) rfl ?_
  refine G.ladd C d3_24 (n := 25) rfl ?_
  refine G.fold_long (z := (6 : Int64)) (by decide) ?_
  refine G.lstoreN C d3_25 (l' := #[.val (.long (509 : Int64)), .second, .val (.long (6 : Int64)), .second]) rfl (n := 26) rfl ?_
  refine G.goto C d3_26 (by decide) (n := 4) (by decide) ?_
  refine G.lloadN C d3_4 rfl (n := 5) rfl ?_
  refine G.lloadN C d3_5 rfl (n := 6) rfl ?_
  refine G.lmul C d3_6 (n := 7) rfl ?_
  refine G.fold_long (z := (36 : Int64)) (by decide) ?_
  refine G.lloadN C d3_7 rfl (n := 8) rfl ?_
  refine G.lcmp_gt C (A := 36) (B := 509) (by decide) (by decide) d3_8 d3_9 (by decide) (by decide) (n := 12) (n' := 29) rfl (fun c9_9 => ?_) (fun c9_9 => ?_)
  · exact absurd c9_9 (by decide)
  refine G.lloadN C d3_12 rfl (n := 13) rfl ?_
  refine G.lloadN C d3_13 rfl (n := 14) rfl ?_
  refine G.lrem C d3_14 (by decide) (n := 15) rfl ?_
  refine G.fold_long (z := (5 : Int64)) (by decide) ?_
  refine G.lconst C (v := (0 : Int64)) d3_15 (by decide) (n := 16) rfl ?_
  refine G.lcmp_ne C (A := 5) (B := 0) (by decide) (by decide) d3_16 d3_17 (by decide) (by decide) (n := 20) (n' := 22) rfl (fun c17_10 c17_10i => ?_) (fun c17_10 c17_10i => ?_)
  rotate_left
  · exact absurd c17_10 (by decide)
  refine G.lloadN C d3_22 rfl (n := 23) rfl ?_
  refine G.lconst C (v := (1 : Int64)) d3_23 (by decide) (n := 24) rfl ?_
  refine G.ladd C d3_24 (n := 25) rfl ?_
  refine G.fold_long (z := (7 : Int64)) (by decide) ?_
  refine G.lstoreN C d3_25 (l' := #[.val (.long (509 : Int64)), .second, .val (.long (7 : Int64)), .second]) rfl (n := 26) rfl ?_
  refine G.goto C d3_26 (by decide) (n := 4) (by decide) ?_
  refine G.lloadN C d3_4 rfl (n := 5) rfl ?_
  refine G.lloadN C d3_5 rfl (n := 6) rfl ?_
  refine G.lmul C d3_6 (n := 7) rfl ?_
  refine G.fold_long (z := (49 : Int64)) (by decide) ?_
  refine G.lloadN C d3_7 rfl (n := 8) rfl ?_
  refine G.lcmp_gt C (A := 49) (B := 509) (by decide) (by decide) d3_8 d3_9 (by decide) (by decide) (n := 12) (n' := 29) rfl (fun c9_11 => ?_) (fun c9_11 => ?_)
  · exact absurd c9_11 (by decide)
  refine G.lloadN C d3_12 rfl (n := 13) rfl ?_
  refine G.lloadN C d3_13 rfl (n := 14) rfl ?_
  refine G.lrem C d3_14 (by decide) (n := 15) rfl ?_
  refine G.fold_long (z := (5 : Int64)) (by decide) ?_
  refine G.lconst C (v := (0 : Int64)) d3_15 (by decide) (n := 16) rfl ?_
  refine G.lcmp_ne C (A := 5) (B := 0) (by decide) (by decide) d3_16 d3_17 (by decide) (by decide) (n := 20) (n' := 22) rfl (fun c17_12 c17_12i => ?_) (fun c17_12 c17_12i => ?_)
  rotate_left
  · exact absurd c17_12 (by decide)
  refine G.lloadN C d3_22 rfl (n := 23) rfl ?_
  refine G.lconst C (v := (1 : Int64)) d3_23 (by decide) (n := 24) rfl ?_
  refine G.ladd C d3_24 (n := 25) rfl ?_
  refine G.fold_long (z := (8 : Int64)) (by decide) ?_
  refine G.lstoreN C d3_25 (l' := #[.val (.long (509 : Int64)), .second, .val (.long (8 : Int64)), .second]) rfl (n := 26) rfl ?_
  refine G.goto C d3_26 (by decide) (n := 4) (by decide) ?_
  refine G.lloadN C d3_4 rfl (n := 5) rfl ?_
  refine G.lloadN C d3_5 rfl (n := 6) rfl ?_
  refine G.lmul C d3_6 (n := 7) rfl ?_
  refine G.fold_long (z := (64 : Int64)) (by decide) ?_
  refine G.lloadN C d3_7 rfl (n := 8) rfl ?_
  refine G.lcmp_gt C (A := 64) (B := 509) (by decide) (by decide) d3_8 d3_9 (by decide) (by decide) (n := 12) (n' := 29) rfl (fun c9_13 => ?_) (fun c9_13 => ?_)
  · exact absurd c9_13 (by decide)
  refine G.lloadN C d3_12 rfl (n := 13) rfl ?_
  refine G.lloadN C d3_13 rfl (n := 14) rfl ?_
  refine G.lrem C d3_14 (by decide) (n := 15) rfl ?_
  refine G.fold_long (z := (5 : Int64)) (by decide) ?_
  refine G.lconst C (v := (0 : Int64)) d3_15 (by decide) (n := 16) rfl ?_
  refine G.lcmp_ne C (A := 5) (B := 0) (by decide) (by decide) d3_16 d3_17 (by decide) (by decide) (n := 20) (n' := 22) rfl (fun c17_14 c17_14i => ?_) (fun c17_14 c17_14i => ?_)
  rotate_left
  · exact absurd c17_14 (by decide)
  refine G.lloadN C d3_22 rfl (n := 23) rfl ?_
  refine G.lconst C (v := (1 : Int64)) d3_23 (by decide) (n := 24) rfl ?_
  refine G.ladd C d3_24 (n := 25) rfl ?_
  refine G.fold_long (z := (9 : Int64)) (by decide) ?_
  refine G.lstoreN C d3_25 (l' := #[.val (.long (509 : Int64)), .second, .val (.long (9 : Int64)), .second]) rfl (n := 26) rfl ?_
  refine G.goto C d3_26 (by decide) (n := 4) (by decide) ?_
  refine G.lloadN C d3_4 rfl (n := 5) rfl ?_
  refine G.lloadN C d3_5 rfl (n := 6) rfl ?_
  refine G.lmul C d3_6 (n := 7) rfl ?_
  refine G.fold_long (z := (81 : Int64)) (by decide) ?_
  refine G.lloadN C d3_7 rfl (n := 8) rfl ?_
  refine G.lcmp_gt C (A := 81) (B := 509) (by decide) (by decide) d3_8 d3_9 (by decide) (by decide) (n := 12) (n' := 29) rfl (fun c9_15 => ?_) (fun c9_15 => ?_)
  · exact absurd c9_15 (by decide)
  refine G.lloadN C d3_12 rfl (n := 13) rfl ?_
  refine G.lloadN C d3_13 rfl (n := 14) rfl ?_
  refine G.lrem C d3_14 (by decide) (n := 15) rfl ?_
  refine G.fold_long (z := (5 : Int64)) (by decide) ?_
  refine G.lconst C (v := (0 : Int64)) d3_15 (by decide) (n := 16) rfl ?_
  refine G.lcmp_ne C (A := 5) (B := 0) (by decide) (by decide) d3_16 d3_17 (by decide) (by decide) (n := 20) (n' := 22) rfl (fun c17_16 c17_16i => ?_) (fun c17_16 c17_16i => ?_)
  rotate_left
  · exact absurd c17_16 (by decide)
  refine G.lloadN C d3_22 rfl (n := 23) rfl ?_
  refine G.lconst C (v := (1 : Int64)) d3_23 (by decide) (n := 24) rfl ?_
  refine G.ladd C d3_24 (n := 25) rfl ?_
  refine G.fold_long (z := (10 : Int64)) (by decide) ?_
  refine G.lstoreN C d3_25 (l' := #[.val (.long (509 : Int64)), .second, .val (.long (10 : Int64)), .second]) rfl (n := 26) rfl ?_
  refine G.goto C d3_26 (by decide) (n := 4) (by decide) ?_
  refine G.lloadN C d3_4 rfl (n := 5) rfl ?_
  refine G.lloadN C d3_5 rfl (n := 6) rfl ?_
  refine G.lmul C d3_6 (n := 7) rfl ?_
  refine G.fold_long (z := (100 : Int64)) (by decide) ?_
  refine G.lloadN C d3_7 rfl (n := 8) rfl ?_
  refine G.lcmp_gt C (A := 100) (B := 509) (by decide) (by decide) d3_8 d3_9 (by decide) (by decide) (n := 12) (n' := 29) rfl (fun c9_17 => ?_) (fun c9_17 => ?_)
  · exact absurd c9_17 (by decide)
  refine G.lloadN C d3_12 rfl (n := 13) rfl ?_
  refine G.lloadN C d3_13 rfl (n := 14) rfl ?_
  refine G.lrem C d3_14 (by decide) (n := 15) rfl ?_
  refine G.fold_long (z := (9 : Int64)) (by decide) ?_
  refine G.lconst C (v := (0 : Int64)) d3_15 (by decide) (n := 16) rfl ?_
  refine G.lcmp_ne C (A := 9) (B := 0) (by decide) (by decide) d3_16 d3_17 (by decide) (by decide) (n := 20) (n' := 22) rfl (fun c17_18 c17_18i => ?_) (fun c17_18 c17_18i => ?_)
  rotate_left
  · exact absurd c17_18 (by decide)
  refine G.lloadN C d3_22 rfl (n := 23) rfl ?_
  refine G.lconst C (v := (1 : Int64)) d3_23 (by decide) (n := 24) rfl ?_
  refine G.ladd C d3_24 (n := 25) rfl ?_
  refine G.fold_long (z := (11 : Int64)) (by decide) ?_
  refine G.lstoreN C d3_25 (l' := #[.val (.long (509 : Int64)), .second, .val (.long (11 : Int64)), .second]) rfl (n := 26) rfl ?_
  refine G.goto C d3_26 (by decide) (n := 4) (by decide) ?_
  refine G.lloadN C d3_4 rfl (n := 5) rfl ?_
  refine G.lloadN C d3_5 rfl (n := 6) rfl ?_
  refine G.lmul C d3_6 (n := 7) rfl ?_
  refine G.fold_long (z := (121 : Int64)) (by decide) ?_
  refine G.lloadN C d3_7 rfl (n := 8) rfl ?_
  refine G.lcmp_gt C (A := 121) (B := 509) (by decide) (by decide) d3_8 d3_9 (by decide) (by decide) (n := 12) (n' := 29) rfl (fun c9_19 => ?_) (fun c9_19 => ?_)
  · exact absurd c9_19 (by decide)
  refine G.lloadN C d3_12 rfl (n := 13) rfl ?_
  refine G.lloadN C d3_13 rfl (n := 14) rfl ?_
  refine G.lrem C d3_14 (by decide) (n := 15) rfl ?_
  refine G.fold_long (z := (3 : Int64)) (by decide) ?_
  refine G.lconst C (v := (0 : Int64)) d3_15 (by decide) (n := 16) rfl ?_
  refine G.lcmp_ne C (A := 3) (B := 0) (by decide) (by decide) d3_16 d3_17 (by decide) (by decide) (n := 20) (n' := 22) rfl (fun c17_20 c17_20i => ?_) (fun c17_20 c17_20i => ?_)
  rotate_left
  · exact absurd c17_20 (by decide)
  refine G.lloadN C d3_22 rfl (n := 23) rfl ?_
  refine G.lconst C (v := (1 : Int64)) d3_23 (by decide) (n := 24) rfl ?_
  refine G.ladd C d3_24 (n := 25) rfl ?_
  refine G.fold_long (z := (12 : Int64)) (by decide) ?_
  refine G.lstoreN C d3_25 (l' := #[.val (.long (509 : Int64)), .second, .val (.long (12 : Int64)), .second]) rfl (n := 26) rfl ?_
  refine G.goto C d3_26 (by decide) (n := 4) (by decide) ?_
  refine G.lloadN C d3_4 rfl (n := 5) rfl ?_
  refine G.lloadN C d3_5 rfl (n := 6) rfl ?_
  refine G.lmul C d3_6 (n := 7) rfl ?_
  refine G.fold_long (z := (144 : Int64)) (by decide) ?_
  refine G.lloadN C d3_7 rfl (n := 8) rfl ?_
  refine G.lcmp_gt C (A := 144) (B := 509) (by decide) (by decide) d3_8 d3_9 (by decide) (by decide) (n := 12) (n' := 29) rfl (fun c9_21 => ?_) (fun c9_21 => ?_)
  · exact absurd c9_21 (by decide)
  refine G.lloadN C d3_12 rfl (n := 13) rfl ?_
  refine G.lloadN C d3_13 rfl (n := 14) rfl ?_
  refine G.lrem C d3_14 (by decide) (n := 15) rfl ?_
  refine G.fold_long (z := (5 : Int64)) (by decide) ?_
  refine G.lconst C (v := (0 : Int64)) d3_15 (by decide) (n := 16) rfl ?_
  refine G.lcmp_ne C (A := 5) (B := 0) (by decide) (by decide) d3_16 d3_17 (by decide) (by decide) (n := 20) (n' := 22) rfl (fun c17_22 c17_22i => ?_) (fun c17_22 c17_22i => ?_)
  rotate_left
  · exact absurd c17_22 (by decide)
  refine G.lloadN C d3_22 rfl (n := 23) rfl ?_
  refine G.lconst C (v := (1 : Int64)) d3_23 (by decide) (n := 24) rfl ?_
  refine G.ladd C d3_24 (n := 25) rfl ?_
  refine G.fold_long (z := (13 : Int64)) (by decide) ?_
  refine G.lstoreN C d3_25 (l' := #[.val (.long (509 : Int64)), .second, .val (.long (13 : Int64)), .second]) rfl (n := 26) rfl ?_
  refine G.goto C d3_26 (by decide) (n := 4) (by decide) ?_
  refine G.lloadN C d3_4 rfl (n := 5) rfl ?_
  refine G.lloadN C d3_5 rfl (n := 6) rfl ?_
  refine G.lmul C d3_6 (n := 7) rfl ?_
  refine G.fold_long (z := (169 : Int64)) (by decide) ?_
  refine G.lloadN C d3_7 rfl (n := 8) rfl ?_
  refine G.lcmp_gt C (A := 169) (B := 509) (by decide) (by decide) d3_8 d3_9 (by decide) (by decide) (n := 12) (n' := 29) rfl (fun c9_23 => ?_) (fun c9_23 => ?_)
  · exact absurd c9_23 (by decide)
  refine G.lloadN C d3_12 rfl (n := 13) rfl ?_
  refine G.lloadN C d3_13 rfl (n := 14) rfl ?_
  refine G.lrem C d3_14 (by decide) (n := 15) rfl ?_
  refine G.fold_long (z := (2 : Int64)) (by decide) ?_
  refine G.lconst C (v := (0 : Int64)) d3_15 (by decide) (n := 16) rfl ?_
  refine G.lcmp_ne C (A := 2) (B := 0) (by decide) (by decide) d3_16 d3_17 (by decide) (by decide) (n := 20) (n' := 22) rfl (fun c17_24 c17_24i => ?_) (fun c17_24 c17_24i => ?_)
  rotate_left
  · exact absurd c17_24 (by decide)
  refine G.lloadN C d3_22 rfl (n := 23) rfl ?_
  refine G.lconst C (v := (1 : Int64)) d3_23 (by decide) (n := 24) rfl ?_
  refine G.ladd C d3_24 (n := 25) rfl ?_
  refine G.fold_long (z := (14 : Int64)) (by decide) ?_
  refine G.lstoreN C d3_25 (l' := #[.val (.long (509 : Int64)), .second, .val (.long (14 : Int64)), .second]) rfl (n := 26) rfl ?_
  refine G.goto C d3_26 (by decide) (n := 4) (by decide) ?_
  refine G.lloadN C d3_4 rfl (n := 5) rfl ?_
  refine G.lloadN C d3_5 rfl (n := 6) rfl ?_
  refine G.lmul C d3_6 (n := 7) rfl ?_
  refine G.fold_long (z := (196 : Int64)) (by decide) ?_
  refine G.lloadN C d3_7 rfl (n := 8) rfl ?_
  refine G.lcmp_gt C (A := 196) (B := 509) (by decide) (by decide) d3_8 d3_9 (by decide) (by decide) (n := 12) (n' := 29) rfl (fun c9_25 => ?_) (fun c9_25 => ?_)
  · exact absurd c9_25 (by decide)
  refine G.lloadN C d3_12 rfl (n := 13) rfl ?_
  refine G.lloadN C d3_13 rfl (n := 14) rfl ?_
  refine G.lrem C d3_14 (by decide) (n := 15) rfl ?_
  refine G.fold_long (z := (5 : Int64)) (by decide) ?_
  refine G.lconst C (v := (0 : Int64)) d3_15 (by decide) (n := 16) rfl ?_
  refine G.lcmp_ne C (A := 5) (B := 0) (by decide) (by decide) d3_16 d3_17 (by decide) (by decide) (n := 20) (n' := 22) rfl (fun c17_26 c17_26i => ?_) (fun c17_26 c17_26i => ?_)
  rotate_left
  · exact absurd c17_26 (by decide)
  refine G.lloadN C d3_22 rfl (n := 23) rfl ?_
  refine G.lconst C (v := (1 : Int64)) d3_23 (by decide) (n := 24) rfl ?_
  refine G.ladd C d3_24 (n := 25) rfl ?_
  refine G.fold_long (z := (15 : Int64)) (by decide) ?_
  refine G.lstoreN C d3_25 (l' := #[.val (.long (509 : Int64)), .second, .val (.long (15 : Int64)), .second]) rfl (n := 26) rfl ?_
  refine G.goto C d3_26 (by decide) (n := 4) (by decide) ?_
  refine G.lloadN C d3_4 rfl (n := 5) rfl ?_
  refine G.lloadN C d3_5 rfl (n := 6) rfl ?_
  refine G.lmul C d3_6 (n := 7) rfl ?_
  refine G.fold_long (z := (225 : Int64)) (by decide) ?_
  refine G.lloadN C d3_7 rfl (n := 8) rfl ?_
  refine G.lcmp_gt C (A := 225) (B := 509) (by decide) (by decide) d3_8 d3_9 (by decide) (by decide) (n := 12) (n' := 29) rfl (fun c9_27 => ?_) (fun c9_27 => ?_)
  · exact absurd c9_27 (by decide)
  refine G.lloadN C d3_12 rfl (n := 13) rfl ?_
  refine G.lloadN C d3_13 rfl (n := 14) rfl ?_
  refine G.lrem C d3_14 (by decide) (n := 15) rfl ?_
  refine G.fold_long (z := (14 : Int64)) (by decide) ?_
  refine G.lconst C (v := (0 : Int64)) d3_15 (by decide) (n := 16) rfl ?_
  refine G.lcmp_ne C (A := 14) (B := 0) (by decide) (by decide) d3_16 d3_17 (by decide) (by decide) (n := 20) (n' := 22) rfl (fun c17_28 c17_28i => ?_) (fun c17_28 c17_28i => ?_)
  rotate_left
  · exact absurd c17_28 (by decide)
  refine G.lloadN C d3_22 rfl (n := 23) rfl ?_
  refine G.lconst C (v := (1 : Int64)) d3_23 (by decide) (n := 24) rfl ?_
  refine G.ladd C d3_24 (n := 25) rfl ?_
  refine G.fold_long (z := (16 : Int64)) (by decide) ?_
  refine G.lstoreN C d3_25 (l' := #[.val (.long (509 : Int64)), .second, .val (.long (16 : Int64)), .second]) rfl (n := 26) rfl ?_
  refine G.goto C d3_26 (by decide) (n := 4) (by decide) ?_
  refine G.lloadN C d3_4 rfl (n := 5) rfl ?_
  refine G.lloadN C d3_5 rfl (n := 6) rfl ?_
  refine G.lmul C d3_6 (n := 7) rfl ?_
  refine G.fold_long (z := (256 : Int64)) (by decide) ?_
  refine G.lloadN C d3_7 rfl (n := 8) rfl ?_
  refine G.lcmp_gt C (A := 256) (B := 509) (by decide) (by decide) d3_8 d3_9 (by decide) (by decide) (n := 12) (n' := 29) rfl (fun c9_29 => ?_) (fun c9_29 => ?_)
  · exact absurd c9_29 (by decide)
  refine G.lloadN C d3_12 rfl (n := 13) rfl ?_
  refine G.lloadN C d3_13 rfl (n := 14) rfl ?_
  refine G.lrem C d3_14 (by decide) (n := 15) rfl ?_
  refine G.fold_long (z := (13 : Int64)) (by decide) ?_
  refine G.lconst C (v := (0 : Int64)) d3_15 (by decide) (n := 16) rfl ?_
  refine G.lcmp_ne C (A := 13) (B := 0) (by decide) (by decide) d3_16 d3_17 (by decide) (by decide) (n := 20) (n' := 22) rfl (fun c17_30 c17_30i => ?_) (fun c17_30 c17_30i => ?_)
  rotate_left
  · exact absurd c17_30 (by decide)
  refine G.lloadN C d3_22 rfl (n := 23) rfl ?_
  refine G.lconst C (v := (1 : Int64)) d3_23 (by decide) (n := 24) rfl ?_
  refine G.ladd C d3_24 (n := 25) rfl ?_
  refine G.fold_long (z := (17 : Int64)) (by decide) ?_
  refine G.lstoreN C d3_25 (l' := #[.val (.long (509 : Int64)), .second, .val (.long (17 : Int64)), .second]) rfl (n := 26) rfl ?_
  refine G.goto C d3_26 (by decide) (n := 4) (by decide) ?_
  refine G.lloadN C d3_4 rfl (n := 5) rfl ?_
  refine G.lloadN C d3_5 rfl (n := 6) rfl ?_
  refine G.lmul C d3_6 (n := 7) rfl ?_
  refine G.fold_long (z := (289 : Int64)) (by decide) ?_
  refine G.lloadN C d3_7 rfl (n := 8) rfl ?_
  refine G.lcmp_gt C (A := 289) (B := 509) (by decide) (by decide) d3_8 d3_9 (by decide) (by decide) (n := 12) (n' := 29) rfl (fun c9_31 => ?_) (fun c9_31 => ?_)
  · exact absurd c9_31 (by decide)
  refine G.lloadN C d3_12 rfl (n := 13) rfl ?_
  refine G.lloadN C d3_13 rfl (n := 14) rfl ?_
  refine G.lrem C d3_14 (by decide) (n := 15) rfl ?_
  refine G.fold_long (z := (16 : Int64)) (by decide) ?_
  refine G.lconst C (v := (0 : Int64)) d3_15 (by decide) (n := 16) rfl ?_
  refine G.lcmp_ne C (A := 16) (B := 0) (by decide) (by decide) d3_16 d3_17 (by decide) (by decide) (n := 20) (n' := 22) rfl (fun c17_32 c17_32i => ?_) (fun c17_32 c17_32i => ?_)
  rotate_left
  · exact absurd c17_32 (by decide)
  refine G.lloadN C d3_22 rfl (n := 23) rfl ?_
  refine G.lconst C (v := (1 : Int64)) d3_23 (by decide) (n := 24) rfl ?_
  refine G.ladd C d3_24 (n := 25) rfl ?_
  refine G.fold_long (z := (18 : Int64)) (by decide) ?_
  refine G.lstoreN C d3_25 (l' := #[.val (.long (509 : Int64)), .second, .val (.long (18 : Int64)), .second]) rfl (n := 26) rfl ?_
  refine G.goto C d3_26 (by decide) (n := 4) (by decide) ?_
  refine G.lloadN C d3_4 rfl (n := 5) rfl ?_
  refine G.lloadN C d3_5 rfl (n := 6) rfl ?_
  refine G.lmul C d3_6 (n := 7) rfl ?_
  refine G.fold_long (z := (324 : Int64)) (by decide) ?_
  refine G.lloadN C d3_7 rfl (n := 8) rfl ?_
  refine G.lcmp_gt C (A := 324) (B := 509) (by decide) (by decide) d3_8 d3_9 (by decide) (by decide) (n := 12) (n' := 29) rfl (fun c9_33 => ?_) (fun c9_33 => ?_)
  · exact absurd c9_33 (by decide)
  refine G.lloadN C d3_12 rfl (n := 13) rfl ?_
  refine G.lloadN C d3_13 rfl (n := 14) rfl ?_
  refine G.lrem C d3_14 (by decide) (n := 15) rfl ?_
  refine G.fold_long (z := (5 : Int64)) (by decide) ?_
  refine G.lconst C (v := (0 : Int64)) d3_15 (by decide) (n := 16) rfl ?_
  refine G.lcmp_ne C (A := 5) (B := 0) (by decide) (by decide) d3_16 d3_17 (by decide) (by decide) (n := 20) (n' := 22) rfl (fun c17_34 c17_34i => ?_) (fun c17_34 c17_34i => ?_)
  rotate_left
  · exact absurd c17_34 (by decide)
  refine G.lloadN C d3_22 rfl (n := 23) rfl ?_
  refine G.lconst C (v := (1 : Int64)) d3_23 (by decide) (n := 24) rfl ?_
  refine G.ladd C d3_24 (n := 25) rfl ?_
  refine G.fold_long (z := (19 : Int64)) (by decide) ?_
  refine G.lstoreN C d3_25 (l' := #[.val (.long (509 : Int64)), .second, .val (.long (19 : Int64)), .second]) rfl (n := 26) rfl ?_
  refine G.goto C d3_26 (by decide) (n := 4) (by decide) ?_
  refine G.lloadN C d3_4 rfl (n := 5) rfl ?_
  refine G.lloadN C d3_5 rfl (n := 6) rfl ?_
  refine G.lmul C d3_6 (n := 7) rfl ?_
  refine G.fold_long (z := (361 : Int64)) (by decide) ?_
  refine G.lloadN C d3_7 rfl (n := 8) rfl ?_
  refine G.lcmp_gt C (A := 361) (B := 509) (by decide) (by decide) d3_8 d3_9 (by decide) (by decide) (n := 12) (n' := 29) rfl (fun c9_35 => ?_) (fun c9_35 => ?_)
  · exact absurd c9_35 (by decide)
  refine G.lloadN C d3_12 rfl (n := 13) rfl ?_
  refine G.lloadN C d3_13 rfl (n := 14) rfl ?_
  refine G.lrem C d3_14 (by decide) (n := 15) rfl ?_
  refine G.fold_long (z := (15 : Int64)) (by decide) ?_
  refine G.lconst C (v := (0 : Int64)) d3_15 (by decide) (n := 16) rfl ?_
  refine G.lcmp_ne C (A := 15) (B := 0) (by decide) (by decide) d3_16 d3_17 (by decide) (by decide) (n := 20) (n' := 22) rfl (fun c17_36 c17_36i => ?_) (fun c17_36 c17_36i => ?_)
  rotate_left
  · exact absurd c17_36 (by decide)
  refine G.lloadN C d3_22 rfl (n := 23) rfl ?_
  refine G.lconst C (v := (1 : Int64)) d3_23 (by decide) (n := 24) rfl ?_
  refine G.ladd C d3_24 (n := 25) rfl ?_
  refine G.fold_long (z := (20 : Int64)) (by decide) ?_
  refine G.lstoreN C d3_25 (l' := #[.val (.long (509 : Int64)), .second, .val (.long (20 : Int64)), .second]) rfl (n := 26) rfl ?_
  refine G.goto C d3_26 (by decide) (n := 4) (by decide) ?_
  refine G.lloadN C d3_4 rfl (n := 5) rfl ?_
  refine G.lloadN C d3_5 rfl (n := 6) rfl ?_
  refine G.lmul C d3_6 (n := 7) rfl ?_
  refine G.fold_long (z := (400 : Int64)) (by decide) ?_
  refine G.lloadN C d3_7 rfl (n := 8) rfl ?_
  refine G.lcmp_gt C (A := 400) (B := 509) (by decide) (by decide) d3_8 d3_9 (by decide) (by decide) (n := 12) (n' := 29) rfl (fun c9_37 => ?_) (fun c9_37 => ?_)
  · exact absurd c9_37 (by decide)
  refine G.lloadN C d3_12 rfl (n := 13) rfl ?_
  refine G.lloadN C d3_13 rfl (n := 14) rfl ?_
  refine G.lrem C d3_14 (by decide) (n := 15) rfl ?_
  refine G.fold_long (z := (9 : Int64)) (by decide) ?_
  refine G.lconst C (v := (0 : Int64)) d3_15 (by decide) (n := 16) rfl ?_
  refine G.lcmp_ne C (A := 9) (B := 0) (by decide) (by decide) d3_16 d3_17 (by decide) (by decide) (n := 20) (n' := 22) rfl (fun c17_38 c17_38i => ?_) (fun c17_38 c17_38i => ?_)
  rotate_left
  · exact absurd c17_38 (by decide)
  refine G.lloadN C d3_22 rfl (n := 23) rfl ?_
  refine G.lconst C (v := (1 : Int64)) d3_23 (by decide) (n := 24) rfl ?_
  refine G.ladd C d3_24 (n := 25) rfl ?_
  refine G.fold_long (z := (21 : Int64)) (by decide) ?_
  refine G.lstoreN C d3_25 (l' := #[.val (.long (509 : Int64)), .second, .val (.long (21 : Int64)), .second]) rfl (n := 26) rfl ?_
  refine G.goto C d3_26 (by decide) (n := 4) (by decide) ?_
  refine G.lloadN C d3_4 rfl (n := 5) rfl ?_
  refine G.lloadN C d3_5 rfl (n := 6) rfl ?_
  refine G.lmul C d3_6 (n := 7) rfl ?_
  refine G.fold_long (z := (441 : Int64)) (by decide) ?_
  refine G.lloadN C d3_7 rfl (n := 8) rfl ?_
  refine G.lcmp_gt C (A := 441) (B := 509) (by decide) (by decide) d3_8 d3_9 (by decide) (by decide) (n := 12) (n' := 29) rfl (fun c9_39 => ?_) (fun c9_39 => ?_)
  · exact absurd c9_39 (by decide)
  refine G.lloadN C d3_12 rfl (n := 13) rfl ?_
  refine G.lloadN C d3_13 rfl (n := 14) rfl ?_
  refine G.lrem C d3_14 (by decide) (n := 15) rfl ?_
  refine G.fold_long (z := (5 : Int64)) (by decide) ?_
  refine G.lconst C (v := (0 : Int64)) d3_15 (by decide) (n := 16) rfl ?_
  refine G.lcmp_ne C (A := 5) (B := 0) (by decide) (by decide) d3_16 d3_17 (by decide) (by decide) (n := 20) (n' := 22) rfl (fun c17_40 c17_40i => ?_) (fun c17_40 c17_40i => ?_)
  rotate_left
  · exact absurd c17_40 (by decide)
  refine G.lloadN C d3_22 rfl (n := 23) rfl ?_
  refine G.lconst C (v := (1 : Int64)) d3_23 (by decide) (n := 24) rfl ?_
  refine G.ladd C d3_24 (n := 25) rfl ?_
  refine G.fold_long (z := (22 : Int64)) (by decide) ?_
  refine G.lstoreN C d3_25 (l' := #[.val (.long (509 : Int64)), .second, .val (.long (22 : Int64)), .second]) rfl (n := 26) rfl ?_
  refine G.goto C d3_26 (by decide) (n := 4) (by decide) ?_
  refine G.lloadN C d3_4 rfl (n := 5) rfl ?_
  refine G.lloadN C d3_5 rfl (n := 6) rfl ?_
  refine G.lmul C d3_6 (n := 7) rfl ?_
  refine G.fold_long (z := (484 : Int64)) (by decide) ?_
  refine G.lloadN C d3_7 rfl (n := 8) rfl ?_
  refine G.lcmp_gt C (A := 484) (B := 509) (by decide) (by decide) d3_8 d3_9 (by decide) (by decide) (n := 12) (n' := 29) rfl (fun c9_41 => ?_) (fun c9_41 => ?_)
  · exact absurd c9_41 (by decide)
  refine G.lloadN C d3_12 rfl (n := 13) rfl ?_
  refine G.lloadN C d3_13 rfl (n := 14) rfl ?_
  refine G.lrem C d3_14 (by decide) (n := 15) rfl ?_
  refine G.fold_long (z := (3 : Int64)) (by decide) ?_
  refine G.lconst C (v := (0 : Int64)) d3_15 (by decide) (n := 16) rfl ?_
  refine G.lcmp_ne C (A := 3) (B := 0) (by decide) (by decide) d3_16 d3_17 (by decide) (by decide) (n := 20) (n' := 22) rfl (fun c17_42 c17_42i => ?_) (fun c17_42 c17_42i => ?_)
  rotate_left
  · exact absurd c17_42 (by decide)
  refine G.lloadN C d3_22 rfl (n := 23) rfl ?_
  refine G.lconst C (v := (1 : Int64)) d3_23 (by decide) (n := 24) rfl ?_
  refine G.ladd C d3_24 (n := 25) rfl ?_
  refine G.fold_long (z := (23 : Int64)) (by decide) ?_
  refine G.lstoreN C d3_25 (l' := #[.val (.long (509 : Int64)), .second, .val (.long (23 : Int64)), .second]) rfl (n := 26) rfl ?_
  refine G.goto C d3_26 (by decide) (n := 4) (by decide) ?_
  refine G.lloadN C d3_4 rfl (n := 5) rfl ?_
  refine G.lloadN C d3_5 rfl (n := 6) rfl ?_
  refine G.lmul C d3_6 (n := 7) rfl ?_
  refine G.fold_long (z := (529 : Int64)) (by decide) ?_
  refine G.lloadN C d3_7 rfl (n := 8) rfl ?_
  refine G.lcmp_gt C (A := 529) (B := 509) (by decide) (by decide) d3_8 d3_9 (by decide) (by decide) (n := 12) (n' := 29) rfl (fun c9_43 => ?_) (fun c9_43 => ?_)
  rotate_left
  · exact absurd c9_43 (by decide)
  refine G.iconst C (v := (1 : Int32)) d3_29 (by decide) (n := 30) rfl ?_
  refine G.ireturn C d3_30 (rfl) (by simp) (by decide) (by decide) ?_
  exact ⟨rfl, rfl⟩
theorem ef17 (m : MethodId)  : entryFrame m #[(.long (510 : Int64))] 4 = mkF m 0 #[.val (.long (510 : Int64)), .second, .unset, .unset] [] := by first | (simp [entryFrame, mkF, argsToLocals, Value.category]; done) | rfl
abbrev Q_ip510 (Z : State) (h0 : Heap) (n0 : Nat)  : Option Value → Heap → Prop := fun v h' => v = some (.int 0) ∧ h0 = h'
abbrev R_ip510 : Room := { frames := 0, cells := 0, slots := 0, locals := 0 }
set_option maxRecDepth 65536 in
set_option maxHeartbeats 40000000 in
theorem m_ip510 (l : Launch) (Z : State) (a0 : Array Value) (hw : ∀ d ∈ tables_1, d.before a0 Z = true)  (h0 : Heap) (n0 : Nat) (Z0 : n0 ≤ h0.size)  : Met l Z (⟨"com/example/veilrelay/veilrelay/core/derived/SmallDomain", "isPrime", "(J)Z"⟩ : MethodName) prog_36_method_13_code 4 (some .boolean) R_ip510 #[(.long (510 : Int64))] h0 n0 (Q_ip510 Z h0 n0 ) := by
  refine Met.of (plainFor_of_name pn0) (fun m => ef17 m ) ?_
  intro p e s m args below meth c C
  refine G.ldc2 C (v := (2 : Int64)) (wd hw 23 rfl) d3_0 (n := 3) rfl ?_
  refine G.lstoreN C d3_3 (l' := #[.val (.long (510 : Int64)), .second, .val (.long (2 : Int64)), .second]) rfl (n := 4) rfl ?_
  refine G.lloadN C d3_4 rfl (n := 5) rfl ?_
  refine G.lloadN C d3_5 rfl (n := 6) rfl ?_
  refine G.lmul C d3_6 (n := 7) rfl ?_
  refine G.fold_long (z := (4 : Int64)) (by decide) ?_
  refine G.lloadN C d3_7 rfl (n := 8) rfl ?_
  refine G.lcmp_gt C (A := 4) (B := 510) (by decide) (by decide) d3_8 d3_9 (by decide) (by decide) (n := 12) (n' := 29) rfl (fun c9_1 => ?_) (fun c9_1 => ?_)
  · exact absurd c9_1 (by decide)
  refine G.lloadN C d3_12 rfl (n := 13) rfl ?_
  refine G.lloadN C d3_13 rfl (n := 14) rfl ?_
  refine G.lrem C d3_14 (by decide) (n := 15) rfl ?_
  refine G.fold_long (z := (0 : Int64)) (by decide) ?_
  refine G.lconst C (v := (0 : Int64)) d3_15 (by decide) (n := 16) rfl ?_
  refine G.lcmp_ne C (A := 0) (B := 0) (by decide) (by decide) d3_16 d3_17 (by decide) (by decide) (n := 20) (n' := 22) rfl (fun c17_2 c17_2i => ?_) (fun c17_2 c17_2i => ?_)
  · exact absurd c17_2 (by decide)
  refine G.iconst C (v := (0 : Int32)) d3_20 (by decide) (n := 21) rfl ?_
  refine G.ireturn C d3_21 (rfl) (by simp) (by decide) (by decide) ?_
  exact ⟨rfl, rfl⟩
theorem ef18 (m : MethodId)  : entryFrame m #[(.long (511 : Int64))] 4 = mkF m 0 #[.val (.long (511 : Int64)), .second, .unset, .unset] [] := by first | (simp [entryFrame, mkF, argsToLocals, Value.category]; done) | rfl
abbrev Q_ip511 (Z : State) (h0 : Heap) (n0 : Nat)  : Option Value → Heap → Prop := fun v h' => v = some (.int 0) ∧ h0 = h'
abbrev R_ip511 : Room := { frames := 0, cells := 0, slots := 0, locals := 0 }
set_option maxRecDepth 65536 in
set_option maxHeartbeats 40000000 in
theorem m_ip511 (l : Launch) (Z : State) (a0 : Array Value) (hw : ∀ d ∈ tables_1, d.before a0 Z = true)  (h0 : Heap) (n0 : Nat) (Z0 : n0 ≤ h0.size)  : Met l Z (⟨"com/example/veilrelay/veilrelay/core/derived/SmallDomain", "isPrime", "(J)Z"⟩ : MethodName) prog_36_method_13_code 4 (some .boolean) R_ip511 #[(.long (511 : Int64))] h0 n0 (Q_ip511 Z h0 n0 ) := by
  refine Met.of (plainFor_of_name pn0) (fun m => ef18 m ) ?_
  intro p e s m args below meth c C
  refine G.ldc2 C (v := (2 : Int64)) (wd hw 23 rfl) d3_0 (n := 3) rfl ?_
  refine G.lstoreN C d3_3 (l' := #[.val (.long (511 : Int64)), .second, .val (.long (2 : Int64)), .second]) rfl (n := 4) rfl ?_
  refine G.lloadN C d3_4 rfl (n := 5) rfl ?_
  refine G.lloadN C d3_5 rfl (n := 6) rfl ?_
  refine G.lmul C d3_6 (n := 7) rfl ?_
  refine G.fold_long (z := (4 : Int64)) (by decide) ?_
  refine G.lloadN C d3_7 rfl (n := 8) rfl ?_
  refine G.lcmp_gt C (A := 4) (B := 511) (by decide) (by decide) d3_8 d3_9 (by decide) (by decide) (n := 12) (n' := 29) rfl (fun c9_1 => ?_) (fun c9_1 => ?_)
  · exact absurd c9_1 (by decide)
  refine G.lloadN C d3_12 rfl (n := 13) rfl ?_
  refine G.lloadN C d3_13 rfl (n := 14) rfl ?_
  refine G.lrem C d3_14 (by decide) (n := 15) rfl ?_
  refine G.fold_long (z := (1 : Int64)) (by decide) ?_
  refine G.lconst C (v := (0 : Int64)) d3_15 (by decide) (n := 16) rfl ?_
  refine G.lcmp_ne C (A := 1) (B := 0) (by decide) (by decide) d3_16 d3_17 (by decide) (by decide) (n := 20) (n' := 22) rfl (fun c17_2 c17_2i => ?_) (fun c17_2 c17_2i => ?_)
  rotate_left
  · exact absurd c17_2 (by decide)
  refine G.lloadN C d3_22 rfl (n := 23) rfl ?_
  refine G.lconst C (v := (1 : Int64)) d3_23 (by decide) (n := 24) rfl ?_
  refine G.ladd C d3_24 (n := 25) rfl ?_
  refine G.fold_long (z := (3 : Int64)) (by decide) ?_
  refine G.lstoreN C d3_25 (l' := #[.val (.long (511 : Int64)), .second, .val (.long (3 : Int64)), .second]) rfl (n := 26) rfl ?_
  refine G.goto C d3_26 (by decide) (n := 4) (by decide) ?_
  refine G.lloadN C d3_4 rfl (n := 5) rfl ?_
  refine G.lloadN C d3_5 rfl (n := 6) rfl ?_
  refine G.lmul C d3_6 (n := 7) rfl ?_
  refine G.fold_long (z := (9 : Int64)) (by decide) ?_
  refine G.lloadN C d3_7 rfl (n := 8) rfl ?_
  refine G.lcmp_gt C (A := 9) (B := 511) (by decide) (by decide) d3_8 d3_9 (by decide) (by decide) (n := 12) (n' := 29) rfl (fun c9_3 => ?_) (fun c9_3 => ?_)
  · exact absurd c9_3 (by decide)
  refine G.lloadN C d3_12 rfl (n := 13) rfl ?_
  refine G.lloadN C d3_13 rfl (n := 14) rfl ?_
  refine G.lrem C d3_14 (by decide) (n := 15) rfl ?_
  refine G.fold_long (z := (1 : Int64)) (by decide) ?_
  refine G.lconst C (v := (0 : Int64)) d3_15 (by decide) (n := 16) rfl ?_
  refine G.lcmp_ne C (A := 1) (B := 0) (by decide) (by decide) d3_16 d3_17 (by decide) (by decide) (n := 20) (n' := 22) rfl (fun c17_4 c17_4i => ?_) (fun c17_4 c17_4i => ?_)
  rotate_left
  · exact absurd c17_4 (by decide)
  refine G.lloadN C d3_22 rfl (n := 23) rfl ?_
  refine G.lconst C (v := (1 : Int64)) d3_23 (by decide) (n := 24) rfl ?_
  refine G.ladd C d3_24 (n := 25) rfl ?_
  refine G.fold_long (z := (4 : Int64)) (by decide) ?_
  refine G.lstoreN C d3_25 (l' := #[.val (.long (511 : Int64)), .second, .val (.long (4 : Int64)), .second]) rfl (n := 26) rfl ?_
  refine G.goto C d3_26 (by decide) (n := 4) (by decide) ?_
  refine G.lloadN C d3_4 rfl (n := 5) rfl ?_
  refine G.lloadN C d3_5 rfl (n := 6) rfl ?_
  refine G.lmul C d3_6 (n := 7) rfl ?_
  refine G.fold_long (z := (16 : Int64)) (by decide) ?_
  refine G.lloadN C d3_7 rfl (n := 8) rfl ?_
  refine G.lcmp_gt C (A := 16) (B := 511) (by decide) (by decide) d3_8 d3_9 (by decide) (by decide) (n := 12) (n' := 29) rfl (fun c9_5 => ?_) (fun c9_5 => ?_)
  · exact absurd c9_5 (by decide)
  refine G.lloadN C d3_12 rfl (n := 13) rfl ?_
  refine G.lloadN C d3_13 rfl (n := 14) rfl ?_
  refine G.lrem C d3_14 (by decide) (n := 15) rfl ?_
  refine G.fold_long (z := (3 : Int64)) (by decide) ?_
  refine G.lconst C (v := (0 : Int64)) d3_15 (by decide) (n := 16) rfl ?_
  refine G.lcmp_ne C (A := 3) (B := 0) (by decide) (by decide) d3_16 d3_17 (by decide) (by decide) (n := 20) (n' := 22) rfl (fun c17_6 c17_6i => ?_) (fun c17_6 c17_6i => ?_)
  rotate_left
  · exact absurd c17_6 (by decide)
  refine G.lloadN C d3_22 rfl (n := 23) rfl ?_
  refine G.lconst C (v := (1 : Int64)) d3_23 (by decide) (n := 24) rfl ?_
  refine G.ladd C d3_24 (n := 25) rfl ?_
  refine G.fold_long (z := (5 : Int64)) (by decide) ?_
  refine G.lstoreN C d3_25 (l' := #[.val (.long (511 : Int64)), .second, .val (.long (5 : Int64)), .second]) rfl (n := 26) rfl ?_
  refine G.goto C d3_26 (by decide) (n := 4) (by decide) ?_
  refine G.lloadN C d3_4 rfl (n := 5) rfl ?_
  refine G.lloadN C d3_5 rfl (n := 6) rfl ?_
  refine G.lmul C d3_6 (n := 7) rfl ?_
  refine G.fold_long (z := (25 : Int64)) (by decide) ?_
  refine G.lloadN C d3_7 rfl (n := 8) rfl ?_
  refine G.lcmp_gt C (A := 25) (B := 511) (by decide) (by decide) d3_8 d3_9 (by decide) (by decide) (n := 12) (n' := 29) rfl (fun c9_7 => ?_) (fun c9_7 => ?_)
  · exact absurd c9_7 (by decide)
  refine G.lloadN C d3_12 rfl (n := 13) rfl ?_
  refine G.lloadN C d3_13 rfl (n := 14) rfl ?_
  refine G.lrem C d3_14 (by decide) (n := 15) rfl ?_
  refine G.fold_long (z := (1 : Int64)) (by decide) ?_
  refine G.lconst C (v := (0 : Int64)) d3_15 (by decide) (n := 16) rfl ?_
  refine G.lcmp_ne C (A := 1) (B := 0) (by decide) (by decide) d3_16 d3_17 (by decide) (by decide) (n := 20) (n' := 22) rfl (fun c17_8 c17_8i => ?_) (fun c17_8 c17_8i => ?_)
  rotate_left
  · exact absurd c17_8 (by decide)
  refine G.lloadN C d3_22 rfl (n := 23) rfl ?_
  refine G.lconst C (v := (1 : Int64)) d3_23 (by decide) (n := 24) rfl ?_
  refine G.ladd C d3_24 (n := 25) rfl ?_
  refine G.fold_long (z := (6 : Int64)) (by decide) ?_
  refine G.lstoreN C d3_25 (l' := #[.val (.long (511 : Int64)), .second, .val (.long (6 : Int64)), .second]) rfl (n := 26) rfl ?_
  refine G.goto C d3_26 (by decide) (n := 4) (by decide) ?_
  refine G.lloadN C d3_4 rfl (n := 5) rfl ?_
  refine G.lloadN C d3_5 rfl (n := 6) rfl ?_
  refine G.lmul C d3_6 (n := 7) rfl ?_
  refine G.fold_long (z := (36 : Int64)) (by decide) ?_
  refine G.lloadN C d3_7 rfl (n := 8) rfl ?_
  refine G.lcmp_gt C (A := 36) (B := 511) (by decide) (by decide) d3_8 d3_9 (by decide) (by decide) (n := 12) (n' := 29) rfl (fun c9_9 => ?_) (fun c9_9 => ?_)
  · exact absurd c9_9 (by decide)
  refine G.lloadN C d3_12 rfl (n := 13) rfl ?_
  refine G.lloadN C d3_13 rfl (n := 14) rfl ?_
  refine G.lrem C d3_14 (by decide) (n := 15) rfl ?_
  refine G.fold_long (z := (1 : Int64)) (by decide) ?_
  refine G.lconst C (v := (0 : Int64)) d3_15 (by decide) (n := 16) rfl ?_
  refine G.lcmp_ne C (A := 1) (B := 0) (by decide) (by decide) d3_16 d3_17 (by decide) (by decide) (n := 20) (n' := 22) rfl (fun c17_10 c17_10i => ?_) (fun c17_10 c17_10i => ?_)
  rotate_left
  · exact absurd c17_10 (by decide)
  refine G.lloadN C d3_22 rfl (n := 23) rfl ?_
  refine G.lconst C (v := (1 : Int64)) d3_23 (by decide) (n := 24) rfl ?_
  refine G.ladd C d3_24 (n := 25) rfl ?_
  refine G.fold_long (z := (7 : Int64)) (by decide) ?_
  refine G.lstoreN C d3_25 (l' := #[.val (.long (511 : Int64)), .second, .val (.long (7 : Int64)), .second]) rfl (n := 26) rfl ?_
  refine G.goto C d3_26 (by decide) (n := 4) (by decide) ?_
  refine G.lloadN C d3_4 rfl (n := 5) rfl ?_
  refine G.lloadN C d3_5 rfl (n := 6) rfl ?_
  refine G.lmul C d3_6 (n := 7) rfl ?_
  refine G.fold_long (z := (49 : Int64)) (by decide) ?_
  refine G.lloadN C d3_7 rfl (n := 8) rfl ?_
  refine G.lcmp_gt C (A := 49) (B := 511) (by decide) (by decide) d3_8 d3_9 (by decide) (by decide) (n := 12) (n' := 29) rfl (fun c9_11 => ?_) (fun c9_11 => ?_)
  · exact absurd c9_11 (by decide)
  refine G.lloadN C d3_12 rfl (n := 13) rfl ?_
  refine G.lloadN C d3_13 rfl (n := 14) rfl ?_
  refine G.lrem C d3_14 (by decide) (n := 15) rfl ?_
  refine G.fold_long (z := (0 : Int64)) (by decide) ?_
  refine G.lconst C (v := (0 : Int64)) d3_15 (by decide) (n := 16) rfl ?_
  refine G.lcmp_ne C (A := 0) (B := 0) (by decide) (by decide) d3_16 d3_17 (by decide) (by decide) (n := 20) (n' := 22) rfl (fun c17_12 c17_12i => ?_) (fun c17_12 c17_12i => ?_)
  · exact absurd c17_12 (by decide)
  refine G.iconst C (v := (0 : Int32)) d3_20 (by decide) (n := 21) rfl ?_
  refine G.ireturn C d3_21 (rfl) (by simp) (by decide) (by decide) ?_
  exact ⟨rfl, rfl⟩
theorem d26_0 : decode prog_36_method_5_code 0 = .ok (.lload_n 1, 1) := by decide +kernel
theorem d26_1 : decode prog_36_method_5_code 1 = .ok (.lconst 1, 1) := by decide +kernel
theorem d26_2 : decode prog_36_method_5_code 2 = .ok (.lcmp, 1) := by decide +kernel
theorem d26_3 : decode prog_36_method_5_code 3 = .ok (.ifCond .lt 16, 3) := by decide +kernel
theorem d26_6 : decode prog_36_method_5_code 6 = .ok (.lload_n 1, 1) := by decide +kernel
theorem d26_7 : decode prog_36_method_5_code 7 = .ok (.aload_n 0, 1) := by decide +kernel
theorem d26_8 : decode prog_36_method_5_code 8 = .ok (.getfield 24, 3) := by decide +kernel
theorem d26_11 : decode prog_36_method_5_code 11 = .ok (.lcmp, 1) := by decide +kernel
theorem d26_12 : decode prog_36_method_5_code 12 = .ok (.ifCond .ge 7, 3) := by decide +kernel
theorem d26_15 : decode prog_36_method_5_code 15 = .ok (.iconst 1, 1) := by decide +kernel
theorem d26_16 : decode prog_36_method_5_code 16 = .ok (.goto 4, 3) := by decide +kernel
theorem d26_19 : decode prog_36_method_5_code 19 = .ok (.iconst 0, 1) := by decide +kernel
theorem d26_20 : decode prog_36_method_5_code 20 = .ok (.ireturn, 1) := by decide +kernel
theorem ef19 (m : MethodId) (a : Addr) (x : Int64) : entryFrame m #[(.ref a), (.long x)] 3 = mkF m 0 #[.val (.ref a), .val (.long x), .second] [] := by first | (simp [entryFrame, mkF, argsToLocals, Value.category]; done) | rfl
abbrev Q_isid (Z : State) (h0 : Heap) (n0 : Nat) (a : Addr) (bb : Int32) (pr : Int64) (fo : Value) (x : Int64) : Option Value → Heap → Prop := fun v h' => v = some (.int (if 1 ≤ x.toInt ∧ x.toInt < pr.toInt then 1 else 0)) ∧ h0 = h'
abbrev R_isid : Room := { frames := 0, cells := 0, slots := 0, locals := 0 }
set_option maxRecDepth 65536 in
set_option maxHeartbeats 40000000 in
theorem m_isid (l : Launch) (Z : State) (a0 : Array Value) (hw : ∀ d ∈ tables_1, d.before a0 Z = true) (a : Addr) (bb : Int32) (pr : Int64) (fo : Value) (x : Int64) (h0 : Heap) (n0 : Nat) (Z0 : n0 ≤ h0.size) (O_a : Ob_Sd Z h0 a bb pr fo) : Met l Z (⟨"com/example/veilrelay/veilrelay/core/derived/SmallDomain", "isId", "(J)Z"⟩ : MethodName) prog_36_method_5_code 3 (some .boolean) R_isid #[(.ref a), (.long x)] h0 n0 (Q_isid Z h0 n0 a bb pr fo x) := by
  refine Met.of (plainFor_of_name pn0) (fun m => ef19 m a x) ?_
  intro p e s m args below meth c C
  refine G.lloadN C d26_0 rfl (n := 1) rfl ?_
  refine G.lconst C (v := (1 : Int64)) d26_1 (by decide) (n := 2) rfl ?_
  refine G.lcmp_lt C (A := x.toInt) (B := 1) rfl (by decide) d26_2 d26_3 (by decide) (by decide) (n := 6) (n' := 19) rfl (fun c3_1 => ?_) (fun c3_1 => ?_)
  · refine G.iconst C (v := (0 : Int32)) d26_19 (by decide) (n := 20) rfl ?_
    refine G.ireturn C d26_20 (rfl) (by simp) (by decide) (by decide) ?_
    exact ⟨by rw [if_neg (by omega)], rfl⟩
  · refine G.lloadN C d26_6 rfl (n := 7) rfl ?_
    refine G.aloadN C d26_7 rfl rfl (n := 8) rfl ?_
    refine G.getfield C (host := "") (Or.inl (wd hw 24 rfl)) Via.refl (O_a.2.2.1) d26_8 (n := 11) rfl ?_
    refine G.lcmp_ge C (A := x.toInt) (B := pr.toInt) rfl rfl d26_11 d26_12 (by decide) (by decide) (n := 15) (n' := 19) rfl (fun c12_2 => ?_) (fun c12_2 => ?_)
    · refine G.iconst C (v := (0 : Int32)) d26_19 (by decide) (n := 20) rfl ?_
      refine G.ireturn C d26_20 (rfl) (by simp) (by decide) (by decide) ?_
      exact ⟨by rw [if_neg (by omega)], rfl⟩
    · refine G.iconst C (v := (1 : Int32)) d26_15 (by decide) (n := 16) rfl ?_
      refine G.goto C d26_16 (by decide) (n := 20) (by decide) ?_
      refine G.ireturn C d26_20 (rfl) (by simp) (by decide) (by decide) ?_
      exact ⟨by rw [if_pos (by omega)], rfl⟩
theorem d7_0 : decode jdk_22_method_1_code 0 = .ok (.aload_n 0, 1) := by decide +kernel
theorem d7_1 : decode jdk_22_method_1_code 1 = .ok (.invokespecial 1, 3) := by decide +kernel
theorem d7_4 : decode jdk_22_method_1_code 4 = .ok (.return_, 1) := by decide +kernel
theorem pn1 : plainName "java/util/AbstractCollection" = true := by first | (simp [plainName, overriddenIn]; done) | decide +kernel
theorem ef20 (m : MethodId) (a : Addr) : entryFrame m #[(.ref a)] 1 = mkF m 0 #[.val (.ref a)] [] := by first | (simp [entryFrame, mkF, argsToLocals, Value.category]; done) | rfl
abbrev Q_acol (Z : State) (h0 : Heap) (n0 : Nat) (a : Addr) : Option Value → Heap → Prop := fun v h' => v = none ∧ h0 = h'
abbrev R_acol : Room := { frames := 1, cells := 0, slots := 0, locals := 12 }
set_option maxRecDepth 65536 in
set_option maxHeartbeats 40000000 in
theorem m_acol (l : Launch) (Z : State) (a0 : Array Value) (hw : ∀ d ∈ tables_1, d.before a0 Z = true) (a : Addr) (h0 : Heap) (n0 : Nat) (Z0 : n0 ≤ h0.size)  : Met l Z (⟨"java/util/AbstractCollection", "<init>", "()V"⟩ : MethodName) jdk_22_method_1_code 1 none R_acol #[(.ref a)] h0 n0 (Q_acol Z h0 n0 a) := by
  refine Met.of (plainFor_of_name pn1) (fun m => ef20 m a) ?_
  intro p e s m args below meth c C
  refine G.aloadN C d7_0 rfl rfl (n := 1) rfl ?_
  refine G.objinit C (wd hw 47 rfl) (wd hw 16 rfl) (wd hw 17 rfl) d7_1 rfl (by decide) (W := 0) rfl (by decide) (n := 4) rfl ?_
  refine G.return_ C d7_4 (by decide) (by decide) ?_
  exact ⟨rfl, rfl⟩
theorem d24_0 : decode jdk_47_method_1_code 0 = .ok (.aload_n 0, 1) := by decide +kernel
theorem d24_1 : decode jdk_47_method_1_code 1 = .ok (.invokespecial 1, 3) := by decide +kernel
theorem d24_4 : decode jdk_47_method_1_code 4 = .ok (.return_, 1) := by decide +kernel
theorem pd0 : parseMethodDescriptor "()V" = some ⟨[], none⟩ := by decide +kernel
theorem pn2 : plainName "java/util/ImmutableCollections$AbstractImmutableCollection" = true := by first | (simp [plainName, overriddenIn]; done) | decide +kernel
theorem ef21 (m : MethodId) (a : Addr) : entryFrame m #[(.ref a)] 1 = mkF m 0 #[.val (.ref a)] [] := by first | (simp [entryFrame, mkF, argsToLocals, Value.category]; done) | rfl
abbrev Q_aic (Z : State) (h0 : Heap) (n0 : Nat) (a : Addr) : Option Value → Heap → Prop := fun v h' => v = none ∧ h0 = h'
abbrev R_aic : Room := { frames := 2, cells := 0, slots := 0, locals := 24 }
set_option maxRecDepth 65536 in
set_option maxHeartbeats 40000000 in
theorem m_aic (l : Launch) (Z : State) (a0 : Array Value) (hw : ∀ d ∈ tables_1, d.before a0 Z = true) (a : Addr) (h0 : Heap) (n0 : Nat) (Z0 : n0 ≤ h0.size)  : Met l Z (⟨"java/util/ImmutableCollections$AbstractImmutableCollection", "<init>", "()V"⟩ : MethodName) jdk_47_method_1_code 1 none R_aic #[(.ref a)] h0 n0 (Q_aic Z h0 n0 a) := by
  refine Met.of (plainFor_of_name pn2) (fun m => ef21 m a) ?_
  intro p e s m args below meth c C
  refine G.aloadN C d24_0 rfl rfl (n := 1) rfl ?_
  refine G.callC C (argsL := []) (yc := (⟨"java/util/AbstractCollection", "<init>", "()V"⟩ : MethodName)) (a := a) rfl (wd hw 171 rfl) (wd hw 42 rfl) (wd hw 45 rfl) (wd hw 46 rfl) (by decide) (m_acol l Z a0 hw a h0 n0 Z0) rfl (by decide) (W := 0) rfl (by decide) (c' := 0) (s' := 0) rfl rfl (by decide) (by decide) d24_1 (n := 4) rfl pd0 rfl rfl ?_
  rintro _ _ ⟨rfl, rfl⟩
  refine G.return_ C d24_4 (by decide) (by decide) ?_
  exact ⟨rfl, rfl⟩
theorem d23_0 : decode jdk_46_method_1_code 0 = .ok (.aload_n 0, 1) := by decide +kernel
theorem d23_1 : decode jdk_46_method_1_code 1 = .ok (.invokespecial 1, 3) := by decide +kernel
theorem d23_4 : decode jdk_46_method_1_code 4 = .ok (.return_, 1) := by decide +kernel
theorem pn3 : plainName "java/util/ImmutableCollections$AbstractImmutableList" = true := by first | (simp [plainName, overriddenIn]; done) | decide +kernel
theorem ef22 (m : MethodId) (a : Addr) : entryFrame m #[(.ref a)] 1 = mkF m 0 #[.val (.ref a)] [] := by first | (simp [entryFrame, mkF, argsToLocals, Value.category]; done) | rfl
abbrev Q_ail (Z : State) (h0 : Heap) (n0 : Nat) (a : Addr) : Option Value → Heap → Prop := fun v h' => v = none ∧ h0 = h'
abbrev R_ail : Room := { frames := 3, cells := 0, slots := 0, locals := 36 }
set_option maxRecDepth 65536 in
set_option maxHeartbeats 40000000 in
theorem m_ail (l : Launch) (Z : State) (a0 : Array Value) (hw : ∀ d ∈ tables_1, d.before a0 Z = true) (a : Addr) (h0 : Heap) (n0 : Nat) (Z0 : n0 ≤ h0.size)  : Met l Z (⟨"java/util/ImmutableCollections$AbstractImmutableList", "<init>", "()V"⟩ : MethodName) jdk_46_method_1_code 1 none R_ail #[(.ref a)] h0 n0 (Q_ail Z h0 n0 a) := by
  refine Met.of (plainFor_of_name pn3) (fun m => ef22 m a) ?_
  intro p e s m args below meth c C
  refine G.aloadN C d23_0 rfl rfl (n := 1) rfl ?_
  refine G.callC C (argsL := []) (yc := (⟨"java/util/ImmutableCollections$AbstractImmutableCollection", "<init>", "()V"⟩ : MethodName)) (a := a) rfl (wd hw 165 rfl) (wd hw 166 rfl) (wd hw 169 rfl) (wd hw 170 rfl) (by decide) (m_aic l Z a0 hw a h0 n0 Z0) rfl (by decide) (W := 0) rfl (by decide) (c' := 0) (s' := 0) rfl rfl (by decide) (by decide) d23_1 (n := 4) rfl pd0 rfl rfl ?_
  rintro _ _ ⟨rfl, rfl⟩
  refine G.return_ C d23_4 (by decide) (by decide) ?_
  exact ⟨rfl, rfl⟩
theorem d25_0 : decode jdk_31_method_10_code 0 = .ok (.aload_n 0, 1) := by decide +kernel
theorem d25_1 : decode jdk_31_method_10_code 1 = .ok (.ifnonnull 11, 3) := by decide +kernel
theorem d25_4 : decode jdk_31_method_10_code 4 = .ok (.new 84, 3) := by decide +kernel
theorem d25_7 : decode jdk_31_method_10_code 7 = .ok (.dup, 1) := by decide +kernel
theorem d25_8 : decode jdk_31_method_10_code 8 = .ok (.invokespecial 86, 3) := by decide +kernel
theorem d25_11 : decode jdk_31_method_10_code 11 = .ok (.athrow, 1) := by decide +kernel
theorem d25_12 : decode jdk_31_method_10_code 12 = .ok (.aload_n 0, 1) := by decide +kernel
theorem d25_13 : decode jdk_31_method_10_code 13 = .ok (.areturn, 1) := by decide +kernel
theorem pn4 : plainName "java/util/Objects" = true := by first | (simp [plainName, overriddenIn]; done) | decide +kernel
theorem ef23 (m : MethodId) (x : Addr) : entryFrame m #[(.ref x)] 1 = mkF m 0 #[.val (.ref x)] [] := by first | (simp [entryFrame, mkF, argsToLocals, Value.category]; done) | rfl
abbrev Q_rnn (Z : State) (h0 : Heap) (n0 : Nat) (x : Addr) : Option Value → Heap → Prop := fun v h' => v = some (.ref x) ∧ h0 = h'
abbrev R_rnn : Room := { frames := 0, cells := 0, slots := 0, locals := 0 }
set_option maxRecDepth 65536 in
set_option maxHeartbeats 40000000 in
theorem m_rnn (l : Launch) (Z : State) (a0 : Array Value) (hw : ∀ d ∈ tables_1, d.before a0 Z = true) (x : Addr) (h0 : Heap) (n0 : Nat) (Z0 : n0 ≤ h0.size)  : Met l Z (⟨"java/util/Objects", "requireNonNull", "(Ljava/lang/Object;)Ljava/lang/Object;"⟩ : MethodName) jdk_31_method_10_code 1 (some (.object "java/lang/Object")) R_rnn #[(.ref x)] h0 n0 (Q_rnn Z h0 n0 x) := by
  refine Met.of (plainFor_of_name pn4) (fun m => ef23 m x) ?_
  intro p e s m args below meth c C
  refine G.aloadN C d25_0 rfl rfl (n := 1) rfl ?_
  refine G.ifnonnullY C d25_1 (by decide) (n := 12) (by decide) ?_
  refine G.aloadN C d25_12 rfl rfl (n := 13) rfl ?_
  refine G.areturn C d25_13 rfl rfl rfl (by decide) (by decide) ?_
  exact ⟨rfl, rfl⟩
theorem d13_0 : decode jdk_29_method_65_code 0 = .ok (.iload_n 0, 1) := by decide +kernel
theorem d13_1 : decode jdk_29_method_65_code 1 = .ok (.iload_n 1, 1) := by decide +kernel
theorem d13_2 : decode jdk_29_method_65_code 2 = .ok (.if_icmp .lt 7, 3) := by decide +kernel
theorem d13_5 : decode jdk_29_method_65_code 5 = .ok (.iload_n 0, 1) := by decide +kernel
theorem d13_6 : decode jdk_29_method_65_code 6 = .ok (.goto 4, 3) := by decide +kernel
theorem d13_9 : decode jdk_29_method_65_code 9 = .ok (.iload_n 1, 1) := by decide +kernel
theorem d13_10 : decode jdk_29_method_65_code 10 = .ok (.ireturn, 1) := by decide +kernel
theorem ef24 (m : MethodId)  : entryFrame m #[(.int (10 : Int32)), (.int (1 : Int32))] 2 = mkF m 0 #[.val (.int (10 : Int32)), .val (.int (1 : Int32))] [] := by first | (simp [entryFrame, mkF, argsToLocals, Value.category]; done) | rfl
abbrev Q_mx1 (Z : State) (h0 : Heap) (n0 : Nat)  : Option Value → Heap → Prop := fun v h' => v = some (.int 10) ∧ h0 = h'
abbrev R_mx1 : Room := { frames := 0, cells := 0, slots := 0, locals := 0 }
set_option maxRecDepth 65536 in
set_option maxHeartbeats 40000000 in
theorem m_mx1 (l : Launch) (Z : State) (a0 : Array Value) (hw : ∀ d ∈ tables_1, d.before a0 Z = true)  (h0 : Heap) (n0 : Nat) (Z0 : n0 ≤ h0.size)  : Met l Z (⟨"java/lang/Math", "max", "(II)I"⟩ : MethodName) jdk_29_method_65_code 2 (some .int) R_mx1 #[(.int (10 : Int32)), (.int (1 : Int32))] h0 n0 (Q_mx1 Z h0 n0 ) := by
  refine Met.of ((by first | decide +kernel | (simp [plainFor, overriddenIn]; done))) (fun m => ef24 m ) ?_
  intro p e s m args below meth c C
  refine G.iloadN C d13_0 rfl (n := 1) rfl ?_
  refine G.iloadN C d13_1 rfl (n := 2) rfl ?_
  refine G.icmp_lt C (A := 10) (B := 1) (by decide) (by decide) d13_2 (by decide) (by decide) (n := 5) (n' := 9) rfl (fun c2_1 => ?_) (fun c2_1 => ?_)
  · exact absurd c2_1 (by decide)
  refine G.iloadN C d13_5 rfl (n := 6) rfl ?_
  refine G.goto C d13_6 (by decide) (n := 10) (by decide) ?_
  refine G.ireturn C d13_10 (rfl) (by simp) (by decide) (by decide) ?_
  exact ⟨rfl, rfl⟩
theorem d20_0 : decode jdk_29_method_69_code 0 = .ok (.iload_n 0, 1) := by decide +kernel
theorem d20_1 : decode jdk_29_method_69_code 1 = .ok (.iload_n 1, 1) := by decide +kernel
theorem d20_2 : decode jdk_29_method_69_code 2 = .ok (.if_icmp .gt 7, 3) := by decide +kernel
theorem d20_5 : decode jdk_29_method_69_code 5 = .ok (.iload_n 0, 1) := by decide +kernel
theorem d20_6 : decode jdk_29_method_69_code 6 = .ok (.goto 4, 3) := by decide +kernel
theorem d20_9 : decode jdk_29_method_69_code 9 = .ok (.iload_n 1, 1) := by decide +kernel
theorem d20_10 : decode jdk_29_method_69_code 10 = .ok (.ireturn, 1) := by decide +kernel
theorem ef25 (m : MethodId)  : entryFrame m #[(.int (10 : Int32)), (.int (1 : Int32))] 2 = mkF m 0 #[.val (.int (10 : Int32)), .val (.int (1 : Int32))] [] := by first | (simp [entryFrame, mkF, argsToLocals, Value.category]; done) | rfl
abbrev Q_mi1 (Z : State) (h0 : Heap) (n0 : Nat)  : Option Value → Heap → Prop := fun v h' => v = some (.int 1) ∧ h0 = h'
abbrev R_mi1 : Room := { frames := 0, cells := 0, slots := 0, locals := 0 }
set_option maxRecDepth 65536 in
set_option maxHeartbeats 40000000 in
theorem m_mi1 (l : Launch) (Z : State) (a0 : Array Value) (hw : ∀ d ∈ tables_1, d.before a0 Z = true)  (h0 : Heap) (n0 : Nat) (Z0 : n0 ≤ h0.size)  : Met l Z (⟨"java/lang/Math", "min", "(II)I"⟩ : MethodName) jdk_29_method_69_code 2 (some .int) R_mi1 #[(.int (10 : Int32)), (.int (1 : Int32))] h0 n0 (Q_mi1 Z h0 n0 ) := by
  refine Met.of ((by first | decide +kernel | (simp [plainFor, overriddenIn]; done))) (fun m => ef25 m ) ?_
  intro p e s m args below meth c C
  refine G.iloadN C d20_0 rfl (n := 1) rfl ?_
  refine G.iloadN C d20_1 rfl (n := 2) rfl ?_
  refine G.icmp_gt C (A := 10) (B := 1) (by decide) (by decide) d20_2 (by decide) (by decide) (n := 5) (n' := 9) rfl (fun c2_1 => ?_) (fun c2_1 => ?_)
  rotate_left
  · exact absurd c2_1 (by decide)
  refine G.iloadN C d20_9 rfl (n := 10) rfl ?_
  refine G.ireturn C d20_10 (rfl) (by simp) (by decide) (by decide) ?_
  exact ⟨rfl, rfl⟩
theorem ef26 (m : MethodId)  : entryFrame m #[(.int (10 : Int32)), (.int (2 : Int32))] 2 = mkF m 0 #[.val (.int (10 : Int32)), .val (.int (2 : Int32))] [] := by first | (simp [entryFrame, mkF, argsToLocals, Value.category]; done) | rfl
abbrev Q_mi2 (Z : State) (h0 : Heap) (n0 : Nat)  : Option Value → Heap → Prop := fun v h' => v = some (.int 2) ∧ h0 = h'
abbrev R_mi2 : Room := { frames := 0, cells := 0, slots := 0, locals := 0 }
set_option maxRecDepth 65536 in
set_option maxHeartbeats 40000000 in
theorem m_mi2 (l : Launch) (Z : State) (a0 : Array Value) (hw : ∀ d ∈ tables_1, d.before a0 Z = true)  (h0 : Heap) (n0 : Nat) (Z0 : n0 ≤ h0.size)  : Met l Z (⟨"java/lang/Math", "min", "(II)I"⟩ : MethodName) jdk_29_method_69_code 2 (some .int) R_mi2 #[(.int (10 : Int32)), (.int (2 : Int32))] h0 n0 (Q_mi2 Z h0 n0 ) := by
  refine Met.of ((by first | decide +kernel | (simp [plainFor, overriddenIn]; done))) (fun m => ef26 m ) ?_
  intro p e s m args below meth c C
  refine G.iloadN C d20_0 rfl (n := 1) rfl ?_
  refine G.iloadN C d20_1 rfl (n := 2) rfl ?_
  refine G.icmp_gt C (A := 10) (B := 2) (by decide) (by decide) d20_2 (by decide) (by decide) (n := 5) (n' := 9) rfl (fun c2_1 => ?_) (fun c2_1 => ?_)
  rotate_left
  · exact absurd c2_1 (by decide)
  refine G.iloadN C d20_9 rfl (n := 10) rfl ?_
  refine G.ireturn C d20_10 (rfl) (by simp) (by decide) (by decide) ?_
  exact ⟨rfl, rfl⟩
theorem ef27 (m : MethodId)  : entryFrame m #[(.int (10 : Int32)), (.int (3 : Int32))] 2 = mkF m 0 #[.val (.int (10 : Int32)), .val (.int (3 : Int32))] [] := by first | (simp [entryFrame, mkF, argsToLocals, Value.category]; done) | rfl
abbrev Q_mi3 (Z : State) (h0 : Heap) (n0 : Nat)  : Option Value → Heap → Prop := fun v h' => v = some (.int 3) ∧ h0 = h'
abbrev R_mi3 : Room := { frames := 0, cells := 0, slots := 0, locals := 0 }
set_option maxRecDepth 65536 in
set_option maxHeartbeats 40000000 in
theorem m_mi3 (l : Launch) (Z : State) (a0 : Array Value) (hw : ∀ d ∈ tables_1, d.before a0 Z = true)  (h0 : Heap) (n0 : Nat) (Z0 : n0 ≤ h0.size)  : Met l Z (⟨"java/lang/Math", "min", "(II)I"⟩ : MethodName) jdk_29_method_69_code 2 (some .int) R_mi3 #[(.int (10 : Int32)), (.int (3 : Int32))] h0 n0 (Q_mi3 Z h0 n0 ) := by
  refine Met.of ((by first | decide +kernel | (simp [plainFor, overriddenIn]; done))) (fun m => ef27 m ) ?_
  intro p e s m args below meth c C
  refine G.iloadN C d20_0 rfl (n := 1) rfl ?_
  refine G.iloadN C d20_1 rfl (n := 2) rfl ?_
  refine G.icmp_gt C (A := 10) (B := 3) (by decide) (by decide) d20_2 (by decide) (by decide) (n := 5) (n' := 9) rfl (fun c2_1 => ?_) (fun c2_1 => ?_)
  rotate_left
  · exact absurd c2_1 (by decide)
  refine G.iloadN C d20_9 rfl (n := 10) rfl ?_
  refine G.ireturn C d20_10 (rfl) (by simp) (by decide) (by decide) ?_
  exact ⟨rfl, rfl⟩
theorem d8_0 : decode jdk_35_method_24_code 0 = .ok (.sipush 128, 3) := by decide +kernel
theorem d8_3 : decode jdk_35_method_24_code 3 = .ok (.istore_n 2, 1) := by decide +kernel
theorem d8_4 : decode jdk_35_method_24_code 4 = .ok (.lload_n 0, 1) := by decide +kernel
theorem d8_5 : decode jdk_35_method_24_code 5 = .ok (.ldc2_w 230, 3) := by decide +kernel
theorem d8_8 : decode jdk_35_method_24_code 8 = .ok (.lcmp, 1) := by decide +kernel
theorem d8_9 : decode jdk_35_method_24_code 9 = .ok (.ifCond .lt 22, 3) := by decide +kernel
theorem d8_12 : decode jdk_35_method_24_code 12 = .ok (.lload_n 0, 1) := by decide +kernel
theorem d8_13 : decode jdk_35_method_24_code 13 = .ok (.ldc2_w 232, 3) := by decide +kernel
theorem d8_16 : decode jdk_35_method_24_code 16 = .ok (.lcmp, 1) := by decide +kernel
theorem d8_17 : decode jdk_35_method_24_code 17 = .ok (.ifCond .gt 14, 3) := by decide +kernel
theorem d8_20 : decode jdk_35_method_24_code 20 = .ok (.getstatic 234, 3) := by decide +kernel
theorem d8_23 : decode jdk_35_method_24_code 23 = .ok (.lload_n 0, 1) := by decide +kernel
theorem d8_24 : decode jdk_35_method_24_code 24 = .ok (.l2i, 1) := by decide +kernel
theorem d8_25 : decode jdk_35_method_24_code 25 = .ok (.sipush 128, 3) := by decide +kernel
theorem d8_28 : decode jdk_35_method_24_code 28 = .ok (.iadd, 1) := by decide +kernel
theorem d8_29 : decode jdk_35_method_24_code 29 = .ok (.aaload, 1) := by decide +kernel
theorem d8_30 : decode jdk_35_method_24_code 30 = .ok (.areturn, 1) := by decide +kernel
theorem d8_31 : decode jdk_35_method_24_code 31 = .ok (.new 1, 3) := by decide +kernel
theorem d8_34 : decode jdk_35_method_24_code 34 = .ok (.dup, 1) := by decide +kernel
theorem d8_35 : decode jdk_35_method_24_code 35 = .ok (.lload_n 0, 1) := by decide +kernel
theorem d8_36 : decode jdk_35_method_24_code 36 = .ok (.invokespecial 240, 3) := by decide +kernel
theorem d8_39 : decode jdk_35_method_24_code 39 = .ok (.areturn, 1) := by decide +kernel
theorem pn5 : plainName "java/lang/Long" = true := by first | (simp [plainName, overriddenIn]; done) | decide +kernel
theorem ef28 (m : MethodId)  : entryFrame m #[(.long (2 : Int64))] 3 = mkF m 0 #[.val (.long (2 : Int64)), .second, .unset] [] := by first | (simp [entryFrame, mkF, argsToLocals, Value.category]; done) | rfl
abbrev Q_vo2 (Z : State) (h0 : Heap) (n0 : Nat) (lc : Addr) (lv : List Value) (x : Addr) : Option Value → Heap → Prop := fun v h' => v = some (.ref x) ∧ h0 = h'
abbrev R_vo2 : Room := { frames := 0, cells := 0, slots := 0, locals := 0 }
set_option maxRecDepth 65536 in
set_option maxHeartbeats 40000000 in
theorem m_vo2 (l : Launch) (Z : State) (a0 : Array Value) (hw : ∀ d ∈ tables_1, d.before a0 Z = true) (lc : Addr) (lv : List Value) (x : Addr) (h0 : Heap) (n0 : Nat) (Z0 : n0 ≤ h0.size) (OLD0 : Old Z n0 h0) (S_lc : Sta Z Z.heap "java/lang/Long$LongCache" "cache" "[Ljava/lang/Long;" (.ref lc)) (O_lc : Refs Z Z.heap lc (.object "java/lang/Long") lv) (q_x : lv[130]? = some (.ref x)) : Met l Z (⟨"java/lang/Long", "valueOf", "(J)Ljava/lang/Long;"⟩ : MethodName) jdk_35_method_24_code 3 (some (.object "java/lang/Long")) R_vo2 #[(.long (2 : Int64))] h0 n0 (Q_vo2 Z h0 n0 lc lv x) := by
  refine Met.of (plainFor_of_name pn5) (fun m => ef28 m ) ?_
  intro p e s m args below meth c C
  refine G.sipush C (v := (128 : Int32)) d8_0 (by decide) (n := 3) rfl ?_
  refine G.istoreN C d8_3 (l' := #[.val (.long (2 : Int64)), .second, .val (.int (128 : Int32))]) rfl (n := 4) rfl ?_
  refine G.lloadN C d8_4 rfl (n := 5) rfl ?_
  refine G.ldc2 C (v := (-128 : Int64)) (wd hw 57 rfl) d8_5 (n := 8) rfl ?_
  refine G.lcmp_lt C (A := 2) (B := (-128)) (by decide) (by decide) d8_8 d8_9 (by decide) (by decide) (n := 12) (n' := 31) rfl (fun c9_1 => ?_) (fun c9_1 => ?_)
  · exact absurd c9_1 (by decide)
  refine G.lloadN C d8_12 rfl (n := 13) rfl ?_
  refine G.ldc2 C (v := (127 : Int64)) (wd hw 58 rfl) d8_13 (n := 16) rfl ?_
  refine G.lcmp_gt C (A := 2) (B := 127) (by decide) (by decide) d8_16 d8_17 (by decide) (by decide) (n := 20) (n' := 31) rfl (fun c17_2 => ?_) (fun c17_2 => ?_)
  · exact absurd c17_2 (by decide)
  refine G.getstatic C (host := "") (Or.inl (wd hw 59 rfl)) Via.refl (S_lc.ext OLD0.2) d8_20 (n := 23) rfl ?_
  refine G.lloadN C d8_23 rfl (n := 24) rfl ?_
  refine G.l2i C d8_24 (n := 25) rfl ?_
  refine G.fold_int (z := (2 : Int32)) (by decide) ?_
  refine G.sipush C (v := (128 : Int32)) d8_25 (by decide) (n := 28) rfl ?_
  refine G.iadd C d8_28 (n := 29) rfl ?_
  refine G.fold_int (z := (130 : Int32)) (by decide) ?_
  refine G.aaload C (x := (.ref x)) (Refs.ext O_lc OLD0.2) rfl (by decide) q_x d8_29 (n := 30) rfl ?_
  refine G.areturn C d8_30 rfl rfl rfl (by decide) (by decide) ?_
  exact ⟨rfl, rfl⟩
theorem ef29 (m : MethodId)  : entryFrame m #[(.long (3 : Int64))] 3 = mkF m 0 #[.val (.long (3 : Int64)), .second, .unset] [] := by first | (simp [entryFrame, mkF, argsToLocals, Value.category]; done) | rfl
abbrev Q_vo3 (Z : State) (h0 : Heap) (n0 : Nat) (lc : Addr) (lv : List Value) (x : Addr) : Option Value → Heap → Prop := fun v h' => v = some (.ref x) ∧ h0 = h'
abbrev R_vo3 : Room := { frames := 0, cells := 0, slots := 0, locals := 0 }
set_option maxRecDepth 65536 in
set_option maxHeartbeats 40000000 in
theorem m_vo3 (l : Launch) (Z : State) (a0 : Array Value) (hw : ∀ d ∈ tables_1, d.before a0 Z = true) (lc : Addr) (lv : List Value) (x : Addr) (h0 : Heap) (n0 : Nat) (Z0 : n0 ≤ h0.size) (OLD0 : Old Z n0 h0) (S_lc : Sta Z Z.heap "java/lang/Long$LongCache" "cache" "[Ljava/lang/Long;" (.ref lc)) (O_lc : Refs Z Z.heap lc (.object "java/lang/Long") lv) (q_x : lv[131]? = some (.ref x)) : Met l Z (⟨"java/lang/Long", "valueOf", "(J)Ljava/lang/Long;"⟩ : MethodName) jdk_35_method_24_code 3 (some (.object "java/lang/Long")) R_vo3 #[(.long (3 : Int64))] h0 n0 (Q_vo3 Z h0 n0 lc lv x) := by
  refine Met.of (plainFor_of_name pn5) (fun m => ef29 m ) ?_
  intro p e s m args below meth c C
  refine G.sipush C (v := (128 : Int32)) d8_0 (by decide) (n := 3) rfl ?_
  refine G.istoreN C d8_3 (l' := #[.val (.long (3 : Int64)), .second, .val (.int (128 : Int32))]) rfl (n := 4) rfl ?_
  refine G.lloadN C d8_4 rfl (n := 5) rfl ?_
  refine G.ldc2 C (v := (-128 : Int64)) (wd hw 57 rfl) d8_5 (n := 8) rfl ?_
  refine G.lcmp_lt C (A := 3) (B := (-128)) (by decide) (by decide) d8_8 d8_9 (by decide) (by decide) (n := 12) (n' := 31) rfl (fun c9_1 => ?_) (fun c9_1 => ?_)
  · exact absurd c9_1 (by decide)
  refine G.lloadN C d8_12 rfl (n := 13) rfl ?_
  refine G.ldc2 C (v := (127 : Int64)) (wd hw 58 rfl) d8_13 (n := 16) rfl ?_
  refine G.lcmp_gt C (A := 3) (B := 127) (by decide) (by decide) d8_16 d8_17 (by decide) (by decide) (n := 20) (n' := 31) rfl (fun c17_2 => ?_) (fun c17_2 => ?_)
  · exact absurd c17_2 (by decide)
  refine G.getstatic C (host := "") (Or.inl (wd hw 59 rfl)) Via.refl (S_lc.ext OLD0.2) d8_20 (n := 23) rfl ?_
  refine G.lloadN C d8_23 rfl (n := 24) rfl ?_
  refine G.l2i C d8_24 (n := 25) rfl ?_
  refine G.fold_int (z := (3 : Int32)) (by decide) ?_
  refine G.sipush C (v := (128 : Int32)) d8_25 (by decide) (n := 28) rfl ?_
  refine G.iadd C d8_28 (n := 29) rfl ?_
  refine G.fold_int (z := (131 : Int32)) (by decide) ?_
  refine G.aaload C (x := (.ref x)) (Refs.ext O_lc OLD0.2) rfl (by decide) q_x d8_29 (n := 30) rfl ?_
  refine G.areturn C d8_30 rfl rfl rfl (by decide) (by decide) ?_
  exact ⟨rfl, rfl⟩
theorem ef30 (m : MethodId)  : entryFrame m #[(.long (5 : Int64))] 3 = mkF m 0 #[.val (.long (5 : Int64)), .second, .unset] [] := by first | (simp [entryFrame, mkF, argsToLocals, Value.category]; done) | rfl
abbrev Q_vo5 (Z : State) (h0 : Heap) (n0 : Nat) (lc : Addr) (lv : List Value) (x : Addr) : Option Value → Heap → Prop := fun v h' => v = some (.ref x) ∧ h0 = h'
abbrev R_vo5 : Room := { frames := 0, cells := 0, slots := 0, locals := 0 }
set_option maxRecDepth 65536 in
set_option maxHeartbeats 40000000 in
theorem m_vo5 (l : Launch) (Z : State) (a0 : Array Value) (hw : ∀ d ∈ tables_1, d.before a0 Z = true) (lc : Addr) (lv : List Value) (x : Addr) (h0 : Heap) (n0 : Nat) (Z0 : n0 ≤ h0.size) (OLD0 : Old Z n0 h0) (S_lc : Sta Z Z.heap "java/lang/Long$LongCache" "cache" "[Ljava/lang/Long;" (.ref lc)) (O_lc : Refs Z Z.heap lc (.object "java/lang/Long") lv) (q_x : lv[133]? = some (.ref x)) : Met l Z (⟨"java/lang/Long", "valueOf", "(J)Ljava/lang/Long;"⟩ : MethodName) jdk_35_method_24_code 3 (some (.object "java/lang/Long")) R_vo5 #[(.long (5 : Int64))] h0 n0 (Q_vo5 Z h0 n0 lc lv x) := by
  refine Met.of (plainFor_of_name pn5) (fun m => ef30 m ) ?_
  intro p e s m args below meth c C
  refine G.sipush C (v := (128 : Int32)) d8_0 (by decide) (n := 3) rfl ?_
  refine G.istoreN C d8_3 (l' := #[.val (.long (5 : Int64)), .second, .val (.int (128 : Int32))]) rfl (n := 4) rfl ?_
  refine G.lloadN C d8_4 rfl (n := 5) rfl ?_
  refine G.ldc2 C (v := (-128 : Int64)) (wd hw 57 rfl) d8_5 (n := 8) rfl ?_
  refine G.lcmp_lt C (A := 5) (B := (-128)) (by decide) (by decide) d8_8 d8_9 (by decide) (by decide) (n := 12) (n' := 31) rfl (fun c9_1 => ?_) (fun c9_1 => ?_)
  · exact absurd c9_1 (by decide)
  refine G.lloadN C d8_12 rfl (n := 13) rfl ?_
  refine G.ldc2 C (v := (127 : Int64)) (wd hw 58 rfl) d8_13 (n := 16) rfl ?_
  refine G.lcmp_gt C (A := 5) (B := 127) (by decide) (by decide) d8_16 d8_17 (by decide) (by decide) (n := 20) (n' := 31) rfl (fun c17_2 => ?_) (fun c17_2 => ?_)
  · exact absurd c17_2 (by decide)
  refine G.getstatic C (host := "") (Or.inl (wd hw 59 rfl)) Via.refl (S_lc.ext OLD0.2) d8_20 (n := 23) rfl ?_
  refine G.lloadN C d8_23 rfl (n := 24) rfl ?_
  refine G.l2i C d8_24 (n := 25) rfl ?_
  refine G.fold_int (z := (5 : Int32)) (by decide) ?_
  refine G.sipush C (v := (128 : Int32)) d8_25 (by decide) (n := 28) rfl ?_
  refine G.iadd C d8_28 (n := 29) rfl ?_
  refine G.fold_int (z := (133 : Int32)) (by decide) ?_
  refine G.aaload C (x := (.ref x)) (Refs.ext O_lc OLD0.2) rfl (by decide) q_x d8_29 (n := 30) rfl ?_
  refine G.areturn C d8_30 rfl rfl rfl (by decide) (by decide) ?_
  exact ⟨rfl, rfl⟩
theorem ef31 (m : MethodId)  : entryFrame m #[(.long (7 : Int64))] 3 = mkF m 0 #[.val (.long (7 : Int64)), .second, .unset] [] := by first | (simp [entryFrame, mkF, argsToLocals, Value.category]; done) | rfl
abbrev Q_vo7 (Z : State) (h0 : Heap) (n0 : Nat) (lc : Addr) (lv : List Value) (x : Addr) : Option Value → Heap → Prop := fun v h' => v = some (.ref x) ∧ h0 = h'
abbrev R_vo7 : Room := { frames := 0, cells := 0, slots := 0, locals := 0 }
set_option maxRecDepth 65536 in
set_option maxHeartbeats 40000000 in
theorem m_vo7 (l : Launch) (Z : State) (a0 : Array Value) (hw : ∀ d ∈ tables_1, d.before a0 Z = true) (lc : Addr) (lv : List Value) (x : Addr) (h0 : Heap) (n0 : Nat) (Z0 : n0 ≤ h0.size) (OLD0 : Old Z n0 h0) (S_lc : Sta Z Z.heap "java/lang/Long$LongCache" "cache" "[Ljava/lang/Long;" (.ref lc)) (O_lc : Refs Z Z.heap lc (.object "java/lang/Long") lv) (q_x : lv[135]? = some (.ref x)) : Met l Z (⟨"java/lang/Long", "valueOf", "(J)Ljava/lang/Long;"⟩ : MethodName) jdk_35_method_24_code 3 (some (.object "java/lang/Long")) R_vo7 #[(.long (7 : Int64))] h0 n0 (Q_vo7 Z h0 n0 lc lv x) := by
  refine Met.of (plainFor_of_name pn5) (fun m => ef31 m ) ?_
  intro p e s m args below meth c C
  refine G.sipush C (v := (128 : Int32)) d8_0 (by decide) (n := 3) rfl ?_
  refine G.istoreN C d8_3 (l' := #[.val (.long (7 : Int64)), .second, .val (.int (128 : Int32))]) rfl (n := 4) rfl ?_
  refine G.lloadN C d8_4 rfl (n := 5) rfl ?_
  refine G.ldc2 C (v := (-128 : Int64)) (wd hw 57 rfl) d8_5 (n := 8) rfl ?_
  refine G.lcmp_lt C (A := 7) (B := (-128)) (by decide) (by decide) d8_8 d8_9 (by decide) (by decide) (n := 12) (n' := 31) rfl (fun c9_1 => ?_) (fun c9_1 => ?_)
  · exact absurd c9_1 (by decide)
  refine G.lloadN C d8_12 rfl (n := 13) rfl ?_
  refine G.ldc2 C (v := (127 : Int64)) (wd hw 58 rfl) d8_13 (n := 16) rfl ?_
  refine G.lcmp_gt C (A := 7) (B := 127) (by decide) (by decide) d8_16 d8_17 (by decide) (by decide) (n := 20) (n' := 31) rfl (fun c17_2 => ?_) (fun c17_2 => ?_)
  · exact absurd c17_2 (by decide)
  refine G.getstatic C (host := "") (Or.inl (wd hw 59 rfl)) Via.refl (S_lc.ext OLD0.2) d8_20 (n := 23) rfl ?_
  refine G.lloadN C d8_23 rfl (n := 24) rfl ?_
  refine G.l2i C d8_24 (n := 25) rfl ?_
  refine G.fold_int (z := (7 : Int32)) (by decide) ?_
  refine G.sipush C (v := (128 : Int32)) d8_25 (by decide) (n := 28) rfl ?_
  refine G.iadd C d8_28 (n := 29) rfl ?_
  refine G.fold_int (z := (135 : Int32)) (by decide) ?_
  refine G.aaload C (x := (.ref x)) (Refs.ext O_lc OLD0.2) rfl (by decide) q_x d8_29 (n := 30) rfl ?_
  refine G.areturn C d8_30 rfl rfl rfl (by decide) (by decide) ?_
  exact ⟨rfl, rfl⟩
theorem ef32 (m : MethodId)  : entryFrame m #[(.long (127 : Int64))] 3 = mkF m 0 #[.val (.long (127 : Int64)), .second, .unset] [] := by first | (simp [entryFrame, mkF, argsToLocals, Value.category]; done) | rfl
abbrev Q_vo127 (Z : State) (h0 : Heap) (n0 : Nat) (lc : Addr) (lv : List Value) (x : Addr) : Option Value → Heap → Prop := fun v h' => v = some (.ref x) ∧ h0 = h'
abbrev R_vo127 : Room := { frames := 0, cells := 0, slots := 0, locals := 0 }
set_option maxRecDepth 65536 in
set_option maxHeartbeats 40000000 in
theorem m_vo127 (l : Launch) (Z : State) (a0 : Array Value) (hw : ∀ d ∈ tables_1, d.before a0 Z = true) (lc : Addr) (lv : List Value) (x : Addr) (h0 : Heap) (n0 : Nat) (Z0 : n0 ≤ h0.size) (OLD0 : Old Z n0 h0) (S_lc : Sta Z Z.heap "java/lang/Long$LongCache" "cache" "[Ljava/lang/Long;" (.ref lc)) (O_lc : Refs Z Z.heap lc (.object "java/lang/Long") lv) (q_x : lv[255]? = some (.ref x)) : Met l Z (⟨"java/lang/Long", "valueOf", "(J)Ljava/lang/Long;"⟩ : MethodName) jdk_35_method_24_code 3 (some (.object "java/lang/Long")) R_vo127 #[(.long (127 : Int64))] h0 n0 (Q_vo127 Z h0 n0 lc lv x) := by
  refine Met.of (plainFor_of_name pn5) (fun m => ef32 m ) ?_
  intro p e s m args below meth c C
  refine G.sipush C (v := (128 : Int32)) d8_0 (by decide) (n := 3) rfl ?_
  refine G.istoreN C d8_3 (l' := #[.val (.long (127 : Int64)), .second, .val (.int (128 : Int32))]) rfl (n := 4) rfl ?_
  refine G.lloadN C d8_4 rfl (n := 5) rfl ?_
  refine G.ldc2 C (v := (-128 : Int64)) (wd hw 57 rfl) d8_5 (n := 8) rfl ?_
  refine G.lcmp_lt C (A := 127) (B := (-128)) (by decide) (by decide) d8_8 d8_9 (by decide) (by decide) (n := 12) (n' := 31) rfl (fun c9_1 => ?_) (fun c9_1 => ?_)
  · exact absurd c9_1 (by decide)
  refine G.lloadN C d8_12 rfl (n := 13) rfl ?_
  refine G.ldc2 C (v := (127 : Int64)) (wd hw 58 rfl) d8_13 (n := 16) rfl ?_
  refine G.lcmp_gt C (A := 127) (B := 127) (by decide) (by decide) d8_16 d8_17 (by decide) (by decide) (n := 20) (n' := 31) rfl (fun c17_2 => ?_) (fun c17_2 => ?_)
  · exact absurd c17_2 (by decide)
  refine G.getstatic C (host := "") (Or.inl (wd hw 59 rfl)) Via.refl (S_lc.ext OLD0.2) d8_20 (n := 23) rfl ?_
  refine G.lloadN C d8_23 rfl (n := 24) rfl ?_
  refine G.l2i C d8_24 (n := 25) rfl ?_
  refine G.fold_int (z := (127 : Int32)) (by decide) ?_
  refine G.sipush C (v := (128 : Int32)) d8_25 (by decide) (n := 28) rfl ?_
  refine G.iadd C d8_28 (n := 29) rfl ?_
  refine G.fold_int (z := (255 : Int32)) (by decide) ?_
  refine G.aaload C (x := (.ref x)) (Refs.ext O_lc OLD0.2) rfl (by decide) q_x d8_29 (n := 30) rfl ?_
  refine G.areturn C d8_30 rfl rfl rfl (by decide) (by decide) ?_
  exact ⟨rfl, rfl⟩
theorem d6_0 : decode jdk_39_method_1_code 0 = .ok (.aload_n 0, 1) := by decide +kernel
theorem d6_1 : decode jdk_39_method_1_code 1 = .ok (.invokespecial 1, 3) := by decide +kernel
theorem d6_4 : decode jdk_39_method_1_code 4 = .ok (.aload_n 0, 1) := by decide +kernel
theorem d6_5 : decode jdk_39_method_1_code 5 = .ok (.iconst 0, 1) := by decide +kernel
theorem d6_6 : decode jdk_39_method_1_code 6 = .ok (.putfield 7, 3) := by decide +kernel
theorem d6_9 : decode jdk_39_method_1_code 9 = .ok (.return_, 1) := by decide +kernel
theorem pn6 : plainName "java/util/AbstractList" = true := by first | (simp [plainName, overriddenIn]; done) | decide +kernel
theorem ef33 (m : MethodId) (a : Addr) : entryFrame m #[(.ref a)] 1 = mkF m 0 #[.val (.ref a)] [] := by first | (simp [entryFrame, mkF, argsToLocals, Value.category]; done) | rfl
abbrev Q_alst (Z : State) (h0 : Heap) (n0 : Nat) (a : Addr) (mc : Int32) : Option Value → Heap → Prop := fun v h' => v = none ∧ Keep h0 h' [a] ∧ Ob_Al Z h' a 0 .null 0
abbrev R_alst : Room := { frames := 2, cells := 0, slots := 0, locals := 24 }
set_option maxRecDepth 65536 in
set_option maxHeartbeats 40000000 in
theorem m_alst (l : Launch) (Z : State) (a0 : Array Value) (hw : ∀ d ∈ tables_1, d.before a0 Z = true) (a : Addr) (mc : Int32) (h0 : Heap) (n0 : Nat) (Z0 : n0 ≤ h0.size) (O_a : Ob_Al Z h0 a mc .null 0) (g_a : n0 ≤ a) : Met l Z (⟨"java/util/AbstractList", "<init>", "()V"⟩ : MethodName) jdk_39_method_1_code 1 none R_alst #[(.ref a)] h0 n0 (Q_alst Z h0 n0 a mc) := by
  refine Met.of (plainFor_of_name pn6) (fun m => ef33 m a) ?_
  intro p e s m args below meth c C
  refine G.aloadN C d6_0 rfl rfl (n := 1) rfl ?_
  refine G.callC C (argsL := []) (yc := (⟨"java/util/AbstractCollection", "<init>", "()V"⟩ : MethodName)) (a := a) rfl (wd hw 41 rfl) (wd hw 42 rfl) (wd hw 45 rfl) (wd hw 46 rfl) (by decide) (m_acol l Z a0 hw a h0 n0 Z0) rfl (by decide) (W := 0) rfl (by decide) (c' := 0) (s' := 0) rfl rfl (by decide) (by decide) d6_1 (n := 4) rfl pd0 rfl rfl ?_
  rintro _ _ ⟨rfl, rfl⟩
  refine G.aloadN C d6_4 rfl rfl (n := 5) rfl ?_
  refine G.iconst C (v := (0 : Int32)) d6_5 (by decide) (n := 6) rfl ?_
  refine G.putfield C (host := "") (Or.inl (wd hw 48 rfl)) Via.refl (O_a.2.1) (O_a.1) (Or.inl (wd hw 49 rfl)) (wd hw 30 rfl) (ty := .int) (by decide) rfl rfl g_a d6_6 (n := 9) rfl ?_
  intro h3 W4
  have O5 := Ob_Al.set_modCount hw O_a W4
  have K6 := Keep.of_wr W4
  have Z7 : n0 ≤ h3.size := Nat.le_trans Z0 K6.1
  have K8 : Keep h0 h3 [a] := Keep.tr (Keep.refl h0 _) K6 (allS (Or.inl (List.mem_of_getElem? (i := 0) rfl)) all0)
  refine G.return_ C d6_9 (by decide) (by decide) ?_
  exact ⟨rfl, K8, O5⟩
theorem d5_0 : decode jdk_38_method_2_code 0 = .ok (.aload_n 0, 1) := by decide +kernel
theorem d5_1 : decode jdk_38_method_2_code 1 = .ok (.invokespecial 1, 3) := by decide +kernel
theorem d5_4 : decode jdk_38_method_2_code 4 = .ok (.aload_n 0, 1) := by decide +kernel
theorem d5_5 : decode jdk_38_method_2_code 5 = .ok (.getstatic 39, 3) := by decide +kernel
theorem d5_8 : decode jdk_38_method_2_code 8 = .ok (.putfield 9, 3) := by decide +kernel
theorem d5_11 : decode jdk_38_method_2_code 11 = .ok (.return_, 1) := by decide +kernel
theorem pn7 : plainName "java/util/ArrayList" = true := by first | (simp [plainName, overriddenIn]; done) | decide +kernel
theorem ef34 (m : MethodId) (a : Addr) : entryFrame m #[(.ref a)] 1 = mkF m 0 #[.val (.ref a)] [] := by first | (simp [entryFrame, mkF, argsToLocals, Value.category]; done) | rfl
abbrev Q_alin (Z : State) (h0 : Heap) (n0 : Nat) (a : Addr) (mc : Int32) (dE : Addr) : Option Value → Heap → Prop := fun v h' => v = none ∧ Keep h0 h' [a] ∧ Ob_Al Z h' a 0 (.ref dE) 0
abbrev R_alin : Room := { frames := 3, cells := 0, slots := 0, locals := 36 }
set_option maxRecDepth 65536 in
set_option maxHeartbeats 40000000 in
theorem m_alin (l : Launch) (Z : State) (a0 : Array Value) (hw : ∀ d ∈ tables_1, d.before a0 Z = true) (a : Addr) (mc : Int32) (dE : Addr) (h0 : Heap) (n0 : Nat) (Z0 : n0 ≤ h0.size) (OLD0 : Old Z n0 h0) (S_dE : Sta Z Z.heap "java/util/ArrayList" "DEFAULTCAPACITY_EMPTY_ELEMENTDATA" "[Ljava/lang/Object;" (.ref dE)) (O_dE : Refs Z Z.heap dE (.object "java/lang/Object") []) (O_a : Ob_Al Z h0 a mc .null 0) (g_a : n0 ≤ a) : Met l Z (⟨"java/util/ArrayList", "<init>", "()V"⟩ : MethodName) jdk_38_method_2_code 1 none R_alin #[(.ref a)] h0 n0 (Q_alin Z h0 n0 a mc dE) := by
  refine Met.of (plainFor_of_name pn7) (fun m => ef34 m a) ?_
  intro p e s m args below meth c C
  refine G.aloadN C d5_0 rfl rfl (n := 1) rfl ?_
  refine G.callC C (argsL := []) (yc := (⟨"java/util/AbstractList", "<init>", "()V"⟩ : MethodName)) (a := a) rfl (wd hw 35 rfl) (wd hw 36 rfl) (wd hw 39 rfl) (wd hw 40 rfl) (by decide) (m_alst l Z a0 hw a mc  h0 n0 Z0 O_a g_a) rfl (by decide) (W := 0) rfl (by decide) (c' := 0) (s' := 0) rfl rfl (by decide) (by decide) d5_1 (n := 4) rfl pd0 rfl rfl ?_
  rintro _ h4 ⟨rfl, K1, O2⟩
  have OL5 := OLD0.keep K1 (allS g_a all0)
  have Z6 : n0 ≤ h4.size := Nat.le_trans Z0 K1.1
  have K7 : Keep h0 h4 [a] := Keep.tr (Keep.refl h0 _) K1 (allS (Or.inl (List.mem_of_getElem? (i := 0) rfl)) all0)
  refine G.aloadN C d5_4 rfl rfl (n := 5) rfl ?_
  refine G.getstatic C (host := "") (Or.inl (wd hw 50 rfl)) Via.refl (S_dE.ext OL5.2) d5_5 (n := 8) rfl ?_
  refine G.putfield C (host := "") (Or.inl (wd hw 51 rfl)) Via.refl (O2.2.2.1) (O2.1) (Or.inl (wd hw 52 rfl)) (wd hw 30 rfl) (ty := (.array (.object "java/lang/Object"))) (by decide) rfl rfl g_a d5_8 (n := 11) rfl ?_
  intro h8 W9
  have O10 := Ob_Al.set_elementData hw O2 (v := (.ref dE)) W9
  have K11 := Keep.of_wr W9
  have OL12 := OL5.keep K11 (allS g_a all0)
  have Z13 : n0 ≤ h8.size := Nat.le_trans Z6 K11.1
  have K14 : Keep h0 h8 [a] := Keep.tr K7 K11 (allS (Or.inl (List.mem_of_getElem? (i := 0) rfl)) all0)
  refine G.return_ C d5_11 (by decide) (by decide) ?_
  exact ⟨rfl, K14, O10⟩
theorem d12_0 : decode jdk_38_method_6_code 0 = .ok (.aload_n 0, 1) := by decide +kernel
theorem d12_1 : decode jdk_38_method_6_code 1 = .ok (.getfield 9, 3) := by decide +kernel
theorem d12_4 : decode jdk_38_method_6_code 4 = .ok (.arraylength, 1) := by decide +kernel
theorem d12_5 : decode jdk_38_method_6_code 5 = .ok (.istore_n 2, 1) := by decide +kernel
theorem d12_6 : decode jdk_38_method_6_code 6 = .ok (.iload_n 2, 1) := by decide +kernel
theorem d12_7 : decode jdk_38_method_6_code 7 = .ok (.ifCond .gt 13, 3) := by decide +kernel
theorem d12_10 : decode jdk_38_method_6_code 10 = .ok (.aload_n 0, 1) := by decide +kernel
theorem d12_11 : decode jdk_38_method_6_code 11 = .ok (.getfield 9, 3) := by decide +kernel
theorem d12_14 : decode jdk_38_method_6_code 14 = .ok (.getstatic 39, 3) := by decide +kernel
theorem d12_17 : decode jdk_38_method_6_code 17 = .ok (.if_acmp .eq 28, 3) := by decide +kernel
theorem d12_20 : decode jdk_38_method_6_code 20 = .ok (.iload_n 2, 1) := by decide +kernel
theorem d12_21 : decode jdk_38_method_6_code 21 = .ok (.iload_n 1, 1) := by decide +kernel
theorem d12_22 : decode jdk_38_method_6_code 22 = .ok (.iload_n 2, 1) := by decide +kernel
theorem d12_23 : decode jdk_38_method_6_code 23 = .ok (.isub, 1) := by decide +kernel
theorem d12_24 : decode jdk_38_method_6_code 24 = .ok (.iload_n 2, 1) := by decide +kernel
theorem d12_25 : decode jdk_38_method_6_code 25 = .ok (.iconst 1, 1) := by decide +kernel
theorem d12_26 : decode jdk_38_method_6_code 26 = .ok (.ishr, 1) := by decide +kernel
theorem d12_27 : decode jdk_38_method_6_code 27 = .ok (.invokestatic 73, 3) := by decide +kernel
theorem d12_30 : decode jdk_38_method_6_code 30 = .ok (.istore_n 3, 1) := by decide +kernel
theorem d12_31 : decode jdk_38_method_6_code 31 = .ok (.aload_n 0, 1) := by decide +kernel
theorem d12_32 : decode jdk_38_method_6_code 32 = .ok (.aload_n 0, 1) := by decide +kernel
theorem d12_33 : decode jdk_38_method_6_code 33 = .ok (.getfield 9, 3) := by decide +kernel
theorem d12_36 : decode jdk_38_method_6_code 36 = .ok (.iload_n 3, 1) := by decide +kernel
theorem d12_37 : decode jdk_38_method_6_code 37 = .ok (.invokestatic 66, 3) := by decide +kernel
theorem d12_40 : decode jdk_38_method_6_code 40 = .ok (.dup_x1, 1) := by decide +kernel
theorem d12_41 : decode jdk_38_method_6_code 41 = .ok (.putfield 9, 3) := by decide +kernel
theorem d12_44 : decode jdk_38_method_6_code 44 = .ok (.areturn, 1) := by decide +kernel
theorem d12_45 : decode jdk_38_method_6_code 45 = .ok (.aload_n 0, 1) := by decide +kernel
theorem d12_46 : decode jdk_38_method_6_code 46 = .ok (.bipush 10, 2) := by decide +kernel
theorem d12_48 : decode jdk_38_method_6_code 48 = .ok (.iload_n 1, 1) := by decide +kernel
theorem d12_49 : decode jdk_38_method_6_code 49 = .ok (.invokestatic 79, 3) := by decide +kernel
theorem d12_52 : decode jdk_38_method_6_code 52 = .ok (.anewarray 7, 3) := by decide +kernel
theorem d12_55 : decode jdk_38_method_6_code 55 = .ok (.dup_x1, 1) := by decide +kernel
theorem d12_56 : decode jdk_38_method_6_code 56 = .ok (.putfield 9, 3) := by decide +kernel
theorem d12_59 : decode jdk_38_method_6_code 59 = .ok (.areturn, 1) := by decide +kernel
theorem pd1 : parseMethodDescriptor "(II)I" = some ⟨[.int, .int], some .int⟩ := by decide +kernel
theorem ef35 (m : MethodId) (a : Addr) : entryFrame m #[(.ref a), (.int (1 : Int32))] 4 = mkF m 0 #[.val (.ref a), .val (.int (1 : Int32)), .unset, .unset] [] := by first | (simp [entryFrame, mkF, argsToLocals, Value.category]; done) | rfl
abbrev Q_gr1 (Z : State) (h0 : Heap) (n0 : Nat) (a : Addr) (mc : Int32) (dE : Addr) : Option Value → Heap → Prop := fun v h' => ∃ r, v = some (.ref r) ∧ Keep h0 h' [a] ∧ Ob_Al Z h' a mc (.ref r) 0 ∧ RefsX Z h' r [.null, .null, .null, .null, .null, .null, .null, .null, .null, .null] ∧ h0.size ≤ r
abbrev R_gr1 : Room := { frames := 1, cells := 1, slots := 10, locals := 14 }
set_option maxRecDepth 65536 in
set_option maxHeartbeats 40000000 in
theorem m_gr1 (l : Launch) (Z : State) (a0 : Array Value) (hw : ∀ d ∈ tables_1, d.before a0 Z = true) (a : Addr) (mc : Int32) (dE : Addr) (h0 : Heap) (n0 : Nat) (Z0 : n0 ≤ h0.size) (OLD0 : Old Z n0 h0) (S_dE : Sta Z Z.heap "java/util/ArrayList" "DEFAULTCAPACITY_EMPTY_ELEMENTDATA" "[Ljava/lang/Object;" (.ref dE)) (O_dE : Refs Z Z.heap dE (.object "java/lang/Object") []) (O_a : Ob_Al Z h0 a mc (.ref dE) 0) (g_a : n0 ≤ a) : Met l Z (⟨"java/util/ArrayList", "grow", "(I)[Ljava/lang/Object;"⟩ : MethodName) jdk_38_method_6_code 4 (some (.array (.object "java/lang/Object"))) R_gr1 #[(.ref a), (.int (1 : Int32))] h0 n0 (Q_gr1 Z h0 n0 a mc dE) := by
  refine Met.of (plainFor_of_name pn7) (fun m => ef35 m a) ?_
  intro p e s m args below meth c C
  refine G.aloadN C d12_0 rfl rfl (n := 1) rfl ?_
  refine G.getfield C (host := "") (Or.inl (wd hw 51 rfl)) Via.refl (O_a.2.2.1) d12_1 (n := 4) rfl ?_
  refine G.arraylengthR C (len := (0 : Int32)) (Refs.ext O_dE OLD0.2) rfl d12_4 (n := 5) rfl ?_
  refine G.istoreN C d12_5 (l' := #[.val (.ref a), .val (.int (1 : Int32)), .val (.int (0 : Int32)), .unset]) rfl (n := 6) rfl ?_
  refine G.iloadN C d12_6 rfl (n := 7) rfl ?_
  refine G.if_gt C (A := 0) (by decide) d12_7 (by decide) (by decide) (n := 10) (n' := 20) rfl (fun c7_1 => ?_) (fun c7_1 => ?_)
  · exact absurd c7_1 (by decide)
  refine G.aloadN C d12_10 rfl rfl (n := 11) rfl ?_
  refine G.getfield C (host := "") (Or.inl (wd hw 51 rfl)) Via.refl (O_a.2.2.1) d12_11 (n := 14) rfl ?_
  refine G.getstatic C (host := "") (Or.inl (wd hw 50 rfl)) Via.refl (S_dE.ext OLD0.2) d12_14 (n := 17) rfl ?_
  refine G.acmp_eq C rfl rfl d12_17 (by decide) (by decide) (n := 20) (n' := 45) rfl (fun c17_2 => ?_) (fun c17_2 => ?_)
  rotate_left
  · exact absurd rfl c17_2
  refine G.aloadN C d12_45 rfl rfl (n := 46) rfl ?_
  refine G.bipush C (v := (10 : Int32)) d12_46 (by decide) (n := 48) rfl ?_
  refine G.iloadN C d12_48 rfl (n := 49) rfl ?_
  refine G.callS C (argsL := [(.int (10 : Int32)), (.int (1 : Int32))]) (yc := (⟨"java/lang/Math", "max", "(II)I"⟩ : MethodName)) (wd hw 89 rfl) (wd hw 90 rfl) (wd hw 91 rfl) (wd hw 92 rfl) (by decide) (m_mx1 l Z a0 hw  h0 n0 Z0) rfl (by decide) (W := 1) rfl (by decide) (c' := 0) (s' := 0) rfl rfl (by decide) (by decide) d12_49 (n := 52) rfl pd1 rfl rfl ?_
  rintro _ _ ⟨rfl, rfl⟩
  refine G.anewarrayX C (cap := 10) (wd hw 93 rfl) (wd hw 94 rfl) (by decide) (by decide) d12_52 (n := 55) rfl (c' := 1) (s' := 10) rfl rfl (by decide) (by decide) ?_
  intro h5 b6 q7 E8 O9
  have O10 : RefsX Z h5 b6 [.null, .null, .null, .null, .null, .null, .null, .null, .null, .null] := O9
  have ne11 : a ≠ b6 := Nat.ne_of_lt (Nat.lt_of_lt_of_le O_a.lt (Nat.le_of_eq q7.symm))
  have g12 : n0 ≤ b6 := Nat.le_trans Z0 (Nat.le_of_eq q7.symm)
  have f13 : h0.size ≤ b6 := Nat.le_trans (Keep.refl h0 []).1 (Nat.le_of_eq q7.symm)
  have K14 := kext E8
  have O15 := O_a.keep K14 nin0
  have OL16 := OLD0.keep K14 all0
  have Z17 : n0 ≤ h5.size := Nat.le_trans Z0 K14.1
  have K18 : Keep h0 h5 [a] := Keep.tr (Keep.refl h0 _) K14 all0
  refine G.dup_x1 C d12_55 rfl rfl (n := 56) rfl ?_
  refine G.putfield C (host := "") (Or.inl (wd hw 51 rfl)) Via.refl (O15.2.2.1) (O15.1) (Or.inl (wd hw 52 rfl)) (wd hw 30 rfl) (ty := (.array (.object "java/lang/Object"))) (by decide) rfl rfl g_a d12_56 (n := 59) rfl ?_
  intro h19 W20
  have O21 := Ob_Al.set_elementData hw O15 (v := (.ref b6)) W20
  have K22 := Keep.of_wr W20
  have O23 := O10.keep K22 (ninS (Ne.symm ne11) nin0)
  have OL24 := OL16.keep K22 (allS g_a all0)
  have Z25 : n0 ≤ h19.size := Nat.le_trans Z17 K22.1
  have K26 : Keep h0 h19 [a] := Keep.tr K18 K22 (allS (Or.inl (List.mem_of_getElem? (i := 0) rfl)) all0)
  refine G.areturn C d12_59 rfl rfl rfl (by decide) (by decide) ?_
  exact ⟨_, rfl, K26, O21, O23, f13⟩
theorem d11_0 : decode jdk_38_method_7_code 0 = .ok (.aload_n 0, 1) := by decide +kernel
theorem d11_1 : decode jdk_38_method_7_code 1 = .ok (.aload_n 0, 1) := by decide +kernel
theorem d11_2 : decode jdk_38_method_7_code 2 = .ok (.getfield 48, 3) := by decide +kernel
theorem d11_5 : decode jdk_38_method_7_code 5 = .ok (.iconst 1, 1) := by decide +kernel
theorem d11_6 : decode jdk_38_method_7_code 6 = .ok (.iadd, 1) := by decide +kernel
theorem d11_7 : decode jdk_38_method_7_code 7 = .ok (.invokevirtual 69, 3) := by decide +kernel
theorem d11_10 : decode jdk_38_method_7_code 10 = .ok (.areturn, 1) := by decide +kernel
theorem pd2 : parseMethodDescriptor "(I)[Ljava/lang/Object;" = some ⟨[.int], some (.array (.object "java/lang/Object"))⟩ := by decide +kernel
theorem ef36 (m : MethodId) (a : Addr) : entryFrame m #[(.ref a)] 1 = mkF m 0 #[.val (.ref a)] [] := by first | (simp [entryFrame, mkF, argsToLocals, Value.category]; done) | rfl
abbrev Q_gr0 (Z : State) (h0 : Heap) (n0 : Nat) (a : Addr) (mc : Int32) (dE : Addr) : Option Value → Heap → Prop := fun v h' => ∃ r, v = some (.ref r) ∧ Keep h0 h' [a] ∧ Ob_Al Z h' a mc (.ref r) 0 ∧ RefsX Z h' r [.null, .null, .null, .null, .null, .null, .null, .null, .null, .null] ∧ h0.size ≤ r
abbrev R_gr0 : Room := { frames := 2, cells := 1, slots := 10, locals := 29 }
set_option maxRecDepth 65536 in
set_option maxHeartbeats 40000000 in
theorem m_gr0 (l : Launch) (Z : State) (a0 : Array Value) (hw : ∀ d ∈ tables_1, d.before a0 Z = true) (a : Addr) (mc : Int32) (dE : Addr) (h0 : Heap) (n0 : Nat) (Z0 : n0 ≤ h0.size) (OLD0 : Old Z n0 h0) (S_dE : Sta Z Z.heap "java/util/ArrayList" "DEFAULTCAPACITY_EMPTY_ELEMENTDATA" "[Ljava/lang/Object;" (.ref dE)) (O_dE : Refs Z Z.heap dE (.object "java/lang/Object") []) (O_a : Ob_Al Z h0 a mc (.ref dE) 0) (g_a : n0 ≤ a) : Met l Z (⟨"java/util/ArrayList", "grow", "()[Ljava/lang/Object;"⟩ : MethodName) jdk_38_method_7_code 1 (some (.array (.object "java/lang/Object"))) R_gr0 #[(.ref a)] h0 n0 (Q_gr0 Z h0 n0 a mc dE) := by
  refine Met.of (plainFor_of_name pn7) (fun m => ef36 m a) ?_
  intro p e s m args below meth c C
  refine G.aloadN C d11_0 rfl rfl (n := 1) rfl ?_
  refine G.aloadN C d11_1 rfl rfl (n := 2) rfl ?_
  refine G.getfield C (host := "") (Or.inl (wd hw 72 rfl)) Via.refl (O_a.2.2.2) d11_2 (n := 5) rfl ?_
  refine G.iconst C (v := (1 : Int32)) d11_5 (by decide) (n := 6) rfl ?_
  refine G.iadd C d11_6 (n := 7) rfl ?_
  refine G.fold_int (z := (1 : Int32)) (by decide) ?_
  refine G.callP C (argsL := [(.int (1 : Int32))]) (yo := (⟨"java/util/ArrayList", "add", "(Ljava/lang/Object;[Ljava/lang/Object;I)V"⟩ : MethodName)) (yc := (⟨"java/util/ArrayList", "grow", "(I)[Ljava/lang/Object;"⟩ : MethodName)) (a := a) (O_a.1) (wd hw 84 rfl) (wd hw 77 rfl) rfl (wd hw 86 rfl) (wd hw 85 rfl) (wd hw 31 rfl) (wd hw 88 rfl) (by decide) (m_gr1 l Z a0 hw a mc dE h0 n0 Z0 OLD0 S_dE O_dE O_a g_a) rfl (by decide) (W := 0) rfl (by decide) (c' := 1) (s' := 10) rfl rfl (by decide) (by decide) d11_7 (n := 10) rfl pd2 rfl rfl ?_
  rintro _ h7 ⟨r1, rfl, K2, O3, O4, f5⟩
  have ne8 : a ≠ r1 := Nat.ne_of_lt (Nat.lt_of_lt_of_le O_a.lt f5)
  have g9 : n0 ≤ r1 := Nat.le_trans Z0 f5
  have f10 : h0.size ≤ r1 := Nat.le_trans (Keep.refl h0 []).1 f5
  have OL11 := OLD0.keep K2 (allS g_a all0)
  have Z12 : n0 ≤ h7.size := Nat.le_trans Z0 K2.1
  have K13 : Keep h0 h7 [a] := Keep.tr (Keep.refl h0 _) K2 (allS (Or.inl (List.mem_of_getElem? (i := 0) rfl)) all0)
  refine G.areturn C d11_10 rfl rfl rfl (by decide) (by decide) ?_
  exact ⟨_, rfl, K13, O3, O4, f10⟩
theorem d10_0 : decode jdk_38_method_24_code 0 = .ok (.iload_n 3, 1) := by decide +kernel
theorem d10_1 : decode jdk_38_method_24_code 1 = .ok (.aload_n 2, 1) := by decide +kernel
theorem d10_2 : decode jdk_38_method_24_code 2 = .ok (.arraylength, 1) := by decide +kernel
theorem d10_3 : decode jdk_38_method_24_code 3 = .ok (.if_icmp .ne 8, 3) := by decide +kernel
theorem d10_6 : decode jdk_38_method_24_code 6 = .ok (.aload_n 0, 1) := by decide +kernel
theorem d10_7 : decode jdk_38_method_24_code 7 = .ok (.invokevirtual 129, 3) := by decide +kernel
theorem d10_10 : decode jdk_38_method_24_code 10 = .ok (.astore_n 2, 1) := by decide +kernel
theorem d10_11 : decode jdk_38_method_24_code 11 = .ok (.aload_n 2, 1) := by decide +kernel
theorem d10_12 : decode jdk_38_method_24_code 12 = .ok (.iload_n 3, 1) := by decide +kernel
theorem d10_13 : decode jdk_38_method_24_code 13 = .ok (.aload_n 1, 1) := by decide +kernel
theorem d10_14 : decode jdk_38_method_24_code 14 = .ok (.aastore, 1) := by decide +kernel
theorem d10_15 : decode jdk_38_method_24_code 15 = .ok (.aload_n 0, 1) := by decide +kernel
theorem d10_16 : decode jdk_38_method_24_code 16 = .ok (.iload_n 3, 1) := by decide +kernel
theorem d10_17 : decode jdk_38_method_24_code 17 = .ok (.iconst 1, 1) := by decide +kernel
theorem d10_18 : decode jdk_38_method_24_code 18 = .ok (.iadd, 1) := by decide +kernel
theorem d10_19 : decode jdk_38_method_24_code 19 = .ok (.putfield 48, 3) := by decide +kernel
theorem d10_22 : decode jdk_38_method_24_code 22 = .ok (.return_, 1) := by decide +kernel
theorem pd3 : parseMethodDescriptor "()[Ljava/lang/Object;" = some ⟨[], some (.array (.object "java/lang/Object"))⟩ := by decide +kernel
theorem ef37 (m : MethodId) (a : Addr) (x : Addr) (dE : Addr) : entryFrame m #[(.ref a), (.ref x), (.ref dE), (.int (0 : Int32))] 4 = mkF m 0 #[.val (.ref a), .val (.ref x), .val (.ref dE), .val (.int (0 : Int32))] [] := by first | (simp [entryFrame, mkF, argsToLocals, Value.category]; done) | rfl
abbrev Q_ad3_0 (Z : State) (h0 : Heap) (n0 : Nat) (a : Addr) (mc : Int32) (dE : Addr) (x : Addr) : Option Value → Heap → Prop := fun v h' => v = none ∧ Keep h0 h' [a] ∧ ∃ m2 r, Ob_Al Z h' a m2 (.ref r) 1 ∧ RefsX Z h' r [.ref x, .null, .null, .null, .null, .null, .null, .null, .null, .null] ∧ h0.size ≤ r
abbrev R_ad3_0 : Room := { frames := 3, cells := 1, slots := 10, locals := 41 }
set_option maxRecDepth 65536 in
set_option maxHeartbeats 40000000 in
theorem m_ad3_0 (l : Launch) (Z : State) (a0 : Array Value) (hw : ∀ d ∈ tables_1, d.before a0 Z = true) (a : Addr) (mc : Int32) (dE : Addr) (x : Addr) (h0 : Heap) (n0 : Nat) (Z0 : n0 ≤ h0.size) (OLD0 : Old Z n0 h0) (S_dE : Sta Z Z.heap "java/util/ArrayList" "DEFAULTCAPACITY_EMPTY_ELEMENTDATA" "[Ljava/lang/Object;" (.ref dE)) (O_dE : Refs Z Z.heap dE (.object "java/lang/Object") []) (E_x : Exa Z Z.heap x "java/lang/Long") (O_a : Ob_Al Z h0 a mc (.ref dE) 0) (g_a : n0 ≤ a) : Met l Z (⟨"java/util/ArrayList", "add", "(Ljava/lang/Object;[Ljava/lang/Object;I)V"⟩ : MethodName) jdk_38_method_24_code 4 none R_ad3_0 #[(.ref a), (.ref x), (.ref dE), (.int (0 : Int32))] h0 n0 (Q_ad3_0 Z h0 n0 a mc dE x) := by
  refine Met.of (plainFor_of_name pn7) (fun m => ef37 m a x dE) ?_
  intro p e s m args below meth c C
  refine G.iloadN C d10_0 rfl (n := 1) rfl ?_
  refine G.aloadN C d10_1 rfl rfl (n := 2) rfl ?_
  refine G.arraylengthR C (len := (0 : Int32)) (Refs.ext O_dE OLD0.2) rfl d10_2 (n := 3) rfl ?_
  refine G.icmp_ne C (A := 0) (B := 0) (by decide) (by decide) d10_3 (by decide) (by decide) (n := 6) (n' := 11) rfl (fun c3_1 c3_1i => ?_) (fun c3_1 c3_1i => ?_)
  · exact absurd c3_1 (by decide)
  refine G.aloadN C d10_6 rfl rfl (n := 7) rfl ?_
  refine G.callP C (argsL := []) (yo := (⟨"java/util/ArrayList", "add", "(Ljava/lang/Object;[Ljava/lang/Object;I)V"⟩ : MethodName)) (yc := (⟨"java/util/ArrayList", "grow", "()[Ljava/lang/Object;"⟩ : MethodName)) (a := a) (O_a.1) (wd hw 79 rfl) (wd hw 77 rfl) rfl (wd hw 81 rfl) (wd hw 80 rfl) (wd hw 31 rfl) (wd hw 83 rfl) (by decide) (m_gr0 l Z a0 hw a mc dE h0 n0 Z0 OLD0 S_dE O_dE O_a g_a) rfl (by decide) (W := 0) rfl (by decide) (c' := 1) (s' := 10) rfl rfl (by decide) (by decide) d10_7 (n := 10) rfl pd3 rfl rfl ?_
  rintro _ h8 ⟨r2, rfl, K3, O4, O5, f6⟩
  have ne9 : a ≠ r2 := Nat.ne_of_lt (Nat.lt_of_lt_of_le O_a.lt f6)
  have g10 : n0 ≤ r2 := Nat.le_trans Z0 f6
  have f11 : h0.size ≤ r2 := Nat.le_trans (Keep.refl h0 []).1 f6
  have OL12 := OLD0.keep K3 (allS g_a all0)
  have Z13 : n0 ≤ h8.size := Nat.le_trans Z0 K3.1
  have K14 : Keep h0 h8 [a] := Keep.tr (Keep.refl h0 _) K3 (allS (Or.inl (List.mem_of_getElem? (i := 0) rfl)) all0)
  refine G.astoreN C d10_10 rfl (l' := #[.val (.ref a), .val (.ref x), .val (.ref r2), .val (.int (0 : Int32))]) rfl (n := 11) rfl ?_
  refine G.aloadN C d10_11 rfl rfl (n := 12) rfl ?_
  refine G.iloadN C d10_12 rfl (n := 13) rfl ?_
  refine G.aloadN C d10_13 rfl rfl (n := 14) rfl ?_
  refine G.aastoreX C O5 (Ins.of_exa (E_x.ext OL12.2) (wd hw 95 rfl)) (by decide) (show (0 : Int32).toInt < ((10 : Nat) : Int) by decide) g10 d10_14 (n := 15) rfl ?_
  intro h15 K16 O17
  have O18 : RefsX Z h15 r2 [.ref x, .null, .null, .null, .null, .null, .null, .null, .null, .null] := O17
  have O19 := O4.keep K16 (ninS ne9 nin0)
  have OL20 := OL12.keep K16 (allS g10 all0)
  have Z21 : n0 ≤ h15.size := Nat.le_trans Z13 K16.1
  have K22 : Keep h0 h15 [a] := Keep.tr K14 K16 (allS (Or.inr f11) all0)
  refine G.aloadN C d10_15 rfl rfl (n := 16) rfl ?_
  refine G.iloadN C d10_16 rfl (n := 17) rfl ?_
  refine G.iconst C (v := (1 : Int32)) d10_17 (by decide) (n := 18) rfl ?_
  refine G.iadd C d10_18 (n := 19) rfl ?_
  refine G.fold_int (z := (1 : Int32)) (by decide) ?_
  refine G.putfield C (host := "") (Or.inl (wd hw 72 rfl)) Via.refl (O19.2.2.2) (O19.1) (Or.inl (wd hw 73 rfl)) (wd hw 30 rfl) (ty := .int) (by decide) rfl rfl g_a d10_19 (n := 22) rfl ?_
  intro h23 W24
  have O25 := Ob_Al.set_size hw O19 W24
  have K26 := Keep.of_wr W24
  have O27 := O18.keep K26 (ninS (Ne.symm ne9) nin0)
  have OL28 := OL20.keep K26 (allS g_a all0)
  have Z29 : n0 ≤ h23.size := Nat.le_trans Z21 K26.1
  have K30 : Keep h0 h23 [a] := Keep.tr K22 K26 (allS (Or.inl (List.mem_of_getElem? (i := 0) rfl)) all0)
  refine G.return_ C d10_22 (by decide) (by decide) ?_
  exact ⟨rfl, K30, _, _, O25, O27, f11⟩
theorem ef38 (m : MethodId) (a : Addr) (x : Addr) (r0 : Addr) : entryFrame m #[(.ref a), (.ref x), (.ref r0), (.int (1 : Int32))] 4 = mkF m 0 #[.val (.ref a), .val (.ref x), .val (.ref r0), .val (.int (1 : Int32))] [] := by first | (simp [entryFrame, mkF, argsToLocals, Value.category]; done) | rfl
abbrev Q_ad3_1 (Z : State) (h0 : Heap) (n0 : Nat) (a : Addr) (mc : Int32) (dE : Addr) (x : Addr) (r0 : Addr) (y0 : Addr) : Option Value → Heap → Prop := fun v h' => v = none ∧ Keep h0 h' [a, r0] ∧ ∃ m2, Ob_Al Z h' a m2 (.ref r0) 2 ∧ RefsX Z h' r0 [.ref y0, .ref x, .null, .null, .null, .null, .null, .null, .null, .null]
abbrev R_ad3_1 : Room := { frames := 0, cells := 0, slots := 0, locals := 0 }
set_option maxRecDepth 65536 in
set_option maxHeartbeats 40000000 in
theorem m_ad3_1 (l : Launch) (Z : State) (a0 : Array Value) (hw : ∀ d ∈ tables_1, d.before a0 Z = true) (a : Addr) (mc : Int32) (dE : Addr) (x : Addr) (r0 : Addr) (y0 : Addr) (h0 : Heap) (n0 : Nat) (Z0 : n0 ≤ h0.size) (OLD0 : Old Z n0 h0) (S_dE : Sta Z Z.heap "java/util/ArrayList" "DEFAULTCAPACITY_EMPTY_ELEMENTDATA" "[Ljava/lang/Object;" (.ref dE)) (O_dE : Refs Z Z.heap dE (.object "java/lang/Object") []) (E_x : Exa Z Z.heap x "java/lang/Long") (O_a : Ob_Al Z h0 a mc (.ref r0) 1) (g_a : n0 ≤ a) (O_r : RefsX Z h0 r0 [.ref y0, .null, .null, .null, .null, .null, .null, .null, .null, .null]) (g_r : n0 ≤ r0) (ne_ar : a ≠ r0) : Met l Z (⟨"java/util/ArrayList", "add", "(Ljava/lang/Object;[Ljava/lang/Object;I)V"⟩ : MethodName) jdk_38_method_24_code 4 none R_ad3_1 #[(.ref a), (.ref x), (.ref r0), (.int (1 : Int32))] h0 n0 (Q_ad3_1 Z h0 n0 a mc dE x r0 y0) := by
  refine Met.of (plainFor_of_name pn7) (fun m => ef38 m a x r0) ?_
  intro p e s m args below meth c C
  refine G.iloadN C d10_0 rfl (n := 1) rfl ?_
  refine G.aloadN C d10_1 rfl rfl (n := 2) rfl ?_
  refine G.arraylengthR C (len := (10 : Int32)) (RefsX.refs O_r) rfl d10_2 (n := 3) rfl ?_
  refine G.icmp_ne C (A := 1) (B := 10) (by decide) (by decide) d10_3 (by decide) (by decide) (n := 6) (n' := 11) rfl (fun c3_1 c3_1i => ?_) (fun c3_1 c3_1i => ?_)
  rotate_left
  · exact absurd c3_1 (by decide)
  refine G.aloadN C d10_11 rfl rfl (n := 12) rfl ?_
  refine G.iloadN C d10_12 rfl (n := 13) rfl ?_
  refine G.aloadN C d10_13 rfl rfl (n := 14) rfl ?_
  refine G.aastoreX C O_r (Ins.of_exa (E_x.ext OLD0.2) (wd hw 95 rfl)) (by decide) (show (1 : Int32).toInt < ((10 : Nat) : Int) by decide) g_r d10_14 (n := 15) rfl ?_
  intro h2 K3 O4
  have O5 : RefsX Z h2 r0 [.ref y0, .ref x, .null, .null, .null, .null, .null, .null, .null, .null] := O4
  have O6 := O_a.keep K3 (ninS ne_ar nin0)
  have OL7 := OLD0.keep K3 (allS g_r all0)
  have Z8 : n0 ≤ h2.size := Nat.le_trans Z0 K3.1
  have K9 : Keep h0 h2 [a, r0] := Keep.tr (Keep.refl h0 _) K3 (allS (Or.inl (List.mem_of_getElem? (i := 1) rfl)) all0)
  refine G.aloadN C d10_15 rfl rfl (n := 16) rfl ?_
  refine G.iloadN C d10_16 rfl (n := 17) rfl ?_
  refine G.iconst C (v := (1 : Int32)) d10_17 (by decide) (n := 18) rfl ?_
  refine G.iadd C d10_18 (n := 19) rfl ?_
  refine G.fold_int (z := (2 : Int32)) (by decide) ?_
  refine G.putfield C (host := "") (Or.inl (wd hw 72 rfl)) Via.refl (O6.2.2.2) (O6.1) (Or.inl (wd hw 73 rfl)) (wd hw 30 rfl) (ty := .int) (by decide) rfl rfl g_a d10_19 (n := 22) rfl ?_
  intro h10 W11
  have O12 := Ob_Al.set_size hw O6 W11
  have K13 := Keep.of_wr W11
  have O14 := O5.keep K13 (ninS (Ne.symm ne_ar) nin0)
  have OL15 := OL7.keep K13 (allS g_a all0)
  have Z16 : n0 ≤ h10.size := Nat.le_trans Z8 K13.1
  have K17 : Keep h0 h10 [a, r0] := Keep.tr K9 K13 (allS (Or.inl (List.mem_of_getElem? (i := 0) rfl)) all0)
  refine G.return_ C d10_22 (by decide) (by decide) ?_
  exact ⟨rfl, K17, _, O12, O14⟩
theorem ef39 (m : MethodId) (a : Addr) (x : Addr) (r0 : Addr) : entryFrame m #[(.ref a), (.ref x), (.ref r0), (.int (2 : Int32))] 4 = mkF m 0 #[.val (.ref a), .val (.ref x), .val (.ref r0), .val (.int (2 : Int32))] [] := by first | (simp [entryFrame, mkF, argsToLocals, Value.category]; done) | rfl
abbrev Q_ad3_2 (Z : State) (h0 : Heap) (n0 : Nat) (a : Addr) (mc : Int32) (dE : Addr) (x : Addr) (r0 : Addr) (y0 : Addr) (y1 : Addr) : Option Value → Heap → Prop := fun v h' => v = none ∧ Keep h0 h' [a, r0] ∧ ∃ m2, Ob_Al Z h' a m2 (.ref r0) 3 ∧ RefsX Z h' r0 [.ref y0, .ref y1, .ref x, .null, .null, .null, .null, .null, .null, .null]
abbrev R_ad3_2 : Room := { frames := 0, cells := 0, slots := 0, locals := 0 }
set_option maxRecDepth 65536 in
set_option maxHeartbeats 40000000 in
theorem m_ad3_2 (l : Launch) (Z : State) (a0 : Array Value) (hw : ∀ d ∈ tables_1, d.before a0 Z = true) (a : Addr) (mc : Int32) (dE : Addr) (x : Addr) (r0 : Addr) (y0 : Addr) (y1 : Addr) (h0 : Heap) (n0 : Nat) (Z0 : n0 ≤ h0.size) (OLD0 : Old Z n0 h0) (S_dE : Sta Z Z.heap "java/util/ArrayList" "DEFAULTCAPACITY_EMPTY_ELEMENTDATA" "[Ljava/lang/Object;" (.ref dE)) (O_dE : Refs Z Z.heap dE (.object "java/lang/Object") []) (E_x : Exa Z Z.heap x "java/lang/Long") (O_a : Ob_Al Z h0 a mc (.ref r0) 2) (g_a : n0 ≤ a) (O_r : RefsX Z h0 r0 [.ref y0, .ref y1, .null, .null, .null, .null, .null, .null, .null, .null]) (g_r : n0 ≤ r0) (ne_ar : a ≠ r0) : Met l Z (⟨"java/util/ArrayList", "add", "(Ljava/lang/Object;[Ljava/lang/Object;I)V"⟩ : MethodName) jdk_38_method_24_code 4 none R_ad3_2 #[(.ref a), (.ref x), (.ref r0), (.int (2 : Int32))] h0 n0 (Q_ad3_2 Z h0 n0 a mc dE x r0 y0 y1) := by
  refine Met.of (plainFor_of_name pn7) (fun m => ef39 m a x r0) ?_
  intro p e s m args below meth c C
  refine G.iloadN C d10_0 rfl (n := 1) rfl ?_
  refine G.aloadN C d10_1 rfl rfl (n := 2) rfl ?_
  refine G.arraylengthR C (len := (10 : Int32)) (RefsX.refs O_r) rfl d10_2 (n := 3) rfl ?_
  refine G.icmp_ne C (A := 2) (B := 10) (by decide) (by decide) d10_3 (by decide) (by decide) (n := 6) (n' := 11) rfl (fun c3_1 c3_1i => ?_) (fun c3_1 c3_1i => ?_)
  rotate_left
  · exact absurd c3_1 (by decide)
  refine G.aloadN C d10_11 rfl rfl (n := 12) rfl ?_
  refine G.iloadN C d10_12 rfl (n := 13) rfl ?_
  refine G.aloadN C d10_13 rfl rfl (n := 14) rfl ?_
  refine G.aastoreX C O_r (Ins.of_exa (E_x.ext OLD0.2) (wd hw 95 rfl)) (by decide) (show (2 : Int32).toInt < ((10 : Nat) : Int) by decide) g_r d10_14 (n := 15) rfl ?_
  intro h2 K3 O4
  have O5 : RefsX Z h2 r0 [.ref y0, .ref y1, .ref x, .null, .null, .null, .null, .null, .null, .null] := O4
  have O6 := O_a.keep K3 (ninS ne_ar nin0)
  have OL7 := OLD0.keep K3 (allS g_r all0)
  have Z8 : n0 ≤ h2.size := Nat.le_trans Z0 K3.1
  have K9 : Keep h0 h2 [a, r0] := Keep.tr (Keep.refl h0 _) K3 (allS (Or.inl (List.mem_of_getElem? (i := 1) rfl)) all0)
  refine G.aloadN C d10_15 rfl rfl (n := 16) rfl ?_
  refine G.iloadN C d10_16 rfl (n := 17) rfl ?_
  refine G.iconst C (v := (1 : Int32)) d10_17 (by decide) (n := 18) rfl ?_
  refine G.iadd C d10_18 (n := 19) rfl ?_
  refine G.fold_int (z := (3 : Int32)) (by decide) ?_
  refine G.putfield C (host := "") (Or.inl (wd hw 72 rfl)) Via.refl (O6.2.2.2) (O6.1) (Or.inl (wd hw 73 rfl)) (wd hw 30 rfl) (ty := .int) (by decide) rfl rfl g_a d10_19 (n := 22) rfl ?_
  intro h10 W11
  have O12 := Ob_Al.set_size hw O6 W11
  have K13 := Keep.of_wr W11
  have O14 := O5.keep K13 (ninS (Ne.symm ne_ar) nin0)
  have OL15 := OL7.keep K13 (allS g_a all0)
  have Z16 : n0 ≤ h10.size := Nat.le_trans Z8 K13.1
  have K17 : Keep h0 h10 [a, r0] := Keep.tr K9 K13 (allS (Or.inl (List.mem_of_getElem? (i := 0) rfl)) all0)
  refine G.return_ C d10_22 (by decide) (by decide) ?_
  exact ⟨rfl, K17, _, O12, O14⟩
theorem d9_0 : decode jdk_38_method_25_code 0 = .ok (.aload_n 0, 1) := by decide +kernel
theorem d9_1 : decode jdk_38_method_25_code 1 = .ok (.dup, 1) := by decide +kernel
theorem d9_2 : decode jdk_38_method_25_code 2 = .ok (.getfield 63, 3) := by decide +kernel
theorem d9_5 : decode jdk_38_method_25_code 5 = .ok (.iconst 1, 1) := by decide +kernel
theorem d9_6 : decode jdk_38_method_25_code 6 = .ok (.iadd, 1) := by decide +kernel
theorem d9_7 : decode jdk_38_method_25_code 7 = .ok (.putfield 63, 3) := by decide +kernel
theorem d9_10 : decode jdk_38_method_25_code 10 = .ok (.aload_n 0, 1) := by decide +kernel
theorem d9_11 : decode jdk_38_method_25_code 11 = .ok (.aload_n 1, 1) := by decide +kernel
theorem d9_12 : decode jdk_38_method_25_code 12 = .ok (.aload_n 0, 1) := by decide +kernel
theorem d9_13 : decode jdk_38_method_25_code 13 = .ok (.getfield 9, 3) := by decide +kernel
theorem d9_16 : decode jdk_38_method_25_code 16 = .ok (.aload_n 0, 1) := by decide +kernel
theorem d9_17 : decode jdk_38_method_25_code 17 = .ok (.getfield 48, 3) := by decide +kernel
theorem d9_20 : decode jdk_38_method_25_code 20 = .ok (.invokevirtual 131, 3) := by decide +kernel
theorem d9_23 : decode jdk_38_method_25_code 23 = .ok (.iconst 1, 1) := by decide +kernel
theorem d9_24 : decode jdk_38_method_25_code 24 = .ok (.ireturn, 1) := by decide +kernel
theorem pd4 : parseMethodDescriptor "(Ljava/lang/Object;[Ljava/lang/Object;I)V" = some ⟨[(.object "java/lang/Object"), (.array (.object "java/lang/Object")), .int], none⟩ := by decide +kernel
theorem ef40 (m : MethodId) (a : Addr) (x : Addr) : entryFrame m #[(.ref a), (.ref x)] 2 = mkF m 0 #[.val (.ref a), .val (.ref x)] [] := by first | (simp [entryFrame, mkF, argsToLocals, Value.category]; done) | rfl
abbrev Q_ad1_0 (Z : State) (h0 : Heap) (n0 : Nat) (a : Addr) (mc : Int32) (dE : Addr) (x : Addr) : Option Value → Heap → Prop := fun v h' => v = some (.int 1) ∧ Keep h0 h' [a] ∧ ∃ m2 r, Ob_Al Z h' a m2 (.ref r) 1 ∧ RefsX Z h' r [.ref x, .null, .null, .null, .null, .null, .null, .null, .null, .null] ∧ h0.size ≤ r
abbrev R_ad1_0 : Room := { frames := 4, cells := 1, slots := 10, locals := 56 }
set_option maxRecDepth 65536 in
set_option maxHeartbeats 40000000 in
theorem m_ad1_0 (l : Launch) (Z : State) (a0 : Array Value) (hw : ∀ d ∈ tables_1, d.before a0 Z = true) (a : Addr) (mc : Int32) (dE : Addr) (x : Addr) (h0 : Heap) (n0 : Nat) (Z0 : n0 ≤ h0.size) (OLD0 : Old Z n0 h0) (S_dE : Sta Z Z.heap "java/util/ArrayList" "DEFAULTCAPACITY_EMPTY_ELEMENTDATA" "[Ljava/lang/Object;" (.ref dE)) (O_dE : Refs Z Z.heap dE (.object "java/lang/Object") []) (E_x : Exa Z Z.heap x "java/lang/Long") (O_a : Ob_Al Z h0 a mc (.ref dE) 0) (g_a : n0 ≤ a) : Met l Z (⟨"java/util/ArrayList", "add", "(Ljava/lang/Object;)Z"⟩ : MethodName) jdk_38_method_25_code 2 (some .boolean) R_ad1_0 #[(.ref a), (.ref x)] h0 n0 (Q_ad1_0 Z h0 n0 a mc dE x) := by
  refine Met.of (plainFor_of_name pn7) (fun m => ef40 m a x) ?_
  intro p e s m args below meth c C
  refine G.aloadN C d9_0 rfl rfl (n := 1) rfl ?_
  refine G.dup C d9_1 rfl (n := 2) rfl ?_
  refine G.getfield C (host := "") (Or.inl (wd hw 70 rfl)) (Via.of (wd hw 71 rfl)) (O_a.2.1) d9_2 (n := 5) rfl ?_
  refine G.iconst C (v := (1 : Int32)) d9_5 (by decide) (n := 6) rfl ?_
  refine G.iadd C d9_6 (n := 7) rfl ?_
  refine G.putfield C (host := "") (Or.inl (wd hw 70 rfl)) (Via.of (wd hw 71 rfl)) (O_a.2.1) (O_a.1) (Or.inl (wd hw 49 rfl)) (wd hw 30 rfl) (ty := .int) (by decide) rfl rfl g_a d9_7 (n := 10) rfl ?_
  intro h1 W2
  have O3 := Ob_Al.set_modCount hw O_a W2
  have K4 := Keep.of_wr W2
  have OL5 := OLD0.keep K4 (allS g_a all0)
  have Z6 : n0 ≤ h1.size := Nat.le_trans Z0 K4.1
  have K7 : Keep h0 h1 [a] := Keep.tr (Keep.refl h0 _) K4 (allS (Or.inl (List.mem_of_getElem? (i := 0) rfl)) all0)
  refine G.aloadN C d9_10 rfl rfl (n := 11) rfl ?_
  refine G.aloadN C d9_11 rfl rfl (n := 12) rfl ?_
  refine G.aloadN C d9_12 rfl rfl (n := 13) rfl ?_
  refine G.getfield C (host := "") (Or.inl (wd hw 51 rfl)) Via.refl (O3.2.2.1) d9_13 (n := 16) rfl ?_
  refine G.aloadN C d9_16 rfl rfl (n := 17) rfl ?_
  refine G.getfield C (host := "") (Or.inl (wd hw 72 rfl)) Via.refl (O3.2.2.2) d9_17 (n := 20) rfl ?_
  refine G.callP C (argsL := [(.ref x), (.ref dE), (.int (0 : Int32))]) (yo := (⟨"java/util/ArrayList", "add", "(Ljava/lang/Object;[Ljava/lang/Object;I)V"⟩ : MethodName)) (yc := (⟨"java/util/ArrayList", "add", "(Ljava/lang/Object;[Ljava/lang/Object;I)V"⟩ : MethodName)) (a := a) (O3.1) (wd hw 74 rfl) (wd hw 77 rfl) rfl (wd hw 76 rfl) (wd hw 75 rfl) (wd hw 31 rfl) (wd hw 78 rfl) (by decide) (m_ad3_0 l Z a0 hw a (mc + (1 : Int32)) dE x h1 n0 Z6 OL5 S_dE O_dE E_x O3 g_a) rfl (by decide) (W := 0) rfl (by decide) (c' := 1) (s' := 10) rfl rfl (by decide) (by decide) d9_20 (n := 23) rfl pd4 rfl rfl ?_
  rintro _ h15 ⟨rfl, K8, m12, r13, O9, O10, f11⟩
  have ne16 : a ≠ r13 := Nat.ne_of_lt (Nat.lt_of_lt_of_le O3.lt f11)
  have g17 : n0 ≤ r13 := Nat.le_trans Z6 f11
  have f18 : h0.size ≤ r13 := Nat.le_trans K7.1 f11
  have OL19 := OL5.keep K8 (allS g_a all0)
  have Z20 : n0 ≤ h15.size := Nat.le_trans Z6 K8.1
  have K21 : Keep h0 h15 [a] := Keep.tr K7 K8 (allS (Or.inl (List.mem_of_getElem? (i := 0) rfl)) all0)
  refine G.iconst C (v := (1 : Int32)) d9_23 (by decide) (n := 24) rfl ?_
  refine G.ireturn C d9_24 (rfl) (by simp) (by decide) (by decide) ?_
  exact ⟨rfl, K21, _, _, O9, O10, f18⟩
theorem ef41 (m : MethodId) (a : Addr) (x : Addr) : entryFrame m #[(.ref a), (.ref x)] 2 = mkF m 0 #[.val (.ref a), .val (.ref x)] [] := by first | (simp [entryFrame, mkF, argsToLocals, Value.category]; done) | rfl
abbrev Q_ad1_1 (Z : State) (h0 : Heap) (n0 : Nat) (a : Addr) (mc : Int32) (dE : Addr) (x : Addr) (r0 : Addr) (y0 : Addr) : Option Value → Heap → Prop := fun v h' => v = some (.int 1) ∧ Keep h0 h' [a, r0] ∧ ∃ m2, Ob_Al Z h' a m2 (.ref r0) 2 ∧ RefsX Z h' r0 [.ref y0, .ref x, .null, .null, .null, .null, .null, .null, .null, .null]
abbrev R_ad1_1 : Room := { frames := 1, cells := 0, slots := 0, locals := 15 }
set_option maxRecDepth 65536 in
set_option maxHeartbeats 40000000 in
theorem m_ad1_1 (l : Launch) (Z : State) (a0 : Array Value) (hw : ∀ d ∈ tables_1, d.before a0 Z = true) (a : Addr) (mc : Int32) (dE : Addr) (x : Addr) (r0 : Addr) (y0 : Addr) (h0 : Heap) (n0 : Nat) (Z0 : n0 ≤ h0.size) (OLD0 : Old Z n0 h0) (S_dE : Sta Z Z.heap "java/util/ArrayList" "DEFAULTCAPACITY_EMPTY_ELEMENTDATA" "[Ljava/lang/Object;" (.ref dE)) (O_dE : Refs Z Z.heap dE (.object "java/lang/Object") []) (E_x : Exa Z Z.heap x "java/lang/Long") (O_a : Ob_Al Z h0 a mc (.ref r0) 1) (g_a : n0 ≤ a) (O_r : RefsX Z h0 r0 [.ref y0, .null, .null, .null, .null, .null, .null, .null, .null, .null]) (g_r : n0 ≤ r0) (ne_ar : a ≠ r0) : Met l Z (⟨"java/util/ArrayList", "add", "(Ljava/lang/Object;)Z"⟩ : MethodName) jdk_38_method_25_code 2 (some .boolean) R_ad1_1 #[(.ref a), (.ref x)] h0 n0 (Q_ad1_1 Z h0 n0 a mc dE x r0 y0) := by
  refine Met.of (plainFor_of_name pn7) (fun m => ef41 m a x) ?_
  intro p e s m args below meth c C
  refine G.aloadN C d9_0 rfl rfl (n := 1) rfl ?_
  refine G.dup C d9_1 rfl (n := 2) rfl ?_
  refine G.getfield C (host := "") (Or.inl (wd hw 70 rfl)) (Via.of (wd hw 71 rfl)) (O_a.2.1) d9_2 (n := 5) rfl ?_
  refine G.iconst C (v := (1 : Int32)) d9_5 (by decide) (n := 6) rfl ?_
  refine G.iadd C d9_6 (n := 7) rfl ?_
  refine G.putfield C (host := "") (Or.inl (wd hw 70 rfl)) (Via.of (wd hw 71 rfl)) (O_a.2.1) (O_a.1) (Or.inl (wd hw 49 rfl)) (wd hw 30 rfl) (ty := .int) (by decide) rfl rfl g_a d9_7 (n := 10) rfl ?_
  intro h1 W2
  have O3 := Ob_Al.set_modCount hw O_a W2
  have K4 := Keep.of_wr W2
  have O5 := O_r.keep K4 (ninS (Ne.symm ne_ar) nin0)
  have OL6 := OLD0.keep K4 (allS g_a all0)
  have Z7 : n0 ≤ h1.size := Nat.le_trans Z0 K4.1
  have K8 : Keep h0 h1 [a, r0] := Keep.tr (Keep.refl h0 _) K4 (allS (Or.inl (List.mem_of_getElem? (i := 0) rfl)) all0)
  refine G.aloadN C d9_10 rfl rfl (n := 11) rfl ?_
  refine G.aloadN C d9_11 rfl rfl (n := 12) rfl ?_
  refine G.aloadN C d9_12 rfl rfl (n := 13) rfl ?_
  refine G.getfield C (host := "") (Or.inl (wd hw 51 rfl)) Via.refl (O3.2.2.1) d9_13 (n := 16) rfl ?_
  refine G.aloadN C d9_16 rfl rfl (n := 17) rfl ?_
  refine G.getfield C (host := "") (Or.inl (wd hw 72 rfl)) Via.refl (O3.2.2.2) d9_17 (n := 20) rfl ?_
  refine G.callP C (argsL := [(.ref x), (.ref r0), (.int (1 : Int32))]) (yo := (⟨"java/util/ArrayList", "add", "(Ljava/lang/Object;[Ljava/lang/Object;I)V"⟩ : MethodName)) (yc := (⟨"java/util/ArrayList", "add", "(Ljava/lang/Object;[Ljava/lang/Object;I)V"⟩ : MethodName)) (a := a) (O3.1) (wd hw 74 rfl) (wd hw 77 rfl) rfl (wd hw 76 rfl) (wd hw 75 rfl) (wd hw 31 rfl) (wd hw 78 rfl) (by decide) (m_ad3_1 l Z a0 hw a (mc + (1 : Int32)) dE x r0 y0 h1 n0 Z7 OL6 S_dE O_dE E_x O3 g_a O5 g_r ne_ar) rfl (by decide) (W := 0) rfl (by decide) (c' := 0) (s' := 0) rfl rfl (by decide) (by decide) d9_20 (n := 23) rfl pd4 rfl rfl ?_
  rintro _ h15 ⟨rfl, K9, m13, O10, O11⟩
  have OL16 := OL6.keep K9 (allS g_a (allS g_r all0))
  have Z17 : n0 ≤ h15.size := Nat.le_trans Z7 K9.1
  have K18 : Keep h0 h15 [a, r0] := Keep.tr K8 K9 (allS (Or.inl (List.mem_of_getElem? (i := 0) rfl)) (allS (Or.inl (List.mem_of_getElem? (i := 1) rfl)) all0))
  refine G.iconst C (v := (1 : Int32)) d9_23 (by decide) (n := 24) rfl ?_
  refine G.ireturn C d9_24 (rfl) (by simp) (by decide) (by decide) ?_
  exact ⟨rfl, K18, _, O10, O11⟩
theorem ef42 (m : MethodId) (a : Addr) (x : Addr) : entryFrame m #[(.ref a), (.ref x)] 2 = mkF m 0 #[.val (.ref a), .val (.ref x)] [] := by first | (simp [entryFrame, mkF, argsToLocals, Value.category]; done) | rfl
abbrev Q_ad1_2 (Z : State) (h0 : Heap) (n0 : Nat) (a : Addr) (mc : Int32) (dE : Addr) (x : Addr) (r0 : Addr) (y0 : Addr) (y1 : Addr) : Option Value → Heap → Prop := fun v h' => v = some (.int 1) ∧ Keep h0 h' [a, r0] ∧ ∃ m2, Ob_Al Z h' a m2 (.ref r0) 3 ∧ RefsX Z h' r0 [.ref y0, .ref y1, .ref x, .null, .null, .null, .null, .null, .null, .null]
abbrev R_ad1_2 : Room := { frames := 1, cells := 0, slots := 0, locals := 15 }
set_option maxRecDepth 65536 in
set_option maxHeartbeats 40000000 in
theorem m_ad1_2 (l : Launch) (Z : State) (a0 : Array Value) (hw : ∀ d ∈ tables_1, d.before a0 Z = true) (a : Addr) (mc : Int32) (dE : Addr) (x : Addr) (r0 : Addr) (y0 : Addr) (y1 : Addr) (h0 : Heap) (n0 : Nat) (Z0 : n0 ≤ h0.size) (OLD0 : Old Z n0 h0) (S_dE : Sta Z Z.heap "java/util/ArrayList" "DEFAULTCAPACITY_EMPTY_ELEMENTDATA" "[Ljava/lang/Object;" (.ref dE)) (O_dE : Refs Z Z.heap dE (.object "java/lang/Object") []) (E_x : Exa Z Z.heap x "java/lang/Long") (O_a : Ob_Al Z h0 a mc (.ref r0) 2) (g_a : n0 ≤ a) (O_r : RefsX Z h0 r0 [.ref y0, .ref y1, .null, .null, .null, .null, .null, .null, .null, .null]) (g_r : n0 ≤ r0) (ne_ar : a ≠ r0) : Met l Z (⟨"java/util/ArrayList", "add", "(Ljava/lang/Object;)Z"⟩ : MethodName) jdk_38_method_25_code 2 (some .boolean) R_ad1_2 #[(.ref a), (.ref x)] h0 n0 (Q_ad1_2 Z h0 n0 a mc dE x r0 y0 y1) := by
  refine Met.of (plainFor_of_name pn7) (fun m => ef42 m a x) ?_
  intro p e s m args below meth c C
  refine G.aloadN C d9_0 rfl rfl (n := 1) rfl ?_
  refine G.dup C d9_1 rfl (n := 2) rfl ?_
  refine G.getfield C (host := "") (Or.inl (wd hw 70 rfl)) (Via.of (wd hw 71 rfl)) (O_a.2.1) d9_2 (n := 5) rfl ?_
  refine G.iconst C (v := (1 : Int32)) d9_5 (by decide) (n := 6) rfl ?_
  refine G.iadd C d9_6 (n := 7) rfl ?_
  refine G.putfield C (host := "") (Or.inl (wd hw 70 rfl)) (Via.of (wd hw 71 rfl)) (O_a.2.1) (O_a.1) (Or.inl (wd hw 49 rfl)) (wd hw 30 rfl) (ty := .int) (by decide) rfl rfl g_a d9_7 (n := 10) rfl ?_
  intro h1 W2
  have O3 := Ob_Al.set_modCount hw O_a W2
  have K4 := Keep.of_wr W2
  have O5 := O_r.keep K4 (ninS (Ne.symm ne_ar) nin0)
  have OL6 := OLD0.keep K4 (allS g_a all0)
  have Z7 : n0 ≤ h1.size := Nat.le_trans Z0 K4.1
  have K8 : Keep h0 h1 [a, r0] := Keep.tr (Keep.refl h0 _) K4 (allS (Or.inl (List.mem_of_getElem? (i := 0) rfl)) all0)
  refine G.aloadN C d9_10 rfl rfl (n := 11) rfl ?_
  refine G.aloadN C d9_11 rfl rfl (n := 12) rfl ?_
  refine G.aloadN C d9_12 rfl rfl (n := 13) rfl ?_
  refine G.getfield C (host := "") (Or.inl (wd hw 51 rfl)) Via.refl (O3.2.2.1) d9_13 (n := 16) rfl ?_
  refine G.aloadN C d9_16 rfl rfl (n := 17) rfl ?_
  refine G.getfield C (host := "") (Or.inl (wd hw 72 rfl)) Via.refl (O3.2.2.2) d9_17 (n := 20) rfl ?_
  refine G.callP C (argsL := [(.ref x), (.ref r0), (.int (2 : Int32))]) (yo := (⟨"java/util/ArrayList", "add", "(Ljava/lang/Object;[Ljava/lang/Object;I)V"⟩ : MethodName)) (yc := (⟨"java/util/ArrayList", "add", "(Ljava/lang/Object;[Ljava/lang/Object;I)V"⟩ : MethodName)) (a := a) (O3.1) (wd hw 74 rfl) (wd hw 77 rfl) rfl (wd hw 76 rfl) (wd hw 75 rfl) (wd hw 31 rfl) (wd hw 78 rfl) (by decide) (m_ad3_2 l Z a0 hw a (mc + (1 : Int32)) dE x r0 y0 y1 h1 n0 Z7 OL6 S_dE O_dE E_x O3 g_a O5 g_r ne_ar) rfl (by decide) (W := 0) rfl (by decide) (c' := 0) (s' := 0) rfl rfl (by decide) (by decide) d9_20 (n := 23) rfl pd4 rfl rfl ?_
  rintro _ h15 ⟨rfl, K9, m13, O10, O11⟩
  have OL16 := OL6.keep K9 (allS g_a (allS g_r all0))
  have Z17 : n0 ≤ h15.size := Nat.le_trans Z7 K9.1
  have K18 : Keep h0 h15 [a, r0] := Keep.tr K8 K9 (allS (Or.inl (List.mem_of_getElem? (i := 0) rfl)) (allS (Or.inl (List.mem_of_getElem? (i := 1) rfl)) all0))
  refine G.iconst C (v := (1 : Int32)) d9_23 (by decide) (n := 24) rfl ?_
  refine G.ireturn C d9_24 (rfl) (by simp) (by decide) (by decide) ?_
  exact ⟨rfl, K18, _, O10, O11⟩
theorem d19_0 : decode jdk_65_method_120_code 0 = .ok (.aload_n 2, 1) := by decide +kernel
theorem d19_1 : decode jdk_65_method_120_code 1 = .ok (.ldc 110, 2) := by decide +kernel
theorem d19_3 : decode jdk_65_method_120_code 3 = .ok (.if_acmp .ne 10, 3) := by decide +kernel
theorem d19_6 : decode jdk_65_method_120_code 6 = .ok (.iload_n 1, 1) := by decide +kernel
theorem d19_7 : decode jdk_65_method_120_code 7 = .ok (.anewarray 2, 3) := by decide +kernel
theorem d19_10 : decode jdk_65_method_120_code 10 = .ok (.goto 14, 3) := by decide +kernel
theorem d19_13 : decode jdk_65_method_120_code 13 = .ok (.aload_n 2, 1) := by decide +kernel
theorem d19_14 : decode jdk_65_method_120_code 14 = .ok (.invokevirtual 90, 3) := by decide +kernel
theorem d19_17 : decode jdk_65_method_120_code 17 = .ok (.iload_n 1, 1) := by decide +kernel
theorem d19_18 : decode jdk_65_method_120_code 18 = .ok (.invokestatic 95, 3) := by decide +kernel
theorem d19_21 : decode jdk_65_method_120_code 21 = .ok (.checkcast 110, 3) := by decide +kernel
theorem d19_24 : decode jdk_65_method_120_code 24 = .ok (.astore_n 3, 1) := by decide +kernel
theorem d19_25 : decode jdk_65_method_120_code 25 = .ok (.aload_n 0, 1) := by decide +kernel
theorem d19_26 : decode jdk_65_method_120_code 26 = .ok (.iconst 0, 1) := by decide +kernel
theorem d19_27 : decode jdk_65_method_120_code 27 = .ok (.aload_n 3, 1) := by decide +kernel
theorem d19_28 : decode jdk_65_method_120_code 28 = .ok (.iconst 0, 1) := by decide +kernel
theorem d19_29 : decode jdk_65_method_120_code 29 = .ok (.aload_n 0, 1) := by decide +kernel
theorem d19_30 : decode jdk_65_method_120_code 30 = .ok (.arraylength, 1) := by decide +kernel
theorem d19_31 : decode jdk_65_method_120_code 31 = .ok (.iload_n 1, 1) := by decide +kernel
theorem d19_32 : decode jdk_65_method_120_code 32 = .ok (.invokestatic 304, 3) := by decide +kernel
theorem d19_35 : decode jdk_65_method_120_code 35 = .ok (.invokestatic 150, 3) := by decide +kernel
theorem d19_38 : decode jdk_65_method_120_code 38 = .ok (.aload_n 3, 1) := by decide +kernel
theorem d19_39 : decode jdk_65_method_120_code 39 = .ok (.areturn, 1) := by decide +kernel
theorem pn8 : plainName "java/util/Arrays" = true := by first | (simp [plainName, overriddenIn]; done) | decide +kernel
theorem ef43 (m : MethodId) (r0 : Addr) (mr : Addr) : entryFrame m #[(.ref r0), (.int (1 : Int32)), (.ref mr)] 4 = mkF m 0 #[.val (.ref r0), .val (.int (1 : Int32)), .val (.ref mr), .unset] [] := by first | (simp [entryFrame, mkF, argsToLocals, Value.category]; done) | rfl
abbrev Q_cp3_1 (Z : State) (h0 : Heap) (n0 : Nat) (mr : Addr) (r0 : Addr) (y0 : Addr) : Option Value → Heap → Prop := fun v h' => ∃ r, v = some (.ref r) ∧ Keep h0 h' [] ∧ RefsX Z h' r [.ref y0] ∧ h0.size ≤ r
abbrev R_cp3_1 : Room := { frames := 1, cells := 1, slots := 1, locals := 18 }
set_option maxRecDepth 65536 in
set_option maxHeartbeats 40000000 in
theorem m_cp3_1 (l : Launch) (Z : State) (a0 : Array Value) (hw : ∀ d ∈ tables_1, d.before a0 Z = true) (mr : Addr) (r0 : Addr) (y0 : Addr) (h0 : Heap) (n0 : Nat) (Z0 : n0 ≤ h0.size) (OLD0 : Old Z n0 h0) (M_r : MirA Z "[Ljava/lang/Object;" mr) (E_y0 : Exa Z Z.heap y0 "java/lang/Long") (O_r : RefsX Z h0 r0 [.ref y0, .null, .null, .null, .null, .null, .null, .null, .null, .null]) : Met l Z (⟨"java/util/Arrays", "copyOf", "([Ljava/lang/Object;ILjava/lang/Class;)[Ljava/lang/Object;"⟩ : MethodName) jdk_65_method_120_code 4 (some (.array (.object "java/lang/Object"))) R_cp3_1 #[(.ref r0), (.int (1 : Int32)), (.ref mr)] h0 n0 (Q_cp3_1 Z h0 n0 mr r0 y0) := by
  refine Met.of (plainFor_of_name pn8) (fun m => ef43 m r0 mr) ?_
  intro p e s m args below meth c C
  refine G.aloadN C d19_0 rfl rfl (n := 1) rfl ?_
  refine G.ldcClass C (wd hw 140 rfl) M_r d19_1 (n := 3) rfl ?_
  refine G.acmp_ne C rfl rfl d19_3 (by decide) (by decide) (n := 6) (n' := 13) rfl (fun c3_1 => ?_) (fun c3_1 => ?_)
  · exact absurd rfl c3_1
  refine G.iloadN C d19_6 rfl (n := 7) rfl ?_
  refine G.anewarrayX C (cap := 1) (wd hw 141 rfl) (wd hw 94 rfl) (by decide) (by decide) d19_7 (n := 10) rfl (c' := 1) (s' := 1) rfl rfl (by decide) (by decide) ?_
  intro h2 b3 q4 E5 O6
  have O7 : RefsX Z h2 b3 [.null] := O6
  have ne8 : r0 ≠ b3 := Nat.ne_of_lt (Nat.lt_of_lt_of_le O_r.lt (Nat.le_of_eq q4.symm))
  have g9 : n0 ≤ b3 := Nat.le_trans Z0 (Nat.le_of_eq q4.symm)
  have f10 : h0.size ≤ b3 := Nat.le_trans (Keep.refl h0 []).1 (Nat.le_of_eq q4.symm)
  have K11 := kext E5
  have O12 := O_r.keep K11 nin0
  have OL13 := OLD0.keep K11 all0
  have Z14 : n0 ≤ h2.size := Nat.le_trans Z0 K11.1
  have K15 : Keep h0 h2 [] := Keep.tr (Keep.refl h0 _) K11 all0
  refine G.goto C d19_10 (by decide) (n := 24) (by decide) ?_
  refine G.astoreN C d19_24 rfl (l' := #[.val (.ref r0), .val (.int (1 : Int32)), .val (.ref mr), .val (.ref b3)]) rfl (n := 25) rfl ?_
  refine G.aloadN C d19_25 rfl rfl (n := 26) rfl ?_
  refine G.iconst C (v := (0 : Int32)) d19_26 (by decide) (n := 27) rfl ?_
  refine G.aloadN C d19_27 rfl rfl (n := 28) rfl ?_
  refine G.iconst C (v := (0 : Int32)) d19_28 (by decide) (n := 29) rfl ?_
  refine G.aloadN C d19_29 rfl rfl (n := 30) rfl ?_
  refine G.arraylengthR C (len := (10 : Int32)) (RefsX.refs O12) rfl d19_30 (n := 31) rfl ?_
  refine G.iloadN C d19_31 rfl (n := 32) rfl ?_
  refine G.callS C (argsL := [(.int (10 : Int32)), (.int (1 : Int32))]) (yc := (⟨"java/lang/Math", "min", "(II)I"⟩ : MethodName)) (wd hw 142 rfl) (wd hw 143 rfl) (wd hw 91 rfl) (wd hw 144 rfl) (by decide) (m_mi1 l Z a0 hw  h2 n0 Z14) rfl (by decide) (W := 4) rfl (by decide) (c' := 1) (s' := 1) rfl rfl (by decide) (by decide) d19_32 (n := 35) rfl pd1 rfl rfl ?_
  rintro _ _ ⟨rfl, rfl⟩
  refine G.arraycopyX C (nn := (1 : Int32)) (us := [.ref y0]) (ws := [.ref y0]) (wd hw 145 rfl) (wd hw 148 rfl) (wd hw 146 rfl) (wd hw 147 rfl) O12 O7 (fun v hv => by
      simp only [List.mem_cons, List.not_mem_nil, or_false] at hv
      rcases hv with rfl
      · exact Or.inr ⟨_, rfl, (Ins.of_exa (E_y0.ext OL13.2) (wd hw 95 rfl))⟩) (by decide) (show (1 : Int32).toInt ≤ ((10 : Nat) : Int) by decide) (show (1 : Int32).toInt ≤ ((1 : Nat) : Int) by decide) rfl rfl g9 d19_35 rfl (by decide) (W := 0) rfl (by decide) (n := 38) rfl ?_
  intro h18 K19 O20
  have O21 := O12.keep K19 (ninS ne8 nin0)
  have OL22 := OL13.keep K19 (allS g9 all0)
  have Z23 : n0 ≤ h18.size := Nat.le_trans Z14 K19.1
  have K24 : Keep h0 h18 [] := Keep.tr K15 K19 (allS (Or.inr f10) all0)
  refine G.aloadN C d19_38 rfl rfl (n := 39) rfl ?_
  refine G.areturn C d19_39 rfl rfl rfl (by decide) (by decide) ?_
  exact ⟨_, rfl, K24, O20, f10⟩
theorem ef44 (m : MethodId) (r0 : Addr) (mr : Addr) : entryFrame m #[(.ref r0), (.int (2 : Int32)), (.ref mr)] 4 = mkF m 0 #[.val (.ref r0), .val (.int (2 : Int32)), .val (.ref mr), .unset] [] := by first | (simp [entryFrame, mkF, argsToLocals, Value.category]; done) | rfl
abbrev Q_cp3_2 (Z : State) (h0 : Heap) (n0 : Nat) (mr : Addr) (r0 : Addr) (y0 : Addr) (y1 : Addr) : Option Value → Heap → Prop := fun v h' => ∃ r, v = some (.ref r) ∧ Keep h0 h' [] ∧ RefsX Z h' r [.ref y0, .ref y1] ∧ h0.size ≤ r
abbrev R_cp3_2 : Room := { frames := 1, cells := 1, slots := 2, locals := 18 }
set_option maxRecDepth 65536 in
set_option maxHeartbeats 40000000 in
theorem m_cp3_2 (l : Launch) (Z : State) (a0 : Array Value) (hw : ∀ d ∈ tables_1, d.before a0 Z = true) (mr : Addr) (r0 : Addr) (y0 : Addr) (y1 : Addr) (h0 : Heap) (n0 : Nat) (Z0 : n0 ≤ h0.size) (OLD0 : Old Z n0 h0) (M_r : MirA Z "[Ljava/lang/Object;" mr) (E_y0 : Exa Z Z.heap y0 "java/lang/Long") (E_y1 : Exa Z Z.heap y1 "java/lang/Long") (O_r : RefsX Z h0 r0 [.ref y0, .ref y1, .null, .null, .null, .null, .null, .null, .null, .null]) : Met l Z (⟨"java/util/Arrays", "copyOf", "([Ljava/lang/Object;ILjava/lang/Class;)[Ljava/lang/Object;"⟩ : MethodName) jdk_65_method_120_code 4 (some (.array (.object "java/lang/Object"))) R_cp3_2 #[(.ref r0), (.int (2 : Int32)), (.ref mr)] h0 n0 (Q_cp3_2 Z h0 n0 mr r0 y0 y1) := by
  refine Met.of (plainFor_of_name pn8) (fun m => ef44 m r0 mr) ?_
  intro p e s m args below meth c C
  refine G.aloadN C d19_0 rfl rfl (n := 1) rfl ?_
  refine G.ldcClass C (wd hw 140 rfl) M_r d19_1 (n := 3) rfl ?_
  refine G.acmp_ne C rfl rfl d19_3 (by decide) (by decide) (n := 6) (n' := 13) rfl (fun c3_1 => ?_) (fun c3_1 => ?_)
  · exact absurd rfl c3_1
  refine G.iloadN C d19_6 rfl (n := 7) rfl ?_
  refine G.anewarrayX C (cap := 2) (wd hw 141 rfl) (wd hw 94 rfl) (by decide) (by decide) d19_7 (n := 10) rfl (c' := 1) (s' := 2) rfl rfl (by decide) (by decide) ?_
  intro h2 b3 q4 E5 O6
  have O7 : RefsX Z h2 b3 [.null, .null] := O6
  have ne8 : r0 ≠ b3 := Nat.ne_of_lt (Nat.lt_of_lt_of_le O_r.lt (Nat.le_of_eq q4.symm))
  have g9 : n0 ≤ b3 := Nat.le_trans Z0 (Nat.le_of_eq q4.symm)
  have f10 : h0.size ≤ b3 := Nat.le_trans (Keep.refl h0 []).1 (Nat.le_of_eq q4.symm)
  have K11 := kext E5
  have O12 := O_r.keep K11 nin0
  have OL13 := OLD0.keep K11 all0
  have Z14 : n0 ≤ h2.size := Nat.le_trans Z0 K11.1
  have K15 : Keep h0 h2 [] := Keep.tr (Keep.refl h0 _) K11 all0
  refine G.goto C d19_10 (by decide) (n := 24) (by decide) ?_
  refine G.astoreN C d19_24 rfl (l' := #[.val (.ref r0), .val (.int (2 : Int32)), .val (.ref mr), .val (.ref b3)]) rfl (n := 25) rfl ?_
  refine G.aloadN C d19_25 rfl rfl (n := 26) rfl ?_
  refine G.iconst C (v := (0 : Int32)) d19_26 (by decide) (n := 27) rfl ?_
  refine G.aloadN C d19_27 rfl rfl (n := 28) rfl ?_
  refine G.iconst C (v := (0 : Int32)) d19_28 (by decide) (n := 29) rfl ?_
  refine G.aloadN C d19_29 rfl rfl (n := 30) rfl ?_
  refine G.arraylengthR C (len := (10 : Int32)) (RefsX.refs O12) rfl d19_30 (n := 31) rfl ?_
  refine G.iloadN C d19_31 rfl (n := 32) rfl ?_
  refine G.callS C (argsL := [(.int (10 : Int32)), (.int (2 : Int32))]) (yc := (⟨"java/lang/Math", "min", "(II)I"⟩ : MethodName)) (wd hw 142 rfl) (wd hw 143 rfl) (wd hw 91 rfl) (wd hw 144 rfl) (by decide) (m_mi2 l Z a0 hw  h2 n0 Z14) rfl (by decide) (W := 4) rfl (by decide) (c' := 1) (s' := 2) rfl rfl (by decide) (by decide) d19_32 (n := 35) rfl pd1 rfl rfl ?_
  rintro _ _ ⟨rfl, rfl⟩
  refine G.arraycopyX C (nn := (2 : Int32)) (us := [.ref y0, .ref y1]) (ws := [.ref y0, .ref y1]) (wd hw 145 rfl) (wd hw 148 rfl) (wd hw 146 rfl) (wd hw 147 rfl) O12 O7 (fun v hv => by
      simp only [List.mem_cons, List.not_mem_nil, or_false] at hv
      rcases hv with rfl | rfl
      · exact Or.inr ⟨_, rfl, (Ins.of_exa (E_y0.ext OL13.2) (wd hw 95 rfl))⟩
      · exact Or.inr ⟨_, rfl, (Ins.of_exa (E_y1.ext OL13.2) (wd hw 95 rfl))⟩) (by decide) (show (2 : Int32).toInt ≤ ((10 : Nat) : Int) by decide) (show (2 : Int32).toInt ≤ ((2 : Nat) : Int) by decide) rfl rfl g9 d19_35 rfl (by decide) (W := 0) rfl (by decide) (n := 38) rfl ?_
  intro h18 K19 O20
  have O21 := O12.keep K19 (ninS ne8 nin0)
  have OL22 := OL13.keep K19 (allS g9 all0)
  have Z23 : n0 ≤ h18.size := Nat.le_trans Z14 K19.1
  have K24 : Keep h0 h18 [] := Keep.tr K15 K19 (allS (Or.inr f10) all0)
  refine G.aloadN C d19_38 rfl rfl (n := 39) rfl ?_
  refine G.areturn C d19_39 rfl rfl rfl (by decide) (by decide) ?_
  exact ⟨_, rfl, K24, O20, f10⟩
theorem ef45 (m : MethodId) (r0 : Addr) (mr : Addr) : entryFrame m #[(.ref r0), (.int (3 : Int32)), (.ref mr)] 4 = mkF m 0 #[.val (.ref r0), .val (.int (3 : Int32)), .val (.ref mr), .unset] [] := by first | (simp [entryFrame, mkF, argsToLocals, Value.category]; done) | rfl
abbrev Q_cp3_3 (Z : State) (h0 : Heap) (n0 : Nat) (mr : Addr) (r0 : Addr) (y0 : Addr) (y1 : Addr) (y2 : Addr) : Option Value → Heap → Prop := fun v h' => ∃ r, v = some (.ref r) ∧ Keep h0 h' [] ∧ RefsX Z h' r [.ref y0, .ref y1, .ref y2] ∧ h0.size ≤ r
abbrev R_cp3_3 : Room := { frames := 1, cells := 1, slots := 3, locals := 18 }
set_option maxRecDepth 65536 in
set_option maxHeartbeats 40000000 in
theorem m_cp3_3 (l : Launch) (Z : State) (a0 : Array Value) (hw : ∀ d ∈ tables_1, d.before a0 Z = true) (mr : Addr) (r0 : Addr) (y0 : Addr) (y1 : Addr) (y2 : Addr) (h0 : Heap) (n0 : Nat) (Z0 : n0 ≤ h0.size) (OLD0 : Old Z n0 h0) (M_r : MirA Z "[Ljava/lang/Object;" mr) (E_y0 : Exa Z Z.heap y0 "java/lang/Long") (E_y1 : Exa Z Z.heap y1 "java/lang/Long") (E_y2 : Exa Z Z.heap y2 "java/lang/Long") (O_r : RefsX Z h0 r0 [.ref y0, .ref y1, .ref y2, .null, .null, .null, .null, .null, .null, .null]) : Met l Z (⟨"java/util/Arrays", "copyOf", "([Ljava/lang/Object;ILjava/lang/Class;)[Ljava/lang/Object;"⟩ : MethodName) jdk_65_method_120_code 4 (some (.array (.object "java/lang/Object"))) R_cp3_3 #[(.ref r0), (.int (3 : Int32)), (.ref mr)] h0 n0 (Q_cp3_3 Z h0 n0 mr r0 y0 y1 y2) := by
  refine Met.of (plainFor_of_name pn8) (fun m => ef45 m r0 mr) ?_
  intro p e s m args below meth c C
  refine G.aloadN C d19_0 rfl rfl (n := 1) rfl ?_
  refine G.ldcClass C (wd hw 140 rfl) M_r d19_1 (n := 3) rfl ?_
  refine G.acmp_ne C rfl rfl d19_3 (by decide) (by decide) (n := 6) (n' := 13) rfl (fun c3_1 => ?_) (fun c3_1 => ?_)
  · exact absurd rfl c3_1
  refine G.iloadN C d19_6 rfl (n := 7) rfl ?_
  refine G.anewarrayX C (cap := 3) (wd hw 141 rfl) (wd hw 94 rfl) (by decide) (by decide) d19_7 (n := 10) rfl (c' := 1) (s' := 3) rfl rfl (by decide) (by decide) ?_
  intro h2 b3 q4 E5 O6
  have O7 : RefsX Z h2 b3 [.null, .null, .null] := O6
  have ne8 : r0 ≠ b3 := Nat.ne_of_lt (Nat.lt_of_lt_of_le O_r.lt (Nat.le_of_eq q4.symm))
  have g9 : n0 ≤ b3 := Nat.le_trans Z0 (Nat.le_of_eq q4.symm)
  have f10 : h0.size ≤ b3 := Nat.le_trans (Keep.refl h0 []).1 (Nat.le_of_eq q4.symm)
  have K11 := kext E5
  have O12 := O_r.keep K11 nin0
  have OL13 := OLD0.keep K11 all0
  have Z14 : n0 ≤ h2.size := Nat.le_trans Z0 K11.1
  have K15 : Keep h0 h2 [] := Keep.tr (Keep.refl h0 _) K11 all0
  refine G.goto C d19_10 (by decide) (n := 24) (by decide) ?_
  refine G.astoreN C d19_24 rfl (l' := #[.val (.ref r0), .val (.int (3 : Int32)), .val (.ref mr), .val (.ref b3)]) rfl (n := 25) rfl ?_
  refine G.aloadN C d19_25 rfl rfl (n := 26) rfl ?_
  refine G.iconst C (v := (0 : Int32)) d19_26 (by decide) (n := 27) rfl ?_
  refine G.aloadN C d19_27 rfl rfl (n := 28) rfl ?_
  refine G.iconst C (v := (0 : Int32)) d19_28 (by decide) (n := 29) rfl ?_
  refine G.aloadN C d19_29 rfl rfl (n := 30) rfl ?_
  refine G.arraylengthR C (len := (10 : Int32)) (RefsX.refs O12) rfl d19_30 (n := 31) rfl ?_
  refine G.iloadN C d19_31 rfl (n := 32) rfl ?_
  refine G.callS C (argsL := [(.int (10 : Int32)), (.int (3 : Int32))]) (yc := (⟨"java/lang/Math", "min", "(II)I"⟩ : MethodName)) (wd hw 142 rfl) (wd hw 143 rfl) (wd hw 91 rfl) (wd hw 144 rfl) (by decide) (m_mi3 l Z a0 hw  h2 n0 Z14) rfl (by decide) (W := 4) rfl (by decide) (c' := 1) (s' := 3) rfl rfl (by decide) (by decide) d19_32 (n := 35) rfl pd1 rfl rfl ?_
  rintro _ _ ⟨rfl, rfl⟩
  refine G.arraycopyX C (nn := (3 : Int32)) (us := [.ref y0, .ref y1, .ref y2]) (ws := [.ref y0, .ref y1, .ref y2]) (wd hw 145 rfl) (wd hw 148 rfl) (wd hw 146 rfl) (wd hw 147 rfl) O12 O7 (fun v hv => by
      simp only [List.mem_cons, List.not_mem_nil, or_false] at hv
      rcases hv with rfl | rfl | rfl
      · exact Or.inr ⟨_, rfl, (Ins.of_exa (E_y0.ext OL13.2) (wd hw 95 rfl))⟩
      · exact Or.inr ⟨_, rfl, (Ins.of_exa (E_y1.ext OL13.2) (wd hw 95 rfl))⟩
      · exact Or.inr ⟨_, rfl, (Ins.of_exa (E_y2.ext OL13.2) (wd hw 95 rfl))⟩) (by decide) (show (3 : Int32).toInt ≤ ((10 : Nat) : Int) by decide) (show (3 : Int32).toInt ≤ ((3 : Nat) : Int) by decide) rfl rfl g9 d19_35 rfl (by decide) (W := 0) rfl (by decide) (n := 38) rfl ?_
  intro h18 K19 O20
  have O21 := O12.keep K19 (ninS ne8 nin0)
  have OL22 := OL13.keep K19 (allS g9 all0)
  have Z23 : n0 ≤ h18.size := Nat.le_trans Z14 K19.1
  have K24 : Keep h0 h18 [] := Keep.tr K15 K19 (allS (Or.inr f10) all0)
  refine G.aloadN C d19_38 rfl rfl (n := 39) rfl ?_
  refine G.areturn C d19_39 rfl rfl rfl (by decide) (by decide) ?_
  exact ⟨_, rfl, K24, O20, f10⟩
theorem d18_0 : decode jdk_65_method_119_code 0 = .ok (.aload_n 0, 1) := by decide +kernel
theorem d18_1 : decode jdk_65_method_119_code 1 = .ok (.iload_n 1, 1) := by decide +kernel
theorem d18_2 : decode jdk_65_method_119_code 2 = .ok (.aload_n 0, 1) := by decide +kernel
theorem d18_3 : decode jdk_65_method_119_code 3 = .ok (.invokevirtual 86, 3) := by decide +kernel
theorem d18_6 : decode jdk_65_method_119_code 6 = .ok (.invokestatic 300, 3) := by decide +kernel
theorem d18_9 : decode jdk_65_method_119_code 9 = .ok (.areturn, 1) := by decide +kernel
theorem pd5 : parseMethodDescriptor "([Ljava/lang/Object;ILjava/lang/Class;)[Ljava/lang/Object;" = some ⟨[(.array (.object "java/lang/Object")), .int, (.object "java/lang/Class")], some (.array (.object "java/lang/Object"))⟩ := by decide +kernel
theorem ef46 (m : MethodId) (r0 : Addr) : entryFrame m #[(.ref r0), (.int (1 : Int32))] 2 = mkF m 0 #[.val (.ref r0), .val (.int (1 : Int32))] [] := by first | (simp [entryFrame, mkF, argsToLocals, Value.category]; done) | rfl
abbrev Q_cp2_1 (Z : State) (h0 : Heap) (n0 : Nat) (mr : Addr) (r0 : Addr) (y0 : Addr) : Option Value → Heap → Prop := fun v h' => ∃ r, v = some (.ref r) ∧ Keep h0 h' [] ∧ RefsX Z h' r [.ref y0] ∧ h0.size ≤ r
abbrev R_cp2_1 : Room := { frames := 2, cells := 1, slots := 1, locals := 33 }
set_option maxRecDepth 65536 in
set_option maxHeartbeats 40000000 in
theorem m_cp2_1 (l : Launch) (Z : State) (a0 : Array Value) (hw : ∀ d ∈ tables_1, d.before a0 Z = true) (mr : Addr) (r0 : Addr) (y0 : Addr) (h0 : Heap) (n0 : Nat) (Z0 : n0 ≤ h0.size) (OLD0 : Old Z n0 h0) (M_r : MirA Z "[Ljava/lang/Object;" mr) (E_y0 : Exa Z Z.heap y0 "java/lang/Long") (O_r : RefsX Z h0 r0 [.ref y0, .null, .null, .null, .null, .null, .null, .null, .null, .null]) : Met l Z (⟨"java/util/Arrays", "copyOf", "([Ljava/lang/Object;I)[Ljava/lang/Object;"⟩ : MethodName) jdk_65_method_119_code 2 (some (.array (.object "java/lang/Object"))) R_cp2_1 #[(.ref r0), (.int (1 : Int32))] h0 n0 (Q_cp2_1 Z h0 n0 mr r0 y0) := by
  refine Met.of (plainFor_of_name pn8) (fun m => ef46 m r0) ?_
  intro p e s m args below meth c C
  refine G.aloadN C d18_0 rfl rfl (n := 1) rfl ?_
  refine G.iloadN C d18_1 rfl (n := 2) rfl ?_
  refine G.aloadN C d18_2 rfl rfl (n := 3) rfl ?_
  refine G.getClass C (a := r0) O_r.2 M_r (wd hw 131 rfl) (wd hw 132 rfl) (wd hw 108 rfl) (wd hw 134 rfl) (wd hw 133 rfl) (wd hw 135 rfl) d18_3 rfl (by decide) (W := 2) rfl (by decide) (n := 6) rfl ?_
  refine G.callS C (argsL := [(.ref r0), (.int (1 : Int32)), (.ref mr)]) (yc := (⟨"java/util/Arrays", "copyOf", "([Ljava/lang/Object;ILjava/lang/Class;)[Ljava/lang/Object;"⟩ : MethodName)) (wd hw 137 rfl) (wd hw 138 rfl) (wd hw 129 rfl) (wd hw 139 rfl) (by decide) (m_cp3_1 l Z a0 hw mr r0 y0 h0 n0 Z0 OLD0 M_r E_y0 O_r) rfl (by decide) (W := 0) rfl (by decide) (c' := 1) (s' := 1) rfl rfl (by decide) (by decide) d18_6 (n := 9) rfl pd5 rfl rfl ?_
  rintro _ h6 ⟨r1, rfl, K2, O3, f4⟩
  have ne7 : r0 ≠ r1 := Nat.ne_of_lt (Nat.lt_of_lt_of_le O_r.lt f4)
  have g8 : n0 ≤ r1 := Nat.le_trans Z0 f4
  have f9 : h0.size ≤ r1 := Nat.le_trans (Keep.refl h0 []).1 f4
  have O10 := O_r.keep K2 nin0
  have OL11 := OLD0.keep K2 all0
  have Z12 : n0 ≤ h6.size := Nat.le_trans Z0 K2.1
  have K13 : Keep h0 h6 [] := Keep.tr (Keep.refl h0 _) K2 all0
  refine G.areturn C d18_9 rfl rfl rfl (by decide) (by decide) ?_
  exact ⟨_, rfl, K13, O3, f9⟩
theorem ef47 (m : MethodId) (r0 : Addr) : entryFrame m #[(.ref r0), (.int (2 : Int32))] 2 = mkF m 0 #[.val (.ref r0), .val (.int (2 : Int32))] [] := by first | (simp [entryFrame, mkF, argsToLocals, Value.category]; done) | rfl
abbrev Q_cp2_2 (Z : State) (h0 : Heap) (n0 : Nat) (mr : Addr) (r0 : Addr) (y0 : Addr) (y1 : Addr) : Option Value → Heap → Prop := fun v h' => ∃ r, v = some (.ref r) ∧ Keep h0 h' [] ∧ RefsX Z h' r [.ref y0, .ref y1] ∧ h0.size ≤ r
abbrev R_cp2_2 : Room := { frames := 2, cells := 1, slots := 2, locals := 33 }
set_option maxRecDepth 65536 in
set_option maxHeartbeats 40000000 in
theorem m_cp2_2 (l : Launch) (Z : State) (a0 : Array Value) (hw : ∀ d ∈ tables_1, d.before a0 Z = true) (mr : Addr) (r0 : Addr) (y0 : Addr) (y1 : Addr) (h0 : Heap) (n0 : Nat) (Z0 : n0 ≤ h0.size) (OLD0 : Old Z n0 h0) (M_r : MirA Z "[Ljava/lang/Object;" mr) (E_y0 : Exa Z Z.heap y0 "java/lang/Long") (E_y1 : Exa Z Z.heap y1 "java/lang/Long") (O_r : RefsX Z h0 r0 [.ref y0, .ref y1, .null, .null, .null, .null, .null, .null, .null, .null]) : Met l Z (⟨"java/util/Arrays", "copyOf", "([Ljava/lang/Object;I)[Ljava/lang/Object;"⟩ : MethodName) jdk_65_method_119_code 2 (some (.array (.object "java/lang/Object"))) R_cp2_2 #[(.ref r0), (.int (2 : Int32))] h0 n0 (Q_cp2_2 Z h0 n0 mr r0 y0 y1) := by
  refine Met.of (plainFor_of_name pn8) (fun m => ef47 m r0) ?_
  intro p e s m args below meth c C
  refine G.aloadN C d18_0 rfl rfl (n := 1) rfl ?_
  refine G.iloadN C d18_1 rfl (n := 2) rfl ?_
  refine G.aloadN C d18_2 rfl rfl (n := 3) rfl ?_
  refine G.getClass C (a := r0) O_r.2 M_r (wd hw 131 rfl) (wd hw 132 rfl) (wd hw 108 rfl) (wd hw 134 rfl) (wd hw 133 rfl) (wd hw 135 rfl) d18_3 rfl (by decide) (W := 2) rfl (by decide) (n := 6) rfl ?_
  refine G.callS C (argsL := [(.ref r0), (.int (2 : Int32)), (.ref mr)]) (yc := (⟨"java/util/Arrays", "copyOf", "([Ljava/lang/Object;ILjava/lang/Class;)[Ljava/lang/Object;"⟩ : MethodName)) (wd hw 137 rfl) (wd hw 138 rfl) (wd hw 129 rfl) (wd hw 139 rfl) (by decide) (m_cp3_2 l Z a0 hw mr r0 y0 y1 h0 n0 Z0 OLD0 M_r E_y0 E_y1 O_r) rfl (by decide) (W := 0) rfl (by decide) (c' := 1) (s' := 2) rfl rfl (by decide) (by decide) d18_6 (n := 9) rfl pd5 rfl rfl ?_
  rintro _ h6 ⟨r1, rfl, K2, O3, f4⟩
  have ne7 : r0 ≠ r1 := Nat.ne_of_lt (Nat.lt_of_lt_of_le O_r.lt f4)
  have g8 : n0 ≤ r1 := Nat.le_trans Z0 f4
  have f9 : h0.size ≤ r1 := Nat.le_trans (Keep.refl h0 []).1 f4
  have O10 := O_r.keep K2 nin0
  have OL11 := OLD0.keep K2 all0
  have Z12 : n0 ≤ h6.size := Nat.le_trans Z0 K2.1
  have K13 : Keep h0 h6 [] := Keep.tr (Keep.refl h0 _) K2 all0
  refine G.areturn C d18_9 rfl rfl rfl (by decide) (by decide) ?_
  exact ⟨_, rfl, K13, O3, f9⟩
theorem ef48 (m : MethodId) (r0 : Addr) : entryFrame m #[(.ref r0), (.int (3 : Int32))] 2 = mkF m 0 #[.val (.ref r0), .val (.int (3 : Int32))] [] := by first | (simp [entryFrame, mkF, argsToLocals, Value.category]; done) | rfl
abbrev Q_cp2_3 (Z : State) (h0 : Heap) (n0 : Nat) (mr : Addr) (r0 : Addr) (y0 : Addr) (y1 : Addr) (y2 : Addr) : Option Value → Heap → Prop := fun v h' => ∃ r, v = some (.ref r) ∧ Keep h0 h' [] ∧ RefsX Z h' r [.ref y0, .ref y1, .ref y2] ∧ h0.size ≤ r
abbrev R_cp2_3 : Room := { frames := 2, cells := 1, slots := 3, locals := 33 }
set_option maxRecDepth 65536 in
set_option maxHeartbeats 40000000 in
theorem m_cp2_3 (l : Launch) (Z : State) (a0 : Array Value) (hw : ∀ d ∈ tables_1, d.before a0 Z = true) (mr : Addr) (r0 : Addr) (y0 : Addr) (y1 : Addr) (y2 : Addr) (h0 : Heap) (n0 : Nat) (Z0 : n0 ≤ h0.size) (OLD0 : Old Z n0 h0) (M_r : MirA Z "[Ljava/lang/Object;" mr) (E_y0 : Exa Z Z.heap y0 "java/lang/Long") (E_y1 : Exa Z Z.heap y1 "java/lang/Long") (E_y2 : Exa Z Z.heap y2 "java/lang/Long") (O_r : RefsX Z h0 r0 [.ref y0, .ref y1, .ref y2, .null, .null, .null, .null, .null, .null, .null]) : Met l Z (⟨"java/util/Arrays", "copyOf", "([Ljava/lang/Object;I)[Ljava/lang/Object;"⟩ : MethodName) jdk_65_method_119_code 2 (some (.array (.object "java/lang/Object"))) R_cp2_3 #[(.ref r0), (.int (3 : Int32))] h0 n0 (Q_cp2_3 Z h0 n0 mr r0 y0 y1 y2) := by
  refine Met.of (plainFor_of_name pn8) (fun m => ef48 m r0) ?_
  intro p e s m args below meth c C
  refine G.aloadN C d18_0 rfl rfl (n := 1) rfl ?_
  refine G.iloadN C d18_1 rfl (n := 2) rfl ?_
  refine G.aloadN C d18_2 rfl rfl (n := 3) rfl ?_
  refine G.getClass C (a := r0) O_r.2 M_r (wd hw 131 rfl) (wd hw 132 rfl) (wd hw 108 rfl) (wd hw 134 rfl) (wd hw 133 rfl) (wd hw 135 rfl) d18_3 rfl (by decide) (W := 2) rfl (by decide) (n := 6) rfl ?_
  refine G.callS C (argsL := [(.ref r0), (.int (3 : Int32)), (.ref mr)]) (yc := (⟨"java/util/Arrays", "copyOf", "([Ljava/lang/Object;ILjava/lang/Class;)[Ljava/lang/Object;"⟩ : MethodName)) (wd hw 137 rfl) (wd hw 138 rfl) (wd hw 129 rfl) (wd hw 139 rfl) (by decide) (m_cp3_3 l Z a0 hw mr r0 y0 y1 y2 h0 n0 Z0 OLD0 M_r E_y0 E_y1 E_y2 O_r) rfl (by decide) (W := 0) rfl (by decide) (c' := 1) (s' := 3) rfl rfl (by decide) (by decide) d18_6 (n := 9) rfl pd5 rfl rfl ?_
  rintro _ h6 ⟨r1, rfl, K2, O3, f4⟩
  have ne7 : r0 ≠ r1 := Nat.ne_of_lt (Nat.lt_of_lt_of_le O_r.lt f4)
  have g8 : n0 ≤ r1 := Nat.le_trans Z0 f4
  have f9 : h0.size ≤ r1 := Nat.le_trans (Keep.refl h0 []).1 f4
  have O10 := O_r.keep K2 nin0
  have OL11 := OLD0.keep K2 all0
  have Z12 : n0 ≤ h6.size := Nat.le_trans Z0 K2.1
  have K13 : Keep h0 h6 [] := Keep.tr (Keep.refl h0 _) K2 all0
  refine G.areturn C d18_9 rfl rfl rfl (by decide) (by decide) ?_
  exact ⟨_, rfl, K13, O3, f9⟩
theorem d17_0 : decode jdk_38_method_16_code 0 = .ok (.aload_n 0, 1) := by decide +kernel
theorem d17_1 : decode jdk_38_method_16_code 1 = .ok (.getfield 9, 3) := by decide +kernel
theorem d17_4 : decode jdk_38_method_16_code 4 = .ok (.aload_n 0, 1) := by decide +kernel
theorem d17_5 : decode jdk_38_method_16_code 5 = .ok (.getfield 48, 3) := by decide +kernel
theorem d17_8 : decode jdk_38_method_16_code 8 = .ok (.invokestatic 66, 3) := by decide +kernel
theorem d17_11 : decode jdk_38_method_16_code 11 = .ok (.areturn, 1) := by decide +kernel
theorem pd6 : parseMethodDescriptor "([Ljava/lang/Object;I)[Ljava/lang/Object;" = some ⟨[(.array (.object "java/lang/Object")), .int], some (.array (.object "java/lang/Object"))⟩ := by decide +kernel
theorem ef49 (m : MethodId) (a : Addr) : entryFrame m #[(.ref a)] 1 = mkF m 0 #[.val (.ref a)] [] := by first | (simp [entryFrame, mkF, argsToLocals, Value.category]; done) | rfl
abbrev Q_ta1 (Z : State) (h0 : Heap) (n0 : Nat) (mr : Addr) (r0 : Addr) (a : Addr) (mc : Int32) (y0 : Addr) : Option Value → Heap → Prop := fun v h' => ∃ r, v = some (.ref r) ∧ Keep h0 h' [] ∧ RefsX Z h' r [.ref y0] ∧ h0.size ≤ r
abbrev R_ta1 : Room := { frames := 3, cells := 1, slots := 1, locals := 46 }
set_option maxRecDepth 65536 in
set_option maxHeartbeats 40000000 in
theorem m_ta1 (l : Launch) (Z : State) (a0 : Array Value) (hw : ∀ d ∈ tables_1, d.before a0 Z = true) (mr : Addr) (r0 : Addr) (a : Addr) (mc : Int32) (y0 : Addr) (h0 : Heap) (n0 : Nat) (Z0 : n0 ≤ h0.size) (OLD0 : Old Z n0 h0) (M_r : MirA Z "[Ljava/lang/Object;" mr) (E_y0 : Exa Z Z.heap y0 "java/lang/Long") (O_r : RefsX Z h0 r0 [.ref y0, .null, .null, .null, .null, .null, .null, .null, .null, .null]) (O_a : Ob_Al Z h0 a mc (.ref r0) 1) : Met l Z (⟨"java/util/ArrayList", "toArray", "()[Ljava/lang/Object;"⟩ : MethodName) jdk_38_method_16_code 1 (some (.array (.object "java/lang/Object"))) R_ta1 #[(.ref a)] h0 n0 (Q_ta1 Z h0 n0 mr r0 a mc y0) := by
  refine Met.of (plainFor_of_name pn7) (fun m => ef49 m a) ?_
  intro p e s m args below meth c C
  refine G.aloadN C d17_0 rfl rfl (n := 1) rfl ?_
  refine G.getfield C (host := "") (Or.inl (wd hw 51 rfl)) Via.refl (O_a.2.2.1) d17_1 (n := 4) rfl ?_
  refine G.aloadN C d17_4 rfl rfl (n := 5) rfl ?_
  refine G.getfield C (host := "") (Or.inl (wd hw 72 rfl)) Via.refl (O_a.2.2.2) d17_5 (n := 8) rfl ?_
  refine G.callS C (argsL := [(.ref r0), (.int (1 : Int32))]) (yc := (⟨"java/util/Arrays", "copyOf", "([Ljava/lang/Object;I)[Ljava/lang/Object;"⟩ : MethodName)) (wd hw 127 rfl) (wd hw 128 rfl) (wd hw 129 rfl) (wd hw 130 rfl) (by decide) (m_cp2_1 l Z a0 hw mr r0 y0 h0 n0 Z0 OLD0 M_r E_y0 O_r) rfl (by decide) (W := 0) rfl (by decide) (c' := 1) (s' := 1) rfl rfl (by decide) (by decide) d17_8 (n := 11) rfl pd6 rfl rfl ?_
  rintro _ h6 ⟨r1, rfl, K2, O3, f4⟩
  have ne7 : r0 ≠ r1 := Nat.ne_of_lt (Nat.lt_of_lt_of_le O_r.lt f4)
  have ne8 : a ≠ r1 := Nat.ne_of_lt (Nat.lt_of_lt_of_le O_a.lt f4)
  have g9 : n0 ≤ r1 := Nat.le_trans Z0 f4
  have f10 : h0.size ≤ r1 := Nat.le_trans (Keep.refl h0 []).1 f4
  have O11 := O_r.keep K2 nin0
  have O12 := O_a.keep K2 nin0
  have OL13 := OLD0.keep K2 all0
  have Z14 : n0 ≤ h6.size := Nat.le_trans Z0 K2.1
  have K15 : Keep h0 h6 [] := Keep.tr (Keep.refl h0 _) K2 all0
  refine G.areturn C d17_11 rfl rfl rfl (by decide) (by decide) ?_
  exact ⟨_, rfl, K15, O3, f10⟩
theorem d16_0 : decode jdk_38_method_9_code 0 = .ok (.aload_n 0, 1) := by decide +kernel
theorem d16_1 : decode jdk_38_method_9_code 1 = .ok (.getfield 48, 3) := by decide +kernel
theorem d16_4 : decode jdk_38_method_9_code 4 = .ok (.ifCond .ne 7, 3) := by decide +kernel
theorem d16_7 : decode jdk_38_method_9_code 7 = .ok (.iconst 1, 1) := by decide +kernel
theorem d16_8 : decode jdk_38_method_9_code 8 = .ok (.goto 4, 3) := by decide +kernel
theorem d16_11 : decode jdk_38_method_9_code 11 = .ok (.iconst 0, 1) := by decide +kernel
theorem d16_12 : decode jdk_38_method_9_code 12 = .ok (.ireturn, 1) := by decide +kernel
theorem ef50 (m : MethodId) (a : Addr) : entryFrame m #[(.ref a)] 1 = mkF m 0 #[.val (.ref a)] [] := by first | (simp [entryFrame, mkF, argsToLocals, Value.category]; done) | rfl
abbrev Q_ie1 (Z : State) (h0 : Heap) (n0 : Nat) (mr : Addr) (r0 : Addr) (a : Addr) (mc : Int32) (y0 : Addr) : Option Value → Heap → Prop := fun v h' => v = some (.int 0) ∧ h0 = h'
abbrev R_ie1 : Room := { frames := 0, cells := 0, slots := 0, locals := 0 }
set_option maxRecDepth 65536 in
set_option maxHeartbeats 40000000 in
theorem m_ie1 (l : Launch) (Z : State) (a0 : Array Value) (hw : ∀ d ∈ tables_1, d.before a0 Z = true) (mr : Addr) (r0 : Addr) (a : Addr) (mc : Int32) (y0 : Addr) (h0 : Heap) (n0 : Nat) (Z0 : n0 ≤ h0.size) (OLD0 : Old Z n0 h0) (M_r : MirA Z "[Ljava/lang/Object;" mr) (E_y0 : Exa Z Z.heap y0 "java/lang/Long") (O_r : RefsX Z h0 r0 [.ref y0, .null, .null, .null, .null, .null, .null, .null, .null, .null]) (O_a : Ob_Al Z h0 a mc (.ref r0) 1) : Met l Z (⟨"java/util/ArrayList", "isEmpty", "()Z"⟩ : MethodName) jdk_38_method_9_code 1 (some .boolean) R_ie1 #[(.ref a)] h0 n0 (Q_ie1 Z h0 n0 mr r0 a mc y0) := by
  refine Met.of (plainFor_of_name pn7) (fun m => ef50 m a) ?_
  intro p e s m args below meth c C
  refine G.aloadN C d16_0 rfl rfl (n := 1) rfl ?_
  refine G.getfield C (host := "") (Or.inl (wd hw 72 rfl)) Via.refl (O_a.2.2.2) d16_1 (n := 4) rfl ?_
  refine G.if_ne C (A := 1) (by decide) d16_4 (by decide) (by decide) (n := 7) (n' := 11) rfl (fun c4_1 c4_1i => ?_) (fun c4_1 c4_1i => ?_)
  rotate_left
  · exact absurd c4_1 (by decide)
  refine G.iconst C (v := (0 : Int32)) d16_11 (by decide) (n := 12) rfl ?_
  refine G.ireturn C d16_12 (rfl) (by simp) (by decide) (by decide) ?_
  exact ⟨rfl, rfl⟩
theorem ef51 (m : MethodId) (a : Addr) : entryFrame m #[(.ref a)] 1 = mkF m 0 #[.val (.ref a)] [] := by first | (simp [entryFrame, mkF, argsToLocals, Value.category]; done) | rfl
abbrev Q_ta2 (Z : State) (h0 : Heap) (n0 : Nat) (mr : Addr) (r0 : Addr) (a : Addr) (mc : Int32) (y0 : Addr) (y1 : Addr) : Option Value → Heap → Prop := fun v h' => ∃ r, v = some (.ref r) ∧ Keep h0 h' [] ∧ RefsX Z h' r [.ref y0, .ref y1] ∧ h0.size ≤ r
abbrev R_ta2 : Room := { frames := 3, cells := 1, slots := 2, locals := 46 }
set_option maxRecDepth 65536 in
set_option maxHeartbeats 40000000 in
theorem m_ta2 (l : Launch) (Z : State) (a0 : Array Value) (hw : ∀ d ∈ tables_1, d.before a0 Z = true) (mr : Addr) (r0 : Addr) (a : Addr) (mc : Int32) (y0 : Addr) (y1 : Addr) (h0 : Heap) (n0 : Nat) (Z0 : n0 ≤ h0.size) (OLD0 : Old Z n0 h0) (M_r : MirA Z "[Ljava/lang/Object;" mr) (E_y0 : Exa Z Z.heap y0 "java/lang/Long") (E_y1 : Exa Z Z.heap y1 "java/lang/Long") (O_r : RefsX Z h0 r0 [.ref y0, .ref y1, .null, .null, .null, .null, .null, .null, .null, .null]) (O_a : Ob_Al Z h0 a mc (.ref r0) 2) : Met l Z (⟨"java/util/ArrayList", "toArray", "()[Ljava/lang/Object;"⟩ : MethodName) jdk_38_method_16_code 1 (some (.array (.object "java/lang/Object"))) R_ta2 #[(.ref a)] h0 n0 (Q_ta2 Z h0 n0 mr r0 a mc y0 y1) := by
  refine Met.of (plainFor_of_name pn7) (fun m => ef51 m a) ?_
  intro p e s m args below meth c C
  refine G.aloadN C d17_0 rfl rfl (n := 1) rfl ?_
  refine G.getfield C (host := "") (Or.inl (wd hw 51 rfl)) Via.refl (O_a.2.2.1) d17_1 (n := 4) rfl ?_
  refine G.aloadN C d17_4 rfl rfl (n := 5) rfl ?_
  refine G.getfield C (host := "") (Or.inl (wd hw 72 rfl)) Via.refl (O_a.2.2.2) d17_5 (n := 8) rfl ?_
  refine G.callS C (argsL := [(.ref r0), (.int (2 : Int32))]) (yc := (⟨"java/util/Arrays", "copyOf", "([Ljava/lang/Object;I)[Ljava/lang/Object;"⟩ : MethodName)) (wd hw 127 rfl) (wd hw 128 rfl) (wd hw 129 rfl) (wd hw 130 rfl) (by decide) (m_cp2_2 l Z a0 hw mr r0 y0 y1 h0 n0 Z0 OLD0 M_r E_y0 E_y1 O_r) rfl (by decide) (W := 0) rfl (by decide) (c' := 1) (s' := 2) rfl rfl (by decide) (by decide) d17_8 (n := 11) rfl pd6 rfl rfl ?_
  rintro _ h6 ⟨r1, rfl, K2, O3, f4⟩
  have ne7 : r0 ≠ r1 := Nat.ne_of_lt (Nat.lt_of_lt_of_le O_r.lt f4)
  have ne8 : a ≠ r1 := Nat.ne_of_lt (Nat.lt_of_lt_of_le O_a.lt f4)
  have g9 : n0 ≤ r1 := Nat.le_trans Z0 f4
  have f10 : h0.size ≤ r1 := Nat.le_trans (Keep.refl h0 []).1 f4
  have O11 := O_r.keep K2 nin0
  have O12 := O_a.keep K2 nin0
  have OL13 := OLD0.keep K2 all0
  have Z14 : n0 ≤ h6.size := Nat.le_trans Z0 K2.1
  have K15 : Keep h0 h6 [] := Keep.tr (Keep.refl h0 _) K2 all0
  refine G.areturn C d17_11 rfl rfl rfl (by decide) (by decide) ?_
  exact ⟨_, rfl, K15, O3, f10⟩
theorem ef52 (m : MethodId) (a : Addr) : entryFrame m #[(.ref a)] 1 = mkF m 0 #[.val (.ref a)] [] := by first | (simp [entryFrame, mkF, argsToLocals, Value.category]; done) | rfl
abbrev Q_ie2 (Z : State) (h0 : Heap) (n0 : Nat) (mr : Addr) (r0 : Addr) (a : Addr) (mc : Int32) (y0 : Addr) (y1 : Addr) : Option Value → Heap → Prop := fun v h' => v = some (.int 0) ∧ h0 = h'
abbrev R_ie2 : Room := { frames := 0, cells := 0, slots := 0, locals := 0 }
set_option maxRecDepth 65536 in
set_option maxHeartbeats 40000000 in
theorem m_ie2 (l : Launch) (Z : State) (a0 : Array Value) (hw : ∀ d ∈ tables_1, d.before a0 Z = true) (mr : Addr) (r0 : Addr) (a : Addr) (mc : Int32) (y0 : Addr) (y1 : Addr) (h0 : Heap) (n0 : Nat) (Z0 : n0 ≤ h0.size) (OLD0 : Old Z n0 h0) (M_r : MirA Z "[Ljava/lang/Object;" mr) (E_y0 : Exa Z Z.heap y0 "java/lang/Long") (E_y1 : Exa Z Z.heap y1 "java/lang/Long") (O_r : RefsX Z h0 r0 [.ref y0, .ref y1, .null, .null, .null, .null, .null, .null, .null, .null]) (O_a : Ob_Al Z h0 a mc (.ref r0) 2) : Met l Z (⟨"java/util/ArrayList", "isEmpty", "()Z"⟩ : MethodName) jdk_38_method_9_code 1 (some .boolean) R_ie2 #[(.ref a)] h0 n0 (Q_ie2 Z h0 n0 mr r0 a mc y0 y1) := by
  refine Met.of (plainFor_of_name pn7) (fun m => ef52 m a) ?_
  intro p e s m args below meth c C
  refine G.aloadN C d16_0 rfl rfl (n := 1) rfl ?_
  refine G.getfield C (host := "") (Or.inl (wd hw 72 rfl)) Via.refl (O_a.2.2.2) d16_1 (n := 4) rfl ?_
  refine G.if_ne C (A := 2) (by decide) d16_4 (by decide) (by decide) (n := 7) (n' := 11) rfl (fun c4_1 c4_1i => ?_) (fun c4_1 c4_1i => ?_)
  rotate_left
  · exact absurd c4_1 (by decide)
  refine G.iconst C (v := (0 : Int32)) d16_11 (by decide) (n := 12) rfl ?_
  refine G.ireturn C d16_12 (rfl) (by simp) (by decide) (by decide) ?_
  exact ⟨rfl, rfl⟩
theorem ef53 (m : MethodId) (a : Addr) : entryFrame m #[(.ref a)] 1 = mkF m 0 #[.val (.ref a)] [] := by first | (simp [entryFrame, mkF, argsToLocals, Value.category]; done) | rfl
abbrev Q_ta3 (Z : State) (h0 : Heap) (n0 : Nat) (mr : Addr) (r0 : Addr) (a : Addr) (mc : Int32) (y0 : Addr) (y1 : Addr) (y2 : Addr) : Option Value → Heap → Prop := fun v h' => ∃ r, v = some (.ref r) ∧ Keep h0 h' [] ∧ RefsX Z h' r [.ref y0, .ref y1, .ref y2] ∧ h0.size ≤ r
abbrev R_ta3 : Room := { frames := 3, cells := 1, slots := 3, locals := 46 }
set_option maxRecDepth 65536 in
set_option maxHeartbeats 40000000 in
theorem m_ta3 (l : Launch) (Z : State) (a0 : Array Value) (hw : ∀ d ∈ tables_1, d.before a0 Z = true) (mr : Addr) (r0 : Addr) (a : Addr) (mc : Int32) (y0 : Addr) (y1 : Addr) (y2 : Addr) (h0 : Heap) (n0 : Nat) (Z0 : n0 ≤ h0.size) (OLD0 : Old Z n0 h0) (M_r : MirA Z "[Ljava/lang/Object;" mr) (E_y0 : Exa Z Z.heap y0 "java/lang/Long") (E_y1 : Exa Z Z.heap y1 "java/lang/Long") (E_y2 : Exa Z Z.heap y2 "java/lang/Long") (O_r : RefsX Z h0 r0 [.ref y0, .ref y1, .ref y2, .null, .null, .null, .null, .null, .null, .null]) (O_a : Ob_Al Z h0 a mc (.ref r0) 3) : Met l Z (⟨"java/util/ArrayList", "toArray", "()[Ljava/lang/Object;"⟩ : MethodName) jdk_38_method_16_code 1 (some (.array (.object "java/lang/Object"))) R_ta3 #[(.ref a)] h0 n0 (Q_ta3 Z h0 n0 mr r0 a mc y0 y1 y2) := by
  refine Met.of (plainFor_of_name pn7) (fun m => ef53 m a) ?_
  intro p e s m args below meth c C
  refine G.aloadN C d17_0 rfl rfl (n := 1) rfl ?_
  refine G.getfield C (host := "") (Or.inl (wd hw 51 rfl)) Via.refl (O_a.2.2.1) d17_1 (n := 4) rfl ?_
  refine G.aloadN C d17_4 rfl rfl (n := 5) rfl ?_
  refine G.getfield C (host := "") (Or.inl (wd hw 72 rfl)) Via.refl (O_a.2.2.2) d17_5 (n := 8) rfl ?_
  refine G.callS C (argsL := [(.ref r0), (.int (3 : Int32))]) (yc := (⟨"java/util/Arrays", "copyOf", "([Ljava/lang/Object;I)[Ljava/lang/Object;"⟩ : MethodName)) (wd hw 127 rfl) (wd hw 128 rfl) (wd hw 129 rfl) (wd hw 130 rfl) (by decide) (m_cp2_3 l Z a0 hw mr r0 y0 y1 y2 h0 n0 Z0 OLD0 M_r E_y0 E_y1 E_y2 O_r) rfl (by decide) (W := 0) rfl (by decide) (c' := 1) (s' := 3) rfl rfl (by decide) (by decide) d17_8 (n := 11) rfl pd6 rfl rfl ?_
  rintro _ h6 ⟨r1, rfl, K2, O3, f4⟩
  have ne7 : r0 ≠ r1 := Nat.ne_of_lt (Nat.lt_of_lt_of_le O_r.lt f4)
  have ne8 : a ≠ r1 := Nat.ne_of_lt (Nat.lt_of_lt_of_le O_a.lt f4)
  have g9 : n0 ≤ r1 := Nat.le_trans Z0 f4
  have f10 : h0.size ≤ r1 := Nat.le_trans (Keep.refl h0 []).1 f4
  have O11 := O_r.keep K2 nin0
  have O12 := O_a.keep K2 nin0
  have OL13 := OLD0.keep K2 all0
  have Z14 : n0 ≤ h6.size := Nat.le_trans Z0 K2.1
  have K15 : Keep h0 h6 [] := Keep.tr (Keep.refl h0 _) K2 all0
  refine G.areturn C d17_11 rfl rfl rfl (by decide) (by decide) ?_
  exact ⟨_, rfl, K15, O3, f10⟩
theorem ef54 (m : MethodId) (a : Addr) : entryFrame m #[(.ref a)] 1 = mkF m 0 #[.val (.ref a)] [] := by first | (simp [entryFrame, mkF, argsToLocals, Value.category]; done) | rfl
abbrev Q_ie3 (Z : State) (h0 : Heap) (n0 : Nat) (mr : Addr) (r0 : Addr) (a : Addr) (mc : Int32) (y0 : Addr) (y1 : Addr) (y2 : Addr) : Option Value → Heap → Prop := fun v h' => v = some (.int 0) ∧ h0 = h'
abbrev R_ie3 : Room := { frames := 0, cells := 0, slots := 0, locals := 0 }
set_option maxRecDepth 65536 in
set_option maxHeartbeats 40000000 in
theorem m_ie3 (l : Launch) (Z : State) (a0 : Array Value) (hw : ∀ d ∈ tables_1, d.before a0 Z = true) (mr : Addr) (r0 : Addr) (a : Addr) (mc : Int32) (y0 : Addr) (y1 : Addr) (y2 : Addr) (h0 : Heap) (n0 : Nat) (Z0 : n0 ≤ h0.size) (OLD0 : Old Z n0 h0) (M_r : MirA Z "[Ljava/lang/Object;" mr) (E_y0 : Exa Z Z.heap y0 "java/lang/Long") (E_y1 : Exa Z Z.heap y1 "java/lang/Long") (E_y2 : Exa Z Z.heap y2 "java/lang/Long") (O_r : RefsX Z h0 r0 [.ref y0, .ref y1, .ref y2, .null, .null, .null, .null, .null, .null, .null]) (O_a : Ob_Al Z h0 a mc (.ref r0) 3) : Met l Z (⟨"java/util/ArrayList", "isEmpty", "()Z"⟩ : MethodName) jdk_38_method_9_code 1 (some .boolean) R_ie3 #[(.ref a)] h0 n0 (Q_ie3 Z h0 n0 mr r0 a mc y0 y1 y2) := by
  refine Met.of (plainFor_of_name pn7) (fun m => ef54 m a) ?_
  intro p e s m args below meth c C
  refine G.aloadN C d16_0 rfl rfl (n := 1) rfl ?_
  refine G.getfield C (host := "") (Or.inl (wd hw 72 rfl)) Via.refl (O_a.2.2.2) d16_1 (n := 4) rfl ?_
  refine G.if_ne C (A := 3) (by decide) d16_4 (by decide) (by decide) (n := 7) (n' := 11) rfl (fun c4_1 c4_1i => ?_) (fun c4_1 c4_1i => ?_)
  rotate_left
  · exact absurd c4_1 (by decide)
  refine G.iconst C (v := (0 : Int32)) d16_11 (by decide) (n := 12) rfl ?_
  refine G.ireturn C d16_12 (rfl) (by simp) (by decide) (by decide) ?_
  exact ⟨rfl, rfl⟩
theorem d22_0 : decode jdk_44_method_1_code 0 = .ok (.aload_n 0, 1) := by decide +kernel
theorem d22_1 : decode jdk_44_method_1_code 1 = .ok (.invokespecial 1, 3) := by decide +kernel
theorem d22_4 : decode jdk_44_method_1_code 4 = .ok (.aload_n 0, 1) := by decide +kernel
theorem d22_5 : decode jdk_44_method_1_code 5 = .ok (.aload_n 1, 1) := by decide +kernel
theorem d22_6 : decode jdk_44_method_1_code 6 = .ok (.invokestatic 7, 3) := by decide +kernel
theorem d22_9 : decode jdk_44_method_1_code 9 = .ok (.putfield 13, 3) := by decide +kernel
theorem d22_12 : decode jdk_44_method_1_code 12 = .ok (.aload_n 0, 1) := by decide +kernel
theorem d22_13 : decode jdk_44_method_1_code 13 = .ok (.getstatic 19, 3) := by decide +kernel
theorem d22_16 : decode jdk_44_method_1_code 16 = .ok (.putfield 24, 3) := by decide +kernel
theorem d22_19 : decode jdk_44_method_1_code 19 = .ok (.return_, 1) := by decide +kernel
theorem pd7 : parseMethodDescriptor "(Ljava/lang/Object;)Ljava/lang/Object;" = some ⟨[(.object "java/lang/Object")], some (.object "java/lang/Object")⟩ := by decide +kernel
theorem pn9 : plainName "java/util/ImmutableCollections$List12" = true := by first | (simp [plainName, overriddenIn]; done) | decide +kernel
theorem ef55 (m : MethodId) (a : Addr) (y0 : Addr) : entryFrame m #[(.ref a), (.ref y0)] 2 = mkF m 0 #[.val (.ref a), .val (.ref y0)] [] := by first | (simp [entryFrame, mkF, argsToLocals, Value.category]; done) | rfl
abbrev Q_l12_1 (Z : State) (h0 : Heap) (n0 : Nat) (a : Addr) (em : Addr) (y0 : Addr) : Option Value → Heap → Prop := fun v h' => v = none ∧ Keep h0 h' [a] ∧ Ob_L2 Z h' a (.ref y0) (.ref em)
abbrev R_l12_1 : Room := { frames := 4, cells := 0, slots := 0, locals := 48 }
set_option maxRecDepth 65536 in
set_option maxHeartbeats 40000000 in
theorem m_l12_1 (l : Launch) (Z : State) (a0 : Array Value) (hw : ∀ d ∈ tables_1, d.before a0 Z = true) (a : Addr) (em : Addr) (y0 : Addr) (h0 : Heap) (n0 : Nat) (Z0 : n0 ≤ h0.size) (OLD0 : Old Z n0 h0) (S_em : Sta Z Z.heap "java/util/ImmutableCollections" "EMPTY" "Ljava/lang/Object;" (.ref em)) (O_a : Ob_L2 Z h0 a .null .null) (g_a : n0 ≤ a) : Met l Z (⟨"java/util/ImmutableCollections$List12", "<init>", "(Ljava/lang/Object;)V"⟩ : MethodName) jdk_44_method_1_code 2 none R_l12_1 #[(.ref a), (.ref y0)] h0 n0 (Q_l12_1 Z h0 n0 a em y0) := by
  refine Met.of (plainFor_of_name pn9) (fun m => ef55 m a y0) ?_
  intro p e s m args below meth c C
  refine G.aloadN C d22_0 rfl rfl (n := 1) rfl ?_
  refine G.callC C (argsL := []) (yc := (⟨"java/util/ImmutableCollections$AbstractImmutableList", "<init>", "()V"⟩ : MethodName)) (a := a) rfl (wd hw 159 rfl) (wd hw 160 rfl) (wd hw 163 rfl) (wd hw 164 rfl) (by decide) (m_ail l Z a0 hw a h0 n0 Z0) rfl (by decide) (W := 0) rfl (by decide) (c' := 0) (s' := 0) rfl rfl (by decide) (by decide) d22_1 (n := 4) rfl pd0 rfl rfl ?_
  rintro _ _ ⟨rfl, rfl⟩
  refine G.aloadN C d22_4 rfl rfl (n := 5) rfl ?_
  refine G.aloadN C d22_5 rfl rfl (n := 6) rfl ?_
  refine G.callS C (argsL := [(.ref y0)]) (yc := (⟨"java/util/Objects", "requireNonNull", "(Ljava/lang/Object;)Ljava/lang/Object;"⟩ : MethodName)) (wd hw 173 rfl) (wd hw 174 rfl) (wd hw 175 rfl) (wd hw 176 rfl) (by decide) (m_rnn l Z a0 hw y0 h0 n0 Z0) rfl (by decide) (W := 1) rfl (by decide) (c' := 0) (s' := 0) rfl rfl (by decide) (by decide) d22_6 (n := 9) rfl pd7 rfl rfl ?_
  rintro _ _ ⟨rfl, rfl⟩
  refine G.putfield C (host := "") (Or.inl (wd hw 177 rfl)) Via.refl (O_a.2.1) (O_a.1) (Or.inr ⟨(wd hw 178 rfl), rfl, rfl⟩) (wd hw 153 rfl) (ty := (.object "java/lang/Object")) (by decide) rfl rfl g_a d22_9 (n := 12) rfl ?_
  intro h5 W6
  have O7 := Ob_L2.set_e0 hw O_a (v := (.ref y0)) W6
  have K8 := Keep.of_wr W6
  have OL9 := OLD0.keep K8 (allS g_a all0)
  have Z10 : n0 ≤ h5.size := Nat.le_trans Z0 K8.1
  have K11 : Keep h0 h5 [a] := Keep.tr (Keep.refl h0 _) K8 (allS (Or.inl (List.mem_of_getElem? (i := 0) rfl)) all0)
  refine G.aloadN C d22_12 rfl rfl (n := 13) rfl ?_
  refine G.getstatic C (Or.inr (wd hw 179 rfl)) Via.refl (S_em.ext OL9.2) d22_13 (n := 16) rfl ?_
  refine G.putfield C (host := "") (Or.inl (wd hw 180 rfl)) Via.refl (O7.2.2) (O7.1) (Or.inr ⟨(wd hw 181 rfl), rfl, rfl⟩) (wd hw 153 rfl) (ty := (.object "java/lang/Object")) (by decide) rfl rfl g_a d22_16 (n := 19) rfl ?_
  intro h12 W13
  have O14 := Ob_L2.set_e1 hw O7 (v := (.ref em)) W13
  have K15 := Keep.of_wr W13
  have OL16 := OL9.keep K15 (allS g_a all0)
  have Z17 : n0 ≤ h12.size := Nat.le_trans Z10 K15.1
  have K18 : Keep h0 h12 [a] := Keep.tr K11 K15 (allS (Or.inl (List.mem_of_getElem? (i := 0) rfl)) all0)
  refine G.return_ C d22_19 (by decide) (by decide) ?_
  exact ⟨rfl, K18, O14⟩
theorem d29_0 : decode jdk_44_method_2_code 0 = .ok (.aload_n 0, 1) := by decide +kernel
theorem d29_1 : decode jdk_44_method_2_code 1 = .ok (.invokespecial 1, 3) := by decide +kernel
theorem d29_4 : decode jdk_44_method_2_code 4 = .ok (.aload_n 0, 1) := by decide +kernel
theorem d29_5 : decode jdk_44_method_2_code 5 = .ok (.aload_n 1, 1) := by decide +kernel
theorem d29_6 : decode jdk_44_method_2_code 6 = .ok (.invokestatic 7, 3) := by decide +kernel
theorem d29_9 : decode jdk_44_method_2_code 9 = .ok (.putfield 13, 3) := by decide +kernel
theorem d29_12 : decode jdk_44_method_2_code 12 = .ok (.aload_n 0, 1) := by decide +kernel
theorem d29_13 : decode jdk_44_method_2_code 13 = .ok (.aload_n 2, 1) := by decide +kernel
theorem d29_14 : decode jdk_44_method_2_code 14 = .ok (.invokestatic 7, 3) := by decide +kernel
theorem d29_17 : decode jdk_44_method_2_code 17 = .ok (.putfield 24, 3) := by decide +kernel
theorem d29_20 : decode jdk_44_method_2_code 20 = .ok (.return_, 1) := by decide +kernel
theorem ef56 (m : MethodId) (a : Addr) (y0 : Addr) (y1 : Addr) : entryFrame m #[(.ref a), (.ref y0), (.ref y1)] 3 = mkF m 0 #[.val (.ref a), .val (.ref y0), .val (.ref y1)] [] := by first | (simp [entryFrame, mkF, argsToLocals, Value.category]; done) | rfl
abbrev Q_l12_2 (Z : State) (h0 : Heap) (n0 : Nat) (a : Addr) (em : Addr) (y0 : Addr) (y1 : Addr) : Option Value → Heap → Prop := fun v h' => v = none ∧ Keep h0 h' [a] ∧ Ob_L2 Z h' a (.ref y0) (.ref y1)
abbrev R_l12_2 : Room := { frames := 4, cells := 0, slots := 0, locals := 48 }
set_option maxRecDepth 65536 in
set_option maxHeartbeats 40000000 in
theorem m_l12_2 (l : Launch) (Z : State) (a0 : Array Value) (hw : ∀ d ∈ tables_1, d.before a0 Z = true) (a : Addr) (em : Addr) (y0 : Addr) (y1 : Addr) (h0 : Heap) (n0 : Nat) (Z0 : n0 ≤ h0.size) (OLD0 : Old Z n0 h0) (S_em : Sta Z Z.heap "java/util/ImmutableCollections" "EMPTY" "Ljava/lang/Object;" (.ref em)) (O_a : Ob_L2 Z h0 a .null .null) (g_a : n0 ≤ a) : Met l Z (⟨"java/util/ImmutableCollections$List12", "<init>", "(Ljava/lang/Object;Ljava/lang/Object;)V"⟩ : MethodName) jdk_44_method_2_code 3 none R_l12_2 #[(.ref a), (.ref y0), (.ref y1)] h0 n0 (Q_l12_2 Z h0 n0 a em y0 y1) := by
  refine Met.of (plainFor_of_name pn9) (fun m => ef56 m a y0 y1) ?_
  intro p e s m args below meth c C
  refine G.aloadN C d29_0 rfl rfl (n := 1) rfl ?_
  refine G.callC C (argsL := []) (yc := (⟨"java/util/ImmutableCollections$AbstractImmutableList", "<init>", "()V"⟩ : MethodName)) (a := a) rfl (wd hw 159 rfl) (wd hw 160 rfl) (wd hw 163 rfl) (wd hw 164 rfl) (by decide) (m_ail l Z a0 hw a h0 n0 Z0) rfl (by decide) (W := 0) rfl (by decide) (c' := 0) (s' := 0) rfl rfl (by decide) (by decide) d29_1 (n := 4) rfl pd0 rfl rfl ?_
  rintro _ _ ⟨rfl, rfl⟩
  refine G.aloadN C d29_4 rfl rfl (n := 5) rfl ?_
  refine G.aloadN C d29_5 rfl rfl (n := 6) rfl ?_
  refine G.callS C (argsL := [(.ref y0)]) (yc := (⟨"java/util/Objects", "requireNonNull", "(Ljava/lang/Object;)Ljava/lang/Object;"⟩ : MethodName)) (wd hw 173 rfl) (wd hw 174 rfl) (wd hw 175 rfl) (wd hw 176 rfl) (by decide) (m_rnn l Z a0 hw y0 h0 n0 Z0) rfl (by decide) (W := 1) rfl (by decide) (c' := 0) (s' := 0) rfl rfl (by decide) (by decide) d29_6 (n := 9) rfl pd7 rfl rfl ?_
  rintro _ _ ⟨rfl, rfl⟩
  refine G.putfield C (host := "") (Or.inl (wd hw 177 rfl)) Via.refl (O_a.2.1) (O_a.1) (Or.inr ⟨(wd hw 178 rfl), rfl, rfl⟩) (wd hw 153 rfl) (ty := (.object "java/lang/Object")) (by decide) rfl rfl g_a d29_9 (n := 12) rfl ?_
  intro h5 W6
  have O7 := Ob_L2.set_e0 hw O_a (v := (.ref y0)) W6
  have K8 := Keep.of_wr W6
  have OL9 := OLD0.keep K8 (allS g_a all0)
  have Z10 : n0 ≤ h5.size := Nat.le_trans Z0 K8.1
  have K11 : Keep h0 h5 [a] := Keep.tr (Keep.refl h0 _) K8 (allS (Or.inl (List.mem_of_getElem? (i := 0) rfl)) all0)
  refine G.aloadN C d29_12 rfl rfl (n := 13) rfl ?_
  refine G.aloadN C d29_13 rfl rfl (n := 14) rfl ?_
  refine G.callS C (argsL := [(.ref y1)]) (yc := (⟨"java/util/Objects", "requireNonNull", "(Ljava/lang/Object;)Ljava/lang/Object;"⟩ : MethodName)) (wd hw 173 rfl) (wd hw 174 rfl) (wd hw 175 rfl) (wd hw 176 rfl) (by decide) (m_rnn l Z a0 hw y1 h5 n0 Z10) rfl (by decide) (W := 1) rfl (by decide) (c' := 0) (s' := 0) rfl rfl (by decide) (by decide) d29_14 (n := 17) rfl pd7 rfl rfl ?_
  rintro _ _ ⟨rfl, rfl⟩
  refine G.putfield C (host := "") (Or.inl (wd hw 180 rfl)) Via.refl (O7.2.2) (O7.1) (Or.inr ⟨(wd hw 181 rfl), rfl, rfl⟩) (wd hw 153 rfl) (ty := (.object "java/lang/Object")) (by decide) rfl rfl g_a d29_17 (n := 20) rfl ?_
  intro h14 W15
  have O16 := Ob_L2.set_e1 hw O7 (v := (.ref y1)) W15
  have K17 := Keep.of_wr W15
  have OL18 := OL9.keep K17 (allS g_a all0)
  have Z19 : n0 ≤ h14.size := Nat.le_trans Z10 K17.1
  have K20 : Keep h0 h14 [a] := Keep.tr K11 K17 (allS (Or.inl (List.mem_of_getElem? (i := 0) rfl)) all0)
  refine G.return_ C d29_20 (by decide) (by decide) ?_
  exact ⟨rfl, K20, O16⟩
theorem d28_0 : decode jdk_45_method_1_code 0 = .ok (.aload_n 0, 1) := by decide +kernel
theorem d28_1 : decode jdk_45_method_1_code 1 = .ok (.invokespecial 1, 3) := by decide +kernel
theorem d28_4 : decode jdk_45_method_1_code 4 = .ok (.aload_n 0, 1) := by decide +kernel
theorem d28_5 : decode jdk_45_method_1_code 5 = .ok (.aload_n 1, 1) := by decide +kernel
theorem d28_6 : decode jdk_45_method_1_code 6 = .ok (.putfield 7, 3) := by decide +kernel
theorem d28_9 : decode jdk_45_method_1_code 9 = .ok (.aload_n 0, 1) := by decide +kernel
theorem d28_10 : decode jdk_45_method_1_code 10 = .ok (.iload_n 2, 1) := by decide +kernel
theorem d28_11 : decode jdk_45_method_1_code 11 = .ok (.putfield 13, 3) := by decide +kernel
theorem d28_14 : decode jdk_45_method_1_code 14 = .ok (.return_, 1) := by decide +kernel
theorem pn10 : plainName "java/util/ImmutableCollections$ListN" = true := by first | (simp [plainName, overriddenIn]; done) | decide +kernel
theorem ef57 (m : MethodId) (a : Addr) (r : Addr) : entryFrame m #[(.ref a), (.ref r), (.int (0 : Int32))] 3 = mkF m 0 #[.val (.ref a), .val (.ref r), .val (.int (0 : Int32))] [] := by first | (simp [entryFrame, mkF, argsToLocals, Value.category]; done) | rfl
abbrev Q_lnin (Z : State) (h0 : Heap) (n0 : Nat) (a : Addr) (r : Addr) : Option Value → Heap → Prop := fun v h' => v = none ∧ Keep h0 h' [a] ∧ Ob_Ln Z h' a (.ref r) 0
abbrev R_lnin : Room := { frames := 4, cells := 0, slots := 0, locals := 48 }
set_option maxRecDepth 65536 in
set_option maxHeartbeats 40000000 in
theorem m_lnin (l : Launch) (Z : State) (a0 : Array Value) (hw : ∀ d ∈ tables_1, d.before a0 Z = true) (a : Addr) (r : Addr) (h0 : Heap) (n0 : Nat) (Z0 : n0 ≤ h0.size) (O_a : Ob_Ln Z h0 a .null 0) (g_a : n0 ≤ a) : Met l Z (⟨"java/util/ImmutableCollections$ListN", "<init>", "([Ljava/lang/Object;Z)V"⟩ : MethodName) jdk_45_method_1_code 3 none R_lnin #[(.ref a), (.ref r), (.int (0 : Int32))] h0 n0 (Q_lnin Z h0 n0 a r) := by
  refine Met.of (plainFor_of_name pn10) (fun m => ef57 m a r) ?_
  intro p e s m args below meth c C
  refine G.aloadN C d28_0 rfl rfl (n := 1) rfl ?_
  refine G.callC C (argsL := []) (yc := (⟨"java/util/ImmutableCollections$AbstractImmutableList", "<init>", "()V"⟩ : MethodName)) (a := a) rfl (wd hw 201 rfl) (wd hw 160 rfl) (wd hw 163 rfl) (wd hw 164 rfl) (by decide) (m_ail l Z a0 hw a h0 n0 Z0) rfl (by decide) (W := 0) rfl (by decide) (c' := 0) (s' := 0) rfl rfl (by decide) (by decide) d28_1 (n := 4) rfl pd0 rfl rfl ?_
  rintro _ _ ⟨rfl, rfl⟩
  refine G.aloadN C d28_4 rfl rfl (n := 5) rfl ?_
  refine G.aloadN C d28_5 rfl rfl (n := 6) rfl ?_
  refine G.putfield C (host := "") (Or.inl (wd hw 205 rfl)) Via.refl (O_a.2.1) (O_a.1) (Or.inr ⟨(wd hw 206 rfl), rfl, rfl⟩) (wd hw 195 rfl) (ty := (.array (.object "java/lang/Object"))) (by decide) rfl rfl g_a d28_6 (n := 9) rfl ?_
  intro h3 W4
  have O5 := Ob_Ln.set_elements hw O_a (v := (.ref r)) W4
  have K6 := Keep.of_wr W4
  have Z7 : n0 ≤ h3.size := Nat.le_trans Z0 K6.1
  have K8 : Keep h0 h3 [a] := Keep.tr (Keep.refl h0 _) K6 (allS (Or.inl (List.mem_of_getElem? (i := 0) rfl)) all0)
  refine G.aloadN C d28_9 rfl rfl (n := 10) rfl ?_
  refine G.iloadN C d28_10 rfl (n := 11) rfl ?_
  refine G.putfield C (host := "") (Or.inl (wd hw 207 rfl)) Via.refl (O5.2.2) (O5.1) (Or.inr ⟨(wd hw 208 rfl), rfl, rfl⟩) (wd hw 195 rfl) (ty := .boolean) (by decide) rfl rfl g_a d28_11 (n := 14) rfl ?_
  intro h9 W10
  have O11 := Ob_Ln.set_allowNulls hw O5 W10
  have K12 := Keep.of_wr W10
  have Z13 : n0 ≤ h9.size := Nat.le_trans Z7 K12.1
  have K14 : Keep h0 h9 [a] := Keep.tr K8 K12 (allS (Or.inl (List.mem_of_getElem? (i := 0) rfl)) all0)
  refine G.return_ C d28_14 (by decide) (by decide) ?_
  exact ⟨rfl, K14, O11⟩
theorem d27_0 : decode jdk_56_method_4_code 0 = .ok (.aload_n 0, 1) := by decide +kernel
theorem d27_1 : decode jdk_56_method_4_code 1 = .ok (.arraylength, 1) := by decide +kernel
theorem d27_2 : decode jdk_56_method_4_code 2 = .ok (.anewarray 2, 3) := by decide +kernel
theorem d27_5 : decode jdk_56_method_4_code 5 = .ok (.astore_n 1, 1) := by decide +kernel
theorem d27_6 : decode jdk_56_method_4_code 6 = .ok (.iconst 0, 1) := by decide +kernel
theorem d27_7 : decode jdk_56_method_4_code 7 = .ok (.istore_n 2, 1) := by decide +kernel
theorem d27_8 : decode jdk_56_method_4_code 8 = .ok (.iload_n 2, 1) := by decide +kernel
theorem d27_9 : decode jdk_56_method_4_code 9 = .ok (.aload_n 0, 1) := by decide +kernel
theorem d27_10 : decode jdk_56_method_4_code 10 = .ok (.arraylength, 1) := by decide +kernel
theorem d27_11 : decode jdk_56_method_4_code 11 = .ok (.if_icmp .ge 18, 3) := by decide +kernel
theorem d27_14 : decode jdk_56_method_4_code 14 = .ok (.aload_n 1, 1) := by decide +kernel
theorem d27_15 : decode jdk_56_method_4_code 15 = .ok (.iload_n 2, 1) := by decide +kernel
theorem d27_16 : decode jdk_56_method_4_code 16 = .ok (.aload_n 0, 1) := by decide +kernel
theorem d27_17 : decode jdk_56_method_4_code 17 = .ok (.iload_n 2, 1) := by decide +kernel
theorem d27_18 : decode jdk_56_method_4_code 18 = .ok (.aaload, 1) := by decide +kernel
theorem d27_19 : decode jdk_56_method_4_code 19 = .ok (.invokestatic 37, 3) := by decide +kernel
theorem d27_22 : decode jdk_56_method_4_code 22 = .ok (.aastore, 1) := by decide +kernel
theorem d27_23 : decode jdk_56_method_4_code 23 = .ok (.iinc 2 1, 3) := by decide +kernel
theorem d27_26 : decode jdk_56_method_4_code 26 = .ok (.goto (-18), 3) := by decide +kernel
theorem d27_29 : decode jdk_56_method_4_code 29 = .ok (.new 12, 3) := by decide +kernel
theorem d27_32 : decode jdk_56_method_4_code 32 = .ok (.dup, 1) := by decide +kernel
theorem d27_33 : decode jdk_56_method_4_code 33 = .ok (.aload_n 1, 1) := by decide +kernel
theorem d27_34 : decode jdk_56_method_4_code 34 = .ok (.iconst 0, 1) := by decide +kernel
theorem d27_35 : decode jdk_56_method_4_code 35 = .ok (.invokespecial 43, 3) := by decide +kernel
theorem d27_38 : decode jdk_56_method_4_code 38 = .ok (.areturn, 1) := by decide +kernel
theorem pd8 : parseMethodDescriptor "([Ljava/lang/Object;Z)V" = some ⟨[(.array (.object "java/lang/Object")), .boolean], none⟩ := by decide +kernel
theorem pn11 : plainName "java/util/ImmutableCollections" = true := by first | (simp [plainName, overriddenIn]; done) | decide +kernel
theorem ef58 (m : MethodId) (r0 : Addr) : entryFrame m #[(.ref r0)] 3 = mkF m 0 #[.val (.ref r0), .unset, .unset] [] := by first | (simp [entryFrame, mkF, argsToLocals, Value.category]; done) | rfl
abbrev Q_lfa (Z : State) (h0 : Heap) (n0 : Nat) (em : Addr) (r0 : Addr) (y0 : Addr) (y1 : Addr) (y2 : Addr) : Option Value → Heap → Prop := fun v h' => ∃ x, v = some (.ref x) ∧ Keep h0 h' []
abbrev R_lfa : Room := { frames := 5, cells := 2, slots := 5, locals := 63 }
set_option maxRecDepth 65536 in
set_option maxHeartbeats 40000000 in
theorem m_lfa (l : Launch) (Z : State) (a0 : Array Value) (hw : ∀ d ∈ tables_1, d.before a0 Z = true) (em : Addr) (r0 : Addr) (y0 : Addr) (y1 : Addr) (y2 : Addr) (h0 : Heap) (n0 : Nat) (Z0 : n0 ≤ h0.size) (OLD0 : Old Z n0 h0) (S_em : Sta Z Z.heap "java/util/ImmutableCollections" "EMPTY" "Ljava/lang/Object;" (.ref em)) (E_y0 : Exa Z Z.heap y0 "java/lang/Long") (E_y1 : Exa Z Z.heap y1 "java/lang/Long") (E_y2 : Exa Z Z.heap y2 "java/lang/Long") (O_r : RefsX Z h0 r0 [.ref y0, .ref y1, .ref y2]) : Met l Z (⟨"java/util/ImmutableCollections", "listFromArray", "([Ljava/lang/Object;)Ljava/util/List;"⟩ : MethodName) jdk_56_method_4_code 3 (some (.object "java/util/List")) R_lfa #[(.ref r0)] h0 n0 (Q_lfa Z h0 n0 em r0 y0 y1 y2) := by
  refine Met.of (plainFor_of_name pn11) (fun m => ef58 m r0) ?_
  intro p e s m args below meth c C
  refine G.aloadN C d27_0 rfl rfl (n := 1) rfl ?_
  refine G.arraylengthR C (len := (3 : Int32)) (RefsX.refs O_r) rfl d27_1 (n := 2) rfl ?_
  refine G.anewarrayX C (cap := 3) (wd hw 193 rfl) (wd hw 94 rfl) (by decide) (by decide) d27_2 (n := 5) rfl (c' := 1) (s' := 3) rfl rfl (by decide) (by decide) ?_
  intro h1 b2 q3 E4 O5
  have O6 : RefsX Z h1 b2 [.null, .null, .null] := O5
  have ne7 : r0 ≠ b2 := Nat.ne_of_lt (Nat.lt_of_lt_of_le O_r.lt (Nat.le_of_eq q3.symm))
  have g8 : n0 ≤ b2 := Nat.le_trans Z0 (Nat.le_of_eq q3.symm)
  have f9 : h0.size ≤ b2 := Nat.le_trans (Keep.refl h0 []).1 (Nat.le_of_eq q3.symm)
  have K10 := kext E4
  have O11 := O_r.keep K10 nin0
  have OL12 := OLD0.keep K10 all0
  have Z13 : n0 ≤ h1.size := Nat.le_trans Z0 K10.1
  have K14 : Keep h0 h1 [] := Keep.tr (Keep.refl h0 _) K10 all0
  refine G.astoreN C d27_5 rfl (l' := #[.val (.ref r0), .val (.ref b2), .unset]) rfl (n := 6) rfl ?_
  refine G.iconst C (v := (0 : Int32)) d27_6 (by decide) (n := 7) rfl ?_
  refine G.istoreN C d27_7 (l' := #[.val (.ref r0), .val (.ref b2), .val (.int (0 : Int32))]) rfl (n := 8) rfl ?_
  refine G.iloadN C d27_8 rfl (n := 9) rfl ?_
  refine G.aloadN C d27_9 rfl rfl (n := 10) rfl ?_
  refine G.arraylengthR C (len := (3 : Int32)) (RefsX.refs O11) rfl d27_10 (n := 11) rfl ?_
  refine G.icmp_ge C (A := 0) (B := 3) (by decide) (by decide) d27_11 (by decide) (by decide) (n := 14) (n' := 29) rfl (fun c11_15 => ?_) (fun c11_15 => ?_)
  · exact absurd c11_15 (by decide)
  refine G.aloadN C d27_14 rfl rfl (n := 15) rfl ?_
  refine G.iloadN C d27_15 rfl (n := 16) rfl ?_
  refine G.aloadN C d27_16 rfl rfl (n := 17) rfl ?_
  refine G.iloadN C d27_17 rfl (n := 18) rfl ?_
  refine G.aaload C (x := .ref y0) (RefsX.refs O11) rfl (by decide) rfl d27_18 (n := 19) rfl ?_
  refine G.callS C (argsL := [(.ref y0)]) (yc := (⟨"java/util/Objects", "requireNonNull", "(Ljava/lang/Object;)Ljava/lang/Object;"⟩ : MethodName)) (wd hw 194 rfl) (wd hw 174 rfl) (wd hw 175 rfl) (wd hw 176 rfl) (by decide) (m_rnn l Z a0 hw y0 h1 n0 Z13) rfl (by decide) (W := 2) rfl (by decide) (c' := 1) (s' := 3) rfl rfl (by decide) (by decide) d27_19 (n := 22) rfl pd7 rfl rfl ?_
  rintro _ _ ⟨rfl, rfl⟩
  refine G.aastoreX C O6 (Ins.of_exa (E_y0.ext OL12.2) (wd hw 95 rfl)) (by decide) (show (0 : Int32).toInt < ((3 : Nat) : Int) by decide) g8 d27_22 (n := 23) rfl ?_
  intro h18 K19 O20
  have O21 : RefsX Z h18 b2 [.ref y0, .null, .null] := O20
  have O22 := O11.keep K19 (ninS ne7 nin0)
  have OL23 := OL12.keep K19 (allS g8 all0)
  have Z24 : n0 ≤ h18.size := Nat.le_trans Z13 K19.1
  have K25 : Keep h0 h18 [] := Keep.tr K14 K19 (allS (Or.inr f9) all0)
  refine G.iincK C (v := (1 : Int32)) (z := (1 : Int32)) d27_23 (by decide) rfl (by decide) (l' := #[.val (.ref r0), .val (.ref b2), .val (.int (1 : Int32))]) rfl (n := 26) rfl ?_
  refine G.goto C d27_26 (by decide) (n := 8) (by decide) ?_
  refine G.iloadN C d27_8 rfl (n := 9) rfl ?_
  refine G.aloadN C d27_9 rfl rfl (n := 10) rfl ?_
  refine G.arraylengthR C (len := (3 : Int32)) (RefsX.refs O22) rfl d27_10 (n := 11) rfl ?_
  refine G.icmp_ge C (A := 1) (B := 3) (by decide) (by decide) d27_11 (by decide) (by decide) (n := 14) (n' := 29) rfl (fun c11_26 => ?_) (fun c11_26 => ?_)
  · exact absurd c11_26 (by decide)
  refine G.aloadN C d27_14 rfl rfl (n := 15) rfl ?_
  refine G.iloadN C d27_15 rfl (n := 16) rfl ?_
  refine G.aloadN C d27_16 rfl rfl (n := 17) rfl ?_
  refine G.iloadN C d27_17 rfl (n := 18) rfl ?_
  refine G.aaload C (x := .ref y1) (RefsX.refs O22) rfl (by decide) rfl d27_18 (n := 19) rfl ?_
  refine G.callS C (argsL := [(.ref y1)]) (yc := (⟨"java/util/Objects", "requireNonNull", "(Ljava/lang/Object;)Ljava/lang/Object;"⟩ : MethodName)) (wd hw 194 rfl) (wd hw 174 rfl) (wd hw 175 rfl) (wd hw 176 rfl) (by decide) (m_rnn l Z a0 hw y1 h18 n0 Z24) rfl (by decide) (W := 2) rfl (by decide) (c' := 1) (s' := 3) rfl rfl (by decide) (by decide) d27_19 (n := 22) rfl pd7 rfl rfl ?_
  rintro _ _ ⟨rfl, rfl⟩
  refine G.aastoreX C O21 (Ins.of_exa (E_y1.ext OL23.2) (wd hw 95 rfl)) (by decide) (show (1 : Int32).toInt < ((3 : Nat) : Int) by decide) g8 d27_22 (n := 23) rfl ?_
  intro h29 K30 O31
  have O32 : RefsX Z h29 b2 [.ref y0, .ref y1, .null] := O31
  have O33 := O22.keep K30 (ninS ne7 nin0)
  have OL34 := OL23.keep K30 (allS g8 all0)
  have Z35 : n0 ≤ h29.size := Nat.le_trans Z24 K30.1
  have K36 : Keep h0 h29 [] := Keep.tr K25 K30 (allS (Or.inr f9) all0)
  refine G.iincK C (v := (1 : Int32)) (z := (2 : Int32)) d27_23 (by decide) rfl (by decide) (l' := #[.val (.ref r0), .val (.ref b2), .val (.int (2 : Int32))]) rfl (n := 26) rfl ?_
  refine G.goto C d27_26 (by decide) (n := 8) (by decide) ?_
  refine G.iloadN C d27_8 rfl (n := 9) rfl ?_
  refine G.aloadN C d27_9 rfl rfl (n := 10) rfl ?_
  refine G.arraylengthR C (len := (3 : Int32)) (RefsX.refs O33) rfl d27_10 (n := 11) rfl ?_
  refine G.icmp_ge C (A := 2) (B := 3) (by decide) (by decide) d27_11 (by decide) (by decide) (n := 14) (n' := 29) rfl (fun c11_37 => ?_) (fun c11_37 => ?_)
  · exact absurd c11_37 (by decide)
  refine G.aloadN C d27_14 rfl rfl (n := 15) rfl ?_
  refine G.iloadN C d27_15 rfl (n := 16) rfl ?_
  refine G.aloadN C d27_16 rfl rfl (n := 17) rfl ?_
  refine G.iloadN C d27_17 rfl (n := 18) rfl ?_
  refine G.aaload C (x := .ref y2) (RefsX.refs O33) rfl (by decide) rfl d27_18 (n := 19) rfl ?_
  refine G.callS C (argsL := [(.ref y2)]) (yc := (⟨"java/util/Objects", "requireNonNull", "(Ljava/lang/Object;)Ljava/lang/Object;"⟩ : MethodName)) (wd hw 194 rfl) (wd hw 174 rfl) (wd hw 175 rfl) (wd hw 176 rfl) (by decide) (m_rnn l Z a0 hw y2 h29 n0 Z35) rfl (by decide) (W := 2) rfl (by decide) (c' := 1) (s' := 3) rfl rfl (by decide) (by decide) d27_19 (n := 22) rfl pd7 rfl rfl ?_
  rintro _ _ ⟨rfl, rfl⟩
  refine G.aastoreX C O32 (Ins.of_exa (E_y2.ext OL34.2) (wd hw 95 rfl)) (by decide) (show (2 : Int32).toInt < ((3 : Nat) : Int) by decide) g8 d27_22 (n := 23) rfl ?_
  intro h40 K41 O42
  have O43 : RefsX Z h40 b2 [.ref y0, .ref y1, .ref y2] := O42
  have O44 := O33.keep K41 (ninS ne7 nin0)
  have OL45 := OL34.keep K41 (allS g8 all0)
  have Z46 : n0 ≤ h40.size := Nat.le_trans Z35 K41.1
  have K47 : Keep h0 h40 [] := Keep.tr K36 K41 (allS (Or.inr f9) all0)
  refine G.iincK C (v := (1 : Int32)) (z := (3 : Int32)) d27_23 (by decide) rfl (by decide) (l' := #[.val (.ref r0), .val (.ref b2), .val (.int (3 : Int32))]) rfl (n := 26) rfl ?_
  refine G.goto C d27_26 (by decide) (n := 8) (by decide) ?_
  refine G.iloadN C d27_8 rfl (n := 9) rfl ?_
  refine G.aloadN C d27_9 rfl rfl (n := 10) rfl ?_
  refine G.arraylengthR C (len := (3 : Int32)) (RefsX.refs O44) rfl d27_10 (n := 11) rfl ?_
  refine G.icmp_ge C (A := 3) (B := 3) (by decide) (by decide) d27_11 (by decide) (by decide) (n := 14) (n' := 29) rfl (fun c11_48 => ?_) (fun c11_48 => ?_)
  rotate_left
  · exact absurd c11_48 (by decide)
  refine G.new C (wd hw 109 rfl) (wd hw 195 rfl) (wd hw 196 rfl) d27_29 (n := 32) rfl (c' := 2) (s' := 5) rfl rfl (by decide) (by decide) ?_
  intro h49 b50 q51 E52 A53 D54
  have ne55 : r0 ≠ b50 := Nat.ne_of_lt (Nat.lt_of_lt_of_le O44.lt (Nat.le_of_eq q51.symm))
  have ne56 : b2 ≠ b50 := Nat.ne_of_lt (Nat.lt_of_lt_of_le O43.lt (Nat.le_of_eq q51.symm))
  have g57 : n0 ≤ b50 := Nat.le_trans Z46 (Nat.le_of_eq q51.symm)
  have f58 : h0.size ≤ b50 := Nat.le_trans K47.1 (Nat.le_of_eq q51.symm)
  have O59 := Ob_Ln.new hw A53 D54
  have K60 := kext E52
  have O61 := O44.keep K60 nin0
  have O62 := O43.keep K60 nin0
  have OL63 := OL45.keep K60 all0
  have Z64 : n0 ≤ h49.size := Nat.le_trans Z46 K60.1
  have K65 : Keep h0 h49 [] := Keep.tr K47 K60 all0
  refine G.dup C d27_32 rfl (n := 33) rfl ?_
  refine G.aloadN C d27_33 rfl rfl (n := 34) rfl ?_
  refine G.iconst C (v := (0 : Int32)) d27_34 (by decide) (n := 35) rfl ?_
  refine G.callCN C (argsL := [(.ref b2), (.int (0 : Int32))]) (yc := (⟨"java/util/ImmutableCollections$ListN", "<init>", "([Ljava/lang/Object;Z)V"⟩ : MethodName)) (a := b50) rfl (wd hw 197 rfl) (wd hw 198 rfl) (wd hw 196 rfl) (wd hw 200 rfl) (by decide) (m_lnin l Z a0 hw b50 b2 h49 n0 Z64 O59 g57) rfl (by decide) (W := 1) rfl (by decide) (c' := 2) (s' := 5) rfl rfl (by decide) (by decide) d27_35 (n := 38) rfl pd8 rfl rfl ?_
  rintro _ h69 ⟨rfl, K66, O67⟩
  have O70 := O61.keep K66 (ninS ne55 nin0)
  have O71 := O62.keep K66 (ninS ne56 nin0)
  have OL72 := OL63.keep K66 (allS g57 all0)
  have Z73 : n0 ≤ h69.size := Nat.le_trans Z64 K66.1
  have K74 : Keep h0 h69 [] := Keep.tr K65 K66 (allS (Or.inr f58) all0)
  refine G.areturn C d27_38 rfl rfl rfl (by decide) (by decide) ?_
  exact ⟨_, rfl, K74⟩
theorem d21_0 : decode jdk_40_method_47_code 0 = .ok (.aload_n 0, 1) := by decide +kernel
theorem d21_1 : decode jdk_40_method_47_code 1 = .ok (.arraylength, 1) := by decide +kernel
theorem d21_2 : decode jdk_40_method_47_code 2 = .ok (.tableswitch 57 0 2 #[26, 32, 43], 26) := by decide +kernel
theorem d21_28 : decode jdk_40_method_47_code 28 = .ok (.getstatic 90, 3) := by decide +kernel
theorem d21_31 : decode jdk_40_method_47_code 31 = .ok (.astore_n 1, 1) := by decide +kernel
theorem d21_32 : decode jdk_40_method_47_code 32 = .ok (.aload_n 1, 1) := by decide +kernel
theorem d21_33 : decode jdk_40_method_47_code 33 = .ok (.areturn, 1) := by decide +kernel
theorem d21_34 : decode jdk_40_method_47_code 34 = .ok (.new 96, 3) := by decide +kernel
theorem d21_37 : decode jdk_40_method_47_code 37 = .ok (.dup, 1) := by decide +kernel
theorem d21_38 : decode jdk_40_method_47_code 38 = .ok (.aload_n 0, 1) := by decide +kernel
theorem d21_39 : decode jdk_40_method_47_code 39 = .ok (.iconst 0, 1) := by decide +kernel
theorem d21_40 : decode jdk_40_method_47_code 40 = .ok (.aaload, 1) := by decide +kernel
theorem d21_41 : decode jdk_40_method_47_code 41 = .ok (.invokespecial 98, 3) := by decide +kernel
theorem d21_44 : decode jdk_40_method_47_code 44 = .ok (.areturn, 1) := by decide +kernel
theorem d21_45 : decode jdk_40_method_47_code 45 = .ok (.new 96, 3) := by decide +kernel
theorem d21_48 : decode jdk_40_method_47_code 48 = .ok (.dup, 1) := by decide +kernel
theorem d21_49 : decode jdk_40_method_47_code 49 = .ok (.aload_n 0, 1) := by decide +kernel
theorem d21_50 : decode jdk_40_method_47_code 50 = .ok (.iconst 0, 1) := by decide +kernel
theorem d21_51 : decode jdk_40_method_47_code 51 = .ok (.aaload, 1) := by decide +kernel
theorem d21_52 : decode jdk_40_method_47_code 52 = .ok (.aload_n 0, 1) := by decide +kernel
theorem d21_53 : decode jdk_40_method_47_code 53 = .ok (.iconst 1, 1) := by decide +kernel
theorem d21_54 : decode jdk_40_method_47_code 54 = .ok (.aaload, 1) := by decide +kernel
theorem d21_55 : decode jdk_40_method_47_code 55 = .ok (.invokespecial 100, 3) := by decide +kernel
theorem d21_58 : decode jdk_40_method_47_code 58 = .ok (.areturn, 1) := by decide +kernel
theorem d21_59 : decode jdk_40_method_47_code 59 = .ok (.aload_n 0, 1) := by decide +kernel
theorem d21_60 : decode jdk_40_method_47_code 60 = .ok (.invokestatic 109, 3) := by decide +kernel
theorem d21_63 : decode jdk_40_method_47_code 63 = .ok (.areturn, 1) := by decide +kernel
theorem pd9 : parseMethodDescriptor "(Ljava/lang/Object;)V" = some ⟨[(.object "java/lang/Object")], none⟩ := by decide +kernel
theorem pn12 : plainName "java/util/List" = true := by first | (simp [plainName, overriddenIn]; done) | decide +kernel
theorem ef59 (m : MethodId) (r0 : Addr) : entryFrame m #[(.ref r0)] 2 = mkF m 0 #[.val (.ref r0), .unset] [] := by first | (simp [entryFrame, mkF, argsToLocals, Value.category]; done) | rfl
abbrev Q_lof1 (Z : State) (h0 : Heap) (n0 : Nat) (em : Addr) (r0 : Addr) (y0 : Addr) : Option Value → Heap → Prop := fun v h' => ∃ x, v = some (.ref x) ∧ Keep h0 h' []
abbrev R_lof1 : Room := { frames := 5, cells := 1, slots := 2, locals := 62 }
set_option maxRecDepth 65536 in
set_option maxHeartbeats 40000000 in
theorem m_lof1 (l : Launch) (Z : State) (a0 : Array Value) (hw : ∀ d ∈ tables_1, d.before a0 Z = true) (em : Addr) (r0 : Addr) (y0 : Addr) (h0 : Heap) (n0 : Nat) (Z0 : n0 ≤ h0.size) (OLD0 : Old Z n0 h0) (S_em : Sta Z Z.heap "java/util/ImmutableCollections" "EMPTY" "Ljava/lang/Object;" (.ref em)) (E_y0 : Exa Z Z.heap y0 "java/lang/Long") (O_r : RefsX Z h0 r0 [.ref y0]) : Met l Z (⟨"java/util/List", "of", "([Ljava/lang/Object;)Ljava/util/List;"⟩ : MethodName) jdk_40_method_47_code 2 (some (.object "java/util/List")) R_lof1 #[(.ref r0)] h0 n0 (Q_lof1 Z h0 n0 em r0 y0) := by
  refine Met.of (plainFor_of_name pn12) (fun m => ef59 m r0) ?_
  intro p e s m args below meth c C
  refine G.aloadN C d21_0 rfl rfl (n := 1) rfl ?_
  refine G.arraylengthR C (len := (1 : Int32)) (RefsX.refs O_r) rfl d21_1 (n := 2) rfl ?_
  refine G.tswIn C (i := (1 : Int32)) d21_2 (by decide) (o := 32) (by decide) (by decide) (n := 34) (by decide) ?_
  refine G.new C (wd hw 152 rfl) (wd hw 153 rfl) (wd hw 154 rfl) d21_34 (n := 37) rfl (c' := 1) (s' := 2) rfl rfl (by decide) (by decide) ?_
  intro h1 b2 q3 E4 A5 D6
  have ne7 : r0 ≠ b2 := Nat.ne_of_lt (Nat.lt_of_lt_of_le O_r.lt (Nat.le_of_eq q3.symm))
  have g8 : n0 ≤ b2 := Nat.le_trans Z0 (Nat.le_of_eq q3.symm)
  have f9 : h0.size ≤ b2 := Nat.le_trans (Keep.refl h0 []).1 (Nat.le_of_eq q3.symm)
  have O10 := Ob_L2.new hw A5 D6
  have K11 := kext E4
  have O12 := O_r.keep K11 nin0
  have OL13 := OLD0.keep K11 all0
  have Z14 : n0 ≤ h1.size := Nat.le_trans Z0 K11.1
  have K15 : Keep h0 h1 [] := Keep.tr (Keep.refl h0 _) K11 all0
  refine G.dup C d21_37 rfl (n := 38) rfl ?_
  refine G.aloadN C d21_38 rfl rfl (n := 39) rfl ?_
  refine G.iconst C (v := (0 : Int32)) d21_39 (by decide) (n := 40) rfl ?_
  refine G.aaload C (x := .ref y0) (RefsX.refs O12) rfl (by decide) rfl d21_40 (n := 41) rfl ?_
  refine G.callC C (argsL := [(.ref y0)]) (yc := (⟨"java/util/ImmutableCollections$List12", "<init>", "(Ljava/lang/Object;)V"⟩ : MethodName)) (a := b2) rfl (wd hw 155 rfl) (wd hw 156 rfl) (wd hw 154 rfl) (wd hw 158 rfl) (by decide) (m_l12_1 l Z a0 hw b2 em y0 h1 n0 Z14 OL13 S_em O10 g8) rfl (by decide) (W := 1) rfl (by decide) (c' := 1) (s' := 2) rfl rfl (by decide) (by decide) d21_41 (n := 44) rfl pd9 rfl rfl ?_
  rintro _ h19 ⟨rfl, K16, O17⟩
  have O20 := O12.keep K16 (ninS ne7 nin0)
  have OL21 := OL13.keep K16 (allS g8 all0)
  have Z22 : n0 ≤ h19.size := Nat.le_trans Z14 K16.1
  have K23 : Keep h0 h19 [] := Keep.tr K15 K16 (allS (Or.inr f9) all0)
  refine G.areturn C d21_44 rfl rfl rfl (by decide) (by decide) ?_
  exact ⟨_, rfl, K23⟩
theorem pd10 : parseMethodDescriptor "(Ljava/lang/Object;Ljava/lang/Object;)V" = some ⟨[(.object "java/lang/Object"), (.object "java/lang/Object")], none⟩ := by decide +kernel
theorem ef60 (m : MethodId) (r0 : Addr) : entryFrame m #[(.ref r0)] 2 = mkF m 0 #[.val (.ref r0), .unset] [] := by first | (simp [entryFrame, mkF, argsToLocals, Value.category]; done) | rfl
abbrev Q_lof2 (Z : State) (h0 : Heap) (n0 : Nat) (em : Addr) (r0 : Addr) (y0 : Addr) (y1 : Addr) : Option Value → Heap → Prop := fun v h' => ∃ x, v = some (.ref x) ∧ Keep h0 h' []
abbrev R_lof2 : Room := { frames := 5, cells := 1, slots := 2, locals := 63 }
set_option maxRecDepth 65536 in
set_option maxHeartbeats 40000000 in
theorem m_lof2 (l : Launch) (Z : State) (a0 : Array Value) (hw : ∀ d ∈ tables_1, d.before a0 Z = true) (em : Addr) (r0 : Addr) (y0 : Addr) (y1 : Addr) (h0 : Heap) (n0 : Nat) (Z0 : n0 ≤ h0.size) (OLD0 : Old Z n0 h0) (S_em : Sta Z Z.heap "java/util/ImmutableCollections" "EMPTY" "Ljava/lang/Object;" (.ref em)) (E_y0 : Exa Z Z.heap y0 "java/lang/Long") (E_y1 : Exa Z Z.heap y1 "java/lang/Long") (O_r : RefsX Z h0 r0 [.ref y0, .ref y1]) : Met l Z (⟨"java/util/List", "of", "([Ljava/lang/Object;)Ljava/util/List;"⟩ : MethodName) jdk_40_method_47_code 2 (some (.object "java/util/List")) R_lof2 #[(.ref r0)] h0 n0 (Q_lof2 Z h0 n0 em r0 y0 y1) := by
  refine Met.of (plainFor_of_name pn12) (fun m => ef60 m r0) ?_
  intro p e s m args below meth c C
  refine G.aloadN C d21_0 rfl rfl (n := 1) rfl ?_
  refine G.arraylengthR C (len := (2 : Int32)) (RefsX.refs O_r) rfl d21_1 (n := 2) rfl ?_
  refine G.tswIn C (i := (2 : Int32)) d21_2 (by decide) (o := 43) (by decide) (by decide) (n := 45) (by decide) ?_
  refine G.new C (wd hw 152 rfl) (wd hw 153 rfl) (wd hw 154 rfl) d21_45 (n := 48) rfl (c' := 1) (s' := 2) rfl rfl (by decide) (by decide) ?_
  intro h1 b2 q3 E4 A5 D6
  have ne7 : r0 ≠ b2 := Nat.ne_of_lt (Nat.lt_of_lt_of_le O_r.lt (Nat.le_of_eq q3.symm))
  have g8 : n0 ≤ b2 := Nat.le_trans Z0 (Nat.le_of_eq q3.symm)
  have f9 : h0.size ≤ b2 := Nat.le_trans (Keep.refl h0 []).1 (Nat.le_of_eq q3.symm)
  have O10 := Ob_L2.new hw A5 D6
  have K11 := kext E4
  have O12 := O_r.keep K11 nin0
  have OL13 := OLD0.keep K11 all0
  have Z14 : n0 ≤ h1.size := Nat.le_trans Z0 K11.1
  have K15 : Keep h0 h1 [] := Keep.tr (Keep.refl h0 _) K11 all0
  refine G.dup C d21_48 rfl (n := 49) rfl ?_
  refine G.aloadN C d21_49 rfl rfl (n := 50) rfl ?_
  refine G.iconst C (v := (0 : Int32)) d21_50 (by decide) (n := 51) rfl ?_
  refine G.aaload C (x := .ref y0) (RefsX.refs O12) rfl (by decide) rfl d21_51 (n := 52) rfl ?_
  refine G.aloadN C d21_52 rfl rfl (n := 53) rfl ?_
  refine G.iconst C (v := (1 : Int32)) d21_53 (by decide) (n := 54) rfl ?_
  refine G.aaload C (x := .ref y1) (RefsX.refs O12) rfl (by decide) rfl d21_54 (n := 55) rfl ?_
  refine G.callC C (argsL := [(.ref y0), (.ref y1)]) (yc := (⟨"java/util/ImmutableCollections$List12", "<init>", "(Ljava/lang/Object;Ljava/lang/Object;)V"⟩ : MethodName)) (a := b2) rfl (wd hw 209 rfl) (wd hw 210 rfl) (wd hw 154 rfl) (wd hw 211 rfl) (by decide) (m_l12_2 l Z a0 hw b2 em y0 y1 h1 n0 Z14 OL13 S_em O10 g8) rfl (by decide) (W := 1) rfl (by decide) (c' := 1) (s' := 2) rfl rfl (by decide) (by decide) d21_55 (n := 58) rfl pd10 rfl rfl ?_
  rintro _ h19 ⟨rfl, K16, O17⟩
  have O20 := O12.keep K16 (ninS ne7 nin0)
  have OL21 := OL13.keep K16 (allS g8 all0)
  have Z22 : n0 ≤ h19.size := Nat.le_trans Z14 K16.1
  have K23 : Keep h0 h19 [] := Keep.tr K15 K16 (allS (Or.inr f9) all0)
  refine G.areturn C d21_58 rfl rfl rfl (by decide) (by decide) ?_
  exact ⟨_, rfl, K23⟩
theorem pd11 : parseMethodDescriptor "([Ljava/lang/Object;)Ljava/util/List;" = some ⟨[(.array (.object "java/lang/Object"))], some (.object "java/util/List")⟩ := by decide +kernel
theorem ef61 (m : MethodId) (r0 : Addr) : entryFrame m #[(.ref r0)] 2 = mkF m 0 #[.val (.ref r0), .unset] [] := by first | (simp [entryFrame, mkF, argsToLocals, Value.category]; done) | rfl
abbrev Q_lof3 (Z : State) (h0 : Heap) (n0 : Nat) (em : Addr) (r0 : Addr) (y0 : Addr) (y1 : Addr) (y2 : Addr) : Option Value → Heap → Prop := fun v h' => ∃ x, v = some (.ref x) ∧ Keep h0 h' []
abbrev R_lof3 : Room := { frames := 6, cells := 2, slots := 5, locals := 77 }
set_option maxRecDepth 65536 in
set_option maxHeartbeats 40000000 in
theorem m_lof3 (l : Launch) (Z : State) (a0 : Array Value) (hw : ∀ d ∈ tables_1, d.before a0 Z = true) (em : Addr) (r0 : Addr) (y0 : Addr) (y1 : Addr) (y2 : Addr) (h0 : Heap) (n0 : Nat) (Z0 : n0 ≤ h0.size) (OLD0 : Old Z n0 h0) (S_em : Sta Z Z.heap "java/util/ImmutableCollections" "EMPTY" "Ljava/lang/Object;" (.ref em)) (E_y0 : Exa Z Z.heap y0 "java/lang/Long") (E_y1 : Exa Z Z.heap y1 "java/lang/Long") (E_y2 : Exa Z Z.heap y2 "java/lang/Long") (O_r : RefsX Z h0 r0 [.ref y0, .ref y1, .ref y2]) : Met l Z (⟨"java/util/List", "of", "([Ljava/lang/Object;)Ljava/util/List;"⟩ : MethodName) jdk_40_method_47_code 2 (some (.object "java/util/List")) R_lof3 #[(.ref r0)] h0 n0 (Q_lof3 Z h0 n0 em r0 y0 y1 y2) := by
  refine Met.of (plainFor_of_name pn12) (fun m => ef61 m r0) ?_
  intro p e s m args below meth c C
  refine G.aloadN C d21_0 rfl rfl (n := 1) rfl ?_
  refine G.arraylengthR C (len := (3 : Int32)) (RefsX.refs O_r) rfl d21_1 (n := 2) rfl ?_
  refine G.tswOut C (i := (3 : Int32)) d21_2 (by decide) (by decide) (n := 59) (by decide) ?_
  refine G.aloadN C d21_59 rfl rfl (n := 60) rfl ?_
  refine G.callS C (argsL := [(.ref r0)]) (yc := (⟨"java/util/ImmutableCollections", "listFromArray", "([Ljava/lang/Object;)Ljava/util/List;"⟩ : MethodName)) (wd hw 190 rfl) (wd hw 191 rfl) (wd hw 102 rfl) (wd hw 192 rfl) (by decide) (m_lfa l Z a0 hw em r0 y0 y1 y2 h0 n0 Z0 OLD0 S_em E_y0 E_y1 E_y2 O_r) rfl (by decide) (W := 0) rfl (by decide) (c' := 2) (s' := 5) rfl rfl (by decide) (by decide) d21_60 (n := 63) rfl pd11 rfl rfl ?_
  rintro _ h4 ⟨x1, rfl, K2⟩
  have O5 := O_r.keep K2 nin0
  have OL6 := OLD0.keep K2 all0
  have Z7 : n0 ≤ h4.size := Nat.le_trans Z0 K2.1
  have K8 : Keep h0 h4 [] := Keep.tr (Keep.refl h0 _) K2 all0
  refine G.areturn C d21_63 rfl rfl rfl (by decide) (by decide) ?_
  exact ⟨_, rfl, K8⟩
theorem d15_0 : decode jdk_56_method_3_code 0 = .ok (.aload_n 0, 1) := by decide +kernel
theorem d15_1 : decode jdk_56_method_3_code 1 = .ok (.instanceof 10, 3) := by decide +kernel
theorem d15_4 : decode jdk_56_method_3_code 4 = .ok (.ifCond .ne 22, 3) := by decide +kernel
theorem d15_7 : decode jdk_56_method_3_code 7 = .ok (.aload_n 0, 1) := by decide +kernel
theorem d15_8 : decode jdk_56_method_3_code 8 = .ok (.instanceof 12, 3) := by decide +kernel
theorem d15_11 : decode jdk_56_method_3_code 11 = .ok (.ifCond .eq 20, 3) := by decide +kernel
theorem d15_14 : decode jdk_56_method_3_code 14 = .ok (.aload_n 0, 1) := by decide +kernel
theorem d15_15 : decode jdk_56_method_3_code 15 = .ok (.checkcast 12, 3) := by decide +kernel
theorem d15_18 : decode jdk_56_method_3_code 18 = .ok (.astore_n 1, 1) := by decide +kernel
theorem d15_19 : decode jdk_56_method_3_code 19 = .ok (.aload_n 1, 1) := by decide +kernel
theorem d15_20 : decode jdk_56_method_3_code 20 = .ok (.getfield 14, 3) := by decide +kernel
theorem d15_23 : decode jdk_56_method_3_code 23 = .ok (.ifCond .ne 8, 3) := by decide +kernel
theorem d15_26 : decode jdk_56_method_3_code 26 = .ok (.aload_n 0, 1) := by decide +kernel
theorem d15_27 : decode jdk_56_method_3_code 27 = .ok (.checkcast 18, 3) := by decide +kernel
theorem d15_30 : decode jdk_56_method_3_code 30 = .ok (.areturn, 1) := by decide +kernel
theorem d15_31 : decode jdk_56_method_3_code 31 = .ok (.aload_n 0, 1) := by decide +kernel
theorem d15_32 : decode jdk_56_method_3_code 32 = .ok (.invokeinterface 20 1, 5) := by decide +kernel
theorem d15_37 : decode jdk_56_method_3_code 37 = .ok (.ifCond .eq 7, 3) := by decide +kernel
theorem d15_40 : decode jdk_56_method_3_code 40 = .ok (.invokestatic 26, 3) := by decide +kernel
theorem d15_43 : decode jdk_56_method_3_code 43 = .ok (.areturn, 1) := by decide +kernel
theorem d15_44 : decode jdk_56_method_3_code 44 = .ok (.aload_n 0, 1) := by decide +kernel
theorem d15_45 : decode jdk_56_method_3_code 45 = .ok (.invokeinterface 30 1, 5) := by decide +kernel
theorem d15_50 : decode jdk_56_method_3_code 50 = .ok (.invokestatic 34, 3) := by decide +kernel
theorem d15_53 : decode jdk_56_method_3_code 53 = .ok (.areturn, 1) := by decide +kernel
theorem pd12 : parseMethodDescriptor "()Z" = some ⟨[], some .boolean⟩ := by decide +kernel
theorem ef62 (m : MethodId) (a : Addr) : entryFrame m #[(.ref a)] 2 = mkF m 0 #[.val (.ref a), .unset] [] := by first | (simp [entryFrame, mkF, argsToLocals, Value.category]; done) | rfl
abbrev Q_lcp1 (Z : State) (h0 : Heap) (n0 : Nat) (em : Addr) (mr : Addr) (r0 : Addr) (a : Addr) (mc : Int32) (y0 : Addr) : Option Value → Heap → Prop := fun v h' => ∃ x, v = some (.ref x) ∧ Keep h0 h' []
abbrev R_lcp1 : Room := { frames := 6, cells := 2, slots := 3, locals := 75 }
set_option maxRecDepth 65536 in
set_option maxHeartbeats 40000000 in
theorem m_lcp1 (l : Launch) (Z : State) (a0 : Array Value) (hw : ∀ d ∈ tables_1, d.before a0 Z = true) (em : Addr) (mr : Addr) (r0 : Addr) (a : Addr) (mc : Int32) (y0 : Addr) (h0 : Heap) (n0 : Nat) (Z0 : n0 ≤ h0.size) (OLD0 : Old Z n0 h0) (M_r : MirA Z "[Ljava/lang/Object;" mr) (E_y0 : Exa Z Z.heap y0 "java/lang/Long") (O_r : RefsX Z h0 r0 [.ref y0, .null, .null, .null, .null, .null, .null, .null, .null, .null]) (O_a : Ob_Al Z h0 a mc (.ref r0) 1) (S_em : Sta Z Z.heap "java/util/ImmutableCollections" "EMPTY" "Ljava/lang/Object;" (.ref em)) : Met l Z (⟨"java/util/ImmutableCollections", "listCopy", "(Ljava/util/Collection;)Ljava/util/List;"⟩ : MethodName) jdk_56_method_3_code 2 (some (.object "java/util/List")) R_lcp1 #[(.ref a)] h0 n0 (Q_lcp1 Z h0 n0 em mr r0 a mc y0) := by
  refine Met.of (plainFor_of_name pn11) (fun m => ef62 m a) ?_
  intro p e s m args below meth c C
  refine G.aloadN C d15_0 rfl rfl (n := 1) rfl ?_
  refine G.instNo C (wd hw 104 rfl) (O_a.1) (ns_inst (wd hw 105 rfl) (wd hw 153 rfl) (NS.step (wd hw 105 rfl) (NS.step (wd hw 106 rfl) (NS.step (wd hw 107 rfl) (ns_root (wd hw 108 rfl) (wd hw 153 rfl) (by decide)) (by decide)) (by decide)) (by decide)) (by decide)) d15_1 (n := 4) rfl ?_
  refine G.if_ne C (A := 0) (by decide) d15_4 (by decide) (by decide) (n := 7) (n' := 26) rfl (fun c4_1 c4_1i => ?_) (fun c4_1 c4_1i => ?_)
  · exact absurd c4_1 (by decide)
  refine G.aloadN C d15_7 rfl rfl (n := 8) rfl ?_
  refine G.instNo C (wd hw 109 rfl) (O_a.1) (ns_inst (wd hw 105 rfl) (wd hw 195 rfl) (NS.step (wd hw 105 rfl) (NS.step (wd hw 106 rfl) (NS.step (wd hw 107 rfl) (ns_root (wd hw 108 rfl) (wd hw 195 rfl) (by decide)) (by decide)) (by decide)) (by decide)) (by decide)) d15_8 (n := 11) rfl ?_
  refine G.if_eq C (A := 0) (by decide) d15_11 (by decide) (by decide) (n := 14) (n' := 31) rfl (fun c11_2 c11_2i => ?_) (fun c11_2 c11_2i => ?_)
  rotate_left
  · exact absurd c11_2 (by decide)
  refine G.aloadN C d15_31 rfl rfl (n := 32) rfl ?_
  refine G.callI C (argsL := []) (yr := (⟨"java/util/Collection", "isEmpty", "()Z"⟩ : MethodName)) (yc := (⟨"java/util/ArrayList", "isEmpty", "()Z"⟩ : MethodName)) (a := a) (O_a.1) (wd hw 110 rfl) (wd hw 111 rfl) (wd hw 112 rfl) (wd hw 113 rfl) (wd hw 114 rfl) (wd hw 115 rfl) (wd hw 116 rfl) (wd hw 117 rfl) (wd hw 31 rfl) (wd hw 118 rfl) (by decide) (m_ie1 l Z a0 hw mr r0 a mc y0 h0 n0 Z0 OLD0 M_r E_y0 O_r O_a) rfl (by decide) (W := 0) rfl (by decide) (c' := 0) (s' := 0) rfl rfl (by decide) (by decide) d15_32 (n := 37) rfl pd12 rfl rfl ?_
  rintro _ _ ⟨rfl, rfl⟩
  refine G.if_eq C (A := 0) (by decide) d15_37 (by decide) (by decide) (n := 40) (n' := 44) rfl (fun c37_5 c37_5i => ?_) (fun c37_5 c37_5i => ?_)
  rotate_left
  · exact absurd c37_5 (by decide)
  refine G.aloadN C d15_44 rfl rfl (n := 45) rfl ?_
  refine G.callI C (argsL := []) (yr := (⟨"java/util/Collection", "toArray", "()[Ljava/lang/Object;"⟩ : MethodName)) (yc := (⟨"java/util/ArrayList", "toArray", "()[Ljava/lang/Object;"⟩ : MethodName)) (a := a) (O_a.1) (wd hw 119 rfl) (wd hw 120 rfl) (wd hw 121 rfl) (wd hw 122 rfl) (wd hw 123 rfl) (wd hw 124 rfl) (wd hw 125 rfl) (wd hw 117 rfl) (wd hw 31 rfl) (wd hw 126 rfl) (by decide) (m_ta1 l Z a0 hw mr r0 a mc y0 h0 n0 Z0 OLD0 M_r E_y0 O_r O_a) rfl (by decide) (W := 0) rfl (by decide) (c' := 1) (s' := 1) rfl rfl (by decide) (by decide) d15_45 (n := 50) rfl pd3 rfl rfl ?_
  rintro _ h11 ⟨r6, rfl, K7, O8, f9⟩
  have ne12 : r0 ≠ r6 := Nat.ne_of_lt (Nat.lt_of_lt_of_le O_r.lt f9)
  have ne13 : a ≠ r6 := Nat.ne_of_lt (Nat.lt_of_lt_of_le O_a.lt f9)
  have g14 : n0 ≤ r6 := Nat.le_trans Z0 f9
  have f15 : h0.size ≤ r6 := Nat.le_trans (Keep.refl h0 []).1 f9
  have O16 := O_r.keep K7 nin0
  have O17 := O_a.keep K7 nin0
  have OL18 := OLD0.keep K7 all0
  have Z19 : n0 ≤ h11.size := Nat.le_trans Z0 K7.1
  have K20 : Keep h0 h11 [] := Keep.tr (Keep.refl h0 _) K7 all0
  refine G.callS C (argsL := [(.ref r6)]) (yc := (⟨"java/util/List", "of", "([Ljava/lang/Object;)Ljava/util/List;"⟩ : MethodName)) (wd hw 149 rfl) (wd hw 150 rfl) (wd hw 98 rfl) (wd hw 151 rfl) (by decide) (m_lof1 l Z a0 hw em r6 y0 h11 n0 Z19 OL18 S_em E_y0 O8) rfl (by decide) (W := 0) rfl (by decide) (c' := 2) (s' := 3) rfl rfl (by decide) (by decide) d15_50 (n := 53) rfl pd11 rfl rfl ?_
  rintro _ h24 ⟨x21, rfl, K22⟩
  have O25 := O16.keep K22 nin0
  have O26 := O17.keep K22 nin0
  have O27 := O8.keep K22 nin0
  have OL28 := OL18.keep K22 all0
  have Z29 : n0 ≤ h24.size := Nat.le_trans Z19 K22.1
  have K30 : Keep h0 h24 [] := Keep.tr K20 K22 all0
  refine G.areturn C d15_53 rfl rfl rfl (by decide) (by decide) ?_
  exact ⟨_, rfl, K30⟩
theorem ef63 (m : MethodId) (a : Addr) : entryFrame m #[(.ref a)] 2 = mkF m 0 #[.val (.ref a), .unset] [] := by first | (simp [entryFrame, mkF, argsToLocals, Value.category]; done) | rfl
abbrev Q_lcp2 (Z : State) (h0 : Heap) (n0 : Nat) (em : Addr) (mr : Addr) (r0 : Addr) (a : Addr) (mc : Int32) (y0 : Addr) (y1 : Addr) : Option Value → Heap → Prop := fun v h' => ∃ x, v = some (.ref x) ∧ Keep h0 h' []
abbrev R_lcp2 : Room := { frames := 6, cells := 2, slots := 4, locals := 76 }
set_option maxRecDepth 65536 in
set_option maxHeartbeats 40000000 in
theorem m_lcp2 (l : Launch) (Z : State) (a0 : Array Value) (hw : ∀ d ∈ tables_1, d.before a0 Z = true) (em : Addr) (mr : Addr) (r0 : Addr) (a : Addr) (mc : Int32) (y0 : Addr) (y1 : Addr) (h0 : Heap) (n0 : Nat) (Z0 : n0 ≤ h0.size) (OLD0 : Old Z n0 h0) (M_r : MirA Z "[Ljava/lang/Object;" mr) (E_y0 : Exa Z Z.heap y0 "java/lang/Long") (E_y1 : Exa Z Z.heap y1 "java/lang/Long") (O_r : RefsX Z h0 r0 [.ref y0, .ref y1, .null, .null, .null, .null, .null, .null, .null, .null]) (O_a : Ob_Al Z h0 a mc (.ref r0) 2) (S_em : Sta Z Z.heap "java/util/ImmutableCollections" "EMPTY" "Ljava/lang/Object;" (.ref em)) : Met l Z (⟨"java/util/ImmutableCollections", "listCopy", "(Ljava/util/Collection;)Ljava/util/List;"⟩ : MethodName) jdk_56_method_3_code 2 (some (.object "java/util/List")) R_lcp2 #[(.ref a)] h0 n0 (Q_lcp2 Z h0 n0 em mr r0 a mc y0 y1) := by
  refine Met.of (plainFor_of_name pn11) (fun m => ef63 m a) ?_
  intro p e s m args below meth c C
  refine G.aloadN C d15_0 rfl rfl (n := 1) rfl ?_
  refine G.instNo C (wd hw 104 rfl) (O_a.1) (ns_inst (wd hw 105 rfl) (wd hw 153 rfl) (NS.step (wd hw 105 rfl) (NS.step (wd hw 106 rfl) (NS.step (wd hw 107 rfl) (ns_root (wd hw 108 rfl) (wd hw 153 rfl) (by decide)) (by decide)) (by decide)) (by decide)) (by decide)) d15_1 (n := 4) rfl ?_
  refine G.if_ne C (A := 0) (by decide) d15_4 (by decide) (by decide) (n := 7) (n' := 26) rfl (fun c4_1 c4_1i => ?_) (fun c4_1 c4_1i => ?_)
  · exact absurd c4_1 (by decide)
  refine G.aloadN C d15_7 rfl rfl (n := 8) rfl ?_
  refine G.instNo C (wd hw 109 rfl) (O_a.1) (ns_inst (wd hw 105 rfl) (wd hw 195 rfl) (NS.step (wd hw 105 rfl) (NS.step (wd hw 106 rfl) (NS.step (wd hw 107 rfl) (ns_root (wd hw 108 rfl) (wd hw 195 rfl) (by decide)) (by decide)) (by decide)) (by decide)) (by decide)) d15_8 (n := 11) rfl ?_
  refine G.if_eq C (A := 0) (by decide) d15_11 (by decide) (by decide) (n := 14) (n' := 31) rfl (fun c11_2 c11_2i => ?_) (fun c11_2 c11_2i => ?_)
  rotate_left
  · exact absurd c11_2 (by decide)
  refine G.aloadN C d15_31 rfl rfl (n := 32) rfl ?_
  refine G.callI C (argsL := []) (yr := (⟨"java/util/Collection", "isEmpty", "()Z"⟩ : MethodName)) (yc := (⟨"java/util/ArrayList", "isEmpty", "()Z"⟩ : MethodName)) (a := a) (O_a.1) (wd hw 110 rfl) (wd hw 111 rfl) (wd hw 112 rfl) (wd hw 113 rfl) (wd hw 114 rfl) (wd hw 115 rfl) (wd hw 116 rfl) (wd hw 117 rfl) (wd hw 31 rfl) (wd hw 118 rfl) (by decide) (m_ie2 l Z a0 hw mr r0 a mc y0 y1 h0 n0 Z0 OLD0 M_r E_y0 E_y1 O_r O_a) rfl (by decide) (W := 0) rfl (by decide) (c' := 0) (s' := 0) rfl rfl (by decide) (by decide) d15_32 (n := 37) rfl pd12 rfl rfl ?_
  rintro _ _ ⟨rfl, rfl⟩
  refine G.if_eq C (A := 0) (by decide) d15_37 (by decide) (by decide) (n := 40) (n' := 44) rfl (fun c37_5 c37_5i => ?_) (fun c37_5 c37_5i => ?_)
  rotate_left
  · exact absurd c37_5 (by decide)
  refine G.aloadN C d15_44 rfl rfl (n := 45) rfl ?_
  refine G.callI C (argsL := []) (yr := (⟨"java/util/Collection", "toArray", "()[Ljava/lang/Object;"⟩ : MethodName)) (yc := (⟨"java/util/ArrayList", "toArray", "()[Ljava/lang/Object;"⟩ : MethodName)) (a := a) (O_a.1) (wd hw 119 rfl) (wd hw 120 rfl) (wd hw 121 rfl) (wd hw 122 rfl) (wd hw 123 rfl) (wd hw 124 rfl) (wd hw 125 rfl) (wd hw 117 rfl) (wd hw 31 rfl) (wd hw 126 rfl) (by decide) (m_ta2 l Z a0 hw mr r0 a mc y0 y1 h0 n0 Z0 OLD0 M_r E_y0 E_y1 O_r O_a) rfl (by decide) (W := 0) rfl (by decide) (c' := 1) (s' := 2) rfl rfl (by decide) (by decide) d15_45 (n := 50) rfl pd3 rfl rfl ?_
  rintro _ h11 ⟨r6, rfl, K7, O8, f9⟩
  have ne12 : r0 ≠ r6 := Nat.ne_of_lt (Nat.lt_of_lt_of_le O_r.lt f9)
  have ne13 : a ≠ r6 := Nat.ne_of_lt (Nat.lt_of_lt_of_le O_a.lt f9)
  have g14 : n0 ≤ r6 := Nat.le_trans Z0 f9
  have f15 : h0.size ≤ r6 := Nat.le_trans (Keep.refl h0 []).1 f9
  have O16 := O_r.keep K7 nin0
  have O17 := O_a.keep K7 nin0
  have OL18 := OLD0.keep K7 all0
  have Z19 : n0 ≤ h11.size := Nat.le_trans Z0 K7.1
  have K20 : Keep h0 h11 [] := Keep.tr (Keep.refl h0 _) K7 all0
  refine G.callS C (argsL := [(.ref r6)]) (yc := (⟨"java/util/List", "of", "([Ljava/lang/Object;)Ljava/util/List;"⟩ : MethodName)) (wd hw 149 rfl) (wd hw 150 rfl) (wd hw 98 rfl) (wd hw 151 rfl) (by decide) (m_lof2 l Z a0 hw em r6 y0 y1 h11 n0 Z19 OL18 S_em E_y0 E_y1 O8) rfl (by decide) (W := 0) rfl (by decide) (c' := 2) (s' := 4) rfl rfl (by decide) (by decide) d15_50 (n := 53) rfl pd11 rfl rfl ?_
  rintro _ h24 ⟨x21, rfl, K22⟩
  have O25 := O16.keep K22 nin0
  have O26 := O17.keep K22 nin0
  have O27 := O8.keep K22 nin0
  have OL28 := OL18.keep K22 all0
  have Z29 : n0 ≤ h24.size := Nat.le_trans Z19 K22.1
  have K30 : Keep h0 h24 [] := Keep.tr K20 K22 all0
  refine G.areturn C d15_53 rfl rfl rfl (by decide) (by decide) ?_
  exact ⟨_, rfl, K30⟩
theorem ef64 (m : MethodId) (a : Addr) : entryFrame m #[(.ref a)] 2 = mkF m 0 #[.val (.ref a), .unset] [] := by first | (simp [entryFrame, mkF, argsToLocals, Value.category]; done) | rfl
abbrev Q_lcp3 (Z : State) (h0 : Heap) (n0 : Nat) (em : Addr) (mr : Addr) (r0 : Addr) (a : Addr) (mc : Int32) (y0 : Addr) (y1 : Addr) (y2 : Addr) : Option Value → Heap → Prop := fun v h' => ∃ x, v = some (.ref x) ∧ Keep h0 h' []
abbrev R_lcp3 : Room := { frames := 7, cells := 3, slots := 8, locals := 90 }
set_option maxRecDepth 65536 in
set_option maxHeartbeats 40000000 in
theorem m_lcp3 (l : Launch) (Z : State) (a0 : Array Value) (hw : ∀ d ∈ tables_1, d.before a0 Z = true) (em : Addr) (mr : Addr) (r0 : Addr) (a : Addr) (mc : Int32) (y0 : Addr) (y1 : Addr) (y2 : Addr) (h0 : Heap) (n0 : Nat) (Z0 : n0 ≤ h0.size) (OLD0 : Old Z n0 h0) (M_r : MirA Z "[Ljava/lang/Object;" mr) (E_y0 : Exa Z Z.heap y0 "java/lang/Long") (E_y1 : Exa Z Z.heap y1 "java/lang/Long") (E_y2 : Exa Z Z.heap y2 "java/lang/Long") (O_r : RefsX Z h0 r0 [.ref y0, .ref y1, .ref y2, .null, .null, .null, .null, .null, .null, .null]) (O_a : Ob_Al Z h0 a mc (.ref r0) 3) (S_em : Sta Z Z.heap "java/util/ImmutableCollections" "EMPTY" "Ljava/lang/Object;" (.ref em)) : Met l Z (⟨"java/util/ImmutableCollections", "listCopy", "(Ljava/util/Collection;)Ljava/util/List;"⟩ : MethodName) jdk_56_method_3_code 2 (some (.object "java/util/List")) R_lcp3 #[(.ref a)] h0 n0 (Q_lcp3 Z h0 n0 em mr r0 a mc y0 y1 y2) := by
  refine Met.of (plainFor_of_name pn11) (fun m => ef64 m a) ?_
  intro p e s m args below meth c C
  refine G.aloadN C d15_0 rfl rfl (n := 1) rfl ?_
  refine G.instNo C (wd hw 104 rfl) (O_a.1) (ns_inst (wd hw 105 rfl) (wd hw 153 rfl) (NS.step (wd hw 105 rfl) (NS.step (wd hw 106 rfl) (NS.step (wd hw 107 rfl) (ns_root (wd hw 108 rfl) (wd hw 153 rfl) (by decide)) (by decide)) (by decide)) (by decide)) (by decide)) d15_1 (n := 4) rfl ?_
  refine G.if_ne C (A := 0) (by decide) d15_4 (by decide) (by decide) (n := 7) (n' := 26) rfl (fun c4_1 c4_1i => ?_) (fun c4_1 c4_1i => ?_)
  · exact absurd c4_1 (by decide)
  refine G.aloadN C d15_7 rfl rfl (n := 8) rfl ?_
  refine G.instNo C (wd hw 109 rfl) (O_a.1) (ns_inst (wd hw 105 rfl) (wd hw 195 rfl) (NS.step (wd hw 105 rfl) (NS.step (wd hw 106 rfl) (NS.step (wd hw 107 rfl) (ns_root (wd hw 108 rfl) (wd hw 195 rfl) (by decide)) (by decide)) (by decide)) (by decide)) (by decide)) d15_8 (n := 11) rfl ?_
  refine G.if_eq C (A := 0) (by decide) d15_11 (by decide) (by decide) (n := 14) (n' := 31) rfl (fun c11_2 c11_2i => ?_) (fun c11_2 c11_2i => ?_)
  rotate_left
  · exact absurd c11_2 (by decide)
  refine G.aloadN C d15_31 rfl rfl (n := 32) rfl ?_
  refine G.callI C (argsL := []) (yr := (⟨"java/util/Collection", "isEmpty", "()Z"⟩ : MethodName)) (yc := (⟨"java/util/ArrayList", "isEmpty", "()Z"⟩ : MethodName)) (a := a) (O_a.1) (wd hw 110 rfl) (wd hw 111 rfl) (wd hw 112 rfl) (wd hw 113 rfl) (wd hw 114 rfl) (wd hw 115 rfl) (wd hw 116 rfl) (wd hw 117 rfl) (wd hw 31 rfl) (wd hw 118 rfl) (by decide) (m_ie3 l Z a0 hw mr r0 a mc y0 y1 y2 h0 n0 Z0 OLD0 M_r E_y0 E_y1 E_y2 O_r O_a) rfl (by decide) (W := 0) rfl (by decide) (c' := 0) (s' := 0) rfl rfl (by decide) (by decide) d15_32 (n := 37) rfl pd12 rfl rfl ?_
  rintro _ _ ⟨rfl, rfl⟩
  refine G.if_eq C (A := 0) (by decide) d15_37 (by decide) (by decide) (n := 40) (n' := 44) rfl (fun c37_5 c37_5i => ?_) (fun c37_5 c37_5i => ?_)
  rotate_left
  · exact absurd c37_5 (by decide)
  refine G.aloadN C d15_44 rfl rfl (n := 45) rfl ?_
  refine G.callI C (argsL := []) (yr := (⟨"java/util/Collection", "toArray", "()[Ljava/lang/Object;"⟩ : MethodName)) (yc := (⟨"java/util/ArrayList", "toArray", "()[Ljava/lang/Object;"⟩ : MethodName)) (a := a) (O_a.1) (wd hw 119 rfl) (wd hw 120 rfl) (wd hw 121 rfl) (wd hw 122 rfl) (wd hw 123 rfl) (wd hw 124 rfl) (wd hw 125 rfl) (wd hw 117 rfl) (wd hw 31 rfl) (wd hw 126 rfl) (by decide) (m_ta3 l Z a0 hw mr r0 a mc y0 y1 y2 h0 n0 Z0 OLD0 M_r E_y0 E_y1 E_y2 O_r O_a) rfl (by decide) (W := 0) rfl (by decide) (c' := 1) (s' := 3) rfl rfl (by decide) (by decide) d15_45 (n := 50) rfl pd3 rfl rfl ?_
  rintro _ h11 ⟨r6, rfl, K7, O8, f9⟩
  have ne12 : r0 ≠ r6 := Nat.ne_of_lt (Nat.lt_of_lt_of_le O_r.lt f9)
  have ne13 : a ≠ r6 := Nat.ne_of_lt (Nat.lt_of_lt_of_le O_a.lt f9)
  have g14 : n0 ≤ r6 := Nat.le_trans Z0 f9
  have f15 : h0.size ≤ r6 := Nat.le_trans (Keep.refl h0 []).1 f9
  have O16 := O_r.keep K7 nin0
  have O17 := O_a.keep K7 nin0
  have OL18 := OLD0.keep K7 all0
  have Z19 : n0 ≤ h11.size := Nat.le_trans Z0 K7.1
  have K20 : Keep h0 h11 [] := Keep.tr (Keep.refl h0 _) K7 all0
  refine G.callS C (argsL := [(.ref r6)]) (yc := (⟨"java/util/List", "of", "([Ljava/lang/Object;)Ljava/util/List;"⟩ : MethodName)) (wd hw 149 rfl) (wd hw 150 rfl) (wd hw 98 rfl) (wd hw 151 rfl) (by decide) (m_lof3 l Z a0 hw em r6 y0 y1 y2 h11 n0 Z19 OL18 S_em E_y0 E_y1 E_y2 O8) rfl (by decide) (W := 0) rfl (by decide) (c' := 3) (s' := 8) rfl rfl (by decide) (by decide) d15_50 (n := 53) rfl pd11 rfl rfl ?_
  rintro _ h24 ⟨x21, rfl, K22⟩
  have O25 := O16.keep K22 nin0
  have O26 := O17.keep K22 nin0
  have O27 := O8.keep K22 nin0
  have OL28 := OL18.keep K22 all0
  have Z29 : n0 ≤ h24.size := Nat.le_trans Z19 K22.1
  have K30 : Keep h0 h24 [] := Keep.tr K20 K22 all0
  refine G.areturn C d15_53 rfl rfl rfl (by decide) (by decide) ?_
  exact ⟨_, rfl, K30⟩
theorem d14_0 : decode jdk_40_method_48_code 0 = .ok (.aload_n 0, 1) := by decide +kernel
theorem d14_1 : decode jdk_40_method_48_code 1 = .ok (.invokestatic 112, 3) := by decide +kernel
theorem d14_4 : decode jdk_40_method_48_code 4 = .ok (.areturn, 1) := by decide +kernel
theorem pd13 : parseMethodDescriptor "(Ljava/util/Collection;)Ljava/util/List;" = some ⟨[(.object "java/util/Collection")], some (.object "java/util/List")⟩ := by decide +kernel
theorem ef65 (m : MethodId) (a : Addr) : entryFrame m #[(.ref a)] 1 = mkF m 0 #[.val (.ref a)] [] := by first | (simp [entryFrame, mkF, argsToLocals, Value.category]; done) | rfl
abbrev Q_cpo1 (Z : State) (h0 : Heap) (n0 : Nat) (em : Addr) (mr : Addr) (r0 : Addr) (a : Addr) (mc : Int32) (y0 : Addr) : Option Value → Heap → Prop := fun v h' => ∃ x, v = some (.ref x) ∧ Keep h0 h' []
abbrev R_cpo1 : Room := { frames := 7, cells := 2, slots := 3, locals := 88 }
set_option maxRecDepth 65536 in
set_option maxHeartbeats 40000000 in
theorem m_cpo1 (l : Launch) (Z : State) (a0 : Array Value) (hw : ∀ d ∈ tables_1, d.before a0 Z = true) (em : Addr) (mr : Addr) (r0 : Addr) (a : Addr) (mc : Int32) (y0 : Addr) (h0 : Heap) (n0 : Nat) (Z0 : n0 ≤ h0.size) (OLD0 : Old Z n0 h0) (M_r : MirA Z "[Ljava/lang/Object;" mr) (E_y0 : Exa Z Z.heap y0 "java/lang/Long") (O_r : RefsX Z h0 r0 [.ref y0, .null, .null, .null, .null, .null, .null, .null, .null, .null]) (O_a : Ob_Al Z h0 a mc (.ref r0) 1) (S_em : Sta Z Z.heap "java/util/ImmutableCollections" "EMPTY" "Ljava/lang/Object;" (.ref em)) : Met l Z (⟨"java/util/List", "copyOf", "(Ljava/util/Collection;)Ljava/util/List;"⟩ : MethodName) jdk_40_method_48_code 1 (some (.object "java/util/List")) R_cpo1 #[(.ref a)] h0 n0 (Q_cpo1 Z h0 n0 em mr r0 a mc y0) := by
  refine Met.of (plainFor_of_name pn12) (fun m => ef65 m a) ?_
  intro p e s m args below meth c C
  refine G.aloadN C d14_0 rfl rfl (n := 1) rfl ?_
  refine G.callS C (argsL := [(.ref a)]) (yc := (⟨"java/util/ImmutableCollections", "listCopy", "(Ljava/util/Collection;)Ljava/util/List;"⟩ : MethodName)) (wd hw 100 rfl) (wd hw 101 rfl) (wd hw 102 rfl) (wd hw 103 rfl) (by decide) (m_lcp1 l Z a0 hw em mr r0 a mc y0 h0 n0 Z0 OLD0 M_r E_y0 O_r O_a S_em) rfl (by decide) (W := 0) rfl (by decide) (c' := 2) (s' := 3) rfl rfl (by decide) (by decide) d14_1 (n := 4) rfl pd13 rfl rfl ?_
  rintro _ h4 ⟨x1, rfl, K2⟩
  have O5 := O_r.keep K2 nin0
  have O6 := O_a.keep K2 nin0
  have OL7 := OLD0.keep K2 all0
  have Z8 : n0 ≤ h4.size := Nat.le_trans Z0 K2.1
  have K9 : Keep h0 h4 [] := Keep.tr (Keep.refl h0 _) K2 all0
  refine G.areturn C d14_4 rfl rfl rfl (by decide) (by decide) ?_
  exact ⟨_, rfl, K9⟩
theorem ef66 (m : MethodId) (a : Addr) : entryFrame m #[(.ref a)] 1 = mkF m 0 #[.val (.ref a)] [] := by first | (simp [entryFrame, mkF, argsToLocals, Value.category]; done) | rfl
abbrev Q_cpo2 (Z : State) (h0 : Heap) (n0 : Nat) (em : Addr) (mr : Addr) (r0 : Addr) (a : Addr) (mc : Int32) (y0 : Addr) (y1 : Addr) : Option Value → Heap → Prop := fun v h' => ∃ x, v = some (.ref x) ∧ Keep h0 h' []
abbrev R_cpo2 : Room := { frames := 7, cells := 2, slots := 4, locals := 89 }
set_option maxRecDepth 65536 in
set_option maxHeartbeats 40000000 in
theorem m_cpo2 (l : Launch) (Z : State) (a0 : Array Value) (hw : ∀ d ∈ tables_1, d.before a0 Z = true) (em : Addr) (mr : Addr) (r0 : Addr) (a : Addr) (mc : Int32) (y0 : Addr) (y1 : Addr) (h0 : Heap) (n0 : Nat) (Z0 : n0 ≤ h0.size) (OLD0 : Old Z n0 h0) (M_r : MirA Z "[Ljava/lang/Object;" mr) (E_y0 : Exa Z Z.heap y0 "java/lang/Long") (E_y1 : Exa Z Z.heap y1 "java/lang/Long") (O_r : RefsX Z h0 r0 [.ref y0, .ref y1, .null, .null, .null, .null, .null, .null, .null, .null]) (O_a : Ob_Al Z h0 a mc (.ref r0) 2) (S_em : Sta Z Z.heap "java/util/ImmutableCollections" "EMPTY" "Ljava/lang/Object;" (.ref em)) : Met l Z (⟨"java/util/List", "copyOf", "(Ljava/util/Collection;)Ljava/util/List;"⟩ : MethodName) jdk_40_method_48_code 1 (some (.object "java/util/List")) R_cpo2 #[(.ref a)] h0 n0 (Q_cpo2 Z h0 n0 em mr r0 a mc y0 y1) := by
  refine Met.of (plainFor_of_name pn12) (fun m => ef66 m a) ?_
  intro p e s m args below meth c C
  refine G.aloadN C d14_0 rfl rfl (n := 1) rfl ?_
  refine G.callS C (argsL := [(.ref a)]) (yc := (⟨"java/util/ImmutableCollections", "listCopy", "(Ljava/util/Collection;)Ljava/util/List;"⟩ : MethodName)) (wd hw 100 rfl) (wd hw 101 rfl) (wd hw 102 rfl) (wd hw 103 rfl) (by decide) (m_lcp2 l Z a0 hw em mr r0 a mc y0 y1 h0 n0 Z0 OLD0 M_r E_y0 E_y1 O_r O_a S_em) rfl (by decide) (W := 0) rfl (by decide) (c' := 2) (s' := 4) rfl rfl (by decide) (by decide) d14_1 (n := 4) rfl pd13 rfl rfl ?_
  rintro _ h4 ⟨x1, rfl, K2⟩
  have O5 := O_r.keep K2 nin0
  have O6 := O_a.keep K2 nin0
  have OL7 := OLD0.keep K2 all0
  have Z8 : n0 ≤ h4.size := Nat.le_trans Z0 K2.1
  have K9 : Keep h0 h4 [] := Keep.tr (Keep.refl h0 _) K2 all0
  refine G.areturn C d14_4 rfl rfl rfl (by decide) (by decide) ?_
  exact ⟨_, rfl, K9⟩
theorem ef67 (m : MethodId) (a : Addr) : entryFrame m #[(.ref a)] 1 = mkF m 0 #[.val (.ref a)] [] := by first | (simp [entryFrame, mkF, argsToLocals, Value.category]; done) | rfl
abbrev Q_cpo3 (Z : State) (h0 : Heap) (n0 : Nat) (em : Addr) (mr : Addr) (r0 : Addr) (a : Addr) (mc : Int32) (y0 : Addr) (y1 : Addr) (y2 : Addr) : Option Value → Heap → Prop := fun v h' => ∃ x, v = some (.ref x) ∧ Keep h0 h' []
abbrev R_cpo3 : Room := { frames := 8, cells := 3, slots := 8, locals := 103 }
set_option maxRecDepth 65536 in
set_option maxHeartbeats 40000000 in
theorem m_cpo3 (l : Launch) (Z : State) (a0 : Array Value) (hw : ∀ d ∈ tables_1, d.before a0 Z = true) (em : Addr) (mr : Addr) (r0 : Addr) (a : Addr) (mc : Int32) (y0 : Addr) (y1 : Addr) (y2 : Addr) (h0 : Heap) (n0 : Nat) (Z0 : n0 ≤ h0.size) (OLD0 : Old Z n0 h0) (M_r : MirA Z "[Ljava/lang/Object;" mr) (E_y0 : Exa Z Z.heap y0 "java/lang/Long") (E_y1 : Exa Z Z.heap y1 "java/lang/Long") (E_y2 : Exa Z Z.heap y2 "java/lang/Long") (O_r : RefsX Z h0 r0 [.ref y0, .ref y1, .ref y2, .null, .null, .null, .null, .null, .null, .null]) (O_a : Ob_Al Z h0 a mc (.ref r0) 3) (S_em : Sta Z Z.heap "java/util/ImmutableCollections" "EMPTY" "Ljava/lang/Object;" (.ref em)) : Met l Z (⟨"java/util/List", "copyOf", "(Ljava/util/Collection;)Ljava/util/List;"⟩ : MethodName) jdk_40_method_48_code 1 (some (.object "java/util/List")) R_cpo3 #[(.ref a)] h0 n0 (Q_cpo3 Z h0 n0 em mr r0 a mc y0 y1 y2) := by
  refine Met.of (plainFor_of_name pn12) (fun m => ef67 m a) ?_
  intro p e s m args below meth c C
  refine G.aloadN C d14_0 rfl rfl (n := 1) rfl ?_
  refine G.callS C (argsL := [(.ref a)]) (yc := (⟨"java/util/ImmutableCollections", "listCopy", "(Ljava/util/Collection;)Ljava/util/List;"⟩ : MethodName)) (wd hw 100 rfl) (wd hw 101 rfl) (wd hw 102 rfl) (wd hw 103 rfl) (by decide) (m_lcp3 l Z a0 hw em mr r0 a mc y0 y1 y2 h0 n0 Z0 OLD0 M_r E_y0 E_y1 E_y2 O_r O_a S_em) rfl (by decide) (W := 0) rfl (by decide) (c' := 3) (s' := 8) rfl rfl (by decide) (by decide) d14_1 (n := 4) rfl pd13 rfl rfl ?_
  rintro _ h4 ⟨x1, rfl, K2⟩
  have O5 := O_r.keep K2 nin0
  have O6 := O_a.keep K2 nin0
  have OL7 := OLD0.keep K2 all0
  have Z8 : n0 ≤ h4.size := Nat.le_trans Z0 K2.1
  have K9 : Keep h0 h4 [] := Keep.tr (Keep.refl h0 _) K2 all0
  refine G.areturn C d14_4 rfl rfl rfl (by decide) (by decide) ?_
  exact ⟨_, rfl, K9⟩
theorem d4_0 : decode prog_36_method_14_code 0 = .ok (.new 77, 3) := by decide +kernel
theorem d4_3 : decode prog_36_method_14_code 3 = .ok (.dup, 1) := by decide +kernel
theorem d4_4 : decode prog_36_method_14_code 4 = .ok (.invokespecial 79, 3) := by decide +kernel
theorem d4_7 : decode prog_36_method_14_code 7 = .ok (.astore_n 2, 1) := by decide +kernel
theorem d4_8 : decode prog_36_method_14_code 8 = .ok (.lload_n 0, 1) := by decide +kernel
theorem d4_9 : decode prog_36_method_14_code 9 = .ok (.lstore_n 3, 1) := by decide +kernel
theorem d4_10 : decode prog_36_method_14_code 10 = .ok (.ldc2_w 68, 3) := by decide +kernel
theorem d4_13 : decode prog_36_method_14_code 13 = .ok (.lstore 5, 2) := by decide +kernel
theorem d4_15 : decode prog_36_method_14_code 15 = .ok (.lload 5, 2) := by decide +kernel
theorem d4_17 : decode prog_36_method_14_code 17 = .ok (.lload 5, 2) := by decide +kernel
theorem d4_19 : decode prog_36_method_14_code 19 = .ok (.lmul, 1) := by decide +kernel
theorem d4_20 : decode prog_36_method_14_code 20 = .ok (.lload_n 3, 1) := by decide +kernel
theorem d4_21 : decode prog_36_method_14_code 21 = .ok (.lcmp, 1) := by decide +kernel
theorem d4_22 : decode prog_36_method_14_code 22 = .ok (.ifCond .gt 50, 3) := by decide +kernel
theorem d4_25 : decode prog_36_method_14_code 25 = .ok (.lload_n 3, 1) := by decide +kernel
theorem d4_26 : decode prog_36_method_14_code 26 = .ok (.lload 5, 2) := by decide +kernel
theorem d4_28 : decode prog_36_method_14_code 28 = .ok (.lrem, 1) := by decide +kernel
theorem d4_29 : decode prog_36_method_14_code 29 = .ok (.lconst 0, 1) := by decide +kernel
theorem d4_30 : decode prog_36_method_14_code 30 = .ok (.lcmp, 1) := by decide +kernel
theorem d4_31 : decode prog_36_method_14_code 31 = .ok (.ifCond .ne 32, 3) := by decide +kernel
theorem d4_34 : decode prog_36_method_14_code 34 = .ok (.aload_n 2, 1) := by decide +kernel
theorem d4_35 : decode prog_36_method_14_code 35 = .ok (.lload 5, 2) := by decide +kernel
theorem d4_37 : decode prog_36_method_14_code 37 = .ok (.invokestatic 80, 3) := by decide +kernel
theorem d4_40 : decode prog_36_method_14_code 40 = .ok (.invokeinterface 84 2, 5) := by decide +kernel
theorem d4_45 : decode prog_36_method_14_code 45 = .ok (.pop, 1) := by decide +kernel
theorem d4_46 : decode prog_36_method_14_code 46 = .ok (.lload_n 3, 1) := by decide +kernel
theorem d4_47 : decode prog_36_method_14_code 47 = .ok (.lload 5, 2) := by decide +kernel
theorem d4_49 : decode prog_36_method_14_code 49 = .ok (.lrem, 1) := by decide +kernel
theorem d4_50 : decode prog_36_method_14_code 50 = .ok (.lconst 0, 1) := by decide +kernel
theorem d4_51 : decode prog_36_method_14_code 51 = .ok (.lcmp, 1) := by decide +kernel
theorem d4_52 : decode prog_36_method_14_code 52 = .ok (.ifCond .ne 11, 3) := by decide +kernel
theorem d4_55 : decode prog_36_method_14_code 55 = .ok (.lload_n 3, 1) := by decide +kernel
theorem d4_56 : decode prog_36_method_14_code 56 = .ok (.lload 5, 2) := by decide +kernel
theorem d4_58 : decode prog_36_method_14_code 58 = .ok (.ldiv, 1) := by decide +kernel
theorem d4_59 : decode prog_36_method_14_code 59 = .ok (.lstore_n 3, 1) := by decide +kernel
theorem d4_60 : decode prog_36_method_14_code 60 = .ok (.goto (-14), 3) := by decide +kernel
theorem d4_63 : decode prog_36_method_14_code 63 = .ok (.lload 5, 2) := by decide +kernel
theorem d4_65 : decode prog_36_method_14_code 65 = .ok (.lconst 1, 1) := by decide +kernel
theorem d4_66 : decode prog_36_method_14_code 66 = .ok (.ladd, 1) := by decide +kernel
theorem d4_67 : decode prog_36_method_14_code 67 = .ok (.lstore 5, 2) := by decide +kernel
theorem d4_69 : decode prog_36_method_14_code 69 = .ok (.goto (-54), 3) := by decide +kernel
theorem d4_72 : decode prog_36_method_14_code 72 = .ok (.lload_n 3, 1) := by decide +kernel
theorem d4_73 : decode prog_36_method_14_code 73 = .ok (.lconst 1, 1) := by decide +kernel
theorem d4_74 : decode prog_36_method_14_code 74 = .ok (.lcmp, 1) := by decide +kernel
theorem d4_75 : decode prog_36_method_14_code 75 = .ok (.ifCond .le 14, 3) := by decide +kernel
theorem d4_78 : decode prog_36_method_14_code 78 = .ok (.aload_n 2, 1) := by decide +kernel
theorem d4_79 : decode prog_36_method_14_code 79 = .ok (.lload_n 3, 1) := by decide +kernel
theorem d4_80 : decode prog_36_method_14_code 80 = .ok (.invokestatic 80, 3) := by decide +kernel
theorem d4_83 : decode prog_36_method_14_code 83 = .ok (.invokeinterface 84 2, 5) := by decide +kernel
theorem d4_88 : decode prog_36_method_14_code 88 = .ok (.pop, 1) := by decide +kernel
theorem d4_89 : decode prog_36_method_14_code 89 = .ok (.aload_n 2, 1) := by decide +kernel
theorem d4_90 : decode prog_36_method_14_code 90 = .ok (.invokestatic 88, 3) := by decide +kernel
theorem d4_93 : decode prog_36_method_14_code 93 = .ok (.areturn, 1) := by decide +kernel
theorem pd14 : parseMethodDescriptor "(J)Ljava/lang/Long;" = some ⟨[.long], some (.object "java/lang/Long")⟩ := by decide +kernel
theorem pd15 : parseMethodDescriptor "(Ljava/lang/Object;)Z" = some ⟨[(.object "java/lang/Object")], some .boolean⟩ := by decide +kernel
theorem ef68 (m : MethodId)  : entryFrame m #[(.long (2 : Int64))] 7 = mkF m 0 #[.val (.long (2 : Int64)), .second, .unset, .unset, .unset, .unset, .unset] [] := by first | (simp [entryFrame, mkF, argsToLocals, Value.category]; done) | rfl
abbrev Q_pf2 (Z : State) (h0 : Heap) (n0 : Nat) (mr : Addr) (dE : Addr) (lc : Addr) (lv : List Value) (em : Addr) (x2 : Addr) (x3 : Addr) (x5 : Addr) (x7 : Addr) (x127 : Addr) : Option Value → Heap → Prop := fun v h' => ∃ x, v = some (.ref x) ∧ Keep h0 h' []
abbrev R_pf2 : Room := { frames := 8, cells := 4, slots := 16, locals := 100 }
set_option maxRecDepth 65536 in
set_option maxHeartbeats 40000000 in
theorem m_pf2 (l : Launch) (Z : State) (a0 : Array Value) (hw : ∀ d ∈ tables_1, d.before a0 Z = true) (mr : Addr) (dE : Addr) (lc : Addr) (lv : List Value) (em : Addr) (x2 : Addr) (x3 : Addr) (x5 : Addr) (x7 : Addr) (x127 : Addr) (h0 : Heap) (n0 : Nat) (Z0 : n0 ≤ h0.size) (OLD0 : Old Z n0 h0) (M_r : MirA Z "[Ljava/lang/Object;" mr) (S_dE : Sta Z Z.heap "java/util/ArrayList" "DEFAULTCAPACITY_EMPTY_ELEMENTDATA" "[Ljava/lang/Object;" (.ref dE)) (O_dE : Refs Z Z.heap dE (.object "java/lang/Object") []) (S_lc : Sta Z Z.heap "java/lang/Long$LongCache" "cache" "[Ljava/lang/Long;" (.ref lc)) (O_lc : Refs Z Z.heap lc (.object "java/lang/Long") lv) (S_em : Sta Z Z.heap "java/util/ImmutableCollections" "EMPTY" "Ljava/lang/Object;" (.ref em)) (q_2 : lv[130]? = some (.ref x2)) (q_3 : lv[131]? = some (.ref x3)) (q_5 : lv[133]? = some (.ref x5)) (q_7 : lv[135]? = some (.ref x7)) (q_127 : lv[255]? = some (.ref x127)) (E_x2 : Exa Z Z.heap x2 "java/lang/Long") (E_x3 : Exa Z Z.heap x3 "java/lang/Long") (E_x5 : Exa Z Z.heap x5 "java/lang/Long") (E_x7 : Exa Z Z.heap x7 "java/lang/Long") (E_x127 : Exa Z Z.heap x127 "java/lang/Long") : Met l Z (⟨"com/example/veilrelay/veilrelay/core/derived/SmallDomain", "primeFactors", "(J)Ljava/util/List;"⟩ : MethodName) prog_36_method_14_code 7 (some (.object "java/util/List")) R_pf2 #[(.long (2 : Int64))] h0 n0 (Q_pf2 Z h0 n0 mr dE lc lv em x2 x3 x5 x7 x127) := by
  refine Met.of (plainFor_of_name pn0) (fun m => ef68 m ) ?_
  intro p e s m args below meth c C
  refine G.new C (wd hw 29 rfl) (wd hw 30 rfl) (wd hw 31 rfl) d4_0 (n := 3) rfl (c' := 1) (s' := 3) rfl rfl (by decide) (by decide) ?_
  intro h1 b2 q3 E4 A5 D6
  have g7 : n0 ≤ b2 := Nat.le_trans Z0 (Nat.le_of_eq q3.symm)
  have f8 : h0.size ≤ b2 := Nat.le_trans (Keep.refl h0 []).1 (Nat.le_of_eq q3.symm)
  have O9 := Ob_Al.new hw A5 D6
  have K10 := kext E4
  have OL11 := OLD0.keep K10 all0
  have Z12 : n0 ≤ h1.size := Nat.le_trans Z0 K10.1
  have K13 : Keep h0 h1 [] := Keep.tr (Keep.refl h0 _) K10 all0
  refine G.dup C d4_3 rfl (n := 4) rfl ?_
  refine G.callC C (argsL := []) (yc := (⟨"java/util/ArrayList", "<init>", "()V"⟩ : MethodName)) (a := b2) rfl (wd hw 32 rfl) (wd hw 33 rfl) (wd hw 31 rfl) (wd hw 34 rfl) (by decide) (m_alin l Z a0 hw b2 (0 : Int32) dE h1 n0 Z12 OL11 S_dE O_dE O9 g7) rfl (by decide) (W := 1) rfl (by decide) (c' := 1) (s' := 3) rfl rfl (by decide) (by decide) d4_4 (n := 7) rfl pd0 rfl rfl ?_
  rintro _ h17 ⟨rfl, K14, O15⟩
  have OL18 := OL11.keep K14 (allS g7 all0)
  have Z19 : n0 ≤ h17.size := Nat.le_trans Z12 K14.1
  have K20 : Keep h0 h17 [] := Keep.tr K13 K14 (allS (Or.inr f8) all0)
  refine G.astoreN C d4_7 rfl (l' := #[.val (.long (2 : Int64)), .second, .val (.ref b2), .unset, .unset, .unset, .unset]) rfl (n := 8) rfl ?_
  refine G.lloadN C d4_8 rfl (n := 9) rfl ?_
  refine G.lstoreN C d4_9 (l' := #[.val (.long (2 : Int64)), .second, .val (.ref b2), .val (.long (2 : Int64)), .second, .unset, .unset]) rfl (n := 10) rfl ?_
  refine G.ldc2 C (v := (2 : Int64)) (wd hw 23 rfl) d4_10 (n := 13) rfl ?_
  refine G.lstore C d4_13 (l' := #[.val (.long (2 : Int64)), .second, .val (.ref b2), .val (.long (2 : Int64)), .second, .val (.long (2 : Int64)), .second]) rfl (n := 15) rfl ?_
  refine G.lload C d4_15 rfl (n := 17) rfl ?_
  refine G.lload C d4_17 rfl (n := 19) rfl ?_
  refine G.lmul C d4_19 (n := 20) rfl ?_
  refine G.fold_long (z := (4 : Int64)) (by decide) ?_
  refine G.lloadN C d4_20 rfl (n := 21) rfl ?_
  refine G.lcmp_gt C (A := 4) (B := 2) (by decide) (by decide) d4_21 d4_22 (by decide) (by decide) (n := 25) (n' := 72) rfl (fun c22_21 => ?_) (fun c22_21 => ?_)
  rotate_left
  · exact absurd c22_21 (by decide)
  refine G.lloadN C d4_72 rfl (n := 73) rfl ?_
  refine G.lconst C (v := (1 : Int64)) d4_73 (by decide) (n := 74) rfl ?_
  refine G.lcmp_le C (A := 2) (B := 1) (by decide) (by decide) d4_74 d4_75 (by decide) (by decide) (n := 78) (n' := 89) rfl (fun c75_22 => ?_) (fun c75_22 => ?_)
  · exact absurd c75_22 (by decide)
  refine G.aloadN C d4_78 rfl rfl (n := 79) rfl ?_
  refine G.lloadN C d4_79 rfl (n := 80) rfl ?_
  refine G.callS C (argsL := [(.long (2 : Int64))]) (yc := (⟨"java/lang/Long", "valueOf", "(J)Ljava/lang/Long;"⟩ : MethodName)) (wd hw 53 rfl) (wd hw 54 rfl) (wd hw 55 rfl) (wd hw 56 rfl) (by decide) (m_vo2 l Z a0 hw lc lv x2 h17 n0 Z19 OL18 S_lc O_lc q_2) rfl (by decide) (W := 1) rfl (by decide) (c' := 1) (s' := 3) rfl rfl (by decide) (by decide) d4_80 (n := 83) rfl pd14 rfl rfl ?_
  rintro _ _ ⟨rfl, rfl⟩
  refine G.callI C (argsL := [(.ref x2)]) (yr := (⟨"java/util/List", "add", "(Ljava/lang/Object;)Z"⟩ : MethodName)) (yc := (⟨"java/util/ArrayList", "add", "(Ljava/lang/Object;)Z"⟩ : MethodName)) (a := b2) (O15.1) (wd hw 61 rfl) (wd hw 62 rfl) (wd hw 63 rfl) (wd hw 64 rfl) (wd hw 65 rfl) (wd hw 66 rfl) (wd hw 67 rfl) (wd hw 68 rfl) (wd hw 31 rfl) (wd hw 69 rfl) (by decide) (m_ad1_0 l Z a0 hw b2 (0 : Int32) dE x2 h17 n0 Z19 OL18 S_dE O_dE E_x2 O15 g7) rfl (by decide) (W := 0) rfl (by decide) (c' := 2) (s' := 13) rfl rfl (by decide) (by decide) d4_83 (n := 88) rfl pd15 rfl rfl ?_
  rintro _ h32 ⟨rfl, K25, m29, r30, O26, O27, f28⟩
  have ne33 : b2 ≠ r30 := Nat.ne_of_lt (Nat.lt_of_lt_of_le O15.lt f28)
  have g34 : n0 ≤ r30 := Nat.le_trans Z19 f28
  have f35 : h0.size ≤ r30 := Nat.le_trans K20.1 f28
  have OL36 := OL18.keep K25 (allS g7 all0)
  have Z37 : n0 ≤ h32.size := Nat.le_trans Z19 K25.1
  have K38 : Keep h0 h32 [] := Keep.tr K20 K25 (allS (Or.inr f8) all0)
  refine G.pop C d4_88 rfl (n := 89) rfl ?_
  refine G.aloadN C d4_89 rfl rfl (n := 90) rfl ?_
  refine G.callS C (argsL := [(.ref b2)]) (yc := (⟨"java/util/List", "copyOf", "(Ljava/util/Collection;)Ljava/util/List;"⟩ : MethodName)) (wd hw 96 rfl) (wd hw 97 rfl) (wd hw 98 rfl) (wd hw 99 rfl) (by decide) (m_cpo1 l Z a0 hw em mr r30 b2 m29 x2 h32 n0 Z37 OL36 M_r E_x2 O27 O26 S_em) rfl (by decide) (W := 0) rfl (by decide) (c' := 4) (s' := 16) rfl rfl (by decide) (by decide) d4_90 (n := 93) rfl pd13 rfl rfl ?_
  rintro _ h42 ⟨x39, rfl, K40⟩
  have O43 := O26.keep K40 nin0
  have O44 := O27.keep K40 nin0
  have OL45 := OL36.keep K40 all0
  have Z46 : n0 ≤ h42.size := Nat.le_trans Z37 K40.1
  have K47 : Keep h0 h42 [] := Keep.tr K38 K40 all0
  refine G.areturn C d4_93 rfl rfl rfl (by decide) (by decide) ?_
  exact ⟨_, rfl, K47⟩
theorem ef69 (m : MethodId)  : entryFrame m #[(.long (6 : Int64))] 7 = mkF m 0 #[.val (.long (6 : Int64)), .second, .unset, .unset, .unset, .unset, .unset] [] := by first | (simp [entryFrame, mkF, argsToLocals, Value.category]; done) | rfl
abbrev Q_pf6 (Z : State) (h0 : Heap) (n0 : Nat) (mr : Addr) (dE : Addr) (lc : Addr) (lv : List Value) (em : Addr) (x2 : Addr) (x3 : Addr) (x5 : Addr) (x7 : Addr) (x127 : Addr) : Option Value → Heap → Prop := fun v h' => ∃ x, v = some (.ref x) ∧ Keep h0 h' []
abbrev R_pf6 : Room := { frames := 8, cells := 4, slots := 17, locals := 101 }
set_option maxRecDepth 65536 in
set_option maxHeartbeats 40000000 in
theorem m_pf6 (l : Launch) (Z : State) (a0 : Array Value) (hw : ∀ d ∈ tables_1, d.before a0 Z = true) (mr : Addr) (dE : Addr) (lc : Addr) (lv : List Value) (em : Addr) (x2 : Addr) (x3 : Addr) (x5 : Addr) (x7 : Addr) (x127 : Addr) (h0 : Heap) (n0 : Nat) (Z0 : n0 ≤ h0.size) (OLD0 : Old Z n0 h0) (M_r : MirA Z "[Ljava/lang/Object;" mr) (S_dE : Sta Z Z.heap "java/util/ArrayList" "DEFAULTCAPACITY_EMPTY_ELEMENTDATA" "[Ljava/lang/Object;" (.ref dE)) (O_dE : Refs Z Z.heap dE (.object "java/lang/Object") []) (S_lc : Sta Z Z.heap "java/lang/Long$LongCache" "cache" "[Ljava/lang/Long;" (.ref lc)) (O_lc : Refs Z Z.heap lc (.object "java/lang/Long") lv) (S_em : Sta Z Z.heap "java/util/ImmutableCollections" "EMPTY" "Ljava/lang/Object;" (.ref em)) (q_2 : lv[130]? = some (.ref x2)) (q_3 : lv[131]? = some (.ref x3)) (q_5 : lv[133]? = some (.ref x5)) (q_7 : lv[135]? = some (.ref x7)) (q_127 : lv[255]? = some (.ref x127)) (E_x2 : Exa Z Z.heap x2 "java/lang/Long") (E_x3 : Exa Z Z.heap x3 "java/lang/Long") (E_x5 : Exa Z Z.heap x5 "java/lang/Long") (E_x7 : Exa Z Z.heap x7 "java/lang/Long") (E_x127 : Exa Z Z.heap x127 "java/lang/Long") : Met l Z (⟨"com/example/veilrelay/veilrelay/core/derived/SmallDomain", "primeFactors", "(J)Ljava/util/List;"⟩ : MethodName) prog_36_method_14_code 7 (some (.object "java/util/List")) R_pf6 #[(.long (6 : Int64))] h0 n0 (Q_pf6 Z h0 n0 mr dE lc lv em x2 x3 x5 x7 x127) := by
  refine Met.of (plainFor_of_name pn0) (fun m => ef69 m ) ?_
  intro p e s m args below meth c C
  refine G.new C (wd hw 29 rfl) (wd hw 30 rfl) (wd hw 31 rfl) d4_0 (n := 3) rfl (c' := 1) (s' := 3) rfl rfl (by decide) (by decide) ?_
  intro h1 b2 q3 E4 A5 D6
  have g7 : n0 ≤ b2 := Nat.le_trans Z0 (Nat.le_of_eq q3.symm)
  have f8 : h0.size ≤ b2 := Nat.le_trans (Keep.refl h0 []).1 (Nat.le_of_eq q3.symm)
  have O9 := Ob_Al.new hw A5 D6
  have K10 := kext E4
  have OL11 := OLD0.keep K10 all0
  have Z12 : n0 ≤ h1.size := Nat.le_trans Z0 K10.1
  have K13 : Keep h0 h1 [] := Keep.tr (Keep.refl h0 _) K10 all0
  refine G.dup C d4_3 rfl (n := 4) rfl ?_
  refine G.callC C (argsL := []) (yc := (⟨"java/util/ArrayList", "<init>", "()V"⟩ : MethodName)) (a := b2) rfl (wd hw 32 rfl) (wd hw 33 rfl) (wd hw 31 rfl) (wd hw 34 rfl) (by decide) (m_alin l Z a0 hw b2 (0 : Int32) dE h1 n0 Z12 OL11 S_dE O_dE O9 g7) rfl (by decide) (W := 1) rfl (by decide) (c' := 1) (s' := 3) rfl rfl (by decide) (by decide) d4_4 (n := 7) rfl pd0 rfl rfl ?_
  rintro _ h17 ⟨rfl, K14, O15⟩
  have OL18 := OL11.keep K14 (allS g7 all0)
  have Z19 : n0 ≤ h17.size := Nat.le_trans Z12 K14.1
  have K20 : Keep h0 h17 [] := Keep.tr K13 K14 (allS (Or.inr f8) all0)
  refine G.astoreN C d4_7 rfl (l' := #[.val (.long (6 : Int64)), .second, .val (.ref b2), .unset, .unset, .unset, .unset]) rfl (n := 8) rfl ?_
  refine G.lloadN C d4_8 rfl (n := 9) rfl ?_
  refine G.lstoreN C d4_9 (l' := #[.val (.long (6 : Int64)), .second, .val (.ref b2), .val (.long (6 : Int64)), .second, .unset, .unset]) rfl (n := 10) rfl ?_
  refine G.ldc2 C (v := (2 : Int64)) (wd hw 23 rfl) d4_10 (n := 13) rfl ?_
  refine G.lstore C d4_13 (l' := #[.val (.long (6 : Int64)), .second, .val (.ref b2), .val (.long (6 : Int64)), .second, .val (.long (2 : Int64)), .second]) rfl (n := 15) rfl ?_
  refine G.lload C d4_15 rfl (n := 17) rfl ?_
  refine G.lload C d4_17 rfl (n := 19) rfl ?_
  refine G.lmul C d4_19 (n := 20) rfl ?_
  refine G.fold_long (z := (4 : Int64)) (by decide) ?_
  refine G.lloadN C d4_20 rfl (n := 21) rfl ?_
  refine G.lcmp_gt C (A := 4) (B := 6) (by decide) (by decide) d4_21 d4_22 (by decide) (by decide) (n := 25) (n' := 72) rfl (fun c22_21 => ?_) (fun c22_21 => ?_)
  · exact absurd c22_21 (by decide)
  refine G.lloadN C d4_25 rfl (n := 26) rfl ?_
  refine G.lload C d4_26 rfl (n := 28) rfl ?_
  refine G.lrem C d4_28 (by decide) (n := 29) rfl ?_
  refine G.fold_long (z := (0 : Int64)) (by decide) ?_
  refine G.lconst C (v := (0 : Int64)) d4_29 (by decide) (n := 30) rfl ?_
  refine G.lcmp_ne C (A := 0) (B := 0) (by decide) (by decide) d4_30 d4_31 (by decide) (by decide) (n := 34) (n' := 63) rfl (fun c31_22 c31_22i => ?_) (fun c31_22 c31_22i => ?_)
  · exact absurd c31_22 (by decide)
  refine G.aloadN C d4_34 rfl rfl (n := 35) rfl ?_
  refine G.lload C d4_35 rfl (n := 37) rfl ?_
  refine G.callS C (argsL := [(.long (2 : Int64))]) (yc := (⟨"java/lang/Long", "valueOf", "(J)Ljava/lang/Long;"⟩ : MethodName)) (wd hw 53 rfl) (wd hw 54 rfl) (wd hw 55 rfl) (wd hw 56 rfl) (by decide) (m_vo2 l Z a0 hw lc lv x2 h17 n0 Z19 OL18 S_lc O_lc q_2) rfl (by decide) (W := 1) rfl (by decide) (c' := 1) (s' := 3) rfl rfl (by decide) (by decide) d4_37 (n := 40) rfl pd14 rfl rfl ?_
  rintro _ _ ⟨rfl, rfl⟩
  refine G.callI C (argsL := [(.ref x2)]) (yr := (⟨"java/util/List", "add", "(Ljava/lang/Object;)Z"⟩ : MethodName)) (yc := (⟨"java/util/ArrayList", "add", "(Ljava/lang/Object;)Z"⟩ : MethodName)) (a := b2) (O15.1) (wd hw 61 rfl) (wd hw 62 rfl) (wd hw 63 rfl) (wd hw 64 rfl) (wd hw 65 rfl) (wd hw 66 rfl) (wd hw 67 rfl) (wd hw 68 rfl) (wd hw 31 rfl) (wd hw 69 rfl) (by decide) (m_ad1_0 l Z a0 hw b2 (0 : Int32) dE x2 h17 n0 Z19 OL18 S_dE O_dE E_x2 O15 g7) rfl (by decide) (W := 0) rfl (by decide) (c' := 2) (s' := 13) rfl rfl (by decide) (by decide) d4_40 (n := 45) rfl pd15 rfl rfl ?_
  rintro _ h32 ⟨rfl, K25, m29, r30, O26, O27, f28⟩
  have ne33 : b2 ≠ r30 := Nat.ne_of_lt (Nat.lt_of_lt_of_le O15.lt f28)
  have g34 : n0 ≤ r30 := Nat.le_trans Z19 f28
  have f35 : h0.size ≤ r30 := Nat.le_trans K20.1 f28
  have OL36 := OL18.keep K25 (allS g7 all0)
  have Z37 : n0 ≤ h32.size := Nat.le_trans Z19 K25.1
  have K38 : Keep h0 h32 [] := Keep.tr K20 K25 (allS (Or.inr f8) all0)
  refine G.pop C d4_45 rfl (n := 46) rfl ?_
  refine G.lloadN C d4_46 rfl (n := 47) rfl ?_
  refine G.lload C d4_47 rfl (n := 49) rfl ?_
  refine G.lrem C d4_49 (by decide) (n := 50) rfl ?_
  refine G.fold_long (z := (0 : Int64)) (by decide) ?_
  refine G.lconst C (v := (0 : Int64)) d4_50 (by decide) (n := 51) rfl ?_
  refine G.lcmp_ne C (A := 0) (B := 0) (by decide) (by decide) d4_51 d4_52 (by decide) (by decide) (n := 55) (n' := 63) rfl (fun c52_39 c52_39i => ?_) (fun c52_39 c52_39i => ?_)
  · exact absurd c52_39 (by decide)
  refine G.lloadN C d4_55 rfl (n := 56) rfl ?_
  refine G.lload C d4_56 rfl (n := 58) rfl ?_
  refine G.ldiv C d4_58 (by decide) (n := 59) rfl ?_
  refine G.fold_long (z := (3 : Int64)) (by decide) ?_
  refine G.lstoreN C d4_59 (l' := #[.val (.long (6 : Int64)), .second, .val (.ref b2), .val (.long (3 : Int64)), .second, .val (.long (2 : Int64)), .second]) rfl (n := 60) rfl ?_
  refine G.goto C d4_60 (by decide) (n := 46) (by decide) ?_
  refine G.lloadN C d4_46 rfl (n := 47) rfl ?_
  refine G.lload C d4_47 rfl (n := 49) rfl ?_
  refine G.lrem C d4_49 (by decide) (n := 50) rfl ?_
  refine G.fold_long (z := (1 : Int64)) (by decide) ?_
  refine G.lconst C (v := (0 : Int64)) d4_50 (by decide) (n := 51) rfl ?_
  refine G.lcmp_ne C (A := 1) (B := 0) (by decide) (by decide) d4_51 d4_52 (by decide) (by decide) (n := 55) (n' := 63) rfl (fun c52_40 c52_40i => ?_) (fun c52_40 c52_40i => ?_)
  rotate_left
  · exact absurd c52_40 (by decide)
  refine G.lload C d4_63 rfl (n := 65) rfl ?_
  refine G.lconst C (v := (1 : Int64)) d4_65 (by decide) (n := 66) rfl ?_
  refine G.ladd C d4_66 (n := 67) rfl ?_
  refine G.fold_long (z := (3 : Int64)) (by decide) ?_
  refine G.lstore C d4_67 (l' := #[.val (.long (6 : Int64)), .second, .val (.ref b2), .val (.long (3 : Int64)), .second, .val (.long (3 : Int64)), .second]) rfl (n := 69) rfl ?_
  refine G.goto C d4_69 (by decide) (n := 15) (by decide) ?_
  refine G.lload C d4_15 rfl (n := 17) rfl ?_
  refine G.lload C d4_17 rfl (n := 19) rfl ?_
  refine G.lmul C d4_19 (n := 20) rfl ?_
  refine G.fold_long (z := (9 : Int64)) (by decide) ?_
  refine G.lloadN C d4_20 rfl (n := 21) rfl ?_
  refine G.lcmp_gt C (A := 9) (B := 3) (by decide) (by decide) d4_21 d4_22 (by decide) (by decide) (n := 25) (n' := 72) rfl (fun c22_41 => ?_) (fun c22_41 => ?_)
  rotate_left
  · exact absurd c22_41 (by decide)
  refine G.lloadN C d4_72 rfl (n := 73) rfl ?_
  refine G.lconst C (v := (1 : Int64)) d4_73 (by decide) (n := 74) rfl ?_
  refine G.lcmp_le C (A := 3) (B := 1) (by decide) (by decide) d4_74 d4_75 (by decide) (by decide) (n := 78) (n' := 89) rfl (fun c75_42 => ?_) (fun c75_42 => ?_)
  · exact absurd c75_42 (by decide)
  refine G.aloadN C d4_78 rfl rfl (n := 79) rfl ?_
  refine G.lloadN C d4_79 rfl (n := 80) rfl ?_
  refine G.callS C (argsL := [(.long (3 : Int64))]) (yc := (⟨"java/lang/Long", "valueOf", "(J)Ljava/lang/Long;"⟩ : MethodName)) (wd hw 53 rfl) (wd hw 54 rfl) (wd hw 55 rfl) (wd hw 56 rfl) (by decide) (m_vo3 l Z a0 hw lc lv x3 h32 n0 Z37 OL36 S_lc O_lc q_3) rfl (by decide) (W := 1) rfl (by decide) (c' := 2) (s' := 13) rfl rfl (by decide) (by decide) d4_80 (n := 83) rfl pd14 rfl rfl ?_
  rintro _ _ ⟨rfl, rfl⟩
  refine G.callI C (argsL := [(.ref x3)]) (yr := (⟨"java/util/List", "add", "(Ljava/lang/Object;)Z"⟩ : MethodName)) (yc := (⟨"java/util/ArrayList", "add", "(Ljava/lang/Object;)Z"⟩ : MethodName)) (a := b2) (O26.1) (wd hw 61 rfl) (wd hw 62 rfl) (wd hw 63 rfl) (wd hw 64 rfl) (wd hw 65 rfl) (wd hw 66 rfl) (wd hw 67 rfl) (wd hw 68 rfl) (wd hw 31 rfl) (wd hw 69 rfl) (by decide) (m_ad1_1 l Z a0 hw b2 m29 dE x3 r30 x2 h32 n0 Z37 OL36 S_dE O_dE E_x3 O26 g7 O27 g34 ne33) rfl (by decide) (W := 0) rfl (by decide) (c' := 2) (s' := 13) rfl rfl (by decide) (by decide) d4_83 (n := 88) rfl pd15 rfl rfl ?_
  rintro _ h51 ⟨rfl, K45, m49, O46, O47⟩
  have OL52 := OL36.keep K45 (allS g7 (allS g34 all0))
  have Z53 : n0 ≤ h51.size := Nat.le_trans Z37 K45.1
  have K54 : Keep h0 h51 [] := Keep.tr K38 K45 (allS (Or.inr f8) (allS (Or.inr f35) all0))
  refine G.pop C d4_88 rfl (n := 89) rfl ?_
  refine G.aloadN C d4_89 rfl rfl (n := 90) rfl ?_
  refine G.callS C (argsL := [(.ref b2)]) (yc := (⟨"java/util/List", "copyOf", "(Ljava/util/Collection;)Ljava/util/List;"⟩ : MethodName)) (wd hw 96 rfl) (wd hw 97 rfl) (wd hw 98 rfl) (wd hw 99 rfl) (by decide) (m_cpo2 l Z a0 hw em mr r30 b2 m49 x2 x3 h51 n0 Z53 OL52 M_r E_x2 E_x3 O47 O46 S_em) rfl (by decide) (W := 0) rfl (by decide) (c' := 4) (s' := 17) rfl rfl (by decide) (by decide) d4_90 (n := 93) rfl pd13 rfl rfl ?_
  rintro _ h58 ⟨x55, rfl, K56⟩
  have O59 := O46.keep K56 nin0
  have O60 := O47.keep K56 nin0
  have OL61 := OL52.keep K56 all0
  have Z62 : n0 ≤ h58.size := Nat.le_trans Z53 K56.1
  have K63 : Keep h0 h58 [] := Keep.tr K54 K56 all0
  refine G.areturn C d4_93 rfl rfl rfl (by decide) (by decide) ?_
  exact ⟨_, rfl, K63⟩
theorem ef70 (m : MethodId)  : entryFrame m #[(.long (12 : Int64))] 7 = mkF m 0 #[.val (.long (12 : Int64)), .second, .unset, .unset, .unset, .unset, .unset] [] := by first | (simp [entryFrame, mkF, argsToLocals, Value.category]; done) | rfl
abbrev Q_pf12 (Z : State) (h0 : Heap) (n0 : Nat) (mr : Addr) (dE : Addr) (lc : Addr) (lv : List Value) (em : Addr) (x2 : Addr) (x3 : Addr) (x5 : Addr) (x7 : Addr) (x127 : Addr) : Option Value → Heap → Prop := fun v h' => ∃ x, v = some (.ref x) ∧ Keep h0 h' []
abbrev R_pf12 : Room := { frames := 8, cells := 4, slots := 17, locals := 101 }
set_option maxRecDepth 65536 in
set_option maxHeartbeats 40000000 in
theorem m_pf12 (l : Launch) (Z : State) (a0 : Array Value) (hw : ∀ d ∈ tables_1, d.before a0 Z = true) (mr : Addr) (dE : Addr) (lc : Addr) (lv : List Value) (em : Addr) (x2 : Addr) (x3 : Addr) (x5 : Addr) (x7 : Addr) (x127 : Addr) (h0 : Heap) (n0 : Nat) (Z0 : n0 ≤ h0.size) (OLD0 : Old Z n0 h0) (M_r : MirA Z "[Ljava/lang/Object;" mr) (S_dE : Sta Z Z.heap "java/util/ArrayList" "DEFAULTCAPACITY_EMPTY_ELEMENTDATA" "[Ljava/lang/Object;" (.ref dE)) (O_dE : Refs Z Z.heap dE (.object "java/lang/Object") []) (S_lc : Sta Z Z.heap "java/lang/Long$LongCache" "cache" "[Ljava/lang/Long;" (.ref lc)) (O_lc : Refs Z Z.heap lc (.object "java/lang/Long") lv) (S_em : Sta Z Z.heap "java/util/ImmutableCollections" "EMPTY" "Ljava/lang/Object;" (.ref em)) (q_2 : lv[130]? = some (.ref x2)) (q_3 : lv[131]? = some (.ref x3)) (q_5 : lv[133]? = some (.ref x5)) (q_7 : lv[135]? = some (.ref x7)) (q_127 : lv[255]? = some (.ref x127)) (E_x2 : Exa Z Z.heap x2 "java/lang/Long") (E_x3 : Exa Z Z.heap x3 "java/lang/Long") (E_x5 : Exa Z Z.heap x5 "java/lang/Long") (E_x7 : Exa Z Z.heap x7 "java/lang/Long") (E_x127 : Exa Z Z.heap x127 "java/lang/Long") : Met l Z (⟨"com/example/veilrelay/veilrelay/core/derived/SmallDomain", "primeFactors", "(J)Ljava/util/List;"⟩ : MethodName) prog_36_method_14_code 7 (some (.object "java/util/List")) R_pf12 #[(.long (12 : Int64))] h0 n0 (Q_pf12 Z h0 n0 mr dE lc lv em x2 x3 x5 x7 x127) := by
  refine Met.of (plainFor_of_name pn0) (fun m => ef70 m ) ?_
  intro p e s m args below meth c C
  refine G.new C (wd hw 29 rfl) (wd hw 30 rfl) (wd hw 31 rfl) d4_0 (n := 3) rfl (c' := 1) (s' := 3) rfl rfl (by decide) (by decide) ?_
  intro h1 b2 q3 E4 A5 D6
  have g7 : n0 ≤ b2 := Nat.le_trans Z0 (Nat.le_of_eq q3.symm)
  have f8 : h0.size ≤ b2 := Nat.le_trans (Keep.refl h0 []).1 (Nat.le_of_eq q3.symm)
  have O9 := Ob_Al.new hw A5 D6
  have K10 := kext E4
  have OL11 := OLD0.keep K10 all0
  have Z12 : n0 ≤ h1.size := Nat.le_trans Z0 K10.1
  have K13 : Keep h0 h1 [] := Keep.tr (Keep.refl h0 _) K10 all0
  refine G.dup C d4_3 rfl (n := 4) rfl ?_
  refine G.callC C (argsL := []) (yc := (⟨"java/util/ArrayList", "<init>", "()V"⟩ : MethodName)) (a := b2) rfl (wd hw 32 rfl) (wd hw 33 rfl) (wd hw 31 rfl) (wd hw 34 rfl) (by decide) (m_alin l Z a0 hw b2 (0 : Int32) dE h1 n0 Z12 OL11 S_dE O_dE O9 g7) rfl (by decide) (W := 1) rfl (by decide) (c' := 1) (s' := 3) rfl rfl (by decide) (by decide) d4_4 (n := 7) rfl pd0 rfl rfl ?_
  rintro _ h17 ⟨rfl, K14, O15⟩
  have OL18 := OL11.keep K14 (allS g7 all0)
  have Z19 : n0 ≤ h17.size := Nat.le_trans Z12 K14.1
  have K20 : Keep h0 h17 [] := Keep.tr K13 K14 (allS (Or.inr f8) all0)
  refine G.astoreN C d4_7 rfl (l' := #[.val (.long (12 : Int64)), .second, .val (.ref b2), .unset, .unset, .unset, .unset]) rfl (n := 8) rfl ?_
  refine G.lloadN C d4_8 rfl (n := 9) rfl ?_
  refine G.lstoreN C d4_9 (l' := #[.val (.long (12 : Int64)), .second, .val (.ref b2), .val (.long (12 : Int64)), .second, .unset, .unset]) rfl (n := 10) rfl ?_
  refine G.ldc2 C (v := (2 : Int64)) (wd hw 23 rfl) d4_10 (n := 13) rfl ?_
  refine G.lstore C d4_13 (l' := #[.val (.long (12 : Int64)), .second, .val (.ref b2), .val (.long (12 : Int64)), .second, .val (.long (2 : Int64)), .second]) rfl (n := 15) rfl ?_
  refine G.lload C d4_15 rfl (n := 17) rfl ?_
  refine G.lload C d4_17 rfl (n := 19) rfl ?_
  refine G.lmul C d4_19 (n := 20) rfl ?_
  refine G.fold_long (z := (4 : Int64)) (by decide) ?_
  refine G.lloadN C d4_20 rfl (n := 21) rfl ?_
  refine G.lcmp_gt C (A := 4) (B := 12) (by decide) (by decide) d4_21 d4_22 (by decide) (by decide) (n := 25) (n' := 72) rfl (fun c22_21 => ?_) (fun c22_21 => ?_)
  · exact absurd c22_21 (by decide)
  refine G.lloadN C d4_25 rfl (n := 26) rfl ?_
  refine G.lload C d4_26 rfl (n := 28) rfl ?_
  refine G.lrem C d4_28 (by decide) (n := 29) rfl ?_
  refine G.fold_long (z := (0 : Int64)) (by decide) ?_
  refine G.lconst C (v := (0 : Int64)) d4_29 (by decide) (n := 30) rfl ?_
  refine G.lcmp_ne C (A := 0) (B := 0) (by decide) (by decide) d4_30 d4_31 (by decide) (by decide) (n := 34) (n' := 63) rfl (fun c31_22 c31_22i => ?_) (fun c31_22 c31_22i => ?_)
  · exact absurd c31_22 (by decide)
  refine G.aloadN C d4_34 rfl rfl (n := 35) rfl ?_
  refine G.lload C d4_35 rfl (n := 37) rfl ?_
  refine G.callS C (argsL := [(.long (2 : Int64))]) (yc := (⟨"java/lang/Long", "valueOf", "(J)Ljava/lang/Long;"⟩ : MethodName)) (wd hw 53 rfl) (wd hw 54 rfl) (wd hw 55 rfl) (wd hw 56 rfl) (by decide) (m_vo2 l Z a0 hw lc lv x2 h17 n0 Z19 OL18 S_lc O_lc q_2) rfl (by decide) (W := 1) rfl (by decide) (c' := 1) (s' := 3) rfl rfl (by decide) (by decide) d4_37 (n := 40) rfl pd14 rfl rfl ?_
  rintro _ _ ⟨rfl, rfl⟩
  refine G.callI C (argsL := [(.ref x2)]) (yr := (⟨"java/util/List", "add", "(Ljava/lang/Object;)Z"⟩ : MethodName)) (yc := (⟨"java/util/ArrayList", "add", "(Ljava/lang/Object;)Z"⟩ : MethodName)) (a := b2) (O15.1) (wd hw 61 rfl) (wd hw 62 rfl) (wd hw 63 rfl) (wd hw 64 rfl) (wd hw 65 rfl) (wd hw 66 rfl) (wd hw 67 rfl) (wd hw 68 rfl) (wd hw 31 rfl) (wd hw 69 rfl) (by decide) (m_ad1_0 l Z a0 hw b2 (0 : Int32) dE x2 h17 n0 Z19 OL18 S_dE O_dE E_x2 O15 g7) rfl (by decide) (W := 0) rfl (by decide) (c' := 2) (s' := 13) rfl rfl (by decide) (by decide) d4_40 (n := 45) rfl pd15 rfl rfl ?_
  rintro _ h32 ⟨rfl, K25, m29, r30, O26, O27, f28⟩
  have ne33 : b2 ≠ r30 := Nat.ne_of_lt (Nat.lt_of_lt_of_le O15.lt f28)
  have g34 : n0 ≤ r30 := Nat.le_trans Z19 f28
  have f35 : h0.size ≤ r30 := Nat.le_trans K20.1 f28
  have OL36 := OL18.keep K25 (allS g7 all0)
  have Z37 : n0 ≤ h32.size := Nat.le_trans Z19 K25.1
  have K38 : Keep h0 h32 [] := Keep.tr K20 K25 (allS (Or.inr f8) all0)
  refine G.pop C d4_45 rfl (n := 46) rfl ?_
  refine G.lloadN C d4_46 rfl (n := 47) rfl ?_
  refine G.lload C d4_47 rfl (n := 49) rfl ?_
  refine G.lrem C d4_49 (by decide) (n := 50) rfl ?_
  refine G.fold_long (z := (0 : Int64)) (by decide) ?_
  refine G.lconst C (v := (0 : Int64)) d4_50 (by decide) (n := 51) rfl ?_
  refine G.lcmp_ne C (A := 0) (B := 0) (by decide) (by decide) d4_51 d4_52 (by decide) (by decide) (n := 55) (n' := 63) rfl (fun c52_39 c52_39i => ?_) (fun c52_39 c52_39i => ?_)
  · exact absurd c52_39 (by decide)
  refine G.lloadN C d4_55 rfl (n := 56) rfl ?_
  refine G.lload C d4_56 rfl (n := 58) rfl ?_
  refine G.ldiv C d4_58 (by decide) (n := 59) rfl ?_
  refine G.fold_long (z := (6 : Int64)) (by decide) ?_
  refine G.lstoreN C d4_59 (l' := #[.val (.long (12 : Int64)), .second, .val (.ref b2), .val (.long (6 : Int64)), .second, .val (.long (2 : Int64)), .second]) rfl (n := 60) rfl ?_
  refine G.goto C d4_60 (by decide) (n := 46) (by decide) ?_
  refine G.lloadN C d4_46 rfl (n := 47) rfl ?_
  refine G.lload C d4_47 rfl (n := 49) rfl ?_
  refine G.lrem C d4_49 (by decide) (n := 50) rfl ?_
  refine G.fold_long (z := (0 : Int64)) (by decide) ?_
  refine G.lconst C (v := (0 : Int64)) d4_50 (by decide) (n := 51) rfl ?_
  refine G.lcmp_ne C (A := 0) (B := 0) (by decide) (by decide) d4_51 d4_52 (by decide) (by decide) (n := 55) (n' := 63) rfl (fun c52_40 c52_40i => ?_) (fun c52_40 c52_40i => ?_)
  · exact absurd c52_40 (by decide)
  refine G.lloadN C d4_55 rfl (n := 56) rfl ?_
  refine G.lload C d4_56 rfl (n := 58) rfl ?_
  refine G.ldiv C d4_58 (by decide) (n := 59) rfl ?_
  refine G.fold_long (z := (3 : Int64)) (by decide) ?_
  refine G.lstoreN C d4_59 (l' := #[.val (.long (12 : Int64)), .second, .val (.ref b2), .val (.long (3 : Int64)), .second, .val (.long (2 : Int64)), .second]) rfl (n := 60) rfl ?_
  refine G.goto C d4_60 (by decide) (n := 46) (by decide) ?_
  refine G.lloadN C d4_46 rfl (n := 47) rfl ?_
  refine G.lload C d4_47 rfl (n := 49) rfl ?_
  refine G.lrem C d4_49 (by decide) (n := 50) rfl ?_
  refine G.fold_long (z := (1 : Int64)) (by decide) ?_
  refine G.lconst C (v := (0 : Int64)) d4_50 (by decide) (n := 51) rfl ?_
  refine G.lcmp_ne C (A := 1) (B := 0) (by decide) (by decide) d4_51 d4_52 (by decide) (by decide) (n := 55) (n' := 63) rfl (fun c52_41 c52_41i => ?_) (fun c52_41 c52_41i => ?_)
  rotate_left
  · exact absurd c52_41 (by decide)
  refine G.lload C d4_63 rfl (n := 65) rfl ?_
  refine G.lconst C (v := (1 : Int64)) d4_65 (by decide) (n := 66) rfl ?_
  refine G.ladd C d4_66 (n := 67) rfl ?_
  refine G.fold_long (z := (3 : Int64)) (by decide) ?_
  refine G.lstore C d4_67 (l' := #[.val (.long (12 : Int64)), .second, .val (.ref b2), .val (.long (3 : Int64)), .second, .val (.long (3 : Int64)), .second]) rfl (n := 69) rfl ?_
  refine G.goto C d4_69 (by decide) (n := 15) (by decide) ?_
  refine G.lload C d4_15 rfl (n := 17) rfl ?_
  refine G.lload C d4_17 rfl (n := 19) rfl ?_
  refine G.lmul C d4_19 (n := 20) rfl ?_
  refine G.fold_long (z := (9 : Int64)) (by decide) ?_
  refine G.lloadN C d4_20 rfl (n := 21) rfl ?_
  refine G.lcmp_gt C (A := 9) (B := 3) (by decide) (by decide) d4_21 d4_22 (by decide) (by decide) (n := 25) (n' := 72) rfl (fun c22_42 => ?_) (fun c22_42 => ?_)
  rotate_left
  · exact absurd c22_42 (by decide)
  refine G.lloadN C d4_72 rfl (n := 73) rfl ?_
  refine G.lconst C (v := (1 : Int64)) d4_73 (by decide) (n := 74) rfl ?_
  refine G.lcmp_le C (A := 3) (B := 1) (by decide) (by decide) d4_74 d4_75 (by decide) (by decide) (n := 78) (n' := 89) rfl (fun c75_43 => ?_) (fun c75_43 => ?_)
  · exact absurd c75_43 (by decide)
  refine G.aloadN C d4_78 rfl rfl (n := 79) rfl ?_
  refine G.lloadN C d4_79 rfl (n := 80) rfl ?_
  refine G.callS C (argsL := [(.long (3 : Int64))]) (yc := (⟨"java/lang/Long", "valueOf", "(J)Ljava/lang/Long;"⟩ : MethodName)) (wd hw 53 rfl) (wd hw 54 rfl) (wd hw 55 rfl) (wd hw 56 rfl) (by decide) (m_vo3 l Z a0 hw lc lv x3 h32 n0 Z37 OL36 S_lc O_lc q_3) rfl (by decide) (W := 1) rfl (by decide) (c' := 2) (s' := 13) rfl rfl (by decide) (by decide) d4_80 (n := 83) rfl pd14 rfl rfl ?_
  rintro _ _ ⟨rfl, rfl⟩
  refine G.callI C (argsL := [(.ref x3)]) (yr := (⟨"java/util/List", "add", "(Ljava/lang/Object;)Z"⟩ : MethodName)) (yc := (⟨"java/util/ArrayList", "add", "(Ljava/lang/Object;)Z"⟩ : MethodName)) (a := b2) (O26.1) (wd hw 61 rfl) (wd hw 62 rfl) (wd hw 63 rfl) (wd hw 64 rfl) (wd hw 65 rfl) (wd hw 66 rfl) (wd hw 67 rfl) (wd hw 68 rfl) (wd hw 31 rfl) (wd hw 69 rfl) (by decide) (m_ad1_1 l Z a0 hw b2 m29 dE x3 r30 x2 h32 n0 Z37 OL36 S_dE O_dE E_x3 O26 g7 O27 g34 ne33) rfl (by decide) (W := 0) rfl (by decide) (c' := 2) (s' := 13) rfl rfl (by decide) (by decide) d4_83 (n := 88) rfl pd15 rfl rfl ?_
  rintro _ h52 ⟨rfl, K46, m50, O47, O48⟩
  have OL53 := OL36.keep K46 (allS g7 (allS g34 all0))
  have Z54 : n0 ≤ h52.size := Nat.le_trans Z37 K46.1
  have K55 : Keep h0 h52 [] := Keep.tr K38 K46 (allS (Or.inr f8) (allS (Or.inr f35) all0))
  refine G.pop C d4_88 rfl (n := 89) rfl ?_
  refine G.aloadN C d4_89 rfl rfl (n := 90) rfl ?_
  refine G.callS C (argsL := [(.ref b2)]) (yc := (⟨"java/util/List", "copyOf", "(Ljava/util/Collection;)Ljava/util/List;"⟩ : MethodName)) (wd hw 96 rfl) (wd hw 97 rfl) (wd hw 98 rfl) (wd hw 99 rfl) (by decide) (m_cpo2 l Z a0 hw em mr r30 b2 m50 x2 x3 h52 n0 Z54 OL53 M_r E_x2 E_x3 O48 O47 S_em) rfl (by decide) (W := 0) rfl (by decide) (c' := 4) (s' := 17) rfl rfl (by decide) (by decide) d4_90 (n := 93) rfl pd13 rfl rfl ?_
  rintro _ h59 ⟨x56, rfl, K57⟩
  have O60 := O47.keep K57 nin0
  have O61 := O48.keep K57 nin0
  have OL62 := OL53.keep K57 all0
  have Z63 : n0 ≤ h59.size := Nat.le_trans Z54 K57.1
  have K64 : Keep h0 h59 [] := Keep.tr K55 K57 all0
  refine G.areturn C d4_93 rfl rfl rfl (by decide) (by decide) ?_
  exact ⟨_, rfl, K64⟩
theorem ef71 (m : MethodId)  : entryFrame m #[(.long (30 : Int64))] 7 = mkF m 0 #[.val (.long (30 : Int64)), .second, .unset, .unset, .unset, .unset, .unset] [] := by first | (simp [entryFrame, mkF, argsToLocals, Value.category]; done) | rfl
abbrev Q_pf30 (Z : State) (h0 : Heap) (n0 : Nat) (mr : Addr) (dE : Addr) (lc : Addr) (lv : List Value) (em : Addr) (x2 : Addr) (x3 : Addr) (x5 : Addr) (x7 : Addr) (x127 : Addr) : Option Value → Heap → Prop := fun v h' => ∃ x, v = some (.ref x) ∧ Keep h0 h' []
abbrev R_pf30 : Room := { frames := 9, cells := 5, slots := 21, locals := 115 }
set_option maxRecDepth 65536 in
set_option maxHeartbeats 40000000 in
theorem m_pf30 (l : Launch) (Z : State) (a0 : Array Value) (hw : ∀ d ∈ tables_1, d.before a0 Z = true) (mr : Addr) (dE : Addr) (lc : Addr) (lv : List Value) (em : Addr) (x2 : Addr) (x3 : Addr) (x5 : Addr) (x7 : Addr) (x127 : Addr) (h0 : Heap) (n0 : Nat) (Z0 : n0 ≤ h0.size) (OLD0 : Old Z n0 h0) (M_r : MirA Z "[Ljava/lang/Object;" mr) (S_dE : Sta Z Z.heap "java/util/ArrayList" "DEFAULTCAPACITY_EMPTY_ELEMENTDATA" "[Ljava/lang/Object;" (.ref dE)) (O_dE : Refs Z Z.heap dE (.object "java/lang/Object") []) (S_lc : Sta Z Z.heap "java/lang/Long$LongCache" "cache" "[Ljava/lang/Long;" (.ref lc)) (O_lc : Refs Z Z.heap lc (.object "java/lang/Long") lv) (S_em : Sta Z Z.heap "java/util/ImmutableCollections" "EMPTY" "Ljava/lang/Object;" (.ref em)) (q_2 : lv[130]? = some (.ref x2)) (q_3 : lv[131]? = some (.ref x3)) (q_5 : lv[133]? = some (.ref x5)) (q_7 : lv[135]? = some (.ref x7)) (q_127 : lv[255]? = some (.ref x127)) (E_x2 : Exa Z Z.heap x2 "java/lang/Long") (E_x3 : Exa Z Z.heap x3 "java/lang/Long") (E_x5 : Exa Z Z.heap x5 "java/lang/Long") (E_x7 : Exa Z Z.heap x7 "java/lang/Long") (E_x127 : Exa Z Z.heap x127 "java/lang/Long") : Met l Z (⟨"com/example/veilrelay/veilrelay/core/derived/SmallDomain", "primeFactors", "(J)Ljava/util/List;"⟩ : MethodName) prog_36_method_14_code 7 (some (.object "java/util/List")) R_pf30 #[(.long (30 : Int64))] h0 n0 (Q_pf30 Z h0 n0 mr dE lc lv em x2 x3 x5 x7 x127) := by
  refine Met.of (plainFor_of_name pn0) (fun m => ef71 m ) ?_
  intro p e s m args below meth c C
  refine G.new C (wd hw 29 rfl) (wd hw 30 rfl) (wd hw 31 rfl) d4_0 (n := 3) rfl (c' := 1) (s' := 3) rfl rfl (by decide) (by decide) ?_
  intro h1 b2 q3 E4 A5 D6
  have g7 : n0 ≤ b2 := Nat.le_trans Z0 (Nat.le_of_eq q3.symm)
  have f8 : h0.size ≤ b2 := Nat.le_trans (Keep.refl h0 []).1 (Nat.le_of_eq q3.symm)
  have O9 := Ob_Al.new hw A5 D6
  have K10 := kext E4
  have OL11 := OLD0.keep K10 all0
  have Z12 : n0 ≤ h1.size := Nat.le_trans Z0 K10.1
  have K13 : Keep h0 h1 [] := Keep.tr (Keep.refl h0 _) K10 all0
  refine G.dup C d4_3 rfl (n := 4) rfl ?_
  refine G.callC C (argsL := []) (yc := (⟨"java/util/ArrayList", "<init>", "()V"⟩ : MethodName)) (a := b2) rfl (wd hw 32 rfl) (wd hw 33 rfl) (wd hw 31 rfl) (wd hw 34 rfl) (by decide) (m_alin l Z a0 hw b2 (0 : Int32) dE h1 n0 Z12 OL11 S_dE O_dE O9 g7) rfl (by decide) (W := 1) rfl (by decide) (c' := 1) (s' := 3) rfl rfl (by decide) (by decide) d4_4 (n := 7) rfl pd0 rfl rfl ?_
  rintro _ h17 ⟨rfl, K14, O15⟩
  have OL18 := OL11.keep K14 (allS g7 all0)
  have Z19 : n0 ≤ h17.size := Nat.le_trans Z12 K14.1
  have K20 : Keep h0 h17 [] := Keep.tr K13 K14 (allS (Or.inr f8) all0)
  refine G.astoreN C d4_7 rfl (l' := #[.val (.long (30 : Int64)), .second, .val (.ref b2), .unset, .unset, .unset, .unset]) rfl (n := 8) rfl ?_
  refine G.lloadN C d4_8 rfl (n := 9) rfl ?_
  refine G.lstoreN C d4_9 (l' := #[.val (.long (30 : Int64)), .second, .val (.ref b2), .val (.long (30 : Int64)), .second, .unset, .unset]) rfl (n := 10) rfl ?_
  refine G.ldc2 C (v := (2 : Int64)) (wd hw 23 rfl) d4_10 (n := 13) rfl ?_
  refine G.lstore C d4_13 (l' := #[.val (.long (30 : Int64)), .second, .val (.ref b2), .val (.long (30 : Int64)), .second, .val (.long (2 : Int64)), .second]) rfl (n := 15) rfl ?_
  refine G.lload C d4_15 rfl (n := 17) rfl ?_
  refine G.lload C d4_17 rfl (n := 19) rfl ?_
  refine G.lmul C d4_19 (n := 20) rfl ?_
  refine G.fold_long (z := (4 : Int64)) (by decide) ?_
  refine G.lloadN C d4_20 rfl (n := 21) rfl ?_
  refine G.lcmp_gt C (A := 4) (B := 30) (by decide) (by decide) d4_21 d4_22 (by decide) (by decide) (n := 25) (n' := 72) rfl (fun c22_21 => ?_) (fun c22_21 => ?_)
  · exact absurd c22_21 (by decide)
  refine G.lloadN C d4_25 rfl (n := 26) rfl ?_
  refine G.lload C d4_26 rfl (n := 28) rfl ?_
  refine G.lrem C d4_28 (by decide) (n := 29) rfl ?_
  refine G.fold_long (z := (0 : Int64)) (by decide) ?_
  refine G.lconst C (v := (0 : Int64)) d4_29 (by decide) (n := 30) rfl ?_
  refine G.lcmp_ne C (A := 0) (B := 0) (by decide) (by decide) d4_30 d4_31 (by decide) (by decide) (n := 34) (n' := 63) rfl (fun c31_22 c31_22i => ?_) (fun c31_22 c31_22i => ?_)
  · exact absurd c31_22 (by decide)
  refine G.aloadN C d4_34 rfl rfl (n := 35) rfl ?_
  refine G.lload C d4_35 rfl (n := 37) rfl ?_
  refine G.callS C (argsL := [(.long (2 : Int64))]) (yc := (⟨"java/lang/Long", "valueOf", "(J)Ljava/lang/Long;"⟩ : MethodName)) (wd hw 53 rfl) (wd hw 54 rfl) (wd hw 55 rfl) (wd hw 56 rfl) (by decide) (m_vo2 l Z a0 hw lc lv x2 h17 n0 Z19 OL18 S_lc O_lc q_2) rfl (by decide) (W := 1) rfl (by decide) (c' := 1) (s' := 3) rfl rfl (by decide) (by decide) d4_37 (n := 40) rfl pd14 rfl rfl ?_
  rintro _ _ ⟨rfl, rfl⟩
  refine G.callI C (argsL := [(.ref x2)]) (yr := (⟨"java/util/List", "add", "(Ljava/lang/Object;)Z"⟩ : MethodName)) (yc := (⟨"java/util/ArrayList", "add", "(Ljava/lang/Object;)Z"⟩ : MethodName)) (a := b2) (O15.1) (wd hw 61 rfl) (wd hw 62 rfl) (wd hw 63 rfl) (wd hw 64 rfl) (wd hw 65 rfl) (wd hw 66 rfl) (wd hw 67 rfl) (wd hw 68 rfl) (wd hw 31 rfl) (wd hw 69 rfl) (by decide) (m_ad1_0 l Z a0 hw b2 (0 : Int32) dE x2 h17 n0 Z19 OL18 S_dE O_dE E_x2 O15 g7) rfl (by decide) (W := 0) rfl (by decide) (c' := 2) (s' := 13) rfl rfl (by decide) (by decide) d4_40 (n := 45) rfl pd15 rfl rfl ?_
  rintro _ h32 ⟨rfl, K25, m29, r30, O26, O27, f28⟩
  have ne33 : b2 ≠ r30 := Nat.ne_of_lt (Nat.lt_of_lt_of_le O15.lt f28)
  have g34 : n0 ≤ r30 := Nat.le_trans Z19 f28
  have f35 : h0.size ≤ r30 := Nat.le_trans K20.1 f28
  have OL36 := OL18.keep K25 (allS g7 all0)
  have Z37 : n0 ≤ h32.size := Nat.le_trans Z19 K25.1
  have K38 : Keep h0 h32 [] := Keep.tr K20 K25 (allS (Or.inr f8) all0)
  refine G.pop C d4_45 rfl (n := 46) rfl ?_
  refine G.lloadN C d4_46 rfl (n := 47) rfl ?_
  refine G.lload C d4_47 rfl (n := 49) rfl ?_
  refine G.lrem C d4_49 (by decide) (n := 50) rfl ?_
  refine G.fold_long (z := (0 : Int64)) (by decide) ?_
  refine G.lconst C (v := (0 : Int64)) d4_50 (by decide) (n := 51) rfl ?_
  refine G.lcmp_ne C (A := 0) (B := 0) (by decide) (by decide) d4_51 d4_52 (by decide) (by decide) (n := 55) (n' := 63) rfl (fun c52_39 c52_39i => ?_) (fun c52_39 c52_39i => ?_)
  · exact absurd c52_39 (by decide)
  refine G.lloadN C d4_55 rfl (n := 56) rfl ?_
  refine G.lload C d4_56 rfl (n := 58) rfl ?_
  refine G.ldiv C d4_58 (by decide) (n := 59) rfl ?_
  refine G.fold_long (z := (15 : Int64)) (by decide) ?_
  refine G.lstoreN C d4_59 (l' := #[.val (.long (30 : Int64)), .second, .val (.ref b2), .val (.long (15 : Int64)), .second, .val (.long (2 : Int64)), .second]) rfl (n := 60) rfl ?_
  refine G.goto C d4_60 (by decide) (n := 46) (by decide) ?_
  refine G.lloadN C d4_46 rfl (n := 47) rfl ?_
  refine G.lload C d4_47 rfl (n := 49) rfl ?_
  refine G.lrem C d4_49 (by decide) (n := 50) rfl ?_
  refine G.fold_long (z := (1 : Int64)) (by decide) ?_
  refine G.lconst C (v := (0 : Int64)) d4_50 (by decide) (n := 51) rfl ?_
  refine G.lcmp_ne C (A := 1) (B := 0) (by decide) (by decide) d4_51 d4_52 (by decide) (by decide) (n := 55) (n' := 63) rfl (fun c52_40 c52_40i => ?_) (fun c52_40 c52_40i => ?_)
  rotate_left
  · exact absurd c52_40 (by decide)
  refine G.lload C d4_63 rfl (n := 65) rfl ?_
  refine G.lconst C (v := (1 : Int64)) d4_65 (by decide) (n := 66) rfl ?_
  refine G.ladd C d4_66 (n := 67) rfl ?_
  refine G.fold_long (z := (3 : Int64)) (by decide) ?_
  refine G.lstore C d4_67 (l' := #[.val (.long (30 : Int64)), .second, .val (.ref b2), .val (.long (15 : Int64)), .second, .val (.long (3 : Int64)), .second]) rfl (n := 69) rfl ?_
  refine G.goto C d4_69 (by decide) (n := 15) (by decide) ?_
  refine G.lload C d4_15 rfl (n := 17) rfl ?_
  refine G.lload C d4_17 rfl (n := 19) rfl ?_
  refine G.lmul C d4_19 (n := 20) rfl ?_
  refine G.fold_long (z := (9 : Int64)) (by decide) ?_
  refine G.lloadN C d4_20 rfl (n := 21) rfl ?_
  refine G.lcmp_gt C (A := 9) (B := 15) (by decide) (by decide) d4_21 d4_22 (by decide) (by decide) (n := 25) (n' := 72) rfl (fun c22_41 => ?_) (fun c22_41 => ?_)
  · exact absurd c22_41 (by decide)
  refine G.lloadN C d4_25 rfl (n := 26) rfl ?_
  refine G.lload C d4_26 rfl (n := 28) rfl ?_
  refine G.lrem C d4_28 (by decide) (n := 29) rfl ?_
  refine G.fold_long (z := (0 : Int64)) (by decide) ?_
  refine G.lconst C (v := (0 : Int64)) d4_29 (by decide) (n := 30) rfl ?_
  refine G.lcmp_ne C (A := 0) (B := 0) (by decide) (by decide) d4_30 d4_31 (by decide) (by decide) (n := 34) (n' := 63) rfl (fun c31_42 c31_42i => ?_) (fun c31_42 c31_42i => ?_)
  · exact absurd c31_42 (by decide)
  refine G.aloadN C d4_34 rfl rfl (n := 35) rfl ?_
  refine G.lload C d4_35 rfl (n := 37) rfl ?_
  refine G.callS C (argsL := [(.long (3 : Int64))]) (yc := (⟨"java/lang/Long", "valueOf", "(J)Ljava/lang/Long;"⟩ : MethodName)) (wd hw 53 rfl) (wd hw 54 rfl) (wd hw 55 rfl) (wd hw 56 rfl) (by decide) (m_vo3 l Z a0 hw lc lv x3 h32 n0 Z37 OL36 S_lc O_lc q_3) rfl (by decide) (W := 1) rfl (by decide) (c' := 2) (s' := 13) rfl rfl (by decide) (by decide) d4_37 (n := 40) rfl pd14 rfl rfl ?_
  rintro _ _ ⟨rfl, rfl⟩
  refine G.callI C (argsL := [(.ref x3)]) (yr := (⟨"java/util/List", "add", "(Ljava/lang/Object;)Z"⟩ : MethodName)) (yc := (⟨"java/util/ArrayList", "add", "(Ljava/lang/Object;)Z"⟩ : MethodName)) (a := b2) (O26.1) (wd hw 61 rfl) (wd hw 62 rfl) (wd hw 63 rfl) (wd hw 64 rfl) (wd hw 65 rfl) (wd hw 66 rfl) (wd hw 67 rfl) (wd hw 68 rfl) (wd hw 31 rfl) (wd hw 69 rfl) (by decide) (m_ad1_1 l Z a0 hw b2 m29 dE x3 r30 x2 h32 n0 Z37 OL36 S_dE O_dE E_x3 O26 g7 O27 g34 ne33) rfl (by decide) (W := 0) rfl (by decide) (c' := 2) (s' := 13) rfl rfl (by decide) (by decide) d4_40 (n := 45) rfl pd15 rfl rfl ?_
  rintro _ h51 ⟨rfl, K45, m49, O46, O47⟩
  have OL52 := OL36.keep K45 (allS g7 (allS g34 all0))
  have Z53 : n0 ≤ h51.size := Nat.le_trans Z37 K45.1
  have K54 : Keep h0 h51 [] := Keep.tr K38 K45 (allS (Or.inr f8) (allS (Or.inr f35) all0))
  refine G.pop C d4_45 rfl (n := 46) rfl ?_
  refine G.lloadN C d4_46 rfl (n := 47) rfl ?_
  refine G.lload C d4_47 rfl (n := 49) rfl ?_
  refine G.lrem C d4_49 (by decide) (n := 50) rfl ?_
  refine G.fold_long (z := (0 : Int64)) (by decide) ?_
  refine G.lconst C (v := (0 : Int64)) d4_50 (by decide) (n := 51) rfl ?_
  refine G.lcmp_ne C (A := 0) (B := 0) (by decide) (by decide) d4_51 d4_52 (by decide) (by decide) (n := 55) (n' := 63) rfl (fun c52_55 c52_55i => ?_) (fun c52_55 c52_55i => ?_)
  · exact absurd c52_55 (by decide)
  refine G.lloadN C d4_55 rfl (n := 56) rfl ?_
  refine G.lload C d4_56 rfl (n := 58) rfl ?_
  refine G.ldiv C d4_58 (by decide) (n := 59) rfl ?_
  refine G.fold_long (z := (5 : Int64)) (by decide) ?_
  refine G.lstoreN C d4_59 (l' := #[.val (.long (30 : Int64)), .second, .val (.ref b2), .val (.long (5 : Int64)), .second, .val (.long (3 : Int64)), .second]) rfl (n := 60) rfl ?_
  refine G.goto C d4_60 (by decide) (n := 46) (by decide) ?_
  refine G.lloadN C d4_46 rfl (n := 47) rfl ?_
  refine G.lload C d4_47 rfl (n := 49) rfl ?_
  refine G.lrem C d4_49 (by decide) (n := 50) rfl ?_
  refine G.fold_long (z := (2 : Int64)) (by decide) ?_
  refine G.lconst C (v := (0 : Int64)) d4_50 (by decide) (n := 51) rfl ?_
  refine G.lcmp_ne C (A := 2) (B := 0) (by decide) (by decide) d4_51 d4_52 (by decide) (by decide) (n := 55) (n' := 63) rfl (fun c52_56 c52_56i => ?_) (fun c52_56 c52_56i => ?_)
  rotate_left
  · exact absurd c52_56 (by decide)
  refine G.lload C d4_63 rfl (n := 65) rfl ?_
  refine G.lconst C (v := (1 : Int64)) d4_65 (by decide) (n := 66) rfl ?_
  refine G.ladd C d4_66 (n := 67) rfl ?_
  refine G.fold_long (z := (4 : Int64)) (by decide) ?_
  refine G.lstore C d4_67 (l' := #[.val (.long (30 : Int64)), .second, .val (.ref b2), .val (.long (5 : Int64)), .second, .val (.long (4 : Int64)), .second]) rfl (n := 69) rfl ?_
  refine G.goto C d4_69 (by decide) (n := 15) (by decide) ?_
  refine G.lload C d4_15 rfl (n := 17) rfl ?_
  refine G.lload C d4_17 rfl (n := 19) rfl ?_
  refine G.lmul C d4_19 (n := 20) rfl ?_
  refine G.fold_long (z := (16 : Int64)) (by decide) ?_
  refine G.lloadN C d4_20 rfl (n := 21) rfl ?_
  refine G.lcmp_gt C (A := 16) (B := 5) (by decide) (by decide) d4_21 d4_22 (by decide) (by decide) (n := 25) (n' := 72) rfl (fun c22_57 => ?_) (fun c22_57 => ?_)
  rotate_left
  · exact absurd c22_57 (by decide)
  refine G.lloadN C d4_72 rfl (n := 73) rfl ?_
  refine G.lconst C (v := (1 : Int64)) d4_73 (by decide) (n := 74) rfl ?_
  refine G.lcmp_le C (A := 5) (B := 1) (by decide) (by decide) d4_74 d4_75 (by decide) (by decide) (n := 78) (n' := 89) rfl (fun c75_58 => ?_) (fun c75_58 => ?_)
  · exact absurd c75_58 (by decide)
  refine G.aloadN C d4_78 rfl rfl (n := 79) rfl ?_
  refine G.lloadN C d4_79 rfl (n := 80) rfl ?_
  refine G.callS C (argsL := [(.long (5 : Int64))]) (yc := (⟨"java/lang/Long", "valueOf", "(J)Ljava/lang/Long;"⟩ : MethodName)) (wd hw 53 rfl) (wd hw 54 rfl) (wd hw 55 rfl) (wd hw 56 rfl) (by decide) (m_vo5 l Z a0 hw lc lv x5 h51 n0 Z53 OL52 S_lc O_lc q_5) rfl (by decide) (W := 1) rfl (by decide) (c' := 2) (s' := 13) rfl rfl (by decide) (by decide) d4_80 (n := 83) rfl pd14 rfl rfl ?_
  rintro _ _ ⟨rfl, rfl⟩
  refine G.callI C (argsL := [(.ref x5)]) (yr := (⟨"java/util/List", "add", "(Ljava/lang/Object;)Z"⟩ : MethodName)) (yc := (⟨"java/util/ArrayList", "add", "(Ljava/lang/Object;)Z"⟩ : MethodName)) (a := b2) (O46.1) (wd hw 61 rfl) (wd hw 62 rfl) (wd hw 63 rfl) (wd hw 64 rfl) (wd hw 65 rfl) (wd hw 66 rfl) (wd hw 67 rfl) (wd hw 68 rfl) (wd hw 31 rfl) (wd hw 69 rfl) (by decide) (m_ad1_2 l Z a0 hw b2 m49 dE x5 r30 x2 x3 h51 n0 Z53 OL52 S_dE O_dE E_x5 O46 g7 O47 g34 ne33) rfl (by decide) (W := 0) rfl (by decide) (c' := 2) (s' := 13) rfl rfl (by decide) (by decide) d4_83 (n := 88) rfl pd15 rfl rfl ?_
  rintro _ h67 ⟨rfl, K61, m65, O62, O63⟩
  have OL68 := OL52.keep K61 (allS g7 (allS g34 all0))
  have Z69 : n0 ≤ h67.size := Nat.le_trans Z53 K61.1
  have K70 : Keep h0 h67 [] := Keep.tr K54 K61 (allS (Or.inr f8) (allS (Or.inr f35) all0))
  refine G.pop C d4_88 rfl (n := 89) rfl ?_
  refine G.aloadN C d4_89 rfl rfl (n := 90) rfl ?_
  refine G.callS C (argsL := [(.ref b2)]) (yc := (⟨"java/util/List", "copyOf", "(Ljava/util/Collection;)Ljava/util/List;"⟩ : MethodName)) (wd hw 96 rfl) (wd hw 97 rfl) (wd hw 98 rfl) (wd hw 99 rfl) (by decide) (m_cpo3 l Z a0 hw em mr r30 b2 m65 x2 x3 x5 h67 n0 Z69 OL68 M_r E_x2 E_x3 E_x5 O63 O62 S_em) rfl (by decide) (W := 0) rfl (by decide) (c' := 5) (s' := 21) rfl rfl (by decide) (by decide) d4_90 (n := 93) rfl pd13 rfl rfl ?_
  rintro _ h74 ⟨x71, rfl, K72⟩
  have O75 := O62.keep K72 nin0
  have O76 := O63.keep K72 nin0
  have OL77 := OL68.keep K72 all0
  have Z78 : n0 ≤ h74.size := Nat.le_trans Z69 K72.1
  have K79 : Keep h0 h74 [] := Keep.tr K70 K72 all0
  refine G.areturn C d4_93 rfl rfl rfl (by decide) (by decide) ?_
  exact ⟨_, rfl, K79⟩
theorem ef72 (m : MethodId)  : entryFrame m #[(.long (60 : Int64))] 7 = mkF m 0 #[.val (.long (60 : Int64)), .second, .unset, .unset, .unset, .unset, .unset] [] := by first | (simp [entryFrame, mkF, argsToLocals, Value.category]; done) | rfl
abbrev Q_pf60 (Z : State) (h0 : Heap) (n0 : Nat) (mr : Addr) (dE : Addr) (lc : Addr) (lv : List Value) (em : Addr) (x2 : Addr) (x3 : Addr) (x5 : Addr) (x7 : Addr) (x127 : Addr) : Option Value → Heap → Prop := fun v h' => ∃ x, v = some (.ref x) ∧ Keep h0 h' []
abbrev R_pf60 : Room := { frames := 9, cells := 5, slots := 21, locals := 115 }
set_option maxRecDepth 65536 in
set_option maxHeartbeats 40000000 in
theorem m_pf60 (l : Launch) (Z : State) (a0 : Array Value) (hw : ∀ d ∈ tables_1, d.before a0 Z = true) (mr : Addr) (dE : Addr) (lc : Addr) (lv : List Value) (em : Addr) (x2 : Addr) (x3 : Addr) (x5 : Addr) (x7 : Addr) (x127 : Addr) (h0 : Heap) (n0 : Nat) (Z0 : n0 ≤ h0.size) (OLD0 : Old Z n0 h0) (M_r : MirA Z "[Ljava/lang/Object;" mr) (S_dE : Sta Z Z.heap "java/util/ArrayList" "DEFAULTCAPACITY_EMPTY_ELEMENTDATA" "[Ljava/lang/Object;" (.ref dE)) (O_dE : Refs Z Z.heap dE (.object "java/lang/Object") []) (S_lc : Sta Z Z.heap "java/lang/Long$LongCache" "cache" "[Ljava/lang/Long;" (.ref lc)) (O_lc : Refs Z Z.heap lc (.object "java/lang/Long") lv) (S_em : Sta Z Z.heap "java/util/ImmutableCollections" "EMPTY" "Ljava/lang/Object;" (.ref em)) (q_2 : lv[130]? = some (.ref x2)) (q_3 : lv[131]? = some (.ref x3)) (q_5 : lv[133]? = some (.ref x5)) (q_7 : lv[135]? = some (.ref x7)) (q_127 : lv[255]? = some (.ref x127)) (E_x2 : Exa Z Z.heap x2 "java/lang/Long") (E_x3 : Exa Z Z.heap x3 "java/lang/Long") (E_x5 : Exa Z Z.heap x5 "java/lang/Long") (E_x7 : Exa Z Z.heap x7 "java/lang/Long") (E_x127 : Exa Z Z.heap x127 "java/lang/Long") : Met l Z (⟨"com/example/veilrelay/veilrelay/core/derived/SmallDomain", "primeFactors", "(J)Ljava/util/List;"⟩ : MethodName) prog_36_method_14_code 7 (some (.object "java/util/List")) R_pf60 #[(.long (60 : Int64))] h0 n0 (Q_pf60 Z h0 n0 mr dE lc lv em x2 x3 x5 x7 x127) := by
  refine Met.of (plainFor_of_name pn0) (fun m => ef72 m ) ?_
  intro p e s m args below meth c C
  refine G.new C (wd hw 29 rfl) (wd hw 30 rfl) (wd hw 31 rfl) d4_0 (n := 3) rfl (c' := 1) (s' := 3) rfl rfl (by decide) (by decide) ?_
  intro h1 b2 q3 E4 A5 D6
  have g7 : n0 ≤ b2 := Nat.le_trans Z0 (Nat.le_of_eq q3.symm)
  have f8 : h0.size ≤ b2 := Nat.le_trans (Keep.refl h0 []).1 (Nat.le_of_eq q3.symm)
  have O9 := Ob_Al.new hw A5 D6
  have K10 := kext E4
  have OL11 := OLD0.keep K10 all0
  have Z12 : n0 ≤ h1.size := Nat.le_trans Z0 K10.1
  have K13 : Keep h0 h1 [] := Keep.tr (Keep.refl h0 _) K10 all0
  refine G.dup C d4_3 rfl (n := 4) rfl ?_
  refine G.callC C (argsL := []) (yc := (⟨"java/util/ArrayList", "<init>", "()V"⟩ : MethodName)) (a := b2) rfl (wd hw 32 rfl) (wd hw 33 rfl) (wd hw 31 rfl) (wd hw 34 rfl) (by decide) (m_alin l Z a0 hw b2 (0 : Int32) dE h1 n0 Z12 OL11 S_dE O_dE O9 g7) rfl (by decide) (W := 1) rfl (by decide) (c' := 1) (s' := 3) rfl rfl (by decide) (by decide) d4_4 (n := 7) rfl pd0 rfl rfl ?_
  rintro _ h17 ⟨rfl, K14, O15⟩
  have OL18 := OL11.keep K14 (allS g7 all0)
  have Z19 : n0 ≤ h17.size := Nat.le_trans Z12 K14.1
  have K20 : Keep h0 h17 [] := Keep.tr K13 K14 (allS (Or.inr f8) all0)
  refine G.astoreN C d4_7 rfl (l' := #[.val (.long (60 : Int64)), .second, .val (.ref b2), .unset, .unset, .unset, .unset]) rfl (n := 8) rfl ?_
  refine G.lloadN C d4_8 rfl (n := 9) rfl ?_
  refine G.lstoreN C d4_9 (l' := #[.val (.long (60 : Int64)), .second, .val (.ref b2), .val (.long (60 : Int64)), .second, .unset, .unset]) rfl (n := 10) rfl ?_
  refine G.ldc2 C (v := (2 : Int64)) (wd hw 23 rfl) d4_10 (n := 13) rfl ?_
  refine G.lstore C d4_13 (l' := #[.val (.long (60 : Int64)), .second, .val (.ref b2), .val (.long (60 : Int64)), .second, .val (.long (2 : Int64)), .second]) rfl (n := 15) rfl ?_
  refine G.lload C d4_15 rfl (n := 17) rfl ?_
  refine G.lload C d4_17 rfl (n := 19) rfl ?_
  refine G.lmul C d4_19 (n := 20) rfl ?_
  refine G.fold_long (z := (4 : Int64)) (by decide) ?_
  refine G.lloadN C d4_20 rfl (n := 21) rfl ?_
  refine G.lcmp_gt C (A := 4) (B := 60) (by decide) (by decide) d4_21 d4_22 (by decide) (by decide) (n := 25) (n' := 72) rfl (fun c22_21 => ?_) (fun c22_21 => ?_)
  · exact absurd c22_21 (by decide)
  refine G.lloadN C d4_25 rfl (n := 26) rfl ?_
  refine G.lload C d4_26 rfl (n := 28) rfl ?_
  refine G.lrem C d4_28 (by decide) (n := 29) rfl ?_
  refine G.fold_long (z := (0 : Int64)) (by decide) ?_
  refine G.lconst C (v := (0 : Int64)) d4_29 (by decide) (n := 30) rfl ?_
  refine G.lcmp_ne C (A := 0) (B := 0) (by decide) (by decide) d4_30 d4_31 (by decide) (by decide) (n := 34) (n' := 63) rfl (fun c31_22 c31_22i => ?_) (fun c31_22 c31_22i => ?_)
  · exact absurd c31_22 (by decide)
  refine G.aloadN C d4_34 rfl rfl (n := 35) rfl ?_
  refine G.lload C d4_35 rfl (n := 37) rfl ?_
  refine G.callS C (argsL := [(.long (2 : Int64))]) (yc := (⟨"java/lang/Long", "valueOf", "(J)Ljava/lang/Long;"⟩ : MethodName)) (wd hw 53 rfl) (wd hw 54 rfl) (wd hw 55 rfl) (wd hw 56 rfl) (by decide) (m_vo2 l Z a0 hw lc lv x2 h17 n0 Z19 OL18 S_lc O_lc q_2) rfl (by decide) (W := 1) rfl (by decide) (c' := 1) (s' := 3) rfl rfl (by decide) (by decide) d4_37 (n := 40) rfl pd14 rfl rfl ?_
  rintro _ _ ⟨rfl, rfl⟩
  refine G.callI C (argsL := [(.ref x2)]) (yr := (⟨"java/util/List", "add", "(Ljava/lang/Object;)Z"⟩ : MethodName)) (yc := (⟨"java/util/ArrayList", "add", "(Ljava/lang/Object;)Z"⟩ : MethodName)) (a := b2) (O15.1) (wd hw 61 rfl) (wd hw 62 rfl) (wd hw 63 rfl) (wd hw 64 rfl) (wd hw 65 rfl) (wd hw 66 rfl) (wd hw 67 rfl) (wd hw 68 rfl) (wd hw 31 rfl) (wd hw 69 rfl) (by decide) (m_ad1_0 l Z a0 hw b2 (0 : Int32) dE x2 h17 n0 Z19 OL18 S_dE O_dE E_x2 O15 g7) rfl (by decide) (W := 0) rfl (by decide) (c' := 2) (s' := 13) rfl rfl (by decide) (by decide) d4_40 (n := 45) rfl pd15 rfl rfl ?_
  rintro _ h32 ⟨rfl, K25, m29, r30, O26, O27, f28⟩
  have ne33 : b2 ≠ r30 := Nat.ne_of_lt (Nat.lt_of_lt_of_le O15.lt f28)
  have g34 : n0 ≤ r30 := Nat.le_trans Z19 f28
  have f35 : h0.size ≤ r30 := Nat.le_trans K20.1 f28
  have OL36 := OL18.keep K25 (allS g7 all0)
  have Z37 : n0 ≤ h32.size := Nat.le_trans Z19 K25.1
  have K38 : Keep h0 h32 [] := Keep.tr K20 K25 (allS (Or.inr f8) all0)
  refine G.pop C d4_45 rfl (n := 46) rfl ?_
  refine G.lloadN C d4_46 rfl (n := 47) rfl ?_
  refine G.lload C d4_47 rfl (n := 49) rfl ?_
  refine G.lrem C d4_49 (by decide) (n := 50) rfl ?_
  refine G.fold_long (z := (0 : Int64)) (by decide) ?_
  refine G.lconst C (v := (0 : Int64)) d4_50 (by decide) (n := 51) rfl ?_
  refine G.lcmp_ne C (A := 0) (B := 0) (by decide) (by decide) d4_51 d4_52 (by decide) (by decide) (n := 55) (n' := 63) rfl (fun c52_39 c52_39i => ?_) (fun c52_39 c52_39i => ?_)
  · exact absurd c52_39 (by decide)
  refine G.lloadN C d4_55 rfl (n := 56) rfl ?_
  refine G.lload C d4_56 rfl (n := 58) rfl ?_
  refine G.ldiv C d4_58 (by decide) (n := 59) rfl ?_
  refine G.fold_long (z := (30 : Int64)) (by decide) ?_
  refine G.lstoreN C d4_59 (l' := #[.val (.long (60 : Int64)), .second, .val (.ref b2), .val (.long (30 : Int64)), .second, .val (.long (2 : Int64)), .second]) rfl (n := 60) rfl ?_
  refine G.goto C d4_60 (by decide) (n := 46) (by decide) ?_
  refine G.lloadN C d4_46 rfl (n := 47) rfl ?_
  refine G.lload C d4_47 rfl (n := 49) rfl ?_
  refine G.lrem C d4_49 (by decide) (n := 50) rfl ?_
  refine G.fold_long (z := (0 : Int64)) (by decide) ?_
  refine G.lconst C (v := (0 : Int64)) d4_50 (by decide) (n := 51) rfl ?_
  refine G.lcmp_ne C (A := 0) (B := 0) (by decide) (by decide) d4_51 d4_52 (by decide) (by decide) (n := 55) (n' := 63) rfl (fun c52_40 c52_40i => ?_) (fun c52_40 c52_40i => ?_)
  · exact absurd c52_40 (by decide)
  refine G.lloadN C d4_55 rfl (n := 56) rfl ?_
  refine G.lload C d4_56 rfl (n := 58) rfl ?_
  refine G.ldiv C d4_58 (by decide) (n := 59) rfl ?_
  refine G.fold_long (z := (15 : Int64)) (by decide) ?_
  refine G.lstoreN C d4_59 (l' := #[.val (.long (60 : Int64)), .second, .val (.ref b2), .val (.long (15 : Int64)), .second, .val (.long (2 : Int64)), .second]) rfl (n := 60) rfl ?_
  refine G.goto C d4_60 (by decide) (n := 46) (by decide) ?_
  refine G.lloadN C d4_46 rfl (n := 47) rfl ?_
  refine G.lload C d4_47 rfl (n := 49) rfl ?_
  refine G.lrem C d4_49 (by decide) (n := 50) rfl ?_
  refine G.fold_long (z := (1 : Int64)) (by decide) ?_
  refine G.lconst C (v := (0 : Int64)) d4_50 (by decide) (n := 51) rfl ?_
  refine G.lcmp_ne C (A := 1) (B := 0) (by decide) (by decide) d4_51 d4_52 (by decide) (by decide) (n := 55) (n' := 63) rfl (fun c52_41 c52_41i => ?_) (fun c52_41 c52_41i => ?_)
  rotate_left
  · exact absurd c52_41 (by decide)
  refine G.lload C d4_63 rfl (n := 65) rfl ?_
  refine G.lconst C (v := (1 : Int64)) d4_65 (by decide) (n := 66) rfl ?_
  refine G.ladd C d4_66 (n := 67) rfl ?_
  refine G.fold_long (z := (3 : Int64)) (by decide) ?_
  refine G.lstore C d4_67 (l' := #[.val (.long (60 : Int64)), .second, .val (.ref b2), .val (.long (15 : Int64)), .second, .val (.long (3 : Int64)), .second]) rfl (n := 69) rfl ?_
  refine G.goto C d4_69 (by decide) (n := 15) (by decide) ?_
  refine G.lload C d4_15 rfl (n := 17) rfl ?_
  refine G.lload C d4_17 rfl (n := 19) rfl ?_
  refine G.lmul C d4_19 (n := 20) rfl ?_
  refine G.fold_long (z := (9 : Int64)) (by decide) ?_
  refine G.lloadN C d4_20 rfl (n := 21) rfl ?_
  refine G.lcmp_gt C (A := 9) (B := 15) (by decide) (by decide) d4_21 d4_22 (by decide) (by decide) (n := 25) (n' := 72) rfl (fun c22_42 => ?_) (fun c22_42 => ?_)
  · exact absurd c22_42 (by decide)
  refine G.lloadN C d4_25 rfl (n := 26) rfl ?_
  refine G.lload C d4_26 rfl (n := 28) rfl ?_
  refine G.lrem C d4_28 (by decide) (n := 29) rfl ?_
  refine G.fold_long (z := (0 : Int64)) (by decide) ?_
  refine G.lconst C (v := (0 : Int64)) d4_29 (by decide) (n := 30) rfl ?_
  refine G.lcmp_ne C (A := 0) (B := 0) (by decide) (by decide) d4_30 d4_31 (by decide) (by decide) (n := 34) (n' := 63) rfl (fun c31_43 c31_43i => ?_) (fun c31_43 c31_43i => ?_)
  · exact absurd c31_43 (by decide)
  refine G.aloadN C d4_34 rfl rfl (n := 35) rfl ?_
  refine G.lload C d4_35 rfl (n := 37) rfl ?_
  refine G.callS C (argsL := [(.long (3 : Int64))]) (yc := (⟨"java/lang/Long", "valueOf", "(J)Ljava/lang/Long;"⟩ : MethodName)) (wd hw 53 rfl) (wd hw 54 rfl) (wd hw 55 rfl) (wd hw 56 rfl) (by decide) (m_vo3 l Z a0 hw lc lv x3 h32 n0 Z37 OL36 S_lc O_lc q_3) rfl (by decide) (W := 1) rfl (by decide) (c' := 2) (s' := 13) rfl rfl (by decide) (by decide) d4_37 (n := 40) rfl pd14 rfl rfl ?_
  rintro _ _ ⟨rfl, rfl⟩
  refine G.callI C (argsL := [(.ref x3)]) (yr := (⟨"java/util/List", "add", "(Ljava/lang/Object;)Z"⟩ : MethodName)) (yc := (⟨"java/util/ArrayList", "add", "(Ljava/lang/Object;)Z"⟩ : MethodName)) (a := b2) (O26.1) (wd hw 61 rfl) (wd hw 62 rfl) (wd hw 63 rfl) (wd hw 64 rfl) (wd hw 65 rfl) (wd hw 66 rfl) (wd hw 67 rfl) (wd hw 68 rfl) (wd hw 31 rfl) (wd hw 69 rfl) (by decide) (m_ad1_1 l Z a0 hw b2 m29 dE x3 r30 x2 h32 n0 Z37 OL36 S_dE O_dE E_x3 O26 g7 O27 g34 ne33) rfl (by decide) (W := 0) rfl (by decide) (c' := 2) (s' := 13) rfl rfl (by decide) (by decide) d4_40 (n := 45) rfl pd15 rfl rfl ?_
  rintro _ h52 ⟨rfl, K46, m50, O47, O48⟩
  have OL53 := OL36.keep K46 (allS g7 (allS g34 all0))
  have Z54 : n0 ≤ h52.size := Nat.le_trans Z37 K46.1
  have K55 : Keep h0 h52 [] := Keep.tr K38 K46 (allS (Or.inr f8) (allS (Or.inr f35) all0))
  refine G.pop C d4_45 rfl (n := 46) rfl ?_
  refine G.lloadN C d4_46 rfl (n := 47) rfl ?_
  refine G.lload C d4_47 rfl (n := 49) rfl ?_
  refine G.lrem C d4_49 (by decide) (n := 50) rfl ?_
  refine G.fold_long (z := (0 : Int64)) (by decide) ?_
  refine G.lconst C (v := (0 : Int64)) d4_50 (by decide) (n := 51) rfl ?_
  refine G.lcmp_ne C (A := 0) (B := 0) (by decide) (by decide) d4_51 d4_52 (by decide) (by decide) (n := 55) (n' := 63) rfl (fun c52_56 c52_56i => ?_) (fun c52_56 c52_56i => ?_)
  · exact absurd c52_56 (by decide)
  refine G.lloadN C d4_55 rfl (n := 56) rfl ?_
  refine G.lload C d4_56 rfl (n := 58) rfl ?_
  refine G.ldiv C d4_58 (by decide) (n := 59) rfl ?_
  refine G.fold_long (z := (5 : Int64)) (by decide) ?_
  refine G.lstoreN C d4_59 (l' := #[.val (.long (60 : Int64)), .second, .val (.ref b2), .val (.long (5 : Int64)), .second, .val (.long (3 : Int64)), .second]) rfl (n := 60) rfl ?_
  refine G.goto C d4_60 (by decide) (n := 46) (by decide) ?_
  refine G.lloadN C d4_46 rfl (n := 47) rfl ?_
  refine G.lload C d4_47 rfl (n := 49) rfl ?_
  refine G.lrem C d4_49 (by decide) (n := 50) rfl ?_
  refine G.fold_long (z := (2 : Int64)) (by decide) ?_
  refine G.lconst C (v := (0 : Int64)) d4_50 (by decide) (n := 51) rfl ?_
  refine G.lcmp_ne C (A := 2) (B := 0) (by decide) (by decide) d4_51 d4_52 (by decide) (by decide) (n := 55) (n' := 63) rfl (fun c52_57 c52_57i => ?_) (fun c52_57 c52_57i => ?_)
  rotate_left
  · exact absurd c52_57 (by decide)
  refine G.lload C d4_63 rfl (n := 65) rfl ?_
  refine G.lconst C (v := (1 : Int64)) d4_65 (by decide) (n := 66) rfl ?_
  refine G.ladd C d4_66 (n := 67) rfl ?_
  refine G.fold_long (z := (4 : Int64)) (by decide) ?_
  refine G.lstore C d4_67 (l' := #[.val (.long (60 : Int64)), .second, .val (.ref b2), .val (.long (5 : Int64)), .second, .val (.long (4 : Int64)), .second]) rfl (n := 69) rfl ?_
  refine G.goto C d4_69 (by decide) (n := 15) (by decide) ?_
  refine G.lload C d4_15 rfl (n := 17) rfl ?_
  refine G.lload C d4_17 rfl (n := 19) rfl ?_
  refine G.lmul C d4_19 (n := 20) rfl ?_
  refine G.fold_long (z := (16 : Int64)) (by decide) ?_
  refine G.lloadN C d4_20 rfl (n := 21) rfl ?_
  refine G.lcmp_gt C (A := 16) (B := 5) (by decide) (by decide) d4_21 d4_22 (by decide) (by decide) (n := 25) (n' := 72) rfl (fun c22_58 => ?_) (fun c22_58 => ?_)
  rotate_left
  · exact absurd c22_58 (by decide)
  refine G.lloadN C d4_72 rfl (n := 73) rfl ?_
  refine G.lconst C (v := (1 : Int64)) d4_73 (by decide) (n := 74) rfl ?_
  refine G.lcmp_le C (A := 5) (B := 1) (by decide) (by decide) d4_74 d4_75 (by decide) (by decide) (n := 78) (n' := 89) rfl (fun c75_59 => ?_) (fun c75_59 => ?_)
  · exact absurd c75_59 (by decide)
  refine G.aloadN C d4_78 rfl rfl (n := 79) rfl ?_
  refine G.lloadN C d4_79 rfl (n := 80) rfl ?_
  refine G.callS C (argsL := [(.long (5 : Int64))]) (yc := (⟨"java/lang/Long", "valueOf", "(J)Ljava/lang/Long;"⟩ : MethodName)) (wd hw 53 rfl) (wd hw 54 rfl) (wd hw 55 rfl) (wd hw 56 rfl) (by decide) (m_vo5 l Z a0 hw lc lv x5 h52 n0 Z54 OL53 S_lc O_lc q_5) rfl (by decide) (W := 1) rfl (by decide) (c' := 2) (s' := 13) rfl rfl (by decide) (by decide) d4_80 (n := 83) rfl pd14 rfl rfl ?_
  rintro _ _ ⟨rfl, rfl⟩
  refine G.callI C (argsL := [(.ref x5)]) (yr := (⟨"java/util/List", "add", "(Ljava/lang/Object;)Z"⟩ : MethodName)) (yc := (⟨"java/util/ArrayList", "add", "(Ljava/lang/Object;)Z"⟩ : MethodName)) (a := b2) (O47.1) (wd hw 61 rfl) (wd hw 62 rfl) (wd hw 63 rfl) (wd hw 64 rfl) (wd hw 65 rfl) (wd hw 66 rfl) (wd hw 67 rfl) (wd hw 68 rfl) (wd hw 31 rfl) (wd hw 69 rfl) (by decide) (m_ad1_2 l Z a0 hw b2 m50 dE x5 r30 x2 x3 h52 n0 Z54 OL53 S_dE O_dE E_x5 O47 g7 O48 g34 ne33) rfl (by decide) (W := 0) rfl (by decide) (c' := 2) (s' := 13) rfl rfl (by decide) (by decide) d4_83 (n := 88) rfl pd15 rfl rfl ?_
  rintro _ h68 ⟨rfl, K62, m66, O63, O64⟩
  have OL69 := OL53.keep K62 (allS g7 (allS g34 all0))
  have Z70 : n0 ≤ h68.size := Nat.le_trans Z54 K62.1
  have K71 : Keep h0 h68 [] := Keep.tr K55 K62 (allS (Or.inr f8) (allS (Or.inr f35) all0))
  refine G.pop C d4_88 rfl (n := 89) rfl ?_
  refine G.aloadN C d4_89 rfl rfl (n := 90) rfl ?_
  refine G.callS C (argsL := [(.ref b2)]) (yc := (⟨"java/util/List", "copyOf", "(Ljava/util/Collection;)Ljava/util/List;"⟩ : MethodName)) (wd hw 96 rfl) (wd hw 97 rfl) (wd hw 98 rfl) (wd hw 99 rfl) (by decide) (m_cpo3 l Z a0 hw em mr r30 b2 m66 x2 x3 x5 h68 n0 Z70 OL69 M_r E_x2 E_x3 E_x5 O64 O63 S_em) rfl (by decide) (W := 0) rfl (by decide) (c' := 5) (s' := 21) rfl rfl (by decide) (by decide) d4_90 (n := 93) rfl pd13 rfl rfl ?_
  rintro _ h75 ⟨x72, rfl, K73⟩
  have O76 := O63.keep K73 nin0
  have O77 := O64.keep K73 nin0
  have OL78 := OL69.keep K73 all0
  have Z79 : n0 ≤ h75.size := Nat.le_trans Z70 K73.1
  have K80 : Keep h0 h75 [] := Keep.tr K71 K73 all0
  refine G.areturn C d4_93 rfl rfl rfl (by decide) (by decide) ?_
  exact ⟨_, rfl, K80⟩
theorem ef73 (m : MethodId)  : entryFrame m #[(.long (126 : Int64))] 7 = mkF m 0 #[.val (.long (126 : Int64)), .second, .unset, .unset, .unset, .unset, .unset] [] := by first | (simp [entryFrame, mkF, argsToLocals, Value.category]; done) | rfl
abbrev Q_pf126 (Z : State) (h0 : Heap) (n0 : Nat) (mr : Addr) (dE : Addr) (lc : Addr) (lv : List Value) (em : Addr) (x2 : Addr) (x3 : Addr) (x5 : Addr) (x7 : Addr) (x127 : Addr) : Option Value → Heap → Prop := fun v h' => ∃ x, v = some (.ref x) ∧ Keep h0 h' []
abbrev R_pf126 : Room := { frames := 9, cells := 5, slots := 21, locals := 115 }
set_option maxRecDepth 65536 in
set_option maxHeartbeats 40000000 in
theorem m_pf126 (l : Launch) (Z : State) (a0 : Array Value) (hw : ∀ d ∈ tables_1, d.before a0 Z = true) (mr : Addr) (dE : Addr) (lc : Addr) (lv : List Value) (em : Addr) (x2 : Addr) (x3 : Addr) (x5 : Addr) (x7 : Addr) (x127 : Addr) (h0 : Heap) (n0 : Nat) (Z0 : n0 ≤ h0.size) (OLD0 : Old Z n0 h0) (M_r : MirA Z "[Ljava/lang/Object;" mr) (S_dE : Sta Z Z.heap "java/util/ArrayList" "DEFAULTCAPACITY_EMPTY_ELEMENTDATA" "[Ljava/lang/Object;" (.ref dE)) (O_dE : Refs Z Z.heap dE (.object "java/lang/Object") []) (S_lc : Sta Z Z.heap "java/lang/Long$LongCache" "cache" "[Ljava/lang/Long;" (.ref lc)) (O_lc : Refs Z Z.heap lc (.object "java/lang/Long") lv) (S_em : Sta Z Z.heap "java/util/ImmutableCollections" "EMPTY" "Ljava/lang/Object;" (.ref em)) (q_2 : lv[130]? = some (.ref x2)) (q_3 : lv[131]? = some (.ref x3)) (q_5 : lv[133]? = some (.ref x5)) (q_7 : lv[135]? = some (.ref x7)) (q_127 : lv[255]? = some (.ref x127)) (E_x2 : Exa Z Z.heap x2 "java/lang/Long") (E_x3 : Exa Z Z.heap x3 "java/lang/Long") (E_x5 : Exa Z Z.heap x5 "java/lang/Long") (E_x7 : Exa Z Z.heap x7 "java/lang/Long") (E_x127 : Exa Z Z.heap x127 "java/lang/Long") : Met l Z (⟨"com/example/veilrelay/veilrelay/core/derived/SmallDomain", "primeFactors", "(J)Ljava/util/List;"⟩ : MethodName) prog_36_method_14_code 7 (some (.object "java/util/List")) R_pf126 #[(.long (126 : Int64))] h0 n0 (Q_pf126 Z h0 n0 mr dE lc lv em x2 x3 x5 x7 x127) := by
  refine Met.of (plainFor_of_name pn0) (fun m => ef73 m ) ?_
  intro p e s m args below meth c C
  refine G.new C (wd hw 29 rfl) (wd hw 30 rfl) (wd hw 31 rfl) d4_0 (n := 3) rfl (c' := 1) (s' := 3) rfl rfl (by decide) (by decide) ?_
  intro h1 b2 q3 E4 A5 D6
  have g7 : n0 ≤ b2 := Nat.le_trans Z0 (Nat.le_of_eq q3.symm)
  have f8 : h0.size ≤ b2 := Nat.le_trans (Keep.refl h0 []).1 (Nat.le_of_eq q3.symm)
  have O9 := Ob_Al.new hw A5 D6
  have K10 := kext E4
  have OL11 := OLD0.keep K10 all0
  have Z12 : n0 ≤ h1.size := Nat.le_trans Z0 K10.1
  have K13 : Keep h0 h1 [] := Keep.tr (Keep.refl h0 _) K10 all0
  refine G.dup C d4_3 rfl (n := 4) rfl ?_
  refine G.callC C (argsL := []) (yc := (⟨"java/util/ArrayList", "<init>", "()V"⟩ : MethodName)) (a := b2) rfl (wd hw 32 rfl) (wd hw 33 rfl) (wd hw 31 rfl) (wd hw 34 rfl) (by decide) (m_alin l Z a0 hw b2 (0 : Int32) dE h1 n0 Z12 OL11 S_dE O_dE O9 g7) rfl (by decide) (W := 1) rfl (by decide) (c' := 1) (s' := 3) rfl rfl (by decide) (by decide) d4_4 (n := 7) rfl pd0 rfl rfl ?_
  rintro _ h17 ⟨rfl, K14, O15⟩
  have OL18 := OL11.keep K14 (allS g7 all0)
  have Z19 : n0 ≤ h17.size := Nat.le_trans Z12 K14.1
  have K20 : Keep h0 h17 [] := Keep.tr K13 K14 (allS (Or.inr f8) all0)
  refine G.astoreN C d4_7 rfl (l' := #[.val (.long (126 : Int64)), .second, .val (.ref b2), .unset, .unset, .unset, .unset]) rfl (n := 8) rfl ?_
  refine G.lloadN C d4_8 rfl (n := 9) rfl ?_
  refine G.lstoreN C d4_9 (l' := #[.val (.long (126 : Int64)), .second, .val (.ref b2), .val (.long (126 : Int64)), .second, .unset, .unset]) rfl (n := 10) rfl ?_
  refine G.ldc2 C (v := (2 : Int64)) (wd hw 23 rfl) d4_10 (n := 13) rfl ?_
  refine G.lstore C d4_13 (l' := #[.val (.long (126 : Int64)), .second, .val (.ref b2), .val (.long (126 : Int64)), .second, .val (.long (2 : Int64)), .second]) rfl (n := 15) rfl ?_
  refine G.lload C d4_15 rfl (n := 17) rfl ?_
  refine G.lload C d4_17 rfl (n := 19) rfl ?_
  refine G.lmul C d4_19 (n := 20) rfl ?_
  refine G.fold_long (z := (4 : Int64)) (by decide) ?_
  refine G.lloadN C d4_20 rfl (n := 21) rfl ?_
  refine G.lcmp_gt C (A := 4) (B := 126) (by decide) (by decide) d4_21 d4_22 (by decide) (by decide) (n := 25) (n' := 72) rfl (fun c22_21 => ?_) (fun c22_21 => ?_)
  · exact absurd c22_21 (by decide)
  refine G.lloadN C d4_25 rfl (n := 26) rfl ?_
  refine G.lload C d4_26 rfl (n := 28) rfl ?_
  refine G.lrem C d4_28 (by decide) (n := 29) rfl ?_
  refine G.fold_long (z := (0 : Int64)) (by decide) ?_
  refine G.lconst C (v := (0 : Int64)) d4_29 (by decide) (n := 30) rfl ?_
  refine G.lcmp_ne C (A := 0) (B := 0) (by decide) (by decide) d4_30 d4_31 (by decide) (by decide) (n := 34) (n' := 63) rfl (fun c31_22 c31_22i => ?_) (fun c31_22 c31_22i => ?_)
  · exact absurd c31_22 (by decide)
  refine G.aloadN C d4_34 rfl rfl (n := 35) rfl ?_
  refine G.lload C d4_35 rfl (n := 37) rfl ?_
  refine G.callS C (argsL := [(.long (2 : Int64))]) (yc := (⟨"java/lang/Long", "valueOf", "(J)Ljava/lang/Long;"⟩ : MethodName)) (wd hw 53 rfl) (wd hw 54 rfl) (wd hw 55 rfl) (wd hw 56 rfl) (by decide) (m_vo2 l Z a0 hw lc lv x2 h17 n0 Z19 OL18 S_lc O_lc q_2) rfl (by decide) (W := 1) rfl (by decide) (c' := 1) (s' := 3) rfl rfl (by decide) (by decide) d4_37 (n := 40) rfl pd14 rfl rfl ?_
  rintro _ _ ⟨rfl, rfl⟩
  refine G.callI C (argsL := [(.ref x2)]) (yr := (⟨"java/util/List", "add", "(Ljava/lang/Object;)Z"⟩ : MethodName)) (yc := (⟨"java/util/ArrayList", "add", "(Ljava/lang/Object;)Z"⟩ : MethodName)) (a := b2) (O15.1) (wd hw 61 rfl) (wd hw 62 rfl) (wd hw 63 rfl) (wd hw 64 rfl) (wd hw 65 rfl) (wd hw 66 rfl) (wd hw 67 rfl) (wd hw 68 rfl) (wd hw 31 rfl) (wd hw 69 rfl) (by decide) (m_ad1_0 l Z a0 hw b2 (0 : Int32) dE x2 h17 n0 Z19 OL18 S_dE O_dE E_x2 O15 g7) rfl (by decide) (W := 0) rfl (by decide) (c' := 2) (s' := 13) rfl rfl (by decide) (by decide) d4_40 (n := 45) rfl pd15 rfl rfl ?_
  rintro _ h32 ⟨rfl, K25, m29, r30, O26, O27, f28⟩
  have ne33 : b2 ≠ r30 := Nat.ne_of_lt (Nat.lt_of_lt_of_le O15.lt f28)
  have g34 : n0 ≤ r30 := Nat.le_trans Z19 f28
  have f35 : h0.size ≤ r30 := Nat.le_trans K20.1 f28
  have OL36 := OL18.keep K25 (allS g7 all0)
  have Z37 : n0 ≤ h32.size := Nat.le_trans Z19 K25.1
  have K38 : Keep h0 h32 [] := Keep.tr K20 K25 (allS (Or.inr f8) all0)
  refine G.pop C d4_45 rfl (n := 46) rfl ?_
  refine G.lloadN C d4_46 rfl (n := 47) rfl ?_
  refine G.lload C d4_47 rfl (n := 49) rfl ?_
  refine G.lrem C d4_49 (by decide) (n := 50) rfl ?_
  refine G.fold_long (z := (0 : Int64)) (by decide) ?_
  refine G.lconst C (v := (0 : Int64)) d4_50 (by decide) (n := 51) rfl ?_
  refine G.lcmp_ne C (A := 0) (B := 0) (by decide) (by decide) d4_51 d4_52 (by decide) (by decide) (n := 55) (n' := 63) rfl (fun c52_39 c52_39i => ?_) (fun c52_39 c52_39i => ?_)
  · exact absurd c52_39 (by decide)
  refine G.lloadN C d4_55 rfl (n := 56) rfl ?_
  refine G.lload C d4_56 rfl (n := 58) rfl ?_
  refine G.ldiv C d4_58 (by decide) (n := 59) rfl ?_
  refine G.fold_long (z := (63 : Int64)) (by decide) ?_
  refine G.lstoreN C d4_59 (l' := #[.val (.long (126 : Int64)), .second, .val (.ref b2), .val (.long (63 : Int64)), .second, .val (.long (2 : Int64)), .second]) rfl (n := 60) rfl ?_
  refine G.goto C d4_60 (by decide) (n := 46) (by decide) ?_
  refine G.lloadN C d4_46 rfl (n := 47) rfl ?_
  refine G.lload C d4_47 rfl (n := 49) rfl ?_
  refine G.lrem C d4_49 (by decide) (n := 50) rfl ?_
  refine G.fold_long (z := (1 : Int64)) (by decide) ?_
  refine G.lconst C (v := (0 : Int64)) d4_50 (by decide) (n := 51) rfl ?_
  refine G.lcmp_ne C (A := 1) (B := 0) (by decide) (by decide) d4_51 d4_52 (by decide) (by decide) (n := 55) (n' := 63) rfl (fun c52_40 c52_40i => ?_) (fun c52_40 c52_40i => ?_)
  rotate_left
  · exact absurd c52_40 (by decide)
  refine G.lload C d4_63 rfl (n := 65) rfl ?_
  refine G.lconst C (v := (1 : Int64)) d4_65 (by decide) (n := 66) rfl ?_
  refine G.ladd C d4_66 (n := 67) rfl ?_
  refine G.fold_long (z := (3 : Int64)) (by decide) ?_
  refine G.lstore C d4_67 (l' := #[.val (.long (126 : Int64)), .second, .val (.ref b2), .val (.long (63 : Int64)), .second, .val (.long (3 : Int64)), .second]) rfl (n := 69) rfl ?_
  refine G.goto C d4_69 (by decide) (n := 15) (by decide) ?_
  refine G.lload C d4_15 rfl (n := 17) rfl ?_
  refine G.lload C d4_17 rfl (n := 19) rfl ?_
  refine G.lmul C d4_19 (n := 20) rfl ?_
  refine G.fold_long (z := (9 : Int64)) (by decide) ?_
  refine G.lloadN C d4_20 rfl (n := 21) rfl ?_
  refine G.lcmp_gt C (A := 9) (B := 63) (by decide) (by decide) d4_21 d4_22 (by decide) (by decide) (n := 25) (n' := 72) rfl (fun c22_41 => ?_) (fun c22_41 => ?_)
  · exact absurd c22_41 (by decide)
  refine G.lloadN C d4_25 rfl (n := 26) rfl ?_
  refine G.lload C d4_26 rfl (n := 28) rfl ?_
  refine G.lrem C d4_28 (by decide) (n := 29) rfl ?_
  refine G.fold_long (z := (0 : Int64)) (by decide) ?_
  refine G.lconst C (v := (0 : Int64)) d4_29 (by decide) (n := 30) rfl ?_
  refine G.lcmp_ne C (A := 0) (B := 0) (by decide) (by decide) d4_30 d4_31 (by decide) (by decide) (n := 34) (n' := 63) rfl (fun c31_42 c31_42i => ?_) (fun c31_42 c31_42i => ?_)
  · exact absurd c31_42 (by decide)
  refine G.aloadN C d4_34 rfl rfl (n := 35) rfl ?_
  refine G.lload C d4_35 rfl (n := 37) rfl ?_
  refine G.callS C (argsL := [(.long (3 : Int64))]) (yc := (⟨"java/lang/Long", "valueOf", "(J)Ljava/lang/Long;"⟩ : MethodName)) (wd hw 53 rfl) (wd hw 54 rfl) (wd hw 55 rfl) (wd hw 56 rfl) (by decide) (m_vo3 l Z a0 hw lc lv x3 h32 n0 Z37 OL36 S_lc O_lc q_3) rfl (by decide) (W := 1) rfl (by decide) (c' := 2) (s' := 13) rfl rfl (by decide) (by decide) d4_37 (n := 40) rfl pd14 rfl rfl ?_
  rintro _ _ ⟨rfl, rfl⟩
  refine G.callI C (argsL := [(.ref x3)]) (yr := (⟨"java/util/List", "add", "(Ljava/lang/Object;)Z"⟩ : MethodName)) (yc := (⟨"java/util/ArrayList", "add", "(Ljava/lang/Object;)Z"⟩ : MethodName)) (a := b2) (O26.1) (wd hw 61 rfl) (wd hw 62 rfl) (wd hw 63 rfl) (wd hw 64 rfl) (wd hw 65 rfl) (wd hw 66 rfl) (wd hw 67 rfl) (wd hw 68 rfl) (wd hw 31 rfl) (wd hw 69 rfl) (by decide) (m_ad1_1 l Z a0 hw b2 m29 dE x3 r30 x2 h32 n0 Z37 OL36 S_dE O_dE E_x3 O26 g7 O27 g34 ne33) rfl (by decide) (W := 0) rfl (by decide) (c' := 2) (s' := 13) rfl rfl (by decide) (by decide) d4_40 (n := 45) rfl pd15 rfl rfl ?_
  rintro _ h51 ⟨rfl, K45, m49, O46, O47⟩
  have OL52 := OL36.keep K45 (allS g7 (allS g34 all0))
  have Z53 : n0 ≤ h51.size := Nat.le_trans Z37 K45.1
  have K54 : Keep h0 h51 [] := Keep.tr K38 K45 (allS (Or.inr f8) (allS (Or.inr f35) all0))
  refine G.pop C d4_45 rfl (n := 46) rfl ?_
  refine G.lloadN C d4_46 rfl (n := 47) rfl ?_
  refine G.lload C d4_47 rfl (n := 49) rfl ?_
  refine G.lrem C d4_49 (by decide) (n := 50) rfl ?_
  refine G.fold_long (z := (0 : Int64)) (by decide) ?_
  refine G.lconst C (v := (0 : Int64)) d4_50 (by decide) (n := 51) rfl ?_
  refine G.lcmp_ne C (A := 0) (B := 0) (by decide) (by decide) d4_51 d4_52 (by decide) (by decide) (n := 55) (n' := 63) rfl (fun c52_55 c52_55i => ?_) (fun c52_55 c52_55i => ?_)
  · exact absurd c52_55 (by decide)
  refine G.lloadN C d4_55 rfl (n := 56) rfl ?_
  refine G.lload C d4_56 rfl (n := 58) rfl ?_
  refine G.ldiv C d4_58 (by decide) (n := 59) rfl ?_
  refine G.fold_long (z := (21 : Int64)) (by decide) ?_
  refine G.lstoreN C d4_59 (l' := #[.val (.long (126 : Int64)), .second, .val (.ref b2), .val (.long (21 : Int64)), .second, .val (.long (3 : Int64)), .second]) rfl (n := 60) rfl ?_
  refine G.goto C d4_60 (by decide) (n := 46) (by decide) ?_
  refine G.lloadN C d4_46 rfl (n := 47) rfl ?_
  refine G.lload C d4_47 rfl (n := 49) rfl ?_
  refine G.lrem C d4_49 (by decide) (n := 50) rfl ?_
  refine G.fold_long (z := (0 : Int64)) (by decide) ?_
  refine G.lconst C (v := (0 : Int64)) d4_50 (by decide) (n := 51) rfl ?_
  refine G.lcmp_ne C (A := 0) (B := 0) (by decide) (by decide) d4_51 d4_52 (by decide) (by decide) (n := 55) (n' := 63) rfl (fun c52_56 c52_56i => ?_) (fun c52_56 c52_56i => ?_)
  · exact absurd c52_56 (by decide)
  refine G.lloadN C d4_55 rfl (n := 56) rfl ?_
  refine G.lload C d4_56 rfl (n := 58) rfl ?_
  refine G.ldiv C d4_58 (by decide) (n := 59) rfl ?_
  refine G.fold_long (z := (7 : Int64)) (by decide) ?_
  refine G.lstoreN C d4_59 (l' := #[.val (.long (126 : Int64)), .second, .val (.ref b2), .val (.long (7 : Int64)), .second, .val (.long (3 : Int64)), .second]) rfl (n := 60) rfl ?_
  refine G.goto C d4_60 (by decide) (n := 46) (by decide) ?_
  refine G.lloadN C d4_46 rfl (n := 47) rfl ?_
  refine G.lload C d4_47 rfl (n := 49) rfl ?_
  refine G.lrem C d4_49 (by decide) (n := 50) rfl ?_
  refine G.fold_long (z := (1 : Int64)) (by decide) ?_
  refine G.lconst C (v := (0 : Int64)) d4_50 (by decide) (n := 51) rfl ?_
  refine G.lcmp_ne C (A := 1) (B := 0) (by decide) (by decide) d4_51 d4_52 (by decide) (by decide) (n := 55) (n' := 63) rfl (fun c52_57 c52_57i => ?_) (fun c52_57 c52_57i => ?_)
  rotate_left
  · exact absurd c52_57 (by decide)
  refine G.lload C d4_63 rfl (n := 65) rfl ?_
  refine G.lconst C (v := (1 : Int64)) d4_65 (by decide) (n := 66) rfl ?_
  refine G.ladd C d4_66 (n := 67) rfl ?_
  refine G.fold_long (z := (4 : Int64)) (by decide) ?_
  refine G.lstore C d4_67 (l' := #[.val (.long (126 : Int64)), .second, .val (.ref b2), .val (.long (7 : Int64)), .second, .val (.long (4 : Int64)), .second]) rfl (n := 69) rfl ?_
  refine G.goto C d4_69 (by decide) (n := 15) (by decide) ?_
  refine G.lload C d4_15 rfl (n := 17) rfl ?_
  refine G.lload C d4_17 rfl (n := 19) rfl ?_
  refine G.lmul C d4_19 (n := 20) rfl ?_
  refine G.fold_long (z := (16 : Int64)) (by decide) ?_
  refine G.lloadN C d4_20 rfl (n := 21) rfl ?_
  refine G.lcmp_gt C (A := 16) (B := 7) (by decide) (by decide) d4_21 d4_22 (by decide) (by decide) (n := 25) (n' := 72) rfl (fun c22_58 => ?_) (fun c22_58 => ?_)
  rotate_left
  · exact absurd c22_58 (by decide)
  refine G.lloadN C d4_72 rfl (n := 73) rfl ?_
  refine G.lconst C (v := (1 : Int64)) d4_73 (by decide) (n := 74) rfl ?_
  refine G.lcmp_le C (A := 7) (B := 1) (by decide) (by decide) d4_74 d4_75 (by decide) (by decide) (n := 78) (n' := 89) rfl (fun c75_59 => ?_) (fun c75_59 => ?_)
  · exact absurd c75_59 (by decide)
  refine G.aloadN C d4_78 rfl rfl (n := 79) rfl ?_
  refine G.lloadN C d4_79 rfl (n := 80) rfl ?_
  refine G.callS C (argsL := [(.long (7 : Int64))]) (yc := (⟨"java/lang/Long", "valueOf", "(J)Ljava/lang/Long;"⟩ : MethodName)) (wd hw 53 rfl) (wd hw 54 rfl) (wd hw 55 rfl) (wd hw 56 rfl) (by decide) (m_vo7 l Z a0 hw lc lv x7 h51 n0 Z53 OL52 S_lc O_lc q_7) rfl (by decide) (W := 1) rfl (by decide) (c' := 2) (s' := 13) rfl rfl (by decide) (by decide) d4_80 (n := 83) rfl pd14 rfl rfl ?_
  rintro _ _ ⟨rfl, rfl⟩
  refine G.callI C (argsL := [(.ref x7)]) (yr := (⟨"java/util/List", "add", "(Ljava/lang/Object;)Z"⟩ : MethodName)) (yc := (⟨"java/util/ArrayList", "add", "(Ljava/lang/Object;)Z"⟩ : MethodName)) (a := b2) (O46.1) (wd hw 61 rfl) (wd hw 62 rfl) (wd hw 63 rfl) (wd hw 64 rfl) (wd hw 65 rfl) (wd hw 66 rfl) (wd hw 67 rfl) (wd hw 68 rfl) (wd hw 31 rfl) (wd hw 69 rfl) (by decide) (m_ad1_2 l Z a0 hw b2 m49 dE x7 r30 x2 x3 h51 n0 Z53 OL52 S_dE O_dE E_x7 O46 g7 O47 g34 ne33) rfl (by decide) (W := 0) rfl (by decide) (c' := 2) (s' := 13) rfl rfl (by decide) (by decide) d4_83 (n := 88) rfl pd15 rfl rfl ?_
  rintro _ h68 ⟨rfl, K62, m66, O63, O64⟩
  have OL69 := OL52.keep K62 (allS g7 (allS g34 all0))
  have Z70 : n0 ≤ h68.size := Nat.le_trans Z53 K62.1
  have K71 : Keep h0 h68 [] := Keep.tr K54 K62 (allS (Or.inr f8) (allS (Or.inr f35) all0))
  refine G.pop C d4_88 rfl (n := 89) rfl ?_
  refine G.aloadN C d4_89 rfl rfl (n := 90) rfl ?_
  refine G.callS C (argsL := [(.ref b2)]) (yc := (⟨"java/util/List", "copyOf", "(Ljava/util/Collection;)Ljava/util/List;"⟩ : MethodName)) (wd hw 96 rfl) (wd hw 97 rfl) (wd hw 98 rfl) (wd hw 99 rfl) (by decide) (m_cpo3 l Z a0 hw em mr r30 b2 m66 x2 x3 x7 h68 n0 Z70 OL69 M_r E_x2 E_x3 E_x7 O64 O63 S_em) rfl (by decide) (W := 0) rfl (by decide) (c' := 5) (s' := 21) rfl rfl (by decide) (by decide) d4_90 (n := 93) rfl pd13 rfl rfl ?_
  rintro _ h75 ⟨x72, rfl, K73⟩
  have O76 := O63.keep K73 nin0
  have O77 := O64.keep K73 nin0
  have OL78 := OL69.keep K73 all0
  have Z79 : n0 ≤ h75.size := Nat.le_trans Z70 K73.1
  have K80 : Keep h0 h75 [] := Keep.tr K71 K73 all0
  refine G.areturn C d4_93 rfl rfl rfl (by decide) (by decide) ?_
  exact ⟨_, rfl, K80⟩
theorem ef74 (m : MethodId)  : entryFrame m #[(.long (250 : Int64))] 7 = mkF m 0 #[.val (.long (250 : Int64)), .second, .unset, .unset, .unset, .unset, .unset] [] := by first | (simp [entryFrame, mkF, argsToLocals, Value.category]; done) | rfl
abbrev Q_pf250 (Z : State) (h0 : Heap) (n0 : Nat) (mr : Addr) (dE : Addr) (lc : Addr) (lv : List Value) (em : Addr) (x2 : Addr) (x3 : Addr) (x5 : Addr) (x7 : Addr) (x127 : Addr) : Option Value → Heap → Prop := fun v h' => ∃ x, v = some (.ref x) ∧ Keep h0 h' []
abbrev R_pf250 : Room := { frames := 8, cells := 4, slots := 17, locals := 101 }
set_option maxRecDepth 65536 in
set_option maxHeartbeats 40000000 in
theorem m_pf250 (l : Launch) (Z : State) (a0 : Array Value) (hw : ∀ d ∈ tables_1, d.before a0 Z = true) (mr : Addr) (dE : Addr) (lc : Addr) (lv : List Value) (em : Addr) (x2 : Addr) (x3 : Addr) (x5 : Addr) (x7 : Addr) (x127 : Addr) (h0 : Heap) (n0 : Nat) (Z0 : n0 ≤ h0.size) (OLD0 : Old Z n0 h0) (M_r : MirA Z "[Ljava/lang/Object;" mr) (S_dE : Sta Z Z.heap "java/util/ArrayList" "DEFAULTCAPACITY_EMPTY_ELEMENTDATA" "[Ljava/lang/Object;" (.ref dE)) (O_dE : Refs Z Z.heap dE (.object "java/lang/Object") []) (S_lc : Sta Z Z.heap "java/lang/Long$LongCache" "cache" "[Ljava/lang/Long;" (.ref lc)) (O_lc : Refs Z Z.heap lc (.object "java/lang/Long") lv) (S_em : Sta Z Z.heap "java/util/ImmutableCollections" "EMPTY" "Ljava/lang/Object;" (.ref em)) (q_2 : lv[130]? = some (.ref x2)) (q_3 : lv[131]? = some (.ref x3)) (q_5 : lv[133]? = some (.ref x5)) (q_7 : lv[135]? = some (.ref x7)) (q_127 : lv[255]? = some (.ref x127)) (E_x2 : Exa Z Z.heap x2 "java/lang/Long") (E_x3 : Exa Z Z.heap x3 "java/lang/Long") (E_x5 : Exa Z Z.heap x5 "java/lang/Long") (E_x7 : Exa Z Z.heap x7 "java/lang/Long") (E_x127 : Exa Z Z.heap x127 "java/lang/Long") : Met l Z (⟨"com/example/veilrelay/veilrelay/core/derived/SmallDomain", "primeFactors", "(J)Ljava/util/List;"⟩ : MethodName) prog_36_method_14_code 7 (some (.object "java/util/List")) R_pf250 #[(.long (250 : Int64))] h0 n0 (Q_pf250 Z h0 n0 mr dE lc lv em x2 x3 x5 x7 x127) := by
  refine Met.of (plainFor_of_name pn0) (fun m => ef74 m ) ?_
  intro p e s m args below meth c C
  refine G.new C (wd hw 29 rfl) (wd hw 30 rfl) (wd hw 31 rfl) d4_0 (n := 3) rfl (c' := 1) (s' := 3) rfl rfl (by decide) (by decide) ?_
  intro h1 b2 q3 E4 A5 D6
  have g7 : n0 ≤ b2 := Nat.le_trans Z0 (Nat.le_of_eq q3.symm)
  have f8 : h0.size ≤ b2 := Nat.le_trans (Keep.refl h0 []).1 (Nat.le_of_eq q3.symm)
  have O9 := Ob_Al.new hw A5 D6
  have K10 := kext E4
  have OL11 := OLD0.keep K10 all0
  have Z12 : n0 ≤ h1.size := Nat.le_trans Z0 K10.1
  have K13 : Keep h0 h1 [] := Keep.tr (Keep.refl h0 _) K10 all0
  refine G.dup C d4_3 rfl (n := 4) rfl ?_
  refine G.callC C (argsL := []) (yc := (⟨"java/util/ArrayList", "<init>", "()V"⟩ : MethodName)) (a := b2) rfl (wd hw 32 rfl) (wd hw 33 rfl) (wd hw 31 rfl) (wd hw 34 rfl) (by decide) (m_alin l Z a0 hw b2 (0 : Int32) dE h1 n0 Z12 OL11 S_dE O_dE O9 g7) rfl (by decide) (W := 1) rfl (by decide) (c' := 1) (s' := 3) rfl rfl (by decide) (by decide) d4_4 (n := 7) rfl pd0 rfl rfl ?_
  rintro _ h17 ⟨rfl, K14, O15⟩
  have OL18 := OL11.keep K14 (allS g7 all0)
  have Z19 : n0 ≤ h17.size := Nat.le_trans Z12 K14.1
  have K20 : Keep h0 h17 [] := Keep.tr K13 K14 (allS (Or.inr f8) all0)
  refine G.astoreN C d4_7 rfl (l' := #[.val (.long (250 : Int64)), .second, .val (.ref b2), .unset, .unset, .unset, .unset]) rfl (n := 8) rfl ?_
  refine G.lloadN C d4_8 rfl (n := 9) rfl ?_
  refine G.lstoreN C d4_9 (l' := #[.val (.long (250 : Int64)), .second, .val (.ref b2), .val (.long (250 : Int64)), .second, .unset, .unset]) rfl (n := 10) rfl ?_
  refine G.ldc2 C (v := (2 : Int64)) (wd hw 23 rfl) d4_10 (n := 13) rfl ?_
  refine G.lstore C d4_13 (l' := #[.val (.long (250 : Int64)), .second, .val (.ref b2), .val (.long (250 : Int64)), .second, .val (.long (2 : Int64)), .second]) rfl (n := 15) rfl ?_
  refine G.lload C d4_15 rfl (n := 17) rfl ?_
  refine G.lload C d4_17 rfl (n := 19) rfl ?_
  refine G.lmul C d4_19 (n := 20) rfl ?_
  refine G.fold_long (z := (4 : Int64)) (by decide) ?_
  refine G.lloadN C d4_20 rfl (n := 21) rfl ?_
  refine G.lcmp_gt C (A := 4) (B := 250) (by decide) (by decide) d4_21 d4_22 (by decide) (by decide) (n := 25) (n' := 72) rfl (fun c22_21 => ?_) (fun c22_21 => ?_)
  · exact absurd c22_21 (by decide)
  refine G.lloadN C d4_25 rfl (n := 26) rfl ?_
  refine G.lload C d4_26 rfl (n := 28) rfl ?_
  refine G.lrem C d4_28 (by decide) (n := 29) rfl ?_
  refine G.fold_long (z := (0 : Int64)) (by decide) ?_
  refine G.lconst C (v := (0 : Int64)) d4_29 (by decide) (n := 30) rfl ?_
  refine G.lcmp_ne C (A := 0) (B := 0) (by decide) (by decide) d4_30 d4_31 (by decide) (by decide) (n := 34) (n' := 63) rfl (fun c31_22 c31_22i => ?_) (fun c31_22 c31_22i => ?_)
  · exact absurd c31_22 (by decide)
  refine G.aloadN C d4_34 rfl rfl (n := 35) rfl ?_
  refine G.lload C d4_35 rfl (n := 37) rfl ?_
  refine G.callS C (argsL := [(.long (2 : Int64))]) (yc := (⟨"java/lang/Long", "valueOf", "(J)Ljava/lang/Long;"⟩ : MethodName)) (wd hw 53 rfl) (wd hw 54 rfl) (wd hw 55 rfl) (wd hw 56 rfl) (by decide) (m_vo2 l Z a0 hw lc lv x2 h17 n0 Z19 OL18 S_lc O_lc q_2) rfl (by decide) (W := 1) rfl (by decide) (c' := 1) (s' := 3) rfl rfl (by decide) (by decide) d4_37 (n := 40) rfl pd14 rfl rfl ?_
  rintro _ _ ⟨rfl, rfl⟩
  refine G.callI C (argsL := [(.ref x2)]) (yr := (⟨"java/util/List", "add", "(Ljava/lang/Object;)Z"⟩ : MethodName)) (yc := (⟨"java/util/ArrayList", "add", "(Ljava/lang/Object;)Z"⟩ : MethodName)) (a := b2) (O15.1) (wd hw 61 rfl) (wd hw 62 rfl) (wd hw 63 rfl) (wd hw 64 rfl) (wd hw 65 rfl) (wd hw 66 rfl) (wd hw 67 rfl) (wd hw 68 rfl) (wd hw 31 rfl) (wd hw 69 rfl) (by decide) (m_ad1_0 l Z a0 hw b2 (0 : Int32) dE x2 h17 n0 Z19 OL18 S_dE O_dE E_x2 O15 g7) rfl (by decide) (W := 0) rfl (by decide) (c' := 2) (s' := 13) rfl rfl (by decide) (by decide) d4_40 (n := 45) rfl pd15 rfl rfl ?_
  rintro _ h32 ⟨rfl, K25, m29, r30, O26, O27, f28⟩
  have ne33 : b2 ≠ r30 := Nat.ne_of_lt (Nat.lt_of_lt_of_le O15.lt f28)
  have g34 : n0 ≤ r30 := Nat.le_trans Z19 f28
  have f35 : h0.size ≤ r30 := Nat.le_trans K20.1 f28
  have OL36 := OL18.keep K25 (allS g7 all0)
  have Z37 : n0 ≤ h32.size := Nat.le_trans Z19 K25.1
  have K38 : Keep h0 h32 [] := Keep.tr K20 K25 (allS (Or.inr f8) all0)
  refine G.pop C d4_45 rfl (n := 46) rfl ?_
  refine G.lloadN C d4_46 rfl (n := 47) rfl ?_
  refine G.lload C d4_47 rfl (n := 49) rfl ?_
  refine G.lrem C d4_49 (by decide) (n := 50) rfl ?_
  refine G.fold_long (z := (0 : Int64)) (by decide) ?_
  refine G.lconst C (v := (0 : Int64)) d4_50 (by decide) (n := 51) rfl ?_
  refine G.lcmp_ne C (A := 0) (B := 0) (by decide) (by decide) d4_51 d4_52 (by decide) (by decide) (n := 55) (n' := 63) rfl (fun c52_39 c52_39i => ?_) (fun c52_39 c52_39i => ?_)
  · exact absurd c52_39 (by decide)
  refine G.lloadN C d4_55 rfl (n := 56) rfl ?_
  refine G.lload C d4_56 rfl (n := 58) rfl ?_
  refine G.ldiv C d4_58 (by decide) (n := 59) rfl ?_
  refine G.fold_long (z := (125 : Int64)) (by decide) ?_
  refine G.lstoreN C d4_59 (l' := #[.val (.long (250 : Int64)), .second, .val (.ref b2), .val (.long (125 : Int64)), .second, .val (.long (2 : Int64)), .second]) rfl (n := 60) rfl ?_
  refine G.goto C d4_60 (by decide) (n := 46) (by decide) ?_
  refine G.lloadN C d4_46 rfl (n := 47) rfl ?_
  refine G.lload C d4_47 rfl (n := 49) rfl ?_
  refine G.lrem C d4_49 (by decide) (n := 50) rfl ?_
  refine G.fold_long (z := (1 : Int64)) (by decide) ?_
  refine G.lconst C (v := (0 : Int64)) d4_50 (by decide) (n := 51) rfl ?_
  refine G.lcmp_ne C (A := 1) (B := 0) (by decide) (by decide) d4_51 d4_52 (by decide) (by decide) (n := 55) (n' := 63) rfl (fun c52_40 c52_40i => ?_) (fun c52_40 c52_40i => ?_)
  rotate_left
  · exact absurd c52_40 (by decide)
  refine G.lload C d4_63 rfl (n := 65) rfl ?_
  refine G.lconst C (v := (1 : Int64)) d4_65 (by decide) (n := 66) rfl ?_
  refine G.ladd C d4_66 (n := 67) rfl ?_
  refine G.fold_long (z := (3 : Int64)) (by decide) ?_
  refine G.lstore C d4_67 (l' := #[.val (.long (250 : Int64)), .second, .val (.ref b2), .val (.long (125 : Int64)), .second, .val (.long (3 : Int64)), .second]) rfl (n := 69) rfl ?_
  refine G.goto C d4_69 (by decide) (n := 15) (by decide) ?_
  refine G.lload C d4_15 rfl (n := 17) rfl ?_
  refine G.lload C d4_17 rfl (n := 19) rfl ?_
  refine G.lmul C d4_19 (n := 20) rfl ?_
  refine G.fold_long (z := (9 : Int64)) (by decide) ?_
  refine G.lloadN C d4_20 rfl (n := 21) rfl ?_
  refine G.lcmp_gt C (A := 9) (B := 125) (by decide) (by decide) d4_21 d4_22 (by decide) (by decide) (n := 25) (n' := 72) rfl (fun c22_41 => ?_) (fun c22_41 => ?_)
  · exact absurd c22_41 (by decide)
  refine G.lloadN C d4_25 rfl (n := 26) rfl ?_
  refine G.lload C d4_26 rfl (n := 28) rfl ?_
  refine G.lrem C d4_28 (by decide) (n := 29) rfl ?_
  refine G.fold_long (z := (2 : Int64)) (by decide) ?_
  refine G.lconst C (v := (0 : Int64)) d4_29 (by decide) (n := 30) rfl ?_
  refine G.lcmp_ne C (A := 2) (B := 0) (by decide) (by decide) d4_30 d4_31 (by decide) (by decide) (n := 34) (n' := 63) rfl (fun c31_42 c31_42i => ?_) (fun c31_42 c31_42i => ?_)
  rotate_left
  · exact absurd c31_42 (by decide)
  refine G.lload C d4_63 rfl (n := 65) rfl ?_
  refine G.lconst C (v := (1 : Int64)) d4_65 (by decide) (n := 66) rfl ?_
  refine G.ladd C d4_66 (n := 67) rfl ?_
  refine G.fold_long (z := (4 : Int64)) (by decide) ?_
  refine G.lstore C d4_67 (l' := #[.val (.long (250 : Int64)), .second, .val (.ref b2), .val (.long (125 : Int64)), .second, .val (.long (4 : Int64)), .second]) rfl (n := 69) rfl ?_
  refine G.goto C d4_69 (by decide) (n := 15) (by decide) ?_
  refine G.lload C d4_15 rfl (n := 17) rfl ?_
  refine G.lload C d4_17 rfl (n := 19) rfl ?_
  refine G.lmul C d4_19 (n := 20) rfl ?_
  refine G.fold_long (z := (16 : Int64)) (by decide) ?_
  refine G.lloadN C d4_20 rfl (n := 21) rfl ?_
  refine G.lcmp_gt C (A := 16) (B := 125) (by decide) (by decide) d4_21 d4_22 (by decide) (by decide) (n := 25) (n' := 72) rfl (fun c22_43 => ?_) (fun c22_43 => ?_)
  · exact absurd c22_43 (by decide)
  refine G.lloadN C d4_25 rfl (n := 26) rfl ?_
  refine G.lload C d4_26 rfl (n := 28) rfl ?_
  refine G.lrem C d4_28 (by decide) (n := 29) rfl ?_
  refine G.fold_long (z := (1 : Int64)) (by decide) ?_
  refine G.lconst C (v := (0 : Int64)) d4_29 (by decide) (n := 30) rfl ?_
  refine G.lcmp_ne C (A := 1) (B := 0) (by decide) (by decide) d4_30 d4_31 (by decide) (by decide) (n := 34) (n' := 63) rfl (fun c31_44 c31_44i => ?_) (fun c31_44 c31_44i => ?_)
  rotate_left
  · exact absurd c31_44 (by decide)
  refine G.lload C d4_63 rfl (n := 65) rfl ?_
  refine G.lconst C (v := (1 : Int64)) d4_65 (by decide) (n := 66) rfl ?_
  refine G.ladd C d4_66 (n := 67) rfl ?_
  refine G.fold_long (z := (5 : Int64)) (by decide) ?_
  refine G.lstore C d4_67 (l' := #[.val (.long (250 : Int64)), .second, .val (.ref b2), .val (.long (125 : Int64)), .second, .val (.long (5 : Int64)), .second]) rfl (n := 69) rfl ?_
  refine G.goto C d4_69 (by decide) (n := 15) (by decide) ?_
  refine G.lload C d4_15 rfl (n := 17) rfl ?_
  refine G.lload C d4_17 rfl (n := 19) rfl ?_
  refine G.lmul C d4_19 (n := 20) rfl ?_
  refine G.fold_long (z := (25 : Int64)) (by decide) ?_
  refine G.lloadN C d4_20 rfl (n := 21) rfl ?_
  refine G.lcmp_gt C (A := 25) (B := 125) (by decide) (by decide) d4_21 d4_22 (by decide) (by decide) (n := 25) (n' := 72) rfl (fun c22_45 => ?_) (fun c22_45 => ?_)
  · exact absurd c22_45 (by decide)
  refine G.lloadN C d4_25 rfl (n := 26) rfl ?_
  refine G.lload C d4_26 rfl (n := 28) rfl ?_
  refine G.lrem C d4_28 (by decide) (n := 29) rfl ?_
  refine G.fold_long (z := (0 : Int64)) (by decide) ?_
  refine G.lconst C (v := (0 : Int64)) d4_29 (by decide) (n := 30) rfl ?_
  refine G.lcmp_ne C (A := 0) (B := 0) (by decide) (by decide) d4_30 d4_31 (by decide) (by decide) (n := 34) (n' := 63) rfl (fun c31_46 c31_46i => ?_) (fun c31_46 c31_46i => ?_)
  · exact absurd c31_46 (by decide)
  refine G.aloadN C d4_34 rfl rfl (n := 35) rfl ?_
  refine G.lload C d4_35 rfl (n := 37) rfl ?_
  refine G.callS C (argsL := [(.long (5 : Int64))]) (yc := (⟨"java/lang/Long", "valueOf", "(J)Ljava/lang/Long;"⟩ : MethodName)) (wd hw 53 rfl) (wd hw 54 rfl) (wd hw 55 rfl) (wd hw 56 rfl) (by decide) (m_vo5 l Z a0 hw lc lv x5 h32 n0 Z37 OL36 S_lc O_lc q_5) rfl (by decide) (W := 1) rfl (by decide) (c' := 2) (s' := 13) rfl rfl (by decide) (by decide) d4_37 (n := 40) rfl pd14 rfl rfl ?_
  rintro _ _ ⟨rfl, rfl⟩
  refine G.callI C (argsL := [(.ref x5)]) (yr := (⟨"java/util/List", "add", "(Ljava/lang/Object;)Z"⟩ : MethodName)) (yc := (⟨"java/util/ArrayList", "add", "(Ljava/lang/Object;)Z"⟩ : MethodName)) (a := b2) (O26.1) (wd hw 61 rfl) (wd hw 62 rfl) (wd hw 63 rfl) (wd hw 64 rfl) (wd hw 65 rfl) (wd hw 66 rfl) (wd hw 67 rfl) (wd hw 68 rfl) (wd hw 31 rfl) (wd hw 69 rfl) (by decide) (m_ad1_1 l Z a0 hw b2 m29 dE x5 r30 x2 h32 n0 Z37 OL36 S_dE O_dE E_x5 O26 g7 O27 g34 ne33) rfl (by decide) (W := 0) rfl (by decide) (c' := 2) (s' := 13) rfl rfl (by decide) (by decide) d4_40 (n := 45) rfl pd15 rfl rfl ?_
  rintro _ h55 ⟨rfl, K49, m53, O50, O51⟩
  have OL56 := OL36.keep K49 (allS g7 (allS g34 all0))
  have Z57 : n0 ≤ h55.size := Nat.le_trans Z37 K49.1
  have K58 : Keep h0 h55 [] := Keep.tr K38 K49 (allS (Or.inr f8) (allS (Or.inr f35) all0))
  refine G.pop C d4_45 rfl (n := 46) rfl ?_
  refine G.lloadN C d4_46 rfl (n := 47) rfl ?_
  refine G.lload C d4_47 rfl (n := 49) rfl ?_
  refine G.lrem C d4_49 (by decide) (n := 50) rfl ?_
  refine G.fold_long (z := (0 : Int64)) (by decide) ?_
  refine G.lconst C (v := (0 : Int64)) d4_50 (by decide) (n := 51) rfl ?_
  refine G.lcmp_ne C (A := 0) (B := 0) (by decide) (by decide) d4_51 d4_52 (by decide) (by decide) (n := 55) (n' := 63) rfl (fun c52_59 c52_59i => ?_) (fun c52_59 c52_59i => ?_)
  · exact absurd c52_59 (by decide)
  refine G.lloadN C d4_55 rfl (n := 56) rfl ?_
  refine G.lload C d4_56 rfl (n := 58) rfl ?_
  refine G.ldiv C d4_58 (by decide) (n := 59) rfl ?_
  refine G.fold_long (z := (25 : Int64)) (by decide) ?_
  refine G.lstoreN C d4_59 (l' := #[.val (.long (250 : Int64)), .second, .val (.ref b2), .val (.long (25 : Int64)), .second, .val (.long (5 : Int64)), .second]) rfl (n := 60) rfl ?_
  refine G.goto C d4_60 (by decide) (n := 46) (by decide) ?_
  refine G.lloadN C d4_46 rfl (n := 47) rfl ?_
  refine G.lload C d4_47 rfl (n := 49) rfl ?_
  refine G.lrem C d4_49 (by decide) (n := 50) rfl ?_
  refine G.fold_long (z := (0 : Int64)) (by decide) ?_
  refine G.lconst C (v := (0 : Int64)) d4_50 (by decide) (n := 51) rfl ?_
  refine G.lcmp_ne C (A := 0) (B := 0) (by decide) (by decide) d4_51 d4_52 (by decide) (by decide) (n := 55) (n' := 63) rfl (fun c52_60 c52_60i => ?_) (fun c52_60 c52_60i => ?_)
  · exact absurd c52_60 (by decide)
  refine G.lloadN C d4_55 rfl (n := 56) rfl ?_
  refine G.lload C d4_56 rfl (n := 58) rfl ?_
  refine G.ldiv C d4_58 (by decide) (n := 59) rfl ?_
  refine G.fold_long (z := (5 : Int64)) (by decide) ?_
  refine G.lstoreN C d4_59 (l' := #[.val (.long (250 : Int64)), .second, .val (.ref b2), .val (.long (5 : Int64)), .second, .val (.long (5 : Int64)), .second]) rfl (n := 60) rfl ?_
  refine G.goto C d4_60 (by decide) (n := 46) (by decide) ?_
  refine G.lloadN C d4_46 rfl (n := 47) rfl ?_
  refine G.lload C d4_47 rfl (n := 49) rfl ?_
  refine G.lrem C d4_49 (by decide) (n := 50) rfl ?_
  refine G.fold_long (z := (0 : Int64)) (by decide) ?_
  refine G.lconst C (v := (0 : Int64)) d4_50 (by decide) (n := 51) rfl ?_
  refine G.lcmp_ne C (A := 0) (B := 0) (by decide) (by decide) d4_51 d4_52 (by decide) (by decide) (n := 55) (n' := 63) rfl (fun c52_61 c52_61i => ?_) (fun c52_61 c52_61i => ?_)
  · exact absurd c52_61 (by decide)
  refine G.lloadN C d4_55 rfl (n := 56) rfl ?_
  refine G.lload C d4_56 rfl (n := 58) rfl ?_
  refine G.ldiv C d4_58 (by decide) (n := 59) rfl ?_
  refine G.fold_long (z := (1 : Int64)) (by decide) ?_
  refine G.lstoreN C d4_59 (l' := #[.val (.long (250 : Int64)), .second, .val (.ref b2), .val (.long (1 : Int64)), .second, .val (.long (5 : Int64)), .second]) rfl (n := 60) rfl ?_
  refine G.goto C d4_60 (by decide) (n := 46) (by decide) ?_
  refine G.lloadN C d4_46 rfl (n := 47) rfl ?_
  refine G.lload C d4_47 rfl (n := 49) rfl ?_
  refine G.lrem C d4_49 (by decide) (n := 50) rfl ?_
  refine G.fold_long (z := (1 : Int64)) (by decide) ?_
  refine G.lconst C (v := (0 : Int64)) d4_50 (by decide) (n := 51) rfl ?_
  refine G.lcmp_ne C (A := 1) (B := 0) (by decide) (by decide) d4_51 d4_52 (by decide) (by decide) (n := 55) (n' := 63) rfl (fun c52_62 c52_62i => ?_) (fun c52_62 c52_62i => ?_)
  rotate_left
  · exact absurd c52_62 (by decide)
  refine G.lload C d4_63 rfl (n := 65) rfl ?_
  refine G.lconst C (v := (1 : Int64)) d4_65 (by decide) (n := 66) rfl ?_
  refine G.ladd C d4_66 (n := 67) rfl ?_
  refine G.fold_long (z := (6 : Int64)) (by decide) ?_
  refine G.lstore C d4_67 (l' := #[.val (.long (250 : Int64)), .second, .val (.ref b2), .val (.long (1 : Int64)), .second, .val (.long (6 : Int64)), .second]) rfl (n := 69) rfl ?_
  refine G.goto C d4_69 (by decide) (n := 15) (by decide) ?_
  refine G.lload C d4_15 rfl (n := 17) rfl ?_
  refine G.lload C d4_17 rfl (n := 19) rfl ?_
  refine G.lmul C d4_19 (n := 20) rfl ?_
  refine G.fold_long (z := (36 : Int64)) (by decide) ?_
  refine G.lloadN C d4_20 rfl (n := 21) rfl ?_
  refine G.lcmp_gt C (A := 36) (B := 1) (by decide) (by decide) d4_21 d4_22 (by decide) (by decide) (n := 25) (n' := 72) rfl (fun c22_63 => ?_) (fun c22_63 => ?_)
  rotate_left
  · exact absurd c22_63 (by decide)
  refine G.lloadN C d4_72 rfl (n := 73) rfl ?_
  refine G.lconst C (v := (1 : Int64)) d4_73 (by decide) (n := 74) rfl ?_
  refine G.lcmp_le C (A := 1) (B := 1) (by decide) (by decide) d4_74 d4_75 (by decide) (by decide) (n := 78) (n' := 89) rfl (fun c75_64 => ?_) (fun c75_64 => ?_)
  rotate_left
  · exact absurd c75_64 (by decide)
  refine G.aloadN C d4_89 rfl rfl (n := 90) rfl ?_
  refine G.callS C (argsL := [(.ref b2)]) (yc := (⟨"java/util/List", "copyOf", "(Ljava/util/Collection;)Ljava/util/List;"⟩ : MethodName)) (wd hw 96 rfl) (wd hw 97 rfl) (wd hw 98 rfl) (wd hw 99 rfl) (by decide) (m_cpo2 l Z a0 hw em mr r30 b2 m53 x2 x5 h55 n0 Z57 OL56 M_r E_x2 E_x5 O51 O50 S_em) rfl (by decide) (W := 0) rfl (by decide) (c' := 4) (s' := 17) rfl rfl (by decide) (by decide) d4_90 (n := 93) rfl pd13 rfl rfl ?_
  rintro _ h68 ⟨x65, rfl, K66⟩
  have O69 := O50.keep K66 nin0
  have O70 := O51.keep K66 nin0
  have OL71 := OL56.keep K66 all0
  have Z72 : n0 ≤ h68.size := Nat.le_trans Z57 K66.1
  have K73 : Keep h0 h68 [] := Keep.tr K58 K66 all0
  refine G.areturn C d4_93 rfl rfl rfl (by decide) (by decide) ?_
  exact ⟨_, rfl, K73⟩
theorem ef75 (m : MethodId)  : entryFrame m #[(.long (508 : Int64))] 7 = mkF m 0 #[.val (.long (508 : Int64)), .second, .unset, .unset, .unset, .unset, .unset] [] := by first | (simp [entryFrame, mkF, argsToLocals, Value.category]; done) | rfl
abbrev Q_pf508 (Z : State) (h0 : Heap) (n0 : Nat) (mr : Addr) (dE : Addr) (lc : Addr) (lv : List Value) (em : Addr) (x2 : Addr) (x3 : Addr) (x5 : Addr) (x7 : Addr) (x127 : Addr) : Option Value → Heap → Prop := fun v h' => ∃ x, v = some (.ref x) ∧ Keep h0 h' []
abbrev R_pf508 : Room := { frames := 8, cells := 4, slots := 17, locals := 101 }
set_option maxRecDepth 65536 in
set_option maxHeartbeats 40000000 in
theorem m_pf508 (l : Launch) (Z : State) (a0 : Array Value) (hw : ∀ d ∈ tables_1, d.before a0 Z = true) (mr : Addr) (dE : Addr) (lc : Addr) (lv : List Value) (em : Addr) (x2 : Addr) (x3 : Addr) (x5 : Addr) (x7 : Addr) (x127 : Addr) (h0 : Heap) (n0 : Nat) (Z0 : n0 ≤ h0.size) (OLD0 : Old Z n0 h0) (M_r : MirA Z "[Ljava/lang/Object;" mr) (S_dE : Sta Z Z.heap "java/util/ArrayList" "DEFAULTCAPACITY_EMPTY_ELEMENTDATA" "[Ljava/lang/Object;" (.ref dE)) (O_dE : Refs Z Z.heap dE (.object "java/lang/Object") []) (S_lc : Sta Z Z.heap "java/lang/Long$LongCache" "cache" "[Ljava/lang/Long;" (.ref lc)) (O_lc : Refs Z Z.heap lc (.object "java/lang/Long") lv) (S_em : Sta Z Z.heap "java/util/ImmutableCollections" "EMPTY" "Ljava/lang/Object;" (.ref em)) (q_2 : lv[130]? = some (.ref x2)) (q_3 : lv[131]? = some (.ref x3)) (q_5 : lv[133]? = some (.ref x5)) (q_7 : lv[135]? = some (.ref x7)) (q_127 : lv[255]? = some (.ref x127)) (E_x2 : Exa Z Z.heap x2 "java/lang/Long") (E_x3 : Exa Z Z.heap x3 "java/lang/Long") (E_x5 : Exa Z Z.heap x5 "java/lang/Long") (E_x7 : Exa Z Z.heap x7 "java/lang/Long") (E_x127 : Exa Z Z.heap x127 "java/lang/Long") : Met l Z (⟨"com/example/veilrelay/veilrelay/core/derived/SmallDomain", "primeFactors", "(J)Ljava/util/List;"⟩ : MethodName) prog_36_method_14_code 7 (some (.object "java/util/List")) R_pf508 #[(.long (508 : Int64))] h0 n0 (Q_pf508 Z h0 n0 mr dE lc lv em x2 x3 x5 x7 x127) := by
  refine Met.of (plainFor_of_name pn0) (fun m => ef75 m ) ?_
  intro p e s m args below meth c C
  refine G.new C (wd hw 29 rfl) (wd hw 30 rfl) (wd hw 31 rfl) d4_0 (n := 3) rfl (c' := 1) (s' := 3) rfl rfl (by decide) (by decide) ?_
  intro h1 b2 q3 E4 A5 D6
  have g7 : n0 ≤ b2 := Nat.le_trans Z0 (Nat.le_of_eq q3.symm)
  have f8 : h0.size ≤ b2 := Nat.le_trans (Keep.refl h0 []).1 (Nat.le_of_eq q3.symm)
  have O9 := Ob_Al.new hw A5 D6
  have K10 := kext E4
  have OL11 := OLD0.keep K10 all0
  have Z12 : n0 ≤ h1.size := Nat.le_trans Z0 K10.1
  have K13 : Keep h0 h1 [] := Keep.tr (Keep.refl h0 _) K10 all0
  refine G.dup C d4_3 rfl (n := 4) rfl ?_
  refine G.callC C (argsL := []) (yc := (⟨"java/util/ArrayList", "<init>", "()V"⟩ : MethodName)) (a := b2) rfl (wd hw 32 rfl) (wd hw 33 rfl) (wd hw 31 rfl) (wd hw 34 rfl) (by decide) (m_alin l Z a0 hw b2 (0 : Int32) dE h1 n0 Z12 OL11 S_dE O_dE O9 g7) rfl (by decide) (W := 1) rfl (by decide) (c' := 1) (s' := 3) rfl rfl (by decide) (by decide) d4_4 (n := 7) rfl pd0 rfl rfl ?_
  rintro _ h17 ⟨rfl, K14, O15⟩
  have OL18 := OL11.keep K14 (allS g7 all0)
  have Z19 : n0 ≤ h17.size := Nat.le_trans Z12 K14.1
  have K20 : Keep h0 h17 [] := Keep.tr K13 K14 (allS (Or.inr f8) all0)
  refine G.astoreN C d4_7 rfl (l' := #[.val (.long (508 : Int64)), .second, .val (.ref b2), .unset, .unset, .unset, .unset]) rfl (n := 8) rfl ?_
  refine G.lloadN C d4_8 rfl (n := 9) rfl ?_
  refine G.lstoreN C d4_9 (l' := #[.val (.long (508 : Int64)), .second, .val (.ref b2), .val (.long (508 : Int64)), .second, .unset, .unset]) rfl (n := 10) rfl ?_
  refine G.ldc2 C (v := (2 : Int64)) (wd hw 23 rfl) d4_10 (n := 13) rfl ?_
  refine G.lstore C d4_13 (l' := #[.val (.long (508 : Int64)), .second, .val (.ref b2), .val (.long (508 : Int64)), .second, .val (.long (2 : Int64)), .second]) rfl (n := 15) rfl ?_
  refine G.lload C d4_15 rfl (n := 17) rfl ?_
  refine G.lload C d4_17 rfl (n := 19) rfl ?_
  refine G.lmul C d4_19 (n := 20) rfl ?_
  refine G.fold_long (z := (4 : Int64)) (by decide) ?_
  refine G.lloadN C d4_20 rfl (n := 21) rfl ?_
  refine G.lcmp_gt C (A := 4) (B := 508) (by decide) (by decide) d4_21 d4_22 (by decide) (by decide) (n := 25) (n' := 72) rfl (fun c22_21 => ?_) (fun c22_21 => ?_)
  · exact absurd c22_21 (by decide)
  refine G.lloadN C d4_25 rfl (n := 26) rfl ?_
  refine G.lload C d4_26 rfl (n := 28) rfl ?_
  refine G.lrem C d4_28 (by decide) (n := 29) rfl ?_
  refine G.fold_long (z := (0 : Int64)) (by decide) ?_
  refine G.lconst C (v := (0 : Int64)) d4_29 (by decide) (n := 30) rfl ?_
  refine G.lcmp_ne C (A := 0) (B := 0) (by decide) (by decide) d4_30 d4_31 (by decide) (by decide) (n := 34) (n' := 63) rfl (fun c31_22 c31_22i => ?_) (fun c31_22 c31_22i => ?_)
  · exact absurd c31_22 (by decide)
  refine G.aloadN C d4_34 rfl rfl (n := 35) rfl ?_
  refine G.lload C d4_35 rfl (n := 37) rfl ?_
  refine G.callS C (argsL := [(.long (2 : Int64))]) (yc := (⟨"java/lang/Long", "valueOf", "(J)Ljava/lang/Long;"⟩ : MethodName)) (wd hw 53 rfl) (wd hw 54 rfl) (wd hw 55 rfl) (wd hw 56 rfl) (by decide) (m_vo2 l Z a0 hw lc lv x2 h17 n0 Z19 OL18 S_lc O_lc q_2) rfl (by decide) (W := 1) rfl (by decide) (c' := 1) (s' := 3) rfl rfl (by decide) (by decide) d4_37 (n := 40) rfl pd14 rfl rfl ?_
  rintro _ _ ⟨rfl, rfl⟩
  refine G.callI C (argsL := [(.ref x2)]) (yr := (⟨"java/util/List", "add", "(Ljava/lang/Object;)Z"⟩ : MethodName)) (yc := (⟨"java/util/ArrayList", "add", "(Ljava/lang/Object;)Z"⟩ : MethodName)) (a := b2) (O15.1) (wd hw 61 rfl) (wd hw 62 rfl) (wd hw 63 rfl) (wd hw 64 rfl) (wd hw 65 rfl) (wd hw 66 rfl) (wd hw 67 rfl) (wd hw 68 rfl) (wd hw 31 rfl) (wd hw 69 rfl) (by decide) (m_ad1_0 l Z a0 hw b2 (0 : Int32) dE x2 h17 n0 Z19 OL18 S_dE O_dE E_x2 O15 g7) rfl (by decide) (W := 0) rfl (by decide) (c' := 2) (s' := 13) rfl rfl (by decide) (by decide) d4_40 (n := 45) rfl pd15 rfl rfl ?_
  rintro _ h32 ⟨rfl, K25, m29, r30, O26, O27, f28⟩
  have ne33 : b2 ≠ r30 := Nat.ne_of_lt (Nat.lt_of_lt_of_le O15.lt f28)
  have g34 : n0 ≤ r30 := Nat.le_trans Z19 f28
  have f35 : h0.size ≤ r30 := Nat.le_trans K20.1 f28
  have OL36 := OL18.keep K25 (allS g7 all0)
  have Z37 : n0 ≤ h32.size := Nat.le_trans Z19 K25.1
  have K38 : Keep h0 h32 [] := Keep.tr K20 K25 (allS (Or.inr f8) all0)
  refine G.pop C d4_45 rfl (n := 46) rfl ?_
  refine G.lloadN C d4_46 rfl (n := 47) rfl ?_
  refine G.lload C d4_47 rfl (n := 49) rfl ?_
  refine G.lrem C d4_49 (by decide) (n := 50) rfl ?_
  refine G.fold_long (z := (0 : Int64)) (by decide) ?_
  refine G.lconst C (v := (0 : Int64)) d4_50 (by decide) (n := 51) rfl ?_
  refine G.lcmp_ne C (A := 0) (B := 0) (by decide) (by decide) d4_51 d4_52 (by decide) (by decide) (n := 55) (n' := 63) rfl (fun c52_39 c52_39i => ?_) (fun c52_39 c52_39i => ?_)
  · exact absurd c52_39 (by decide)
  refine G.lloadN C d4_55 rfl (n := 56) rfl ?_
  refine G.lload C d4_56 rfl (n := 58) rfl ?_
  refine G.ldiv C d4_58 (by decide) (n := 59) rfl ?_
  refine G.fold_long (z := (254 : Int64)) (by decide) ?_
  refine G.lstoreN C d4_59 (l' := #[.val (.long (508 : Int64)), .second, .val (.ref b2), .val (.long (254 : Int64)), .second, .val (.long (2 : Int64)), .second]) rfl (n := 60) rfl ?_
  refine G.goto C d4_60 (by decide) (n := 46) (by decide) ?_
  refine G.lloadN C d4_46 rfl (n := 47) rfl ?_
  refine G.lload C d4_47 rfl (n := 49) rfl ?_
  refine G.lrem C d4_49 (by decide) (n := 50) rfl ?_
  refine G.fold_long (z := (0 : Int64)) (by decide) ?_
  refine G.lconst C (v := (0 : Int64)) d4_50 (by decide) (n := 51) rfl ?_
  refine G.lcmp_ne C (A := 0) (B := 0) (by decide) (by decide) d4_51 d4_52 (by decide) (by decide) (n := 55) (n' := 63) rfl (fun c52_40 c52_40i => ?_) (fun c52_40 c52_40i => ?_)
  · exact absurd c52_40 (by decide)
  refine G.lloadN C d4_55 rfl (n := 56) rfl ?_
  refine G.lload C d4_56 rfl (n := 58) rfl ?_
  refine G.ldiv C d4_58 (by decide) (n := 59) rfl ?_
  refine G.fold_long (z := (127 : Int64)) (by decide) ?_
  refine G.lstoreN C d4_59 (l' := #[.val (.long (508 : Int64)), .second, .val (.ref b2), .val (.long (127 : Int64)), .second, .val (.long (2 : Int64)), .second]) rfl (n := 60) rfl ?_
  refine G.goto C d4_60 (by decide) (n := 46) (by decide) ?_
  refine G.lloadN C d4_46 rfl (n := 47) rfl ?_
  refine G.lload C d4_47 rfl (n := 49) rfl ?_
  refine G.lrem C d4_49 (by decide) (n := 50) rfl ?_
  refine G.fold_long (z := (1 : Int64)) (by decide) ?_
  refine G.lconst C (v := (0 : Int64)) d4_50 (by decide) (n := 51) rfl ?_
  refine G.lcmp_ne C (A := 1) (B := 0) (by decide) (by decide) d4_51 d4_52 (by decide) (by decide) (n := 55) (n' := 63) rfl (fun c52_41 c52_41i => ?_) (fun c52_41 c52_41i => ?_)
  rotate_left
  · exact absurd c52_41 (by decide)
  refine G.lload C d4_63 rfl (n := 65) rfl ?_
  refine G.lconst C (v := (1 : Int64)) d4_65 (by decide) (n := 66) rfl ?_
  refine G.ladd C d4_66 (n := 67) rfl ?_
  refine G.fold_long (z := (3 : Int64)) (by decide) ?_
  refine G.lstore C d4_67 (l' := #[.val (.long (508 : Int64)), .second, .val (.ref b2), .val (.long (127 : Int64)), .second, .val (.long (3 : Int64)), .second]) rfl (n := 69) rfl ?_
  refine G.goto C d4_69 (by decide) (n := 15) (by decide) ?_
  refine G.lload C d4_15 rfl (n := 17) rfl ?_
  refine G.lload C d4_17 rfl (n := 19) rfl ?_
  refine G.lmul C d4_19 (n := 20) rfl ?_
  refine G.fold_long (z := (9 : Int64)) (by decide) ?_
  refine G.lloadN C d4_20 rfl (n := 21) rfl ?_
  refine G.lcmp_gt C (A := 9) (B := 127) (by decide) (by decide) d4_21 d4_22 (by decide) (by decide) (n := 25) (n' := 72) rfl (fun c22_42 => ?_) (fun c22_42 => ?_)
  · exact absurd c22_42 (by decide)
  refine G.lloadN C d4_25 rfl (n := 26) rfl ?_
  refine G.lload C d4_26 rfl (n := 28) rfl ?_
  refine G.lrem C d4_28 (by decide) (n := 29) rfl ?_
  refine G.fold_long (z := (1 : Int64)) (by decide) ?_
  refine G.lconst C (v := (0 : Int64)) d4_29 (by decide) (n := 30) rfl ?_
  refine G.lcmp_ne C (A := 1) (B := 0) (by decide) (by decide) d4_30 d4_31 (by decide) (by decide) (n := 34) (n' := 63) rfl (fun c31_43 c31_43i => ?_) (fun c31_43 c31_43i => ?_)
  rotate_left
  · exact absurd c31_43 (by decide)
  refine G.lload C d4_63 rfl (n := 65) rfl ?_
  refine G.lconst C (v := (1 : Int64)) d4_65 (by decide) (n := 66) rfl ?_
  refine G.ladd C d4_66 (n := 67) rfl ?_
  refine G.fold_long (z := (4 : Int64)) (by decide) ?_
  refine G.lstore C d4_67 (l' := #[.val (.long (508 : Int64)), .second, .val (.ref b2), .val (.long (127 : Int64)), .second, .val (.long (4 : Int64)), .second]) rfl (n := 69) rfl ?_
  refine G.goto C d4_69 (by decide) (n := 15) (by decide) ?_
  refine G.lload C d4_15 rfl (n := 17) rfl ?_
  refine G.lload C d4_17 rfl (n := 19) rfl ?_
  refine G.lmul C d4_19 (n := 20) rfl ?_
  refine G.fold_long (z := (16 : Int64)) (by decide) ?_
  refine G.lloadN C d4_20 rfl (n := 21) rfl ?_
  refine G.lcmp_gt C (A := 16) (B := 127) (by decide) (by decide) d4_21 d4_22 (by decide) (by decide) (n := 25) (n' := 72) rfl (fun c22_44 => ?_) (fun c22_44 => ?_)
  · exact absurd c22_44 (by decide)
  refine G.lloadN C d4_25 rfl (n := 26) rfl ?_
  refine G.lload C d4_26 rfl (n := 28) rfl ?_
  refine G.lrem C d4_28 (by decide) (n := 29) rfl ?_
  refine G.fold_long (z := (3 : Int64)) (by decide) ?_
  refine G.lconst C (v := (0 : Int64)) d4_29 (by decide) (n := 30) rfl ?_
  refine G.lcmp_ne C (A := 3) (B := 0) (by decide) (by decide) d4_30 d4_31 (by decide) (by decide) (n := 34) (n' := 63) rfl (fun c31_45 c31_45i => ?_) (fun c31_45 c31_45i => ?_)
  rotate_left
  · exact absurd c31_45 (by decide)
  refine G.lload C d4_63 rfl (n := 65) rfl ?_
  refine G.lconst C (v := (1 : Int64)) d4_65 (by decide) (n := 66) rfl ?_
  refine G.ladd C d4_66 (n := 67) rfl ?_
  refine G.fold_long (z := (5 : Int64)) (by decide) ?_
  refine G.lstore C d4_67 (l' := #[.val (.long (508 : Int64)), .second, .val (.ref b2), .val (.long (127 : Int64)), .second, .val (.long (5 : Int64)), .second]) rfl (n := 69) rfl ?_
  refine G.goto C d4_69 (by decide) (n := 15) (by decide) ?_
  refine G.lload C d4_15 rfl (n := 17) rfl ?_
  refine G.lload C d4_17 rfl (n := 19) rfl ?_
  refine G.lmul C d4_19 (n := 20) rfl ?_
  refine G.fold_long (z := (25 : Int64)) (by decide) ?_
  refine G.lloadN C d4_20 rfl (n := 21) rfl ?_
  refine G.lcmp_gt C (A := 25) (B := 127) (by decide) (by decide) d4_21 d4_22 (by decide) (by decide) (n := 25) (n' := 72) rfl (fun c22_46 => ?_) (fun c22_46 => ?_)
  · exact absurd c22_46 (by decide)
  refine G.lloadN C d4_25 rfl (n := 26) rfl ?_
  refine G.lload C d4_26 rfl (n := 28) rfl ?_
  refine G.lrem C d4_28 (by decide) (n := 29) rfl ?_
  refine G.fold_long (z := (2 : Int64)) (by decide) ?_
  refine G.lconst C (v := (0 : Int64)) d4_29 (by decide) (n := 30) rfl ?_
  refine G.lcmp_ne C (A := 2) (B := 0) (by decide) (by decide) d4_30 d4_31 (by decide) (by decide) (n := 34) (n' := 63) rfl (fun c31_47 c31_47i => ?_) (fun c31_47 c31_47i => ?_)
  rotate_left
  · exact absurd c31_47 (by decide)
  refine G.lload C d4_63 rfl (n := 65) rfl ?_
  refine G.lconst C (v := (1 : Int64)) d4_65 (by decide) (n := 66) rfl ?_
  refine G.ladd C d4_66 (n := 67) rfl ?_
  refine G.fold_long (z := (6 : Int64)) (by decide) ?_
  refine G.lstore C d4_67 (l' := #[.val (.long (508 : Int64)), .second, .val (.ref b2), .val (.long (127 : Int64)), .second, .val (.long (6 : Int64)), .second]) rfl (n := 69) rfl ?_
  refine G.goto C d4_69 (by decide) (n := 15) (by decide) ?_
  refine G.lload C d4_15 rfl (n := 17) rfl ?_
  refine G.lload C d4_17 rfl (n := 19) rfl ?_
  refine G.lmul C d4_19 (n := 20) rfl ?_
  refine G.fold_long (z := (36 : Int64)) (by decide) ?_
  refine G.lloadN C d4_20 rfl (n := 21) rfl ?_
  refine G.lcmp_gt C (A := 36) (B := 127) (by decide) (by decide) d4_21 d4_22 (by decide) (by decide) (n := 25) (n' := 72) rfl (fun c22_48 => ?_) (fun c22_48 => ?_)
  · exact absurd c22_48 (by decide)
  refine G.lloadN C d4_25 rfl (n := 26) rfl ?_
  refine G.lload C d4_26 rfl (n := 28) rfl ?_
  refine G.lrem C d4_28 (by decide) (n := 29) rfl ?_
  refine G.fold_long (z := (1 : Int64)) (by decide) ?_
  refine G.lconst C (v := (0 : Int64)) d4_29 (by decide) (n := 30) rfl ?_
  refine G.lcmp_ne C (A := 1) (B := 0) (by decide) (by decide) d4_30 d4_31 (by decide) (by decide) (n := 34) (n' := 63) rfl (fun c31_49 c31_49i => ?_) (fun c31_49 c31_49i => ?_)
  rotate_left
  · exact absurd c31_49 (by decide)
  refine G.lload C d4_63 rfl (n := 65) rfl ?_
  refine G.lconst C (v := (1 : Int64)) d4_65 (by decide) (n := 66) rfl ?_
  refine G.ladd C d4_66 (n := 67) rfl ?_
  refine G.fold_long (z := (7 : Int64)) (by decide) ?_
  refine G.lstore C d4_67 (l' := #[.val (.long (508 : Int64)), .second, .val (.ref b2), .val (.long (127 : Int64)), .second, .val (.long (7 : Int64)), .second]) rfl (n := 69) rfl ?_
  refine G.goto C d4_69 (by decide) (n := 15) (by decide) ?_
  refine G.lload C d4_15 rfl (n := 17) rfl ?_
  refine G.lload C d4_17 rfl (n := 19) rfl ?_
  refine G.lmul C d4_19 (n := 20) rfl ?_
  refine G.fold_long (z := (49 : Int64)) (by decide) ?_
  refine G.lloadN C d4_20 rfl (n := 21) rfl ?_
  refine G.lcmp_gt C (A := 49) (B := 127) (by decide) (by decide) d4_21 d4_22 (by decide) (by decide) (n := 25) (n' := 72) rfl (fun c22_50 => ?_) (fun c22_50 => ?_)
  · exact absurd c22_50 (by decide)
  refine G.lloadN C d4_25 rfl (n := 26) rfl ?_
  refine G.lload C d4_26 rfl (n := 28) rfl ?_
  refine G.lrem C d4_28 (by decide) (n := 29) rfl ?_
  refine G.fold_long (z := (1 : Int64)) (by decide) ?_
  refine G.lconst C (v := (0 : Int64)) d4_29 (by decide) (n := 30) rfl ?_
  refine G.lcmp_ne C (A := 1) (B := 0) (by decide) (by decide) d4_30 d4_31 (by decide) (by decide) (n := 34) (n' := 63) rfl (fun c31_51 c31_51i => ?_) (fun c31_51 c31_51i => ?_)
  rotate_left
  · exact absurd c31_51 (by decide)
  refine G.lload C d4_63 rfl (n := 65) rfl ?_
  refine G.lconst C (v := (1 : Int64)) d4_65 (by decide) (n := 66) rfl ?_
  refine G.ladd C d4_66 (n := 67) rfl ?_
  refine G.fold_long (z := (8 : Int64)) (by decide) ?_
  refine G.lstore C d4_67 (l' := #[.val (.long (508 : Int64)), .second, .val (.ref b2), .val (.long (127 : Int64)), .second, .val (.long (8 : Int64)), .second]) rfl (n := 69) rfl ?_
  refine G.goto C d4_69 (by decide) (n := 15) (by decide) ?_
  refine G.lload C d4_15 rfl (n := 17) rfl ?_
  refine G.lload C d4_17 rfl (n := 19) rfl ?_
  refine G.lmul C d4_19 (n := 20) rfl ?_
  refine G.fold_long (z := (64 : Int64)) (by decide) ?_
  refine G.lloadN C d4_20 rfl (n := 21) rfl ?_
  refine G.lcmp_gt C (A := 64) (B := 127) (by decide) (by decide) d4_21 d4_22 (by decide) (by decide) (n := 25) (n' := 72) rfl (fun c22_52 => ?_) (fun c22_52 => ?_)
  · exact absurd c22_52 (by decide)
  refine G.lloadN C d4_25 rfl (n := 26) rfl ?_
  refine G.lload C d4_26 rfl (n := 28) rfl ?_
  refine G.lrem C d4_28 (by decide) (n := 29) rfl ?_
  refine G.fold_long (z := (7 : Int64)) (by decide) ?_
  refine G.lconst C (v := (0 : Int64)) d4_29 (by decide) (n := 30) rfl ?_
  refine G.lcmp_ne C (A := 7) (B := 0) (by decide) (by decide) d4_30 d4_31 (by decide) (by decide) (n := 34) (n' := 63) rfl (fun c31_53 c31_53i => ?_) (fun c31_53 c31_53i => ?_)
  rotate_left
  · exact absurd c31_53 (by decide)
  refine G.lload C d4_63 rfl (n := 65) rfl ?_
  refine G.lconst C (v := (1 : Int64)) d4_65 (by decide) (n := 66) rfl ?_
  refine G.ladd C d4_66 (n := 67) rfl ?_
  refine G.fold_long (z := (9 : Int64)) (by decide) ?_
  refine G.lstore C d4_67 (l' := #[.val (.long (508 : Int64)), .second, .val (.ref b2), .val (.long (127 : Int64)), .second, .val (.long (9 : Int64)), .second]) rfl (n := 69) rfl ?_
  refine G.goto C d4_69 (by decide) (n := 15) (by decide) ?_
  refine G.lload C d4_15 rfl (n := 17) rfl ?_
  refine G.lload C d4_17 rfl (n := 19) rfl ?_
  refine G.lmul C d4_19 (n := 20) rfl ?_
  refine G.fold_long (z := (81 : Int64)) (by decide) ?_
  refine G.lloadN C d4_20 rfl (n := 21) rfl ?_
  refine G.lcmp_gt C (A := 81) (B := 127) (by decide) (by decide) d4_21 d4_22 (by decide) (by decide) (n := 25) (n' := 72) rfl (fun c22_54 => ?_) (fun c22_54 => ?_)
  · exact absurd c22_54 (by decide)
  refine G.lloadN C d4_25 rfl (n := 26) rfl ?_
  refine G.lload C d4_26 rfl (n := 28) rfl ?_
  refine G.lrem C d4_28 (by decide) (n := 29) rfl ?_
  refine G.fold_long (z := (1 : Int64)) (by decide) ?_
  refine G.lconst C (v := (0 : Int64)) d4_29 (by decide) (n := 30) rfl ?_
  refine G.lcmp_ne C (A := 1) (B := 0) (by decide) (by decide) d4_30 d4_31 (by decide) (by decide) (n := 34) (n' := 63) rfl (fun c31_55 c31_55i => ?_) (fun c31_55 c31_55i => ?_)
  rotate_left
  · exact absurd c31_55 (by decide)
  refine G.lload C d4_63 rfl (n := 65) rfl ?_
  refine G.lconst C (v := (1 : Int64)) d4_65 (by decide) (n := 66) rfl ?_
  refine G.ladd C d4_66 (n := 67) rfl ?_
  refine G.fold_long (z := (10 : Int64)) (by decide) ?_
  refine G.lstore C d4_67 (l' := #[.val (.long (508 : Int64)), .second, .val (.ref b2), .val (.long (127 : Int64)), .second, .val (.long (10 : Int64)), .second]) rfl (n := 69) rfl ?_
  refine G.goto C d4_69 (by decide) (n := 15) (by decide) ?_
  refine G.lload C d4_15 rfl (n := 17) rfl ?_
  refine G.lload C d4_17 rfl (n := 19) rfl ?_
  refine G.lmul C d4_19 (n := 20) rfl ?_
  refine G.fold_long (z := (100 : Int64)) (by decide) ?_
  refine G.lloadN C d4_20 rfl (n := 21) rfl ?_
  refine G.lcmp_gt C (A := 100) (B := 127) (by decide) (by decide) d4_21 d4_22 (by decide) (by decide) (n := 25) (n' := 72) rfl (fun c22_56 => ?_) (fun c22_56 => ?_)
  · exact absurd c22_56 (by decide)
  refine G.lloadN C d4_25 rfl (n := 26) rfl ?_
  refine G.lload C d4_26 rfl (n := 28) rfl ?_
  refine G.lrem C d4_28 (by decide) (n := 29) rfl ?_
  refine G.fold_long (z := (7 : Int64)) (by decide) ?_
  refine G.lconst C (v := (0 : Int64)) d4_29 (by decide) (n := 30) rfl ?_
  refine G.lcmp_ne C (A := 7) (B := 0) (by decide) (by decide) d4_30 d4_31 (by decide) (by decide) (n := 34) (n' := 63) rfl (fun c31_57 c31_57i => ?_) (fun c31_57 c31_57i => ?_)
  rotate_left
  · exact absurd c31_57 (by decide)
  refine G.lload C d4_63 rfl (n := 65) rfl ?_
  refine G.lconst C (v := (1 : Int64)) d4_65 (by decide) (n := 66) rfl ?_
  refine G.ladd C d4_66 (n := 67) rfl ?_
  refine G.fold_long (z := (11 : Int64)) (by decide) ?_
  refine G.lstore C d4_67 (l' := #[.val (.long (508 : Int64)), .second, .val (.ref b2), .val (.long (127 : Int64)), .second, .val (.long (11 : Int64)), .second]) rfl (n := 69) rfl ?_
  refine G.goto C d4_69 (by decide) (n := 15) (by decide) ?_
  refine G.lload C d4_15 rfl (n := 17) rfl ?_
  refine G.lload C d4_17 rfl (n := 19) rfl ?_
  refine G.lmul C d4_19 (n := 20) rfl ?_
  refine G.fold_long (z := (121 : Int64)) (by decide) ?_
  refine G.lloadN C d4_20 rfl (n := 21) rfl ?_
  refine G.lcmp_gt C (A := 121) (B := 127) (by decide) (by decide) d4_21 d4_22 (by decide) (by decide) (n := 25) (n' := 72) rfl (fun c22_58 => ?_) (fun c22_58 => ?_)
  · exact absurd c22_58 (by decide)
  refine G.lloadN C d4_25 rfl (n := 26) rfl ?_
  refine G.lload C d4_26 rfl (n := 28) rfl ?_
  refine G.lrem C d4_28 (by decide) (n := 29) rfl ?_
  refine G.fold_long (z := (6 : Int64)) (by decide) ?_
  refine G.lconst C (v := (0 : Int64)) d4_29 (by decide) (n := 30) rfl ?_
  refine G.lcmp_ne C (A := 6) (B := 0) (by decide) (by decide) d4_30 d4_31 (by decide) (by decide) (n := 34) (n' := 63) rfl (fun c31_59 c31_59i => ?_) (fun c31_59 c31_59i => ?_)
  rotate_left
  · exact absurd c31_59 (by decide)
  refine G.lload C d4_63 rfl (n := 65) rfl ?_
  refine G.lconst C (v := (1 : Int64)) d4_65 (by decide) (n := 66) rfl ?_
  refine G.ladd C d4_66 (n := 67) rfl ?_
  refine G.fold_long (z := (12 : Int64)) (by decide) ?_
  refine G.lstore C d4_67 (l' := #[.val (.long (508 : Int64)), .second, .val (.ref b2), .val (.long (127 : Int64)), .second, .val (.long (12 : Int64)), .second]) rfl (n := 69) rfl ?_
  refine G.goto C d4_69 (by decide) (n := 15) (by decide) ?_
  refine G.lload C d4_15 rfl (n := 17) rfl ?_
  refine G.lload C d4_17 rfl (n := 19) rfl ?_
  refine G.lmul C d4_19 (n := 20) rfl ?_
  refine G.fold_long (z := (144 : Int64)) (by decide) ?_
  refine G.lloadN C d4_20 rfl (n := 21) rfl ?_
  refine G.lcmp_gt C (A := 144) (B := 127) (by decide) (by decide) d4_21 d4_22 (by decide) (by decide) (n := 25) (n' := 72) rfl (fun c22_60 => ?_) (fun c22_60 => ?_)
  rotate_left
  · exact absurd c22_60 (by decide)
  refine G.lloadN C d4_72 rfl (n := 73) rfl ?_
  refine G.lconst C (v := (1 : Int64)) d4_73 (by decide) (n := 74) rfl ?_
  refine G.lcmp_le C (A := 127) (B := 1) (by decide) (by decide) d4_74 d4_75 (by decide) (by decide) (n := 78) (n' := 89) rfl (fun c75_61 => ?_) (fun c75_61 => ?_)
  · exact absurd c75_61 (by decide)
  refine G.aloadN C d4_78 rfl rfl (n := 79) rfl ?_
  refine G.lloadN C d4_79 rfl (n := 80) rfl ?_
  refine G.callS C (argsL := [(.long (127 : Int64))]) (yc := (⟨"java/lang/Long", "valueOf", "(J)Ljava/lang/Long;"⟩ : MethodName)) (wd hw 53 rfl) (wd hw 54 rfl) (wd hw 55 rfl) (wd hw 56 rfl) (by decide) (m_vo127 l Z a0 hw lc lv x127 h32 n0 Z37 OL36 S_lc O_lc q_127) rfl (by decide) (W := 1) rfl (by decide) (c' := 2) (s' := 13) rfl rfl (by decide) (by decide) d4_80 (n := 83) rfl pd14 rfl rfl ?_
  rintro _ _ ⟨rfl, rfl⟩
  refine G.callI C (argsL := [(.ref x127)]) (yr := (⟨"java/util/List", "add", "(Ljava/lang/Object;)Z"⟩ : MethodName)) (yc := (⟨"java/util/ArrayList", "add", "(Ljava/lang/Object;)Z"⟩ : MethodName)) (a := b2) (O26.1) (wd hw 61 rfl) (wd hw 62 rfl) (wd hw 63 rfl) (wd hw 64 rfl) (wd hw 65 rfl) (wd hw 66 rfl) (wd hw 67 rfl) (wd hw 68 rfl) (wd hw 31 rfl) (wd hw 69 rfl) (by decide) (m_ad1_1 l Z a0 hw b2 m29 dE x127 r30 x2 h32 n0 Z37 OL36 S_dE O_dE E_x127 O26 g7 O27 g34 ne33) rfl (by decide) (W := 0) rfl (by decide) (c' := 2) (s' := 13) rfl rfl (by decide) (by decide) d4_83 (n := 88) rfl pd15 rfl rfl ?_
  rintro _ h70 ⟨rfl, K64, m68, O65, O66⟩
  have OL71 := OL36.keep K64 (allS g7 (allS g34 all0))
  have Z72 : n0 ≤ h70.size := Nat.le_trans Z37 K64.1
  have K73 : Keep h0 h70 [] := Keep.tr K38 K64 (allS (Or.inr f8) (allS (Or.inr f35) all0))
  refine G.pop C d4_88 rfl (n := 89) rfl ?_
  refine G.aloadN C d4_89 rfl rfl (n := 90) rfl ?_
  refine G.callS C (argsL := [(.ref b2)]) (yc := (⟨"java/util/List", "copyOf", "(Ljava/util/Collection;)Ljava/util/List;"⟩ : MethodName)) (wd hw 96 rfl) (wd hw 97 rfl) (wd hw 98 rfl) (wd hw 99 rfl) (by decide) (m_cpo2 l Z a0 hw em mr r30 b2 m68 x2 x127 h70 n0 Z72 OL71 M_r E_x2 E_x127 O66 O65 S_em) rfl (by decide) (W := 0) rfl (by decide) (c' := 4) (s' := 17) rfl rfl (by decide) (by decide) d4_90 (n := 93) rfl pd13 rfl rfl ?_
  rintro _ h77 ⟨x74, rfl, K75⟩
  have O78 := O65.keep K75 nin0
  have O79 := O66.keep K75 nin0
  have OL80 := OL71.keep K75 all0
  have Z81 : n0 ≤ h77.size := Nat.le_trans Z72 K75.1
  have K82 : Keep h0 h77 [] := Keep.tr K73 K75 all0
  refine G.areturn C d4_93 rfl rfl rfl (by decide) (by decide) ?_
  exact ⟨_, rfl, K82⟩
theorem d1_0 : decode prog_36_method_1_code 0 = .ok (.aload_n 0, 1) := by decide +kernel
theorem d1_1 : decode prog_36_method_1_code 1 = .ok (.invokespecial 1, 3) := by decide +kernel
theorem d1_4 : decode prog_36_method_1_code 4 = .ok (.iload_n 1, 1) := by decide +kernel
theorem d1_5 : decode prog_36_method_1_code 5 = .ok (.iconst 2, 1) := by decide +kernel
theorem d1_6 : decode prog_36_method_1_code 6 = .ok (.if_icmp .lt 9, 3) := by decide +kernel
theorem d1_9 : decode prog_36_method_1_code 9 = .ok (.iload_n 1, 1) := by decide +kernel
theorem d1_10 : decode prog_36_method_1_code 10 = .ok (.bipush 31, 2) := by decide +kernel
theorem d1_12 : decode prog_36_method_1_code 12 = .ok (.if_icmp .le 13, 3) := by decide +kernel
theorem d1_15 : decode prog_36_method_1_code 15 = .ok (.new 9, 3) := by decide +kernel
theorem d1_18 : decode prog_36_method_1_code 18 = .ok (.dup, 1) := by decide +kernel
theorem d1_19 : decode prog_36_method_1_code 19 = .ok (.ldc 11, 2) := by decide +kernel
theorem d1_21 : decode prog_36_method_1_code 21 = .ok (.invokespecial 13, 3) := by decide +kernel
theorem d1_24 : decode prog_36_method_1_code 24 = .ok (.athrow, 1) := by decide +kernel
theorem d1_25 : decode prog_36_method_1_code 25 = .ok (.aload_n 0, 1) := by decide +kernel
theorem d1_26 : decode prog_36_method_1_code 26 = .ok (.iload_n 1, 1) := by decide +kernel
theorem d1_27 : decode prog_36_method_1_code 27 = .ok (.putfield 16, 3) := by decide +kernel
theorem d1_30 : decode prog_36_method_1_code 30 = .ok (.lconst 1, 1) := by decide +kernel
theorem d1_31 : decode prog_36_method_1_code 31 = .ok (.iload_n 1, 1) := by decide +kernel
theorem d1_32 : decode prog_36_method_1_code 32 = .ok (.lshl, 1) := by decide +kernel
theorem d1_33 : decode prog_36_method_1_code 33 = .ok (.lconst 1, 1) := by decide +kernel
theorem d1_34 : decode prog_36_method_1_code 34 = .ok (.lsub, 1) := by decide +kernel
theorem d1_35 : decode prog_36_method_1_code 35 = .ok (.lstore_n 2, 1) := by decide +kernel
theorem d1_36 : decode prog_36_method_1_code 36 = .ok (.lload_n 2, 1) := by decide +kernel
theorem d1_37 : decode prog_36_method_1_code 37 = .ok (.invokestatic 20, 3) := by decide +kernel
theorem d1_40 : decode prog_36_method_1_code 40 = .ok (.ifCond .ne 10, 3) := by decide +kernel
theorem d1_43 : decode prog_36_method_1_code 43 = .ok (.lload_n 2, 1) := by decide +kernel
theorem d1_44 : decode prog_36_method_1_code 44 = .ok (.lconst 1, 1) := by decide +kernel
theorem d1_45 : decode prog_36_method_1_code 45 = .ok (.lsub, 1) := by decide +kernel
theorem d1_46 : decode prog_36_method_1_code 46 = .ok (.lstore_n 2, 1) := by decide +kernel
theorem d1_47 : decode prog_36_method_1_code 47 = .ok (.goto (-11), 3) := by decide +kernel
theorem d1_50 : decode prog_36_method_1_code 50 = .ok (.aload_n 0, 1) := by decide +kernel
theorem d1_51 : decode prog_36_method_1_code 51 = .ok (.lload_n 2, 1) := by decide +kernel
theorem d1_52 : decode prog_36_method_1_code 52 = .ok (.putfield 24, 3) := by decide +kernel
theorem d1_55 : decode prog_36_method_1_code 55 = .ok (.aload_n 0, 1) := by decide +kernel
theorem d1_56 : decode prog_36_method_1_code 56 = .ok (.lload_n 2, 1) := by decide +kernel
theorem d1_57 : decode prog_36_method_1_code 57 = .ok (.lconst 1, 1) := by decide +kernel
theorem d1_58 : decode prog_36_method_1_code 58 = .ok (.lsub, 1) := by decide +kernel
theorem d1_59 : decode prog_36_method_1_code 59 = .ok (.invokestatic 28, 3) := by decide +kernel
theorem d1_62 : decode prog_36_method_1_code 62 = .ok (.putfield 32, 3) := by decide +kernel
theorem d1_65 : decode prog_36_method_1_code 65 = .ok (.return_, 1) := by decide +kernel
theorem pd16 : parseMethodDescriptor "(J)Z" = some ⟨[.long], some .boolean⟩ := by decide +kernel
theorem pd17 : parseMethodDescriptor "(J)Ljava/util/List;" = some ⟨[.long], some (.object "java/util/List")⟩ := by decide +kernel
theorem ef76 (m : MethodId) (a : Addr) : entryFrame m #[(.ref a), (.int (2 : Int32))] 4 = mkF m 0 #[.val (.ref a), .val (.int (2 : Int32)), .unset, .unset] [] := by first | (simp [entryFrame, mkF, argsToLocals, Value.category]; done) | rfl
abbrev Q_sd2 (Z : State) (h0 : Heap) (n0 : Nat) (a : Addr) (mr : Addr) (dE : Addr) (lc : Addr) (lv : List Value) (em : Addr) (x2 : Addr) (x3 : Addr) (x5 : Addr) (x7 : Addr) (x127 : Addr) : Option Value → Heap → Prop := fun v h' => v = none ∧ Keep h0 h' [a] ∧ ∃ fo : Addr, Ob_Sd Z h' a (2 : Int32) (3 : Int64) (.ref fo)
abbrev R_sd2 : Room := { frames := 9, cells := 4, slots := 16, locals := 119 }
set_option maxRecDepth 65536 in
set_option maxHeartbeats 40000000 in
theorem m_sd2 (l : Launch) (Z : State) (a0 : Array Value) (hw : ∀ d ∈ tables_1, d.before a0 Z = true) (a : Addr) (mr : Addr) (dE : Addr) (lc : Addr) (lv : List Value) (em : Addr) (x2 : Addr) (x3 : Addr) (x5 : Addr) (x7 : Addr) (x127 : Addr) (h0 : Heap) (n0 : Nat) (Z0 : n0 ≤ h0.size) (OLD0 : Old Z n0 h0) (M_r : MirA Z "[Ljava/lang/Object;" mr) (S_dE : Sta Z Z.heap "java/util/ArrayList" "DEFAULTCAPACITY_EMPTY_ELEMENTDATA" "[Ljava/lang/Object;" (.ref dE)) (O_dE : Refs Z Z.heap dE (.object "java/lang/Object") []) (S_lc : Sta Z Z.heap "java/lang/Long$LongCache" "cache" "[Ljava/lang/Long;" (.ref lc)) (O_lc : Refs Z Z.heap lc (.object "java/lang/Long") lv) (S_em : Sta Z Z.heap "java/util/ImmutableCollections" "EMPTY" "Ljava/lang/Object;" (.ref em)) (q_2 : lv[130]? = some (.ref x2)) (q_3 : lv[131]? = some (.ref x3)) (q_5 : lv[133]? = some (.ref x5)) (q_7 : lv[135]? = some (.ref x7)) (q_127 : lv[255]? = some (.ref x127)) (E_x2 : Exa Z Z.heap x2 "java/lang/Long") (E_x3 : Exa Z Z.heap x3 "java/lang/Long") (E_x5 : Exa Z Z.heap x5 "java/lang/Long") (E_x7 : Exa Z Z.heap x7 "java/lang/Long") (E_x127 : Exa Z Z.heap x127 "java/lang/Long") (O_a : Ob_Sd Z h0 a 0 0 .null) (g_a : n0 ≤ a) : Met l Z (⟨"com/example/veilrelay/veilrelay/core/derived/SmallDomain", "<init>", "(I)V"⟩ : MethodName) prog_36_method_1_code 4 none R_sd2 #[(.ref a), (.int (2 : Int32))] h0 n0 (Q_sd2 Z h0 n0 a mr dE lc lv em x2 x3 x5 x7 x127) := by
  refine Met.of (plainFor_of_name pn0) (fun m => ef76 m a) ?_
  intro p e s m args below meth c C
  refine G.aloadN C d1_0 rfl rfl (n := 1) rfl ?_
  refine G.objinit C (wd hw 15 rfl) (wd hw 16 rfl) (wd hw 17 rfl) d1_1 rfl (by decide) (W := 0) rfl (by decide) (n := 4) rfl ?_
  refine G.iloadN C d1_4 rfl (n := 5) rfl ?_
  refine G.iconst C (v := (2 : Int32)) d1_5 (by decide) (n := 6) rfl ?_
  refine G.icmp_lt C (A := 2) (B := 2) (by decide) (by decide) d1_6 (by decide) (by decide) (n := 9) (n' := 15) rfl (fun c6_1 => ?_) (fun c6_1 => ?_)
  · exact absurd c6_1 (by decide)
  refine G.iloadN C d1_9 rfl (n := 10) rfl ?_
  refine G.bipush C (v := (31 : Int32)) d1_10 (by decide) (n := 12) rfl ?_
  refine G.icmp_le C (A := 2) (B := 31) (by decide) (by decide) d1_12 (by decide) (by decide) (n := 15) (n' := 25) rfl (fun c12_2 => ?_) (fun c12_2 => ?_)
  rotate_left
  · exact absurd c12_2 (by decide)
  refine G.aloadN C d1_25 rfl rfl (n := 26) rfl ?_
  refine G.iloadN C d1_26 rfl (n := 27) rfl ?_
  refine G.putfield C (host := "") (Or.inl (wd hw 18 rfl)) Via.refl (O_a.2.1) (O_a.1) (Or.inr ⟨(wd hw 19 rfl), rfl, rfl⟩) (wd hw 10 rfl) (ty := .int) (by decide) rfl rfl g_a d1_27 (n := 30) rfl ?_
  intro h3 W4
  have O5 := Ob_Sd.set_bits hw O_a W4
  have K6 := Keep.of_wr W4
  have OL7 := OLD0.keep K6 (allS g_a all0)
  have Z8 : n0 ≤ h3.size := Nat.le_trans Z0 K6.1
  have K9 : Keep h0 h3 [a] := Keep.tr (Keep.refl h0 _) K6 (allS (Or.inl (List.mem_of_getElem? (i := 0) rfl)) all0)
  refine G.lconst C (v := (1 : Int64)) d1_30 (by decide) (n := 31) rfl ?_
  refine G.iloadN C d1_31 rfl (n := 32) rfl ?_
  refine G.lshl C d1_32 (n := 33) rfl ?_
  refine G.fold_long (z := (4 : Int64)) (by decide) ?_
  refine G.lconst C (v := (1 : Int64)) d1_33 (by decide) (n := 34) rfl ?_
  refine G.lsub C d1_34 (n := 35) rfl ?_
  refine G.fold_long (z := (3 : Int64)) (by decide) ?_
  refine G.lstoreN C d1_35 (l' := #[.val (.ref a), .val (.int (2 : Int32)), .val (.long (3 : Int64)), .second]) rfl (n := 36) rfl ?_
  refine G.lloadN C d1_36 rfl (n := 37) rfl ?_
  refine G.callS C (argsL := [(.long (3 : Int64))]) (yc := (⟨"com/example/veilrelay/veilrelay/core/derived/SmallDomain", "isPrime", "(J)Z"⟩ : MethodName)) (wd hw 20 rfl) (wd hw 21 rfl) (wd hw 11 rfl) (wd hw 22 rfl) (by decide) (m_ip3 l Z a0 hw  h3 n0 Z8) rfl (by decide) (W := 0) rfl (by decide) (c' := 0) (s' := 0) rfl rfl (by decide) (by decide) d1_37 (n := 40) rfl pd16 rfl rfl ?_
  rintro _ _ ⟨rfl, rfl⟩
  refine G.if_ne C (A := 1) (by decide) d1_40 (by decide) (by decide) (n := 43) (n' := 50) rfl (fun c40_12 c40_12i => ?_) (fun c40_12 c40_12i => ?_)
  rotate_left
  · exact absurd c40_12 (by decide)
  refine G.aloadN C d1_50 rfl rfl (n := 51) rfl ?_
  refine G.lloadN C d1_51 rfl (n := 52) rfl ?_
  refine G.putfield C (host := "") (Or.inl (wd hw 24 rfl)) Via.refl (O5.2.2.1) (O5.1) (Or.inr ⟨(wd hw 25 rfl), rfl, rfl⟩) (wd hw 10 rfl) (ty := .long) (by decide) rfl rfl g_a d1_52 (n := 55) rfl ?_
  intro h13 W14
  have O15 := Ob_Sd.set_prime hw O5 W14
  have K16 := Keep.of_wr W14
  have OL17 := OL7.keep K16 (allS g_a all0)
  have Z18 : n0 ≤ h13.size := Nat.le_trans Z8 K16.1
  have K19 : Keep h0 h13 [a] := Keep.tr K9 K16 (allS (Or.inl (List.mem_of_getElem? (i := 0) rfl)) all0)
  refine G.aloadN C d1_55 rfl rfl (n := 56) rfl ?_
  refine G.lloadN C d1_56 rfl (n := 57) rfl ?_
  refine G.lconst C (v := (1 : Int64)) d1_57 (by decide) (n := 58) rfl ?_
  refine G.lsub C d1_58 (n := 59) rfl ?_
  refine G.fold_long (z := (2 : Int64)) (by decide) ?_
  refine G.callS C (argsL := [(.long (2 : Int64))]) (yc := (⟨"com/example/veilrelay/veilrelay/core/derived/SmallDomain", "primeFactors", "(J)Ljava/util/List;"⟩ : MethodName)) (wd hw 26 rfl) (wd hw 27 rfl) (wd hw 11 rfl) (wd hw 28 rfl) (by decide) (m_pf2 l Z a0 hw mr dE lc lv em x2 x3 x5 x7 x127 h13 n0 Z18 OL17 M_r S_dE O_dE S_lc O_lc S_em q_2 q_3 q_5 q_7 q_127 E_x2 E_x3 E_x5 E_x7 E_x127) rfl (by decide) (W := 1) rfl (by decide) (c' := 4) (s' := 16) rfl rfl (by decide) (by decide) d1_59 (n := 62) rfl pd17 rfl rfl ?_
  rintro _ h23 ⟨x20, rfl, K21⟩
  have O24 := O15.keep K21 nin0
  have OL25 := OL17.keep K21 all0
  have Z26 : n0 ≤ h23.size := Nat.le_trans Z18 K21.1
  have K27 : Keep h0 h23 [a] := Keep.tr K19 K21 all0
  refine G.putfield C (host := "") (Or.inl (wd hw 182 rfl)) Via.refl (O24.2.2.2) (O24.1) (Or.inr ⟨(wd hw 183 rfl), rfl, rfl⟩) (wd hw 10 rfl) (ty := (.object "java/util/List")) (by decide) rfl rfl g_a d1_62 (n := 65) rfl ?_
  intro h28 W29
  have O30 := Ob_Sd.set_orderFactors hw O24 (v := (.ref x20)) W29
  have K31 := Keep.of_wr W29
  have OL32 := OL25.keep K31 (allS g_a all0)
  have Z33 : n0 ≤ h28.size := Nat.le_trans Z26 K31.1
  have K34 : Keep h0 h28 [a] := Keep.tr K27 K31 (allS (Or.inl (List.mem_of_getElem? (i := 0) rfl)) all0)
  refine G.return_ C d1_65 (by decide) (by decide) ?_
  exact ⟨rfl, K34, _, O30⟩
theorem ef77 (m : MethodId) (a : Addr) : entryFrame m #[(.ref a), (.int (3 : Int32))] 4 = mkF m 0 #[.val (.ref a), .val (.int (3 : Int32)), .unset, .unset] [] := by first | (simp [entryFrame, mkF, argsToLocals, Value.category]; done) | rfl
abbrev Q_sd3 (Z : State) (h0 : Heap) (n0 : Nat) (a : Addr) (mr : Addr) (dE : Addr) (lc : Addr) (lv : List Value) (em : Addr) (x2 : Addr) (x3 : Addr) (x5 : Addr) (x7 : Addr) (x127 : Addr) : Option Value → Heap → Prop := fun v h' => v = none ∧ Keep h0 h' [a] ∧ ∃ fo : Addr, Ob_Sd Z h' a (3 : Int32) (7 : Int64) (.ref fo)
abbrev R_sd3 : Room := { frames := 9, cells := 4, slots := 17, locals := 120 }
set_option maxRecDepth 65536 in
set_option maxHeartbeats 40000000 in
theorem m_sd3 (l : Launch) (Z : State) (a0 : Array Value) (hw : ∀ d ∈ tables_1, d.before a0 Z = true) (a : Addr) (mr : Addr) (dE : Addr) (lc : Addr) (lv : List Value) (em : Addr) (x2 : Addr) (x3 : Addr) (x5 : Addr) (x7 : Addr) (x127 : Addr) (h0 : Heap) (n0 : Nat) (Z0 : n0 ≤ h0.size) (OLD0 : Old Z n0 h0) (M_r : MirA Z "[Ljava/lang/Object;" mr) (S_dE : Sta Z Z.heap "java/util/ArrayList" "DEFAULTCAPACITY_EMPTY_ELEMENTDATA" "[Ljava/lang/Object;" (.ref dE)) (O_dE : Refs Z Z.heap dE (.object "java/lang/Object") []) (S_lc : Sta Z Z.heap "java/lang/Long$LongCache" "cache" "[Ljava/lang/Long;" (.ref lc)) (O_lc : Refs Z Z.heap lc (.object "java/lang/Long") lv) (S_em : Sta Z Z.heap "java/util/ImmutableCollections" "EMPTY" "Ljava/lang/Object;" (.ref em)) (q_2 : lv[130]? = some (.ref x2)) (q_3 : lv[131]? = some (.ref x3)) (q_5 : lv[133]? = some (.ref x5)) (q_7 : lv[135]? = some (.ref x7)) (q_127 : lv[255]? = some (.ref x127)) (E_x2 : Exa Z Z.heap x2 "java/lang/Long") (E_x3 : Exa Z Z.heap x3 "java/lang/Long") (E_x5 : Exa Z Z.heap x5 "java/lang/Long") (E_x7 : Exa Z Z.heap x7 "java/lang/Long") (E_x127 : Exa Z Z.heap x127 "java/lang/Long") (O_a : Ob_Sd Z h0 a 0 0 .null) (g_a : n0 ≤ a) : Met l Z (⟨"com/example/veilrelay/veilrelay/core/derived/SmallDomain", "<init>", "(I)V"⟩ : MethodName) prog_36_method_1_code 4 none R_sd3 #[(.ref a), (.int (3 : Int32))] h0 n0 (Q_sd3 Z h0 n0 a mr dE lc lv em x2 x3 x5 x7 x127) := by
  refine Met.of (plainFor_of_name pn0) (fun m => ef77 m a) ?_
  intro p e s m args below meth c C
  refine G.aloadN C d1_0 rfl rfl (n := 1) rfl ?_
  refine G.objinit C (wd hw 15 rfl) (wd hw 16 rfl) (wd hw 17 rfl) d1_1 rfl (by decide) (W := 0) rfl (by decide) (n := 4) rfl ?_
  refine G.iloadN C d1_4 rfl (n := 5) rfl ?_
  refine G.iconst C (v := (2 : Int32)) d1_5 (by decide) (n := 6) rfl ?_
  refine G.icmp_lt C (A := 3) (B := 2) (by decide) (by decide) d1_6 (by decide) (by decide) (n := 9) (n' := 15) rfl (fun c6_1 => ?_) (fun c6_1 => ?_)
  · exact absurd c6_1 (by decide)
  refine G.iloadN C d1_9 rfl (n := 10) rfl ?_
  refine G.bipush C (v := (31 : Int32)) d1_10 (by decide) (n := 12) rfl ?_
  refine G.icmp_le C (A := 3) (B := 31) (by decide) (by decide) d1_12 (by decide) (by decide) (n := 15) (n' := 25) rfl (fun c12_2 => ?_) (fun c12_2 => ?_)
  rotate_left
  · exact absurd c12_2 (by decide)
  refine G.aloadN C d1_25 rfl rfl (n := 26) rfl ?_
  refine G.iloadN C d1_26 rfl (n := 27) rfl ?_
  refine G.putfield C (host := "") (Or.inl (wd hw 18 rfl)) Via.refl (O_a.2.1) (O_a.1) (Or.inr ⟨(wd hw 19 rfl), rfl, rfl⟩) (wd hw 10 rfl) (ty := .int) (by decide) rfl rfl g_a d1_27 (n := 30) rfl ?_
  intro h3 W4
  have O5 := Ob_Sd.set_bits hw O_a W4
  have K6 := Keep.of_wr W4
  have OL7 := OLD0.keep K6 (allS g_a all0)
  have Z8 : n0 ≤ h3.size := Nat.le_trans Z0 K6.1
  have K9 : Keep h0 h3 [a] := Keep.tr (Keep.refl h0 _) K6 (allS (Or.inl (List.mem_of_getElem? (i := 0) rfl)) all0)
  refine G.lconst C (v := (1 : Int64)) d1_30 (by decide) (n := 31) rfl ?_
  refine G.iloadN C d1_31 rfl (n := 32) rfl ?_
  refine G.lshl C d1_32 (n := 33) rfl ?_
  refine G.fold_long (z := (8 : Int64)) (by decide) ?_
  refine G.lconst C (v := (1 : Int64)) d1_33 (by decide) (n := 34) rfl ?_
  refine G.lsub C d1_34 (n := 35) rfl ?_
  refine G.fold_long (z := (7 : Int64)) (by decide) ?_
  refine G.lstoreN C d1_35 (l' := #[.val (.ref a), .val (.int (3 : Int32)), .val (.long (7 : Int64)), .second]) rfl (n := 36) rfl ?_
  refine G.lloadN C d1_36 rfl (n := 37) rfl ?_
  refine G.callS C (argsL := [(.long (7 : Int64))]) (yc := (⟨"com/example/veilrelay/veilrelay/core/derived/SmallDomain", "isPrime", "(J)Z"⟩ : MethodName)) (wd hw 20 rfl) (wd hw 21 rfl) (wd hw 11 rfl) (wd hw 22 rfl) (by decide) (m_ip7 l Z a0 hw  h3 n0 Z8) rfl (by decide) (W := 0) rfl (by decide) (c' := 0) (s' := 0) rfl rfl (by decide) (by decide) d1_37 (n := 40) rfl pd16 rfl rfl ?_
  rintro _ _ ⟨rfl, rfl⟩
  refine G.if_ne C (A := 1) (by decide) d1_40 (by decide) (by decide) (n := 43) (n' := 50) rfl (fun c40_12 c40_12i => ?_) (fun c40_12 c40_12i => ?_)
  rotate_left
  · exact absurd c40_12 (by decide)
  refine G.aloadN C d1_50 rfl rfl (n := 51) rfl ?_
  refine G.lloadN C d1_51 rfl (n := 52) rfl ?_
  refine G.putfield C (host := "") (Or.inl (wd hw 24 rfl)) Via.refl (O5.2.2.1) (O5.1) (Or.inr ⟨(wd hw 25 rfl), rfl, rfl⟩) (wd hw 10 rfl) (ty := .long) (by decide) rfl rfl g_a d1_52 (n := 55) rfl ?_
  intro h13 W14
  have O15 := Ob_Sd.set_prime hw O5 W14
  have K16 := Keep.of_wr W14
  have OL17 := OL7.keep K16 (allS g_a all0)
  have Z18 : n0 ≤ h13.size := Nat.le_trans Z8 K16.1
  have K19 : Keep h0 h13 [a] := Keep.tr K9 K16 (allS (Or.inl (List.mem_of_getElem? (i := 0) rfl)) all0)
  refine G.aloadN C d1_55 rfl rfl (n := 56) rfl ?_
  refine G.lloadN C d1_56 rfl (n := 57) rfl ?_
  refine G.lconst C (v := (1 : Int64)) d1_57 (by decide) (n := 58) rfl ?_
  refine G.lsub C d1_58 (n := 59) rfl ?_
  refine G.fold_long (z := (6 : Int64)) (by decide) ?_
  refine G.callS C (argsL := [(.long (6 : Int64))]) (yc := (⟨"com/example/veilrelay/veilrelay/core/derived/SmallDomain", "primeFactors", "(J)Ljava/util/List;"⟩ : MethodName)) (wd hw 26 rfl) (wd hw 27 rfl) (wd hw 11 rfl) (wd hw 28 rfl) (by decide) (m_pf6 l Z a0 hw mr dE lc lv em x2 x3 x5 x7 x127 h13 n0 Z18 OL17 M_r S_dE O_dE S_lc O_lc S_em q_2 q_3 q_5 q_7 q_127 E_x2 E_x3 E_x5 E_x7 E_x127) rfl (by decide) (W := 1) rfl (by decide) (c' := 4) (s' := 17) rfl rfl (by decide) (by decide) d1_59 (n := 62) rfl pd17 rfl rfl ?_
  rintro _ h23 ⟨x20, rfl, K21⟩
  have O24 := O15.keep K21 nin0
  have OL25 := OL17.keep K21 all0
  have Z26 : n0 ≤ h23.size := Nat.le_trans Z18 K21.1
  have K27 : Keep h0 h23 [a] := Keep.tr K19 K21 all0
  refine G.putfield C (host := "") (Or.inl (wd hw 182 rfl)) Via.refl (O24.2.2.2) (O24.1) (Or.inr ⟨(wd hw 183 rfl), rfl, rfl⟩) (wd hw 10 rfl) (ty := (.object "java/util/List")) (by decide) rfl rfl g_a d1_62 (n := 65) rfl ?_
  intro h28 W29
  have O30 := Ob_Sd.set_orderFactors hw O24 (v := (.ref x20)) W29
  have K31 := Keep.of_wr W29
  have OL32 := OL25.keep K31 (allS g_a all0)
  have Z33 : n0 ≤ h28.size := Nat.le_trans Z26 K31.1
  have K34 : Keep h0 h28 [a] := Keep.tr K27 K31 (allS (Or.inl (List.mem_of_getElem? (i := 0) rfl)) all0)
  refine G.return_ C d1_65 (by decide) (by decide) ?_
  exact ⟨rfl, K34, _, O30⟩
theorem ef78 (m : MethodId) (a : Addr) : entryFrame m #[(.ref a), (.int (4 : Int32))] 4 = mkF m 0 #[.val (.ref a), .val (.int (4 : Int32)), .unset, .unset] [] := by first | (simp [entryFrame, mkF, argsToLocals, Value.category]; done) | rfl
abbrev Q_sd4 (Z : State) (h0 : Heap) (n0 : Nat) (a : Addr) (mr : Addr) (dE : Addr) (lc : Addr) (lv : List Value) (em : Addr) (x2 : Addr) (x3 : Addr) (x5 : Addr) (x7 : Addr) (x127 : Addr) : Option Value → Heap → Prop := fun v h' => v = none ∧ Keep h0 h' [a] ∧ ∃ fo : Addr, Ob_Sd Z h' a (4 : Int32) (13 : Int64) (.ref fo)
abbrev R_sd4 : Room := { frames := 9, cells := 4, slots := 17, locals := 120 }
set_option maxRecDepth 65536 in
set_option maxHeartbeats 40000000 in
theorem m_sd4 (l : Launch) (Z : State) (a0 : Array Value) (hw : ∀ d ∈ tables_1, d.before a0 Z = true) (a : Addr) (mr : Addr) (dE : Addr) (lc : Addr) (lv : List Value) (em : Addr) (x2 : Addr) (x3 : Addr) (x5 : Addr) (x7 : Addr) (x127 : Addr) (h0 : Heap) (n0 : Nat) (Z0 : n0 ≤ h0.size) (OLD0 : Old Z n0 h0) (M_r : MirA Z "[Ljava/lang/Object;" mr) (S_dE : Sta Z Z.heap "java/util/ArrayList" "DEFAULTCAPACITY_EMPTY_ELEMENTDATA" "[Ljava/lang/Object;" (.ref dE)) (O_dE : Refs Z Z.heap dE (.object "java/lang/Object") []) (S_lc : Sta Z Z.heap "java/lang/Long$LongCache" "cache" "[Ljava/lang/Long;" (.ref lc)) (O_lc : Refs Z Z.heap lc (.object "java/lang/Long") lv) (S_em : Sta Z Z.heap "java/util/ImmutableCollections" "EMPTY" "Ljava/lang/Object;" (.ref em)) (q_2 : lv[130]? = some (.ref x2)) (q_3 : lv[131]? = some (.ref x3)) (q_5 : lv[133]? = some (.ref x5)) (q_7 : lv[135]? = some (.ref x7)) (q_127 : lv[255]? = some (.ref x127)) (E_x2 : Exa Z Z.heap x2 "java/lang/Long") (E_x3 : Exa Z Z.heap x3 "java/lang/Long") (E_x5 : Exa Z Z.heap x5 "java/lang/Long") (E_x7 : Exa Z Z.heap x7 "java/lang/Long") (E_x127 : Exa Z Z.heap x127 "java/lang/Long") (O_a : Ob_Sd Z h0 a 0 0 .null) (g_a : n0 ≤ a) : Met l Z (⟨"com/example/veilrelay/veilrelay/core/derived/SmallDomain", "<init>", "(I)V"⟩ : MethodName) prog_36_method_1_code 4 none R_sd4 #[(.ref a), (.int (4 : Int32))] h0 n0 (Q_sd4 Z h0 n0 a mr dE lc lv em x2 x3 x5 x7 x127) := by
  refine Met.of (plainFor_of_name pn0) (fun m => ef78 m a) ?_
  intro p e s m args below meth c C
  refine G.aloadN C d1_0 rfl rfl (n := 1) rfl ?_
  refine G.objinit C (wd hw 15 rfl) (wd hw 16 rfl) (wd hw 17 rfl) d1_1 rfl (by decide) (W := 0) rfl (by decide) (n := 4) rfl ?_
  refine G.iloadN C d1_4 rfl (n := 5) rfl ?_
  refine G.iconst C (v := (2 : Int32)) d1_5 (by decide) (n := 6) rfl ?_
  refine G.icmp_lt C (A := 4) (B := 2) (by decide) (by decide) d1_6 (by decide) (by decide) (n := 9) (n' := 15) rfl (fun c6_1 => ?_) (fun c6_1 => ?_)
  · exact absurd c6_1 (by decide)
  refine G.iloadN C d1_9 rfl (n := 10) rfl ?_
  refine G.bipush C (v := (31 : Int32)) d1_10 (by decide) (n := 12) rfl ?_
  refine G.icmp_le C (A := 4) (B := 31) (by decide) (by decide) d1_12 (by decide) (by decide) (n := 15) (n' := 25) rfl (fun c12_2 => ?_) (fun c12_2 => ?_)
  rotate_left
  · exact absurd c12_2 (by decide)
  refine G.aloadN C d1_25 rfl rfl (n := 26) rfl ?_
  refine G.iloadN C d1_26 rfl (n := 27) rfl ?_
  refine G.putfield C (host := "") (Or.inl (wd hw 18 rfl)) Via.refl (O_a.2.1) (O_a.1) (Or.inr ⟨(wd hw 19 rfl), rfl, rfl⟩) (wd hw 10 rfl) (ty := .int) (by decide) rfl rfl g_a d1_27 (n := 30) rfl ?_
  intro h3 W4
  have O5 := Ob_Sd.set_bits hw O_a W4
  have K6 := Keep.of_wr W4
  have OL7 := OLD0.keep K6 (allS g_a all0)
  have Z8 : n0 ≤ h3.size := Nat.le_trans Z0 K6.1
  have K9 : Keep h0 h3 [a] := Keep.tr (Keep.refl h0 _) K6 (allS (Or.inl (List.mem_of_getElem? (i := 0) rfl)) all0)
  refine G.lconst C (v := (1 : Int64)) d1_30 (by decide) (n := 31) rfl ?_
  refine G.iloadN C d1_31 rfl (n := 32) rfl ?_
  refine G.lshl C d1_32 (n := 33) rfl ?_
  refine G.fold_long (z := (16 : Int64)) (by decide) ?_
  refine G.lconst C (v := (1 : Int64)) d1_33 (by decide) (n := 34) rfl ?_
  refine G.lsub C d1_34 (n := 35) rfl ?_
  refine G.fold_long (z := (15 : Int64)) (by decide) ?_
  refine G.lstoreN C d1_35 (l' := #[.val (.ref a), .val (.int (4 : Int32)), .val (.long (15 : Int64)), .second]) rfl (n := 36) rfl ?_
  refine G.lloadN C d1_36 rfl (n := 37) rfl ?_
  refine G.callS C (argsL := [(.long (15 : Int64))]) (yc := (⟨"com/example/veilrelay/veilrelay/core/derived/SmallDomain", "isPrime", "(J)Z"⟩ : MethodName)) (wd hw 20 rfl) (wd hw 21 rfl) (wd hw 11 rfl) (wd hw 22 rfl) (by decide) (m_ip15 l Z a0 hw  h3 n0 Z8) rfl (by decide) (W := 0) rfl (by decide) (c' := 0) (s' := 0) rfl rfl (by decide) (by decide) d1_37 (n := 40) rfl pd16 rfl rfl ?_
  rintro _ _ ⟨rfl, rfl⟩
  refine G.if_ne C (A := 0) (by decide) d1_40 (by decide) (by decide) (n := 43) (n' := 50) rfl (fun c40_12 c40_12i => ?_) (fun c40_12 c40_12i => ?_)
  · exact absurd c40_12 (by decide)
  refine G.lloadN C d1_43 rfl (n := 44) rfl ?_
  refine G.lconst C (v := (1 : Int64)) d1_44 (by decide) (n := 45) rfl ?_
  refine G.lsub C d1_45 (n := 46) rfl ?_
  refine G.fold_long (z := (14 : Int64)) (by decide) ?_
  refine G.lstoreN C d1_46 (l' := #[.val (.ref a), .val (.int (4 : Int32)), .val (.long (14 : Int64)), .second]) rfl (n := 47) rfl ?_
  refine G.goto C d1_47 (by decide) (n := 36) (by decide) ?_
  refine G.lloadN C d1_36 rfl (n := 37) rfl ?_
  refine G.callS C (argsL := [(.long (14 : Int64))]) (yc := (⟨"com/example/veilrelay/veilrelay/core/derived/SmallDomain", "isPrime", "(J)Z"⟩ : MethodName)) (wd hw 20 rfl) (wd hw 21 rfl) (wd hw 11 rfl) (wd hw 22 rfl) (by decide) (m_ip14 l Z a0 hw  h3 n0 Z8) rfl (by decide) (W := 0) rfl (by decide) (c' := 0) (s' := 0) rfl rfl (by decide) (by decide) d1_37 (n := 40) rfl pd16 rfl rfl ?_
  rintro _ _ ⟨rfl, rfl⟩
  refine G.if_ne C (A := 0) (by decide) d1_40 (by decide) (by decide) (n := 43) (n' := 50) rfl (fun c40_15 c40_15i => ?_) (fun c40_15 c40_15i => ?_)
  · exact absurd c40_15 (by decide)
  refine G.lloadN C d1_43 rfl (n := 44) rfl ?_
  refine G.lconst C (v := (1 : Int64)) d1_44 (by decide) (n := 45) rfl ?_
  refine G.lsub C d1_45 (n := 46) rfl ?_
  refine G.fold_long (z := (13 : Int64)) (by decide) ?_
  refine G.lstoreN C d1_46 (l' := #[.val (.ref a), .val (.int (4 : Int32)), .val (.long (13 : Int64)), .second]) rfl (n := 47) rfl ?_
  refine G.goto C d1_47 (by decide) (n := 36) (by decide) ?_
  refine G.lloadN C d1_36 rfl (n := 37) rfl ?_
  refine G.callS C (argsL := [(.long (13 : Int64))]) (yc := (⟨"com/example/veilrelay/veilrelay/core/derived/SmallDomain", "isPrime", "(J)Z"⟩ : MethodName)) (wd hw 20 rfl) (wd hw 21 rfl) (wd hw 11 rfl) (wd hw 22 rfl) (by decide) (m_ip13 l Z a0 hw  h3 n0 Z8) rfl (by decide) (W := 0) rfl (by decide) (c' := 0) (s' := 0) rfl rfl (by decide) (by decide) d1_37 (n := 40) rfl pd16 rfl rfl ?_
  rintro _ _ ⟨rfl, rfl⟩
  refine G.if_ne C (A := 1) (by decide) d1_40 (by decide) (by decide) (n := 43) (n' := 50) rfl (fun c40_18 c40_18i => ?_) (fun c40_18 c40_18i => ?_)
  rotate_left
  · exact absurd c40_18 (by decide)
  refine G.aloadN C d1_50 rfl rfl (n := 51) rfl ?_
  refine G.lloadN C d1_51 rfl (n := 52) rfl ?_
  refine G.putfield C (host := "") (Or.inl (wd hw 24 rfl)) Via.refl (O5.2.2.1) (O5.1) (Or.inr ⟨(wd hw 25 rfl), rfl, rfl⟩) (wd hw 10 rfl) (ty := .long) (by decide) rfl rfl g_a d1_52 (n := 55) rfl ?_
  intro h19 W20
  have O21 := Ob_Sd.set_prime hw O5 W20
  have K22 := Keep.of_wr W20
  have OL23 := OL7.keep K22 (allS g_a all0)
  have Z24 : n0 ≤ h19.size := Nat.le_trans Z8 K22.1
  have K25 : Keep h0 h19 [a] := Keep.tr K9 K22 (allS (Or.inl (List.mem_of_getElem? (i := 0) rfl)) all0)
  refine G.aloadN C d1_55 rfl rfl (n := 56) rfl ?_
  refine G.lloadN C d1_56 rfl (n := 57) rfl ?_
  refine G.lconst C (v := (1 : Int64)) d1_57 (by decide) (n := 58) rfl ?_
  refine G.lsub C d1_58 (n := 59) rfl ?_
  refine G.fold_long (z := (12 : Int64)) (by decide) ?_
  refine G.callS C (argsL := [(.long (12 : Int64))]) (yc := (⟨"com/example/veilrelay/veilrelay/core/derived/SmallDomain", "primeFactors", "(J)Ljava/util/List;"⟩ : MethodName)) (wd hw 26 rfl) (wd hw 27 rfl) (wd hw 11 rfl) (wd hw 28 rfl) (by decide) (m_pf12 l Z a0 hw mr dE lc lv em x2 x3 x5 x7 x127 h19 n0 Z24 OL23 M_r S_dE O_dE S_lc O_lc S_em q_2 q_3 q_5 q_7 q_127 E_x2 E_x3 E_x5 E_x7 E_x127) rfl (by decide) (W := 1) rfl (by decide) (c' := 4) (s' := 17) rfl rfl (by decide) (by decide) d1_59 (n := 62) rfl pd17 rfl rfl ?_
  rintro _ h29 ⟨x26, rfl, K27⟩
  have O30 := O21.keep K27 nin0
  have OL31 := OL23.keep K27 all0
  have Z32 : n0 ≤ h29.size := Nat.le_trans Z24 K27.1
  have K33 : Keep h0 h29 [a] := Keep.tr K25 K27 all0
  refine G.putfield C (host := "") (Or.inl (wd hw 182 rfl)) Via.refl (O30.2.2.2) (O30.1) (Or.inr ⟨(wd hw 183 rfl), rfl, rfl⟩) (wd hw 10 rfl) (ty := (.object "java/util/List")) (by decide) rfl rfl g_a d1_62 (n := 65) rfl ?_
  intro h34 W35
  have O36 := Ob_Sd.set_orderFactors hw O30 (v := (.ref x26)) W35
  have K37 := Keep.of_wr W35
  have OL38 := OL31.keep K37 (allS g_a all0)
  have Z39 : n0 ≤ h34.size := Nat.le_trans Z32 K37.1
  have K40 : Keep h0 h34 [a] := Keep.tr K33 K37 (allS (Or.inl (List.mem_of_getElem? (i := 0) rfl)) all0)
  refine G.return_ C d1_65 (by decide) (by decide) ?_
  exact ⟨rfl, K40, _, O36⟩
theorem ef79 (m : MethodId) (a : Addr) : entryFrame m #[(.ref a), (.int (5 : Int32))] 4 = mkF m 0 #[.val (.ref a), .val (.int (5 : Int32)), .unset, .unset] [] := by first | (simp [entryFrame, mkF, argsToLocals, Value.category]; done) | rfl
abbrev Q_sd5 (Z : State) (h0 : Heap) (n0 : Nat) (a : Addr) (mr : Addr) (dE : Addr) (lc : Addr) (lv : List Value) (em : Addr) (x2 : Addr) (x3 : Addr) (x5 : Addr) (x7 : Addr) (x127 : Addr) : Option Value → Heap → Prop := fun v h' => v = none ∧ Keep h0 h' [a] ∧ ∃ fo : Addr, Ob_Sd Z h' a (5 : Int32) (31 : Int64) (.ref fo)
abbrev R_sd5 : Room := { frames := 10, cells := 5, slots := 21, locals := 134 }
set_option maxRecDepth 65536 in
set_option maxHeartbeats 40000000 in
theorem m_sd5 (l : Launch) (Z : State) (a0 : Array Value) (hw : ∀ d ∈ tables_1, d.before a0 Z = true) (a : Addr) (mr : Addr) (dE : Addr) (lc : Addr) (lv : List Value) (em : Addr) (x2 : Addr) (x3 : Addr) (x5 : Addr) (x7 : Addr) (x127 : Addr) (h0 : Heap) (n0 : Nat) (Z0 : n0 ≤ h0.size) (OLD0 : Old Z n0 h0) (M_r : MirA Z "[Ljava/lang/Object;" mr) (S_dE : Sta Z Z.heap "java/util/ArrayList" "DEFAULTCAPACITY_EMPTY_ELEMENTDATA" "[Ljava/lang/Object;" (.ref dE)) (O_dE : Refs Z Z.heap dE (.object "java/lang/Object") []) (S_lc : Sta Z Z.heap "java/lang/Long$LongCache" "cache" "[Ljava/lang/Long;" (.ref lc)) (O_lc : Refs Z Z.heap lc (.object "java/lang/Long") lv) (S_em : Sta Z Z.heap "java/util/ImmutableCollections" "EMPTY" "Ljava/lang/Object;" (.ref em)) (q_2 : lv[130]? = some (.ref x2)) (q_3 : lv[131]? = some (.ref x3)) (q_5 : lv[133]? = some (.ref x5)) (q_7 : lv[135]? = some (.ref x7)) (q_127 : lv[255]? = some (.ref x127)) (E_x2 : Exa Z Z.heap x2 "java/lang/Long") (E_x3 : Exa Z Z.heap x3 "java/lang/Long") (E_x5 : Exa Z Z.heap x5 "java/lang/Long") (E_x7 : Exa Z Z.heap x7 "java/lang/Long") (E_x127 : Exa Z Z.heap x127 "java/lang/Long") (O_a : Ob_Sd Z h0 a 0 0 .null) (g_a : n0 ≤ a) : Met l Z (⟨"com/example/veilrelay/veilrelay/core/derived/SmallDomain", "<init>", "(I)V"⟩ : MethodName) prog_36_method_1_code 4 none R_sd5 #[(.ref a), (.int (5 : Int32))] h0 n0 (Q_sd5 Z h0 n0 a mr dE lc lv em x2 x3 x5 x7 x127) := by
  refine Met.of (plainFor_of_name pn0) (fun m => ef79 m a) ?_
  intro p e s m args below meth c C
  refine G.aloadN C d1_0 rfl rfl (n := 1) rfl ?_
  refine G.objinit C (wd hw 15 rfl) (wd hw 16 rfl) (wd hw 17 rfl) d1_1 rfl (by decide) (W := 0) rfl (by decide) (n := 4) rfl ?_
  refine G.iloadN C d1_4 rfl (n := 5) rfl ?_
  refine G.iconst C (v := (2 : Int32)) d1_5 (by decide) (n := 6) rfl ?_
  refine G.icmp_lt C (A := 5) (B := 2) (by decide) (by decide) d1_6 (by decide) (by decide) (n := 9) (n' := 15) rfl (fun c6_1 => ?_) (fun c6_1 => ?_)
  · exact absurd c6_1 (by decide)
  refine G.iloadN C d1_9 rfl (n := 10) rfl ?_
  refine G.bipush C (v := (31 : Int32)) d1_10 (by decide) (n := 12) rfl ?_
  refine G.icmp_le C (A := 5) (B := 31) (by decide) (by decide) d1_12 (by decide) (by decide) (n := 15) (n' := 25) rfl (fun c12_2 => ?_) (fun c12_2 => ?_)
  rotate_left
  · exact absurd c12_2 (by decide)
  refine G.aloadN C d1_25 rfl rfl (n := 26) rfl ?_
  refine G.iloadN C d1_26 rfl (n := 27) rfl ?_
  refine G.putfield C (host := "") (Or.inl (wd hw 18 rfl)) Via.refl (O_a.2.1) (O_a.1) (Or.inr ⟨(wd hw 19 rfl), rfl, rfl⟩) (wd hw 10 rfl) (ty := .int) (by decide) rfl rfl g_a d1_27 (n := 30) rfl ?_
  intro h3 W4
  have O5 := Ob_Sd.set_bits hw O_a W4
  have K6 := Keep.of_wr W4
  have OL7 := OLD0.keep K6 (allS g_a all0)
  have Z8 : n0 ≤ h3.size := Nat.le_trans Z0 K6.1
  have K9 : Keep h0 h3 [a] := Keep.tr (Keep.refl h0 _) K6 (allS (Or.inl (List.mem_of_getElem? (i := 0) rfl)) all0)
  refine G.lconst C (v := (1 : Int64)) d1_30 (by decide) (n := 31) rfl ?_
  refine G.iloadN C d1_31 rfl (n := 32) rfl ?_
  refine G.lshl C d1_32 (n := 33) rfl ?_
  refine G.fold_long (z := (32 : Int64)) (by decide) ?_
  refine G.lconst C (v := (1 : Int64)) d1_33 (by decide) (n := 34) rfl ?_
  refine G.lsub C d1_34 (n := 35) rfl ?_
  refine G.fold_long (z := (31 : Int64)) (by decide) ?_
  refine G.lstoreN C d1_35 (l' := #[.val (.ref a), .val (.int (5 : Int32)), .val (.long (31 : Int64)), .second]) rfl (n := 36) rfl ?_
  refine G.lloadN C d1_36 rfl (n := 37) rfl ?_
  refine G.callS C (argsL := [(.long (31 : Int64))]) (yc := (⟨"com/example/veilrelay/veilrelay/core/derived/SmallDomain", "isPrime", "(J)Z"⟩ : MethodName)) (wd hw 20 rfl) (wd hw 21 rfl) (wd hw 11 rfl) (wd hw 22 rfl) (by decide) (m_ip31 l Z a0 hw  h3 n0 Z8) rfl (by decide) (W := 0) rfl (by decide) (c' := 0) (s' := 0) rfl rfl (by decide) (by decide) d1_37 (n := 40) rfl pd16 rfl rfl ?_
  rintro _ _ ⟨rfl, rfl⟩
  refine G.if_ne C (A := 1) (by decide) d1_40 (by decide) (by decide) (n := 43) (n' := 50) rfl (fun c40_12 c40_12i => ?_) (fun c40_12 c40_12i => ?_)
  rotate_left
  · exact absurd c40_12 (by decide)
  refine G.aloadN C d1_50 rfl rfl (n := 51) rfl ?_
  refine G.lloadN C d1_51 rfl (n := 52) rfl ?_
  refine G.putfield C (host := "") (Or.inl (wd hw 24 rfl)) Via.refl (O5.2.2.1) (O5.1) (Or.inr ⟨(wd hw 25 rfl), rfl, rfl⟩) (wd hw 10 rfl) (ty := .long) (by decide) rfl rfl g_a d1_52 (n := 55) rfl ?_
  intro h13 W14
  have O15 := Ob_Sd.set_prime hw O5 W14
  have K16 := Keep.of_wr W14
  have OL17 := OL7.keep K16 (allS g_a all0)
  have Z18 : n0 ≤ h13.size := Nat.le_trans Z8 K16.1
  have K19 : Keep h0 h13 [a] := Keep.tr K9 K16 (allS (Or.inl (List.mem_of_getElem? (i := 0) rfl)) all0)
  refine G.aloadN C d1_55 rfl rfl (n := 56) rfl ?_
  refine G.lloadN C d1_56 rfl (n := 57) rfl ?_
  refine G.lconst C (v := (1 : Int64)) d1_57 (by decide) (n := 58) rfl ?_
  refine G.lsub C d1_58 (n := 59) rfl ?_
  refine G.fold_long (z := (30 : Int64)) (by decide) ?_
  refine G.callS C (argsL := [(.long (30 : Int64))]) (yc := (⟨"com/example/veilrelay/veilrelay/core/derived/SmallDomain", "primeFactors", "(J)Ljava/util/List;"⟩ : MethodName)) (wd hw 26 rfl) (wd hw 27 rfl) (wd hw 11 rfl) (wd hw 28 rfl) (by decide) (m_pf30 l Z a0 hw mr dE lc lv em x2 x3 x5 x7 x127 h13 n0 Z18 OL17 M_r S_dE O_dE S_lc O_lc S_em q_2 q_3 q_5 q_7 q_127 E_x2 E_x3 E_x5 E_x7 E_x127) rfl (by decide) (W := 1) rfl (by decide) (c' := 5) (s' := 21) rfl rfl (by decide) (by decide) d1_59 (n := 62) rfl pd17 rfl rfl ?_
  rintro _ h23 ⟨x20, rfl, K21⟩
  have O24 := O15.keep K21 nin0
  have OL25 := OL17.keep K21 all0
  have Z26 : n0 ≤ h23.size := Nat.le_trans Z18 K21.1
  have K27 : Keep h0 h23 [a] := Keep.tr K19 K21 all0
  refine G.putfield C (host := "") (Or.inl (wd hw 182 rfl)) Via.refl (O24.2.2.2) (O24.1) (Or.inr ⟨(wd hw 183 rfl), rfl, rfl⟩) (wd hw 10 rfl) (ty := (.object "java/util/List")) (by decide) rfl rfl g_a d1_62 (n := 65) rfl ?_
  intro h28 W29
  have O30 := Ob_Sd.set_orderFactors hw O24 (v := (.ref x20)) W29
  have K31 := Keep.of_wr W29
  have OL32 := OL25.keep K31 (allS g_a all0)
  have Z33 : n0 ≤ h28.size := Nat.le_trans Z26 K31.1
  have K34 : Keep h0 h28 [a] := Keep.tr K27 K31 (allS (Or.inl (List.mem_of_getElem? (i := 0) rfl)) all0)
  refine G.return_ C d1_65 (by decide) (by decide) ?_
  exact ⟨rfl, K34, _, O30⟩
theorem ef80 (m : MethodId) (a : Addr) : entryFrame m #[(.ref a), (.int (6 : Int32))] 4 = mkF m 0 #[.val (.ref a), .val (.int (6 : Int32)), .unset, .unset] [] := by first | (simp [entryFrame, mkF, argsToLocals, Value.category]; done) | rfl
abbrev Q_sd6 (Z : State) (h0 : Heap) (n0 : Nat) (a : Addr) (mr : Addr) (dE : Addr) (lc : Addr) (lv : List Value) (em : Addr) (x2 : Addr) (x3 : Addr) (x5 : Addr) (x7 : Addr) (x127 : Addr) : Option Value → Heap → Prop := fun v h' => v = none ∧ Keep h0 h' [a] ∧ ∃ fo : Addr, Ob_Sd Z h' a (6 : Int32) (61 : Int64) (.ref fo)
abbrev R_sd6 : Room := { frames := 10, cells := 5, slots := 21, locals := 134 }
set_option maxRecDepth 65536 in
set_option maxHeartbeats 40000000 in
theorem m_sd6 (l : Launch) (Z : State) (a0 : Array Value) (hw : ∀ d ∈ tables_1, d.before a0 Z = true) (a : Addr) (mr : Addr) (dE : Addr) (lc : Addr) (lv : List Value) (em : Addr) (x2 : Addr) (x3 : Addr) (x5 : Addr) (x7 : Addr) (x127 : Addr) (h0 : Heap) (n0 : Nat) (Z0 : n0 ≤ h0.size) (OLD0 : Old Z n0 h0) (M_r : MirA Z "[Ljava/lang/Object;" mr) (S_dE : Sta Z Z.heap "java/util/ArrayList" "DEFAULTCAPACITY_EMPTY_ELEMENTDATA" "[Ljava/lang/Object;" (.ref dE)) (O_dE : Refs Z Z.heap dE (.object "java/lang/Object") []) (S_lc : Sta Z Z.heap "java/lang/Long$LongCache" "cache" "[Ljava/lang/Long;" (.ref lc)) (O_lc : Refs Z Z.heap lc (.object "java/lang/Long") lv) (S_em : Sta Z Z.heap "java/util/ImmutableCollections" "EMPTY" "Ljava/lang/Object;" (.ref em)) (q_2 : lv[130]? = some (.ref x2)) (q_3 : lv[131]? = some (.ref x3)) (q_5 : lv[133]? = some (.ref x5)) (q_7 : lv[135]? = some (.ref x7)) (q_127 : lv[255]? = some (.ref x127)) (E_x2 : Exa Z Z.heap x2 "java/lang/Long") (E_x3 : Exa Z Z.heap x3 "java/lang/Long") (E_x5 : Exa Z Z.heap x5 "java/lang/Long") (E_x7 : Exa Z Z.heap x7 "java/lang/Long") (E_x127 : Exa Z Z.heap x127 "java/lang/Long") (O_a : Ob_Sd Z h0 a 0 0 .null) (g_a : n0 ≤ a) : Met l Z (⟨"com/example/veilrelay/veilrelay/core/derived/SmallDomain", "<init>", "(I)V"⟩ : MethodName) prog_36_method_1_code 4 none R_sd6 #[(.ref a), (.int (6 : Int32))] h0 n0 (Q_sd6 Z h0 n0 a mr dE lc lv em x2 x3 x5 x7 x127) := by
  refine Met.of (plainFor_of_name pn0) (fun m => ef80 m a) ?_
  intro p e s m args below meth c C
  refine G.aloadN C d1_0 rfl rfl (n := 1) rfl ?_
  refine G.objinit C (wd hw 15 rfl) (wd hw 16 rfl) (wd hw 17 rfl) d1_1 rfl (by decide) (W := 0) rfl (by decide) (n := 4) rfl ?_
  refine G.iloadN C d1_4 rfl (n := 5) rfl ?_
  refine G.iconst C (v := (2 : Int32)) d1_5 (by decide) (n := 6) rfl ?_
  refine G.icmp_lt C (A := 6) (B := 2) (by decide) (by decide) d1_6 (by decide) (by decide) (n := 9) (n' := 15) rfl (fun c6_1 => ?_) (fun c6_1 => ?_)
  · exact absurd c6_1 (by decide)
  refine G.iloadN C d1_9 rfl (n := 10) rfl ?_
  refine G.bipush C (v := (31 : Int32)) d1_10 (by decide) (n := 12) rfl ?_
  refine G.icmp_le C (A := 6) (B := 31) (by decide) (by decide) d1_12 (by decide) (by decide) (n := 15) (n' := 25) rfl (fun c12_2 => ?_) (fun c12_2 => ?_)
  rotate_left
  · exact absurd c12_2 (by decide)
  refine G.aloadN C d1_25 rfl rfl (n := 26) rfl ?_
  refine G.iloadN C d1_26 rfl (n := 27) rfl ?_
  refine G.putfield C (host := "") (Or.inl (wd hw 18 rfl)) Via.refl (O_a.2.1) (O_a.1) (Or.inr ⟨(wd hw 19 rfl), rfl, rfl⟩) (wd hw 10 rfl) (ty := .int) (by decide) rfl rfl g_a d1_27 (n := 30) rfl ?_
  intro h3 W4
  have O5 := Ob_Sd.set_bits hw O_a W4
  have K6 := Keep.of_wr W4
  have OL7 := OLD0.keep K6 (allS g_a all0)
  have Z8 : n0 ≤ h3.size := Nat.le_trans Z0 K6.1
  have K9 : Keep h0 h3 [a] := Keep.tr (Keep.refl h0 _) K6 (allS (Or.inl (List.mem_of_getElem? (i := 0) rfl)) all0)
  refine G.lconst C (v := (1 : Int64)) d1_30 (by decide) (n := 31) rfl ?_
  refine G.iloadN C d1_31 rfl (n := 32) rfl ?_
  refine G.lshl C d1_32 (n := 33) rfl ?_
  refine G.fold_long (z := (64 : Int64)) (by decide) ?_
  refine G.lconst C (v := (1 : Int64)) d1_33 (by decide) (n := 34) rfl ?_
  refine G.lsub C d1_34 (n := 35) rfl ?_
  refine G.fold_long (z := (63 : Int64)) (by decide) ?_
  refine G.lstoreN C d1_35 (l' := #[.val (.ref a), .val (.int (6 : Int32)), .val (.long (63 : Int64)), .second]) rfl (n := 36) rfl ?_
  refine G.lloadN C d1_36 rfl (n := 37) rfl ?_
  refine G.callS C (argsL := [(.long (63 : Int64))]) (yc := (⟨"com/example/veilrelay/veilrelay/core/derived/SmallDomain", "isPrime", "(J)Z"⟩ : MethodName)) (wd hw 20 rfl) (wd hw 21 rfl) (wd hw 11 rfl) (wd hw 22 rfl) (by decide) (m_ip63 l Z a0 hw  h3 n0 Z8) rfl (by decide) (W := 0) rfl (by decide) (c' := 0) (s' := 0) rfl rfl (by decide) (by decide) d1_37 (n := 40) rfl pd16 rfl rfl ?_
  rintro _ _ ⟨rfl, rfl⟩
  refine G.if_ne C (A := 0) (by decide) d1_40 (by decide) (by decide) (n := 43) (n' := 50) rfl (fun c40_12 c40_12i => ?_) (fun c40_12 c40_12i => ?_)
  · exact absurd c40_12 (by decide)
  refine G.lloadN C d1_43 rfl (n := 44) rfl ?_
  refine G.lconst C (v := (1 : Int64)) d1_44 (by decide) (n := 45) rfl ?_
  refine G.lsub C d1_45 (n := 46) rfl ?_
  refine G.fold_long (z := (62 : Int64)) (by decide) ?_
  refine G.lstoreN C d1_46 (l' := #[.val (.ref a), .val (.int (6 : Int32)), .val (.long (62 : Int64)), .second]) rfl (n := 47) rfl ?_
  refine G.goto C d1_47 (by decide) (n := 36) (by decide) ?_
  refine G.lloadN C d1_36 rfl (n := 37) rfl ?_
  refine G.callS C (argsL := [(.long (62 : Int64))]) (yc := (⟨"com/example/veilrelay/veilrelay/core/derived/SmallDomain", "isPrime", "(J)Z"⟩ : MethodName)) (wd hw 20 rfl) (wd hw 21 rfl) (wd hw 11 rfl) (wd hw 22 rfl) (by decide) (m_ip62 l Z a0 hw  h3 n0 Z8) rfl (by decide) (W := 0) rfl (by decide) (c' := 0) (s' := 0) rfl rfl (by decide) (by decide) d1_37 (n := 40) rfl pd16 rfl rfl ?_
  rintro _ _ ⟨rfl, rfl⟩
  refine G.if_ne C (A := 0) (by decide) d1_40 (by decide) (by decide) (n := 43) (n' := 50) rfl (fun c40_15 c40_15i => ?_) (fun c40_15 c40_15i => ?_)
  · exact absurd c40_15 (by decide)
  refine G.lloadN C d1_43 rfl (n := 44) rfl ?_
  refine G.lconst C (v := (1 : Int64)) d1_44 (by decide) (n := 45) rfl ?_
  refine G.lsub C d1_45 (n := 46) rfl ?_
  refine G.fold_long (z := (61 : Int64)) (by decide) ?_
  refine G.lstoreN C d1_46 (l' := #[.val (.ref a), .val (.int (6 : Int32)), .val (.long (61 : Int64)), .second]) rfl (n := 47) rfl ?_
  refine G.goto C d1_47 (by decide) (n := 36) (by decide) ?_
  refine G.lloadN C d1_36 rfl (n := 37) rfl ?_
  refine G.callS C (argsL := [(.long (61 : Int64))]) (yc := (⟨"com/example/veilrelay/veilrelay/core/derived/SmallDomain", "isPrime", "(J)Z"⟩ : MethodName)) (wd hw 20 rfl) (wd hw 21 rfl) (wd hw 11 rfl) (wd hw 22 rfl) (by decide) (m_ip61 l Z a0 hw  h3 n0 Z8) rfl (by decide) (W := 0) rfl (by decide) (c' := 0) (s' := 0) rfl rfl (by decide) (by decide) d1_37 (n := 40) rfl pd16 rfl rfl ?_
  rintro _ _ ⟨rfl, rfl⟩
  refine G.if_ne C (A := 1) (by decide) d1_40 (by decide) (by decide) (n := 43) (n' := 50) rfl (fun c40_18 c40_18i => ?_) (fun c40_18 c40_18i => ?_)
  rotate_left
  · exact absurd c40_18 (by decide)
  refine G.aloadN C d1_50 rfl rfl (n := 51) rfl ?_
  refine G.lloadN C d1_51 rfl (n := 52) rfl ?_
  refine G.putfield C (host := "") (Or.inl (wd hw 24 rfl)) Via.refl (O5.2.2.1) (O5.1) (Or.inr ⟨(wd hw 25 rfl), rfl, rfl⟩) (wd hw 10 rfl) (ty := .long) (by decide) rfl rfl g_a d1_52 (n := 55) rfl ?_
  intro h19 W20
  have O21 := Ob_Sd.set_prime hw O5 W20
  have K22 := Keep.of_wr W20
  have OL23 := OL7.keep K22 (allS g_a all0)
  have Z24 : n0 ≤ h19.size := Nat.le_trans Z8 K22.1
  have K25 : Keep h0 h19 [a] := Keep.tr K9 K22 (allS (Or.inl (List.mem_of_getElem? (i := 0) rfl)) all0)
  refine G.aloadN C d1_55 rfl rfl (n := 56) rfl ?_
  refine G.lloadN C d1_56 rfl (n := 57) rfl ?_
  refine G.lconst C (v := (1 : Int64)) d1_57 (by decide) (n := 58) rfl ?_
  refine G.lsub C d1_58 (n := 59) rfl ?_
  refine G.fold_long (z := (60 : Int64)) (by decide) ?_
  refine G.callS C (argsL := [(.long (60 : Int64))]) (yc := (⟨"com/example/veilrelay/veilrelay/core/derived/SmallDomain", "primeFactors", "(J)Ljava/util/List;"⟩ : MethodName)) (wd hw 26 rfl) (wd hw 27 rfl) (wd hw 11 rfl) (wd hw 28 rfl) (by decide) (m_pf60 l Z a0 hw mr dE lc lv em x2 x3 x5 x7 x127 h19 n0 Z24 OL23 M_r S_dE O_dE S_lc O_lc S_em q_2 q_3 q_5 q_7 q_127 E_x2 E_x3 E_x5 E_x7 E_x127) rfl (by decide) (W := 1) rfl (by decide) (c' := 5) (s' := 21) rfl rfl (by decide) (by decide) d1_59 (n := 62) rfl pd17 rfl rfl ?_
  rintro _ h29 ⟨x26, rfl, K27⟩
  have O30 := O21.keep K27 nin0
  have OL31 := OL23.keep K27 all0
  have Z32 : n0 ≤ h29.size := Nat.le_trans Z24 K27.1
  have K33 : Keep h0 h29 [a] := Keep.tr K25 K27 all0
  refine G.putfield C (host := "") (Or.inl (wd hw 182 rfl)) Via.refl (O30.2.2.2) (O30.1) (Or.inr ⟨(wd hw 183 rfl), rfl, rfl⟩) (wd hw 10 rfl) (ty := (.object "java/util/List")) (by decide) rfl rfl g_a d1_62 (n := 65) rfl ?_
  intro h34 W35
  have O36 := Ob_Sd.set_orderFactors hw O30 (v := (.ref x26)) W35
  have K37 := Keep.of_wr W35
  have OL38 := OL31.keep K37 (allS g_a all0)
  have Z39 : n0 ≤ h34.size := Nat.le_trans Z32 K37.1
  have K40 : Keep h0 h34 [a] := Keep.tr K33 K37 (allS (Or.inl (List.mem_of_getElem? (i := 0) rfl)) all0)
  refine G.return_ C d1_65 (by decide) (by decide) ?_
  exact ⟨rfl, K40, _, O36⟩
theorem ef81 (m : MethodId) (a : Addr) : entryFrame m #[(.ref a), (.int (7 : Int32))] 4 = mkF m 0 #[.val (.ref a), .val (.int (7 : Int32)), .unset, .unset] [] := by first | (simp [entryFrame, mkF, argsToLocals, Value.category]; done) | rfl
abbrev Q_sd7 (Z : State) (h0 : Heap) (n0 : Nat) (a : Addr) (mr : Addr) (dE : Addr) (lc : Addr) (lv : List Value) (em : Addr) (x2 : Addr) (x3 : Addr) (x5 : Addr) (x7 : Addr) (x127 : Addr) : Option Value → Heap → Prop := fun v h' => v = none ∧ Keep h0 h' [a] ∧ ∃ fo : Addr, Ob_Sd Z h' a (7 : Int32) (127 : Int64) (.ref fo)
abbrev R_sd7 : Room := { frames := 10, cells := 5, slots := 21, locals := 134 }
set_option maxRecDepth 65536 in
set_option maxHeartbeats 40000000 in
theorem m_sd7 (l : Launch) (Z : State) (a0 : Array Value) (hw : ∀ d ∈ tables_1, d.before a0 Z = true) (a : Addr) (mr : Addr) (dE : Addr) (lc : Addr) (lv : List Value) (em : Addr) (x2 : Addr) (x3 : Addr) (x5 : Addr) (x7 : Addr) (x127 : Addr) (h0 : Heap) (n0 : Nat) (Z0 : n0 ≤ h0.size) (OLD0 : Old Z n0 h0) (M_r : MirA Z "[Ljava/lang/Object;" mr) (S_dE : Sta Z Z.heap "java/util/ArrayList" "DEFAULTCAPACITY_EMPTY_ELEMENTDATA" "[Ljava/lang/Object;" (.ref dE)) (O_dE : Refs Z Z.heap dE (.object "java/lang/Object") []) (S_lc : Sta Z Z.heap "java/lang/Long$LongCache" "cache" "[Ljava/lang/Long;" (.ref lc)) (O_lc : Refs Z Z.heap lc (.object "java/lang/Long") lv) (S_em : Sta Z Z.heap "java/util/ImmutableCollections" "EMPTY" "Ljava/lang/Object;" (.ref em)) (q_2 : lv[130]? = some (.ref x2)) (q_3 : lv[131]? = some (.ref x3)) (q_5 : lv[133]? = some (.ref x5)) (q_7 : lv[135]? = some (.ref x7)) (q_127 : lv[255]? = some (.ref x127)) (E_x2 : Exa Z Z.heap x2 "java/lang/Long") (E_x3 : Exa Z Z.heap x3 "java/lang/Long") (E_x5 : Exa Z Z.heap x5 "java/lang/Long") (E_x7 : Exa Z Z.heap x7 "java/lang/Long") (E_x127 : Exa Z Z.heap x127 "java/lang/Long") (O_a : Ob_Sd Z h0 a 0 0 .null) (g_a : n0 ≤ a) : Met l Z (⟨"com/example/veilrelay/veilrelay/core/derived/SmallDomain", "<init>", "(I)V"⟩ : MethodName) prog_36_method_1_code 4 none R_sd7 #[(.ref a), (.int (7 : Int32))] h0 n0 (Q_sd7 Z h0 n0 a mr dE lc lv em x2 x3 x5 x7 x127) := by
  refine Met.of (plainFor_of_name pn0) (fun m => ef81 m a) ?_
  intro p e s m args below meth c C
  refine G.aloadN C d1_0 rfl rfl (n := 1) rfl ?_
  refine G.objinit C (wd hw 15 rfl) (wd hw 16 rfl) (wd hw 17 rfl) d1_1 rfl (by decide) (W := 0) rfl (by decide) (n := 4) rfl ?_
  refine G.iloadN C d1_4 rfl (n := 5) rfl ?_
  refine G.iconst C (v := (2 : Int32)) d1_5 (by decide) (n := 6) rfl ?_
  refine G.icmp_lt C (A := 7) (B := 2) (by decide) (by decide) d1_6 (by decide) (by decide) (n := 9) (n' := 15) rfl (fun c6_1 => ?_) (fun c6_1 => ?_)
  · exact absurd c6_1 (by decide)
  refine G.iloadN C d1_9 rfl (n := 10) rfl ?_
  refine G.bipush C (v := (31 : Int32)) d1_10 (by decide) (n := 12) rfl ?_
  refine G.icmp_le C (A := 7) (B := 31) (by decide) (by decide) d1_12 (by decide) (by decide) (n := 15) (n' := 25) rfl (fun c12_2 => ?_) (fun c12_2 => ?_)
  rotate_left
  · exact absurd c12_2 (by decide)
  refine G.aloadN C d1_25 rfl rfl (n := 26) rfl ?_
  refine G.iloadN C d1_26 rfl (n := 27) rfl ?_
  refine G.putfield C (host := "") (Or.inl (wd hw 18 rfl)) Via.refl (O_a.2.1) (O_a.1) (Or.inr ⟨(wd hw 19 rfl), rfl, rfl⟩) (wd hw 10 rfl) (ty := .int) (by decide) rfl rfl g_a d1_27 (n := 30) rfl ?_
  intro h3 W4
  have O5 := Ob_Sd.set_bits hw O_a W4
  have K6 := Keep.of_wr W4
  have OL7 := OLD0.keep K6 (allS g_a all0)
  have Z8 : n0 ≤ h3.size := Nat.le_trans Z0 K6.1
  have K9 : Keep h0 h3 [a] := Keep.tr (Keep.refl h0 _) K6 (allS (Or.inl (List.mem_of_getElem? (i := 0) rfl)) all0)
  refine G.lconst C (v := (1 : Int64)) d1_30 (by decide) (n := 31) rfl ?_
  refine G.iloadN C d1_31 rfl (n := 32) rfl ?_
  refine G.lshl C d1_32 (n := 33) rfl ?_
  refine G.fold_long (z := (128 : Int64)) (by decide) ?_
  refine G.lconst C (v := (1 : Int64)) d1_33 (by decide) (n := 34) rfl ?_
  refine G.lsub C d1_34 (n := 35) rfl ?_
  refine G.fold_long (z := (127 : Int64)) (by decide) ?_
  refine G.lstoreN C d1_35 (l' := #[.val (.ref a), .val (.int (7 : Int32)), .val (.long (127 : Int64)), .second]) rfl (n := 36) rfl ?_
  refine G.lloadN C d1_36 rfl (n := 37) rfl ?_
  refine G.callS C (argsL := [(.long (127 : Int64))]) (yc := (⟨"com/example/veilrelay/veilrelay/core/derived/SmallDomain", "isPrime", "(J)Z"⟩ : MethodName)) (wd hw 20 rfl) (wd hw 21 rfl) (wd hw 11 rfl) (wd hw 22 rfl) (by decide) (m_ip127 l Z a0 hw  h3 n0 Z8) rfl (by decide) (W := 0) rfl (by decide) (c' := 0) (s' := 0) rfl rfl (by decide) (by decide) d1_37 (n := 40) rfl pd16 rfl rfl ?_
  rintro _ _ ⟨rfl, rfl⟩
  refine G.if_ne C (A := 1) (by decide) d1_40 (by decide) (by decide) (n := 43) (n' := 50) rfl (fun c40_12 c40_12i => ?_) (fun c40_12 c40_12i => ?_)
  rotate_left
  · exact absurd c40_12 (by decide)
  refine G.aloadN C d1_50 rfl rfl (n := 51) rfl ?_
  refine G.lloadN C d1_51 rfl (n := 52) rfl ?_
  refine G.putfield C (host := "") (Or.inl (wd hw 24 rfl)) Via.refl (O5.2.2.1) (O5.1) (Or.inr ⟨(wd hw 25 rfl), rfl, rfl⟩) (wd hw 10 rfl) (ty := .long) (by decide) rfl rfl g_a d1_52 (n := 55) rfl ?_
  intro h13 W14
  have O15 := Ob_Sd.set_prime hw O5 W14
  have K16 := Keep.of_wr W14
  have OL17 := OL7.keep K16 (allS g_a all0)
  have Z18 : n0 ≤ h13.size := Nat.le_trans Z8 K16.1
  have K19 : Keep h0 h13 [a] := Keep.tr K9 K16 (allS (Or.inl (List.mem_of_getElem? (i := 0) rfl)) all0)
  refine G.aloadN C d1_55 rfl rfl (n := 56) rfl ?_
  refine G.lloadN C d1_56 rfl (n := 57) rfl ?_
  refine G.lconst C (v := (1 : Int64)) d1_57 (by decide) (n := 58) rfl ?_
  refine G.lsub C d1_58 (n := 59) rfl ?_
  refine G.fold_long (z := (126 : Int64)) (by decide) ?_
  refine G.callS C (argsL := [(.long (126 : Int64))]) (yc := (⟨"com/example/veilrelay/veilrelay/core/derived/SmallDomain", "primeFactors", "(J)Ljava/util/List;"⟩ : MethodName)) (wd hw 26 rfl) (wd hw 27 rfl) (wd hw 11 rfl) (wd hw 28 rfl) (by decide) (m_pf126 l Z a0 hw mr dE lc lv em x2 x3 x5 x7 x127 h13 n0 Z18 OL17 M_r S_dE O_dE S_lc O_lc S_em q_2 q_3 q_5 q_7 q_127 E_x2 E_x3 E_x5 E_x7 E_x127) rfl (by decide) (W := 1) rfl (by decide) (c' := 5) (s' := 21) rfl rfl (by decide) (by decide) d1_59 (n := 62) rfl pd17 rfl rfl ?_
  rintro _ h23 ⟨x20, rfl, K21⟩
  have O24 := O15.keep K21 nin0
  have OL25 := OL17.keep K21 all0
  have Z26 : n0 ≤ h23.size := Nat.le_trans Z18 K21.1
  have K27 : Keep h0 h23 [a] := Keep.tr K19 K21 all0
  refine G.putfield C (host := "") (Or.inl (wd hw 182 rfl)) Via.refl (O24.2.2.2) (O24.1) (Or.inr ⟨(wd hw 183 rfl), rfl, rfl⟩) (wd hw 10 rfl) (ty := (.object "java/util/List")) (by decide) rfl rfl g_a d1_62 (n := 65) rfl ?_
  intro h28 W29
  have O30 := Ob_Sd.set_orderFactors hw O24 (v := (.ref x20)) W29
  have K31 := Keep.of_wr W29
  have OL32 := OL25.keep K31 (allS g_a all0)
  have Z33 : n0 ≤ h28.size := Nat.le_trans Z26 K31.1
  have K34 : Keep h0 h28 [a] := Keep.tr K27 K31 (allS (Or.inl (List.mem_of_getElem? (i := 0) rfl)) all0)
  refine G.return_ C d1_65 (by decide) (by decide) ?_
  exact ⟨rfl, K34, _, O30⟩
theorem ef82 (m : MethodId) (a : Addr) : entryFrame m #[(.ref a), (.int (8 : Int32))] 4 = mkF m 0 #[.val (.ref a), .val (.int (8 : Int32)), .unset, .unset] [] := by first | (simp [entryFrame, mkF, argsToLocals, Value.category]; done) | rfl
abbrev Q_sd8 (Z : State) (h0 : Heap) (n0 : Nat) (a : Addr) (mr : Addr) (dE : Addr) (lc : Addr) (lv : List Value) (em : Addr) (x2 : Addr) (x3 : Addr) (x5 : Addr) (x7 : Addr) (x127 : Addr) : Option Value → Heap → Prop := fun v h' => v = none ∧ Keep h0 h' [a] ∧ ∃ fo : Addr, Ob_Sd Z h' a (8 : Int32) (251 : Int64) (.ref fo)
abbrev R_sd8 : Room := { frames := 9, cells := 4, slots := 17, locals := 120 }
set_option maxRecDepth 65536 in
set_option maxHeartbeats 40000000 in
theorem m_sd8 (l : Launch) (Z : State) (a0 : Array Value) (hw : ∀ d ∈ tables_1, d.before a0 Z = true) (a : Addr) (mr : Addr) (dE : Addr) (lc : Addr) (lv : List Value) (em : Addr) (x2 : Addr) (x3 : Addr) (x5 : Addr) (x7 : Addr) (x127 : Addr) (h0 : Heap) (n0 : Nat) (Z0 : n0 ≤ h0.size) (OLD0 : Old Z n0 h0) (M_r : MirA Z "[Ljava/lang/Object;" mr) (S_dE : Sta Z Z.heap "java/util/ArrayList" "DEFAULTCAPACITY_EMPTY_ELEMENTDATA" "[Ljava/lang/Object;" (.ref dE)) (O_dE : Refs Z Z.heap dE (.object "java/lang/Object") []) (S_lc : Sta Z Z.heap "java/lang/Long$LongCache" "cache" "[Ljava/lang/Long;" (.ref lc)) (O_lc : Refs Z Z.heap lc (.object "java/lang/Long") lv) (S_em : Sta Z Z.heap "java/util/ImmutableCollections" "EMPTY" "Ljava/lang/Object;" (.ref em)) (q_2 : lv[130]? = some (.ref x2)) (q_3 : lv[131]? = some (.ref x3)) (q_5 : lv[133]? = some (.ref x5)) (q_7 : lv[135]? = some (.ref x7)) (q_127 : lv[255]? = some (.ref x127)) (E_x2 : Exa Z Z.heap x2 "java/lang/Long") (E_x3 : Exa Z Z.heap x3 "java/lang/Long") (E_x5 : Exa Z Z.heap x5 "java/lang/Long") (E_x7 : Exa Z Z.heap x7 "java/lang/Long") (E_x127 : Exa Z Z.heap x127 "java/lang/Long") (O_a : Ob_Sd Z h0 a 0 0 .null) (g_a : n0 ≤ a) : Met l Z (⟨"com/example/veilrelay/veilrelay/core/derived/SmallDomain", "<init>", "(I)V"⟩ : MethodName) prog_36_method_1_code 4 none R_sd8 #[(.ref a), (.int (8 : Int32))] h0 n0 (Q_sd8 Z h0 n0 a mr dE lc lv em x2 x3 x5 x7 x127) := by
  refine Met.of (plainFor_of_name pn0) (fun m => ef82 m a) ?_
  intro p e s m args below meth c C
  refine G.aloadN C d1_0 rfl rfl (n := 1) rfl ?_
  refine G.objinit C (wd hw 15 rfl) (wd hw 16 rfl) (wd hw 17 rfl) d1_1 rfl (by decide) (W := 0) rfl (by decide) (n := 4) rfl ?_
  refine G.iloadN C d1_4 rfl (n := 5) rfl ?_
  refine G.iconst C (v := (2 : Int32)) d1_5 (by decide) (n := 6) rfl ?_
  refine G.icmp_lt C (A := 8) (B := 2) (by decide) (by decide) d1_6 (by decide) (by decide) (n := 9) (n' := 15) rfl (fun c6_1 => ?_) (fun c6_1 => ?_)
  · exact absurd c6_1 (by decide)
  refine G.iloadN C d1_9 rfl (n := 10) rfl ?_
  refine G.bipush C (v := (31 : Int32)) d1_10 (by decide) (n := 12) rfl ?_
  refine G.icmp_le C (A := 8) (B := 31) (by decide) (by decide) d1_12 (by decide) (by decide) (n := 15) (n' := 25) rfl (fun c12_2 => ?_) (fun c12_2 => ?_)
  rotate_left
  · exact absurd c12_2 (by decide)
  refine G.aloadN C d1_25 rfl rfl (n := 26) rfl ?_
  refine G.iloadN C d1_26 rfl (n := 27) rfl ?_
  refine G.putfield C (host := "") (Or.inl (wd hw 18 rfl)) Via.refl (O_a.2.1) (O_a.1) (Or.inr ⟨(wd hw 19 rfl), rfl, rfl⟩) (wd hw 10 rfl) (ty := .int) (by decide) rfl rfl g_a d1_27 (n := 30) rfl ?_
  intro h3 W4
  have O5 := Ob_Sd.set_bits hw O_a W4
  have K6 := Keep.of_wr W4
  have OL7 := OLD0.keep K6 (allS g_a all0)
  have Z8 : n0 ≤ h3.size := Nat.le_trans Z0 K6.1
  have K9 : Keep h0 h3 [a] := Keep.tr (Keep.refl h0 _) K6 (allS (Or.inl (List.mem_of_getElem? (i := 0) rfl)) all0)
  refine G.lconst C (v := (1 : Int64)) d1_30 (by decide) (n := 31) rfl ?_
  refine G.iloadN C d1_31 rfl (n := 32) rfl ?_
  refine G.lshl C d1_32 (n := 33) rfl ?_
  refine G.fold_long (z := (256 : Int64)) (by decide) ?_
  refine G.lconst C (v := (1 : Int64)) d1_33 (by decide) (n := 34) rfl ?_
  refine G.lsub C d1_34 (n := 35) rfl ?_
  refine G.fold_long (z := (255 : Int64)) (by decide) ?_
  refine G.lstoreN C d1_35 (l' := #[.val (.ref a), .val (.int (8 : Int32)), .val (.long (255 : Int64)), .second]) rfl (n := 36) rfl ?_
  refine G.lloadN C d1_36 rfl (n := 37) rfl ?_
  refine G.callS C (argsL := [(.long (255 : Int64))]) (yc := (⟨"com/example/veilrelay/veilrelay/core/derived/SmallDomain", "isPrime", "(J)Z"⟩ : MethodName)) (wd hw 20 rfl) (wd hw 21 rfl) (wd hw 11 rfl) (wd hw 22 rfl) (by decide) (m_ip255 l Z a0 hw  h3 n0 Z8) rfl (by decide) (W := 0) rfl (by decide) (c' := 0) (s' := 0) rfl rfl (by decide) (by decide) d1_37 (n := 40) rfl pd16 rfl rfl ?_
  rintro _ _ ⟨rfl, rfl⟩
  refine G.if_ne C (A := 0) (by decide) d1_40 (by decide) (by decide) (n := 43) (n' := 50) rfl (fun c40_12 c40_12i => ?_) (fun c40_12 c40_12i => ?_)
  · exact absurd c40_12 (by decide)
  refine G.lloadN C d1_43 rfl (n := 44) rfl ?_
  refine G.lconst C (v := (1 : Int64)) d1_44 (by decide) (n := 45) rfl ?_
  refine G.lsub C d1_45 (n := 46) rfl ?_
  refine G.fold_long (z := (254 : Int64)) (by decide) ?_
  refine G.lstoreN C d1_46 (l' := #[.val (.ref a), .val (.int (8 : Int32)), .val (.long (254 : Int64)), .second]) rfl (n := 47) rfl ?_
  refine G.goto C d1_47 (by decide) (n := 36) (by decide) ?_
  refine G.lloadN C d1_36 rfl (n := 37) rfl ?_
  refine G.callS C (argsL := [(.long (254 : Int64))]) (yc := (⟨"com/example/veilrelay/veilrelay/core/derived/SmallDomain", "isPrime", "(J)Z"⟩ : MethodName)) (wd hw 20 rfl) (wd hw 21 rfl) (wd hw 11 rfl) (wd hw 22 rfl) (by decide) (m_ip254 l Z a0 hw  h3 n0 Z8) rfl (by decide) (W := 0) rfl (by decide) (c' := 0) (s' := 0) rfl rfl (by decide) (by decide) d1_37 (n := 40) rfl pd16 rfl rfl ?_
  rintro _ _ ⟨rfl, rfl⟩
  refine G.if_ne C (A := 0) (by decide) d1_40 (by decide) (by decide) (n := 43) (n' := 50) rfl (fun c40_15 c40_15i => ?_) (fun c40_15 c40_15i => ?_)
  · exact absurd c40_15 (by decide)
  refine G.lloadN C d1_43 rfl (n := 44) rfl ?_
  refine G.lconst C (v := (1 : Int64)) d1_44 (by decide) (n := 45) rfl ?_
  refine G.lsub C d1_45 (n := 46) rfl ?_
  refine G.fold_long (z := (253 : Int64)) (by decide) ?_
  refine G.lstoreN C d1_46 (l' := #[.val (.ref a), .val (.int (8 : Int32)), .val (.long (253 : Int64)), .second]) rfl (n := 47) rfl ?_
  refine G.goto C d1_47 (by decide) (n := 36) (by decide) ?_
  refine G.lloadN C d1_36 rfl (n := 37) rfl ?_
  refine G.callS C (argsL := [(.long (253 : Int64))]) (yc := (⟨"com/example/veilrelay/veilrelay/core/derived/SmallDomain", "isPrime", "(J)Z"⟩ : MethodName)) (wd hw 20 rfl) (wd hw 21 rfl) (wd hw 11 rfl) (wd hw 22 rfl) (by decide) (m_ip253 l Z a0 hw  h3 n0 Z8) rfl (by decide) (W := 0) rfl (by decide) (c' := 0) (s' := 0) rfl rfl (by decide) (by decide) d1_37 (n := 40) rfl pd16 rfl rfl ?_
  rintro _ _ ⟨rfl, rfl⟩
  refine G.if_ne C (A := 0) (by decide) d1_40 (by decide) (by decide) (n := 43) (n' := 50) rfl (fun c40_18 c40_18i => ?_) (fun c40_18 c40_18i => ?_)
  · exact absurd c40_18 (by decide)
  refine G.lloadN C d1_43 rfl (n := 44) rfl ?_
  refine G.lconst C (v := (1 : Int64)) d1_44 (by decide) (n := 45) rfl ?_
  refine G.lsub C d1_45 (n := 46) rfl ?_
  refine G.fold_long (z := (252 : Int64)) (by decide) ?_
  refine G.lstoreN C d1_46 (l' := #[.val (.ref a), .val (.int (8 : Int32)), .val (.long (252 : Int64)), .second]) rfl (n := 47) rfl ?_
  refine G.goto C d1_47 (by decide) (n := 36) (by decide) ?_
  refine G.lloadN C d1_36 rfl (n := 37) rfl ?_
  refine G.callS C (argsL := [(.long (252 : Int64))]) (yc := (⟨"com/example/veilrelay/veilrelay/core/derived/SmallDomain", "isPrime", "(J)Z"⟩ : MethodName)) (wd hw 20 rfl) (wd hw 21 rfl) (wd hw 11 rfl) (wd hw 22 rfl) (by decide) (m_ip252 l Z a0 hw  h3 n0 Z8) rfl (by decide) (W := 0) rfl (by decide) (c' := 0) (s' := 0) rfl rfl (by decide) (by decide) d1_37 (n := 40) rfl pd16 rfl rfl ?_
  rintro _ _ ⟨rfl, rfl⟩
  refine G.if_ne C (A := 0) (by decide) d1_40 (by decide) (by decide) (n := 43) (n' := 50) rfl (fun c40_21 c40_21i => ?_) (fun c40_21 c40_21i => ?_)
  · exact absurd c40_21 (by decide)
  refine G.lloadN C d1_43 rfl (n := 44) rfl ?_
  refine G.lconst C (v := (1 : Int64)) d1_44 (by decide) (n := 45) rfl ?_
  refine G.lsub C d1_45 (n := 46) rfl ?_
  refine G.fold_long (z := (251 : Int64)) (by decide) ?_
  refine G.lstoreN C d1_46 (l' := #[.val (.ref a), .val (.int (8 : Int32)), .val (.long (251 : Int64)), .second]) rfl (n := 47) rfl ?_
  refine G.goto C d1_47 (by decide) (n := 36) (by decide) ?_
  refine G.lloadN C d1_36 rfl (n := 37) rfl ?_
  refine G.callS C (argsL := [(.long (251 : Int64))]) (yc := (⟨"com/example/veilrelay/veilrelay/core/derived/SmallDomain", "isPrime", "(J)Z"⟩ : MethodName)) (wd hw 20 rfl) (wd hw 21 rfl) (wd hw 11 rfl) (wd hw 22 rfl) (by decide) (m_ip251 l Z a0 hw  h3 n0 Z8) rfl (by decide) (W := 0) rfl (by decide) (c' := 0) (s' := 0) rfl rfl (by decide) (by decide) d1_37 (n := 40) rfl pd16 rfl rfl ?_
  rintro _ _ ⟨rfl, rfl⟩
  refine G.if_ne C (A := 1) (by decide) d1_40 (by decide) (by decide) (n := 43) (n' := 50) rfl (fun c40_24 c40_24i => ?_) (fun c40_24 c40_24i => ?_)
  rotate_left
  · exact absurd c40_24 (by decide)
  refine G.aloadN C d1_50 rfl rfl (n := 51) rfl ?_
  refine G.lloadN C d1_51 rfl (n := 52) rfl ?_
  refine G.putfield C (host := "") (Or.inl (wd hw 24 rfl)) Via.refl (O5.2.2.1) (O5.1) (Or.inr ⟨(wd hw 25 rfl), rfl, rfl⟩) (wd hw 10 rfl) (ty := .long) (by decide) rfl rfl g_a d1_52 (n := 55) rfl ?_
  intro h25 W26
  have O27 := Ob_Sd.set_prime hw O5 W26
  have K28 := Keep.of_wr W26
  have OL29 := OL7.keep K28 (allS g_a all0)
  have Z30 : n0 ≤ h25.size := Nat.le_trans Z8 K28.1
  have K31 : Keep h0 h25 [a] := Keep.tr K9 K28 (allS (Or.inl (List.mem_of_getElem? (i := 0) rfl)) all0)
  refine G.aloadN C d1_55 rfl rfl (n := 56) rfl ?_
  refine G.lloadN C d1_56 rfl (n := 57) rfl ?_
  refine G.lconst C (v := (1 : Int64)) d1_57 (by decide) (n := 58) rfl ?_
  refine G.lsub C d1_58 (n := 59) rfl ?_
  refine G.fold_long (z := (250 : Int64)) (by decide) ?_
  refine G.callS C (argsL := [(.long (250 : Int64))]) (yc := (⟨"com/example/veilrelay/veilrelay/core/derived/SmallDomain", "primeFactors", "(J)Ljava/util/List;"⟩ : MethodName)) (wd hw 26 rfl) (wd hw 27 rfl) (wd hw 11 rfl) (wd hw 28 rfl) (by decide) (m_pf250 l Z a0 hw mr dE lc lv em x2 x3 x5 x7 x127 h25 n0 Z30 OL29 M_r S_dE O_dE S_lc O_lc S_em q_2 q_3 q_5 q_7 q_127 E_x2 E_x3 E_x5 E_x7 E_x127) rfl (by decide) (W := 1) rfl (by decide) (c' := 4) (s' := 17) rfl rfl (by decide) (by decide) d1_59 (n := 62) rfl pd17 rfl rfl ?_
  rintro _ h35 ⟨x32, rfl, K33⟩
  have O36 := O27.keep K33 nin0
  have OL37 := OL29.keep K33 all0
  have Z38 : n0 ≤ h35.size := Nat.le_trans Z30 K33.1
  have K39 : Keep h0 h35 [a] := Keep.tr K31 K33 all0
  refine G.putfield C (host := "") (Or.inl (wd hw 182 rfl)) Via.refl (O36.2.2.2) (O36.1) (Or.inr ⟨(wd hw 183 rfl), rfl, rfl⟩) (wd hw 10 rfl) (ty := (.object "java/util/List")) (by decide) rfl rfl g_a d1_62 (n := 65) rfl ?_
  intro h40 W41
  have O42 := Ob_Sd.set_orderFactors hw O36 (v := (.ref x32)) W41
  have K43 := Keep.of_wr W41
  have OL44 := OL37.keep K43 (allS g_a all0)
  have Z45 : n0 ≤ h40.size := Nat.le_trans Z38 K43.1
  have K46 : Keep h0 h40 [a] := Keep.tr K39 K43 (allS (Or.inl (List.mem_of_getElem? (i := 0) rfl)) all0)
  refine G.return_ C d1_65 (by decide) (by decide) ?_
  exact ⟨rfl, K46, _, O42⟩
theorem ef83 (m : MethodId) (a : Addr) : entryFrame m #[(.ref a), (.int (9 : Int32))] 4 = mkF m 0 #[.val (.ref a), .val (.int (9 : Int32)), .unset, .unset] [] := by first | (simp [entryFrame, mkF, argsToLocals, Value.category]; done) | rfl
abbrev Q_sd9 (Z : State) (h0 : Heap) (n0 : Nat) (a : Addr) (mr : Addr) (dE : Addr) (lc : Addr) (lv : List Value) (em : Addr) (x2 : Addr) (x3 : Addr) (x5 : Addr) (x7 : Addr) (x127 : Addr) : Option Value → Heap → Prop := fun v h' => v = none ∧ Keep h0 h' [a] ∧ ∃ fo : Addr, Ob_Sd Z h' a (9 : Int32) (509 : Int64) (.ref fo)
abbrev R_sd9 : Room := { frames := 9, cells := 4, slots := 17, locals := 120 }
set_option maxRecDepth 65536 in
set_option maxHeartbeats 40000000 in
theorem m_sd9 (l : Launch) (Z : State) (a0 : Array Value) (hw : ∀ d ∈ tables_1, d.before a0 Z = true) (a : Addr) (mr : Addr) (dE : Addr) (lc : Addr) (lv : List Value) (em : Addr) (x2 : Addr) (x3 : Addr) (x5 : Addr) (x7 : Addr) (x127 : Addr) (h0 : Heap) (n0 : Nat) (Z0 : n0 ≤ h0.size) (OLD0 : Old Z n0 h0) (M_r : MirA Z "[Ljava/lang/Object;" mr) (S_dE : Sta Z Z.heap "java/util/ArrayList" "DEFAULTCAPACITY_EMPTY_ELEMENTDATA" "[Ljava/lang/Object;" (.ref dE)) (O_dE : Refs Z Z.heap dE (.object "java/lang/Object") []) (S_lc : Sta Z Z.heap "java/lang/Long$LongCache" "cache" "[Ljava/lang/Long;" (.ref lc)) (O_lc : Refs Z Z.heap lc (.object "java/lang/Long") lv) (S_em : Sta Z Z.heap "java/util/ImmutableCollections" "EMPTY" "Ljava/lang/Object;" (.ref em)) (q_2 : lv[130]? = some (.ref x2)) (q_3 : lv[131]? = some (.ref x3)) (q_5 : lv[133]? = some (.ref x5)) (q_7 : lv[135]? = some (.ref x7)) (q_127 : lv[255]? = some (.ref x127)) (E_x2 : Exa Z Z.heap x2 "java/lang/Long") (E_x3 : Exa Z Z.heap x3 "java/lang/Long") (E_x5 : Exa Z Z.heap x5 "java/lang/Long") (E_x7 : Exa Z Z.heap x7 "java/lang/Long") (E_x127 : Exa Z Z.heap x127 "java/lang/Long") (O_a : Ob_Sd Z h0 a 0 0 .null) (g_a : n0 ≤ a) : Met l Z (⟨"com/example/veilrelay/veilrelay/core/derived/SmallDomain", "<init>", "(I)V"⟩ : MethodName) prog_36_method_1_code 4 none R_sd9 #[(.ref a), (.int (9 : Int32))] h0 n0 (Q_sd9 Z h0 n0 a mr dE lc lv em x2 x3 x5 x7 x127) := by
  refine Met.of (plainFor_of_name pn0) (fun m => ef83 m a) ?_
  intro p e s m args below meth c C
  refine G.aloadN C d1_0 rfl rfl (n := 1) rfl ?_
  refine G.objinit C (wd hw 15 rfl) (wd hw 16 rfl) (wd hw 17 rfl) d1_1 rfl (by decide) (W := 0) rfl (by decide) (n := 4) rfl ?_
  refine G.iloadN C d1_4 rfl (n := 5) rfl ?_
  refine G.iconst C (v := (2 : Int32)) d1_5 (by decide) (n := 6) rfl ?_
  refine G.icmp_lt C (A := 9) (B := 2) (by decide) (by decide) d1_6 (by decide) (by decide) (n := 9) (n' := 15) rfl (fun c6_1 => ?_) (fun c6_1 => ?_)
  · exact absurd c6_1 (by decide)
  refine G.iloadN C d1_9 rfl (n := 10) rfl ?_
  refine G.bipush C (v := (31 : Int32)) d1_10 (by decide) (n := 12) rfl ?_
  refine G.icmp_le C (A := 9) (B := 31) (by decide) (by decide) d1_12 (by decide) (by decide) (n := 15) (n' := 25) rfl (fun c12_2 => ?_) (fun c12_2 => ?_)
  rotate_left
  · exact absurd c12_2 (by decide)
  refine G.aloadN C d1_25 rfl rfl (n := 26) rfl ?_
  refine G.iloadN C d1_26 rfl (n := 27) rfl ?_
  refine G.putfield C (host := "") (Or.inl (wd hw 18 rfl)) Via.refl (O_a.2.1) (O_a.1) (Or.inr ⟨(wd hw 19 rfl), rfl, rfl⟩) (wd hw 10 rfl) (ty := .int) (by decide) rfl rfl g_a d1_27 (n := 30) rfl ?_
  intro h3 W4
  have O5 := Ob_Sd.set_bits hw O_a W4
  have K6 := Keep.of_wr W4
  have OL7 := OLD0.keep K6 (allS g_a all0)
  have Z8 : n0 ≤ h3.size := Nat.le_trans Z0 K6.1
  have K9 : Keep h0 h3 [a] := Keep.tr (Keep.refl h0 _) K6 (allS (Or.inl (List.mem_of_getElem? (i := 0) rfl)) all0)
  refine G.lconst C (v := (1 : Int64)) d1_30 (by decide) (n := 31) rfl ?_
  refine G.iloadN C d1_31 rfl (n := 32) rfl ?_
  refine G.lshl C d1_32 (n := 33) rfl ?_
  refine G.fold_long (z := (512 : Int64)) (by decide) ?_
  refine G.lconst C (v := (1 : Int64)) d1_33 (by decide) (n := 34) rfl ?_
  refine G.lsub C d1_34 (n := 35) rfl ?_
  refine G.fold_long (z := (511 : Int64)) (by decide) ?_
  refine G.lstoreN C d1_35 (l' := #[.val (.ref a), .val (.int (9 : Int32)), .val (.long (511 : Int64)), .second]) rfl (n := 36) rfl ?_
  refine G.lloadN C d1_36 rfl (n := 37) rfl ?_
  refine G.callS C (argsL := [(.long (511 : Int64))]) (yc := (⟨"com/example/veilrelay/veilrelay/core/derived/SmallDomain", "isPrime", "(J)Z"⟩ : MethodName)) (wd hw 20 rfl) (wd hw 21 rfl) (wd hw 11 rfl) (wd hw 22 rfl) (by decide) (m_ip511 l Z a0 hw  h3 n0 Z8) rfl (by decide) (W := 0) rfl (by decide) (c' := 0) (s' := 0) rfl rfl (by decide) (by decide) d1_37 (n := 40) rfl pd16 rfl rfl ?_
  rintro _ _ ⟨rfl, rfl⟩
  refine G.if_ne C (A := 0) (by decide) d1_40 (by decide) (by decide) (n := 43) (n' := 50) rfl (fun c40_12 c40_12i => ?_) (fun c40_12 c40_12i => ?_)
  · exact absurd c40_12 (by decide)
  refine G.lloadN C d1_43 rfl (n := 44) rfl ?_
  refine G.lconst C (v := (1 : Int64)) d1_44 (by decide) (n := 45) rfl ?_
  refine G.lsub C d1_45 (n := 46) rfl ?_
  refine G.fold_long (z := (510 : Int64)) (by decide) ?_
  refine G.lstoreN C d1_46 (l' := #[.val (.ref a), .val (.int (9 : Int32)), .val (.long (510 : Int64)), .second]) rfl (n := 47) rfl ?_
  refine G.goto C d1_47 (by decide) (n := 36) (by decide) ?_
  refine G.lloadN C d1_36 rfl (n := 37) rfl ?_
  refine G.callS C (argsL := [(.long (510 : Int64))]) (yc := (⟨"com/example/veilrelay/veilrelay/core/derived/SmallDomain", "isPrime", "(J)Z"⟩ : MethodName)) (wd hw 20 rfl) (wd hw 21 rfl) (wd hw 11 rfl) (wd hw 22 rfl) (by decide) (m_ip510 l Z a0 hw  h3 n0 Z8) rfl (by decide) (W := 0) rfl (by decide) (c' := 0) (s' := 0) rfl rfl (by decide) (by decide) d1_37 (n := 40) rfl pd16 rfl rfl ?_
  rintro _ _ ⟨rfl, rfl⟩
  refine G.if_ne C (A := 0) (by decide) d1_40 (by decide) (by decide) (n := 43) (n' := 50) rfl (fun c40_15 c40_15i => ?_) (fun c40_15 c40_15i => ?_)
  · exact absurd c40_15 (by decide)
  refine G.lloadN C d1_43 rfl (n := 44) rfl ?_
  refine G.lconst C (v := (1 : Int64)) d1_44 (by decide) (n := 45) rfl ?_
  refine G.lsub C d1_45 (n := 46) rfl ?_
  refine G.fold_long (z := (509 : Int64)) (by decide) ?_
  refine G.lstoreN C d1_46 (l' := #[.val (.ref a), .val (.int (9 : Int32)), .val (.long (509 : Int64)), .second]) rfl (n := 47) rfl ?_
  refine G.goto C d1_47 (by decide) (n := 36) (by decide) ?_
  refine G.lloadN C d1_36 rfl (n := 37) rfl ?_
  refine G.callS C (argsL := [(.long (509 : Int64))]) (yc := (⟨"com/example/veilrelay/veilrelay/core/derived/SmallDomain", "isPrime", "(J)Z"⟩ : MethodName)) (wd hw 20 rfl) (wd hw 21 rfl) (wd hw 11 rfl) (wd hw 22 rfl) (by decide) (m_ip509 l Z a0 hw  h3 n0 Z8) rfl (by decide) (W := 0) rfl (by decide) (c' := 0) (s' := 0) rfl rfl (by decide) (by decide) d1_37 (n := 40) rfl pd16 rfl rfl ?_
  rintro _ _ ⟨rfl, rfl⟩
  refine G.if_ne C (A := 1) (by decide) d1_40 (by decide) (by decide) (n := 43) (n' := 50) rfl (fun c40_18 c40_18i => ?_) (fun c40_18 c40_18i => ?_)
  rotate_left
  · exact absurd c40_18 (by decide)
  refine G.aloadN C d1_50 rfl rfl (n := 51) rfl ?_
  refine G.lloadN C d1_51 rfl (n := 52) rfl ?_
  refine G.putfield C (host := "") (Or.inl (wd hw 24 rfl)) Via.refl (O5.2.2.1) (O5.1) (Or.inr ⟨(wd hw 25 rfl), rfl, rfl⟩) (wd hw 10 rfl) (ty := .long) (by decide) rfl rfl g_a d1_52 (n := 55) rfl ?_
  intro h19 W20
  have O21 := Ob_Sd.set_prime hw O5 W20
  have K22 := Keep.of_wr W20
  have OL23 := OL7.keep K22 (allS g_a all0)
  have Z24 : n0 ≤ h19.size := Nat.le_trans Z8 K22.1
  have K25 : Keep h0 h19 [a] := Keep.tr K9 K22 (allS (Or.inl (List.mem_of_getElem? (i := 0) rfl)) all0)
  refine G.aloadN C d1_55 rfl rfl (n := 56) rfl ?_
  refine G.lloadN C d1_56 rfl (n := 57) rfl ?_
  refine G.lconst C (v := (1 : Int64)) d1_57 (by decide) (n := 58) rfl ?_
  refine G.lsub C d1_58 (n := 59) rfl ?_
  refine G.fold_long (z := (508 : Int64)) (by decide) ?_
  refine G.callS C (argsL := [(.long (508 : Int64))]) (yc := (⟨"com/example/veilrelay/veilrelay/core/derived/SmallDomain", "primeFactors", "(J)Ljava/util/List;"⟩ : MethodName)) (wd hw 26 rfl) (wd hw 27 rfl) (wd hw 11 rfl) (wd hw 28 rfl) (by decide) (m_pf508 l Z a0 hw mr dE lc lv em x2 x3 x5 x7 x127 h19 n0 Z24 OL23 M_r S_dE O_dE S_lc O_lc S_em q_2 q_3 q_5 q_7 q_127 E_x2 E_x3 E_x5 E_x7 E_x127) rfl (by decide) (W := 1) rfl (by decide) (c' := 4) (s' := 17) rfl rfl (by decide) (by decide) d1_59 (n := 62) rfl pd17 rfl rfl ?_
  rintro _ h29 ⟨x26, rfl, K27⟩
  have O30 := O21.keep K27 nin0
  have OL31 := OL23.keep K27 all0
  have Z32 : n0 ≤ h29.size := Nat.le_trans Z24 K27.1
  have K33 : Keep h0 h29 [a] := Keep.tr K25 K27 all0
  refine G.putfield C (host := "") (Or.inl (wd hw 182 rfl)) Via.refl (O30.2.2.2) (O30.1) (Or.inr ⟨(wd hw 183 rfl), rfl, rfl⟩) (wd hw 10 rfl) (ty := (.object "java/util/List")) (by decide) rfl rfl g_a d1_62 (n := 65) rfl ?_
  intro h34 W35
  have O36 := Ob_Sd.set_orderFactors hw O30 (v := (.ref x26)) W35
  have K37 := Keep.of_wr W35
  have OL38 := OL31.keep K37 (allS g_a all0)
  have Z39 : n0 ≤ h34.size := Nat.le_trans Z32 K37.1
  have K40 : Keep h0 h34 [a] := Keep.tr K33 K37 (allS (Or.inl (List.mem_of_getElem? (i := 0) rfl)) all0)
  refine G.return_ C d1_65 (by decide) (by decide) ?_
  exact ⟨rfl, K40, _, O36⟩
theorem eight {x : Int32} (h1 : 2 ≤ x.toInt) (h2 : x.toInt ≤ 9) : x = (2 : Int32) ∨ x = (3 : Int32) ∨ x = (4 : Int32) ∨ x = (5 : Int32) ∨ x = (6 : Int32) ∨ x = (7 : Int32) ∨ x = (8 : Int32) ∨ x = (9 : Int32) := by
  have e : ∀ n : Nat, n < 10 → x.toInt = n → x = Int32.ofNat n := fun n hn h => Int32.toInt_inj.mp (h.trans (Int32.toInt_ofNat_of_lt (by omega)).symm)
  have q : x.toInt = 2 ∨ x.toInt = 3 ∨ x.toInt = 4 ∨ x.toInt = 5 ∨ x.toInt = 6 ∨ x.toInt = 7 ∨ x.toInt = 8 ∨ x.toInt = 9 := by omega
  rcases q with q | q | q | q | q | q | q | q
  · exact Or.inl (e 2 (by decide) q)
  · exact Or.inr (Or.inl (e 3 (by decide) q))
  · exact Or.inr (Or.inr (Or.inl (e 4 (by decide) q)))
  · exact Or.inr (Or.inr (Or.inr (Or.inl (e 5 (by decide) q))))
  · exact Or.inr (Or.inr (Or.inr (Or.inr (Or.inl (e 6 (by decide) q)))))
  · exact Or.inr (Or.inr (Or.inr (Or.inr (Or.inr (Or.inl (e 7 (by decide) q))))))
  · exact Or.inr (Or.inr (Or.inr (Or.inr (Or.inr (Or.inr (Or.inl (e 8 (by decide) q)))))))
  · exact Or.inr (Or.inr (Or.inr (Or.inr (Or.inr (Or.inr (Or.inr (e 9 (by decide) q)))))))
theorem two_plus (y : Int32) : 2 ≤ ((2 : Int32) + (y &&& (7 : Int32))).toInt ∧ ((2 : Int32) + (y &&& (7 : Int32))).toInt ≤ 9 := by
  have q := c_and y 7 (by decide)
  have q1 := c_iadd 2 (y &&& 7)
  have q2 := rng32 (2 + (y &&& 7))
  rw [show (7 : Int32).toInt = 7 from rfl] at q
  rw [show (2 : Int32).toInt = 2 from rfl] at q1
  omega
theorem hasL_of {c : Cell} : ∀ (vs : List Value) (i : Nat), (∀ j, j < vs.length → c.slots[i + j]? = vs[j]?) → HasL c i vs
  | [], _, _ => trivial
  | v :: r, i, H => ⟨by have := H 0 (by simp); simpa using this, hasL_of r (i + 1) fun j hj => by
      have := H (j + 1) (by simp only [List.length_cons]; omega)
      rw [show i + 1 + j = i + (j + 1) by omega]; simpa using this⟩
theorem hasL_all (c : Cell) : HasL c 0 c.slots.toList := hasL_of _ 0 fun j hj => by rw [Nat.zero_add, Array.getElem?_toList]
theorem sizeN {cl : Cell} {z : Int32} {n : Nat} (q : cl.slots.size < 2 ^ 31 ∧ cl.slots.size.toInt32 = z) (hz : z.toInt = n) : cl.slots.size = n := by
  have h := congrArg Int32.toInt q.2
  rw [show cl.slots.size.toInt32.toInt = cl.slots.size from Int32.toInt_ofNat_of_lt q.1, hz] at h
  omega
theorem cache_at {s : State} {args : Array Value} {C0 n d K : String} {a : Addr} {cl : Cell} {B : Jvm.Cond} (ea : (Term.static C0 n d).eval args s none [] s = some (.ref a)) (A : Arr s s.heap a cl (.object K)) (hz : cl.slots.size = 256)
    (h : (Jvm.Cond.all (Term.static C0 n d) (Jvm.Cond.and (Jvm.Cond.exactly (Term.elem (Term.static C0 n d) (Term.index 0)) K) B)).value args s none s [] = some true) (k : Nat) (hk : k < 256) : ∃ x, cl.slots.toList[k]? = some (.ref x) ∧ Exa s s.heap x K := by
  have e1 := Cond.all_elim ea (A.fin (Vm.Alike.refl _)) h k (by omega)
  obtain ⟨r1, -⟩ := and_e e1
  obtain ⟨x, hx⟩ := exa_v r1
  have E := exa_at hx r1
  have hj : (Int32.ofNat k).toInt = k := Int32.toInt_ofNat_of_lt (by omega)
  have hjn : (Int32.ofNat k).toNatClampNeg = k := by rw [nat_clamp, hj]; rfl
  have nn : ¬ (Int32.ofNat k) < 0 := not_neg (by omega)
  have i1 : (Term.index 0).eval args s none [k] s = some (.int (Int32.ofNat k)) := by
    have := idx_at (args := args) (s := s) (first := s) (o := none) nn
    rw [hjn] at this; exact this
  rw [elem_f (show (Term.static C0 n d).eval args s none [k] s = some (.ref a) from ea) i1 (A.fin (Vm.Alike.refl _)) nn, hjn] at hx
  exact ⟨x, by rw [Array.getElem?_toList]; exact hx, E⟩
theorem pd18 : parseMethodDescriptor "(I)V" = some ⟨[.int], none⟩ := by decide +kernel
theorem pn13 : plainName "com/example/veilrelay/veilrelay/core/derived/SmallDomainIsIdPinLaw" = true := by first | (simp [plainName, overriddenIn]; done) | decide +kernel
theorem ef84 (m : MethodId) (i0 : Int32) (i1 : Int32) (i2 : Int64) : entryFrame m #[(.int i0), (.int i1), (.long i2)] 14 = mkF m 0 #[.val (.int i0), .val (.int i1), .val (.long i2), .second, .unset, .unset, .unset, .unset, .unset, .unset, .unset, .unset, .unset, .unset] [] := by first | (simp [entryFrame, mkF, argsToLocals, Value.category]; done) | rfl
abbrev Q_law (Z : State) (h0 : Heap) (n0 : Nat) (i0 : Int32) (i1 : Int32) (i2 : Int64) (mr : Addr) (dE : Addr) (lc : Addr) (lv : List Value) (em : Addr) (x2 : Addr) (x3 : Addr) (x5 : Addr) (x7 : Addr) (x127 : Addr) : Option Value → Heap → Prop := fun v h' => v = some (.int 1)
set_option maxRecDepth 65536 in
set_option maxHeartbeats 40000000 in
theorem m_law (l : Launch) (Z : State) (a0 : Array Value) (hw : ∀ d ∈ tables_1, d.before a0 Z = true) (i0 : Int32) (i1 : Int32) (i2 : Int64) (mr : Addr) (dE : Addr) (lc : Addr) (lv : List Value) (em : Addr) (x2 : Addr) (x3 : Addr) (x5 : Addr) (x7 : Addr) (x127 : Addr) (h0 : Heap) (n0 : Nat) (Z0 : n0 ≤ h0.size) (OLD0 : Old Z n0 h0) (M_r : MirA Z "[Ljava/lang/Object;" mr) (S_dE : Sta Z Z.heap "java/util/ArrayList" "DEFAULTCAPACITY_EMPTY_ELEMENTDATA" "[Ljava/lang/Object;" (.ref dE)) (O_dE : Refs Z Z.heap dE (.object "java/lang/Object") []) (S_lc : Sta Z Z.heap "java/lang/Long$LongCache" "cache" "[Ljava/lang/Long;" (.ref lc)) (O_lc : Refs Z Z.heap lc (.object "java/lang/Long") lv) (S_em : Sta Z Z.heap "java/util/ImmutableCollections" "EMPTY" "Ljava/lang/Object;" (.ref em)) (q_2 : lv[130]? = some (.ref x2)) (q_3 : lv[131]? = some (.ref x3)) (q_5 : lv[133]? = some (.ref x5)) (q_7 : lv[135]? = some (.ref x7)) (q_127 : lv[255]? = some (.ref x127)) (E_x2 : Exa Z Z.heap x2 "java/lang/Long") (E_x3 : Exa Z Z.heap x3 "java/lang/Long") (E_x5 : Exa Z Z.heap x5 "java/lang/Long") (E_x7 : Exa Z Z.heap x7 "java/lang/Long") (E_x127 : Exa Z Z.heap x127 "java/lang/Long") : Met l Z (⟨"com/example/veilrelay/veilrelay/core/derived/SmallDomainIsIdPinLaw", "law", "(IIJ)Z"⟩ : MethodName) code 14 (some .boolean) room_1 #[(.int i0), (.int i1), (.long i2)] h0 n0 (Q_law Z h0 n0 i0 i1 i2 mr dE lc lv em x2 x3 x5 x7 x127) := by
  refine Met.of (plainFor_of_name pn13) (fun m => ef84 m i0 i1 i2) ?_
  intro p e s m args below meth c C
  refine G.iconst C (v := (2 : Int32)) at_0 (by decide) (n := 1) rfl ?_
  refine G.iloadN C at_1 rfl (n := 2) rfl ?_
  refine G.bipush C (v := (7 : Int32)) at_2 (by decide) (n := 4) rfl ?_
  refine G.iand C at_4 (n := 5) rfl ?_
  refine G.iadd C at_5 (n := 6) rfl ?_
  refine G.name_int ?_
  intro bt1 hbt1
  have hc2 : bt1 = (2 : Int32) ∨ bt1 = (3 : Int32) ∨ bt1 = (4 : Int32) ∨ bt1 = (5 : Int32) ∨ bt1 = (6 : Int32) ∨ bt1 = (7 : Int32) ∨ bt1 = (8 : Int32) ∨ bt1 = (9 : Int32) := (by rw [hbt1]; exact eight (two_plus i0).1 (two_plus i0).2)
  rcases hc2 with rfl | rfl | rfl | rfl | rfl | rfl | rfl | rfl
  · refine G.istore C at_6 (l' := #[.val (.int i0), .val (.int i1), .val (.long i2), .second, .val (.int (2 : Int32)), .unset, .unset, .unset, .unset, .unset, .unset, .unset, .unset, .unset]) rfl (n := 8) rfl ?_
    refine G.bipush C (v := (8 : Int32)) at_8 (by decide) (n := 10) rfl ?_
    refine G.newarrayJ C (ty := .long) (cap := 8) (wd hw 0 rfl) rfl rfl rfl (by decide) (by decide) (by decide) at_10 (n := 12) rfl (c' := 1) (s' := 8) rfl rfl (by decide) (by decide) ?_
    intro h3 b4 q5 E6 O7
    have O8 : Longs Z h3 b4 [0, 0, 0, 0, 0, 0, 0, 0] := O7
    have g9 : n0 ≤ b4 := Nat.le_trans Z0 (Nat.le_of_eq q5.symm)
    have K10 := kext E6
    have OL11 := OLD0.keep K10 all0
    have Z12 : n0 ≤ h3.size := Nat.le_trans Z0 K10.1
    refine G.dup C at_12 rfl (n := 13) rfl ?_
    refine G.iconst C (v := (0 : Int32)) at_13 (by decide) (n := 14) rfl ?_
    refine G.ldc2 C (v := (3 : Int64)) (wd hw 1 rfl) at_14 (n := 17) rfl ?_
    refine G.lastore C O8 (by decide) (show (0 : Int32).toInt < ((8 : Nat) : Int) by decide) g9 at_17 (n := 18) rfl ?_
    intro h13 K14 W15 O16
    have O17 : Longs Z h13 b4 [(3 : Int64), 0, 0, 0, 0, 0, 0, 0] := O16
    have OL18 := OL11.keep K14 (allS g9 all0)
    have Z19 : n0 ≤ h13.size := Nat.le_trans Z12 K14.1
    refine G.dup C at_18 rfl (n := 19) rfl ?_
    refine G.iconst C (v := (1 : Int32)) at_19 (by decide) (n := 20) rfl ?_
    refine G.ldc2 C (v := (7 : Int64)) (wd hw 2 rfl) at_20 (n := 23) rfl ?_
    refine G.lastore C O17 (by decide) (show (1 : Int32).toInt < ((8 : Nat) : Int) by decide) g9 at_23 (n := 24) rfl ?_
    intro h20 K21 W22 O23
    have O24 : Longs Z h20 b4 [(3 : Int64), (7 : Int64), 0, 0, 0, 0, 0, 0] := O23
    have OL25 := OL18.keep K21 (allS g9 all0)
    have Z26 : n0 ≤ h20.size := Nat.le_trans Z19 K21.1
    refine G.dup C at_24 rfl (n := 25) rfl ?_
    refine G.iconst C (v := (2 : Int32)) at_25 (by decide) (n := 26) rfl ?_
    refine G.ldc2 C (v := (13 : Int64)) (wd hw 3 rfl) at_26 (n := 29) rfl ?_
    refine G.lastore C O24 (by decide) (show (2 : Int32).toInt < ((8 : Nat) : Int) by decide) g9 at_29 (n := 30) rfl ?_
    intro h27 K28 W29 O30
    have O31 : Longs Z h27 b4 [(3 : Int64), (7 : Int64), (13 : Int64), 0, 0, 0, 0, 0] := O30
    have OL32 := OL25.keep K28 (allS g9 all0)
    have Z33 : n0 ≤ h27.size := Nat.le_trans Z26 K28.1
    refine G.dup C at_30 rfl (n := 31) rfl ?_
    refine G.iconst C (v := (3 : Int32)) at_31 (by decide) (n := 32) rfl ?_
    refine G.ldc2 C (v := (31 : Int64)) (wd hw 4 rfl) at_32 (n := 35) rfl ?_
    refine G.lastore C O31 (by decide) (show (3 : Int32).toInt < ((8 : Nat) : Int) by decide) g9 at_35 (n := 36) rfl ?_
    intro h34 K35 W36 O37
    have O38 : Longs Z h34 b4 [(3 : Int64), (7 : Int64), (13 : Int64), (31 : Int64), 0, 0, 0, 0] := O37
    have OL39 := OL32.keep K35 (allS g9 all0)
    have Z40 : n0 ≤ h34.size := Nat.le_trans Z33 K35.1
    refine G.dup C at_36 rfl (n := 37) rfl ?_
    refine G.iconst C (v := (4 : Int32)) at_37 (by decide) (n := 38) rfl ?_
    refine G.ldc2 C (v := (61 : Int64)) (wd hw 5 rfl) at_38 (n := 41) rfl ?_
    refine G.lastore C O38 (by decide) (show (4 : Int32).toInt < ((8 : Nat) : Int) by decide) g9 at_41 (n := 42) rfl ?_
    intro h41 K42 W43 O44
    have O45 : Longs Z h41 b4 [(3 : Int64), (7 : Int64), (13 : Int64), (31 : Int64), (61 : Int64), 0, 0, 0] := O44
    have OL46 := OL39.keep K42 (allS g9 all0)
    have Z47 : n0 ≤ h41.size := Nat.le_trans Z40 K42.1
    refine G.dup C at_42 rfl (n := 43) rfl ?_
    refine G.iconst C (v := (5 : Int32)) at_43 (by decide) (n := 44) rfl ?_
    refine G.ldc2 C (v := (127 : Int64)) (wd hw 6 rfl) at_44 (n := 47) rfl ?_
    refine G.lastore C O45 (by decide) (show (5 : Int32).toInt < ((8 : Nat) : Int) by decide) g9 at_47 (n := 48) rfl ?_
    intro h48 K49 W50 O51
    have O52 : Longs Z h48 b4 [(3 : Int64), (7 : Int64), (13 : Int64), (31 : Int64), (61 : Int64), (127 : Int64), 0, 0] := O51
    have OL53 := OL46.keep K49 (allS g9 all0)
    have Z54 : n0 ≤ h48.size := Nat.le_trans Z47 K49.1
    refine G.dup C at_48 rfl (n := 49) rfl ?_
    refine G.bipush C (v := (6 : Int32)) at_49 (by decide) (n := 51) rfl ?_
    refine G.ldc2 C (v := (251 : Int64)) (wd hw 7 rfl) at_51 (n := 54) rfl ?_
    refine G.lastore C O52 (by decide) (show (6 : Int32).toInt < ((8 : Nat) : Int) by decide) g9 at_54 (n := 55) rfl ?_
    intro h55 K56 W57 O58
    have O59 : Longs Z h55 b4 [(3 : Int64), (7 : Int64), (13 : Int64), (31 : Int64), (61 : Int64), (127 : Int64), (251 : Int64), 0] := O58
    have OL60 := OL53.keep K56 (allS g9 all0)
    have Z61 : n0 ≤ h55.size := Nat.le_trans Z54 K56.1
    refine G.dup C at_55 rfl (n := 56) rfl ?_
    refine G.bipush C (v := (7 : Int32)) at_56 (by decide) (n := 58) rfl ?_
    refine G.ldc2 C (v := (509 : Int64)) (wd hw 8 rfl) at_58 (n := 61) rfl ?_
    refine G.lastore C O59 (by decide) (show (7 : Int32).toInt < ((8 : Nat) : Int) by decide) g9 at_61 (n := 62) rfl ?_
    intro h62 K63 W64 O65
    have O66 : Longs Z h62 b4 [(3 : Int64), (7 : Int64), (13 : Int64), (31 : Int64), (61 : Int64), (127 : Int64), (251 : Int64), (509 : Int64)] := O65
    have OL67 := OL60.keep K63 (allS g9 all0)
    have Z68 : n0 ≤ h62.size := Nat.le_trans Z61 K63.1
    refine G.astore C at_62 rfl (l' := #[.val (.int i0), .val (.int i1), .val (.long i2), .second, .val (.int (2 : Int32)), .val (.ref b4), .unset, .unset, .unset, .unset, .unset, .unset, .unset, .unset]) rfl (n := 64) rfl ?_
    refine G.aload C at_64 rfl rfl (n := 66) rfl ?_
    refine G.iload C at_66 rfl (n := 68) rfl ?_
    refine G.iconst C (v := (2 : Int32)) at_68 (by decide) (n := 69) rfl ?_
    refine G.isub C at_69 (n := 70) rfl ?_
    refine G.fold_int (z := (0 : Int32)) (by decide) ?_
    refine G.laload C (x := (3 : Int64)) O66 (by decide) rfl at_70 (n := 71) rfl ?_
    refine G.lstore C at_71 (l' := #[.val (.int i0), .val (.int i1), .val (.long i2), .second, .val (.int (2 : Int32)), .val (.ref b4), .val (.long (3 : Int64)), .second, .unset, .unset, .unset, .unset, .unset, .unset]) rfl (n := 73) rfl ?_
    refine G.new C (wd hw 9 rfl) (wd hw 10 rfl) (wd hw 11 rfl) at_73 (n := 76) rfl (c' := 2) (s' := 11) rfl rfl (by decide) (by decide) ?_
    intro h69 b70 q71 E72 A73 D74
    have ne75 : b4 ≠ b70 := Nat.ne_of_lt (Nat.lt_of_lt_of_le O66.lt (Nat.le_of_eq q71.symm))
    have g76 : n0 ≤ b70 := Nat.le_trans Z68 (Nat.le_of_eq q71.symm)
    have O77 := Ob_Sd.new hw A73 D74
    have K78 := kext E72
    have O79 := O66.keep K78 nin0
    have OL80 := OL67.keep K78 all0
    have Z81 : n0 ≤ h69.size := Nat.le_trans Z68 K78.1
    refine G.dup C at_76 rfl (n := 77) rfl ?_
    refine G.iload C at_77 rfl (n := 79) rfl ?_
    refine G.callC C (argsL := [(.int (2 : Int32))]) (yc := (⟨"com/example/veilrelay/veilrelay/core/derived/SmallDomain", "<init>", "(I)V"⟩ : MethodName)) (a := b70) rfl (wd hw 12 rfl) (wd hw 13 rfl) (wd hw 11 rfl) (wd hw 14 rfl) (by decide) (m_sd2 l Z a0 hw b70 mr dE lc lv em x2 x3 x5 x7 x127 h69 n0 Z81 OL80 M_r S_dE O_dE S_lc O_lc S_em q_2 q_3 q_5 q_7 q_127 E_x2 E_x3 E_x5 E_x7 E_x127 O77 g76) rfl (by decide) (W := 1) rfl (by decide) (c' := 6) (s' := 27) rfl rfl (by decide) (by decide) at_79 (n := 82) rfl pd18 rfl rfl ?_
    rintro _ h86 ⟨rfl, K82, fo84, O83⟩
    have O87 := O79.keep K82 (ninS ne75 nin0)
    have OL88 := OL80.keep K82 (allS g76 all0)
    have Z89 : n0 ≤ h86.size := Nat.le_trans Z81 K82.1
    refine G.astore C at_82 rfl (l' := #[.val (.int i0), .val (.int i1), .val (.long i2), .second, .val (.int (2 : Int32)), .val (.ref b4), .val (.long (3 : Int64)), .second, .val (.ref b70), .unset, .unset, .unset, .unset, .unset]) rfl (n := 84) rfl ?_
    refine G.iloadN C at_84 rfl (n := 85) rfl ?_
    refine G.iconst C (v := (3 : Int32)) at_85 (by decide) (n := 86) rfl ?_
    refine G.iand C at_86 (n := 87) rfl ?_
    refine G.istoreZ C at_87 (l' := fun z => #[.val (.int i0), .val (.int i1), .val (.long i2), .second, .val (.int (2 : Int32)), .val (.ref b4), .val (.long (3 : Int64)), .second, .val (.ref b70), .val (.int z), .unset, .unset, .unset, .unset]) (fun _ => rfl) (n := 89) rfl ?_
    intro v90 hv90
    refine G.iloadN C at_89 rfl (n := 90) rfl ?_
    refine G.iconst C (v := (2 : Int32)) at_90 (by decide) (n := 91) rfl ?_
    refine G.iushr C at_91 (n := 92) rfl ?_
    refine G.bipush C (v := (7 : Int32)) at_92 (by decide) (n := 94) rfl ?_
    refine G.iand C at_94 (n := 95) rfl ?_
    refine G.iconst C (v := (4 : Int32)) at_95 (by decide) (n := 96) rfl ?_
    refine G.isub C at_96 (n := 97) rfl ?_
    refine G.istoreZ C at_97 (l' := fun z => #[.val (.int i0), .val (.int i1), .val (.long i2), .second, .val (.int (2 : Int32)), .val (.ref b4), .val (.long (3 : Int64)), .second, .val (.ref b70), .val (.int v90), .val (.int z), .unset, .unset, .unset]) (fun _ => rfl) (n := 99) rfl ?_
    intro v91 hv91
    refine G.iload C at_99 rfl (n := 101) rfl ?_
    suffices key95 : ∀ (z95_l11 : Int64), (True) → Go p l e room_1 s m args below meth c n0 (Q_law Z h0 n0 i0 i1 i2 mr dE lc lv em x2 x3 x5 x7 x127) 6 27 h86 (mkF m 148 #[.val (.int i0), .val (.int i1), .val (.long i2), .second, .val (.int (2 : Int32)), .val (.ref b4), .val (.long (3 : Int64)), .second, .val (.ref b70), .val (.int v90), .val (.int v91), .val (.long z95_l11), .second, .unset] []) by
      refine G.if_ne C (A := v90.toInt) rfl at_101 (by decide) (by decide) (n := 104) (n' := 110) rfl (fun c101_92 c101_92i => ?_) (fun c101_92 c101_92i => ?_)
      · refine G.iload C at_110 rfl (n := 112) rfl ?_
        refine G.iconst C (v := (1 : Int32)) at_112 (by decide) (n := 113) rfl ?_
        refine G.icmp_ne C (A := v90.toInt) (B := 1) rfl (by decide) at_113 (by decide) (by decide) (n := 116) (n' := 127) rfl (fun c113_93 c113_93i => ?_) (fun c113_93 c113_93i => ?_)
        · refine G.iload C at_127 rfl (n := 129) rfl ?_
          refine G.iconst C (v := (2 : Int32)) at_129 (by decide) (n := 130) rfl ?_
          refine G.icmp_ne C (A := v90.toInt) (B := 2) rfl (by decide) at_130 (by decide) (by decide) (n := 133) (n' := 141) rfl (fun c130_94 c130_94i => ?_) (fun c130_94 c130_94i => ?_)
          · refine G.lloadN C at_141 rfl (n := 142) rfl ?_
            refine G.ldc2 C (v := (1023 : Int64)) (wd hw 184 rfl) at_142 (n := 145) rfl ?_
            refine G.land C at_145 (n := 146) rfl ?_
            refine G.lstore C at_146 (l' := #[.val (.int i0), .val (.int i1), .val (.long i2), .second, .val (.int (2 : Int32)), .val (.ref b4), .val (.long (3 : Int64)), .second, .val (.ref b70), .val (.int v90), .val (.int v91), .val (.long (i2 &&& (1023 : Int64))), .second, .unset]) rfl (n := 148) rfl ?_
            exact key95 _ (trivial) 
          · refine G.iload C at_133 rfl (n := 135) rfl ?_
            refine G.i2l C at_135 (n := 136) rfl ?_
            refine G.lstore C at_136 (l' := #[.val (.int i0), .val (.int i1), .val (.long i2), .second, .val (.int (2 : Int32)), .val (.ref b4), .val (.long (3 : Int64)), .second, .val (.ref b70), .val (.int v90), .val (.int v91), .val (.long (v91.toInt64)), .second, .unset]) rfl (n := 138) rfl ?_
            refine G.goto C at_138 (by decide) (n := 148) (by decide) ?_
            exact key95 _ (trivial) 
        · refine G.lload C at_116 rfl (n := 118) rfl ?_
          refine G.iload C at_118 rfl (n := 120) rfl ?_
          refine G.i2l C at_120 (n := 121) rfl ?_
          refine G.ladd C at_121 (n := 122) rfl ?_
          refine G.lstore C at_122 (l' := #[.val (.int i0), .val (.int i1), .val (.long i2), .second, .val (.int (2 : Int32)), .val (.ref b4), .val (.long (3 : Int64)), .second, .val (.ref b70), .val (.int v90), .val (.int v91), .val (.long ((3 : Int64) + (v91.toInt64))), .second, .unset]) rfl (n := 124) rfl ?_
          refine G.goto C at_124 (by decide) (n := 148) (by decide) ?_
          exact key95 _ (trivial) 
      · refine G.lloadN C at_104 rfl (n := 105) rfl ?_
        refine G.lstore C at_105 (l' := #[.val (.int i0), .val (.int i1), .val (.long i2), .second, .val (.int (2 : Int32)), .val (.ref b4), .val (.long (3 : Int64)), .second, .val (.ref b70), .val (.int v90), .val (.int v91), .val (.long i2), .second, .unset]) rfl (n := 107) rfl ?_
        refine G.goto C at_107 (by decide) (n := 148) (by decide) ?_
        exact key95 _ (trivial) 
    intro z95_l11 j95 
    refine G.lload C at_148 rfl (n := 150) rfl ?_
    refine G.lconst C (v := (0 : Int64)) at_150 (by decide) (n := 151) rfl ?_
    refine G.lcmp_le C (A := z95_l11.toInt) (B := 0) rfl (by decide) at_151 at_152 (by decide) (by decide) (n := 155) (n' := 169) rfl (fun c152_96 => ?_) (fun c152_96 => ?_)
    · refine G.iconst C (v := (0 : Int32)) at_169 (by decide) (n := 170) rfl ?_
      refine G.istore C at_170 (l' := #[.val (.int i0), .val (.int i1), .val (.long i2), .second, .val (.int (2 : Int32)), .val (.ref b4), .val (.long (3 : Int64)), .second, .val (.ref b70), .val (.int v90), .val (.int v91), .val (.long z95_l11), .second, .val (.int (0 : Int32))]) rfl (n := 172) rfl ?_
      refine G.aload C at_172 rfl rfl (n := 174) rfl ?_
      refine G.lload C at_174 rfl (n := 176) rfl ?_
      refine G.callV C (argsL := [(.long z95_l11)]) (yr := (⟨"com/example/veilrelay/veilrelay/core/derived/SmallDomain", "isId", "(J)Z"⟩ : MethodName)) (yc := (⟨"com/example/veilrelay/veilrelay/core/derived/SmallDomain", "isId", "(J)Z"⟩ : MethodName)) (a := b70) (O83.1) (wd hw 185 rfl) (wd hw 186 rfl) (nfS (wd hw 188 rfl) rfl) (wd hw 188 rfl) (wd hw 187 rfl) (wd hw 11 rfl) (wd hw 189 rfl) (by decide) (m_isid l Z a0 hw b70 _ _ _ z95_l11 h86 n0 Z89 O83) rfl (by decide) (W := 0) rfl (by decide) (c' := 6) (s' := 27) rfl rfl (by decide) (by decide) at_176 (n := 179) rfl pd16 rfl rfl ?_
      rintro _ _ ⟨rfl, rfl⟩
      refine G.iload C at_179 rfl (n := 181) rfl ?_
      have e_p : (3 : Int64).toInt = 3 := by decide
      refine G.icmp_ne C (A := (if 1 ≤ z95_l11.toInt ∧ z95_l11.toInt < (3 : Int64).toInt then 1 else 0 : Int32).toInt) (B := 0) rfl (by decide) at_181 (by decide) (by decide) (n := 184) (n' := 188) rfl (fun c181_99 c181_99i => ?_) (fun c181_99 c181_99i => ?_)
      · exact absurd (if_neg (by omega)) c181_99
      refine G.iconst C (v := (1 : Int32)) at_184 (by decide) (n := 185) rfl ?_
      refine G.goto C at_185 (by decide) (n := 189) (by decide) ?_
      refine G.ireturn C at_189 (rfl) (by simp) (by decide) (by decide) ?_
      exact rfl
    · refine G.lload C at_155 rfl (n := 157) rfl ?_
      refine G.lload C at_157 rfl (n := 159) rfl ?_
      refine G.lconst C (v := (1 : Int64)) at_159 (by decide) (n := 160) rfl ?_
      refine G.lsub C at_160 (n := 161) rfl ?_
      refine G.fold_long (z := (2 : Int64)) (by decide) ?_
      refine G.lcmp_gt C (A := z95_l11.toInt) (B := 2) rfl (by decide) at_161 at_162 (by decide) (by decide) (n := 165) (n' := 169) rfl (fun c162_100 => ?_) (fun c162_100 => ?_)
      · refine G.iconst C (v := (0 : Int32)) at_169 (by decide) (n := 170) rfl ?_
        refine G.istore C at_170 (l' := #[.val (.int i0), .val (.int i1), .val (.long i2), .second, .val (.int (2 : Int32)), .val (.ref b4), .val (.long (3 : Int64)), .second, .val (.ref b70), .val (.int v90), .val (.int v91), .val (.long z95_l11), .second, .val (.int (0 : Int32))]) rfl (n := 172) rfl ?_
        refine G.aload C at_172 rfl rfl (n := 174) rfl ?_
        refine G.lload C at_174 rfl (n := 176) rfl ?_
        refine G.callV C (argsL := [(.long z95_l11)]) (yr := (⟨"com/example/veilrelay/veilrelay/core/derived/SmallDomain", "isId", "(J)Z"⟩ : MethodName)) (yc := (⟨"com/example/veilrelay/veilrelay/core/derived/SmallDomain", "isId", "(J)Z"⟩ : MethodName)) (a := b70) (O83.1) (wd hw 185 rfl) (wd hw 186 rfl) (nfS (wd hw 188 rfl) rfl) (wd hw 188 rfl) (wd hw 187 rfl) (wd hw 11 rfl) (wd hw 189 rfl) (by decide) (m_isid l Z a0 hw b70 _ _ _ z95_l11 h86 n0 Z89 O83) rfl (by decide) (W := 0) rfl (by decide) (c' := 6) (s' := 27) rfl rfl (by decide) (by decide) at_176 (n := 179) rfl pd16 rfl rfl ?_
        rintro _ _ ⟨rfl, rfl⟩
        refine G.iload C at_179 rfl (n := 181) rfl ?_
        have e_p : (3 : Int64).toInt = 3 := by decide
        refine G.icmp_ne C (A := (if 1 ≤ z95_l11.toInt ∧ z95_l11.toInt < (3 : Int64).toInt then 1 else 0 : Int32).toInt) (B := 0) rfl (by decide) at_181 (by decide) (by decide) (n := 184) (n' := 188) rfl (fun c181_103 c181_103i => ?_) (fun c181_103 c181_103i => ?_)
        · exact absurd (if_neg (by omega)) c181_103
        refine G.iconst C (v := (1 : Int32)) at_184 (by decide) (n := 185) rfl ?_
        refine G.goto C at_185 (by decide) (n := 189) (by decide) ?_
        refine G.ireturn C at_189 (rfl) (by simp) (by decide) (by decide) ?_
        exact rfl
      · refine G.iconst C (v := (1 : Int32)) at_165 (by decide) (n := 166) rfl ?_
        refine G.goto C at_166 (by decide) (n := 170) (by decide) ?_
        refine G.istore C at_170 (l' := #[.val (.int i0), .val (.int i1), .val (.long i2), .second, .val (.int (2 : Int32)), .val (.ref b4), .val (.long (3 : Int64)), .second, .val (.ref b70), .val (.int v90), .val (.int v91), .val (.long z95_l11), .second, .val (.int (1 : Int32))]) rfl (n := 172) rfl ?_
        refine G.aload C at_172 rfl rfl (n := 174) rfl ?_
        refine G.lload C at_174 rfl (n := 176) rfl ?_
        refine G.callV C (argsL := [(.long z95_l11)]) (yr := (⟨"com/example/veilrelay/veilrelay/core/derived/SmallDomain", "isId", "(J)Z"⟩ : MethodName)) (yc := (⟨"com/example/veilrelay/veilrelay/core/derived/SmallDomain", "isId", "(J)Z"⟩ : MethodName)) (a := b70) (O83.1) (wd hw 185 rfl) (wd hw 186 rfl) (nfS (wd hw 188 rfl) rfl) (wd hw 188 rfl) (wd hw 187 rfl) (wd hw 11 rfl) (wd hw 189 rfl) (by decide) (m_isid l Z a0 hw b70 _ _ _ z95_l11 h86 n0 Z89 O83) rfl (by decide) (W := 0) rfl (by decide) (c' := 6) (s' := 27) rfl rfl (by decide) (by decide) at_176 (n := 179) rfl pd16 rfl rfl ?_
        rintro _ _ ⟨rfl, rfl⟩
        refine G.iload C at_179 rfl (n := 181) rfl ?_
        have e_p : (3 : Int64).toInt = 3 := by decide
        refine G.icmp_ne C (A := (if 1 ≤ z95_l11.toInt ∧ z95_l11.toInt < (3 : Int64).toInt then 1 else 0 : Int32).toInt) (B := 1) rfl (by decide) at_181 (by decide) (by decide) (n := 184) (n' := 188) rfl (fun c181_106 c181_106i => ?_) (fun c181_106 c181_106i => ?_)
        · exact absurd (if_pos (by omega)) c181_106
        refine G.iconst C (v := (1 : Int32)) at_184 (by decide) (n := 185) rfl ?_
        refine G.goto C at_185 (by decide) (n := 189) (by decide) ?_
        refine G.ireturn C at_189 (rfl) (by simp) (by decide) (by decide) ?_
        exact rfl
  · refine G.istore C at_6 (l' := #[.val (.int i0), .val (.int i1), .val (.long i2), .second, .val (.int (3 : Int32)), .unset, .unset, .unset, .unset, .unset, .unset, .unset, .unset, .unset]) rfl (n := 8) rfl ?_
    refine G.bipush C (v := (8 : Int32)) at_8 (by decide) (n := 10) rfl ?_
    refine G.newarrayJ C (ty := .long) (cap := 8) (wd hw 0 rfl) rfl rfl rfl (by decide) (by decide) (by decide) at_10 (n := 12) rfl (c' := 1) (s' := 8) rfl rfl (by decide) (by decide) ?_
    intro h107 b108 q109 E110 O111
    have O112 : Longs Z h107 b108 [0, 0, 0, 0, 0, 0, 0, 0] := O111
    have g113 : n0 ≤ b108 := Nat.le_trans Z0 (Nat.le_of_eq q109.symm)
    have K114 := kext E110
    have OL115 := OLD0.keep K114 all0
    have Z116 : n0 ≤ h107.size := Nat.le_trans Z0 K114.1
    refine G.dup C at_12 rfl (n := 13) rfl ?_
    refine G.iconst C (v := (0 : Int32)) at_13 (by decide) (n := 14) rfl ?_
    refine G.ldc2 C (v := (3 : Int64)) (wd hw 1 rfl) at_14 (n := 17) rfl ?_
    refine G.lastore C O112 (by decide) (show (0 : Int32).toInt < ((8 : Nat) : Int) by decide) g113 at_17 (n := 18) rfl ?_
    intro h117 K118 W119 O120
    have O121 : Longs Z h117 b108 [(3 : Int64), 0, 0, 0, 0, 0, 0, 0] := O120
    have OL122 := OL115.keep K118 (allS g113 all0)
    have Z123 : n0 ≤ h117.size := Nat.le_trans Z116 K118.1
    refine G.dup C at_18 rfl (n := 19) rfl ?_
    refine G.iconst C (v := (1 : Int32)) at_19 (by decide) (n := 20) rfl ?_
    refine G.ldc2 C (v := (7 : Int64)) (wd hw 2 rfl) at_20 (n := 23) rfl ?_
    refine G.lastore C O121 (by decide) (show (1 : Int32).toInt < ((8 : Nat) : Int) by decide) g113 at_23 (n := 24) rfl ?_
    intro h124 K125 W126 O127
    have O128 : Longs Z h124 b108 [(3 : Int64), (7 : Int64), 0, 0, 0, 0, 0, 0] := O127
    have OL129 := OL122.keep K125 (allS g113 all0)
    have Z130 : n0 ≤ h124.size := Nat.le_trans Z123 K125.1
    refine G.dup C at_24 rfl (n := 25) rfl ?_
    refine G.iconst C (v := (2 : Int32)) at_25 (by decide) (n := 26) rfl ?_
    refine G.ldc2 C (v := (13 : Int64)) (wd hw 3 rfl) at_26 (n := 29) rfl ?_
    refine G.lastore C O128 (by decide) (show (2 : Int32).toInt < ((8 : Nat) : Int) by decide) g113 at_29 (n := 30) rfl ?_
    intro h131 K132 W133 O134
    have O135 : Longs Z h131 b108 [(3 : Int64), (7 : Int64), (13 : Int64), 0, 0, 0, 0, 0] := O134
    have OL136 := OL129.keep K132 (allS g113 all0)
    have Z137 : n0 ≤ h131.size := Nat.le_trans Z130 K132.1
    refine G.dup C at_30 rfl (n := 31) rfl ?_
    refine G.iconst C (v := (3 : Int32)) at_31 (by decide) (n := 32) rfl ?_
    refine G.ldc2 C (v := (31 : Int64)) (wd hw 4 rfl) at_32 (n := 35) rfl ?_
    refine G.lastore C O135 (by decide) (show (3 : Int32).toInt < ((8 : Nat) : Int) by decide) g113 at_35 (n := 36) rfl ?_
    intro h138 K139 W140 O141
    have O142 : Longs Z h138 b108 [(3 : Int64), (7 : Int64), (13 : Int64), (31 : Int64), 0, 0, 0, 0] := O141
    have OL143 := OL136.keep K139 (allS g113 all0)
    have Z144 : n0 ≤ h138.size := Nat.le_trans Z137 K139.1
    refine G.dup C at_36 rfl (n := 37) rfl ?_
    refine G.iconst C (v := (4 : Int32)) at_37 (by decide) (n := 38) rfl ?_
    refine G.ldc2 C (v := (61 : Int64)) (wd hw 5 rfl) at_38 (n := 41) rfl ?_
    refine G.lastore C O142 (by decide) (show (4 : Int32).toInt < ((8 : Nat) : Int) by decide) g113 at_41 (n := 42) rfl ?_
    intro h145 K146 W147 O148
    have O149 : Longs Z h145 b108 [(3 : Int64), (7 : Int64), (13 : Int64), (31 : Int64), (61 : Int64), 0, 0, 0] := O148
    have OL150 := OL143.keep K146 (allS g113 all0)
    have Z151 : n0 ≤ h145.size := Nat.le_trans Z144 K146.1
    refine G.dup C at_42 rfl (n := 43) rfl ?_
    refine G.iconst C (v := (5 : Int32)) at_43 (by decide) (n := 44) rfl ?_
    refine G.ldc2 C (v := (127 : Int64)) (wd hw 6 rfl) at_44 (n := 47) rfl ?_
    refine G.lastore C O149 (by decide) (show (5 : Int32).toInt < ((8 : Nat) : Int) by decide) g113 at_47 (n := 48) rfl ?_
    intro h152 K153 W154 O155
    have O156 : Longs Z h152 b108 [(3 : Int64), (7 : Int64), (13 : Int64), (31 : Int64), (61 : Int64), (127 : Int64), 0, 0] := O155
    have OL157 := OL150.keep K153 (allS g113 all0)
    have Z158 : n0 ≤ h152.size := Nat.le_trans Z151 K153.1
    refine G.dup C at_48 rfl (n := 49) rfl ?_
    refine G.bipush C (v := (6 : Int32)) at_49 (by decide) (n := 51) rfl ?_
    refine G.ldc2 C (v := (251 : Int64)) (wd hw 7 rfl) at_51 (n := 54) rfl ?_
    refine G.lastore C O156 (by decide) (show (6 : Int32).toInt < ((8 : Nat) : Int) by decide) g113 at_54 (n := 55) rfl ?_
    intro h159 K160 W161 O162
    have O163 : Longs Z h159 b108 [(3 : Int64), (7 : Int64), (13 : Int64), (31 : Int64), (61 : Int64), (127 : Int64), (251 : Int64), 0] := O162
    have OL164 := OL157.keep K160 (allS g113 all0)
    have Z165 : n0 ≤ h159.size := Nat.le_trans Z158 K160.1
    refine G.dup C at_55 rfl (n := 56) rfl ?_
    refine G.bipush C (v := (7 : Int32)) at_56 (by decide) (n := 58) rfl ?_
    refine G.ldc2 C (v := (509 : Int64)) (wd hw 8 rfl) at_58 (n := 61) rfl ?_
    refine G.lastore C O163 (by decide) (show (7 : Int32).toInt < ((8 : Nat) : Int) by decide) g113 at_61 (n := 62) rfl ?_
    intro h166 K167 W168 O169
    have O170 : Longs Z h166 b108 [(3 : Int64), (7 : Int64), (13 : Int64), (31 : Int64), (61 : Int64), (127 : Int64), (251 : Int64), (509 : Int64)] := O169
    have OL171 := OL164.keep K167 (allS g113 all0)
    have Z172 : n0 ≤ h166.size := Nat.le_trans Z165 K167.1
    refine G.astore C at_62 rfl (l' := #[.val (.int i0), .val (.int i1), .val (.long i2), .second, .val (.int (3 : Int32)), .val (.ref b108), .unset, .unset, .unset, .unset, .unset, .unset, .unset, .unset]) rfl (n := 64) rfl ?_
    refine G.aload C at_64 rfl rfl (n := 66) rfl ?_
    refine G.iload C at_66 rfl (n := 68) rfl ?_
    refine G.iconst C (v := (2 : Int32)) at_68 (by decide) (n := 69) rfl ?_
    refine G.isub C at_69 (n := 70) rfl ?_
    refine G.fold_int (z := (1 : Int32)) (by decide) ?_
    refine G.laload C (x := (7 : Int64)) O170 (by decide) rfl at_70 (n := 71) rfl ?_
    refine G.lstore C at_71 (l' := #[.val (.int i0), .val (.int i1), .val (.long i2), .second, .val (.int (3 : Int32)), .val (.ref b108), .val (.long (7 : Int64)), .second, .unset, .unset, .unset, .unset, .unset, .unset]) rfl (n := 73) rfl ?_
    refine G.new C (wd hw 9 rfl) (wd hw 10 rfl) (wd hw 11 rfl) at_73 (n := 76) rfl (c' := 2) (s' := 11) rfl rfl (by decide) (by decide) ?_
    intro h173 b174 q175 E176 A177 D178
    have ne179 : b108 ≠ b174 := Nat.ne_of_lt (Nat.lt_of_lt_of_le O170.lt (Nat.le_of_eq q175.symm))
    have g180 : n0 ≤ b174 := Nat.le_trans Z172 (Nat.le_of_eq q175.symm)
    have O181 := Ob_Sd.new hw A177 D178
    have K182 := kext E176
    have O183 := O170.keep K182 nin0
    have OL184 := OL171.keep K182 all0
    have Z185 : n0 ≤ h173.size := Nat.le_trans Z172 K182.1
    refine G.dup C at_76 rfl (n := 77) rfl ?_
    refine G.iload C at_77 rfl (n := 79) rfl ?_
    refine G.callC C (argsL := [(.int (3 : Int32))]) (yc := (⟨"com/example/veilrelay/veilrelay/core/derived/SmallDomain", "<init>", "(I)V"⟩ : MethodName)) (a := b174) rfl (wd hw 12 rfl) (wd hw 13 rfl) (wd hw 11 rfl) (wd hw 14 rfl) (by decide) (m_sd3 l Z a0 hw b174 mr dE lc lv em x2 x3 x5 x7 x127 h173 n0 Z185 OL184 M_r S_dE O_dE S_lc O_lc S_em q_2 q_3 q_5 q_7 q_127 E_x2 E_x3 E_x5 E_x7 E_x127 O181 g180) rfl (by decide) (W := 1) rfl (by decide) (c' := 6) (s' := 28) rfl rfl (by decide) (by decide) at_79 (n := 82) rfl pd18 rfl rfl ?_
    rintro _ h190 ⟨rfl, K186, fo188, O187⟩
    have O191 := O183.keep K186 (ninS ne179 nin0)
    have OL192 := OL184.keep K186 (allS g180 all0)
    have Z193 : n0 ≤ h190.size := Nat.le_trans Z185 K186.1
    refine G.astore C at_82 rfl (l' := #[.val (.int i0), .val (.int i1), .val (.long i2), .second, .val (.int (3 : Int32)), .val (.ref b108), .val (.long (7 : Int64)), .second, .val (.ref b174), .unset, .unset, .unset, .unset, .unset]) rfl (n := 84) rfl ?_
    refine G.iloadN C at_84 rfl (n := 85) rfl ?_
    refine G.iconst C (v := (3 : Int32)) at_85 (by decide) (n := 86) rfl ?_
    refine G.iand C at_86 (n := 87) rfl ?_
    refine G.istoreZ C at_87 (l' := fun z => #[.val (.int i0), .val (.int i1), .val (.long i2), .second, .val (.int (3 : Int32)), .val (.ref b108), .val (.long (7 : Int64)), .second, .val (.ref b174), .val (.int z), .unset, .unset, .unset, .unset]) (fun _ => rfl) (n := 89) rfl ?_
    intro v194 hv194
    refine G.iloadN C at_89 rfl (n := 90) rfl ?_
    refine G.iconst C (v := (2 : Int32)) at_90 (by decide) (n := 91) rfl ?_
    refine G.iushr C at_91 (n := 92) rfl ?_
    refine G.bipush C (v := (7 : Int32)) at_92 (by decide) (n := 94) rfl ?_
    refine G.iand C at_94 (n := 95) rfl ?_
    refine G.iconst C (v := (4 : Int32)) at_95 (by decide) (n := 96) rfl ?_
    refine G.isub C at_96 (n := 97) rfl ?_
    refine G.istoreZ C at_97 (l' := fun z => #[.val (.int i0), .val (.int i1), .val (.long i2), .second, .val (.int (3 : Int32)), .val (.ref b108), .val (.long (7 : Int64)), .second, .val (.ref b174), .val (.int v194), .val (.int z), .unset, .unset, .unset]) (fun _ => rfl) (n := 99) rfl ?_
    intro v195 hv195
    refine G.iload C at_99 rfl (n := 101) rfl ?_
    suffices key199 : ∀ (z199_l11 : Int64), (True) → Go p l e room_1 s m args below meth c n0 (Q_law Z h0 n0 i0 i1 i2 mr dE lc lv em x2 x3 x5 x7 x127) 6 28 h190 (mkF m 148 #[.val (.int i0), .val (.int i1), .val (.long i2), .second, .val (.int (3 : Int32)), .val (.ref b108), .val (.long (7 : Int64)), .second, .val (.ref b174), .val (.int v194), .val (.int v195), .val (.long z199_l11), .second, .unset] []) by
      refine G.if_ne C (A := v194.toInt) rfl at_101 (by decide) (by decide) (n := 104) (n' := 110) rfl (fun c101_196 c101_196i => ?_) (fun c101_196 c101_196i => ?_)
      · refine G.iload C at_110 rfl (n := 112) rfl ?_
        refine G.iconst C (v := (1 : Int32)) at_112 (by decide) (n := 113) rfl ?_
        refine G.icmp_ne C (A := v194.toInt) (B := 1) rfl (by decide) at_113 (by decide) (by decide) (n := 116) (n' := 127) rfl (fun c113_197 c113_197i => ?_) (fun c113_197 c113_197i => ?_)
        · refine G.iload C at_127 rfl (n := 129) rfl ?_
          refine G.iconst C (v := (2 : Int32)) at_129 (by decide) (n := 130) rfl ?_
          refine G.icmp_ne C (A := v194.toInt) (B := 2) rfl (by decide) at_130 (by decide) (by decide) (n := 133) (n' := 141) rfl (fun c130_198 c130_198i => ?_) (fun c130_198 c130_198i => ?_)
          · refine G.lloadN C at_141 rfl (n := 142) rfl ?_
            refine G.ldc2 C (v := (1023 : Int64)) (wd hw 184 rfl) at_142 (n := 145) rfl ?_
            refine G.land C at_145 (n := 146) rfl ?_
            refine G.lstore C at_146 (l' := #[.val (.int i0), .val (.int i1), .val (.long i2), .second, .val (.int (3 : Int32)), .val (.ref b108), .val (.long (7 : Int64)), .second, .val (.ref b174), .val (.int v194), .val (.int v195), .val (.long (i2 &&& (1023 : Int64))), .second, .unset]) rfl (n := 148) rfl ?_
            exact key199 _ (trivial) 
          · refine G.iload C at_133 rfl (n := 135) rfl ?_
            refine G.i2l C at_135 (n := 136) rfl ?_
            refine G.lstore C at_136 (l' := #[.val (.int i0), .val (.int i1), .val (.long i2), .second, .val (.int (3 : Int32)), .val (.ref b108), .val (.long (7 : Int64)), .second, .val (.ref b174), .val (.int v194), .val (.int v195), .val (.long (v195.toInt64)), .second, .unset]) rfl (n := 138) rfl ?_
            refine G.goto C at_138 (by decide) (n := 148) (by decide) ?_
            exact key199 _ (trivial) 
        · refine G.lload C at_116 rfl (n := 118) rfl ?_
          refine G.iload C at_118 rfl (n := 120) rfl ?_
          refine G.i2l C at_120 (n := 121) rfl ?_
          refine G.ladd C at_121 (n := 122) rfl ?_
          refine G.lstore C at_122 (l' := #[.val (.int i0), .val (.int i1), .val (.long i2), .second, .val (.int (3 : Int32)), .val (.ref b108), .val (.long (7 : Int64)), .second, .val (.ref b174), .val (.int v194), .val (.int v195), .val (.long ((7 : Int64) + (v195.toInt64))), .second, .unset]) rfl (n := 124) rfl ?_
          refine G.goto C at_124 (by decide) (n := 148) (by decide) ?_
          exact key199 _ (trivial) 
      · refine G.lloadN C at_104 rfl (n := 105) rfl ?_
        refine G.lstore C at_105 (l' := #[.val (.int i0), .val (.int i1), .val (.long i2), .second, .val (.int (3 : Int32)), .val (.ref b108), .val (.long (7 : Int64)), .second, .val (.ref b174), .val (.int v194), .val (.int v195), .val (.long i2), .second, .unset]) rfl (n := 107) rfl ?_
        refine G.goto C at_107 (by decide) (n := 148) (by decide) ?_
        exact key199 _ (trivial) 
    intro z199_l11 j199 
    refine G.lload C at_148 rfl (n := 150) rfl ?_
    refine G.lconst C (v := (0 : Int64)) at_150 (by decide) (n := 151) rfl ?_
    refine G.lcmp_le C (A := z199_l11.toInt) (B := 0) rfl (by decide) at_151 at_152 (by decide) (by decide) (n := 155) (n' := 169) rfl (fun c152_200 => ?_) (fun c152_200 => ?_)
    · refine G.iconst C (v := (0 : Int32)) at_169 (by decide) (n := 170) rfl ?_
      refine G.istore C at_170 (l' := #[.val (.int i0), .val (.int i1), .val (.long i2), .second, .val (.int (3 : Int32)), .val (.ref b108), .val (.long (7 : Int64)), .second, .val (.ref b174), .val (.int v194), .val (.int v195), .val (.long z199_l11), .second, .val (.int (0 : Int32))]) rfl (n := 172) rfl ?_
      refine G.aload C at_172 rfl rfl (n := 174) rfl ?_
      refine G.lload C at_174 rfl (n := 176) rfl ?_
      refine G.callV C (argsL := [(.long z199_l11)]) (yr := (⟨"com/example/veilrelay/veilrelay/core/derived/SmallDomain", "isId", "(J)Z"⟩ : MethodName)) (yc := (⟨"com/example/veilrelay/veilrelay/core/derived/SmallDomain", "isId", "(J)Z"⟩ : MethodName)) (a := b174) (O187.1) (wd hw 185 rfl) (wd hw 186 rfl) (nfS (wd hw 188 rfl) rfl) (wd hw 188 rfl) (wd hw 187 rfl) (wd hw 11 rfl) (wd hw 189 rfl) (by decide) (m_isid l Z a0 hw b174 _ _ _ z199_l11 h190 n0 Z193 O187) rfl (by decide) (W := 0) rfl (by decide) (c' := 6) (s' := 28) rfl rfl (by decide) (by decide) at_176 (n := 179) rfl pd16 rfl rfl ?_
      rintro _ _ ⟨rfl, rfl⟩
      refine G.iload C at_179 rfl (n := 181) rfl ?_
      have e_p : (7 : Int64).toInt = 7 := by decide
      refine G.icmp_ne C (A := (if 1 ≤ z199_l11.toInt ∧ z199_l11.toInt < (7 : Int64).toInt then 1 else 0 : Int32).toInt) (B := 0) rfl (by decide) at_181 (by decide) (by decide) (n := 184) (n' := 188) rfl (fun c181_203 c181_203i => ?_) (fun c181_203 c181_203i => ?_)
      · exact absurd (if_neg (by omega)) c181_203
      refine G.iconst C (v := (1 : Int32)) at_184 (by decide) (n := 185) rfl ?_
      refine G.goto C at_185 (by decide) (n := 189) (by decide) ?_
      refine G.ireturn C at_189 (rfl) (by simp) (by decide) (by decide) ?_
      exact rfl
    · refine G.lload C at_155 rfl (n := 157) rfl ?_
      refine G.lload C at_157 rfl (n := 159) rfl ?_
      refine G.lconst C (v := (1 : Int64)) at_159 (by decide) (n := 160) rfl ?_
      refine G.lsub C at_160 (n := 161) rfl ?_
      refine G.fold_long (z := (6 : Int64)) (by decide) ?_
      refine G.lcmp_gt C (A := z199_l11.toInt) (B := 6) rfl (by decide) at_161 at_162 (by decide) (by decide) (n := 165) (n' := 169) rfl (fun c162_204 => ?_) (fun c162_204 => ?_)
      · refine G.iconst C (v := (0 : Int32)) at_169 (by decide) (n := 170) rfl ?_
        refine G.istore C at_170 (l' := #[.val (.int i0), .val (.int i1), .val (.long i2), .second, .val (.int (3 : Int32)), .val (.ref b108), .val (.long (7 : Int64)), .second, .val (.ref b174), .val (.int v194), .val (.int v195), .val (.long z199_l11), .second, .val (.int (0 : Int32))]) rfl (n := 172) rfl ?_
        refine G.aload C at_172 rfl rfl (n := 174) rfl ?_
        refine G.lload C at_174 rfl (n := 176) rfl ?_
        refine G.callV C (argsL := [(.long z199_l11)]) (yr := (⟨"com/example/veilrelay/veilrelay/core/derived/SmallDomain", "isId", "(J)Z"⟩ : MethodName)) (yc := (⟨"com/example/veilrelay/veilrelay/core/derived/SmallDomain", "isId", "(J)Z"⟩ : MethodName)) (a := b174) (O187.1) (wd hw 185 rfl) (wd hw 186 rfl) (nfS (wd hw 188 rfl) rfl) (wd hw 188 rfl) (wd hw 187 rfl) (wd hw 11 rfl) (wd hw 189 rfl) (by decide) (m_isid l Z a0 hw b174 _ _ _ z199_l11 h190 n0 Z193 O187) rfl (by decide) (W := 0) rfl (by decide) (c' := 6) (s' := 28) rfl rfl (by decide) (by decide) at_176 (n := 179) rfl pd16 rfl rfl ?_
        rintro _ _ ⟨rfl, rfl⟩
        refine G.iload C at_179 rfl (n := 181) rfl ?_
        have e_p : (7 : Int64).toInt = 7 := by decide
        refine G.icmp_ne C (A := (if 1 ≤ z199_l11.toInt ∧ z199_l11.toInt < (7 : Int64).toInt then 1 else 0 : Int32).toInt) (B := 0) rfl (by decide) at_181 (by decide) (by decide) (n := 184) (n' := 188) rfl (fun c181_207 c181_207i => ?_) (fun c181_207 c181_207i => ?_)
        · exact absurd (if_neg (by omega)) c181_207
        refine G.iconst C (v := (1 : Int32)) at_184 (by decide) (n := 185) rfl ?_
        refine G.goto C at_185 (by decide) (n := 189) (by decide) ?_
        refine G.ireturn C at_189 (rfl) (by simp) (by decide) (by decide) ?_
        exact rfl
      · refine G.iconst C (v := (1 : Int32)) at_165 (by decide) (n := 166) rfl ?_
        refine G.goto C at_166 (by decide) (n := 170) (by decide) ?_
        refine G.istore C at_170 (l' := #[.val (.int i0), .val (.int i1), .val (.long i2), .second, .val (.int (3 : Int32)), .val (.ref b108), .val (.long (7 : Int64)), .second, .val (.ref b174), .val (.int v194), .val (.int v195), .val (.long z199_l11), .second, .val (.int (1 : Int32))]) rfl (n := 172) rfl ?_
        refine G.aload C at_172 rfl rfl (n := 174) rfl ?_
        refine G.lload C at_174 rfl (n := 176) rfl ?_
        refine G.callV C (argsL := [(.long z199_l11)]) (yr := (⟨"com/example/veilrelay/veilrelay/core/derived/SmallDomain", "isId", "(J)Z"⟩ : MethodName)) (yc := (⟨"com/example/veilrelay/veilrelay/core/derived/SmallDomain", "isId", "(J)Z"⟩ : MethodName)) (a := b174) (O187.1) (wd hw 185 rfl) (wd hw 186 rfl) (nfS (wd hw 188 rfl) rfl) (wd hw 188 rfl) (wd hw 187 rfl) (wd hw 11 rfl) (wd hw 189 rfl) (by decide) (m_isid l Z a0 hw b174 _ _ _ z199_l11 h190 n0 Z193 O187) rfl (by decide) (W := 0) rfl (by decide) (c' := 6) (s' := 28) rfl rfl (by decide) (by decide) at_176 (n := 179) rfl pd16 rfl rfl ?_
        rintro _ _ ⟨rfl, rfl⟩
        refine G.iload C at_179 rfl (n := 181) rfl ?_
        have e_p : (7 : Int64).toInt = 7 := by decide
        refine G.icmp_ne C (A := (if 1 ≤ z199_l11.toInt ∧ z199_l11.toInt < (7 : Int64).toInt then 1 else 0 : Int32).toInt) (B := 1) rfl (by decide) at_181 (by decide) (by decide) (n := 184) (n' := 188) rfl (fun c181_210 c181_210i => ?_) (fun c181_210 c181_210i => ?_)
        · exact absurd (if_pos (by omega)) c181_210
        refine G.iconst C (v := (1 : Int32)) at_184 (by decide) (n := 185) rfl ?_
        refine G.goto C at_185 (by decide) (n := 189) (by decide) ?_
        refine G.ireturn C at_189 (rfl) (by simp) (by decide) (by decide) ?_
        exact rfl
  · refine G.istore C at_6 (l' := #[.val (.int i0), .val (.int i1), .val (.long i2), .second, .val (.int (4 : Int32)), .unset, .unset, .unset, .unset, .unset, .unset, .unset, .unset, .unset]) rfl (n := 8) rfl ?_
    refine G.bipush C (v := (8 : Int32)) at_8 (by decide) (n := 10) rfl ?_
    refine G.newarrayJ C (ty := .long) (cap := 8) (wd hw 0 rfl) rfl rfl rfl (by decide) (by decide) (by decide) at_10 (n := 12) rfl (c' := 1) (s' := 8) rfl rfl (by decide) (by decide) ?_
    intro h211 b212 q213 E214 O215
    have O216 : Longs Z h211 b212 [0, 0, 0, 0, 0, 0, 0, 0] := O215
    have g217 : n0 ≤ b212 := Nat.le_trans Z0 (Nat.le_of_eq q213.symm)
    have K218 := kext E214
    have OL219 := OLD0.keep K218 all0
    have Z220 : n0 ≤ h211.size := Nat.le_trans Z0 K218.1
    refine G.dup C at_12 rfl (n := 13) rfl ?_
    refine G.iconst C (v := (0 : Int32)) at_13 (by decide) (n := 14) rfl ?_
    refine G.ldc2 C (v := (3 : Int64)) (wd hw 1 rfl) at_14 (n := 17) rfl ?_
    refine G.lastore C O216 (by decide) (show (0 : Int32).toInt < ((8 : Nat) : Int) by decide) g217 at_17 (n := 18) rfl ?_
    intro h221 K222 W223 O224
    have O225 : Longs Z h221 b212 [(3 : Int64), 0, 0, 0, 0, 0, 0, 0] := O224
    have OL226 := OL219.keep K222 (allS g217 all0)
    have Z227 : n0 ≤ h221.size := Nat.le_trans Z220 K222.1
    refine G.dup C at_18 rfl (n := 19) rfl ?_
    refine G.iconst C (v := (1 : Int32)) at_19 (by decide) (n := 20) rfl ?_
    refine G.ldc2 C (v := (7 : Int64)) (wd hw 2 rfl) at_20 (n := 23) rfl ?_
    refine G.lastore C O225 (by decide) (show (1 : Int32).toInt < ((8 : Nat) : Int) by decide) g217 at_23 (n := 24) rfl ?_
    intro h228 K229 W230 O231
    have O232 : Longs Z h228 b212 [(3 : Int64), (7 : Int64), 0, 0, 0, 0, 0, 0] := O231
    have OL233 := OL226.keep K229 (allS g217 all0)
    have Z234 : n0 ≤ h228.size := Nat.le_trans Z227 K229.1
    refine G.dup C at_24 rfl (n := 25) rfl ?_
    refine G.iconst C (v := (2 : Int32)) at_25 (by decide) (n := 26) rfl ?_
    refine G.ldc2 C (v := (13 : Int64)) (wd hw 3 rfl) at_26 (n := 29) rfl ?_
    refine G.lastore C O232 (by decide) (show (2 : Int32).toInt < ((8 : Nat) : Int) by decide) g217 at_29 (n := 30) rfl ?_
    intro h235 K236 W237 O238
    have O239 : Longs Z h235 b212 [(3 : Int64), (7 : Int64), (13 : Int64), 0, 0, 0, 0, 0] := O238
    have OL240 := OL233.keep K236 (allS g217 all0)
    have Z241 : n0 ≤ h235.size := Nat.le_trans Z234 K236.1
    refine G.dup C at_30 rfl (n := 31) rfl ?_
    refine G.iconst C (v := (3 : Int32)) at_31 (by decide) (n := 32) rfl ?_
    refine G.ldc2 C (v := (31 : Int64)) (wd hw 4 rfl) at_32 (n := 35) rfl ?_
    refine G.lastore C O239 (by decide) (show (3 : Int32).toInt < ((8 : Nat) : Int) by decide) g217 at_35 (n := 36) rfl ?_
    intro h242 K243 W244 O245
    have O246 : Longs Z h242 b212 [(3 : Int64), (7 : Int64), (13 : Int64), (31 : Int64), 0, 0, 0, 0] := O245
    have OL247 := OL240.keep K243 (allS g217 all0)
    have Z248 : n0 ≤ h242.size := Nat.le_trans Z241 K243.1
    refine G.dup C at_36 rfl (n := 37) rfl ?_
    refine G.iconst C (v := (4 : Int32)) at_37 (by decide) (n := 38) rfl ?_
    refine G.ldc2 C (v := (61 : Int64)) (wd hw 5 rfl) at_38 (n := 41) rfl ?_
    refine G.lastore C O246 (by decide) (show (4 : Int32).toInt < ((8 : Nat) : Int) by decide) g217 at_41 (n := 42) rfl ?_
    intro h249 K250 W251 O252
    have O253 : Longs Z h249 b212 [(3 : Int64), (7 : Int64), (13 : Int64), (31 : Int64), (61 : Int64), 0, 0, 0] := O252
    have OL254 := OL247.keep K250 (allS g217 all0)
    have Z255 : n0 ≤ h249.size := Nat.le_trans Z248 K250.1
    refine G.dup C at_42 rfl (n := 43) rfl ?_
    refine G.iconst C (v := (5 : Int32)) at_43 (by decide) (n := 44) rfl ?_
    refine G.ldc2 C (v := (127 : Int64)) (wd hw 6 rfl) at_44 (n := 47) rfl ?_
    refine G.lastore C O253 (by decide) (show (5 : Int32).toInt < ((8 : Nat) : Int) by decide) g217 at_47 (n := 48) rfl ?_
    intro h256 K257 W258 O259
    have O260 : Longs Z h256 b212 [(3 : Int64), (7 : Int64), (13 : Int64), (31 : Int64), (61 : Int64), (127 : Int64), 0, 0] := O259
    have OL261 := OL254.keep K257 (allS g217 all0)
    have Z262 : n0 ≤ h256.size := Nat.le_trans Z255 K257.1
    refine G.dup C at_48 rfl (n := 49) rfl ?_
    refine G.bipush C (v := (6 : Int32)) at_49 (by decide) (n := 51) rfl ?_
    refine G.ldc2 C (v := (251 : Int64)) (wd hw 7 rfl) at_51 (n := 54) rfl ?_
    refine G.lastore C O260 (by decide) (show (6 : Int32).toInt < ((8 : Nat) : Int) by decide) g217 at_54 (n := 55) rfl ?_
    intro h263 K264 W265 O266
    have O267 : Longs Z h263 b212 [(3 : Int64), (7 : Int64), (13 : Int64), (31 : Int64), (61 : Int64), (127 : Int64), (251 : Int64), 0] := O266
    have OL268 := OL261.keep K264 (allS g217 all0)
    have Z269 : n0 ≤ h263.size := Nat.le_trans Z262 K264.1
    refine G.dup C at_55 rfl (n := 56) rfl ?_
    refine G.bipush C (v := (7 : Int32)) at_56 (by decide) (n := 58) rfl ?_
    refine G.ldc2 C (v := (509 : Int64)) (wd hw 8 rfl) at_58 (n := 61) rfl ?_
    refine G.lastore C O267 (by decide) (show (7 : Int32).toInt < ((8 : Nat) : Int) by decide) g217 at_61 (n := 62) rfl ?_
    intro h270 K271 W272 O273
    have O274 : Longs Z h270 b212 [(3 : Int64), (7 : Int64), (13 : Int64), (31 : Int64), (61 : Int64), (127 : Int64), (251 : Int64), (509 : Int64)] := O273
    have OL275 := OL268.keep K271 (allS g217 all0)
    have Z276 : n0 ≤ h270.size := Nat.le_trans Z269 K271.1
    refine G.astore C at_62 rfl (l' := #[.val (.int i0), .val (.int i1), .val (.long i2), .second, .val (.int (4 : Int32)), .val (.ref b212), .unset, .unset, .unset, .unset, .unset, .unset, .unset, .unset]) rfl (n := 64) rfl ?_
    refine G.aload C at_64 rfl rfl (n := 66) rfl ?_
    refine G.iload C at_66 rfl (n := 68) rfl ?_
    refine G.iconst C (v := (2 : Int32)) at_68 (by decide) (n := 69) rfl ?_
    refine G.isub C at_69 (n := 70) rfl ?_
    refine G.fold_int (z := (2 : Int32)) (by decide) ?_
    refine G.laload C (x := (13 : Int64)) O274 (by decide) rfl at_70 (n := 71) rfl ?_
    refine G.lstore C at_71 (l' := #[.val (.int i0), .val (.int i1), .val (.long i2), .second, .val (.int (4 : Int32)), .val (.ref b212), .val (.long (13 : Int64)), .second, .unset, .unset, .unset, .unset, .unset, .unset]) rfl (n := 73) rfl ?_
    refine G.new C (wd hw 9 rfl) (wd hw 10 rfl) (wd hw 11 rfl) at_73 (n := 76) rfl (c' := 2) (s' := 11) rfl rfl (by decide) (by decide) ?_
    intro h277 b278 q279 E280 A281 D282
    have ne283 : b212 ≠ b278 := Nat.ne_of_lt (Nat.lt_of_lt_of_le O274.lt (Nat.le_of_eq q279.symm))
    have g284 : n0 ≤ b278 := Nat.le_trans Z276 (Nat.le_of_eq q279.symm)
    have O285 := Ob_Sd.new hw A281 D282
    have K286 := kext E280
    have O287 := O274.keep K286 nin0
    have OL288 := OL275.keep K286 all0
    have Z289 : n0 ≤ h277.size := Nat.le_trans Z276 K286.1
    refine G.dup C at_76 rfl (n := 77) rfl ?_
    refine G.iload C at_77 rfl (n := 79) rfl ?_
    refine G.callC C (argsL := [(.int (4 : Int32))]) (yc := (⟨"com/example/veilrelay/veilrelay/core/derived/SmallDomain", "<init>", "(I)V"⟩ : MethodName)) (a := b278) rfl (wd hw 12 rfl) (wd hw 13 rfl) (wd hw 11 rfl) (wd hw 14 rfl) (by decide) (m_sd4 l Z a0 hw b278 mr dE lc lv em x2 x3 x5 x7 x127 h277 n0 Z289 OL288 M_r S_dE O_dE S_lc O_lc S_em q_2 q_3 q_5 q_7 q_127 E_x2 E_x3 E_x5 E_x7 E_x127 O285 g284) rfl (by decide) (W := 1) rfl (by decide) (c' := 6) (s' := 28) rfl rfl (by decide) (by decide) at_79 (n := 82) rfl pd18 rfl rfl ?_
    rintro _ h294 ⟨rfl, K290, fo292, O291⟩
    have O295 := O287.keep K290 (ninS ne283 nin0)
    have OL296 := OL288.keep K290 (allS g284 all0)
    have Z297 : n0 ≤ h294.size := Nat.le_trans Z289 K290.1
    refine G.astore C at_82 rfl (l' := #[.val (.int i0), .val (.int i1), .val (.long i2), .second, .val (.int (4 : Int32)), .val (.ref b212), .val (.long (13 : Int64)), .second, .val (.ref b278), .unset, .unset, .unset, .unset, .unset]) rfl (n := 84) rfl ?_
    refine G.iloadN C at_84 rfl (n := 85) rfl ?_
    refine G.iconst C (v := (3 : Int32)) at_85 (by decide) (n := 86) rfl ?_
    refine G.iand C at_86 (n := 87) rfl ?_
    refine G.istoreZ C at_87 (l' := fun z => #[.val (.int i0), .val (.int i1), .val (.long i2), .second, .val (.int (4 : Int32)), .val (.ref b212), .val (.long (13 : Int64)), .second, .val (.ref b278), .val (.int z), .unset, .unset, .unset, .unset]) (fun _ => rfl) (n := 89) rfl ?_
    intro v298 hv298
    refine G.iloadN C at_89 rfl (n := 90) rfl ?_
    refine G.iconst C (v := (2 : Int32)) at_90 (by decide) (n := 91) rfl ?_
    refine G.iushr C at_91 (n := 92) rfl ?_
    refine G.bipush C (v := (7 : Int32)) at_92 (by decide) (n := 94) rfl ?_
    refine G.iand C at_94 (n := 95) rfl ?_
    refine G.iconst C (v := (4 : Int32)) at_95 (by decide) (n := 96) rfl ?_
    refine G.isub C at_96 (n := 97) rfl ?_
    refine G.istoreZ C at_97 (l' := fun z => #[.val (.int i0), .val (.int i1), .val (.long i2), .second, .val (.int (4 : Int32)), .val (.ref b212), .val (.long (13 : Int64)), .second, .val (.ref b278), .val (.int v298), .val (.int z), .unset, .unset, .unset]) (fun _ => rfl) (n := 99) rfl ?_
    intro v299 hv299
    refine G.iload C at_99 rfl (n := 101) rfl ?_
    suffices key303 : ∀ (z303_l11 : Int64), (True) → Go p l e room_1 s m args below meth c n0 (Q_law Z h0 n0 i0 i1 i2 mr dE lc lv em x2 x3 x5 x7 x127) 6 28 h294 (mkF m 148 #[.val (.int i0), .val (.int i1), .val (.long i2), .second, .val (.int (4 : Int32)), .val (.ref b212), .val (.long (13 : Int64)), .second, .val (.ref b278), .val (.int v298), .val (.int v299), .val (.long z303_l11), .second, .unset] []) by
      refine G.if_ne C (A := v298.toInt) rfl at_101 (by decide) (by decide) (n := 104) (n' := 110) rfl (fun c101_300 c101_300i => ?_) (fun c101_300 c101_300i => ?_)
      · refine G.iload C at_110 rfl (n := 112) rfl ?_
        refine G.iconst C (v := (1 : Int32)) at_112 (by decide) (n := 113) rfl ?_
        refine G.icmp_ne C (A := v298.toInt) (B := 1) rfl (by decide) at_113 (by decide) (by decide) (n := 116) (n' := 127) rfl (fun c113_301 c113_301i => ?_) (fun c113_301 c113_301i => ?_)
        · refine G.iload C at_127 rfl (n := 129) rfl ?_
          refine G.iconst C (v := (2 : Int32)) at_129 (by decide) (n := 130) rfl ?_
          refine G.icmp_ne C (A := v298.toInt) (B := 2) rfl (by decide) at_130 (by decide) (by decide) (n := 133) (n' := 141) rfl (fun c130_302 c130_302i => ?_) (fun c130_302 c130_302i => ?_)
          · refine G.lloadN C at_141 rfl (n := 142) rfl ?_
            refine G.ldc2 C (v := (1023 : Int64)) (wd hw 184 rfl) at_142 (n := 145) rfl ?_
            refine G.land C at_145 (n := 146) rfl ?_
            refine G.lstore C at_146 (l' := #[.val (.int i0), .val (.int i1), .val (.long i2), .second, .val (.int (4 : Int32)), .val (.ref b212), .val (.long (13 : Int64)), .second, .val (.ref b278), .val (.int v298), .val (.int v299), .val (.long (i2 &&& (1023 : Int64))), .second, .unset]) rfl (n := 148) rfl ?_
            exact key303 _ (trivial) 
          · refine G.iload C at_133 rfl (n := 135) rfl ?_
            refine G.i2l C at_135 (n := 136) rfl ?_
            refine G.lstore C at_136 (l' := #[.val (.int i0), .val (.int i1), .val (.long i2), .second, .val (.int (4 : Int32)), .val (.ref b212), .val (.long (13 : Int64)), .second, .val (.ref b278), .val (.int v298), .val (.int v299), .val (.long (v299.toInt64)), .second, .unset]) rfl (n := 138) rfl ?_
            refine G.goto C at_138 (by decide) (n := 148) (by decide) ?_
            exact key303 _ (trivial) 
        · refine G.lload C at_116 rfl (n := 118) rfl ?_
          refine G.iload C at_118 rfl (n := 120) rfl ?_
          refine G.i2l C at_120 (n := 121) rfl ?_
          refine G.ladd C at_121 (n := 122) rfl ?_
          refine G.lstore C at_122 (l' := #[.val (.int i0), .val (.int i1), .val (.long i2), .second, .val (.int (4 : Int32)), .val (.ref b212), .val (.long (13 : Int64)), .second, .val (.ref b278), .val (.int v298), .val (.int v299), .val (.long ((13 : Int64) + (v299.toInt64))), .second, .unset]) rfl (n := 124) rfl ?_
          refine G.goto C at_124 (by decide) (n := 148) (by decide) ?_
          exact key303 _ (trivial) 
      · refine G.lloadN C at_104 rfl (n := 105) rfl ?_
        refine G.lstore C at_105 (l' := #[.val (.int i0), .val (.int i1), .val (.long i2), .second, .val (.int (4 : Int32)), .val (.ref b212), .val (.long (13 : Int64)), .second, .val (.ref b278), .val (.int v298), .val (.int v299), .val (.long i2), .second, .unset]) rfl (n := 107) rfl ?_
        refine G.goto C at_107 (by decide) (n := 148) (by decide) ?_
        exact key303 _ (trivial) 
    intro z303_l11 j303 
    refine G.lload C at_148 rfl (n := 150) rfl ?_
    refine G.lconst C (v := (0 : Int64)) at_150 (by decide) (n := 151) rfl ?_
    refine G.lcmp_le C (A := z303_l11.toInt) (B := 0) rfl (by decide) at_151 at_152 (by decide) (by decide) (n := 155) (n' := 169) rfl (fun c152_304 => ?_) (fun c152_304 => ?_)
    · refine G.iconst C (v := (0 : Int32)) at_169 (by decide) (n := 170) rfl ?_
      refine G.istore C at_170 (l' := #[.val (.int i0), .val (.int i1), .val (.long i2), .second, .val (.int (4 : Int32)), .val (.ref b212), .val (.long (13 : Int64)), .second, .val (.ref b278), .val (.int v298), .val (.int v299), .val (.long z303_l11), .second, .val (.int (0 : Int32))]) rfl (n := 172) rfl ?_
      refine G.aload C at_172 rfl rfl (n := 174) rfl ?_
      refine G.lload C at_174 rfl (n := 176) rfl ?_
      refine G.callV C (argsL := [(.long z303_l11)]) (yr := (⟨"com/example/veilrelay/veilrelay/core/derived/SmallDomain", "isId", "(J)Z"⟩ : MethodName)) (yc := (⟨"com/example/veilrelay/veilrelay/core/derived/SmallDomain", "isId", "(J)Z"⟩ : MethodName)) (a := b278) (O291.1) (wd hw 185 rfl) (wd hw 186 rfl) (nfS (wd hw 188 rfl) rfl) (wd hw 188 rfl) (wd hw 187 rfl) (wd hw 11 rfl) (wd hw 189 rfl) (by decide) (m_isid l Z a0 hw b278 _ _ _ z303_l11 h294 n0 Z297 O291) rfl (by decide) (W := 0) rfl (by decide) (c' := 6) (s' := 28) rfl rfl (by decide) (by decide) at_176 (n := 179) rfl pd16 rfl rfl ?_
      rintro _ _ ⟨rfl, rfl⟩
      refine G.iload C at_179 rfl (n := 181) rfl ?_
      have e_p : (13 : Int64).toInt = 13 := by decide
      refine G.icmp_ne C (A := (if 1 ≤ z303_l11.toInt ∧ z303_l11.toInt < (13 : Int64).toInt then 1 else 0 : Int32).toInt) (B := 0) rfl (by decide) at_181 (by decide) (by decide) (n := 184) (n' := 188) rfl (fun c181_307 c181_307i => ?_) (fun c181_307 c181_307i => ?_)
      · exact absurd (if_neg (by omega)) c181_307
      refine G.iconst C (v := (1 : Int32)) at_184 (by decide) (n := 185) rfl ?_
      refine G.goto C at_185 (by decide) (n := 189) (by decide) ?_
      refine G.ireturn C at_189 (rfl) (by simp) (by decide) (by decide) ?_
      exact rfl
    · refine G.lload C at_155 rfl (n := 157) rfl ?_
      refine G.lload C at_157 rfl (n := 159) rfl ?_
      refine G.lconst C (v := (1 : Int64)) at_159 (by decide) (n := 160) rfl ?_
      refine G.lsub C at_160 (n := 161) rfl ?_
      refine G.fold_long (z := (12 : Int64)) (by decide) ?_
      refine G.lcmp_gt C (A := z303_l11.toInt) (B := 12) rfl (by decide) at_161 at_162 (by decide) (by decide) (n := 165) (n' := 169) rfl (fun c162_308 => ?_) (fun c162_308 => ?_)
      · refine G.iconst C (v := (0 : Int32)) at_169 (by decide) (n := 170) rfl ?_
        refine G.istore C at_170 (l' := #[.val (.int i0), .val (.int i1), .val (.long i2), .second, .val (.int (4 : Int32)), .val (.ref b212), .val (.long (13 : Int64)), .second, .val (.ref b278), .val (.int v298), .val (.int v299), .val (.long z303_l11), .second, .val (.int (0 : Int32))]) rfl (n := 172) rfl ?_
        refine G.aload C at_172 rfl rfl (n := 174) rfl ?_
        refine G.lload C at_174 rfl (n := 176) rfl ?_
        refine G.callV C (argsL := [(.long z303_l11)]) (yr := (⟨"com/example/veilrelay/veilrelay/core/derived/SmallDomain", "isId", "(J)Z"⟩ : MethodName)) (yc := (⟨"com/example/veilrelay/veilrelay/core/derived/SmallDomain", "isId", "(J)Z"⟩ : MethodName)) (a := b278) (O291.1) (wd hw 185 rfl) (wd hw 186 rfl) (nfS (wd hw 188 rfl) rfl) (wd hw 188 rfl) (wd hw 187 rfl) (wd hw 11 rfl) (wd hw 189 rfl) (by decide) (m_isid l Z a0 hw b278 _ _ _ z303_l11 h294 n0 Z297 O291) rfl (by decide) (W := 0) rfl (by decide) (c' := 6) (s' := 28) rfl rfl (by decide) (by decide) at_176 (n := 179) rfl pd16 rfl rfl ?_
        rintro _ _ ⟨rfl, rfl⟩
        refine G.iload C at_179 rfl (n := 181) rfl ?_
        have e_p : (13 : Int64).toInt = 13 := by decide
        refine G.icmp_ne C (A := (if 1 ≤ z303_l11.toInt ∧ z303_l11.toInt < (13 : Int64).toInt then 1 else 0 : Int32).toInt) (B := 0) rfl (by decide) at_181 (by decide) (by decide) (n := 184) (n' := 188) rfl (fun c181_311 c181_311i => ?_) (fun c181_311 c181_311i => ?_)
        · exact absurd (if_neg (by omega)) c181_311
        refine G.iconst C (v := (1 : Int32)) at_184 (by decide) (n := 185) rfl ?_
        refine G.goto C at_185 (by decide) (n := 189) (by decide) ?_
        refine G.ireturn C at_189 (rfl) (by simp) (by decide) (by decide) ?_
        exact rfl
      · refine G.iconst C (v := (1 : Int32)) at_165 (by decide) (n := 166) rfl ?_
        refine G.goto C at_166 (by decide) (n := 170) (by decide) ?_
        refine G.istore C at_170 (l' := #[.val (.int i0), .val (.int i1), .val (.long i2), .second, .val (.int (4 : Int32)), .val (.ref b212), .val (.long (13 : Int64)), .second, .val (.ref b278), .val (.int v298), .val (.int v299), .val (.long z303_l11), .second, .val (.int (1 : Int32))]) rfl (n := 172) rfl ?_
        refine G.aload C at_172 rfl rfl (n := 174) rfl ?_
        refine G.lload C at_174 rfl (n := 176) rfl ?_
        refine G.callV C (argsL := [(.long z303_l11)]) (yr := (⟨"com/example/veilrelay/veilrelay/core/derived/SmallDomain", "isId", "(J)Z"⟩ : MethodName)) (yc := (⟨"com/example/veilrelay/veilrelay/core/derived/SmallDomain", "isId", "(J)Z"⟩ : MethodName)) (a := b278) (O291.1) (wd hw 185 rfl) (wd hw 186 rfl) (nfS (wd hw 188 rfl) rfl) (wd hw 188 rfl) (wd hw 187 rfl) (wd hw 11 rfl) (wd hw 189 rfl) (by decide) (m_isid l Z a0 hw b278 _ _ _ z303_l11 h294 n0 Z297 O291) rfl (by decide) (W := 0) rfl (by decide) (c' := 6) (s' := 28) rfl rfl (by decide) (by decide) at_176 (n := 179) rfl pd16 rfl rfl ?_
        rintro _ _ ⟨rfl, rfl⟩
        refine G.iload C at_179 rfl (n := 181) rfl ?_
        have e_p : (13 : Int64).toInt = 13 := by decide
        refine G.icmp_ne C (A := (if 1 ≤ z303_l11.toInt ∧ z303_l11.toInt < (13 : Int64).toInt then 1 else 0 : Int32).toInt) (B := 1) rfl (by decide) at_181 (by decide) (by decide) (n := 184) (n' := 188) rfl (fun c181_314 c181_314i => ?_) (fun c181_314 c181_314i => ?_)
        · exact absurd (if_pos (by omega)) c181_314
        refine G.iconst C (v := (1 : Int32)) at_184 (by decide) (n := 185) rfl ?_
        refine G.goto C at_185 (by decide) (n := 189) (by decide) ?_
        refine G.ireturn C at_189 (rfl) (by simp) (by decide) (by decide) ?_
        exact rfl
  · refine G.istore C at_6 (l' := #[.val (.int i0), .val (.int i1), .val (.long i2), .second, .val (.int (5 : Int32)), .unset, .unset, .unset, .unset, .unset, .unset, .unset, .unset, .unset]) rfl (n := 8) rfl ?_
    refine G.bipush C (v := (8 : Int32)) at_8 (by decide) (n := 10) rfl ?_
    refine G.newarrayJ C (ty := .long) (cap := 8) (wd hw 0 rfl) rfl rfl rfl (by decide) (by decide) (by decide) at_10 (n := 12) rfl (c' := 1) (s' := 8) rfl rfl (by decide) (by decide) ?_
    intro h315 b316 q317 E318 O319
    have O320 : Longs Z h315 b316 [0, 0, 0, 0, 0, 0, 0, 0] := O319
    have g321 : n0 ≤ b316 := Nat.le_trans Z0 (Nat.le_of_eq q317.symm)
    have K322 := kext E318
    have OL323 := OLD0.keep K322 all0
    have Z324 : n0 ≤ h315.size := Nat.le_trans Z0 K322.1
    refine G.dup C at_12 rfl (n := 13) rfl ?_
    refine G.iconst C (v := (0 : Int32)) at_13 (by decide) (n := 14) rfl ?_
    refine G.ldc2 C (v := (3 : Int64)) (wd hw 1 rfl) at_14 (n := 17) rfl ?_
    refine G.lastore C O320 (by decide) (show (0 : Int32).toInt < ((8 : Nat) : Int) by decide) g321 at_17 (n := 18) rfl ?_
    intro h325 K326 W327 O328
    have O329 : Longs Z h325 b316 [(3 : Int64), 0, 0, 0, 0, 0, 0, 0] := O328
    have OL330 := OL323.keep K326 (allS g321 all0)
    have Z331 : n0 ≤ h325.size := Nat.le_trans Z324 K326.1
    refine G.dup C at_18 rfl (n := 19) rfl ?_
    refine G.iconst C (v := (1 : Int32)) at_19 (by decide) (n := 20) rfl ?_
    refine G.ldc2 C (v := (7 : Int64)) (wd hw 2 rfl) at_20 (n := 23) rfl ?_
    refine G.lastore C O329 (by decide) (show (1 : Int32).toInt < ((8 : Nat) : Int) by decide) g321 at_23 (n := 24) rfl ?_
    intro h332 K333 W334 O335
    have O336 : Longs Z h332 b316 [(3 : Int64), (7 : Int64), 0, 0, 0, 0, 0, 0] := O335
    have OL337 := OL330.keep K333 (allS g321 all0)
    have Z338 : n0 ≤ h332.size := Nat.le_trans Z331 K333.1
    refine G.dup C at_24 rfl (n := 25) rfl ?_
    refine G.iconst C (v := (2 : Int32)) at_25 (by decide) (n := 26) rfl ?_
    refine G.ldc2 C (v := (13 : Int64)) (wd hw 3 rfl) at_26 (n := 29) rfl ?_
    refine G.lastore C O336 (by decide) (show (2 : Int32).toInt < ((8 : Nat) : Int) by decide) g321 at_29 (n := 30) rfl ?_
    intro h339 K340 W341 O342
    have O343 : Longs Z h339 b316 [(3 : Int64), (7 : Int64), (13 : Int64), 0, 0, 0, 0, 0] := O342
    have OL344 := OL337.keep K340 (allS g321 all0)
    have Z345 : n0 ≤ h339.size := Nat.le_trans Z338 K340.1
    refine G.dup C at_30 rfl (n := 31) rfl ?_
    refine G.iconst C (v := (3 : Int32)) at_31 (by decide) (n := 32) rfl ?_
    refine G.ldc2 C (v := (31 : Int64)) (wd hw 4 rfl) at_32 (n := 35) rfl ?_
    refine G.lastore C O343 (by decide) (show (3 : Int32).toInt < ((8 : Nat) : Int) by decide) g321 at_35 (n := 36) rfl ?_
    intro h346 K347 W348 O349
    have O350 : Longs Z h346 b316 [(3 : Int64), (7 : Int64), (13 : Int64), (31 : Int64), 0, 0, 0, 0] := O349
    have OL351 := OL344.keep K347 (allS g321 all0)
    have Z352 : n0 ≤ h346.size := Nat.le_trans Z345 K347.1
    refine G.dup C at_36 rfl (n := 37) rfl ?_
    refine G.iconst C (v := (4 : Int32)) at_37 (by decide) (n := 38) rfl ?_
    refine G.ldc2 C (v := (61 : Int64)) (wd hw 5 rfl) at_38 (n := 41) rfl ?_
    refine G.lastore C O350 (by decide) (show (4 : Int32).toInt < ((8 : Nat) : Int) by decide) g321 at_41 (n := 42) rfl ?_
    intro h353 K354 W355 O356
    have O357 : Longs Z h353 b316 [(3 : Int64), (7 : Int64), (13 : Int64), (31 : Int64), (61 : Int64), 0, 0, 0] := O356
    have OL358 := OL351.keep K354 (allS g321 all0)
    have Z359 : n0 ≤ h353.size := Nat.le_trans Z352 K354.1
    refine G.dup C at_42 rfl (n := 43) rfl ?_
    refine G.iconst C (v := (5 : Int32)) at_43 (by decide) (n := 44) rfl ?_
    refine G.ldc2 C (v := (127 : Int64)) (wd hw 6 rfl) at_44 (n := 47) rfl ?_
    refine G.lastore C O357 (by decide) (show (5 : Int32).toInt < ((8 : Nat) : Int) by decide) g321 at_47 (n := 48) rfl ?_
    intro h360 K361 W362 O363
    have O364 : Longs Z h360 b316 [(3 : Int64), (7 : Int64), (13 : Int64), (31 : Int64), (61 : Int64), (127 : Int64), 0, 0] := O363
    have OL365 := OL358.keep K361 (allS g321 all0)
    have Z366 : n0 ≤ h360.size := Nat.le_trans Z359 K361.1
    refine G.dup C at_48 rfl (n := 49) rfl ?_
    refine G.bipush C (v := (6 : Int32)) at_49 (by decide) (n := 51) rfl ?_
    refine G.ldc2 C (v := (251 : Int64)) (wd hw 7 rfl) at_51 (n := 54) rfl ?_
    refine G.lastore C O364 (by decide) (show (6 : Int32).toInt < ((8 : Nat) : Int) by decide) g321 at_54 (n := 55) rfl ?_
    intro h367 K368 W369 O370
    have O371 : Longs Z h367 b316 [(3 : Int64), (7 : Int64), (13 : Int64), (31 : Int64), (61 : Int64), (127 : Int64), (251 : Int64), 0] := O370
    have OL372 := OL365.keep K368 (allS g321 all0)
    have Z373 : n0 ≤ h367.size := Nat.le_trans Z366 K368.1
    refine G.dup C at_55 rfl (n := 56) rfl ?_
    refine G.bipush C (v := (7 : Int32)) at_56 (by decide) (n := 58) rfl ?_
    refine G.ldc2 C (v := (509 : Int64)) (wd hw 8 rfl) at_58 (n := 61) rfl ?_
    refine G.lastore C O371 (by decide) (show (7 : Int32).toInt < ((8 : Nat) : Int) by decide) g321 at_61 (n := 62) rfl ?_
    intro h374 K375 W376 O377
    have O378 : Longs Z h374 b316 [(3 : Int64), (7 : Int64), (13 : Int64), (31 : Int64), (61 : Int64), (127 : Int64), (251 : Int64), (509 : Int64)] := O377
    have OL379 := OL372.keep K375 (allS g321 all0)
    have Z380 : n0 ≤ h374.size := Nat.le_trans Z373 K375.1
    refine G.astore C at_62 rfl (l' := #[.val (.int i0), .val (.int i1), .val (.long i2), .second, .val (.int (5 : Int32)), .val (.ref b316), .unset, .unset, .unset, .unset, .unset, .unset, .unset, .unset]) rfl (n := 64) rfl ?_
    refine G.aload C at_64 rfl rfl (n := 66) rfl ?_
    refine G.iload C at_66 rfl (n := 68) rfl ?_
    refine G.iconst C (v := (2 : Int32)) at_68 (by decide) (n := 69) rfl ?_
    refine G.isub C at_69 (n := 70) rfl ?_
    refine G.fold_int (z := (3 : Int32)) (by decide) ?_
    refine G.laload C (x := (31 : Int64)) O378 (by decide) rfl at_70 (n := 71) rfl ?_
    refine G.lstore C at_71 (l' := #[.val (.int i0), .val (.int i1), .val (.long i2), .second, .val (.int (5 : Int32)), .val (.ref b316), .val (.long (31 : Int64)), .second, .unset, .unset, .unset, .unset, .unset, .unset]) rfl (n := 73) rfl ?_
    refine G.new C (wd hw 9 rfl) (wd hw 10 rfl) (wd hw 11 rfl) at_73 (n := 76) rfl (c' := 2) (s' := 11) rfl rfl (by decide) (by decide) ?_
    intro h381 b382 q383 E384 A385 D386
    have ne387 : b316 ≠ b382 := Nat.ne_of_lt (Nat.lt_of_lt_of_le O378.lt (Nat.le_of_eq q383.symm))
    have g388 : n0 ≤ b382 := Nat.le_trans Z380 (Nat.le_of_eq q383.symm)
    have O389 := Ob_Sd.new hw A385 D386
    have K390 := kext E384
    have O391 := O378.keep K390 nin0
    have OL392 := OL379.keep K390 all0
    have Z393 : n0 ≤ h381.size := Nat.le_trans Z380 K390.1
    refine G.dup C at_76 rfl (n := 77) rfl ?_
    refine G.iload C at_77 rfl (n := 79) rfl ?_
    refine G.callC C (argsL := [(.int (5 : Int32))]) (yc := (⟨"com/example/veilrelay/veilrelay/core/derived/SmallDomain", "<init>", "(I)V"⟩ : MethodName)) (a := b382) rfl (wd hw 12 rfl) (wd hw 13 rfl) (wd hw 11 rfl) (wd hw 14 rfl) (by decide) (m_sd5 l Z a0 hw b382 mr dE lc lv em x2 x3 x5 x7 x127 h381 n0 Z393 OL392 M_r S_dE O_dE S_lc O_lc S_em q_2 q_3 q_5 q_7 q_127 E_x2 E_x3 E_x5 E_x7 E_x127 O389 g388) rfl (by decide) (W := 1) rfl (by decide) (c' := 7) (s' := 32) rfl rfl (by decide) (by decide) at_79 (n := 82) rfl pd18 rfl rfl ?_
    rintro _ h398 ⟨rfl, K394, fo396, O395⟩
    have O399 := O391.keep K394 (ninS ne387 nin0)
    have OL400 := OL392.keep K394 (allS g388 all0)
    have Z401 : n0 ≤ h398.size := Nat.le_trans Z393 K394.1
    refine G.astore C at_82 rfl (l' := #[.val (.int i0), .val (.int i1), .val (.long i2), .second, .val (.int (5 : Int32)), .val (.ref b316), .val (.long (31 : Int64)), .second, .val (.ref b382), .unset, .unset, .unset, .unset, .unset]) rfl (n := 84) rfl ?_
    refine G.iloadN C at_84 rfl (n := 85) rfl ?_
    refine G.iconst C (v := (3 : Int32)) at_85 (by decide) (n := 86) rfl ?_
    refine G.iand C at_86 (n := 87) rfl ?_
    refine G.istoreZ C at_87 (l' := fun z => #[.val (.int i0), .val (.int i1), .val (.long i2), .second, .val (.int (5 : Int32)), .val (.ref b316), .val (.long (31 : Int64)), .second, .val (.ref b382), .val (.int z), .unset, .unset, .unset, .unset]) (fun _ => rfl) (n := 89) rfl ?_
    intro v402 hv402
    refine G.iloadN C at_89 rfl (n := 90) rfl ?_
    refine G.iconst C (v := (2 : Int32)) at_90 (by decide) (n := 91) rfl ?_
    refine G.iushr C at_91 (n := 92) rfl ?_
    refine G.bipush C (v := (7 : Int32)) at_92 (by decide) (n := 94) rfl ?_
    refine G.iand C at_94 (n := 95) rfl ?_
    refine G.iconst C (v := (4 : Int32)) at_95 (by decide) (n := 96) rfl ?_
    refine G.isub C at_96 (n := 97) rfl ?_
    refine G.istoreZ C at_97 (l' := fun z => #[.val (.int i0), .val (.int i1), .val (.long i2), .second, .val (.int (5 : Int32)), .val (.ref b316), .val (.long (31 : Int64)), .second, .val (.ref b382), .val (.int v402), .val (.int z), .unset, .unset, .unset]) (fun _ => rfl) (n := 99) rfl ?_
    intro v403 hv403
    refine G.iload C at_99 rfl (n := 101) rfl ?_
    suffices key407 : ∀ (z407_l11 : Int64), (True) → Go p l e room_1 s m args below meth c n0 (Q_law Z h0 n0 i0 i1 i2 mr dE lc lv em x2 x3 x5 x7 x127) 7 32 h398 (mkF m 148 #[.val (.int i0), .val (.int i1), .val (.long i2), .second, .val (.int (5 : Int32)), .val (.ref b316), .val (.long (31 : Int64)), .second, .val (.ref b382), .val (.int v402), .val (.int v403), .val (.long z407_l11), .second, .unset] []) by
      refine G.if_ne C (A := v402.toInt) rfl at_101 (by decide) (by decide) (n := 104) (n' := 110) rfl (fun c101_404 c101_404i => ?_) (fun c101_404 c101_404i => ?_)
      · refine G.iload C at_110 rfl (n := 112) rfl ?_
        refine G.iconst C (v := (1 : Int32)) at_112 (by decide) (n := 113) rfl ?_
        refine G.icmp_ne C (A := v402.toInt) (B := 1) rfl (by decide) at_113 (by decide) (by decide) (n := 116) (n' := 127) rfl (fun c113_405 c113_405i => ?_) (fun c113_405 c113_405i => ?_)
        · refine G.iload C at_127 rfl (n := 129) rfl ?_
          refine G.iconst C (v := (2 : Int32)) at_129 (by decide) (n := 130) rfl ?_
          refine G.icmp_ne C (A := v402.toInt) (B := 2) rfl (by decide) at_130 (by decide) (by decide) (n := 133) (n' := 141) rfl (fun c130_406 c130_406i => ?_) (fun c130_406 c130_406i => ?_)
          · refine G.lloadN C at_141 rfl (n := 142) rfl ?_
            refine G.ldc2 C (v := (1023 : Int64)) (wd hw 184 rfl) at_142 (n := 145) rfl ?_
            refine G.land C at_145 (n := 146) rfl ?_
            refine G.lstore C at_146 (l' := #[.val (.int i0), .val (.int i1), .val (.long i2), .second, .val (.int (5 : Int32)), .val (.ref b316), .val (.long (31 : Int64)), .second, .val (.ref b382), .val (.int v402), .val (.int v403), .val (.long (i2 &&& (1023 : Int64))), .second, .unset]) rfl (n := 148) rfl ?_
            exact key407 _ (trivial) 
          · refine G.iload C at_133 rfl (n := 135) rfl ?_
            refine G.i2l C at_135 (n := 136) rfl ?_
            refine G.lstore C at_136 (l' := #[.val (.int i0), .val (.int i1), .val (.long i2), .second, .val (.int (5 : Int32)), .val (.ref b316), .val (.long (31 : Int64)), .second, .val (.ref b382), .val (.int v402), .val (.int v403), .val (.long (v403.toInt64)), .second, .unset]) rfl (n := 138) rfl ?_
            refine G.goto C at_138 (by decide) (n := 148) (by decide) ?_
            exact key407 _ (trivial) 
        · refine G.lload C at_116 rfl (n := 118) rfl ?_
          refine G.iload C at_118 rfl (n := 120) rfl ?_
          refine G.i2l C at_120 (n := 121) rfl ?_
          refine G.ladd C at_121 (n := 122) rfl ?_
          refine G.lstore C at_122 (l' := #[.val (.int i0), .val (.int i1), .val (.long i2), .second, .val (.int (5 : Int32)), .val (.ref b316), .val (.long (31 : Int64)), .second, .val (.ref b382), .val (.int v402), .val (.int v403), .val (.long ((31 : Int64) + (v403.toInt64))), .second, .unset]) rfl (n := 124) rfl ?_
          refine G.goto C at_124 (by decide) (n := 148) (by decide) ?_
          exact key407 _ (trivial) 
      · refine G.lloadN C at_104 rfl (n := 105) rfl ?_
        refine G.lstore C at_105 (l' := #[.val (.int i0), .val (.int i1), .val (.long i2), .second, .val (.int (5 : Int32)), .val (.ref b316), .val (.long (31 : Int64)), .second, .val (.ref b382), .val (.int v402), .val (.int v403), .val (.long i2), .second, .unset]) rfl (n := 107) rfl ?_
        refine G.goto C at_107 (by decide) (n := 148) (by decide) ?_
        exact key407 _ (trivial) 
    intro z407_l11 j407 
    refine G.lload C at_148 rfl (n := 150) rfl ?_
    refine G.lconst C (v := (0 : Int64)) at_150 (by decide) (n := 151) rfl ?_
    refine G.lcmp_le C (A := z407_l11.toInt) (B := 0) rfl (by decide) at_151 at_152 (by decide) (by decide) (n := 155) (n' := 169) rfl (fun c152_408 => ?_) (fun c152_408 => ?_)
    · refine G.iconst C (v := (0 : Int32)) at_169 (by decide) (n := 170) rfl ?_
      refine G.istore C at_170 (l' := #[.val (.int i0), .val (.int i1), .val (.long i2), .second, .val (.int (5 : Int32)), .val (.ref b316), .val (.long (31 : Int64)), .second, .val (.ref b382), .val (.int v402), .val (.int v403), .val (.long z407_l11), .second, .val (.int (0 : Int32))]) rfl (n := 172) rfl ?_
      refine G.aload C at_172 rfl rfl (n := 174) rfl ?_
      refine G.lload C at_174 rfl (n := 176) rfl ?_
      refine G.callV C (argsL := [(.long z407_l11)]) (yr := (⟨"com/example/veilrelay/veilrelay/core/derived/SmallDomain", "isId", "(J)Z"⟩ : MethodName)) (yc := (⟨"com/example/veilrelay/veilrelay/core/derived/SmallDomain", "isId", "(J)Z"⟩ : MethodName)) (a := b382) (O395.1) (wd hw 185 rfl) (wd hw 186 rfl) (nfS (wd hw 188 rfl) rfl) (wd hw 188 rfl) (wd hw 187 rfl) (wd hw 11 rfl) (wd hw 189 rfl) (by decide) (m_isid l Z a0 hw b382 _ _ _ z407_l11 h398 n0 Z401 O395) rfl (by decide) (W := 0) rfl (by decide) (c' := 7) (s' := 32) rfl rfl (by decide) (by decide) at_176 (n := 179) rfl pd16 rfl rfl ?_
      rintro _ _ ⟨rfl, rfl⟩
      refine G.iload C at_179 rfl (n := 181) rfl ?_
      have e_p : (31 : Int64).toInt = 31 := by decide
      refine G.icmp_ne C (A := (if 1 ≤ z407_l11.toInt ∧ z407_l11.toInt < (31 : Int64).toInt then 1 else 0 : Int32).toInt) (B := 0) rfl (by decide) at_181 (by decide) (by decide) (n := 184) (n' := 188) rfl (fun c181_411 c181_411i => ?_) (fun c181_411 c181_411i => ?_)
      · exact absurd (if_neg (by omega)) c181_411
      refine G.iconst C (v := (1 : Int32)) at_184 (by decide) (n := 185) rfl ?_
      refine G.goto C at_185 (by decide) (n := 189) (by decide) ?_
      refine G.ireturn C at_189 (rfl) (by simp) (by decide) (by decide) ?_
      exact rfl
    · refine G.lload C at_155 rfl (n := 157) rfl ?_
      refine G.lload C at_157 rfl (n := 159) rfl ?_
      refine G.lconst C (v := (1 : Int64)) at_159 (by decide) (n := 160) rfl ?_
      refine G.lsub C at_160 (n := 161) rfl ?_
      refine G.fold_long (z := (30 : Int64)) (by decide) ?_
      refine G.lcmp_gt C (A := z407_l11.toInt) (B := 30) rfl (by decide) at_161 at_162 (by decide) (by decide) (n := 165) (n' := 169) rfl (fun c162_412 => ?_) (fun c162_412 => ?_)
      · refine G.iconst C (v := (0 : Int32)) at_169 (by decide) (n := 170) rfl ?_
        refine G.istore C at_170 (l' := #[.val (.int i0), .val (.int i1), .val (.long i2), .second, .val (.int (5 : Int32)), .val (.ref b316), .val (.long (31 : Int64)), .second, .val (.ref b382), .val (.int v402), .val (.int v403), .val (.long z407_l11), .second, .val (.int (0 : Int32))]) rfl (n := 172) rfl ?_
        refine G.aload C at_172 rfl rfl (n := 174) rfl ?_
        refine G.lload C at_174 rfl (n := 176) rfl ?_
        refine G.callV C (argsL := [(.long z407_l11)]) (yr := (⟨"com/example/veilrelay/veilrelay/core/derived/SmallDomain", "isId", "(J)Z"⟩ : MethodName)) (yc := (⟨"com/example/veilrelay/veilrelay/core/derived/SmallDomain", "isId", "(J)Z"⟩ : MethodName)) (a := b382) (O395.1) (wd hw 185 rfl) (wd hw 186 rfl) (nfS (wd hw 188 rfl) rfl) (wd hw 188 rfl) (wd hw 187 rfl) (wd hw 11 rfl) (wd hw 189 rfl) (by decide) (m_isid l Z a0 hw b382 _ _ _ z407_l11 h398 n0 Z401 O395) rfl (by decide) (W := 0) rfl (by decide) (c' := 7) (s' := 32) rfl rfl (by decide) (by decide) at_176 (n := 179) rfl pd16 rfl rfl ?_
        rintro _ _ ⟨rfl, rfl⟩
        refine G.iload C at_179 rfl (n := 181) rfl ?_
        have e_p : (31 : Int64).toInt = 31 := by decide
        refine G.icmp_ne C (A := (if 1 ≤ z407_l11.toInt ∧ z407_l11.toInt < (31 : Int64).toInt then 1 else 0 : Int32).toInt) (B := 0) rfl (by decide) at_181 (by decide) (by decide) (n := 184) (n' := 188) rfl (fun c181_415 c181_415i => ?_) (fun c181_415 c181_415i => ?_)
        · exact absurd (if_neg (by omega)) c181_415
        refine G.iconst C (v := (1 : Int32)) at_184 (by decide) (n := 185) rfl ?_
        refine G.goto C at_185 (by decide) (n := 189) (by decide) ?_
        refine G.ireturn C at_189 (rfl) (by simp) (by decide) (by decide) ?_
        exact rfl
      · refine G.iconst C (v := (1 : Int32)) at_165 (by decide) (n := 166) rfl ?_
        refine G.goto C at_166 (by decide) (n := 170) (by decide) ?_
        refine G.istore C at_170 (l' := #[.val (.int i0), .val (.int i1), .val (.long i2), .second, .val (.int (5 : Int32)), .val (.ref b316), .val (.long (31 : Int64)), .second, .val (.ref b382), .val (.int v402), .val (.int v403), .val (.long z407_l11), .second, .val (.int (1 : Int32))]) rfl (n := 172) rfl ?_
        refine G.aload C at_172 rfl rfl (n := 174) rfl ?_
        refine G.lload C at_174 rfl (n := 176) rfl ?_
        refine G.callV C (argsL := [(.long z407_l11)]) (yr := (⟨"com/example/veilrelay/veilrelay/core/derived/SmallDomain", "isId", "(J)Z"⟩ : MethodName)) (yc := (⟨"com/example/veilrelay/veilrelay/core/derived/SmallDomain", "isId", "(J)Z"⟩ : MethodName)) (a := b382) (O395.1) (wd hw 185 rfl) (wd hw 186 rfl) (nfS (wd hw 188 rfl) rfl) (wd hw 188 rfl) (wd hw 187 rfl) (wd hw 11 rfl) (wd hw 189 rfl) (by decide) (m_isid l Z a0 hw b382 _ _ _ z407_l11 h398 n0 Z401 O395) rfl (by decide) (W := 0) rfl (by decide) (c' := 7) (s' := 32) rfl rfl (by decide) (by decide) at_176 (n := 179) rfl pd16 rfl rfl ?_
        rintro _ _ ⟨rfl, rfl⟩
        refine G.iload C at_179 rfl (n := 181) rfl ?_
        have e_p : (31 : Int64).toInt = 31 := by decide
        refine G.icmp_ne C (A := (if 1 ≤ z407_l11.toInt ∧ z407_l11.toInt < (31 : Int64).toInt then 1 else 0 : Int32).toInt) (B := 1) rfl (by decide) at_181 (by decide) (by decide) (n := 184) (n' := 188) rfl (fun c181_418 c181_418i => ?_) (fun c181_418 c181_418i => ?_)
        · exact absurd (if_pos (by omega)) c181_418
        refine G.iconst C (v := (1 : Int32)) at_184 (by decide) (n := 185) rfl ?_
        refine G.goto C at_185 (by decide) (n := 189) (by decide) ?_
        refine G.ireturn C at_189 (rfl) (by simp) (by decide) (by decide) ?_
        exact rfl
  · refine G.istore C at_6 (l' := #[.val (.int i0), .val (.int i1), .val (.long i2), .second, .val (.int (6 : Int32)), .unset, .unset, .unset, .unset, .unset, .unset, .unset, .unset, .unset]) rfl (n := 8) rfl ?_
    refine G.bipush C (v := (8 : Int32)) at_8 (by decide) (n := 10) rfl ?_
    refine G.newarrayJ C (ty := .long) (cap := 8) (wd hw 0 rfl) rfl rfl rfl (by decide) (by decide) (by decide) at_10 (n := 12) rfl (c' := 1) (s' := 8) rfl rfl (by decide) (by decide) ?_
    intro h419 b420 q421 E422 O423
    have O424 : Longs Z h419 b420 [0, 0, 0, 0, 0, 0, 0, 0] := O423
    have g425 : n0 ≤ b420 := Nat.le_trans Z0 (Nat.le_of_eq q421.symm)
    have K426 := kext E422
    have OL427 := OLD0.keep K426 all0
    have Z428 : n0 ≤ h419.size := Nat.le_trans Z0 K426.1
    refine G.dup C at_12 rfl (n := 13) rfl ?_
    refine G.iconst C (v := (0 : Int32)) at_13 (by decide) (n := 14) rfl ?_
    refine G.ldc2 C (v := (3 : Int64)) (wd hw 1 rfl) at_14 (n := 17) rfl ?_
    refine G.lastore C O424 (by decide) (show (0 : Int32).toInt < ((8 : Nat) : Int) by decide) g425 at_17 (n := 18) rfl ?_
    intro h429 K430 W431 O432
    have O433 : Longs Z h429 b420 [(3 : Int64), 0, 0, 0, 0, 0, 0, 0] := O432
    have OL434 := OL427.keep K430 (allS g425 all0)
    have Z435 : n0 ≤ h429.size := Nat.le_trans Z428 K430.1
    refine G.dup C at_18 rfl (n := 19) rfl ?_
    refine G.iconst C (v := (1 : Int32)) at_19 (by decide) (n := 20) rfl ?_
    refine G.ldc2 C (v := (7 : Int64)) (wd hw 2 rfl) at_20 (n := 23) rfl ?_
    refine G.lastore C O433 (by decide) (show (1 : Int32).toInt < ((8 : Nat) : Int) by decide) g425 at_23 (n := 24) rfl ?_
    intro h436 K437 W438 O439
    have O440 : Longs Z h436 b420 [(3 : Int64), (7 : Int64), 0, 0, 0, 0, 0, 0] := O439
    have OL441 := OL434.keep K437 (allS g425 all0)
    have Z442 : n0 ≤ h436.size := Nat.le_trans Z435 K437.1
    refine G.dup C at_24 rfl (n := 25) rfl ?_
    refine G.iconst C (v := (2 : Int32)) at_25 (by decide) (n := 26) rfl ?_
    refine G.ldc2 C (v := (13 : Int64)) (wd hw 3 rfl) at_26 (n := 29) rfl ?_
    refine G.lastore C O440 (by decide) (show (2 : Int32).toInt < ((8 : Nat) : Int) by decide) g425 at_29 (n := 30) rfl ?_
    intro h443 K444 W445 O446
    have O447 : Longs Z h443 b420 [(3 : Int64), (7 : Int64), (13 : Int64), 0, 0, 0, 0, 0] := O446
    have OL448 := OL441.keep K444 (allS g425 all0)
    have Z449 : n0 ≤ h443.size := Nat.le_trans Z442 K444.1
    refine G.dup C at_30 rfl (n := 31) rfl ?_
    refine G.iconst C (v := (3 : Int32)) at_31 (by decide) (n := 32) rfl ?_
    refine G.ldc2 C (v := (31 : Int64)) (wd hw 4 rfl) at_32 (n := 35) rfl ?_
    refine G.lastore C O447 (by decide) (show (3 : Int32).toInt < ((8 : Nat) : Int) by decide) g425 at_35 (n := 36) rfl ?_
    intro h450 K451 W452 O453
    have O454 : Longs Z h450 b420 [(3 : Int64), (7 : Int64), (13 : Int64), (31 : Int64), 0, 0, 0, 0] := O453
    have OL455 := OL448.keep K451 (allS g425 all0)
    have Z456 : n0 ≤ h450.size := Nat.le_trans Z449 K451.1
    refine G.dup C at_36 rfl (n := 37) rfl ?_
    refine G.iconst C (v := (4 : Int32)) at_37 (by decide) (n := 38) rfl ?_
    refine G.ldc2 C (v := (61 : Int64)) (wd hw 5 rfl) at_38 (n := 41) rfl ?_
    refine G.lastore C O454 (by decide) (show (4 : Int32).toInt < ((8 : Nat) : Int) by decide) g425 at_41 (n := 42) rfl ?_
    intro h457 K458 W459 O460
    have O461 : Longs Z h457 b420 [(3 : Int64), (7 : Int64), (13 : Int64), (31 : Int64), (61 : Int64), 0, 0, 0] := O460
    have OL462 := OL455.keep K458 (allS g425 all0)
    have Z463 : n0 ≤ h457.size := Nat.le_trans Z456 K458.1
    refine G.dup C at_42 rfl (n := 43) rfl ?_
    refine G.iconst C (v := (5 : Int32)) at_43 (by decide) (n := 44) rfl ?_
    refine G.ldc2 C (v := (127 : Int64)) (wd hw 6 rfl) at_44 (n := 47) rfl ?_
    refine G.lastore C O461 (by decide) (show (5 : Int32).toInt < ((8 : Nat) : Int) by decide) g425 at_47 (n := 48) rfl ?_
    intro h464 K465 W466 O467
    have O468 : Longs Z h464 b420 [(3 : Int64), (7 : Int64), (13 : Int64), (31 : Int64), (61 : Int64), (127 : Int64), 0, 0] := O467
    have OL469 := OL462.keep K465 (allS g425 all0)
    have Z470 : n0 ≤ h464.size := Nat.le_trans Z463 K465.1
    refine G.dup C at_48 rfl (n := 49) rfl ?_
    refine G.bipush C (v := (6 : Int32)) at_49 (by decide) (n := 51) rfl ?_
    refine G.ldc2 C (v := (251 : Int64)) (wd hw 7 rfl) at_51 (n := 54) rfl ?_
    refine G.lastore C O468 (by decide) (show (6 : Int32).toInt < ((8 : Nat) : Int) by decide) g425 at_54 (n := 55) rfl ?_
    intro h471 K472 W473 O474
    have O475 : Longs Z h471 b420 [(3 : Int64), (7 : Int64), (13 : Int64), (31 : Int64), (61 : Int64), (127 : Int64), (251 : Int64), 0] := O474
    have OL476 := OL469.keep K472 (allS g425 all0)
    have Z477 : n0 ≤ h471.size := Nat.le_trans Z470 K472.1
    refine G.dup C at_55 rfl (n := 56) rfl ?_
    refine G.bipush C (v := (7 : Int32)) at_56 (by decide) (n := 58) rfl ?_
    refine G.ldc2 C (v := (509 : Int64)) (wd hw 8 rfl) at_58 (n := 61) rfl ?_
    refine G.lastore C O475 (by decide) (show (7 : Int32).toInt < ((8 : Nat) : Int) by decide) g425 at_61 (n := 62) rfl ?_
    intro h478 K479 W480 O481
    have O482 : Longs Z h478 b420 [(3 : Int64), (7 : Int64), (13 : Int64), (31 : Int64), (61 : Int64), (127 : Int64), (251 : Int64), (509 : Int64)] := O481
    have OL483 := OL476.keep K479 (allS g425 all0)
    have Z484 : n0 ≤ h478.size := Nat.le_trans Z477 K479.1
    refine G.astore C at_62 rfl (l' := #[.val (.int i0), .val (.int i1), .val (.long i2), .second, .val (.int (6 : Int32)), .val (.ref b420), .unset, .unset, .unset, .unset, .unset, .unset, .unset, .unset]) rfl (n := 64) rfl ?_
    refine G.aload C at_64 rfl rfl (n := 66) rfl ?_
    refine G.iload C at_66 rfl (n := 68) rfl ?_
    refine G.iconst C (v := (2 : Int32)) at_68 (by decide) (n := 69) rfl ?_
    refine G.isub C at_69 (n := 70) rfl ?_
    refine G.fold_int (z := (4 : Int32)) (by decide) ?_
    refine G.laload C (x := (61 : Int64)) O482 (by decide) rfl at_70 (n := 71) rfl ?_
    refine G.lstore C at_71 (l' := #[.val (.int i0), .val (.int i1), .val (.long i2), .second, .val (.int (6 : Int32)), .val (.ref b420), .val (.long (61 : Int64)), .second, .unset, .unset, .unset, .unset, .unset, .unset]) rfl (n := 73) rfl ?_
    refine G.new C (wd hw 9 rfl) (wd hw 10 rfl) (wd hw 11 rfl) at_73 (n := 76) rfl (c' := 2) (s' := 11) rfl rfl (by decide) (by decide) ?_
    intro h485 b486 q487 E488 A489 D490
    have ne491 : b420 ≠ b486 := Nat.ne_of_lt (Nat.lt_of_lt_of_le O482.lt (Nat.le_of_eq q487.symm))
    have g492 : n0 ≤ b486 := Nat.le_trans Z484 (Nat.le_of_eq q487.symm)
    have O493 := Ob_Sd.new hw A489 D490
    have K494 := kext E488
    have O495 := O482.keep K494 nin0
    have OL496 := OL483.keep K494 all0
    have Z497 : n0 ≤ h485.size := Nat.le_trans Z484 K494.1
    refine G.dup C at_76 rfl (n := 77) rfl ?_
    refine G.iload C at_77 rfl (n := 79) rfl ?_
    refine G.callC C (argsL := [(.int (6 : Int32))]) (yc := (⟨"com/example/veilrelay/veilrelay/core/derived/SmallDomain", "<init>", "(I)V"⟩ : MethodName)) (a := b486) rfl (wd hw 12 rfl) (wd hw 13 rfl) (wd hw 11 rfl) (wd hw 14 rfl) (by decide) (m_sd6 l Z a0 hw b486 mr dE lc lv em x2 x3 x5 x7 x127 h485 n0 Z497 OL496 M_r S_dE O_dE S_lc O_lc S_em q_2 q_3 q_5 q_7 q_127 E_x2 E_x3 E_x5 E_x7 E_x127 O493 g492) rfl (by decide) (W := 1) rfl (by decide) (c' := 7) (s' := 32) rfl rfl (by decide) (by decide) at_79 (n := 82) rfl pd18 rfl rfl ?_
    rintro _ h502 ⟨rfl, K498, fo500, O499⟩
    have O503 := O495.keep K498 (ninS ne491 nin0)
    have OL504 := OL496.keep K498 (allS g492 all0)
    have Z505 : n0 ≤ h502.size := Nat.le_trans Z497 K498.1
    refine G.astore C at_82 rfl (l' := #[.val (.int i0), .val (.int i1), .val (.long i2), .second, .val (.int (6 : Int32)), .val (.ref b420), .val (.long (61 : Int64)), .second, .val (.ref b486), .unset, .unset, .unset, .unset, .unset]) rfl (n := 84) rfl ?_
    refine G.iloadN C at_84 rfl (n := 85) rfl ?_
    refine G.iconst C (v := (3 : Int32)) at_85 (by decide) (n := 86) rfl ?_
    refine G.iand C at_86 (n := 87) rfl ?_
    refine G.istoreZ C at_87 (l' := fun z => #[.val (.int i0), .val (.int i1), .val (.long i2), .second, .val (.int (6 : Int32)), .val (.ref b420), .val (.long (61 : Int64)), .second, .val (.ref b486), .val (.int z), .unset, .unset, .unset, .unset]) (fun _ => rfl) (n := 89) rfl ?_
    intro v506 hv506
    refine G.iloadN C at_89 rfl (n := 90) rfl ?_
    refine G.iconst C (v := (2 : Int32)) at_90 (by decide) (n := 91) rfl ?_
    refine G.iushr C at_91 (n := 92) rfl ?_
    refine G.bipush C (v := (7 : Int32)) at_92 (by decide) (n := 94) rfl ?_
    refine G.iand C at_94 (n := 95) rfl ?_
    refine G.iconst C (v := (4 : Int32)) at_95 (by decide) (n := 96) rfl ?_
    refine G.isub C at_96 (n := 97) rfl ?_
    refine G.istoreZ C at_97 (l' := fun z => #[.val (.int i0), .val (.int i1), .val (.long i2), .second, .val (.int (6 : Int32)), .val (.ref b420), .val (.long (61 : Int64)), .second, .val (.ref b486), .val (.int v506), .val (.int z), .unset, .unset, .unset]) (fun _ => rfl) (n := 99) rfl ?_
    intro v507 hv507
    refine G.iload C at_99 rfl (n := 101) rfl ?_
    suffices key511 : ∀ (z511_l11 : Int64), (True) → Go p l e room_1 s m args below meth c n0 (Q_law Z h0 n0 i0 i1 i2 mr dE lc lv em x2 x3 x5 x7 x127) 7 32 h502 (mkF m 148 #[.val (.int i0), .val (.int i1), .val (.long i2), .second, .val (.int (6 : Int32)), .val (.ref b420), .val (.long (61 : Int64)), .second, .val (.ref b486), .val (.int v506), .val (.int v507), .val (.long z511_l11), .second, .unset] []) by
      refine G.if_ne C (A := v506.toInt) rfl at_101 (by decide) (by decide) (n := 104) (n' := 110) rfl (fun c101_508 c101_508i => ?_) (fun c101_508 c101_508i => ?_)
      · refine G.iload C at_110 rfl (n := 112) rfl ?_
        refine G.iconst C (v := (1 : Int32)) at_112 (by decide) (n := 113) rfl ?_
        refine G.icmp_ne C (A := v506.toInt) (B := 1) rfl (by decide) at_113 (by decide) (by decide) (n := 116) (n' := 127) rfl (fun c113_509 c113_509i => ?_) (fun c113_509 c113_509i => ?_)
        · refine G.iload C at_127 rfl (n := 129) rfl ?_
          refine G.iconst C (v := (2 : Int32)) at_129 (by decide) (n := 130) rfl ?_
          refine G.icmp_ne C (A := v506.toInt) (B := 2) rfl (by decide) at_130 (by decide) (by decide) (n := 133) (n' := 141) rfl (fun c130_510 c130_510i => ?_) (fun c130_510 c130_510i => ?_)
          · refine G.lloadN C at_141 rfl (n := 142) rfl ?_
            refine G.ldc2 C (v := (1023 : Int64)) (wd hw 184 rfl) at_142 (n := 145) rfl ?_
            refine G.land C at_145 (n := 146) rfl ?_
            refine G.lstore C at_146 (l' := #[.val (.int i0), .val (.int i1), .val (.long i2), .second, .val (.int (6 : Int32)), .val (.ref b420), .val (.long (61 : Int64)), .second, .val (.ref b486), .val (.int v506), .val (.int v507), .val (.long (i2 &&& (1023 : Int64))), .second, .unset]) rfl (n := 148) rfl ?_
            exact key511 _ (trivial) 
          · refine G.iload C at_133 rfl (n := 135) rfl ?_
            refine G.i2l C at_135 (n := 136) rfl ?_
            refine G.lstore C at_136 (l' := #[.val (.int i0), .val (.int i1), .val (.long i2), .second, .val (.int (6 : Int32)), .val (.ref b420), .val (.long (61 : Int64)), .second, .val (.ref b486), .val (.int v506), .val (.int v507), .val (.long (v507.toInt64)), .second, .unset]) rfl (n := 138) rfl ?_
            refine G.goto C at_138 (by decide) (n := 148) (by decide) ?_
            exact key511 _ (trivial) 
        · refine G.lload C at_116 rfl (n := 118) rfl ?_
          refine G.iload C at_118 rfl (n := 120) rfl ?_
          refine G.i2l C at_120 (n := 121) rfl ?_
          refine G.ladd C at_121 (n := 122) rfl ?_
          refine G.lstore C at_122 (l' := #[.val (.int i0), .val (.int i1), .val (.long i2), .second, .val (.int (6 : Int32)), .val (.ref b420), .val (.long (61 : Int64)), .second, .val (.ref b486), .val (.int v506), .val (.int v507), .val (.long ((61 : Int64) + (v507.toInt64))), .second, .unset]) rfl (n := 124) rfl ?_
          refine G.goto C at_124 (by decide) (n := 148) (by decide) ?_
          exact key511 _ (trivial) 
      · refine G.lloadN C at_104 rfl (n := 105) rfl ?_
        refine G.lstore C at_105 (l' := #[.val (.int i0), .val (.int i1), .val (.long i2), .second, .val (.int (6 : Int32)), .val (.ref b420), .val (.long (61 : Int64)), .second, .val (.ref b486), .val (.int v506), .val (.int v507), .val (.long i2), .second, .unset]) rfl (n := 107) rfl ?_
        refine G.goto C at_107 (by decide) (n := 148) (by decide) ?_
        exact key511 _ (trivial) 
    intro z511_l11 j511 
    refine G.lload C at_148 rfl (n := 150) rfl ?_
    refine G.lconst C (v := (0 : Int64)) at_150 (by decide) (n := 151) rfl ?_
    refine G.lcmp_le C (A := z511_l11.toInt) (B := 0) rfl (by decide) at_151 at_152 (by decide) (by decide) (n := 155) (n' := 169) rfl (fun c152_512 => ?_) (fun c152_512 => ?_)
    · refine G.iconst C (v := (0 : Int32)) at_169 (by decide) (n := 170) rfl ?_
      refine G.istore C at_170 (l' := #[.val (.int i0), .val (.int i1), .val (.long i2), .second, .val (.int (6 : Int32)), .val (.ref b420), .val (.long (61 : Int64)), .second, .val (.ref b486), .val (.int v506), .val (.int v507), .val (.long z511_l11), .second, .val (.int (0 : Int32))]) rfl (n := 172) rfl ?_
      refine G.aload C at_172 rfl rfl (n := 174) rfl ?_
      refine G.lload C at_174 rfl (n := 176) rfl ?_
      refine G.callV C (argsL := [(.long z511_l11)]) (yr := (⟨"com/example/veilrelay/veilrelay/core/derived/SmallDomain", "isId", "(J)Z"⟩ : MethodName)) (yc := (⟨"com/example/veilrelay/veilrelay/core/derived/SmallDomain", "isId", "(J)Z"⟩ : MethodName)) (a := b486) (O499.1) (wd hw 185 rfl) (wd hw 186 rfl) (nfS (wd hw 188 rfl) rfl) (wd hw 188 rfl) (wd hw 187 rfl) (wd hw 11 rfl) (wd hw 189 rfl) (by decide) (m_isid l Z a0 hw b486 _ _ _ z511_l11 h502 n0 Z505 O499) rfl (by decide) (W := 0) rfl (by decide) (c' := 7) (s' := 32) rfl rfl (by decide) (by decide) at_176 (n := 179) rfl pd16 rfl rfl ?_
      rintro _ _ ⟨rfl, rfl⟩
      refine G.iload C at_179 rfl (n := 181) rfl ?_
      have e_p : (61 : Int64).toInt = 61 := by decide
      refine G.icmp_ne C (A := (if 1 ≤ z511_l11.toInt ∧ z511_l11.toInt < (61 : Int64).toInt then 1 else 0 : Int32).toInt) (B := 0) rfl (by decide) at_181 (by decide) (by decide) (n := 184) (n' := 188) rfl (fun c181_515 c181_515i => ?_) (fun c181_515 c181_515i => ?_)
      · exact absurd (if_neg (by omega)) c181_515
      refine G.iconst C (v := (1 : Int32)) at_184 (by decide) (n := 185) rfl ?_
      refine G.goto C at_185 (by decide) (n := 189) (by decide) ?_
      refine G.ireturn C at_189 (rfl) (by simp) (by decide) (by decide) ?_
      exact rfl
    · refine G.lload C at_155 rfl (n := 157) rfl ?_
      refine G.lload C at_157 rfl (n := 159) rfl ?_
      refine G.lconst C (v := (1 : Int64)) at_159 (by decide) (n := 160) rfl ?_
      refine G.lsub C at_160 (n := 161) rfl ?_
      refine G.fold_long (z := (60 : Int64)) (by decide) ?_
      refine G.lcmp_gt C (A := z511_l11.toInt) (B := 60) rfl (by decide) at_161 at_162 (by decide) (by decide) (n := 165) (n' := 169) rfl (fun c162_516 => ?_) (fun c162_516 => ?_)
      · refine G.iconst C (v := (0 : Int32)) at_169 (by decide) (n := 170) rfl ?_
        refine G.istore C at_170 (l' := #[.val (.int i0), .val (.int i1), .val (.long i2), .second, .val (.int (6 : Int32)), .val (.ref b420), .val (.long (61 : Int64)), .second, .val (.ref b486), .val (.int v506), .val (.int v507), .val (.long z511_l11), .second, .val (.int (0 : Int32))]) rfl (n := 172) rfl ?_
        refine G.aload C at_172 rfl rfl (n := 174) rfl ?_
        refine G.lload C at_174 rfl (n := 176) rfl ?_
        refine G.callV C (argsL := [(.long z511_l11)]) (yr := (⟨"com/example/veilrelay/veilrelay/core/derived/SmallDomain", "isId", "(J)Z"⟩ : MethodName)) (yc := (⟨"com/example/veilrelay/veilrelay/core/derived/SmallDomain", "isId", "(J)Z"⟩ : MethodName)) (a := b486) (O499.1) (wd hw 185 rfl) (wd hw 186 rfl) (nfS (wd hw 188 rfl) rfl) (wd hw 188 rfl) (wd hw 187 rfl) (wd hw 11 rfl) (wd hw 189 rfl) (by decide) (m_isid l Z a0 hw b486 _ _ _ z511_l11 h502 n0 Z505 O499) rfl (by decide) (W := 0) rfl (by decide) (c' := 7) (s' := 32) rfl rfl (by decide) (by decide) at_176 (n := 179) rfl pd16 rfl rfl ?_
        rintro _ _ ⟨rfl, rfl⟩
        refine G.iload C at_179 rfl (n := 181) rfl ?_
        have e_p : (61 : Int64).toInt = 61 := by decide
        refine G.icmp_ne C (A := (if 1 ≤ z511_l11.toInt ∧ z511_l11.toInt < (61 : Int64).toInt then 1 else 0 : Int32).toInt) (B := 0) rfl (by decide) at_181 (by decide) (by decide) (n := 184) (n' := 188) rfl (fun c181_519 c181_519i => ?_) (fun c181_519 c181_519i => ?_)
        · exact absurd (if_neg (by omega)) c181_519
        refine G.iconst C (v := (1 : Int32)) at_184 (by decide) (n := 185) rfl ?_
        refine G.goto C at_185 (by decide) (n := 189) (by decide) ?_
        refine G.ireturn C at_189 (rfl) (by simp) (by decide) (by decide) ?_
        exact rfl
      · refine G.iconst C (v := (1 : Int32)) at_165 (by decide) (n := 166) rfl ?_
        refine G.goto C at_166 (by decide) (n := 170) (by decide) ?_
        refine G.istore C at_170 (l' := #[.val (.int i0), .val (.int i1), .val (.long i2), .second, .val (.int (6 : Int32)), .val (.ref b420), .val (.long (61 : Int64)), .second, .val (.ref b486), .val (.int v506), .val (.int v507), .val (.long z511_l11), .second, .val (.int (1 : Int32))]) rfl (n := 172) rfl ?_
        refine G.aload C at_172 rfl rfl (n := 174) rfl ?_
        refine G.lload C at_174 rfl (n := 176) rfl ?_
        refine G.callV C (argsL := [(.long z511_l11)]) (yr := (⟨"com/example/veilrelay/veilrelay/core/derived/SmallDomain", "isId", "(J)Z"⟩ : MethodName)) (yc := (⟨"com/example/veilrelay/veilrelay/core/derived/SmallDomain", "isId", "(J)Z"⟩ : MethodName)) (a := b486) (O499.1) (wd hw 185 rfl) (wd hw 186 rfl) (nfS (wd hw 188 rfl) rfl) (wd hw 188 rfl) (wd hw 187 rfl) (wd hw 11 rfl) (wd hw 189 rfl) (by decide) (m_isid l Z a0 hw b486 _ _ _ z511_l11 h502 n0 Z505 O499) rfl (by decide) (W := 0) rfl (by decide) (c' := 7) (s' := 32) rfl rfl (by decide) (by decide) at_176 (n := 179) rfl pd16 rfl rfl ?_
        rintro _ _ ⟨rfl, rfl⟩
        refine G.iload C at_179 rfl (n := 181) rfl ?_
        have e_p : (61 : Int64).toInt = 61 := by decide
        refine G.icmp_ne C (A := (if 1 ≤ z511_l11.toInt ∧ z511_l11.toInt < (61 : Int64).toInt then 1 else 0 : Int32).toInt) (B := 1) rfl (by decide) at_181 (by decide) (by decide) (n := 184) (n' := 188) rfl (fun c181_522 c181_522i => ?_) (fun c181_522 c181_522i => ?_)
        · exact absurd (if_pos (by omega)) c181_522
        refine G.iconst C (v := (1 : Int32)) at_184 (by decide) (n := 185) rfl ?_
        refine G.goto C at_185 (by decide) (n := 189) (by decide) ?_
        refine G.ireturn C at_189 (rfl) (by simp) (by decide) (by decide) ?_
        exact rfl
  · refine G.istore C at_6 (l' := #[.val (.int i0), .val (.int i1), .val (.long i2), .second, .val (.int (7 : Int32)), .unset, .unset, .unset, .unset, .unset, .unset, .unset, .unset, .unset]) rfl (n := 8) rfl ?_
    refine G.bipush C (v := (8 : Int32)) at_8 (by decide) (n := 10) rfl ?_
    refine G.newarrayJ C (ty := .long) (cap := 8) (wd hw 0 rfl) rfl rfl rfl (by decide) (by decide) (by decide) at_10 (n := 12) rfl (c' := 1) (s' := 8) rfl rfl (by decide) (by decide) ?_
    intro h523 b524 q525 E526 O527
    have O528 : Longs Z h523 b524 [0, 0, 0, 0, 0, 0, 0, 0] := O527
    have g529 : n0 ≤ b524 := Nat.le_trans Z0 (Nat.le_of_eq q525.symm)
    have K530 := kext E526
    have OL531 := OLD0.keep K530 all0
    have Z532 : n0 ≤ h523.size := Nat.le_trans Z0 K530.1
    refine G.dup C at_12 rfl (n := 13) rfl ?_
    refine G.iconst C (v := (0 : Int32)) at_13 (by decide) (n := 14) rfl ?_
    refine G.ldc2 C (v := (3 : Int64)) (wd hw 1 rfl) at_14 (n := 17) rfl ?_
    refine G.lastore C O528 (by decide) (show (0 : Int32).toInt < ((8 : Nat) : Int) by decide) g529 at_17 (n := 18) rfl ?_
    intro h533 K534 W535 O536
    have O537 : Longs Z h533 b524 [(3 : Int64), 0, 0, 0, 0, 0, 0, 0] := O536
    have OL538 := OL531.keep K534 (allS g529 all0)
    have Z539 : n0 ≤ h533.size := Nat.le_trans Z532 K534.1
    refine G.dup C at_18 rfl (n := 19) rfl ?_
    refine G.iconst C (v := (1 : Int32)) at_19 (by decide) (n := 20) rfl ?_
    refine G.ldc2 C (v := (7 : Int64)) (wd hw 2 rfl) at_20 (n := 23) rfl ?_
    refine G.lastore C O537 (by decide) (show (1 : Int32).toInt < ((8 : Nat) : Int) by decide) g529 at_23 (n := 24) rfl ?_
    intro h540 K541 W542 O543
    have O544 : Longs Z h540 b524 [(3 : Int64), (7 : Int64), 0, 0, 0, 0, 0, 0] := O543
    have OL545 := OL538.keep K541 (allS g529 all0)
    have Z546 : n0 ≤ h540.size := Nat.le_trans Z539 K541.1
    refine G.dup C at_24 rfl (n := 25) rfl ?_
    refine G.iconst C (v := (2 : Int32)) at_25 (by decide) (n := 26) rfl ?_
    refine G.ldc2 C (v := (13 : Int64)) (wd hw 3 rfl) at_26 (n := 29) rfl ?_
    refine G.lastore C O544 (by decide) (show (2 : Int32).toInt < ((8 : Nat) : Int) by decide) g529 at_29 (n := 30) rfl ?_
    intro h547 K548 W549 O550
    have O551 : Longs Z h547 b524 [(3 : Int64), (7 : Int64), (13 : Int64), 0, 0, 0, 0, 0] := O550
    have OL552 := OL545.keep K548 (allS g529 all0)
    have Z553 : n0 ≤ h547.size := Nat.le_trans Z546 K548.1
    refine G.dup C at_30 rfl (n := 31) rfl ?_
    refine G.iconst C (v := (3 : Int32)) at_31 (by decide) (n := 32) rfl ?_
    refine G.ldc2 C (v := (31 : Int64)) (wd hw 4 rfl) at_32 (n := 35) rfl ?_
    refine G.lastore C O551 (by decide) (show (3 : Int32).toInt < ((8 : Nat) : Int) by decide) g529 at_35 (n := 36) rfl ?_
    intro h554 K555 W556 O557
    have O558 : Longs Z h554 b524 [(3 : Int64), (7 : Int64), (13 : Int64), (31 : Int64), 0, 0, 0, 0] := O557
    have OL559 := OL552.keep K555 (allS g529 all0)
    have Z560 : n0 ≤ h554.size := Nat.le_trans Z553 K555.1
    refine G.dup C at_36 rfl (n := 37) rfl ?_
    refine G.iconst C (v := (4 : Int32)) at_37 (by decide) (n := 38) rfl ?_
    refine G.ldc2 C (v := (61 : Int64)) (wd hw 5 rfl) at_38 (n := 41) rfl ?_
    refine G.lastore C O558 (by decide) (show (4 : Int32).toInt < ((8 : Nat) : Int) by decide) g529 at_41 (n := 42) rfl ?_
    intro h561 K562 W563 O564
    have O565 : Longs Z h561 b524 [(3 : Int64), (7 : Int64), (13 : Int64), (31 : Int64), (61 : Int64), 0, 0, 0] := O564
    have OL566 := OL559.keep K562 (allS g529 all0)
    have Z567 : n0 ≤ h561.size := Nat.le_trans Z560 K562.1
    refine G.dup C at_42 rfl (n := 43) rfl ?_
    refine G.iconst C (v := (5 : Int32)) at_43 (by decide) (n := 44) rfl ?_
    refine G.ldc2 C (v := (127 : Int64)) (wd hw 6 rfl) at_44 (n := 47) rfl ?_
    refine G.lastore C O565 (by decide) (show (5 : Int32).toInt < ((8 : Nat) : Int) by decide) g529 at_47 (n := 48) rfl ?_
    intro h568 K569 W570 O571
    have O572 : Longs Z h568 b524 [(3 : Int64), (7 : Int64), (13 : Int64), (31 : Int64), (61 : Int64), (127 : Int64), 0, 0] := O571
    have OL573 := OL566.keep K569 (allS g529 all0)
    have Z574 : n0 ≤ h568.size := Nat.le_trans Z567 K569.1
    refine G.dup C at_48 rfl (n := 49) rfl ?_
    refine G.bipush C (v := (6 : Int32)) at_49 (by decide) (n := 51) rfl ?_
    refine G.ldc2 C (v := (251 : Int64)) (wd hw 7 rfl) at_51 (n := 54) rfl ?_
    refine G.lastore C O572 (by decide) (show (6 : Int32).toInt < ((8 : Nat) : Int) by decide) g529 at_54 (n := 55) rfl ?_
    intro h575 K576 W577 O578
    have O579 : Longs Z h575 b524 [(3 : Int64), (7 : Int64), (13 : Int64), (31 : Int64), (61 : Int64), (127 : Int64), (251 : Int64), 0] := O578
    have OL580 := OL573.keep K576 (allS g529 all0)
    have Z581 : n0 ≤ h575.size := Nat.le_trans Z574 K576.1
    refine G.dup C at_55 rfl (n := 56) rfl ?_
    refine G.bipush C (v := (7 : Int32)) at_56 (by decide) (n := 58) rfl ?_
    refine G.ldc2 C (v := (509 : Int64)) (wd hw 8 rfl) at_58 (n := 61) rfl ?_
    refine G.lastore C O579 (by decide) (show (7 : Int32).toInt < ((8 : Nat) : Int) by decide) g529 at_61 (n := 62) rfl ?_
    intro h582 K583 W584 O585
    have O586 : Longs Z h582 b524 [(3 : Int64), (7 : Int64), (13 : Int64), (31 : Int64), (61 : Int64), (127 : Int64), (251 : Int64), (509 : Int64)] := O585
    have OL587 := OL580.keep K583 (allS g529 all0)
    have Z588 : n0 ≤ h582.size := Nat.le_trans Z581 K583.1
    refine G.astore C at_62 rfl (l' := #[.val (.int i0), .val (.int i1), .val (.long i2), .second, .val (.int (7 : Int32)), .val (.ref b524), .unset, .unset, .unset, .unset, .unset, .unset, .unset, .unset]) rfl (n := 64) rfl ?_
    refine G.aload C at_64 rfl rfl (n := 66) rfl ?_
    refine G.iload C at_66 rfl (n := 68) rfl ?_
    refine G.iconst C (v := (2 : Int32)) at_68 (by decide) (n := 69) rfl ?_
    refine G.isub C at_69 (n := 70) rfl ?_
    refine G.fold_int (z := (5 : Int32)) (by decide) ?_
    refine G.laload C (x := (127 : Int64)) O586 (by decide) rfl at_70 (n := 71) rfl ?_
    refine G.lstore C at_71 (l' := #[.val (.int i0), .val (.int i1), .val (.long i2), .second, .val (.int (7 : Int32)), .val (.ref b524), .val (.long (127 : Int64)), .second, .unset, .unset, .unset, .unset, .unset, .unset]) rfl (n := 73) rfl ?_
    refine G.new C (wd hw 9 rfl) (wd hw 10 rfl) (wd hw 11 rfl) at_73 (n := 76) rfl (c' := 2) (s' := 11) rfl rfl (by decide) (by decide) ?_
    intro h589 b590 q591 E592 A593 D594
    have ne595 : b524 ≠ b590 := Nat.ne_of_lt (Nat.lt_of_lt_of_le O586.lt (Nat.le_of_eq q591.symm))
    have g596 : n0 ≤ b590 := Nat.le_trans Z588 (Nat.le_of_eq q591.symm)
    have O597 := Ob_Sd.new hw A593 D594
    have K598 := kext E592
    have O599 := O586.keep K598 nin0
    have OL600 := OL587.keep K598 all0
    have Z601 : n0 ≤ h589.size := Nat.le_trans Z588 K598.1
    refine G.dup C at_76 rfl (n := 77) rfl ?_
    refine G.iload C at_77 rfl (n := 79) rfl ?_
    refine G.callC C (argsL := [(.int (7 : Int32))]) (yc := (⟨"com/example/veilrelay/veilrelay/core/derived/SmallDomain", "<init>", "(I)V"⟩ : MethodName)) (a := b590) rfl (wd hw 12 rfl) (wd hw 13 rfl) (wd hw 11 rfl) (wd hw 14 rfl) (by decide) (m_sd7 l Z a0 hw b590 mr dE lc lv em x2 x3 x5 x7 x127 h589 n0 Z601 OL600 M_r S_dE O_dE S_lc O_lc S_em q_2 q_3 q_5 q_7 q_127 E_x2 E_x3 E_x5 E_x7 E_x127 O597 g596) rfl (by decide) (W := 1) rfl (by decide) (c' := 7) (s' := 32) rfl rfl (by decide) (by decide) at_79 (n := 82) rfl pd18 rfl rfl ?_
    rintro _ h606 ⟨rfl, K602, fo604, O603⟩
    have O607 := O599.keep K602 (ninS ne595 nin0)
    have OL608 := OL600.keep K602 (allS g596 all0)
    have Z609 : n0 ≤ h606.size := Nat.le_trans Z601 K602.1
    refine G.astore C at_82 rfl (l' := #[.val (.int i0), .val (.int i1), .val (.long i2), .second, .val (.int (7 : Int32)), .val (.ref b524), .val (.long (127 : Int64)), .second, .val (.ref b590), .unset, .unset, .unset, .unset, .unset]) rfl (n := 84) rfl ?_
    refine G.iloadN C at_84 rfl (n := 85) rfl ?_
    refine G.iconst C (v := (3 : Int32)) at_85 (by decide) (n := 86) rfl ?_
    refine G.iand C at_86 (n := 87) rfl ?_
    refine G.istoreZ C at_87 (l' := fun z => #[.val (.int i0), .val (.int i1), .val (.long i2), .second, .val (.int (7 : Int32)), .val (.ref b524), .val (.long (127 : Int64)), .second, .val (.ref b590), .val (.int z), .unset, .unset, .unset, .unset]) (fun _ => rfl) (n := 89) rfl ?_
    intro v610 hv610
    refine G.iloadN C at_89 rfl (n := 90) rfl ?_
    refine G.iconst C (v := (2 : Int32)) at_90 (by decide) (n := 91) rfl ?_
    refine G.iushr C at_91 (n := 92) rfl ?_
    refine G.bipush C (v := (7 : Int32)) at_92 (by decide) (n := 94) rfl ?_
    refine G.iand C at_94 (n := 95) rfl ?_
    refine G.iconst C (v := (4 : Int32)) at_95 (by decide) (n := 96) rfl ?_
    refine G.isub C at_96 (n := 97) rfl ?_
    refine G.istoreZ C at_97 (l' := fun z => #[.val (.int i0), .val (.int i1), .val (.long i2), .second, .val (.int (7 : Int32)), .val (.ref b524), .val (.long (127 : Int64)), .second, .val (.ref b590), .val (.int v610), .val (.int z), .unset, .unset, .unset]) (fun _ => rfl) (n := 99) rfl ?_
    intro v611 hv611
    refine G.iload C at_99 rfl (n := 101) rfl ?_
    suffices key615 : ∀ (z615_l11 : Int64), (True) → Go p l e room_1 s m args below meth c n0 (Q_law Z h0 n0 i0 i1 i2 mr dE lc lv em x2 x3 x5 x7 x127) 7 32 h606 (mkF m 148 #[.val (.int i0), .val (.int i1), .val (.long i2), .second, .val (.int (7 : Int32)), .val (.ref b524), .val (.long (127 : Int64)), .second, .val (.ref b590), .val (.int v610), .val (.int v611), .val (.long z615_l11), .second, .unset] []) by
      refine G.if_ne C (A := v610.toInt) rfl at_101 (by decide) (by decide) (n := 104) (n' := 110) rfl (fun c101_612 c101_612i => ?_) (fun c101_612 c101_612i => ?_)
      · refine G.iload C at_110 rfl (n := 112) rfl ?_
        refine G.iconst C (v := (1 : Int32)) at_112 (by decide) (n := 113) rfl ?_
        refine G.icmp_ne C (A := v610.toInt) (B := 1) rfl (by decide) at_113 (by decide) (by decide) (n := 116) (n' := 127) rfl (fun c113_613 c113_613i => ?_) (fun c113_613 c113_613i => ?_)
        · refine G.iload C at_127 rfl (n := 129) rfl ?_
          refine G.iconst C (v := (2 : Int32)) at_129 (by decide) (n := 130) rfl ?_
          refine G.icmp_ne C (A := v610.toInt) (B := 2) rfl (by decide) at_130 (by decide) (by decide) (n := 133) (n' := 141) rfl (fun c130_614 c130_614i => ?_) (fun c130_614 c130_614i => ?_)
          · refine G.lloadN C at_141 rfl (n := 142) rfl ?_
            refine G.ldc2 C (v := (1023 : Int64)) (wd hw 184 rfl) at_142 (n := 145) rfl ?_
            refine G.land C at_145 (n := 146) rfl ?_
            refine G.lstore C at_146 (l' := #[.val (.int i0), .val (.int i1), .val (.long i2), .second, .val (.int (7 : Int32)), .val (.ref b524), .val (.long (127 : Int64)), .second, .val (.ref b590), .val (.int v610), .val (.int v611), .val (.long (i2 &&& (1023 : Int64))), .second, .unset]) rfl (n := 148) rfl ?_
            exact key615 _ (trivial) 
          · refine G.iload C at_133 rfl (n := 135) rfl ?_
            refine G.i2l C at_135 (n := 136) rfl ?_
            refine G.lstore C at_136 (l' := #[.val (.int i0), .val (.int i1), .val (.long i2), .second, .val (.int (7 : Int32)), .val (.ref b524), .val (.long (127 : Int64)), .second, .val (.ref b590), .val (.int v610), .val (.int v611), .val (.long (v611.toInt64)), .second, .unset]) rfl (n := 138) rfl ?_
            refine G.goto C at_138 (by decide) (n := 148) (by decide) ?_
            exact key615 _ (trivial) 
        · refine G.lload C at_116 rfl (n := 118) rfl ?_
          refine G.iload C at_118 rfl (n := 120) rfl ?_
          refine G.i2l C at_120 (n := 121) rfl ?_
          refine G.ladd C at_121 (n := 122) rfl ?_
          refine G.lstore C at_122 (l' := #[.val (.int i0), .val (.int i1), .val (.long i2), .second, .val (.int (7 : Int32)), .val (.ref b524), .val (.long (127 : Int64)), .second, .val (.ref b590), .val (.int v610), .val (.int v611), .val (.long ((127 : Int64) + (v611.toInt64))), .second, .unset]) rfl (n := 124) rfl ?_
          refine G.goto C at_124 (by decide) (n := 148) (by decide) ?_
          exact key615 _ (trivial) 
      · refine G.lloadN C at_104 rfl (n := 105) rfl ?_
        refine G.lstore C at_105 (l' := #[.val (.int i0), .val (.int i1), .val (.long i2), .second, .val (.int (7 : Int32)), .val (.ref b524), .val (.long (127 : Int64)), .second, .val (.ref b590), .val (.int v610), .val (.int v611), .val (.long i2), .second, .unset]) rfl (n := 107) rfl ?_
        refine G.goto C at_107 (by decide) (n := 148) (by decide) ?_
        exact key615 _ (trivial) 
    intro z615_l11 j615 
    refine G.lload C at_148 rfl (n := 150) rfl ?_
    refine G.lconst C (v := (0 : Int64)) at_150 (by decide) (n := 151) rfl ?_
    refine G.lcmp_le C (A := z615_l11.toInt) (B := 0) rfl (by decide) at_151 at_152 (by decide) (by decide) (n := 155) (n' := 169) rfl (fun c152_616 => ?_) (fun c152_616 => ?_)
    · refine G.iconst C (v := (0 : Int32)) at_169 (by decide) (n := 170) rfl ?_
      refine G.istore C at_170 (l' := #[.val (.int i0), .val (.int i1), .val (.long i2), .second, .val (.int (7 : Int32)), .val (.ref b524), .val (.long (127 : Int64)), .second, .val (.ref b590), .val (.int v610), .val (.int v611), .val (.long z615_l11), .second, .val (.int (0 : Int32))]) rfl (n := 172) rfl ?_
      refine G.aload C at_172 rfl rfl (n := 174) rfl ?_
      refine G.lload C at_174 rfl (n := 176) rfl ?_
      refine G.callV C (argsL := [(.long z615_l11)]) (yr := (⟨"com/example/veilrelay/veilrelay/core/derived/SmallDomain", "isId", "(J)Z"⟩ : MethodName)) (yc := (⟨"com/example/veilrelay/veilrelay/core/derived/SmallDomain", "isId", "(J)Z"⟩ : MethodName)) (a := b590) (O603.1) (wd hw 185 rfl) (wd hw 186 rfl) (nfS (wd hw 188 rfl) rfl) (wd hw 188 rfl) (wd hw 187 rfl) (wd hw 11 rfl) (wd hw 189 rfl) (by decide) (m_isid l Z a0 hw b590 _ _ _ z615_l11 h606 n0 Z609 O603) rfl (by decide) (W := 0) rfl (by decide) (c' := 7) (s' := 32) rfl rfl (by decide) (by decide) at_176 (n := 179) rfl pd16 rfl rfl ?_
      rintro _ _ ⟨rfl, rfl⟩
      refine G.iload C at_179 rfl (n := 181) rfl ?_
      have e_p : (127 : Int64).toInt = 127 := by decide
      refine G.icmp_ne C (A := (if 1 ≤ z615_l11.toInt ∧ z615_l11.toInt < (127 : Int64).toInt then 1 else 0 : Int32).toInt) (B := 0) rfl (by decide) at_181 (by decide) (by decide) (n := 184) (n' := 188) rfl (fun c181_619 c181_619i => ?_) (fun c181_619 c181_619i => ?_)
      · exact absurd (if_neg (by omega)) c181_619
      refine G.iconst C (v := (1 : Int32)) at_184 (by decide) (n := 185) rfl ?_
      refine G.goto C at_185 (by decide) (n := 189) (by decide) ?_
      refine G.ireturn C at_189 (rfl) (by simp) (by decide) (by decide) ?_
      exact rfl
    · refine G.lload C at_155 rfl (n := 157) rfl ?_
      refine G.lload C at_157 rfl (n := 159) rfl ?_
      refine G.lconst C (v := (1 : Int64)) at_159 (by decide) (n := 160) rfl ?_
      refine G.lsub C at_160 (n := 161) rfl ?_
      refine G.fold_long (z := (126 : Int64)) (by decide) ?_
      refine G.lcmp_gt C (A := z615_l11.toInt) (B := 126) rfl (by decide) at_161 at_162 (by decide) (by decide) (n := 165) (n' := 169) rfl (fun c162_620 => ?_) (fun c162_620 => ?_)
      · refine G.iconst C (v := (0 : Int32)) at_169 (by decide) (n := 170) rfl ?_
        refine G.istore C at_170 (l' := #[.val (.int i0), .val (.int i1), .val (.long i2), .second, .val (.int (7 : Int32)), .val (.ref b524), .val (.long (127 : Int64)), .second, .val (.ref b590), .val (.int v610), .val (.int v611), .val (.long z615_l11), .second, .val (.int (0 : Int32))]) rfl (n := 172) rfl ?_
        refine G.aload C at_172 rfl rfl (n := 174) rfl ?_
        refine G.lload C at_174 rfl (n := 176) rfl ?_
        refine G.callV C (argsL := [(.long z615_l11)]) (yr := (⟨"com/example/veilrelay/veilrelay/core/derived/SmallDomain", "isId", "(J)Z"⟩ : MethodName)) (yc := (⟨"com/example/veilrelay/veilrelay/core/derived/SmallDomain", "isId", "(J)Z"⟩ : MethodName)) (a := b590) (O603.1) (wd hw 185 rfl) (wd hw 186 rfl) (nfS (wd hw 188 rfl) rfl) (wd hw 188 rfl) (wd hw 187 rfl) (wd hw 11 rfl) (wd hw 189 rfl) (by decide) (m_isid l Z a0 hw b590 _ _ _ z615_l11 h606 n0 Z609 O603) rfl (by decide) (W := 0) rfl (by decide) (c' := 7) (s' := 32) rfl rfl (by decide) (by decide) at_176 (n := 179) rfl pd16 rfl rfl ?_
        rintro _ _ ⟨rfl, rfl⟩
        refine G.iload C at_179 rfl (n := 181) rfl ?_
        have e_p : (127 : Int64).toInt = 127 := by decide
        refine G.icmp_ne C (A := (if 1 ≤ z615_l11.toInt ∧ z615_l11.toInt < (127 : Int64).toInt then 1 else 0 : Int32).toInt) (B := 0) rfl (by decide) at_181 (by decide) (by decide) (n := 184) (n' := 188) rfl (fun c181_623 c181_623i => ?_) (fun c181_623 c181_623i => ?_)
        · exact absurd (if_neg (by omega)) c181_623
        refine G.iconst C (v := (1 : Int32)) at_184 (by decide) (n := 185) rfl ?_
        refine G.goto C at_185 (by decide) (n := 189) (by decide) ?_
        refine G.ireturn C at_189 (rfl) (by simp) (by decide) (by decide) ?_
        exact rfl
      · refine G.iconst C (v := (1 : Int32)) at_165 (by decide) (n := 166) rfl ?_
        refine G.goto C at_166 (by decide) (n := 170) (by decide) ?_
        refine G.istore C at_170 (l' := #[.val (.int i0), .val (.int i1), .val (.long i2), .second, .val (.int (7 : Int32)), .val (.ref b524), .val (.long (127 : Int64)), .second, .val (.ref b590), .val (.int v610), .val (.int v611), .val (.long z615_l11), .second, .val (.int (1 : Int32))]) rfl (n := 172) rfl ?_
        refine G.aload C at_172 rfl rfl (n := 174) rfl ?_
        refine G.lload C at_174 rfl (n := 176) rfl ?_
        refine G.callV C (argsL := [(.long z615_l11)]) (yr := (⟨"com/example/veilrelay/veilrelay/core/derived/SmallDomain", "isId", "(J)Z"⟩ : MethodName)) (yc := (⟨"com/example/veilrelay/veilrelay/core/derived/SmallDomain", "isId", "(J)Z"⟩ : MethodName)) (a := b590) (O603.1) (wd hw 185 rfl) (wd hw 186 rfl) (nfS (wd hw 188 rfl) rfl) (wd hw 188 rfl) (wd hw 187 rfl) (wd hw 11 rfl) (wd hw 189 rfl) (by decide) (m_isid l Z a0 hw b590 _ _ _ z615_l11 h606 n0 Z609 O603) rfl (by decide) (W := 0) rfl (by decide) (c' := 7) (s' := 32) rfl rfl (by decide) (by decide) at_176 (n := 179) rfl pd16 rfl rfl ?_
        rintro _ _ ⟨rfl, rfl⟩
        refine G.iload C at_179 rfl (n := 181) rfl ?_
        have e_p : (127 : Int64).toInt = 127 := by decide
        refine G.icmp_ne C (A := (if 1 ≤ z615_l11.toInt ∧ z615_l11.toInt < (127 : Int64).toInt then 1 else 0 : Int32).toInt) (B := 1) rfl (by decide) at_181 (by decide) (by decide) (n := 184) (n' := 188) rfl (fun c181_626 c181_626i => ?_) (fun c181_626 c181_626i => ?_)
        · exact absurd (if_pos (by omega)) c181_626
        refine G.iconst C (v := (1 : Int32)) at_184 (by decide) (n := 185) rfl ?_
        refine G.goto C at_185 (by decide) (n := 189) (by decide) ?_
        refine G.ireturn C at_189 (rfl) (by simp) (by decide) (by decide) ?_
        exact rfl
  · refine G.istore C at_6 (l' := #[.val (.int i0), .val (.int i1), .val (.long i2), .second, .val (.int (8 : Int32)), .unset, .unset, .unset, .unset, .unset, .unset, .unset, .unset, .unset]) rfl (n := 8) rfl ?_
    refine G.bipush C (v := (8 : Int32)) at_8 (by decide) (n := 10) rfl ?_
    refine G.newarrayJ C (ty := .long) (cap := 8) (wd hw 0 rfl) rfl rfl rfl (by decide) (by decide) (by decide) at_10 (n := 12) rfl (c' := 1) (s' := 8) rfl rfl (by decide) (by decide) ?_
    intro h627 b628 q629 E630 O631
    have O632 : Longs Z h627 b628 [0, 0, 0, 0, 0, 0, 0, 0] := O631
    have g633 : n0 ≤ b628 := Nat.le_trans Z0 (Nat.le_of_eq q629.symm)
    have K634 := kext E630
    have OL635 := OLD0.keep K634 all0
    have Z636 : n0 ≤ h627.size := Nat.le_trans Z0 K634.1
    refine G.dup C at_12 rfl (n := 13) rfl ?_
    refine G.iconst C (v := (0 : Int32)) at_13 (by decide) (n := 14) rfl ?_
    refine G.ldc2 C (v := (3 : Int64)) (wd hw 1 rfl) at_14 (n := 17) rfl ?_
    refine G.lastore C O632 (by decide) (show (0 : Int32).toInt < ((8 : Nat) : Int) by decide) g633 at_17 (n := 18) rfl ?_
    intro h637 K638 W639 O640
    have O641 : Longs Z h637 b628 [(3 : Int64), 0, 0, 0, 0, 0, 0, 0] := O640
    have OL642 := OL635.keep K638 (allS g633 all0)
    have Z643 : n0 ≤ h637.size := Nat.le_trans Z636 K638.1
    refine G.dup C at_18 rfl (n := 19) rfl ?_
    refine G.iconst C (v := (1 : Int32)) at_19 (by decide) (n := 20) rfl ?_
    refine G.ldc2 C (v := (7 : Int64)) (wd hw 2 rfl) at_20 (n := 23) rfl ?_
    refine G.lastore C O641 (by decide) (show (1 : Int32).toInt < ((8 : Nat) : Int) by decide) g633 at_23 (n := 24) rfl ?_
    intro h644 K645 W646 O647
    have O648 : Longs Z h644 b628 [(3 : Int64), (7 : Int64), 0, 0, 0, 0, 0, 0] := O647
    have OL649 := OL642.keep K645 (allS g633 all0)
    have Z650 : n0 ≤ h644.size := Nat.le_trans Z643 K645.1
    refine G.dup C at_24 rfl (n := 25) rfl ?_
    refine G.iconst C (v := (2 : Int32)) at_25 (by decide) (n := 26) rfl ?_
    refine G.ldc2 C (v := (13 : Int64)) (wd hw 3 rfl) at_26 (n := 29) rfl ?_
    refine G.lastore C O648 (by decide) (show (2 : Int32).toInt < ((8 : Nat) : Int) by decide) g633 at_29 (n := 30) rfl ?_
    intro h651 K652 W653 O654
    have O655 : Longs Z h651 b628 [(3 : Int64), (7 : Int64), (13 : Int64), 0, 0, 0, 0, 0] := O654
    have OL656 := OL649.keep K652 (allS g633 all0)
    have Z657 : n0 ≤ h651.size := Nat.le_trans Z650 K652.1
    refine G.dup C at_30 rfl (n := 31) rfl ?_
    refine G.iconst C (v := (3 : Int32)) at_31 (by decide) (n := 32) rfl ?_
    refine G.ldc2 C (v := (31 : Int64)) (wd hw 4 rfl) at_32 (n := 35) rfl ?_
    refine G.lastore C O655 (by decide) (show (3 : Int32).toInt < ((8 : Nat) : Int) by decide) g633 at_35 (n := 36) rfl ?_
    intro h658 K659 W660 O661
    have O662 : Longs Z h658 b628 [(3 : Int64), (7 : Int64), (13 : Int64), (31 : Int64), 0, 0, 0, 0] := O661
    have OL663 := OL656.keep K659 (allS g633 all0)
    have Z664 : n0 ≤ h658.size := Nat.le_trans Z657 K659.1
    refine G.dup C at_36 rfl (n := 37) rfl ?_
    refine G.iconst C (v := (4 : Int32)) at_37 (by decide) (n := 38) rfl ?_
    refine G.ldc2 C (v := (61 : Int64)) (wd hw 5 rfl) at_38 (n := 41) rfl ?_
    refine G.lastore C O662 (by decide) (show (4 : Int32).toInt < ((8 : Nat) : Int) by decide) g633 at_41 (n := 42) rfl ?_
    intro h665 K666 W667 O668
    have O669 : Longs Z h665 b628 [(3 : Int64), (7 : Int64), (13 : Int64), (31 : Int64), (61 : Int64), 0, 0, 0] := O668
    have OL670 := OL663.keep K666 (allS g633 all0)
    have Z671 : n0 ≤ h665.size := Nat.le_trans Z664 K666.1
    refine G.dup C at_42 rfl (n := 43) rfl ?_
    refine G.iconst C (v := (5 : Int32)) at_43 (by decide) (n := 44) rfl ?_
    refine G.ldc2 C (v := (127 : Int64)) (wd hw 6 rfl) at_44 (n := 47) rfl ?_
    refine G.lastore C O669 (by decide) (show (5 : Int32).toInt < ((8 : Nat) : Int) by decide) g633 at_47 (n := 48) rfl ?_
    intro h672 K673 W674 O675
    have O676 : Longs Z h672 b628 [(3 : Int64), (7 : Int64), (13 : Int64), (31 : Int64), (61 : Int64), (127 : Int64), 0, 0] := O675
    have OL677 := OL670.keep K673 (allS g633 all0)
    have Z678 : n0 ≤ h672.size := Nat.le_trans Z671 K673.1
    refine G.dup C at_48 rfl (n := 49) rfl ?_
    refine G.bipush C (v := (6 : Int32)) at_49 (by decide) (n := 51) rfl ?_
    refine G.ldc2 C (v := (251 : Int64)) (wd hw 7 rfl) at_51 (n := 54) rfl ?_
    refine G.lastore C O676 (by decide) (show (6 : Int32).toInt < ((8 : Nat) : Int) by decide) g633 at_54 (n := 55) rfl ?_
    intro h679 K680 W681 O682
    have O683 : Longs Z h679 b628 [(3 : Int64), (7 : Int64), (13 : Int64), (31 : Int64), (61 : Int64), (127 : Int64), (251 : Int64), 0] := O682
    have OL684 := OL677.keep K680 (allS g633 all0)
    have Z685 : n0 ≤ h679.size := Nat.le_trans Z678 K680.1
    refine G.dup C at_55 rfl (n := 56) rfl ?_
    refine G.bipush C (v := (7 : Int32)) at_56 (by decide) (n := 58) rfl ?_
    refine G.ldc2 C (v := (509 : Int64)) (wd hw 8 rfl) at_58 (n := 61) rfl ?_
    refine G.lastore C O683 (by decide) (show (7 : Int32).toInt < ((8 : Nat) : Int) by decide) g633 at_61 (n := 62) rfl ?_
    intro h686 K687 W688 O689
    have O690 : Longs Z h686 b628 [(3 : Int64), (7 : Int64), (13 : Int64), (31 : Int64), (61 : Int64), (127 : Int64), (251 : Int64), (509 : Int64)] := O689
    have OL691 := OL684.keep K687 (allS g633 all0)
    have Z692 : n0 ≤ h686.size := Nat.le_trans Z685 K687.1
    refine G.astore C at_62 rfl (l' := #[.val (.int i0), .val (.int i1), .val (.long i2), .second, .val (.int (8 : Int32)), .val (.ref b628), .unset, .unset, .unset, .unset, .unset, .unset, .unset, .unset]) rfl (n := 64) rfl ?_
    refine G.aload C at_64 rfl rfl (n := 66) rfl ?_
    refine G.iload C at_66 rfl (n := 68) rfl ?_
    refine G.iconst C (v := (2 : Int32)) at_68 (by decide) (n := 69) rfl ?_
    refine G.isub C at_69 (n := 70) rfl ?_
    refine G.fold_int (z := (6 : Int32)) (by decide) ?_
    refine G.laload C (x := (251 : Int64)) O690 (by decide) rfl at_70 (n := 71) rfl ?_
    refine G.lstore C at_71 (l' := #[.val (.int i0), .val (.int i1), .val (.long i2), .second, .val (.int (8 : Int32)), .val (.ref b628), .val (.long (251 : Int64)), .second, .unset, .unset, .unset, .unset, .unset, .unset]) rfl (n := 73) rfl ?_
    refine G.new C (wd hw 9 rfl) (wd hw 10 rfl) (wd hw 11 rfl) at_73 (n := 76) rfl (c' := 2) (s' := 11) rfl rfl (by decide) (by decide) ?_
    intro h693 b694 q695 E696 A697 D698
    have ne699 : b628 ≠ b694 := Nat.ne_of_lt (Nat.lt_of_lt_of_le O690.lt (Nat.le_of_eq q695.symm))
    have g700 : n0 ≤ b694 := Nat.le_trans Z692 (Nat.le_of_eq q695.symm)
    have O701 := Ob_Sd.new hw A697 D698
    have K702 := kext E696
    have O703 := O690.keep K702 nin0
    have OL704 := OL691.keep K702 all0
    have Z705 : n0 ≤ h693.size := Nat.le_trans Z692 K702.1
    refine G.dup C at_76 rfl (n := 77) rfl ?_
    refine G.iload C at_77 rfl (n := 79) rfl ?_
    refine G.callC C (argsL := [(.int (8 : Int32))]) (yc := (⟨"com/example/veilrelay/veilrelay/core/derived/SmallDomain", "<init>", "(I)V"⟩ : MethodName)) (a := b694) rfl (wd hw 12 rfl) (wd hw 13 rfl) (wd hw 11 rfl) (wd hw 14 rfl) (by decide) (m_sd8 l Z a0 hw b694 mr dE lc lv em x2 x3 x5 x7 x127 h693 n0 Z705 OL704 M_r S_dE O_dE S_lc O_lc S_em q_2 q_3 q_5 q_7 q_127 E_x2 E_x3 E_x5 E_x7 E_x127 O701 g700) rfl (by decide) (W := 1) rfl (by decide) (c' := 6) (s' := 28) rfl rfl (by decide) (by decide) at_79 (n := 82) rfl pd18 rfl rfl ?_
    rintro _ h710 ⟨rfl, K706, fo708, O707⟩
    have O711 := O703.keep K706 (ninS ne699 nin0)
    have OL712 := OL704.keep K706 (allS g700 all0)
    have Z713 : n0 ≤ h710.size := Nat.le_trans Z705 K706.1
    refine G.astore C at_82 rfl (l' := #[.val (.int i0), .val (.int i1), .val (.long i2), .second, .val (.int (8 : Int32)), .val (.ref b628), .val (.long (251 : Int64)), .second, .val (.ref b694), .unset, .unset, .unset, .unset, .unset]) rfl (n := 84) rfl ?_
    refine G.iloadN C at_84 rfl (n := 85) rfl ?_
    refine G.iconst C (v := (3 : Int32)) at_85 (by decide) (n := 86) rfl ?_
    refine G.iand C at_86 (n := 87) rfl ?_
    refine G.istoreZ C at_87 (l' := fun z => #[.val (.int i0), .val (.int i1), .val (.long i2), .second, .val (.int (8 : Int32)), .val (.ref b628), .val (.long (251 : Int64)), .second, .val (.ref b694), .val (.int z), .unset, .unset, .unset, .unset]) (fun _ => rfl) (n := 89) rfl ?_
    intro v714 hv714
    refine G.iloadN C at_89 rfl (n := 90) rfl ?_
    refine G.iconst C (v := (2 : Int32)) at_90 (by decide) (n := 91) rfl ?_
    refine G.iushr C at_91 (n := 92) rfl ?_
    refine G.bipush C (v := (7 : Int32)) at_92 (by decide) (n := 94) rfl ?_
    refine G.iand C at_94 (n := 95) rfl ?_
    refine G.iconst C (v := (4 : Int32)) at_95 (by decide) (n := 96) rfl ?_
    refine G.isub C at_96 (n := 97) rfl ?_
    refine G.istoreZ C at_97 (l' := fun z => #[.val (.int i0), .val (.int i1), .val (.long i2), .second, .val (.int (8 : Int32)), .val (.ref b628), .val (.long (251 : Int64)), .second, .val (.ref b694), .val (.int v714), .val (.int z), .unset, .unset, .unset]) (fun _ => rfl) (n := 99) rfl ?_
    intro v715 hv715
    refine G.iload C at_99 rfl (n := 101) rfl ?_
    suffices key719 : ∀ (z719_l11 : Int64), (True) → Go p l e room_1 s m args below meth c n0 (Q_law Z h0 n0 i0 i1 i2 mr dE lc lv em x2 x3 x5 x7 x127) 6 28 h710 (mkF m 148 #[.val (.int i0), .val (.int i1), .val (.long i2), .second, .val (.int (8 : Int32)), .val (.ref b628), .val (.long (251 : Int64)), .second, .val (.ref b694), .val (.int v714), .val (.int v715), .val (.long z719_l11), .second, .unset] []) by
      refine G.if_ne C (A := v714.toInt) rfl at_101 (by decide) (by decide) (n := 104) (n' := 110) rfl (fun c101_716 c101_716i => ?_) (fun c101_716 c101_716i => ?_)
      · refine G.iload C at_110 rfl (n := 112) rfl ?_
        refine G.iconst C (v := (1 : Int32)) at_112 (by decide) (n := 113) rfl ?_
        refine G.icmp_ne C (A := v714.toInt) (B := 1) rfl (by decide) at_113 (by decide) (by decide) (n := 116) (n' := 127) rfl (fun c113_717 c113_717i => ?_) (fun c113_717 c113_717i => ?_)
        · refine G.iload C at_127 rfl (n := 129) rfl ?_
          refine G.iconst C (v := (2 : Int32)) at_129 (by decide) (n := 130) rfl ?_
          refine G.icmp_ne C (A := v714.toInt) (B := 2) rfl (by decide) at_130 (by decide) (by decide) (n := 133) (n' := 141) rfl (fun c130_718 c130_718i => ?_) (fun c130_718 c130_718i => ?_)
          · refine G.lloadN C at_141 rfl (n := 142) rfl ?_
            refine G.ldc2 C (v := (1023 : Int64)) (wd hw 184 rfl) at_142 (n := 145) rfl ?_
            refine G.land C at_145 (n := 146) rfl ?_
            refine G.lstore C at_146 (l' := #[.val (.int i0), .val (.int i1), .val (.long i2), .second, .val (.int (8 : Int32)), .val (.ref b628), .val (.long (251 : Int64)), .second, .val (.ref b694), .val (.int v714), .val (.int v715), .val (.long (i2 &&& (1023 : Int64))), .second, .unset]) rfl (n := 148) rfl ?_
            exact key719 _ (trivial) 
          · refine G.iload C at_133 rfl (n := 135) rfl ?_
            refine G.i2l C at_135 (n := 136) rfl ?_
            refine G.lstore C at_136 (l' := #[.val (.int i0), .val (.int i1), .val (.long i2), .second, .val (.int (8 : Int32)), .val (.ref b628), .val (.long (251 : Int64)), .second, .val (.ref b694), .val (.int v714), .val (.int v715), .val (.long (v715.toInt64)), .second, .unset]) rfl (n := 138) rfl ?_
            refine G.goto C at_138 (by decide) (n := 148) (by decide) ?_
            exact key719 _ (trivial) 
        · refine G.lload C at_116 rfl (n := 118) rfl ?_
          refine G.iload C at_118 rfl (n := 120) rfl ?_
          refine G.i2l C at_120 (n := 121) rfl ?_
          refine G.ladd C at_121 (n := 122) rfl ?_
          refine G.lstore C at_122 (l' := #[.val (.int i0), .val (.int i1), .val (.long i2), .second, .val (.int (8 : Int32)), .val (.ref b628), .val (.long (251 : Int64)), .second, .val (.ref b694), .val (.int v714), .val (.int v715), .val (.long ((251 : Int64) + (v715.toInt64))), .second, .unset]) rfl (n := 124) rfl ?_
          refine G.goto C at_124 (by decide) (n := 148) (by decide) ?_
          exact key719 _ (trivial) 
      · refine G.lloadN C at_104 rfl (n := 105) rfl ?_
        refine G.lstore C at_105 (l' := #[.val (.int i0), .val (.int i1), .val (.long i2), .second, .val (.int (8 : Int32)), .val (.ref b628), .val (.long (251 : Int64)), .second, .val (.ref b694), .val (.int v714), .val (.int v715), .val (.long i2), .second, .unset]) rfl (n := 107) rfl ?_
        refine G.goto C at_107 (by decide) (n := 148) (by decide) ?_
        exact key719 _ (trivial) 
    intro z719_l11 j719 
    refine G.lload C at_148 rfl (n := 150) rfl ?_
    refine G.lconst C (v := (0 : Int64)) at_150 (by decide) (n := 151) rfl ?_
    refine G.lcmp_le C (A := z719_l11.toInt) (B := 0) rfl (by decide) at_151 at_152 (by decide) (by decide) (n := 155) (n' := 169) rfl (fun c152_720 => ?_) (fun c152_720 => ?_)
    · refine G.iconst C (v := (0 : Int32)) at_169 (by decide) (n := 170) rfl ?_
      refine G.istore C at_170 (l' := #[.val (.int i0), .val (.int i1), .val (.long i2), .second, .val (.int (8 : Int32)), .val (.ref b628), .val (.long (251 : Int64)), .second, .val (.ref b694), .val (.int v714), .val (.int v715), .val (.long z719_l11), .second, .val (.int (0 : Int32))]) rfl (n := 172) rfl ?_
      refine G.aload C at_172 rfl rfl (n := 174) rfl ?_
      refine G.lload C at_174 rfl (n := 176) rfl ?_
      refine G.callV C (argsL := [(.long z719_l11)]) (yr := (⟨"com/example/veilrelay/veilrelay/core/derived/SmallDomain", "isId", "(J)Z"⟩ : MethodName)) (yc := (⟨"com/example/veilrelay/veilrelay/core/derived/SmallDomain", "isId", "(J)Z"⟩ : MethodName)) (a := b694) (O707.1) (wd hw 185 rfl) (wd hw 186 rfl) (nfS (wd hw 188 rfl) rfl) (wd hw 188 rfl) (wd hw 187 rfl) (wd hw 11 rfl) (wd hw 189 rfl) (by decide) (m_isid l Z a0 hw b694 _ _ _ z719_l11 h710 n0 Z713 O707) rfl (by decide) (W := 0) rfl (by decide) (c' := 6) (s' := 28) rfl rfl (by decide) (by decide) at_176 (n := 179) rfl pd16 rfl rfl ?_
      rintro _ _ ⟨rfl, rfl⟩
      refine G.iload C at_179 rfl (n := 181) rfl ?_
      have e_p : (251 : Int64).toInt = 251 := by decide
      refine G.icmp_ne C (A := (if 1 ≤ z719_l11.toInt ∧ z719_l11.toInt < (251 : Int64).toInt then 1 else 0 : Int32).toInt) (B := 0) rfl (by decide) at_181 (by decide) (by decide) (n := 184) (n' := 188) rfl (fun c181_723 c181_723i => ?_) (fun c181_723 c181_723i => ?_)
      · exact absurd (if_neg (by omega)) c181_723
      refine G.iconst C (v := (1 : Int32)) at_184 (by decide) (n := 185) rfl ?_
      refine G.goto C at_185 (by decide) (n := 189) (by decide) ?_
      refine G.ireturn C at_189 (rfl) (by simp) (by decide) (by decide) ?_
      exact rfl
    · refine G.lload C at_155 rfl (n := 157) rfl ?_
      refine G.lload C at_157 rfl (n := 159) rfl ?_
      refine G.lconst C (v := (1 : Int64)) at_159 (by decide) (n := 160) rfl ?_
      refine G.lsub C at_160 (n := 161) rfl ?_
      refine G.fold_long (z := (250 : Int64)) (by decide) ?_
      refine G.lcmp_gt C (A := z719_l11.toInt) (B := 250) rfl (by decide) at_161 at_162 (by decide) (by decide) (n := 165) (n' := 169) rfl (fun c162_724 => ?_) (fun c162_724 => ?_)
      · refine G.iconst C (v := (0 : Int32)) at_169 (by decide) (n := 170) rfl ?_
        refine G.istore C at_170 (l' := #[.val (.int i0), .val (.int i1), .val (.long i2), .second, .val (.int (8 : Int32)), .val (.ref b628), .val (.long (251 : Int64)), .second, .val (.ref b694), .val (.int v714), .val (.int v715), .val (.long z719_l11), .second, .val (.int (0 : Int32))]) rfl (n := 172) rfl ?_
        refine G.aload C at_172 rfl rfl (n := 174) rfl ?_
        refine G.lload C at_174 rfl (n := 176) rfl ?_
        refine G.callV C (argsL := [(.long z719_l11)]) (yr := (⟨"com/example/veilrelay/veilrelay/core/derived/SmallDomain", "isId", "(J)Z"⟩ : MethodName)) (yc := (⟨"com/example/veilrelay/veilrelay/core/derived/SmallDomain", "isId", "(J)Z"⟩ : MethodName)) (a := b694) (O707.1) (wd hw 185 rfl) (wd hw 186 rfl) (nfS (wd hw 188 rfl) rfl) (wd hw 188 rfl) (wd hw 187 rfl) (wd hw 11 rfl) (wd hw 189 rfl) (by decide) (m_isid l Z a0 hw b694 _ _ _ z719_l11 h710 n0 Z713 O707) rfl (by decide) (W := 0) rfl (by decide) (c' := 6) (s' := 28) rfl rfl (by decide) (by decide) at_176 (n := 179) rfl pd16 rfl rfl ?_
        rintro _ _ ⟨rfl, rfl⟩
        refine G.iload C at_179 rfl (n := 181) rfl ?_
        have e_p : (251 : Int64).toInt = 251 := by decide
        refine G.icmp_ne C (A := (if 1 ≤ z719_l11.toInt ∧ z719_l11.toInt < (251 : Int64).toInt then 1 else 0 : Int32).toInt) (B := 0) rfl (by decide) at_181 (by decide) (by decide) (n := 184) (n' := 188) rfl (fun c181_727 c181_727i => ?_) (fun c181_727 c181_727i => ?_)
        · exact absurd (if_neg (by omega)) c181_727
        refine G.iconst C (v := (1 : Int32)) at_184 (by decide) (n := 185) rfl ?_
        refine G.goto C at_185 (by decide) (n := 189) (by decide) ?_
        refine G.ireturn C at_189 (rfl) (by simp) (by decide) (by decide) ?_
        exact rfl
      · refine G.iconst C (v := (1 : Int32)) at_165 (by decide) (n := 166) rfl ?_
        refine G.goto C at_166 (by decide) (n := 170) (by decide) ?_
        refine G.istore C at_170 (l' := #[.val (.int i0), .val (.int i1), .val (.long i2), .second, .val (.int (8 : Int32)), .val (.ref b628), .val (.long (251 : Int64)), .second, .val (.ref b694), .val (.int v714), .val (.int v715), .val (.long z719_l11), .second, .val (.int (1 : Int32))]) rfl (n := 172) rfl ?_
        refine G.aload C at_172 rfl rfl (n := 174) rfl ?_
        refine G.lload C at_174 rfl (n := 176) rfl ?_
        refine G.callV C (argsL := [(.long z719_l11)]) (yr := (⟨"com/example/veilrelay/veilrelay/core/derived/SmallDomain", "isId", "(J)Z"⟩ : MethodName)) (yc := (⟨"com/example/veilrelay/veilrelay/core/derived/SmallDomain", "isId", "(J)Z"⟩ : MethodName)) (a := b694) (O707.1) (wd hw 185 rfl) (wd hw 186 rfl) (nfS (wd hw 188 rfl) rfl) (wd hw 188 rfl) (wd hw 187 rfl) (wd hw 11 rfl) (wd hw 189 rfl) (by decide) (m_isid l Z a0 hw b694 _ _ _ z719_l11 h710 n0 Z713 O707) rfl (by decide) (W := 0) rfl (by decide) (c' := 6) (s' := 28) rfl rfl (by decide) (by decide) at_176 (n := 179) rfl pd16 rfl rfl ?_
        rintro _ _ ⟨rfl, rfl⟩
        refine G.iload C at_179 rfl (n := 181) rfl ?_
        have e_p : (251 : Int64).toInt = 251 := by decide
        refine G.icmp_ne C (A := (if 1 ≤ z719_l11.toInt ∧ z719_l11.toInt < (251 : Int64).toInt then 1 else 0 : Int32).toInt) (B := 1) rfl (by decide) at_181 (by decide) (by decide) (n := 184) (n' := 188) rfl (fun c181_730 c181_730i => ?_) (fun c181_730 c181_730i => ?_)
        · exact absurd (if_pos (by omega)) c181_730
        refine G.iconst C (v := (1 : Int32)) at_184 (by decide) (n := 185) rfl ?_
        refine G.goto C at_185 (by decide) (n := 189) (by decide) ?_
        refine G.ireturn C at_189 (rfl) (by simp) (by decide) (by decide) ?_
        exact rfl
  · refine G.istore C at_6 (l' := #[.val (.int i0), .val (.int i1), .val (.long i2), .second, .val (.int (9 : Int32)), .unset, .unset, .unset, .unset, .unset, .unset, .unset, .unset, .unset]) rfl (n := 8) rfl ?_
    refine G.bipush C (v := (8 : Int32)) at_8 (by decide) (n := 10) rfl ?_
    refine G.newarrayJ C (ty := .long) (cap := 8) (wd hw 0 rfl) rfl rfl rfl (by decide) (by decide) (by decide) at_10 (n := 12) rfl (c' := 1) (s' := 8) rfl rfl (by decide) (by decide) ?_
    intro h731 b732 q733 E734 O735
    have O736 : Longs Z h731 b732 [0, 0, 0, 0, 0, 0, 0, 0] := O735
    have g737 : n0 ≤ b732 := Nat.le_trans Z0 (Nat.le_of_eq q733.symm)
    have K738 := kext E734
    have OL739 := OLD0.keep K738 all0
    have Z740 : n0 ≤ h731.size := Nat.le_trans Z0 K738.1
    refine G.dup C at_12 rfl (n := 13) rfl ?_
    refine G.iconst C (v := (0 : Int32)) at_13 (by decide) (n := 14) rfl ?_
    refine G.ldc2 C (v := (3 : Int64)) (wd hw 1 rfl) at_14 (n := 17) rfl ?_
    refine G.lastore C O736 (by decide) (show (0 : Int32).toInt < ((8 : Nat) : Int) by decide) g737 at_17 (n := 18) rfl ?_
    intro h741 K742 W743 O744
    have O745 : Longs Z h741 b732 [(3 : Int64), 0, 0, 0, 0, 0, 0, 0] := O744
    have OL746 := OL739.keep K742 (allS g737 all0)
    have Z747 : n0 ≤ h741.size := Nat.le_trans Z740 K742.1
    refine G.dup C at_18 rfl (n := 19) rfl ?_
    refine G.iconst C (v := (1 : Int32)) at_19 (by decide) (n := 20) rfl ?_
    refine G.ldc2 C (v := (7 : Int64)) (wd hw 2 rfl) at_20 (n := 23) rfl ?_
    refine G.lastore C O745 (by decide) (show (1 : Int32).toInt < ((8 : Nat) : Int) by decide) g737 at_23 (n := 24) rfl ?_
    intro h748 K749 W750 O751
    have O752 : Longs Z h748 b732 [(3 : Int64), (7 : Int64), 0, 0, 0, 0, 0, 0] := O751
    have OL753 := OL746.keep K749 (allS g737 all0)
    have Z754 : n0 ≤ h748.size := Nat.le_trans Z747 K749.1
    refine G.dup C at_24 rfl (n := 25) rfl ?_
    refine G.iconst C (v := (2 : Int32)) at_25 (by decide) (n := 26) rfl ?_
    refine G.ldc2 C (v := (13 : Int64)) (wd hw 3 rfl) at_26 (n := 29) rfl ?_
    refine G.lastore C O752 (by decide) (show (2 : Int32).toInt < ((8 : Nat) : Int) by decide) g737 at_29 (n := 30) rfl ?_
    intro h755 K756 W757 O758
    have O759 : Longs Z h755 b732 [(3 : Int64), (7 : Int64), (13 : Int64), 0, 0, 0, 0, 0] := O758
    have OL760 := OL753.keep K756 (allS g737 all0)
    have Z761 : n0 ≤ h755.size := Nat.le_trans Z754 K756.1
    refine G.dup C at_30 rfl (n := 31) rfl ?_
    refine G.iconst C (v := (3 : Int32)) at_31 (by decide) (n := 32) rfl ?_
    refine G.ldc2 C (v := (31 : Int64)) (wd hw 4 rfl) at_32 (n := 35) rfl ?_
    refine G.lastore C O759 (by decide) (show (3 : Int32).toInt < ((8 : Nat) : Int) by decide) g737 at_35 (n := 36) rfl ?_
    intro h762 K763 W764 O765
    have O766 : Longs Z h762 b732 [(3 : Int64), (7 : Int64), (13 : Int64), (31 : Int64), 0, 0, 0, 0] := O765
    have OL767 := OL760.keep K763 (allS g737 all0)
    have Z768 : n0 ≤ h762.size := Nat.le_trans Z761 K763.1
    refine G.dup C at_36 rfl (n := 37) rfl ?_
    refine G.iconst C (v := (4 : Int32)) at_37 (by decide) (n := 38) rfl ?_
    refine G.ldc2 C (v := (61 : Int64)) (wd hw 5 rfl) at_38 (n := 41) rfl ?_
    refine G.lastore C O766 (by decide) (show (4 : Int32).toInt < ((8 : Nat) : Int) by decide) g737 at_41 (n := 42) rfl ?_
    intro h769 K770 W771 O772
    have O773 : Longs Z h769 b732 [(3 : Int64), (7 : Int64), (13 : Int64), (31 : Int64), (61 : Int64), 0, 0, 0] := O772
    have OL774 := OL767.keep K770 (allS g737 all0)
    have Z775 : n0 ≤ h769.size := Nat.le_trans Z768 K770.1
    refine G.dup C at_42 rfl (n := 43) rfl ?_
    refine G.iconst C (v := (5 : Int32)) at_43 (by decide) (n := 44) rfl ?_
    refine G.ldc2 C (v := (127 : Int64)) (wd hw 6 rfl) at_44 (n := 47) rfl ?_
    refine G.lastore C O773 (by decide) (show (5 : Int32).toInt < ((8 : Nat) : Int) by decide) g737 at_47 (n := 48) rfl ?_
    intro h776 K777 W778 O779
    have O780 : Longs Z h776 b732 [(3 : Int64), (7 : Int64), (13 : Int64), (31 : Int64), (61 : Int64), (127 : Int64), 0, 0] := O779
    have OL781 := OL774.keep K777 (allS g737 all0)
    have Z782 : n0 ≤ h776.size := Nat.le_trans Z775 K777.1
    refine G.dup C at_48 rfl (n := 49) rfl ?_
    refine G.bipush C (v := (6 : Int32)) at_49 (by decide) (n := 51) rfl ?_
    refine G.ldc2 C (v := (251 : Int64)) (wd hw 7 rfl) at_51 (n := 54) rfl ?_
    refine G.lastore C O780 (by decide) (show (6 : Int32).toInt < ((8 : Nat) : Int) by decide) g737 at_54 (n := 55) rfl ?_
    intro h783 K784 W785 O786
    have O787 : Longs Z h783 b732 [(3 : Int64), (7 : Int64), (13 : Int64), (31 : Int64), (61 : Int64), (127 : Int64), (251 : Int64), 0] := O786
    have OL788 := OL781.keep K784 (allS g737 all0)
    have Z789 : n0 ≤ h783.size := Nat.le_trans Z782 K784.1
    refine G.dup C at_55 rfl (n := 56) rfl ?_
    refine G.bipush C (v := (7 : Int32)) at_56 (by decide) (n := 58) rfl ?_
    refine G.ldc2 C (v := (509 : Int64)) (wd hw 8 rfl) at_58 (n := 61) rfl ?_
    refine G.lastore C O787 (by decide) (show (7 : Int32).toInt < ((8 : Nat) : Int) by decide) g737 at_61 (n := 62) rfl ?_
    intro h790 K791 W792 O793
    have O794 : Longs Z h790 b732 [(3 : Int64), (7 : Int64), (13 : Int64), (31 : Int64), (61 : Int64), (127 : Int64), (251 : Int64), (509 : Int64)] := O793
    have OL795 := OL788.keep K791 (allS g737 all0)
    have Z796 : n0 ≤ h790.size := Nat.le_trans Z789 K791.1
    refine G.astore C at_62 rfl (l' := #[.val (.int i0), .val (.int i1), .val (.long i2), .second, .val (.int (9 : Int32)), .val (.ref b732), .unset, .unset, .unset, .unset, .unset, .unset, .unset, .unset]) rfl (n := 64) rfl ?_
    refine G.aload C at_64 rfl rfl (n := 66) rfl ?_
    refine G.iload C at_66 rfl (n := 68) rfl ?_
    refine G.iconst C (v := (2 : Int32)) at_68 (by decide) (n := 69) rfl ?_
    refine G.isub C at_69 (n := 70) rfl ?_
    refine G.fold_int (z := (7 : Int32)) (by decide) ?_
    refine G.laload C (x := (509 : Int64)) O794 (by decide) rfl at_70 (n := 71) rfl ?_
    refine G.lstore C at_71 (l' := #[.val (.int i0), .val (.int i1), .val (.long i2), .second, .val (.int (9 : Int32)), .val (.ref b732), .val (.long (509 : Int64)), .second, .unset, .unset, .unset, .unset, .unset, .unset]) rfl (n := 73) rfl ?_
    refine G.new C (wd hw 9 rfl) (wd hw 10 rfl) (wd hw 11 rfl) at_73 (n := 76) rfl (c' := 2) (s' := 11) rfl rfl (by decide) (by decide) ?_
    intro h797 b798 q799 E800 A801 D802
    have ne803 : b732 ≠ b798 := Nat.ne_of_lt (Nat.lt_of_lt_of_le O794.lt (Nat.le_of_eq q799.symm))
    have g804 : n0 ≤ b798 := Nat.le_trans Z796 (Nat.le_of_eq q799.symm)
    have O805 := Ob_Sd.new hw A801 D802
    have K806 := kext E800
    have O807 := O794.keep K806 nin0
    have OL808 := OL795.keep K806 all0
    have Z809 : n0 ≤ h797.size := Nat.le_trans Z796 K806.1
    refine G.dup C at_76 rfl (n := 77) rfl ?_
    refine G.iload C at_77 rfl (n := 79) rfl ?_
    refine G.callC C (argsL := [(.int (9 : Int32))]) (yc := (⟨"com/example/veilrelay/veilrelay/core/derived/SmallDomain", "<init>", "(I)V"⟩ : MethodName)) (a := b798) rfl (wd hw 12 rfl) (wd hw 13 rfl) (wd hw 11 rfl) (wd hw 14 rfl) (by decide) (m_sd9 l Z a0 hw b798 mr dE lc lv em x2 x3 x5 x7 x127 h797 n0 Z809 OL808 M_r S_dE O_dE S_lc O_lc S_em q_2 q_3 q_5 q_7 q_127 E_x2 E_x3 E_x5 E_x7 E_x127 O805 g804) rfl (by decide) (W := 1) rfl (by decide) (c' := 6) (s' := 28) rfl rfl (by decide) (by decide) at_79 (n := 82) rfl pd18 rfl rfl ?_
    rintro _ h814 ⟨rfl, K810, fo812, O811⟩
    have O815 := O807.keep K810 (ninS ne803 nin0)
    have OL816 := OL808.keep K810 (allS g804 all0)
    have Z817 : n0 ≤ h814.size := Nat.le_trans Z809 K810.1
    refine G.astore C at_82 rfl (l' := #[.val (.int i0), .val (.int i1), .val (.long i2), .second, .val (.int (9 : Int32)), .val (.ref b732), .val (.long (509 : Int64)), .second, .val (.ref b798), .unset, .unset, .unset, .unset, .unset]) rfl (n := 84) rfl ?_
    refine G.iloadN C at_84 rfl (n := 85) rfl ?_
    refine G.iconst C (v := (3 : Int32)) at_85 (by decide) (n := 86) rfl ?_
    refine G.iand C at_86 (n := 87) rfl ?_
    refine G.istoreZ C at_87 (l' := fun z => #[.val (.int i0), .val (.int i1), .val (.long i2), .second, .val (.int (9 : Int32)), .val (.ref b732), .val (.long (509 : Int64)), .second, .val (.ref b798), .val (.int z), .unset, .unset, .unset, .unset]) (fun _ => rfl) (n := 89) rfl ?_
    intro v818 hv818
    refine G.iloadN C at_89 rfl (n := 90) rfl ?_
    refine G.iconst C (v := (2 : Int32)) at_90 (by decide) (n := 91) rfl ?_
    refine G.iushr C at_91 (n := 92) rfl ?_
    refine G.bipush C (v := (7 : Int32)) at_92 (by decide) (n := 94) rfl ?_
    refine G.iand C at_94 (n := 95) rfl ?_
    refine G.iconst C (v := (4 : Int32)) at_95 (by decide) (n := 96) rfl ?_
    refine G.isub C at_96 (n := 97) rfl ?_
    refine G.istoreZ C at_97 (l' := fun z => #[.val (.int i0), .val (.int i1), .val (.long i2), .second, .val (.int (9 : Int32)), .val (.ref b732), .val (.long (509 : Int64)), .second, .val (.ref b798), .val (.int v818), .val (.int z), .unset, .unset, .unset]) (fun _ => rfl) (n := 99) rfl ?_
    intro v819 hv819
    refine G.iload C at_99 rfl (n := 101) rfl ?_
    suffices key823 : ∀ (z823_l11 : Int64), (True) → Go p l e room_1 s m args below meth c n0 (Q_law Z h0 n0 i0 i1 i2 mr dE lc lv em x2 x3 x5 x7 x127) 6 28 h814 (mkF m 148 #[.val (.int i0), .val (.int i1), .val (.long i2), .second, .val (.int (9 : Int32)), .val (.ref b732), .val (.long (509 : Int64)), .second, .val (.ref b798), .val (.int v818), .val (.int v819), .val (.long z823_l11), .second, .unset] []) by
      refine G.if_ne C (A := v818.toInt) rfl at_101 (by decide) (by decide) (n := 104) (n' := 110) rfl (fun c101_820 c101_820i => ?_) (fun c101_820 c101_820i => ?_)
      · refine G.iload C at_110 rfl (n := 112) rfl ?_
        refine G.iconst C (v := (1 : Int32)) at_112 (by decide) (n := 113) rfl ?_
        refine G.icmp_ne C (A := v818.toInt) (B := 1) rfl (by decide) at_113 (by decide) (by decide) (n := 116) (n' := 127) rfl (fun c113_821 c113_821i => ?_) (fun c113_821 c113_821i => ?_)
        · refine G.iload C at_127 rfl (n := 129) rfl ?_
          refine G.iconst C (v := (2 : Int32)) at_129 (by decide) (n := 130) rfl ?_
          refine G.icmp_ne C (A := v818.toInt) (B := 2) rfl (by decide) at_130 (by decide) (by decide) (n := 133) (n' := 141) rfl (fun c130_822 c130_822i => ?_) (fun c130_822 c130_822i => ?_)
          · refine G.lloadN C at_141 rfl (n := 142) rfl ?_
            refine G.ldc2 C (v := (1023 : Int64)) (wd hw 184 rfl) at_142 (n := 145) rfl ?_
            refine G.land C at_145 (n := 146) rfl ?_
            refine G.lstore C at_146 (l' := #[.val (.int i0), .val (.int i1), .val (.long i2), .second, .val (.int (9 : Int32)), .val (.ref b732), .val (.long (509 : Int64)), .second, .val (.ref b798), .val (.int v818), .val (.int v819), .val (.long (i2 &&& (1023 : Int64))), .second, .unset]) rfl (n := 148) rfl ?_
            exact key823 _ (trivial) 
          · refine G.iload C at_133 rfl (n := 135) rfl ?_
            refine G.i2l C at_135 (n := 136) rfl ?_
            refine G.lstore C at_136 (l' := #[.val (.int i0), .val (.int i1), .val (.long i2), .second, .val (.int (9 : Int32)), .val (.ref b732), .val (.long (509 : Int64)), .second, .val (.ref b798), .val (.int v818), .val (.int v819), .val (.long (v819.toInt64)), .second, .unset]) rfl (n := 138) rfl ?_
            refine G.goto C at_138 (by decide) (n := 148) (by decide) ?_
            exact key823 _ (trivial) 
        · refine G.lload C at_116 rfl (n := 118) rfl ?_
          refine G.iload C at_118 rfl (n := 120) rfl ?_
          refine G.i2l C at_120 (n := 121) rfl ?_
          refine G.ladd C at_121 (n := 122) rfl ?_
          refine G.lstore C at_122 (l' := #[.val (.int i0), .val (.int i1), .val (.long i2), .second, .val (.int (9 : Int32)), .val (.ref b732), .val (.long (509 : Int64)), .second, .val (.ref b798), .val (.int v818), .val (.int v819), .val (.long ((509 : Int64) + (v819.toInt64))), .second, .unset]) rfl (n := 124) rfl ?_
          refine G.goto C at_124 (by decide) (n := 148) (by decide) ?_
          exact key823 _ (trivial) 
      · refine G.lloadN C at_104 rfl (n := 105) rfl ?_
        refine G.lstore C at_105 (l' := #[.val (.int i0), .val (.int i1), .val (.long i2), .second, .val (.int (9 : Int32)), .val (.ref b732), .val (.long (509 : Int64)), .second, .val (.ref b798), .val (.int v818), .val (.int v819), .val (.long i2), .second, .unset]) rfl (n := 107) rfl ?_
        refine G.goto C at_107 (by decide) (n := 148) (by decide) ?_
        exact key823 _ (trivial) 
    intro z823_l11 j823 
    refine G.lload C at_148 rfl (n := 150) rfl ?_
    refine G.lconst C (v := (0 : Int64)) at_150 (by decide) (n := 151) rfl ?_
    refine G.lcmp_le C (A := z823_l11.toInt) (B := 0) rfl (by decide) at_151 at_152 (by decide) (by decide) (n := 155) (n' := 169) rfl (fun c152_824 => ?_) (fun c152_824 => ?_)
    · refine G.iconst C (v := (0 : Int32)) at_169 (by decide) (n := 170) rfl ?_
      refine G.istore C at_170 (l' := #[.val (.int i0), .val (.int i1), .val (.long i2), .second, .val (.int (9 : Int32)), .val (.ref b732), .val (.long (509 : Int64)), .second, .val (.ref b798), .val (.int v818), .val (.int v819), .val (.long z823_l11), .second, .val (.int (0 : Int32))]) rfl (n := 172) rfl ?_
      refine G.aload C at_172 rfl rfl (n := 174) rfl ?_
      refine G.lload C at_174 rfl (n := 176) rfl ?_
      refine G.callV C (argsL := [(.long z823_l11)]) (yr := (⟨"com/example/veilrelay/veilrelay/core/derived/SmallDomain", "isId", "(J)Z"⟩ : MethodName)) (yc := (⟨"com/example/veilrelay/veilrelay/core/derived/SmallDomain", "isId", "(J)Z"⟩ : MethodName)) (a := b798) (O811.1) (wd hw 185 rfl) (wd hw 186 rfl) (nfS (wd hw 188 rfl) rfl) (wd hw 188 rfl) (wd hw 187 rfl) (wd hw 11 rfl) (wd hw 189 rfl) (by decide) (m_isid l Z a0 hw b798 _ _ _ z823_l11 h814 n0 Z817 O811) rfl (by decide) (W := 0) rfl (by decide) (c' := 6) (s' := 28) rfl rfl (by decide) (by decide) at_176 (n := 179) rfl pd16 rfl rfl ?_
      rintro _ _ ⟨rfl, rfl⟩
      refine G.iload C at_179 rfl (n := 181) rfl ?_
      have e_p : (509 : Int64).toInt = 509 := by decide
      refine G.icmp_ne C (A := (if 1 ≤ z823_l11.toInt ∧ z823_l11.toInt < (509 : Int64).toInt then 1 else 0 : Int32).toInt) (B := 0) rfl (by decide) at_181 (by decide) (by decide) (n := 184) (n' := 188) rfl (fun c181_827 c181_827i => ?_) (fun c181_827 c181_827i => ?_)
      · exact absurd (if_neg (by omega)) c181_827
      refine G.iconst C (v := (1 : Int32)) at_184 (by decide) (n := 185) rfl ?_
      refine G.goto C at_185 (by decide) (n := 189) (by decide) ?_
      refine G.ireturn C at_189 (rfl) (by simp) (by decide) (by decide) ?_
      exact rfl
    · refine G.lload C at_155 rfl (n := 157) rfl ?_
      refine G.lload C at_157 rfl (n := 159) rfl ?_
      refine G.lconst C (v := (1 : Int64)) at_159 (by decide) (n := 160) rfl ?_
      refine G.lsub C at_160 (n := 161) rfl ?_
      refine G.fold_long (z := (508 : Int64)) (by decide) ?_
      refine G.lcmp_gt C (A := z823_l11.toInt) (B := 508) rfl (by decide) at_161 at_162 (by decide) (by decide) (n := 165) (n' := 169) rfl (fun c162_828 => ?_) (fun c162_828 => ?_)
      · refine G.iconst C (v := (0 : Int32)) at_169 (by decide) (n := 170) rfl ?_
        refine G.istore C at_170 (l' := #[.val (.int i0), .val (.int i1), .val (.long i2), .second, .val (.int (9 : Int32)), .val (.ref b732), .val (.long (509 : Int64)), .second, .val (.ref b798), .val (.int v818), .val (.int v819), .val (.long z823_l11), .second, .val (.int (0 : Int32))]) rfl (n := 172) rfl ?_
        refine G.aload C at_172 rfl rfl (n := 174) rfl ?_
        refine G.lload C at_174 rfl (n := 176) rfl ?_
        refine G.callV C (argsL := [(.long z823_l11)]) (yr := (⟨"com/example/veilrelay/veilrelay/core/derived/SmallDomain", "isId", "(J)Z"⟩ : MethodName)) (yc := (⟨"com/example/veilrelay/veilrelay/core/derived/SmallDomain", "isId", "(J)Z"⟩ : MethodName)) (a := b798) (O811.1) (wd hw 185 rfl) (wd hw 186 rfl) (nfS (wd hw 188 rfl) rfl) (wd hw 188 rfl) (wd hw 187 rfl) (wd hw 11 rfl) (wd hw 189 rfl) (by decide) (m_isid l Z a0 hw b798 _ _ _ z823_l11 h814 n0 Z817 O811) rfl (by decide) (W := 0) rfl (by decide) (c' := 6) (s' := 28) rfl rfl (by decide) (by decide) at_176 (n := 179) rfl pd16 rfl rfl ?_
        rintro _ _ ⟨rfl, rfl⟩
        refine G.iload C at_179 rfl (n := 181) rfl ?_
        have e_p : (509 : Int64).toInt = 509 := by decide
        refine G.icmp_ne C (A := (if 1 ≤ z823_l11.toInt ∧ z823_l11.toInt < (509 : Int64).toInt then 1 else 0 : Int32).toInt) (B := 0) rfl (by decide) at_181 (by decide) (by decide) (n := 184) (n' := 188) rfl (fun c181_831 c181_831i => ?_) (fun c181_831 c181_831i => ?_)
        · exact absurd (if_neg (by omega)) c181_831
        refine G.iconst C (v := (1 : Int32)) at_184 (by decide) (n := 185) rfl ?_
        refine G.goto C at_185 (by decide) (n := 189) (by decide) ?_
        refine G.ireturn C at_189 (rfl) (by simp) (by decide) (by decide) ?_
        exact rfl
      · refine G.iconst C (v := (1 : Int32)) at_165 (by decide) (n := 166) rfl ?_
        refine G.goto C at_166 (by decide) (n := 170) (by decide) ?_
        refine G.istore C at_170 (l' := #[.val (.int i0), .val (.int i1), .val (.long i2), .second, .val (.int (9 : Int32)), .val (.ref b732), .val (.long (509 : Int64)), .second, .val (.ref b798), .val (.int v818), .val (.int v819), .val (.long z823_l11), .second, .val (.int (1 : Int32))]) rfl (n := 172) rfl ?_
        refine G.aload C at_172 rfl rfl (n := 174) rfl ?_
        refine G.lload C at_174 rfl (n := 176) rfl ?_
        refine G.callV C (argsL := [(.long z823_l11)]) (yr := (⟨"com/example/veilrelay/veilrelay/core/derived/SmallDomain", "isId", "(J)Z"⟩ : MethodName)) (yc := (⟨"com/example/veilrelay/veilrelay/core/derived/SmallDomain", "isId", "(J)Z"⟩ : MethodName)) (a := b798) (O811.1) (wd hw 185 rfl) (wd hw 186 rfl) (nfS (wd hw 188 rfl) rfl) (wd hw 188 rfl) (wd hw 187 rfl) (wd hw 11 rfl) (wd hw 189 rfl) (by decide) (m_isid l Z a0 hw b798 _ _ _ z823_l11 h814 n0 Z817 O811) rfl (by decide) (W := 0) rfl (by decide) (c' := 6) (s' := 28) rfl rfl (by decide) (by decide) at_176 (n := 179) rfl pd16 rfl rfl ?_
        rintro _ _ ⟨rfl, rfl⟩
        refine G.iload C at_179 rfl (n := 181) rfl ?_
        have e_p : (509 : Int64).toInt = 509 := by decide
        refine G.icmp_ne C (A := (if 1 ≤ z823_l11.toInt ∧ z823_l11.toInt < (509 : Int64).toInt then 1 else 0 : Int32).toInt) (B := 1) rfl (by decide) at_181 (by decide) (by decide) (n := 184) (n' := 188) rfl (fun c181_834 c181_834i => ?_) (fun c181_834 c181_834i => ?_)
        · exact absurd (if_pos (by omega)) c181_834
        refine G.iconst C (v := (1 : Int32)) at_184 (by decide) (n := 185) rfl ?_
        refine G.goto C at_185 (by decide) (n := 189) (by decide) ?_
        refine G.ireturn C at_189 (rfl) (by simp) (by decide) (by decide) ?_
        exact rfl
set_option maxRecDepth 65536 in
set_option maxHeartbeats 40000000 in
theorem comes_1 {Post : Tables → Env → Array Value → State → Outcome → State → Prop} (hpost : ∀ tb e args s v u, (limb_1_1.after args s (.returned v) u = true ∧ limb_1_2.after args s (.returned v) u = true ∧ True) → FrameEnd s (.returned v) u (Jvm.fieldLocs frame_1_writes args s ++ Jvm.arrayLocs frame_1_arrays args s ++ Jvm.staticLocs frame_1_statics s) 24 128 → Post tb e args s (.returned v) u) :
    ArmFor flags0 classFile x code maxLocals ret World_1 tables_1 room_1 Calls_1 rest_1 Pre_1 Post := by
  intro l hfl _ _ p e ha hc hk s m args below hf hA hF happ hP
  obtain ⟨hcalls, hrest, hpre⟩ := hP
  obtain ⟨-, -, -, hnamed, -, -, -, hat⟩ := (Spec.applies_iff hf).mp happ
  obtain ⟨hg, hn⟩ := and_e (Cond.before_iff.mp (show (Jvm.Cond.and given_1 narrow_1).before args s = true from hpre))
  obtain ⟨k1, k2⟩ := and_e hg
  obtain ⟨w0, w1, w2, rfl⟩ : ∃ w0 w1 w2 : Value, args = #[w0, w1, w2] := by
    have hs : args.size = 3 := by simpa [Cond.value, given_1] using k1
    obtain ⟨L⟩ := args
    match L, hs with
    | [w0, w1, w2], _ => exact ⟨w0, w1, w2, rfl⟩
  have hw := fun d (hd : d ∈ tables_1) => atoms_spec (ws := Jvm.Cond.code x code maxLocals ret :: tables_1) hat d (List.mem_cons_of_mem _ hd)
  have hfit : Fit s := fun {y c} hc i hi => by
    obtain ⟨ha, rfl⟩ := Array.getElem?_eq_some_iff.mp hc
    have q := List.all_eq_true.mp ((Array.all_eq_true_iff_forall_mem.mp hF) _ (Array.getElem_mem ha)) i (List.mem_range.mpr hi)
    simpa [Array.getElem?_eq_getElem hi] using q
  obtain ⟨u0, k2⟩ := and_e k2
  obtain ⟨i0, e0⟩ := is_v u0
  obtain rfl : w0 = (.int i0) := Option.some.inj e0
  obtain ⟨u1, k2⟩ := and_e k2
  obtain ⟨i1, e1⟩ := is_v u1
  obtain rfl : w1 = (.int i1) := Option.some.inj e1
  have u2 := k2
  obtain ⟨i2, e2⟩ := isL_v u2
  obtain rfl : w2 = (.long i2) := Option.some.inj e2
  have hr := Cond.before_iff.mp (show rest_1_c.before _ s = true from hrest)
  obtain ⟨r_0, hr⟩ := and_e hr
  obtain ⟨r_1, hr⟩ := and_e hr
  obtain ⟨r_2, hr⟩ := and_e hr
  obtain ⟨r_3, hr⟩ := and_e hr
  obtain ⟨r_4, hr⟩ := and_e hr
  obtain ⟨r_5, hr⟩ := and_e hr
  obtain ⟨r_6, hr⟩ := and_e hr
  obtain ⟨r_7, hr⟩ := and_e hr
  obtain ⟨r_8, hr⟩ := and_e hr
  obtain ⟨r_9, hr⟩ := and_e hr
  obtain ⟨r_10, hr⟩ := and_e hr
  obtain ⟨r_11, hr⟩ := and_e hr
  obtain ⟨r_12, hr⟩ := and_e hr
  obtain ⟨r_13, hr⟩ := and_e hr
  obtain ⟨r_14, hr⟩ := and_e hr
  obtain ⟨r_15, hr⟩ := and_e hr
  obtain ⟨r_16, hr⟩ := and_e hr
  obtain ⟨r_17, hr⟩ := and_e hr
  obtain ⟨r_18, hr⟩ := and_e hr
  obtain ⟨r_19, hr⟩ := and_e hr
  obtain ⟨r_20, hr⟩ := and_e hr
  obtain ⟨r_21, hr⟩ := and_e hr
  obtain ⟨r_22, hr⟩ := and_e hr
  obtain ⟨r_23, hr⟩ := and_e hr
  obtain ⟨⟨cM, kM, mr, m1, m2, m3⟩, -⟩ := hcalls
  have M_r : MirA s "[Ljava/lang/Object;" mr := ⟨cM, kM, m1, m2, m3.1⟩
  obtain ⟨dE, ea⟩ := arr_v r_6
  obtain ⟨cD, AD⟩ := Arr.start ea r_6
  have S_dE := Sta.start ea (Or.inr ⟨wd hw 31 rfl, Cond.before_iff.mpr r_2⟩)
  have qD := len_q ea (AD.fin (Vm.Alike.refl _)) (eqv_i (Term.int_eval 0) r_8)
  have O_dE : Refs s s.heap dE (.object "java/lang/Object") [] := Refs.start hfit AD qD rfl trivial
  obtain ⟨lc, eb⟩ := arr_v r_11
  obtain ⟨cL, AL⟩ := Arr.start eb r_11
  have S_lc := Sta.start eb (Or.inl (Cond.before_iff.mpr r_10))
  have qL := len_q eb (AL.fin (Vm.Alike.refl _)) (eqv_i (Term.int_eval 256) r_13)
  have zL := sizeN (n := 256) qL rfl
  have O_lc : Refs s s.heap lc (.object "java/lang/Long") cL.slots.toList := Refs.start hfit AL qL (by rw [Array.length_toList, zL]; rfl) (hasL_all cL)
  obtain ⟨em, ec⟩ := exa_v r_17
  have S_em := Sta.start ec (Or.inl (Cond.before_iff.mpr r_16))
  obtain ⟨x2, q_2, E_x2⟩ := cache_at eb AL zL r_14 130 (by decide)
  obtain ⟨x3, q_3, E_x3⟩ := cache_at eb AL zL r_14 131 (by decide)
  obtain ⟨x5, q_5, E_x5⟩ := cache_at eb AL zL r_14 133 (by decide)
  obtain ⟨x7, q_7, E_x7⟩ := cache_at eb AL zL r_14 135 (by decide)
  obtain ⟨x127, q_127, E_x127⟩ := cache_at eb AL zL r_14 255 (by decide)
  obtain ⟨n, o, h1, h2, h3, _, L, rfl, ⟨N, rfl⟩, hq⟩ := m_law l s _ hw i0 i1 i2 mr dE lc cL.slots.toList em x2 x3 x5 x7 x127 s.heap s.heap.size (Nat.le_refl _) (Old.start s) M_r S_dE O_dE S_lc O_lc S_em q_2 q_3 q_5 q_7 q_127 E_x2 E_x3 E_x5 E_x7 E_x127 tables_1 p e ha hc hk s m _ below hf ((Spec.applies_iff_loose hf).mp happ).1 ⟨rfl, State.Warmed39.refl s, rfl⟩ trivial
  refine ⟨n, _, h1, h2, h3, hpost _ _ _ _ _ _ ⟨Cond.after_iff.mpr rfl, Cond.after_iff.mpr (eq_i res_at (Term.int_eval (1)) rfl), trivial⟩ ⟨hq.1, hq.2.1, (hq.2.2.sift fun y hy => Or.inr (N y hy)).mono (by decide) (by decide)⟩⟩
theorem main_1_1 : Claimed_1_1 := comes_1 fun _ _ _ _ _ _ h hF => ⟨h.1, hF⟩
theorem main_1_2 : Claimed_1_2 := comes_1 fun _ _ _ _ _ _ h hF => ⟨h.2.1, hF⟩
end Jvm.Pilot.@@N@@
namespace Jvm.Pilot.@@N@@
open Jvm Jvm.ClassFile Sem Op Lib Jvm.Free Jvm.Stand Jvm.Pilot.@@N@@.Jvm.D
/-! MADE BY PROGRAM (witnessworld.py) out of the Statement's table words and the real class files: 37 classes; the members and pool entries that the words name. The judged class is class 1, her method 1. -/
namespace start1
open Jvm.ClassFile
def u (s : String) : CpInfo := .utf8 (stringToUtf16 s)
/-- a pool by its gaps: so many unusable entries, then the entry; so many at the end -/
def gap : Nat → List CpInfo → List CpInfo
  | 0, r => r
  | n + 1, r => .unusable :: gap n r
def poolList (es : List (Nat × CpInfo)) (last : Nat) : List CpInfo := es.foldr (fun e r => gap e.1 (e.2 :: r)) (gap last [])
def pool (es : List (Nat × CpInfo)) (last : Nat) : Array CpInfo := ⟨poolList es last⟩
def fileOf (pool : Array CpInfo) (this : Nat) (attrs : Array Attribute := #[]) (ms : Array MethodInfo := #[]) (fl : Nat := 33) (sup : Nat := 0) (ifs : Array Nat := #[]) (fds : Array FieldInfo := #[]) : ClassFile where
  minorVersion := 0
  majorVersion := 65
  constantPool := pool
  accessFlags := fl
  thisClass := this
  superClass := sup
  interfaces := ifs
  fields := fds
  methods := ms
  attributes := attrs
def plain (name : String) (sup : Option ClassId) : Class where
  name := name
  kind := .ordinary
  loader := none
  accessFlags := 33
  super := sup
  interfaces := #[]
  cf := none
  fields := #[]
  methods := #[]
  instanceTypes := #[]
  staticTypes := #[]
  resolved := #[]
  callSites := []
  init := .initialized
  statics := none
  mirror := none

def pool0 : Array CpInfo := pool [(5, u "<init>"), (0, u "()V"), (1, .class_ 10), (1, u "java/lang/Object"), (0, u "getClass"), (0, u "()Ljava/lang/Class;")] 111

def k0c0 : Code := { maxStack := 0, maxLocals := 1, code := object_method_1_code, exceptionTable := #[], attributes := #[] }
def k0m0 : Method := { name := "<init>", desc := "()V", sig := { parameters := [], returnType := none }, accessFlags := 1, code := some k0c0 }
def k0m1 : Method := { name := "getClass", desc := "()Ljava/lang/Class;", sig := { parameters := [], returnType := some (.object "java/lang/Class") }, accessFlags := 273, code := none }
/-- java/lang/Object -/
def k0 : Class := { plain "java/lang/Object" none with
  accessFlags := 33
  interfaces := #[]
  cf := some (fileOf pool0 8 #[] #[{ accessFlags := 1, nameIndex := 5, descriptorIndex := 6, attributes := #[] }, { accessFlags := 273, nameIndex := 11, descriptorIndex := 12, attributes := #[] }] 33 0 #[] #[])
  fields := #[]
  methods := #[k0m0, k0m1]
  instanceTypes := #[]
  staticTypes := #[]
  resolved := Array.replicate 124 none
  statics := none }

def pool1 : Array CpInfo := pool [(2, .class_ 4), (1, u "java/lang/Object"), (0, u "<init>"), (0, u "()V"), (0, .long 3), (1, .long 7), (1, .long 13), (1, .long 31), (1, .long 61), (1, .long 127), (1, .long 251), (1, .long 509), (1, .class_ 24), (0, u "com/example/veilrelay/veilrelay/core/derived/SmallDomain"), (0, .methodref 23 26), (0, .nameAndType 5 27), (0, u "(I)V"), (0, .long 1023), (1, .methodref 23 31), (0, .nameAndType 32 33), (0, u "isId"), (0, u "(J)Z"), (0, .class_ 35), (0, u "com/example/veilrelay/veilrelay/core/derived/SmallDomainIsIdPinLaw"), (2, u "law"), (0, u "(IIJ)Z")] 5

def k1m0 : Method := { name := "<init>", desc := "()V", sig := { parameters := [], returnType := none }, accessFlags := 1, code := none }
def k1c1 : Code := { maxStack := 6, maxLocals := 14, code := code, exceptionTable := #[], attributes := #[] }
def k1m1 : Method := { name := "law", desc := "(IIJ)Z", sig := { parameters := [.int, .int, .long], returnType := some .boolean }, accessFlags := 9, code := some k1c1 }
/-- com/example/veilrelay/veilrelay/core/derived/SmallDomainIsIdPinLaw -/
def k1 : Class := { plain "com/example/veilrelay/veilrelay/core/derived/SmallDomainIsIdPinLaw" (some 0) with
  accessFlags := 49
  interfaces := #[]
  cf := some (fileOf pool1 34 #[] #[{ accessFlags := 1, nameIndex := 5, descriptorIndex := 6, attributes := #[] }, { accessFlags := 9, nameIndex := 38, descriptorIndex := 39, attributes := #[] }] 49 2 #[] #[])
  fields := #[]
  methods := #[k1m0, k1m1]
  instanceTypes := #[]
  staticTypes := #[]
  resolved := Array.replicate 45 none
  statics := none }

def pool2 : Array CpInfo := pool [(1, .methodref 2 3), (0, .class_ 4), (0, .nameAndType 5 6), (0, u "java/lang/Object"), (0, u "<init>"), (0, u "()V"), (0, .class_ 8), (0, u "com/example/veilrelay/veilrelay/core/derived/SmallDomain"), (7, .fieldref 7 17), (0, .nameAndType 18 19), (0, u "bits"), (0, u "I"), (0, .methodref 7 21), (0, .nameAndType 22 23), (0, u "isPrime"), (0, u "(J)Z"), (0, .fieldref 7 25), (0, .nameAndType 26 27), (0, u "prime"), (0, u "J"), (0, .methodref 7 29), (0, .nameAndType 30 31), (0, u "primeFactors"), (0, u "(J)Ljava/util/List;"), (0, .fieldref 7 33), (0, .nameAndType 34 35), (0, u "orderFactors"), (0, u "Ljava/util/List;"), (2, u "isId"), (1, .class_ 42), (1, u "java/util/List"), (12, .class_ 56), (0, u "java/lang/Long"), (11, .long 2), (8, .class_ 78), (0, u "java/util/ArrayList"), (0, .methodref 77 3), (0, .methodref 55 81), (0, .nameAndType 82 83), (0, u "valueOf"), (0, u "(J)Ljava/lang/Long;"), (0, .interfaceMethodref 40 85), (0, .nameAndType 86 87), (0, u "add"), (0, u "(Ljava/lang/Object;)Z"), (0, .interfaceMethodref 40 89), (0, .nameAndType 90 91), (0, u "copyOf"), (0, u "(Ljava/util/Collection;)Ljava/util/List;"), (0, u "MIN_BITS"), (2, u "MAX_BITS"), (3, u "(I)V")] 13

def k2c0 : Code := { maxStack := 5, maxLocals := 4, code := prog_36_method_1_code, exceptionTable := #[], attributes := #[] }
def k2m0 : Method := { name := "<init>", desc := "(I)V", sig := { parameters := [.int], returnType := none }, accessFlags := 1, code := some k2c0 }
def k2c1 : Code := { maxStack := 4, maxLocals := 3, code := prog_36_method_5_code, exceptionTable := #[], attributes := #[] }
def k2m1 : Method := { name := "isId", desc := "(J)Z", sig := { parameters := [.long], returnType := some .boolean }, accessFlags := 1, code := some k2c1 }
def k2c2 : Code := { maxStack := 4, maxLocals := 4, code := prog_36_method_13_code, exceptionTable := #[], attributes := #[] }
def k2m2 : Method := { name := "isPrime", desc := "(J)Z", sig := { parameters := [.long], returnType := some .boolean }, accessFlags := 10, code := some k2c2 }
def k2c3 : Code := { maxStack := 4, maxLocals := 7, code := prog_36_method_14_code, exceptionTable := #[], attributes := #[] }
def k2m3 : Method := { name := "primeFactors", desc := "(J)Ljava/util/List;", sig := { parameters := [.long], returnType := some (.object "java/util/List") }, accessFlags := 10, code := some k2c3 }
/-- com/example/veilrelay/veilrelay/core/derived/SmallDomain -/
def k2 : Class := { plain "com/example/veilrelay/veilrelay/core/derived/SmallDomain" (some 0) with
  accessFlags := 49
  interfaces := #[]
  cf := some (fileOf pool2 7 #[] #[{ accessFlags := 1, nameIndex := 5, descriptorIndex := 99, attributes := #[] }, { accessFlags := 1, nameIndex := 38, descriptorIndex := 23, attributes := #[] }, { accessFlags := 10, nameIndex := 22, descriptorIndex := 23, attributes := #[] }, { accessFlags := 10, nameIndex := 30, descriptorIndex := 31, attributes := #[] }] 49 2 #[] #[{ accessFlags := 25, nameIndex := 92, descriptorIndex := 19, attributes := #[] }, { accessFlags := 25, nameIndex := 95, descriptorIndex := 19, attributes := #[] }, { accessFlags := 18, nameIndex := 18, descriptorIndex := 19, attributes := #[] }, { accessFlags := 18, nameIndex := 26, descriptorIndex := 27, attributes := #[] }, { accessFlags := 18, nameIndex := 34, descriptorIndex := 35, attributes := #[] }])
  fields := #[{ name := "MIN_BITS", type := .int, accessFlags := 25, slot := 0, constantValue := 0 }, { name := "MAX_BITS", type := .int, accessFlags := 25, slot := 1, constantValue := 0 }, { name := "bits", type := .int, accessFlags := 18, slot := 0, constantValue := 0 }, { name := "prime", type := .long, accessFlags := 18, slot := 1, constantValue := 0 }, { name := "orderFactors", type := (.object "java/util/List"), accessFlags := 18, slot := 2, constantValue := 0 }]
  methods := #[k2m0, k2m1, k2m2, k2m3]
  instanceTypes := #[.int, .long, (.object "java/util/List")]
  staticTypes := #[.int, .int]
  resolved := Array.replicate 113 none
  statics := none }

def pool3 : Array CpInfo := pool [(8, .class_ 10), (1, u "java/lang/Iterable"), (24, .class_ 36), (0, u "java/lang/Object")] 25

/-- java/lang/Iterable -/
def k3 : Class := { plain "java/lang/Iterable" (some 0) with
  accessFlags := 1537
  interfaces := #[]
  cf := some (fileOf pool3 8 #[] #[] 1537 35 #[] #[])
  fields := #[]
  methods := #[]
  instanceTypes := #[]
  staticTypes := #[]
  resolved := Array.replicate 62 none
  statics := none }

def pool4 : Array CpInfo := pool [(10, .class_ 12), (1, u "java/util/Collection"), (0, u "toArray"), (16, u "()Z"), (29, .class_ 61), (0, u "java/lang/Object"), (0, .class_ 63), (0, u "java/lang/Iterable"), (2, u "isEmpty"), (3, u "()[Ljava/lang/Object;")] 44

def k4m0 : Method := { name := "isEmpty", desc := "()Z", sig := { parameters := [], returnType := some .boolean }, accessFlags := 1025, code := none }
def k4m1 : Method := { name := "toArray", desc := "()[Ljava/lang/Object;", sig := { parameters := [], returnType := some (.array (.object "java/lang/Object")) }, accessFlags := 1025, code := none }
/-- java/util/Collection -/
def k4 : Class := { plain "java/util/Collection" (some 0) with
  accessFlags := 1537
  interfaces := #[3]
  cf := some (fileOf pool4 10 #[] #[{ accessFlags := 1025, nameIndex := 66, descriptorIndex := 30, attributes := #[] }, { accessFlags := 1025, nameIndex := 13, descriptorIndex := 70, attributes := #[] }] 1537 60 #[62] #[])
  fields := #[]
  methods := #[k4m0, k4m1]
  instanceTypes := #[]
  staticTypes := #[]
  resolved := Array.replicate 115 none
  statics := none }

def pool5 : Array CpInfo := pool [(1, .methodref 2 3), (0, .class_ 4), (0, .nameAndType 5 6), (0, u "java/lang/Object"), (0, u "<init>"), (0, u "()V"), (1, .class_ 10), (1, u "java/util/AbstractCollection"), (66, .class_ 78), (0, u "java/util/Collection")] 81

def k5c0 : Code := { maxStack := 1, maxLocals := 1, code := jdk_22_method_1_code, exceptionTable := #[], attributes := #[] }
def k5m0 : Method := { name := "<init>", desc := "()V", sig := { parameters := [], returnType := none }, accessFlags := 4, code := some k5c0 }
/-- java/util/AbstractCollection -/
def k5 : Class := { plain "java/util/AbstractCollection" (some 0) with
  accessFlags := 1057
  interfaces := #[4]
  cf := some (fileOf pool5 8 #[] #[{ accessFlags := 4, nameIndex := 5, descriptorIndex := 6, attributes := #[] }] 1057 2 #[77] #[])
  fields := #[]
  methods := #[k5m0]
  instanceTypes := #[]
  staticTypes := #[]
  resolved := Array.replicate 160 none
  statics := none }

def pool6 : Array CpInfo := pool [(8, .class_ 10), (1, u "java/util/SequencedCollection"), (15, .class_ 27), (0, u "java/lang/Object"), (0, .class_ 29), (0, u "java/util/Collection")] 27

/-- java/util/SequencedCollection -/
def k6 : Class := { plain "java/util/SequencedCollection" (some 0) with
  accessFlags := 1537
  interfaces := #[4]
  cf := some (fileOf pool6 8 #[] #[] 1537 26 #[28] #[])
  fields := #[]
  methods := #[]
  instanceTypes := #[]
  staticTypes := #[]
  resolved := Array.replicate 57 none
  statics := none }

def pool7 : Array CpInfo := pool [(8, .class_ 10), (1, u "java/util/List"), (20, u "(Ljava/lang/Object;)V"), (16, u "<init>"), (11, u "add"), (3, u "(Ljava/lang/Object;)Z"), (23, u "of"), (2, .class_ 93), (1, u "java/util/ImmutableCollections"), (2, .class_ 97), (0, u "java/util/ImmutableCollections$List12"), (0, .methodref 96 99), (0, .nameAndType 48 31), (0, .methodref 96 101), (0, .nameAndType 48 102), (0, u "(Ljava/lang/Object;Ljava/lang/Object;)V"), (0, .class_ 104), (0, u "java/lang/Object"), (3, u "([Ljava/lang/Object;)Ljava/util/List;"), (0, .methodref 91 110), (0, .nameAndType 111 108), (0, u "listFromArray"), (0, .methodref 91 113), (0, .nameAndType 114 115), (0, u "listCopy"), (0, u "(Ljava/util/Collection;)Ljava/util/List;"), (4, .class_ 121), (0, u "java/util/SequencedCollection"), (112, u "copyOf")] 16

def k7m0 : Method := { name := "add", desc := "(Ljava/lang/Object;)Z", sig := { parameters := [(.object "java/lang/Object")], returnType := some .boolean }, accessFlags := 1025, code := none }
def k7c1 : Code := { maxStack := 5, maxLocals := 2, code := jdk_40_method_47_code, exceptionTable := #[], attributes := #[] }
def k7m1 : Method := { name := "of", desc := "([Ljava/lang/Object;)Ljava/util/List;", sig := { parameters := [(.array (.object "java/lang/Object"))], returnType := some (.object "java/util/List") }, accessFlags := 137, code := some k7c1 }
def k7c2 : Code := { maxStack := 1, maxLocals := 1, code := jdk_40_method_48_code, exceptionTable := #[], attributes := #[] }
def k7m2 : Method := { name := "copyOf", desc := "(Ljava/util/Collection;)Ljava/util/List;", sig := { parameters := [(.object "java/util/Collection")], returnType := some (.object "java/util/List") }, accessFlags := 9, code := some k7c2 }
/-- java/util/List -/
def k7 : Class := { plain "java/util/List" (some 0) with
  accessFlags := 1537
  interfaces := #[6]
  cf := some (fileOf pool7 8 #[] #[{ accessFlags := 1025, nameIndex := 60, descriptorIndex := 64, attributes := #[] }, { accessFlags := 137, nameIndex := 88, descriptorIndex := 108, attributes := #[] }, { accessFlags := 9, nameIndex := 234, descriptorIndex := 115, attributes := #[] }] 1537 103 #[120] #[])
  fields := #[]
  methods := #[k7m0, k7m1, k7m2]
  instanceTypes := #[]
  staticTypes := #[]
  resolved := Array.replicate 251 none
  statics := none }

def pool8 : Array CpInfo := pool [(1, .methodref 2 3), (0, .class_ 4), (0, .nameAndType 5 6), (0, u "java/util/AbstractCollection"), (0, u "<init>"), (0, u "()V"), (0, .fieldref 8 9), (0, .class_ 10), (0, .nameAndType 11 12), (0, u "java/util/AbstractList"), (0, u "modCount"), (0, u "I"), (64, .class_ 78), (0, u "java/util/AbstractList$Itr"), (3, .class_ 83), (0, u "java/util/AbstractList$ListItr"), (9, .class_ 94), (0, u "java/util/AbstractList$RandomAccessSubList"), (3, .class_ 99), (0, u "java/util/AbstractList$SubList"), (33, .class_ 134), (0, u "java/util/List"), (73, .class_ 209), (0, u "java/util/AbstractList$SubList$1"), (0, .class_ 211), (0, u "java/util/AbstractList$RandomAccessSpliterator")] 6

def k8c0 : Code := { maxStack := 2, maxLocals := 1, code := jdk_39_method_1_code, exceptionTable := #[], attributes := #[] }
def k8m0 : Method := { name := "<init>", desc := "()V", sig := { parameters := [], returnType := none }, accessFlags := 4, code := some k8c0 }
/-- java/util/AbstractList -/
def k8 : Class := { plain "java/util/AbstractList" (some 5) with
  accessFlags := 1057
  interfaces := #[7]
  cf := some (fileOf pool8 8 #[.nestMembers #[93, 98, 208, 210, 82, 77]] #[{ accessFlags := 4, nameIndex := 5, descriptorIndex := 6, attributes := #[] }] 1057 2 #[133] #[{ accessFlags := 132, nameIndex := 11, descriptorIndex := 12, attributes := #[] }])
  fields := #[{ name := "modCount", type := .int, accessFlags := 132, slot := 0, constantValue := 0 }]
  methods := #[k8m0]
  instanceTypes := #[.int]
  staticTypes := #[]
  resolved := Array.replicate 218 none
  statics := none }

def pool9 : Array CpInfo := pool [(1, .class_ 2), (0, u "java/util/RandomAccess"), (0, .class_ 4), (0, u "java/lang/Object")] 2

/-- java/util/RandomAccess -/
def k9 : Class := { plain "java/util/RandomAccess" (some 0) with
  accessFlags := 1537
  interfaces := #[]
  cf := some (fileOf pool9 1 #[] #[] 1537 3 #[] #[])
  fields := #[]
  methods := #[]
  instanceTypes := #[]
  staticTypes := #[]
  resolved := Array.replicate 7 none
  statics := none }

def pool10 : Array CpInfo := pool [(1, .class_ 2), (0, u "java/lang/Cloneable"), (0, .class_ 4), (0, u "java/lang/Object")] 2

/-- java/lang/Cloneable -/
def k10 : Class := { plain "java/lang/Cloneable" (some 0) with
  accessFlags := 1537
  interfaces := #[]
  cf := some (fileOf pool10 1 #[] #[] 1537 3 #[] #[])
  fields := #[]
  methods := #[]
  instanceTypes := #[]
  staticTypes := #[]
  resolved := Array.replicate 7 none
  statics := none }

def pool11 : Array CpInfo := pool [(1, .class_ 2), (0, u "java/io/Serializable"), (0, .class_ 4), (0, u "java/lang/Object")] 2

/-- java/io/Serializable -/
def k11 : Class := { plain "java/io/Serializable" (some 0) with
  accessFlags := 1537
  interfaces := #[]
  cf := some (fileOf pool11 1 #[] #[] 1537 3 #[] #[])
  fields := #[]
  methods := #[]
  instanceTypes := #[]
  staticTypes := #[]
  resolved := Array.replicate 7 none
  statics := none }

def pool12 : Array CpInfo := pool [(1, .methodref 2 3), (0, .class_ 4), (0, .nameAndType 5 6), (0, u "java/util/AbstractList"), (0, u "<init>"), (0, u "()V"), (0, .class_ 8), (0, u "java/lang/Object"), (0, .fieldref 10 11), (0, .class_ 12), (0, .nameAndType 13 14), (0, u "java/util/ArrayList"), (0, u "elementData"), (0, u "[Ljava/lang/Object;"), (2, u "EMPTY_ELEMENTDATA"), (21, .fieldref 10 40), (0, .nameAndType 41 14), (0, u "DEFAULTCAPACITY_EMPTY_ELEMENTDATA"), (4, u "toArray"), (0, u "()[Ljava/lang/Object;"), (0, .fieldref 10 49), (0, .nameAndType 50 51), (0, u "size"), (0, u "I"), (6, .class_ 60), (1, u "java/util/Arrays"), (0, u "copyOf"), (1, .fieldref 10 64), (0, .nameAndType 65 51), (0, u "modCount"), (0, .methodref 58 67), (0, .nameAndType 61 68), (0, u "([Ljava/lang/Object;I)[Ljava/lang/Object;"), (0, .methodref 10 70), (0, .nameAndType 71 72), (0, u "grow"), (0, u "(I)[Ljava/lang/Object;"), (6, .methodref 80 81), (0, .class_ 82), (0, .nameAndType 83 84), (0, u "java/lang/Math"), (0, u "max"), (0, u "(II)I"), (11, u "(Ljava/lang/Object;)Z"), (32, .methodref 10 130), (0, .nameAndType 71 47), (0, .methodref 10 132), (0, .nameAndType 133 134), (0, u "add"), (0, u "(Ljava/lang/Object;[Ljava/lang/Object;I)V"), (13, .class_ 149), (0, u "java/util/List"), (23, u "()Z"), (88, .class_ 263), (0, u "java/util/ArrayList$ListItr"), (3, .class_ 268), (0, u "java/util/ArrayList$Itr"), (7, .class_ 277), (0, u "java/util/ArrayList$SubList"), (12, .class_ 291), (0, u "java/util/ArrayList$ArrayListSpliterator"), (37, .class_ 330), (0, u "java/util/RandomAccess"), (0, .class_ 332), (0, u "java/lang/Cloneable"), (0, .class_ 334), (0, u "java/io/Serializable"), (0, u "serialVersionUID"), (0, u "J"), (3, u "DEFAULT_CAPACITY"), (22, u "isEmpty"), (136, .class_ 501), (0, u "java/util/ArrayList$SubList$2"), (0, .class_ 503), (0, u "java/util/ArrayList$SubList$1")] 5

def k12c0 : Code := { maxStack := 2, maxLocals := 1, code := jdk_38_method_2_code, exceptionTable := #[], attributes := #[] }
def k12m0 : Method := { name := "<init>", desc := "()V", sig := { parameters := [], returnType := none }, accessFlags := 1, code := some k12c0 }
def k12c1 : Code := { maxStack := 4, maxLocals := 4, code := jdk_38_method_6_code, exceptionTable := #[], attributes := #[] }
def k12m1 : Method := { name := "grow", desc := "(I)[Ljava/lang/Object;", sig := { parameters := [.int], returnType := some (.array (.object "java/lang/Object")) }, accessFlags := 2, code := some k12c1 }
def k12c2 : Code := { maxStack := 3, maxLocals := 1, code := jdk_38_method_7_code, exceptionTable := #[], attributes := #[] }
def k12m2 : Method := { name := "grow", desc := "()[Ljava/lang/Object;", sig := { parameters := [], returnType := some (.array (.object "java/lang/Object")) }, accessFlags := 2, code := some k12c2 }
def k12c3 : Code := { maxStack := 1, maxLocals := 1, code := jdk_38_method_9_code, exceptionTable := #[], attributes := #[] }
def k12m3 : Method := { name := "isEmpty", desc := "()Z", sig := { parameters := [], returnType := some .boolean }, accessFlags := 1, code := some k12c3 }
def k12c4 : Code := { maxStack := 2, maxLocals := 1, code := jdk_38_method_16_code, exceptionTable := #[], attributes := #[] }
def k12m4 : Method := { name := "toArray", desc := "()[Ljava/lang/Object;", sig := { parameters := [], returnType := some (.array (.object "java/lang/Object")) }, accessFlags := 1, code := some k12c4 }
def k12c5 : Code := { maxStack := 3, maxLocals := 4, code := jdk_38_method_24_code, exceptionTable := #[], attributes := #[] }
def k12m5 : Method := { name := "add", desc := "(Ljava/lang/Object;[Ljava/lang/Object;I)V", sig := { parameters := [(.object "java/lang/Object"), (.array (.object "java/lang/Object")), .int], returnType := none }, accessFlags := 2, code := some k12c5 }
def k12c6 : Code := { maxStack := 4, maxLocals := 2, code := jdk_38_method_25_code, exceptionTable := #[], attributes := #[] }
def k12m6 : Method := { name := "add", desc := "(Ljava/lang/Object;)Z", sig := { parameters := [(.object "java/lang/Object")], returnType := some .boolean }, accessFlags := 1, code := some k12c6 }
/-- java/util/ArrayList -/
def k12 : Class := { plain "java/util/ArrayList" (some 8) with
  accessFlags := 33
  interfaces := #[7, 9, 10, 11]
  cf := some (fileOf pool12 10 #[.nestMembers #[290, 276, 500, 502, 262, 267]] #[{ accessFlags := 1, nameIndex := 5, descriptorIndex := 6, attributes := #[] }, { accessFlags := 2, nameIndex := 71, descriptorIndex := 72, attributes := #[] }, { accessFlags := 2, nameIndex := 71, descriptorIndex := 47, attributes := #[] }, { accessFlags := 1, nameIndex := 363, descriptorIndex := 173, attributes := #[] }, { accessFlags := 1, nameIndex := 46, descriptorIndex := 47, attributes := #[] }, { accessFlags := 2, nameIndex := 133, descriptorIndex := 134, attributes := #[] }, { accessFlags := 1, nameIndex := 133, descriptorIndex := 96, attributes := #[] }] 33 2 #[148, 329, 331, 333] #[{ accessFlags := 26, nameIndex := 335, descriptorIndex := 336, attributes := #[] }, { accessFlags := 26, nameIndex := 340, descriptorIndex := 51, attributes := #[] }, { accessFlags := 26, nameIndex := 17, descriptorIndex := 14, attributes := #[] }, { accessFlags := 26, nameIndex := 41, descriptorIndex := 14, attributes := #[] }, { accessFlags := 128, nameIndex := 13, descriptorIndex := 14, attributes := #[] }, { accessFlags := 2, nameIndex := 50, descriptorIndex := 51, attributes := #[] }])
  fields := #[{ name := "serialVersionUID", type := .long, accessFlags := 26, slot := 0, constantValue := 0 }, { name := "DEFAULT_CAPACITY", type := .int, accessFlags := 26, slot := 1, constantValue := 0 }, { name := "EMPTY_ELEMENTDATA", type := (.array (.object "java/lang/Object")), accessFlags := 26, slot := 2, constantValue := 0 }, { name := "DEFAULTCAPACITY_EMPTY_ELEMENTDATA", type := (.array (.object "java/lang/Object")), accessFlags := 26, slot := 3, constantValue := 0 }, { name := "elementData", type := (.array (.object "java/lang/Object")), accessFlags := 128, slot := 1, constantValue := 0 }, { name := "size", type := .int, accessFlags := 2, slot := 2, constantValue := 0 }]
  methods := #[k12m0, k12m1, k12m2, k12m3, k12m4, k12m5, k12m6]
  instanceTypes := #[.int, (.array (.object "java/lang/Object")), .int]
  staticTypes := #[.long, .int, (.array (.object "java/lang/Object")), (.array (.object "java/lang/Object"))]
  resolved := Array.replicate 509 none
  statics := some 0 }

def pool13 : Array CpInfo := pool [(2, .class_ 4), (1, u "java/lang/Object"), (0, u "<init>"), (0, u "()V"), (1, .class_ 10), (1, u "java/lang/Number"), (2, .class_ 14), (0, u "java/io/Serializable"), (0, u "serialVersionUID"), (0, u "J")] 20

def k13m0 : Method := { name := "<init>", desc := "()V", sig := { parameters := [], returnType := none }, accessFlags := 1, code := none }
/-- java/lang/Number -/
def k13 : Class := { plain "java/lang/Number" (some 0) with
  accessFlags := 1057
  interfaces := #[11]
  cf := some (fileOf pool13 8 #[] #[{ accessFlags := 1, nameIndex := 5, descriptorIndex := 6, attributes := #[] }] 1057 2 #[13] #[{ accessFlags := 26, nameIndex := 15, descriptorIndex := 16, attributes := #[] }])
  fields := #[{ name := "serialVersionUID", type := .long, accessFlags := 26, slot := 0, constantValue := 0 }]
  methods := #[k13m0]
  instanceTypes := #[]
  staticTypes := #[.long]
  resolved := Array.replicate 37 none
  statics := none }

def pool14 : Array CpInfo := pool [(1, .class_ 2), (0, u "java/lang/Comparable"), (0, .class_ 4), (0, u "java/lang/Object")] 7

/-- java/lang/Comparable -/
def k14 : Class := { plain "java/lang/Comparable" (some 0) with
  accessFlags := 1537
  interfaces := #[]
  cf := some (fileOf pool14 1 #[] #[] 1537 3 #[] #[])
  fields := #[]
  methods := #[]
  instanceTypes := #[]
  staticTypes := #[]
  resolved := Array.replicate 12 none
  statics := none }

def pool15 : Array CpInfo := pool [(1, .class_ 2), (0, u "java/lang/constant/Constable"), (0, .class_ 4), (0, u "java/lang/Object")] 6

/-- java/lang/constant/Constable -/
def k15 : Class := { plain "java/lang/constant/Constable" (some 0) with
  accessFlags := 1537
  interfaces := #[]
  cf := some (fileOf pool15 1 #[] #[] 1537 3 #[] #[])
  fields := #[]
  methods := #[]
  instanceTypes := #[]
  staticTypes := #[]
  resolved := Array.replicate 11 none
  statics := none }

def pool16 : Array CpInfo := pool [(1, .class_ 2), (0, u "java/lang/constant/ConstantDesc"), (0, .class_ 4), (0, u "java/lang/Object")] 32

/-- java/lang/constant/ConstantDesc -/
def k16 : Class := { plain "java/lang/constant/ConstantDesc" (some 0) with
  accessFlags := 1537
  interfaces := #[]
  cf := some (fileOf pool16 1 #[] #[] 1537 3 #[] #[])
  fields := #[]
  methods := #[]
  instanceTypes := #[]
  staticTypes := #[]
  resolved := Array.replicate 37 none
  statics := none }

def pool17 : Array CpInfo := pool [(1, .class_ 2), (0, u "java/lang/Long"), (82, u "valueOf"), (143, u "(J)Ljava/lang/Long;"), (0, .long 18446744073709551488), (1, .long 127), (1, .fieldref 235 236), (0, .class_ 237), (0, .nameAndType 238 239), (0, u "java/lang/Long$LongCache"), (0, u "cache"), (0, u "[Ljava/lang/Long;"), (31, .class_ 272), (0, u "java/lang/Number"), (2, u "value"), (0, u "J"), (84, u "TYPE"), (0, u "Ljava/lang/Class;"), (0, .class_ 364), (0, u "java/lang/Comparable"), (0, .class_ 366), (0, u "java/lang/constant/Constable"), (0, .class_ 368), (0, u "java/lang/constant/ConstantDesc"), (0, u "MIN_VALUE"), (1, u "MAX_VALUE"), (4, u "SIZE"), (0, u "I"), (1, u "BYTES"), (1, u "serialVersionUID")] 142

def k17c0 : Code := { maxStack := 4, maxLocals := 3, code := jdk_35_method_24_code, exceptionTable := #[], attributes := #[] }
def k17m0 : Method := { name := "valueOf", desc := "(J)Ljava/lang/Long;", sig := { parameters := [.long], returnType := some (.object "java/lang/Long") }, accessFlags := 9, code := some k17c0 }
/-- java/lang/Long -/
def k17 : Class := { plain "java/lang/Long" (some 13) with
  accessFlags := 49
  interfaces := #[14, 15, 16]
  cf := some (fileOf pool17 1 #[.nestMembers #[235]] #[{ accessFlags := 9, nameIndex := 85, descriptorIndex := 229, attributes := #[] }] 49 271 #[363, 365, 367] #[{ accessFlags := 25, nameIndex := 369, descriptorIndex := 276, attributes := #[] }, { accessFlags := 25, nameIndex := 371, descriptorIndex := 276, attributes := #[] }, { accessFlags := 25, nameIndex := 361, descriptorIndex := 362, attributes := #[] }, { accessFlags := 18, nameIndex := 275, descriptorIndex := 276, attributes := #[] }, { accessFlags := 25, nameIndex := 376, descriptorIndex := 377, attributes := #[] }, { accessFlags := 25, nameIndex := 379, descriptorIndex := 377, attributes := #[] }, { accessFlags := 26, nameIndex := 381, descriptorIndex := 276, attributes := #[] }])
  fields := #[{ name := "MIN_VALUE", type := .long, accessFlags := 25, slot := 0, constantValue := 0 }, { name := "MAX_VALUE", type := .long, accessFlags := 25, slot := 1, constantValue := 0 }, { name := "TYPE", type := (.object "java/lang/Class"), accessFlags := 25, slot := 2, constantValue := 0 }, { name := "value", type := .long, accessFlags := 18, slot := 0, constantValue := 0 }, { name := "SIZE", type := .int, accessFlags := 25, slot := 3, constantValue := 0 }, { name := "BYTES", type := .int, accessFlags := 25, slot := 4, constantValue := 0 }, { name := "serialVersionUID", type := .long, accessFlags := 26, slot := 5, constantValue := 0 }]
  methods := #[k17m0]
  instanceTypes := #[.long]
  staticTypes := #[.long, .long, (.object "java/lang/Class"), .int, .int, .long]
  resolved := Array.replicate 524 none
  statics := none }

def pool18 : Array CpInfo := pool [(2, .class_ 4), (1, u "java/lang/Object"), (0, u "<init>"), (0, u "()V"), (0, .class_ 8), (0, u "java/lang/Long"), (7, .class_ 18), (1, u "java/lang/Long$LongCache"), (0, u "$assertionsDisabled"), (0, u "Z"), (8, u "archivedCache"), (0, u "[Ljava/lang/Long;"), (7, u "cache")] 24

def k18m0 : Method := { name := "<init>", desc := "()V", sig := { parameters := [], returnType := none }, accessFlags := 2, code := none }
/-- java/lang/Long$LongCache -/
def k18 : Class := { plain "java/lang/Long$LongCache" (some 0) with
  accessFlags := 48
  interfaces := #[]
  cf := some (fileOf pool18 16 #[.nestHost 7] #[{ accessFlags := 2, nameIndex := 5, descriptorIndex := 6, attributes := #[] }] 48 2 #[] #[{ accessFlags := 24, nameIndex := 38, descriptorIndex := 30, attributes := #[] }, { accessFlags := 8, nameIndex := 29, descriptorIndex := 30, attributes := #[] }, { accessFlags := 4120, nameIndex := 19, descriptorIndex := 20, attributes := #[] }])
  fields := #[{ name := "cache", type := (.array (.object "java/lang/Long")), accessFlags := 24, slot := 0, constantValue := 0 }, { name := "archivedCache", type := (.array (.object "java/lang/Long")), accessFlags := 8, slot := 1, constantValue := 0 }, { name := "$assertionsDisabled", type := .boolean, accessFlags := 4120, slot := 2, constantValue := 0 }]
  methods := #[k18m0]
  instanceTypes := #[]
  staticTypes := #[(.array (.object "java/lang/Long")), (.array (.object "java/lang/Long")), .boolean]
  resolved := Array.replicate 63 none
  statics := some 1 }

def pool19 : Array CpInfo := pool [(1, .class_ 2), (0, u "java/lang/Math"), (1, .class_ 6), (1, u "java/lang/Object"), (0, u "<init>"), (0, u "()V"), (89, .class_ 100), (1, u "java/lang/Math$RandomNumberGeneratorHolder"), (71, u "negativeZeroFloatBits"), (0, u "J"), (2, u "negativeZeroDoubleBits"), (21, u "max"), (2, u "min"), (43, u "$assertionsDisabled"), (0, u "Z"), (88, u "(II)I"), (2, u "twoToTheDoubleScaleDown"), (0, u "D"), (4, u "twoToTheDoubleScaleUp"), (9, u "E"), (3, u "PI"), (2, u "TAU"), (2, u "DEGREES_TO_RADIANS"), (0, u "RADIANS_TO_DEGREES")] 94

def k19m0 : Method := { name := "<init>", desc := "()V", sig := { parameters := [], returnType := none }, accessFlags := 2, code := none }
def k19c1 : Code := { maxStack := 2, maxLocals := 2, code := jdk_29_method_65_code, exceptionTable := #[], attributes := #[] }
def k19m1 : Method := { name := "max", desc := "(II)I", sig := { parameters := [.int, .int], returnType := some .int }, accessFlags := 9, code := some k19c1 }
def k19c2 : Code := { maxStack := 2, maxLocals := 2, code := jdk_29_method_69_code, exceptionTable := #[], attributes := #[] }
def k19m2 : Method := { name := "min", desc := "(II)I", sig := { parameters := [.int, .int], returnType := some .int }, accessFlags := 9, code := some k19c2 }
/-- java/lang/Math -/
def k19 : Class := { plain "java/lang/Math" (some 0) with
  accessFlags := 49
  interfaces := #[]
  cf := some (fileOf pool19 1 #[.nestMembers #[98]] #[{ accessFlags := 2, nameIndex := 7, descriptorIndex := 8, attributes := #[] }, { accessFlags := 9, nameIndex := 198, descriptorIndex := 335, attributes := #[] }, { accessFlags := 9, nameIndex := 201, descriptorIndex := 335, attributes := #[] }] 49 4 #[] #[{ accessFlags := 25, nameIndex := 354, descriptorIndex := 339, attributes := #[] }, { accessFlags := 25, nameIndex := 358, descriptorIndex := 339, attributes := #[] }, { accessFlags := 25, nameIndex := 361, descriptorIndex := 339, attributes := #[] }, { accessFlags := 26, nameIndex := 364, descriptorIndex := 339, attributes := #[] }, { accessFlags := 26, nameIndex := 365, descriptorIndex := 339, attributes := #[] }, { accessFlags := 26, nameIndex := 172, descriptorIndex := 173, attributes := #[] }, { accessFlags := 26, nameIndex := 176, descriptorIndex := 173, attributes := #[] }, { accessFlags := 8, nameIndex := 344, descriptorIndex := 339, attributes := #[] }, { accessFlags := 8, nameIndex := 338, descriptorIndex := 339, attributes := #[] }, { accessFlags := 4120, nameIndex := 245, descriptorIndex := 246, attributes := #[] }])
  fields := #[{ name := "E", type := .double, accessFlags := 25, slot := 0, constantValue := 0 }, { name := "PI", type := .double, accessFlags := 25, slot := 1, constantValue := 0 }, { name := "TAU", type := .double, accessFlags := 25, slot := 2, constantValue := 0 }, { name := "DEGREES_TO_RADIANS", type := .double, accessFlags := 26, slot := 3, constantValue := 0 }, { name := "RADIANS_TO_DEGREES", type := .double, accessFlags := 26, slot := 4, constantValue := 0 }, { name := "negativeZeroFloatBits", type := .long, accessFlags := 26, slot := 5, constantValue := 0 }, { name := "negativeZeroDoubleBits", type := .long, accessFlags := 26, slot := 6, constantValue := 0 }, { name := "twoToTheDoubleScaleUp", type := .double, accessFlags := 8, slot := 7, constantValue := 0 }, { name := "twoToTheDoubleScaleDown", type := .double, accessFlags := 8, slot := 8, constantValue := 0 }, { name := "$assertionsDisabled", type := .boolean, accessFlags := 4120, slot := 9, constantValue := 0 }]
  methods := #[k19m0, k19m1, k19m2]
  instanceTypes := #[]
  staticTypes := #[.double, .double, .double, .double, .double, .long, .long, .double, .double, .boolean]
  resolved := Array.replicate 460 none
  statics := none }

def pool20 : Array CpInfo := pool [(2, .class_ 4), (1, u "java/lang/Object"), (0, u "<init>"), (0, u "()V"), (3, .class_ 11), (0, u "java/util/ImmutableCollections$List12"), (0, .class_ 13), (0, u "java/util/ImmutableCollections$ListN"), (3, u "Z"), (0, .class_ 19), (0, u "java/util/List"), (0, .interfaceMethodref 21 22), (0, .class_ 23), (0, .nameAndType 24 25), (0, u "java/util/Collection"), (0, u "isEmpty"), (0, u "()Z"), (2, u "of"), (1, .interfaceMethodref 21 31), (0, .nameAndType 32 33), (0, u "toArray"), (0, u "()[Ljava/lang/Object;"), (0, .interfaceMethodref 18 35), (0, .nameAndType 28 36), (0, u "([Ljava/lang/Object;)Ljava/util/List;"), (0, .methodref 38 39), (0, .class_ 40), (0, .nameAndType 41 42), (0, u "java/util/Objects"), (0, u "requireNonNull"), (0, u "(Ljava/lang/Object;)Ljava/lang/Object;"), (0, .methodref 12 44), (0, .nameAndType 5 45), (0, u "([Ljava/lang/Object;Z)V"), (1, .class_ 49), (1, u "java/util/ImmutableCollections"), (0, u "$assertionsDisabled"), (5, u "[Ljava/lang/Object;"), (5, u "EMPTY_LIST"), (0, u "Ljava/util/ImmutableCollections$ListN;"), (8, u "EMPTY_LIST_NULLS"), (22, u "SALT32L"), (0, u "J"), (2, u "REVERSE"), (6, u "archivedObjects"), (2, u "EMPTY"), (0, u "Ljava/lang/Object;"), (0, .class_ 112), (0, u "java/util/ImmutableCollections$SetN"), (5, u "EMPTY_SET"), (0, u "Ljava/util/ImmutableCollections$SetN;"), (0, .class_ 121), (0, u "java/util/ImmutableCollections$MapN"), (3, u "EMPTY_MAP"), (0, u "Ljava/util/ImmutableCollections$MapN;"), (4, u "EXPAND_FACTOR"), (0, u "I"), (9, u "listCopy"), (0, u "(Ljava/util/Collection;)Ljava/util/List;"), (7, u "listFromArray"), (17, .class_ 170), (0, u "java/util/ImmutableCollections$MapN$MapNIterator"), (0, .class_ 172), (0, u "java/util/ImmutableCollections$MapN$1"), (0, .class_ 174), (0, u "java/util/ImmutableCollections$Map1"), (0, .class_ 176), (0, u "java/util/ImmutableCollections$AbstractImmutableMap"), (0, .class_ 178), (0, u "java/util/ImmutableCollections$SetN$SetNIterator"), (0, .class_ 180), (0, u "java/util/ImmutableCollections$Set12"), (0, .class_ 182), (0, u "java/util/ImmutableCollections$Set12$1"), (0, .class_ 184), (0, u "java/util/ImmutableCollections$AbstractImmutableSet"), (0, .class_ 186), (0, u "java/util/ImmutableCollections$SubList"), (0, .class_ 188), (0, u "java/util/ImmutableCollections$ListItr"), (0, .class_ 190), (0, u "java/util/ImmutableCollections$AbstractImmutableList"), (0, .class_ 192), (0, u "java/util/ImmutableCollections$AbstractImmutableCollection"), (0, .class_ 194), (0, u "java/util/ImmutableCollections$Access"), (0, .class_ 196), (0, u "java/util/ImmutableCollections$Access$1")] 16

def k20m0 : Method := { name := "<init>", desc := "()V", sig := { parameters := [], returnType := none }, accessFlags := 2, code := none }
def k20c1 : Code := { maxStack := 1, maxLocals := 2, code := jdk_56_method_3_code, exceptionTable := #[], attributes := #[] }
def k20m1 : Method := { name := "listCopy", desc := "(Ljava/util/Collection;)Ljava/util/List;", sig := { parameters := [(.object "java/util/Collection")], returnType := some (.object "java/util/List") }, accessFlags := 8, code := some k20c1 }
def k20c2 : Code := { maxStack := 4, maxLocals := 3, code := jdk_56_method_4_code, exceptionTable := #[], attributes := #[] }
def k20m2 : Method := { name := "listFromArray", desc := "([Ljava/lang/Object;)Ljava/util/List;", sig := { parameters := [(.array (.object "java/lang/Object"))], returnType := some (.object "java/util/List") }, accessFlags := 136, code := some k20c2 }
/-- java/util/ImmutableCollections -/
def k20 : Class := { plain "java/util/ImmutableCollections" (some 0) with
  accessFlags := 32
  interfaces := #[]
  cf := some (fileOf pool20 47 #[.nestMembers #[120, 169, 171, 173, 175, 111, 177, 179, 181, 183, 12, 10, 185, 187, 189, 191, 193, 195]] #[{ accessFlags := 2, nameIndex := 5, descriptorIndex := 6, attributes := #[] }, { accessFlags := 8, nameIndex := 142, descriptorIndex := 143, attributes := #[] }, { accessFlags := 136, nameIndex := 151, descriptorIndex := 36, attributes := #[] }] 32 2 #[] #[{ accessFlags := 26, nameIndex := 95, descriptorIndex := 96, attributes := #[] }, { accessFlags := 26, nameIndex := 99, descriptorIndex := 17, attributes := #[] }, { accessFlags := 10, nameIndex := 106, descriptorIndex := 56, attributes := #[] }, { accessFlags := 26, nameIndex := 109, descriptorIndex := 110, attributes := #[] }, { accessFlags := 24, nameIndex := 62, descriptorIndex := 63, attributes := #[] }, { accessFlags := 24, nameIndex := 72, descriptorIndex := 63, attributes := #[] }, { accessFlags := 24, nameIndex := 118, descriptorIndex := 119, attributes := #[] }, { accessFlags := 24, nameIndex := 125, descriptorIndex := 126, attributes := #[] }, { accessFlags := 24, nameIndex := 131, descriptorIndex := 132, attributes := #[] }, { accessFlags := 4120, nameIndex := 50, descriptorIndex := 17, attributes := #[] }])
  fields := #[{ name := "SALT32L", type := .long, accessFlags := 26, slot := 0, constantValue := 0 }, { name := "REVERSE", type := .boolean, accessFlags := 26, slot := 1, constantValue := 0 }, { name := "archivedObjects", type := (.array (.object "java/lang/Object")), accessFlags := 10, slot := 2, constantValue := 0 }, { name := "EMPTY", type := (.object "java/lang/Object"), accessFlags := 26, slot := 3, constantValue := 0 }, { name := "EMPTY_LIST", type := (.object "java/util/ImmutableCollections$ListN"), accessFlags := 24, slot := 4, constantValue := 0 }, { name := "EMPTY_LIST_NULLS", type := (.object "java/util/ImmutableCollections$ListN"), accessFlags := 24, slot := 5, constantValue := 0 }, { name := "EMPTY_SET", type := (.object "java/util/ImmutableCollections$SetN"), accessFlags := 24, slot := 6, constantValue := 0 }, { name := "EMPTY_MAP", type := (.object "java/util/ImmutableCollections$MapN"), accessFlags := 24, slot := 7, constantValue := 0 }, { name := "EXPAND_FACTOR", type := .int, accessFlags := 24, slot := 8, constantValue := 0 }, { name := "$assertionsDisabled", type := .boolean, accessFlags := 4120, slot := 9, constantValue := 0 }]
  methods := #[k20m0, k20m1, k20m2]
  instanceTypes := #[]
  staticTypes := #[.long, .boolean, (.array (.object "java/lang/Object")), (.object "java/lang/Object"), (.object "java/util/ImmutableCollections$ListN"), (.object "java/util/ImmutableCollections$ListN"), (.object "java/util/ImmutableCollections$SetN"), (.object "java/util/ImmutableCollections$MapN"), .int, .boolean]
  resolved := Array.replicate 213 none
  statics := some 2 }

def pool21 : Array CpInfo := pool [(1, .methodref 2 3), (0, .class_ 4), (0, .nameAndType 5 6), (0, u "java/util/AbstractCollection"), (0, u "<init>"), (0, u "()V"), (1, .class_ 10), (1, u "java/util/ImmutableCollections"), (2, .class_ 14), (0, u "java/util/ImmutableCollections$AbstractImmutableCollection")] 41

def k21c0 : Code := { maxStack := 1, maxLocals := 1, code := jdk_47_method_1_code, exceptionTable := #[], attributes := #[] }
def k21m0 : Method := { name := "<init>", desc := "()V", sig := { parameters := [], returnType := none }, accessFlags := 0, code := some k21c0 }
/-- java/util/ImmutableCollections$AbstractImmutableCollection -/
def k21 : Class := { plain "java/util/ImmutableCollections$AbstractImmutableCollection" (some 5) with
  accessFlags := 1056
  interfaces := #[]
  cf := some (fileOf pool21 13 #[.nestHost 8] #[{ accessFlags := 0, nameIndex := 5, descriptorIndex := 6, attributes := #[] }] 1056 2 #[] #[])
  fields := #[]
  methods := #[k21m0]
  instanceTypes := #[]
  staticTypes := #[]
  resolved := Array.replicate 56 none
  statics := none }

def pool22 : Array CpInfo := pool [(1, .methodref 2 3), (0, .class_ 4), (0, .nameAndType 5 6), (0, u "java/util/ImmutableCollections$AbstractImmutableCollection"), (0, u "<init>"), (0, u "()V"), (1, .class_ 10), (1, u "java/util/ImmutableCollections"), (3, .class_ 16), (1, u "java/util/ImmutableCollections$AbstractImmutableList"), (60, .class_ 78), (0, u "java/util/List"), (45, .class_ 125), (0, u "java/util/RandomAccess")] 70

def k22c0 : Code := { maxStack := 1, maxLocals := 1, code := jdk_46_method_1_code, exceptionTable := #[], attributes := #[] }
def k22m0 : Method := { name := "<init>", desc := "()V", sig := { parameters := [], returnType := none }, accessFlags := 0, code := some k22c0 }
/-- java/util/ImmutableCollections$AbstractImmutableList -/
def k22 : Class := { plain "java/util/ImmutableCollections$AbstractImmutableList" (some 21) with
  accessFlags := 1056
  interfaces := #[7, 9]
  cf := some (fileOf pool22 14 #[.nestHost 8] #[{ accessFlags := 0, nameIndex := 5, descriptorIndex := 6, attributes := #[] }] 1056 2 #[77, 124] #[])
  fields := #[]
  methods := #[k22m0]
  instanceTypes := #[]
  staticTypes := #[]
  resolved := Array.replicate 196 none
  statics := none }

def pool23 : Array CpInfo := pool [(1, .methodref 2 3), (0, .class_ 4), (0, .nameAndType 5 6), (0, u "java/util/ImmutableCollections$AbstractImmutableList"), (0, u "<init>"), (0, u "()V"), (0, .methodref 8 9), (0, .class_ 10), (0, .nameAndType 11 12), (0, u "java/util/Objects"), (0, u "requireNonNull"), (0, u "(Ljava/lang/Object;)Ljava/lang/Object;"), (0, .fieldref 14 15), (0, .class_ 16), (0, .nameAndType 17 18), (0, u "java/util/ImmutableCollections$List12"), (0, u "e0"), (0, u "Ljava/lang/Object;"), (0, .fieldref 20 21), (0, .class_ 22), (0, .nameAndType 23 18), (0, u "java/util/ImmutableCollections"), (0, u "EMPTY"), (0, .fieldref 14 25), (0, .nameAndType 26 18), (0, u "e1"), (43, .class_ 71), (0, u "java/io/Serializable"), (4, u "(Ljava/lang/Object;)V"), (8, u "(Ljava/lang/Object;Ljava/lang/Object;)V")] 39

def k23c0 : Code := { maxStack := 2, maxLocals := 2, code := jdk_44_method_1_code, exceptionTable := #[], attributes := #[] }
def k23m0 : Method := { name := "<init>", desc := "(Ljava/lang/Object;)V", sig := { parameters := [(.object "java/lang/Object")], returnType := none }, accessFlags := 0, code := some k23c0 }
def k23c1 : Code := { maxStack := 2, maxLocals := 3, code := jdk_44_method_2_code, exceptionTable := #[], attributes := #[] }
def k23m1 : Method := { name := "<init>", desc := "(Ljava/lang/Object;Ljava/lang/Object;)V", sig := { parameters := [(.object "java/lang/Object"), (.object "java/lang/Object")], returnType := none }, accessFlags := 0, code := some k23c1 }
/-- java/util/ImmutableCollections$List12 -/
def k23 : Class := { plain "java/util/ImmutableCollections$List12" (some 22) with
  accessFlags := 48
  interfaces := #[11]
  cf := some (fileOf pool23 14 #[.nestHost 20] #[{ accessFlags := 0, nameIndex := 5, descriptorIndex := 76, attributes := #[] }, { accessFlags := 0, nameIndex := 5, descriptorIndex := 85, attributes := #[] }] 48 2 #[70] #[{ accessFlags := 18, nameIndex := 17, descriptorIndex := 18, attributes := #[] }, { accessFlags := 18, nameIndex := 26, descriptorIndex := 18, attributes := #[] }])
  fields := #[{ name := "e0", type := (.object "java/lang/Object"), accessFlags := 18, slot := 0, constantValue := 0 }, { name := "e1", type := (.object "java/lang/Object"), accessFlags := 18, slot := 1, constantValue := 0 }]
  methods := #[k23m0, k23m1]
  instanceTypes := #[(.object "java/lang/Object"), (.object "java/lang/Object")]
  staticTypes := #[]
  resolved := Array.replicate 125 none
  statics := none }

def pool24 : Array CpInfo := pool [(1, .methodref 2 3), (0, .class_ 4), (0, .nameAndType 5 6), (0, u "java/util/ImmutableCollections$AbstractImmutableList"), (0, u "<init>"), (0, u "()V"), (0, .fieldref 8 9), (0, .class_ 10), (0, .nameAndType 11 12), (0, u "java/util/ImmutableCollections$ListN"), (0, u "elements"), (0, u "[Ljava/lang/Object;"), (0, .fieldref 8 14), (0, .nameAndType 15 16), (0, u "allowNulls"), (0, u "Z"), (42, .class_ 60), (0, u "java/io/Serializable"), (4, u "([Ljava/lang/Object;Z)V"), (48, .class_ 115), (0, u "java/util/ImmutableCollections")] 3

def k24c0 : Code := { maxStack := 2, maxLocals := 3, code := jdk_45_method_1_code, exceptionTable := #[], attributes := #[] }
def k24m0 : Method := { name := "<init>", desc := "([Ljava/lang/Object;Z)V", sig := { parameters := [(.array (.object "java/lang/Object")), .boolean], returnType := none }, accessFlags := 2, code := some k24c0 }
/-- java/util/ImmutableCollections$ListN -/
def k24 : Class := { plain "java/util/ImmutableCollections$ListN" (some 22) with
  accessFlags := 48
  interfaces := #[11]
  cf := some (fileOf pool24 8 #[.nestHost 114] #[{ accessFlags := 2, nameIndex := 5, descriptorIndex := 65, attributes := #[] }] 48 2 #[59] #[{ accessFlags := 18, nameIndex := 11, descriptorIndex := 12, attributes := #[] }, { accessFlags := 18, nameIndex := 15, descriptorIndex := 16, attributes := #[] }])
  fields := #[{ name := "elements", type := (.array (.object "java/lang/Object")), accessFlags := 18, slot := 0, constantValue := 0 }, { name := "allowNulls", type := .boolean, accessFlags := 18, slot := 1, constantValue := 0 }]
  methods := #[k24m0]
  instanceTypes := #[(.array (.object "java/lang/Object")), .boolean]
  staticTypes := #[]
  resolved := Array.replicate 119 none
  statics := none }

def pool25 : Array CpInfo := pool [(2, .class_ 4), (1, u "java/lang/Object"), (0, u "<init>"), (0, u "()V"), (7, .class_ 16), (1, u "java/util/Arrays"), (57, .class_ 76), (1, u "java/util/Arrays$NaturalOrder"), (9, .methodref 2 87), (0, .nameAndType 88 89), (0, u "getClass"), (0, u "()Ljava/lang/Class;"), (20, .class_ 111), (0, u "[Ljava/lang/Object;"), (1, .class_ 115), (1, u "java/util/Arrays$LegacyMergeSort"), (1, u "Z"), (32, .methodref 151 152), (0, .class_ 153), (0, .nameAndType 154 155), (0, u "java/lang/System"), (0, u "arraycopy"), (0, u "(Ljava/lang/Object;ILjava/lang/Object;II)V"), (144, .methodref 14 301), (0, .nameAndType 302 303), (0, u "copyOf"), (0, u "([Ljava/lang/Object;ILjava/lang/Class;)[Ljava/lang/Object;"), (0, .methodref 305 306), (0, .class_ 307), (0, .nameAndType 308 309), (0, u "java/lang/Math"), (0, u "min"), (0, u "(II)I"), (65, .class_ 376), (0, u "java/util/Arrays$ArrayList"), (68, u "$assertionsDisabled"), (269, u "MIN_ARRAY_SORT_GRAN"), (0, u "I"), (2, u "INSERTIONSORT_THRESHOLD"), (140, u "([Ljava/lang/Object;I)[Ljava/lang/Object;"), (114, .class_ 976), (0, u "java/util/Arrays$ArrayItr")] 52

def k25m0 : Method := { name := "<init>", desc := "()V", sig := { parameters := [], returnType := none }, accessFlags := 2, code := none }
def k25c1 : Code := { maxStack := 3, maxLocals := 2, code := jdk_65_method_119_code, exceptionTable := #[], attributes := #[] }
def k25m1 : Method := { name := "copyOf", desc := "([Ljava/lang/Object;I)[Ljava/lang/Object;", sig := { parameters := [(.array (.object "java/lang/Object")), .int], returnType := some (.array (.object "java/lang/Object")) }, accessFlags := 9, code := some k25c1 }
def k25c2 : Code := { maxStack := 6, maxLocals := 4, code := jdk_65_method_120_code, exceptionTable := #[], attributes := #[] }
def k25m2 : Method := { name := "copyOf", desc := "([Ljava/lang/Object;ILjava/lang/Class;)[Ljava/lang/Object;", sig := { parameters := [(.array (.object "java/lang/Object")), .int, (.object "java/lang/Class")], returnType := some (.array (.object "java/lang/Object")) }, accessFlags := 9, code := some k25c2 }
/-- java/util/Arrays -/
def k25 : Class := { plain "java/util/Arrays" (some 0) with
  accessFlags := 49
  interfaces := #[]
  cf := some (fileOf pool25 14 #[.nestMembers #[975, 375, 113, 74]] #[{ accessFlags := 2, nameIndex := 5, descriptorIndex := 6, attributes := #[] }, { accessFlags := 9, nameIndex := 302, descriptorIndex := 860, attributes := #[] }, { accessFlags := 9, nameIndex := 302, descriptorIndex := 303, attributes := #[] }] 49 2 #[] #[{ accessFlags := 26, nameIndex := 715, descriptorIndex := 716, attributes := #[] }, { accessFlags := 26, nameIndex := 719, descriptorIndex := 716, attributes := #[] }, { accessFlags := 4120, nameIndex := 445, descriptorIndex := 117, attributes := #[] }])
  fields := #[{ name := "MIN_ARRAY_SORT_GRAN", type := .int, accessFlags := 26, slot := 0, constantValue := 0 }, { name := "INSERTIONSORT_THRESHOLD", type := .int, accessFlags := 26, slot := 1, constantValue := 0 }, { name := "$assertionsDisabled", type := .boolean, accessFlags := 4120, slot := 2, constantValue := 0 }]
  methods := #[k25m0, k25m1, k25m2]
  instanceTypes := #[]
  staticTypes := #[.int, .int, .boolean]
  resolved := Array.replicate 1029 none
  statics := none }

def pool26 : Array CpInfo := pool [(2, .class_ 4), (1, u "java/lang/Object"), (0, u "<init>"), (0, u "()V"), (1, .class_ 10), (1, u "java/lang/System"), (0, u "allowSecurityManager"), (0, u "I"), (16, u "cons"), (0, u "Ljava/io/Console;"), (77, .class_ 110), (1, u "java/lang/System$CallersHolder"), (43, u "initialErrStream"), (0, u "Ljava/io/PrintStream;"), (19, u "security"), (0, u "Ljava/lang/SecurityManager;"), (31, .class_ 209), (0, u "java/lang/System$1"), (7, u "props"), (0, u "Ljava/util/Properties;"), (2, u "lineSeparator"), (0, u "Ljava/lang/String;"), (96, .class_ 321), (1, u "java/lang/System$LoggerFinder"), (5, .class_ 328), (0, u "java/lang/System$Logger"), (67, u "err"), (2, u "out"), (91, u "notSupportedJnuEncoding"), (15, u "in"), (17, u "initialIn"), (0, u "Ljava/io/InputStream;"), (35, u "bootLayer"), (0, u "Ljava/lang/ModuleLayer;"), (99, .class_ 664), (0, u "java/lang/System$2"), (9, u "NEVER"), (2, u "MAYBE"), (49, u "arraycopy"), (0, u "(Ljava/lang/Object;ILjava/lang/Object;II)V"), (72, .class_ 802), (0, u "java/lang/System$Logger$Level")] 31

def k26m0 : Method := { name := "<init>", desc := "()V", sig := { parameters := [], returnType := none }, accessFlags := 2, code := none }
def k26m1 : Method := { name := "arraycopy", desc := "(Ljava/lang/Object;ILjava/lang/Object;II)V", sig := { parameters := [(.object "java/lang/Object"), .int, (.object "java/lang/Object"), .int, .int], returnType := none }, accessFlags := 265, code := none }
/-- java/lang/System -/
def k26 : Class := { plain "java/lang/System" (some 0) with
  accessFlags := 49
  interfaces := #[]
  cf := some (fileOf pool26 8 #[.nestMembers #[319, 327, 801, 108, 663, 208]] #[{ accessFlags := 2, nameIndex := 5, descriptorIndex := 6, attributes := #[] }, { accessFlags := 265, nameIndex := 727, descriptorIndex := 728, attributes := #[] }] 49 2 #[] #[{ accessFlags := 25, nameIndex := 507, descriptorIndex := 526, attributes := #[] }, { accessFlags := 25, nameIndex := 399, descriptorIndex := 155, attributes := #[] }, { accessFlags := 25, nameIndex := 396, descriptorIndex := 155, attributes := #[] }, { accessFlags := 10, nameIndex := 525, descriptorIndex := 526, attributes := #[] }, { accessFlags := 26, nameIndex := 674, descriptorIndex := 12, attributes := #[] }, { accessFlags := 26, nameIndex := 677, descriptorIndex := 12, attributes := #[] }, { accessFlags := 10, nameIndex := 11, descriptorIndex := 12, attributes := #[] }, { accessFlags := 74, nameIndex := 175, descriptorIndex := 176, attributes := #[] }, { accessFlags := 10, nameIndex := 491, descriptorIndex := 222, attributes := #[] }, { accessFlags := 74, nameIndex := 29, descriptorIndex := 30, attributes := #[] }, { accessFlags := 74, nameIndex := 154, descriptorIndex := 155, attributes := #[] }, { accessFlags := 10, nameIndex := 217, descriptorIndex := 218, attributes := #[] }, { accessFlags := 10, nameIndex := 221, descriptorIndex := 222, attributes := #[] }, { accessFlags := 8, nameIndex := 562, descriptorIndex := 563, attributes := #[] }])
  fields := #[{ name := "in", type := (.object "java/io/InputStream"), accessFlags := 25, slot := 0, constantValue := 0 }, { name := "out", type := (.object "java/io/PrintStream"), accessFlags := 25, slot := 1, constantValue := 0 }, { name := "err", type := (.object "java/io/PrintStream"), accessFlags := 25, slot := 2, constantValue := 0 }, { name := "initialIn", type := (.object "java/io/InputStream"), accessFlags := 10, slot := 3, constantValue := 0 }, { name := "NEVER", type := .int, accessFlags := 26, slot := 4, constantValue := 0 }, { name := "MAYBE", type := .int, accessFlags := 26, slot := 5, constantValue := 0 }, { name := "allowSecurityManager", type := .int, accessFlags := 10, slot := 6, constantValue := 0 }, { name := "security", type := (.object "java/lang/SecurityManager"), accessFlags := 74, slot := 7, constantValue := 0 }, { name := "notSupportedJnuEncoding", type := (.object "java/lang/String"), accessFlags := 10, slot := 8, constantValue := 0 }, { name := "cons", type := (.object "java/io/Console"), accessFlags := 74, slot := 9, constantValue := 0 }, { name := "initialErrStream", type := (.object "java/io/PrintStream"), accessFlags := 74, slot := 10, constantValue := 0 }, { name := "props", type := (.object "java/util/Properties"), accessFlags := 10, slot := 11, constantValue := 0 }, { name := "lineSeparator", type := (.object "java/lang/String"), accessFlags := 10, slot := 12, constantValue := 0 }, { name := "bootLayer", type := (.object "java/lang/ModuleLayer"), accessFlags := 8, slot := 13, constantValue := 0 }]
  methods := #[k26m0, k26m1]
  instanceTypes := #[]
  staticTypes := #[(.object "java/io/InputStream"), (.object "java/io/PrintStream"), (.object "java/io/PrintStream"), (.object "java/io/InputStream"), .int, .int, .int, (.object "java/lang/SecurityManager"), (.object "java/lang/String"), (.object "java/io/Console"), (.object "java/io/PrintStream"), (.object "java/util/Properties"), (.object "java/lang/String"), (.object "java/lang/ModuleLayer")]
  resolved := Array.replicate 834 none
  statics := none }

def pool27 : Array CpInfo := pool [(2, .class_ 4), (1, u "java/lang/Object"), (0, u "<init>"), (0, u "()V"), (35, .class_ 44), (1, u "java/util/Objects"), (0, u "requireNonNull"), (0, u "(Ljava/lang/Object;)Ljava/lang/Object;")] 137

def k27m0 : Method := { name := "<init>", desc := "()V", sig := { parameters := [], returnType := none }, accessFlags := 2, code := none }
def k27c1 : Code := { maxStack := 2, maxLocals := 1, code := jdk_31_method_10_code, exceptionTable := #[], attributes := #[] }
def k27m1 : Method := { name := "requireNonNull", desc := "(Ljava/lang/Object;)Ljava/lang/Object;", sig := { parameters := [(.object "java/lang/Object")], returnType := some (.object "java/lang/Object") }, accessFlags := 9, code := some k27c1 }
/-- java/util/Objects -/
def k27 : Class := { plain "java/util/Objects" (some 0) with
  accessFlags := 49
  interfaces := #[]
  cf := some (fileOf pool27 42 #[] #[{ accessFlags := 2, nameIndex := 5, descriptorIndex := 6, attributes := #[] }, { accessFlags := 9, nameIndex := 45, descriptorIndex := 46, attributes := #[] }] 49 2 #[] #[])
  fields := #[]
  methods := #[k27m0, k27m1]
  instanceTypes := #[]
  staticTypes := #[]
  resolved := Array.replicate 184 none
  statics := none }

def pool28 : Array CpInfo := pool [(1, u "java/lang/Class"), (0, .class_ 1), (0, u "java/lang/Object"), (0, .class_ 3)] 3

/-- java/lang/Class -/
def k28 : Class := { plain "java/lang/Class" (some 0) with
  accessFlags := 49
  interfaces := #[]
  cf := some (fileOf pool28 2 #[] #[] 49 4 #[] #[])
  fields := #[]
  methods := #[]
  instanceTypes := #[]
  staticTypes := #[]
  resolved := Array.replicate 8 none
  statics := none }

/-- the primitive byte -/
def k29 : Class := { plain "byte" none with kind := .primitive 'B', accessFlags := 0x411 }
/-- [B -/
def k30 : Class := { plain "[B" (some 0) with kind := .array 29 .byte, interfaces := #[10, 11], accessFlags := 1041 }

/-- the primitive int -/
def k31 : Class := { plain "int" none with kind := .primitive 'I', accessFlags := 0x411 }
/-- [I -/
def k32 : Class := { plain "[I" (some 0) with kind := .array 31 .int, interfaces := #[10, 11], accessFlags := 1041 }

/-- the primitive long -/
def k33 : Class := { plain "long" none with kind := .primitive 'J', accessFlags := 0x411 }
/-- [J -/
def k34 : Class := { plain "[J" (some 0) with kind := .array 33 .long, interfaces := #[10, 11], accessFlags := 1041 }

/-- [Ljava/lang/Long; -/
def k35 : Class := { plain "[Ljava/lang/Long;" (some 0) with kind := .array 17 (.object "java/lang/Long"), interfaces := #[10, 11], accessFlags := 1041 }

/-- [Ljava/lang/Object; -/
def k36 : Class := { plain "[Ljava/lang/Object;" (some 0) with kind := .array 0 (.object "java/lang/Object"), interfaces := #[10, 11], accessFlags := 1041, mirror := some 3 }

def heap : Heap := #[{ cls := 12, slots := #[.long 0, .int 0, .ref 261, .ref 262], vm := .statics 12 },
  { cls := 18, slots := #[.ref 4, .null, .int 0], vm := .statics 18 },
  { cls := 20, slots := #[.long 0, .int 0, .null, .ref 263, .ref 264, .null, .null, .null, .int 0, .int 1], vm := .statics 20 },
  { cls := 28, slots := #[], vm := .mirror 36 },
  { cls := 35, slots := #[.ref 5, .ref 6, .ref 7, .ref 8, .ref 9, .ref 10, .ref 11, .ref 12, .ref 13, .ref 14, .ref 15, .ref 16, .ref 17, .ref 18, .ref 19, .ref 20, .ref 21, .ref 22, .ref 23, .ref 24, .ref 25, .ref 26, .ref 27, .ref 28, .ref 29, .ref 30, .ref 31, .ref 32, .ref 33, .ref 34, .ref 35, .ref 36, .ref 37, .ref 38, .ref 39, .ref 40, .ref 41, .ref 42, .ref 43, .ref 44, .ref 45, .ref 46, .ref 47, .ref 48, .ref 49, .ref 50, .ref 51, .ref 52, .ref 53, .ref 54, .ref 55, .ref 56, .ref 57, .ref 58, .ref 59, .ref 60, .ref 61, .ref 62, .ref 63, .ref 64, .ref 65, .ref 66, .ref 67, .ref 68, .ref 69, .ref 70, .ref 71, .ref 72, .ref 73, .ref 74, .ref 75, .ref 76, .ref 77, .ref 78, .ref 79, .ref 80, .ref 81, .ref 82, .ref 83, .ref 84, .ref 85, .ref 86, .ref 87, .ref 88, .ref 89, .ref 90, .ref 91, .ref 92, .ref 93, .ref 94, .ref 95, .ref 96, .ref 97, .ref 98, .ref 99, .ref 100, .ref 101, .ref 102, .ref 103, .ref 104, .ref 105, .ref 106, .ref 107, .ref 108, .ref 109, .ref 110, .ref 111, .ref 112, .ref 113, .ref 114, .ref 115, .ref 116, .ref 117, .ref 118, .ref 119, .ref 120, .ref 121, .ref 122, .ref 123, .ref 124, .ref 125, .ref 126, .ref 127, .ref 128, .ref 129, .ref 130, .ref 131, .ref 132, .ref 133, .ref 134, .ref 135, .ref 136, .ref 137, .ref 138, .ref 139, .ref 140, .ref 141, .ref 142, .ref 143, .ref 144, .ref 145, .ref 146, .ref 147, .ref 148, .ref 149, .ref 150, .ref 151, .ref 152, .ref 153, .ref 154, .ref 155, .ref 156, .ref 157, .ref 158, .ref 159, .ref 160, .ref 161, .ref 162, .ref 163, .ref 164, .ref 165, .ref 166, .ref 167, .ref 168, .ref 169, .ref 170, .ref 171, .ref 172, .ref 173, .ref 174, .ref 175, .ref 176, .ref 177, .ref 178, .ref 179, .ref 180, .ref 181, .ref 182, .ref 183, .ref 184, .ref 185, .ref 186, .ref 187, .ref 188, .ref 189, .ref 190, .ref 191, .ref 192, .ref 193, .ref 194, .ref 195, .ref 196, .ref 197, .ref 198, .ref 199, .ref 200, .ref 201, .ref 202, .ref 203, .ref 204, .ref 205, .ref 206, .ref 207, .ref 208, .ref 209, .ref 210, .ref 211, .ref 212, .ref 213, .ref 214, .ref 215, .ref 216, .ref 217, .ref 218, .ref 219, .ref 220, .ref 221, .ref 222, .ref 223, .ref 224, .ref 225, .ref 226, .ref 227, .ref 228, .ref 229, .ref 230, .ref 231, .ref 232, .ref 233, .ref 234, .ref 235, .ref 236, .ref 237, .ref 238, .ref 239, .ref 240, .ref 241, .ref 242, .ref 243, .ref 244, .ref 245, .ref 246, .ref 247, .ref 248, .ref 249, .ref 250, .ref 251, .ref 252, .ref 253, .ref 254, .ref 255, .ref 256, .ref 257, .ref 258, .ref 259, .ref 260], vm := .none },
  { cls := 17, slots := #[.long (-128)], vm := .none },
  { cls := 17, slots := #[.long (-127)], vm := .none },
  { cls := 17, slots := #[.long (-126)], vm := .none },
  { cls := 17, slots := #[.long (-125)], vm := .none },
  { cls := 17, slots := #[.long (-124)], vm := .none },
  { cls := 17, slots := #[.long (-123)], vm := .none },
  { cls := 17, slots := #[.long (-122)], vm := .none },
  { cls := 17, slots := #[.long (-121)], vm := .none },
  { cls := 17, slots := #[.long (-120)], vm := .none },
  { cls := 17, slots := #[.long (-119)], vm := .none },
  { cls := 17, slots := #[.long (-118)], vm := .none },
  { cls := 17, slots := #[.long (-117)], vm := .none },
  { cls := 17, slots := #[.long (-116)], vm := .none },
  { cls := 17, slots := #[.long (-115)], vm := .none },
  { cls := 17, slots := #[.long (-114)], vm := .none },
  { cls := 17, slots := #[.long (-113)], vm := .none },
  { cls := 17, slots := #[.long (-112)], vm := .none },
  { cls := 17, slots := #[.long (-111)], vm := .none },
  { cls := 17, slots := #[.long (-110)], vm := .none },
  { cls := 17, slots := #[.long (-109)], vm := .none },
  { cls := 17, slots := #[.long (-108)], vm := .none },
  { cls := 17, slots := #[.long (-107)], vm := .none },
  { cls := 17, slots := #[.long (-106)], vm := .none },
  { cls := 17, slots := #[.long (-105)], vm := .none },
  { cls := 17, slots := #[.long (-104)], vm := .none },
  { cls := 17, slots := #[.long (-103)], vm := .none },
  { cls := 17, slots := #[.long (-102)], vm := .none },
  { cls := 17, slots := #[.long (-101)], vm := .none },
  { cls := 17, slots := #[.long (-100)], vm := .none },
  { cls := 17, slots := #[.long (-99)], vm := .none },
  { cls := 17, slots := #[.long (-98)], vm := .none },
  { cls := 17, slots := #[.long (-97)], vm := .none },
  { cls := 17, slots := #[.long (-96)], vm := .none },
  { cls := 17, slots := #[.long (-95)], vm := .none },
  { cls := 17, slots := #[.long (-94)], vm := .none },
  { cls := 17, slots := #[.long (-93)], vm := .none },
  { cls := 17, slots := #[.long (-92)], vm := .none },
  { cls := 17, slots := #[.long (-91)], vm := .none },
  { cls := 17, slots := #[.long (-90)], vm := .none },
  { cls := 17, slots := #[.long (-89)], vm := .none },
  { cls := 17, slots := #[.long (-88)], vm := .none },
  { cls := 17, slots := #[.long (-87)], vm := .none },
  { cls := 17, slots := #[.long (-86)], vm := .none },
  { cls := 17, slots := #[.long (-85)], vm := .none },
  { cls := 17, slots := #[.long (-84)], vm := .none },
  { cls := 17, slots := #[.long (-83)], vm := .none },
  { cls := 17, slots := #[.long (-82)], vm := .none },
  { cls := 17, slots := #[.long (-81)], vm := .none },
  { cls := 17, slots := #[.long (-80)], vm := .none },
  { cls := 17, slots := #[.long (-79)], vm := .none },
  { cls := 17, slots := #[.long (-78)], vm := .none },
  { cls := 17, slots := #[.long (-77)], vm := .none },
  { cls := 17, slots := #[.long (-76)], vm := .none },
  { cls := 17, slots := #[.long (-75)], vm := .none },
  { cls := 17, slots := #[.long (-74)], vm := .none },
  { cls := 17, slots := #[.long (-73)], vm := .none },
  { cls := 17, slots := #[.long (-72)], vm := .none },
  { cls := 17, slots := #[.long (-71)], vm := .none },
  { cls := 17, slots := #[.long (-70)], vm := .none },
  { cls := 17, slots := #[.long (-69)], vm := .none },
  { cls := 17, slots := #[.long (-68)], vm := .none },
  { cls := 17, slots := #[.long (-67)], vm := .none },
  { cls := 17, slots := #[.long (-66)], vm := .none },
  { cls := 17, slots := #[.long (-65)], vm := .none },
  { cls := 17, slots := #[.long (-64)], vm := .none },
  { cls := 17, slots := #[.long (-63)], vm := .none },
  { cls := 17, slots := #[.long (-62)], vm := .none },
  { cls := 17, slots := #[.long (-61)], vm := .none },
  { cls := 17, slots := #[.long (-60)], vm := .none },
  { cls := 17, slots := #[.long (-59)], vm := .none },
  { cls := 17, slots := #[.long (-58)], vm := .none },
  { cls := 17, slots := #[.long (-57)], vm := .none },
  { cls := 17, slots := #[.long (-56)], vm := .none },
  { cls := 17, slots := #[.long (-55)], vm := .none },
  { cls := 17, slots := #[.long (-54)], vm := .none },
  { cls := 17, slots := #[.long (-53)], vm := .none },
  { cls := 17, slots := #[.long (-52)], vm := .none },
  { cls := 17, slots := #[.long (-51)], vm := .none },
  { cls := 17, slots := #[.long (-50)], vm := .none },
  { cls := 17, slots := #[.long (-49)], vm := .none },
  { cls := 17, slots := #[.long (-48)], vm := .none },
  { cls := 17, slots := #[.long (-47)], vm := .none },
  { cls := 17, slots := #[.long (-46)], vm := .none },
  { cls := 17, slots := #[.long (-45)], vm := .none },
  { cls := 17, slots := #[.long (-44)], vm := .none },
  { cls := 17, slots := #[.long (-43)], vm := .none },
  { cls := 17, slots := #[.long (-42)], vm := .none },
  { cls := 17, slots := #[.long (-41)], vm := .none },
  { cls := 17, slots := #[.long (-40)], vm := .none },
  { cls := 17, slots := #[.long (-39)], vm := .none },
  { cls := 17, slots := #[.long (-38)], vm := .none },
  { cls := 17, slots := #[.long (-37)], vm := .none },
  { cls := 17, slots := #[.long (-36)], vm := .none },
  { cls := 17, slots := #[.long (-35)], vm := .none },
  { cls := 17, slots := #[.long (-34)], vm := .none },
  { cls := 17, slots := #[.long (-33)], vm := .none },
  { cls := 17, slots := #[.long (-32)], vm := .none },
  { cls := 17, slots := #[.long (-31)], vm := .none },
  { cls := 17, slots := #[.long (-30)], vm := .none },
  { cls := 17, slots := #[.long (-29)], vm := .none },
  { cls := 17, slots := #[.long (-28)], vm := .none },
  { cls := 17, slots := #[.long (-27)], vm := .none },
  { cls := 17, slots := #[.long (-26)], vm := .none },
  { cls := 17, slots := #[.long (-25)], vm := .none },
  { cls := 17, slots := #[.long (-24)], vm := .none },
  { cls := 17, slots := #[.long (-23)], vm := .none },
  { cls := 17, slots := #[.long (-22)], vm := .none },
  { cls := 17, slots := #[.long (-21)], vm := .none },
  { cls := 17, slots := #[.long (-20)], vm := .none },
  { cls := 17, slots := #[.long (-19)], vm := .none },
  { cls := 17, slots := #[.long (-18)], vm := .none },
  { cls := 17, slots := #[.long (-17)], vm := .none },
  { cls := 17, slots := #[.long (-16)], vm := .none },
  { cls := 17, slots := #[.long (-15)], vm := .none },
  { cls := 17, slots := #[.long (-14)], vm := .none },
  { cls := 17, slots := #[.long (-13)], vm := .none },
  { cls := 17, slots := #[.long (-12)], vm := .none },
  { cls := 17, slots := #[.long (-11)], vm := .none },
  { cls := 17, slots := #[.long (-10)], vm := .none },
  { cls := 17, slots := #[.long (-9)], vm := .none },
  { cls := 17, slots := #[.long (-8)], vm := .none },
  { cls := 17, slots := #[.long (-7)], vm := .none },
  { cls := 17, slots := #[.long (-6)], vm := .none },
  { cls := 17, slots := #[.long (-5)], vm := .none },
  { cls := 17, slots := #[.long (-4)], vm := .none },
  { cls := 17, slots := #[.long (-3)], vm := .none },
  { cls := 17, slots := #[.long (-2)], vm := .none },
  { cls := 17, slots := #[.long (-1)], vm := .none },
  { cls := 17, slots := #[.long 0], vm := .none },
  { cls := 17, slots := #[.long 1], vm := .none },
  { cls := 17, slots := #[.long 2], vm := .none },
  { cls := 17, slots := #[.long 3], vm := .none },
  { cls := 17, slots := #[.long 4], vm := .none },
  { cls := 17, slots := #[.long 5], vm := .none },
  { cls := 17, slots := #[.long 6], vm := .none },
  { cls := 17, slots := #[.long 7], vm := .none },
  { cls := 17, slots := #[.long 8], vm := .none },
  { cls := 17, slots := #[.long 9], vm := .none },
  { cls := 17, slots := #[.long 10], vm := .none },
  { cls := 17, slots := #[.long 11], vm := .none },
  { cls := 17, slots := #[.long 12], vm := .none },
  { cls := 17, slots := #[.long 13], vm := .none },
  { cls := 17, slots := #[.long 14], vm := .none },
  { cls := 17, slots := #[.long 15], vm := .none },
  { cls := 17, slots := #[.long 16], vm := .none },
  { cls := 17, slots := #[.long 17], vm := .none },
  { cls := 17, slots := #[.long 18], vm := .none },
  { cls := 17, slots := #[.long 19], vm := .none },
  { cls := 17, slots := #[.long 20], vm := .none },
  { cls := 17, slots := #[.long 21], vm := .none },
  { cls := 17, slots := #[.long 22], vm := .none },
  { cls := 17, slots := #[.long 23], vm := .none },
  { cls := 17, slots := #[.long 24], vm := .none },
  { cls := 17, slots := #[.long 25], vm := .none },
  { cls := 17, slots := #[.long 26], vm := .none },
  { cls := 17, slots := #[.long 27], vm := .none },
  { cls := 17, slots := #[.long 28], vm := .none },
  { cls := 17, slots := #[.long 29], vm := .none },
  { cls := 17, slots := #[.long 30], vm := .none },
  { cls := 17, slots := #[.long 31], vm := .none },
  { cls := 17, slots := #[.long 32], vm := .none },
  { cls := 17, slots := #[.long 33], vm := .none },
  { cls := 17, slots := #[.long 34], vm := .none },
  { cls := 17, slots := #[.long 35], vm := .none },
  { cls := 17, slots := #[.long 36], vm := .none },
  { cls := 17, slots := #[.long 37], vm := .none },
  { cls := 17, slots := #[.long 38], vm := .none },
  { cls := 17, slots := #[.long 39], vm := .none },
  { cls := 17, slots := #[.long 40], vm := .none },
  { cls := 17, slots := #[.long 41], vm := .none },
  { cls := 17, slots := #[.long 42], vm := .none },
  { cls := 17, slots := #[.long 43], vm := .none },
  { cls := 17, slots := #[.long 44], vm := .none },
  { cls := 17, slots := #[.long 45], vm := .none },
  { cls := 17, slots := #[.long 46], vm := .none },
  { cls := 17, slots := #[.long 47], vm := .none },
  { cls := 17, slots := #[.long 48], vm := .none },
  { cls := 17, slots := #[.long 49], vm := .none },
  { cls := 17, slots := #[.long 50], vm := .none },
  { cls := 17, slots := #[.long 51], vm := .none },
  { cls := 17, slots := #[.long 52], vm := .none },
  { cls := 17, slots := #[.long 53], vm := .none },
  { cls := 17, slots := #[.long 54], vm := .none },
  { cls := 17, slots := #[.long 55], vm := .none },
  { cls := 17, slots := #[.long 56], vm := .none },
  { cls := 17, slots := #[.long 57], vm := .none },
  { cls := 17, slots := #[.long 58], vm := .none },
  { cls := 17, slots := #[.long 59], vm := .none },
  { cls := 17, slots := #[.long 60], vm := .none },
  { cls := 17, slots := #[.long 61], vm := .none },
  { cls := 17, slots := #[.long 62], vm := .none },
  { cls := 17, slots := #[.long 63], vm := .none },
  { cls := 17, slots := #[.long 64], vm := .none },
  { cls := 17, slots := #[.long 65], vm := .none },
  { cls := 17, slots := #[.long 66], vm := .none },
  { cls := 17, slots := #[.long 67], vm := .none },
  { cls := 17, slots := #[.long 68], vm := .none },
  { cls := 17, slots := #[.long 69], vm := .none },
  { cls := 17, slots := #[.long 70], vm := .none },
  { cls := 17, slots := #[.long 71], vm := .none },
  { cls := 17, slots := #[.long 72], vm := .none },
  { cls := 17, slots := #[.long 73], vm := .none },
  { cls := 17, slots := #[.long 74], vm := .none },
  { cls := 17, slots := #[.long 75], vm := .none },
  { cls := 17, slots := #[.long 76], vm := .none },
  { cls := 17, slots := #[.long 77], vm := .none },
  { cls := 17, slots := #[.long 78], vm := .none },
  { cls := 17, slots := #[.long 79], vm := .none },
  { cls := 17, slots := #[.long 80], vm := .none },
  { cls := 17, slots := #[.long 81], vm := .none },
  { cls := 17, slots := #[.long 82], vm := .none },
  { cls := 17, slots := #[.long 83], vm := .none },
  { cls := 17, slots := #[.long 84], vm := .none },
  { cls := 17, slots := #[.long 85], vm := .none },
  { cls := 17, slots := #[.long 86], vm := .none },
  { cls := 17, slots := #[.long 87], vm := .none },
  { cls := 17, slots := #[.long 88], vm := .none },
  { cls := 17, slots := #[.long 89], vm := .none },
  { cls := 17, slots := #[.long 90], vm := .none },
  { cls := 17, slots := #[.long 91], vm := .none },
  { cls := 17, slots := #[.long 92], vm := .none },
  { cls := 17, slots := #[.long 93], vm := .none },
  { cls := 17, slots := #[.long 94], vm := .none },
  { cls := 17, slots := #[.long 95], vm := .none },
  { cls := 17, slots := #[.long 96], vm := .none },
  { cls := 17, slots := #[.long 97], vm := .none },
  { cls := 17, slots := #[.long 98], vm := .none },
  { cls := 17, slots := #[.long 99], vm := .none },
  { cls := 17, slots := #[.long 100], vm := .none },
  { cls := 17, slots := #[.long 101], vm := .none },
  { cls := 17, slots := #[.long 102], vm := .none },
  { cls := 17, slots := #[.long 103], vm := .none },
  { cls := 17, slots := #[.long 104], vm := .none },
  { cls := 17, slots := #[.long 105], vm := .none },
  { cls := 17, slots := #[.long 106], vm := .none },
  { cls := 17, slots := #[.long 107], vm := .none },
  { cls := 17, slots := #[.long 108], vm := .none },
  { cls := 17, slots := #[.long 109], vm := .none },
  { cls := 17, slots := #[.long 110], vm := .none },
  { cls := 17, slots := #[.long 111], vm := .none },
  { cls := 17, slots := #[.long 112], vm := .none },
  { cls := 17, slots := #[.long 113], vm := .none },
  { cls := 17, slots := #[.long 114], vm := .none },
  { cls := 17, slots := #[.long 115], vm := .none },
  { cls := 17, slots := #[.long 116], vm := .none },
  { cls := 17, slots := #[.long 117], vm := .none },
  { cls := 17, slots := #[.long 118], vm := .none },
  { cls := 17, slots := #[.long 119], vm := .none },
  { cls := 17, slots := #[.long 120], vm := .none },
  { cls := 17, slots := #[.long 121], vm := .none },
  { cls := 17, slots := #[.long 122], vm := .none },
  { cls := 17, slots := #[.long 123], vm := .none },
  { cls := 17, slots := #[.long 124], vm := .none },
  { cls := 17, slots := #[.long 125], vm := .none },
  { cls := 17, slots := #[.long 126], vm := .none },
  { cls := 17, slots := #[.long 127], vm := .none },
  { cls := 36, slots := #[], vm := .none },
  { cls := 36, slots := #[], vm := .none },
  { cls := 0, slots := #[], vm := .none },
  { cls := 24, slots := #[.null, .int 0], vm := .none }]
def classes : Array Class := #[k0, k1, k2, k3, k4, k5, k6, k7, k8, k9, k10, k11, k12, k13, k14, k15, k16, k17, k18, k19, k20, k21, k22, k23, k24, k25, k26, k27, k28, k29, k30, k31, k32, k33, k34, k35, k36]
def interned : List (Array UInt16 × Addr) := []
def slotsUsed : Nat := 531
def theMethod : MethodId := ⟨1, 1⟩
def args0 : Array Value := #[.int 3, .int 5, .long 7]
def aboutOver (below : List Frame) : State where
  vm := { classes := classes, interned := interned.toArray }
  heap := heap
  slotsUsed := slotsUsed
  threads := #[{ frames := .invoking theMethod args0 :: below }]
def below0 : List Frame := [.native { method := ⟨0, 0⟩, args := #[] }]
def about1 : State := aboutOver below0
def p0 : Program := .bare "" "" ""
def e0 : Env := launch0.env 0 0 0
theorem w_frames : about1.frames = Frame.invoking theMethod args0 :: below0 := rfl
set_option maxRecDepth 65536 in
theorem w_args : argsFit about1.vm theMethod args0 = true := by decide +kernel
set_option maxRecDepth 65536 in
theorem w_heap : heapFits about1 = true := by decide +kernel
set_option maxRecDepth 65536 in
theorem w_runnable : about1.curStatus? = some .runnable := by decide +kernel
set_option maxRecDepth 65536 in
theorem w_alone : about1.alone = true := by decide +kernel
set_option maxRecDepth 65536 in
theorem w_named : about1.methodNamed? x = some theMethod := by decide +kernel
set_option maxRecDepth 65536 in
theorem w_hears : about1.hears theMethod below0 = true := by decide +kernel
set_option maxRecDepth 65536 in
theorem w_ripe : about1.ripe theMethod args0 below0 = true := by decide +kernel
theorem w_running : about1.status = .running := rfl
set_option maxRecDepth 65536 in
theorem w_room : about1.hasRoom e0.platform room_1 = true :=
  launch0.hasRoom_least _ room_1 (by decide +kernel) (by decide +kernel) (by decide +kernel) (by decide +kernel) (by decide +kernel) (by decide +kernel)
theorem allAtoms_all (ts : List Jvm.Cond) (a : Array Jvm.Value) (st : Jvm.State) : (allAtoms ts).before a st = ts.all (fun c => c.before a st) := by
  induction ts with
  | nil => rfl
  | cons c t ih =>
    show (Jvm.Cond.and c (allAtoms t)).before a st = _
    rw [Jvm.Cond.before_and, ih, List.all_cons]
def words1 : List Jvm.Cond := Jvm.Cond.code x code maxLocals ret :: tables_1
/-- a 'code' word, met by the world's own term for the bytes: nothing is compared byte by byte -/
theorem code_word {y : MethodName} {bytes : ByteArray} {mx : Nat} {rt : Option FieldType} {a : Array Value} {s : State} {m : MethodId} {meth : Method} {c : Code} (h1 : s.methodNamed? y = some m) (h2 : s.vm.method? m = some meth) (h3 : meth.code = some c) (h4 : c.code = bytes)
    (h5 : (c.maxLocals == mx && c.exceptionTable.isEmpty && decide (c.maxStack ≤ mostOperands) && decide (meth.sig.returnType = rt) && !meth.locks && decide (parseMethodDescriptor y.desc = some meth.sig)) = true) : (Jvm.Cond.code y bytes mx rt).before a s = true := by
  simp only [Bool.and_eq_true, beq_iff_eq, Bool.not_eq_true', decide_eq_true_eq] at h5
  obtain ⟨⟨⟨⟨⟨g1, g2⟩, g3⟩, g4⟩, g5⟩, g6⟩ := h5
  simp [Cond.before, Cond.holds, Cond.value, h1, h2, h3, h4, g1, g2, g3, g4, g5, g6]
def isCode : Jvm.Cond → Bool
  | .code _ _ _ _ => true
  | _ => false
theorem all_split {L : List Jvm.Cond} {P : Jvm.Cond → Bool} (h1 : L.all (fun c => isCode c || P c) = true) (h2 : ∀ c ∈ L.filter isCode, P c = true) : L.all P = true := by
  refine List.all_eq_true.mpr fun c hc => ?_
  have h := List.all_eq_true.mp h1 c hc
  rcases Bool.eq_false_or_eq_true (isCode c) with hi | hi
  · exact h2 c (List.mem_filter.mpr ⟨hc, hi⟩)
  · simpa [hi] using h
set_option maxRecDepth 65536 in
theorem w_c0 : (Jvm.Cond.code x code maxLocals ret).before args0 about1 = true := code_word (m := ⟨1, 1⟩) (meth := k1m1) (c := k1c1) (by decide +kernel) rfl rfl rfl (by decide +kernel)
set_option maxRecDepth 65536 in
theorem w_c1 : (Jvm.Cond.code ({ cls := "com/example/veilrelay/veilrelay/core/derived/SmallDomain", name := "<init>", desc := "(I)V" } : Jvm.MethodName) prog_36_method_1_code (4 : Nat) (Option.none : Option Jvm.ClassFile.FieldType)).before args0 about1 = true := code_word (m := ⟨2, 0⟩) (meth := k2m0) (c := k2c0) (by decide +kernel) rfl rfl rfl (by decide +kernel)
set_option maxRecDepth 65536 in
theorem w_c2 : (Jvm.Cond.code ({ cls := "java/lang/Object", name := "<init>", desc := "()V" } : Jvm.MethodName) object_method_1_code (1 : Nat) (Option.none : Option Jvm.ClassFile.FieldType)).before args0 about1 = true := code_word (m := ⟨0, 0⟩) (meth := k0m0) (c := k0c0) (by decide +kernel) rfl rfl rfl (by decide +kernel)
set_option maxRecDepth 65536 in
theorem w_c3 : (Jvm.Cond.code ({ cls := "com/example/veilrelay/veilrelay/core/derived/SmallDomain", name := "isPrime", desc := "(J)Z" } : Jvm.MethodName) prog_36_method_13_code (4 : Nat) (Option.some Jvm.ClassFile.FieldType.boolean)).before args0 about1 = true := code_word (m := ⟨2, 2⟩) (meth := k2m2) (c := k2c2) (by decide +kernel) rfl rfl rfl (by decide +kernel)
set_option maxRecDepth 65536 in
theorem w_c4 : (Jvm.Cond.code ({ cls := "com/example/veilrelay/veilrelay/core/derived/SmallDomain", name := "primeFactors", desc := "(J)Ljava/util/List;" } : Jvm.MethodName) prog_36_method_14_code (7 : Nat) (Option.some (Jvm.ClassFile.FieldType.object "java/util/List"))).before args0 about1 = true := code_word (m := ⟨2, 3⟩) (meth := k2m3) (c := k2c3) (by decide +kernel) rfl rfl rfl (by decide +kernel)
set_option maxRecDepth 65536 in
theorem w_c5 : (Jvm.Cond.code ({ cls := "java/util/ArrayList", name := "<init>", desc := "()V" } : Jvm.MethodName) jdk_38_method_2_code (1 : Nat) (Option.none : Option Jvm.ClassFile.FieldType)).before args0 about1 = true := code_word (m := ⟨12, 0⟩) (meth := k12m0) (c := k12c0) (by decide +kernel) rfl rfl rfl (by decide +kernel)
set_option maxRecDepth 65536 in
theorem w_c6 : (Jvm.Cond.code ({ cls := "java/util/AbstractList", name := "<init>", desc := "()V" } : Jvm.MethodName) jdk_39_method_1_code (1 : Nat) (Option.none : Option Jvm.ClassFile.FieldType)).before args0 about1 = true := code_word (m := ⟨8, 0⟩) (meth := k8m0) (c := k8c0) (by decide +kernel) rfl rfl rfl (by decide +kernel)
set_option maxRecDepth 65536 in
theorem w_c7 : (Jvm.Cond.code ({ cls := "java/util/AbstractCollection", name := "<init>", desc := "()V" } : Jvm.MethodName) jdk_22_method_1_code (1 : Nat) (Option.none : Option Jvm.ClassFile.FieldType)).before args0 about1 = true := code_word (m := ⟨5, 0⟩) (meth := k5m0) (c := k5c0) (by decide +kernel) rfl rfl rfl (by decide +kernel)
set_option maxRecDepth 65536 in
theorem w_c8 : (Jvm.Cond.code ({ cls := "java/lang/Long", name := "valueOf", desc := "(J)Ljava/lang/Long;" } : Jvm.MethodName) jdk_35_method_24_code (3 : Nat) (Option.some (Jvm.ClassFile.FieldType.object "java/lang/Long"))).before args0 about1 = true := code_word (m := ⟨17, 0⟩) (meth := k17m0) (c := k17c0) (by decide +kernel) rfl rfl rfl (by decide +kernel)
set_option maxRecDepth 65536 in
theorem w_c9 : (Jvm.Cond.code ({ cls := "java/util/ArrayList", name := "add", desc := "(Ljava/lang/Object;)Z" } : Jvm.MethodName) jdk_38_method_25_code (2 : Nat) (Option.some Jvm.ClassFile.FieldType.boolean)).before args0 about1 = true := code_word (m := ⟨12, 6⟩) (meth := k12m6) (c := k12c6) (by decide +kernel) rfl rfl rfl (by decide +kernel)
set_option maxRecDepth 65536 in
theorem w_c10 : (Jvm.Cond.code ({ cls := "java/util/ArrayList", name := "add", desc := "(Ljava/lang/Object;[Ljava/lang/Object;I)V" } : Jvm.MethodName) jdk_38_method_24_code (4 : Nat) (Option.none : Option Jvm.ClassFile.FieldType)).before args0 about1 = true := code_word (m := ⟨12, 5⟩) (meth := k12m5) (c := k12c5) (by decide +kernel) rfl rfl rfl (by decide +kernel)
set_option maxRecDepth 65536 in
theorem w_c11 : (Jvm.Cond.code ({ cls := "java/util/ArrayList", name := "grow", desc := "()[Ljava/lang/Object;" } : Jvm.MethodName) jdk_38_method_7_code (1 : Nat) (Option.some (Jvm.ClassFile.FieldType.array (Jvm.ClassFile.FieldType.object "java/lang/Object")))).before args0 about1 = true := code_word (m := ⟨12, 2⟩) (meth := k12m2) (c := k12c2) (by decide +kernel) rfl rfl rfl (by decide +kernel)
set_option maxRecDepth 65536 in
theorem w_c12 : (Jvm.Cond.code ({ cls := "java/util/ArrayList", name := "grow", desc := "(I)[Ljava/lang/Object;" } : Jvm.MethodName) jdk_38_method_6_code (4 : Nat) (Option.some (Jvm.ClassFile.FieldType.array (Jvm.ClassFile.FieldType.object "java/lang/Object")))).before args0 about1 = true := code_word (m := ⟨12, 1⟩) (meth := k12m1) (c := k12c1) (by decide +kernel) rfl rfl rfl (by decide +kernel)
set_option maxRecDepth 65536 in
theorem w_c13 : (Jvm.Cond.code ({ cls := "java/lang/Math", name := "max", desc := "(II)I" } : Jvm.MethodName) jdk_29_method_65_code (2 : Nat) (Option.some Jvm.ClassFile.FieldType.int)).before args0 about1 = true := code_word (m := ⟨19, 1⟩) (meth := k19m1) (c := k19c1) (by decide +kernel) rfl rfl rfl (by decide +kernel)
set_option maxRecDepth 65536 in
theorem w_c14 : (Jvm.Cond.code ({ cls := "java/util/List", name := "copyOf", desc := "(Ljava/util/Collection;)Ljava/util/List;" } : Jvm.MethodName) jdk_40_method_48_code (1 : Nat) (Option.some (Jvm.ClassFile.FieldType.object "java/util/List"))).before args0 about1 = true := code_word (m := ⟨7, 2⟩) (meth := k7m2) (c := k7c2) (by decide +kernel) rfl rfl rfl (by decide +kernel)
set_option maxRecDepth 65536 in
theorem w_c15 : (Jvm.Cond.code ({ cls := "java/util/ImmutableCollections", name := "listCopy", desc := "(Ljava/util/Collection;)Ljava/util/List;" } : Jvm.MethodName) jdk_56_method_3_code (2 : Nat) (Option.some (Jvm.ClassFile.FieldType.object "java/util/List"))).before args0 about1 = true := code_word (m := ⟨20, 1⟩) (meth := k20m1) (c := k20c1) (by decide +kernel) rfl rfl rfl (by decide +kernel)
set_option maxRecDepth 65536 in
theorem w_c16 : (Jvm.Cond.code ({ cls := "java/util/ArrayList", name := "isEmpty", desc := "()Z" } : Jvm.MethodName) jdk_38_method_9_code (1 : Nat) (Option.some Jvm.ClassFile.FieldType.boolean)).before args0 about1 = true := code_word (m := ⟨12, 3⟩) (meth := k12m3) (c := k12c3) (by decide +kernel) rfl rfl rfl (by decide +kernel)
set_option maxRecDepth 65536 in
theorem w_c17 : (Jvm.Cond.code ({ cls := "java/util/ArrayList", name := "toArray", desc := "()[Ljava/lang/Object;" } : Jvm.MethodName) jdk_38_method_16_code (1 : Nat) (Option.some (Jvm.ClassFile.FieldType.array (Jvm.ClassFile.FieldType.object "java/lang/Object")))).before args0 about1 = true := code_word (m := ⟨12, 4⟩) (meth := k12m4) (c := k12c4) (by decide +kernel) rfl rfl rfl (by decide +kernel)
set_option maxRecDepth 65536 in
theorem w_c18 : (Jvm.Cond.code ({ cls := "java/util/Arrays", name := "copyOf", desc := "([Ljava/lang/Object;I)[Ljava/lang/Object;" } : Jvm.MethodName) jdk_65_method_119_code (2 : Nat) (Option.some (Jvm.ClassFile.FieldType.array (Jvm.ClassFile.FieldType.object "java/lang/Object")))).before args0 about1 = true := code_word (m := ⟨25, 1⟩) (meth := k25m1) (c := k25c1) (by decide +kernel) rfl rfl rfl (by decide +kernel)
set_option maxRecDepth 65536 in
theorem w_c19 : (Jvm.Cond.code ({ cls := "java/util/Arrays", name := "copyOf", desc := "([Ljava/lang/Object;ILjava/lang/Class;)[Ljava/lang/Object;" } : Jvm.MethodName) jdk_65_method_120_code (4 : Nat) (Option.some (Jvm.ClassFile.FieldType.array (Jvm.ClassFile.FieldType.object "java/lang/Object")))).before args0 about1 = true := code_word (m := ⟨25, 2⟩) (meth := k25m2) (c := k25c2) (by decide +kernel) rfl rfl rfl (by decide +kernel)
set_option maxRecDepth 65536 in
theorem w_c20 : (Jvm.Cond.code ({ cls := "java/lang/Math", name := "min", desc := "(II)I" } : Jvm.MethodName) jdk_29_method_69_code (2 : Nat) (Option.some Jvm.ClassFile.FieldType.int)).before args0 about1 = true := code_word (m := ⟨19, 2⟩) (meth := k19m2) (c := k19c2) (by decide +kernel) rfl rfl rfl (by decide +kernel)
set_option maxRecDepth 65536 in
theorem w_c21 : (Jvm.Cond.code ({ cls := "java/util/List", name := "of", desc := "([Ljava/lang/Object;)Ljava/util/List;" } : Jvm.MethodName) jdk_40_method_47_code (2 : Nat) (Option.some (Jvm.ClassFile.FieldType.object "java/util/List"))).before args0 about1 = true := code_word (m := ⟨7, 1⟩) (meth := k7m1) (c := k7c1) (by decide +kernel) rfl rfl rfl (by decide +kernel)
set_option maxRecDepth 65536 in
theorem w_c22 : (Jvm.Cond.code ({ cls := "java/util/ImmutableCollections$List12", name := "<init>", desc := "(Ljava/lang/Object;)V" } : Jvm.MethodName) jdk_44_method_1_code (2 : Nat) (Option.none : Option Jvm.ClassFile.FieldType)).before args0 about1 = true := code_word (m := ⟨23, 0⟩) (meth := k23m0) (c := k23c0) (by decide +kernel) rfl rfl rfl (by decide +kernel)
set_option maxRecDepth 65536 in
theorem w_c23 : (Jvm.Cond.code ({ cls := "java/util/ImmutableCollections$AbstractImmutableList", name := "<init>", desc := "()V" } : Jvm.MethodName) jdk_46_method_1_code (1 : Nat) (Option.none : Option Jvm.ClassFile.FieldType)).before args0 about1 = true := code_word (m := ⟨22, 0⟩) (meth := k22m0) (c := k22c0) (by decide +kernel) rfl rfl rfl (by decide +kernel)
set_option maxRecDepth 65536 in
theorem w_c24 : (Jvm.Cond.code ({ cls := "java/util/ImmutableCollections$AbstractImmutableCollection", name := "<init>", desc := "()V" } : Jvm.MethodName) jdk_47_method_1_code (1 : Nat) (Option.none : Option Jvm.ClassFile.FieldType)).before args0 about1 = true := code_word (m := ⟨21, 0⟩) (meth := k21m0) (c := k21c0) (by decide +kernel) rfl rfl rfl (by decide +kernel)
set_option maxRecDepth 65536 in
theorem w_c25 : (Jvm.Cond.code ({ cls := "java/util/Objects", name := "requireNonNull", desc := "(Ljava/lang/Object;)Ljava/lang/Object;" } : Jvm.MethodName) jdk_31_method_10_code (1 : Nat) (Option.some (Jvm.ClassFile.FieldType.object "java/lang/Object"))).before args0 about1 = true := code_word (m := ⟨27, 1⟩) (meth := k27m1) (c := k27c1) (by decide +kernel) rfl rfl rfl (by decide +kernel)
set_option maxRecDepth 65536 in
theorem w_c26 : (Jvm.Cond.code ({ cls := "com/example/veilrelay/veilrelay/core/derived/SmallDomain", name := "isId", desc := "(J)Z" } : Jvm.MethodName) prog_36_method_5_code (3 : Nat) (Option.some Jvm.ClassFile.FieldType.boolean)).before args0 about1 = true := code_word (m := ⟨2, 1⟩) (meth := k2m1) (c := k2c1) (by decide +kernel) rfl rfl rfl (by decide +kernel)
set_option maxRecDepth 65536 in
theorem w_c27 : (Jvm.Cond.code ({ cls := "java/util/ImmutableCollections", name := "listFromArray", desc := "([Ljava/lang/Object;)Ljava/util/List;" } : Jvm.MethodName) jdk_56_method_4_code (3 : Nat) (Option.some (Jvm.ClassFile.FieldType.object "java/util/List"))).before args0 about1 = true := code_word (m := ⟨20, 2⟩) (meth := k20m2) (c := k20c2) (by decide +kernel) rfl rfl rfl (by decide +kernel)
set_option maxRecDepth 65536 in
theorem w_c28 : (Jvm.Cond.code ({ cls := "java/util/ImmutableCollections$ListN", name := "<init>", desc := "([Ljava/lang/Object;Z)V" } : Jvm.MethodName) jdk_45_method_1_code (3 : Nat) (Option.none : Option Jvm.ClassFile.FieldType)).before args0 about1 = true := code_word (m := ⟨24, 0⟩) (meth := k24m0) (c := k24c0) (by decide +kernel) rfl rfl rfl (by decide +kernel)
set_option maxRecDepth 65536 in
theorem w_c29 : (Jvm.Cond.code ({ cls := "java/util/ImmutableCollections$List12", name := "<init>", desc := "(Ljava/lang/Object;Ljava/lang/Object;)V" } : Jvm.MethodName) jdk_44_method_2_code (3 : Nat) (Option.none : Option Jvm.ClassFile.FieldType)).before args0 about1 = true := code_word (m := ⟨23, 1⟩) (meth := k23m1) (c := k23c1) (by decide +kernel) rfl rfl rfl (by decide +kernel)
def codes1 : List Jvm.Cond := [Jvm.Cond.code x code maxLocals ret, Jvm.Cond.code ({ cls := "com/example/veilrelay/veilrelay/core/derived/SmallDomain", name := "<init>", desc := "(I)V" } : Jvm.MethodName) prog_36_method_1_code (4 : Nat) (Option.none : Option Jvm.ClassFile.FieldType), Jvm.Cond.code ({ cls := "java/lang/Object", name := "<init>", desc := "()V" } : Jvm.MethodName) object_method_1_code (1 : Nat) (Option.none : Option Jvm.ClassFile.FieldType), Jvm.Cond.code ({ cls := "com/example/veilrelay/veilrelay/core/derived/SmallDomain", name := "isPrime", desc := "(J)Z" } : Jvm.MethodName) prog_36_method_13_code (4 : Nat) (Option.some Jvm.ClassFile.FieldType.boolean), Jvm.Cond.code ({ cls := "com/example/veilrelay/veilrelay/core/derived/SmallDomain", name := "primeFactors", desc := "(J)Ljava/util/List;" } : Jvm.MethodName) prog_36_method_14_code (7 : Nat) (Option.some (Jvm.ClassFile.FieldType.object "java/util/List")), Jvm.Cond.code ({ cls := "java/util/ArrayList", name := "<init>", desc := "()V" } : Jvm.MethodName) jdk_38_method_2_code (1 : Nat) (Option.none : Option Jvm.ClassFile.FieldType), Jvm.Cond.code ({ cls := "java/util/AbstractList", name := "<init>", desc := "()V" } : Jvm.MethodName) jdk_39_method_1_code (1 : Nat) (Option.none : Option Jvm.ClassFile.FieldType), Jvm.Cond.code ({ cls := "java/util/AbstractCollection", name := "<init>", desc := "()V" } : Jvm.MethodName) jdk_22_method_1_code (1 : Nat) (Option.none : Option Jvm.ClassFile.FieldType), Jvm.Cond.code ({ cls := "java/lang/Long", name := "valueOf", desc := "(J)Ljava/lang/Long;" } : Jvm.MethodName) jdk_35_method_24_code (3 : Nat) (Option.some (Jvm.ClassFile.FieldType.object "java/lang/Long")), Jvm.Cond.code ({ cls := "java/util/ArrayList", name := "add", desc := "(Ljava/lang/Object;)Z" } : Jvm.MethodName) jdk_38_method_25_code (2 : Nat) (Option.some Jvm.ClassFile.FieldType.boolean), Jvm.Cond.code ({ cls := "java/util/ArrayList", name := "add", desc := "(Ljava/lang/Object;[Ljava/lang/Object;I)V" } : Jvm.MethodName) jdk_38_method_24_code (4 : Nat) (Option.none : Option Jvm.ClassFile.FieldType), Jvm.Cond.code ({ cls := "java/util/ArrayList", name := "grow", desc := "()[Ljava/lang/Object;" } : Jvm.MethodName) jdk_38_method_7_code (1 : Nat) (Option.some (Jvm.ClassFile.FieldType.array (Jvm.ClassFile.FieldType.object "java/lang/Object"))), Jvm.Cond.code ({ cls := "java/util/ArrayList", name := "grow", desc := "(I)[Ljava/lang/Object;" } : Jvm.MethodName) jdk_38_method_6_code (4 : Nat) (Option.some (Jvm.ClassFile.FieldType.array (Jvm.ClassFile.FieldType.object "java/lang/Object"))), Jvm.Cond.code ({ cls := "java/lang/Math", name := "max", desc := "(II)I" } : Jvm.MethodName) jdk_29_method_65_code (2 : Nat) (Option.some Jvm.ClassFile.FieldType.int), Jvm.Cond.code ({ cls := "java/util/List", name := "copyOf", desc := "(Ljava/util/Collection;)Ljava/util/List;" } : Jvm.MethodName) jdk_40_method_48_code (1 : Nat) (Option.some (Jvm.ClassFile.FieldType.object "java/util/List")), Jvm.Cond.code ({ cls := "java/util/ImmutableCollections", name := "listCopy", desc := "(Ljava/util/Collection;)Ljava/util/List;" } : Jvm.MethodName) jdk_56_method_3_code (2 : Nat) (Option.some (Jvm.ClassFile.FieldType.object "java/util/List")), Jvm.Cond.code ({ cls := "java/util/ArrayList", name := "isEmpty", desc := "()Z" } : Jvm.MethodName) jdk_38_method_9_code (1 : Nat) (Option.some Jvm.ClassFile.FieldType.boolean), Jvm.Cond.code ({ cls := "java/util/ArrayList", name := "toArray", desc := "()[Ljava/lang/Object;" } : Jvm.MethodName) jdk_38_method_16_code (1 : Nat) (Option.some (Jvm.ClassFile.FieldType.array (Jvm.ClassFile.FieldType.object "java/lang/Object"))), Jvm.Cond.code ({ cls := "java/util/Arrays", name := "copyOf", desc := "([Ljava/lang/Object;I)[Ljava/lang/Object;" } : Jvm.MethodName) jdk_65_method_119_code (2 : Nat) (Option.some (Jvm.ClassFile.FieldType.array (Jvm.ClassFile.FieldType.object "java/lang/Object"))), Jvm.Cond.code ({ cls := "java/util/Arrays", name := "copyOf", desc := "([Ljava/lang/Object;ILjava/lang/Class;)[Ljava/lang/Object;" } : Jvm.MethodName) jdk_65_method_120_code (4 : Nat) (Option.some (Jvm.ClassFile.FieldType.array (Jvm.ClassFile.FieldType.object "java/lang/Object"))), Jvm.Cond.code ({ cls := "java/lang/Math", name := "min", desc := "(II)I" } : Jvm.MethodName) jdk_29_method_69_code (2 : Nat) (Option.some Jvm.ClassFile.FieldType.int), Jvm.Cond.code ({ cls := "java/util/List", name := "of", desc := "([Ljava/lang/Object;)Ljava/util/List;" } : Jvm.MethodName) jdk_40_method_47_code (2 : Nat) (Option.some (Jvm.ClassFile.FieldType.object "java/util/List")), Jvm.Cond.code ({ cls := "java/util/ImmutableCollections$List12", name := "<init>", desc := "(Ljava/lang/Object;)V" } : Jvm.MethodName) jdk_44_method_1_code (2 : Nat) (Option.none : Option Jvm.ClassFile.FieldType), Jvm.Cond.code ({ cls := "java/util/ImmutableCollections$AbstractImmutableList", name := "<init>", desc := "()V" } : Jvm.MethodName) jdk_46_method_1_code (1 : Nat) (Option.none : Option Jvm.ClassFile.FieldType), Jvm.Cond.code ({ cls := "java/util/ImmutableCollections$AbstractImmutableCollection", name := "<init>", desc := "()V" } : Jvm.MethodName) jdk_47_method_1_code (1 : Nat) (Option.none : Option Jvm.ClassFile.FieldType), Jvm.Cond.code ({ cls := "java/util/Objects", name := "requireNonNull", desc := "(Ljava/lang/Object;)Ljava/lang/Object;" } : Jvm.MethodName) jdk_31_method_10_code (1 : Nat) (Option.some (Jvm.ClassFile.FieldType.object "java/lang/Object")), Jvm.Cond.code ({ cls := "com/example/veilrelay/veilrelay/core/derived/SmallDomain", name := "isId", desc := "(J)Z" } : Jvm.MethodName) prog_36_method_5_code (3 : Nat) (Option.some Jvm.ClassFile.FieldType.boolean), Jvm.Cond.code ({ cls := "java/util/ImmutableCollections", name := "listFromArray", desc := "([Ljava/lang/Object;)Ljava/util/List;" } : Jvm.MethodName) jdk_56_method_4_code (3 : Nat) (Option.some (Jvm.ClassFile.FieldType.object "java/util/List")), Jvm.Cond.code ({ cls := "java/util/ImmutableCollections$ListN", name := "<init>", desc := "([Ljava/lang/Object;Z)V" } : Jvm.MethodName) jdk_45_method_1_code (3 : Nat) (Option.none : Option Jvm.ClassFile.FieldType), Jvm.Cond.code ({ cls := "java/util/ImmutableCollections$List12", name := "<init>", desc := "(Ljava/lang/Object;Ljava/lang/Object;)V" } : Jvm.MethodName) jdk_44_method_2_code (3 : Nat) (Option.none : Option Jvm.ClassFile.FieldType)]
set_option maxRecDepth 65536 in
theorem codes_eq : words1.filter isCode = codes1 := rfl
theorem w_codes : ∀ c ∈ words1.filter isCode, c.before args0 about1 = true := by
  rw [codes_eq]
  intro c hc
  simp only [codes1, List.mem_cons, List.not_mem_nil, or_false] at hc
  rcases hc with rfl | rfl | rfl | rfl | rfl | rfl | rfl | rfl | rfl | rfl | rfl | rfl | rfl | rfl | rfl | rfl | rfl | rfl | rfl | rfl | rfl | rfl | rfl | rfl | rfl | rfl | rfl | rfl | rfl | rfl
  · exact w_c0
  · exact w_c1
  · exact w_c2
  · exact w_c3
  · exact w_c4
  · exact w_c5
  · exact w_c6
  · exact w_c7
  · exact w_c8
  · exact w_c9
  · exact w_c10
  · exact w_c11
  · exact w_c12
  · exact w_c13
  · exact w_c14
  · exact w_c15
  · exact w_c16
  · exact w_c17
  · exact w_c18
  · exact w_c19
  · exact w_c20
  · exact w_c21
  · exact w_c22
  · exact w_c23
  · exact w_c24
  · exact w_c25
  · exact w_c26
  · exact w_c27
  · exact w_c28
  · exact w_c29
set_option maxRecDepth 65536 in
theorem w_t1 : (words1.take 24).all (fun c => isCode c || c.before args0 about1) = true := by decide +kernel
set_option maxRecDepth 65536 in
theorem w_t2 : ((words1.drop 24).take 24).all (fun c => isCode c || c.before args0 about1) = true := by decide +kernel
set_option maxRecDepth 65536 in
theorem w_t3 : (((words1.drop 24).drop 24).take 24).all (fun c => isCode c || c.before args0 about1) = true := by decide +kernel
set_option maxRecDepth 65536 in
theorem w_t4 : ((((words1.drop 24).drop 24).drop 24).take 24).all (fun c => isCode c || c.before args0 about1) = true := by decide +kernel
set_option maxRecDepth 65536 in
theorem w_t5 : (((((words1.drop 24).drop 24).drop 24).drop 24).take 24).all (fun c => isCode c || c.before args0 about1) = true := by decide +kernel
set_option maxRecDepth 65536 in
theorem w_t6 : ((((((words1.drop 24).drop 24).drop 24).drop 24).drop 24).take 24).all (fun c => isCode c || c.before args0 about1) = true := by decide +kernel
set_option maxRecDepth 65536 in
theorem w_t7 : (((((((words1.drop 24).drop 24).drop 24).drop 24).drop 24).drop 24).take 24).all (fun c => isCode c || c.before args0 about1) = true := by decide +kernel
set_option maxRecDepth 65536 in
theorem w_t8 : ((((((((words1.drop 24).drop 24).drop 24).drop 24).drop 24).drop 24).drop 24).take 24).all (fun c => isCode c || c.before args0 about1) = true := by decide +kernel
set_option maxRecDepth 65536 in
theorem w_t9 : ((((((((words1.drop 24).drop 24).drop 24).drop 24).drop 24).drop 24).drop 24).drop 24).all (fun c => isCode c || c.before args0 about1) = true := by decide +kernel
theorem w_tables : (allAtoms (Jvm.Cond.code x code maxLocals ret :: tables_1)).before args0 about1 = true := by
  rw [allAtoms_all]
  show words1.all (fun c => c.before args0 about1) = true
  refine all_split ?_ w_codes
  rw [← List.take_append_drop 24 words1, List.all_append, w_t1, ← List.take_append_drop 24 (words1.drop 24), List.all_append, w_t2, ← List.take_append_drop 24 ((words1.drop 24).drop 24), List.all_append, w_t3, ← List.take_append_drop 24 (((words1.drop 24).drop 24).drop 24), List.all_append, w_t4, ← List.take_append_drop 24 ((((words1.drop 24).drop 24).drop 24).drop 24), List.all_append, w_t5, ← List.take_append_drop 24 (((((words1.drop 24).drop 24).drop 24).drop 24).drop 24), List.all_append, w_t6, ← List.take_append_drop 24 ((((((words1.drop 24).drop 24).drop 24).drop 24).drop 24).drop 24), List.all_append, w_t7, ← List.take_append_drop 24 (((((((words1.drop 24).drop 24).drop 24).drop 24).drop 24).drop 24).drop 24), List.all_append, w_t8, w_t9]
  rfl
set_option maxRecDepth 65536 in
theorem w_rest : rest_1_c.before args0 about1 = true := by decide +kernel
set_option maxRecDepth 65536 in
theorem w_case : (Jvm.Cond.and given_1 narrow_1).before args0 about1 = true := by decide +kernel
theorem w_applies : (headSpec (Jvm.Cond.code x code maxLocals ret :: tables_1) room_1).applies x e0.platform about1 = true :=
  (Spec.applies_iff w_frames).mpr ⟨w_running, w_runnable, w_alone, w_named, w_hears, w_ripe, w_room, w_tables⟩
set_option maxRecDepth 65536 in
theorem atStart : AtStart classFile x code maxLocals ret World_1 tables_1 room_1 Calls_1 rest_1 Pre_1 launch0 p0 e0 about1 theMethod args0 below0 :=
  ⟨lists_1, trivial, launch0.admits_env _ _ _, launch0.least_env, fairChoices_fair.cas, fairChoices_fair.clock, w_frames, w_args, w_heap, w_applies, ⟨⟨36, k36, 3, by decide +kernel, rfl, rfl, _, rfl, rfl⟩, trivial⟩, w_rest, w_case⟩
end start1
theorem witness_1 : WitnessClaimed_1 := ⟨start1.p0, start1.e0, start1.about1, start1.theMethod, start1.args0, start1.below0, start1.atStart⟩
end Jvm.Pilot.@@N@@
