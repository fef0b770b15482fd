import JvmDerived
import JvmDerived.Pilot.@@N@@Statement
import JvmDerived.Pilot.@@N@@Code
set_option linter.unusedVariables false
set_option linter.unusedSimpArgs false
namespace Jvm.Own
open Jvm Jvm.ClassFile Sem Op Lib Jvm.Free Jvm.Stand Jvm.LawKit Jvm.RoadKit
def b2i (b : Bool) : Int32 := if b then 1 else 0
theorem wd {ws : List Jvm.Cond} {a0 : Array Value} {Z : State} (hw : ∀ d ∈ ws, d.before a0 Z = true) (i : Nat) {d : Jvm.Cond} (h : ws[i]? = some d) : d.before a0 Z = true := hw d (List.mem_of_getElem? h)
/-- a contract of a body: from the heap h with these arguments it returns, writes nothing below n0, and Q holds of what it returns and of the heap -/
def Met (l : Launch) (Z : State) (y : MethodName) (bytes : ByteArray) (maxL : Nat) (ret : Option FieldType) (rm : Room) (as' : Array Value) (h : Heap) (n0 : Nat) (Q : Option Value → Heap → Prop) : Prop :=
  ∀ ws, MetFree l y (head1 (Jvm.Cond.code y bytes maxL ret :: ws) rm) (fun a U => a = as' ∧ Z.Warmed39 U.vm ∧ U.heap = h) (fun _ _ _ _ _ => True) (fun _ U o U' => ∃ v L, o = .returned v ∧ (Fr n0 L ∧ Q v U'.heap) ∧ FrameEnd U o U' L rm.cells rm.slots)
def Cx (p : Program) (s : State) (m : MethodId) (meth : Method) (c : Code) (Z : State) (y : MethodName) (bytes : ByteArray) (maxL : Nat) (ret : Option FieldType) : Prop :=
  p.tables.exec = Jvm.exec ∧ Z.Warmed39 s.vm ∧ s.vm.findClass y.cls = some m.cls ∧ meth.name = y.name ∧ c.code = bytes ∧ c.maxLocals = maxL ∧ meth.sig.returnType = ret ∧ meth.locks = false
def Go (p : Program) (l : Launch) (e : Env) (R : Room) (s : State) (m : MethodId) (args : Array Value) (below : List Frame) (meth : Method) (c : Code) (n0 : Nat) (Q : Option Value → Heap → Prop) (cells slots : Nat) (h : Heap) (f : JFrame) : Prop :=
  ∀ T locs, Stand p l e R s m args below meth c T locs cells slots → Fr n0 locs → T.heap = h → ∃ t o, Steps p.tables e below (T.setTop f) t ∧ t.status = .running ∧ Ended t below o ∧ ∃ v L, o = .returned v ∧ (Fr n0 L ∧ Q v t.heap) ∧ FrameEnd s o t L R.cells R.slots
section
variable {p : Program} {l : Launch} {e : Env} {R : Room} {s : State} {m : MethodId} {args : Array Value} {below : List Frame} {meth : Method} {c : Code} {Z : State} {y : MethodName} {bytes : ByteArray} {maxL : Nat} {ret : Option FieldType} {n0 : Nat} {Q : Option Value → Heap → Prop} {cells slots : Nat} {h : Heap} {pc n n' : Nat} {Ls : Array Slot} {st : List Value} {a0 : Array Value}
theorem Cx.x (C : Cx p s m meth c Z y bytes maxL ret) : p.tables.exec = Jvm.exec := C.1
theorem Cx.z (C : Cx p s m meth c Z y bytes maxL ret) : Z.Warmed39 s.vm := C.2.1
theorem Cx.own (C : Cx p s m meth c Z y bytes maxL ret) : s.vm.findClass y.cls = some m.cls := C.2.2.1
theorem Cx.nm (C : Cx p s m meth c Z y bytes maxL ret) : meth.name = y.name := C.2.2.2.1
theorem Cx.by (C : Cx p s m meth c Z y bytes maxL ret) : c.code = bytes := C.2.2.2.2.1
theorem Cx.ml (C : Cx p s m meth c Z y bytes maxL ret) : c.maxLocals = maxL := C.2.2.2.2.2.1
theorem Cx.rt (C : Cx p s m meth c Z y bytes maxL ret) : meth.sig.returnType = ret := C.2.2.2.2.2.2.1
theorem Cx.locks (C : Cx p s m meth c Z y bytes maxL ret) : meth.locks = false := C.2.2.2.2.2.2.2
theorem Met.of {rm : Room} {as' : Array Value} {Ls0 : Array Slot} (hp : plainFor y = true) (he : ∀ m, entryFrame m as' maxL = mkF m 0 Ls0 [])
    (body : ∀ p e s m args below meth c, Cx p s m meth c Z y bytes maxL ret → Go p l e rm s m args below meth c n0 Q 0 0 h (mkF m 0 Ls0 [])) : Met l Z y bytes maxL ret rm as' h n0 Q := by
  intro ws
  refine MetFree.of_bodySF hp hisR ?_
  intro p e s m args below meth c s₁ Bd hml0 hP hK
  obtain ⟨rfl, hZ, hh⟩ := hP
  have C : Cx p s m meth c Z y bytes maxL ret := ⟨Bd.exec, hZ, findClass_of_methodNamed Bd.named, (name_of_methodNamed Bd.named Bd.method).1, Bd.bytes, hml0, Bd.returns, Bd.notSynchronized⟩
  have X0 : Stand p l e rm s m args below meth c s₁ [] 0 0 := Stand.of_body Bd
  have e0 : s₁.heap = h := by rw [← hh, Bd.state]; rfl
  obtain ⟨t, o, st, r⟩ := body p e s m args below meth c C s₁ [] X0 (Fr.nil n0) e0
  exact ⟨t, o, castTop (he m) st, r⟩
theorem Met.weaken {rm : Room} {as' : Array Value} {Q' : Option Value → Heap → Prop} (M : Met l Z y bytes maxL ret rm as' h n0 Q) (q : ∀ v h', Q v h' → Q' v h') : Met l Z y bytes maxL ret rm as' h n0 Q' := by
  intro ws p e ha hc hk s m args below hf happ hP hK
  obtain ⟨n, o, h1, h2, h3, v, L, h4, h5, h6⟩ := M ws p e ha hc hk s m args below hf happ hP hK
  exact ⟨n, o, h1, h2, h3, v, L, h4, ⟨h5.1, q _ _ h5.2⟩, h6⟩
theorem Go.via {f f' : JFrame} (hs : ∀ T locs, Stand p l e R s m args below meth c T locs cells slots → T.heap = h → ∀ t, Steps p.tables e below (T.setTop f') t → Steps p.tables e below (T.setTop f) t)
    (k : Go p l e R s m args below meth c n0 Q cells slots h f') : Go p l e R s m args below meth c n0 Q cells slots h f := fun T locs X N q => by
  obtain ⟨t, o, st, r⟩ := k T locs X N q
  exact ⟨t, o, hs T locs X q t st, r⟩
theorem Go.mono {f : JFrame} {cells' slots' : Nat} (h1 : cells ≤ cells') (h2 : slots ≤ slots') (k : Go p l e R s m args below meth c n0 Q cells' slots' h f) : Go p l e R s m args below meth c n0 Q cells slots h f := fun T locs X N q =>
  k T locs ⟨X.admits, X.cas, X.clock, X.frames, X.room, X.hears, X.method, X.code, X.here, X.tail, X.warmed, X.limits, X.bytes, X.same.mono h1 h2⟩ N q
theorem Go.cast {f f' : JFrame} (q : f = f') (k : Go p l e R s m args below meth c n0 Q cells slots h f') : Go p l e R s m args below meth c n0 Q cells slots h f := q ▸ k

theorem G.iadd (C : Cx p s m meth c Z y bytes maxL ret) {x1 x2 : Int32} (hd : decode bytes pc = .ok (.iadd, 1))  (hn : pc + 1 = n) (k : Go p l e R s m args below meth c n0 Q cells slots h (mkF m n Ls (.int (x1 + x2) :: st))) : Go p l e R s m args below meth c n0 Q cells slots h (mkF m pc Ls (.int x2 :: .int x1 :: st)) := by
  subst hn
  exact Go.via (fun T locs X _ t q => XS.iadd X.here C.x rfl (hb C.by hd) rfl q) k
theorem G.isub (C : Cx p s m meth c Z y bytes maxL ret) {x1 x2 : Int32} (hd : decode bytes pc = .ok (.isub, 1))  (hn : pc + 1 = n) (k : Go p l e R s m args below meth c n0 Q cells slots h (mkF m n Ls (.int (x1 - x2) :: st))) : Go p l e R s m args below meth c n0 Q cells slots h (mkF m pc Ls (.int x2 :: .int x1 :: st)) := by
  subst hn
  exact Go.via (fun T locs X _ t q => XS.isub X.here C.x rfl (hb C.by hd) rfl q) k
theorem G.imul (C : Cx p s m meth c Z y bytes maxL ret) {x1 x2 : Int32} (hd : decode bytes pc = .ok (.imul, 1))  (hn : pc + 1 = n) (k : Go p l e R s m args below meth c n0 Q cells slots h (mkF m n Ls (.int (x1 * x2) :: st))) : Go p l e R s m args below meth c n0 Q cells slots h (mkF m pc Ls (.int x2 :: .int x1 :: st)) := by
  subst hn
  exact Go.via (fun T locs X _ t q => XS.imul X.here C.x rfl (hb C.by hd) rfl q) k
theorem G.iand (C : Cx p s m meth c Z y bytes maxL ret) {x1 x2 : Int32} (hd : decode bytes pc = .ok (.iand, 1))  (hn : pc + 1 = n) (k : Go p l e R s m args below meth c n0 Q cells slots h (mkF m n Ls (.int (x1 &&& x2) :: st))) : Go p l e R s m args below meth c n0 Q cells slots h (mkF m pc Ls (.int x2 :: .int x1 :: st)) := by
  subst hn
  exact Go.via (fun T locs X _ t q => XS.iand X.here C.x rfl (hb C.by hd) rfl q) k
theorem G.ior (C : Cx p s m meth c Z y bytes maxL ret) {x1 x2 : Int32} (hd : decode bytes pc = .ok (.ior, 1))  (hn : pc + 1 = n) (k : Go p l e R s m args below meth c n0 Q cells slots h (mkF m n Ls (.int (x1 ||| x2) :: st))) : Go p l e R s m args below meth c n0 Q cells slots h (mkF m pc Ls (.int x2 :: .int x1 :: st)) := by
  subst hn
  exact Go.via (fun T locs X _ t q => XS.ior X.here C.x rfl (hb C.by hd) rfl q) k
theorem G.ixor (C : Cx p s m meth c Z y bytes maxL ret) {x1 x2 : Int32} (hd : decode bytes pc = .ok (.ixor, 1))  (hn : pc + 1 = n) (k : Go p l e R s m args below meth c n0 Q cells slots h (mkF m n Ls (.int (x1 ^^^ x2) :: st))) : Go p l e R s m args below meth c n0 Q cells slots h (mkF m pc Ls (.int x2 :: .int x1 :: st)) := by
  subst hn
  exact Go.via (fun T locs X _ t q => XS.ixor X.here C.x rfl (hb C.by hd) rfl q) k
theorem G.ladd (C : Cx p s m meth c Z y bytes maxL ret) {x1 x2 : Int64} (hd : decode bytes pc = .ok (.ladd, 1))  (hn : pc + 1 = n) (k : Go p l e R s m args below meth c n0 Q cells slots h (mkF m n Ls (.long (x1 + x2) :: st))) : Go p l e R s m args below meth c n0 Q cells slots h (mkF m pc Ls (.long x2 :: .long x1 :: st)) := by
  subst hn
  exact Go.via (fun T locs X _ t q => XS.ladd X.here C.x rfl (hb C.by hd) rfl q) k
theorem G.lsub (C : Cx p s m meth c Z y bytes maxL ret) {x1 x2 : Int64} (hd : decode bytes pc = .ok (.lsub, 1))  (hn : pc + 1 = n) (k : Go p l e R s m args below meth c n0 Q cells slots h (mkF m n Ls (.long (x1 - x2) :: st))) : Go p l e R s m args below meth c n0 Q cells slots h (mkF m pc Ls (.long x2 :: .long x1 :: st)) := by
  subst hn
  exact Go.via (fun T locs X _ t q => XS.lsub X.here C.x rfl (hb C.by hd) rfl q) k
theorem G.lmul (C : Cx p s m meth c Z y bytes maxL ret) {x1 x2 : Int64} (hd : decode bytes pc = .ok (.lmul, 1))  (hn : pc + 1 = n) (k : Go p l e R s m args below meth c n0 Q cells slots h (mkF m n Ls (.long (x1 * x2) :: st))) : Go p l e R s m args below meth c n0 Q cells slots h (mkF m pc Ls (.long x2 :: .long x1 :: st)) := by
  subst hn
  exact Go.via (fun T locs X _ t q => XS.lmul X.here C.x rfl (hb C.by hd) rfl q) k
theorem G.land (C : Cx p s m meth c Z y bytes maxL ret) {x1 x2 : Int64} (hd : decode bytes pc = .ok (.land, 1))  (hn : pc + 1 = n) (k : Go p l e R s m args below meth c n0 Q cells slots h (mkF m n Ls (.long (x1 &&& x2) :: st))) : Go p l e R s m args below meth c n0 Q cells slots h (mkF m pc Ls (.long x2 :: .long x1 :: st)) := by
  subst hn
  exact Go.via (fun T locs X _ t q => XS.land X.here C.x rfl (hb C.by hd) rfl q) k
theorem G.lor (C : Cx p s m meth c Z y bytes maxL ret) {x1 x2 : Int64} (hd : decode bytes pc = .ok (.lor, 1))  (hn : pc + 1 = n) (k : Go p l e R s m args below meth c n0 Q cells slots h (mkF m n Ls (.long (x1 ||| x2) :: st))) : Go p l e R s m args below meth c n0 Q cells slots h (mkF m pc Ls (.long x2 :: .long x1 :: st)) := by
  subst hn
  exact Go.via (fun T locs X _ t q => XS.lor X.here C.x rfl (hb C.by hd) rfl q) k
theorem G.lxor (C : Cx p s m meth c Z y bytes maxL ret) {x1 x2 : Int64} (hd : decode bytes pc = .ok (.lxor, 1))  (hn : pc + 1 = n) (k : Go p l e R s m args below meth c n0 Q cells slots h (mkF m n Ls (.long (x1 ^^^ x2) :: st))) : Go p l e R s m args below meth c n0 Q cells slots h (mkF m pc Ls (.long x2 :: .long x1 :: st)) := by
  subst hn
  exact Go.via (fun T locs X _ t q => XS.lxor X.here C.x rfl (hb C.by hd) rfl q) k
theorem G.idiv (C : Cx p s m meth c Z y bytes maxL ret) {x1 x2 : Int32} (hd : decode bytes pc = .ok (.idiv, 1)) (hy : x2 ≠ 0) (hn : pc + 1 = n) (k : Go p l e R s m args below meth c n0 Q cells slots h (mkF m n Ls (.int (x1 / x2) :: st))) : Go p l e R s m args below meth c n0 Q cells slots h (mkF m pc Ls (.int x2 :: .int x1 :: st)) := by
  subst hn
  exact Go.via (fun T locs X _ t q => XS.idiv X.here C.x rfl (hb C.by hd) rfl hy q) k
theorem G.ishl (C : Cx p s m meth c Z y bytes maxL ret) {x1 x2 : Int32} (hd : decode bytes pc = .ok (.ishl, 1))  (hn : pc + 1 = n) (k : Go p l e R s m args below meth c n0 Q cells slots h (mkF m n Ls (.int (x1 <<< (x2 &&& 31)) :: st))) : Go p l e R s m args below meth c n0 Q cells slots h (mkF m pc Ls (.int x2 :: .int x1 :: st)) := by
  subst hn
  exact Go.via (fun T locs X _ t q => XS.ishl X.here C.x rfl (hb C.by hd) rfl q) k
theorem G.ishr (C : Cx p s m meth c Z y bytes maxL ret) {x1 x2 : Int32} (hd : decode bytes pc = .ok (.ishr, 1))  (hn : pc + 1 = n) (k : Go p l e R s m args below meth c n0 Q cells slots h (mkF m n Ls (.int (x1 >>> (x2 &&& 31)) :: st))) : Go p l e R s m args below meth c n0 Q cells slots h (mkF m pc Ls (.int x2 :: .int x1 :: st)) := by
  subst hn
  exact Go.via (fun T locs X _ t q => XS.ishr X.here C.x rfl (hb C.by hd) rfl q) k
theorem G.iushr (C : Cx p s m meth c Z y bytes maxL ret) {x1 x2 : Int32} (hd : decode bytes pc = .ok (.iushr, 1))  (hn : pc + 1 = n) (k : Go p l e R s m args below meth c n0 Q cells slots h (mkF m n Ls (.int ((x1.toUInt32 >>> (x2 &&& 31).toUInt32).toInt32) :: st))) : Go p l e R s m args below meth c n0 Q cells slots h (mkF m pc Ls (.int x2 :: .int x1 :: st)) := by
  subst hn
  exact Go.via (fun T locs X _ t q => XS.iushr X.here C.x rfl (hb C.by hd) rfl q) k
theorem G.irem (C : Cx p s m meth c Z y bytes maxL ret) {x1 x2 : Int32} (hd : decode bytes pc = .ok (.irem, 1)) (hy : x2 ≠ 0) (hn : pc + 1 = n) (k : Go p l e R s m args below meth c n0 Q cells slots h (mkF m n Ls (.int (x1 % x2) :: st))) : Go p l e R s m args below meth c n0 Q cells slots h (mkF m pc Ls (.int x2 :: .int x1 :: st)) := by
  subst hn
  exact Go.via (fun T locs X _ t q => iremM X C.x rfl (hb C.by hd) rfl hy q) k
theorem G.ldiv (C : Cx p s m meth c Z y bytes maxL ret) {x1 x2 : Int64} (hd : decode bytes pc = .ok (.ldiv, 1)) (hy : x2 ≠ 0) (hn : pc + 1 = n) (k : Go p l e R s m args below meth c n0 Q cells slots h (mkF m n Ls (.long (x1 / x2) :: st))) : Go p l e R s m args below meth c n0 Q cells slots h (mkF m pc Ls (.long x2 :: .long x1 :: st)) := by
  subst hn
  exact Go.via (fun T locs X _ t q => XS.ldiv X.here C.x rfl (hb C.by hd) rfl hy q) k
theorem G.lrem (C : Cx p s m meth c Z y bytes maxL ret) {x1 x2 : Int64} (hd : decode bytes pc = .ok (.lrem, 1)) (hy : x2 ≠ 0) (hn : pc + 1 = n) (k : Go p l e R s m args below meth c n0 Q cells slots h (mkF m n Ls (.long (x1 - (x1 / x2) * x2) :: st))) : Go p l e R s m args below meth c n0 Q cells slots h (mkF m pc Ls (.long x2 :: .long x1 :: st)) := by
  subst hn
  exact Go.via (fun T locs X _ t q => XS.lrem X.here C.x rfl (hb C.by hd) rfl hy q) k
theorem G.lshl (C : Cx p s m meth c Z y bytes maxL ret) {x1 : Int64} {x2 : Int32} (hd : decode bytes pc = .ok (.lshl, 1))  (hn : pc + 1 = n) (k : Go p l e R s m args below meth c n0 Q cells slots h (mkF m n Ls (.long (x1 <<< (x2 &&& 0x3f).toInt64) :: st))) : Go p l e R s m args below meth c n0 Q cells slots h (mkF m pc Ls (.int x2 :: .long x1 :: st)) := by
  subst hn
  exact Go.via (fun T locs X _ t q => XS.lshl X.here C.x rfl (hb C.by hd) rfl q) k
theorem G.lshr (C : Cx p s m meth c Z y bytes maxL ret) {x1 : Int64} {x2 : Int32} (hd : decode bytes pc = .ok (.lshr, 1))  (hn : pc + 1 = n) (k : Go p l e R s m args below meth c n0 Q cells slots h (mkF m n Ls (.long (x1 >>> (x2 &&& 0x3f).toInt64) :: st))) : Go p l e R s m args below meth c n0 Q cells slots h (mkF m pc Ls (.int x2 :: .long x1 :: st)) := by
  subst hn
  exact Go.via (fun T locs X _ t q => XS.lshr X.here C.x rfl (hb C.by hd) rfl q) k
theorem G.lushr (C : Cx p s m meth c Z y bytes maxL ret) {x1 : Int64} {x2 : Int32} (hd : decode bytes pc = .ok (.lushr, 1))  (hn : pc + 1 = n) (k : Go p l e R s m args below meth c n0 Q cells slots h (mkF m n Ls (.long ((x1.toUInt64 >>> (x2 &&& 0x3f).toInt64.toUInt64).toInt64) :: st))) : Go p l e R s m args below meth c n0 Q cells slots h (mkF m pc Ls (.int x2 :: .long x1 :: st)) := by
  subst hn
  exact Go.via (fun T locs X _ t q => XS.lushr X.here C.x rfl (hb C.by hd) rfl q) k
theorem G.ineg (C : Cx p s m meth c Z y bytes maxL ret) {x : Int32} (hd : decode bytes pc = .ok (.ineg, 1))  (hn : pc + 1 = n) (k : Go p l e R s m args below meth c n0 Q cells slots h (mkF m n Ls (.int (-x) :: st))) : Go p l e R s m args below meth c n0 Q cells slots h (mkF m pc Ls (.int x :: st)) := by
  subst hn
  exact Go.via (fun T locs X _ t q => XS.ineg X.here C.x rfl (hb C.by hd) rfl q) k
theorem G.lneg (C : Cx p s m meth c Z y bytes maxL ret) {x : Int64} (hd : decode bytes pc = .ok (.lneg, 1))  (hn : pc + 1 = n) (k : Go p l e R s m args below meth c n0 Q cells slots h (mkF m n Ls (.long (-x) :: st))) : Go p l e R s m args below meth c n0 Q cells slots h (mkF m pc Ls (.long x :: st)) := by
  subst hn
  exact Go.via (fun T locs X _ t q => XS.lneg X.here C.x rfl (hb C.by hd) rfl q) k
theorem G.i2l (C : Cx p s m meth c Z y bytes maxL ret) {x : Int32} (hd : decode bytes pc = .ok (.i2l, 1))  (hn : pc + 1 = n) (k : Go p l e R s m args below meth c n0 Q cells slots h (mkF m n Ls (.long (x.toInt64) :: st))) : Go p l e R s m args below meth c n0 Q cells slots h (mkF m pc Ls (.int x :: st)) := by
  subst hn
  exact Go.via (fun T locs X _ t q => XS.i2l X.here C.x rfl (hb C.by hd) rfl q) k
theorem G.l2i (C : Cx p s m meth c Z y bytes maxL ret) {x : Int64} (hd : decode bytes pc = .ok (.l2i, 1))  (hn : pc + 1 = n) (k : Go p l e R s m args below meth c n0 Q cells slots h (mkF m n Ls (.int (x.toInt32) :: st))) : Go p l e R s m args below meth c n0 Q cells slots h (mkF m pc Ls (.long x :: st)) := by
  subst hn
  exact Go.via (fun T locs X _ t q => XS.l2i X.here C.x rfl (hb C.by hd) rfl q) k
theorem G.i2b (C : Cx p s m meth c Z y bytes maxL ret) {x : Int32} (hd : decode bytes pc = .ok (.i2b, 1))  (hn : pc + 1 = n) (k : Go p l e R s m args below meth c n0 Q cells slots h (mkF m n Ls (.int (x.toInt8.toInt32) :: st))) : Go p l e R s m args below meth c n0 Q cells slots h (mkF m pc Ls (.int x :: st)) := by
  subst hn
  exact Go.via (fun T locs X _ t q => XS.i2b X.here C.x rfl (hb C.by hd) rfl q) k
theorem G.i2s (C : Cx p s m meth c Z y bytes maxL ret) {x : Int32} (hd : decode bytes pc = .ok (.i2s, 1))  (hn : pc + 1 = n) (k : Go p l e R s m args below meth c n0 Q cells slots h (mkF m n Ls (.int (x.toInt16.toInt32) :: st))) : Go p l e R s m args below meth c n0 Q cells slots h (mkF m pc Ls (.int x :: st)) := by
  subst hn
  exact Go.via (fun T locs X _ t q => XS.i2s X.here C.x rfl (hb C.by hd) rfl q) k
theorem G.i2c (C : Cx p s m meth c Z y bytes maxL ret) {x : Int32} (hd : decode bytes pc = .ok (.i2c, 1))  (hn : pc + 1 = n) (k : Go p l e R s m args below meth c n0 Q cells slots h (mkF m n Ls (.int (x.toUInt32.toUInt16.toUInt32.toInt32) :: st))) : Go p l e R s m args below meth c n0 Q cells slots h (mkF m pc Ls (.int x :: st)) := by
  subst hn
  exact Go.via (fun T locs X _ t q => XS.i2c X.here C.x rfl (hb C.by hd) rfl q) k
theorem G.iconst (C : Cx p s m meth c Z y bytes maxL ret) {i : Int} (v : Int32) (hd : decode bytes pc = .ok (.iconst i, 1)) (hv : Int32.ofInt i = v) (hn : pc + 1 = n) (k : Go p l e R s m args below meth c n0 Q cells slots h (mkF m n Ls (.int v :: st))) : Go p l e R s m args below meth c n0 Q cells slots h (mkF m pc Ls (st)) := by
  subst hn hv
  exact Go.via (fun T locs X _ t q => XS.iconst X.here C.x rfl (hb C.by hd)  q) k
theorem G.bipush (C : Cx p s m meth c Z y bytes maxL ret) {i : Int} (v : Int32) (hd : decode bytes pc = .ok (.bipush i, 2)) (hv : (Int8.ofInt i).toInt32 = v) (hn : pc + 2 = n) (k : Go p l e R s m args below meth c n0 Q cells slots h (mkF m n Ls (.int v :: st))) : Go p l e R s m args below meth c n0 Q cells slots h (mkF m pc Ls (st)) := by
  subst hn hv
  exact Go.via (fun T locs X _ t q => XS.bipush X.here C.x rfl (hb C.by hd)  q) k
theorem G.sipush (C : Cx p s m meth c Z y bytes maxL ret) {i : Int} (v : Int32) (hd : decode bytes pc = .ok (.sipush i, 3)) (hv : (Int16.ofInt i).toInt32 = v) (hn : pc + 3 = n) (k : Go p l e R s m args below meth c n0 Q cells slots h (mkF m n Ls (.int v :: st))) : Go p l e R s m args below meth c n0 Q cells slots h (mkF m pc Ls (st)) := by
  subst hn hv
  exact Go.via (fun T locs X _ t q => XS.sipush X.here C.x rfl (hb C.by hd)  q) k
theorem G.lconst (C : Cx p s m meth c Z y bytes maxL ret) {i : Fin 2} (v : Int64) (hd : decode bytes pc = .ok (.lconst i, 1)) (hv : Int64.ofNat i = v) (hn : pc + 1 = n) (k : Go p l e R s m args below meth c n0 Q cells slots h (mkF m n Ls (.long v :: st))) : Go p l e R s m args below meth c n0 Q cells slots h (mkF m pc Ls (st)) := by
  subst hn hv
  exact Go.via (fun T locs X _ t q => XS.lconst X.here C.x rfl (hb C.by hd)  q) k
theorem G.aconst_null (C : Cx p s m meth c Z y bytes maxL ret)  (hd : decode bytes pc = .ok (.aconst_null, 1))  (hn : pc + 1 = n) (k : Go p l e R s m args below meth c n0 Q cells slots h (mkF m n Ls (.null :: st))) : Go p l e R s m args below meth c n0 Q cells slots h (mkF m pc Ls (st)) := by
  subst hn
  exact Go.via (fun T locs X _ t q => XS.aconstNull X.here C.x rfl (hb C.by hd)  q) k
theorem G.iload (C : Cx p s m meth c Z y bytes maxL ret) {k : Nat} {v : Int32} (hd : decode bytes pc = .ok (.iload k, 2)) (hl : Ls[k]? = some (.val (.int v)))  (hn : pc + 2 = n) (k : Go p l e R s m args below meth c n0 Q cells slots h (mkF m n Ls (.int v :: st))) : Go p l e R s m args below meth c n0 Q cells slots h (mkF m pc Ls (st)) := by
  subst hn
  exact Go.via (fun T locs X _ t q => XS.iload X.here C.x rfl (hb C.by hd) hl q) k
theorem G.iloadN (C : Cx p s m meth c Z y bytes maxL ret) {k : Fin 4} {v : Int32} (hd : decode bytes pc = .ok (.iload_n k, 1)) (hl : Ls[k.val]? = some (.val (.int v)))  (hn : pc + 1 = n) (k : Go p l e R s m args below meth c n0 Q cells slots h (mkF m n Ls (.int v :: st))) : Go p l e R s m args below meth c n0 Q cells slots h (mkF m pc Ls (st)) := by
  subst hn
  exact Go.via (fun T locs X _ t q => XS.iloadN X.here C.x rfl (hb C.by hd) hl q) k
theorem G.lload (C : Cx p s m meth c Z y bytes maxL ret) {k : Nat} {v : Int64} (hd : decode bytes pc = .ok (.lload k, 2)) (hl : Ls[k]? = some (.val (.long v)))  (hn : pc + 2 = n) (k : Go p l e R s m args below meth c n0 Q cells slots h (mkF m n Ls (.long v :: st))) : Go p l e R s m args below meth c n0 Q cells slots h (mkF m pc Ls (st)) := by
  subst hn
  exact Go.via (fun T locs X _ t q => XS.lload X.here C.x rfl (hb C.by hd) hl q) k
theorem G.lloadN (C : Cx p s m meth c Z y bytes maxL ret) {k : Fin 4} {v : Int64} (hd : decode bytes pc = .ok (.lload_n k, 1)) (hl : Ls[k.val]? = some (.val (.long v)))  (hn : pc + 1 = n) (k : Go p l e R s m args below meth c n0 Q cells slots h (mkF m n Ls (.long v :: st))) : Go p l e R s m args below meth c n0 Q cells slots h (mkF m pc Ls (st)) := by
  subst hn
  exact Go.via (fun T locs X _ t q => XS.lloadN X.here C.x rfl (hb C.by hd) hl q) k
theorem G.aload (C : Cx p s m meth c Z y bytes maxL ret) {k : Nat} {v : Value} (hd : decode bytes pc = .ok (.aload k, 2)) (hl : Ls[k]? = some (.val (v))) (hv : v.isRef = true) (hn : pc + 2 = n) (k : Go p l e R s m args below meth c n0 Q cells slots h (mkF m n Ls (v :: st))) : Go p l e R s m args below meth c n0 Q cells slots h (mkF m pc Ls (st)) := by
  subst hn
  exact Go.via (fun T locs X _ t q => XS.aload X.here C.x rfl (hb C.by hd) hl hv q) k
theorem G.aloadN (C : Cx p s m meth c Z y bytes maxL ret) {k : Fin 4} {v : Value} (hd : decode bytes pc = .ok (.aload_n k, 1)) (hl : Ls[k.val]? = some (.val (v))) (hv : v.isRef = true) (hn : pc + 1 = n) (k : Go p l e R s m args below meth c n0 Q cells slots h (mkF m n Ls (v :: st))) : Go p l e R s m args below meth c n0 Q cells slots h (mkF m pc Ls (st)) := by
  subst hn
  exact Go.via (fun T locs X _ t q => XS.aloadN X.here C.x rfl (hb C.by hd) hl hv q) k
theorem G.istore (C : Cx p s m meth c Z y bytes maxL ret) {k : Nat} {x : Int32} {l' : Array Slot} (hd : decode bytes pc = .ok (.istore k, 2))  (hl : storeLocals Ls k (.int x) = some l') (hn : pc + 2 = n) (kk : Go p l e R s m args below meth c n0 Q cells slots h (mkF m n l' (st))) : Go p l e R s m args below meth c n0 Q cells slots h (mkF m pc Ls (.int x :: st)) := by
  subst hn
  exact Go.via (fun T locs X _ t q => XS.istore X.here C.x rfl (hb C.by hd) rfl hl q) kk
theorem G.istoreZ (C : Cx p s m meth c Z y bytes maxL ret) {k : Nat} {x : Int32} {l' : Int32 → Array Slot} (hd : decode bytes pc = .ok (.istore k, 2)) (hl : ∀ z, storeLocals Ls k (.int z) = some (l' z)) (hn : pc + 2 = n) (kk : ∀ z, z = x → Go p l e R s m args below meth c n0 Q cells slots h (mkF m n (l' z) (st))) : Go p l e R s m args below meth c n0 Q cells slots h (mkF m pc Ls (.int x :: st)) :=
  G.istore C hd (hl x) hn (kk x rfl)
theorem G.istoreN (C : Cx p s m meth c Z y bytes maxL ret) {k : Fin 4} {x : Int32} {l' : Array Slot} (hd : decode bytes pc = .ok (.istore_n k, 1))  (hl : storeLocals Ls k.val (.int x) = some l') (hn : pc + 1 = n) (kk : Go p l e R s m args below meth c n0 Q cells slots h (mkF m n l' (st))) : Go p l e R s m args below meth c n0 Q cells slots h (mkF m pc Ls (.int x :: st)) := by
  subst hn
  exact Go.via (fun T locs X _ t q => XS.istoreN X.here C.x rfl (hb C.by hd) rfl hl q) kk
theorem G.istoreNZ (C : Cx p s m meth c Z y bytes maxL ret) {k : Fin 4} {x : Int32} {l' : Int32 → Array Slot} (hd : decode bytes pc = .ok (.istore_n k, 1)) (hl : ∀ z, storeLocals Ls k.val (.int z) = some (l' z)) (hn : pc + 1 = n) (kk : ∀ z, z = x → Go p l e R s m args below meth c n0 Q cells slots h (mkF m n (l' z) (st))) : Go p l e R s m args below meth c n0 Q cells slots h (mkF m pc Ls (.int x :: st)) :=
  G.istoreN C hd (hl x) hn (kk x rfl)
theorem G.lstore (C : Cx p s m meth c Z y bytes maxL ret) {k : Nat} {x : Int64} {l' : Array Slot} (hd : decode bytes pc = .ok (.lstore k, 2))  (hl : storeLocals Ls k (.long x) = some l') (hn : pc + 2 = n) (kk : Go p l e R s m args below meth c n0 Q cells slots h (mkF m n l' (st))) : Go p l e R s m args below meth c n0 Q cells slots h (mkF m pc Ls (.long x :: st)) := by
  subst hn
  exact Go.via (fun T locs X _ t q => XS.lstore X.here C.x rfl (hb C.by hd) rfl hl q) kk
theorem G.lstoreZ (C : Cx p s m meth c Z y bytes maxL ret) {k : Nat} {x : Int64} {l' : Int64 → Array Slot} (hd : decode bytes pc = .ok (.lstore k, 2)) (hl : ∀ z, storeLocals Ls k (.long z) = some (l' z)) (hn : pc + 2 = n) (kk : ∀ z, z = x → Go p l e R s m args below meth c n0 Q cells slots h (mkF m n (l' z) (st))) : Go p l e R s m args below meth c n0 Q cells slots h (mkF m pc Ls (.long x :: st)) :=
  G.lstore C hd (hl x) hn (kk x rfl)
theorem G.lstoreN (C : Cx p s m meth c Z y bytes maxL ret) {k : Fin 4} {x : Int64} {l' : Array Slot} (hd : decode bytes pc = .ok (.lstore_n k, 1))  (hl : storeLocals Ls k.val (.long x) = some l') (hn : pc + 1 = n) (kk : Go p l e R s m args below meth c n0 Q cells slots h (mkF m n l' (st))) : Go p l e R s m args below meth c n0 Q cells slots h (mkF m pc Ls (.long x :: st)) := by
  subst hn
  exact Go.via (fun T locs X _ t q => XS.lstoreN X.here C.x rfl (hb C.by hd) rfl hl q) kk
theorem G.lstoreNZ (C : Cx p s m meth c Z y bytes maxL ret) {k : Fin 4} {x : Int64} {l' : Int64 → Array Slot} (hd : decode bytes pc = .ok (.lstore_n k, 1)) (hl : ∀ z, storeLocals Ls k.val (.long z) = some (l' z)) (hn : pc + 1 = n) (kk : ∀ z, z = x → Go p l e R s m args below meth c n0 Q cells slots h (mkF m n (l' z) (st))) : Go p l e R s m args below meth c n0 Q cells slots h (mkF m pc Ls (.long x :: st)) :=
  G.lstoreN C hd (hl x) hn (kk x rfl)
theorem G.astore (C : Cx p s m meth c Z y bytes maxL ret) {k : Nat} {x : Value} {l' : Array Slot} (hd : decode bytes pc = .ok (.astore k, 2)) (hv : x.isRef = true) (hl : storeLocals Ls k (x) = some l') (hn : pc + 2 = n) (kk : Go p l e R s m args below meth c n0 Q cells slots h (mkF m n l' (st))) : Go p l e R s m args below meth c n0 Q cells slots h (mkF m pc Ls (x :: st)) := by
  subst hn
  exact Go.via (fun T locs X _ t q => XS.astore X.here C.x rfl (hb C.by hd) rfl hv hl q) kk
theorem G.astoreN (C : Cx p s m meth c Z y bytes maxL ret) {k : Fin 4} {x : Value} {l' : Array Slot} (hd : decode bytes pc = .ok (.astore_n k, 1)) (hv : x.isRef = true) (hl : storeLocals Ls k.val (x) = some l') (hn : pc + 1 = n) (kk : Go p l e R s m args below meth c n0 Q cells slots h (mkF m n l' (st))) : Go p l e R s m args below meth c n0 Q cells slots h (mkF m pc Ls (x :: st)) := by
  subst hn
  exact Go.via (fun T locs X _ t q => XS.astoreN X.here C.x rfl (hb C.by hd) rfl hv hl q) kk
theorem G.iinc (C : Cx p s m meth c Z y bytes maxL ret) {k : Nat} {cst : Int} (v : Int32) {x : Int32} {l' : Array Slot} (hd : decode bytes pc = .ok (.iinc k cst, 3)) (hv : Int32.ofInt cst = v) (hx : Ls[k]? = some (.val (.int x))) (hl : storeLocals Ls k (.int (x + v)) = some l') (hn : pc + 3 = n) (kk : Go p l e R s m args below meth c n0 Q cells slots h (mkF m n l' (st))) : Go p l e R s m args below meth c n0 Q cells slots h (mkF m pc Ls (st)) := by
  subst hn hv
  exact Go.via (fun T locs X _ t q => XS.iinc X.here C.x rfl (hb C.by hd) hx hl q) kk
theorem G.iincZ (C : Cx p s m meth c Z y bytes maxL ret) {k : Nat} {cst : Int} (v : Int32) {x : Int32} {l' : Int32 → Array Slot} (hd : decode bytes pc = .ok (.iinc k cst, 3)) (hv : Int32.ofInt cst = v) (hx : Ls[k]? = some (.val (.int x))) (hl : ∀ z, storeLocals Ls k (.int z) = some (l' z)) (hn : pc + 3 = n) (kk : ∀ z, z = x + v → Go p l e R s m args below meth c n0 Q cells slots h (mkF m n (l' z) (st))) : Go p l e R s m args below meth c n0 Q cells slots h (mkF m pc Ls (st)) :=
  G.iinc C v hd hv hx (hl _) hn (kk _ rfl)
theorem G.iincK (C : Cx p s m meth c Z y bytes maxL ret) {k : Nat} {cst : Int} (v : Int32) {x : Int32} (z : Int32) {l' : Array Slot} (hd : decode bytes pc = .ok (.iinc k cst, 3)) (hv : Int32.ofInt cst = v) (hx : Ls[k]? = some (.val (.int x))) (hz : x + v = z) (hl : storeLocals Ls k (.int z) = some l') (hn : pc + 3 = n) (kk : Go p l e R s m args below meth c n0 Q cells slots h (mkF m n l' (st))) : Go p l e R s m args below meth c n0 Q cells slots h (mkF m pc Ls (st)) := by
  subst hz
  exact G.iinc C v hd hv hx hl hn kk
theorem G.name_int {x : Int32} (kk : ∀ z, z = x → Go p l e R s m args below meth c n0 Q cells slots h (mkF m pc Ls (.int z :: st))) : Go p l e R s m args below meth c n0 Q cells slots h (mkF m pc Ls (.int x :: st)) := kk x rfl
theorem G.name_long {x : Int64} (kk : ∀ z, z = x → Go p l e R s m args below meth c n0 Q cells slots h (mkF m pc Ls (.long z :: st))) : Go p l e R s m args below meth c n0 Q cells slots h (mkF m pc Ls (.long x :: st)) := kk x rfl
theorem G.fold_int {x z : Int32} (hz : x = z) (kk : Go p l e R s m args below meth c n0 Q cells slots h (mkF m pc Ls (.int z :: st))) : Go p l e R s m args below meth c n0 Q cells slots h (mkF m pc Ls (.int x :: st)) := hz ▸ kk
theorem G.fold_long {x z : Int64} (hz : x = z) (kk : Go p l e R s m args below meth c n0 Q cells slots h (mkF m pc Ls (.long z :: st))) : Go p l e R s m args below meth c n0 Q cells slots h (mkF m pc Ls (.long x :: st)) := hz ▸ kk
theorem G.dup (C : Cx p s m meth c Z y bytes maxL ret) {x : Value} (hd : decode bytes pc = .ok (.dup, 1)) (hc : x.category = 1) (hn : pc + 1 = n) (k : Go p l e R s m args below meth c n0 Q cells slots h (mkF m n Ls (x :: x :: st))) : Go p l e R s m args below meth c n0 Q cells slots h (mkF m pc Ls (x :: st)) := by
  subst hn
  exact Go.via (fun T locs X _ t q => XS.dup X.here C.x rfl (hb C.by hd) rfl hc q) k
theorem G.pop (C : Cx p s m meth c Z y bytes maxL ret) {x : Value} (hd : decode bytes pc = .ok (.pop, 1)) (hc : x.category = 1) (hn : pc + 1 = n) (k : Go p l e R s m args below meth c n0 Q cells slots h (mkF m n Ls (st))) : Go p l e R s m args below meth c n0 Q cells slots h (mkF m pc Ls (x :: st)) := by
  subst hn
  exact Go.via (fun T locs X _ t q => XS.pop X.here C.x rfl (hb C.by hd) rfl hc q) k
theorem G.dup_x1 (C : Cx p s m meth c Z y bytes maxL ret) {x x2 : Value} (hd : decode bytes pc = .ok (.dup_x1, 1)) (hc : x.category = 1) (hc2 : x2.category = 1) (hn : pc + 1 = n) (k : Go p l e R s m args below meth c n0 Q cells slots h (mkF m n Ls (x :: x2 :: x :: st))) : Go p l e R s m args below meth c n0 Q cells slots h (mkF m pc Ls (x :: x2 :: st)) := by
  subst hn
  exact Go.via (fun T locs X _ t q => XS.dupX1 X.here C.x rfl (hb C.by hd) rfl hc hc2 q) k
theorem G.dup2 (C : Cx p s m meth c Z y bytes maxL ret) {x x2 : Value} (hd : decode bytes pc = .ok (.dup2, 1)) (hc : x.category = 1) (hc2 : x2.category = 1) (hn : pc + 1 = n) (k : Go p l e R s m args below meth c n0 Q cells slots h (mkF m n Ls (x :: x2 :: x :: x2 :: st))) : Go p l e R s m args below meth c n0 Q cells slots h (mkF m pc Ls (x :: x2 :: st)) := by
  subst hn
  exact Go.via (fun T locs X _ t q => XT.dup2 X.here C.x rfl (hb C.by hd) rfl hc hc2 q) k
theorem G.dup2L (C : Cx p s m meth c Z y bytes maxL ret) {x : Int64} (hd : decode bytes pc = .ok (.dup2, 1)) (hn : pc + 1 = n) (k : Go p l e R s m args below meth c n0 Q cells slots h (mkF m n Ls (.long x :: .long x :: st))) : Go p l e R s m args below meth c n0 Q cells slots h (mkF m pc Ls (.long x :: st)) := by
  subst hn
  exact Go.via (fun T locs X _ t q => XT.dup2L X.here C.x rfl (hb C.by hd) rfl q) k
theorem G.goto (C : Cx p s m meth c Z y bytes maxL ret) {o : Int} (hd : decode bytes pc = .ok (.goto o, 3)) (ho : 0 ≤ (pc : Int) + o) (hp : ((pc : Int) + o).toNat = n) (k : Go p l e R s m args below meth c n0 Q cells slots h (mkF m n Ls (st))) : Go p l e R s m args below meth c n0 Q cells slots h (mkF m pc Ls (st)) :=
  Go.via (fun T locs X _ t q => XS.goto X.here C.x rfl rfl (hb C.by hd) ho hp q) k
theorem lt_i {x y : Int32} : x < y ↔ x.toInt < y.toInt := Int32.lt_iff_toInt_lt
theorem lt_l {x y : Int64} : x < y ↔ x.toInt < y.toInt := Int64.lt_iff_toInt_lt
theorem le_i {x y : Int32} : x ≤ y ↔ x.toInt ≤ y.toInt := Int32.le_iff_toInt_le
theorem le_l {x y : Int64} : x ≤ y ↔ x.toInt ≤ y.toInt := Int64.le_iff_toInt_le
theorem ich_lt {x1 x2 : Int32} : (x1.toInt < x2.toInt ∧ if_icmp.holds .lt x1 x2 = true) ∨ (x2.toInt ≤ x1.toInt ∧ if_icmp.holds .lt x1 x2 = false) := by
  by_cases q : x1.toInt < x2.toInt
  · exact Or.inl ⟨q, by simp [if_icmp.holds, lt_i, le_i, Int32.lt_iff_toInt_lt, Int32.le_iff_toInt_le, q]⟩
  · exact Or.inr ⟨by omega, by first | (simp [if_icmp.holds, lt_i, le_i, Int32.lt_iff_toInt_lt, Int32.le_iff_toInt_le, q]; done) | (simp [if_icmp.holds, lt_i, le_i, Int32.lt_iff_toInt_lt, Int32.le_iff_toInt_le]; omega)⟩
theorem G.icmp_lt (C : Cx p s m meth c Z y bytes maxL ret) {x1 x2 : Int32} {o : Int} {A B : Int} (hA : x1.toInt = A) (hB : x2.toInt = B) (hd : decode bytes pc = .ok (.if_icmp .lt o, 3)) (ho : 0 ≤ (pc : Int) + o) (hp : ((pc : Int) + o).toNat = n') (hn : pc + 3 = n) (kt : A < B → Go p l e R s m args below meth c n0 Q cells slots h (mkF m n' Ls (st))) (kf : B ≤ A → Go p l e R s m args below meth c n0 Q cells slots h (mkF m n Ls (st))) : Go p l e R s m args below meth c n0 Q cells slots h (mkF m pc Ls (.int x2 :: .int x1 :: st)) := by
  subst hn hA hB
  rcases ich_lt (x1 := x1) (x2 := x2) with ⟨q, r⟩ | ⟨q, r⟩
  · exact Go.via (fun T locs X _ t q => XS.icmpYes X.here C.x rfl rfl (hb C.by hd) rfl r ho hp q) (kt q)
  · exact Go.via (fun T locs X _ t q => XS.icmpNo X.here C.x rfl (hb C.by hd) rfl r q) (kf q)
theorem G.if_lt (C : Cx p s m meth c Z y bytes maxL ret) {x1 : Int32} {o : Int} {A : Int} (hA : x1.toInt = A) (hd : decode bytes pc = .ok (.ifCond .lt o, 3)) (ho : 0 ≤ (pc : Int) + o) (hp : ((pc : Int) + o).toNat = n') (hn : pc + 3 = n) (kt : A < 0 → Go p l e R s m args below meth c n0 Q cells slots h (mkF m n' Ls (st))) (kf : 0 ≤ A → Go p l e R s m args below meth c n0 Q cells slots h (mkF m n Ls (st))) : Go p l e R s m args below meth c n0 Q cells slots h (mkF m pc Ls (.int x1 :: st)) := by
  subst hn hA
  rcases ich_lt (x1 := x1) (x2 := 0) with ⟨q, r⟩ | ⟨q, r⟩
  · exact Go.via (fun T locs X _ t q => XS.ifYes X.here C.x rfl rfl (hb C.by hd) rfl ((if0 _ _).trans r) ho hp q) (kt q)
  · exact Go.via (fun T locs X _ t q => XS.ifNo X.here C.x rfl (hb C.by hd) rfl ((if0 _ _).trans r) q) (kf q)
theorem lch_lt (x1 x2 : Int64) : ((lcmpW x1 x2).toInt < 0 → x1.toInt < x2.toInt) ∧ (0 ≤ (lcmpW x1 x2).toInt → x2.toInt ≤ x1.toInt) := by
  have q := c_lcmp x1 x2
  have z : ∀ x : Int32, x = 0 ↔ x.toInt = 0 := fun x => ⟨fun q => by rw [q]; rfl, fun q => Int32.toInt_inj.mp q⟩
  have w : x1 = x2 ↔ x1.toInt = x2.toInt := Int64.toInt_inj.symm
  
  constructor <;> intro r <;> omega
theorem G.lcmp_lt (C : Cx p s m meth c Z y bytes maxL ret) {x1 x2 : Int64} {o : Int} {A B : Int} (hA : x1.toInt = A) (hB : x2.toInt = B) (hc : decode bytes pc = .ok (.lcmp, 1)) (hd : decode bytes (pc + 1) = .ok (.ifCond .lt o, 3)) (ho : 0 ≤ ((pc + 1 : Nat) : Int) + o) (hp : (((pc + 1 : Nat) : Int) + o).toNat = n') (hn : pc + 4 = n) (kt : A < B → Go p l e R s m args below meth c n0 Q cells slots h (mkF m n' Ls (st))) (kf : B ≤ A → Go p l e R s m args below meth c n0 Q cells slots h (mkF m n Ls (st))) : Go p l e R s m args below meth c n0 Q cells slots h (mkF m pc Ls (.long x2 :: .long x1 :: st)) := by
  subst hn hA hB
  refine Go.via (fun T locs X _ t q => XS.lcmp X.here C.x rfl (hb C.by hc) rfl q) ?_
  exact G.if_lt C (A := (lcmpW x1 x2).toInt) rfl (pc := pc + 1) hd ho hp (n := pc + 4) rfl (fun q => kt ((lch_lt x1 x2).1 q)) (fun q => kf ((lch_lt x1 x2).2 q))
theorem ich_ge {x1 x2 : Int32} : (x2.toInt ≤ x1.toInt ∧ if_icmp.holds .ge x1 x2 = true) ∨ (x1.toInt < x2.toInt ∧ if_icmp.holds .ge x1 x2 = false) := by
  by_cases q : x2.toInt ≤ x1.toInt
  · exact Or.inl ⟨q, by simp [if_icmp.holds, lt_i, le_i, Int32.lt_iff_toInt_lt, Int32.le_iff_toInt_le, q]⟩
  · exact Or.inr ⟨by omega, by first | (simp [if_icmp.holds, lt_i, le_i, Int32.lt_iff_toInt_lt, Int32.le_iff_toInt_le, q]; done) | (simp [if_icmp.holds, lt_i, le_i, Int32.lt_iff_toInt_lt, Int32.le_iff_toInt_le]; omega)⟩
theorem G.icmp_ge (C : Cx p s m meth c Z y bytes maxL ret) {x1 x2 : Int32} {o : Int} {A B : Int} (hA : x1.toInt = A) (hB : x2.toInt = B) (hd : decode bytes pc = .ok (.if_icmp .ge o, 3)) (ho : 0 ≤ (pc : Int) + o) (hp : ((pc : Int) + o).toNat = n') (hn : pc + 3 = n) (kt : B ≤ A → Go p l e R s m args below meth c n0 Q cells slots h (mkF m n' Ls (st))) (kf : A < B → Go p l e R s m args below meth c n0 Q cells slots h (mkF m n Ls (st))) : Go p l e R s m args below meth c n0 Q cells slots h (mkF m pc Ls (.int x2 :: .int x1 :: st)) := by
  subst hn hA hB
  rcases ich_ge (x1 := x1) (x2 := x2) with ⟨q, r⟩ | ⟨q, r⟩
  · exact Go.via (fun T locs X _ t q => XS.icmpYes X.here C.x rfl rfl (hb C.by hd) rfl r ho hp q) (kt q)
  · exact Go.via (fun T locs X _ t q => XS.icmpNo X.here C.x rfl (hb C.by hd) rfl r q) (kf q)
theorem G.if_ge (C : Cx p s m meth c Z y bytes maxL ret) {x1 : Int32} {o : Int} {A : Int} (hA : x1.toInt = A) (hd : decode bytes pc = .ok (.ifCond .ge o, 3)) (ho : 0 ≤ (pc : Int) + o) (hp : ((pc : Int) + o).toNat = n') (hn : pc + 3 = n) (kt : 0 ≤ A → Go p l e R s m args below meth c n0 Q cells slots h (mkF m n' Ls (st))) (kf : A < 0 → Go p l e R s m args below meth c n0 Q cells slots h (mkF m n Ls (st))) : Go p l e R s m args below meth c n0 Q cells slots h (mkF m pc Ls (.int x1 :: st)) := by
  subst hn hA
  rcases ich_ge (x1 := x1) (x2 := 0) with ⟨q, r⟩ | ⟨q, r⟩
  · exact Go.via (fun T locs X _ t q => XS.ifYes X.here C.x rfl rfl (hb C.by hd) rfl ((if0 _ _).trans r) ho hp q) (kt q)
  · exact Go.via (fun T locs X _ t q => XS.ifNo X.here C.x rfl (hb C.by hd) rfl ((if0 _ _).trans r) q) (kf q)
theorem lch_ge (x1 x2 : Int64) : (0 ≤ (lcmpW x1 x2).toInt → x2.toInt ≤ x1.toInt) ∧ ((lcmpW x1 x2).toInt < 0 → x1.toInt < x2.toInt) := by
  have q := c_lcmp x1 x2
  have z : ∀ x : Int32, x = 0 ↔ x.toInt = 0 := fun x => ⟨fun q => by rw [q]; rfl, fun q => Int32.toInt_inj.mp q⟩
  have w : x1 = x2 ↔ x1.toInt = x2.toInt := Int64.toInt_inj.symm
  
  constructor <;> intro r <;> omega
theorem G.lcmp_ge (C : Cx p s m meth c Z y bytes maxL ret) {x1 x2 : Int64} {o : Int} {A B : Int} (hA : x1.toInt = A) (hB : x2.toInt = B) (hc : decode bytes pc = .ok (.lcmp, 1)) (hd : decode bytes (pc + 1) = .ok (.ifCond .ge o, 3)) (ho : 0 ≤ ((pc + 1 : Nat) : Int) + o) (hp : (((pc + 1 : Nat) : Int) + o).toNat = n') (hn : pc + 4 = n) (kt : B ≤ A → Go p l e R s m args below meth c n0 Q cells slots h (mkF m n' Ls (st))) (kf : A < B → Go p l e R s m args below meth c n0 Q cells slots h (mkF m n Ls (st))) : Go p l e R s m args below meth c n0 Q cells slots h (mkF m pc Ls (.long x2 :: .long x1 :: st)) := by
  subst hn hA hB
  refine Go.via (fun T locs X _ t q => XS.lcmp X.here C.x rfl (hb C.by hc) rfl q) ?_
  exact G.if_ge C (A := (lcmpW x1 x2).toInt) rfl (pc := pc + 1) hd ho hp (n := pc + 4) rfl (fun q => kt ((lch_ge x1 x2).1 q)) (fun q => kf ((lch_ge x1 x2).2 q))
theorem ich_gt {x1 x2 : Int32} : (x2.toInt < x1.toInt ∧ if_icmp.holds .gt x1 x2 = true) ∨ (x1.toInt ≤ x2.toInt ∧ if_icmp.holds .gt x1 x2 = false) := by
  by_cases q : x2.toInt < x1.toInt
  · exact Or.inl ⟨q, by simp [if_icmp.holds, lt_i, le_i, Int32.lt_iff_toInt_lt, Int32.le_iff_toInt_le, q]⟩
  · exact Or.inr ⟨by omega, by first | (simp [if_icmp.holds, lt_i, le_i, Int32.lt_iff_toInt_lt, Int32.le_iff_toInt_le, q]; done) | (simp [if_icmp.holds, lt_i, le_i, Int32.lt_iff_toInt_lt, Int32.le_iff_toInt_le]; omega)⟩
theorem G.icmp_gt (C : Cx p s m meth c Z y bytes maxL ret) {x1 x2 : Int32} {o : Int} {A B : Int} (hA : x1.toInt = A) (hB : x2.toInt = B) (hd : decode bytes pc = .ok (.if_icmp .gt o, 3)) (ho : 0 ≤ (pc : Int) + o) (hp : ((pc : Int) + o).toNat = n') (hn : pc + 3 = n) (kt : B < A → Go p l e R s m args below meth c n0 Q cells slots h (mkF m n' Ls (st))) (kf : A ≤ B → Go p l e R s m args below meth c n0 Q cells slots h (mkF m n Ls (st))) : Go p l e R s m args below meth c n0 Q cells slots h (mkF m pc Ls (.int x2 :: .int x1 :: st)) := by
  subst hn hA hB
  rcases ich_gt (x1 := x1) (x2 := x2) with ⟨q, r⟩ | ⟨q, r⟩
  · exact Go.via (fun T locs X _ t q => XS.icmpYes X.here C.x rfl rfl (hb C.by hd) rfl r ho hp q) (kt q)
  · exact Go.via (fun T locs X _ t q => XS.icmpNo X.here C.x rfl (hb C.by hd) rfl r q) (kf q)
theorem G.if_gt (C : Cx p s m meth c Z y bytes maxL ret) {x1 : Int32} {o : Int} {A : Int} (hA : x1.toInt = A) (hd : decode bytes pc = .ok (.ifCond .gt o, 3)) (ho : 0 ≤ (pc : Int) + o) (hp : ((pc : Int) + o).toNat = n') (hn : pc + 3 = n) (kt : 0 < A → Go p l e R s m args below meth c n0 Q cells slots h (mkF m n' Ls (st))) (kf : A ≤ 0 → Go p l e R s m args below meth c n0 Q cells slots h (mkF m n Ls (st))) : Go p l e R s m args below meth c n0 Q cells slots h (mkF m pc Ls (.int x1 :: st)) := by
  subst hn hA
  rcases ich_gt (x1 := x1) (x2 := 0) with ⟨q, r⟩ | ⟨q, r⟩
  · exact Go.via (fun T locs X _ t q => XS.ifYes X.here C.x rfl rfl (hb C.by hd) rfl ((if0 _ _).trans r) ho hp q) (kt q)
  · exact Go.via (fun T locs X _ t q => XS.ifNo X.here C.x rfl (hb C.by hd) rfl ((if0 _ _).trans r) q) (kf q)
theorem lch_gt (x1 x2 : Int64) : (0 < (lcmpW x1 x2).toInt → x2.toInt < x1.toInt) ∧ ((lcmpW x1 x2).toInt ≤ 0 → x1.toInt ≤ x2.toInt) := by
  have q := c_lcmp x1 x2
  have z : ∀ x : Int32, x = 0 ↔ x.toInt = 0 := fun x => ⟨fun q => by rw [q]; rfl, fun q => Int32.toInt_inj.mp q⟩
  have w : x1 = x2 ↔ x1.toInt = x2.toInt := Int64.toInt_inj.symm
  
  constructor <;> intro r <;> omega
theorem G.lcmp_gt (C : Cx p s m meth c Z y bytes maxL ret) {x1 x2 : Int64} {o : Int} {A B : Int} (hA : x1.toInt = A) (hB : x2.toInt = B) (hc : decode bytes pc = .ok (.lcmp, 1)) (hd : decode bytes (pc + 1) = .ok (.ifCond .gt o, 3)) (ho : 0 ≤ ((pc + 1 : Nat) : Int) + o) (hp : (((pc + 1 : Nat) : Int) + o).toNat = n') (hn : pc + 4 = n) (kt : B < A → Go p l e R s m args below meth c n0 Q cells slots h (mkF m n' Ls (st))) (kf : A ≤ B → Go p l e R s m args below meth c n0 Q cells slots h (mkF m n Ls (st))) : Go p l e R s m args below meth c n0 Q cells slots h (mkF m pc Ls (.long x2 :: .long x1 :: st)) := by
  subst hn hA hB
  refine Go.via (fun T locs X _ t q => XS.lcmp X.here C.x rfl (hb C.by hc) rfl q) ?_
  exact G.if_gt C (A := (lcmpW x1 x2).toInt) rfl (pc := pc + 1) hd ho hp (n := pc + 4) rfl (fun q => kt ((lch_gt x1 x2).1 q)) (fun q => kf ((lch_gt x1 x2).2 q))
theorem ich_le {x1 x2 : Int32} : (x1.toInt ≤ x2.toInt ∧ if_icmp.holds .le x1 x2 = true) ∨ (x2.toInt < x1.toInt ∧ if_icmp.holds .le x1 x2 = false) := by
  by_cases q : x1.toInt ≤ x2.toInt
  · exact Or.inl ⟨q, by simp [if_icmp.holds, lt_i, le_i, Int32.lt_iff_toInt_lt, Int32.le_iff_toInt_le, q]⟩
  · exact Or.inr ⟨by omega, by first | (simp [if_icmp.holds, lt_i, le_i, Int32.lt_iff_toInt_lt, Int32.le_iff_toInt_le, q]; done) | (simp [if_icmp.holds, lt_i, le_i, Int32.lt_iff_toInt_lt, Int32.le_iff_toInt_le]; omega)⟩
theorem G.icmp_le (C : Cx p s m meth c Z y bytes maxL ret) {x1 x2 : Int32} {o : Int} {A B : Int} (hA : x1.toInt = A) (hB : x2.toInt = B) (hd : decode bytes pc = .ok (.if_icmp .le o, 3)) (ho : 0 ≤ (pc : Int) + o) (hp : ((pc : Int) + o).toNat = n') (hn : pc + 3 = n) (kt : A ≤ B → Go p l e R s m args below meth c n0 Q cells slots h (mkF m n' Ls (st))) (kf : B < A → Go p l e R s m args below meth c n0 Q cells slots h (mkF m n Ls (st))) : Go p l e R s m args below meth c n0 Q cells slots h (mkF m pc Ls (.int x2 :: .int x1 :: st)) := by
  subst hn hA hB
  rcases ich_le (x1 := x1) (x2 := x2) with ⟨q, r⟩ | ⟨q, r⟩
  · exact Go.via (fun T locs X _ t q => XS.icmpYes X.here C.x rfl rfl (hb C.by hd) rfl r ho hp q) (kt q)
  · exact Go.via (fun T locs X _ t q => XS.icmpNo X.here C.x rfl (hb C.by hd) rfl r q) (kf q)
theorem G.if_le (C : Cx p s m meth c Z y bytes maxL ret) {x1 : Int32} {o : Int} {A : Int} (hA : x1.toInt = A) (hd : decode bytes pc = .ok (.ifCond .le o, 3)) (ho : 0 ≤ (pc : Int) + o) (hp : ((pc : Int) + o).toNat = n') (hn : pc + 3 = n) (kt : A ≤ 0 → Go p l e R s m args below meth c n0 Q cells slots h (mkF m n' Ls (st))) (kf : 0 < A → Go p l e R s m args below meth c n0 Q cells slots h (mkF m n Ls (st))) : Go p l e R s m args below meth c n0 Q cells slots h (mkF m pc Ls (.int x1 :: st)) := by
  subst hn hA
  rcases ich_le (x1 := x1) (x2 := 0) with ⟨q, r⟩ | ⟨q, r⟩
  · exact Go.via (fun T locs X _ t q => XS.ifYes X.here C.x rfl rfl (hb C.by hd) rfl ((if0 _ _).trans r) ho hp q) (kt q)
  · exact Go.via (fun T locs X _ t q => XS.ifNo X.here C.x rfl (hb C.by hd) rfl ((if0 _ _).trans r) q) (kf q)
theorem lch_le (x1 x2 : Int64) : ((lcmpW x1 x2).toInt ≤ 0 → x1.toInt ≤ x2.toInt) ∧ (0 < (lcmpW x1 x2).toInt → x2.toInt < x1.toInt) := by
  have q := c_lcmp x1 x2
  have z : ∀ x : Int32, x = 0 ↔ x.toInt = 0 := fun x => ⟨fun q => by rw [q]; rfl, fun q => Int32.toInt_inj.mp q⟩
  have w : x1 = x2 ↔ x1.toInt = x2.toInt := Int64.toInt_inj.symm
  
  constructor <;> intro r <;> omega
theorem G.lcmp_le (C : Cx p s m meth c Z y bytes maxL ret) {x1 x2 : Int64} {o : Int} {A B : Int} (hA : x1.toInt = A) (hB : x2.toInt = B) (hc : decode bytes pc = .ok (.lcmp, 1)) (hd : decode bytes (pc + 1) = .ok (.ifCond .le o, 3)) (ho : 0 ≤ ((pc + 1 : Nat) : Int) + o) (hp : (((pc + 1 : Nat) : Int) + o).toNat = n') (hn : pc + 4 = n) (kt : A ≤ B → Go p l e R s m args below meth c n0 Q cells slots h (mkF m n' Ls (st))) (kf : B < A → Go p l e R s m args below meth c n0 Q cells slots h (mkF m n Ls (st))) : Go p l e R s m args below meth c n0 Q cells slots h (mkF m pc Ls (.long x2 :: .long x1 :: st)) := by
  subst hn hA hB
  refine Go.via (fun T locs X _ t q => XS.lcmp X.here C.x rfl (hb C.by hc) rfl q) ?_
  exact G.if_le C (A := (lcmpW x1 x2).toInt) rfl (pc := pc + 1) hd ho hp (n := pc + 4) rfl (fun q => kt ((lch_le x1 x2).1 q)) (fun q => kf ((lch_le x1 x2).2 q))
theorem ich_eq {x1 x2 : Int32} : (x1 = x2 ∧ if_icmp.holds .eq x1 x2 = true) ∨ (x1 ≠ x2 ∧ if_icmp.holds .eq x1 x2 = false) := by
  by_cases q : x1 = x2 <;> simp [if_icmp.holds, q]
theorem G.icmp_eq (C : Cx p s m meth c Z y bytes maxL ret) {x1 x2 : Int32} {o : Int} {A B : Int} (hA : x1.toInt = A) (hB : x2.toInt = B) (hd : decode bytes pc = .ok (.if_icmp .eq o, 3)) (ho : 0 ≤ (pc : Int) + o) (hp : ((pc : Int) + o).toNat = n') (hn : pc + 3 = n) (kt : x1 = x2 → A = B → Go p l e R s m args below meth c n0 Q cells slots h (mkF m n' Ls (st))) (kf : x1 ≠ x2 → A ≠ B → Go p l e R s m args below meth c n0 Q cells slots h (mkF m n Ls (st))) : Go p l e R s m args below meth c n0 Q cells slots h (mkF m pc Ls (.int x2 :: .int x1 :: st)) := by
  subst hn hA hB
  rcases ich_eq (x1 := x1) (x2 := x2) with ⟨q, r⟩ | ⟨q, r⟩
  · exact Go.via (fun T locs X _ t q => XS.icmpYes X.here C.x rfl rfl (hb C.by hd) rfl r ho hp q) (kt q (congrArg _ q))
  · exact Go.via (fun T locs X _ t q => XS.icmpNo X.here C.x rfl (hb C.by hd) rfl r q) (kf q (fun r => q (Int32.toInt_inj.mp r)))
theorem G.if_eq (C : Cx p s m meth c Z y bytes maxL ret) {x1 : Int32} {o : Int} {A : Int} (hA : x1.toInt = A) (hd : decode bytes pc = .ok (.ifCond .eq o, 3)) (ho : 0 ≤ (pc : Int) + o) (hp : ((pc : Int) + o).toNat = n') (hn : pc + 3 = n) (kt : x1 = 0 → A = 0 → Go p l e R s m args below meth c n0 Q cells slots h (mkF m n' Ls (st))) (kf : x1 ≠ 0 → A ≠ 0 → Go p l e R s m args below meth c n0 Q cells slots h (mkF m n Ls (st))) : Go p l e R s m args below meth c n0 Q cells slots h (mkF m pc Ls (.int x1 :: st)) := by
  subst hn hA
  rcases ich_eq (x1 := x1) (x2 := 0) with ⟨q, r⟩ | ⟨q, r⟩
  · exact Go.via (fun T locs X _ t q => XS.ifYes X.here C.x rfl rfl (hb C.by hd) rfl ((if0 _ _).trans r) ho hp q) (kt q (congrArg Int32.toInt q))
  · exact Go.via (fun T locs X _ t q => XS.ifNo X.here C.x rfl (hb C.by hd) rfl ((if0 _ _).trans r) q) (kf q (fun r => q (Int32.toInt_inj.mp r)))
theorem lch_eq (x1 x2 : Int64) : ((lcmpW x1 x2) = 0 → x1 = x2) ∧ ((lcmpW x1 x2) ≠ 0 → x1 ≠ x2) := by
  have q := c_lcmp x1 x2
  have z : ∀ x : Int32, x = 0 ↔ x.toInt = 0 := fun x => ⟨fun q => by rw [q]; rfl, fun q => Int32.toInt_inj.mp q⟩
  have w : x1 = x2 ↔ x1.toInt = x2.toInt := Int64.toInt_inj.symm
  simp only [ne_eq, z, w]
  constructor <;> intro r <;> omega
theorem G.lcmp_eq (C : Cx p s m meth c Z y bytes maxL ret) {x1 x2 : Int64} {o : Int} {A B : Int} (hA : x1.toInt = A) (hB : x2.toInt = B) (hc : decode bytes pc = .ok (.lcmp, 1)) (hd : decode bytes (pc + 1) = .ok (.ifCond .eq o, 3)) (ho : 0 ≤ ((pc + 1 : Nat) : Int) + o) (hp : (((pc + 1 : Nat) : Int) + o).toNat = n') (hn : pc + 4 = n) (kt : x1 = x2 → A = B → Go p l e R s m args below meth c n0 Q cells slots h (mkF m n' Ls (st))) (kf : x1 ≠ x2 → A ≠ B → Go p l e R s m args below meth c n0 Q cells slots h (mkF m n Ls (st))) : Go p l e R s m args below meth c n0 Q cells slots h (mkF m pc Ls (.long x2 :: .long x1 :: st)) := by
  subst hn hA hB
  refine Go.via (fun T locs X _ t q => XS.lcmp X.here C.x rfl (hb C.by hc) rfl q) ?_
  exact G.if_eq C (A := (lcmpW x1 x2).toInt) rfl (pc := pc + 1) hd ho hp (n := pc + 4) rfl (fun q _ => kt ((lch_eq x1 x2).1 q) (congrArg _ ((lch_eq x1 x2).1 q))) (fun q _ => kf ((lch_eq x1 x2).2 q) (fun r => (lch_eq x1 x2).2 q (Int64.toInt_inj.mp r)))
theorem ich_ne {x1 x2 : Int32} : (x1 ≠ x2 ∧ if_icmp.holds .ne x1 x2 = true) ∨ (x1 = x2 ∧ if_icmp.holds .ne x1 x2 = false) := by
  by_cases q : x1 = x2 <;> simp [if_icmp.holds, q]
theorem G.icmp_ne (C : Cx p s m meth c Z y bytes maxL ret) {x1 x2 : Int32} {o : Int} {A B : Int} (hA : x1.toInt = A) (hB : x2.toInt = B) (hd : decode bytes pc = .ok (.if_icmp .ne o, 3)) (ho : 0 ≤ (pc : Int) + o) (hp : ((pc : Int) + o).toNat = n') (hn : pc + 3 = n) (kt : x1 ≠ x2 → A ≠ B → Go p l e R s m args below meth c n0 Q cells slots h (mkF m n' Ls (st))) (kf : x1 = x2 → A = B → Go p l e R s m args below meth c n0 Q cells slots h (mkF m n Ls (st))) : Go p l e R s m args below meth c n0 Q cells slots h (mkF m pc Ls (.int x2 :: .int x1 :: st)) := by
  subst hn hA hB
  rcases ich_ne (x1 := x1) (x2 := x2) with ⟨q, r⟩ | ⟨q, r⟩
  · exact Go.via (fun T locs X _ t q => XS.icmpYes X.here C.x rfl rfl (hb C.by hd) rfl r ho hp q) (kt q (fun r => q (Int32.toInt_inj.mp r)))
  · exact Go.via (fun T locs X _ t q => XS.icmpNo X.here C.x rfl (hb C.by hd) rfl r q) (kf q (congrArg _ q))
theorem G.if_ne (C : Cx p s m meth c Z y bytes maxL ret) {x1 : Int32} {o : Int} {A : Int} (hA : x1.toInt = A) (hd : decode bytes pc = .ok (.ifCond .ne o, 3)) (ho : 0 ≤ (pc : Int) + o) (hp : ((pc : Int) + o).toNat = n') (hn : pc + 3 = n) (kt : x1 ≠ 0 → A ≠ 0 → Go p l e R s m args below meth c n0 Q cells slots h (mkF m n' Ls (st))) (kf : x1 = 0 → A = 0 → Go p l e R s m args below meth c n0 Q cells slots h (mkF m n Ls (st))) : Go p l e R s m args below meth c n0 Q cells slots h (mkF m pc Ls (.int x1 :: st)) := by
  subst hn hA
  rcases ich_ne (x1 := x1) (x2 := 0) with ⟨q, r⟩ | ⟨q, r⟩
  · exact Go.via (fun T locs X _ t q => XS.ifYes X.here C.x rfl rfl (hb C.by hd) rfl ((if0 _ _).trans r) ho hp q) (kt q (fun r => q (Int32.toInt_inj.mp r)))
  · exact Go.via (fun T locs X _ t q => XS.ifNo X.here C.x rfl (hb C.by hd) rfl ((if0 _ _).trans r) q) (kf q (congrArg Int32.toInt q))
theorem lch_ne (x1 x2 : Int64) : ((lcmpW x1 x2) ≠ 0 → x1 ≠ x2) ∧ ((lcmpW x1 x2) = 0 → x1 = x2) := by
  have q := c_lcmp x1 x2
  have z : ∀ x : Int32, x = 0 ↔ x.toInt = 0 := fun x => ⟨fun q => by rw [q]; rfl, fun q => Int32.toInt_inj.mp q⟩
  have w : x1 = x2 ↔ x1.toInt = x2.toInt := Int64.toInt_inj.symm
  simp only [ne_eq, z, w]
  constructor <;> intro r <;> omega
theorem G.lcmp_ne (C : Cx p s m meth c Z y bytes maxL ret) {x1 x2 : Int64} {o : Int} {A B : Int} (hA : x1.toInt = A) (hB : x2.toInt = B) (hc : decode bytes pc = .ok (.lcmp, 1)) (hd : decode bytes (pc + 1) = .ok (.ifCond .ne o, 3)) (ho : 0 ≤ ((pc + 1 : Nat) : Int) + o) (hp : (((pc + 1 : Nat) : Int) + o).toNat = n') (hn : pc + 4 = n) (kt : x1 ≠ x2 → A ≠ B → Go p l e R s m args below meth c n0 Q cells slots h (mkF m n' Ls (st))) (kf : x1 = x2 → A = B → Go p l e R s m args below meth c n0 Q cells slots h (mkF m n Ls (st))) : Go p l e R s m args below meth c n0 Q cells slots h (mkF m pc Ls (.long x2 :: .long x1 :: st)) := by
  subst hn hA hB
  refine Go.via (fun T locs X _ t q => XS.lcmp X.here C.x rfl (hb C.by hc) rfl q) ?_
  exact G.if_ne C (A := (lcmpW x1 x2).toInt) rfl (pc := pc + 1) hd ho hp (n := pc + 4) rfl (fun q _ => kt ((lch_ne x1 x2).1 q) (fun r => (lch_ne x1 x2).1 q (Int64.toInt_inj.mp r))) (fun q _ => kf ((lch_ne x1 x2).2 q) (congrArg _ ((lch_ne x1 x2).2 q)))
theorem G.ifnullN (C : Cx p s m meth c Z y bytes maxL ret) {b : Addr} {o : Int} (hd : decode bytes pc = .ok (.ifnull o, 3)) (hn : pc + 3 = n) (k : Go p l e R s m args below meth c n0 Q cells slots h (mkF m n Ls (st))) : Go p l e R s m args below meth c n0 Q cells slots h (mkF m pc Ls (.ref b :: st)) := by
  subst hn
  exact Go.via (fun T locs X _ t q => XS.ifnullNo X.here C.x rfl (hb C.by hd) rfl q) k
theorem G.ifnullY (C : Cx p s m meth c Z y bytes maxL ret) {o : Int} (hd : decode bytes pc = .ok (.ifnull o, 3)) (ho : 0 ≤ (pc : Int) + o) (hp : ((pc : Int) + o).toNat = n) (k : Go p l e R s m args below meth c n0 Q cells slots h (mkF m n Ls (st))) : Go p l e R s m args below meth c n0 Q cells slots h (mkF m pc Ls (.null :: st)) :=
  Go.via (fun T locs X _ t q => XS.ifnullYes X.here C.x rfl rfl (hb C.by hd) rfl ho hp q) k
theorem G.ifnonnullY (C : Cx p s m meth c Z y bytes maxL ret) {b : Addr} {o : Int} (hd : decode bytes pc = .ok (.ifnonnull o, 3)) (ho : 0 ≤ (pc : Int) + o) (hp : ((pc : Int) + o).toNat = n) (k : Go p l e R s m args below meth c n0 Q cells slots h (mkF m n Ls (st))) : Go p l e R s m args below meth c n0 Q cells slots h (mkF m pc Ls (.ref b :: st)) :=
  Go.via (fun T locs X _ t q => XS.ifnonnullYes X.here C.x rfl rfl (hb C.by hd) rfl ho hp q) k
theorem G.ifnonnullN (C : Cx p s m meth c Z y bytes maxL ret) {o : Int} (hd : decode bytes pc = .ok (.ifnonnull o, 3)) (hn : pc + 3 = n) (k : Go p l e R s m args below meth c n0 Q cells slots h (mkF m n Ls (st))) : Go p l e R s m args below meth c n0 Q cells slots h (mkF m pc Ls (.null :: st)) := by
  subst hn
  exact Go.via (fun T locs X _ t q => XS.ifnonnullNo X.here C.x rfl (hb C.by hd) rfl q) k
theorem G.acmp_eq (C : Cx p s m meth c Z y bytes maxL ret) {x1 x2 : Value} {o : Int} (h1 : x1.isRef = true) (h2 : x2.isRef = true) (hd : decode bytes pc = .ok (.if_acmp .eq o, 3)) (ho : 0 ≤ (pc : Int) + o) (hp : ((pc : Int) + o).toNat = n') (hn : pc + 3 = n) (kt : x1 = x2 → Go p l e R s m args below meth c n0 Q cells slots h (mkF m n' Ls (st))) (kf : x1 ≠ x2 → Go p l e R s m args below meth c n0 Q cells slots h (mkF m n Ls (st))) : Go p l e R s m args below meth c n0 Q cells slots h (mkF m pc Ls (x2 :: x1 :: st)) := by
  subst hn
  by_cases r : x1 = x2
  · exact Go.via (fun T locs X _ t q => Jvm.RoadKit.acmp (g := mkF m pc Ls (x2 :: x1 :: st)) X C.x rfl h1 h2 (same := true) rfl (hb C.by hd) rfl (decide_eq_true r) ho (hp.symm) q) (kt r)
  · exact Go.via (fun T locs X _ t q => Jvm.RoadKit.acmp (g := mkF m pc Ls (x2 :: x1 :: st)) X C.x rfl h1 h2 (same := false) rfl (hb C.by hd) rfl (decide_eq_false r) ho (rfl) q) (kf r)
theorem G.acmp_ne (C : Cx p s m meth c Z y bytes maxL ret) {x1 x2 : Value} {o : Int} (h1 : x1.isRef = true) (h2 : x2.isRef = true) (hd : decode bytes pc = .ok (.if_acmp .ne o, 3)) (ho : 0 ≤ (pc : Int) + o) (hp : ((pc : Int) + o).toNat = n') (hn : pc + 3 = n) (kt : x1 ≠ x2 → Go p l e R s m args below meth c n0 Q cells slots h (mkF m n' Ls (st))) (kf : x1 = x2 → Go p l e R s m args below meth c n0 Q cells slots h (mkF m n Ls (st))) : Go p l e R s m args below meth c n0 Q cells slots h (mkF m pc Ls (x2 :: x1 :: st)) := by
  subst hn
  by_cases r : x1 = x2
  · exact Go.via (fun T locs X _ t q => Jvm.RoadKit.acmp (g := mkF m pc Ls (x2 :: x1 :: st)) X C.x rfl h1 h2 (same := true) rfl (hb C.by hd) rfl (decide_eq_true r) ho (rfl) q) (kf r)
  · exact Go.via (fun T locs X _ t q => Jvm.RoadKit.acmp (g := mkF m pc Ls (x2 :: x1 :: st)) X C.x rfl h1 h2 (same := false) rfl (hb C.by hd) rfl (decide_eq_false r) ho (hp.symm) q) (kt r)
theorem G.ldc (C : Cx p s m meth c Z y bytes maxL ret) {index : Nat} {v : Int32} (w : (Jvm.Cond.constant y.cls index v).before a0 Z = true) (hd : decode bytes pc = .ok (.ldc index, 2)) (hn : pc + 2 = n) (k : Go p l e R s m args below meth c n0 Q cells slots h (mkF m n Ls (.int v :: st))) : Go p l e R s m args below meth c n0 Q cells slots h (mkF m pc Ls (st)) := by
  subst hn
  exact Go.via (fun T locs X _ t q => X.ldcInt C.x C.own (mvT C.z w) (g := mkF m pc Ls st) rfl (hb C.by hd) t q) k
theorem G.ldc_w (C : Cx p s m meth c Z y bytes maxL ret) {index : Nat} {v : Int32} (w : (Jvm.Cond.constant y.cls index v).before a0 Z = true) (hd : decode bytes pc = .ok (.ldc_w index, 3)) (hn : pc + 3 = n) (k : Go p l e R s m args below meth c n0 Q cells slots h (mkF m n Ls (.int v :: st))) : Go p l e R s m args below meth c n0 Q cells slots h (mkF m pc Ls (st)) := by
  subst hn
  exact Go.via (fun T locs X _ t q => X.ldcwInt C.x C.own (mvT C.z w) (g := mkF m pc Ls st) rfl (hb C.by hd) t q) k
theorem G.ldc2 (C : Cx p s m meth c Z y bytes maxL ret) {index : Nat} {v : Int64} (w : (Jvm.Cond.constantLong y.cls index v).before a0 Z = true) (hd : decode bytes pc = .ok (.ldc2_w index, 3)) (hn : pc + 3 = n) (k : Go p l e R s m args below meth c n0 Q cells slots h (mkF m n Ls (.long v :: st))) : Go p l e R s m args below meth c n0 Q cells slots h (mkF m pc Ls (st)) := by
  subst hn
  exact Go.via (fun T locs X _ t q => X.ldc2Long C.x C.own (mvT C.z w) (g := mkF m pc Ls st) rfl (hb C.by hd) t q) k
theorem Go.leave (C : Cx p s m meth c Z y bytes maxL ret) {v : Option Value} {f : JFrame} (hv : ret = none → v = none) (hc : cells ≤ R.cells) (hs : slots ≤ R.slots)
    (hret : ∀ T locs, Stand p l e R s m args below meth c T locs cells slots → ∀ fs, (∀ (f : JFrame) (acts : List Action), f.method = m → f.locked = none → f.entered = [] → (doReturn e (T.setTop f) acts v).1 = T.setFrames fs) → Steps p.tables e below (T.setTop f) (T.setFrames fs))
    (q : Q v h) : Go p l e R s m args below meth c n0 Q cells slots h f := fun T locs X N e0 => by
  obtain ⟨fs, hr, hrun, hended, hW, hsame⟩ := X.leave (v := v) (fun q => hv (C.rt.symm.trans q)) C.locks
  refine ⟨_, _, hret T locs X fs hr, hrun, hended, v, locs, rfl, ⟨N, ?_⟩, ⟨_, rfl⟩, hW, hsame.mono hc hs⟩
  show Q v T.heap
  rw [e0]; exact q
theorem G.return_ (C : Cx p s m meth c Z y bytes maxL none) (hd : decode bytes pc = .ok (.return_, 1)) (hc : cells ≤ R.cells) (hs : slots ≤ R.slots) (q : Q none h) : Go p l e R s m args below meth c n0 Q cells slots h (mkF m pc Ls ([])) :=
  Go.leave C (v := none) (fun _ => rfl) hc hs (fun T locs X fs hr => X.returnOut C.x C.rt (hb C.by hd) hr) q
theorem G.ireturn {t : FieldType} (C : Cx p s m meth c Z y bytes maxL (some t)) {x : Int32} (hd : decode bytes pc = .ok (.ireturn, 1)) (hnn : narrow t (.int x) = .int x) (ht : t = .int ∨ t = .boolean ∨ t = .byte ∨ t = .char ∨ t = .short) (hc : cells ≤ R.cells) (hs : slots ≤ R.slots) (q : Q (some (.int x)) h) : Go p l e R s m args below meth c n0 Q cells slots h (mkF m pc Ls (.int x :: st)) :=
  Go.leave C (v := some (.int x)) (fun q => nomatch q) hc hs (fun T locs X fs hr => retOut X C.x C.rt hnn (Or.inl ⟨rfl, ht, _, rfl⟩) (hb C.by hd) hr) q
theorem G.lreturn (C : Cx p s m meth c Z y bytes maxL (some .long)) {x : Int64} (hd : decode bytes pc = .ok (.lreturn, 1)) (hc : cells ≤ R.cells) (hs : slots ≤ R.slots) (q : Q (some (.long x)) h) : Go p l e R s m args below meth c n0 Q cells slots h (mkF m pc Ls (.long x :: st)) :=
  Go.leave C (v := some (.long x)) (fun q => nomatch q) hc hs (fun T locs X fs hr => retOut X C.x C.rt rfl (Or.inr (Or.inl ⟨rfl, rfl, _, rfl⟩)) (hb C.by hd) hr) q
theorem G.areturn {t : FieldType} (C : Cx p s m meth c Z y bytes maxL (some t)) {x : Value} (hd : decode bytes pc = .ok (.areturn, 1)) (ht : t.isReference = true) (hx : x.isRef = true) (hnn : narrow t x = x) (hc : cells ≤ R.cells) (hs : slots ≤ R.slots) (q : Q (some x) h) : Go p l e R s m args below meth c n0 Q cells slots h (mkF m pc Ls (x :: st)) :=
  Go.leave C (v := some x) (fun q => nomatch q) hc hs (fun T locs X fs hr => retOut X C.x C.rt hnn (Or.inr (Or.inr (Or.inr (Or.inr ⟨rfl, ht, hx⟩)))) (hb C.by hd) hr) q
theorem G.getfield (C : Cx p s m meth c Z y bytes maxL ret) {R0 O nm d host : String} {index : Nat} (w : (Jvm.Cond.fieldLink y.cls index R0 nm d).before a0 Z = true ∨ (Jvm.Cond.fieldLinkNest y.cls index R0 nm d host).before a0 Z = true) (via : Via Z R0 O nm d) {a : Addr} {v : Value} (F : Fld Z h a O nm d v) (hd : decode bytes pc = .ok (.getfield index, 3)) (hn : pc + 3 = n) (k : Go p l e R s m args below meth c n0 Q cells slots h (mkF m n Ls (v :: st))) : Go p l e R s m args below meth c n0 Q cells slots h (mkF m pc Ls (.ref a :: st)) := fun T locs X N q => by
  subst hn
  obtain ⟨T', X', e', st'⟩ := getF X C.x C.z C.own w via q F (g := mkF m pc Ls (.ref a :: st)) rfl rfl (hb C.by hd)
  obtain ⟨t, o, s1, r⟩ := k T' locs X' N e'
  exact ⟨t, o, st' t s1, r⟩
theorem G.getstatic (C : Cx p s m meth c Z y bytes maxL ret) {R0 O nm d host : String} {index : Nat} (w : (Jvm.Cond.fieldLink y.cls index R0 nm d).before a0 Z = true ∨ (Jvm.Cond.fieldLinkNest y.cls index R0 nm d host).before a0 Z = true) (via : Via Z R0 O nm d) {v : Value} (F : Sta Z h O nm d v) (hd : decode bytes pc = .ok (.getstatic index, 3)) (hn : pc + 3 = n) (k : Go p l e R s m args below meth c n0 Q cells slots h (mkF m n Ls (v :: st))) : Go p l e R s m args below meth c n0 Q cells slots h (mkF m pc Ls (st)) := fun T locs X N q => by
  subst hn
  obtain ⟨T', X', e', st'⟩ := getS2 X C.x C.z C.own w via q F (g := mkF m pc Ls st) rfl (hb C.by hd)
  obtain ⟨t, o, s1, r⟩ := k T' locs X' N e'
  exact ⟨t, o, st' t s1, r⟩
theorem G.putfield (C : Cx p s m meth c Z y bytes maxL ret) {R0 O nm d host K : String} {index kk : Nat} {ty : FieldType} (w : (Jvm.Cond.fieldLink y.cls index R0 nm d).before a0 Z = true ∨ (Jvm.Cond.fieldLinkNest y.cls index R0 nm d host).before a0 Z = true) (via : Via Z R0 O nm d) {a : Addr} {v old : Value} (F : Fld Z h a O nm d old) (E : Exa Z h a K)
    (L : (Jvm.Cond.lays K O nm d).before a0 Z = true ∨ ((Jvm.Cond.laysFinal K O nm d).before a0 Z = true ∧ y.cls = O ∧ y.name = "<init>")) (wi : (Jvm.Cond.instantiable K kk).before a0 Z = true) (hty : parseFieldDescriptor d = some ty) (hnn : narrow ty v = v) (hf : fits ty v = true) (g : n0 ≤ a)
    (hd : decode bytes pc = .ok (.putfield index, 3)) (hn : pc + 3 = n) (k : ∀ h', Wr h h' a (RoadKit.slotOf Z O nm d) v → Go p l e R s m args below meth c n0 Q cells slots h' (mkF m n Ls (st))) : Go p l e R s m args below meth c n0 Q cells slots h (mkF m pc Ls (v :: .ref a :: st)) := fun T locs X N q => by
  subst hn
  obtain ⟨T', h', X', e', W, st'⟩ := putF X C.x C.z C.own w via q F E (L.imp id fun r => ⟨r.1, r.2.1, C.nm.trans r.2.2⟩) wi hty hnn hf (g := mkF m pc Ls (v :: .ref a :: st)) rfl rfl (hb C.by hd)
  obtain ⟨t, o, s1, r⟩ := k h' W T' _ X' (Fr.snoc X' N g) e'
  exact ⟨t, o, st' t s1, r⟩
theorem G.putfieldN (C : Cx p s m meth c Z y bytes maxL ret) {R0 O nm d K : String} {index kk : Nat} {ty : FieldType} (w : (Jvm.Cond.fieldLink y.cls index R0 nm d).before a0 Z = true) (via : Via Z R0 O nm d) {a : Addr} {v v' old : Value} (F : Fld Z h a O nm d old) (E : Exa Z h a K)
    (L : (Jvm.Cond.lays K O nm d).before a0 Z = true ∨ ((Jvm.Cond.laysFinal K O nm d).before a0 Z = true ∧ y.cls = O ∧ y.name = "<init>")) (wi : (Jvm.Cond.instantiable K kk).before a0 Z = true) (hty : parseFieldDescriptor d = some ty) (hnn : narrow ty v = v') (hf : fits ty v' = true) (g : n0 ≤ a)
    (hd : decode bytes pc = .ok (.putfield index, 3)) (hn : pc + 3 = n) (k : ∀ h', Wr h h' a (RoadKit.slotOf Z O nm d) v' → Go p l e R s m args below meth c n0 Q cells slots h' (mkF m n Ls (st))) : Go p l e R s m args below meth c n0 Q cells slots h (mkF m pc Ls (v :: .ref a :: st)) := fun T locs X N q => by
  subst hn
  obtain ⟨T', h', X', e', W, st'⟩ := putFN X C.x C.z C.own w via q F E (L.imp id fun r => ⟨r.1, r.2.1, C.nm.trans r.2.2⟩) wi hty hnn hf (g := mkF m pc Ls (v :: .ref a :: st)) rfl rfl (hb C.by hd)
  obtain ⟨t, o, s1, r⟩ := k h' W T' _ X' (Fr.snoc X' N g) e'
  exact ⟨t, o, st' t s1, r⟩
theorem G.new (C : Cx p s m meth c Z y bytes maxL ret) {K : String} {index ns c' s' : Nat} (w : (Jvm.Cond.classLink y.cls index K).before a0 Z = true) (wi : (Jvm.Cond.instantiable K ns).before a0 Z = true) (wz : (Jvm.Cond.initialized K).before a0 Z = true) (hd : decode bytes pc = .ok (.new index, 3)) (hn : pc + 3 = n) (hc' : cells + 1 = c') (hs' : slots + ns = s') (hc : c' ≤ R.cells) (hs : s' ≤ R.slots)
    (k : ∀ h' b, b = h.size → Ext h h' → Exa Z h' b K → (∀ {O nm d : String} {ty : FieldType}, Laid Z a0 K O nm d → parseFieldDescriptor d = some ty → Fld Z h' b O nm d (defaultValue ty)) → Go p l e R s m args below meth c n0 Q c' s' h' (mkF m n Ls (.ref b :: st))) : Go p l e R s m args below meth c n0 Q cells slots h (mkF m pc Ls (st)) := fun T locs X N q => by
  subst hn hc' hs'
  obtain ⟨T', h', X', e', E, A, D, -, st'⟩ := newO X C.x C.z C.own w wi wz q (g := mkF m pc Ls st) rfl (hb C.by hd) hc hs
  obtain ⟨t, o, s1, r⟩ := k h' _ rfl E A D T' _ X' N e'
  exact ⟨t, o, st' t s1, r⟩
theorem G.objinit (C : Cx p s m meth c Z y bytes maxL ret) {index W : Nat} (w1 : (Jvm.Cond.methodLink y.cls index Lib.objectInit).before a0 Z = true) (w2 : (Jvm.Cond.instanceMethod Lib.objectInit).before a0 Z = true) (w3 : (Jvm.Cond.code Lib.objectInit ⟨#[0xb1]⟩ 1 none).before a0 Z = true) {a : Addr} (hd : decode bytes pc = .ok (.invokespecial index, 3)) (hsz : Ls.size = maxL) (hf : 1 ≤ R.frames) (hW : (st.map fun v => v.category).sum = W) (hl : W + 12 ≤ R.locals) (hn : pc + 3 = n) (k : Go p l e R s m args below meth c n0 Q cells slots h (mkF m n Ls (st))) : Go p l e R s m args below meth c n0 Q cells slots h (mkF m pc Ls (.ref a :: st)) := fun T locs X N q => by
  subst hn hW
  obtain ⟨T', X', e', st'⟩ := initO X C.x C.z C.own w1 w2 w3 q (g := mkF m pc Ls (.ref a :: st)) rfl (hsz.trans C.ml.symm) rfl (hb C.by hd) hf (W := (st.map fun v => v.category).sum) (by show 2 * 0 + _ ≤ _; omega) hl
  obtain ⟨t, o, s1, r⟩ := k T' locs X' N e'
  exact ⟨t, o, st' t s1, r⟩
theorem G.callS (C : Cx p s m meth c Z y bytes maxL ret) {index W : Nat} {yc : MethodName} {bc : ByteArray} {mc : Nat} {rc : Option FieldType} {rm : Room} {c' s' : Nat} {Qc : Option Value → Heap → Prop} {ps : List FieldType} {argsL stk : List Value} (w1 : (Jvm.Cond.methodLink y.cls index yc).before a0 Z = true) (w2 : (Jvm.Cond.static yc).before a0 Z = true) (w3 : (Jvm.Cond.initialized yc.cls).before a0 Z = true) (w4 : (Jvm.Cond.code yc bc mc rc).before a0 Z = true) (hy : yc.cls ≠ "java/lang/invoke/MethodHandle" ∧ yc.cls ≠ "java/lang/invoke/VarHandle") (M : Met l Z yc bc mc rc rm argsL.toArray h n0 Qc) (hsz : Ls.size = maxL) (hf : rm.frames + 1 ≤ R.frames) (hW : (st.map fun v => v.category).sum = W) (hl : W + (mc + 11) + rm.locals ≤ R.locals) (hc' : cells + rm.cells = c') (hs' : slots + rm.slots = s') (hc : c' ≤ R.cells) (hs : s' ≤ R.slots) (hd : decode bytes pc = .ok (.invokestatic index, 3)) (hn : pc + 3 = n) (hlen : parseMethodDescriptor yc.desc = some ⟨ps, rc⟩) (hal : argsL.length = ps.length) (hst : stk = argsL.reverse ++ st) (k : ∀ v h', Qc v h' → Go p l e R s m args below meth c n0 Q c' s' h' (mkF m n Ls (v.toList ++ st))) : Go p l e R s m args below meth c n0 Q cells slots h (mkF m pc Ls (stk)) := fun T locs X N q => by
  subst hn hW hc' hs' hst
  obtain ⟨v, _, ⟨T', L', k', n''⟩, -, X', ⟨Lc, hQ, h1, h2, h3⟩, st'⟩ := Jvm.LawKit.callS X C.x (y := yc) C.own (mvT C.z w1) (mvT C.z w2) (mvT C.z w3) (mvT C.z w4) hy (backOf (W := (st.map fun v => v.category).sum) (Q := fun v h L => Fr n0 L ∧ Qc v h) (M []) C.z w4 w3 hf hl) (g := mkF m pc Ls (argsL.reverse ++ st)) rfl (hsz.trans C.ml.symm) (argsL := argsL) (rest := st) (lenOf hlen hal) rfl (by show 2 * 0 + _ ≤ _; omega) (hb C.by hd) (fun _ _ => ⟨rfl, q, hc, hs⟩)
  dsimp only [Pt.U, Pt.locs, Pt.cells, Pt.slots] at X' h1 h2 h3 st' hQ
  subst h1 h2 h3
  obtain ⟨t, o, s1, r⟩ := k v _ hQ.2 T' _ X' (Fr.app N hQ.1) rfl
  exact ⟨t, o, st' t s1, r⟩
theorem G.callC (C : Cx p s m meth c Z y bytes maxL ret) {index W : Nat} {yc : MethodName} {bc : ByteArray} {mc : Nat} {rm : Room} {c' s' : Nat} {Qc : Option Value → Heap → Prop} {ps : List FieldType} {argsL stk : List Value} {a : Addr} (hy1 : yc.name = "<init>") (w1 : (Jvm.Cond.methodLink y.cls index yc).before a0 Z = true) (w2 : (Jvm.Cond.instanceMethod yc).before a0 Z = true) (w3 : (Jvm.Cond.initialized yc.cls).before a0 Z = true) (w4 : (Jvm.Cond.code yc bc mc none).before a0 Z = true) (hy : yc.cls ≠ "java/lang/invoke/MethodHandle" ∧ yc.cls ≠ "java/lang/invoke/VarHandle") (M : Met l Z yc bc mc none rm (.ref a :: argsL).toArray h n0 Qc) (hsz : Ls.size = maxL) (hf : rm.frames + 1 ≤ R.frames) (hW : (st.map fun v => v.category).sum = W) (hl : W + (mc + 11) + rm.locals ≤ R.locals) (hc' : cells + rm.cells = c') (hs' : slots + rm.slots = s') (hc : c' ≤ R.cells) (hs : s' ≤ R.slots) (hd : decode bytes pc = .ok (.invokespecial index, 3)) (hn : pc + 3 = n) (hlen : parseMethodDescriptor yc.desc = some ⟨ps, none⟩) (hal : argsL.length = ps.length) (hst : stk = argsL.reverse ++ .ref a :: st) (k : ∀ v h', Qc v h' → Go p l e R s m args below meth c n0 Q c' s' h' (mkF m n Ls (v.toList ++ st))) : Go p l e R s m args below meth c n0 Q cells slots h (mkF m pc Ls (stk)) := fun T locs X N q => by
  subst hn hW hc' hs' hst
  obtain ⟨v, _, ⟨T', L', k', n''⟩, -, X', ⟨Lc, hQ, h1, h2, h3⟩, st'⟩ := X.specialBack C.x (y := yc) hy1 C.own (mvT C.z w1) (mvT C.z w2) (mvT C.z w4) hy (backOf (W := (st.map fun v => v.category).sum) (Q := fun v h L => Fr n0 L ∧ Qc v h) (M []) C.z w4 w3 hf hl) (g := mkF m pc Ls (argsL.reverse ++ .ref a :: st)) rfl (hsz.trans C.ml.symm) (Steps.refl _) (a := a) (argsL := argsL) (rest := st) (lenOf hlen hal) rfl (by show 2 * 0 + _ ≤ _; omega) (hb C.by hd) (fun _ _ => ⟨rfl, q, hc, hs⟩)
  dsimp only [Pt.U, Pt.locs, Pt.cells, Pt.slots] at X' h1 h2 h3 st' hQ
  subst h1 h2 h3
  obtain ⟨t, o, s1, r⟩ := k v _ hQ.2 T' _ X' (Fr.app N hQ.1) rfl
  exact ⟨t, o, st'.trans s1, r⟩
theorem G.callV (C : Cx p s m meth c Z y bytes maxL ret) {index W : Nat} {yc : MethodName} {bc : ByteArray} {mc : Nat} {rc : Option FieldType} {rm : Room} {c' s' : Nat} {Qc : Option Value → Heap → Prop} {ps : List FieldType} {K : String} {yr : MethodName} {argsL stk : List Value} {a : Addr} (E : Exa Z h a K) (w1 : (Jvm.Cond.methodLink y.cls index yr).before a0 Z = true) (w5 : (Jvm.Cond.declares yr).before a0 Z = true) (hnf : ∀ s : State, Z.Warmed39 s.vm → NotFace s yr) (w6 : (Jvm.Cond.selects K yr yc).before a0 Z = true) (w2 : (Jvm.Cond.instanceMethod yc).before a0 Z = true) (w3 : (Jvm.Cond.initialized yc.cls).before a0 Z = true) (w4 : (Jvm.Cond.code yc bc mc rc).before a0 Z = true) (hy : yr.cls ≠ "java/lang/invoke/MethodHandle" ∧ yr.cls ≠ "java/lang/invoke/VarHandle") (M : Met l Z yc bc mc rc rm (.ref a :: argsL).toArray h n0 Qc) (hsz : Ls.size = maxL) (hf : rm.frames + 1 ≤ R.frames) (hW : (st.map fun v => v.category).sum = W) (hl : W + (mc + 11) + rm.locals ≤ R.locals) (hc' : cells + rm.cells = c') (hs' : slots + rm.slots = s') (hc : c' ≤ R.cells) (hs : s' ≤ R.slots) (hd : decode bytes pc = .ok (.invokevirtual index, 3)) (hn : pc + 3 = n) (hlen : parseMethodDescriptor yr.desc = some ⟨ps, rc⟩) (hal : argsL.length = ps.length) (hst : stk = argsL.reverse ++ .ref a :: st) (k : ∀ v h', Qc v h' → Go p l e R s m args below meth c n0 Q c' s' h' (mkF m n Ls (v.toList ++ st))) : Go p l e R s m args below meth c n0 Q cells slots h (mkF m pc Ls (stk)) := fun T locs X N q => by
  subst hn hW hc' hs' hst
  obtain ⟨cq, kq, qa, qb, qc⟩ := isOf C.z q E
  obtain ⟨v, _, ⟨T', L', k', n''⟩, -, X', ⟨Lc, hQ, h1, h2, h3⟩, st'⟩ := X.virtualBack C.x (y := yr) (z := yc) C.own (mvT C.z w1) (mvT C.z w5) (hnf s C.z) (mvT C.z w6) (mvT C.z w2) hy (backOf (W := (st.map fun v => v.category).sum) (Q := fun v h L => Fr n0 L ∧ Qc v h) (M []) C.z w4 w3 hf hl) qa qc (g := mkF m pc Ls (argsL.reverse ++ .ref a :: st)) rfl (hsz.trans C.ml.symm) (Steps.refl _) (argsL := argsL) (rest := st) (lenOf hlen hal) rfl (by show 2 * 0 + _ ≤ _; omega) (hb C.by hd) (fun _ _ => ⟨rfl, q, hc, hs⟩)
  dsimp only [Pt.U, Pt.locs, Pt.cells, Pt.slots] at X' h1 h2 h3 st' hQ
  subst h1 h2 h3
  obtain ⟨t, o, s1, r⟩ := k v _ hQ.2 T' _ X' (Fr.app N hQ.1) rfl
  exact ⟨t, o, st'.trans s1, r⟩
theorem nfS {yr : MethodName} {K : String} {z : MethodName} (w6 : (Jvm.Cond.selects K yr z).before a0 Z = true) (hz : z = yr) : ∀ s : State, Z.Warmed39 s.vm → NotFace s yr := fun s hZ => by
  subst hz
  exact notFace_of_selects (args := #[]) (mvT hZ w6)
def Ints (Z : State) (h : Heap) (a : Addr) (ty : FieldType) (vs : List Int32) : Prop := ∃ k z, Arv Z h a k ty z (vs.map Value.int) (.int 0) ∧ z.toInt = vs.length
def Longs (Z : State) (h : Heap) (a : Addr) (vs : List Int64) : Prop := ∃ k z, Arv Z h a k .long z (vs.map Value.long) (.long 0) ∧ z.toInt = vs.length
theorem nat_clamp {j : Int32} : j.toNatClampNeg = j.toInt.toNat := rfl
theorem not_neg {j : Int32} (hj : 0 ≤ j.toInt) : ¬ j < 0 := by rw [lt_i]; exact Int.not_lt.mpr hj
theorem of_not_neg {j : Int32} (hj : ¬ j < 0) : 0 ≤ j.toInt := by rw [lt_i] at hj; exact Int.not_lt.mp hj
theorem inb {j z : Int32} {cl : Cell} {len : Nat} (hj : 0 ≤ j.toInt) (S : cl.slots.size = z.toNatClampNeg) (hz : z.toInt = len) (hl : j.toInt.toNat < len) : ¬ (j < 0 ∨ cl.slots.size ≤ j.toNatClampNeg) := by
  rintro (q | q)
  · exact not_neg hj q
  · rw [S, nat_clamp, nat_clamp, hz] at q; omega
theorem getD_map {α : Type} (f : α → Value) (vs : List α) (i : Nat) (d : Value) {x : α} (hx : vs[i]? = some x) : (vs.map f).getD i d = f x := by
  rw [List.getD_eq_getElem?_getD, List.getElem?_map, hx]; rfl
theorem lt_of_some {α : Type} {vs : List α} {i : Nat} {x : α} (hx : vs[i]? = some x) : i < vs.length := (List.getElem?_eq_some_iff.mp hx).1
theorem Ints.lt {a : Addr} {ty : FieldType} {vs : List Int32} (F : Ints Z h a ty vs) : a < h.size := by obtain ⟨k, z, A, -⟩ := F; exact A.lt
theorem Ints.ext {h' : Heap} {a : Addr} {ty : FieldType} {vs : List Int32} (F : Ints Z h a ty vs) (E : Ext h h') : Ints Z h' a ty vs := by obtain ⟨k, z, A, q⟩ := F; exact ⟨k, z, A.ext E, q⟩
theorem Ints.keep {h' : Heap} {ws : List Addr} {a : Addr} {ty : FieldType} {vs : List Int32} (F : Ints Z h a ty vs) (K : Keep h h' ws) (r : a ∉ ws) : Ints Z h' a ty vs := by obtain ⟨k, z, A, q⟩ := F; exact ⟨k, z, A.keep K r, q⟩
theorem Ints.other {h' : Heap} {sl : Nat} {v : Value} {a b : Addr} {ty : FieldType} {vs : List Int32} (F : Ints Z h a ty vs) (W : Wr h h' b sl v) (r : a ≠ b) : Ints Z h' a ty vs := by obtain ⟨k, z, A, q⟩ := F; exact ⟨k, z, A.other W r, q⟩
theorem Ints.len {a : Addr} {ty : FieldType} {vs : List Int32} (F : Ints Z h a ty vs) : (vs.length : Int) < 2147483648 := by obtain ⟨k, z, A, q⟩ := F; rw [← q]; exact (rng32 z).2
theorem Ints.at {a : Addr} {ty : FieldType} {vs : List Int32} (F : Ints Z h a ty vs) {j : Int32} {x : Int32} (hj : 0 ≤ j.toInt) (hx : vs[j.toInt.toNat]? = some x) : ∃ cl, Arr Z h a cl ty ∧ ¬ (j < 0 ∨ cl.slots.size ≤ j.toNatClampNeg) ∧ cl.slots[j.toNatClampNeg]? = some (.int x) ∧ fits ty (.int x) = true := by
  obtain ⟨k, z, ⟨cl, A, q1, S, N, H, G⟩, hz⟩ := F
  have hi := inb hj S hz (lt_of_some hx)
  have hi2 : j.toNatClampNeg < cl.slots.size := Nat.lt_of_not_le fun y => hi (Or.inr y)
  have e1 := H _ hi2
  have e2 := G _ hi2
  rw [nat_clamp, getD_map _ _ _ _ hx] at e1 e2
  exact ⟨cl, A, hi, e1, e2⟩
theorem Ints.put {h' : Heap} {a : Addr} {ty : FieldType} {vs : List Int32} (F : Ints Z h a ty vs) {j : Int32} {x : Int32} (hj : 0 ≤ j.toInt) (hl : j.toInt < vs.length) (hf : fits ty (.int x) = true) : ∃ cl, Arr Z h a cl ty ∧ ¬ (j < 0 ∨ cl.slots.size ≤ j.toNatClampNeg) ∧ (Wr h h' a j.toNatClampNeg (.int x) → Ints Z h' a ty (vs.set j.toInt.toNat x)) := by
  obtain ⟨k, z, ⟨cl, A, q1, S, N, H, G⟩, hz⟩ := F
  have hl2 : j.toInt.toNat < vs.length := by omega
  refine ⟨cl, A, inb hj S hz hl2, fun W => ⟨k, z, ?_, ?_⟩⟩
  · have r := Arv.set A q1 S N H G hf W j.toInt.toNat rfl (by rw [List.length_map]; exact hl2)
    rw [List.map_set]; exact r
  · rw [List.length_set]; exact hz
theorem Longs.lt {a : Addr} {vs : List Int64} (F : Longs Z h a vs) : a < h.size := by obtain ⟨k, z, A, -⟩ := F; exact A.lt
theorem Longs.ext {h' : Heap} {a : Addr} {vs : List Int64} (F : Longs Z h a vs) (E : Ext h h') : Longs Z h' a vs := by obtain ⟨k, z, A, q⟩ := F; exact ⟨k, z, A.ext E, q⟩
theorem Longs.keep {h' : Heap} {ws : List Addr} {a : Addr} {vs : List Int64} (F : Longs Z h a vs) (K : Keep h h' ws) (r : a ∉ ws) : Longs Z h' a vs := by obtain ⟨k, z, A, q⟩ := F; exact ⟨k, z, A.keep K r, q⟩
theorem Longs.other {h' : Heap} {sl : Nat} {v : Value} {a b : Addr} {vs : List Int64} (F : Longs Z h a vs) (W : Wr h h' b sl v) (r : a ≠ b) : Longs Z h' a vs := by obtain ⟨k, z, A, q⟩ := F; exact ⟨k, z, A.other W r, q⟩
theorem Longs.len {a : Addr} {vs : List Int64} (F : Longs Z h a vs) : (vs.length : Int) < 2147483648 := by obtain ⟨k, z, A, q⟩ := F; rw [← q]; exact (rng32 z).2
theorem Longs.at {a : Addr} {vs : List Int64} (F : Longs Z h a vs) {j : Int32} {x : Int64} (hj : 0 ≤ j.toInt) (hx : vs[j.toInt.toNat]? = some x) : ∃ cl, Arr Z h a cl .long ∧ ¬ (j < 0 ∨ cl.slots.size ≤ j.toNatClampNeg) ∧ cl.slots[j.toNatClampNeg]? = some (.long x) ∧ fits .long (.long x) = true := by
  obtain ⟨k, z, ⟨cl, A, q1, S, N, H, G⟩, hz⟩ := F
  have hi := inb hj S hz (lt_of_some hx)
  have hi2 : j.toNatClampNeg < cl.slots.size := Nat.lt_of_not_le fun y => hi (Or.inr y)
  have e1 := H _ hi2
  have e2 := G _ hi2
  rw [nat_clamp, getD_map _ _ _ _ hx] at e1 e2
  exact ⟨cl, A, hi, e1, e2⟩
theorem Longs.put {h' : Heap} {a : Addr} {vs : List Int64} (F : Longs Z h a vs) {j : Int32} {x : Int64} (hj : 0 ≤ j.toInt) (hl : j.toInt < vs.length) (hf : fits .long (.long x) = true) : ∃ cl, Arr Z h a cl .long ∧ ¬ (j < 0 ∨ cl.slots.size ≤ j.toNatClampNeg) ∧ (Wr h h' a j.toNatClampNeg (.long x) → Longs Z h' a (vs.set j.toInt.toNat x)) := by
  obtain ⟨k, z, ⟨cl, A, q1, S, N, H, G⟩, hz⟩ := F
  have hl2 : j.toInt.toNat < vs.length := by omega
  refine ⟨cl, A, inb hj S hz hl2, fun W => ⟨k, z, ?_, ?_⟩⟩
  · have r := Arv.set A q1 S N H G hf W j.toInt.toNat rfl (by rw [List.length_map]; exact hl2)
    rw [List.map_set]; exact r
  · rw [List.length_set]; exact hz
theorem G.iaload (C : Cx p s m meth c Z y bytes maxL ret) {a : Addr} {j : Int32} {x : Int32} {vs : List Int32} (F : Ints Z h a .int vs) (hj : 0 ≤ j.toInt) (hx : vs[j.toInt.toNat]? = some x) (hd : decode bytes pc = .ok (.iaload, 1)) (hn : pc + 1 = n) (k : Go p l e R s m args below meth c n0 Q cells slots h (mkF m n Ls (.int x :: st))) : Go p l e R s m args below meth c n0 Q cells slots h (mkF m pc Ls (.int j :: .ref a :: st)) := by
  subst hn
  obtain ⟨cl, A, h1, h2, -⟩ := F.at hj hx
  exact Go.via (fun T locs X q t r => X.iaload C.x (j := j) (v := .int x) (by rw [q]; exact A.1) (State.isArrayOf_alike C.z.alike A.2.1) A.2.2 h1 h2 (g := mkF m pc Ls (.int j :: .ref a :: st)) rfl rfl (hb C.by hd) t r) k
theorem G.laload (C : Cx p s m meth c Z y bytes maxL ret) {a : Addr} {j : Int32} {x : Int64} {vs : List Int64} (F : Longs Z h a vs) (hj : 0 ≤ j.toInt) (hx : vs[j.toInt.toNat]? = some x) (hd : decode bytes pc = .ok (.laload, 1)) (hn : pc + 1 = n) (k : Go p l e R s m args below meth c n0 Q cells slots h (mkF m n Ls (.long x :: st))) : Go p l e R s m args below meth c n0 Q cells slots h (mkF m pc Ls (.int j :: .ref a :: st)) := by
  subst hn
  obtain ⟨cl, A, h1, h2, -⟩ := F.at hj hx
  exact Go.via (fun T locs X q t r => X.laload C.x (j := j) (v := .long x) (by rw [q]; exact A.1) (State.isArrayOf_alike C.z.alike A.2.1) A.2.2 h1 h2 (g := mkF m pc Ls (.int j :: .ref a :: st)) rfl rfl (hb C.by hd) t r) k
theorem G.caload (C : Cx p s m meth c Z y bytes maxL ret) {a : Addr} {j : Int32} {x : Int32} {vs : List Int32} (F : Ints Z h a .char vs) (hj : 0 ≤ j.toInt) (hx : vs[j.toInt.toNat]? = some x) (hd : decode bytes pc = .ok (.caload, 1)) (hn : pc + 1 = n) (k : Go p l e R s m args below meth c n0 Q cells slots h (mkF m n Ls (.int x :: st))) : Go p l e R s m args below meth c n0 Q cells slots h (mkF m pc Ls (.int j :: .ref a :: st)) := by
  subst hn
  obtain ⟨cl, A, h1, h2, -⟩ := F.at hj hx
  exact Go.via (fun T locs X q t r => X.caload C.x (j := j) (v := .int x) (by rw [q]; exact A.1) (State.isArrayOf_alike C.z.alike A.2.1) A.2.2 h1 h2 (g := mkF m pc Ls (.int j :: .ref a :: st)) rfl rfl (hb C.by hd) t r) k
theorem G.baload (C : Cx p s m meth c Z y bytes maxL ret) {a : Addr} {j : Int32} {x : Int32} {vs : List Int32} (F : Ints Z h a .byte vs) (hj : 0 ≤ j.toInt) (hx : vs[j.toInt.toNat]? = some x) (hd : decode bytes pc = .ok (.baload, 1)) (hn : pc + 1 = n) (k : Go p l e R s m args below meth c n0 Q cells slots h (mkF m n Ls (.int x :: st))) : Go p l e R s m args below meth c n0 Q cells slots h (mkF m pc Ls (.int j :: .ref a :: st)) := by
  subst hn
  obtain ⟨cl, A, h1, h2, -⟩ := F.at hj hx
  exact Go.via (fun T locs X q t r => X.baloadBytes C.x (j := j) (v := .int x) (by rw [q]; exact A.1) (State.isArrayOf_alike C.z.alike A.2.1) A.2.2 h1 h2 (g := mkF m pc Ls (.int j :: .ref a :: st)) rfl rfl (hb C.by hd) t r) k
theorem G.baloadZ (C : Cx p s m meth c Z y bytes maxL ret) {a : Addr} {j : Int32} {x : Int32} {vs : List Int32} (F : Ints Z h a .boolean vs) (hj : 0 ≤ j.toInt) (hx : vs[j.toInt.toNat]? = some x) (hd : decode bytes pc = .ok (.baload, 1)) (hn : pc + 1 = n) (k : Go p l e R s m args below meth c n0 Q cells slots h (mkF m n Ls (.int x :: st))) : Go p l e R s m args below meth c n0 Q cells slots h (mkF m pc Ls (.int j :: .ref a :: st)) := by
  subst hn
  obtain ⟨cl, A, h1, h2, -⟩ := F.at hj hx
  exact Go.via (fun T locs X q t r => X.baloadBooleans C.x (j := j) (v := .int x) (by rw [q]; exact A.1) (State.isArrayOf_alike C.z.alike A.2.1) A.2.2 h1 h2 (g := mkF m pc Ls (.int j :: .ref a :: st)) rfl rfl (hb C.by hd) t r) k
theorem G.iastore (C : Cx p s m meth c Z y bytes maxL ret) {a : Addr} {j : Int32} {x : Int32} {vs : List Int32} (F : Ints Z h a .int vs) (hj : 0 ≤ j.toInt) (hl : j.toInt < vs.length) (g : n0 ≤ a) (hd : decode bytes pc = .ok (.iastore, 1)) (hn : pc + 1 = n) (k : ∀ h', Keep h h' [a] → (∃ w, Wr h h' a j.toNatClampNeg w) → Ints Z h' a .int (vs.set j.toInt.toNat x) → Go p l e R s m args below meth c n0 Q cells slots h' (mkF m n Ls (st))) : Go p l e R s m args below meth c n0 Q cells slots h (mkF m pc Ls (.int x :: .int j :: .ref a :: st)) := fun T locs X N q => by
  subst hn
  obtain ⟨cl, A, h1, -⟩ := F.put (h' := h) hj hl (x := x) rfl
  obtain ⟨T', h', X', e', W, st'⟩ := stI X C.x C.z q A (j := j) h1 (g := mkF m pc Ls (.int x :: .int j :: .ref a :: st)) rfl rfl (hb C.by hd)
  obtain ⟨cl2, A2, -, h3⟩ := F.put (h' := h') hj hl (x := x) rfl
  obtain ⟨t, o, s1, r⟩ := k h' (Keep.of_wr W) ⟨_, W⟩ (h3 W) T' _ X' (Fr.snoc X' N g) e'
  exact ⟨t, o, st' t s1, r⟩
theorem G.lastore (C : Cx p s m meth c Z y bytes maxL ret) {a : Addr} {j : Int32} {x : Int64} {vs : List Int64} (F : Longs Z h a vs) (hj : 0 ≤ j.toInt) (hl : j.toInt < vs.length) (g : n0 ≤ a) (hd : decode bytes pc = .ok (.lastore, 1)) (hn : pc + 1 = n) (k : ∀ h', Keep h h' [a] → (∃ w, Wr h h' a j.toNatClampNeg w) → Longs Z h' a (vs.set j.toInt.toNat x) → Go p l e R s m args below meth c n0 Q cells slots h' (mkF m n Ls (st))) : Go p l e R s m args below meth c n0 Q cells slots h (mkF m pc Ls (.long x :: .int j :: .ref a :: st)) := fun T locs X N q => by
  subst hn
  obtain ⟨cl, A, h1, -⟩ := F.put (h' := h) hj hl (x := x) rfl
  obtain ⟨T', h', X', e', W, st'⟩ := stJ X C.x C.z q A (j := j) h1 (g := mkF m pc Ls (.long x :: .int j :: .ref a :: st)) rfl rfl (hb C.by hd)
  obtain ⟨cl2, A2, -, h3⟩ := F.put (h' := h') hj hl (x := x) rfl
  obtain ⟨t, o, s1, r⟩ := k h' (Keep.of_wr W) ⟨_, W⟩ (h3 W) T' _ X' (Fr.snoc X' N g) e'
  exact ⟨t, o, st' t s1, r⟩
theorem G.castore (C : Cx p s m meth c Z y bytes maxL ret) {a : Addr} {j : Int32} {x : Int32} {vs : List Int32} (F : Ints Z h a .char vs) (hj : 0 ≤ j.toInt) (hl : j.toInt < vs.length) (g : n0 ≤ a) (hd : decode bytes pc = .ok (.castore, 1)) (hn : pc + 1 = n) (k : ∀ h', Keep h h' [a] → (∃ w, Wr h h' a j.toNatClampNeg w) → Ints Z h' a .char (vs.set j.toInt.toNat (nar .char x)) → Go p l e R s m args below meth c n0 Q cells slots h' (mkF m n Ls (st))) : Go p l e R s m args below meth c n0 Q cells slots h (mkF m pc Ls (.int x :: .int j :: .ref a :: st)) := fun T locs X N q => by
  subst hn
  obtain ⟨cl, A, h1, -⟩ := F.put (h' := h) hj hl (x := (nar .char x)) (fits_nar_char x)
  obtain ⟨T', h', X', e', W, st'⟩ := stC X C.x C.z q A (j := j) h1 (g := mkF m pc Ls (.int x :: .int j :: .ref a :: st)) rfl rfl (hb C.by hd)
  obtain ⟨cl2, A2, -, h3⟩ := F.put (h' := h') hj hl (x := (nar .char x)) (fits_nar_char x)
  obtain ⟨t, o, s1, r⟩ := k h' (Keep.of_wr W) ⟨_, W⟩ (h3 W) T' _ X' (Fr.snoc X' N g) e'
  exact ⟨t, o, st' t s1, r⟩
theorem G.bastore (C : Cx p s m meth c Z y bytes maxL ret) {a : Addr} {j : Int32} {x : Int32} {vs : List Int32} (F : Ints Z h a .byte vs) (hj : 0 ≤ j.toInt) (hl : j.toInt < vs.length) (g : n0 ≤ a) (hd : decode bytes pc = .ok (.bastore, 1)) (hn : pc + 1 = n) (k : ∀ h', Keep h h' [a] → (∃ w, Wr h h' a j.toNatClampNeg w) → Ints Z h' a .byte (vs.set j.toInt.toNat (nar .byte x)) → Go p l e R s m args below meth c n0 Q cells slots h' (mkF m n Ls (st))) : Go p l e R s m args below meth c n0 Q cells slots h (mkF m pc Ls (.int x :: .int j :: .ref a :: st)) := fun T locs X N q => by
  subst hn
  obtain ⟨cl, A, h1, -⟩ := F.put (h' := h) hj hl (x := (nar .byte x)) (fits_nar_byte x)
  obtain ⟨T', h', X', e', W, st'⟩ := stB X C.x C.z q A (j := j) h1 (g := mkF m pc Ls (.int x :: .int j :: .ref a :: st)) rfl rfl (hb C.by hd)
  obtain ⟨cl2, A2, -, h3⟩ := F.put (h' := h') hj hl (x := (nar .byte x)) (fits_nar_byte x)
  obtain ⟨t, o, s1, r⟩ := k h' (Keep.of_wr W) ⟨_, W⟩ (h3 W) T' _ X' (Fr.snoc X' N g) e'
  exact ⟨t, o, st' t s1, r⟩
theorem G.bastoreZ (C : Cx p s m meth c Z y bytes maxL ret) {a : Addr} {j : Int32} {x : Int32} {vs : List Int32} (F : Ints Z h a .boolean vs) (hj : 0 ≤ j.toInt) (hl : j.toInt < vs.length) (g : n0 ≤ a) (hd : decode bytes pc = .ok (.bastore, 1)) (hn : pc + 1 = n) (k : ∀ h', Keep h h' [a] → (∃ w, Wr h h' a j.toNatClampNeg w) → Ints Z h' a .boolean (vs.set j.toInt.toNat (nar .boolean x)) → Go p l e R s m args below meth c n0 Q cells slots h' (mkF m n Ls (st))) : Go p l e R s m args below meth c n0 Q cells slots h (mkF m pc Ls (.int x :: .int j :: .ref a :: st)) := fun T locs X N q => by
  subst hn
  obtain ⟨cl, A, h1, -⟩ := F.put (h' := h) hj hl (x := (nar .boolean x)) (fits_nar_bool x)
  obtain ⟨T', h', X', e', W, st'⟩ := stZ X C.x C.z q A (j := j) h1 (g := mkF m pc Ls (.int x :: .int j :: .ref a :: st)) rfl rfl (hb C.by hd)
  obtain ⟨cl2, A2, -, h3⟩ := F.put (h' := h') hj hl (x := (nar .boolean x)) (fits_nar_bool x)
  obtain ⟨t, o, s1, r⟩ := k h' (Keep.of_wr W) ⟨_, W⟩ (h3 W) T' _ X' (Fr.snoc X' N g) e'
  exact ⟨t, o, st' t s1, r⟩
theorem len32 {z : Int32} {k : Nat} (hz : z.toInt = k) : z = Int32.ofNat k := by
  have h2 := (rng32 z).2
  exact Int32.toInt_inj.mp (by rw [Int32.toInt_ofNat_of_lt (by omega)]; exact hz)
theorem G.arraylengthI (C : Cx p s m meth c Z y bytes maxL ret) {a : Addr} {ty : FieldType} {vs : List Int32} {len : Int32} (F : Ints Z h a ty vs) (hlen : len.toInt = vs.length) (hd : decode bytes pc = .ok (.arraylength, 1)) (hn : pc + 1 = n) (k : Go p l e R s m args below meth c n0 Q cells slots h (mkF m n Ls (.int len :: st))) : Go p l e R s m args below meth c n0 Q cells slots h (mkF m pc Ls (.ref a :: st)) := by
  subst hn
  obtain ⟨k', z, ⟨cl, A, q1, S, N, H, G⟩, hz⟩ := F
  have e1 : cl.slots.size.toInt32 = len := (len_of S N).trans (Int32.toInt_inj.mp (hz.trans hlen.symm))
  exact Go.via (fun T locs X q t r => X.arraylength C.x (by rw [q]; exact A.1) (State.isArrayOf_alike C.z.alike A.2.1) (g := mkF m pc Ls (.ref a :: st)) rfl rfl (hb C.by hd) t (by rw [e1]; exact r)) k
theorem G.arraylengthL (C : Cx p s m meth c Z y bytes maxL ret) {a : Addr} {vs : List Int64} {len : Int32} (F : Longs Z h a vs) (hlen : len.toInt = vs.length) (hd : decode bytes pc = .ok (.arraylength, 1)) (hn : pc + 1 = n) (k : Go p l e R s m args below meth c n0 Q cells slots h (mkF m n Ls (.int len :: st))) : Go p l e R s m args below meth c n0 Q cells slots h (mkF m pc Ls (.ref a :: st)) := by
  subst hn
  obtain ⟨k', z, ⟨cl, A, q1, S, N, H, G⟩, hz⟩ := F
  have e1 : cl.slots.size.toInt32 = len := (len_of S N).trans (Int32.toInt_inj.mp (hz.trans hlen.symm))
  exact Go.via (fun T locs X q t r => X.arraylength C.x (by rw [q]; exact A.1) (State.isArrayOf_alike C.z.alike A.2.1) (g := mkF m pc Ls (.ref a :: st)) rfl rfl (hb C.by hd) t (by rw [e1]; exact r)) k
theorem G.newarray (C : Cx p s m meth c Z y bytes maxL ret) {aty : ArrayType} {ty : FieldType} {len : Int32} {cap c' s' : Nat} (w : (Jvm.Cond.arrayClass ty).before a0 Z = true) (hty : newarray.typeOf aty = ty) (hdv : defaultValue ty = .int 0) (hlen : 0 ≤ len.toInt) (hcap : len.toInt ≤ cap) (hbig : cap * 8 ≤ 536870912) (hd : decode bytes pc = .ok (.newarray aty, 2)) (hn : pc + 2 = n) (hc' : cells + 1 = c') (hs' : slots + cap = s') (hc : c' ≤ R.cells) (hs : s' ≤ R.slots)
    (k : ∀ h' b, b = h.size → Ext h h' → Ints Z h' b ty (List.replicate len.toInt.toNat 0) → Go p l e R s m args below meth c n0 Q c' s' h' (mkF m n Ls (.ref b :: st))) : Go p l e R s m args below meth c n0 Q cells slots h (mkF m pc Ls (.int len :: st)) := fun T locs X N q => by
  subst hn hc' hs' hty
  obtain ⟨T', h', cA, X', e', E, A, st'⟩ := newP X C.x C.z w q (g := mkF m pc Ls (.int len :: st)) rfl (hb C.by hd) rfl (not_neg hlen) (cap := cap) (by rw [nat_clamp]; omega) hbig hc hs
  have V := (Arv.new A (not_neg hlen))
  rw [hdv] at V
  have V2 := V.pad (pad_rep [] _ len.toInt.toNat)
  rw [List.nil_append, ← List.map_replicate (f := Value.int)] at V2
  obtain ⟨t, o, s1, r⟩ := k h' _ rfl E ⟨cA, len, V2, by rw [List.length_replicate]; omega⟩ T' _ X' N e'
  exact ⟨t, o, st' t s1, r⟩
theorem G.newarrayJ (C : Cx p s m meth c Z y bytes maxL ret) {aty : ArrayType} {ty : FieldType} {len : Int32} {cap c' s' : Nat} (w : (Jvm.Cond.arrayClass ty).before a0 Z = true) (hty : newarray.typeOf aty = ty) (hdv : defaultValue ty = .long 0) (hJ : ty = .long) (hlen : 0 ≤ len.toInt) (hcap : len.toInt ≤ cap) (hbig : cap * 8 ≤ 536870912) (hd : decode bytes pc = .ok (.newarray aty, 2)) (hn : pc + 2 = n) (hc' : cells + 1 = c') (hs' : slots + cap = s') (hc : c' ≤ R.cells) (hs : s' ≤ R.slots)
    (k : ∀ h' b, b = h.size → Ext h h' → Longs Z h' b (List.replicate len.toInt.toNat 0) → Go p l e R s m args below meth c n0 Q c' s' h' (mkF m n Ls (.ref b :: st))) : Go p l e R s m args below meth c n0 Q cells slots h (mkF m pc Ls (.int len :: st)) := fun T locs X N q => by
  subst hn hc' hs' hty
  obtain ⟨T', h', cA, X', e', E, A, st'⟩ := newP X C.x C.z w q (g := mkF m pc Ls (.int len :: st)) rfl (hb C.by hd) rfl (not_neg hlen) (cap := cap) (by rw [nat_clamp]; omega) hbig hc hs
  have V := (Arv.new A (not_neg hlen))
  rw [hdv] at V
  have V2 := V.pad (pad_rep [] _ len.toInt.toNat)
  rw [List.nil_append, ← List.map_replicate (f := Value.long), hJ] at V2
  obtain ⟨t, o, s1, r⟩ := k h' _ rfl E ⟨cA, len, V2, by rw [List.length_replicate]; omega⟩ T' _ X' N e'
  exact ⟨t, o, st' t s1, r⟩
theorem getD_at {α : Type} {vs : List α} {i : Nat} {d : α} (h : i < vs.length) : vs[i]? = some (vs.getD i d) := by
  rw [List.getD_eq_getElem?_getD, List.getElem?_eq_getElem h]; rfl
def Refs (Z : State) (h : Heap) (a : Addr) (ty : FieldType) (vs : List Value) : Prop := ∃ k z, Arv Z h a k ty z vs .null ∧ z.toInt = vs.length
theorem Refs.lt {a : Addr} {ty : FieldType} {vs : List Value} (F : Refs Z h a ty vs) : a < h.size := by obtain ⟨k, z, A, -⟩ := F; exact A.lt
theorem Refs.keep {h' : Heap} {ws : List Addr} {a : Addr} {ty : FieldType} {vs : List Value} (F : Refs Z h a ty vs) (K : Keep h h' ws) (r : a ∉ ws) : Refs Z h' a ty vs := by obtain ⟨k, z, A, q⟩ := F; exact ⟨k, z, A.keep K r, q⟩
theorem Refs.at {a : Addr} {ty : FieldType} {vs : List Value} (F : Refs Z h a ty vs) {j : Int32} {x : Value} (hj : 0 ≤ j.toInt) (hx : vs[j.toInt.toNat]? = some x) : ∃ cl, Arr Z h a cl ty ∧ ¬ (j < 0 ∨ cl.slots.size ≤ j.toNatClampNeg) ∧ cl.slots[j.toNatClampNeg]? = some x := by
  obtain ⟨k, z, ⟨cl, A, q1, S, N, H, G⟩, hz⟩ := F
  have hi := inb hj S hz (lt_of_some hx)
  have hi2 : j.toNatClampNeg < cl.slots.size := Nat.lt_of_not_le fun y => hi (Or.inr y)
  have e1 := H _ hi2
  rw [nat_clamp, List.getD_eq_getElem?_getD, hx] at e1
  exact ⟨cl, A, hi, e1⟩
theorem G.aaload (C : Cx p s m meth c Z y bytes maxL ret) {a : Addr} {j : Int32} {x : Value} {ty : FieldType} {vs : List Value} (F : Refs Z h a ty vs) (hty : ty.isReference = true) (hj : 0 ≤ j.toInt) (hx : vs[j.toInt.toNat]? = some x) (hd : decode bytes pc = .ok (.aaload, 1)) (hn : pc + 1 = n) (k : Go p l e R s m args below meth c n0 Q cells slots h (mkF m n Ls (x :: st))) : Go p l e R s m args below meth c n0 Q cells slots h (mkF m pc Ls (.int j :: .ref a :: st)) := by
  subst hn
  obtain ⟨cl, A, h1, h2⟩ := F.at hj hx
  exact Go.via (fun T locs X q t r => X.aaload C.x (j := j) (v := x) (by rw [q]; exact A.1) (State.isArrayOf_alike C.z.alike A.2.1) hty A.2.2 h1 h2 (g := mkF m pc Ls (.int j :: .ref a :: st)) rfl rfl (hb C.by hd) t r) k
theorem G.arraylengthR (C : Cx p s m meth c Z y bytes maxL ret) {a : Addr} {ty : FieldType} {vs : List Value} {len : Int32} (F : Refs Z h a ty vs) (hlen : len.toInt = vs.length) (hd : decode bytes pc = .ok (.arraylength, 1)) (hn : pc + 1 = n) (k : Go p l e R s m args below meth c n0 Q cells slots h (mkF m n Ls (.int len :: st))) : Go p l e R s m args below meth c n0 Q cells slots h (mkF m pc Ls (.ref a :: st)) := by
  subst hn
  obtain ⟨k', z, ⟨cl, A, q1, S, N, H, G⟩, hz⟩ := F
  have e1 : cl.slots.size.toInt32 = len := (len_of S N).trans (Int32.toInt_inj.mp (hz.trans hlen.symm))
  exact Go.via (fun T locs X q t r => X.arraylength C.x (by rw [q]; exact A.1) (State.isArrayOf_alike C.z.alike A.2.1) (g := mkF m pc Ls (.ref a :: st)) rfl rfl (hb C.by hd) t (by rw [e1]; exact r)) k
theorem eqv_r {Z : State} {args : Array Value} {X F : Term} {idx : List Nat} {y : Addr} (hF : F.eval args Z none idx Z = some (.ref y)) (h : (Jvm.Cond.eq X F).value args Z none Z idx = some true) : X.eval args Z none idx Z = some (.ref y) := by
  obtain ⟨x, y', e1, e2, k1, k2⟩ := cmp_v (Or.inl h)
  cases hF.symm.trans e2
  have hx : x.isRef = true := k2.2
  have := gotT (eq_R e1 hF hx rfl) h
  rw [e1, this]
theorem len_q {Z : State} {args : Array Value} {t : Term} {a : Addr} {cl : Cell} {y : Int32} (ht : t.eval args Z none [] Z = some (.ref a)) (ha : Z.arrayAt? a = some cl) (h : (Term.length t).eval args Z none [] Z = some (.int y)) : cl.slots.size < 2 ^ 31 ∧ cl.slots.size.toInt32 = y := by
  simp [Term.eval, ht, ha] at h
  exact h
theorem Refs.start {s : State} {a : Addr} {cl : Cell} {ty : FieldType} {z : Int32} {vs : List Value} (hf : Fit s) (A : Arr s s.heap a cl ty) (q : cl.slots.size < 2 ^ 31 ∧ cl.slots.size.toInt32 = z) (hz : z.toInt = vs.length) (H : HasL cl 0 vs) : Refs s s.heap a ty vs :=
  ⟨cl.cls, z, Arv.start hf A q.1 q.2 (not_neg (by omega)) (by rw [nat_clamp]; omega) H, hz⟩
theorem Ints.start {s : State} {a : Addr} {cl : Cell} {ty : FieldType} {z : Int32} {vs : List Int32} (hf : Fit s) (A : Arr s s.heap a cl ty) (q : cl.slots.size < 2 ^ 31 ∧ cl.slots.size.toInt32 = z) (hz : z.toInt = vs.length) (H : HasL cl 0 (vs.map Value.int)) : Ints s s.heap a ty vs :=
  ⟨cl.cls, z, Arv.start hf A q.1 q.2 (not_neg (by omega)) (by rw [nat_clamp, List.length_map]; omega) H, hz⟩
theorem us_all (vs : List Int32) : ((List.range vs.length).map fun i => (vs.map Value.int).getD (0 + i) (.int 0)) = vs.map Value.int := by
  apply List.ext_getElem (by simp)
  intro i h1 h2
  simp at h1
  simp [h1]
theorem G.arraycopy0 (C : Cx p s m meth c Z y bytes maxL ret) {index W : Nat} {ty : FieldType} {a b : Addr} {vs vd : List Int32} {nn : Int32} (w1 : (Jvm.Cond.methodLink y.cls index Jvm.Stand.acN).before a0 Z = true) (w2 : (Jvm.Cond.native Jvm.Stand.acN).before a0 Z = true) (w3 : (Jvm.Cond.static Jvm.Stand.acN).before a0 Z = true) (w4 : (Jvm.Cond.initialized "java/lang/System").before a0 Z = true) (A : Ints Z h a ty vs) (B : Ints Z h b ty vd) (hp : refKind ty = false) (h3 : nn.toInt = vs.length) (h5 : vs.length ≤ vd.length) (g : n0 ≤ b)
    (hd : decode bytes pc = .ok (.invokestatic index, 3)) (hsz : Ls.size = maxL) (hf : 1 ≤ R.frames) (hW : (st.map fun v => v.category).sum = W) (hlo : W + (nativeFrameWords "java/lang/System" "arraycopy" 5 + 11) ≤ R.locals) (hn : pc + 3 = n) (k : ∀ h', Keep h h' [b] → Ints Z h' b ty (vs ++ vd.drop vs.length) → Go p l e R s m args below meth c n0 Q cells slots h' (mkF m n Ls (st))) : Go p l e R s m args below meth c n0 Q cells slots h (mkF m pc Ls (.int nn :: .int 0 :: .ref b :: .int 0 :: .ref a :: st)) := fun T locs X N q => by
  subst hn hW
  obtain ⟨k1, z1, A1, e1⟩ := A
  obtain ⟨k2, z2, B1, e2⟩ := B
  have hnn : nn.toNatClampNeg = vs.length := by rw [nat_clamp, h3]; rfl
  have z1n : z1.toNatClampNeg = vs.length := by rw [nat_clamp, e1]; rfl
  have z2n : z2.toNatClampNeg = vd.length := by rw [nat_clamp, e2]; rfl
  obtain ⟨T', h', L, X', e', NL, K, V, st'⟩ := cpA X C.x C.z C.own w1 w2 w3 w4 q (us := vs.map Value.int) A1 B1 (Or.inl ⟨rfl, hp⟩) (sp := 0) (dp := 0) (nn := nn) (by decide) (by decide) (not_neg (by omega)) (by rw [hnn, z1n]; show 0 + _ ≤ _; omega) (by rw [hnn, z2n]; show 0 + _ ≤ _; omega) (by rw [hnn]; exact (us_all vs).symm) (by rw [hnn, List.length_map]; show 0 + _ ≤ _; omega) N g (g := mkF m pc Ls (.int nn :: .int 0 :: .ref b :: .int 0 :: .ref a :: st)) rfl (hsz.trans C.ml.symm) rfl (hb C.by hd) hf (W := (st.map fun v => v.category).sum) (by show 2 * 0 + _ ≤ _; omega) hlo
  rw [hnn, show (0 : Int32).toNatClampNeg = 0 from rfl, List.take_zero, List.nil_append, Nat.zero_add, ← List.map_drop, ← List.map_append] at V
  obtain ⟨t, o, s1, r⟩ := k h' K ⟨k2, z2, V, by rw [e2, List.length_append, List.length_drop]; omega⟩ T' L X' NL e'
  exact ⟨t, o, st' t s1, r⟩
theorem kext {h' : Heap} (E : Ext h h') : Keep h h' [] := (Keep.refl h []).ext E
theorem Keep.tr {h' h'' : Heap} {ws ws' : List Addr} (K : Keep h h' ws) (K' : Keep h' h'' ws') (q : ∀ x ∈ ws', x ∈ ws ∨ h.size ≤ x) : Keep h h'' ws := K.trans K' q
end
end Jvm.Own
namespace Jvm.Pilot.@@N@@
open Jvm Jvm.ClassFile Sem Op Lib Jvm.Free Jvm.Stand Jvm.LawKit Jvm.RoadKit Jvm.Own Bundle Jvm.Pilot.@@N@@.Jvm.D
def Ob_N (Z : State) (h : Heap) (a : Addr) (f_nodes : Value) (f_size : Int32) : Prop := Exa Z h a "com/example/duna/duna/resolution/Nodes" ∧ Fld Z h a "com/example/duna/duna/resolution/Nodes" "nodes" "[I" f_nodes ∧ Fld Z h a "com/example/duna/duna/resolution/Nodes" "size" "I" (.int f_size)
theorem Ob_N.keep {Z : State} {h h' : Heap} {ws : List Addr} {a : Addr} {f_nodes : Value} {f_size : Int32} (O : Ob_N Z h a f_nodes f_size) (K : Keep h h' ws) (r : a ∉ ws) : Ob_N Z h' a f_nodes f_size := ⟨(O.1).keep K, (O.2.1).keep K r, (O.2.2).keep K r⟩
theorem Ob_N.lt {Z : State} {h : Heap} {a : Addr} {f_nodes : Value} {f_size : Int32} (O : Ob_N Z h a f_nodes f_size) : a < h.size := Exa.lt (O.1)
theorem Ob_N.set_nodes {Z : State} {a0 : Array Value} (hw : ∀ d ∈ tables_1, d.before a0 Z = true) {h h' : Heap} {a : Addr} {f_nodes : Value} {f_size : Int32} {v : Value} (O : Ob_N Z h a f_nodes f_size) (W : Wr h h' a (RoadKit.slotOf Z "com/example/duna/duna/resolution/Nodes" "nodes" "[I") v) : Ob_N Z h' a v f_size := ⟨(O.1).wr W, (O.2.1).same W, (O.2.2).other W (Or.inr (slot_ne (Or.inl (wd hw 55 rfl)) (Or.inl (wd hw 24 rfl)) (by decide) (t := .int) (t' := (.array .int)) (by decide) (by decide)))⟩
theorem Ob_N.set_size {Z : State} {a0 : Array Value} (hw : ∀ d ∈ tables_1, d.before a0 Z = true) {h h' : Heap} {a : Addr} {f_nodes : Value} {f_size : Int32} {v : Int32} (O : Ob_N Z h a f_nodes f_size) (W : Wr h h' a (RoadKit.slotOf Z "com/example/duna/duna/resolution/Nodes" "size" "I") (.int v)) : Ob_N Z h' a f_nodes v := ⟨(O.1).wr W, (O.2.1).other W (Or.inr (slot_ne (Or.inl (wd hw 24 rfl)) (Or.inl (wd hw 55 rfl)) (by decide) (t := (.array .int)) (t' := .int) (by decide) (by decide))), (O.2.2).same W⟩
theorem Ob_N.new {Z : State} {a0 : Array Value} (hw : ∀ d ∈ tables_1, d.before a0 Z = true) {h : Heap} {a : Addr} (E : Exa Z h a "com/example/duna/duna/resolution/Nodes") (D : ∀ {O nm d : String} {ty : FieldType}, Laid Z a0 "com/example/duna/duna/resolution/Nodes" O nm d → parseFieldDescriptor d = some ty → Fld Z h a O nm d (defaultValue ty)) : Ob_N Z h a .null (0 : Int32) := ⟨E, D (Or.inl (wd hw 24 rfl)) (ty := (.array .int)) (by decide), D (Or.inl (wd hw 55 rfl)) (ty := .int) (by decide)⟩
def Ob_Rg (Z : State) (h : Heap) (a : Addr) (f_marks : Value) (f_saved : Value) (f_nodes : Value) (f_round : Int32) : Prop := Exa Z h a "com/example/duna/duna/resolution/Region" ∧ Fld Z h a "com/example/duna/duna/resolution/Region" "marks" "[I" f_marks ∧ Fld Z h a "com/example/duna/duna/resolution/Region" "saved" "[B" f_saved ∧ Fld Z h a "com/example/duna/duna/resolution/Region" "nodes" "Lcom/example/duna/duna/resolution/Nodes;" f_nodes ∧ Fld Z h a "com/example/duna/duna/resolution/Region" "round" "I" (.int f_round)
theorem Ob_Rg.keep {Z : State} {h h' : Heap} {ws : List Addr} {a : Addr} {f_marks : Value} {f_saved : Value} {f_nodes : Value} {f_round : Int32} (O : Ob_Rg Z h a f_marks f_saved f_nodes f_round) (K : Keep h h' ws) (r : a ∉ ws) : Ob_Rg Z h' a f_marks f_saved f_nodes f_round := ⟨(O.1).keep K, (O.2.1).keep K r, (O.2.2.1).keep K r, (O.2.2.2.1).keep K r, (O.2.2.2.2).keep K r⟩
theorem Ob_Rg.lt {Z : State} {h : Heap} {a : Addr} {f_marks : Value} {f_saved : Value} {f_nodes : Value} {f_round : Int32} (O : Ob_Rg Z h a f_marks f_saved f_nodes f_round) : a < h.size := Exa.lt (O.1)
theorem Ob_Rg.set_marks {Z : State} {a0 : Array Value} (hw : ∀ d ∈ tables_1, d.before a0 Z = true) {h h' : Heap} {a : Addr} {f_marks : Value} {f_saved : Value} {f_nodes : Value} {f_round : Int32} {v : Value} (O : Ob_Rg Z h a f_marks f_saved f_nodes f_round) (W : Wr h h' a (RoadKit.slotOf Z "com/example/duna/duna/resolution/Region" "marks" "[I") v) : Ob_Rg Z h' a v f_saved f_nodes f_round := ⟨(O.1).wr W, (O.2.1).same W, (O.2.2.1).other W (Or.inr (slot_ne (Or.inl (wd hw 15 rfl)) (Or.inl (wd hw 12 rfl)) (by decide) (t := (.array .byte)) (t' := (.array .int)) (by decide) (by decide))), (O.2.2.2.1).other W (Or.inr (slot_ne (Or.inr (wd hw 26 rfl)) (Or.inl (wd hw 12 rfl)) (by decide) (t := (.object "com/example/duna/duna/resolution/Nodes")) (t' := (.array .int)) (by decide) (by decide))), (O.2.2.2.2).other W (Or.inr (slot_ne (Or.inl (wd hw 48 rfl)) (Or.inl (wd hw 12 rfl)) (by decide) (t := .int) (t' := (.array .int)) (by decide) (by decide)))⟩
theorem Ob_Rg.set_saved {Z : State} {a0 : Array Value} (hw : ∀ d ∈ tables_1, d.before a0 Z = true) {h h' : Heap} {a : Addr} {f_marks : Value} {f_saved : Value} {f_nodes : Value} {f_round : Int32} {v : Value} (O : Ob_Rg Z h a f_marks f_saved f_nodes f_round) (W : Wr h h' a (RoadKit.slotOf Z "com/example/duna/duna/resolution/Region" "saved" "[B") v) : Ob_Rg Z h' a f_marks v f_nodes f_round := ⟨(O.1).wr W, (O.2.1).other W (Or.inr (slot_ne (Or.inl (wd hw 12 rfl)) (Or.inl (wd hw 15 rfl)) (by decide) (t := (.array .int)) (t' := (.array .byte)) (by decide) (by decide))), (O.2.2.1).same W, (O.2.2.2.1).other W (Or.inr (slot_ne (Or.inr (wd hw 26 rfl)) (Or.inl (wd hw 15 rfl)) (by decide) (t := (.object "com/example/duna/duna/resolution/Nodes")) (t' := (.array .byte)) (by decide) (by decide))), (O.2.2.2.2).other W (Or.inr (slot_ne (Or.inl (wd hw 48 rfl)) (Or.inl (wd hw 15 rfl)) (by decide) (t := .int) (t' := (.array .byte)) (by decide) (by decide)))⟩
theorem Ob_Rg.set_nodes {Z : State} {a0 : Array Value} (hw : ∀ d ∈ tables_1, d.before a0 Z = true) {h h' : Heap} {a : Addr} {f_marks : Value} {f_saved : Value} {f_nodes : Value} {f_round : Int32} {v : Value} (O : Ob_Rg Z h a f_marks f_saved f_nodes f_round) (W : Wr h h' a (RoadKit.slotOf Z "com/example/duna/duna/resolution/Region" "nodes" "Lcom/example/duna/duna/resolution/Nodes;") v) : Ob_Rg Z h' a f_marks f_saved v f_round := ⟨(O.1).wr W, (O.2.1).other W (Or.inr (slot_ne (Or.inl (wd hw 12 rfl)) (Or.inr (wd hw 26 rfl)) (by decide) (t := (.array .int)) (t' := (.object "com/example/duna/duna/resolution/Nodes")) (by decide) (by decide))), (O.2.2.1).other W (Or.inr (slot_ne (Or.inl (wd hw 15 rfl)) (Or.inr (wd hw 26 rfl)) (by decide) (t := (.array .byte)) (t' := (.object "com/example/duna/duna/resolution/Nodes")) (by decide) (by decide))), (O.2.2.2.1).same W, (O.2.2.2.2).other W (Or.inr (slot_ne (Or.inl (wd hw 48 rfl)) (Or.inr (wd hw 26 rfl)) (by decide) (t := .int) (t' := (.object "com/example/duna/duna/resolution/Nodes")) (by decide) (by decide)))⟩
theorem Ob_Rg.set_round {Z : State} {a0 : Array Value} (hw : ∀ d ∈ tables_1, d.before a0 Z = true) {h h' : Heap} {a : Addr} {f_marks : Value} {f_saved : Value} {f_nodes : Value} {f_round : Int32} {v : Int32} (O : Ob_Rg Z h a f_marks f_saved f_nodes f_round) (W : Wr h h' a (RoadKit.slotOf Z "com/example/duna/duna/resolution/Region" "round" "I") (.int v)) : Ob_Rg Z h' a f_marks f_saved f_nodes v := ⟨(O.1).wr W, (O.2.1).other W (Or.inr (slot_ne (Or.inl (wd hw 12 rfl)) (Or.inl (wd hw 48 rfl)) (by decide) (t := (.array .int)) (t' := .int) (by decide) (by decide))), (O.2.2.1).other W (Or.inr (slot_ne (Or.inl (wd hw 15 rfl)) (Or.inl (wd hw 48 rfl)) (by decide) (t := (.array .byte)) (t' := .int) (by decide) (by decide))), (O.2.2.2.1).other W (Or.inr (slot_ne (Or.inr (wd hw 26 rfl)) (Or.inl (wd hw 48 rfl)) (by decide) (t := (.object "com/example/duna/duna/resolution/Nodes")) (t' := .int) (by decide) (by decide))), (O.2.2.2.2).same W⟩
theorem Ob_Rg.new {Z : State} {a0 : Array Value} (hw : ∀ d ∈ tables_1, d.before a0 Z = true) {h : Heap} {a : Addr} (E : Exa Z h a "com/example/duna/duna/resolution/Region") (D : ∀ {O nm d : String} {ty : FieldType}, Laid Z a0 "com/example/duna/duna/resolution/Region" O nm d → parseFieldDescriptor d = some ty → Fld Z h a O nm d (defaultValue ty)) : Ob_Rg Z h a .null .null .null (0 : Int32) := ⟨E, D (Or.inl (wd hw 12 rfl)) (ty := (.array .int)) (by decide), D (Or.inl (wd hw 15 rfl)) (ty := (.array .byte)) (by decide), D (Or.inr (wd hw 26 rfl)) (ty := (.object "com/example/duna/duna/resolution/Nodes")) (by decide), D (Or.inl (wd hw 48 rfl)) (ty := .int) (by decide)⟩
def imin (x y : Int32) : Int32 := if y.toInt < x.toInt then y else x
def Rg (Z : State) (h : Heap) (n0 : Nat) (a : Addr) (ms : List Int32) (rd : Int32) (sz : Nat) : Prop := ∃ (m1 s1 nd na : Addr) (ss vs : List Int32) (nsz : Int32), Ob_Rg Z h a (.ref m1) (.ref s1) (.ref nd) rd ∧ Ints Z h m1 .int ms ∧ Ints Z h s1 .byte ss ∧ ss.length = ms.length ∧ Ob_N Z h nd (.ref na) nsz ∧ Ints Z h na .int vs ∧ vs.length = 16 ∧ nsz.toInt = sz ∧
  a ≠ m1 ∧ a ≠ s1 ∧ a ≠ nd ∧ a ≠ na ∧ m1 ≠ s1 ∧ m1 ≠ nd ∧ m1 ≠ na ∧ s1 ≠ nd ∧ s1 ≠ na ∧ nd ≠ na ∧ n0 ≤ a ∧ n0 ≤ m1 ∧ n0 ≤ s1 ∧ n0 ≤ nd ∧ n0 ≤ na
theorem Rg.exa {Z : State} {h : Heap} {n0 : Nat} {a : Addr} {ms : List Int32} {rd : Int32} {sz : Nat} (R : Rg Z h n0 a ms rd sz) : Exa Z h a "com/example/duna/duna/resolution/Region" := by
  obtain ⟨m1, s1, nd, na, ss, vs, nsz, O, r⟩ := R
  exact O.1
theorem getD_set (l : List Int32) (i j : Nat) (v : Int32) (h : i < l.length) : (l.set i v).getD j 0 = if i = j then v else l.getD j 0 := by
  rw [List.getD_eq_getElem?_getD, List.getD_eq_getElem?_getD]
  by_cases e : i = j
  · subst e; rw [List.getElem?_set_self h, if_pos rfl]; rfl
  · rw [List.getElem?_set_ne e, if_neg e]
theorem getD_ext (l : List Int32) (n i : Nat) : (l ++ List.replicate n 0).getD i 0 = l.getD i 0 := by
  rw [List.getD_eq_getElem?_getD, List.getD_eq_getElem?_getD, List.getElem?_append]
  split
  · rfl
  · rename_i h
    rw [List.getElem?_eq_none (l := l) (by omega), List.getElem?_replicate]
    split <;> rfl
theorem set_self {l : List Int32} {i : Nat} {v : Int32} (h : l[i]? = some v) : l.set i v = l := by
  apply List.ext_getElem?
  intro j
  rw [List.getElem?_set]
  split
  · rename_i e
    subst e
    rw [if_pos (lt_of_some h), h]
  · rfl
theorem imul2 {x : Int32} (h0 : 0 ≤ x.toInt) (h : x.toInt ≤ 23) : ((2 : Int32) * x).toInt = 2 * x.toInt := by
  have q1 := c_imul 2 x
  have q2 := rng32 (2 * x)
  rw [show (2 : Int32).toInt = 2 from rfl] at q1
  omega
theorem d3_0 : decode prog_29_method_1_code 0 = .ok (.aload_n 0, 1) := by decide +kernel
theorem d3_1 : decode prog_29_method_1_code 1 = .ok (.invokespecial 1, 3) := by decide +kernel
theorem d3_4 : decode prog_29_method_1_code 4 = .ok (.aload_n 0, 1) := by decide +kernel
theorem d3_5 : decode prog_29_method_1_code 5 = .ok (.bipush 16, 2) := by decide +kernel
theorem d3_7 : decode prog_29_method_1_code 7 = .ok (.newarray .int, 2) := by decide +kernel
theorem d3_9 : decode prog_29_method_1_code 9 = .ok (.putfield 7, 3) := by decide +kernel
theorem d3_12 : decode prog_29_method_1_code 12 = .ok (.return_, 1) := by decide +kernel
theorem pn0 : plainName "com/example/duna/duna/resolution/Nodes" = true := by first | (simp [plainName, overriddenIn]; done) | decide +kernel
theorem ef1 (m : MethodId) (a : Addr) : entryFrame m #[(.ref a)] 1 = mkF m 0 #[.val (.ref a)] [] := by first | (simp [entryFrame, mkF, argsToLocals, Value.category]; done) | rfl
abbrev Q_ninit (Z : State) (h0 : Heap) (n0 : Nat) (a : Addr) : Option Value → Heap → Prop := fun v h' => v = none ∧ Keep h0 h' [a] ∧ ∃ b, h0.size ≤ b ∧ Ob_N Z h' a (.ref b) 0 ∧ Ints Z h' b .int [0, 0, 0, 0, 0, 0, 0, 0, 0, 0, 0, 0, 0, 0, 0, 0]
abbrev R_ninit : Room := { frames := 1, cells := 1, slots := 16, locals := 12 }
set_option maxRecDepth 65536 in
set_option maxHeartbeats 40000000 in
theorem m_ninit (l : Launch) (Z : State) (a0 : Array Value) (hw : ∀ d ∈ tables_1, d.before a0 Z = true) (a : Addr) (h0 : Heap) (n0 : Nat) (Z0 : n0 ≤ h0.size) (O_a : Ob_N Z h0 a .null 0) (g_a : n0 ≤ a) : Met l Z (⟨"com/example/duna/duna/resolution/Nodes", "<init>", "()V"⟩ : MethodName) prog_29_method_1_code 1 none R_ninit #[(.ref a)] h0 n0 (Q_ninit Z h0 n0 a) := by
  refine Met.of (plainFor_of_name pn0) (fun m => ef1 m a) ?_
  intro p e s m args below meth c C
  refine G.aloadN C d3_0 rfl rfl (n := 1) rfl ?_
  refine G.objinit C (wd hw 22 rfl) (wd hw 8 rfl) (wd hw 9 rfl) d3_1 rfl (by decide) (W := 0) rfl (by decide) (n := 4) rfl ?_
  refine G.aloadN C d3_4 rfl rfl (n := 5) rfl ?_
  refine G.bipush C (v := (16 : Int32)) d3_5 (by decide) (n := 7) rfl ?_
  refine G.newarray C (ty := .int) (cap := 16) (wd hw 10 rfl) rfl rfl (by decide) (by decide) (by decide) d3_7 (n := 9) rfl (c' := 1) (s' := 16) rfl rfl (by decide) (by decide) ?_
  intro h1 b2 q3 E4 O5
  have O6 : Ints Z h1 b2 .int [0, 0, 0, 0, 0, 0, 0, 0, 0, 0, 0, 0, 0, 0, 0, 0] := O5
  have ne7 : a ≠ b2 := Nat.ne_of_lt (Nat.lt_of_lt_of_le O_a.lt (Nat.le_of_eq q3.symm))
  have g8 : n0 ≤ b2 := Nat.le_trans Z0 (Nat.le_of_eq q3.symm)
  have f9 : h0.size ≤ b2 := Nat.le_trans (Keep.refl h0 []).1 (Nat.le_of_eq q3.symm)
  have K10 := kext E4
  have O11 := O_a.keep K10 nin0
  have Z12 : n0 ≤ h1.size := Nat.le_trans Z0 K10.1
  have K13 : Keep h0 h1 [a] := Keep.tr (Keep.refl h0 _) K10 all0
  refine G.putfield C (host := "") (Or.inl (wd hw 23 rfl)) Via.refl (O11.2.1) (O11.1) (Or.inl (wd hw 24 rfl)) (wd hw 17 rfl) (ty := (.array .int)) (by decide) rfl rfl g_a d3_9 (n := 12) rfl ?_
  intro h14 W15
  have O16 := Ob_N.set_nodes hw O11 (v := (.ref b2)) W15
  have K17 := Keep.of_wr W15
  have O18 := O6.keep K17 (ninS (Ne.symm ne7) nin0)
  have Z19 : n0 ≤ h14.size := Nat.le_trans Z12 K17.1
  have K20 : Keep h0 h14 [a] := Keep.tr K13 K17 (allS (Or.inl (List.mem_of_getElem? (i := 0) rfl)) all0)
  refine G.return_ C d3_12 (by decide) (by decide) ?_
  exact ⟨rfl, K20, b2, f9, O16, O18⟩
theorem d10_0 : decode prog_29_method_2_code 0 = .ok (.aload_n 0, 1) := by decide +kernel
theorem d10_1 : decode prog_29_method_2_code 1 = .ok (.getfield 13, 3) := by decide +kernel
theorem d10_4 : decode prog_29_method_2_code 4 = .ok (.aload_n 0, 1) := by decide +kernel
theorem d10_5 : decode prog_29_method_2_code 5 = .ok (.getfield 7, 3) := by decide +kernel
theorem d10_8 : decode prog_29_method_2_code 8 = .ok (.arraylength, 1) := by decide +kernel
theorem d10_9 : decode prog_29_method_2_code 9 = .ok (.if_icmp .ne 20, 3) := by decide +kernel
theorem d10_12 : decode prog_29_method_2_code 12 = .ok (.aload_n 0, 1) := by decide +kernel
theorem d10_13 : decode prog_29_method_2_code 13 = .ok (.aload_n 0, 1) := by decide +kernel
theorem d10_14 : decode prog_29_method_2_code 14 = .ok (.getfield 7, 3) := by decide +kernel
theorem d10_17 : decode prog_29_method_2_code 17 = .ok (.iconst 2, 1) := by decide +kernel
theorem d10_18 : decode prog_29_method_2_code 18 = .ok (.aload_n 0, 1) := by decide +kernel
theorem d10_19 : decode prog_29_method_2_code 19 = .ok (.getfield 13, 3) := by decide +kernel
theorem d10_22 : decode prog_29_method_2_code 22 = .ok (.imul, 1) := by decide +kernel
theorem d10_23 : decode prog_29_method_2_code 23 = .ok (.invokestatic 17, 3) := by decide +kernel
theorem d10_26 : decode prog_29_method_2_code 26 = .ok (.putfield 7, 3) := by decide +kernel
theorem d10_29 : decode prog_29_method_2_code 29 = .ok (.aload_n 0, 1) := by decide +kernel
theorem d10_30 : decode prog_29_method_2_code 30 = .ok (.getfield 7, 3) := by decide +kernel
theorem d10_33 : decode prog_29_method_2_code 33 = .ok (.aload_n 0, 1) := by decide +kernel
theorem d10_34 : decode prog_29_method_2_code 34 = .ok (.dup, 1) := by decide +kernel
theorem d10_35 : decode prog_29_method_2_code 35 = .ok (.getfield 13, 3) := by decide +kernel
theorem d10_38 : decode prog_29_method_2_code 38 = .ok (.dup_x1, 1) := by decide +kernel
theorem d10_39 : decode prog_29_method_2_code 39 = .ok (.iconst 1, 1) := by decide +kernel
theorem d10_40 : decode prog_29_method_2_code 40 = .ok (.iadd, 1) := by decide +kernel
theorem d10_41 : decode prog_29_method_2_code 41 = .ok (.putfield 13, 3) := by decide +kernel
theorem d10_44 : decode prog_29_method_2_code 44 = .ok (.iload_n 1, 1) := by decide +kernel
theorem d10_45 : decode prog_29_method_2_code 45 = .ok (.iastore, 1) := by decide +kernel
theorem d10_46 : decode prog_29_method_2_code 46 = .ok (.return_, 1) := by decide +kernel
theorem ef2 (m : MethodId) (a : Addr) (x : Int32) : entryFrame m #[(.ref a), (.int x)] 2 = mkF m 0 #[.val (.ref a), .val (.int x)] [] := by first | (simp [entryFrame, mkF, argsToLocals, Value.category]; done) | rfl
abbrev Q_nadd (Z : State) (h0 : Heap) (n0 : Nat) (a : Addr) (x : Int32) (b : Addr) (sz : Int32) (vs : List Int32) (ln : Int32) (sz' : Int32) (vs' : List Int32) : Option Value → Heap → Prop := fun v h' => v = none ∧ Keep h0 h' [a, b] ∧ Ob_N Z h' a (.ref b) sz' ∧ Ints Z h' b .int vs'
abbrev R_nadd : Room := { frames := 0, cells := 0, slots := 0, locals := 0 }
set_option maxRecDepth 65536 in
set_option maxHeartbeats 40000000 in
theorem m_nadd (l : Launch) (Z : State) (a0 : Array Value) (hw : ∀ d ∈ tables_1, d.before a0 Z = true) (a : Addr) (x : Int32) (b : Addr) (sz : Int32) (vs : List Int32) (ln : Int32) (sz' : Int32) (vs' : List Int32) (h0 : Heap) (n0 : Nat) (Z0 : n0 ≤ h0.size) (O_a : Ob_N Z h0 a (.ref b) sz) (O_b : Ints Z h0 b .int vs) (ne_ab : a ≠ b) (g_a : n0 ≤ a) (g_b : n0 ≤ b) (e_ln : ln.toInt = vs.length) (q_0 : 0 ≤ sz.toInt) (q_1 : sz.toInt < vs.length) (e_sz : sz + 1 = sz') (e_vs : vs.set sz.toInt.toNat x = vs') : Met l Z (⟨"com/example/duna/duna/resolution/Nodes", "add", "(I)V"⟩ : MethodName) prog_29_method_2_code 2 none R_nadd #[(.ref a), (.int x)] h0 n0 (Q_nadd Z h0 n0 a x b sz vs ln sz' vs') := by
  refine Met.of (plainFor_of_name pn0) (fun m => ef2 m a x) ?_
  intro p e s m args below meth c C
  refine G.aloadN C d10_0 rfl rfl (n := 1) rfl ?_
  refine G.getfield C (host := "") (Or.inl (wd hw 54 rfl)) Via.refl (O_a.2.2) d10_1 (n := 4) rfl ?_
  refine G.aloadN C d10_4 rfl rfl (n := 5) rfl ?_
  refine G.getfield C (host := "") (Or.inl (wd hw 23 rfl)) Via.refl (O_a.2.1) d10_5 (n := 8) rfl ?_
  refine G.arraylengthI C (len := ln) O_b e_ln d10_8 (n := 9) rfl ?_
  refine G.icmp_ne C (A := sz.toInt) (B := ln.toInt) rfl rfl d10_9 (by decide) (by decide) (n := 12) (n' := 29) rfl (fun c9_1 c9_1i => ?_) (fun c9_1 c9_1i => ?_)
  rotate_left
  · exact absurd c9_1i (by omega)
  refine G.aloadN C d10_29 rfl rfl (n := 30) rfl ?_
  refine G.getfield C (host := "") (Or.inl (wd hw 23 rfl)) Via.refl (O_a.2.1) d10_30 (n := 33) rfl ?_
  refine G.aloadN C d10_33 rfl rfl (n := 34) rfl ?_
  refine G.dup C d10_34 rfl (n := 35) rfl ?_
  refine G.getfield C (host := "") (Or.inl (wd hw 54 rfl)) Via.refl (O_a.2.2) d10_35 (n := 38) rfl ?_
  refine G.dup_x1 C d10_38 rfl rfl (n := 39) rfl ?_
  refine G.iconst C (v := (1 : Int32)) d10_39 (by decide) (n := 40) rfl ?_
  refine G.iadd C d10_40 (n := 41) rfl ?_
  refine G.putfield C (host := "") (Or.inl (wd hw 54 rfl)) Via.refl (O_a.2.2) (O_a.1) (Or.inl (wd hw 55 rfl)) (wd hw 17 rfl) (ty := .int) (by decide) rfl rfl g_a d10_41 (n := 44) rfl ?_
  intro h2 W3
  have O4 := Ob_N.set_size hw O_a W3
  have K5 := Keep.of_wr W3
  have O6 := O_b.keep K5 (ninS (Ne.symm ne_ab) nin0)
  have Z7 : n0 ≤ h2.size := Nat.le_trans Z0 K5.1
  have K8 : Keep h0 h2 [a, b] := Keep.tr (Keep.refl h0 _) K5 (allS (Or.inl (List.mem_of_getElem? (i := 0) rfl)) all0)
  rw [e_sz] at O4
  refine G.iloadN C d10_44 rfl (n := 45) rfl ?_
  refine G.iastore C O6 q_0 q_1 g_b d10_45 (n := 46) rfl ?_
  intro h9 K10 W11 O12
  have O13 : Ints Z h9 b .int vs' := by rw [← e_vs]; exact O12
  have O14 := O4.keep K10 (ninS ne_ab nin0)
  have Z15 : n0 ≤ h9.size := Nat.le_trans Z7 K10.1
  have K16 : Keep h0 h9 [a, b] := Keep.tr K8 K10 (allS (Or.inl (List.mem_of_getElem? (i := 1) rfl)) all0)
  refine G.return_ C d10_46 (by decide) (by decide) ?_
  exact ⟨rfl, K16, O14, O13⟩
theorem d8_0 : decode prog_29_method_8_code 0 = .ok (.aload_n 0, 1) := by decide +kernel
theorem d8_1 : decode prog_29_method_8_code 1 = .ok (.iconst 0, 1) := by decide +kernel
theorem d8_2 : decode prog_29_method_8_code 2 = .ok (.putfield 13, 3) := by decide +kernel
theorem d8_5 : decode prog_29_method_8_code 5 = .ok (.return_, 1) := by decide +kernel
theorem ef3 (m : MethodId) (a : Addr) : entryFrame m #[(.ref a)] 1 = mkF m 0 #[.val (.ref a)] [] := by first | (simp [entryFrame, mkF, argsToLocals, Value.category]; done) | rfl
abbrev Q_nclear (Z : State) (h0 : Heap) (n0 : Nat) (a : Addr) (b : Addr) (sz : Int32) : Option Value → Heap → Prop := fun v h' => v = none ∧ Keep h0 h' [a] ∧ Ob_N Z h' a (.ref b) 0
abbrev R_nclear : Room := { frames := 0, cells := 0, slots := 0, locals := 0 }
set_option maxRecDepth 65536 in
set_option maxHeartbeats 40000000 in
theorem m_nclear (l : Launch) (Z : State) (a0 : Array Value) (hw : ∀ d ∈ tables_1, d.before a0 Z = true) (a : Addr) (b : Addr) (sz : Int32) (h0 : Heap) (n0 : Nat) (Z0 : n0 ≤ h0.size) (O_a : Ob_N Z h0 a (.ref b) sz) (g_a : n0 ≤ a) : Met l Z (⟨"com/example/duna/duna/resolution/Nodes", "clear", "()V"⟩ : MethodName) prog_29_method_8_code 1 none R_nclear #[(.ref a)] h0 n0 (Q_nclear Z h0 n0 a b sz) := by
  refine Met.of (plainFor_of_name pn0) (fun m => ef3 m a) ?_
  intro p e s m args below meth c C
  refine G.aloadN C d8_0 rfl rfl (n := 1) rfl ?_
  refine G.iconst C (v := (0 : Int32)) d8_1 (by decide) (n := 2) rfl ?_
  refine G.putfield C (host := "") (Or.inl (wd hw 54 rfl)) Via.refl (O_a.2.2) (O_a.1) (Or.inl (wd hw 55 rfl)) (wd hw 17 rfl) (ty := .int) (by decide) rfl rfl g_a d8_2 (n := 5) rfl ?_
  intro h1 W2
  have O3 := Ob_N.set_size hw O_a W2
  have K4 := Keep.of_wr W2
  have Z5 : n0 ≤ h1.size := Nat.le_trans Z0 K4.1
  have K6 : Keep h0 h1 [a] := Keep.tr (Keep.refl h0 _) K4 (allS (Or.inl (List.mem_of_getElem? (i := 0) rfl)) all0)
  refine G.return_ C d8_5 (by decide) (by decide) ?_
  exact ⟨rfl, K6, O3⟩
theorem d6_0 : decode jdk_29_method_69_code 0 = .ok (.iload_n 0, 1) := by decide +kernel
theorem d6_1 : decode jdk_29_method_69_code 1 = .ok (.iload_n 1, 1) := by decide +kernel
theorem d6_2 : decode jdk_29_method_69_code 2 = .ok (.if_icmp .gt 7, 3) := by decide +kernel
theorem d6_5 : decode jdk_29_method_69_code 5 = .ok (.iload_n 0, 1) := by decide +kernel
theorem d6_6 : decode jdk_29_method_69_code 6 = .ok (.goto 4, 3) := by decide +kernel
theorem d6_9 : decode jdk_29_method_69_code 9 = .ok (.iload_n 1, 1) := by decide +kernel
theorem d6_10 : decode jdk_29_method_69_code 10 = .ok (.ireturn, 1) := by decide +kernel
theorem ef4 (m : MethodId) (x : Int32) (y : Int32) : entryFrame m #[(.int x), (.int y)] 2 = mkF m 0 #[.val (.int x), .val (.int y)] [] := by first | (simp [entryFrame, mkF, argsToLocals, Value.category]; done) | rfl
abbrev Q_min (Z : State) (h0 : Heap) (n0 : Nat) (x : Int32) (y : Int32) : Option Value → Heap → Prop := fun v h' => v = some (.int (imin x y)) ∧ h0 = h'
abbrev R_min : Room := { frames := 0, cells := 0, slots := 0, locals := 0 }
set_option maxRecDepth 65536 in
set_option maxHeartbeats 40000000 in
theorem m_min (l : Launch) (Z : State) (a0 : Array Value) (hw : ∀ d ∈ tables_1, d.before a0 Z = true) (x : Int32) (y : Int32) (h0 : Heap) (n0 : Nat) (Z0 : n0 ≤ h0.size)  : Met l Z (⟨"java/lang/Math", "min", "(II)I"⟩ : MethodName) jdk_29_method_69_code 2 (some .int) R_min #[(.int x), (.int y)] h0 n0 (Q_min Z h0 n0 x y) := by
  refine Met.of ((by decide +kernel)) (fun m => ef4 m x y) ?_
  intro p e s m args below meth c C
  refine G.iloadN C d6_0 rfl (n := 1) rfl ?_
  refine G.iloadN C d6_1 rfl (n := 2) rfl ?_
  refine G.icmp_gt C (A := x.toInt) (B := y.toInt) rfl rfl d6_2 (by decide) (by decide) (n := 5) (n' := 9) rfl (fun c2_1 => ?_) (fun c2_1 => ?_)
  · refine G.iloadN C d6_9 rfl (n := 10) rfl ?_
    refine G.ireturn C d6_10 (rfl) (by simp) (by decide) (by decide) ?_
    exact ⟨by rw [imin, if_pos c2_1], rfl⟩
  · refine G.iloadN C d6_5 rfl (n := 6) rfl ?_
    refine G.goto C d6_6 (by decide) (n := 10) (by decide) ?_
    refine G.ireturn C d6_10 (rfl) (by simp) (by decide) (by decide) ?_
    exact ⟨by rw [imin, if_neg (by omega)], rfl⟩
theorem d5_0 : decode jdk_65_method_123_code 0 = .ok (.iload_n 1, 1) := by decide +kernel
theorem d5_1 : decode jdk_65_method_123_code 1 = .ok (.aload_n 0, 1) := by decide +kernel
theorem d5_2 : decode jdk_65_method_123_code 2 = .ok (.arraylength, 1) := by decide +kernel
theorem d5_3 : decode jdk_65_method_123_code 3 = .ok (.if_icmp .ne 11, 3) := by decide +kernel
theorem d5_6 : decode jdk_65_method_123_code 6 = .ok (.aload_n 0, 1) := by decide +kernel
theorem d5_7 : decode jdk_65_method_123_code 7 = .ok (.invokevirtual 316, 3) := by decide +kernel
theorem d5_10 : decode jdk_65_method_123_code 10 = .ok (.checkcast 317, 3) := by decide +kernel
theorem d5_13 : decode jdk_65_method_123_code 13 = .ok (.areturn, 1) := by decide +kernel
theorem d5_14 : decode jdk_65_method_123_code 14 = .ok (.iload_n 1, 1) := by decide +kernel
theorem d5_15 : decode jdk_65_method_123_code 15 = .ok (.newarray .int, 2) := by decide +kernel
theorem d5_17 : decode jdk_65_method_123_code 17 = .ok (.astore_n 2, 1) := by decide +kernel
theorem d5_18 : decode jdk_65_method_123_code 18 = .ok (.aload_n 0, 1) := by decide +kernel
theorem d5_19 : decode jdk_65_method_123_code 19 = .ok (.iconst 0, 1) := by decide +kernel
theorem d5_20 : decode jdk_65_method_123_code 20 = .ok (.aload_n 2, 1) := by decide +kernel
theorem d5_21 : decode jdk_65_method_123_code 21 = .ok (.iconst 0, 1) := by decide +kernel
theorem d5_22 : decode jdk_65_method_123_code 22 = .ok (.aload_n 0, 1) := by decide +kernel
theorem d5_23 : decode jdk_65_method_123_code 23 = .ok (.arraylength, 1) := by decide +kernel
theorem d5_24 : decode jdk_65_method_123_code 24 = .ok (.iload_n 1, 1) := by decide +kernel
theorem d5_25 : decode jdk_65_method_123_code 25 = .ok (.invokestatic 304, 3) := by decide +kernel
theorem d5_28 : decode jdk_65_method_123_code 28 = .ok (.invokestatic 150, 3) := by decide +kernel
theorem d5_31 : decode jdk_65_method_123_code 31 = .ok (.aload_n 2, 1) := by decide +kernel
theorem d5_32 : decode jdk_65_method_123_code 32 = .ok (.areturn, 1) := by decide +kernel
theorem pd0 : parseMethodDescriptor "(II)I" = some ⟨[.int, .int], some .int⟩ := by decide +kernel
theorem pn1 : plainName "java/util/Arrays" = true := by first | (simp [plainName, overriddenIn]; done) | decide +kernel
theorem ef5 (m : MethodId) (a : Addr) (nl : Int32) : entryFrame m #[(.ref a), (.int nl)] 3 = mkF m 0 #[.val (.ref a), .val (.int nl), .unset] [] := by first | (simp [entryFrame, mkF, argsToLocals, Value.category]; done) | rfl
abbrev Q_copyI (Z : State) (h0 : Heap) (n0 : Nat) (a : Addr) (nl : Int32) (vs : List Int32) : Option Value → Heap → Prop := fun v h' => ∃ b, v = some (.ref b) ∧ h0.size ≤ b ∧ Keep h0 h' [] ∧ Ints Z h' b .int (vs ++ List.replicate (nl.toInt.toNat - vs.length) 0)
abbrev R_copyI : Room := { frames := 1, cells := 1, slots := 46, locals := 18 }
set_option maxRecDepth 65536 in
set_option maxHeartbeats 40000000 in
theorem m_copyI (l : Launch) (Z : State) (a0 : Array Value) (hw : ∀ d ∈ tables_1, d.before a0 Z = true) (a : Addr) (nl : Int32) (vs : List Int32) (h0 : Heap) (n0 : Nat) (Z0 : n0 ≤ h0.size) (O_a : Ints Z h0 a .int vs) (q_ne : nl.toInt ≠ vs.length) (q_le : (vs.length : Int) ≤ nl.toInt) (q_cap : nl.toInt ≤ 46) : Met l Z (⟨"java/util/Arrays", "copyOf", "([II)[I"⟩ : MethodName) jdk_65_method_123_code 3 (some (.array .int)) R_copyI #[(.ref a), (.int nl)] h0 n0 (Q_copyI Z h0 n0 a nl vs) := by
  refine Met.of (plainFor_of_name pn1) (fun m => ef5 m a nl) ?_
  intro p e s m args below meth c C
  have ql := O_a.len
  obtain ⟨lm, e_lm⟩ : ∃ z : Int32, z.toInt = vs.length := ⟨Int32.ofNat vs.length, Int32.toInt_ofNat_of_lt (by omega)⟩
  refine G.iloadN C d5_0 rfl (n := 1) rfl ?_
  refine G.aloadN C d5_1 rfl rfl (n := 2) rfl ?_
  refine G.arraylengthI C (len := lm) O_a e_lm d5_2 (n := 3) rfl ?_
  refine G.icmp_ne C (A := nl.toInt) (B := lm.toInt) rfl rfl d5_3 (by decide) (by decide) (n := 6) (n' := 14) rfl (fun c3_1 c3_1i => ?_) (fun c3_1 c3_1i => ?_)
  rotate_left
  · exact absurd (c3_1i.trans e_lm) q_ne
  refine G.iloadN C d5_14 rfl (n := 15) rfl ?_
  refine G.newarray C (ty := .int) (cap := 46) (wd hw 10 rfl) rfl rfl (by omega) (by omega) (by decide) d5_15 (n := 17) rfl (c' := 1) (s' := 46) rfl rfl (by decide) (by decide) ?_
  intro h2 b3 q4 E5 O6
  have ne7 : a ≠ b3 := Nat.ne_of_lt (Nat.lt_of_lt_of_le O_a.lt (Nat.le_of_eq q4.symm))
  have g8 : n0 ≤ b3 := Nat.le_trans Z0 (Nat.le_of_eq q4.symm)
  have f9 : h0.size ≤ b3 := Nat.le_trans (Keep.refl h0 []).1 (Nat.le_of_eq q4.symm)
  have K10 := kext E5
  have O11 := O_a.keep K10 nin0
  have Z12 : n0 ≤ h2.size := Nat.le_trans Z0 K10.1
  have K13 : Keep h0 h2 [] := Keep.tr (Keep.refl h0 _) K10 all0
  refine G.astoreN C d5_17 rfl (l' := #[.val (.ref a), .val (.int nl), .val (.ref b3)]) rfl (n := 18) rfl ?_
  refine G.aloadN C d5_18 rfl rfl (n := 19) rfl ?_
  refine G.iconst C (v := (0 : Int32)) d5_19 (by decide) (n := 20) rfl ?_
  refine G.aloadN C d5_20 rfl rfl (n := 21) rfl ?_
  refine G.iconst C (v := (0 : Int32)) d5_21 (by decide) (n := 22) rfl ?_
  refine G.aloadN C d5_22 rfl rfl (n := 23) rfl ?_
  refine G.arraylengthI C (len := lm) O11 e_lm d5_23 (n := 24) rfl ?_
  refine G.iloadN C d5_24 rfl (n := 25) rfl ?_
  refine G.callS C (argsL := [(.int lm), (.int nl)]) (yc := (⟨"java/lang/Math", "min", "(II)I"⟩ : MethodName)) (wd hw 36 rfl) (wd hw 37 rfl) (wd hw 38 rfl) (wd hw 39 rfl) (by decide) (m_min l Z a0 hw lm nl h2 n0 Z12) rfl (by decide) (W := 4) rfl (by decide) (c' := 1) (s' := 46) rfl rfl (by decide) (by decide) d5_25 (n := 28) rfl pd0 rfl rfl ?_
  rintro _ _ ⟨rfl, rfl⟩
  refine G.fold_int (z := lm) (if_neg (by omega)) ?_
  refine G.arraycopy0 C (nn := lm) (wd hw 40 rfl) (wd hw 43 rfl) (wd hw 41 rfl) (wd hw 42 rfl) O11 O6 rfl e_lm (by rw [List.length_replicate]; omega) g8 d5_28 rfl (by decide) (W := 0) rfl (by decide) (n := 31) rfl ?_
  intro h16 K17 O18
  have O19 : Ints Z h16 b3 .int (vs ++ List.replicate (nl.toInt.toNat - vs.length) 0) := by rw [← List.drop_replicate]; exact O18
  have O20 := O11.keep K17 (ninS ne7 nin0)
  have Z21 : n0 ≤ h16.size := Nat.le_trans Z12 K17.1
  have K22 : Keep h0 h16 [] := Keep.tr K13 K17 (allS (Or.inr f9) all0)
  refine G.aloadN C d5_31 rfl rfl (n := 32) rfl ?_
  refine G.areturn C d5_32 rfl rfl rfl (by decide) (by decide) ?_
  exact ⟨b3, rfl, f9, K22, O19⟩
theorem d7_0 : decode jdk_65_method_121_code 0 = .ok (.iload_n 1, 1) := by decide +kernel
theorem d7_1 : decode jdk_65_method_121_code 1 = .ok (.aload_n 0, 1) := by decide +kernel
theorem d7_2 : decode jdk_65_method_121_code 2 = .ok (.arraylength, 1) := by decide +kernel
theorem d7_3 : decode jdk_65_method_121_code 3 = .ok (.if_icmp .ne 11, 3) := by decide +kernel
theorem d7_6 : decode jdk_65_method_121_code 6 = .ok (.aload_n 0, 1) := by decide +kernel
theorem d7_7 : decode jdk_65_method_121_code 7 = .ok (.invokevirtual 310, 3) := by decide +kernel
theorem d7_10 : decode jdk_65_method_121_code 10 = .ok (.checkcast 311, 3) := by decide +kernel
theorem d7_13 : decode jdk_65_method_121_code 13 = .ok (.areturn, 1) := by decide +kernel
theorem d7_14 : decode jdk_65_method_121_code 14 = .ok (.iload_n 1, 1) := by decide +kernel
theorem d7_15 : decode jdk_65_method_121_code 15 = .ok (.newarray .byte, 2) := by decide +kernel
theorem d7_17 : decode jdk_65_method_121_code 17 = .ok (.astore_n 2, 1) := by decide +kernel
theorem d7_18 : decode jdk_65_method_121_code 18 = .ok (.aload_n 0, 1) := by decide +kernel
theorem d7_19 : decode jdk_65_method_121_code 19 = .ok (.iconst 0, 1) := by decide +kernel
theorem d7_20 : decode jdk_65_method_121_code 20 = .ok (.aload_n 2, 1) := by decide +kernel
theorem d7_21 : decode jdk_65_method_121_code 21 = .ok (.iconst 0, 1) := by decide +kernel
theorem d7_22 : decode jdk_65_method_121_code 22 = .ok (.aload_n 0, 1) := by decide +kernel
theorem d7_23 : decode jdk_65_method_121_code 23 = .ok (.arraylength, 1) := by decide +kernel
theorem d7_24 : decode jdk_65_method_121_code 24 = .ok (.iload_n 1, 1) := by decide +kernel
theorem d7_25 : decode jdk_65_method_121_code 25 = .ok (.invokestatic 304, 3) := by decide +kernel
theorem d7_28 : decode jdk_65_method_121_code 28 = .ok (.invokestatic 150, 3) := by decide +kernel
theorem d7_31 : decode jdk_65_method_121_code 31 = .ok (.aload_n 2, 1) := by decide +kernel
theorem d7_32 : decode jdk_65_method_121_code 32 = .ok (.areturn, 1) := by decide +kernel
theorem ef6 (m : MethodId) (a : Addr) (nl : Int32) : entryFrame m #[(.ref a), (.int nl)] 3 = mkF m 0 #[.val (.ref a), .val (.int nl), .unset] [] := by first | (simp [entryFrame, mkF, argsToLocals, Value.category]; done) | rfl
abbrev Q_copyB (Z : State) (h0 : Heap) (n0 : Nat) (a : Addr) (nl : Int32) (vs : List Int32) : Option Value → Heap → Prop := fun v h' => ∃ b, v = some (.ref b) ∧ h0.size ≤ b ∧ Keep h0 h' [] ∧ Ints Z h' b .byte (vs ++ List.replicate (nl.toInt.toNat - vs.length) 0)
abbrev R_copyB : Room := { frames := 1, cells := 1, slots := 46, locals := 18 }
set_option maxRecDepth 65536 in
set_option maxHeartbeats 40000000 in
theorem m_copyB (l : Launch) (Z : State) (a0 : Array Value) (hw : ∀ d ∈ tables_1, d.before a0 Z = true) (a : Addr) (nl : Int32) (vs : List Int32) (h0 : Heap) (n0 : Nat) (Z0 : n0 ≤ h0.size) (O_a : Ints Z h0 a .byte vs) (q_ne : nl.toInt ≠ vs.length) (q_le : (vs.length : Int) ≤ nl.toInt) (q_cap : nl.toInt ≤ 46) : Met l Z (⟨"java/util/Arrays", "copyOf", "([BI)[B"⟩ : MethodName) jdk_65_method_121_code 3 (some (.array .byte)) R_copyB #[(.ref a), (.int nl)] h0 n0 (Q_copyB Z h0 n0 a nl vs) := by
  refine Met.of (plainFor_of_name pn1) (fun m => ef6 m a nl) ?_
  intro p e s m args below meth c C
  have ql := O_a.len
  obtain ⟨lm, e_lm⟩ : ∃ z : Int32, z.toInt = vs.length := ⟨Int32.ofNat vs.length, Int32.toInt_ofNat_of_lt (by omega)⟩
  refine G.iloadN C d7_0 rfl (n := 1) rfl ?_
  refine G.aloadN C d7_1 rfl rfl (n := 2) rfl ?_
  refine G.arraylengthI C (len := lm) O_a e_lm d7_2 (n := 3) rfl ?_
  refine G.icmp_ne C (A := nl.toInt) (B := lm.toInt) rfl rfl d7_3 (by decide) (by decide) (n := 6) (n' := 14) rfl (fun c3_1 c3_1i => ?_) (fun c3_1 c3_1i => ?_)
  rotate_left
  · exact absurd (c3_1i.trans e_lm) q_ne
  refine G.iloadN C d7_14 rfl (n := 15) rfl ?_
  refine G.newarray C (ty := .byte) (cap := 46) (wd hw 13 rfl) rfl rfl (by omega) (by omega) (by decide) d7_15 (n := 17) rfl (c' := 1) (s' := 46) rfl rfl (by decide) (by decide) ?_
  intro h2 b3 q4 E5 O6
  have ne7 : a ≠ b3 := Nat.ne_of_lt (Nat.lt_of_lt_of_le O_a.lt (Nat.le_of_eq q4.symm))
  have g8 : n0 ≤ b3 := Nat.le_trans Z0 (Nat.le_of_eq q4.symm)
  have f9 : h0.size ≤ b3 := Nat.le_trans (Keep.refl h0 []).1 (Nat.le_of_eq q4.symm)
  have K10 := kext E5
  have O11 := O_a.keep K10 nin0
  have Z12 : n0 ≤ h2.size := Nat.le_trans Z0 K10.1
  have K13 : Keep h0 h2 [] := Keep.tr (Keep.refl h0 _) K10 all0
  refine G.astoreN C d7_17 rfl (l' := #[.val (.ref a), .val (.int nl), .val (.ref b3)]) rfl (n := 18) rfl ?_
  refine G.aloadN C d7_18 rfl rfl (n := 19) rfl ?_
  refine G.iconst C (v := (0 : Int32)) d7_19 (by decide) (n := 20) rfl ?_
  refine G.aloadN C d7_20 rfl rfl (n := 21) rfl ?_
  refine G.iconst C (v := (0 : Int32)) d7_21 (by decide) (n := 22) rfl ?_
  refine G.aloadN C d7_22 rfl rfl (n := 23) rfl ?_
  refine G.arraylengthI C (len := lm) O11 e_lm d7_23 (n := 24) rfl ?_
  refine G.iloadN C d7_24 rfl (n := 25) rfl ?_
  refine G.callS C (argsL := [(.int lm), (.int nl)]) (yc := (⟨"java/lang/Math", "min", "(II)I"⟩ : MethodName)) (wd hw 36 rfl) (wd hw 37 rfl) (wd hw 38 rfl) (wd hw 39 rfl) (by decide) (m_min l Z a0 hw lm nl h2 n0 Z12) rfl (by decide) (W := 4) rfl (by decide) (c' := 1) (s' := 46) rfl rfl (by decide) (by decide) d7_25 (n := 28) rfl pd0 rfl rfl ?_
  rintro _ _ ⟨rfl, rfl⟩
  refine G.fold_int (z := lm) (if_neg (by omega)) ?_
  refine G.arraycopy0 C (nn := lm) (wd hw 40 rfl) (wd hw 43 rfl) (wd hw 41 rfl) (wd hw 42 rfl) O11 O6 rfl e_lm (by rw [List.length_replicate]; omega) g8 d7_28 rfl (by decide) (W := 0) rfl (by decide) (n := 31) rfl ?_
  intro h16 K17 O18
  have O19 : Ints Z h16 b3 .byte (vs ++ List.replicate (nl.toInt.toNat - vs.length) 0) := by rw [← List.drop_replicate]; exact O18
  have O20 := O11.keep K17 (ninS ne7 nin0)
  have Z21 : n0 ≤ h16.size := Nat.le_trans Z12 K17.1
  have K22 : Keep h0 h16 [] := Keep.tr K13 K17 (allS (Or.inr f9) all0)
  refine G.aloadN C d7_31 rfl rfl (n := 32) rfl ?_
  refine G.areturn C d7_32 rfl rfl rfl (by decide) (by decide) ?_
  exact ⟨b3, rfl, f9, K22, O19⟩
theorem d1_0 : decode prog_30_method_1_code 0 = .ok (.aload_n 0, 1) := by decide +kernel
theorem d1_1 : decode prog_30_method_1_code 1 = .ok (.invokespecial 1, 3) := by decide +kernel
theorem d1_4 : decode prog_30_method_1_code 4 = .ok (.aload_n 0, 1) := by decide +kernel
theorem d1_5 : decode prog_30_method_1_code 5 = .ok (.iconst 0, 1) := by decide +kernel
theorem d1_6 : decode prog_30_method_1_code 6 = .ok (.newarray .int, 2) := by decide +kernel
theorem d1_8 : decode prog_30_method_1_code 8 = .ok (.putfield 7, 3) := by decide +kernel
theorem d1_11 : decode prog_30_method_1_code 11 = .ok (.aload_n 0, 1) := by decide +kernel
theorem d1_12 : decode prog_30_method_1_code 12 = .ok (.iconst 0, 1) := by decide +kernel
theorem d1_13 : decode prog_30_method_1_code 13 = .ok (.newarray .byte, 2) := by decide +kernel
theorem d1_15 : decode prog_30_method_1_code 15 = .ok (.putfield 13, 3) := by decide +kernel
theorem d1_18 : decode prog_30_method_1_code 18 = .ok (.aload_n 0, 1) := by decide +kernel
theorem d1_19 : decode prog_30_method_1_code 19 = .ok (.new 17, 3) := by decide +kernel
theorem d1_22 : decode prog_30_method_1_code 22 = .ok (.dup, 1) := by decide +kernel
theorem d1_23 : decode prog_30_method_1_code 23 = .ok (.invokespecial 19, 3) := by decide +kernel
theorem d1_26 : decode prog_30_method_1_code 26 = .ok (.putfield 20, 3) := by decide +kernel
theorem d1_29 : decode prog_30_method_1_code 29 = .ok (.return_, 1) := by decide +kernel
theorem pd1 : parseMethodDescriptor "()V" = some ⟨[], none⟩ := by decide +kernel
theorem pn2 : plainName "com/example/duna/duna/resolution/Region" = true := by first | (simp [plainName, overriddenIn]; done) | decide +kernel
theorem ef7 (m : MethodId) (a : Addr) : entryFrame m #[(.ref a)] 1 = mkF m 0 #[.val (.ref a)] [] := by first | (simp [entryFrame, mkF, argsToLocals, Value.category]; done) | rfl
abbrev Q_rinit (Z : State) (h0 : Heap) (n0 : Nat) (a : Addr) : Option Value → Heap → Prop := fun v h' => v = none ∧ n0 ≤ h'.size ∧ Rg Z h' n0 a [] 0 0
abbrev R_rinit : Room := { frames := 2, cells := 4, slots := 18, locals := 26 }
set_option maxRecDepth 65536 in
set_option maxHeartbeats 40000000 in
theorem m_rinit (l : Launch) (Z : State) (a0 : Array Value) (hw : ∀ d ∈ tables_1, d.before a0 Z = true) (a : Addr) (h0 : Heap) (n0 : Nat) (Z0 : n0 ≤ h0.size) (O_a : Ob_Rg Z h0 a .null .null .null 0) (g_a : n0 ≤ a) : Met l Z (⟨"com/example/duna/duna/resolution/Region", "<init>", "()V"⟩ : MethodName) prog_30_method_1_code 1 none R_rinit #[(.ref a)] h0 n0 (Q_rinit Z h0 n0 a) := by
  refine Met.of (plainFor_of_name pn2) (fun m => ef7 m a) ?_
  intro p e s m args below meth c C
  refine G.aloadN C d1_0 rfl rfl (n := 1) rfl ?_
  refine G.objinit C (wd hw 7 rfl) (wd hw 8 rfl) (wd hw 9 rfl) d1_1 rfl (by decide) (W := 0) rfl (by decide) (n := 4) rfl ?_
  refine G.aloadN C d1_4 rfl rfl (n := 5) rfl ?_
  refine G.iconst C (v := (0 : Int32)) d1_5 (by decide) (n := 6) rfl ?_
  refine G.newarray C (ty := .int) (cap := 0) (wd hw 10 rfl) rfl rfl (by decide) (by decide) (by decide) d1_6 (n := 8) rfl (c' := 1) (s' := 0) rfl rfl (by decide) (by decide) ?_
  intro h1 b2 q3 E4 O5
  have O6 : Ints Z h1 b2 .int [] := O5
  have ne7 : a ≠ b2 := Nat.ne_of_lt (Nat.lt_of_lt_of_le O_a.lt (Nat.le_of_eq q3.symm))
  have g8 : n0 ≤ b2 := Nat.le_trans Z0 (Nat.le_of_eq q3.symm)
  have f9 : h0.size ≤ b2 := Nat.le_trans (Keep.refl h0 []).1 (Nat.le_of_eq q3.symm)
  have K10 := kext E4
  have O11 := O_a.keep K10 nin0
  have Z12 : n0 ≤ h1.size := Nat.le_trans Z0 K10.1
  have K13 : Keep h0 h1 [a] := Keep.tr (Keep.refl h0 _) K10 all0
  refine G.putfield C (host := "") (Or.inl (wd hw 11 rfl)) Via.refl (O11.2.1) (O11.1) (Or.inl (wd hw 12 rfl)) (wd hw 2 rfl) (ty := (.array .int)) (by decide) rfl rfl g_a d1_8 (n := 11) rfl ?_
  intro h14 W15
  have O16 := Ob_Rg.set_marks hw O11 (v := (.ref b2)) W15
  have K17 := Keep.of_wr W15
  have O18 := O6.keep K17 (ninS (Ne.symm ne7) nin0)
  have Z19 : n0 ≤ h14.size := Nat.le_trans Z12 K17.1
  have K20 : Keep h0 h14 [a] := Keep.tr K13 K17 (allS (Or.inl (List.mem_of_getElem? (i := 0) rfl)) all0)
  refine G.aloadN C d1_11 rfl rfl (n := 12) rfl ?_
  refine G.iconst C (v := (0 : Int32)) d1_12 (by decide) (n := 13) rfl ?_
  refine G.newarray C (ty := .byte) (cap := 0) (wd hw 13 rfl) rfl rfl (by decide) (by decide) (by decide) d1_13 (n := 15) rfl (c' := 2) (s' := 0) rfl rfl (by decide) (by decide) ?_
  intro h21 b22 q23 E24 O25
  have O26 : Ints Z h21 b22 .byte [] := O25
  have ne27 : a ≠ b22 := Nat.ne_of_lt (Nat.lt_of_lt_of_le O16.lt (Nat.le_of_eq q23.symm))
  have ne28 : b2 ≠ b22 := Nat.ne_of_lt (Nat.lt_of_lt_of_le O18.lt (Nat.le_of_eq q23.symm))
  have g29 : n0 ≤ b22 := Nat.le_trans Z19 (Nat.le_of_eq q23.symm)
  have f30 : h0.size ≤ b22 := Nat.le_trans K20.1 (Nat.le_of_eq q23.symm)
  have K31 := kext E24
  have O32 := O16.keep K31 nin0
  have O33 := O18.keep K31 nin0
  have Z34 : n0 ≤ h21.size := Nat.le_trans Z19 K31.1
  have K35 : Keep h0 h21 [a] := Keep.tr K20 K31 all0
  refine G.putfield C (host := "") (Or.inl (wd hw 14 rfl)) Via.refl (O32.2.2.1) (O32.1) (Or.inl (wd hw 15 rfl)) (wd hw 2 rfl) (ty := (.array .byte)) (by decide) rfl rfl g_a d1_15 (n := 18) rfl ?_
  intro h36 W37
  have O38 := Ob_Rg.set_saved hw O32 (v := (.ref b22)) W37
  have K39 := Keep.of_wr W37
  have O40 := O33.keep K39 (ninS (Ne.symm ne7) nin0)
  have O41 := O26.keep K39 (ninS (Ne.symm ne27) nin0)
  have Z42 : n0 ≤ h36.size := Nat.le_trans Z34 K39.1
  have K43 : Keep h0 h36 [a] := Keep.tr K35 K39 (allS (Or.inl (List.mem_of_getElem? (i := 0) rfl)) all0)
  refine G.aloadN C d1_18 rfl rfl (n := 19) rfl ?_
  refine G.new C (wd hw 16 rfl) (wd hw 17 rfl) (wd hw 18 rfl) d1_19 (n := 22) rfl (c' := 3) (s' := 2) rfl rfl (by decide) (by decide) ?_
  intro h44 b45 q46 E47 A48 D49
  have ne50 : a ≠ b45 := Nat.ne_of_lt (Nat.lt_of_lt_of_le O38.lt (Nat.le_of_eq q46.symm))
  have ne51 : b2 ≠ b45 := Nat.ne_of_lt (Nat.lt_of_lt_of_le O40.lt (Nat.le_of_eq q46.symm))
  have ne52 : b22 ≠ b45 := Nat.ne_of_lt (Nat.lt_of_lt_of_le O41.lt (Nat.le_of_eq q46.symm))
  have g53 : n0 ≤ b45 := Nat.le_trans Z42 (Nat.le_of_eq q46.symm)
  have f54 : h0.size ≤ b45 := Nat.le_trans K43.1 (Nat.le_of_eq q46.symm)
  have O55 := Ob_N.new hw A48 D49
  have K56 := kext E47
  have O57 := O38.keep K56 nin0
  have O58 := O40.keep K56 nin0
  have O59 := O41.keep K56 nin0
  have Z60 : n0 ≤ h44.size := Nat.le_trans Z42 K56.1
  have K61 : Keep h0 h44 [a] := Keep.tr K43 K56 all0
  refine G.dup C d1_22 rfl (n := 23) rfl ?_
  refine G.callC C (argsL := []) (yc := (⟨"com/example/duna/duna/resolution/Nodes", "<init>", "()V"⟩ : MethodName)) (a := b45) rfl (wd hw 19 rfl) (wd hw 20 rfl) (wd hw 18 rfl) (wd hw 21 rfl) (by decide) (m_ninit l Z a0 hw b45 h44 n0 Z60 O55 g53) rfl (by decide) (W := 2) rfl (by decide) (c' := 4) (s' := 18) rfl rfl (by decide) (by decide) d1_23 (n := 26) rfl pd1 rfl rfl ?_
  rintro _ h68 ⟨rfl, K62, b63, f64, O65, O66⟩
  have ne69 : a ≠ b63 := Nat.ne_of_lt (Nat.lt_of_lt_of_le O57.lt f64)
  have ne70 : b2 ≠ b63 := Nat.ne_of_lt (Nat.lt_of_lt_of_le O58.lt f64)
  have ne71 : b22 ≠ b63 := Nat.ne_of_lt (Nat.lt_of_lt_of_le O59.lt f64)
  have ne72 : b45 ≠ b63 := Nat.ne_of_lt (Nat.lt_of_lt_of_le O55.lt f64)
  have g73 : n0 ≤ b63 := Nat.le_trans Z60 f64
  have f74 : h0.size ≤ b63 := Nat.le_trans K61.1 f64
  have O75 := O57.keep K62 (ninS ne50 nin0)
  have O76 := O58.keep K62 (ninS ne51 nin0)
  have O77 := O59.keep K62 (ninS ne52 nin0)
  have Z78 : n0 ≤ h68.size := Nat.le_trans Z60 K62.1
  have K79 : Keep h0 h68 [a] := Keep.tr K61 K62 (allS (Or.inr f54) all0)
  refine G.putfield C (host := "") (Or.inl (wd hw 25 rfl)) Via.refl (O75.2.2.2.1) (O75.1) (Or.inr ⟨(wd hw 26 rfl), rfl, rfl⟩) (wd hw 2 rfl) (ty := (.object "com/example/duna/duna/resolution/Nodes")) (by decide) rfl rfl g_a d1_26 (n := 29) rfl ?_
  intro h80 W81
  have O82 := Ob_Rg.set_nodes hw O75 (v := (.ref b45)) W81
  have K83 := Keep.of_wr W81
  have O84 := O76.keep K83 (ninS (Ne.symm ne7) nin0)
  have O85 := O77.keep K83 (ninS (Ne.symm ne27) nin0)
  have O86 := O65.keep K83 (ninS (Ne.symm ne50) nin0)
  have O87 := O66.keep K83 (ninS (Ne.symm ne69) nin0)
  have Z88 : n0 ≤ h80.size := Nat.le_trans Z78 K83.1
  have K89 : Keep h0 h80 [a] := Keep.tr K79 K83 (allS (Or.inl (List.mem_of_getElem? (i := 0) rfl)) all0)
  refine G.return_ C d1_29 (by decide) (by decide) ?_
  exact ⟨rfl, Z88, ⟨b2, b22, b45, b63, _, _, _, O82, O84, O85, rfl, O86, O87, rfl, rfl, ne7, ne27, ne50, ne69, ne28, ne51, ne70, ne52, ne71, ne72, g_a, g8, g29, g53, g73⟩⟩
theorem d4_0 : decode prog_30_method_2_code 0 = .ok (.aload_n 0, 1) := by decide +kernel
theorem d4_1 : decode prog_30_method_2_code 1 = .ok (.getfield 7, 3) := by decide +kernel
theorem d4_4 : decode prog_30_method_2_code 4 = .ok (.arraylength, 1) := by decide +kernel
theorem d4_5 : decode prog_30_method_2_code 5 = .ok (.iload_n 1, 1) := by decide +kernel
theorem d4_6 : decode prog_30_method_2_code 6 = .ok (.if_icmp .ge 31, 3) := by decide +kernel
theorem d4_9 : decode prog_30_method_2_code 9 = .ok (.aload_n 0, 1) := by decide +kernel
theorem d4_10 : decode prog_30_method_2_code 10 = .ok (.aload_n 0, 1) := by decide +kernel
theorem d4_11 : decode prog_30_method_2_code 11 = .ok (.getfield 7, 3) := by decide +kernel
theorem d4_14 : decode prog_30_method_2_code 14 = .ok (.iconst 2, 1) := by decide +kernel
theorem d4_15 : decode prog_30_method_2_code 15 = .ok (.iload_n 1, 1) := by decide +kernel
theorem d4_16 : decode prog_30_method_2_code 16 = .ok (.imul, 1) := by decide +kernel
theorem d4_17 : decode prog_30_method_2_code 17 = .ok (.invokestatic 24, 3) := by decide +kernel
theorem d4_20 : decode prog_30_method_2_code 20 = .ok (.putfield 7, 3) := by decide +kernel
theorem d4_23 : decode prog_30_method_2_code 23 = .ok (.aload_n 0, 1) := by decide +kernel
theorem d4_24 : decode prog_30_method_2_code 24 = .ok (.aload_n 0, 1) := by decide +kernel
theorem d4_25 : decode prog_30_method_2_code 25 = .ok (.getfield 13, 3) := by decide +kernel
theorem d4_28 : decode prog_30_method_2_code 28 = .ok (.iconst 2, 1) := by decide +kernel
theorem d4_29 : decode prog_30_method_2_code 29 = .ok (.iload_n 1, 1) := by decide +kernel
theorem d4_30 : decode prog_30_method_2_code 30 = .ok (.imul, 1) := by decide +kernel
theorem d4_31 : decode prog_30_method_2_code 31 = .ok (.invokestatic 30, 3) := by decide +kernel
theorem d4_34 : decode prog_30_method_2_code 34 = .ok (.putfield 13, 3) := by decide +kernel
theorem d4_37 : decode prog_30_method_2_code 37 = .ok (.aload_n 0, 1) := by decide +kernel
theorem d4_38 : decode prog_30_method_2_code 38 = .ok (.dup, 1) := by decide +kernel
theorem d4_39 : decode prog_30_method_2_code 39 = .ok (.getfield 33, 3) := by decide +kernel
theorem d4_42 : decode prog_30_method_2_code 42 = .ok (.iconst 1, 1) := by decide +kernel
theorem d4_43 : decode prog_30_method_2_code 43 = .ok (.iadd, 1) := by decide +kernel
theorem d4_44 : decode prog_30_method_2_code 44 = .ok (.putfield 33, 3) := by decide +kernel
theorem d4_47 : decode prog_30_method_2_code 47 = .ok (.aload_n 0, 1) := by decide +kernel
theorem d4_48 : decode prog_30_method_2_code 48 = .ok (.getfield 20, 3) := by decide +kernel
theorem d4_51 : decode prog_30_method_2_code 51 = .ok (.invokevirtual 37, 3) := by decide +kernel
theorem d4_54 : decode prog_30_method_2_code 54 = .ok (.return_, 1) := by decide +kernel
theorem pd2 : parseMethodDescriptor "([II)[I" = some ⟨[(.array .int), .int], some (.array .int)⟩ := by decide +kernel
theorem pd3 : parseMethodDescriptor "([BI)[B" = some ⟨[(.array .byte), .int], some (.array .byte)⟩ := by decide +kernel
theorem ef8 (m : MethodId) (a : Addr) (x : Int32) : entryFrame m #[(.ref a), (.int x)] 2 = mkF m 0 #[.val (.ref a), .val (.int x)] [] := by first | (simp [entryFrame, mkF, argsToLocals, Value.category]; done) | rfl
abbrev Q_clear (Z : State) (h0 : Heap) (n0 : Nat) (a : Addr) (x : Int32) (ms : List Int32) (rd : Int32) (rd' : Int32) (sz : Nat) : Option Value → Heap → Prop := fun v h' => v = none ∧ n0 ≤ h'.size ∧ ∃ ms', Rg Z h' n0 a ms' rd' 0 ∧ x.toInt ≤ ms'.length ∧ ∀ i, ms'.getD i 0 = ms.getD i 0
abbrev R_clear : Room := { frames := 2, cells := 2, slots := 92, locals := 33 }
set_option maxRecDepth 65536 in
set_option maxHeartbeats 40000000 in
theorem m_clear (l : Launch) (Z : State) (a0 : Array Value) (hw : ∀ d ∈ tables_1, d.before a0 Z = true) (a : Addr) (x : Int32) (ms : List Int32) (rd : Int32) (rd' : Int32) (sz : Nat) (h0 : Heap) (n0 : Nat) (Z0 : n0 ≤ h0.size) (RGf : Rg Z h0 n0 a ms rd sz) (q_1 : 0 < x.toInt) (q_2 : x.toInt ≤ 23) (e_rd : rd + 1 = rd') : Met l Z (⟨"com/example/duna/duna/resolution/Region", "clear", "(I)V"⟩ : MethodName) prog_30_method_2_code 2 none R_clear #[(.ref a), (.int x)] h0 n0 (Q_clear Z h0 n0 a x ms rd rd' sz) := by
  refine Met.of (plainFor_of_name pn2) (fun m => ef8 m a x) ?_
  intro p e s m args below meth c C
  obtain ⟨m1, s1, nd, na, ss, vs, nsz, O_a, O_m, O_s, e_ss, O_nd, O_na, e_vs, q_sz, ne_am1, ne_as1, ne_and, ne_ana, ne_m1s1, ne_m1nd, ne_m1na, ne_s1nd, ne_s1na, ne_ndna, g_a, g_m1, g_s1, g_nd, g_na⟩ := RGf
  have ql := O_m.len
  obtain ⟨lm, e_lm⟩ : ∃ z : Int32, z.toInt = ms.length := ⟨Int32.ofNat ms.length, Int32.toInt_ofNat_of_lt (by omega)⟩
  refine G.aloadN C d4_0 rfl rfl (n := 1) rfl ?_
  refine G.getfield C (host := "") (Or.inl (wd hw 11 rfl)) Via.refl (O_a.2.1) d4_1 (n := 4) rfl ?_
  refine G.arraylengthI C (len := lm) O_m e_lm d4_4 (n := 5) rfl ?_
  refine G.iloadN C d4_5 rfl (n := 6) rfl ?_
  refine G.icmp_ge C (A := lm.toInt) (B := x.toInt) rfl rfl d4_6 (by decide) (by decide) (n := 9) (n' := 37) rfl (fun c6_1 => ?_) (fun c6_1 => ?_)
  · refine G.aloadN C d4_37 rfl rfl (n := 38) rfl ?_
    refine G.dup C d4_38 rfl (n := 39) rfl ?_
    refine G.getfield C (host := "") (Or.inl (wd hw 47 rfl)) Via.refl (O_a.2.2.2.2) d4_39 (n := 42) rfl ?_
    refine G.iconst C (v := (1 : Int32)) d4_42 (by decide) (n := 43) rfl ?_
    refine G.iadd C d4_43 (n := 44) rfl ?_
    refine G.fold_int (z := rd') e_rd ?_
    refine G.putfield C (host := "") (Or.inl (wd hw 47 rfl)) Via.refl (O_a.2.2.2.2) (O_a.1) (Or.inl (wd hw 48 rfl)) (wd hw 2 rfl) (ty := .int) (by decide) rfl rfl g_a d4_44 (n := 47) rfl ?_
    intro h2 W3
    have O4 := Ob_Rg.set_round hw O_a W3
    have K5 := Keep.of_wr W3
    have O6 := O_m.keep K5 (ninS (Ne.symm ne_am1) nin0)
    have O7 := O_s.keep K5 (ninS (Ne.symm ne_as1) nin0)
    have O8 := O_nd.keep K5 (ninS (Ne.symm ne_and) nin0)
    have O9 := O_na.keep K5 (ninS (Ne.symm ne_ana) nin0)
    have Z10 : n0 ≤ h2.size := Nat.le_trans Z0 K5.1
    refine G.aloadN C d4_47 rfl rfl (n := 48) rfl ?_
    refine G.getfield C (host := "") (Or.inl (wd hw 25 rfl)) Via.refl (O4.2.2.2.1) d4_48 (n := 51) rfl ?_
    refine G.callV C (argsL := []) (yr := (⟨"com/example/duna/duna/resolution/Nodes", "clear", "()V"⟩ : MethodName)) (yc := (⟨"com/example/duna/duna/resolution/Nodes", "clear", "()V"⟩ : MethodName)) (a := nd) (O8.1) (wd hw 49 rfl) (wd hw 50 rfl) (nfS (wd hw 52 rfl) rfl) (wd hw 52 rfl) (wd hw 51 rfl) (wd hw 18 rfl) (wd hw 53 rfl) (by decide) (m_nclear l Z a0 hw nd na nsz h2 n0 Z10 O8 g_nd) rfl (by decide) (W := 0) rfl (by decide) (c' := 0) (s' := 0) rfl rfl (by decide) (by decide) d4_51 (n := 54) rfl pd1 rfl rfl ?_
    rintro _ h14 ⟨rfl, K11, O12⟩
    have O15 := O4.keep K11 (ninS ne_and nin0)
    have O16 := O6.keep K11 (ninS ne_m1nd nin0)
    have O17 := O7.keep K11 (ninS ne_s1nd nin0)
    have O18 := O9.keep K11 (ninS (Ne.symm ne_ndna) nin0)
    have Z19 : n0 ≤ h14.size := Nat.le_trans Z10 K11.1
    refine G.return_ C d4_54 (by decide) (by decide) ?_
    exact ⟨rfl, Z19, _, ⟨m1, s1, nd, na, _, _, _, O15, O16, O17, e_ss, O12, O18, e_vs, rfl, ne_am1, ne_as1, ne_and, ne_ana, ne_m1s1, ne_m1nd, ne_m1na, ne_s1nd, ne_s1na, ne_ndna, g_a, g_m1, g_s1, g_nd, g_na⟩, (by omega), (fun i => rfl)⟩
  · refine G.aloadN C d4_9 rfl rfl (n := 10) rfl ?_
    refine G.aloadN C d4_10 rfl rfl (n := 11) rfl ?_
    refine G.getfield C (host := "") (Or.inl (wd hw 11 rfl)) Via.refl (O_a.2.1) d4_11 (n := 14) rfl ?_
    refine G.iconst C (v := (2 : Int32)) d4_14 (by decide) (n := 15) rfl ?_
    refine G.iloadN C d4_15 rfl (n := 16) rfl ?_
    refine G.imul C d4_16 (n := 17) rfl ?_
    have x2 := imul2 (x := x) (by omega) q_2
    refine G.callS C (argsL := [(.ref m1), (.int ((2 : Int32) * x))]) (yc := (⟨"java/util/Arrays", "copyOf", "([II)[I"⟩ : MethodName)) (wd hw 32 rfl) (wd hw 33 rfl) (wd hw 34 rfl) (wd hw 35 rfl) (by decide) (m_copyI l Z a0 hw m1 ((2 : Int32) * x) ms h0 n0 Z0 O_m (by omega) (by omega) (by omega)) rfl (by decide) (W := 1) rfl (by decide) (c' := 1) (s' := 46) rfl rfl (by decide) (by decide) d4_17 (n := 20) rfl pd2 rfl rfl ?_
    rintro _ h25 ⟨b20, rfl, f21, K22, O23⟩
    have ne26 : a ≠ b20 := Nat.ne_of_lt (Nat.lt_of_lt_of_le O_a.lt f21)
    have ne27 : m1 ≠ b20 := Nat.ne_of_lt (Nat.lt_of_lt_of_le O_m.lt f21)
    have ne28 : s1 ≠ b20 := Nat.ne_of_lt (Nat.lt_of_lt_of_le O_s.lt f21)
    have ne29 : nd ≠ b20 := Nat.ne_of_lt (Nat.lt_of_lt_of_le O_nd.lt f21)
    have ne30 : na ≠ b20 := Nat.ne_of_lt (Nat.lt_of_lt_of_le O_na.lt f21)
    have g31 : n0 ≤ b20 := Nat.le_trans Z0 f21
    have O32 := O_a.keep K22 nin0
    have O33 := O_m.keep K22 nin0
    have O34 := O_s.keep K22 nin0
    have O35 := O_nd.keep K22 nin0
    have O36 := O_na.keep K22 nin0
    have Z37 : n0 ≤ h25.size := Nat.le_trans Z0 K22.1
    refine G.putfield C (host := "") (Or.inl (wd hw 11 rfl)) Via.refl (O32.2.1) (O32.1) (Or.inl (wd hw 12 rfl)) (wd hw 2 rfl) (ty := (.array .int)) (by decide) rfl rfl g_a d4_20 (n := 23) rfl ?_
    intro h38 W39
    have O40 := Ob_Rg.set_marks hw O32 (v := (.ref b20)) W39
    have K41 := Keep.of_wr W39
    have O42 := O33.keep K41 (ninS (Ne.symm ne_am1) nin0)
    have O43 := O34.keep K41 (ninS (Ne.symm ne_as1) nin0)
    have O44 := O35.keep K41 (ninS (Ne.symm ne_and) nin0)
    have O45 := O36.keep K41 (ninS (Ne.symm ne_ana) nin0)
    have O46 := O23.keep K41 (ninS (Ne.symm ne26) nin0)
    have Z47 : n0 ≤ h38.size := Nat.le_trans Z37 K41.1
    refine G.aloadN C d4_23 rfl rfl (n := 24) rfl ?_
    refine G.aloadN C d4_24 rfl rfl (n := 25) rfl ?_
    refine G.getfield C (host := "") (Or.inl (wd hw 14 rfl)) Via.refl (O40.2.2.1) d4_25 (n := 28) rfl ?_
    refine G.iconst C (v := (2 : Int32)) d4_28 (by decide) (n := 29) rfl ?_
    refine G.iloadN C d4_29 rfl (n := 30) rfl ?_
    refine G.imul C d4_30 (n := 31) rfl ?_
    refine G.callS C (argsL := [(.ref s1), (.int ((2 : Int32) * x))]) (yc := (⟨"java/util/Arrays", "copyOf", "([BI)[B"⟩ : MethodName)) (wd hw 44 rfl) (wd hw 45 rfl) (wd hw 34 rfl) (wd hw 46 rfl) (by decide) (m_copyB l Z a0 hw s1 ((2 : Int32) * x) ss h38 n0 Z47 O43 (by omega) (by omega) (by omega)) rfl (by decide) (W := 1) rfl (by decide) (c' := 2) (s' := 92) rfl rfl (by decide) (by decide) d4_31 (n := 34) rfl pd3 rfl rfl ?_
    rintro _ h53 ⟨b48, rfl, f49, K50, O51⟩
    have ne54 : a ≠ b48 := Nat.ne_of_lt (Nat.lt_of_lt_of_le O40.lt f49)
    have ne55 : m1 ≠ b48 := Nat.ne_of_lt (Nat.lt_of_lt_of_le O42.lt f49)
    have ne56 : s1 ≠ b48 := Nat.ne_of_lt (Nat.lt_of_lt_of_le O43.lt f49)
    have ne57 : nd ≠ b48 := Nat.ne_of_lt (Nat.lt_of_lt_of_le O44.lt f49)
    have ne58 : na ≠ b48 := Nat.ne_of_lt (Nat.lt_of_lt_of_le O45.lt f49)
    have ne59 : b20 ≠ b48 := Nat.ne_of_lt (Nat.lt_of_lt_of_le O46.lt f49)
    have g60 : n0 ≤ b48 := Nat.le_trans Z47 f49
    have O61 := O40.keep K50 nin0
    have O62 := O42.keep K50 nin0
    have O63 := O43.keep K50 nin0
    have O64 := O44.keep K50 nin0
    have O65 := O45.keep K50 nin0
    have O66 := O46.keep K50 nin0
    have Z67 : n0 ≤ h53.size := Nat.le_trans Z47 K50.1
    refine G.putfield C (host := "") (Or.inl (wd hw 14 rfl)) Via.refl (O61.2.2.1) (O61.1) (Or.inl (wd hw 15 rfl)) (wd hw 2 rfl) (ty := (.array .byte)) (by decide) rfl rfl g_a d4_34 (n := 37) rfl ?_
    intro h68 W69
    have O70 := Ob_Rg.set_saved hw O61 (v := (.ref b48)) W69
    have K71 := Keep.of_wr W69
    have O72 := O62.keep K71 (ninS (Ne.symm ne_am1) nin0)
    have O73 := O63.keep K71 (ninS (Ne.symm ne_as1) nin0)
    have O74 := O64.keep K71 (ninS (Ne.symm ne_and) nin0)
    have O75 := O65.keep K71 (ninS (Ne.symm ne_ana) nin0)
    have O76 := O66.keep K71 (ninS (Ne.symm ne26) nin0)
    have O77 := O51.keep K71 (ninS (Ne.symm ne54) nin0)
    have Z78 : n0 ≤ h68.size := Nat.le_trans Z67 K71.1
    refine G.aloadN C d4_37 rfl rfl (n := 38) rfl ?_
    refine G.dup C d4_38 rfl (n := 39) rfl ?_
    refine G.getfield C (host := "") (Or.inl (wd hw 47 rfl)) Via.refl (O70.2.2.2.2) d4_39 (n := 42) rfl ?_
    refine G.iconst C (v := (1 : Int32)) d4_42 (by decide) (n := 43) rfl ?_
    refine G.iadd C d4_43 (n := 44) rfl ?_
    refine G.fold_int (z := rd') e_rd ?_
    refine G.putfield C (host := "") (Or.inl (wd hw 47 rfl)) Via.refl (O70.2.2.2.2) (O70.1) (Or.inl (wd hw 48 rfl)) (wd hw 2 rfl) (ty := .int) (by decide) rfl rfl g_a d4_44 (n := 47) rfl ?_
    intro h79 W80
    have O81 := Ob_Rg.set_round hw O70 W80
    have K82 := Keep.of_wr W80
    have O83 := O72.keep K82 (ninS (Ne.symm ne_am1) nin0)
    have O84 := O73.keep K82 (ninS (Ne.symm ne_as1) nin0)
    have O85 := O74.keep K82 (ninS (Ne.symm ne_and) nin0)
    have O86 := O75.keep K82 (ninS (Ne.symm ne_ana) nin0)
    have O87 := O76.keep K82 (ninS (Ne.symm ne26) nin0)
    have O88 := O77.keep K82 (ninS (Ne.symm ne54) nin0)
    have Z89 : n0 ≤ h79.size := Nat.le_trans Z78 K82.1
    refine G.aloadN C d4_47 rfl rfl (n := 48) rfl ?_
    refine G.getfield C (host := "") (Or.inl (wd hw 25 rfl)) Via.refl (O81.2.2.2.1) d4_48 (n := 51) rfl ?_
    refine G.callV C (argsL := []) (yr := (⟨"com/example/duna/duna/resolution/Nodes", "clear", "()V"⟩ : MethodName)) (yc := (⟨"com/example/duna/duna/resolution/Nodes", "clear", "()V"⟩ : MethodName)) (a := nd) (O85.1) (wd hw 49 rfl) (wd hw 50 rfl) (nfS (wd hw 52 rfl) rfl) (wd hw 52 rfl) (wd hw 51 rfl) (wd hw 18 rfl) (wd hw 53 rfl) (by decide) (m_nclear l Z a0 hw nd na nsz h79 n0 Z89 O85 g_nd) rfl (by decide) (W := 0) rfl (by decide) (c' := 2) (s' := 92) rfl rfl (by decide) (by decide) d4_51 (n := 54) rfl pd1 rfl rfl ?_
    rintro _ h93 ⟨rfl, K90, O91⟩
    have O94 := O81.keep K90 (ninS ne_and nin0)
    have O95 := O83.keep K90 (ninS ne_m1nd nin0)
    have O96 := O84.keep K90 (ninS ne_s1nd nin0)
    have O97 := O86.keep K90 (ninS (Ne.symm ne_ndna) nin0)
    have O98 := O87.keep K90 (ninS (Ne.symm ne29) nin0)
    have O99 := O88.keep K90 (ninS (Ne.symm ne57) nin0)
    have Z100 : n0 ≤ h93.size := Nat.le_trans Z89 K90.1
    refine G.return_ C d4_54 (by decide) (by decide) ?_
    exact ⟨rfl, Z100, _, ⟨b20, b48, nd, na, _, _, _, O94, O98, O99, (by simp only [List.length_append, List.length_replicate]; omega), O91, O97, e_vs, rfl, ne26, ne54, ne_and, ne_ana, ne59, (Ne.symm ne29), (Ne.symm ne30), (Ne.symm ne57), (Ne.symm ne58), ne_ndna, g_a, g31, g60, g_nd, g_na⟩, (by rw [List.length_append, List.length_replicate]; omega), (fun i => getD_ext _ _ _)⟩
theorem d9_0 : decode prog_30_method_3_code 0 = .ok (.aload_n 0, 1) := by decide +kernel
theorem d9_1 : decode prog_30_method_3_code 1 = .ok (.getfield 7, 3) := by decide +kernel
theorem d9_4 : decode prog_30_method_3_code 4 = .ok (.iload_n 1, 1) := by decide +kernel
theorem d9_5 : decode prog_30_method_3_code 5 = .ok (.iaload, 1) := by decide +kernel
theorem d9_6 : decode prog_30_method_3_code 6 = .ok (.aload_n 0, 1) := by decide +kernel
theorem d9_7 : decode prog_30_method_3_code 7 = .ok (.getfield 33, 3) := by decide +kernel
theorem d9_10 : decode prog_30_method_3_code 10 = .ok (.if_icmp .eq 7, 3) := by decide +kernel
theorem d9_13 : decode prog_30_method_3_code 13 = .ok (.iconst 1, 1) := by decide +kernel
theorem d9_14 : decode prog_30_method_3_code 14 = .ok (.goto 4, 3) := by decide +kernel
theorem d9_17 : decode prog_30_method_3_code 17 = .ok (.iconst 0, 1) := by decide +kernel
theorem d9_18 : decode prog_30_method_3_code 18 = .ok (.istore_n 3, 1) := by decide +kernel
theorem d9_19 : decode prog_30_method_3_code 19 = .ok (.iload_n 3, 1) := by decide +kernel
theorem d9_20 : decode prog_30_method_3_code 20 = .ok (.ifCond .eq 29, 3) := by decide +kernel
theorem d9_23 : decode prog_30_method_3_code 23 = .ok (.aload_n 0, 1) := by decide +kernel
theorem d9_24 : decode prog_30_method_3_code 24 = .ok (.getfield 7, 3) := by decide +kernel
theorem d9_27 : decode prog_30_method_3_code 27 = .ok (.iload_n 1, 1) := by decide +kernel
theorem d9_28 : decode prog_30_method_3_code 28 = .ok (.aload_n 0, 1) := by decide +kernel
theorem d9_29 : decode prog_30_method_3_code 29 = .ok (.getfield 33, 3) := by decide +kernel
theorem d9_32 : decode prog_30_method_3_code 32 = .ok (.iastore, 1) := by decide +kernel
theorem d9_33 : decode prog_30_method_3_code 33 = .ok (.aload_n 0, 1) := by decide +kernel
theorem d9_34 : decode prog_30_method_3_code 34 = .ok (.getfield 13, 3) := by decide +kernel
theorem d9_37 : decode prog_30_method_3_code 37 = .ok (.iload_n 1, 1) := by decide +kernel
theorem d9_38 : decode prog_30_method_3_code 38 = .ok (.iload_n 2, 1) := by decide +kernel
theorem d9_39 : decode prog_30_method_3_code 39 = .ok (.i2b, 1) := by decide +kernel
theorem d9_40 : decode prog_30_method_3_code 40 = .ok (.bastore, 1) := by decide +kernel
theorem d9_41 : decode prog_30_method_3_code 41 = .ok (.aload_n 0, 1) := by decide +kernel
theorem d9_42 : decode prog_30_method_3_code 42 = .ok (.getfield 20, 3) := by decide +kernel
theorem d9_45 : decode prog_30_method_3_code 45 = .ok (.iload_n 1, 1) := by decide +kernel
theorem d9_46 : decode prog_30_method_3_code 46 = .ok (.invokevirtual 40, 3) := by decide +kernel
theorem d9_49 : decode prog_30_method_3_code 49 = .ok (.iload_n 3, 1) := by decide +kernel
theorem d9_50 : decode prog_30_method_3_code 50 = .ok (.ireturn, 1) := by decide +kernel
theorem pd4 : parseMethodDescriptor "(I)V" = some ⟨[.int], none⟩ := by decide +kernel
theorem ef9 (m : MethodId) (a : Addr) (nq : Int32) (lv : Int32) : entryFrame m #[(.ref a), (.int nq), (.int lv)] 4 = mkF m 0 #[.val (.ref a), .val (.int nq), .val (.int lv), .unset] [] := by first | (simp [entryFrame, mkF, argsToLocals, Value.category]; done) | rfl
abbrev Q_radd (Z : State) (h0 : Heap) (n0 : Nat) (a : Addr) (nq : Int32) (lv : Int32) (ms : List Int32) (rd : Int32) (sz : Nat) : Option Value → Heap → Prop := fun v h' => (∃ r, v = some (.int r)) ∧ n0 ≤ h'.size ∧ ∃ sz', sz' ≤ sz + 1 ∧ Rg Z h' n0 a (ms.set nq.toInt.toNat rd) rd sz'
abbrev R_radd : Room := { frames := 1, cells := 0, slots := 0, locals := 13 }
set_option maxRecDepth 65536 in
set_option maxHeartbeats 40000000 in
theorem m_radd (l : Launch) (Z : State) (a0 : Array Value) (hw : ∀ d ∈ tables_1, d.before a0 Z = true) (a : Addr) (nq : Int32) (lv : Int32) (ms : List Int32) (rd : Int32) (sz : Nat) (h0 : Heap) (n0 : Nat) (Z0 : n0 ≤ h0.size) (RGf : Rg Z h0 n0 a ms rd sz) (q_1 : 0 ≤ nq.toInt) (q_2 : nq.toInt < ms.length) (q_3 : sz < 15) : Met l Z (⟨"com/example/duna/duna/resolution/Region", "add", "(II)Z"⟩ : MethodName) prog_30_method_3_code 4 (some .boolean) R_radd #[(.ref a), (.int nq), (.int lv)] h0 n0 (Q_radd Z h0 n0 a nq lv ms rd sz) := by
  refine Met.of (plainFor_of_name pn2) (fun m => ef9 m a nq lv) ?_
  intro p e s m args below meth c C
  obtain ⟨m1, s1, nd, na, ss, vs, nsz, O_a, O_m, O_s, e_ss, O_nd, O_na, e_vs, q_sz, ne_am1, ne_as1, ne_and, ne_ana, ne_m1s1, ne_m1nd, ne_m1na, ne_s1nd, ne_s1na, ne_ndna, g_a, g_m1, g_s1, g_nd, g_na⟩ := RGf
  refine G.aloadN C d9_0 rfl rfl (n := 1) rfl ?_
  refine G.getfield C (host := "") (Or.inl (wd hw 11 rfl)) Via.refl (O_a.2.1) d9_1 (n := 4) rfl ?_
  refine G.iloadN C d9_4 rfl (n := 5) rfl ?_
  refine G.iaload C (x := (ms.getD nq.toInt.toNat 0)) O_m q_1 (getD_at (by omega)) d9_5 (n := 6) rfl ?_
  refine G.aloadN C d9_6 rfl rfl (n := 7) rfl ?_
  refine G.getfield C (host := "") (Or.inl (wd hw 47 rfl)) Via.refl (O_a.2.2.2.2) d9_7 (n := 10) rfl ?_
  refine G.icmp_eq C (A := (ms.getD nq.toInt.toNat 0).toInt) (B := rd.toInt) rfl rfl d9_10 (by decide) (by decide) (n := 13) (n' := 17) rfl (fun c10_1 c10_1i => ?_) (fun c10_1 c10_1i => ?_)
  · refine G.iconst C (v := (0 : Int32)) d9_17 (by decide) (n := 18) rfl ?_
    refine G.istoreN C d9_18 (l' := #[.val (.ref a), .val (.int nq), .val (.int lv), .val (.int (0 : Int32))]) rfl (n := 19) rfl ?_
    refine G.iloadN C d9_19 rfl (n := 20) rfl ?_
    refine G.if_eq C (A := 0) (by decide) d9_20 (by decide) (by decide) (n := 23) (n' := 49) rfl (fun c20_2 c20_2i => ?_) (fun c20_2 c20_2i => ?_)
    rotate_left
    · exact absurd c20_2 (by decide)
    refine G.iloadN C d9_49 rfl (n := 50) rfl ?_
    refine G.ireturn C d9_50 (rfl) (by simp) (by decide) (by decide) ?_
    exact ⟨⟨_, rfl⟩, Z0, sz, Nat.le_succ _, by rw [set_self (by rw [getD_at (d := 0) (by omega)]; exact congrArg some c10_1)]; exact ⟨m1, s1, nd, na, _, _, _, O_a, O_m, O_s, e_ss, O_nd, O_na, e_vs, q_sz, ne_am1, ne_as1, ne_and, ne_ana, ne_m1s1, ne_m1nd, ne_m1na, ne_s1nd, ne_s1na, ne_ndna, g_a, g_m1, g_s1, g_nd, g_na⟩⟩
  · refine G.iconst C (v := (1 : Int32)) d9_13 (by decide) (n := 14) rfl ?_
    refine G.goto C d9_14 (by decide) (n := 18) (by decide) ?_
    refine G.istoreN C d9_18 (l' := #[.val (.ref a), .val (.int nq), .val (.int lv), .val (.int (1 : Int32))]) rfl (n := 19) rfl ?_
    refine G.iloadN C d9_19 rfl (n := 20) rfl ?_
    refine G.if_eq C (A := 1) (by decide) d9_20 (by decide) (by decide) (n := 23) (n' := 49) rfl (fun c20_3 c20_3i => ?_) (fun c20_3 c20_3i => ?_)
    · exact absurd c20_3 (by decide)
    refine G.aloadN C d9_23 rfl rfl (n := 24) rfl ?_
    refine G.getfield C (host := "") (Or.inl (wd hw 11 rfl)) Via.refl (O_a.2.1) d9_24 (n := 27) rfl ?_
    refine G.iloadN C d9_27 rfl (n := 28) rfl ?_
    refine G.aloadN C d9_28 rfl rfl (n := 29) rfl ?_
    refine G.getfield C (host := "") (Or.inl (wd hw 47 rfl)) Via.refl (O_a.2.2.2.2) d9_29 (n := 32) rfl ?_
    refine G.iastore C O_m q_1 q_2 g_m1 d9_32 (n := 33) rfl ?_
    intro h4 K5 W6 O7
    have O8 := O_a.keep K5 (ninS ne_am1 nin0)
    have O9 := O_s.keep K5 (ninS (Ne.symm ne_m1s1) nin0)
    have O10 := O_nd.keep K5 (ninS (Ne.symm ne_m1nd) nin0)
    have O11 := O_na.keep K5 (ninS (Ne.symm ne_m1na) nin0)
    have Z12 : n0 ≤ h4.size := Nat.le_trans Z0 K5.1
    refine G.aloadN C d9_33 rfl rfl (n := 34) rfl ?_
    refine G.getfield C (host := "") (Or.inl (wd hw 14 rfl)) Via.refl (O8.2.2.1) d9_34 (n := 37) rfl ?_
    refine G.iloadN C d9_37 rfl (n := 38) rfl ?_
    refine G.iloadN C d9_38 rfl (n := 39) rfl ?_
    refine G.i2b C d9_39 (n := 40) rfl ?_
    refine G.bastore C O9 q_1 (by rw [e_ss]; exact q_2) g_s1 d9_40 (n := 41) rfl ?_
    intro h13 K14 W15 O16
    have O17 := O8.keep K14 (ninS ne_as1 nin0)
    have O18 := O7.keep K14 (ninS ne_m1s1 nin0)
    have O19 := O10.keep K14 (ninS (Ne.symm ne_s1nd) nin0)
    have O20 := O11.keep K14 (ninS (Ne.symm ne_s1na) nin0)
    have Z21 : n0 ≤ h13.size := Nat.le_trans Z12 K14.1
    refine G.aloadN C d9_41 rfl rfl (n := 42) rfl ?_
    refine G.getfield C (host := "") (Or.inl (wd hw 25 rfl)) Via.refl (O17.2.2.2.1) d9_42 (n := 45) rfl ?_
    refine G.iloadN C d9_45 rfl (n := 46) rfl ?_
    refine G.callV C (argsL := [(.int nq)]) (yr := (⟨"com/example/duna/duna/resolution/Nodes", "add", "(I)V"⟩ : MethodName)) (yc := (⟨"com/example/duna/duna/resolution/Nodes", "add", "(I)V"⟩ : MethodName)) (a := nd) (O19.1) (wd hw 61 rfl) (wd hw 62 rfl) (nfS (wd hw 64 rfl) rfl) (wd hw 64 rfl) (wd hw 63 rfl) (wd hw 18 rfl) (wd hw 65 rfl) (by decide) (m_nadd l Z a0 hw nd nq na nsz vs (16 : Int32) (nsz + 1) (vs.set nsz.toInt.toNat nq) h13 n0 Z21 O19 O20 ne_ndna g_nd g_na (by rw [e_vs]; rfl) (by omega) (by rw [e_vs]; omega) rfl rfl) rfl (by decide) (W := 0) rfl (by decide) (c' := 0) (s' := 0) rfl rfl (by decide) (by decide) d9_46 (n := 49) rfl pd4 rfl rfl ?_
    rintro _ h26 ⟨rfl, K22, O23, O24⟩
    have O27 := O17.keep K22 (ninS ne_and (ninS ne_ana nin0))
    have O28 := O18.keep K22 (ninS ne_m1nd (ninS ne_m1na nin0))
    have O29 := O16.keep K22 (ninS ne_s1nd (ninS ne_s1na nin0))
    have Z30 : n0 ≤ h26.size := Nat.le_trans Z21 K22.1
    refine G.iloadN C d9_49 rfl (n := 50) rfl ?_
    refine G.ireturn C d9_50 (rfl) (by simp) (by decide) (by decide) ?_
    exact ⟨⟨_, rfl⟩, Z30, sz + 1, Nat.le_refl _, ⟨m1, s1, nd, na, _, _, _, O27, O28, O29, (by rw [List.length_set, List.length_set]; exact e_ss), O23, O24, (by rw [List.length_set]; exact e_vs), (by have q1 := c_iadd nsz 1; have q2 := rng32 (nsz + 1); rw [show (1 : Int32).toInt = 1 from rfl] at q1; omega), ne_am1, ne_as1, ne_and, ne_ana, ne_m1s1, ne_m1nd, ne_m1na, ne_s1nd, ne_s1na, ne_ndna, g_a, g_m1, g_s1, g_nd, g_na⟩⟩
theorem d11_0 : decode prog_30_method_4_code 0 = .ok (.aload_n 0, 1) := by decide +kernel
theorem d11_1 : decode prog_30_method_4_code 1 = .ok (.getfield 7, 3) := by decide +kernel
theorem d11_4 : decode prog_30_method_4_code 4 = .ok (.iload_n 1, 1) := by decide +kernel
theorem d11_5 : decode prog_30_method_4_code 5 = .ok (.iaload, 1) := by decide +kernel
theorem d11_6 : decode prog_30_method_4_code 6 = .ok (.aload_n 0, 1) := by decide +kernel
theorem d11_7 : decode prog_30_method_4_code 7 = .ok (.getfield 33, 3) := by decide +kernel
theorem d11_10 : decode prog_30_method_4_code 10 = .ok (.if_icmp .ne 7, 3) := by decide +kernel
theorem d11_13 : decode prog_30_method_4_code 13 = .ok (.iconst 1, 1) := by decide +kernel
theorem d11_14 : decode prog_30_method_4_code 14 = .ok (.goto 4, 3) := by decide +kernel
theorem d11_17 : decode prog_30_method_4_code 17 = .ok (.iconst 0, 1) := by decide +kernel
theorem d11_18 : decode prog_30_method_4_code 18 = .ok (.ireturn, 1) := by decide +kernel
theorem ef10 (m : MethodId) (a : Addr) (nq : Int32) : entryFrame m #[(.ref a), (.int nq)] 2 = mkF m 0 #[.val (.ref a), .val (.int nq)] [] := by first | (simp [entryFrame, mkF, argsToLocals, Value.category]; done) | rfl
abbrev Q_contains (Z : State) (h0 : Heap) (n0 : Nat) (a : Addr) (nq : Int32) (ms : List Int32) (rd : Int32) (sz : Nat) : Option Value → Heap → Prop := fun v h' => v = some (.int (b2i (decide (ms.getD nq.toInt.toNat 0 = rd)))) ∧ h0 = h'
abbrev R_contains : Room := { frames := 0, cells := 0, slots := 0, locals := 0 }
set_option maxRecDepth 65536 in
set_option maxHeartbeats 40000000 in
theorem m_contains (l : Launch) (Z : State) (a0 : Array Value) (hw : ∀ d ∈ tables_1, d.before a0 Z = true) (a : Addr) (nq : Int32) (ms : List Int32) (rd : Int32) (sz : Nat) (h0 : Heap) (n0 : Nat) (Z0 : n0 ≤ h0.size) (RGf : Rg Z h0 n0 a ms rd sz) (q_1 : 0 ≤ nq.toInt) (q_2 : nq.toInt < ms.length) : Met l Z (⟨"com/example/duna/duna/resolution/Region", "contains", "(I)Z"⟩ : MethodName) prog_30_method_4_code 2 (some .boolean) R_contains #[(.ref a), (.int nq)] h0 n0 (Q_contains Z h0 n0 a nq ms rd sz) := by
  refine Met.of (plainFor_of_name pn2) (fun m => ef10 m a nq) ?_
  intro p e s m args below meth c C
  obtain ⟨m1, s1, nd, na, ss, vs, nsz, O_a, O_m, O_s, e_ss, O_nd, O_na, e_vs, q_sz, ne_am1, ne_as1, ne_and, ne_ana, ne_m1s1, ne_m1nd, ne_m1na, ne_s1nd, ne_s1na, ne_ndna, g_a, g_m1, g_s1, g_nd, g_na⟩ := RGf
  refine G.aloadN C d11_0 rfl rfl (n := 1) rfl ?_
  refine G.getfield C (host := "") (Or.inl (wd hw 11 rfl)) Via.refl (O_a.2.1) d11_1 (n := 4) rfl ?_
  refine G.iloadN C d11_4 rfl (n := 5) rfl ?_
  refine G.iaload C (x := (ms.getD nq.toInt.toNat 0)) O_m q_1 (getD_at (by omega)) d11_5 (n := 6) rfl ?_
  refine G.aloadN C d11_6 rfl rfl (n := 7) rfl ?_
  refine G.getfield C (host := "") (Or.inl (wd hw 47 rfl)) Via.refl (O_a.2.2.2.2) d11_7 (n := 10) rfl ?_
  refine G.icmp_ne C (A := (ms.getD nq.toInt.toNat 0).toInt) (B := rd.toInt) rfl rfl d11_10 (by decide) (by decide) (n := 13) (n' := 17) rfl (fun c10_1 c10_1i => ?_) (fun c10_1 c10_1i => ?_)
  · refine G.iconst C (v := (0 : Int32)) d11_17 (by decide) (n := 18) rfl ?_
    refine G.ireturn C d11_18 (rfl) (by simp) (by decide) (by decide) ?_
    exact ⟨by rw [decide_eq_false c10_1]; rfl, rfl⟩
  · refine G.iconst C (v := (1 : Int32)) d11_13 (by decide) (n := 14) rfl ?_
    refine G.goto C d11_14 (by decide) (n := 18) (by decide) ?_
    refine G.ireturn C d11_18 (rfl) (by simp) (by decide) (by decide) ?_
    exact ⟨by rw [decide_eq_true c10_1]; rfl, rfl⟩
theorem rem_v {x d : Int32} (hd : 0 < d.toInt) : 0 ≤ ((x &&& (2147483647 : Int32)) % d).toInt ∧ ((x &&& (2147483647 : Int32)) % d).toInt < d.toInt := by
  have q := (c_iremV (x &&& 2147483647) d).1 (c_and x 2147483647 (by decide)).1 hd
  exact ⟨q.1, q.2.1⟩
theorem nz_pos {d : Int32} (hd : 0 < d.toInt) : d ≠ 0 := fun h => by rw [h] at hd; exact absurd hd (by decide)
theorem caps {c c2 i : Int32} (h1 : c = (i &&& (7 : Int32)) + (1 : Int32)) (h2 : c2 = c + (((i.toUInt32 >>> ((3 : Int32) &&& 31).toUInt32).toInt32) &&& (15 : Int32))) : 0 < c.toInt ∧ c.toInt ≤ 8 ∧ c.toInt ≤ c2.toInt ∧ c2.toInt ≤ 23 := by
  have q1 := c_and i 7 (by decide)
  have q2 := c_and ((i.toUInt32 >>> ((3 : Int32) &&& 31).toUInt32).toInt32) 15 (by decide)
  have q3 := c_iadd (i &&& 7) 1
  have q4 := rng32 ((i &&& 7) + 1)
  have q5 := c_iadd c (((i.toUInt32 >>> ((3 : Int32) &&& 31).toUInt32).toInt32) &&& (15 : Int32))
  have q6 := rng32 (c + (((i.toUInt32 >>> ((3 : Int32) &&& 31).toUInt32).toInt32) &&& (15 : Int32)))
  rw [show (1 : Int32).toInt = 1 from rfl] at q3
  rw [show (7 : Int32).toInt = 7 from rfl] at q1
  rw [show (15 : Int32).toInt = 15 from rfl] at q2
  rw [← h1] at q3 q4
  rw [← h2] at q5 q6
  omega
theorem ne_nat {x y : Int32} (hx : 0 ≤ x.toInt) (hy : 0 ≤ y.toInt) : (x.toInt.toNat = y.toInt.toNat) ↔ x = y := by
  constructor
  · intro h; exact Int32.toInt_inj.mp (by omega)
  · intro h; rw [h]
theorem finA {ms : List Int32} {na nq z : Int32} (he : ∀ i, ms.getD i 0 = ([] : List Int32).getD i 0) (ha : 0 ≤ na.toInt) (hl : na.toInt < ms.length) (hq : 0 ≤ nq.toInt) (h : (nq = na ∧ nq.toInt = na.toInt ∧ z = 1) ∨ (nq ≠ na ∧ nq.toInt ≠ na.toInt ∧ z = 0)) : b2i (decide ((ms.set na.toInt.toNat 1).getD nq.toInt.toNat 0 = 1)) = z := by
  rw [getD_set _ _ _ _ (by omega), he]
  rcases h with ⟨h, -, r⟩ | ⟨h, -, r⟩
  · rw [if_pos ((ne_nat ha hq).mpr h.symm), r]; rfl
  · rw [if_neg (fun q => h ((ne_nat ha hq).mp q).symm), r]; rfl
theorem finAB {ms : List Int32} {na nb nq z : Int32} (he : ∀ i, ms.getD i 0 = ([] : List Int32).getD i 0) (ha : 0 ≤ na.toInt) (hl : na.toInt < ms.length) (hb : 0 ≤ nb.toInt) (hlb : nb.toInt < ms.length) (hq : 0 ≤ nq.toInt) (h : (nq = na ∧ nq.toInt = na.toInt ∧ z = 1) ∨ (nq ≠ na ∧ nq.toInt ≠ na.toInt ∧ nq ≠ nb ∧ nq.toInt ≠ nb.toInt ∧ z = 0) ∨ (nq ≠ na ∧ nq.toInt ≠ na.toInt ∧ nq = nb ∧ nq.toInt = nb.toInt ∧ z = 1)) : b2i (decide (((ms.set na.toInt.toNat 1).set nb.toInt.toNat 1).getD nq.toInt.toNat 0 = 1)) = z := by
  rw [getD_set _ _ _ _ (by rw [List.length_set]; omega), getD_set _ _ _ _ (by omega), he]
  rcases h with ⟨h, -, r⟩ | ⟨h, -, h', -, r⟩ | ⟨h, -, h', -, r⟩
  · rw [if_pos ((ne_nat ha hq).mpr h.symm), r]; split <;> rfl
  · rw [if_neg (fun q => h' ((ne_nat hb hq).mp q).symm), if_neg (fun q => h ((ne_nat ha hq).mp q).symm), r]; rfl
  · rw [if_pos ((ne_nat hb hq).mpr h'.symm), r]; rfl
theorem old1 {ms : List Int32} {na : Int32} (he : ∀ i, ms.getD i 0 = ([] : List Int32).getD i 0) (ha : 0 ≤ na.toInt) (hl : na.toInt < ms.length) (i : Nat) : (ms.set na.toInt.toNat 1).getD i 0 ≠ 2 := by
  rw [getD_set _ _ _ _ (by omega), he]
  split
  · decide
  · simp
theorem old2 {ms : List Int32} {na nb : Int32} (he : ∀ i, ms.getD i 0 = ([] : List Int32).getD i 0) (ha : 0 ≤ na.toInt) (hl : na.toInt < ms.length) (hb : 0 ≤ nb.toInt) (hlb : nb.toInt < ms.length) (i : Nat) : ((ms.set na.toInt.toNat 1).set nb.toInt.toNat 1).getD i 0 ≠ 2 := by
  rw [getD_set _ _ _ _ (by rw [List.length_set]; omega), getD_set _ _ _ _ (by omega), he]
  split
  · decide
  · split
    · decide
    · simp
theorem finC0 {ms os : List Int32} (he : ∀ i, ms.getD i 0 = os.getD i 0) (ho : ∀ i, os.getD i 0 ≠ 2) (i : Nat) : b2i (decide (ms.getD i 0 = 2)) = 0 := by
  rw [decide_eq_false (by rw [he]; exact ho i)]; rfl
theorem finC1 {ms os : List Int32} {nc nq z : Int32} (he : ∀ i, ms.getD i 0 = os.getD i 0) (ho : ∀ i, os.getD i 0 ≠ 2) (hc : 0 ≤ nc.toInt) (hl : nc.toInt < ms.length) (hq : 0 ≤ nq.toInt) (h : (nq ≠ nc ∧ nq.toInt ≠ nc.toInt ∧ z = 0) ∨ (nq = nc ∧ nq.toInt = nc.toInt ∧ z = 1)) : b2i (decide ((ms.set nc.toInt.toNat 2).getD nq.toInt.toNat 0 = 2)) = z := by
  rw [getD_set _ _ _ _ (by omega)]
  rcases h with ⟨h, -, r⟩ | ⟨h, -, r⟩
  · rw [if_neg (fun q => h ((ne_nat hc hq).mp q).symm), decide_eq_false (by rw [he]; exact ho _), r]; rfl
  · rw [if_pos ((ne_nat hc hq).mpr h.symm), r]; rfl
theorem pd5 : parseMethodDescriptor "(II)Z" = some ⟨[.int, .int], some .boolean⟩ := by decide +kernel
theorem pd6 : parseMethodDescriptor "(I)Z" = some ⟨[.int], some .boolean⟩ := by decide +kernel
theorem pn3 : plainName "com/example/duna/duna/resolution/RegionContainsPinLaw" = true := by first | (simp [plainName, overriddenIn]; done) | decide +kernel
theorem ef11 (m : MethodId) (i0 : Int32) (i1 : Int32) (i2 : Int32) (i3 : Int32) (i4 : Int32) (i5 : Int32) : entryFrame m #[(.int i0), (.int i1), (.int i2), (.int i3), (.int i4), (.int i5)] 18 = mkF m 0 #[.val (.int i0), .val (.int i1), .val (.int i2), .val (.int i3), .val (.int i4), .val (.int i5), .unset, .unset, .unset, .unset, .unset, .unset, .unset, .unset, .unset, .unset, .unset, .unset] [] := by first | (simp [entryFrame, mkF, argsToLocals, Value.category]; done) | rfl
abbrev Q_law (Z : State) (h0 : Heap) (n0 : Nat) (i0 : Int32) (i1 : Int32) (i2 : Int32) (i3 : Int32) (i4 : Int32) (i5 : Int32) : Option Value → Heap → Prop := fun v h' => v = some (.int 1)
set_option maxRecDepth 65536 in
set_option maxHeartbeats 40000000 in
theorem m_law (l : Launch) (Z : State) (a0 : Array Value) (hw : ∀ d ∈ tables_1, d.before a0 Z = true) (i0 : Int32) (i1 : Int32) (i2 : Int32) (i3 : Int32) (i4 : Int32) (i5 : Int32) (h0 : Heap) (n0 : Nat) (Z0 : n0 ≤ h0.size)  : Met l Z (⟨"com/example/duna/duna/resolution/RegionContainsPinLaw", "law", "(IIIIII)Z"⟩ : MethodName) code 18 (some .boolean) room_1 #[(.int i0), (.int i1), (.int i2), (.int i3), (.int i4), (.int i5)] h0 n0 (Q_law Z h0 n0 i0 i1 i2 i3 i4 i5) := by
  refine Met.of (plainFor_of_name pn3) (fun m => ef11 m i0 i1 i2 i3 i4 i5) ?_
  intro p e s m args below meth c C
  refine G.iloadN C at_0 rfl (n := 1) rfl ?_
  refine G.bipush C (v := (7 : Int32)) at_1 (by decide) (n := 3) rfl ?_
  refine G.iand C at_3 (n := 4) rfl ?_
  refine G.iconst C (v := (1 : Int32)) at_4 (by decide) (n := 5) rfl ?_
  refine G.iadd C at_5 (n := 6) rfl ?_
  refine G.istoreZ C at_6 (l' := fun z => #[.val (.int i0), .val (.int i1), .val (.int i2), .val (.int i3), .val (.int i4), .val (.int i5), .val (.int z), .unset, .unset, .unset, .unset, .unset, .unset, .unset, .unset, .unset, .unset, .unset]) (fun _ => rfl) (n := 8) rfl ?_
  intro v1 hv1
  refine G.iload C at_8 rfl (n := 10) rfl ?_
  refine G.iloadN C at_10 rfl (n := 11) rfl ?_
  refine G.iconst C (v := (3 : Int32)) at_11 (by decide) (n := 12) rfl ?_
  refine G.iushr C at_12 (n := 13) rfl ?_
  refine G.bipush C (v := (15 : Int32)) at_13 (by decide) (n := 15) rfl ?_
  refine G.iand C at_15 (n := 16) rfl ?_
  refine G.iadd C at_16 (n := 17) rfl ?_
  refine G.istoreZ C at_17 (l' := fun z => #[.val (.int i0), .val (.int i1), .val (.int i2), .val (.int i3), .val (.int i4), .val (.int i5), .val (.int v1), .val (.int z), .unset, .unset, .unset, .unset, .unset, .unset, .unset, .unset, .unset, .unset]) (fun _ => rfl) (n := 19) rfl ?_
  intro v2 hv2
  refine G.iload C at_19 rfl (n := 21) rfl ?_
  refine G.iconst C (v := (1 : Int32)) at_21 (by decide) (n := 22) rfl ?_
  refine G.iand C at_22 (n := 23) rfl ?_
  refine G.if_eq C (A := (i4 &&& (1 : Int32)).toInt) rfl at_23 (by decide) (by decide) (n := 26) (n' := 30) rfl (fun c23_3 c23_3i => ?_) (fun c23_3 c23_3i => ?_)
  · refine G.iconst C (v := (0 : Int32)) at_30 (by decide) (n := 31) rfl ?_
    refine G.istore C at_31 (l' := #[.val (.int i0), .val (.int i1), .val (.int i2), .val (.int i3), .val (.int i4), .val (.int i5), .val (.int v1), .val (.int v2), .val (.int (0 : Int32)), .unset, .unset, .unset, .unset, .unset, .unset, .unset, .unset, .unset]) rfl (n := 33) rfl ?_
    refine G.iload C at_33 rfl (n := 35) rfl ?_
    refine G.iconst C (v := (2 : Int32)) at_35 (by decide) (n := 36) rfl ?_
    refine G.iand C at_36 (n := 37) rfl ?_
    refine G.if_eq C (A := (i4 &&& (2 : Int32)).toInt) rfl at_37 (by decide) (by decide) (n := 40) (n' := 44) rfl (fun c37_4 c37_4i => ?_) (fun c37_4 c37_4i => ?_)
    · refine G.iconst C (v := (0 : Int32)) at_44 (by decide) (n := 45) rfl ?_
      refine G.istore C at_45 (l' := #[.val (.int i0), .val (.int i1), .val (.int i2), .val (.int i3), .val (.int i4), .val (.int i5), .val (.int v1), .val (.int v2), .val (.int (0 : Int32)), .val (.int (0 : Int32)), .unset, .unset, .unset, .unset, .unset, .unset, .unset, .unset]) rfl (n := 47) rfl ?_
      refine G.iload C at_47 rfl (n := 49) rfl ?_
      refine G.iconst C (v := (4 : Int32)) at_49 (by decide) (n := 50) rfl ?_
      refine G.iand C at_50 (n := 51) rfl ?_
      refine G.if_eq C (A := (i4 &&& (4 : Int32)).toInt) rfl at_51 (by decide) (by decide) (n := 54) (n' := 58) rfl (fun c51_5 c51_5i => ?_) (fun c51_5 c51_5i => ?_)
      · refine G.iconst C (v := (0 : Int32)) at_58 (by decide) (n := 59) rfl ?_
        refine G.istore C at_59 (l' := #[.val (.int i0), .val (.int i1), .val (.int i2), .val (.int i3), .val (.int i4), .val (.int i5), .val (.int v1), .val (.int v2), .val (.int (0 : Int32)), .val (.int (0 : Int32)), .val (.int (0 : Int32)), .unset, .unset, .unset, .unset, .unset, .unset, .unset]) rfl (n := 61) rfl ?_
        have qc := caps hv1 hv2
        refine G.iloadN C at_61 rfl (n := 62) rfl ?_
        refine G.ldc C (v := (2147483647 : Int32)) (wd hw 0 rfl) at_62 (n := 64) rfl ?_
        refine G.iand C at_64 (n := 65) rfl ?_
        refine G.iload C at_65 rfl (n := 67) rfl ?_
        refine G.irem C at_67 (nz_pos (by omega)) (n := 68) rfl ?_
        refine G.istoreZ C at_68 (l' := fun z => #[.val (.int i0), .val (.int i1), .val (.int i2), .val (.int i3), .val (.int i4), .val (.int i5), .val (.int v1), .val (.int v2), .val (.int (0 : Int32)), .val (.int (0 : Int32)), .val (.int (0 : Int32)), .val (.int z), .unset, .unset, .unset, .unset, .unset, .unset]) (fun _ => rfl) (n := 70) rfl ?_
        intro v6 hv6
        have q11 : 0 ≤ v6.toInt ∧ v6.toInt < v1.toInt := by rw [hv6]; exact rem_v (by omega)
        refine G.iloadN C at_70 rfl (n := 71) rfl ?_
        refine G.ldc C (v := (2147483647 : Int32)) (wd hw 0 rfl) at_71 (n := 73) rfl ?_
        refine G.iand C at_73 (n := 74) rfl ?_
        refine G.iload C at_74 rfl (n := 76) rfl ?_
        refine G.irem C at_76 (nz_pos (by omega)) (n := 77) rfl ?_
        refine G.istoreZ C at_77 (l' := fun z => #[.val (.int i0), .val (.int i1), .val (.int i2), .val (.int i3), .val (.int i4), .val (.int i5), .val (.int v1), .val (.int v2), .val (.int (0 : Int32)), .val (.int (0 : Int32)), .val (.int (0 : Int32)), .val (.int v6), .val (.int z), .unset, .unset, .unset, .unset, .unset]) (fun _ => rfl) (n := 79) rfl ?_
        intro v7 hv7
        have q12 : 0 ≤ v7.toInt ∧ v7.toInt < v1.toInt := by rw [hv7]; exact rem_v (by omega)
        refine G.iloadN C at_79 rfl (n := 80) rfl ?_
        refine G.ldc C (v := (2147483647 : Int32)) (wd hw 0 rfl) at_80 (n := 82) rfl ?_
        refine G.iand C at_82 (n := 83) rfl ?_
        refine G.iload C at_83 rfl (n := 85) rfl ?_
        refine G.irem C at_85 (nz_pos (by omega)) (n := 86) rfl ?_
        refine G.istoreZ C at_86 (l' := fun z => #[.val (.int i0), .val (.int i1), .val (.int i2), .val (.int i3), .val (.int i4), .val (.int i5), .val (.int v1), .val (.int v2), .val (.int (0 : Int32)), .val (.int (0 : Int32)), .val (.int (0 : Int32)), .val (.int v6), .val (.int v7), .val (.int z), .unset, .unset, .unset, .unset]) (fun _ => rfl) (n := 88) rfl ?_
        intro v8 hv8
        have q13 : 0 ≤ v8.toInt ∧ v8.toInt < v2.toInt := by rw [hv8]; exact rem_v (by omega)
        refine G.iload C at_88 rfl (n := 90) rfl ?_
        refine G.if_eq C (A := 0) (by decide) at_90 (by decide) (by decide) (n := 93) (n' := 98) rfl (fun c90_9 c90_9i => ?_) (fun c90_9 c90_9i => ?_)
        rotate_left
        · exact absurd c90_9 (by decide)
        refine G.iload C at_98 rfl (n := 100) rfl ?_
        refine G.istore C at_100 (l' := #[.val (.int i0), .val (.int i1), .val (.int i2), .val (.int i3), .val (.int i4), .val (.int i5), .val (.int v1), .val (.int v2), .val (.int (0 : Int32)), .val (.int (0 : Int32)), .val (.int (0 : Int32)), .val (.int v6), .val (.int v7), .val (.int v8), .val (.int v1), .unset, .unset, .unset]) rfl (n := 102) rfl ?_
        refine G.iloadN C at_102 rfl (n := 103) rfl ?_
        refine G.ldc C (v := (2147483647 : Int32)) (wd hw 0 rfl) at_103 (n := 105) rfl ?_
        refine G.iand C at_105 (n := 106) rfl ?_
        refine G.iload C at_106 rfl (n := 108) rfl ?_
        refine G.irem C at_108 (nz_pos (by omega)) (n := 109) rfl ?_
        refine G.istoreZ C at_109 (l' := fun z => #[.val (.int i0), .val (.int i1), .val (.int i2), .val (.int i3), .val (.int i4), .val (.int i5), .val (.int v1), .val (.int v2), .val (.int (0 : Int32)), .val (.int (0 : Int32)), .val (.int (0 : Int32)), .val (.int v6), .val (.int v7), .val (.int v8), .val (.int v1), .val (.int z), .unset, .unset]) (fun _ => rfl) (n := 111) rfl ?_
        intro v10 hv10
        have q15 : 0 ≤ v10.toInt ∧ v10.toInt < v1.toInt := by rw [hv10]; exact rem_v (by omega)
        refine G.new C (wd hw 1 rfl) (wd hw 2 rfl) (wd hw 3 rfl) at_111 (n := 114) rfl (c' := 1) (s' := 4) rfl rfl (by decide) (by decide) ?_
        intro h11 b12 q13 E14 A15 D16
        have g17 : n0 ≤ b12 := Nat.le_trans Z0 (Nat.le_of_eq q13.symm)
        have O18 := Ob_Rg.new hw A15 D16
        have K19 := kext E14
        have Z20 : n0 ≤ h11.size := Nat.le_trans Z0 K19.1
        refine G.dup C at_114 rfl (n := 115) rfl ?_
        refine G.callC C (argsL := []) (yc := (⟨"com/example/duna/duna/resolution/Region", "<init>", "()V"⟩ : MethodName)) (a := b12) rfl (wd hw 4 rfl) (wd hw 5 rfl) (wd hw 3 rfl) (wd hw 6 rfl) (by decide) (m_rinit l Z a0 hw b12 h11 n0 Z20 O18 g17) rfl (by decide) (W := 1) rfl (by decide) (c' := 5) (s' := 22) rfl rfl (by decide) (by decide) at_115 (n := 118) rfl pd1 rfl rfl ?_
        rintro _ h24 ⟨rfl, Z21, R22⟩
        refine G.astore C at_118 rfl (l' := #[.val (.int i0), .val (.int i1), .val (.int i2), .val (.int i3), .val (.int i4), .val (.int i5), .val (.int v1), .val (.int v2), .val (.int (0 : Int32)), .val (.int (0 : Int32)), .val (.int (0 : Int32)), .val (.int v6), .val (.int v7), .val (.int v8), .val (.int v1), .val (.int v10), .val (.ref b12), .unset]) rfl (n := 120) rfl ?_
        refine G.aload C at_120 rfl rfl (n := 122) rfl ?_
        refine G.iload C at_122 rfl (n := 124) rfl ?_
        refine G.callV C (argsL := [(.int v1)]) (yr := (⟨"com/example/duna/duna/resolution/Region", "clear", "(I)V"⟩ : MethodName)) (yc := (⟨"com/example/duna/duna/resolution/Region", "clear", "(I)V"⟩ : MethodName)) (a := b12) (R22.exa) (wd hw 27 rfl) (wd hw 28 rfl) (nfS (wd hw 30 rfl) rfl) (wd hw 30 rfl) (wd hw 29 rfl) (wd hw 3 rfl) (wd hw 31 rfl) (by decide) (m_clear l Z a0 hw b12 v1 [] (0 : Int32) (1 : Int32) 0 h24 n0 Z21 R22 (by omega) (by omega) (by decide)) rfl (by decide) (W := 0) rfl (by decide) (c' := 7) (s' := 114) rfl rfl (by decide) (by decide) at_124 (n := 127) rfl pd4 rfl rfl ?_
        rintro _ h31 ⟨rfl, Z25, ms27, R26, hl28, he29⟩
        refine G.aload C at_127 rfl rfl (n := 129) rfl ?_
        refine G.iload C at_129 rfl (n := 131) rfl ?_
        refine G.iload C at_131 rfl (n := 133) rfl ?_
        refine G.callV C (argsL := [(.int v6), (.int i5)]) (yr := (⟨"com/example/duna/duna/resolution/Region", "add", "(II)Z"⟩ : MethodName)) (yc := (⟨"com/example/duna/duna/resolution/Region", "add", "(II)Z"⟩ : MethodName)) (a := b12) (R26.exa) (wd hw 56 rfl) (wd hw 57 rfl) (nfS (wd hw 59 rfl) rfl) (wd hw 59 rfl) (wd hw 58 rfl) (wd hw 3 rfl) (wd hw 60 rfl) (by decide) (m_radd l Z a0 hw b12 v6 i5 ms27 (1 : Int32) 0 h31 n0 Z25 R26 (by omega) (by first | omega | (simp only [List.length_set]; omega)) (by omega)) rfl (by decide) (W := 0) rfl (by decide) (c' := 7) (s' := 114) rfl rfl (by decide) (by decide) at_133 (n := 136) rfl pd5 rfl rfl ?_
        rintro _ h38 ⟨⟨r36, rfl⟩, Z32, sz34, hs35, R33⟩
        refine G.pop C at_136 rfl (n := 137) rfl ?_
        refine G.iload C at_137 rfl (n := 139) rfl ?_
        refine G.if_eq C (A := 0) (by decide) at_139 (by decide) (by decide) (n := 142) (n' := 152) rfl (fun c139_39 c139_39i => ?_) (fun c139_39 c139_39i => ?_)
        rotate_left
        · exact absurd c139_39 (by decide)
        refine G.iload C at_152 rfl (n := 154) rfl ?_
        refine G.if_eq C (A := 0) (by decide) at_154 (by decide) (by decide) (n := 157) (n' := 201) rfl (fun c154_40 c154_40i => ?_) (fun c154_40 c154_40i => ?_)
        rotate_left
        · exact absurd c154_40 (by decide)
        refine G.iload C at_201 rfl (n := 203) rfl ?_
        refine G.iload C at_203 rfl (n := 205) rfl ?_
        suffices key43 : ∀ (z43_s0 : Int32), (((v10 = v6) ∧ (v10.toInt = v6.toInt) ∧ (z43_s0 = (1 : Int32))) ∨ ((v10 ≠ v6) ∧ (v10.toInt ≠ v6.toInt) ∧ (z43_s0 = (0 : Int32)))) → Go p l e room_1 s m args below meth c n0 (Q_law Z h0 n0 i0 i1 i2 i3 i4 i5) 7 114 h38 (mkF m 225 #[.val (.int i0), .val (.int i1), .val (.int i2), .val (.int i3), .val (.int i4), .val (.int i5), .val (.int v1), .val (.int v2), .val (.int (0 : Int32)), .val (.int (0 : Int32)), .val (.int (0 : Int32)), .val (.int v6), .val (.int v7), .val (.int v8), .val (.int v1), .val (.int v10), .val (.ref b12), .unset] [(.int z43_s0)]) by
          refine G.icmp_eq C (A := v10.toInt) (B := v6.toInt) rfl rfl at_205 (by decide) (by decide) (n := 208) (n' := 220) rfl (fun c205_41 c205_41i => ?_) (fun c205_41 c205_41i => ?_)
          · refine G.iconst C (v := (1 : Int32)) at_220 (by decide) (n := 221) rfl ?_
            refine G.goto C at_221 (by decide) (n := 225) (by decide) ?_
            exact key43 _ (Or.inl ⟨c205_41, c205_41i, rfl⟩) 
          · refine G.iload C at_208 rfl (n := 210) rfl ?_
            refine G.if_eq C (A := 0) (by decide) at_210 (by decide) (by decide) (n := 213) (n' := 224) rfl (fun c210_42 c210_42i => ?_) (fun c210_42 c210_42i => ?_)
            rotate_left
            · exact absurd c210_42 (by decide)
            refine G.iconst C (v := (0 : Int32)) at_224 (by decide) (n := 225) rfl ?_
            exact key43 _ (Or.inr (⟨c205_41, c205_41i, rfl⟩)) 
        intro z43_s0 j43 
        refine G.istore C at_225 (l' := #[.val (.int i0), .val (.int i1), .val (.int i2), .val (.int i3), .val (.int i4), .val (.int i5), .val (.int v1), .val (.int v2), .val (.int (0 : Int32)), .val (.int (0 : Int32)), .val (.int (0 : Int32)), .val (.int v6), .val (.int v7), .val (.int v8), .val (.int v1), .val (.int v10), .val (.ref b12), .val (.int z43_s0)]) rfl (n := 227) rfl ?_
        refine G.aload C at_227 rfl rfl (n := 229) rfl ?_
        refine G.iload C at_229 rfl (n := 231) rfl ?_
        refine G.callV C (argsL := [(.int v10)]) (yr := (⟨"com/example/duna/duna/resolution/Region", "contains", "(I)Z"⟩ : MethodName)) (yc := (⟨"com/example/duna/duna/resolution/Region", "contains", "(I)Z"⟩ : MethodName)) (a := b12) (R33.exa) (wd hw 66 rfl) (wd hw 67 rfl) (nfS (wd hw 69 rfl) rfl) (wd hw 69 rfl) (wd hw 68 rfl) (wd hw 3 rfl) (wd hw 70 rfl) (by decide) (m_contains l Z a0 hw b12 v10 (ms27.set v6.toInt.toNat (1 : Int32)) (1 : Int32) sz34 h38 n0 Z32 R33 (by omega) (by first | omega | (simp only [List.length_set]; omega))) rfl (by decide) (W := 0) rfl (by decide) (c' := 7) (s' := 114) rfl rfl (by decide) (by decide) at_231 (n := 234) rfl pd6 rfl rfl ?_
        rintro _ _ ⟨rfl, rfl⟩
        refine G.iload C at_234 rfl (n := 236) rfl ?_
        refine G.icmp_ne C (A := (b2i (decide ((ms27.set v6.toInt.toNat (1 : Int32)).getD v10.toInt.toNat 0 = (1 : Int32)))).toInt) (B := z43_s0.toInt) rfl rfl at_236 (by decide) (by decide) (n := 239) (n' := 243) rfl (fun c236_46 c236_46i => ?_) (fun c236_46 c236_46i => ?_)
        · exact absurd (finA he29 q11.1 (by omega) q15.1 j43) c236_46
        refine G.iconst C (v := (1 : Int32)) at_239 (by decide) (n := 240) rfl ?_
        refine G.goto C at_240 (by decide) (n := 244) (by decide) ?_
        refine G.ireturn C at_244 (rfl) (by simp) (by decide) (by decide) ?_
        exact rfl
      · refine G.iconst C (v := (1 : Int32)) at_54 (by decide) (n := 55) rfl ?_
        refine G.goto C at_55 (by decide) (n := 59) (by decide) ?_
        refine G.istore C at_59 (l' := #[.val (.int i0), .val (.int i1), .val (.int i2), .val (.int i3), .val (.int i4), .val (.int i5), .val (.int v1), .val (.int v2), .val (.int (0 : Int32)), .val (.int (0 : Int32)), .val (.int (1 : Int32)), .unset, .unset, .unset, .unset, .unset, .unset, .unset]) rfl (n := 61) rfl ?_
        have qc := caps hv1 hv2
        refine G.iloadN C at_61 rfl (n := 62) rfl ?_
        refine G.ldc C (v := (2147483647 : Int32)) (wd hw 0 rfl) at_62 (n := 64) rfl ?_
        refine G.iand C at_64 (n := 65) rfl ?_
        refine G.iload C at_65 rfl (n := 67) rfl ?_
        refine G.irem C at_67 (nz_pos (by omega)) (n := 68) rfl ?_
        refine G.istoreZ C at_68 (l' := fun z => #[.val (.int i0), .val (.int i1), .val (.int i2), .val (.int i3), .val (.int i4), .val (.int i5), .val (.int v1), .val (.int v2), .val (.int (0 : Int32)), .val (.int (0 : Int32)), .val (.int (1 : Int32)), .val (.int z), .unset, .unset, .unset, .unset, .unset, .unset]) (fun _ => rfl) (n := 70) rfl ?_
        intro v47 hv47
        have q11 : 0 ≤ v47.toInt ∧ v47.toInt < v1.toInt := by rw [hv47]; exact rem_v (by omega)
        refine G.iloadN C at_70 rfl (n := 71) rfl ?_
        refine G.ldc C (v := (2147483647 : Int32)) (wd hw 0 rfl) at_71 (n := 73) rfl ?_
        refine G.iand C at_73 (n := 74) rfl ?_
        refine G.iload C at_74 rfl (n := 76) rfl ?_
        refine G.irem C at_76 (nz_pos (by omega)) (n := 77) rfl ?_
        refine G.istoreZ C at_77 (l' := fun z => #[.val (.int i0), .val (.int i1), .val (.int i2), .val (.int i3), .val (.int i4), .val (.int i5), .val (.int v1), .val (.int v2), .val (.int (0 : Int32)), .val (.int (0 : Int32)), .val (.int (1 : Int32)), .val (.int v47), .val (.int z), .unset, .unset, .unset, .unset, .unset]) (fun _ => rfl) (n := 79) rfl ?_
        intro v48 hv48
        have q12 : 0 ≤ v48.toInt ∧ v48.toInt < v1.toInt := by rw [hv48]; exact rem_v (by omega)
        refine G.iloadN C at_79 rfl (n := 80) rfl ?_
        refine G.ldc C (v := (2147483647 : Int32)) (wd hw 0 rfl) at_80 (n := 82) rfl ?_
        refine G.iand C at_82 (n := 83) rfl ?_
        refine G.iload C at_83 rfl (n := 85) rfl ?_
        refine G.irem C at_85 (nz_pos (by omega)) (n := 86) rfl ?_
        refine G.istoreZ C at_86 (l' := fun z => #[.val (.int i0), .val (.int i1), .val (.int i2), .val (.int i3), .val (.int i4), .val (.int i5), .val (.int v1), .val (.int v2), .val (.int (0 : Int32)), .val (.int (0 : Int32)), .val (.int (1 : Int32)), .val (.int v47), .val (.int v48), .val (.int z), .unset, .unset, .unset, .unset]) (fun _ => rfl) (n := 88) rfl ?_
        intro v49 hv49
        have q13 : 0 ≤ v49.toInt ∧ v49.toInt < v2.toInt := by rw [hv49]; exact rem_v (by omega)
        refine G.iload C at_88 rfl (n := 90) rfl ?_
        refine G.if_eq C (A := 0) (by decide) at_90 (by decide) (by decide) (n := 93) (n' := 98) rfl (fun c90_50 c90_50i => ?_) (fun c90_50 c90_50i => ?_)
        rotate_left
        · exact absurd c90_50 (by decide)
        refine G.iload C at_98 rfl (n := 100) rfl ?_
        refine G.istore C at_100 (l' := #[.val (.int i0), .val (.int i1), .val (.int i2), .val (.int i3), .val (.int i4), .val (.int i5), .val (.int v1), .val (.int v2), .val (.int (0 : Int32)), .val (.int (0 : Int32)), .val (.int (1 : Int32)), .val (.int v47), .val (.int v48), .val (.int v49), .val (.int v1), .unset, .unset, .unset]) rfl (n := 102) rfl ?_
        refine G.iloadN C at_102 rfl (n := 103) rfl ?_
        refine G.ldc C (v := (2147483647 : Int32)) (wd hw 0 rfl) at_103 (n := 105) rfl ?_
        refine G.iand C at_105 (n := 106) rfl ?_
        refine G.iload C at_106 rfl (n := 108) rfl ?_
        refine G.irem C at_108 (nz_pos (by omega)) (n := 109) rfl ?_
        refine G.istoreZ C at_109 (l' := fun z => #[.val (.int i0), .val (.int i1), .val (.int i2), .val (.int i3), .val (.int i4), .val (.int i5), .val (.int v1), .val (.int v2), .val (.int (0 : Int32)), .val (.int (0 : Int32)), .val (.int (1 : Int32)), .val (.int v47), .val (.int v48), .val (.int v49), .val (.int v1), .val (.int z), .unset, .unset]) (fun _ => rfl) (n := 111) rfl ?_
        intro v51 hv51
        have q15 : 0 ≤ v51.toInt ∧ v51.toInt < v1.toInt := by rw [hv51]; exact rem_v (by omega)
        refine G.new C (wd hw 1 rfl) (wd hw 2 rfl) (wd hw 3 rfl) at_111 (n := 114) rfl (c' := 1) (s' := 4) rfl rfl (by decide) (by decide) ?_
        intro h52 b53 q54 E55 A56 D57
        have g58 : n0 ≤ b53 := Nat.le_trans Z0 (Nat.le_of_eq q54.symm)
        have O59 := Ob_Rg.new hw A56 D57
        have K60 := kext E55
        have Z61 : n0 ≤ h52.size := Nat.le_trans Z0 K60.1
        refine G.dup C at_114 rfl (n := 115) rfl ?_
        refine G.callC C (argsL := []) (yc := (⟨"com/example/duna/duna/resolution/Region", "<init>", "()V"⟩ : MethodName)) (a := b53) rfl (wd hw 4 rfl) (wd hw 5 rfl) (wd hw 3 rfl) (wd hw 6 rfl) (by decide) (m_rinit l Z a0 hw b53 h52 n0 Z61 O59 g58) rfl (by decide) (W := 1) rfl (by decide) (c' := 5) (s' := 22) rfl rfl (by decide) (by decide) at_115 (n := 118) rfl pd1 rfl rfl ?_
        rintro _ h65 ⟨rfl, Z62, R63⟩
        refine G.astore C at_118 rfl (l' := #[.val (.int i0), .val (.int i1), .val (.int i2), .val (.int i3), .val (.int i4), .val (.int i5), .val (.int v1), .val (.int v2), .val (.int (0 : Int32)), .val (.int (0 : Int32)), .val (.int (1 : Int32)), .val (.int v47), .val (.int v48), .val (.int v49), .val (.int v1), .val (.int v51), .val (.ref b53), .unset]) rfl (n := 120) rfl ?_
        refine G.aload C at_120 rfl rfl (n := 122) rfl ?_
        refine G.iload C at_122 rfl (n := 124) rfl ?_
        refine G.callV C (argsL := [(.int v1)]) (yr := (⟨"com/example/duna/duna/resolution/Region", "clear", "(I)V"⟩ : MethodName)) (yc := (⟨"com/example/duna/duna/resolution/Region", "clear", "(I)V"⟩ : MethodName)) (a := b53) (R63.exa) (wd hw 27 rfl) (wd hw 28 rfl) (nfS (wd hw 30 rfl) rfl) (wd hw 30 rfl) (wd hw 29 rfl) (wd hw 3 rfl) (wd hw 31 rfl) (by decide) (m_clear l Z a0 hw b53 v1 [] (0 : Int32) (1 : Int32) 0 h65 n0 Z62 R63 (by omega) (by omega) (by decide)) rfl (by decide) (W := 0) rfl (by decide) (c' := 7) (s' := 114) rfl rfl (by decide) (by decide) at_124 (n := 127) rfl pd4 rfl rfl ?_
        rintro _ h72 ⟨rfl, Z66, ms68, R67, hl69, he70⟩
        refine G.aload C at_127 rfl rfl (n := 129) rfl ?_
        refine G.iload C at_129 rfl (n := 131) rfl ?_
        refine G.iload C at_131 rfl (n := 133) rfl ?_
        refine G.callV C (argsL := [(.int v47), (.int i5)]) (yr := (⟨"com/example/duna/duna/resolution/Region", "add", "(II)Z"⟩ : MethodName)) (yc := (⟨"com/example/duna/duna/resolution/Region", "add", "(II)Z"⟩ : MethodName)) (a := b53) (R67.exa) (wd hw 56 rfl) (wd hw 57 rfl) (nfS (wd hw 59 rfl) rfl) (wd hw 59 rfl) (wd hw 58 rfl) (wd hw 3 rfl) (wd hw 60 rfl) (by decide) (m_radd l Z a0 hw b53 v47 i5 ms68 (1 : Int32) 0 h72 n0 Z66 R67 (by omega) (by first | omega | (simp only [List.length_set]; omega)) (by omega)) rfl (by decide) (W := 0) rfl (by decide) (c' := 7) (s' := 114) rfl rfl (by decide) (by decide) at_133 (n := 136) rfl pd5 rfl rfl ?_
        rintro _ h79 ⟨⟨r77, rfl⟩, Z73, sz75, hs76, R74⟩
        refine G.pop C at_136 rfl (n := 137) rfl ?_
        refine G.iload C at_137 rfl (n := 139) rfl ?_
        refine G.if_eq C (A := 0) (by decide) at_139 (by decide) (by decide) (n := 142) (n' := 152) rfl (fun c139_80 c139_80i => ?_) (fun c139_80 c139_80i => ?_)
        rotate_left
        · exact absurd c139_80 (by decide)
        refine G.iload C at_152 rfl (n := 154) rfl ?_
        refine G.if_eq C (A := 0) (by decide) at_154 (by decide) (by decide) (n := 157) (n' := 201) rfl (fun c154_81 c154_81i => ?_) (fun c154_81 c154_81i => ?_)
        rotate_left
        · exact absurd c154_81 (by decide)
        refine G.iload C at_201 rfl (n := 203) rfl ?_
        refine G.iload C at_203 rfl (n := 205) rfl ?_
        suffices key84 : ∀ (z84_s0 : Int32), (((v51 = v47) ∧ (v51.toInt = v47.toInt) ∧ (z84_s0 = (1 : Int32))) ∨ ((v51 ≠ v47) ∧ (v51.toInt ≠ v47.toInt) ∧ (z84_s0 = (0 : Int32)))) → Go p l e room_1 s m args below meth c n0 (Q_law Z h0 n0 i0 i1 i2 i3 i4 i5) 7 114 h79 (mkF m 225 #[.val (.int i0), .val (.int i1), .val (.int i2), .val (.int i3), .val (.int i4), .val (.int i5), .val (.int v1), .val (.int v2), .val (.int (0 : Int32)), .val (.int (0 : Int32)), .val (.int (1 : Int32)), .val (.int v47), .val (.int v48), .val (.int v49), .val (.int v1), .val (.int v51), .val (.ref b53), .unset] [(.int z84_s0)]) by
          refine G.icmp_eq C (A := v51.toInt) (B := v47.toInt) rfl rfl at_205 (by decide) (by decide) (n := 208) (n' := 220) rfl (fun c205_82 c205_82i => ?_) (fun c205_82 c205_82i => ?_)
          · refine G.iconst C (v := (1 : Int32)) at_220 (by decide) (n := 221) rfl ?_
            refine G.goto C at_221 (by decide) (n := 225) (by decide) ?_
            exact key84 _ (Or.inl ⟨c205_82, c205_82i, rfl⟩) 
          · refine G.iload C at_208 rfl (n := 210) rfl ?_
            refine G.if_eq C (A := 0) (by decide) at_210 (by decide) (by decide) (n := 213) (n' := 224) rfl (fun c210_83 c210_83i => ?_) (fun c210_83 c210_83i => ?_)
            rotate_left
            · exact absurd c210_83 (by decide)
            refine G.iconst C (v := (0 : Int32)) at_224 (by decide) (n := 225) rfl ?_
            exact key84 _ (Or.inr (⟨c205_82, c205_82i, rfl⟩)) 
        intro z84_s0 j84 
        refine G.istore C at_225 (l' := #[.val (.int i0), .val (.int i1), .val (.int i2), .val (.int i3), .val (.int i4), .val (.int i5), .val (.int v1), .val (.int v2), .val (.int (0 : Int32)), .val (.int (0 : Int32)), .val (.int (1 : Int32)), .val (.int v47), .val (.int v48), .val (.int v49), .val (.int v1), .val (.int v51), .val (.ref b53), .val (.int z84_s0)]) rfl (n := 227) rfl ?_
        refine G.aload C at_227 rfl rfl (n := 229) rfl ?_
        refine G.iload C at_229 rfl (n := 231) rfl ?_
        refine G.callV C (argsL := [(.int v51)]) (yr := (⟨"com/example/duna/duna/resolution/Region", "contains", "(I)Z"⟩ : MethodName)) (yc := (⟨"com/example/duna/duna/resolution/Region", "contains", "(I)Z"⟩ : MethodName)) (a := b53) (R74.exa) (wd hw 66 rfl) (wd hw 67 rfl) (nfS (wd hw 69 rfl) rfl) (wd hw 69 rfl) (wd hw 68 rfl) (wd hw 3 rfl) (wd hw 70 rfl) (by decide) (m_contains l Z a0 hw b53 v51 (ms68.set v47.toInt.toNat (1 : Int32)) (1 : Int32) sz75 h79 n0 Z73 R74 (by omega) (by first | omega | (simp only [List.length_set]; omega))) rfl (by decide) (W := 0) rfl (by decide) (c' := 7) (s' := 114) rfl rfl (by decide) (by decide) at_231 (n := 234) rfl pd6 rfl rfl ?_
        rintro _ _ ⟨rfl, rfl⟩
        refine G.iload C at_234 rfl (n := 236) rfl ?_
        refine G.icmp_ne C (A := (b2i (decide ((ms68.set v47.toInt.toNat (1 : Int32)).getD v51.toInt.toNat 0 = (1 : Int32)))).toInt) (B := z84_s0.toInt) rfl rfl at_236 (by decide) (by decide) (n := 239) (n' := 243) rfl (fun c236_87 c236_87i => ?_) (fun c236_87 c236_87i => ?_)
        · exact absurd (finA he70 q11.1 (by omega) q15.1 j84) c236_87
        refine G.iconst C (v := (1 : Int32)) at_239 (by decide) (n := 240) rfl ?_
        refine G.goto C at_240 (by decide) (n := 244) (by decide) ?_
        refine G.ireturn C at_244 (rfl) (by simp) (by decide) (by decide) ?_
        exact rfl
    · refine G.iconst C (v := (1 : Int32)) at_40 (by decide) (n := 41) rfl ?_
      refine G.goto C at_41 (by decide) (n := 45) (by decide) ?_
      refine G.istore C at_45 (l' := #[.val (.int i0), .val (.int i1), .val (.int i2), .val (.int i3), .val (.int i4), .val (.int i5), .val (.int v1), .val (.int v2), .val (.int (0 : Int32)), .val (.int (1 : Int32)), .unset, .unset, .unset, .unset, .unset, .unset, .unset, .unset]) rfl (n := 47) rfl ?_
      refine G.iload C at_47 rfl (n := 49) rfl ?_
      refine G.iconst C (v := (4 : Int32)) at_49 (by decide) (n := 50) rfl ?_
      refine G.iand C at_50 (n := 51) rfl ?_
      refine G.if_eq C (A := (i4 &&& (4 : Int32)).toInt) rfl at_51 (by decide) (by decide) (n := 54) (n' := 58) rfl (fun c51_88 c51_88i => ?_) (fun c51_88 c51_88i => ?_)
      · refine G.iconst C (v := (0 : Int32)) at_58 (by decide) (n := 59) rfl ?_
        refine G.istore C at_59 (l' := #[.val (.int i0), .val (.int i1), .val (.int i2), .val (.int i3), .val (.int i4), .val (.int i5), .val (.int v1), .val (.int v2), .val (.int (0 : Int32)), .val (.int (1 : Int32)), .val (.int (0 : Int32)), .unset, .unset, .unset, .unset, .unset, .unset, .unset]) rfl (n := 61) rfl ?_
        have qc := caps hv1 hv2
        refine G.iloadN C at_61 rfl (n := 62) rfl ?_
        refine G.ldc C (v := (2147483647 : Int32)) (wd hw 0 rfl) at_62 (n := 64) rfl ?_
        refine G.iand C at_64 (n := 65) rfl ?_
        refine G.iload C at_65 rfl (n := 67) rfl ?_
        refine G.irem C at_67 (nz_pos (by omega)) (n := 68) rfl ?_
        refine G.istoreZ C at_68 (l' := fun z => #[.val (.int i0), .val (.int i1), .val (.int i2), .val (.int i3), .val (.int i4), .val (.int i5), .val (.int v1), .val (.int v2), .val (.int (0 : Int32)), .val (.int (1 : Int32)), .val (.int (0 : Int32)), .val (.int z), .unset, .unset, .unset, .unset, .unset, .unset]) (fun _ => rfl) (n := 70) rfl ?_
        intro v89 hv89
        have q11 : 0 ≤ v89.toInt ∧ v89.toInt < v1.toInt := by rw [hv89]; exact rem_v (by omega)
        refine G.iloadN C at_70 rfl (n := 71) rfl ?_
        refine G.ldc C (v := (2147483647 : Int32)) (wd hw 0 rfl) at_71 (n := 73) rfl ?_
        refine G.iand C at_73 (n := 74) rfl ?_
        refine G.iload C at_74 rfl (n := 76) rfl ?_
        refine G.irem C at_76 (nz_pos (by omega)) (n := 77) rfl ?_
        refine G.istoreZ C at_77 (l' := fun z => #[.val (.int i0), .val (.int i1), .val (.int i2), .val (.int i3), .val (.int i4), .val (.int i5), .val (.int v1), .val (.int v2), .val (.int (0 : Int32)), .val (.int (1 : Int32)), .val (.int (0 : Int32)), .val (.int v89), .val (.int z), .unset, .unset, .unset, .unset, .unset]) (fun _ => rfl) (n := 79) rfl ?_
        intro v90 hv90
        have q12 : 0 ≤ v90.toInt ∧ v90.toInt < v1.toInt := by rw [hv90]; exact rem_v (by omega)
        refine G.iloadN C at_79 rfl (n := 80) rfl ?_
        refine G.ldc C (v := (2147483647 : Int32)) (wd hw 0 rfl) at_80 (n := 82) rfl ?_
        refine G.iand C at_82 (n := 83) rfl ?_
        refine G.iload C at_83 rfl (n := 85) rfl ?_
        refine G.irem C at_85 (nz_pos (by omega)) (n := 86) rfl ?_
        refine G.istoreZ C at_86 (l' := fun z => #[.val (.int i0), .val (.int i1), .val (.int i2), .val (.int i3), .val (.int i4), .val (.int i5), .val (.int v1), .val (.int v2), .val (.int (0 : Int32)), .val (.int (1 : Int32)), .val (.int (0 : Int32)), .val (.int v89), .val (.int v90), .val (.int z), .unset, .unset, .unset, .unset]) (fun _ => rfl) (n := 88) rfl ?_
        intro v91 hv91
        have q13 : 0 ≤ v91.toInt ∧ v91.toInt < v2.toInt := by rw [hv91]; exact rem_v (by omega)
        refine G.iload C at_88 rfl (n := 90) rfl ?_
        refine G.if_eq C (A := 1) (by decide) at_90 (by decide) (by decide) (n := 93) (n' := 98) rfl (fun c90_92 c90_92i => ?_) (fun c90_92 c90_92i => ?_)
        · exact absurd c90_92 (by decide)
        refine G.iload C at_93 rfl (n := 95) rfl ?_
        refine G.goto C at_95 (by decide) (n := 100) (by decide) ?_
        refine G.istore C at_100 (l' := #[.val (.int i0), .val (.int i1), .val (.int i2), .val (.int i3), .val (.int i4), .val (.int i5), .val (.int v1), .val (.int v2), .val (.int (0 : Int32)), .val (.int (1 : Int32)), .val (.int (0 : Int32)), .val (.int v89), .val (.int v90), .val (.int v91), .val (.int v2), .unset, .unset, .unset]) rfl (n := 102) rfl ?_
        refine G.iloadN C at_102 rfl (n := 103) rfl ?_
        refine G.ldc C (v := (2147483647 : Int32)) (wd hw 0 rfl) at_103 (n := 105) rfl ?_
        refine G.iand C at_105 (n := 106) rfl ?_
        refine G.iload C at_106 rfl (n := 108) rfl ?_
        refine G.irem C at_108 (nz_pos (by omega)) (n := 109) rfl ?_
        refine G.istoreZ C at_109 (l' := fun z => #[.val (.int i0), .val (.int i1), .val (.int i2), .val (.int i3), .val (.int i4), .val (.int i5), .val (.int v1), .val (.int v2), .val (.int (0 : Int32)), .val (.int (1 : Int32)), .val (.int (0 : Int32)), .val (.int v89), .val (.int v90), .val (.int v91), .val (.int v2), .val (.int z), .unset, .unset]) (fun _ => rfl) (n := 111) rfl ?_
        intro v93 hv93
        have q15 : 0 ≤ v93.toInt ∧ v93.toInt < v2.toInt := by rw [hv93]; exact rem_v (by omega)
        refine G.new C (wd hw 1 rfl) (wd hw 2 rfl) (wd hw 3 rfl) at_111 (n := 114) rfl (c' := 1) (s' := 4) rfl rfl (by decide) (by decide) ?_
        intro h94 b95 q96 E97 A98 D99
        have g100 : n0 ≤ b95 := Nat.le_trans Z0 (Nat.le_of_eq q96.symm)
        have O101 := Ob_Rg.new hw A98 D99
        have K102 := kext E97
        have Z103 : n0 ≤ h94.size := Nat.le_trans Z0 K102.1
        refine G.dup C at_114 rfl (n := 115) rfl ?_
        refine G.callC C (argsL := []) (yc := (⟨"com/example/duna/duna/resolution/Region", "<init>", "()V"⟩ : MethodName)) (a := b95) rfl (wd hw 4 rfl) (wd hw 5 rfl) (wd hw 3 rfl) (wd hw 6 rfl) (by decide) (m_rinit l Z a0 hw b95 h94 n0 Z103 O101 g100) rfl (by decide) (W := 1) rfl (by decide) (c' := 5) (s' := 22) rfl rfl (by decide) (by decide) at_115 (n := 118) rfl pd1 rfl rfl ?_
        rintro _ h107 ⟨rfl, Z104, R105⟩
        refine G.astore C at_118 rfl (l' := #[.val (.int i0), .val (.int i1), .val (.int i2), .val (.int i3), .val (.int i4), .val (.int i5), .val (.int v1), .val (.int v2), .val (.int (0 : Int32)), .val (.int (1 : Int32)), .val (.int (0 : Int32)), .val (.int v89), .val (.int v90), .val (.int v91), .val (.int v2), .val (.int v93), .val (.ref b95), .unset]) rfl (n := 120) rfl ?_
        refine G.aload C at_120 rfl rfl (n := 122) rfl ?_
        refine G.iload C at_122 rfl (n := 124) rfl ?_
        refine G.callV C (argsL := [(.int v1)]) (yr := (⟨"com/example/duna/duna/resolution/Region", "clear", "(I)V"⟩ : MethodName)) (yc := (⟨"com/example/duna/duna/resolution/Region", "clear", "(I)V"⟩ : MethodName)) (a := b95) (R105.exa) (wd hw 27 rfl) (wd hw 28 rfl) (nfS (wd hw 30 rfl) rfl) (wd hw 30 rfl) (wd hw 29 rfl) (wd hw 3 rfl) (wd hw 31 rfl) (by decide) (m_clear l Z a0 hw b95 v1 [] (0 : Int32) (1 : Int32) 0 h107 n0 Z104 R105 (by omega) (by omega) (by decide)) rfl (by decide) (W := 0) rfl (by decide) (c' := 7) (s' := 114) rfl rfl (by decide) (by decide) at_124 (n := 127) rfl pd4 rfl rfl ?_
        rintro _ h114 ⟨rfl, Z108, ms110, R109, hl111, he112⟩
        refine G.aload C at_127 rfl rfl (n := 129) rfl ?_
        refine G.iload C at_129 rfl (n := 131) rfl ?_
        refine G.iload C at_131 rfl (n := 133) rfl ?_
        refine G.callV C (argsL := [(.int v89), (.int i5)]) (yr := (⟨"com/example/duna/duna/resolution/Region", "add", "(II)Z"⟩ : MethodName)) (yc := (⟨"com/example/duna/duna/resolution/Region", "add", "(II)Z"⟩ : MethodName)) (a := b95) (R109.exa) (wd hw 56 rfl) (wd hw 57 rfl) (nfS (wd hw 59 rfl) rfl) (wd hw 59 rfl) (wd hw 58 rfl) (wd hw 3 rfl) (wd hw 60 rfl) (by decide) (m_radd l Z a0 hw b95 v89 i5 ms110 (1 : Int32) 0 h114 n0 Z108 R109 (by omega) (by first | omega | (simp only [List.length_set]; omega)) (by omega)) rfl (by decide) (W := 0) rfl (by decide) (c' := 7) (s' := 114) rfl rfl (by decide) (by decide) at_133 (n := 136) rfl pd5 rfl rfl ?_
        rintro _ h121 ⟨⟨r119, rfl⟩, Z115, sz117, hs118, R116⟩
        refine G.pop C at_136 rfl (n := 137) rfl ?_
        refine G.iload C at_137 rfl (n := 139) rfl ?_
        refine G.if_eq C (A := 0) (by decide) at_139 (by decide) (by decide) (n := 142) (n' := 152) rfl (fun c139_122 c139_122i => ?_) (fun c139_122 c139_122i => ?_)
        rotate_left
        · exact absurd c139_122 (by decide)
        refine G.iload C at_152 rfl (n := 154) rfl ?_
        refine G.if_eq C (A := 1) (by decide) at_154 (by decide) (by decide) (n := 157) (n' := 201) rfl (fun c154_123 c154_123i => ?_) (fun c154_123 c154_123i => ?_)
        · exact absurd c154_123 (by decide)
        refine G.aload C at_157 rfl rfl (n := 159) rfl ?_
        refine G.iload C at_159 rfl (n := 161) rfl ?_
        refine G.callV C (argsL := [(.int v2)]) (yr := (⟨"com/example/duna/duna/resolution/Region", "clear", "(I)V"⟩ : MethodName)) (yc := (⟨"com/example/duna/duna/resolution/Region", "clear", "(I)V"⟩ : MethodName)) (a := b95) (R116.exa) (wd hw 27 rfl) (wd hw 28 rfl) (nfS (wd hw 30 rfl) rfl) (wd hw 30 rfl) (wd hw 29 rfl) (wd hw 3 rfl) (wd hw 31 rfl) (by decide) (m_clear l Z a0 hw b95 v2 (ms110.set v89.toInt.toNat (1 : Int32)) (1 : Int32) (2 : Int32) sz117 h121 n0 Z115 R116 (by omega) (by omega) (by decide)) rfl (by decide) (W := 0) rfl (by decide) (c' := 9) (s' := 206) rfl rfl (by decide) (by decide) at_161 (n := 164) rfl pd4 rfl rfl ?_
        rintro _ h130 ⟨rfl, Z124, ms126, R125, hl127, he128⟩
        refine G.iload C at_164 rfl (n := 166) rfl ?_
        refine G.if_eq C (A := 0) (by decide) at_166 (by decide) (by decide) (n := 169) (n' := 179) rfl (fun c166_131 c166_131i => ?_) (fun c166_131 c166_131i => ?_)
        rotate_left
        · exact absurd c166_131 (by decide)
        refine G.iload C at_179 rfl (n := 181) rfl ?_
        refine G.if_eq C (A := 0) (by decide) at_181 (by decide) (by decide) (n := 184) (n' := 195) rfl (fun c181_132 c181_132i => ?_) (fun c181_132 c181_132i => ?_)
        rotate_left
        · exact absurd c181_132 (by decide)
        refine G.iconst C (v := (0 : Int32)) at_195 (by decide) (n := 196) rfl ?_
        refine G.istore C at_196 (l' := #[.val (.int i0), .val (.int i1), .val (.int i2), .val (.int i3), .val (.int i4), .val (.int i5), .val (.int v1), .val (.int v2), .val (.int (0 : Int32)), .val (.int (1 : Int32)), .val (.int (0 : Int32)), .val (.int v89), .val (.int v90), .val (.int v91), .val (.int v2), .val (.int v93), .val (.ref b95), .val (.int (0 : Int32))]) rfl (n := 198) rfl ?_
        refine G.goto C at_198 (by decide) (n := 227) (by decide) ?_
        refine G.aload C at_227 rfl rfl (n := 229) rfl ?_
        refine G.iload C at_229 rfl (n := 231) rfl ?_
        refine G.callV C (argsL := [(.int v93)]) (yr := (⟨"com/example/duna/duna/resolution/Region", "contains", "(I)Z"⟩ : MethodName)) (yc := (⟨"com/example/duna/duna/resolution/Region", "contains", "(I)Z"⟩ : MethodName)) (a := b95) (R125.exa) (wd hw 66 rfl) (wd hw 67 rfl) (nfS (wd hw 69 rfl) rfl) (wd hw 69 rfl) (wd hw 68 rfl) (wd hw 3 rfl) (wd hw 70 rfl) (by decide) (m_contains l Z a0 hw b95 v93 ms126 (2 : Int32) 0 h130 n0 Z124 R125 (by omega) (by first | omega | (simp only [List.length_set]; omega))) rfl (by decide) (W := 0) rfl (by decide) (c' := 9) (s' := 206) rfl rfl (by decide) (by decide) at_231 (n := 234) rfl pd6 rfl rfl ?_
        rintro _ _ ⟨rfl, rfl⟩
        refine G.iload C at_234 rfl (n := 236) rfl ?_
        refine G.icmp_ne C (A := (b2i (decide (ms126.getD v93.toInt.toNat 0 = (2 : Int32)))).toInt) (B := 0) rfl (by decide) at_236 (by decide) (by decide) (n := 239) (n' := 243) rfl (fun c236_135 c236_135i => ?_) (fun c236_135 c236_135i => ?_)
        · exact absurd (finC0 he128 (old1 he112 q11.1 (by omega)) _) c236_135
        refine G.iconst C (v := (1 : Int32)) at_239 (by decide) (n := 240) rfl ?_
        refine G.goto C at_240 (by decide) (n := 244) (by decide) ?_
        refine G.ireturn C at_244 (rfl) (by simp) (by decide) (by decide) ?_
        exact rfl
      · refine G.iconst C (v := (1 : Int32)) at_54 (by decide) (n := 55) rfl ?_
        refine G.goto C at_55 (by decide) (n := 59) (by decide) ?_
        refine G.istore C at_59 (l' := #[.val (.int i0), .val (.int i1), .val (.int i2), .val (.int i3), .val (.int i4), .val (.int i5), .val (.int v1), .val (.int v2), .val (.int (0 : Int32)), .val (.int (1 : Int32)), .val (.int (1 : Int32)), .unset, .unset, .unset, .unset, .unset, .unset, .unset]) rfl (n := 61) rfl ?_
        have qc := caps hv1 hv2
        refine G.iloadN C at_61 rfl (n := 62) rfl ?_
        refine G.ldc C (v := (2147483647 : Int32)) (wd hw 0 rfl) at_62 (n := 64) rfl ?_
        refine G.iand C at_64 (n := 65) rfl ?_
        refine G.iload C at_65 rfl (n := 67) rfl ?_
        refine G.irem C at_67 (nz_pos (by omega)) (n := 68) rfl ?_
        refine G.istoreZ C at_68 (l' := fun z => #[.val (.int i0), .val (.int i1), .val (.int i2), .val (.int i3), .val (.int i4), .val (.int i5), .val (.int v1), .val (.int v2), .val (.int (0 : Int32)), .val (.int (1 : Int32)), .val (.int (1 : Int32)), .val (.int z), .unset, .unset, .unset, .unset, .unset, .unset]) (fun _ => rfl) (n := 70) rfl ?_
        intro v136 hv136
        have q11 : 0 ≤ v136.toInt ∧ v136.toInt < v1.toInt := by rw [hv136]; exact rem_v (by omega)
        refine G.iloadN C at_70 rfl (n := 71) rfl ?_
        refine G.ldc C (v := (2147483647 : Int32)) (wd hw 0 rfl) at_71 (n := 73) rfl ?_
        refine G.iand C at_73 (n := 74) rfl ?_
        refine G.iload C at_74 rfl (n := 76) rfl ?_
        refine G.irem C at_76 (nz_pos (by omega)) (n := 77) rfl ?_
        refine G.istoreZ C at_77 (l' := fun z => #[.val (.int i0), .val (.int i1), .val (.int i2), .val (.int i3), .val (.int i4), .val (.int i5), .val (.int v1), .val (.int v2), .val (.int (0 : Int32)), .val (.int (1 : Int32)), .val (.int (1 : Int32)), .val (.int v136), .val (.int z), .unset, .unset, .unset, .unset, .unset]) (fun _ => rfl) (n := 79) rfl ?_
        intro v137 hv137
        have q12 : 0 ≤ v137.toInt ∧ v137.toInt < v1.toInt := by rw [hv137]; exact rem_v (by omega)
        refine G.iloadN C at_79 rfl (n := 80) rfl ?_
        refine G.ldc C (v := (2147483647 : Int32)) (wd hw 0 rfl) at_80 (n := 82) rfl ?_
        refine G.iand C at_82 (n := 83) rfl ?_
        refine G.iload C at_83 rfl (n := 85) rfl ?_
        refine G.irem C at_85 (nz_pos (by omega)) (n := 86) rfl ?_
        refine G.istoreZ C at_86 (l' := fun z => #[.val (.int i0), .val (.int i1), .val (.int i2), .val (.int i3), .val (.int i4), .val (.int i5), .val (.int v1), .val (.int v2), .val (.int (0 : Int32)), .val (.int (1 : Int32)), .val (.int (1 : Int32)), .val (.int v136), .val (.int v137), .val (.int z), .unset, .unset, .unset, .unset]) (fun _ => rfl) (n := 88) rfl ?_
        intro v138 hv138
        have q13 : 0 ≤ v138.toInt ∧ v138.toInt < v2.toInt := by rw [hv138]; exact rem_v (by omega)
        refine G.iload C at_88 rfl (n := 90) rfl ?_
        refine G.if_eq C (A := 1) (by decide) at_90 (by decide) (by decide) (n := 93) (n' := 98) rfl (fun c90_139 c90_139i => ?_) (fun c90_139 c90_139i => ?_)
        · exact absurd c90_139 (by decide)
        refine G.iload C at_93 rfl (n := 95) rfl ?_
        refine G.goto C at_95 (by decide) (n := 100) (by decide) ?_
        refine G.istore C at_100 (l' := #[.val (.int i0), .val (.int i1), .val (.int i2), .val (.int i3), .val (.int i4), .val (.int i5), .val (.int v1), .val (.int v2), .val (.int (0 : Int32)), .val (.int (1 : Int32)), .val (.int (1 : Int32)), .val (.int v136), .val (.int v137), .val (.int v138), .val (.int v2), .unset, .unset, .unset]) rfl (n := 102) rfl ?_
        refine G.iloadN C at_102 rfl (n := 103) rfl ?_
        refine G.ldc C (v := (2147483647 : Int32)) (wd hw 0 rfl) at_103 (n := 105) rfl ?_
        refine G.iand C at_105 (n := 106) rfl ?_
        refine G.iload C at_106 rfl (n := 108) rfl ?_
        refine G.irem C at_108 (nz_pos (by omega)) (n := 109) rfl ?_
        refine G.istoreZ C at_109 (l' := fun z => #[.val (.int i0), .val (.int i1), .val (.int i2), .val (.int i3), .val (.int i4), .val (.int i5), .val (.int v1), .val (.int v2), .val (.int (0 : Int32)), .val (.int (1 : Int32)), .val (.int (1 : Int32)), .val (.int v136), .val (.int v137), .val (.int v138), .val (.int v2), .val (.int z), .unset, .unset]) (fun _ => rfl) (n := 111) rfl ?_
        intro v140 hv140
        have q15 : 0 ≤ v140.toInt ∧ v140.toInt < v2.toInt := by rw [hv140]; exact rem_v (by omega)
        refine G.new C (wd hw 1 rfl) (wd hw 2 rfl) (wd hw 3 rfl) at_111 (n := 114) rfl (c' := 1) (s' := 4) rfl rfl (by decide) (by decide) ?_
        intro h141 b142 q143 E144 A145 D146
        have g147 : n0 ≤ b142 := Nat.le_trans Z0 (Nat.le_of_eq q143.symm)
        have O148 := Ob_Rg.new hw A145 D146
        have K149 := kext E144
        have Z150 : n0 ≤ h141.size := Nat.le_trans Z0 K149.1
        refine G.dup C at_114 rfl (n := 115) rfl ?_
        refine G.callC C (argsL := []) (yc := (⟨"com/example/duna/duna/resolution/Region", "<init>", "()V"⟩ : MethodName)) (a := b142) rfl (wd hw 4 rfl) (wd hw 5 rfl) (wd hw 3 rfl) (wd hw 6 rfl) (by decide) (m_rinit l Z a0 hw b142 h141 n0 Z150 O148 g147) rfl (by decide) (W := 1) rfl (by decide) (c' := 5) (s' := 22) rfl rfl (by decide) (by decide) at_115 (n := 118) rfl pd1 rfl rfl ?_
        rintro _ h154 ⟨rfl, Z151, R152⟩
        refine G.astore C at_118 rfl (l' := #[.val (.int i0), .val (.int i1), .val (.int i2), .val (.int i3), .val (.int i4), .val (.int i5), .val (.int v1), .val (.int v2), .val (.int (0 : Int32)), .val (.int (1 : Int32)), .val (.int (1 : Int32)), .val (.int v136), .val (.int v137), .val (.int v138), .val (.int v2), .val (.int v140), .val (.ref b142), .unset]) rfl (n := 120) rfl ?_
        refine G.aload C at_120 rfl rfl (n := 122) rfl ?_
        refine G.iload C at_122 rfl (n := 124) rfl ?_
        refine G.callV C (argsL := [(.int v1)]) (yr := (⟨"com/example/duna/duna/resolution/Region", "clear", "(I)V"⟩ : MethodName)) (yc := (⟨"com/example/duna/duna/resolution/Region", "clear", "(I)V"⟩ : MethodName)) (a := b142) (R152.exa) (wd hw 27 rfl) (wd hw 28 rfl) (nfS (wd hw 30 rfl) rfl) (wd hw 30 rfl) (wd hw 29 rfl) (wd hw 3 rfl) (wd hw 31 rfl) (by decide) (m_clear l Z a0 hw b142 v1 [] (0 : Int32) (1 : Int32) 0 h154 n0 Z151 R152 (by omega) (by omega) (by decide)) rfl (by decide) (W := 0) rfl (by decide) (c' := 7) (s' := 114) rfl rfl (by decide) (by decide) at_124 (n := 127) rfl pd4 rfl rfl ?_
        rintro _ h161 ⟨rfl, Z155, ms157, R156, hl158, he159⟩
        refine G.aload C at_127 rfl rfl (n := 129) rfl ?_
        refine G.iload C at_129 rfl (n := 131) rfl ?_
        refine G.iload C at_131 rfl (n := 133) rfl ?_
        refine G.callV C (argsL := [(.int v136), (.int i5)]) (yr := (⟨"com/example/duna/duna/resolution/Region", "add", "(II)Z"⟩ : MethodName)) (yc := (⟨"com/example/duna/duna/resolution/Region", "add", "(II)Z"⟩ : MethodName)) (a := b142) (R156.exa) (wd hw 56 rfl) (wd hw 57 rfl) (nfS (wd hw 59 rfl) rfl) (wd hw 59 rfl) (wd hw 58 rfl) (wd hw 3 rfl) (wd hw 60 rfl) (by decide) (m_radd l Z a0 hw b142 v136 i5 ms157 (1 : Int32) 0 h161 n0 Z155 R156 (by omega) (by first | omega | (simp only [List.length_set]; omega)) (by omega)) rfl (by decide) (W := 0) rfl (by decide) (c' := 7) (s' := 114) rfl rfl (by decide) (by decide) at_133 (n := 136) rfl pd5 rfl rfl ?_
        rintro _ h168 ⟨⟨r166, rfl⟩, Z162, sz164, hs165, R163⟩
        refine G.pop C at_136 rfl (n := 137) rfl ?_
        refine G.iload C at_137 rfl (n := 139) rfl ?_
        refine G.if_eq C (A := 0) (by decide) at_139 (by decide) (by decide) (n := 142) (n' := 152) rfl (fun c139_169 c139_169i => ?_) (fun c139_169 c139_169i => ?_)
        rotate_left
        · exact absurd c139_169 (by decide)
        refine G.iload C at_152 rfl (n := 154) rfl ?_
        refine G.if_eq C (A := 1) (by decide) at_154 (by decide) (by decide) (n := 157) (n' := 201) rfl (fun c154_170 c154_170i => ?_) (fun c154_170 c154_170i => ?_)
        · exact absurd c154_170 (by decide)
        refine G.aload C at_157 rfl rfl (n := 159) rfl ?_
        refine G.iload C at_159 rfl (n := 161) rfl ?_
        refine G.callV C (argsL := [(.int v2)]) (yr := (⟨"com/example/duna/duna/resolution/Region", "clear", "(I)V"⟩ : MethodName)) (yc := (⟨"com/example/duna/duna/resolution/Region", "clear", "(I)V"⟩ : MethodName)) (a := b142) (R163.exa) (wd hw 27 rfl) (wd hw 28 rfl) (nfS (wd hw 30 rfl) rfl) (wd hw 30 rfl) (wd hw 29 rfl) (wd hw 3 rfl) (wd hw 31 rfl) (by decide) (m_clear l Z a0 hw b142 v2 (ms157.set v136.toInt.toNat (1 : Int32)) (1 : Int32) (2 : Int32) sz164 h168 n0 Z162 R163 (by omega) (by omega) (by decide)) rfl (by decide) (W := 0) rfl (by decide) (c' := 9) (s' := 206) rfl rfl (by decide) (by decide) at_161 (n := 164) rfl pd4 rfl rfl ?_
        rintro _ h177 ⟨rfl, Z171, ms173, R172, hl174, he175⟩
        refine G.iload C at_164 rfl (n := 166) rfl ?_
        refine G.if_eq C (A := 1) (by decide) at_166 (by decide) (by decide) (n := 169) (n' := 179) rfl (fun c166_178 c166_178i => ?_) (fun c166_178 c166_178i => ?_)
        · exact absurd c166_178 (by decide)
        refine G.aload C at_169 rfl rfl (n := 171) rfl ?_
        refine G.iload C at_171 rfl (n := 173) rfl ?_
        refine G.iload C at_173 rfl (n := 175) rfl ?_
        refine G.callV C (argsL := [(.int v138), (.int i5)]) (yr := (⟨"com/example/duna/duna/resolution/Region", "add", "(II)Z"⟩ : MethodName)) (yc := (⟨"com/example/duna/duna/resolution/Region", "add", "(II)Z"⟩ : MethodName)) (a := b142) (R172.exa) (wd hw 56 rfl) (wd hw 57 rfl) (nfS (wd hw 59 rfl) rfl) (wd hw 59 rfl) (wd hw 58 rfl) (wd hw 3 rfl) (wd hw 60 rfl) (by decide) (m_radd l Z a0 hw b142 v138 i5 ms173 (2 : Int32) 0 h177 n0 Z171 R172 (by omega) (by first | omega | (simp only [List.length_set]; omega)) (by omega)) rfl (by decide) (W := 0) rfl (by decide) (c' := 9) (s' := 206) rfl rfl (by decide) (by decide) at_175 (n := 178) rfl pd5 rfl rfl ?_
        rintro _ h185 ⟨⟨r183, rfl⟩, Z179, sz181, hs182, R180⟩
        refine G.pop C at_178 rfl (n := 179) rfl ?_
        refine G.iload C at_179 rfl (n := 181) rfl ?_
        refine G.if_eq C (A := 1) (by decide) at_181 (by decide) (by decide) (n := 184) (n' := 195) rfl (fun c181_186 c181_186i => ?_) (fun c181_186 c181_186i => ?_)
        · exact absurd c181_186 (by decide)
        refine G.iload C at_184 rfl (n := 186) rfl ?_
        refine G.iload C at_186 rfl (n := 188) rfl ?_
        suffices key188 : ∀ (z188_s0 : Int32), (((v140 ≠ v138) ∧ (v140.toInt ≠ v138.toInt) ∧ (z188_s0 = (0 : Int32))) ∨ ((v140 = v138) ∧ (v140.toInt = v138.toInt) ∧ (z188_s0 = (1 : Int32)))) → Go p l e room_1 s m args below meth c n0 (Q_law Z h0 n0 i0 i1 i2 i3 i4 i5) 9 206 h185 (mkF m 196 #[.val (.int i0), .val (.int i1), .val (.int i2), .val (.int i3), .val (.int i4), .val (.int i5), .val (.int v1), .val (.int v2), .val (.int (0 : Int32)), .val (.int (1 : Int32)), .val (.int (1 : Int32)), .val (.int v136), .val (.int v137), .val (.int v138), .val (.int v2), .val (.int v140), .val (.ref b142), .unset] [(.int z188_s0)]) by
          refine G.icmp_ne C (A := v140.toInt) (B := v138.toInt) rfl rfl at_188 (by decide) (by decide) (n := 191) (n' := 195) rfl (fun c188_187 c188_187i => ?_) (fun c188_187 c188_187i => ?_)
          · refine G.iconst C (v := (0 : Int32)) at_195 (by decide) (n := 196) rfl ?_
            exact key188 _ (Or.inl ⟨c188_187, c188_187i, rfl⟩) 
          · refine G.iconst C (v := (1 : Int32)) at_191 (by decide) (n := 192) rfl ?_
            refine G.goto C at_192 (by decide) (n := 196) (by decide) ?_
            exact key188 _ (Or.inr (⟨c188_187, c188_187i, rfl⟩)) 
        intro z188_s0 j188 
        refine G.istore C at_196 (l' := #[.val (.int i0), .val (.int i1), .val (.int i2), .val (.int i3), .val (.int i4), .val (.int i5), .val (.int v1), .val (.int v2), .val (.int (0 : Int32)), .val (.int (1 : Int32)), .val (.int (1 : Int32)), .val (.int v136), .val (.int v137), .val (.int v138), .val (.int v2), .val (.int v140), .val (.ref b142), .val (.int z188_s0)]) rfl (n := 198) rfl ?_
        refine G.goto C at_198 (by decide) (n := 227) (by decide) ?_
        refine G.aload C at_227 rfl rfl (n := 229) rfl ?_
        refine G.iload C at_229 rfl (n := 231) rfl ?_
        refine G.callV C (argsL := [(.int v140)]) (yr := (⟨"com/example/duna/duna/resolution/Region", "contains", "(I)Z"⟩ : MethodName)) (yc := (⟨"com/example/duna/duna/resolution/Region", "contains", "(I)Z"⟩ : MethodName)) (a := b142) (R180.exa) (wd hw 66 rfl) (wd hw 67 rfl) (nfS (wd hw 69 rfl) rfl) (wd hw 69 rfl) (wd hw 68 rfl) (wd hw 3 rfl) (wd hw 70 rfl) (by decide) (m_contains l Z a0 hw b142 v140 (ms173.set v138.toInt.toNat (2 : Int32)) (2 : Int32) sz181 h185 n0 Z179 R180 (by omega) (by first | omega | (simp only [List.length_set]; omega))) rfl (by decide) (W := 0) rfl (by decide) (c' := 9) (s' := 206) rfl rfl (by decide) (by decide) at_231 (n := 234) rfl pd6 rfl rfl ?_
        rintro _ _ ⟨rfl, rfl⟩
        refine G.iload C at_234 rfl (n := 236) rfl ?_
        refine G.icmp_ne C (A := (b2i (decide ((ms173.set v138.toInt.toNat (2 : Int32)).getD v140.toInt.toNat 0 = (2 : Int32)))).toInt) (B := z188_s0.toInt) rfl rfl at_236 (by decide) (by decide) (n := 239) (n' := 243) rfl (fun c236_191 c236_191i => ?_) (fun c236_191 c236_191i => ?_)
        · exact absurd (finC1 he175 (old1 he159 q11.1 (by omega)) q13.1 (by omega) q15.1 j188) c236_191
        refine G.iconst C (v := (1 : Int32)) at_239 (by decide) (n := 240) rfl ?_
        refine G.goto C at_240 (by decide) (n := 244) (by decide) ?_
        refine G.ireturn C at_244 (rfl) (by simp) (by decide) (by decide) ?_
        exact rfl
  · refine G.iconst C (v := (1 : Int32)) at_26 (by decide) (n := 27) rfl ?_
    refine G.goto C at_27 (by decide) (n := 31) (by decide) ?_
    refine G.istore C at_31 (l' := #[.val (.int i0), .val (.int i1), .val (.int i2), .val (.int i3), .val (.int i4), .val (.int i5), .val (.int v1), .val (.int v2), .val (.int (1 : Int32)), .unset, .unset, .unset, .unset, .unset, .unset, .unset, .unset, .unset]) rfl (n := 33) rfl ?_
    refine G.iload C at_33 rfl (n := 35) rfl ?_
    refine G.iconst C (v := (2 : Int32)) at_35 (by decide) (n := 36) rfl ?_
    refine G.iand C at_36 (n := 37) rfl ?_
    refine G.if_eq C (A := (i4 &&& (2 : Int32)).toInt) rfl at_37 (by decide) (by decide) (n := 40) (n' := 44) rfl (fun c37_192 c37_192i => ?_) (fun c37_192 c37_192i => ?_)
    · refine G.iconst C (v := (0 : Int32)) at_44 (by decide) (n := 45) rfl ?_
      refine G.istore C at_45 (l' := #[.val (.int i0), .val (.int i1), .val (.int i2), .val (.int i3), .val (.int i4), .val (.int i5), .val (.int v1), .val (.int v2), .val (.int (1 : Int32)), .val (.int (0 : Int32)), .unset, .unset, .unset, .unset, .unset, .unset, .unset, .unset]) rfl (n := 47) rfl ?_
      refine G.iload C at_47 rfl (n := 49) rfl ?_
      refine G.iconst C (v := (4 : Int32)) at_49 (by decide) (n := 50) rfl ?_
      refine G.iand C at_50 (n := 51) rfl ?_
      refine G.if_eq C (A := (i4 &&& (4 : Int32)).toInt) rfl at_51 (by decide) (by decide) (n := 54) (n' := 58) rfl (fun c51_193 c51_193i => ?_) (fun c51_193 c51_193i => ?_)
      · refine G.iconst C (v := (0 : Int32)) at_58 (by decide) (n := 59) rfl ?_
        refine G.istore C at_59 (l' := #[.val (.int i0), .val (.int i1), .val (.int i2), .val (.int i3), .val (.int i4), .val (.int i5), .val (.int v1), .val (.int v2), .val (.int (1 : Int32)), .val (.int (0 : Int32)), .val (.int (0 : Int32)), .unset, .unset, .unset, .unset, .unset, .unset, .unset]) rfl (n := 61) rfl ?_
        have qc := caps hv1 hv2
        refine G.iloadN C at_61 rfl (n := 62) rfl ?_
        refine G.ldc C (v := (2147483647 : Int32)) (wd hw 0 rfl) at_62 (n := 64) rfl ?_
        refine G.iand C at_64 (n := 65) rfl ?_
        refine G.iload C at_65 rfl (n := 67) rfl ?_
        refine G.irem C at_67 (nz_pos (by omega)) (n := 68) rfl ?_
        refine G.istoreZ C at_68 (l' := fun z => #[.val (.int i0), .val (.int i1), .val (.int i2), .val (.int i3), .val (.int i4), .val (.int i5), .val (.int v1), .val (.int v2), .val (.int (1 : Int32)), .val (.int (0 : Int32)), .val (.int (0 : Int32)), .val (.int z), .unset, .unset, .unset, .unset, .unset, .unset]) (fun _ => rfl) (n := 70) rfl ?_
        intro v194 hv194
        have q11 : 0 ≤ v194.toInt ∧ v194.toInt < v1.toInt := by rw [hv194]; exact rem_v (by omega)
        refine G.iloadN C at_70 rfl (n := 71) rfl ?_
        refine G.ldc C (v := (2147483647 : Int32)) (wd hw 0 rfl) at_71 (n := 73) rfl ?_
        refine G.iand C at_73 (n := 74) rfl ?_
        refine G.iload C at_74 rfl (n := 76) rfl ?_
        refine G.irem C at_76 (nz_pos (by omega)) (n := 77) rfl ?_
        refine G.istoreZ C at_77 (l' := fun z => #[.val (.int i0), .val (.int i1), .val (.int i2), .val (.int i3), .val (.int i4), .val (.int i5), .val (.int v1), .val (.int v2), .val (.int (1 : Int32)), .val (.int (0 : Int32)), .val (.int (0 : Int32)), .val (.int v194), .val (.int z), .unset, .unset, .unset, .unset, .unset]) (fun _ => rfl) (n := 79) rfl ?_
        intro v195 hv195
        have q12 : 0 ≤ v195.toInt ∧ v195.toInt < v1.toInt := by rw [hv195]; exact rem_v (by omega)
        refine G.iloadN C at_79 rfl (n := 80) rfl ?_
        refine G.ldc C (v := (2147483647 : Int32)) (wd hw 0 rfl) at_80 (n := 82) rfl ?_
        refine G.iand C at_82 (n := 83) rfl ?_
        refine G.iload C at_83 rfl (n := 85) rfl ?_
        refine G.irem C at_85 (nz_pos (by omega)) (n := 86) rfl ?_
        refine G.istoreZ C at_86 (l' := fun z => #[.val (.int i0), .val (.int i1), .val (.int i2), .val (.int i3), .val (.int i4), .val (.int i5), .val (.int v1), .val (.int v2), .val (.int (1 : Int32)), .val (.int (0 : Int32)), .val (.int (0 : Int32)), .val (.int v194), .val (.int v195), .val (.int z), .unset, .unset, .unset, .unset]) (fun _ => rfl) (n := 88) rfl ?_
        intro v196 hv196
        have q13 : 0 ≤ v196.toInt ∧ v196.toInt < v2.toInt := by rw [hv196]; exact rem_v (by omega)
        refine G.iload C at_88 rfl (n := 90) rfl ?_
        refine G.if_eq C (A := 0) (by decide) at_90 (by decide) (by decide) (n := 93) (n' := 98) rfl (fun c90_197 c90_197i => ?_) (fun c90_197 c90_197i => ?_)
        rotate_left
        · exact absurd c90_197 (by decide)
        refine G.iload C at_98 rfl (n := 100) rfl ?_
        refine G.istore C at_100 (l' := #[.val (.int i0), .val (.int i1), .val (.int i2), .val (.int i3), .val (.int i4), .val (.int i5), .val (.int v1), .val (.int v2), .val (.int (1 : Int32)), .val (.int (0 : Int32)), .val (.int (0 : Int32)), .val (.int v194), .val (.int v195), .val (.int v196), .val (.int v1), .unset, .unset, .unset]) rfl (n := 102) rfl ?_
        refine G.iloadN C at_102 rfl (n := 103) rfl ?_
        refine G.ldc C (v := (2147483647 : Int32)) (wd hw 0 rfl) at_103 (n := 105) rfl ?_
        refine G.iand C at_105 (n := 106) rfl ?_
        refine G.iload C at_106 rfl (n := 108) rfl ?_
        refine G.irem C at_108 (nz_pos (by omega)) (n := 109) rfl ?_
        refine G.istoreZ C at_109 (l' := fun z => #[.val (.int i0), .val (.int i1), .val (.int i2), .val (.int i3), .val (.int i4), .val (.int i5), .val (.int v1), .val (.int v2), .val (.int (1 : Int32)), .val (.int (0 : Int32)), .val (.int (0 : Int32)), .val (.int v194), .val (.int v195), .val (.int v196), .val (.int v1), .val (.int z), .unset, .unset]) (fun _ => rfl) (n := 111) rfl ?_
        intro v198 hv198
        have q15 : 0 ≤ v198.toInt ∧ v198.toInt < v1.toInt := by rw [hv198]; exact rem_v (by omega)
        refine G.new C (wd hw 1 rfl) (wd hw 2 rfl) (wd hw 3 rfl) at_111 (n := 114) rfl (c' := 1) (s' := 4) rfl rfl (by decide) (by decide) ?_
        intro h199 b200 q201 E202 A203 D204
        have g205 : n0 ≤ b200 := Nat.le_trans Z0 (Nat.le_of_eq q201.symm)
        have O206 := Ob_Rg.new hw A203 D204
        have K207 := kext E202
        have Z208 : n0 ≤ h199.size := Nat.le_trans Z0 K207.1
        refine G.dup C at_114 rfl (n := 115) rfl ?_
        refine G.callC C (argsL := []) (yc := (⟨"com/example/duna/duna/resolution/Region", "<init>", "()V"⟩ : MethodName)) (a := b200) rfl (wd hw 4 rfl) (wd hw 5 rfl) (wd hw 3 rfl) (wd hw 6 rfl) (by decide) (m_rinit l Z a0 hw b200 h199 n0 Z208 O206 g205) rfl (by decide) (W := 1) rfl (by decide) (c' := 5) (s' := 22) rfl rfl (by decide) (by decide) at_115 (n := 118) rfl pd1 rfl rfl ?_
        rintro _ h212 ⟨rfl, Z209, R210⟩
        refine G.astore C at_118 rfl (l' := #[.val (.int i0), .val (.int i1), .val (.int i2), .val (.int i3), .val (.int i4), .val (.int i5), .val (.int v1), .val (.int v2), .val (.int (1 : Int32)), .val (.int (0 : Int32)), .val (.int (0 : Int32)), .val (.int v194), .val (.int v195), .val (.int v196), .val (.int v1), .val (.int v198), .val (.ref b200), .unset]) rfl (n := 120) rfl ?_
        refine G.aload C at_120 rfl rfl (n := 122) rfl ?_
        refine G.iload C at_122 rfl (n := 124) rfl ?_
        refine G.callV C (argsL := [(.int v1)]) (yr := (⟨"com/example/duna/duna/resolution/Region", "clear", "(I)V"⟩ : MethodName)) (yc := (⟨"com/example/duna/duna/resolution/Region", "clear", "(I)V"⟩ : MethodName)) (a := b200) (R210.exa) (wd hw 27 rfl) (wd hw 28 rfl) (nfS (wd hw 30 rfl) rfl) (wd hw 30 rfl) (wd hw 29 rfl) (wd hw 3 rfl) (wd hw 31 rfl) (by decide) (m_clear l Z a0 hw b200 v1 [] (0 : Int32) (1 : Int32) 0 h212 n0 Z209 R210 (by omega) (by omega) (by decide)) rfl (by decide) (W := 0) rfl (by decide) (c' := 7) (s' := 114) rfl rfl (by decide) (by decide) at_124 (n := 127) rfl pd4 rfl rfl ?_
        rintro _ h219 ⟨rfl, Z213, ms215, R214, hl216, he217⟩
        refine G.aload C at_127 rfl rfl (n := 129) rfl ?_
        refine G.iload C at_129 rfl (n := 131) rfl ?_
        refine G.iload C at_131 rfl (n := 133) rfl ?_
        refine G.callV C (argsL := [(.int v194), (.int i5)]) (yr := (⟨"com/example/duna/duna/resolution/Region", "add", "(II)Z"⟩ : MethodName)) (yc := (⟨"com/example/duna/duna/resolution/Region", "add", "(II)Z"⟩ : MethodName)) (a := b200) (R214.exa) (wd hw 56 rfl) (wd hw 57 rfl) (nfS (wd hw 59 rfl) rfl) (wd hw 59 rfl) (wd hw 58 rfl) (wd hw 3 rfl) (wd hw 60 rfl) (by decide) (m_radd l Z a0 hw b200 v194 i5 ms215 (1 : Int32) 0 h219 n0 Z213 R214 (by omega) (by first | omega | (simp only [List.length_set]; omega)) (by omega)) rfl (by decide) (W := 0) rfl (by decide) (c' := 7) (s' := 114) rfl rfl (by decide) (by decide) at_133 (n := 136) rfl pd5 rfl rfl ?_
        rintro _ h226 ⟨⟨r224, rfl⟩, Z220, sz222, hs223, R221⟩
        refine G.pop C at_136 rfl (n := 137) rfl ?_
        refine G.iload C at_137 rfl (n := 139) rfl ?_
        refine G.if_eq C (A := 1) (by decide) at_139 (by decide) (by decide) (n := 142) (n' := 152) rfl (fun c139_227 c139_227i => ?_) (fun c139_227 c139_227i => ?_)
        · exact absurd c139_227 (by decide)
        refine G.aload C at_142 rfl rfl (n := 144) rfl ?_
        refine G.iload C at_144 rfl (n := 146) rfl ?_
        refine G.iload C at_146 rfl (n := 148) rfl ?_
        refine G.callV C (argsL := [(.int v195), (.int i5)]) (yr := (⟨"com/example/duna/duna/resolution/Region", "add", "(II)Z"⟩ : MethodName)) (yc := (⟨"com/example/duna/duna/resolution/Region", "add", "(II)Z"⟩ : MethodName)) (a := b200) (R221.exa) (wd hw 56 rfl) (wd hw 57 rfl) (nfS (wd hw 59 rfl) rfl) (wd hw 59 rfl) (wd hw 58 rfl) (wd hw 3 rfl) (wd hw 60 rfl) (by decide) (m_radd l Z a0 hw b200 v195 i5 (ms215.set v194.toInt.toNat (1 : Int32)) (1 : Int32) sz222 h226 n0 Z220 R221 (by omega) (by first | omega | (simp only [List.length_set]; omega)) (by omega)) rfl (by decide) (W := 0) rfl (by decide) (c' := 7) (s' := 114) rfl rfl (by decide) (by decide) at_148 (n := 151) rfl pd5 rfl rfl ?_
        rintro _ h234 ⟨⟨r232, rfl⟩, Z228, sz230, hs231, R229⟩
        refine G.pop C at_151 rfl (n := 152) rfl ?_
        refine G.iload C at_152 rfl (n := 154) rfl ?_
        refine G.if_eq C (A := 0) (by decide) at_154 (by decide) (by decide) (n := 157) (n' := 201) rfl (fun c154_235 c154_235i => ?_) (fun c154_235 c154_235i => ?_)
        rotate_left
        · exact absurd c154_235 (by decide)
        refine G.iload C at_201 rfl (n := 203) rfl ?_
        refine G.iload C at_203 rfl (n := 205) rfl ?_
        suffices key239 : ∀ (z239_s0 : Int32), (((v198 = v194) ∧ (v198.toInt = v194.toInt) ∧ (z239_s0 = (1 : Int32))) ∨ ((v198 ≠ v194) ∧ (v198.toInt ≠ v194.toInt) ∧ (v198 ≠ v195) ∧ (v198.toInt ≠ v195.toInt) ∧ (z239_s0 = (0 : Int32))) ∨ ((v198 ≠ v194) ∧ (v198.toInt ≠ v194.toInt) ∧ (v198 = v195) ∧ (v198.toInt = v195.toInt) ∧ (z239_s0 = (1 : Int32)))) → Go p l e room_1 s m args below meth c n0 (Q_law Z h0 n0 i0 i1 i2 i3 i4 i5) 7 114 h234 (mkF m 225 #[.val (.int i0), .val (.int i1), .val (.int i2), .val (.int i3), .val (.int i4), .val (.int i5), .val (.int v1), .val (.int v2), .val (.int (1 : Int32)), .val (.int (0 : Int32)), .val (.int (0 : Int32)), .val (.int v194), .val (.int v195), .val (.int v196), .val (.int v1), .val (.int v198), .val (.ref b200), .unset] [(.int z239_s0)]) by
          refine G.icmp_eq C (A := v198.toInt) (B := v194.toInt) rfl rfl at_205 (by decide) (by decide) (n := 208) (n' := 220) rfl (fun c205_236 c205_236i => ?_) (fun c205_236 c205_236i => ?_)
          · refine G.iconst C (v := (1 : Int32)) at_220 (by decide) (n := 221) rfl ?_
            refine G.goto C at_221 (by decide) (n := 225) (by decide) ?_
            exact key239 _ (Or.inl ⟨c205_236, c205_236i, rfl⟩) 
          · refine G.iload C at_208 rfl (n := 210) rfl ?_
            refine G.if_eq C (A := 1) (by decide) at_210 (by decide) (by decide) (n := 213) (n' := 224) rfl (fun c210_237 c210_237i => ?_) (fun c210_237 c210_237i => ?_)
            · exact absurd c210_237 (by decide)
            refine G.iload C at_213 rfl (n := 215) rfl ?_
            refine G.iload C at_215 rfl (n := 217) rfl ?_
            refine G.icmp_ne C (A := v198.toInt) (B := v195.toInt) rfl rfl at_217 (by decide) (by decide) (n := 220) (n' := 224) rfl (fun c217_238 c217_238i => ?_) (fun c217_238 c217_238i => ?_)
            · refine G.iconst C (v := (0 : Int32)) at_224 (by decide) (n := 225) rfl ?_
              exact key239 _ (Or.inr (Or.inl ⟨c205_236, c205_236i, c217_238, c217_238i, rfl⟩)) 
            · refine G.iconst C (v := (1 : Int32)) at_220 (by decide) (n := 221) rfl ?_
              refine G.goto C at_221 (by decide) (n := 225) (by decide) ?_
              exact key239 _ (Or.inr (Or.inr (⟨c205_236, c205_236i, c217_238, c217_238i, rfl⟩))) 
        intro z239_s0 j239 
        refine G.istore C at_225 (l' := #[.val (.int i0), .val (.int i1), .val (.int i2), .val (.int i3), .val (.int i4), .val (.int i5), .val (.int v1), .val (.int v2), .val (.int (1 : Int32)), .val (.int (0 : Int32)), .val (.int (0 : Int32)), .val (.int v194), .val (.int v195), .val (.int v196), .val (.int v1), .val (.int v198), .val (.ref b200), .val (.int z239_s0)]) rfl (n := 227) rfl ?_
        refine G.aload C at_227 rfl rfl (n := 229) rfl ?_
        refine G.iload C at_229 rfl (n := 231) rfl ?_
        refine G.callV C (argsL := [(.int v198)]) (yr := (⟨"com/example/duna/duna/resolution/Region", "contains", "(I)Z"⟩ : MethodName)) (yc := (⟨"com/example/duna/duna/resolution/Region", "contains", "(I)Z"⟩ : MethodName)) (a := b200) (R229.exa) (wd hw 66 rfl) (wd hw 67 rfl) (nfS (wd hw 69 rfl) rfl) (wd hw 69 rfl) (wd hw 68 rfl) (wd hw 3 rfl) (wd hw 70 rfl) (by decide) (m_contains l Z a0 hw b200 v198 ((ms215.set v194.toInt.toNat (1 : Int32)).set v195.toInt.toNat (1 : Int32)) (1 : Int32) sz230 h234 n0 Z228 R229 (by omega) (by first | omega | (simp only [List.length_set]; omega))) rfl (by decide) (W := 0) rfl (by decide) (c' := 7) (s' := 114) rfl rfl (by decide) (by decide) at_231 (n := 234) rfl pd6 rfl rfl ?_
        rintro _ _ ⟨rfl, rfl⟩
        refine G.iload C at_234 rfl (n := 236) rfl ?_
        refine G.icmp_ne C (A := (b2i (decide (((ms215.set v194.toInt.toNat (1 : Int32)).set v195.toInt.toNat (1 : Int32)).getD v198.toInt.toNat 0 = (1 : Int32)))).toInt) (B := z239_s0.toInt) rfl rfl at_236 (by decide) (by decide) (n := 239) (n' := 243) rfl (fun c236_242 c236_242i => ?_) (fun c236_242 c236_242i => ?_)
        · exact absurd (finAB he217 q11.1 (by omega) q12.1 (by omega) q15.1 j239) c236_242
        refine G.iconst C (v := (1 : Int32)) at_239 (by decide) (n := 240) rfl ?_
        refine G.goto C at_240 (by decide) (n := 244) (by decide) ?_
        refine G.ireturn C at_244 (rfl) (by simp) (by decide) (by decide) ?_
        exact rfl
      · refine G.iconst C (v := (1 : Int32)) at_54 (by decide) (n := 55) rfl ?_
        refine G.goto C at_55 (by decide) (n := 59) (by decide) ?_
        refine G.istore C at_59 (l' := #[.val (.int i0), .val (.int i1), .val (.int i2), .val (.int i3), .val (.int i4), .val (.int i5), .val (.int v1), .val (.int v2), .val (.int (1 : Int32)), .val (.int (0 : Int32)), .val (.int (1 : Int32)), .unset, .unset, .unset, .unset, .unset, .unset, .unset]) rfl (n := 61) rfl ?_
        have qc := caps hv1 hv2
        refine G.iloadN C at_61 rfl (n := 62) rfl ?_
        refine G.ldc C (v := (2147483647 : Int32)) (wd hw 0 rfl) at_62 (n := 64) rfl ?_
        refine G.iand C at_64 (n := 65) rfl ?_
        refine G.iload C at_65 rfl (n := 67) rfl ?_
        refine G.irem C at_67 (nz_pos (by omega)) (n := 68) rfl ?_
        refine G.istoreZ C at_68 (l' := fun z => #[.val (.int i0), .val (.int i1), .val (.int i2), .val (.int i3), .val (.int i4), .val (.int i5), .val (.int v1), .val (.int v2), .val (.int (1 : Int32)), .val (.int (0 : Int32)), .val (.int (1 : Int32)), .val (.int z), .unset, .unset, .unset, .unset, .unset, .unset]) (fun _ => rfl) (n := 70) rfl ?_
        intro v243 hv243
        have q11 : 0 ≤ v243.toInt ∧ v243.toInt < v1.toInt := by rw [hv243]; exact rem_v (by omega)
        refine G.iloadN C at_70 rfl (n := 71) rfl ?_
        refine G.ldc C (v := (2147483647 : Int32)) (wd hw 0 rfl) at_71 (n := 73) rfl ?_
        refine G.iand C at_73 (n := 74) rfl ?_
        refine G.iload C at_74 rfl (n := 76) rfl ?_
        refine G.irem C at_76 (nz_pos (by omega)) (n := 77) rfl ?_
        refine G.istoreZ C at_77 (l' := fun z => #[.val (.int i0), .val (.int i1), .val (.int i2), .val (.int i3), .val (.int i4), .val (.int i5), .val (.int v1), .val (.int v2), .val (.int (1 : Int32)), .val (.int (0 : Int32)), .val (.int (1 : Int32)), .val (.int v243), .val (.int z), .unset, .unset, .unset, .unset, .unset]) (fun _ => rfl) (n := 79) rfl ?_
        intro v244 hv244
        have q12 : 0 ≤ v244.toInt ∧ v244.toInt < v1.toInt := by rw [hv244]; exact rem_v (by omega)
        refine G.iloadN C at_79 rfl (n := 80) rfl ?_
        refine G.ldc C (v := (2147483647 : Int32)) (wd hw 0 rfl) at_80 (n := 82) rfl ?_
        refine G.iand C at_82 (n := 83) rfl ?_
        refine G.iload C at_83 rfl (n := 85) rfl ?_
        refine G.irem C at_85 (nz_pos (by omega)) (n := 86) rfl ?_
        refine G.istoreZ C at_86 (l' := fun z => #[.val (.int i0), .val (.int i1), .val (.int i2), .val (.int i3), .val (.int i4), .val (.int i5), .val (.int v1), .val (.int v2), .val (.int (1 : Int32)), .val (.int (0 : Int32)), .val (.int (1 : Int32)), .val (.int v243), .val (.int v244), .val (.int z), .unset, .unset, .unset, .unset]) (fun _ => rfl) (n := 88) rfl ?_
        intro v245 hv245
        have q13 : 0 ≤ v245.toInt ∧ v245.toInt < v2.toInt := by rw [hv245]; exact rem_v (by omega)
        refine G.iload C at_88 rfl (n := 90) rfl ?_
        refine G.if_eq C (A := 0) (by decide) at_90 (by decide) (by decide) (n := 93) (n' := 98) rfl (fun c90_246 c90_246i => ?_) (fun c90_246 c90_246i => ?_)
        rotate_left
        · exact absurd c90_246 (by decide)
        refine G.iload C at_98 rfl (n := 100) rfl ?_
        refine G.istore C at_100 (l' := #[.val (.int i0), .val (.int i1), .val (.int i2), .val (.int i3), .val (.int i4), .val (.int i5), .val (.int v1), .val (.int v2), .val (.int (1 : Int32)), .val (.int (0 : Int32)), .val (.int (1 : Int32)), .val (.int v243), .val (.int v244), .val (.int v245), .val (.int v1), .unset, .unset, .unset]) rfl (n := 102) rfl ?_
        refine G.iloadN C at_102 rfl (n := 103) rfl ?_
        refine G.ldc C (v := (2147483647 : Int32)) (wd hw 0 rfl) at_103 (n := 105) rfl ?_
        refine G.iand C at_105 (n := 106) rfl ?_
        refine G.iload C at_106 rfl (n := 108) rfl ?_
        refine G.irem C at_108 (nz_pos (by omega)) (n := 109) rfl ?_
        refine G.istoreZ C at_109 (l' := fun z => #[.val (.int i0), .val (.int i1), .val (.int i2), .val (.int i3), .val (.int i4), .val (.int i5), .val (.int v1), .val (.int v2), .val (.int (1 : Int32)), .val (.int (0 : Int32)), .val (.int (1 : Int32)), .val (.int v243), .val (.int v244), .val (.int v245), .val (.int v1), .val (.int z), .unset, .unset]) (fun _ => rfl) (n := 111) rfl ?_
        intro v247 hv247
        have q15 : 0 ≤ v247.toInt ∧ v247.toInt < v1.toInt := by rw [hv247]; exact rem_v (by omega)
        refine G.new C (wd hw 1 rfl) (wd hw 2 rfl) (wd hw 3 rfl) at_111 (n := 114) rfl (c' := 1) (s' := 4) rfl rfl (by decide) (by decide) ?_
        intro h248 b249 q250 E251 A252 D253
        have g254 : n0 ≤ b249 := Nat.le_trans Z0 (Nat.le_of_eq q250.symm)
        have O255 := Ob_Rg.new hw A252 D253
        have K256 := kext E251
        have Z257 : n0 ≤ h248.size := Nat.le_trans Z0 K256.1
        refine G.dup C at_114 rfl (n := 115) rfl ?_
        refine G.callC C (argsL := []) (yc := (⟨"com/example/duna/duna/resolution/Region", "<init>", "()V"⟩ : MethodName)) (a := b249) rfl (wd hw 4 rfl) (wd hw 5 rfl) (wd hw 3 rfl) (wd hw 6 rfl) (by decide) (m_rinit l Z a0 hw b249 h248 n0 Z257 O255 g254) rfl (by decide) (W := 1) rfl (by decide) (c' := 5) (s' := 22) rfl rfl (by decide) (by decide) at_115 (n := 118) rfl pd1 rfl rfl ?_
        rintro _ h261 ⟨rfl, Z258, R259⟩
        refine G.astore C at_118 rfl (l' := #[.val (.int i0), .val (.int i1), .val (.int i2), .val (.int i3), .val (.int i4), .val (.int i5), .val (.int v1), .val (.int v2), .val (.int (1 : Int32)), .val (.int (0 : Int32)), .val (.int (1 : Int32)), .val (.int v243), .val (.int v244), .val (.int v245), .val (.int v1), .val (.int v247), .val (.ref b249), .unset]) rfl (n := 120) rfl ?_
        refine G.aload C at_120 rfl rfl (n := 122) rfl ?_
        refine G.iload C at_122 rfl (n := 124) rfl ?_
        refine G.callV C (argsL := [(.int v1)]) (yr := (⟨"com/example/duna/duna/resolution/Region", "clear", "(I)V"⟩ : MethodName)) (yc := (⟨"com/example/duna/duna/resolution/Region", "clear", "(I)V"⟩ : MethodName)) (a := b249) (R259.exa) (wd hw 27 rfl) (wd hw 28 rfl) (nfS (wd hw 30 rfl) rfl) (wd hw 30 rfl) (wd hw 29 rfl) (wd hw 3 rfl) (wd hw 31 rfl) (by decide) (m_clear l Z a0 hw b249 v1 [] (0 : Int32) (1 : Int32) 0 h261 n0 Z258 R259 (by omega) (by omega) (by decide)) rfl (by decide) (W := 0) rfl (by decide) (c' := 7) (s' := 114) rfl rfl (by decide) (by decide) at_124 (n := 127) rfl pd4 rfl rfl ?_
        rintro _ h268 ⟨rfl, Z262, ms264, R263, hl265, he266⟩
        refine G.aload C at_127 rfl rfl (n := 129) rfl ?_
        refine G.iload C at_129 rfl (n := 131) rfl ?_
        refine G.iload C at_131 rfl (n := 133) rfl ?_
        refine G.callV C (argsL := [(.int v243), (.int i5)]) (yr := (⟨"com/example/duna/duna/resolution/Region", "add", "(II)Z"⟩ : MethodName)) (yc := (⟨"com/example/duna/duna/resolution/Region", "add", "(II)Z"⟩ : MethodName)) (a := b249) (R263.exa) (wd hw 56 rfl) (wd hw 57 rfl) (nfS (wd hw 59 rfl) rfl) (wd hw 59 rfl) (wd hw 58 rfl) (wd hw 3 rfl) (wd hw 60 rfl) (by decide) (m_radd l Z a0 hw b249 v243 i5 ms264 (1 : Int32) 0 h268 n0 Z262 R263 (by omega) (by first | omega | (simp only [List.length_set]; omega)) (by omega)) rfl (by decide) (W := 0) rfl (by decide) (c' := 7) (s' := 114) rfl rfl (by decide) (by decide) at_133 (n := 136) rfl pd5 rfl rfl ?_
        rintro _ h275 ⟨⟨r273, rfl⟩, Z269, sz271, hs272, R270⟩
        refine G.pop C at_136 rfl (n := 137) rfl ?_
        refine G.iload C at_137 rfl (n := 139) rfl ?_
        refine G.if_eq C (A := 1) (by decide) at_139 (by decide) (by decide) (n := 142) (n' := 152) rfl (fun c139_276 c139_276i => ?_) (fun c139_276 c139_276i => ?_)
        · exact absurd c139_276 (by decide)
        refine G.aload C at_142 rfl rfl (n := 144) rfl ?_
        refine G.iload C at_144 rfl (n := 146) rfl ?_
        refine G.iload C at_146 rfl (n := 148) rfl ?_
        refine G.callV C (argsL := [(.int v244), (.int i5)]) (yr := (⟨"com/example/duna/duna/resolution/Region", "add", "(II)Z"⟩ : MethodName)) (yc := (⟨"com/example/duna/duna/resolution/Region", "add", "(II)Z"⟩ : MethodName)) (a := b249) (R270.exa) (wd hw 56 rfl) (wd hw 57 rfl) (nfS (wd hw 59 rfl) rfl) (wd hw 59 rfl) (wd hw 58 rfl) (wd hw 3 rfl) (wd hw 60 rfl) (by decide) (m_radd l Z a0 hw b249 v244 i5 (ms264.set v243.toInt.toNat (1 : Int32)) (1 : Int32) sz271 h275 n0 Z269 R270 (by omega) (by first | omega | (simp only [List.length_set]; omega)) (by omega)) rfl (by decide) (W := 0) rfl (by decide) (c' := 7) (s' := 114) rfl rfl (by decide) (by decide) at_148 (n := 151) rfl pd5 rfl rfl ?_
        rintro _ h283 ⟨⟨r281, rfl⟩, Z277, sz279, hs280, R278⟩
        refine G.pop C at_151 rfl (n := 152) rfl ?_
        refine G.iload C at_152 rfl (n := 154) rfl ?_
        refine G.if_eq C (A := 0) (by decide) at_154 (by decide) (by decide) (n := 157) (n' := 201) rfl (fun c154_284 c154_284i => ?_) (fun c154_284 c154_284i => ?_)
        rotate_left
        · exact absurd c154_284 (by decide)
        refine G.iload C at_201 rfl (n := 203) rfl ?_
        refine G.iload C at_203 rfl (n := 205) rfl ?_
        suffices key288 : ∀ (z288_s0 : Int32), (((v247 = v243) ∧ (v247.toInt = v243.toInt) ∧ (z288_s0 = (1 : Int32))) ∨ ((v247 ≠ v243) ∧ (v247.toInt ≠ v243.toInt) ∧ (v247 ≠ v244) ∧ (v247.toInt ≠ v244.toInt) ∧ (z288_s0 = (0 : Int32))) ∨ ((v247 ≠ v243) ∧ (v247.toInt ≠ v243.toInt) ∧ (v247 = v244) ∧ (v247.toInt = v244.toInt) ∧ (z288_s0 = (1 : Int32)))) → Go p l e room_1 s m args below meth c n0 (Q_law Z h0 n0 i0 i1 i2 i3 i4 i5) 7 114 h283 (mkF m 225 #[.val (.int i0), .val (.int i1), .val (.int i2), .val (.int i3), .val (.int i4), .val (.int i5), .val (.int v1), .val (.int v2), .val (.int (1 : Int32)), .val (.int (0 : Int32)), .val (.int (1 : Int32)), .val (.int v243), .val (.int v244), .val (.int v245), .val (.int v1), .val (.int v247), .val (.ref b249), .unset] [(.int z288_s0)]) by
          refine G.icmp_eq C (A := v247.toInt) (B := v243.toInt) rfl rfl at_205 (by decide) (by decide) (n := 208) (n' := 220) rfl (fun c205_285 c205_285i => ?_) (fun c205_285 c205_285i => ?_)
          · refine G.iconst C (v := (1 : Int32)) at_220 (by decide) (n := 221) rfl ?_
            refine G.goto C at_221 (by decide) (n := 225) (by decide) ?_
            exact key288 _ (Or.inl ⟨c205_285, c205_285i, rfl⟩) 
          · refine G.iload C at_208 rfl (n := 210) rfl ?_
            refine G.if_eq C (A := 1) (by decide) at_210 (by decide) (by decide) (n := 213) (n' := 224) rfl (fun c210_286 c210_286i => ?_) (fun c210_286 c210_286i => ?_)
            · exact absurd c210_286 (by decide)
            refine G.iload C at_213 rfl (n := 215) rfl ?_
            refine G.iload C at_215 rfl (n := 217) rfl ?_
            refine G.icmp_ne C (A := v247.toInt) (B := v244.toInt) rfl rfl at_217 (by decide) (by decide) (n := 220) (n' := 224) rfl (fun c217_287 c217_287i => ?_) (fun c217_287 c217_287i => ?_)
            · refine G.iconst C (v := (0 : Int32)) at_224 (by decide) (n := 225) rfl ?_
              exact key288 _ (Or.inr (Or.inl ⟨c205_285, c205_285i, c217_287, c217_287i, rfl⟩)) 
            · refine G.iconst C (v := (1 : Int32)) at_220 (by decide) (n := 221) rfl ?_
              refine G.goto C at_221 (by decide) (n := 225) (by decide) ?_
              exact key288 _ (Or.inr (Or.inr (⟨c205_285, c205_285i, c217_287, c217_287i, rfl⟩))) 
        intro z288_s0 j288 
        refine G.istore C at_225 (l' := #[.val (.int i0), .val (.int i1), .val (.int i2), .val (.int i3), .val (.int i4), .val (.int i5), .val (.int v1), .val (.int v2), .val (.int (1 : Int32)), .val (.int (0 : Int32)), .val (.int (1 : Int32)), .val (.int v243), .val (.int v244), .val (.int v245), .val (.int v1), .val (.int v247), .val (.ref b249), .val (.int z288_s0)]) rfl (n := 227) rfl ?_
        refine G.aload C at_227 rfl rfl (n := 229) rfl ?_
        refine G.iload C at_229 rfl (n := 231) rfl ?_
        refine G.callV C (argsL := [(.int v247)]) (yr := (⟨"com/example/duna/duna/resolution/Region", "contains", "(I)Z"⟩ : MethodName)) (yc := (⟨"com/example/duna/duna/resolution/Region", "contains", "(I)Z"⟩ : MethodName)) (a := b249) (R278.exa) (wd hw 66 rfl) (wd hw 67 rfl) (nfS (wd hw 69 rfl) rfl) (wd hw 69 rfl) (wd hw 68 rfl) (wd hw 3 rfl) (wd hw 70 rfl) (by decide) (m_contains l Z a0 hw b249 v247 ((ms264.set v243.toInt.toNat (1 : Int32)).set v244.toInt.toNat (1 : Int32)) (1 : Int32) sz279 h283 n0 Z277 R278 (by omega) (by first | omega | (simp only [List.length_set]; omega))) rfl (by decide) (W := 0) rfl (by decide) (c' := 7) (s' := 114) rfl rfl (by decide) (by decide) at_231 (n := 234) rfl pd6 rfl rfl ?_
        rintro _ _ ⟨rfl, rfl⟩
        refine G.iload C at_234 rfl (n := 236) rfl ?_
        refine G.icmp_ne C (A := (b2i (decide (((ms264.set v243.toInt.toNat (1 : Int32)).set v244.toInt.toNat (1 : Int32)).getD v247.toInt.toNat 0 = (1 : Int32)))).toInt) (B := z288_s0.toInt) rfl rfl at_236 (by decide) (by decide) (n := 239) (n' := 243) rfl (fun c236_291 c236_291i => ?_) (fun c236_291 c236_291i => ?_)
        · exact absurd (finAB he266 q11.1 (by omega) q12.1 (by omega) q15.1 j288) c236_291
        refine G.iconst C (v := (1 : Int32)) at_239 (by decide) (n := 240) rfl ?_
        refine G.goto C at_240 (by decide) (n := 244) (by decide) ?_
        refine G.ireturn C at_244 (rfl) (by simp) (by decide) (by decide) ?_
        exact rfl
    · refine G.iconst C (v := (1 : Int32)) at_40 (by decide) (n := 41) rfl ?_
      refine G.goto C at_41 (by decide) (n := 45) (by decide) ?_
      refine G.istore C at_45 (l' := #[.val (.int i0), .val (.int i1), .val (.int i2), .val (.int i3), .val (.int i4), .val (.int i5), .val (.int v1), .val (.int v2), .val (.int (1 : Int32)), .val (.int (1 : Int32)), .unset, .unset, .unset, .unset, .unset, .unset, .unset, .unset]) rfl (n := 47) rfl ?_
      refine G.iload C at_47 rfl (n := 49) rfl ?_
      refine G.iconst C (v := (4 : Int32)) at_49 (by decide) (n := 50) rfl ?_
      refine G.iand C at_50 (n := 51) rfl ?_
      refine G.if_eq C (A := (i4 &&& (4 : Int32)).toInt) rfl at_51 (by decide) (by decide) (n := 54) (n' := 58) rfl (fun c51_292 c51_292i => ?_) (fun c51_292 c51_292i => ?_)
      · refine G.iconst C (v := (0 : Int32)) at_58 (by decide) (n := 59) rfl ?_
        refine G.istore C at_59 (l' := #[.val (.int i0), .val (.int i1), .val (.int i2), .val (.int i3), .val (.int i4), .val (.int i5), .val (.int v1), .val (.int v2), .val (.int (1 : Int32)), .val (.int (1 : Int32)), .val (.int (0 : Int32)), .unset, .unset, .unset, .unset, .unset, .unset, .unset]) rfl (n := 61) rfl ?_
        have qc := caps hv1 hv2
        refine G.iloadN C at_61 rfl (n := 62) rfl ?_
        refine G.ldc C (v := (2147483647 : Int32)) (wd hw 0 rfl) at_62 (n := 64) rfl ?_
        refine G.iand C at_64 (n := 65) rfl ?_
        refine G.iload C at_65 rfl (n := 67) rfl ?_
        refine G.irem C at_67 (nz_pos (by omega)) (n := 68) rfl ?_
        refine G.istoreZ C at_68 (l' := fun z => #[.val (.int i0), .val (.int i1), .val (.int i2), .val (.int i3), .val (.int i4), .val (.int i5), .val (.int v1), .val (.int v2), .val (.int (1 : Int32)), .val (.int (1 : Int32)), .val (.int (0 : Int32)), .val (.int z), .unset, .unset, .unset, .unset, .unset, .unset]) (fun _ => rfl) (n := 70) rfl ?_
        intro v293 hv293
        have q11 : 0 ≤ v293.toInt ∧ v293.toInt < v1.toInt := by rw [hv293]; exact rem_v (by omega)
        refine G.iloadN C at_70 rfl (n := 71) rfl ?_
        refine G.ldc C (v := (2147483647 : Int32)) (wd hw 0 rfl) at_71 (n := 73) rfl ?_
        refine G.iand C at_73 (n := 74) rfl ?_
        refine G.iload C at_74 rfl (n := 76) rfl ?_
        refine G.irem C at_76 (nz_pos (by omega)) (n := 77) rfl ?_
        refine G.istoreZ C at_77 (l' := fun z => #[.val (.int i0), .val (.int i1), .val (.int i2), .val (.int i3), .val (.int i4), .val (.int i5), .val (.int v1), .val (.int v2), .val (.int (1 : Int32)), .val (.int (1 : Int32)), .val (.int (0 : Int32)), .val (.int v293), .val (.int z), .unset, .unset, .unset, .unset, .unset]) (fun _ => rfl) (n := 79) rfl ?_
        intro v294 hv294
        have q12 : 0 ≤ v294.toInt ∧ v294.toInt < v1.toInt := by rw [hv294]; exact rem_v (by omega)
        refine G.iloadN C at_79 rfl (n := 80) rfl ?_
        refine G.ldc C (v := (2147483647 : Int32)) (wd hw 0 rfl) at_80 (n := 82) rfl ?_
        refine G.iand C at_82 (n := 83) rfl ?_
        refine G.iload C at_83 rfl (n := 85) rfl ?_
        refine G.irem C at_85 (nz_pos (by omega)) (n := 86) rfl ?_
        refine G.istoreZ C at_86 (l' := fun z => #[.val (.int i0), .val (.int i1), .val (.int i2), .val (.int i3), .val (.int i4), .val (.int i5), .val (.int v1), .val (.int v2), .val (.int (1 : Int32)), .val (.int (1 : Int32)), .val (.int (0 : Int32)), .val (.int v293), .val (.int v294), .val (.int z), .unset, .unset, .unset, .unset]) (fun _ => rfl) (n := 88) rfl ?_
        intro v295 hv295
        have q13 : 0 ≤ v295.toInt ∧ v295.toInt < v2.toInt := by rw [hv295]; exact rem_v (by omega)
        refine G.iload C at_88 rfl (n := 90) rfl ?_
        refine G.if_eq C (A := 1) (by decide) at_90 (by decide) (by decide) (n := 93) (n' := 98) rfl (fun c90_296 c90_296i => ?_) (fun c90_296 c90_296i => ?_)
        · exact absurd c90_296 (by decide)
        refine G.iload C at_93 rfl (n := 95) rfl ?_
        refine G.goto C at_95 (by decide) (n := 100) (by decide) ?_
        refine G.istore C at_100 (l' := #[.val (.int i0), .val (.int i1), .val (.int i2), .val (.int i3), .val (.int i4), .val (.int i5), .val (.int v1), .val (.int v2), .val (.int (1 : Int32)), .val (.int (1 : Int32)), .val (.int (0 : Int32)), .val (.int v293), .val (.int v294), .val (.int v295), .val (.int v2), .unset, .unset, .unset]) rfl (n := 102) rfl ?_
        refine G.iloadN C at_102 rfl (n := 103) rfl ?_
        refine G.ldc C (v := (2147483647 : Int32)) (wd hw 0 rfl) at_103 (n := 105) rfl ?_
        refine G.iand C at_105 (n := 106) rfl ?_
        refine G.iload C at_106 rfl (n := 108) rfl ?_
        refine G.irem C at_108 (nz_pos (by omega)) (n := 109) rfl ?_
        refine G.istoreZ C at_109 (l' := fun z => #[.val (.int i0), .val (.int i1), .val (.int i2), .val (.int i3), .val (.int i4), .val (.int i5), .val (.int v1), .val (.int v2), .val (.int (1 : Int32)), .val (.int (1 : Int32)), .val (.int (0 : Int32)), .val (.int v293), .val (.int v294), .val (.int v295), .val (.int v2), .val (.int z), .unset, .unset]) (fun _ => rfl) (n := 111) rfl ?_
        intro v297 hv297
        have q15 : 0 ≤ v297.toInt ∧ v297.toInt < v2.toInt := by rw [hv297]; exact rem_v (by omega)
        refine G.new C (wd hw 1 rfl) (wd hw 2 rfl) (wd hw 3 rfl) at_111 (n := 114) rfl (c' := 1) (s' := 4) rfl rfl (by decide) (by decide) ?_
        intro h298 b299 q300 E301 A302 D303
        have g304 : n0 ≤ b299 := Nat.le_trans Z0 (Nat.le_of_eq q300.symm)
        have O305 := Ob_Rg.new hw A302 D303
        have K306 := kext E301
        have Z307 : n0 ≤ h298.size := Nat.le_trans Z0 K306.1
        refine G.dup C at_114 rfl (n := 115) rfl ?_
        refine G.callC C (argsL := []) (yc := (⟨"com/example/duna/duna/resolution/Region", "<init>", "()V"⟩ : MethodName)) (a := b299) rfl (wd hw 4 rfl) (wd hw 5 rfl) (wd hw 3 rfl) (wd hw 6 rfl) (by decide) (m_rinit l Z a0 hw b299 h298 n0 Z307 O305 g304) rfl (by decide) (W := 1) rfl (by decide) (c' := 5) (s' := 22) rfl rfl (by decide) (by decide) at_115 (n := 118) rfl pd1 rfl rfl ?_
        rintro _ h311 ⟨rfl, Z308, R309⟩
        refine G.astore C at_118 rfl (l' := #[.val (.int i0), .val (.int i1), .val (.int i2), .val (.int i3), .val (.int i4), .val (.int i5), .val (.int v1), .val (.int v2), .val (.int (1 : Int32)), .val (.int (1 : Int32)), .val (.int (0 : Int32)), .val (.int v293), .val (.int v294), .val (.int v295), .val (.int v2), .val (.int v297), .val (.ref b299), .unset]) rfl (n := 120) rfl ?_
        refine G.aload C at_120 rfl rfl (n := 122) rfl ?_
        refine G.iload C at_122 rfl (n := 124) rfl ?_
        refine G.callV C (argsL := [(.int v1)]) (yr := (⟨"com/example/duna/duna/resolution/Region", "clear", "(I)V"⟩ : MethodName)) (yc := (⟨"com/example/duna/duna/resolution/Region", "clear", "(I)V"⟩ : MethodName)) (a := b299) (R309.exa) (wd hw 27 rfl) (wd hw 28 rfl) (nfS (wd hw 30 rfl) rfl) (wd hw 30 rfl) (wd hw 29 rfl) (wd hw 3 rfl) (wd hw 31 rfl) (by decide) (m_clear l Z a0 hw b299 v1 [] (0 : Int32) (1 : Int32) 0 h311 n0 Z308 R309 (by omega) (by omega) (by decide)) rfl (by decide) (W := 0) rfl (by decide) (c' := 7) (s' := 114) rfl rfl (by decide) (by decide) at_124 (n := 127) rfl pd4 rfl rfl ?_
        rintro _ h318 ⟨rfl, Z312, ms314, R313, hl315, he316⟩
        refine G.aload C at_127 rfl rfl (n := 129) rfl ?_
        refine G.iload C at_129 rfl (n := 131) rfl ?_
        refine G.iload C at_131 rfl (n := 133) rfl ?_
        refine G.callV C (argsL := [(.int v293), (.int i5)]) (yr := (⟨"com/example/duna/duna/resolution/Region", "add", "(II)Z"⟩ : MethodName)) (yc := (⟨"com/example/duna/duna/resolution/Region", "add", "(II)Z"⟩ : MethodName)) (a := b299) (R313.exa) (wd hw 56 rfl) (wd hw 57 rfl) (nfS (wd hw 59 rfl) rfl) (wd hw 59 rfl) (wd hw 58 rfl) (wd hw 3 rfl) (wd hw 60 rfl) (by decide) (m_radd l Z a0 hw b299 v293 i5 ms314 (1 : Int32) 0 h318 n0 Z312 R313 (by omega) (by first | omega | (simp only [List.length_set]; omega)) (by omega)) rfl (by decide) (W := 0) rfl (by decide) (c' := 7) (s' := 114) rfl rfl (by decide) (by decide) at_133 (n := 136) rfl pd5 rfl rfl ?_
        rintro _ h325 ⟨⟨r323, rfl⟩, Z319, sz321, hs322, R320⟩
        refine G.pop C at_136 rfl (n := 137) rfl ?_
        refine G.iload C at_137 rfl (n := 139) rfl ?_
        refine G.if_eq C (A := 1) (by decide) at_139 (by decide) (by decide) (n := 142) (n' := 152) rfl (fun c139_326 c139_326i => ?_) (fun c139_326 c139_326i => ?_)
        · exact absurd c139_326 (by decide)
        refine G.aload C at_142 rfl rfl (n := 144) rfl ?_
        refine G.iload C at_144 rfl (n := 146) rfl ?_
        refine G.iload C at_146 rfl (n := 148) rfl ?_
        refine G.callV C (argsL := [(.int v294), (.int i5)]) (yr := (⟨"com/example/duna/duna/resolution/Region", "add", "(II)Z"⟩ : MethodName)) (yc := (⟨"com/example/duna/duna/resolution/Region", "add", "(II)Z"⟩ : MethodName)) (a := b299) (R320.exa) (wd hw 56 rfl) (wd hw 57 rfl) (nfS (wd hw 59 rfl) rfl) (wd hw 59 rfl) (wd hw 58 rfl) (wd hw 3 rfl) (wd hw 60 rfl) (by decide) (m_radd l Z a0 hw b299 v294 i5 (ms314.set v293.toInt.toNat (1 : Int32)) (1 : Int32) sz321 h325 n0 Z319 R320 (by omega) (by first | omega | (simp only [List.length_set]; omega)) (by omega)) rfl (by decide) (W := 0) rfl (by decide) (c' := 7) (s' := 114) rfl rfl (by decide) (by decide) at_148 (n := 151) rfl pd5 rfl rfl ?_
        rintro _ h333 ⟨⟨r331, rfl⟩, Z327, sz329, hs330, R328⟩
        refine G.pop C at_151 rfl (n := 152) rfl ?_
        refine G.iload C at_152 rfl (n := 154) rfl ?_
        refine G.if_eq C (A := 1) (by decide) at_154 (by decide) (by decide) (n := 157) (n' := 201) rfl (fun c154_334 c154_334i => ?_) (fun c154_334 c154_334i => ?_)
        · exact absurd c154_334 (by decide)
        refine G.aload C at_157 rfl rfl (n := 159) rfl ?_
        refine G.iload C at_159 rfl (n := 161) rfl ?_
        refine G.callV C (argsL := [(.int v2)]) (yr := (⟨"com/example/duna/duna/resolution/Region", "clear", "(I)V"⟩ : MethodName)) (yc := (⟨"com/example/duna/duna/resolution/Region", "clear", "(I)V"⟩ : MethodName)) (a := b299) (R328.exa) (wd hw 27 rfl) (wd hw 28 rfl) (nfS (wd hw 30 rfl) rfl) (wd hw 30 rfl) (wd hw 29 rfl) (wd hw 3 rfl) (wd hw 31 rfl) (by decide) (m_clear l Z a0 hw b299 v2 ((ms314.set v293.toInt.toNat (1 : Int32)).set v294.toInt.toNat (1 : Int32)) (1 : Int32) (2 : Int32) sz329 h333 n0 Z327 R328 (by omega) (by omega) (by decide)) rfl (by decide) (W := 0) rfl (by decide) (c' := 9) (s' := 206) rfl rfl (by decide) (by decide) at_161 (n := 164) rfl pd4 rfl rfl ?_
        rintro _ h341 ⟨rfl, Z335, ms337, R336, hl338, he339⟩
        refine G.iload C at_164 rfl (n := 166) rfl ?_
        refine G.if_eq C (A := 0) (by decide) at_166 (by decide) (by decide) (n := 169) (n' := 179) rfl (fun c166_342 c166_342i => ?_) (fun c166_342 c166_342i => ?_)
        rotate_left
        · exact absurd c166_342 (by decide)
        refine G.iload C at_179 rfl (n := 181) rfl ?_
        refine G.if_eq C (A := 0) (by decide) at_181 (by decide) (by decide) (n := 184) (n' := 195) rfl (fun c181_343 c181_343i => ?_) (fun c181_343 c181_343i => ?_)
        rotate_left
        · exact absurd c181_343 (by decide)
        refine G.iconst C (v := (0 : Int32)) at_195 (by decide) (n := 196) rfl ?_
        refine G.istore C at_196 (l' := #[.val (.int i0), .val (.int i1), .val (.int i2), .val (.int i3), .val (.int i4), .val (.int i5), .val (.int v1), .val (.int v2), .val (.int (1 : Int32)), .val (.int (1 : Int32)), .val (.int (0 : Int32)), .val (.int v293), .val (.int v294), .val (.int v295), .val (.int v2), .val (.int v297), .val (.ref b299), .val (.int (0 : Int32))]) rfl (n := 198) rfl ?_
        refine G.goto C at_198 (by decide) (n := 227) (by decide) ?_
        refine G.aload C at_227 rfl rfl (n := 229) rfl ?_
        refine G.iload C at_229 rfl (n := 231) rfl ?_
        refine G.callV C (argsL := [(.int v297)]) (yr := (⟨"com/example/duna/duna/resolution/Region", "contains", "(I)Z"⟩ : MethodName)) (yc := (⟨"com/example/duna/duna/resolution/Region", "contains", "(I)Z"⟩ : MethodName)) (a := b299) (R336.exa) (wd hw 66 rfl) (wd hw 67 rfl) (nfS (wd hw 69 rfl) rfl) (wd hw 69 rfl) (wd hw 68 rfl) (wd hw 3 rfl) (wd hw 70 rfl) (by decide) (m_contains l Z a0 hw b299 v297 ms337 (2 : Int32) 0 h341 n0 Z335 R336 (by omega) (by first | omega | (simp only [List.length_set]; omega))) rfl (by decide) (W := 0) rfl (by decide) (c' := 9) (s' := 206) rfl rfl (by decide) (by decide) at_231 (n := 234) rfl pd6 rfl rfl ?_
        rintro _ _ ⟨rfl, rfl⟩
        refine G.iload C at_234 rfl (n := 236) rfl ?_
        refine G.icmp_ne C (A := (b2i (decide (ms337.getD v297.toInt.toNat 0 = (2 : Int32)))).toInt) (B := 0) rfl (by decide) at_236 (by decide) (by decide) (n := 239) (n' := 243) rfl (fun c236_346 c236_346i => ?_) (fun c236_346 c236_346i => ?_)
        · exact absurd (finC0 he339 (old2 he316 q11.1 (by omega) q12.1 (by omega)) _) c236_346
        refine G.iconst C (v := (1 : Int32)) at_239 (by decide) (n := 240) rfl ?_
        refine G.goto C at_240 (by decide) (n := 244) (by decide) ?_
        refine G.ireturn C at_244 (rfl) (by simp) (by decide) (by decide) ?_
        exact rfl
      · refine G.iconst C (v := (1 : Int32)) at_54 (by decide) (n := 55) rfl ?_
        refine G.goto C at_55 (by decide) (n := 59) (by decide) ?_
        refine G.istore C at_59 (l' := #[.val (.int i0), .val (.int i1), .val (.int i2), .val (.int i3), .val (.int i4), .val (.int i5), .val (.int v1), .val (.int v2), .val (.int (1 : Int32)), .val (.int (1 : Int32)), .val (.int (1 : Int32)), .unset, .unset, .unset, .unset, .unset, .unset, .unset]) rfl (n := 61) rfl ?_
        have qc := caps hv1 hv2
        refine G.iloadN C at_61 rfl (n := 62) rfl ?_
        refine G.ldc C (v := (2147483647 : Int32)) (wd hw 0 rfl) at_62 (n := 64) rfl ?_
        refine G.iand C at_64 (n := 65) rfl ?_
        refine G.iload C at_65 rfl (n := 67) rfl ?_
        refine G.irem C at_67 (nz_pos (by omega)) (n := 68) rfl ?_
        refine G.istoreZ C at_68 (l' := fun z => #[.val (.int i0), .val (.int i1), .val (.int i2), .val (.int i3), .val (.int i4), .val (.int i5), .val (.int v1), .val (.int v2), .val (.int (1 : Int32)), .val (.int (1 : Int32)), .val (.int (1 : Int32)), .val (.int z), .unset, .unset, .unset, .unset, .unset, .unset]) (fun _ => rfl) (n := 70) rfl ?_
        intro v347 hv347
        have q11 : 0 ≤ v347.toInt ∧ v347.toInt < v1.toInt := by rw [hv347]; exact rem_v (by omega)
        refine G.iloadN C at_70 rfl (n := 71) rfl ?_
        refine G.ldc C (v := (2147483647 : Int32)) (wd hw 0 rfl) at_71 (n := 73) rfl ?_
        refine G.iand C at_73 (n := 74) rfl ?_
        refine G.iload C at_74 rfl (n := 76) rfl ?_
        refine G.irem C at_76 (nz_pos (by omega)) (n := 77) rfl ?_
        refine G.istoreZ C at_77 (l' := fun z => #[.val (.int i0), .val (.int i1), .val (.int i2), .val (.int i3), .val (.int i4), .val (.int i5), .val (.int v1), .val (.int v2), .val (.int (1 : Int32)), .val (.int (1 : Int32)), .val (.int (1 : Int32)), .val (.int v347), .val (.int z), .unset, .unset, .unset, .unset, .unset]) (fun _ => rfl) (n := 79) rfl ?_
        intro v348 hv348
        have q12 : 0 ≤ v348.toInt ∧ v348.toInt < v1.toInt := by rw [hv348]; exact rem_v (by omega)
        refine G.iloadN C at_79 rfl (n := 80) rfl ?_
        refine G.ldc C (v := (2147483647 : Int32)) (wd hw 0 rfl) at_80 (n := 82) rfl ?_
        refine G.iand C at_82 (n := 83) rfl ?_
        refine G.iload C at_83 rfl (n := 85) rfl ?_
        refine G.irem C at_85 (nz_pos (by omega)) (n := 86) rfl ?_
        refine G.istoreZ C at_86 (l' := fun z => #[.val (.int i0), .val (.int i1), .val (.int i2), .val (.int i3), .val (.int i4), .val (.int i5), .val (.int v1), .val (.int v2), .val (.int (1 : Int32)), .val (.int (1 : Int32)), .val (.int (1 : Int32)), .val (.int v347), .val (.int v348), .val (.int z), .unset, .unset, .unset, .unset]) (fun _ => rfl) (n := 88) rfl ?_
        intro v349 hv349
        have q13 : 0 ≤ v349.toInt ∧ v349.toInt < v2.toInt := by rw [hv349]; exact rem_v (by omega)
        refine G.iload C at_88 rfl (n := 90) rfl ?_
        refine G.if_eq C (A := 1) (by decide) at_90 (by decide) (by decide) (n := 93) (n' := 98) rfl (fun c90_350 c90_350i => ?_) (fun c90_350 c90_350i => ?_)
        · exact absurd c90_350 (by decide)
        refine G.iload C at_93 rfl (n := 95) rfl ?_
        refine G.goto C at_95 (by decide) (n := 100) (by decide) ?_
        refine G.istore C at_100 (l' := #[.val (.int i0), .val (.int i1), .val (.int i2), .val (.int i3), .val (.int i4), .val (.int i5), .val (.int v1), .val (.int v2), .val (.int (1 : Int32)), .val (.int (1 : Int32)), .val (.int (1 : Int32)), .val (.int v347), .val (.int v348), .val (.int v349), .val (.int v2), .unset, .unset, .unset]) rfl (n := 102) rfl ?_
        refine G.iloadN C at_102 rfl (n := 103) rfl ?_
        refine G.ldc C (v := (2147483647 : Int32)) (wd hw 0 rfl) at_103 (n := 105) rfl ?_
        refine G.iand C at_105 (n := 106) rfl ?_
        refine G.iload C at_106 rfl (n := 108) rfl ?_
        refine G.irem C at_108 (nz_pos (by omega)) (n := 109) rfl ?_
        refine G.istoreZ C at_109 (l' := fun z => #[.val (.int i0), .val (.int i1), .val (.int i2), .val (.int i3), .val (.int i4), .val (.int i5), .val (.int v1), .val (.int v2), .val (.int (1 : Int32)), .val (.int (1 : Int32)), .val (.int (1 : Int32)), .val (.int v347), .val (.int v348), .val (.int v349), .val (.int v2), .val (.int z), .unset, .unset]) (fun _ => rfl) (n := 111) rfl ?_
        intro v351 hv351
        have q15 : 0 ≤ v351.toInt ∧ v351.toInt < v2.toInt := by rw [hv351]; exact rem_v (by omega)
        refine G.new C (wd hw 1 rfl) (wd hw 2 rfl) (wd hw 3 rfl) at_111 (n := 114) rfl (c' := 1) (s' := 4) rfl rfl (by decide) (by decide) ?_
        intro h352 b353 q354 E355 A356 D357
        have g358 : n0 ≤ b353 := Nat.le_trans Z0 (Nat.le_of_eq q354.symm)
        have O359 := Ob_Rg.new hw A356 D357
        have K360 := kext E355
        have Z361 : n0 ≤ h352.size := Nat.le_trans Z0 K360.1
        refine G.dup C at_114 rfl (n := 115) rfl ?_
        refine G.callC C (argsL := []) (yc := (⟨"com/example/duna/duna/resolution/Region", "<init>", "()V"⟩ : MethodName)) (a := b353) rfl (wd hw 4 rfl) (wd hw 5 rfl) (wd hw 3 rfl) (wd hw 6 rfl) (by decide) (m_rinit l Z a0 hw b353 h352 n0 Z361 O359 g358) rfl (by decide) (W := 1) rfl (by decide) (c' := 5) (s' := 22) rfl rfl (by decide) (by decide) at_115 (n := 118) rfl pd1 rfl rfl ?_
        rintro _ h365 ⟨rfl, Z362, R363⟩
        refine G.astore C at_118 rfl (l' := #[.val (.int i0), .val (.int i1), .val (.int i2), .val (.int i3), .val (.int i4), .val (.int i5), .val (.int v1), .val (.int v2), .val (.int (1 : Int32)), .val (.int (1 : Int32)), .val (.int (1 : Int32)), .val (.int v347), .val (.int v348), .val (.int v349), .val (.int v2), .val (.int v351), .val (.ref b353), .unset]) rfl (n := 120) rfl ?_
        refine G.aload C at_120 rfl rfl (n := 122) rfl ?_
        refine G.iload C at_122 rfl (n := 124) rfl ?_
        refine G.callV C (argsL := [(.int v1)]) (yr := (⟨"com/example/duna/duna/resolution/Region", "clear", "(I)V"⟩ : MethodName)) (yc := (⟨"com/example/duna/duna/resolution/Region", "clear", "(I)V"⟩ : MethodName)) (a := b353) (R363.exa) (wd hw 27 rfl) (wd hw 28 rfl) (nfS (wd hw 30 rfl) rfl) (wd hw 30 rfl) (wd hw 29 rfl) (wd hw 3 rfl) (wd hw 31 rfl) (by decide) (m_clear l Z a0 hw b353 v1 [] (0 : Int32) (1 : Int32) 0 h365 n0 Z362 R363 (by omega) (by omega) (by decide)) rfl (by decide) (W := 0) rfl (by decide) (c' := 7) (s' := 114) rfl rfl (by decide) (by decide) at_124 (n := 127) rfl pd4 rfl rfl ?_
        rintro _ h372 ⟨rfl, Z366, ms368, R367, hl369, he370⟩
        refine G.aload C at_127 rfl rfl (n := 129) rfl ?_
        refine G.iload C at_129 rfl (n := 131) rfl ?_
        refine G.iload C at_131 rfl (n := 133) rfl ?_
        refine G.callV C (argsL := [(.int v347), (.int i5)]) (yr := (⟨"com/example/duna/duna/resolution/Region", "add", "(II)Z"⟩ : MethodName)) (yc := (⟨"com/example/duna/duna/resolution/Region", "add", "(II)Z"⟩ : MethodName)) (a := b353) (R367.exa) (wd hw 56 rfl) (wd hw 57 rfl) (nfS (wd hw 59 rfl) rfl) (wd hw 59 rfl) (wd hw 58 rfl) (wd hw 3 rfl) (wd hw 60 rfl) (by decide) (m_radd l Z a0 hw b353 v347 i5 ms368 (1 : Int32) 0 h372 n0 Z366 R367 (by omega) (by first | omega | (simp only [List.length_set]; omega)) (by omega)) rfl (by decide) (W := 0) rfl (by decide) (c' := 7) (s' := 114) rfl rfl (by decide) (by decide) at_133 (n := 136) rfl pd5 rfl rfl ?_
        rintro _ h379 ⟨⟨r377, rfl⟩, Z373, sz375, hs376, R374⟩
        refine G.pop C at_136 rfl (n := 137) rfl ?_
        refine G.iload C at_137 rfl (n := 139) rfl ?_
        refine G.if_eq C (A := 1) (by decide) at_139 (by decide) (by decide) (n := 142) (n' := 152) rfl (fun c139_380 c139_380i => ?_) (fun c139_380 c139_380i => ?_)
        · exact absurd c139_380 (by decide)
        refine G.aload C at_142 rfl rfl (n := 144) rfl ?_
        refine G.iload C at_144 rfl (n := 146) rfl ?_
        refine G.iload C at_146 rfl (n := 148) rfl ?_
        refine G.callV C (argsL := [(.int v348), (.int i5)]) (yr := (⟨"com/example/duna/duna/resolution/Region", "add", "(II)Z"⟩ : MethodName)) (yc := (⟨"com/example/duna/duna/resolution/Region", "add", "(II)Z"⟩ : MethodName)) (a := b353) (R374.exa) (wd hw 56 rfl) (wd hw 57 rfl) (nfS (wd hw 59 rfl) rfl) (wd hw 59 rfl) (wd hw 58 rfl) (wd hw 3 rfl) (wd hw 60 rfl) (by decide) (m_radd l Z a0 hw b353 v348 i5 (ms368.set v347.toInt.toNat (1 : Int32)) (1 : Int32) sz375 h379 n0 Z373 R374 (by omega) (by first | omega | (simp only [List.length_set]; omega)) (by omega)) rfl (by decide) (W := 0) rfl (by decide) (c' := 7) (s' := 114) rfl rfl (by decide) (by decide) at_148 (n := 151) rfl pd5 rfl rfl ?_
        rintro _ h387 ⟨⟨r385, rfl⟩, Z381, sz383, hs384, R382⟩
        refine G.pop C at_151 rfl (n := 152) rfl ?_
        refine G.iload C at_152 rfl (n := 154) rfl ?_
        refine G.if_eq C (A := 1) (by decide) at_154 (by decide) (by decide) (n := 157) (n' := 201) rfl (fun c154_388 c154_388i => ?_) (fun c154_388 c154_388i => ?_)
        · exact absurd c154_388 (by decide)
        refine G.aload C at_157 rfl rfl (n := 159) rfl ?_
        refine G.iload C at_159 rfl (n := 161) rfl ?_
        refine G.callV C (argsL := [(.int v2)]) (yr := (⟨"com/example/duna/duna/resolution/Region", "clear", "(I)V"⟩ : MethodName)) (yc := (⟨"com/example/duna/duna/resolution/Region", "clear", "(I)V"⟩ : MethodName)) (a := b353) (R382.exa) (wd hw 27 rfl) (wd hw 28 rfl) (nfS (wd hw 30 rfl) rfl) (wd hw 30 rfl) (wd hw 29 rfl) (wd hw 3 rfl) (wd hw 31 rfl) (by decide) (m_clear l Z a0 hw b353 v2 ((ms368.set v347.toInt.toNat (1 : Int32)).set v348.toInt.toNat (1 : Int32)) (1 : Int32) (2 : Int32) sz383 h387 n0 Z381 R382 (by omega) (by omega) (by decide)) rfl (by decide) (W := 0) rfl (by decide) (c' := 9) (s' := 206) rfl rfl (by decide) (by decide) at_161 (n := 164) rfl pd4 rfl rfl ?_
        rintro _ h395 ⟨rfl, Z389, ms391, R390, hl392, he393⟩
        refine G.iload C at_164 rfl (n := 166) rfl ?_
        refine G.if_eq C (A := 1) (by decide) at_166 (by decide) (by decide) (n := 169) (n' := 179) rfl (fun c166_396 c166_396i => ?_) (fun c166_396 c166_396i => ?_)
        · exact absurd c166_396 (by decide)
        refine G.aload C at_169 rfl rfl (n := 171) rfl ?_
        refine G.iload C at_171 rfl (n := 173) rfl ?_
        refine G.iload C at_173 rfl (n := 175) rfl ?_
        refine G.callV C (argsL := [(.int v349), (.int i5)]) (yr := (⟨"com/example/duna/duna/resolution/Region", "add", "(II)Z"⟩ : MethodName)) (yc := (⟨"com/example/duna/duna/resolution/Region", "add", "(II)Z"⟩ : MethodName)) (a := b353) (R390.exa) (wd hw 56 rfl) (wd hw 57 rfl) (nfS (wd hw 59 rfl) rfl) (wd hw 59 rfl) (wd hw 58 rfl) (wd hw 3 rfl) (wd hw 60 rfl) (by decide) (m_radd l Z a0 hw b353 v349 i5 ms391 (2 : Int32) 0 h395 n0 Z389 R390 (by omega) (by first | omega | (simp only [List.length_set]; omega)) (by omega)) rfl (by decide) (W := 0) rfl (by decide) (c' := 9) (s' := 206) rfl rfl (by decide) (by decide) at_175 (n := 178) rfl pd5 rfl rfl ?_
        rintro _ h403 ⟨⟨r401, rfl⟩, Z397, sz399, hs400, R398⟩
        refine G.pop C at_178 rfl (n := 179) rfl ?_
        refine G.iload C at_179 rfl (n := 181) rfl ?_
        refine G.if_eq C (A := 1) (by decide) at_181 (by decide) (by decide) (n := 184) (n' := 195) rfl (fun c181_404 c181_404i => ?_) (fun c181_404 c181_404i => ?_)
        · exact absurd c181_404 (by decide)
        refine G.iload C at_184 rfl (n := 186) rfl ?_
        refine G.iload C at_186 rfl (n := 188) rfl ?_
        suffices key406 : ∀ (z406_s0 : Int32), (((v351 ≠ v349) ∧ (v351.toInt ≠ v349.toInt) ∧ (z406_s0 = (0 : Int32))) ∨ ((v351 = v349) ∧ (v351.toInt = v349.toInt) ∧ (z406_s0 = (1 : Int32)))) → Go p l e room_1 s m args below meth c n0 (Q_law Z h0 n0 i0 i1 i2 i3 i4 i5) 9 206 h403 (mkF m 196 #[.val (.int i0), .val (.int i1), .val (.int i2), .val (.int i3), .val (.int i4), .val (.int i5), .val (.int v1), .val (.int v2), .val (.int (1 : Int32)), .val (.int (1 : Int32)), .val (.int (1 : Int32)), .val (.int v347), .val (.int v348), .val (.int v349), .val (.int v2), .val (.int v351), .val (.ref b353), .unset] [(.int z406_s0)]) by
          refine G.icmp_ne C (A := v351.toInt) (B := v349.toInt) rfl rfl at_188 (by decide) (by decide) (n := 191) (n' := 195) rfl (fun c188_405 c188_405i => ?_) (fun c188_405 c188_405i => ?_)
          · refine G.iconst C (v := (0 : Int32)) at_195 (by decide) (n := 196) rfl ?_
            exact key406 _ (Or.inl ⟨c188_405, c188_405i, rfl⟩) 
          · refine G.iconst C (v := (1 : Int32)) at_191 (by decide) (n := 192) rfl ?_
            refine G.goto C at_192 (by decide) (n := 196) (by decide) ?_
            exact key406 _ (Or.inr (⟨c188_405, c188_405i, rfl⟩)) 
        intro z406_s0 j406 
        refine G.istore C at_196 (l' := #[.val (.int i0), .val (.int i1), .val (.int i2), .val (.int i3), .val (.int i4), .val (.int i5), .val (.int v1), .val (.int v2), .val (.int (1 : Int32)), .val (.int (1 : Int32)), .val (.int (1 : Int32)), .val (.int v347), .val (.int v348), .val (.int v349), .val (.int v2), .val (.int v351), .val (.ref b353), .val (.int z406_s0)]) rfl (n := 198) rfl ?_
        refine G.goto C at_198 (by decide) (n := 227) (by decide) ?_
        refine G.aload C at_227 rfl rfl (n := 229) rfl ?_
        refine G.iload C at_229 rfl (n := 231) rfl ?_
        refine G.callV C (argsL := [(.int v351)]) (yr := (⟨"com/example/duna/duna/resolution/Region", "contains", "(I)Z"⟩ : MethodName)) (yc := (⟨"com/example/duna/duna/resolution/Region", "contains", "(I)Z"⟩ : MethodName)) (a := b353) (R398.exa) (wd hw 66 rfl) (wd hw 67 rfl) (nfS (wd hw 69 rfl) rfl) (wd hw 69 rfl) (wd hw 68 rfl) (wd hw 3 rfl) (wd hw 70 rfl) (by decide) (m_contains l Z a0 hw b353 v351 (ms391.set v349.toInt.toNat (2 : Int32)) (2 : Int32) sz399 h403 n0 Z397 R398 (by omega) (by first | omega | (simp only [List.length_set]; omega))) rfl (by decide) (W := 0) rfl (by decide) (c' := 9) (s' := 206) rfl rfl (by decide) (by decide) at_231 (n := 234) rfl pd6 rfl rfl ?_
        rintro _ _ ⟨rfl, rfl⟩
        refine G.iload C at_234 rfl (n := 236) rfl ?_
        refine G.icmp_ne C (A := (b2i (decide ((ms391.set v349.toInt.toNat (2 : Int32)).getD v351.toInt.toNat 0 = (2 : Int32)))).toInt) (B := z406_s0.toInt) rfl rfl at_236 (by decide) (by decide) (n := 239) (n' := 243) rfl (fun c236_409 c236_409i => ?_) (fun c236_409 c236_409i => ?_)
        · exact absurd (finC1 he393 (old2 he370 q11.1 (by omega) q12.1 (by omega)) q13.1 (by omega) q15.1 j406) c236_409
        refine G.iconst C (v := (1 : Int32)) at_239 (by decide) (n := 240) rfl ?_
        refine G.goto C at_240 (by decide) (n := 244) (by decide) ?_
        refine G.ireturn C at_244 (rfl) (by simp) (by decide) (by decide) ?_
        exact rfl
set_option maxRecDepth 65536 in
set_option maxHeartbeats 40000000 in
theorem comes_1 {Post : Tables → Env → Array Value → State → Outcome → State → Prop} (hpost : ∀ tb e args s v u, (limb_1_1.after args s (.returned v) u = true ∧ limb_1_2.after args s (.returned v) u = true ∧ True) → FrameEnd s (.returned v) u (Jvm.fieldLocs frame_1_writes args s ++ Jvm.arrayLocs frame_1_arrays args s ++ Jvm.staticLocs frame_1_statics s) 32 384 → Post tb e args s (.returned v) u) :
    ArmFor flags0 classFile x code maxLocals ret World_1 tables_1 room_1 Calls_1 rest_1 Pre_1 Post := by
  intro l hfl _ _ p e ha hc hk s m args below hf hA hF happ hP
  obtain ⟨hcalls, hrest, hpre⟩ := hP
  obtain ⟨-, -, -, hnamed, -, -, -, hat⟩ := (Spec.applies_iff hf).mp happ
  obtain ⟨hg, hn⟩ := and_e (Cond.before_iff.mp (show (Jvm.Cond.and given_1 narrow_1).before args s = true from hpre))
  obtain ⟨k1, k2⟩ := and_e hg
  obtain ⟨w0, w1, w2, w3, w4, w5, rfl⟩ : ∃ w0 w1 w2 w3 w4 w5 : Value, args = #[w0, w1, w2, w3, w4, w5] := by
    have hs : args.size = 6 := by simpa [Cond.value, given_1] using k1
    obtain ⟨L⟩ := args
    match L, hs with
    | [w0, w1, w2, w3, w4, w5], _ => exact ⟨w0, w1, w2, w3, w4, w5, rfl⟩
  have hw := fun d (hd : d ∈ tables_1) => atoms_spec (ws := Jvm.Cond.code x code maxLocals ret :: tables_1) hat d (List.mem_cons_of_mem _ hd)
  have hfit : Fit s := fun {y c} hc i hi => by
    obtain ⟨ha, rfl⟩ := Array.getElem?_eq_some_iff.mp hc
    have q := List.all_eq_true.mp ((Array.all_eq_true_iff_forall_mem.mp hF) _ (Array.getElem_mem ha)) i (List.mem_range.mpr hi)
    simpa [Array.getElem?_eq_getElem hi] using q
  obtain ⟨u0, k2⟩ := and_e k2
  obtain ⟨i0, e0⟩ := is_v u0
  obtain rfl : w0 = (.int i0) := Option.some.inj e0
  obtain ⟨u1, k2⟩ := and_e k2
  obtain ⟨i1, e1⟩ := is_v u1
  obtain rfl : w1 = (.int i1) := Option.some.inj e1
  obtain ⟨u2, k2⟩ := and_e k2
  obtain ⟨i2, e2⟩ := is_v u2
  obtain rfl : w2 = (.int i2) := Option.some.inj e2
  obtain ⟨u3, k2⟩ := and_e k2
  obtain ⟨i3, e3⟩ := is_v u3
  obtain rfl : w3 = (.int i3) := Option.some.inj e3
  obtain ⟨u4, k2⟩ := and_e k2
  obtain ⟨i4, e4⟩ := is_v u4
  obtain rfl : w4 = (.int i4) := Option.some.inj e4
  have u5 := k2
  obtain ⟨i5, e5⟩ := is_v u5
  obtain rfl : w5 = (.int i5) := Option.some.inj e5
  obtain ⟨n, o, h1, h2, h3, _, L, rfl, ⟨N, rfl⟩, hq⟩ := m_law l s _ hw i0 i1 i2 i3 i4 i5 s.heap s.heap.size (Nat.le_refl _)  tables_1 p e ha hc hk s m _ below hf ((Spec.applies_iff_loose hf).mp happ).1 ⟨rfl, State.Warmed39.refl s, rfl⟩ trivial
  refine ⟨n, _, h1, h2, h3, hpost _ _ _ _ _ _ ⟨Cond.after_iff.mpr rfl, Cond.after_iff.mpr (eq_i res_at (Term.int_eval (1)) rfl), trivial⟩ ⟨hq.1, hq.2.1, (hq.2.2.sift fun y hy => Or.inr (N y hy)).mono (by decide) (by decide)⟩⟩
theorem main_1_1 : Claimed_1_1 := comes_1 fun _ _ _ _ _ _ h hF => ⟨h.1, hF⟩
theorem main_1_2 : Claimed_1_2 := comes_1 fun _ _ _ _ _ _ h hF => ⟨h.2.1, hF⟩
end Jvm.Pilot.@@N@@
namespace Jvm.Pilot.@@N@@
open Jvm Jvm.ClassFile Sem Op Lib Jvm.Free Jvm.Stand Jvm.Pilot.@@N@@.Jvm.D
/-! MADE BY PROGRAM (witnessworld.py) out of the Statement's table words and the real class files: 13 classes; the members and pool entries that the words name. The judged class is class 1, her method 1. -/
namespace start1
open Jvm.ClassFile
def u (s : String) : CpInfo := .utf8 (stringToUtf16 s)
/-- a pool by its gaps: so many unusable entries, then the entry; so many at the end -/
def gap : Nat → List CpInfo → List CpInfo
  | 0, r => r
  | n + 1, r => .unusable :: gap n r
def poolList (es : List (Nat × CpInfo)) (last : Nat) : List CpInfo := es.foldr (fun e r => gap e.1 (e.2 :: r)) (gap last [])
def pool (es : List (Nat × CpInfo)) (last : Nat) : Array CpInfo := ⟨poolList es last⟩
def fileOf (pool : Array CpInfo) (this : Nat) (attrs : Array Attribute := #[]) (ms : Array MethodInfo := #[]) (fl : Nat := 33) (sup : Nat := 0) (ifs : Array Nat := #[]) (fds : Array FieldInfo := #[]) : ClassFile where
  minorVersion := 0
  majorVersion := 65
  constantPool := pool
  accessFlags := fl
  thisClass := this
  superClass := sup
  interfaces := ifs
  fields := fds
  methods := ms
  attributes := attrs
def plain (name : String) (sup : Option ClassId) : Class where
  name := name
  kind := .ordinary
  loader := none
  accessFlags := 33
  super := sup
  interfaces := #[]
  cf := none
  fields := #[]
  methods := #[]
  instanceTypes := #[]
  staticTypes := #[]
  resolved := #[]
  callSites := []
  init := .initialized
  statics := none
  mirror := none

def pool0 : Array CpInfo := pool [(5, u "<init>"), (0, u "()V"), (1, .class_ 10), (1, u "java/lang/Object")] 113

def k0c0 : Code := { maxStack := 0, maxLocals := 1, code := object_method_1_code, exceptionTable := #[], attributes := #[] }
def k0m0 : Method := { name := "<init>", desc := "()V", sig := { parameters := [], returnType := none }, accessFlags := 1, code := some k0c0 }
/-- java/lang/Object -/
def k0 : Class := { plain "java/lang/Object" none with
  accessFlags := 33
  interfaces := #[]
  cf := some (fileOf pool0 8 #[] #[{ accessFlags := 1, nameIndex := 5, descriptorIndex := 6, attributes := #[] }] 33 0 #[] #[])
  fields := #[]
  methods := #[k0m0]
  instanceTypes := #[]
  staticTypes := #[]
  resolved := Array.replicate 124 none
  statics := none }

def pool1 : Array CpInfo := pool [(2, .class_ 4), (0, .nameAndType 5 6), (0, u "java/lang/Object"), (0, u "<init>"), (0, u "()V"), (0, .integer 2147483647), (0, .class_ 9), (0, u "com/example/duna/duna/resolution/Region"), (0, .methodref 8 3), (0, .methodref 8 12), (0, .nameAndType 13 14), (0, u "clear"), (0, u "(I)V"), (0, .methodref 8 16), (0, .nameAndType 17 18), (0, u "add"), (0, u "(II)Z"), (0, .methodref 8 20), (0, .nameAndType 21 22), (0, u "contains"), (0, u "(I)Z"), (0, .class_ 24), (0, u "com/example/duna/duna/resolution/RegionContainsPinLaw"), (2, u "law"), (0, u "(IIIIII)Z")] 3

def k1m0 : Method := { name := "<init>", desc := "()V", sig := { parameters := [], returnType := none }, accessFlags := 1, code := none }
def k1c1 : Code := { maxStack := 3, maxLocals := 18, code := code, exceptionTable := #[], attributes := #[] }
def k1m1 : Method := { name := "law", desc := "(IIIIII)Z", sig := { parameters := [.int, .int, .int, .int, .int, .int], returnType := some .boolean }, accessFlags := 9, code := some k1c1 }
/-- com/example/duna/duna/resolution/RegionContainsPinLaw -/
def k1 : Class := { plain "com/example/duna/duna/resolution/RegionContainsPinLaw" (some 0) with
  accessFlags := 49
  interfaces := #[]
  cf := some (fileOf pool1 23 #[] #[{ accessFlags := 1, nameIndex := 5, descriptorIndex := 6, attributes := #[] }, { accessFlags := 9, nameIndex := 27, descriptorIndex := 28, attributes := #[] }] 49 2 #[] #[])
  fields := #[]
  methods := #[k1m0, k1m1]
  instanceTypes := #[]
  staticTypes := #[]
  resolved := Array.replicate 32 none
  statics := none }

def pool2 : Array CpInfo := pool [(1, .methodref 2 3), (0, .class_ 4), (0, .nameAndType 5 6), (0, u "java/lang/Object"), (0, u "<init>"), (0, u "()V"), (0, .fieldref 8 9), (0, .class_ 10), (0, .nameAndType 11 12), (0, u "com/example/duna/duna/resolution/Region"), (0, u "marks"), (0, u "[I"), (0, .fieldref 8 14), (0, .nameAndType 15 16), (0, u "saved"), (0, u "[B"), (0, .class_ 18), (0, u "com/example/duna/duna/resolution/Nodes"), (0, .methodref 17 3), (0, .fieldref 8 21), (0, .nameAndType 22 23), (0, u "nodes"), (0, u "Lcom/example/duna/duna/resolution/Nodes;"), (0, .methodref 25 26), (0, .class_ 27), (0, .nameAndType 28 29), (0, u "java/util/Arrays"), (0, u "copyOf"), (0, u "([II)[I"), (0, .methodref 25 31), (0, .nameAndType 28 32), (0, u "([BI)[B"), (0, .fieldref 8 34), (0, .nameAndType 35 36), (0, u "round"), (0, u "I"), (0, .methodref 17 38), (0, .nameAndType 39 6), (0, u "clear"), (0, .methodref 17 41), (0, .nameAndType 42 43), (0, u "add"), (0, u "(I)V"), (3, u "(II)Z"), (0, u "contains"), (0, u "(I)Z")] 4

def k2c0 : Code := { maxStack := 3, maxLocals := 1, code := prog_30_method_1_code, exceptionTable := #[], attributes := #[] }
def k2m0 : Method := { name := "<init>", desc := "()V", sig := { parameters := [], returnType := none }, accessFlags := 0, code := some k2c0 }
def k2c1 : Code := { maxStack := 4, maxLocals := 2, code := prog_30_method_2_code, exceptionTable := #[], attributes := #[] }
def k2m1 : Method := { name := "clear", desc := "(I)V", sig := { parameters := [.int], returnType := none }, accessFlags := 0, code := some k2c1 }
def k2c2 : Code := { maxStack := 3, maxLocals := 4, code := prog_30_method_3_code, exceptionTable := #[], attributes := #[] }
def k2m2 : Method := { name := "add", desc := "(II)Z", sig := { parameters := [.int, .int], returnType := some .boolean }, accessFlags := 0, code := some k2c2 }
def k2c3 : Code := { maxStack := 2, maxLocals := 2, code := prog_30_method_4_code, exceptionTable := #[], attributes := #[] }
def k2m3 : Method := { name := "contains", desc := "(I)Z", sig := { parameters := [.int], returnType := some .boolean }, accessFlags := 0, code := some k2c3 }
/-- com/example/duna/duna/resolution/Region -/
def k2 : Class := { plain "com/example/duna/duna/resolution/Region" (some 0) with
  accessFlags := 48
  interfaces := #[]
  cf := some (fileOf pool2 8 #[] #[{ accessFlags := 0, nameIndex := 5, descriptorIndex := 6, attributes := #[] }, { accessFlags := 0, nameIndex := 39, descriptorIndex := 43, attributes := #[] }, { accessFlags := 0, nameIndex := 42, descriptorIndex := 47, attributes := #[] }, { accessFlags := 0, nameIndex := 48, descriptorIndex := 49, attributes := #[] }] 48 2 #[] #[{ accessFlags := 2, nameIndex := 11, descriptorIndex := 12, attributes := #[] }, { accessFlags := 2, nameIndex := 15, descriptorIndex := 16, attributes := #[] }, { accessFlags := 2, nameIndex := 35, descriptorIndex := 36, attributes := #[] }, { accessFlags := 18, nameIndex := 22, descriptorIndex := 23, attributes := #[] }])
  fields := #[{ name := "marks", type := (.array .int), accessFlags := 2, slot := 0, constantValue := 0 }, { name := "saved", type := (.array .byte), accessFlags := 2, slot := 1, constantValue := 0 }, { name := "round", type := .int, accessFlags := 2, slot := 2, constantValue := 0 }, { name := "nodes", type := (.object "com/example/duna/duna/resolution/Nodes"), accessFlags := 18, slot := 3, constantValue := 0 }]
  methods := #[k2m0, k2m1, k2m2, k2m3]
  instanceTypes := #[(.array .int), (.array .byte), .int, (.object "com/example/duna/duna/resolution/Nodes")]
  staticTypes := #[]
  resolved := Array.replicate 54 none
  statics := none }

def pool3 : Array CpInfo := pool [(1, .methodref 2 3), (0, .class_ 4), (0, .nameAndType 5 6), (0, u "java/lang/Object"), (0, u "<init>"), (0, u "()V"), (0, .fieldref 8 9), (0, .class_ 10), (0, .nameAndType 11 12), (0, u "com/example/duna/duna/resolution/Nodes"), (0, u "nodes"), (0, u "[I"), (0, .fieldref 8 14), (0, .nameAndType 15 16), (0, u "size"), (0, u "I"), (0, .methodref 18 19), (0, .class_ 20), (0, .nameAndType 21 22), (0, u "java/util/Arrays"), (0, u "copyOf"), (0, u "([II)[I"), (2, u "add"), (0, u "(I)V"), (11, u "clear")] 2

def k3c0 : Code := { maxStack := 2, maxLocals := 1, code := prog_29_method_1_code, exceptionTable := #[], attributes := #[] }
def k3m0 : Method := { name := "<init>", desc := "()V", sig := { parameters := [], returnType := none }, accessFlags := 0, code := some k3c0 }
def k3c1 : Code := { maxStack := 5, maxLocals := 2, code := prog_29_method_2_code, exceptionTable := #[], attributes := #[] }
def k3m1 : Method := { name := "add", desc := "(I)V", sig := { parameters := [.int], returnType := none }, accessFlags := 0, code := some k3c1 }
def k3c2 : Code := { maxStack := 2, maxLocals := 1, code := prog_29_method_8_code, exceptionTable := #[], attributes := #[] }
def k3m2 : Method := { name := "clear", desc := "()V", sig := { parameters := [], returnType := none }, accessFlags := 0, code := some k3c2 }
/-- com/example/duna/duna/resolution/Nodes -/
def k3 : Class := { plain "com/example/duna/duna/resolution/Nodes" (some 0) with
  accessFlags := 48
  interfaces := #[]
  cf := some (fileOf pool3 8 #[] #[{ accessFlags := 0, nameIndex := 5, descriptorIndex := 6, attributes := #[] }, { accessFlags := 0, nameIndex := 25, descriptorIndex := 26, attributes := #[] }, { accessFlags := 0, nameIndex := 38, descriptorIndex := 6, attributes := #[] }] 48 2 #[] #[{ accessFlags := 2, nameIndex := 11, descriptorIndex := 12, attributes := #[] }, { accessFlags := 2, nameIndex := 15, descriptorIndex := 16, attributes := #[] }])
  fields := #[{ name := "nodes", type := (.array .int), accessFlags := 2, slot := 0, constantValue := 0 }, { name := "size", type := .int, accessFlags := 2, slot := 1, constantValue := 0 }]
  methods := #[k3m0, k3m1, k3m2]
  instanceTypes := #[(.array .int), .int]
  staticTypes := #[]
  resolved := Array.replicate 41 none
  statics := none }

def pool4 : Array CpInfo := pool [(2, .class_ 4), (1, u "java/lang/Object"), (0, u "<init>"), (0, u "()V"), (7, .class_ 16), (1, u "java/util/Arrays"), (57, .class_ 76), (1, u "java/util/Arrays$NaturalOrder"), (36, .class_ 115), (1, u "java/util/Arrays$LegacyMergeSort"), (1, u "Z"), (32, .methodref 151 152), (0, .class_ 153), (0, .nameAndType 154 155), (0, u "java/lang/System"), (0, u "arraycopy"), (0, u "(Ljava/lang/Object;ILjava/lang/Object;II)V"), (146, u "copyOf"), (1, .methodref 305 306), (0, .class_ 307), (0, .nameAndType 308 309), (0, u "java/lang/Math"), (0, u "min"), (0, u "(II)I"), (65, .class_ 376), (0, u "java/util/Arrays$ArrayList"), (68, u "$assertionsDisabled"), (269, u "MIN_ARRAY_SORT_GRAN"), (0, u "I"), (2, u "INSERTIONSORT_THRESHOLD"), (149, u "([BI)[B"), (1, u "([II)[I"), (103, .class_ 976), (0, u "java/util/Arrays$ArrayItr")] 52

def k4m0 : Method := { name := "<init>", desc := "()V", sig := { parameters := [], returnType := none }, accessFlags := 2, code := none }
def k4c1 : Code := { maxStack := 6, maxLocals := 3, code := jdk_65_method_121_code, exceptionTable := #[], attributes := #[] }
def k4m1 : Method := { name := "copyOf", desc := "([BI)[B", sig := { parameters := [(.array .byte), .int], returnType := some (.array .byte) }, accessFlags := 9, code := some k4c1 }
def k4c2 : Code := { maxStack := 6, maxLocals := 3, code := jdk_65_method_123_code, exceptionTable := #[], attributes := #[] }
def k4m2 : Method := { name := "copyOf", desc := "([II)[I", sig := { parameters := [(.array .int), .int], returnType := some (.array .int) }, accessFlags := 9, code := some k4c2 }
/-- java/util/Arrays -/
def k4 : Class := { plain "java/util/Arrays" (some 0) with
  accessFlags := 49
  interfaces := #[]
  cf := some (fileOf pool4 14 #[.nestMembers #[975, 375, 113, 74]] #[{ accessFlags := 2, nameIndex := 5, descriptorIndex := 6, attributes := #[] }, { accessFlags := 9, nameIndex := 302, descriptorIndex := 869, attributes := #[] }, { accessFlags := 9, nameIndex := 302, descriptorIndex := 871, attributes := #[] }] 49 2 #[] #[{ accessFlags := 26, nameIndex := 715, descriptorIndex := 716, attributes := #[] }, { accessFlags := 26, nameIndex := 719, descriptorIndex := 716, attributes := #[] }, { accessFlags := 4120, nameIndex := 445, descriptorIndex := 117, attributes := #[] }])
  fields := #[{ name := "MIN_ARRAY_SORT_GRAN", type := .int, accessFlags := 26, slot := 0, constantValue := 0 }, { name := "INSERTIONSORT_THRESHOLD", type := .int, accessFlags := 26, slot := 1, constantValue := 0 }, { name := "$assertionsDisabled", type := .boolean, accessFlags := 4120, slot := 2, constantValue := 0 }]
  methods := #[k4m0, k4m1, k4m2]
  instanceTypes := #[]
  staticTypes := #[.int, .int, .boolean]
  resolved := Array.replicate 1029 none
  statics := none }

def pool5 : Array CpInfo := pool [(1, .class_ 2), (0, u "java/lang/Math"), (1, .class_ 6), (1, u "java/lang/Object"), (0, u "<init>"), (0, u "()V"), (89, .class_ 100), (1, u "java/lang/Math$RandomNumberGeneratorHolder"), (71, u "negativeZeroFloatBits"), (0, u "J"), (2, u "negativeZeroDoubleBits"), (24, u "min"), (43, u "$assertionsDisabled"), (0, u "Z"), (88, u "(II)I"), (2, u "twoToTheDoubleScaleDown"), (0, u "D"), (4, u "twoToTheDoubleScaleUp"), (9, u "E"), (3, u "PI"), (2, u "TAU"), (2, u "DEGREES_TO_RADIANS"), (0, u "RADIANS_TO_DEGREES")] 94

def k5m0 : Method := { name := "<init>", desc := "()V", sig := { parameters := [], returnType := none }, accessFlags := 2, code := none }
def k5c1 : Code := { maxStack := 2, maxLocals := 2, code := jdk_29_method_69_code, exceptionTable := #[], attributes := #[] }
def k5m1 : Method := { name := "min", desc := "(II)I", sig := { parameters := [.int, .int], returnType := some .int }, accessFlags := 9, code := some k5c1 }
/-- java/lang/Math -/
def k5 : Class := { plain "java/lang/Math" (some 0) with
  accessFlags := 49
  interfaces := #[]
  cf := some (fileOf pool5 1 #[.nestMembers #[98]] #[{ accessFlags := 2, nameIndex := 7, descriptorIndex := 8, attributes := #[] }, { accessFlags := 9, nameIndex := 201, descriptorIndex := 335, attributes := #[] }] 49 4 #[] #[{ accessFlags := 25, nameIndex := 354, descriptorIndex := 339, attributes := #[] }, { accessFlags := 25, nameIndex := 358, descriptorIndex := 339, attributes := #[] }, { accessFlags := 25, nameIndex := 361, descriptorIndex := 339, attributes := #[] }, { accessFlags := 26, nameIndex := 364, descriptorIndex := 339, attributes := #[] }, { accessFlags := 26, nameIndex := 365, descriptorIndex := 339, attributes := #[] }, { accessFlags := 26, nameIndex := 172, descriptorIndex := 173, attributes := #[] }, { accessFlags := 26, nameIndex := 176, descriptorIndex := 173, attributes := #[] }, { accessFlags := 8, nameIndex := 344, descriptorIndex := 339, attributes := #[] }, { accessFlags := 8, nameIndex := 338, descriptorIndex := 339, attributes := #[] }, { accessFlags := 4120, nameIndex := 245, descriptorIndex := 246, attributes := #[] }])
  fields := #[{ name := "E", type := .double, accessFlags := 25, slot := 0, constantValue := 0 }, { name := "PI", type := .double, accessFlags := 25, slot := 1, constantValue := 0 }, { name := "TAU", type := .double, accessFlags := 25, slot := 2, constantValue := 0 }, { name := "DEGREES_TO_RADIANS", type := .double, accessFlags := 26, slot := 3, constantValue := 0 }, { name := "RADIANS_TO_DEGREES", type := .double, accessFlags := 26, slot := 4, constantValue := 0 }, { name := "negativeZeroFloatBits", type := .long, accessFlags := 26, slot := 5, constantValue := 0 }, { name := "negativeZeroDoubleBits", type := .long, accessFlags := 26, slot := 6, constantValue := 0 }, { name := "twoToTheDoubleScaleUp", type := .double, accessFlags := 8, slot := 7, constantValue := 0 }, { name := "twoToTheDoubleScaleDown", type := .double, accessFlags := 8, slot := 8, constantValue := 0 }, { name := "$assertionsDisabled", type := .boolean, accessFlags := 4120, slot := 9, constantValue := 0 }]
  methods := #[k5m0, k5m1]
  instanceTypes := #[]
  staticTypes := #[.double, .double, .double, .double, .double, .long, .long, .double, .double, .boolean]
  resolved := Array.replicate 460 none
  statics := none }

def pool6 : Array CpInfo := pool [(2, .class_ 4), (1, u "java/lang/Object"), (0, u "<init>"), (0, u "()V"), (1, .class_ 10), (1, u "java/lang/System"), (0, u "allowSecurityManager"), (0, u "I"), (16, u "cons"), (0, u "Ljava/io/Console;"), (77, .class_ 110), (1, u "java/lang/System$CallersHolder"), (43, u "initialErrStream"), (0, u "Ljava/io/PrintStream;"), (19, u "security"), (0, u "Ljava/lang/SecurityManager;"), (31, .class_ 209), (0, u "java/lang/System$1"), (7, u "props"), (0, u "Ljava/util/Properties;"), (2, u "lineSeparator"), (0, u "Ljava/lang/String;"), (96, .class_ 321), (1, u "java/lang/System$LoggerFinder"), (5, .class_ 328), (0, u "java/lang/System$Logger"), (67, u "err"), (2, u "out"), (91, u "notSupportedJnuEncoding"), (15, u "in"), (17, u "initialIn"), (0, u "Ljava/io/InputStream;"), (35, u "bootLayer"), (0, u "Ljava/lang/ModuleLayer;"), (99, .class_ 664), (0, u "java/lang/System$2"), (9, u "NEVER"), (2, u "MAYBE"), (49, u "arraycopy"), (0, u "(Ljava/lang/Object;ILjava/lang/Object;II)V"), (72, .class_ 802), (0, u "java/lang/System$Logger$Level")] 31

def k6m0 : Method := { name := "<init>", desc := "()V", sig := { parameters := [], returnType := none }, accessFlags := 2, code := none }
def k6m1 : Method := { name := "arraycopy", desc := "(Ljava/lang/Object;ILjava/lang/Object;II)V", sig := { parameters := [(.object "java/lang/Object"), .int, (.object "java/lang/Object"), .int, .int], returnType := none }, accessFlags := 265, code := none }
/-- java/lang/System -/
def k6 : Class := { plain "java/lang/System" (some 0) with
  accessFlags := 49
  interfaces := #[]
  cf := some (fileOf pool6 8 #[.nestMembers #[319, 327, 801, 108, 663, 208]] #[{ accessFlags := 2, nameIndex := 5, descriptorIndex := 6, attributes := #[] }, { accessFlags := 265, nameIndex := 727, descriptorIndex := 728, attributes := #[] }] 49 2 #[] #[{ accessFlags := 25, nameIndex := 507, descriptorIndex := 526, attributes := #[] }, { accessFlags := 25, nameIndex := 399, descriptorIndex := 155, attributes := #[] }, { accessFlags := 25, nameIndex := 396, descriptorIndex := 155, attributes := #[] }, { accessFlags := 10, nameIndex := 525, descriptorIndex := 526, attributes := #[] }, { accessFlags := 26, nameIndex := 674, descriptorIndex := 12, attributes := #[] }, { accessFlags := 26, nameIndex := 677, descriptorIndex := 12, attributes := #[] }, { accessFlags := 10, nameIndex := 11, descriptorIndex := 12, attributes := #[] }, { accessFlags := 74, nameIndex := 175, descriptorIndex := 176, attributes := #[] }, { accessFlags := 10, nameIndex := 491, descriptorIndex := 222, attributes := #[] }, { accessFlags := 74, nameIndex := 29, descriptorIndex := 30, attributes := #[] }, { accessFlags := 74, nameIndex := 154, descriptorIndex := 155, attributes := #[] }, { accessFlags := 10, nameIndex := 217, descriptorIndex := 218, attributes := #[] }, { accessFlags := 10, nameIndex := 221, descriptorIndex := 222, attributes := #[] }, { accessFlags := 8, nameIndex := 562, descriptorIndex := 563, attributes := #[] }])
  fields := #[{ name := "in", type := (.object "java/io/InputStream"), accessFlags := 25, slot := 0, constantValue := 0 }, { name := "out", type := (.object "java/io/PrintStream"), accessFlags := 25, slot := 1, constantValue := 0 }, { name := "err", type := (.object "java/io/PrintStream"), accessFlags := 25, slot := 2, constantValue := 0 }, { name := "initialIn", type := (.object "java/io/InputStream"), accessFlags := 10, slot := 3, constantValue := 0 }, { name := "NEVER", type := .int, accessFlags := 26, slot := 4, constantValue := 0 }, { name := "MAYBE", type := .int, accessFlags := 26, slot := 5, constantValue := 0 }, { name := "allowSecurityManager", type := .int, accessFlags := 10, slot := 6, constantValue := 0 }, { name := "security", type := (.object "java/lang/SecurityManager"), accessFlags := 74, slot := 7, constantValue := 0 }, { name := "notSupportedJnuEncoding", type := (.object "java/lang/String"), accessFlags := 10, slot := 8, constantValue := 0 }, { name := "cons", type := (.object "java/io/Console"), accessFlags := 74, slot := 9, constantValue := 0 }, { name := "initialErrStream", type := (.object "java/io/PrintStream"), accessFlags := 74, slot := 10, constantValue := 0 }, { name := "props", type := (.object "java/util/Properties"), accessFlags := 10, slot := 11, constantValue := 0 }, { name := "lineSeparator", type := (.object "java/lang/String"), accessFlags := 10, slot := 12, constantValue := 0 }, { name := "bootLayer", type := (.object "java/lang/ModuleLayer"), accessFlags := 8, slot := 13, constantValue := 0 }]
  methods := #[k6m0, k6m1]
  instanceTypes := #[]
  staticTypes := #[(.object "java/io/InputStream"), (.object "java/io/PrintStream"), (.object "java/io/PrintStream"), (.object "java/io/InputStream"), .int, .int, .int, (.object "java/lang/SecurityManager"), (.object "java/lang/String"), (.object "java/io/Console"), (.object "java/io/PrintStream"), (.object "java/util/Properties"), (.object "java/lang/String"), (.object "java/lang/ModuleLayer")]
  resolved := Array.replicate 834 none
  statics := none }

def pool7 : Array CpInfo := pool [(1, u "java/lang/Cloneable"), (0, .class_ 1), (0, u "java/lang/Object"), (0, .class_ 3)] 3

/-- java/lang/Cloneable -/
def k7 : Class := { plain "java/lang/Cloneable" (some 0) with
  accessFlags := 1537
  interfaces := #[]
  cf := some (fileOf pool7 2 #[] #[] 1537 4 #[] #[])
  fields := #[]
  methods := #[]
  instanceTypes := #[]
  staticTypes := #[]
  resolved := Array.replicate 8 none
  statics := none }

def pool8 : Array CpInfo := pool [(1, u "java/io/Serializable"), (0, .class_ 1), (0, u "java/lang/Object"), (0, .class_ 3)] 3

/-- java/io/Serializable -/
def k8 : Class := { plain "java/io/Serializable" (some 0) with
  accessFlags := 1537
  interfaces := #[]
  cf := some (fileOf pool8 2 #[] #[] 1537 4 #[] #[])
  fields := #[]
  methods := #[]
  instanceTypes := #[]
  staticTypes := #[]
  resolved := Array.replicate 8 none
  statics := none }

/-- the primitive byte -/
def k9 : Class := { plain "byte" none with kind := .primitive 'B', accessFlags := 0x411 }
/-- [B -/
def k10 : Class := { plain "[B" (some 0) with kind := .array 9 .byte, interfaces := #[7, 8], accessFlags := 1041 }

/-- the primitive int -/
def k11 : Class := { plain "int" none with kind := .primitive 'I', accessFlags := 0x411 }
/-- [I -/
def k12 : Class := { plain "[I" (some 0) with kind := .array 11 .int, interfaces := #[7, 8], accessFlags := 1041 }

def heap : Heap := #[]
def classes : Array Class := #[k0, k1, k2, k3, k4, k5, k6, k7, k8, k9, k10, k11, k12]
def interned : List (Array UInt16 × Addr) := []
def slotsUsed : Nat := 0
def theMethod : MethodId := ⟨1, 1⟩
def args0 : Array Value := #[.int 5, .int 6, .int 7, .int 1, .int 3, .int 2]
def aboutOver (below : List Frame) : State where
  vm := { classes := classes, interned := interned.toArray }
  heap := heap
  slotsUsed := slotsUsed
  threads := #[{ frames := .invoking theMethod args0 :: below }]
def below0 : List Frame := [.native { method := ⟨0, 0⟩, args := #[] }]
def about1 : State := aboutOver below0
def p0 : Program := .bare "" "" ""
def e0 : Env := launch0.env 0 0 0
theorem w_frames : about1.frames = Frame.invoking theMethod args0 :: below0 := rfl
set_option maxRecDepth 65536 in
theorem w_args : argsFit about1.vm theMethod args0 = true := by decide +kernel
set_option maxRecDepth 65536 in
theorem w_heap : heapFits about1 = true := by decide +kernel
set_option maxRecDepth 65536 in
theorem w_runnable : about1.curStatus? = some .runnable := by decide +kernel
set_option maxRecDepth 65536 in
theorem w_alone : about1.alone = true := by decide +kernel
set_option maxRecDepth 65536 in
theorem w_named : about1.methodNamed? x = some theMethod := by decide +kernel
set_option maxRecDepth 65536 in
theorem w_hears : about1.hears theMethod below0 = true := by decide +kernel
set_option maxRecDepth 65536 in
theorem w_ripe : about1.ripe theMethod args0 below0 = true := by decide +kernel
theorem w_running : about1.status = .running := rfl
set_option maxRecDepth 65536 in
theorem w_room : about1.hasRoom e0.platform room_1 = true :=
  launch0.hasRoom_least _ room_1 (by decide +kernel) (by decide +kernel) (by decide +kernel) (by decide +kernel) (by decide +kernel) (by decide +kernel)
theorem allAtoms_all (ts : List Jvm.Cond) (a : Array Jvm.Value) (st : Jvm.State) : (allAtoms ts).before a st = ts.all (fun c => c.before a st) := by
  induction ts with
  | nil => rfl
  | cons c t ih =>
    show (Jvm.Cond.and c (allAtoms t)).before a st = _
    rw [Jvm.Cond.before_and, ih, List.all_cons]
def words1 : List Jvm.Cond := Jvm.Cond.code x code maxLocals ret :: tables_1
/-- a 'code' word, met by the world's own term for the bytes: nothing is compared byte by byte -/
theorem code_word {y : MethodName} {bytes : ByteArray} {mx : Nat} {rt : Option FieldType} {a : Array Value} {s : State} {m : MethodId} {meth : Method} {c : Code} (h1 : s.methodNamed? y = some m) (h2 : s.vm.method? m = some meth) (h3 : meth.code = some c) (h4 : c.code = bytes)
    (h5 : (c.maxLocals == mx && c.exceptionTable.isEmpty && decide (c.maxStack ≤ mostOperands) && decide (meth.sig.returnType = rt) && !meth.locks && decide (parseMethodDescriptor y.desc = some meth.sig)) = true) : (Jvm.Cond.code y bytes mx rt).before a s = true := by
  simp only [Bool.and_eq_true, beq_iff_eq, Bool.not_eq_true', decide_eq_true_eq] at h5
  obtain ⟨⟨⟨⟨⟨g1, g2⟩, g3⟩, g4⟩, g5⟩, g6⟩ := h5
  simp [Cond.before, Cond.holds, Cond.value, h1, h2, h3, h4, g1, g2, g3, g4, g5, g6]
def isCode : Jvm.Cond → Bool
  | .code _ _ _ _ => true
  | _ => false
theorem all_split {L : List Jvm.Cond} {P : Jvm.Cond → Bool} (h1 : L.all (fun c => isCode c || P c) = true) (h2 : ∀ c ∈ L.filter isCode, P c = true) : L.all P = true := by
  refine List.all_eq_true.mpr fun c hc => ?_
  have h := List.all_eq_true.mp h1 c hc
  rcases Bool.eq_false_or_eq_true (isCode c) with hi | hi
  · exact h2 c (List.mem_filter.mpr ⟨hc, hi⟩)
  · simpa [hi] using h
set_option maxRecDepth 65536 in
theorem w_c0 : (Jvm.Cond.code x code maxLocals ret).before args0 about1 = true := code_word (m := ⟨1, 1⟩) (meth := k1m1) (c := k1c1) (by decide +kernel) rfl rfl rfl (by decide +kernel)
set_option maxRecDepth 65536 in
theorem w_c1 : (Jvm.Cond.code ({ cls := "com/example/duna/duna/resolution/Region", name := "<init>", desc := "()V" } : Jvm.MethodName) prog_30_method_1_code (1 : Nat) (Option.none : Option Jvm.ClassFile.FieldType)).before args0 about1 = true := code_word (m := ⟨2, 0⟩) (meth := k2m0) (c := k2c0) (by decide +kernel) rfl rfl rfl (by decide +kernel)
set_option maxRecDepth 65536 in
theorem w_c2 : (Jvm.Cond.code ({ cls := "java/lang/Object", name := "<init>", desc := "()V" } : Jvm.MethodName) object_method_1_code (1 : Nat) (Option.none : Option Jvm.ClassFile.FieldType)).before args0 about1 = true := code_word (m := ⟨0, 0⟩) (meth := k0m0) (c := k0c0) (by decide +kernel) rfl rfl rfl (by decide +kernel)
set_option maxRecDepth 65536 in
theorem w_c3 : (Jvm.Cond.code ({ cls := "com/example/duna/duna/resolution/Nodes", name := "<init>", desc := "()V" } : Jvm.MethodName) prog_29_method_1_code (1 : Nat) (Option.none : Option Jvm.ClassFile.FieldType)).before args0 about1 = true := code_word (m := ⟨3, 0⟩) (meth := k3m0) (c := k3c0) (by decide +kernel) rfl rfl rfl (by decide +kernel)
set_option maxRecDepth 65536 in
theorem w_c4 : (Jvm.Cond.code ({ cls := "com/example/duna/duna/resolution/Region", name := "clear", desc := "(I)V" } : Jvm.MethodName) prog_30_method_2_code (2 : Nat) (Option.none : Option Jvm.ClassFile.FieldType)).before args0 about1 = true := code_word (m := ⟨2, 1⟩) (meth := k2m1) (c := k2c1) (by decide +kernel) rfl rfl rfl (by decide +kernel)
set_option maxRecDepth 65536 in
theorem w_c5 : (Jvm.Cond.code ({ cls := "java/util/Arrays", name := "copyOf", desc := "([II)[I" } : Jvm.MethodName) jdk_65_method_123_code (3 : Nat) (Option.some (Jvm.ClassFile.FieldType.array Jvm.ClassFile.FieldType.int))).before args0 about1 = true := code_word (m := ⟨4, 2⟩) (meth := k4m2) (c := k4c2) (by decide +kernel) rfl rfl rfl (by decide +kernel)
set_option maxRecDepth 65536 in
theorem w_c6 : (Jvm.Cond.code ({ cls := "java/lang/Math", name := "min", desc := "(II)I" } : Jvm.MethodName) jdk_29_method_69_code (2 : Nat) (Option.some Jvm.ClassFile.FieldType.int)).before args0 about1 = true := code_word (m := ⟨5, 1⟩) (meth := k5m1) (c := k5c1) (by decide +kernel) rfl rfl rfl (by decide +kernel)
set_option maxRecDepth 65536 in
theorem w_c7 : (Jvm.Cond.code ({ cls := "java/util/Arrays", name := "copyOf", desc := "([BI)[B" } : Jvm.MethodName) jdk_65_method_121_code (3 : Nat) (Option.some (Jvm.ClassFile.FieldType.array Jvm.ClassFile.FieldType.byte))).before args0 about1 = true := code_word (m := ⟨4, 1⟩) (meth := k4m1) (c := k4c1) (by decide +kernel) rfl rfl rfl (by decide +kernel)
set_option maxRecDepth 65536 in
theorem w_c8 : (Jvm.Cond.code ({ cls := "com/example/duna/duna/resolution/Nodes", name := "clear", desc := "()V" } : Jvm.MethodName) prog_29_method_8_code (1 : Nat) (Option.none : Option Jvm.ClassFile.FieldType)).before args0 about1 = true := code_word (m := ⟨3, 2⟩) (meth := k3m2) (c := k3c2) (by decide +kernel) rfl rfl rfl (by decide +kernel)
set_option maxRecDepth 65536 in
theorem w_c9 : (Jvm.Cond.code ({ cls := "com/example/duna/duna/resolution/Region", name := "add", desc := "(II)Z" } : Jvm.MethodName) prog_30_method_3_code (4 : Nat) (Option.some Jvm.ClassFile.FieldType.boolean)).before args0 about1 = true := code_word (m := ⟨2, 2⟩) (meth := k2m2) (c := k2c2) (by decide +kernel) rfl rfl rfl (by decide +kernel)
set_option maxRecDepth 65536 in
theorem w_c10 : (Jvm.Cond.code ({ cls := "com/example/duna/duna/resolution/Nodes", name := "add", desc := "(I)V" } : Jvm.MethodName) prog_29_method_2_code (2 : Nat) (Option.none : Option Jvm.ClassFile.FieldType)).before args0 about1 = true := code_word (m := ⟨3, 1⟩) (meth := k3m1) (c := k3c1) (by decide +kernel) rfl rfl rfl (by decide +kernel)
set_option maxRecDepth 65536 in
theorem w_c11 : (Jvm.Cond.code ({ cls := "com/example/duna/duna/resolution/Region", name := "contains", desc := "(I)Z" } : Jvm.MethodName) prog_30_method_4_code (2 : Nat) (Option.some Jvm.ClassFile.FieldType.boolean)).before args0 about1 = true := code_word (m := ⟨2, 3⟩) (meth := k2m3) (c := k2c3) (by decide +kernel) rfl rfl rfl (by decide +kernel)
def codes1 : List Jvm.Cond := [Jvm.Cond.code x code maxLocals ret, Jvm.Cond.code ({ cls := "com/example/duna/duna/resolution/Region", name := "<init>", desc := "()V" } : Jvm.MethodName) prog_30_method_1_code (1 : Nat) (Option.none : Option Jvm.ClassFile.FieldType), Jvm.Cond.code ({ cls := "java/lang/Object", name := "<init>", desc := "()V" } : Jvm.MethodName) object_method_1_code (1 : Nat) (Option.none : Option Jvm.ClassFile.FieldType), Jvm.Cond.code ({ cls := "com/example/duna/duna/resolution/Nodes", name := "<init>", desc := "()V" } : Jvm.MethodName) prog_29_method_1_code (1 : Nat) (Option.none : Option Jvm.ClassFile.FieldType), Jvm.Cond.code ({ cls := "com/example/duna/duna/resolution/Region", name := "clear", desc := "(I)V" } : Jvm.MethodName) prog_30_method_2_code (2 : Nat) (Option.none : Option Jvm.ClassFile.FieldType), Jvm.Cond.code ({ cls := "java/util/Arrays", name := "copyOf", desc := "([II)[I" } : Jvm.MethodName) jdk_65_method_123_code (3 : Nat) (Option.some (Jvm.ClassFile.FieldType.array Jvm.ClassFile.FieldType.int)), Jvm.Cond.code ({ cls := "java/lang/Math", name := "min", desc := "(II)I" } : Jvm.MethodName) jdk_29_method_69_code (2 : Nat) (Option.some Jvm.ClassFile.FieldType.int), Jvm.Cond.code ({ cls := "java/util/Arrays", name := "copyOf", desc := "([BI)[B" } : Jvm.MethodName) jdk_65_method_121_code (3 : Nat) (Option.some (Jvm.ClassFile.FieldType.array Jvm.ClassFile.FieldType.byte)), Jvm.Cond.code ({ cls := "com/example/duna/duna/resolution/Nodes", name := "clear", desc := "()V" } : Jvm.MethodName) prog_29_method_8_code (1 : Nat) (Option.none : Option Jvm.ClassFile.FieldType), Jvm.Cond.code ({ cls := "com/example/duna/duna/resolution/Region", name := "add", desc := "(II)Z" } : Jvm.MethodName) prog_30_method_3_code (4 : Nat) (Option.some Jvm.ClassFile.FieldType.boolean), Jvm.Cond.code ({ cls := "com/example/duna/duna/resolution/Nodes", name := "add", desc := "(I)V" } : Jvm.MethodName) prog_29_method_2_code (2 : Nat) (Option.none : Option Jvm.ClassFile.FieldType), Jvm.Cond.code ({ cls := "com/example/duna/duna/resolution/Region", name := "contains", desc := "(I)Z" } : Jvm.MethodName) prog_30_method_4_code (2 : Nat) (Option.some Jvm.ClassFile.FieldType.boolean)]
set_option maxRecDepth 65536 in
theorem codes_eq : words1.filter isCode = codes1 := rfl
theorem w_codes : ∀ c ∈ words1.filter isCode, c.before args0 about1 = true := by
  rw [codes_eq]
  intro c hc
  simp only [codes1, List.mem_cons, List.not_mem_nil, or_false] at hc
  rcases hc with rfl | rfl | rfl | rfl | rfl | rfl | rfl | rfl | rfl | rfl | rfl | rfl
  · exact w_c0
  · exact w_c1
  · exact w_c2
  · exact w_c3
  · exact w_c4
  · exact w_c5
  · exact w_c6
  · exact w_c7
  · exact w_c8
  · exact w_c9
  · exact w_c10
  · exact w_c11
set_option maxRecDepth 65536 in
theorem w_t1 : (words1.take 24).all (fun c => isCode c || c.before args0 about1) = true := by decide +kernel
set_option maxRecDepth 65536 in
theorem w_t2 : ((words1.drop 24).take 24).all (fun c => isCode c || c.before args0 about1) = true := by decide +kernel
set_option maxRecDepth 65536 in
theorem w_t3 : (((words1.drop 24).drop 24).take 24).all (fun c => isCode c || c.before args0 about1) = true := by decide +kernel
set_option maxRecDepth 65536 in
theorem w_t4 : (((words1.drop 24).drop 24).drop 24).all (fun c => isCode c || c.before args0 about1) = true := by decide +kernel
theorem w_tables : (allAtoms (Jvm.Cond.code x code maxLocals ret :: tables_1)).before args0 about1 = true := by
  rw [allAtoms_all]
  show words1.all (fun c => c.before args0 about1) = true
  refine all_split ?_ w_codes
  rw [← List.take_append_drop 24 words1, List.all_append, w_t1, ← List.take_append_drop 24 (words1.drop 24), List.all_append, w_t2, ← List.take_append_drop 24 ((words1.drop 24).drop 24), List.all_append, w_t3, w_t4]
  rfl
set_option maxRecDepth 65536 in
theorem w_case : (Jvm.Cond.and given_1 narrow_1).before args0 about1 = true := by decide +kernel
theorem w_applies : (headSpec (Jvm.Cond.code x code maxLocals ret :: tables_1) room_1).applies x e0.platform about1 = true :=
  (Spec.applies_iff w_frames).mpr ⟨w_running, w_runnable, w_alone, w_named, w_hears, w_ripe, w_room, w_tables⟩
theorem atStart : AtStart classFile x code maxLocals ret World_1 tables_1 room_1 Calls_1 rest_1 Pre_1 launch0 p0 e0 about1 theMethod args0 below0 :=
  ⟨lists_1, trivial, launch0.admits_env _ _ _, launch0.least_env, fairChoices_fair.cas, fairChoices_fair.clock, w_frames, w_args, w_heap, w_applies, trivial, trivial, w_case⟩
end start1
theorem witness_1 : WitnessClaimed_1 := ⟨start1.p0, start1.e0, start1.about1, start1.theMethod, start1.args0, start1.below0, start1.atStart⟩
end Jvm.Pilot.@@N@@
