import JvmDerived
import JvmDerived.Pilot.@@N@@Statement
import JvmDerived.Pilot.@@N@@Code
set_option linter.unusedVariables false
set_option linter.unusedSimpArgs false
namespace Jvm.Own
open Jvm Jvm.ClassFile Sem Op Lib Jvm.Free Jvm.Stand Jvm.LawKit Jvm.RoadKit
def b2i (b : Bool) : Int32 := if b then 1 else 0
theorem wd {ws : List Jvm.Cond} {a0 : Array Value} {Z : State} (hw : ∀ d ∈ ws, d.before a0 Z = true) (i : Nat) {d : Jvm.Cond} (h : ws[i]? = some d) : d.before a0 Z = true := hw d (List.mem_of_getElem? h)
/-- a contract of a body: from the heap h with these arguments it returns, writes nothing below n0, and Q holds of what it returns and of the heap -/
def Met (l : Launch) (Z : State) (y : MethodName) (bytes : ByteArray) (maxL : Nat) (ret : Option FieldType) (rm : Room) (as' : Array Value) (h : Heap) (n0 : Nat) (Q : Option Value → Heap → Prop) : Prop :=
  ∀ ws, MetFree l y (head1 (Jvm.Cond.code y bytes maxL ret :: ws) rm) (fun a U => a = as' ∧ Z.Warmed39 U.vm ∧ U.heap = h) (fun _ _ _ _ _ => True) (fun _ U o U' => ∃ v L, o = .returned v ∧ (Fr n0 L ∧ Q v U'.heap) ∧ FrameEnd U o U' L rm.cells rm.slots)
def Cx (p : Program) (s : State) (m : MethodId) (meth : Method) (c : Code) (Z : State) (y : MethodName) (bytes : ByteArray) (maxL : Nat) (ret : Option FieldType) : Prop :=
  p.tables.exec = Jvm.exec ∧ Z.Warmed39 s.vm ∧ s.vm.findClass y.cls = some m.cls ∧ meth.name = y.name ∧ c.code = bytes ∧ c.maxLocals = maxL ∧ meth.sig.returnType = ret ∧ meth.locks = false
def Go (p : Program) (l : Launch) (e : Env) (R : Room) (s : State) (m : MethodId) (args : Array Value) (below : List Frame) (meth : Method) (c : Code) (n0 : Nat) (Q : Option Value → Heap → Prop) (cells slots : Nat) (h : Heap) (f : JFrame) : Prop :=
  ∀ T locs, Stand p l e R s m args below meth c T locs cells slots → Fr n0 locs → T.heap = h → ∃ t o, Steps p.tables e below (T.setTop f) t ∧ t.status = .running ∧ Ended t below o ∧ ∃ v L, o = .returned v ∧ (Fr n0 L ∧ Q v t.heap) ∧ FrameEnd s o t L R.cells R.slots
section
variable {p : Program} {l : Launch} {e : Env} {R : Room} {s : State} {m : MethodId} {args : Array Value} {below : List Frame} {meth : Method} {c : Code} {Z : State} {y : MethodName} {bytes : ByteArray} {maxL : Nat} {ret : Option FieldType} {n0 : Nat} {Q : Option Value → Heap → Prop} {cells slots : Nat} {h : Heap} {pc n n' : Nat} {Ls : Array Slot} {st : List Value} {a0 : Array Value}
theorem Cx.x (C : Cx p s m meth c Z y bytes maxL ret) : p.tables.exec = Jvm.exec := C.1
theorem Cx.z (C : Cx p s m meth c Z y bytes maxL ret) : Z.Warmed39 s.vm := C.2.1
theorem Cx.own (C : Cx p s m meth c Z y bytes maxL ret) : s.vm.findClass y.cls = some m.cls := C.2.2.1
theorem Cx.nm (C : Cx p s m meth c Z y bytes maxL ret) : meth.name = y.name := C.2.2.2.1
theorem Cx.by (C : Cx p s m meth c Z y bytes maxL ret) : c.code = bytes := C.2.2.2.2.1
theorem Cx.ml (C : Cx p s m meth c Z y bytes maxL ret) : c.maxLocals = maxL := C.2.2.2.2.2.1
theorem Cx.rt (C : Cx p s m meth c Z y bytes maxL ret) : meth.sig.returnType = ret := C.2.2.2.2.2.2.1
theorem Cx.locks (C : Cx p s m meth c Z y bytes maxL ret) : meth.locks = false := C.2.2.2.2.2.2.2
theorem Met.of {rm : Room} {as' : Array Value} {Ls0 : Array Slot} (hp : plainFor y = true) (he : ∀ m, entryFrame m as' maxL = mkF m 0 Ls0 [])
    (body : ∀ p e s m args below meth c, Cx p s m meth c Z y bytes maxL ret → Go p l e rm s m args below meth c n0 Q 0 0 h (mkF m 0 Ls0 [])) : Met l Z y bytes maxL ret rm as' h n0 Q := by
  intro ws
  refine MetFree.of_bodySF hp hisR ?_
  intro p e s m args below meth c s₁ Bd hml0 hP hK
  obtain ⟨rfl, hZ, hh⟩ := hP
  have C : Cx p s m meth c Z y bytes maxL ret := ⟨Bd.exec, hZ, findClass_of_methodNamed Bd.named, (name_of_methodNamed Bd.named Bd.method).1, Bd.bytes, hml0, Bd.returns, Bd.notSynchronized⟩
  have X0 : Stand p l e rm s m args below meth c s₁ [] 0 0 := Stand.of_body Bd
  have e0 : s₁.heap = h := by rw [← hh, Bd.state]; rfl
  obtain ⟨t, o, st, r⟩ := body p e s m args below meth c C s₁ [] X0 (Fr.nil n0) e0
  exact ⟨t, o, castTop (he m) st, r⟩
theorem Met.weaken {rm : Room} {as' : Array Value} {Q' : Option Value → Heap → Prop} (M : Met l Z y bytes maxL ret rm as' h n0 Q) (q : ∀ v h', Q v h' → Q' v h') : Met l Z y bytes maxL ret rm as' h n0 Q' := by
  intro ws p e ha hc hk s m args below hf happ hP hK
  obtain ⟨n, o, h1, h2, h3, v, L, h4, h5, h6⟩ := M ws p e ha hc hk s m args below hf happ hP hK
  exact ⟨n, o, h1, h2, h3, v, L, h4, ⟨h5.1, q _ _ h5.2⟩, h6⟩
theorem Go.via {f f' : JFrame} (hs : ∀ T locs, Stand p l e R s m args below meth c T locs cells slots → T.heap = h → ∀ t, Steps p.tables e below (T.setTop f') t → Steps p.tables e below (T.setTop f) t)
    (k : Go p l e R s m args below meth c n0 Q cells slots h f') : Go p l e R s m args below meth c n0 Q cells slots h f := fun T locs X N q => by
  obtain ⟨t, o, st, r⟩ := k T locs X N q
  exact ⟨t, o, hs T locs X q t st, r⟩
theorem Go.mono {f : JFrame} {cells' slots' : Nat} (h1 : cells ≤ cells') (h2 : slots ≤ slots') (k : Go p l e R s m args below meth c n0 Q cells' slots' h f) : Go p l e R s m args below meth c n0 Q cells slots h f := fun T locs X N q =>
  k T locs ⟨X.admits, X.cas, X.clock, X.frames, X.room, X.hears, X.method, X.code, X.here, X.tail, X.warmed, X.limits, X.bytes, X.same.mono h1 h2⟩ N q
theorem Go.cast {f f' : JFrame} (q : f = f') (k : Go p l e R s m args below meth c n0 Q cells slots h f') : Go p l e R s m args below meth c n0 Q cells slots h f := q ▸ k

theorem G.iadd (C : Cx p s m meth c Z y bytes maxL ret) {x1 x2 : Int32} (hd : decode bytes pc = .ok (.iadd, 1))  (hn : pc + 1 = n) (k : Go p l e R s m args below meth c n0 Q cells slots h (mkF m n Ls (.int (x1 + x2) :: st))) : Go p l e R s m args below meth c n0 Q cells slots h (mkF m pc Ls (.int x2 :: .int x1 :: st)) := by
  subst hn
  exact Go.via (fun T locs X _ t q => XS.iadd X.here C.x rfl (hb C.by hd) rfl q) k
theorem G.isub (C : Cx p s m meth c Z y bytes maxL ret) {x1 x2 : Int32} (hd : decode bytes pc = .ok (.isub, 1))  (hn : pc + 1 = n) (k : Go p l e R s m args below meth c n0 Q cells slots h (mkF m n Ls (.int (x1 - x2) :: st))) : Go p l e R s m args below meth c n0 Q cells slots h (mkF m pc Ls (.int x2 :: .int x1 :: st)) := by
  subst hn
  exact Go.via (fun T locs X _ t q => XS.isub X.here C.x rfl (hb C.by hd) rfl q) k
theorem G.imul (C : Cx p s m meth c Z y bytes maxL ret) {x1 x2 : Int32} (hd : decode bytes pc = .ok (.imul, 1))  (hn : pc + 1 = n) (k : Go p l e R s m args below meth c n0 Q cells slots h (mkF m n Ls (.int (x1 * x2) :: st))) : Go p l e R s m args below meth c n0 Q cells slots h (mkF m pc Ls (.int x2 :: .int x1 :: st)) := by
  subst hn
  exact Go.via (fun T locs X _ t q => XS.imul X.here C.x rfl (hb C.by hd) rfl q) k
theorem G.iand (C : Cx p s m meth c Z y bytes maxL ret) {x1 x2 : Int32} (hd : decode bytes pc = .ok (.iand, 1))  (hn : pc + 1 = n) (k : Go p l e R s m args below meth c n0 Q cells slots h (mkF m n Ls (.int (x1 &&& x2) :: st))) : Go p l e R s m args below meth c n0 Q cells slots h (mkF m pc Ls (.int x2 :: .int x1 :: st)) := by
  subst hn
  exact Go.via (fun T locs X _ t q => XS.iand X.here C.x rfl (hb C.by hd) rfl q) k
theorem G.ior (C : Cx p s m meth c Z y bytes maxL ret) {x1 x2 : Int32} (hd : decode bytes pc = .ok (.ior, 1))  (hn : pc + 1 = n) (k : Go p l e R s m args below meth c n0 Q cells slots h (mkF m n Ls (.int (x1 ||| x2) :: st))) : Go p l e R s m args below meth c n0 Q cells slots h (mkF m pc Ls (.int x2 :: .int x1 :: st)) := by
  subst hn
  exact Go.via (fun T locs X _ t q => XS.ior X.here C.x rfl (hb C.by hd) rfl q) k
theorem G.ixor (C : Cx p s m meth c Z y bytes maxL ret) {x1 x2 : Int32} (hd : decode bytes pc = .ok (.ixor, 1))  (hn : pc + 1 = n) (k : Go p l e R s m args below meth c n0 Q cells slots h (mkF m n Ls (.int (x1 ^^^ x2) :: st))) : Go p l e R s m args below meth c n0 Q cells slots h (mkF m pc Ls (.int x2 :: .int x1 :: st)) := by
  subst hn
  exact Go.via (fun T locs X _ t q => XS.ixor X.here C.x rfl (hb C.by hd) rfl q) k
theorem G.ladd (C : Cx p s m meth c Z y bytes maxL ret) {x1 x2 : Int64} (hd : decode bytes pc = .ok (.ladd, 1))  (hn : pc + 1 = n) (k : Go p l e R s m args below meth c n0 Q cells slots h (mkF m n Ls (.long (x1 + x2) :: st))) : Go p l e R s m args below meth c n0 Q cells slots h (mkF m pc Ls (.long x2 :: .long x1 :: st)) := by
  subst hn
  exact Go.via (fun T locs X _ t q => XS.ladd X.here C.x rfl (hb C.by hd) rfl q) k
theorem G.lsub (C : Cx p s m meth c Z y bytes maxL ret) {x1 x2 : Int64} (hd : decode bytes pc = .ok (.lsub, 1))  (hn : pc + 1 = n) (k : Go p l e R s m args below meth c n0 Q cells slots h (mkF m n Ls (.long (x1 - x2) :: st))) : Go p l e R s m args below meth c n0 Q cells slots h (mkF m pc Ls (.long x2 :: .long x1 :: st)) := by
  subst hn
  exact Go.via (fun T locs X _ t q => XS.lsub X.here C.x rfl (hb C.by hd) rfl q) k
theorem G.lmul (C : Cx p s m meth c Z y bytes maxL ret) {x1 x2 : Int64} (hd : decode bytes pc = .ok (.lmul, 1))  (hn : pc + 1 = n) (k : Go p l e R s m args below meth c n0 Q cells slots h (mkF m n Ls (.long (x1 * x2) :: st))) : Go p l e R s m args below meth c n0 Q cells slots h (mkF m pc Ls (.long x2 :: .long x1 :: st)) := by
  subst hn
  exact Go.via (fun T locs X _ t q => XS.lmul X.here C.x rfl (hb C.by hd) rfl q) k
theorem G.land (C : Cx p s m meth c Z y bytes maxL ret) {x1 x2 : Int64} (hd : decode bytes pc = .ok (.land, 1))  (hn : pc + 1 = n) (k : Go p l e R s m args below meth c n0 Q cells slots h (mkF m n Ls (.long (x1 &&& x2) :: st))) : Go p l e R s m args below meth c n0 Q cells slots h (mkF m pc Ls (.long x2 :: .long x1 :: st)) := by
  subst hn
  exact Go.via (fun T locs X _ t q => XS.land X.here C.x rfl (hb C.by hd) rfl q) k
theorem G.lor (C : Cx p s m meth c Z y bytes maxL ret) {x1 x2 : Int64} (hd : decode bytes pc = .ok (.lor, 1))  (hn : pc + 1 = n) (k : Go p l e R s m args below meth c n0 Q cells slots h (mkF m n Ls (.long (x1 ||| x2) :: st))) : Go p l e R s m args below meth c n0 Q cells slots h (mkF m pc Ls (.long x2 :: .long x1 :: st)) := by
  subst hn
  exact Go.via (fun T locs X _ t q => XS.lor X.here C.x rfl (hb C.by hd) rfl q) k
theorem G.lxor (C : Cx p s m meth c Z y bytes maxL ret) {x1 x2 : Int64} (hd : decode bytes pc = .ok (.lxor, 1))  (hn : pc + 1 = n) (k : Go p l e R s m args below meth c n0 Q cells slots h (mkF m n Ls (.long (x1 ^^^ x2) :: st))) : Go p l e R s m args below meth c n0 Q cells slots h (mkF m pc Ls (.long x2 :: .long x1 :: st)) := by
  subst hn
  exact Go.via (fun T locs X _ t q => XS.lxor X.here C.x rfl (hb C.by hd) rfl q) k
theorem G.idiv (C : Cx p s m meth c Z y bytes maxL ret) {x1 x2 : Int32} (hd : decode bytes pc = .ok (.idiv, 1)) (hy : x2 ≠ 0) (hn : pc + 1 = n) (k : Go p l e R s m args below meth c n0 Q cells slots h (mkF m n Ls (.int (x1 / x2) :: st))) : Go p l e R s m args below meth c n0 Q cells slots h (mkF m pc Ls (.int x2 :: .int x1 :: st)) := by
  subst hn
  exact Go.via (fun T locs X _ t q => XS.idiv X.here C.x rfl (hb C.by hd) rfl hy q) k
theorem G.ishl (C : Cx p s m meth c Z y bytes maxL ret) {x1 x2 : Int32} (hd : decode bytes pc = .ok (.ishl, 1))  (hn : pc + 1 = n) (k : Go p l e R s m args below meth c n0 Q cells slots h (mkF m n Ls (.int (x1 <<< (x2 &&& 31)) :: st))) : Go p l e R s m args below meth c n0 Q cells slots h (mkF m pc Ls (.int x2 :: .int x1 :: st)) := by
  subst hn
  exact Go.via (fun T locs X _ t q => XS.ishl X.here C.x rfl (hb C.by hd) rfl q) k
theorem G.ishr (C : Cx p s m meth c Z y bytes maxL ret) {x1 x2 : Int32} (hd : decode bytes pc = .ok (.ishr, 1))  (hn : pc + 1 = n) (k : Go p l e R s m args below meth c n0 Q cells slots h (mkF m n Ls (.int (x1 >>> (x2 &&& 31)) :: st))) : Go p l e R s m args below meth c n0 Q cells slots h (mkF m pc Ls (.int x2 :: .int x1 :: st)) := by
  subst hn
  exact Go.via (fun T locs X _ t q => XS.ishr X.here C.x rfl (hb C.by hd) rfl q) k
theorem G.iushr (C : Cx p s m meth c Z y bytes maxL ret) {x1 x2 : Int32} (hd : decode bytes pc = .ok (.iushr, 1))  (hn : pc + 1 = n) (k : Go p l e R s m args below meth c n0 Q cells slots h (mkF m n Ls (.int ((x1.toUInt32 >>> (x2 &&& 31).toUInt32).toInt32) :: st))) : Go p l e R s m args below meth c n0 Q cells slots h (mkF m pc Ls (.int x2 :: .int x1 :: st)) := by
  subst hn
  exact Go.via (fun T locs X _ t q => XS.iushr X.here C.x rfl (hb C.by hd) rfl q) k
theorem G.irem (C : Cx p s m meth c Z y bytes maxL ret) {x1 x2 : Int32} (hd : decode bytes pc = .ok (.irem, 1)) (hy : x2 ≠ 0) (hn : pc + 1 = n) (k : Go p l e R s m args below meth c n0 Q cells slots h (mkF m n Ls (.int (x1 % x2) :: st))) : Go p l e R s m args below meth c n0 Q cells slots h (mkF m pc Ls (.int x2 :: .int x1 :: st)) := by
  subst hn
  exact Go.via (fun T locs X _ t q => iremM X C.x rfl (hb C.by hd) rfl hy q) k
theorem G.ldiv (C : Cx p s m meth c Z y bytes maxL ret) {x1 x2 : Int64} (hd : decode bytes pc = .ok (.ldiv, 1)) (hy : x2 ≠ 0) (hn : pc + 1 = n) (k : Go p l e R s m args below meth c n0 Q cells slots h (mkF m n Ls (.long (x1 / x2) :: st))) : Go p l e R s m args below meth c n0 Q cells slots h (mkF m pc Ls (.long x2 :: .long x1 :: st)) := by
  subst hn
  exact Go.via (fun T locs X _ t q => XS.ldiv X.here C.x rfl (hb C.by hd) rfl hy q) k
theorem G.lrem (C : Cx p s m meth c Z y bytes maxL ret) {x1 x2 : Int64} (hd : decode bytes pc = .ok (.lrem, 1)) (hy : x2 ≠ 0) (hn : pc + 1 = n) (k : Go p l e R s m args below meth c n0 Q cells slots h (mkF m n Ls (.long (x1 - (x1 / x2) * x2) :: st))) : Go p l e R s m args below meth c n0 Q cells slots h (mkF m pc Ls (.long x2 :: .long x1 :: st)) := by
  subst hn
  exact Go.via (fun T locs X _ t q => XS.lrem X.here C.x rfl (hb C.by hd) rfl hy q) k
theorem G.lshl (C : Cx p s m meth c Z y bytes maxL ret) {x1 : Int64} {x2 : Int32} (hd : decode bytes pc = .ok (.lshl, 1))  (hn : pc + 1 = n) (k : Go p l e R s m args below meth c n0 Q cells slots h (mkF m n Ls (.long (x1 <<< (x2 &&& 0x3f).toInt64) :: st))) : Go p l e R s m args below meth c n0 Q cells slots h (mkF m pc Ls (.int x2 :: .long x1 :: st)) := by
  subst hn
  exact Go.via (fun T locs X _ t q => XS.lshl X.here C.x rfl (hb C.by hd) rfl q) k
theorem G.lshr (C : Cx p s m meth c Z y bytes maxL ret) {x1 : Int64} {x2 : Int32} (hd : decode bytes pc = .ok (.lshr, 1))  (hn : pc + 1 = n) (k : Go p l e R s m args below meth c n0 Q cells slots h (mkF m n Ls (.long (x1 >>> (x2 &&& 0x3f).toInt64) :: st))) : Go p l e R s m args below meth c n0 Q cells slots h (mkF m pc Ls (.int x2 :: .long x1 :: st)) := by
  subst hn
  exact Go.via (fun T locs X _ t q => XS.lshr X.here C.x rfl (hb C.by hd) rfl q) k
theorem G.lushr (C : Cx p s m meth c Z y bytes maxL ret) {x1 : Int64} {x2 : Int32} (hd : decode bytes pc = .ok (.lushr, 1))  (hn : pc + 1 = n) (k : Go p l e R s m args below meth c n0 Q cells slots h (mkF m n Ls (.long ((x1.toUInt64 >>> (x2 &&& 0x3f).toInt64.toUInt64).toInt64) :: st))) : Go p l e R s m args below meth c n0 Q cells slots h (mkF m pc Ls (.int x2 :: .long x1 :: st)) := by
  subst hn
  exact Go.via (fun T locs X _ t q => XS.lushr X.here C.x rfl (hb C.by hd) rfl q) k
theorem G.ineg (C : Cx p s m meth c Z y bytes maxL ret) {x : Int32} (hd : decode bytes pc = .ok (.ineg, 1))  (hn : pc + 1 = n) (k : Go p l e R s m args below meth c n0 Q cells slots h (mkF m n Ls (.int (-x) :: st))) : Go p l e R s m args below meth c n0 Q cells slots h (mkF m pc Ls (.int x :: st)) := by
  subst hn
  exact Go.via (fun T locs X _ t q => XS.ineg X.here C.x rfl (hb C.by hd) rfl q) k
theorem G.lneg (C : Cx p s m meth c Z y bytes maxL ret) {x : Int64} (hd : decode bytes pc = .ok (.lneg, 1))  (hn : pc + 1 = n) (k : Go p l e R s m args below meth c n0 Q cells slots h (mkF m n Ls (.long (-x) :: st))) : Go p l e R s m args below meth c n0 Q cells slots h (mkF m pc Ls (.long x :: st)) := by
  subst hn
  exact Go.via (fun T locs X _ t q => XS.lneg X.here C.x rfl (hb C.by hd) rfl q) k
theorem G.i2l (C : Cx p s m meth c Z y bytes maxL ret) {x : Int32} (hd : decode bytes pc = .ok (.i2l, 1))  (hn : pc + 1 = n) (k : Go p l e R s m args below meth c n0 Q cells slots h (mkF m n Ls (.long (x.toInt64) :: st))) : Go p l e R s m args below meth c n0 Q cells slots h (mkF m pc Ls (.int x :: st)) := by
  subst hn
  exact Go.via (fun T locs X _ t q => XS.i2l X.here C.x rfl (hb C.by hd) rfl q) k
theorem G.l2i (C : Cx p s m meth c Z y bytes maxL ret) {x : Int64} (hd : decode bytes pc = .ok (.l2i, 1))  (hn : pc + 1 = n) (k : Go p l e R s m args below meth c n0 Q cells slots h (mkF m n Ls (.int (x.toInt32) :: st))) : Go p l e R s m args below meth c n0 Q cells slots h (mkF m pc Ls (.long x :: st)) := by
  subst hn
  exact Go.via (fun T locs X _ t q => XS.l2i X.here C.x rfl (hb C.by hd) rfl q) k
theorem G.i2b (C : Cx p s m meth c Z y bytes maxL ret) {x : Int32} (hd : decode bytes pc = .ok (.i2b, 1))  (hn : pc + 1 = n) (k : Go p l e R s m args below meth c n0 Q cells slots h (mkF m n Ls (.int (x.toInt8.toInt32) :: st))) : Go p l e R s m args below meth c n0 Q cells slots h (mkF m pc Ls (.int x :: st)) := by
  subst hn
  exact Go.via (fun T locs X _ t q => XS.i2b X.here C.x rfl (hb C.by hd) rfl q) k
theorem G.i2s (C : Cx p s m meth c Z y bytes maxL ret) {x : Int32} (hd : decode bytes pc = .ok (.i2s, 1))  (hn : pc + 1 = n) (k : Go p l e R s m args below meth c n0 Q cells slots h (mkF m n Ls (.int (x.toInt16.toInt32) :: st))) : Go p l e R s m args below meth c n0 Q cells slots h (mkF m pc Ls (.int x :: st)) := by
  subst hn
  exact Go.via (fun T locs X _ t q => XS.i2s X.here C.x rfl (hb C.by hd) rfl q) k
theorem G.i2c (C : Cx p s m meth c Z y bytes maxL ret) {x : Int32} (hd : decode bytes pc = .ok (.i2c, 1))  (hn : pc + 1 = n) (k : Go p l e R s m args below meth c n0 Q cells slots h (mkF m n Ls (.int (x.toUInt32.toUInt16.toUInt32.toInt32) :: st))) : Go p l e R s m args below meth c n0 Q cells slots h (mkF m pc Ls (.int x :: st)) := by
  subst hn
  exact Go.via (fun T locs X _ t q => XS.i2c X.here C.x rfl (hb C.by hd) rfl q) k
theorem G.iconst (C : Cx p s m meth c Z y bytes maxL ret) {i : Int} (v : Int32) (hd : decode bytes pc = .ok (.iconst i, 1)) (hv : Int32.ofInt i = v) (hn : pc + 1 = n) (k : Go p l e R s m args below meth c n0 Q cells slots h (mkF m n Ls (.int v :: st))) : Go p l e R s m args below meth c n0 Q cells slots h (mkF m pc Ls (st)) := by
  subst hn hv
  exact Go.via (fun T locs X _ t q => XS.iconst X.here C.x rfl (hb C.by hd)  q) k
theorem G.bipush (C : Cx p s m meth c Z y bytes maxL ret) {i : Int} (v : Int32) (hd : decode bytes pc = .ok (.bipush i, 2)) (hv : (Int8.ofInt i).toInt32 = v) (hn : pc + 2 = n) (k : Go p l e R s m args below meth c n0 Q cells slots h (mkF m n Ls (.int v :: st))) : Go p l e R s m args below meth c n0 Q cells slots h (mkF m pc Ls (st)) := by
  subst hn hv
  exact Go.via (fun T locs X _ t q => XS.bipush X.here C.x rfl (hb C.by hd)  q) k
theorem G.sipush (C : Cx p s m meth c Z y bytes maxL ret) {i : Int} (v : Int32) (hd : decode bytes pc = .ok (.sipush i, 3)) (hv : (Int16.ofInt i).toInt32 = v) (hn : pc + 3 = n) (k : Go p l e R s m args below meth c n0 Q cells slots h (mkF m n Ls (.int v :: st))) : Go p l e R s m args below meth c n0 Q cells slots h (mkF m pc Ls (st)) := by
  subst hn hv
  exact Go.via (fun T locs X _ t q => XS.sipush X.here C.x rfl (hb C.by hd)  q) k
theorem G.lconst (C : Cx p s m meth c Z y bytes maxL ret) {i : Fin 2} (v : Int64) (hd : decode bytes pc = .ok (.lconst i, 1)) (hv : Int64.ofNat i = v) (hn : pc + 1 = n) (k : Go p l e R s m args below meth c n0 Q cells slots h (mkF m n Ls (.long v :: st))) : Go p l e R s m args below meth c n0 Q cells slots h (mkF m pc Ls (st)) := by
  subst hn hv
  exact Go.via (fun T locs X _ t q => XS.lconst X.here C.x rfl (hb C.by hd)  q) k
theorem G.aconst_null (C : Cx p s m meth c Z y bytes maxL ret)  (hd : decode bytes pc = .ok (.aconst_null, 1))  (hn : pc + 1 = n) (k : Go p l e R s m args below meth c n0 Q cells slots h (mkF m n Ls (.null :: st))) : Go p l e R s m args below meth c n0 Q cells slots h (mkF m pc Ls (st)) := by
  subst hn
  exact Go.via (fun T locs X _ t q => XS.aconstNull X.here C.x rfl (hb C.by hd)  q) k
theorem G.iload (C : Cx p s m meth c Z y bytes maxL ret) {k : Nat} {v : Int32} (hd : decode bytes pc = .ok (.iload k, 2)) (hl : Ls[k]? = some (.val (.int v)))  (hn : pc + 2 = n) (k : Go p l e R s m args below meth c n0 Q cells slots h (mkF m n Ls (.int v :: st))) : Go p l e R s m args below meth c n0 Q cells slots h (mkF m pc Ls (st)) := by
  subst hn
  exact Go.via (fun T locs X _ t q => XS.iload X.here C.x rfl (hb C.by hd) hl q) k
theorem G.iloadN (C : Cx p s m meth c Z y bytes maxL ret) {k : Fin 4} {v : Int32} (hd : decode bytes pc = .ok (.iload_n k, 1)) (hl : Ls[k.val]? = some (.val (.int v)))  (hn : pc + 1 = n) (k : Go p l e R s m args below meth c n0 Q cells slots h (mkF m n Ls (.int v :: st))) : Go p l e R s m args below meth c n0 Q cells slots h (mkF m pc Ls (st)) := by
  subst hn
  exact Go.via (fun T locs X _ t q => XS.iloadN X.here C.x rfl (hb C.by hd) hl q) k
theorem G.lload (C : Cx p s m meth c Z y bytes maxL ret) {k : Nat} {v : Int64} (hd : decode bytes pc = .ok (.lload k, 2)) (hl : Ls[k]? = some (.val (.long v)))  (hn : pc + 2 = n) (k : Go p l e R s m args below meth c n0 Q cells slots h (mkF m n Ls (.long v :: st))) : Go p l e R s m args below meth c n0 Q cells slots h (mkF m pc Ls (st)) := by
  subst hn
  exact Go.via (fun T locs X _ t q => XS.lload X.here C.x rfl (hb C.by hd) hl q) k
theorem G.lloadN (C : Cx p s m meth c Z y bytes maxL ret) {k : Fin 4} {v : Int64} (hd : decode bytes pc = .ok (.lload_n k, 1)) (hl : Ls[k.val]? = some (.val (.long v)))  (hn : pc + 1 = n) (k : Go p l e R s m args below meth c n0 Q cells slots h (mkF m n Ls (.long v :: st))) : Go p l e R s m args below meth c n0 Q cells slots h (mkF m pc Ls (st)) := by
  subst hn
  exact Go.via (fun T locs X _ t q => XS.lloadN X.here C.x rfl (hb C.by hd) hl q) k
theorem G.aload (C : Cx p s m meth c Z y bytes maxL ret) {k : Nat} {v : Value} (hd : decode bytes pc = .ok (.aload k, 2)) (hl : Ls[k]? = some (.val (v))) (hv : v.isRef = true) (hn : pc + 2 = n) (k : Go p l e R s m args below meth c n0 Q cells slots h (mkF m n Ls (v :: st))) : Go p l e R s m args below meth c n0 Q cells slots h (mkF m pc Ls (st)) := by
  subst hn
  exact Go.via (fun T locs X _ t q => XS.aload X.here C.x rfl (hb C.by hd) hl hv q) k
theorem G.aloadN (C : Cx p s m meth c Z y bytes maxL ret) {k : Fin 4} {v : Value} (hd : decode bytes pc = .ok (.aload_n k, 1)) (hl : Ls[k.val]? = some (.val (v))) (hv : v.isRef = true) (hn : pc + 1 = n) (k : Go p l e R s m args below meth c n0 Q cells slots h (mkF m n Ls (v :: st))) : Go p l e R s m args below meth c n0 Q cells slots h (mkF m pc Ls (st)) := by
  subst hn
  exact Go.via (fun T locs X _ t q => XS.aloadN X.here C.x rfl (hb C.by hd) hl hv q) k
theorem G.istore (C : Cx p s m meth c Z y bytes maxL ret) {k : Nat} {x : Int32} {l' : Array Slot} (hd : decode bytes pc = .ok (.istore k, 2))  (hl : storeLocals Ls k (.int x) = some l') (hn : pc + 2 = n) (kk : Go p l e R s m args below meth c n0 Q cells slots h (mkF m n l' (st))) : Go p l e R s m args below meth c n0 Q cells slots h (mkF m pc Ls (.int x :: st)) := by
  subst hn
  exact Go.via (fun T locs X _ t q => XS.istore X.here C.x rfl (hb C.by hd) rfl hl q) kk
theorem G.istoreZ (C : Cx p s m meth c Z y bytes maxL ret) {k : Nat} {x : Int32} {l' : Int32 → Array Slot} (hd : decode bytes pc = .ok (.istore k, 2)) (hl : ∀ z, storeLocals Ls k (.int z) = some (l' z)) (hn : pc + 2 = n) (kk : ∀ z, z = x → Go p l e R s m args below meth c n0 Q cells slots h (mkF m n (l' z) (st))) : Go p l e R s m args below meth c n0 Q cells slots h (mkF m pc Ls (.int x :: st)) :=
  G.istore C hd (hl x) hn (kk x rfl)
theorem G.istoreN (C : Cx p s m meth c Z y bytes maxL ret) {k : Fin 4} {x : Int32} {l' : Array Slot} (hd : decode bytes pc = .ok (.istore_n k, 1))  (hl : storeLocals Ls k.val (.int x) = some l') (hn : pc + 1 = n) (kk : Go p l e R s m args below meth c n0 Q cells slots h (mkF m n l' (st))) : Go p l e R s m args below meth c n0 Q cells slots h (mkF m pc Ls (.int x :: st)) := by
  subst hn
  exact Go.via (fun T locs X _ t q => XS.istoreN X.here C.x rfl (hb C.by hd) rfl hl q) kk
theorem G.istoreNZ (C : Cx p s m meth c Z y bytes maxL ret) {k : Fin 4} {x : Int32} {l' : Int32 → Array Slot} (hd : decode bytes pc = .ok (.istore_n k, 1)) (hl : ∀ z, storeLocals Ls k.val (.int z) = some (l' z)) (hn : pc + 1 = n) (kk : ∀ z, z = x → Go p l e R s m args below meth c n0 Q cells slots h (mkF m n (l' z) (st))) : Go p l e R s m args below meth c n0 Q cells slots h (mkF m pc Ls (.int x :: st)) :=
  G.istoreN C hd (hl x) hn (kk x rfl)
theorem G.lstore (C : Cx p s m meth c Z y bytes maxL ret) {k : Nat} {x : Int64} {l' : Array Slot} (hd : decode bytes pc = .ok (.lstore k, 2))  (hl : storeLocals Ls k (.long x) = some l') (hn : pc + 2 = n) (kk : Go p l e R s m args below meth c n0 Q cells slots h (mkF m n l' (st))) : Go p l e R s m args below meth c n0 Q cells slots h (mkF m pc Ls (.long x :: st)) := by
  subst hn
  exact Go.via (fun T locs X _ t q => XS.lstore X.here C.x rfl (hb C.by hd) rfl hl q) kk
theorem G.lstoreZ (C : Cx p s m meth c Z y bytes maxL ret) {k : Nat} {x : Int64} {l' : Int64 → Array Slot} (hd : decode bytes pc = .ok (.lstore k, 2)) (hl : ∀ z, storeLocals Ls k (.long z) = some (l' z)) (hn : pc + 2 = n) (kk : ∀ z, z = x → Go p l e R s m args below meth c n0 Q cells slots h (mkF m n (l' z) (st))) : Go p l e R s m args below meth c n0 Q cells slots h (mkF m pc Ls (.long x :: st)) :=
  G.lstore C hd (hl x) hn (kk x rfl)
theorem G.lstoreN (C : Cx p s m meth c Z y bytes maxL ret) {k : Fin 4} {x : Int64} {l' : Array Slot} (hd : decode bytes pc = .ok (.lstore_n k, 1))  (hl : storeLocals Ls k.val (.long x) = some l') (hn : pc + 1 = n) (kk : Go p l e R s m args below meth c n0 Q cells slots h (mkF m n l' (st))) : Go p l e R s m args below meth c n0 Q cells slots h (mkF m pc Ls (.long x :: st)) := by
  subst hn
  exact Go.via (fun T locs X _ t q => XS.lstoreN X.here C.x rfl (hb C.by hd) rfl hl q) kk
theorem G.lstoreNZ (C : Cx p s m meth c Z y bytes maxL ret) {k : Fin 4} {x : Int64} {l' : Int64 → Array Slot} (hd : decode bytes pc = .ok (.lstore_n k, 1)) (hl : ∀ z, storeLocals Ls k.val (.long z) = some (l' z)) (hn : pc + 1 = n) (kk : ∀ z, z = x → Go p l e R s m args below meth c n0 Q cells slots h (mkF m n (l' z) (st))) : Go p l e R s m args below meth c n0 Q cells slots h (mkF m pc Ls (.long x :: st)) :=
  G.lstoreN C hd (hl x) hn (kk x rfl)
theorem G.astore (C : Cx p s m meth c Z y bytes maxL ret) {k : Nat} {x : Value} {l' : Array Slot} (hd : decode bytes pc = .ok (.astore k, 2)) (hv : x.isRef = true) (hl : storeLocals Ls k (x) = some l') (hn : pc + 2 = n) (kk : Go p l e R s m args below meth c n0 Q cells slots h (mkF m n l' (st))) : Go p l e R s m args below meth c n0 Q cells slots h (mkF m pc Ls (x :: st)) := by
  subst hn
  exact Go.via (fun T locs X _ t q => XS.astore X.here C.x rfl (hb C.by hd) rfl hv hl q) kk
theorem G.astoreN (C : Cx p s m meth c Z y bytes maxL ret) {k : Fin 4} {x : Value} {l' : Array Slot} (hd : decode bytes pc = .ok (.astore_n k, 1)) (hv : x.isRef = true) (hl : storeLocals Ls k.val (x) = some l') (hn : pc + 1 = n) (kk : Go p l e R s m args below meth c n0 Q cells slots h (mkF m n l' (st))) : Go p l e R s m args below meth c n0 Q cells slots h (mkF m pc Ls (x :: st)) := by
  subst hn
  exact Go.via (fun T locs X _ t q => XS.astoreN X.here C.x rfl (hb C.by hd) rfl hv hl q) kk
theorem G.iinc (C : Cx p s m meth c Z y bytes maxL ret) {k : Nat} {cst : Int} (v : Int32) {x : Int32} {l' : Array Slot} (hd : decode bytes pc = .ok (.iinc k cst, 3)) (hv : Int32.ofInt cst = v) (hx : Ls[k]? = some (.val (.int x))) (hl : storeLocals Ls k (.int (x + v)) = some l') (hn : pc + 3 = n) (kk : Go p l e R s m args below meth c n0 Q cells slots h (mkF m n l' (st))) : Go p l e R s m args below meth c n0 Q cells slots h (mkF m pc Ls (st)) := by
  subst hn hv
  exact Go.via (fun T locs X _ t q => XS.iinc X.here C.x rfl (hb C.by hd) hx hl q) kk
theorem G.iincZ (C : Cx p s m meth c Z y bytes maxL ret) {k : Nat} {cst : Int} (v : Int32) {x : Int32} {l' : Int32 → Array Slot} (hd : decode bytes pc = .ok (.iinc k cst, 3)) (hv : Int32.ofInt cst = v) (hx : Ls[k]? = some (.val (.int x))) (hl : ∀ z, storeLocals Ls k (.int z) = some (l' z)) (hn : pc + 3 = n) (kk : ∀ z, z = x + v → Go p l e R s m args below meth c n0 Q cells slots h (mkF m n (l' z) (st))) : Go p l e R s m args below meth c n0 Q cells slots h (mkF m pc Ls (st)) :=
  G.iinc C v hd hv hx (hl _) hn (kk _ rfl)
theorem G.iincK (C : Cx p s m meth c Z y bytes maxL ret) {k : Nat} {cst : Int} (v : Int32) {x : Int32} (z : Int32) {l' : Array Slot} (hd : decode bytes pc = .ok (.iinc k cst, 3)) (hv : Int32.ofInt cst = v) (hx : Ls[k]? = some (.val (.int x))) (hz : x + v = z) (hl : storeLocals Ls k (.int z) = some l') (hn : pc + 3 = n) (kk : Go p l e R s m args below meth c n0 Q cells slots h (mkF m n l' (st))) : Go p l e R s m args below meth c n0 Q cells slots h (mkF m pc Ls (st)) := by
  subst hz
  exact G.iinc C v hd hv hx hl hn kk
theorem G.name_int {x : Int32} (kk : ∀ z, z = x → Go p l e R s m args below meth c n0 Q cells slots h (mkF m pc Ls (.int z :: st))) : Go p l e R s m args below meth c n0 Q cells slots h (mkF m pc Ls (.int x :: st)) := kk x rfl
theorem G.name_long {x : Int64} (kk : ∀ z, z = x → Go p l e R s m args below meth c n0 Q cells slots h (mkF m pc Ls (.long z :: st))) : Go p l e R s m args below meth c n0 Q cells slots h (mkF m pc Ls (.long x :: st)) := kk x rfl
theorem G.fold_int {x z : Int32} (hz : x = z) (kk : Go p l e R s m args below meth c n0 Q cells slots h (mkF m pc Ls (.int z :: st))) : Go p l e R s m args below meth c n0 Q cells slots h (mkF m pc Ls (.int x :: st)) := hz ▸ kk
theorem G.fold_long {x z : Int64} (hz : x = z) (kk : Go p l e R s m args below meth c n0 Q cells slots h (mkF m pc Ls (.long z :: st))) : Go p l e R s m args below meth c n0 Q cells slots h (mkF m pc Ls (.long x :: st)) := hz ▸ kk
theorem G.dup (C : Cx p s m meth c Z y bytes maxL ret) {x : Value} (hd : decode bytes pc = .ok (.dup, 1)) (hc : x.category = 1) (hn : pc + 1 = n) (k : Go p l e R s m args below meth c n0 Q cells slots h (mkF m n Ls (x :: x :: st))) : Go p l e R s m args below meth c n0 Q cells slots h (mkF m pc Ls (x :: st)) := by
  subst hn
  exact Go.via (fun T locs X _ t q => XS.dup X.here C.x rfl (hb C.by hd) rfl hc q) k
theorem G.pop (C : Cx p s m meth c Z y bytes maxL ret) {x : Value} (hd : decode bytes pc = .ok (.pop, 1)) (hc : x.category = 1) (hn : pc + 1 = n) (k : Go p l e R s m args below meth c n0 Q cells slots h (mkF m n Ls (st))) : Go p l e R s m args below meth c n0 Q cells slots h (mkF m pc Ls (x :: st)) := by
  subst hn
  exact Go.via (fun T locs X _ t q => XS.pop X.here C.x rfl (hb C.by hd) rfl hc q) k
theorem G.dup_x1 (C : Cx p s m meth c Z y bytes maxL ret) {x x2 : Value} (hd : decode bytes pc = .ok (.dup_x1, 1)) (hc : x.category = 1) (hc2 : x2.category = 1) (hn : pc + 1 = n) (k : Go p l e R s m args below meth c n0 Q cells slots h (mkF m n Ls (x :: x2 :: x :: st))) : Go p l e R s m args below meth c n0 Q cells slots h (mkF m pc Ls (x :: x2 :: st)) := by
  subst hn
  exact Go.via (fun T locs X _ t q => XS.dupX1 X.here C.x rfl (hb C.by hd) rfl hc hc2 q) k
theorem G.dup2 (C : Cx p s m meth c Z y bytes maxL ret) {x x2 : Value} (hd : decode bytes pc = .ok (.dup2, 1)) (hc : x.category = 1) (hc2 : x2.category = 1) (hn : pc + 1 = n) (k : Go p l e R s m args below meth c n0 Q cells slots h (mkF m n Ls (x :: x2 :: x :: x2 :: st))) : Go p l e R s m args below meth c n0 Q cells slots h (mkF m pc Ls (x :: x2 :: st)) := by
  subst hn
  exact Go.via (fun T locs X _ t q => XT.dup2 X.here C.x rfl (hb C.by hd) rfl hc hc2 q) k
theorem G.dup2L (C : Cx p s m meth c Z y bytes maxL ret) {x : Int64} (hd : decode bytes pc = .ok (.dup2, 1)) (hn : pc + 1 = n) (k : Go p l e R s m args below meth c n0 Q cells slots h (mkF m n Ls (.long x :: .long x :: st))) : Go p l e R s m args below meth c n0 Q cells slots h (mkF m pc Ls (.long x :: st)) := by
  subst hn
  exact Go.via (fun T locs X _ t q => XT.dup2L X.here C.x rfl (hb C.by hd) rfl q) k
theorem G.goto (C : Cx p s m meth c Z y bytes maxL ret) {o : Int} (hd : decode bytes pc = .ok (.goto o, 3)) (ho : 0 ≤ (pc : Int) + o) (hp : ((pc : Int) + o).toNat = n) (k : Go p l e R s m args below meth c n0 Q cells slots h (mkF m n Ls (st))) : Go p l e R s m args below meth c n0 Q cells slots h (mkF m pc Ls (st)) :=
  Go.via (fun T locs X _ t q => XS.goto X.here C.x rfl rfl (hb C.by hd) ho hp q) k
theorem lt_i {x y : Int32} : x < y ↔ x.toInt < y.toInt := Int32.lt_iff_toInt_lt
theorem lt_l {x y : Int64} : x < y ↔ x.toInt < y.toInt := Int64.lt_iff_toInt_lt
theorem le_i {x y : Int32} : x ≤ y ↔ x.toInt ≤ y.toInt := Int32.le_iff_toInt_le
theorem le_l {x y : Int64} : x ≤ y ↔ x.toInt ≤ y.toInt := Int64.le_iff_toInt_le
theorem ich_lt {x1 x2 : Int32} : (x1.toInt < x2.toInt ∧ if_icmp.holds .lt x1 x2 = true) ∨ (x2.toInt ≤ x1.toInt ∧ if_icmp.holds .lt x1 x2 = false) := by
  by_cases q : x1.toInt < x2.toInt
  · exact Or.inl ⟨q, by simp [if_icmp.holds, lt_i, le_i, Int32.lt_iff_toInt_lt, Int32.le_iff_toInt_le, q]⟩
  · exact Or.inr ⟨by omega, by first | (simp [if_icmp.holds, lt_i, le_i, Int32.lt_iff_toInt_lt, Int32.le_iff_toInt_le, q]; done) | (simp [if_icmp.holds, lt_i, le_i, Int32.lt_iff_toInt_lt, Int32.le_iff_toInt_le]; omega)⟩
theorem G.icmp_lt (C : Cx p s m meth c Z y bytes maxL ret) {x1 x2 : Int32} {o : Int} {A B : Int} (hA : x1.toInt = A) (hB : x2.toInt = B) (hd : decode bytes pc = .ok (.if_icmp .lt o, 3)) (ho : 0 ≤ (pc : Int) + o) (hp : ((pc : Int) + o).toNat = n') (hn : pc + 3 = n) (kt : A < B → Go p l e R s m args below meth c n0 Q cells slots h (mkF m n' Ls (st))) (kf : B ≤ A → Go p l e R s m args below meth c n0 Q cells slots h (mkF m n Ls (st))) : Go p l e R s m args below meth c n0 Q cells slots h (mkF m pc Ls (.int x2 :: .int x1 :: st)) := by
  subst hn hA hB
  rcases ich_lt (x1 := x1) (x2 := x2) with ⟨q, r⟩ | ⟨q, r⟩
  · exact Go.via (fun T locs X _ t q => XS.icmpYes X.here C.x rfl rfl (hb C.by hd) rfl r ho hp q) (kt q)
  · exact Go.via (fun T locs X _ t q => XS.icmpNo X.here C.x rfl (hb C.by hd) rfl r q) (kf q)
theorem G.if_lt (C : Cx p s m meth c Z y bytes maxL ret) {x1 : Int32} {o : Int} {A : Int} (hA : x1.toInt = A) (hd : decode bytes pc = .ok (.ifCond .lt o, 3)) (ho : 0 ≤ (pc : Int) + o) (hp : ((pc : Int) + o).toNat = n') (hn : pc + 3 = n) (kt : A < 0 → Go p l e R s m args below meth c n0 Q cells slots h (mkF m n' Ls (st))) (kf : 0 ≤ A → Go p l e R s m args below meth c n0 Q cells slots h (mkF m n Ls (st))) : Go p l e R s m args below meth c n0 Q cells slots h (mkF m pc Ls (.int x1 :: st)) := by
  subst hn hA
  rcases ich_lt (x1 := x1) (x2 := 0) with ⟨q, r⟩ | ⟨q, r⟩
  · exact Go.via (fun T locs X _ t q => XS.ifYes X.here C.x rfl rfl (hb C.by hd) rfl ((if0 _ _).trans r) ho hp q) (kt q)
  · exact Go.via (fun T locs X _ t q => XS.ifNo X.here C.x rfl (hb C.by hd) rfl ((if0 _ _).trans r) q) (kf q)
theorem lch_lt (x1 x2 : Int64) : ((lcmpW x1 x2).toInt < 0 → x1.toInt < x2.toInt) ∧ (0 ≤ (lcmpW x1 x2).toInt → x2.toInt ≤ x1.toInt) := by
  have q := c_lcmp x1 x2
  have z : ∀ x : Int32, x = 0 ↔ x.toInt = 0 := fun x => ⟨fun q => by rw [q]; rfl, fun q => Int32.toInt_inj.mp q⟩
  have w : x1 = x2 ↔ x1.toInt = x2.toInt := Int64.toInt_inj.symm
  
  constructor <;> intro r <;> omega
theorem G.lcmp_lt (C : Cx p s m meth c Z y bytes maxL ret) {x1 x2 : Int64} {o : Int} {A B : Int} (hA : x1.toInt = A) (hB : x2.toInt = B) (hc : decode bytes pc = .ok (.lcmp, 1)) (hd : decode bytes (pc + 1) = .ok (.ifCond .lt o, 3)) (ho : 0 ≤ ((pc + 1 : Nat) : Int) + o) (hp : (((pc + 1 : Nat) : Int) + o).toNat = n') (hn : pc + 4 = n) (kt : A < B → Go p l e R s m args below meth c n0 Q cells slots h (mkF m n' Ls (st))) (kf : B ≤ A → Go p l e R s m args below meth c n0 Q cells slots h (mkF m n Ls (st))) : Go p l e R s m args below meth c n0 Q cells slots h (mkF m pc Ls (.long x2 :: .long x1 :: st)) := by
  subst hn hA hB
  refine Go.via (fun T locs X _ t q => XS.lcmp X.here C.x rfl (hb C.by hc) rfl q) ?_
  exact G.if_lt C (A := (lcmpW x1 x2).toInt) rfl (pc := pc + 1) hd ho hp (n := pc + 4) rfl (fun q => kt ((lch_lt x1 x2).1 q)) (fun q => kf ((lch_lt x1 x2).2 q))
theorem ich_ge {x1 x2 : Int32} : (x2.toInt ≤ x1.toInt ∧ if_icmp.holds .ge x1 x2 = true) ∨ (x1.toInt < x2.toInt ∧ if_icmp.holds .ge x1 x2 = false) := by
  by_cases q : x2.toInt ≤ x1.toInt
  · exact Or.inl ⟨q, by simp [if_icmp.holds, lt_i, le_i, Int32.lt_iff_toInt_lt, Int32.le_iff_toInt_le, q]⟩
  · exact Or.inr ⟨by omega, by first | (simp [if_icmp.holds, lt_i, le_i, Int32.lt_iff_toInt_lt, Int32.le_iff_toInt_le, q]; done) | (simp [if_icmp.holds, lt_i, le_i, Int32.lt_iff_toInt_lt, Int32.le_iff_toInt_le]; omega)⟩
theorem G.icmp_ge (C : Cx p s m meth c Z y bytes maxL ret) {x1 x2 : Int32} {o : Int} {A B : Int} (hA : x1.toInt = A) (hB : x2.toInt = B) (hd : decode bytes pc = .ok (.if_icmp .ge o, 3)) (ho : 0 ≤ (pc : Int) + o) (hp : ((pc : Int) + o).toNat = n') (hn : pc + 3 = n) (kt : B ≤ A → Go p l e R s m args below meth c n0 Q cells slots h (mkF m n' Ls (st))) (kf : A < B → Go p l e R s m args below meth c n0 Q cells slots h (mkF m n Ls (st))) : Go p l e R s m args below meth c n0 Q cells slots h (mkF m pc Ls (.int x2 :: .int x1 :: st)) := by
  subst hn hA hB
  rcases ich_ge (x1 := x1) (x2 := x2) with ⟨q, r⟩ | ⟨q, r⟩
  · exact Go.via (fun T locs X _ t q => XS.icmpYes X.here C.x rfl rfl (hb C.by hd) rfl r ho hp q) (kt q)
  · exact Go.via (fun T locs X _ t q => XS.icmpNo X.here C.x rfl (hb C.by hd) rfl r q) (kf q)
theorem G.if_ge (C : Cx p s m meth c Z y bytes maxL ret) {x1 : Int32} {o : Int} {A : Int} (hA : x1.toInt = A) (hd : decode bytes pc = .ok (.ifCond .ge o, 3)) (ho : 0 ≤ (pc : Int) + o) (hp : ((pc : Int) + o).toNat = n') (hn : pc + 3 = n) (kt : 0 ≤ A → Go p l e R s m args below meth c n0 Q cells slots h (mkF m n' Ls (st))) (kf : A < 0 → Go p l e R s m args below meth c n0 Q cells slots h (mkF m n Ls (st))) : Go p l e R s m args below meth c n0 Q cells slots h (mkF m pc Ls (.int x1 :: st)) := by
  subst hn hA
  rcases ich_ge (x1 := x1) (x2 := 0) with ⟨q, r⟩ | ⟨q, r⟩
  · exact Go.via (fun T locs X _ t q => XS.ifYes X.here C.x rfl rfl (hb C.by hd) rfl ((if0 _ _).trans r) ho hp q) (kt q)
  · exact Go.via (fun T locs X _ t q => XS.ifNo X.here C.x rfl (hb C.by hd) rfl ((if0 _ _).trans r) q) (kf q)
theorem lch_ge (x1 x2 : Int64) : (0 ≤ (lcmpW x1 x2).toInt → x2.toInt ≤ x1.toInt) ∧ ((lcmpW x1 x2).toInt < 0 → x1.toInt < x2.toInt) := by
  have q := c_lcmp x1 x2
  have z : ∀ x : Int32, x = 0 ↔ x.toInt = 0 := fun x => ⟨fun q => by rw [q]; rfl, fun q => Int32.toInt_inj.mp q⟩
  have w : x1 = x2 ↔ x1.toInt = x2.toInt := Int64.toInt_inj.symm
  
  constructor <;> intro r <;> omega
theorem G.lcmp_ge (C : Cx p s m meth c Z y bytes maxL ret) {x1 x2 : Int64} {o : Int} {A B : Int} (hA : x1.toInt = A) (hB : x2.toInt = B) (hc : decode bytes pc = .ok (.lcmp, 1)) (hd : decode bytes (pc + 1) = .ok (.ifCond .ge o, 3)) (ho : 0 ≤ ((pc + 1 : Nat) : Int) + o) (hp : (((pc + 1 : Nat) : Int) + o).toNat = n') (hn : pc + 4 = n) (kt : B ≤ A → Go p l e R s m args below meth c n0 Q cells slots h (mkF m n' Ls (st))) (kf : A < B → Go p l e R s m args below meth c n0 Q cells slots h (mkF m n Ls (st))) : Go p l e R s m args below meth c n0 Q cells slots h (mkF m pc Ls (.long x2 :: .long x1 :: st)) := by
  subst hn hA hB
  refine Go.via (fun T locs X _ t q => XS.lcmp X.here C.x rfl (hb C.by hc) rfl q) ?_
  exact G.if_ge C (A := (lcmpW x1 x2).toInt) rfl (pc := pc + 1) hd ho hp (n := pc + 4) rfl (fun q => kt ((lch_ge x1 x2).1 q)) (fun q => kf ((lch_ge x1 x2).2 q))
theorem ich_gt {x1 x2 : Int32} : (x2.toInt < x1.toInt ∧ if_icmp.holds .gt x1 x2 = true) ∨ (x1.toInt ≤ x2.toInt ∧ if_icmp.holds .gt x1 x2 = false) := by
  by_cases q : x2.toInt < x1.toInt
  · exact Or.inl ⟨q, by simp [if_icmp.holds, lt_i, le_i, Int32.lt_iff_toInt_lt, Int32.le_iff_toInt_le, q]⟩
  · exact Or.inr ⟨by omega, by first | (simp [if_icmp.holds, lt_i, le_i, Int32.lt_iff_toInt_lt, Int32.le_iff_toInt_le, q]; done) | (simp [if_icmp.holds, lt_i, le_i, Int32.lt_iff_toInt_lt, Int32.le_iff_toInt_le]; omega)⟩
theorem G.icmp_gt (C : Cx p s m meth c Z y bytes maxL ret) {x1 x2 : Int32} {o : Int} {A B : Int} (hA : x1.toInt = A) (hB : x2.toInt = B) (hd : decode bytes pc = .ok (.if_icmp .gt o, 3)) (ho : 0 ≤ (pc : Int) + o) (hp : ((pc : Int) + o).toNat = n') (hn : pc + 3 = n) (kt : B < A → Go p l e R s m args below meth c n0 Q cells slots h (mkF m n' Ls (st))) (kf : A ≤ B → Go p l e R s m args below meth c n0 Q cells slots h (mkF m n Ls (st))) : Go p l e R s m args below meth c n0 Q cells slots h (mkF m pc Ls (.int x2 :: .int x1 :: st)) := by
  subst hn hA hB
  rcases ich_gt (x1 := x1) (x2 := x2) with ⟨q, r⟩ | ⟨q, r⟩
  · exact Go.via (fun T locs X _ t q => XS.icmpYes X.here C.x rfl rfl (hb C.by hd) rfl r ho hp q) (kt q)
  · exact Go.via (fun T locs X _ t q => XS.icmpNo X.here C.x rfl (hb C.by hd) rfl r q) (kf q)
theorem G.if_gt (C : Cx p s m meth c Z y bytes maxL ret) {x1 : Int32} {o : Int} {A : Int} (hA : x1.toInt = A) (hd : decode bytes pc = .ok (.ifCond .gt o, 3)) (ho : 0 ≤ (pc : Int) + o) (hp : ((pc : Int) + o).toNat = n') (hn : pc + 3 = n) (kt : 0 < A → Go p l e R s m args below meth c n0 Q cells slots h (mkF m n' Ls (st))) (kf : A ≤ 0 → Go p l e R s m args below meth c n0 Q cells slots h (mkF m n Ls (st))) : Go p l e R s m args below meth c n0 Q cells slots h (mkF m pc Ls (.int x1 :: st)) := by
  subst hn hA
  rcases ich_gt (x1 := x1) (x2 := 0) with ⟨q, r⟩ | ⟨q, r⟩
  · exact Go.via (fun T locs X _ t q => XS.ifYes X.here C.x rfl rfl (hb C.by hd) rfl ((if0 _ _).trans r) ho hp q) (kt q)
  · exact Go.via (fun T locs X _ t q => XS.ifNo X.here C.x rfl (hb C.by hd) rfl ((if0 _ _).trans r) q) (kf q)
theorem lch_gt (x1 x2 : Int64) : (0 < (lcmpW x1 x2).toInt → x2.toInt < x1.toInt) ∧ ((lcmpW x1 x2).toInt ≤ 0 → x1.toInt ≤ x2.toInt) := by
  have q := c_lcmp x1 x2
  have z : ∀ x : Int32, x = 0 ↔ x.toInt = 0 := fun x => ⟨fun q => by rw [q]; rfl, fun q => Int32.toInt_inj.mp q⟩
  have w : x1 = x2 ↔ x1.toInt = x2.toInt := Int64.toInt_inj.symm
  
  constructor <;> intro r <;> omega
theorem G.lcmp_gt (C : Cx p s m meth c Z y bytes maxL ret) {x1 x2 : Int64} {o : Int} {A B : Int} (hA : x1.toInt = A) (hB : x2.toInt = B) (hc : decode bytes pc = .ok (.lcmp, 1)) (hd : decode bytes (pc + 1) = .ok (.ifCond .gt o, 3)) (ho : 0 ≤ ((pc + 1 : Nat) : Int) + o) (hp : (((pc + 1 : Nat) : Int) + o).toNat = n') (hn : pc + 4 = n) (kt : B < A → Go p l e R s m args below meth c n0 Q cells slots h (mkF m n' Ls (st))) (kf : A ≤ B → Go p l e R s m args below meth c n0 Q cells slots h (mkF m n Ls (st))) : Go p l e R s m args below meth c n0 Q cells slots h (mkF m pc Ls (.long x2 :: .long x1 :: st)) := by
  subst hn hA hB
  refine Go.via (fun T locs X _ t q => XS.lcmp X.here C.x rfl (hb C.by hc) rfl q) ?_
  exact G.if_gt C (A := (lcmpW x1 x2).toInt) rfl (pc := pc + 1) hd ho hp (n := pc + 4) rfl (fun q => kt ((lch_gt x1 x2).1 q)) (fun q => kf ((lch_gt x1 x2).2 q))
theorem ich_le {x1 x2 : Int32} : (x1.toInt ≤ x2.toInt ∧ if_icmp.holds .le x1 x2 = true) ∨ (x2.toInt < x1.toInt ∧ if_icmp.holds .le x1 x2 = false) := by
  by_cases q : x1.toInt ≤ x2.toInt
  · exact Or.inl ⟨q, by simp [if_icmp.holds, lt_i, le_i, Int32.lt_iff_toInt_lt, Int32.le_iff_toInt_le, q]⟩
  · exact Or.inr ⟨by omega, by first | (simp [if_icmp.holds, lt_i, le_i, Int32.lt_iff_toInt_lt, Int32.le_iff_toInt_le, q]; done) | (simp [if_icmp.holds, lt_i, le_i, Int32.lt_iff_toInt_lt, Int32.le_iff_toInt_le]; omega)⟩
theorem G.icmp_le (C : Cx p s m meth c Z y bytes maxL ret) {x1 x2 : Int32} {o : Int} {A B : Int} (hA : x1.toInt = A) (hB : x2.toInt = B) (hd : decode bytes pc = .ok (.if_icmp .le o, 3)) (ho : 0 ≤ (pc : Int) + o) (hp : ((pc : Int) + o).toNat = n') (hn : pc + 3 = n) (kt : A ≤ B → Go p l e R s m args below meth c n0 Q cells slots h (mkF m n' Ls (st))) (kf : B < A → Go p l e R s m args below meth c n0 Q cells slots h (mkF m n Ls (st))) : Go p l e R s m args below meth c n0 Q cells slots h (mkF m pc Ls (.int x2 :: .int x1 :: st)) := by
  subst hn hA hB
  rcases ich_le (x1 := x1) (x2 := x2) with ⟨q, r⟩ | ⟨q, r⟩
  · exact Go.via (fun T locs X _ t q => XS.icmpYes X.here C.x rfl rfl (hb C.by hd) rfl r ho hp q) (kt q)
  · exact Go.via (fun T locs X _ t q => XS.icmpNo X.here C.x rfl (hb C.by hd) rfl r q) (kf q)
theorem G.if_le (C : Cx p s m meth c Z y bytes maxL ret) {x1 : Int32} {o : Int} {A : Int} (hA : x1.toInt = A) (hd : decode bytes pc = .ok (.ifCond .le o, 3)) (ho : 0 ≤ (pc : Int) + o) (hp : ((pc : Int) + o).toNat = n') (hn : pc + 3 = n) (kt : A ≤ 0 → Go p l e R s m args below meth c n0 Q cells slots h (mkF m n' Ls (st))) (kf : 0 < A → Go p l e R s m args below meth c n0 Q cells slots h (mkF m n Ls (st))) : Go p l e R s m args below meth c n0 Q cells slots h (mkF m pc Ls (.int x1 :: st)) := by
  subst hn hA
  rcases ich_le (x1 := x1) (x2 := 0) with ⟨q, r⟩ | ⟨q, r⟩
  · exact Go.via (fun T locs X _ t q => XS.ifYes X.here C.x rfl rfl (hb C.by hd) rfl ((if0 _ _).trans r) ho hp q) (kt q)
  · exact Go.via (fun T locs X _ t q => XS.ifNo X.here C.x rfl (hb C.by hd) rfl ((if0 _ _).trans r) q) (kf q)
theorem lch_le (x1 x2 : Int64) : ((lcmpW x1 x2).toInt ≤ 0 → x1.toInt ≤ x2.toInt) ∧ (0 < (lcmpW x1 x2).toInt → x2.toInt < x1.toInt) := by
  have q := c_lcmp x1 x2
  have z : ∀ x : Int32, x = 0 ↔ x.toInt = 0 := fun x => ⟨fun q => by rw [q]; rfl, fun q => Int32.toInt_inj.mp q⟩
  have w : x1 = x2 ↔ x1.toInt = x2.toInt := Int64.toInt_inj.symm
  
  constructor <;> intro r <;> omega
theorem G.lcmp_le (C : Cx p s m meth c Z y bytes maxL ret) {x1 x2 : Int64} {o : Int} {A B : Int} (hA : x1.toInt = A) (hB : x2.toInt = B) (hc : decode bytes pc = .ok (.lcmp, 1)) (hd : decode bytes (pc + 1) = .ok (.ifCond .le o, 3)) (ho : 0 ≤ ((pc + 1 : Nat) : Int) + o) (hp : (((pc + 1 : Nat) : Int) + o).toNat = n') (hn : pc + 4 = n) (kt : A ≤ B → Go p l e R s m args below meth c n0 Q cells slots h (mkF m n' Ls (st))) (kf : B < A → Go p l e R s m args below meth c n0 Q cells slots h (mkF m n Ls (st))) : Go p l e R s m args below meth c n0 Q cells slots h (mkF m pc Ls (.long x2 :: .long x1 :: st)) := by
  subst hn hA hB
  refine Go.via (fun T locs X _ t q => XS.lcmp X.here C.x rfl (hb C.by hc) rfl q) ?_
  exact G.if_le C (A := (lcmpW x1 x2).toInt) rfl (pc := pc + 1) hd ho hp (n := pc + 4) rfl (fun q => kt ((lch_le x1 x2).1 q)) (fun q => kf ((lch_le x1 x2).2 q))
theorem ich_eq {x1 x2 : Int32} : (x1 = x2 ∧ if_icmp.holds .eq x1 x2 = true) ∨ (x1 ≠ x2 ∧ if_icmp.holds .eq x1 x2 = false) := by
  by_cases q : x1 = x2 <;> simp [if_icmp.holds, q]
theorem G.icmp_eq (C : Cx p s m meth c Z y bytes maxL ret) {x1 x2 : Int32} {o : Int} {A B : Int} (hA : x1.toInt = A) (hB : x2.toInt = B) (hd : decode bytes pc = .ok (.if_icmp .eq o, 3)) (ho : 0 ≤ (pc : Int) + o) (hp : ((pc : Int) + o).toNat = n') (hn : pc + 3 = n) (kt : x1 = x2 → A = B → Go p l e R s m args below meth c n0 Q cells slots h (mkF m n' Ls (st))) (kf : x1 ≠ x2 → A ≠ B → Go p l e R s m args below meth c n0 Q cells slots h (mkF m n Ls (st))) : Go p l e R s m args below meth c n0 Q cells slots h (mkF m pc Ls (.int x2 :: .int x1 :: st)) := by
  subst hn hA hB
  rcases ich_eq (x1 := x1) (x2 := x2) with ⟨q, r⟩ | ⟨q, r⟩
  · exact Go.via (fun T locs X _ t q => XS.icmpYes X.here C.x rfl rfl (hb C.by hd) rfl r ho hp q) (kt q (congrArg _ q))
  · exact Go.via (fun T locs X _ t q => XS.icmpNo X.here C.x rfl (hb C.by hd) rfl r q) (kf q (fun r => q (Int32.toInt_inj.mp r)))
theorem G.if_eq (C : Cx p s m meth c Z y bytes maxL ret) {x1 : Int32} {o : Int} {A : Int} (hA : x1.toInt = A) (hd : decode bytes pc = .ok (.ifCond .eq o, 3)) (ho : 0 ≤ (pc : Int) + o) (hp : ((pc : Int) + o).toNat = n') (hn : pc + 3 = n) (kt : x1 = 0 → A = 0 → Go p l e R s m args below meth c n0 Q cells slots h (mkF m n' Ls (st))) (kf : x1 ≠ 0 → A ≠ 0 → Go p l e R s m args below meth c n0 Q cells slots h (mkF m n Ls (st))) : Go p l e R s m args below meth c n0 Q cells slots h (mkF m pc Ls (.int x1 :: st)) := by
  subst hn hA
  rcases ich_eq (x1 := x1) (x2 := 0) with ⟨q, r⟩ | ⟨q, r⟩
  · exact Go.via (fun T locs X _ t q => XS.ifYes X.here C.x rfl rfl (hb C.by hd) rfl ((if0 _ _).trans r) ho hp q) (kt q (congrArg Int32.toInt q))
  · exact Go.via (fun T locs X _ t q => XS.ifNo X.here C.x rfl (hb C.by hd) rfl ((if0 _ _).trans r) q) (kf q (fun r => q (Int32.toInt_inj.mp r)))
theorem lch_eq (x1 x2 : Int64) : ((lcmpW x1 x2) = 0 → x1 = x2) ∧ ((lcmpW x1 x2) ≠ 0 → x1 ≠ x2) := by
  have q := c_lcmp x1 x2
  have z : ∀ x : Int32, x = 0 ↔ x.toInt = 0 := fun x => ⟨fun q => by rw [q]; rfl, fun q => Int32.toInt_inj.mp q⟩
  have w : x1 = x2 ↔ x1.toInt = x2.toInt := Int64.toInt_inj.symm
  simp only [ne_eq, z, w]
  constructor <;> intro r <;> omega
theorem G.lcmp_eq (C : Cx p s m meth c Z y bytes maxL ret) {x1 x2 : Int64} {o : Int} {A B : Int} (hA : x1.toInt = A) (hB : x2.toInt = B) (hc : decode bytes pc = .ok (.lcmp, 1)) (hd : decode bytes (pc + 1) = .ok (.ifCond .eq o, 3)) (ho : 0 ≤ ((pc + 1 : Nat) : Int) + o) (hp : (((pc + 1 : Nat) : Int) + o).toNat = n') (hn : pc + 4 = n) (kt : x1 = x2 → A = B → Go p l e R s m args below meth c n0 Q cells slots h (mkF m n' Ls (st))) (kf : x1 ≠ x2 → A ≠ B → Go p l e R s m args below meth c n0 Q cells slots h (mkF m n Ls (st))) : Go p l e R s m args below meth c n0 Q cells slots h (mkF m pc Ls (.long x2 :: .long x1 :: st)) := by
  subst hn hA hB
  refine Go.via (fun T locs X _ t q => XS.lcmp X.here C.x rfl (hb C.by hc) rfl q) ?_
  exact G.if_eq C (A := (lcmpW x1 x2).toInt) rfl (pc := pc + 1) hd ho hp (n := pc + 4) rfl (fun q _ => kt ((lch_eq x1 x2).1 q) (congrArg _ ((lch_eq x1 x2).1 q))) (fun q _ => kf ((lch_eq x1 x2).2 q) (fun r => (lch_eq x1 x2).2 q (Int64.toInt_inj.mp r)))
theorem ich_ne {x1 x2 : Int32} : (x1 ≠ x2 ∧ if_icmp.holds .ne x1 x2 = true) ∨ (x1 = x2 ∧ if_icmp.holds .ne x1 x2 = false) := by
  by_cases q : x1 = x2 <;> simp [if_icmp.holds, q]
theorem G.icmp_ne (C : Cx p s m meth c Z y bytes maxL ret) {x1 x2 : Int32} {o : Int} {A B : Int} (hA : x1.toInt = A) (hB : x2.toInt = B) (hd : decode bytes pc = .ok (.if_icmp .ne o, 3)) (ho : 0 ≤ (pc : Int) + o) (hp : ((pc : Int) + o).toNat = n') (hn : pc + 3 = n) (kt : x1 ≠ x2 → A ≠ B → Go p l e R s m args below meth c n0 Q cells slots h (mkF m n' Ls (st))) (kf : x1 = x2 → A = B → Go p l e R s m args below meth c n0 Q cells slots h (mkF m n Ls (st))) : Go p l e R s m args below meth c n0 Q cells slots h (mkF m pc Ls (.int x2 :: .int x1 :: st)) := by
  subst hn hA hB
  rcases ich_ne (x1 := x1) (x2 := x2) with ⟨q, r⟩ | ⟨q, r⟩
  · exact Go.via (fun T locs X _ t q => XS.icmpYes X.here C.x rfl rfl (hb C.by hd) rfl r ho hp q) (kt q (fun r => q (Int32.toInt_inj.mp r)))
  · exact Go.via (fun T locs X _ t q => XS.icmpNo X.here C.x rfl (hb C.by hd) rfl r q) (kf q (congrArg _ q))
theorem G.if_ne (C : Cx p s m meth c Z y bytes maxL ret) {x1 : Int32} {o : Int} {A : Int} (hA : x1.toInt = A) (hd : decode bytes pc = .ok (.ifCond .ne o, 3)) (ho : 0 ≤ (pc : Int) + o) (hp : ((pc : Int) + o).toNat = n') (hn : pc + 3 = n) (kt : x1 ≠ 0 → A ≠ 0 → Go p l e R s m args below meth c n0 Q cells slots h (mkF m n' Ls (st))) (kf : x1 = 0 → A = 0 → Go p l e R s m args below meth c n0 Q cells slots h (mkF m n Ls (st))) : Go p l e R s m args below meth c n0 Q cells slots h (mkF m pc Ls (.int x1 :: st)) := by
  subst hn hA
  rcases ich_ne (x1 := x1) (x2 := 0) with ⟨q, r⟩ | ⟨q, r⟩
  · exact Go.via (fun T locs X _ t q => XS.ifYes X.here C.x rfl rfl (hb C.by hd) rfl ((if0 _ _).trans r) ho hp q) (kt q (fun r => q (Int32.toInt_inj.mp r)))
  · exact Go.via (fun T locs X _ t q => XS.ifNo X.here C.x rfl (hb C.by hd) rfl ((if0 _ _).trans r) q) (kf q (congrArg Int32.toInt q))
theorem lch_ne (x1 x2 : Int64) : ((lcmpW x1 x2) ≠ 0 → x1 ≠ x2) ∧ ((lcmpW x1 x2) = 0 → x1 = x2) := by
  have q := c_lcmp x1 x2
  have z : ∀ x : Int32, x = 0 ↔ x.toInt = 0 := fun x => ⟨fun q => by rw [q]; rfl, fun q => Int32.toInt_inj.mp q⟩
  have w : x1 = x2 ↔ x1.toInt = x2.toInt := Int64.toInt_inj.symm
  simp only [ne_eq, z, w]
  constructor <;> intro r <;> omega
theorem G.lcmp_ne (C : Cx p s m meth c Z y bytes maxL ret) {x1 x2 : Int64} {o : Int} {A B : Int} (hA : x1.toInt = A) (hB : x2.toInt = B) (hc : decode bytes pc = .ok (.lcmp, 1)) (hd : decode bytes (pc + 1) = .ok (.ifCond .ne o, 3)) (ho : 0 ≤ ((pc + 1 : Nat) : Int) + o) (hp : (((pc + 1 : Nat) : Int) + o).toNat = n') (hn : pc + 4 = n) (kt : x1 ≠ x2 → A ≠ B → Go p l e R s m args below meth c n0 Q cells slots h (mkF m n' Ls (st))) (kf : x1 = x2 → A = B → Go p l e R s m args below meth c n0 Q cells slots h (mkF m n Ls (st))) : Go p l e R s m args below meth c n0 Q cells slots h (mkF m pc Ls (.long x2 :: .long x1 :: st)) := by
  subst hn hA hB
  refine Go.via (fun T locs X _ t q => XS.lcmp X.here C.x rfl (hb C.by hc) rfl q) ?_
  exact G.if_ne C (A := (lcmpW x1 x2).toInt) rfl (pc := pc + 1) hd ho hp (n := pc + 4) rfl (fun q _ => kt ((lch_ne x1 x2).1 q) (fun r => (lch_ne x1 x2).1 q (Int64.toInt_inj.mp r))) (fun q _ => kf ((lch_ne x1 x2).2 q) (congrArg _ ((lch_ne x1 x2).2 q)))
theorem G.ifnullN (C : Cx p s m meth c Z y bytes maxL ret) {b : Addr} {o : Int} (hd : decode bytes pc = .ok (.ifnull o, 3)) (hn : pc + 3 = n) (k : Go p l e R s m args below meth c n0 Q cells slots h (mkF m n Ls (st))) : Go p l e R s m args below meth c n0 Q cells slots h (mkF m pc Ls (.ref b :: st)) := by
  subst hn
  exact Go.via (fun T locs X _ t q => XS.ifnullNo X.here C.x rfl (hb C.by hd) rfl q) k
theorem G.ifnullY (C : Cx p s m meth c Z y bytes maxL ret) {o : Int} (hd : decode bytes pc = .ok (.ifnull o, 3)) (ho : 0 ≤ (pc : Int) + o) (hp : ((pc : Int) + o).toNat = n) (k : Go p l e R s m args below meth c n0 Q cells slots h (mkF m n Ls (st))) : Go p l e R s m args below meth c n0 Q cells slots h (mkF m pc Ls (.null :: st)) :=
  Go.via (fun T locs X _ t q => XS.ifnullYes X.here C.x rfl rfl (hb C.by hd) rfl ho hp q) k
theorem G.ifnonnullY (C : Cx p s m meth c Z y bytes maxL ret) {b : Addr} {o : Int} (hd : decode bytes pc = .ok (.ifnonnull o, 3)) (ho : 0 ≤ (pc : Int) + o) (hp : ((pc : Int) + o).toNat = n) (k : Go p l e R s m args below meth c n0 Q cells slots h (mkF m n Ls (st))) : Go p l e R s m args below meth c n0 Q cells slots h (mkF m pc Ls (.ref b :: st)) :=
  Go.via (fun T locs X _ t q => XS.ifnonnullYes X.here C.x rfl rfl (hb C.by hd) rfl ho hp q) k
theorem G.ifnonnullN (C : Cx p s m meth c Z y bytes maxL ret) {o : Int} (hd : decode bytes pc = .ok (.ifnonnull o, 3)) (hn : pc + 3 = n) (k : Go p l e R s m args below meth c n0 Q cells slots h (mkF m n Ls (st))) : Go p l e R s m args below meth c n0 Q cells slots h (mkF m pc Ls (.null :: st)) := by
  subst hn
  exact Go.via (fun T locs X _ t q => XS.ifnonnullNo X.here C.x rfl (hb C.by hd) rfl q) k
theorem G.acmp_eq (C : Cx p s m meth c Z y bytes maxL ret) {x1 x2 : Value} {o : Int} (h1 : x1.isRef = true) (h2 : x2.isRef = true) (hd : decode bytes pc = .ok (.if_acmp .eq o, 3)) (ho : 0 ≤ (pc : Int) + o) (hp : ((pc : Int) + o).toNat = n') (hn : pc + 3 = n) (kt : x1 = x2 → Go p l e R s m args below meth c n0 Q cells slots h (mkF m n' Ls (st))) (kf : x1 ≠ x2 → Go p l e R s m args below meth c n0 Q cells slots h (mkF m n Ls (st))) : Go p l e R s m args below meth c n0 Q cells slots h (mkF m pc Ls (x2 :: x1 :: st)) := by
  subst hn
  by_cases r : x1 = x2
  · exact Go.via (fun T locs X _ t q => Jvm.RoadKit.acmp (g := mkF m pc Ls (x2 :: x1 :: st)) X C.x rfl h1 h2 (same := true) rfl (hb C.by hd) rfl (decide_eq_true r) ho (hp.symm) q) (kt r)
  · exact Go.via (fun T locs X _ t q => Jvm.RoadKit.acmp (g := mkF m pc Ls (x2 :: x1 :: st)) X C.x rfl h1 h2 (same := false) rfl (hb C.by hd) rfl (decide_eq_false r) ho (rfl) q) (kf r)
theorem G.acmp_ne (C : Cx p s m meth c Z y bytes maxL ret) {x1 x2 : Value} {o : Int} (h1 : x1.isRef = true) (h2 : x2.isRef = true) (hd : decode bytes pc = .ok (.if_acmp .ne o, 3)) (ho : 0 ≤ (pc : Int) + o) (hp : ((pc : Int) + o).toNat = n') (hn : pc + 3 = n) (kt : x1 ≠ x2 → Go p l e R s m args below meth c n0 Q cells slots h (mkF m n' Ls (st))) (kf : x1 = x2 → Go p l e R s m args below meth c n0 Q cells slots h (mkF m n Ls (st))) : Go p l e R s m args below meth c n0 Q cells slots h (mkF m pc Ls (x2 :: x1 :: st)) := by
  subst hn
  by_cases r : x1 = x2
  · exact Go.via (fun T locs X _ t q => Jvm.RoadKit.acmp (g := mkF m pc Ls (x2 :: x1 :: st)) X C.x rfl h1 h2 (same := true) rfl (hb C.by hd) rfl (decide_eq_true r) ho (rfl) q) (kf r)
  · exact Go.via (fun T locs X _ t q => Jvm.RoadKit.acmp (g := mkF m pc Ls (x2 :: x1 :: st)) X C.x rfl h1 h2 (same := false) rfl (hb C.by hd) rfl (decide_eq_false r) ho (hp.symm) q) (kt r)
theorem G.ldc (C : Cx p s m meth c Z y bytes maxL ret) {index : Nat} {v : Int32} (w : (Jvm.Cond.constant y.cls index v).before a0 Z = true) (hd : decode bytes pc = .ok (.ldc index, 2)) (hn : pc + 2 = n) (k : Go p l e R s m args below meth c n0 Q cells slots h (mkF m n Ls (.int v :: st))) : Go p l e R s m args below meth c n0 Q cells slots h (mkF m pc Ls (st)) := by
  subst hn
  exact Go.via (fun T locs X _ t q => X.ldcInt C.x C.own (mvT C.z w) (g := mkF m pc Ls st) rfl (hb C.by hd) t q) k
theorem G.ldc_w (C : Cx p s m meth c Z y bytes maxL ret) {index : Nat} {v : Int32} (w : (Jvm.Cond.constant y.cls index v).before a0 Z = true) (hd : decode bytes pc = .ok (.ldc_w index, 3)) (hn : pc + 3 = n) (k : Go p l e R s m args below meth c n0 Q cells slots h (mkF m n Ls (.int v :: st))) : Go p l e R s m args below meth c n0 Q cells slots h (mkF m pc Ls (st)) := by
  subst hn
  exact Go.via (fun T locs X _ t q => X.ldcwInt C.x C.own (mvT C.z w) (g := mkF m pc Ls st) rfl (hb C.by hd) t q) k
theorem G.ldc2 (C : Cx p s m meth c Z y bytes maxL ret) {index : Nat} {v : Int64} (w : (Jvm.Cond.constantLong y.cls index v).before a0 Z = true) (hd : decode bytes pc = .ok (.ldc2_w index, 3)) (hn : pc + 3 = n) (k : Go p l e R s m args below meth c n0 Q cells slots h (mkF m n Ls (.long v :: st))) : Go p l e R s m args below meth c n0 Q cells slots h (mkF m pc Ls (st)) := by
  subst hn
  exact Go.via (fun T locs X _ t q => X.ldc2Long C.x C.own (mvT C.z w) (g := mkF m pc Ls st) rfl (hb C.by hd) t q) k
theorem Go.leave (C : Cx p s m meth c Z y bytes maxL ret) {v : Option Value} {f : JFrame} (hv : ret = none → v = none) (hc : cells ≤ R.cells) (hs : slots ≤ R.slots)
    (hret : ∀ T locs, Stand p l e R s m args below meth c T locs cells slots → ∀ fs, (∀ (f : JFrame) (acts : List Action), f.method = m → f.locked = none → f.entered = [] → (doReturn e (T.setTop f) acts v).1 = T.setFrames fs) → Steps p.tables e below (T.setTop f) (T.setFrames fs))
    (q : Q v h) : Go p l e R s m args below meth c n0 Q cells slots h f := fun T locs X N e0 => by
  obtain ⟨fs, hr, hrun, hended, hW, hsame⟩ := X.leave (v := v) (fun q => hv (C.rt.symm.trans q)) C.locks
  refine ⟨_, _, hret T locs X fs hr, hrun, hended, v, locs, rfl, ⟨N, ?_⟩, ⟨_, rfl⟩, hW, hsame.mono hc hs⟩
  show Q v T.heap
  rw [e0]; exact q
theorem G.return_ (C : Cx p s m meth c Z y bytes maxL none) (hd : decode bytes pc = .ok (.return_, 1)) (hc : cells ≤ R.cells) (hs : slots ≤ R.slots) (q : Q none h) : Go p l e R s m args below meth c n0 Q cells slots h (mkF m pc Ls ([])) :=
  Go.leave C (v := none) (fun _ => rfl) hc hs (fun T locs X fs hr => X.returnOut C.x C.rt (hb C.by hd) hr) q
theorem G.ireturn {t : FieldType} (C : Cx p s m meth c Z y bytes maxL (some t)) {x : Int32} (hd : decode bytes pc = .ok (.ireturn, 1)) (hnn : narrow t (.int x) = .int x) (ht : t = .int ∨ t = .boolean ∨ t = .byte ∨ t = .char ∨ t = .short) (hc : cells ≤ R.cells) (hs : slots ≤ R.slots) (q : Q (some (.int x)) h) : Go p l e R s m args below meth c n0 Q cells slots h (mkF m pc Ls (.int x :: st)) :=
  Go.leave C (v := some (.int x)) (fun q => nomatch q) hc hs (fun T locs X fs hr => retOut X C.x C.rt hnn (Or.inl ⟨rfl, ht, _, rfl⟩) (hb C.by hd) hr) q
theorem G.lreturn (C : Cx p s m meth c Z y bytes maxL (some .long)) {x : Int64} (hd : decode bytes pc = .ok (.lreturn, 1)) (hc : cells ≤ R.cells) (hs : slots ≤ R.slots) (q : Q (some (.long x)) h) : Go p l e R s m args below meth c n0 Q cells slots h (mkF m pc Ls (.long x :: st)) :=
  Go.leave C (v := some (.long x)) (fun q => nomatch q) hc hs (fun T locs X fs hr => retOut X C.x C.rt rfl (Or.inr (Or.inl ⟨rfl, rfl, _, rfl⟩)) (hb C.by hd) hr) q
theorem G.areturn {t : FieldType} (C : Cx p s m meth c Z y bytes maxL (some t)) {x : Value} (hd : decode bytes pc = .ok (.areturn, 1)) (ht : t.isReference = true) (hx : x.isRef = true) (hnn : narrow t x = x) (hc : cells ≤ R.cells) (hs : slots ≤ R.slots) (q : Q (some x) h) : Go p l e R s m args below meth c n0 Q cells slots h (mkF m pc Ls (x :: st)) :=
  Go.leave C (v := some x) (fun q => nomatch q) hc hs (fun T locs X fs hr => retOut X C.x C.rt hnn (Or.inr (Or.inr (Or.inr (Or.inr ⟨rfl, ht, hx⟩)))) (hb C.by hd) hr) q
theorem G.getfield (C : Cx p s m meth c Z y bytes maxL ret) {R0 O nm d host : String} {index : Nat} (w : (Jvm.Cond.fieldLink y.cls index R0 nm d).before a0 Z = true ∨ (Jvm.Cond.fieldLinkNest y.cls index R0 nm d host).before a0 Z = true) (via : Via Z R0 O nm d) {a : Addr} {v : Value} (F : Fld Z h a O nm d v) (hd : decode bytes pc = .ok (.getfield index, 3)) (hn : pc + 3 = n) (k : Go p l e R s m args below meth c n0 Q cells slots h (mkF m n Ls (v :: st))) : Go p l e R s m args below meth c n0 Q cells slots h (mkF m pc Ls (.ref a :: st)) := fun T locs X N q => by
  subst hn
  obtain ⟨T', X', e', st'⟩ := getF X C.x C.z C.own w via q F (g := mkF m pc Ls (.ref a :: st)) rfl rfl (hb C.by hd)
  obtain ⟨t, o, s1, r⟩ := k T' locs X' N e'
  exact ⟨t, o, st' t s1, r⟩
theorem G.getstatic (C : Cx p s m meth c Z y bytes maxL ret) {R0 O nm d host : String} {index : Nat} (w : (Jvm.Cond.fieldLink y.cls index R0 nm d).before a0 Z = true ∨ (Jvm.Cond.fieldLinkNest y.cls index R0 nm d host).before a0 Z = true) (via : Via Z R0 O nm d) {v : Value} (F : Sta Z h O nm d v) (hd : decode bytes pc = .ok (.getstatic index, 3)) (hn : pc + 3 = n) (k : Go p l e R s m args below meth c n0 Q cells slots h (mkF m n Ls (v :: st))) : Go p l e R s m args below meth c n0 Q cells slots h (mkF m pc Ls (st)) := fun T locs X N q => by
  subst hn
  obtain ⟨T', X', e', st'⟩ := getS2 X C.x C.z C.own w via q F (g := mkF m pc Ls st) rfl (hb C.by hd)
  obtain ⟨t, o, s1, r⟩ := k T' locs X' N e'
  exact ⟨t, o, st' t s1, r⟩
theorem G.putfield (C : Cx p s m meth c Z y bytes maxL ret) {R0 O nm d host K : String} {index kk : Nat} {ty : FieldType} (w : (Jvm.Cond.fieldLink y.cls index R0 nm d).before a0 Z = true ∨ (Jvm.Cond.fieldLinkNest y.cls index R0 nm d host).before a0 Z = true) (via : Via Z R0 O nm d) {a : Addr} {v old : Value} (F : Fld Z h a O nm d old) (E : Exa Z h a K)
    (L : (Jvm.Cond.lays K O nm d).before a0 Z = true ∨ ((Jvm.Cond.laysFinal K O nm d).before a0 Z = true ∧ y.cls = O ∧ y.name = "<init>")) (wi : (Jvm.Cond.instantiable K kk).before a0 Z = true) (hty : parseFieldDescriptor d = some ty) (hnn : narrow ty v = v) (hf : fits ty v = true) (g : n0 ≤ a)
    (hd : decode bytes pc = .ok (.putfield index, 3)) (hn : pc + 3 = n) (k : ∀ h', Wr h h' a (RoadKit.slotOf Z O nm d) v → Go p l e R s m args below meth c n0 Q cells slots h' (mkF m n Ls (st))) : Go p l e R s m args below meth c n0 Q cells slots h (mkF m pc Ls (v :: .ref a :: st)) := fun T locs X N q => by
  subst hn
  obtain ⟨T', h', X', e', W, st'⟩ := putF X C.x C.z C.own w via q F E (L.imp id fun r => ⟨r.1, r.2.1, C.nm.trans r.2.2⟩) wi hty hnn hf (g := mkF m pc Ls (v :: .ref a :: st)) rfl rfl (hb C.by hd)
  obtain ⟨t, o, s1, r⟩ := k h' W T' _ X' (Fr.snoc X' N g) e'
  exact ⟨t, o, st' t s1, r⟩
theorem G.putfieldN (C : Cx p s m meth c Z y bytes maxL ret) {R0 O nm d K : String} {index kk : Nat} {ty : FieldType} (w : (Jvm.Cond.fieldLink y.cls index R0 nm d).before a0 Z = true) (via : Via Z R0 O nm d) {a : Addr} {v v' old : Value} (F : Fld Z h a O nm d old) (E : Exa Z h a K)
    (L : (Jvm.Cond.lays K O nm d).before a0 Z = true ∨ ((Jvm.Cond.laysFinal K O nm d).before a0 Z = true ∧ y.cls = O ∧ y.name = "<init>")) (wi : (Jvm.Cond.instantiable K kk).before a0 Z = true) (hty : parseFieldDescriptor d = some ty) (hnn : narrow ty v = v') (hf : fits ty v' = true) (g : n0 ≤ a)
    (hd : decode bytes pc = .ok (.putfield index, 3)) (hn : pc + 3 = n) (k : ∀ h', Wr h h' a (RoadKit.slotOf Z O nm d) v' → Go p l e R s m args below meth c n0 Q cells slots h' (mkF m n Ls (st))) : Go p l e R s m args below meth c n0 Q cells slots h (mkF m pc Ls (v :: .ref a :: st)) := fun T locs X N q => by
  subst hn
  obtain ⟨T', h', X', e', W, st'⟩ := putFN X C.x C.z C.own w via q F E (L.imp id fun r => ⟨r.1, r.2.1, C.nm.trans r.2.2⟩) wi hty hnn hf (g := mkF m pc Ls (v :: .ref a :: st)) rfl rfl (hb C.by hd)
  obtain ⟨t, o, s1, r⟩ := k h' W T' _ X' (Fr.snoc X' N g) e'
  exact ⟨t, o, st' t s1, r⟩
theorem G.new (C : Cx p s m meth c Z y bytes maxL ret) {K : String} {index ns c' s' : Nat} (w : (Jvm.Cond.classLink y.cls index K).before a0 Z = true) (wi : (Jvm.Cond.instantiable K ns).before a0 Z = true) (wz : (Jvm.Cond.initialized K).before a0 Z = true) (hd : decode bytes pc = .ok (.new index, 3)) (hn : pc + 3 = n) (hc' : cells + 1 = c') (hs' : slots + ns = s') (hc : c' ≤ R.cells) (hs : s' ≤ R.slots)
    (k : ∀ h' b, b = h.size → Ext h h' → Exa Z h' b K → (∀ {O nm d : String} {ty : FieldType}, Laid Z a0 K O nm d → parseFieldDescriptor d = some ty → Fld Z h' b O nm d (defaultValue ty)) → Go p l e R s m args below meth c n0 Q c' s' h' (mkF m n Ls (.ref b :: st))) : Go p l e R s m args below meth c n0 Q cells slots h (mkF m pc Ls (st)) := fun T locs X N q => by
  subst hn hc' hs'
  obtain ⟨T', h', X', e', E, A, D, -, st'⟩ := newO X C.x C.z C.own w wi wz q (g := mkF m pc Ls st) rfl (hb C.by hd) hc hs
  obtain ⟨t, o, s1, r⟩ := k h' _ rfl E A D T' _ X' N e'
  exact ⟨t, o, st' t s1, r⟩
theorem G.objinit (C : Cx p s m meth c Z y bytes maxL ret) {index W : Nat} (w1 : (Jvm.Cond.methodLink y.cls index Lib.objectInit).before a0 Z = true) (w2 : (Jvm.Cond.instanceMethod Lib.objectInit).before a0 Z = true) (w3 : (Jvm.Cond.code Lib.objectInit ⟨#[0xb1]⟩ 1 none).before a0 Z = true) {a : Addr} (hd : decode bytes pc = .ok (.invokespecial index, 3)) (hsz : Ls.size = maxL) (hf : 1 ≤ R.frames) (hW : (st.map fun v => v.category).sum = W) (hl : W + 12 ≤ R.locals) (hn : pc + 3 = n) (k : Go p l e R s m args below meth c n0 Q cells slots h (mkF m n Ls (st))) : Go p l e R s m args below meth c n0 Q cells slots h (mkF m pc Ls (.ref a :: st)) := fun T locs X N q => by
  subst hn hW
  obtain ⟨T', X', e', st'⟩ := initO X C.x C.z C.own w1 w2 w3 q (g := mkF m pc Ls (.ref a :: st)) rfl (hsz.trans C.ml.symm) rfl (hb C.by hd) hf (W := (st.map fun v => v.category).sum) (by show 2 * 0 + _ ≤ _; omega) hl
  obtain ⟨t, o, s1, r⟩ := k T' locs X' N e'
  exact ⟨t, o, st' t s1, r⟩
theorem G.callS (C : Cx p s m meth c Z y bytes maxL ret) {index W : Nat} {yc : MethodName} {bc : ByteArray} {mc : Nat} {rc : Option FieldType} {rm : Room} {c' s' : Nat} {Qc : Option Value → Heap → Prop} {ps : List FieldType} {argsL stk : List Value} (w1 : (Jvm.Cond.methodLink y.cls index yc).before a0 Z = true) (w2 : (Jvm.Cond.static yc).before a0 Z = true) (w3 : (Jvm.Cond.initialized yc.cls).before a0 Z = true) (w4 : (Jvm.Cond.code yc bc mc rc).before a0 Z = true) (hy : yc.cls ≠ "java/lang/invoke/MethodHandle" ∧ yc.cls ≠ "java/lang/invoke/VarHandle") (M : Met l Z yc bc mc rc rm argsL.toArray h n0 Qc) (hsz : Ls.size = maxL) (hf : rm.frames + 1 ≤ R.frames) (hW : (st.map fun v => v.category).sum = W) (hl : W + (mc + 11) + rm.locals ≤ R.locals) (hc' : cells + rm.cells = c') (hs' : slots + rm.slots = s') (hc : c' ≤ R.cells) (hs : s' ≤ R.slots) (hd : decode bytes pc = .ok (.invokestatic index, 3)) (hn : pc + 3 = n) (hlen : parseMethodDescriptor yc.desc = some ⟨ps, rc⟩) (hal : argsL.length = ps.length) (hst : stk = argsL.reverse ++ st) (k : ∀ v h', Qc v h' → Go p l e R s m args below meth c n0 Q c' s' h' (mkF m n Ls (v.toList ++ st))) : Go p l e R s m args below meth c n0 Q cells slots h (mkF m pc Ls (stk)) := fun T locs X N q => by
  subst hn hW hc' hs' hst
  obtain ⟨v, _, ⟨T', L', k', n''⟩, -, X', ⟨Lc, hQ, h1, h2, h3⟩, st'⟩ := Jvm.LawKit.callS X C.x (y := yc) C.own (mvT C.z w1) (mvT C.z w2) (mvT C.z w3) (mvT C.z w4) hy (backOf (W := (st.map fun v => v.category).sum) (Q := fun v h L => Fr n0 L ∧ Qc v h) (M []) C.z w4 w3 hf hl) (g := mkF m pc Ls (argsL.reverse ++ st)) rfl (hsz.trans C.ml.symm) (argsL := argsL) (rest := st) (lenOf hlen hal) rfl (by show 2 * 0 + _ ≤ _; omega) (hb C.by hd) (fun _ _ => ⟨rfl, q, hc, hs⟩)
  dsimp only [Pt.U, Pt.locs, Pt.cells, Pt.slots] at X' h1 h2 h3 st' hQ
  subst h1 h2 h3
  obtain ⟨t, o, s1, r⟩ := k v _ hQ.2 T' _ X' (Fr.app N hQ.1) rfl
  exact ⟨t, o, st' t s1, r⟩
theorem G.callC (C : Cx p s m meth c Z y bytes maxL ret) {index W : Nat} {yc : MethodName} {bc : ByteArray} {mc : Nat} {rm : Room} {c' s' : Nat} {Qc : Option Value → Heap → Prop} {ps : List FieldType} {argsL stk : List Value} {a : Addr} (hy1 : yc.name = "<init>") (w1 : (Jvm.Cond.methodLink y.cls index yc).before a0 Z = true) (w2 : (Jvm.Cond.instanceMethod yc).before a0 Z = true) (w3 : (Jvm.Cond.initialized yc.cls).before a0 Z = true) (w4 : (Jvm.Cond.code yc bc mc none).before a0 Z = true) (hy : yc.cls ≠ "java/lang/invoke/MethodHandle" ∧ yc.cls ≠ "java/lang/invoke/VarHandle") (M : Met l Z yc bc mc none rm (.ref a :: argsL).toArray h n0 Qc) (hsz : Ls.size = maxL) (hf : rm.frames + 1 ≤ R.frames) (hW : (st.map fun v => v.category).sum = W) (hl : W + (mc + 11) + rm.locals ≤ R.locals) (hc' : cells + rm.cells = c') (hs' : slots + rm.slots = s') (hc : c' ≤ R.cells) (hs : s' ≤ R.slots) (hd : decode bytes pc = .ok (.invokespecial index, 3)) (hn : pc + 3 = n) (hlen : parseMethodDescriptor yc.desc = some ⟨ps, none⟩) (hal : argsL.length = ps.length) (hst : stk = argsL.reverse ++ .ref a :: st) (k : ∀ v h', Qc v h' → Go p l e R s m args below meth c n0 Q c' s' h' (mkF m n Ls (v.toList ++ st))) : Go p l e R s m args below meth c n0 Q cells slots h (mkF m pc Ls (stk)) := fun T locs X N q => by
  subst hn hW hc' hs' hst
  obtain ⟨v, _, ⟨T', L', k', n''⟩, -, X', ⟨Lc, hQ, h1, h2, h3⟩, st'⟩ := X.specialBack C.x (y := yc) hy1 C.own (mvT C.z w1) (mvT C.z w2) (mvT C.z w4) hy (backOf (W := (st.map fun v => v.category).sum) (Q := fun v h L => Fr n0 L ∧ Qc v h) (M []) C.z w4 w3 hf hl) (g := mkF m pc Ls (argsL.reverse ++ .ref a :: st)) rfl (hsz.trans C.ml.symm) (Steps.refl _) (a := a) (argsL := argsL) (rest := st) (lenOf hlen hal) rfl (by show 2 * 0 + _ ≤ _; omega) (hb C.by hd) (fun _ _ => ⟨rfl, q, hc, hs⟩)
  dsimp only [Pt.U, Pt.locs, Pt.cells, Pt.slots] at X' h1 h2 h3 st' hQ
  subst h1 h2 h3
  obtain ⟨t, o, s1, r⟩ := k v _ hQ.2 T' _ X' (Fr.app N hQ.1) rfl
  exact ⟨t, o, st'.trans s1, r⟩
theorem G.callV (C : Cx p s m meth c Z y bytes maxL ret) {index W : Nat} {yc : MethodName} {bc : ByteArray} {mc : Nat} {rc : Option FieldType} {rm : Room} {c' s' : Nat} {Qc : Option Value → Heap → Prop} {ps : List FieldType} {K : String} {yr : MethodName} {argsL stk : List Value} {a : Addr} (E : Exa Z h a K) (w1 : (Jvm.Cond.methodLink y.cls index yr).before a0 Z = true) (w5 : (Jvm.Cond.declares yr).before a0 Z = true) (hnf : ∀ s : State, Z.Warmed39 s.vm → NotFace s yr) (w6 : (Jvm.Cond.selects K yr yc).before a0 Z = true) (w2 : (Jvm.Cond.instanceMethod yc).before a0 Z = true) (w3 : (Jvm.Cond.initialized yc.cls).before a0 Z = true) (w4 : (Jvm.Cond.code yc bc mc rc).before a0 Z = true) (hy : yr.cls ≠ "java/lang/invoke/MethodHandle" ∧ yr.cls ≠ "java/lang/invoke/VarHandle") (M : Met l Z yc bc mc rc rm (.ref a :: argsL).toArray h n0 Qc) (hsz : Ls.size = maxL) (hf : rm.frames + 1 ≤ R.frames) (hW : (st.map fun v => v.category).sum = W) (hl : W + (mc + 11) + rm.locals ≤ R.locals) (hc' : cells + rm.cells = c') (hs' : slots + rm.slots = s') (hc : c' ≤ R.cells) (hs : s' ≤ R.slots) (hd : decode bytes pc = .ok (.invokevirtual index, 3)) (hn : pc + 3 = n) (hlen : parseMethodDescriptor yr.desc = some ⟨ps, rc⟩) (hal : argsL.length = ps.length) (hst : stk = argsL.reverse ++ .ref a :: st) (k : ∀ v h', Qc v h' → Go p l e R s m args below meth c n0 Q c' s' h' (mkF m n Ls (v.toList ++ st))) : Go p l e R s m args below meth c n0 Q cells slots h (mkF m pc Ls (stk)) := fun T locs X N q => by
  subst hn hW hc' hs' hst
  obtain ⟨cq, kq, qa, qb, qc⟩ := isOf C.z q E
  obtain ⟨v, _, ⟨T', L', k', n''⟩, -, X', ⟨Lc, hQ, h1, h2, h3⟩, st'⟩ := X.virtualBack C.x (y := yr) (z := yc) C.own (mvT C.z w1) (mvT C.z w5) (hnf s C.z) (mvT C.z w6) (mvT C.z w2) hy (backOf (W := (st.map fun v => v.category).sum) (Q := fun v h L => Fr n0 L ∧ Qc v h) (M []) C.z w4 w3 hf hl) qa qc (g := mkF m pc Ls (argsL.reverse ++ .ref a :: st)) rfl (hsz.trans C.ml.symm) (Steps.refl _) (argsL := argsL) (rest := st) (lenOf hlen hal) rfl (by show 2 * 0 + _ ≤ _; omega) (hb C.by hd) (fun _ _ => ⟨rfl, q, hc, hs⟩)
  dsimp only [Pt.U, Pt.locs, Pt.cells, Pt.slots] at X' h1 h2 h3 st' hQ
  subst h1 h2 h3
  obtain ⟨t, o, s1, r⟩ := k v _ hQ.2 T' _ X' (Fr.app N hQ.1) rfl
  exact ⟨t, o, st'.trans s1, r⟩
theorem nfS {yr : MethodName} {K : String} {z : MethodName} (w6 : (Jvm.Cond.selects K yr z).before a0 Z = true) (hz : z = yr) : ∀ s : State, Z.Warmed39 s.vm → NotFace s yr := fun s hZ => by
  subst hz
  exact notFace_of_selects (args := #[]) (mvT hZ w6)
def Ints (Z : State) (h : Heap) (a : Addr) (ty : FieldType) (vs : List Int32) : Prop := ∃ k z, Arv Z h a k ty z (vs.map Value.int) (.int 0) ∧ z.toInt = vs.length
def Longs (Z : State) (h : Heap) (a : Addr) (vs : List Int64) : Prop := ∃ k z, Arv Z h a k .long z (vs.map Value.long) (.long 0) ∧ z.toInt = vs.length
theorem nat_clamp {j : Int32} : j.toNatClampNeg = j.toInt.toNat := rfl
theorem not_neg {j : Int32} (hj : 0 ≤ j.toInt) : ¬ j < 0 := by rw [lt_i]; exact Int.not_lt.mpr hj
theorem of_not_neg {j : Int32} (hj : ¬ j < 0) : 0 ≤ j.toInt := by rw [lt_i] at hj; exact Int.not_lt.mp hj
theorem inb {j z : Int32} {cl : Cell} {len : Nat} (hj : 0 ≤ j.toInt) (S : cl.slots.size = z.toNatClampNeg) (hz : z.toInt = len) (hl : j.toInt.toNat < len) : ¬ (j < 0 ∨ cl.slots.size ≤ j.toNatClampNeg) := by
  rintro (q | q)
  · exact not_neg hj q
  · rw [S, nat_clamp, nat_clamp, hz] at q; omega
theorem getD_map {α : Type} (f : α → Value) (vs : List α) (i : Nat) (d : Value) {x : α} (hx : vs[i]? = some x) : (vs.map f).getD i d = f x := by
  rw [List.getD_eq_getElem?_getD, List.getElem?_map, hx]; rfl
theorem lt_of_some {α : Type} {vs : List α} {i : Nat} {x : α} (hx : vs[i]? = some x) : i < vs.length := (List.getElem?_eq_some_iff.mp hx).1
theorem Ints.lt {a : Addr} {ty : FieldType} {vs : List Int32} (F : Ints Z h a ty vs) : a < h.size := by obtain ⟨k, z, A, -⟩ := F; exact A.lt
theorem Ints.ext {h' : Heap} {a : Addr} {ty : FieldType} {vs : List Int32} (F : Ints Z h a ty vs) (E : Ext h h') : Ints Z h' a ty vs := by obtain ⟨k, z, A, q⟩ := F; exact ⟨k, z, A.ext E, q⟩
theorem Ints.keep {h' : Heap} {ws : List Addr} {a : Addr} {ty : FieldType} {vs : List Int32} (F : Ints Z h a ty vs) (K : Keep h h' ws) (r : a ∉ ws) : Ints Z h' a ty vs := by obtain ⟨k, z, A, q⟩ := F; exact ⟨k, z, A.keep K r, q⟩
theorem Ints.other {h' : Heap} {sl : Nat} {v : Value} {a b : Addr} {ty : FieldType} {vs : List Int32} (F : Ints Z h a ty vs) (W : Wr h h' b sl v) (r : a ≠ b) : Ints Z h' a ty vs := by obtain ⟨k, z, A, q⟩ := F; exact ⟨k, z, A.other W r, q⟩
theorem Ints.len {a : Addr} {ty : FieldType} {vs : List Int32} (F : Ints Z h a ty vs) : (vs.length : Int) < 2147483648 := by obtain ⟨k, z, A, q⟩ := F; rw [← q]; exact (rng32 z).2
theorem Ints.at {a : Addr} {ty : FieldType} {vs : List Int32} (F : Ints Z h a ty vs) {j : Int32} {x : Int32} (hj : 0 ≤ j.toInt) (hx : vs[j.toInt.toNat]? = some x) : ∃ cl, Arr Z h a cl ty ∧ ¬ (j < 0 ∨ cl.slots.size ≤ j.toNatClampNeg) ∧ cl.slots[j.toNatClampNeg]? = some (.int x) ∧ fits ty (.int x) = true := by
  obtain ⟨k, z, ⟨cl, A, q1, S, N, H, G⟩, hz⟩ := F
  have hi := inb hj S hz (lt_of_some hx)
  have hi2 : j.toNatClampNeg < cl.slots.size := Nat.lt_of_not_le fun y => hi (Or.inr y)
  have e1 := H _ hi2
  have e2 := G _ hi2
  rw [nat_clamp, getD_map _ _ _ _ hx] at e1 e2
  exact ⟨cl, A, hi, e1, e2⟩
theorem Ints.put {h' : Heap} {a : Addr} {ty : FieldType} {vs : List Int32} (F : Ints Z h a ty vs) {j : Int32} {x : Int32} (hj : 0 ≤ j.toInt) (hl : j.toInt < vs.length) (hf : fits ty (.int x) = true) : ∃ cl, Arr Z h a cl ty ∧ ¬ (j < 0 ∨ cl.slots.size ≤ j.toNatClampNeg) ∧ (Wr h h' a j.toNatClampNeg (.int x) → Ints Z h' a ty (vs.set j.toInt.toNat x)) := by
  obtain ⟨k, z, ⟨cl, A, q1, S, N, H, G⟩, hz⟩ := F
  have hl2 : j.toInt.toNat < vs.length := by omega
  refine ⟨cl, A, inb hj S hz hl2, fun W => ⟨k, z, ?_, ?_⟩⟩
  · have r := Arv.set A q1 S N H G hf W j.toInt.toNat rfl (by rw [List.length_map]; exact hl2)
    rw [List.map_set]; exact r
  · rw [List.length_set]; exact hz
theorem Longs.lt {a : Addr} {vs : List Int64} (F : Longs Z h a vs) : a < h.size := by obtain ⟨k, z, A, -⟩ := F; exact A.lt
theorem Longs.ext {h' : Heap} {a : Addr} {vs : List Int64} (F : Longs Z h a vs) (E : Ext h h') : Longs Z h' a vs := by obtain ⟨k, z, A, q⟩ := F; exact ⟨k, z, A.ext E, q⟩
theorem Longs.keep {h' : Heap} {ws : List Addr} {a : Addr} {vs : List Int64} (F : Longs Z h a vs) (K : Keep h h' ws) (r : a ∉ ws) : Longs Z h' a vs := by obtain ⟨k, z, A, q⟩ := F; exact ⟨k, z, A.keep K r, q⟩
theorem Longs.other {h' : Heap} {sl : Nat} {v : Value} {a b : Addr} {vs : List Int64} (F : Longs Z h a vs) (W : Wr h h' b sl v) (r : a ≠ b) : Longs Z h' a vs := by obtain ⟨k, z, A, q⟩ := F; exact ⟨k, z, A.other W r, q⟩
theorem Longs.len {a : Addr} {vs : List Int64} (F : Longs Z h a vs) : (vs.length : Int) < 2147483648 := by obtain ⟨k, z, A, q⟩ := F; rw [← q]; exact (rng32 z).2
theorem Longs.at {a : Addr} {vs : List Int64} (F : Longs Z h a vs) {j : Int32} {x : Int64} (hj : 0 ≤ j.toInt) (hx : vs[j.toInt.toNat]? = some x) : ∃ cl, Arr Z h a cl .long ∧ ¬ (j < 0 ∨ cl.slots.size ≤ j.toNatClampNeg) ∧ cl.slots[j.toNatClampNeg]? = some (.long x) ∧ fits .long (.long x) = true := by
  obtain ⟨k, z, ⟨cl, A, q1, S, N, H, G⟩, hz⟩ := F
  have hi := inb hj S hz (lt_of_some hx)
  have hi2 : j.toNatClampNeg < cl.slots.size := Nat.lt_of_not_le fun y => hi (Or.inr y)
  have e1 := H _ hi2
  have e2 := G _ hi2
  rw [nat_clamp, getD_map _ _ _ _ hx] at e1 e2
  exact ⟨cl, A, hi, e1, e2⟩
theorem Longs.put {h' : Heap} {a : Addr} {vs : List Int64} (F : Longs Z h a vs) {j : Int32} {x : Int64} (hj : 0 ≤ j.toInt) (hl : j.toInt < vs.length) (hf : fits .long (.long x) = true) : ∃ cl, Arr Z h a cl .long ∧ ¬ (j < 0 ∨ cl.slots.size ≤ j.toNatClampNeg) ∧ (Wr h h' a j.toNatClampNeg (.long x) → Longs Z h' a (vs.set j.toInt.toNat x)) := by
  obtain ⟨k, z, ⟨cl, A, q1, S, N, H, G⟩, hz⟩ := F
  have hl2 : j.toInt.toNat < vs.length := by omega
  refine ⟨cl, A, inb hj S hz hl2, fun W => ⟨k, z, ?_, ?_⟩⟩
  · have r := Arv.set A q1 S N H G hf W j.toInt.toNat rfl (by rw [List.length_map]; exact hl2)
    rw [List.map_set]; exact r
  · rw [List.length_set]; exact hz
theorem G.iaload (C : Cx p s m meth c Z y bytes maxL ret) {a : Addr} {j : Int32} {x : Int32} {vs : List Int32} (F : Ints Z h a .int vs) (hj : 0 ≤ j.toInt) (hx : vs[j.toInt.toNat]? = some x) (hd : decode bytes pc = .ok (.iaload, 1)) (hn : pc + 1 = n) (k : Go p l e R s m args below meth c n0 Q cells slots h (mkF m n Ls (.int x :: st))) : Go p l e R s m args below meth c n0 Q cells slots h (mkF m pc Ls (.int j :: .ref a :: st)) := by
  subst hn
  obtain ⟨cl, A, h1, h2, -⟩ := F.at hj hx
  exact Go.via (fun T locs X q t r => X.iaload C.x (j := j) (v := .int x) (by rw [q]; exact A.1) (State.isArrayOf_alike C.z.alike A.2.1) A.2.2 h1 h2 (g := mkF m pc Ls (.int j :: .ref a :: st)) rfl rfl (hb C.by hd) t r) k
theorem G.laload (C : Cx p s m meth c Z y bytes maxL ret) {a : Addr} {j : Int32} {x : Int64} {vs : List Int64} (F : Longs Z h a vs) (hj : 0 ≤ j.toInt) (hx : vs[j.toInt.toNat]? = some x) (hd : decode bytes pc = .ok (.laload, 1)) (hn : pc + 1 = n) (k : Go p l e R s m args below meth c n0 Q cells slots h (mkF m n Ls (.long x :: st))) : Go p l e R s m args below meth c n0 Q cells slots h (mkF m pc Ls (.int j :: .ref a :: st)) := by
  subst hn
  obtain ⟨cl, A, h1, h2, -⟩ := F.at hj hx
  exact Go.via (fun T locs X q t r => X.laload C.x (j := j) (v := .long x) (by rw [q]; exact A.1) (State.isArrayOf_alike C.z.alike A.2.1) A.2.2 h1 h2 (g := mkF m pc Ls (.int j :: .ref a :: st)) rfl rfl (hb C.by hd) t r) k
theorem G.caload (C : Cx p s m meth c Z y bytes maxL ret) {a : Addr} {j : Int32} {x : Int32} {vs : List Int32} (F : Ints Z h a .char vs) (hj : 0 ≤ j.toInt) (hx : vs[j.toInt.toNat]? = some x) (hd : decode bytes pc = .ok (.caload, 1)) (hn : pc + 1 = n) (k : Go p l e R s m args below meth c n0 Q cells slots h (mkF m n Ls (.int x :: st))) : Go p l e R s m args below meth c n0 Q cells slots h (mkF m pc Ls (.int j :: .ref a :: st)) := by
  subst hn
  obtain ⟨cl, A, h1, h2, -⟩ := F.at hj hx
  exact Go.via (fun T locs X q t r => X.caload C.x (j := j) (v := .int x) (by rw [q]; exact A.1) (State.isArrayOf_alike C.z.alike A.2.1) A.2.2 h1 h2 (g := mkF m pc Ls (.int j :: .ref a :: st)) rfl rfl (hb C.by hd) t r) k
theorem G.baload (C : Cx p s m meth c Z y bytes maxL ret) {a : Addr} {j : Int32} {x : Int32} {vs : List Int32} (F : Ints Z h a .byte vs) (hj : 0 ≤ j.toInt) (hx : vs[j.toInt.toNat]? = some x) (hd : decode bytes pc = .ok (.baload, 1)) (hn : pc + 1 = n) (k : Go p l e R s m args below meth c n0 Q cells slots h (mkF m n Ls (.int x :: st))) : Go p l e R s m args below meth c n0 Q cells slots h (mkF m pc Ls (.int j :: .ref a :: st)) := by
  subst hn
  obtain ⟨cl, A, h1, h2, -⟩ := F.at hj hx
  exact Go.via (fun T locs X q t r => X.baloadBytes C.x (j := j) (v := .int x) (by rw [q]; exact A.1) (State.isArrayOf_alike C.z.alike A.2.1) A.2.2 h1 h2 (g := mkF m pc Ls (.int j :: .ref a :: st)) rfl rfl (hb C.by hd) t r) k
theorem G.baloadZ (C : Cx p s m meth c Z y bytes maxL ret) {a : Addr} {j : Int32} {x : Int32} {vs : List Int32} (F : Ints Z h a .boolean vs) (hj : 0 ≤ j.toInt) (hx : vs[j.toInt.toNat]? = some x) (hd : decode bytes pc = .ok (.baload, 1)) (hn : pc + 1 = n) (k : Go p l e R s m args below meth c n0 Q cells slots h (mkF m n Ls (.int x :: st))) : Go p l e R s m args below meth c n0 Q cells slots h (mkF m pc Ls (.int j :: .ref a :: st)) := by
  subst hn
  obtain ⟨cl, A, h1, h2, -⟩ := F.at hj hx
  exact Go.via (fun T locs X q t r => X.baloadBooleans C.x (j := j) (v := .int x) (by rw [q]; exact A.1) (State.isArrayOf_alike C.z.alike A.2.1) A.2.2 h1 h2 (g := mkF m pc Ls (.int j :: .ref a :: st)) rfl rfl (hb C.by hd) t r) k
theorem G.iastore (C : Cx p s m meth c Z y bytes maxL ret) {a : Addr} {j : Int32} {x : Int32} {vs : List Int32} (F : Ints Z h a .int vs) (hj : 0 ≤ j.toInt) (hl : j.toInt < vs.length) (g : n0 ≤ a) (hd : decode bytes pc = .ok (.iastore, 1)) (hn : pc + 1 = n) (k : ∀ h', Keep h h' [a] → (∃ w, Wr h h' a j.toNatClampNeg w) → Ints Z h' a .int (vs.set j.toInt.toNat x) → Go p l e R s m args below meth c n0 Q cells slots h' (mkF m n Ls (st))) : Go p l e R s m args below meth c n0 Q cells slots h (mkF m pc Ls (.int x :: .int j :: .ref a :: st)) := fun T locs X N q => by
  subst hn
  obtain ⟨cl, A, h1, -⟩ := F.put (h' := h) hj hl (x := x) rfl
  obtain ⟨T', h', X', e', W, st'⟩ := stI X C.x C.z q A (j := j) h1 (g := mkF m pc Ls (.int x :: .int j :: .ref a :: st)) rfl rfl (hb C.by hd)
  obtain ⟨cl2, A2, -, h3⟩ := F.put (h' := h') hj hl (x := x) rfl
  obtain ⟨t, o, s1, r⟩ := k h' (Keep.of_wr W) ⟨_, W⟩ (h3 W) T' _ X' (Fr.snoc X' N g) e'
  exact ⟨t, o, st' t s1, r⟩
theorem G.lastore (C : Cx p s m meth c Z y bytes maxL ret) {a : Addr} {j : Int32} {x : Int64} {vs : List Int64} (F : Longs Z h a vs) (hj : 0 ≤ j.toInt) (hl : j.toInt < vs.length) (g : n0 ≤ a) (hd : decode bytes pc = .ok (.lastore, 1)) (hn : pc + 1 = n) (k : ∀ h', Keep h h' [a] → (∃ w, Wr h h' a j.toNatClampNeg w) → Longs Z h' a (vs.set j.toInt.toNat x) → Go p l e R s m args below meth c n0 Q cells slots h' (mkF m n Ls (st))) : Go p l e R s m args below meth c n0 Q cells slots h (mkF m pc Ls (.long x :: .int j :: .ref a :: st)) := fun T locs X N q => by
  subst hn
  obtain ⟨cl, A, h1, -⟩ := F.put (h' := h) hj hl (x := x) rfl
  obtain ⟨T', h', X', e', W, st'⟩ := stJ X C.x C.z q A (j := j) h1 (g := mkF m pc Ls (.long x :: .int j :: .ref a :: st)) rfl rfl (hb C.by hd)
  obtain ⟨cl2, A2, -, h3⟩ := F.put (h' := h') hj hl (x := x) rfl
  obtain ⟨t, o, s1, r⟩ := k h' (Keep.of_wr W) ⟨_, W⟩ (h3 W) T' _ X' (Fr.snoc X' N g) e'
  exact ⟨t, o, st' t s1, r⟩
theorem G.castore (C : Cx p s m meth c Z y bytes maxL ret) {a : Addr} {j : Int32} {x : Int32} {vs : List Int32} (F : Ints Z h a .char vs) (hj : 0 ≤ j.toInt) (hl : j.toInt < vs.length) (g : n0 ≤ a) (hd : decode bytes pc = .ok (.castore, 1)) (hn : pc + 1 = n) (k : ∀ h', Keep h h' [a] → (∃ w, Wr h h' a j.toNatClampNeg w) → Ints Z h' a .char (vs.set j.toInt.toNat (nar .char x)) → Go p l e R s m args below meth c n0 Q cells slots h' (mkF m n Ls (st))) : Go p l e R s m args below meth c n0 Q cells slots h (mkF m pc Ls (.int x :: .int j :: .ref a :: st)) := fun T locs X N q => by
  subst hn
  obtain ⟨cl, A, h1, -⟩ := F.put (h' := h) hj hl (x := (nar .char x)) (fits_nar_char x)
  obtain ⟨T', h', X', e', W, st'⟩ := stC X C.x C.z q A (j := j) h1 (g := mkF m pc Ls (.int x :: .int j :: .ref a :: st)) rfl rfl (hb C.by hd)
  obtain ⟨cl2, A2, -, h3⟩ := F.put (h' := h') hj hl (x := (nar .char x)) (fits_nar_char x)
  obtain ⟨t, o, s1, r⟩ := k h' (Keep.of_wr W) ⟨_, W⟩ (h3 W) T' _ X' (Fr.snoc X' N g) e'
  exact ⟨t, o, st' t s1, r⟩
theorem G.bastore (C : Cx p s m meth c Z y bytes maxL ret) {a : Addr} {j : Int32} {x : Int32} {vs : List Int32} (F : Ints Z h a .byte vs) (hj : 0 ≤ j.toInt) (hl : j.toInt < vs.length) (g : n0 ≤ a) (hd : decode bytes pc = .ok (.bastore, 1)) (hn : pc + 1 = n) (k : ∀ h', Keep h h' [a] → (∃ w, Wr h h' a j.toNatClampNeg w) → Ints Z h' a .byte (vs.set j.toInt.toNat (nar .byte x)) → Go p l e R s m args below meth c n0 Q cells slots h' (mkF m n Ls (st))) : Go p l e R s m args below meth c n0 Q cells slots h (mkF m pc Ls (.int x :: .int j :: .ref a :: st)) := fun T locs X N q => by
  subst hn
  obtain ⟨cl, A, h1, -⟩ := F.put (h' := h) hj hl (x := (nar .byte x)) (fits_nar_byte x)
  obtain ⟨T', h', X', e', W, st'⟩ := stB X C.x C.z q A (j := j) h1 (g := mkF m pc Ls (.int x :: .int j :: .ref a :: st)) rfl rfl (hb C.by hd)
  obtain ⟨cl2, A2, -, h3⟩ := F.put (h' := h') hj hl (x := (nar .byte x)) (fits_nar_byte x)
  obtain ⟨t, o, s1, r⟩ := k h' (Keep.of_wr W) ⟨_, W⟩ (h3 W) T' _ X' (Fr.snoc X' N g) e'
  exact ⟨t, o, st' t s1, r⟩
theorem G.bastoreZ (C : Cx p s m meth c Z y bytes maxL ret) {a : Addr} {j : Int32} {x : Int32} {vs : List Int32} (F : Ints Z h a .boolean vs) (hj : 0 ≤ j.toInt) (hl : j.toInt < vs.length) (g : n0 ≤ a) (hd : decode bytes pc = .ok (.bastore, 1)) (hn : pc + 1 = n) (k : ∀ h', Keep h h' [a] → (∃ w, Wr h h' a j.toNatClampNeg w) → Ints Z h' a .boolean (vs.set j.toInt.toNat (nar .boolean x)) → Go p l e R s m args below meth c n0 Q cells slots h' (mkF m n Ls (st))) : Go p l e R s m args below meth c n0 Q cells slots h (mkF m pc Ls (.int x :: .int j :: .ref a :: st)) := fun T locs X N q => by
  subst hn
  obtain ⟨cl, A, h1, -⟩ := F.put (h' := h) hj hl (x := (nar .boolean x)) (fits_nar_bool x)
  obtain ⟨T', h', X', e', W, st'⟩ := stZ X C.x C.z q A (j := j) h1 (g := mkF m pc Ls (.int x :: .int j :: .ref a :: st)) rfl rfl (hb C.by hd)
  obtain ⟨cl2, A2, -, h3⟩ := F.put (h' := h') hj hl (x := (nar .boolean x)) (fits_nar_bool x)
  obtain ⟨t, o, s1, r⟩ := k h' (Keep.of_wr W) ⟨_, W⟩ (h3 W) T' _ X' (Fr.snoc X' N g) e'
  exact ⟨t, o, st' t s1, r⟩
theorem len32 {z : Int32} {k : Nat} (hz : z.toInt = k) : z = Int32.ofNat k := by
  have h2 := (rng32 z).2
  exact Int32.toInt_inj.mp (by rw [Int32.toInt_ofNat_of_lt (by omega)]; exact hz)
theorem G.arraylengthI (C : Cx p s m meth c Z y bytes maxL ret) {a : Addr} {ty : FieldType} {vs : List Int32} {len : Int32} (F : Ints Z h a ty vs) (hlen : len.toInt = vs.length) (hd : decode bytes pc = .ok (.arraylength, 1)) (hn : pc + 1 = n) (k : Go p l e R s m args below meth c n0 Q cells slots h (mkF m n Ls (.int len :: st))) : Go p l e R s m args below meth c n0 Q cells slots h (mkF m pc Ls (.ref a :: st)) := by
  subst hn
  obtain ⟨k', z, ⟨cl, A, q1, S, N, H, G⟩, hz⟩ := F
  have e1 : cl.slots.size.toInt32 = len := (len_of S N).trans (Int32.toInt_inj.mp (hz.trans hlen.symm))
  exact Go.via (fun T locs X q t r => X.arraylength C.x (by rw [q]; exact A.1) (State.isArrayOf_alike C.z.alike A.2.1) (g := mkF m pc Ls (.ref a :: st)) rfl rfl (hb C.by hd) t (by rw [e1]; exact r)) k
theorem G.arraylengthL (C : Cx p s m meth c Z y bytes maxL ret) {a : Addr} {vs : List Int64} {len : Int32} (F : Longs Z h a vs) (hlen : len.toInt = vs.length) (hd : decode bytes pc = .ok (.arraylength, 1)) (hn : pc + 1 = n) (k : Go p l e R s m args below meth c n0 Q cells slots h (mkF m n Ls (.int len :: st))) : Go p l e R s m args below meth c n0 Q cells slots h (mkF m pc Ls (.ref a :: st)) := by
  subst hn
  obtain ⟨k', z, ⟨cl, A, q1, S, N, H, G⟩, hz⟩ := F
  have e1 : cl.slots.size.toInt32 = len := (len_of S N).trans (Int32.toInt_inj.mp (hz.trans hlen.symm))
  exact Go.via (fun T locs X q t r => X.arraylength C.x (by rw [q]; exact A.1) (State.isArrayOf_alike C.z.alike A.2.1) (g := mkF m pc Ls (.ref a :: st)) rfl rfl (hb C.by hd) t (by rw [e1]; exact r)) k
theorem G.newarray (C : Cx p s m meth c Z y bytes maxL ret) {aty : ArrayType} {ty : FieldType} {len : Int32} {cap c' s' : Nat} (w : (Jvm.Cond.arrayClass ty).before a0 Z = true) (hty : newarray.typeOf aty = ty) (hdv : defaultValue ty = .int 0) (hlen : 0 ≤ len.toInt) (hcap : len.toInt ≤ cap) (hbig : cap * 8 ≤ 536870912) (hd : decode bytes pc = .ok (.newarray aty, 2)) (hn : pc + 2 = n) (hc' : cells + 1 = c') (hs' : slots + cap = s') (hc : c' ≤ R.cells) (hs : s' ≤ R.slots)
    (k : ∀ h' b, b = h.size → Ext h h' → Ints Z h' b ty (List.replicate len.toInt.toNat 0) → Go p l e R s m args below meth c n0 Q c' s' h' (mkF m n Ls (.ref b :: st))) : Go p l e R s m args below meth c n0 Q cells slots h (mkF m pc Ls (.int len :: st)) := fun T locs X N q => by
  subst hn hc' hs' hty
  obtain ⟨T', h', cA, X', e', E, A, st'⟩ := newP X C.x C.z w q (g := mkF m pc Ls (.int len :: st)) rfl (hb C.by hd) rfl (not_neg hlen) (cap := cap) (by rw [nat_clamp]; omega) hbig hc hs
  have V := (Arv.new A (not_neg hlen))
  rw [hdv] at V
  have V2 := V.pad (pad_rep [] _ len.toInt.toNat)
  rw [List.nil_append, ← List.map_replicate (f := Value.int)] at V2
  obtain ⟨t, o, s1, r⟩ := k h' _ rfl E ⟨cA, len, V2, by rw [List.length_replicate]; omega⟩ T' _ X' N e'
  exact ⟨t, o, st' t s1, r⟩
theorem G.newarrayJ (C : Cx p s m meth c Z y bytes maxL ret) {aty : ArrayType} {ty : FieldType} {len : Int32} {cap c' s' : Nat} (w : (Jvm.Cond.arrayClass ty).before a0 Z = true) (hty : newarray.typeOf aty = ty) (hdv : defaultValue ty = .long 0) (hJ : ty = .long) (hlen : 0 ≤ len.toInt) (hcap : len.toInt ≤ cap) (hbig : cap * 8 ≤ 536870912) (hd : decode bytes pc = .ok (.newarray aty, 2)) (hn : pc + 2 = n) (hc' : cells + 1 = c') (hs' : slots + cap = s') (hc : c' ≤ R.cells) (hs : s' ≤ R.slots)
    (k : ∀ h' b, b = h.size → Ext h h' → Longs Z h' b (List.replicate len.toInt.toNat 0) → Go p l e R s m args below meth c n0 Q c' s' h' (mkF m n Ls (.ref b :: st))) : Go p l e R s m args below meth c n0 Q cells slots h (mkF m pc Ls (.int len :: st)) := fun T locs X N q => by
  subst hn hc' hs' hty
  obtain ⟨T', h', cA, X', e', E, A, st'⟩ := newP X C.x C.z w q (g := mkF m pc Ls (.int len :: st)) rfl (hb C.by hd) rfl (not_neg hlen) (cap := cap) (by rw [nat_clamp]; omega) hbig hc hs
  have V := (Arv.new A (not_neg hlen))
  rw [hdv] at V
  have V2 := V.pad (pad_rep [] _ len.toInt.toNat)
  rw [List.nil_append, ← List.map_replicate (f := Value.long), hJ] at V2
  obtain ⟨t, o, s1, r⟩ := k h' _ rfl E ⟨cA, len, V2, by rw [List.length_replicate]; omega⟩ T' _ X' N e'
  exact ⟨t, o, st' t s1, r⟩
theorem getD_at {α : Type} {vs : List α} {i : Nat} {d : α} (h : i < vs.length) : vs[i]? = some (vs.getD i d) := by
  rw [List.getD_eq_getElem?_getD, List.getElem?_eq_getElem h]; rfl
theorem kext {h' : Heap} (E : Ext h h') : Keep h h' [] := (Keep.refl h []).ext E
theorem Keep.tr {h' h'' : Heap} {ws ws' : List Addr} (K : Keep h h' ws) (K' : Keep h' h'' ws') (q : ∀ x ∈ ws', x ∈ ws ∨ h.size ≤ x) : Keep h h'' ws := K.trans K' q
end
end Jvm.Own
namespace Jvm.Pilot.@@N@@
open Jvm Jvm.ClassFile Sem Op Lib Jvm.Free Jvm.Stand Jvm.LawKit Jvm.RoadKit Jvm.Own Bundle Jvm.Pilot.@@N@@.Jvm.D
def Ob_P (Z : State) (h : Heap) (a : Addr) (f_index : Int32) (f_docs : Value) (f_positionStarts : Value) (f_positions : Value) : Prop := Exa Z h a "com/example/near_miss/nearmiss/index/PostingsIterator" ∧ Fld Z h a "com/example/near_miss/nearmiss/index/PostingsIterator" "index" "I" (.int f_index) ∧ Fld Z h a "com/example/near_miss/nearmiss/index/PostingsIterator" "docs" "[I" f_docs ∧ Fld Z h a "com/example/near_miss/nearmiss/index/PostingsIterator" "positionStarts" "[I" f_positionStarts ∧ Fld Z h a "com/example/near_miss/nearmiss/index/PostingsIterator" "positions" "[I" f_positions
theorem Ob_P.keep {Z : State} {h h' : Heap} {ws : List Addr} {a : Addr} {f_index : Int32} {f_docs : Value} {f_positionStarts : Value} {f_positions : Value} (O : Ob_P Z h a f_index f_docs f_positionStarts f_positions) (K : Keep h h' ws) (r : a ∉ ws) : Ob_P Z h' a f_index f_docs f_positionStarts f_positions := ⟨(O.1).keep K, (O.2.1).keep K r, (O.2.2.1).keep K r, (O.2.2.2.1).keep K r, (O.2.2.2.2).keep K r⟩
theorem Ob_P.lt {Z : State} {h : Heap} {a : Addr} {f_index : Int32} {f_docs : Value} {f_positionStarts : Value} {f_positions : Value} (O : Ob_P Z h a f_index f_docs f_positionStarts f_positions) : a < h.size := Exa.lt (O.1)
theorem Ob_P.set_index {Z : State} {a0 : Array Value} (hw : ∀ d ∈ tables_1, d.before a0 Z = true) {h h' : Heap} {a : Addr} {f_index : Int32} {f_docs : Value} {f_positionStarts : Value} {f_positions : Value} {v : Int32} (O : Ob_P Z h a f_index f_docs f_positionStarts f_positions) (W : Wr h h' a (RoadKit.slotOf Z "com/example/near_miss/nearmiss/index/PostingsIterator" "index" "I") (.int v)) : Ob_P Z h' a v f_docs f_positionStarts f_positions := ⟨(O.1).wr W, (O.2.1).same W, (O.2.2.1).other W (Or.inr (slot_ne (Or.inr (wd hw 14 rfl)) (Or.inl (wd hw 12 rfl)) (by decide) (t := (.array .int)) (t' := .int) (by decide) (by decide))), (O.2.2.2.1).other W (Or.inr (slot_ne (Or.inr (wd hw 16 rfl)) (Or.inl (wd hw 12 rfl)) (by decide) (t := (.array .int)) (t' := .int) (by decide) (by decide))), (O.2.2.2.2).other W (Or.inr (slot_ne (Or.inr (wd hw 18 rfl)) (Or.inl (wd hw 12 rfl)) (by decide) (t := (.array .int)) (t' := .int) (by decide) (by decide)))⟩
theorem Ob_P.set_docs {Z : State} {a0 : Array Value} (hw : ∀ d ∈ tables_1, d.before a0 Z = true) {h h' : Heap} {a : Addr} {f_index : Int32} {f_docs : Value} {f_positionStarts : Value} {f_positions : Value} {v : Value} (O : Ob_P Z h a f_index f_docs f_positionStarts f_positions) (W : Wr h h' a (RoadKit.slotOf Z "com/example/near_miss/nearmiss/index/PostingsIterator" "docs" "[I") v) : Ob_P Z h' a f_index v f_positionStarts f_positions := ⟨(O.1).wr W, (O.2.1).other W (Or.inr (slot_ne (Or.inl (wd hw 12 rfl)) (Or.inr (wd hw 14 rfl)) (by decide) (t := .int) (t' := (.array .int)) (by decide) (by decide))), (O.2.2.1).same W, (O.2.2.2.1).other W (Or.inr (slot_ne (Or.inr (wd hw 16 rfl)) (Or.inr (wd hw 14 rfl)) (by decide) (t := (.array .int)) (t' := (.array .int)) (by decide) (by decide))), (O.2.2.2.2).other W (Or.inr (slot_ne (Or.inr (wd hw 18 rfl)) (Or.inr (wd hw 14 rfl)) (by decide) (t := (.array .int)) (t' := (.array .int)) (by decide) (by decide)))⟩
theorem Ob_P.set_positionStarts {Z : State} {a0 : Array Value} (hw : ∀ d ∈ tables_1, d.before a0 Z = true) {h h' : Heap} {a : Addr} {f_index : Int32} {f_docs : Value} {f_positionStarts : Value} {f_positions : Value} {v : Value} (O : Ob_P Z h a f_index f_docs f_positionStarts f_positions) (W : Wr h h' a (RoadKit.slotOf Z "com/example/near_miss/nearmiss/index/PostingsIterator" "positionStarts" "[I") v) : Ob_P Z h' a f_index f_docs v f_positions := ⟨(O.1).wr W, (O.2.1).other W (Or.inr (slot_ne (Or.inl (wd hw 12 rfl)) (Or.inr (wd hw 16 rfl)) (by decide) (t := .int) (t' := (.array .int)) (by decide) (by decide))), (O.2.2.1).other W (Or.inr (slot_ne (Or.inr (wd hw 14 rfl)) (Or.inr (wd hw 16 rfl)) (by decide) (t := (.array .int)) (t' := (.array .int)) (by decide) (by decide))), (O.2.2.2.1).same W, (O.2.2.2.2).other W (Or.inr (slot_ne (Or.inr (wd hw 18 rfl)) (Or.inr (wd hw 16 rfl)) (by decide) (t := (.array .int)) (t' := (.array .int)) (by decide) (by decide)))⟩
theorem Ob_P.set_positions {Z : State} {a0 : Array Value} (hw : ∀ d ∈ tables_1, d.before a0 Z = true) {h h' : Heap} {a : Addr} {f_index : Int32} {f_docs : Value} {f_positionStarts : Value} {f_positions : Value} {v : Value} (O : Ob_P Z h a f_index f_docs f_positionStarts f_positions) (W : Wr h h' a (RoadKit.slotOf Z "com/example/near_miss/nearmiss/index/PostingsIterator" "positions" "[I") v) : Ob_P Z h' a f_index f_docs f_positionStarts v := ⟨(O.1).wr W, (O.2.1).other W (Or.inr (slot_ne (Or.inl (wd hw 12 rfl)) (Or.inr (wd hw 18 rfl)) (by decide) (t := .int) (t' := (.array .int)) (by decide) (by decide))), (O.2.2.1).other W (Or.inr (slot_ne (Or.inr (wd hw 14 rfl)) (Or.inr (wd hw 18 rfl)) (by decide) (t := (.array .int)) (t' := (.array .int)) (by decide) (by decide))), (O.2.2.2.1).other W (Or.inr (slot_ne (Or.inr (wd hw 16 rfl)) (Or.inr (wd hw 18 rfl)) (by decide) (t := (.array .int)) (t' := (.array .int)) (by decide) (by decide))), (O.2.2.2.2).same W⟩
theorem Ob_P.new {Z : State} {a0 : Array Value} (hw : ∀ d ∈ tables_1, d.before a0 Z = true) {h : Heap} {a : Addr} (E : Exa Z h a "com/example/near_miss/nearmiss/index/PostingsIterator") (D : ∀ {O nm d : String} {ty : FieldType}, Laid Z a0 "com/example/near_miss/nearmiss/index/PostingsIterator" O nm d → parseFieldDescriptor d = some ty → Fld Z h a O nm d (defaultValue ty)) : Ob_P Z h a (0 : Int32) .null .null .null := ⟨E, D (Or.inl (wd hw 12 rfl)) (ty := .int) (by decide), D (Or.inr (wd hw 14 rfl)) (ty := (.array .int)) (by decide), D (Or.inr (wd hw 16 rfl)) (ty := (.array .int)) (by decide), D (Or.inr (wd hw 18 rfl)) (ty := (.array .int)) (by decide)⟩
def docf (ix : Int32) (ds : List Int32) : Int32 := if ix.toInt < 0 then -1 else if ix.toInt < ds.length then ds.getD ix.toInt.toNat 0 else 2147483647
def expf (i k d0 d1 d2 : Int32) : Int32 := if i.toInt = 0 then -1 else if k.toInt < i.toInt then 2147483647 else if i.toInt = 1 then d0 else if i.toInt = 2 then d1 else d2
theorem d1_0 : decode prog_10_method_1_code 0 = .ok (.aload_n 0, 1) := by decide +kernel
theorem d1_1 : decode prog_10_method_1_code 1 = .ok (.invokespecial 1, 3) := by decide +kernel
theorem d1_4 : decode prog_10_method_1_code 4 = .ok (.aload_n 0, 1) := by decide +kernel
theorem d1_5 : decode prog_10_method_1_code 5 = .ok (.iconst (-1), 1) := by decide +kernel
theorem d1_6 : decode prog_10_method_1_code 6 = .ok (.putfield 7, 3) := by decide +kernel
theorem d1_9 : decode prog_10_method_1_code 9 = .ok (.aload_n 0, 1) := by decide +kernel
theorem d1_10 : decode prog_10_method_1_code 10 = .ok (.aload_n 1, 1) := by decide +kernel
theorem d1_11 : decode prog_10_method_1_code 11 = .ok (.putfield 13, 3) := by decide +kernel
theorem d1_14 : decode prog_10_method_1_code 14 = .ok (.aload_n 0, 1) := by decide +kernel
theorem d1_15 : decode prog_10_method_1_code 15 = .ok (.aload_n 2, 1) := by decide +kernel
theorem d1_16 : decode prog_10_method_1_code 16 = .ok (.putfield 17, 3) := by decide +kernel
theorem d1_19 : decode prog_10_method_1_code 19 = .ok (.aload_n 0, 1) := by decide +kernel
theorem d1_20 : decode prog_10_method_1_code 20 = .ok (.aload_n 3, 1) := by decide +kernel
theorem d1_21 : decode prog_10_method_1_code 21 = .ok (.putfield 20, 3) := by decide +kernel
theorem d1_24 : decode prog_10_method_1_code 24 = .ok (.return_, 1) := by decide +kernel
theorem pn0 : plainName "com/example/near_miss/nearmiss/index/PostingsIterator" = true := by first | (simp [plainName, overriddenIn]; done) | decide +kernel
theorem ef1 (m : MethodId) (a : Addr) (d1 : Addr) (d2 : Addr) (d3 : Addr) : entryFrame m #[(.ref a), (.ref d1), (.ref d2), (.ref d3)] 4 = mkF m 0 #[.val (.ref a), .val (.ref d1), .val (.ref d2), .val (.ref d3)] [] := by first | (simp [entryFrame, mkF, argsToLocals, Value.category]; done) | rfl
abbrev Q_init (Z : State) (h0 : Heap) (a : Addr) (d1 : Addr) (d2 : Addr) (d3 : Addr) : Option Value → Heap → Prop := fun v h' => v = none ∧ Keep h0 h' [a] ∧ Ob_P Z h' a (-1) (.ref d1) (.ref d2) (.ref d3)
abbrev R_init : Room := { frames := 1, cells := 0, slots := 0, locals := 12 }
set_option maxRecDepth 65536 in
set_option maxHeartbeats 40000000 in
theorem m_init (l : Launch) (Z : State) (a0 : Array Value) (hw : ∀ d ∈ tables_1, d.before a0 Z = true) (a : Addr) (d1 : Addr) (d2 : Addr) (d3 : Addr) (h0 : Heap) (n0 : Nat) (Z0 : n0 ≤ h0.size) (O_a : Ob_P Z h0 a 0 .null .null .null) (g_a : n0 ≤ a) : Met l Z (⟨"com/example/near_miss/nearmiss/index/PostingsIterator", "<init>", "([I[I[I)V"⟩ : MethodName) prog_10_method_1_code 4 none R_init #[(.ref a), (.ref d1), (.ref d2), (.ref d3)] h0 n0 (Q_init Z h0 a d1 d2 d3) := by
  refine Met.of (plainFor_of_name pn0) (fun m => ef1 m a d1 d2 d3) ?_
  intro p e s m args below meth c C
  refine G.aloadN C d1_0 rfl rfl (n := 1) rfl ?_
  refine G.objinit C (wd hw 8 rfl) (wd hw 9 rfl) (wd hw 10 rfl) d1_1 rfl (by decide) (W := 0) rfl (by decide) (n := 4) rfl ?_
  refine G.aloadN C d1_4 rfl rfl (n := 5) rfl ?_
  refine G.iconst C (v := (-1 : Int32)) d1_5 (by decide) (n := 6) rfl ?_
  refine G.putfield C (host := "") (Or.inl (wd hw 11 rfl)) Via.refl (O_a.2.1) (O_a.1) (Or.inl (wd hw 12 rfl)) (wd hw 3 rfl) (ty := .int) (by decide) rfl rfl g_a d1_6 (n := 9) rfl ?_
  intro h1 W2
  have O3 := Ob_P.set_index hw O_a W2
  have K4 := Keep.of_wr W2
  have Z5 : n0 ≤ h1.size := Nat.le_trans Z0 K4.1
  have K6 : Keep h0 h1 [a] := Keep.tr (Keep.refl h0 _) K4 (allS (Or.inl (List.mem_of_getElem? (i := 0) rfl)) all0)
  refine G.aloadN C d1_9 rfl rfl (n := 10) rfl ?_
  refine G.aloadN C d1_10 rfl rfl (n := 11) rfl ?_
  refine G.putfield C (host := "") (Or.inl (wd hw 13 rfl)) Via.refl (O3.2.2.1) (O3.1) (Or.inr ⟨(wd hw 14 rfl), rfl, rfl⟩) (wd hw 3 rfl) (ty := (.array .int)) (by decide) rfl rfl g_a d1_11 (n := 14) rfl ?_
  intro h7 W8
  have O9 := Ob_P.set_docs hw O3 (v := (.ref d1)) W8
  have K10 := Keep.of_wr W8
  have Z11 : n0 ≤ h7.size := Nat.le_trans Z5 K10.1
  have K12 : Keep h0 h7 [a] := Keep.tr K6 K10 (allS (Or.inl (List.mem_of_getElem? (i := 0) rfl)) all0)
  refine G.aloadN C d1_14 rfl rfl (n := 15) rfl ?_
  refine G.aloadN C d1_15 rfl rfl (n := 16) rfl ?_
  refine G.putfield C (host := "") (Or.inl (wd hw 15 rfl)) Via.refl (O9.2.2.2.1) (O9.1) (Or.inr ⟨(wd hw 16 rfl), rfl, rfl⟩) (wd hw 3 rfl) (ty := (.array .int)) (by decide) rfl rfl g_a d1_16 (n := 19) rfl ?_
  intro h13 W14
  have O15 := Ob_P.set_positionStarts hw O9 (v := (.ref d2)) W14
  have K16 := Keep.of_wr W14
  have Z17 : n0 ≤ h13.size := Nat.le_trans Z11 K16.1
  have K18 : Keep h0 h13 [a] := Keep.tr K12 K16 (allS (Or.inl (List.mem_of_getElem? (i := 0) rfl)) all0)
  refine G.aloadN C d1_19 rfl rfl (n := 20) rfl ?_
  refine G.aloadN C d1_20 rfl rfl (n := 21) rfl ?_
  refine G.putfield C (host := "") (Or.inl (wd hw 17 rfl)) Via.refl (O15.2.2.2.2) (O15.1) (Or.inr ⟨(wd hw 18 rfl), rfl, rfl⟩) (wd hw 3 rfl) (ty := (.array .int)) (by decide) rfl rfl g_a d1_21 (n := 24) rfl ?_
  intro h19 W20
  have O21 := Ob_P.set_positions hw O15 (v := (.ref d3)) W20
  have K22 := Keep.of_wr W20
  have Z23 : n0 ≤ h19.size := Nat.le_trans Z17 K22.1
  have K24 : Keep h0 h19 [a] := Keep.tr K18 K22 (allS (Or.inl (List.mem_of_getElem? (i := 0) rfl)) all0)
  refine G.return_ C d1_24 (by decide) (by decide) ?_
  exact ⟨rfl, K24, O21⟩
theorem d3_0 : decode prog_10_method_5_code 0 = .ok (.aload_n 0, 1) := by decide +kernel
theorem d3_1 : decode prog_10_method_5_code 1 = .ok (.getfield 7, 3) := by decide +kernel
theorem d3_4 : decode prog_10_method_5_code 4 = .ok (.ifCond .ge 5, 3) := by decide +kernel
theorem d3_7 : decode prog_10_method_5_code 7 = .ok (.iconst (-1), 1) := by decide +kernel
theorem d3_8 : decode prog_10_method_5_code 8 = .ok (.ireturn, 1) := by decide +kernel
theorem d3_9 : decode prog_10_method_5_code 9 = .ok (.aload_n 0, 1) := by decide +kernel
theorem d3_10 : decode prog_10_method_5_code 10 = .ok (.getfield 7, 3) := by decide +kernel
theorem d3_13 : decode prog_10_method_5_code 13 = .ok (.aload_n 0, 1) := by decide +kernel
theorem d3_14 : decode prog_10_method_5_code 14 = .ok (.getfield 13, 3) := by decide +kernel
theorem d3_17 : decode prog_10_method_5_code 17 = .ok (.arraylength, 1) := by decide +kernel
theorem d3_18 : decode prog_10_method_5_code 18 = .ok (.if_icmp .ge 15, 3) := by decide +kernel
theorem d3_21 : decode prog_10_method_5_code 21 = .ok (.aload_n 0, 1) := by decide +kernel
theorem d3_22 : decode prog_10_method_5_code 22 = .ok (.getfield 13, 3) := by decide +kernel
theorem d3_25 : decode prog_10_method_5_code 25 = .ok (.aload_n 0, 1) := by decide +kernel
theorem d3_26 : decode prog_10_method_5_code 26 = .ok (.getfield 7, 3) := by decide +kernel
theorem d3_29 : decode prog_10_method_5_code 29 = .ok (.iaload, 1) := by decide +kernel
theorem d3_30 : decode prog_10_method_5_code 30 = .ok (.goto 5, 3) := by decide +kernel
theorem d3_33 : decode prog_10_method_5_code 33 = .ok (.ldc 40, 2) := by decide +kernel
theorem d3_35 : decode prog_10_method_5_code 35 = .ok (.ireturn, 1) := by decide +kernel
theorem ef2 (m : MethodId) (a : Addr) : entryFrame m #[(.ref a)] 1 = mkF m 0 #[.val (.ref a)] [] := by first | (simp [entryFrame, mkF, argsToLocals, Value.category]; done) | rfl
abbrev Q_doc (Z : State) (h0 : Heap) (a : Addr) (d : Addr) (d2 : Addr) (d3 : Addr) (ix : Int32) (ds : List Int32) (ln : Int32) (r : Int32) : Option Value → Heap → Prop := fun v h' => v = some (.int r) ∧ h0 = h'
abbrev R_doc : Room := { frames := 0, cells := 0, slots := 0, locals := 0 }
set_option maxRecDepth 65536 in
set_option maxHeartbeats 40000000 in
theorem m_doc (l : Launch) (Z : State) (a0 : Array Value) (hw : ∀ d ∈ tables_1, d.before a0 Z = true) (a : Addr) (d : Addr) (d2 : Addr) (d3 : Addr) (ix : Int32) (ds : List Int32) (ln : Int32) (r : Int32) (h0 : Heap) (n0 : Nat) (Z0 : n0 ≤ h0.size) (O_a : Ob_P Z h0 a ix (.ref d) (.ref d2) (.ref d3)) (O_d : Ints Z h0 d .int ds) (e_ln : ln.toInt = ds.length) (e_r : r = docf ix ds) : Met l Z (⟨"com/example/near_miss/nearmiss/index/PostingsIterator", "doc", "()I"⟩ : MethodName) prog_10_method_5_code 1 (some .int) R_doc #[(.ref a)] h0 n0 (Q_doc Z h0 a d d2 d3 ix ds ln r) := by
  refine Met.of (plainFor_of_name pn0) (fun m => ef2 m a) ?_
  intro p e s m args below meth c C
  refine G.aloadN C d3_0 rfl rfl (n := 1) rfl ?_
  refine G.getfield C (host := "") (Or.inl (wd hw 11 rfl)) Via.refl (O_a.2.1) d3_1 (n := 4) rfl ?_
  refine G.if_ge C (A := ix.toInt) rfl d3_4 (by decide) (by decide) (n := 7) (n' := 9) rfl (fun c4_1 => ?_) (fun c4_1 => ?_)
  · refine G.aloadN C d3_9 rfl rfl (n := 10) rfl ?_
    refine G.getfield C (host := "") (Or.inl (wd hw 11 rfl)) Via.refl (O_a.2.1) d3_10 (n := 13) rfl ?_
    refine G.aloadN C d3_13 rfl rfl (n := 14) rfl ?_
    refine G.getfield C (host := "") (Or.inl (wd hw 13 rfl)) Via.refl (O_a.2.2.1) d3_14 (n := 17) rfl ?_
    refine G.arraylengthI C (len := ln) O_d e_ln d3_17 (n := 18) rfl ?_
    refine G.icmp_ge C (A := ix.toInt) (B := ln.toInt) rfl rfl d3_18 (by decide) (by decide) (n := 21) (n' := 33) rfl (fun c18_2 => ?_) (fun c18_2 => ?_)
    · refine G.ldc C (v := (2147483647 : Int32)) (wd hw 34 rfl) d3_33 (n := 35) rfl ?_
      refine G.ireturn C d3_35 (rfl) (by simp) (by decide) (by decide) ?_
      exact ⟨by rw [e_r, docf, if_neg (by omega), if_neg (by omega)], rfl⟩
    · refine G.aloadN C d3_21 rfl rfl (n := 22) rfl ?_
      refine G.getfield C (host := "") (Or.inl (wd hw 13 rfl)) Via.refl (O_a.2.2.1) d3_22 (n := 25) rfl ?_
      refine G.aloadN C d3_25 rfl rfl (n := 26) rfl ?_
      refine G.getfield C (host := "") (Or.inl (wd hw 11 rfl)) Via.refl (O_a.2.1) d3_26 (n := 29) rfl ?_
      refine G.iaload C (x := (ds.getD ix.toInt.toNat 0)) O_d (by omega) (getD_at (by omega)) d3_29 (n := 30) rfl ?_
      refine G.goto C d3_30 (by decide) (n := 35) (by decide) ?_
      refine G.ireturn C d3_35 (rfl) (by simp) (by decide) (by decide) ?_
      exact ⟨by rw [e_r, docf, if_neg (by omega), if_pos (by omega)], rfl⟩
  · refine G.iconst C (v := (-1 : Int32)) d3_7 (by decide) (n := 8) rfl ?_
    refine G.ireturn C d3_8 (rfl) (by simp) (by decide) (by decide) ?_
    exact ⟨by rw [e_r, docf, if_pos (by omega)], rfl⟩
theorem d5_0 : decode prog_10_method_3_code 0 = .ok (.aload_n 0, 1) := by decide +kernel
theorem d5_1 : decode prog_10_method_3_code 1 = .ok (.getfield 7, 3) := by decide +kernel
theorem d5_4 : decode prog_10_method_3_code 4 = .ok (.aload_n 0, 1) := by decide +kernel
theorem d5_5 : decode prog_10_method_3_code 5 = .ok (.getfield 13, 3) := by decide +kernel
theorem d5_8 : decode prog_10_method_3_code 8 = .ok (.arraylength, 1) := by decide +kernel
theorem d5_9 : decode prog_10_method_3_code 9 = .ok (.if_icmp .ge 13, 3) := by decide +kernel
theorem d5_12 : decode prog_10_method_3_code 12 = .ok (.aload_n 0, 1) := by decide +kernel
theorem d5_13 : decode prog_10_method_3_code 13 = .ok (.dup, 1) := by decide +kernel
theorem d5_14 : decode prog_10_method_3_code 14 = .ok (.getfield 7, 3) := by decide +kernel
theorem d5_17 : decode prog_10_method_3_code 17 = .ok (.iconst 1, 1) := by decide +kernel
theorem d5_18 : decode prog_10_method_3_code 18 = .ok (.iadd, 1) := by decide +kernel
theorem d5_19 : decode prog_10_method_3_code 19 = .ok (.putfield 7, 3) := by decide +kernel
theorem d5_22 : decode prog_10_method_3_code 22 = .ok (.aload_n 0, 1) := by decide +kernel
theorem d5_23 : decode prog_10_method_3_code 23 = .ok (.invokevirtual 23, 3) := by decide +kernel
theorem d5_26 : decode prog_10_method_3_code 26 = .ok (.ireturn, 1) := by decide +kernel
theorem pd0 : parseMethodDescriptor "()I" = some ⟨[], some .int⟩ := by decide +kernel
theorem ef3 (m : MethodId) (a : Addr) : entryFrame m #[(.ref a)] 1 = mkF m 0 #[.val (.ref a)] [] := by first | (simp [entryFrame, mkF, argsToLocals, Value.category]; done) | rfl
abbrev Q_next (Z : State) (h0 : Heap) (a : Addr) (d : Addr) (d2 : Addr) (d3 : Addr) (ix : Int32) (ds : List Int32) (ln : Int32) (ix' : Int32) : Option Value → Heap → Prop := fun v h' => (∃ r, v = some (.int r)) ∧ Keep h0 h' [a] ∧ Ob_P Z h' a ix' (.ref d) (.ref d2) (.ref d3)
abbrev R_next : Room := { frames := 1, cells := 0, slots := 0, locals := 12 }
set_option maxRecDepth 65536 in
set_option maxHeartbeats 40000000 in
theorem m_next (l : Launch) (Z : State) (a0 : Array Value) (hw : ∀ d ∈ tables_1, d.before a0 Z = true) (a : Addr) (d : Addr) (d2 : Addr) (d3 : Addr) (ix : Int32) (ds : List Int32) (ln : Int32) (ix' : Int32) (h0 : Heap) (n0 : Nat) (Z0 : n0 ≤ h0.size) (O_a : Ob_P Z h0 a ix (.ref d) (.ref d2) (.ref d3)) (O_d : Ints Z h0 d .int ds) (e_ln : ln.toInt = ds.length) (ne_da : d ≠ a) (g_a : n0 ≤ a) (e_ix : ix' = if ix.toInt < ln.toInt then ix + 1 else ix) : Met l Z (⟨"com/example/near_miss/nearmiss/index/PostingsIterator", "next", "()I"⟩ : MethodName) prog_10_method_3_code 1 (some .int) R_next #[(.ref a)] h0 n0 (Q_next Z h0 a d d2 d3 ix ds ln ix') := by
  refine Met.of (plainFor_of_name pn0) (fun m => ef3 m a) ?_
  intro p e s m args below meth c C
  refine G.aloadN C d5_0 rfl rfl (n := 1) rfl ?_
  refine G.getfield C (host := "") (Or.inl (wd hw 11 rfl)) Via.refl (O_a.2.1) d5_1 (n := 4) rfl ?_
  refine G.aloadN C d5_4 rfl rfl (n := 5) rfl ?_
  refine G.getfield C (host := "") (Or.inl (wd hw 13 rfl)) Via.refl (O_a.2.2.1) d5_5 (n := 8) rfl ?_
  refine G.arraylengthI C (len := ln) O_d e_ln d5_8 (n := 9) rfl ?_
  refine G.icmp_ge C (A := ix.toInt) (B := ln.toInt) rfl rfl d5_9 (by decide) (by decide) (n := 12) (n' := 22) rfl (fun c9_1 => ?_) (fun c9_1 => ?_)
  · have O_a : Ob_P Z h0 a ix' (.ref d) (.ref d2) (.ref d3) := by rw [e_ix, if_neg (by omega)]; exact O_a
    refine G.aloadN C d5_22 rfl rfl (n := 23) rfl ?_
    refine G.callV C (argsL := []) (yr := (⟨"com/example/near_miss/nearmiss/index/PostingsIterator", "doc", "()I"⟩ : MethodName)) (yc := (⟨"com/example/near_miss/nearmiss/index/PostingsIterator", "doc", "()I"⟩ : MethodName)) (a := a) (O_a.1) (wd hw 33 rfl) (wd hw 20 rfl) (nfS (wd hw 22 rfl) rfl) (wd hw 22 rfl) (wd hw 21 rfl) (wd hw 4 rfl) (wd hw 23 rfl) (by decide) (m_doc l Z a0 hw a d d2 d3 ix' ds ln (docf ix' ds) h0 n0 Z0 O_a O_d e_ln rfl) rfl (by decide) (W := 0) rfl (by decide) (c' := 0) (s' := 0) rfl rfl (by decide) (by decide) d5_23 (n := 26) rfl pd0 rfl rfl ?_
    rintro _ _ ⟨rfl, rfl⟩
    refine G.ireturn C d5_26 (rfl) (by simp) (by decide) (by decide) ?_
    exact ⟨⟨_, rfl⟩, Keep.refl _ _, O_a⟩
  · refine G.aloadN C d5_12 rfl rfl (n := 13) rfl ?_
    refine G.dup C d5_13 rfl (n := 14) rfl ?_
    refine G.getfield C (host := "") (Or.inl (wd hw 11 rfl)) Via.refl (O_a.2.1) d5_14 (n := 17) rfl ?_
    refine G.iconst C (v := (1 : Int32)) d5_17 (by decide) (n := 18) rfl ?_
    refine G.iadd C d5_18 (n := 19) rfl ?_
    refine G.fold_int (z := ix') (by rw [e_ix, if_pos c9_1]) ?_
    refine G.putfield C (host := "") (Or.inl (wd hw 11 rfl)) Via.refl (O_a.2.1) (O_a.1) (Or.inl (wd hw 12 rfl)) (wd hw 3 rfl) (ty := .int) (by decide) rfl rfl g_a d5_19 (n := 22) rfl ?_
    intro h4 W5
    have O6 := Ob_P.set_index hw O_a W5
    have K7 := Keep.of_wr W5
    have O8 := O_d.keep K7 (ninS ne_da nin0)
    have Z9 : n0 ≤ h4.size := Nat.le_trans Z0 K7.1
    have K10 : Keep h0 h4 [a] := Keep.tr (Keep.refl h0 _) K7 (allS (Or.inl (List.mem_of_getElem? (i := 0) rfl)) all0)
    refine G.aloadN C d5_22 rfl rfl (n := 23) rfl ?_
    refine G.callV C (argsL := []) (yr := (⟨"com/example/near_miss/nearmiss/index/PostingsIterator", "doc", "()I"⟩ : MethodName)) (yc := (⟨"com/example/near_miss/nearmiss/index/PostingsIterator", "doc", "()I"⟩ : MethodName)) (a := a) (O6.1) (wd hw 33 rfl) (wd hw 20 rfl) (nfS (wd hw 22 rfl) rfl) (wd hw 22 rfl) (wd hw 21 rfl) (wd hw 4 rfl) (wd hw 23 rfl) (by decide) (m_doc l Z a0 hw a d d2 d3 ix' ds ln (docf ix' ds) h4 n0 Z9 O6 O8 e_ln rfl) rfl (by decide) (W := 0) rfl (by decide) (c' := 0) (s' := 0) rfl rfl (by decide) (by decide) d5_23 (n := 26) rfl pd0 rfl rfl ?_
    rintro _ _ ⟨rfl, rfl⟩
    refine G.ireturn C d5_26 (rfl) (by simp) (by decide) (by decide) ?_
    exact ⟨⟨_, rfl⟩, K10, O6⟩
theorem d4_0 : decode method_2_code 0 = .ok (.iload_n 0, 1) := by decide +kernel
theorem d4_1 : decode method_2_code 1 = .ok (.ifCond .ne 5, 3) := by decide +kernel
theorem d4_4 : decode method_2_code 4 = .ok (.iconst (-1), 1) := by decide +kernel
theorem d4_5 : decode method_2_code 5 = .ok (.ireturn, 1) := by decide +kernel
theorem d4_6 : decode method_2_code 6 = .ok (.iload_n 0, 1) := by decide +kernel
theorem d4_7 : decode method_2_code 7 = .ok (.iload_n 1, 1) := by decide +kernel
theorem d4_8 : decode method_2_code 8 = .ok (.if_icmp .le 6, 3) := by decide +kernel
theorem d4_11 : decode method_2_code 11 = .ok (.ldc 9, 2) := by decide +kernel
theorem d4_13 : decode method_2_code 13 = .ok (.ireturn, 1) := by decide +kernel
theorem d4_14 : decode method_2_code 14 = .ok (.iload_n 0, 1) := by decide +kernel
theorem d4_15 : decode method_2_code 15 = .ok (.iconst 1, 1) := by decide +kernel
theorem d4_16 : decode method_2_code 16 = .ok (.if_icmp .ne 5, 3) := by decide +kernel
theorem d4_19 : decode method_2_code 19 = .ok (.iload_n 2, 1) := by decide +kernel
theorem d4_20 : decode method_2_code 20 = .ok (.ireturn, 1) := by decide +kernel
theorem d4_21 : decode method_2_code 21 = .ok (.iload_n 0, 1) := by decide +kernel
theorem d4_22 : decode method_2_code 22 = .ok (.iconst 2, 1) := by decide +kernel
theorem d4_23 : decode method_2_code 23 = .ok (.if_icmp .ne 5, 3) := by decide +kernel
theorem d4_26 : decode method_2_code 26 = .ok (.iload_n 3, 1) := by decide +kernel
theorem d4_27 : decode method_2_code 27 = .ok (.ireturn, 1) := by decide +kernel
theorem d4_28 : decode method_2_code 28 = .ok (.iload 4, 2) := by decide +kernel
theorem d4_30 : decode method_2_code 30 = .ok (.ireturn, 1) := by decide +kernel
theorem pn1 : plainName "com/example/near_miss/nearmiss/index/PostingsIteratorDocPinLaw" = true := by first | (simp [plainName, overriddenIn]; done) | decide +kernel
theorem ef4 (m : MethodId) (i : Int32) (k : Int32) (d0 : Int32) (d1 : Int32) (d2 : Int32) : entryFrame m #[(.int i), (.int k), (.int d0), (.int d1), (.int d2)] 5 = mkF m 0 #[.val (.int i), .val (.int k), .val (.int d0), .val (.int d1), .val (.int d2)] [] := by first | (simp [entryFrame, mkF, argsToLocals, Value.category]; done) | rfl
abbrev Q_expected (Z : State) (h0 : Heap) (i : Int32) (k : Int32) (d0 : Int32) (d1 : Int32) (d2 : Int32) (r : Int32) : Option Value → Heap → Prop := fun v h' => v = some (.int r) ∧ h0 = h'
abbrev R_expected : Room := { frames := 0, cells := 0, slots := 0, locals := 0 }
set_option maxRecDepth 65536 in
set_option maxHeartbeats 40000000 in
theorem m_expected (l : Launch) (Z : State) (a0 : Array Value) (hw : ∀ d ∈ tables_1, d.before a0 Z = true) (i : Int32) (k : Int32) (d0 : Int32) (d1 : Int32) (d2 : Int32) (r : Int32) (h0 : Heap) (n0 : Nat) (Z0 : n0 ≤ h0.size) (e_r : r = expf i k d0 d1 d2) : Met l Z (⟨"com/example/near_miss/nearmiss/index/PostingsIteratorDocPinLaw", "expected", "(IIIII)I"⟩ : MethodName) method_2_code 5 (some .int) R_expected #[(.int i), (.int k), (.int d0), (.int d1), (.int d2)] h0 n0 (Q_expected Z h0 i k d0 d1 d2 r) := by
  refine Met.of (plainFor_of_name pn1) (fun m => ef4 m i k d0 d1 d2) ?_
  intro p e s m args below meth c C
  refine G.iloadN C d4_0 rfl (n := 1) rfl ?_
  refine G.if_ne C (A := i.toInt) rfl d4_1 (by decide) (by decide) (n := 4) (n' := 6) rfl (fun c1_1 c1_1i => ?_) (fun c1_1 c1_1i => ?_)
  · refine G.iloadN C d4_6 rfl (n := 7) rfl ?_
    refine G.iloadN C d4_7 rfl (n := 8) rfl ?_
    refine G.icmp_le C (A := i.toInt) (B := k.toInt) rfl rfl d4_8 (by decide) (by decide) (n := 11) (n' := 14) rfl (fun c8_2 => ?_) (fun c8_2 => ?_)
    · refine G.iloadN C d4_14 rfl (n := 15) rfl ?_
      refine G.iconst C (v := (1 : Int32)) d4_15 (by decide) (n := 16) rfl ?_
      refine G.icmp_ne C (A := i.toInt) (B := 1) rfl (by decide) d4_16 (by decide) (by decide) (n := 19) (n' := 21) rfl (fun c16_3 c16_3i => ?_) (fun c16_3 c16_3i => ?_)
      · refine G.iloadN C d4_21 rfl (n := 22) rfl ?_
        refine G.iconst C (v := (2 : Int32)) d4_22 (by decide) (n := 23) rfl ?_
        refine G.icmp_ne C (A := i.toInt) (B := 2) rfl (by decide) d4_23 (by decide) (by decide) (n := 26) (n' := 28) rfl (fun c23_4 c23_4i => ?_) (fun c23_4 c23_4i => ?_)
        · refine G.iload C d4_28 rfl (n := 30) rfl ?_
          refine G.ireturn C d4_30 (rfl) (by simp) (by decide) (by decide) ?_
          refine ⟨?_, rfl⟩
          rw [e_r, expf]
          repeat' split
          all_goals first | rfl | (exfalso; omega)
        · refine G.iloadN C d4_26 rfl (n := 27) rfl ?_
          refine G.ireturn C d4_27 (rfl) (by simp) (by decide) (by decide) ?_
          refine ⟨?_, rfl⟩
          rw [e_r, expf]
          repeat' split
          all_goals first | rfl | (exfalso; omega)
      · refine G.iloadN C d4_19 rfl (n := 20) rfl ?_
        refine G.ireturn C d4_20 (rfl) (by simp) (by decide) (by decide) ?_
        refine ⟨?_, rfl⟩
        rw [e_r, expf]
        repeat' split
        all_goals first | rfl | (exfalso; omega)
    · refine G.ldc C (v := (2147483647 : Int32)) (wd hw 35 rfl) d4_11 (n := 13) rfl ?_
      refine G.ireturn C d4_13 (rfl) (by simp) (by decide) (by decide) ?_
      refine ⟨?_, rfl⟩
      rw [e_r, expf]
      repeat' split
      all_goals first | rfl | (exfalso; omega)
  · refine G.iconst C (v := (-1 : Int32)) d4_4 (by decide) (n := 5) rfl ?_
    refine G.ireturn C d4_5 (rfl) (by simp) (by decide) (by decide) ?_
    refine ⟨?_, rfl⟩
    rw [e_r, expf]
    repeat' split
    all_goals first | rfl | (exfalso; omega)
theorem pd1 : parseMethodDescriptor "([I[I[I)V" = some ⟨[(.array .int), (.array .int), (.array .int)], none⟩ := by decide +kernel
theorem pd2 : parseMethodDescriptor "(IIIII)I" = some ⟨[.int, .int, .int, .int, .int], some .int⟩ := by decide +kernel
theorem ef5 (m : MethodId) (i0 : Int32) (i1 : Int32) (i2 : Int32) (i3 : Int32) : entryFrame m #[(.int i0), (.int i1), (.int i2), (.int i3)] 13 = mkF m 0 #[.val (.int i0), .val (.int i1), .val (.int i2), .val (.int i3), .unset, .unset, .unset, .unset, .unset, .unset, .unset, .unset, .unset] [] := by first | (simp [entryFrame, mkF, argsToLocals, Value.category]; done) | rfl
abbrev Q_law (Z : State) (h0 : Heap) (i0 : Int32) (i1 : Int32) (i2 : Int32) (i3 : Int32) : Option Value → Heap → Prop := fun v h' => v = some (.int 1)
set_option maxRecDepth 65536 in
set_option maxHeartbeats 40000000 in
theorem m_law (l : Launch) (Z : State) (a0 : Array Value) (hw : ∀ d ∈ tables_1, d.before a0 Z = true) (i0 : Int32) (i1 : Int32) (i2 : Int32) (i3 : Int32) (h0 : Heap) (n0 : Nat) (Z0 : n0 ≤ h0.size)  : Met l Z (⟨"com/example/near_miss/nearmiss/index/PostingsIteratorDocPinLaw", "law", "(IIII)Z"⟩ : MethodName) code 13 (some .boolean) room_1 #[(.int i0), (.int i1), (.int i2), (.int i3)] h0 n0 (Q_law Z h0 i0 i1 i2 i3) := by
  refine Met.of (plainFor_of_name pn1) (fun m => ef5 m i0 i1 i2 i3) ?_
  intro p e s m args below meth c C
  refine G.iloadN C at_0 rfl (n := 1) rfl ?_
  refine G.iconst C (v := (3 : Int32)) at_1 (by decide) (n := 2) rfl ?_
  refine G.iand C at_2 (n := 3) rfl ?_
  refine G.istoreZ C at_3 (l' := fun z => #[.val (.int i0), .val (.int i1), .val (.int i2), .val (.int i3), .val (.int z), .unset, .unset, .unset, .unset, .unset, .unset, .unset, .unset]) (fun _ => rfl) (n := 5) rfl ?_
  intro v1 hv1
  refine G.iloadN C at_5 rfl (n := 6) rfl ?_
  refine G.ldc C (v := (536870911 : Int32)) (wd hw 0 rfl) at_6 (n := 8) rfl ?_
  refine G.iand C at_8 (n := 9) rfl ?_
  refine G.istoreZ C at_9 (l' := fun z => #[.val (.int i0), .val (.int i1), .val (.int i2), .val (.int i3), .val (.int v1), .val (.int z), .unset, .unset, .unset, .unset, .unset, .unset, .unset]) (fun _ => rfl) (n := 11) rfl ?_
  intro v2 hv2
  refine G.iload C at_11 rfl (n := 13) rfl ?_
  refine G.iconst C (v := (1 : Int32)) at_13 (by decide) (n := 14) rfl ?_
  refine G.iadd C at_14 (n := 15) rfl ?_
  refine G.iloadN C at_15 rfl (n := 16) rfl ?_
  refine G.ldc C (v := (536870911 : Int32)) (wd hw 0 rfl) at_16 (n := 18) rfl ?_
  refine G.iand C at_18 (n := 19) rfl ?_
  refine G.iadd C at_19 (n := 20) rfl ?_
  refine G.istoreZ C at_20 (l' := fun z => #[.val (.int i0), .val (.int i1), .val (.int i2), .val (.int i3), .val (.int v1), .val (.int v2), .val (.int z), .unset, .unset, .unset, .unset, .unset, .unset]) (fun _ => rfl) (n := 22) rfl ?_
  intro v3 hv3
  refine G.iload C at_22 rfl (n := 24) rfl ?_
  refine G.iconst C (v := (1 : Int32)) at_24 (by decide) (n := 25) rfl ?_
  refine G.iadd C at_25 (n := 26) rfl ?_
  refine G.iloadN C at_26 rfl (n := 27) rfl ?_
  refine G.ldc C (v := (536870911 : Int32)) (wd hw 0 rfl) at_27 (n := 29) rfl ?_
  refine G.iand C at_29 (n := 30) rfl ?_
  refine G.iadd C at_30 (n := 31) rfl ?_
  refine G.istoreZ C at_31 (l' := fun z => #[.val (.int i0), .val (.int i1), .val (.int i2), .val (.int i3), .val (.int v1), .val (.int v2), .val (.int v3), .val (.int z), .unset, .unset, .unset, .unset, .unset]) (fun _ => rfl) (n := 33) rfl ?_
  intro v4 hv4
  refine G.iload C at_33 rfl (n := 35) rfl ?_
  refine G.if_ne C (A := v1.toInt) rfl at_35 (by decide) (by decide) (n := 38) (n' := 60) rfl (fun c35_5 c35_5i => ?_) (fun c35_5 c35_5i => ?_)
  · refine G.iload C at_60 rfl (n := 62) rfl ?_
    refine G.iconst C (v := (1 : Int32)) at_62 (by decide) (n := 63) rfl ?_
    refine G.icmp_ne C (A := v1.toInt) (B := 1) rfl (by decide) at_63 (by decide) (by decide) (n := 66) (n' := 101) rfl (fun c63_6 c63_6i => ?_) (fun c63_6 c63_6i => ?_)
    · refine G.iload C at_101 rfl (n := 103) rfl ?_
      refine G.iconst C (v := (2 : Int32)) at_103 (by decide) (n := 104) rfl ?_
      refine G.icmp_ne C (A := v1.toInt) (B := 2) rfl (by decide) at_104 (by decide) (by decide) (n := 107) (n' := 155) rfl (fun c104_7 c104_7i => ?_) (fun c104_7 c104_7i => ?_)
      · have q1 := c_and i3 (3 : Int32) (by decide)
        rw [← hv1, show (3 : Int32).toInt = 3 from rfl] at q1
        have q2 : v1 = (3 : Int32) := Int32.toInt_inj.mp (by rw [show (3 : Int32).toInt = 3 from rfl]; omega)
        subst q2
        refine G.iconst C (v := (3 : Int32)) at_155 (by decide) (n := 156) rfl ?_
        refine G.newarray C (ty := .int) (cap := 3) (wd hw 1 rfl) rfl rfl (by decide) (by decide) (by decide) at_156 (n := 158) rfl (c' := 1) (s' := 3) rfl rfl (by decide) (by decide) ?_
        intro h8 b9 q10 E11 O12
        have O13 : Ints Z h8 b9 .int [0, 0, 0] := O12
        have g14 : n0 ≤ b9 := Nat.le_trans Z0 (Nat.le_of_eq q10.symm)
        have K15 := kext E11
        have Z16 : n0 ≤ h8.size := Nat.le_trans Z0 K15.1
        refine G.dup C at_158 rfl (n := 159) rfl ?_
        refine G.iconst C (v := (0 : Int32)) at_159 (by decide) (n := 160) rfl ?_
        refine G.iload C at_160 rfl (n := 162) rfl ?_
        refine G.iastore C O13 (by decide) (show (0 : Int32).toInt < ((3 : Nat) : Int) by decide) g14 at_162 (n := 163) rfl ?_
        intro h17 K18 W19 O20
        have O21 : Ints Z h17 b9 .int [v2, 0, 0] := O20
        have Z22 : n0 ≤ h17.size := Nat.le_trans Z16 K18.1
        refine G.dup C at_163 rfl (n := 164) rfl ?_
        refine G.iconst C (v := (1 : Int32)) at_164 (by decide) (n := 165) rfl ?_
        refine G.iload C at_165 rfl (n := 167) rfl ?_
        refine G.iastore C O21 (by decide) (show (1 : Int32).toInt < ((3 : Nat) : Int) by decide) g14 at_167 (n := 168) rfl ?_
        intro h23 K24 W25 O26
        have O27 : Ints Z h23 b9 .int [v2, v3, 0] := O26
        have Z28 : n0 ≤ h23.size := Nat.le_trans Z22 K24.1
        refine G.dup C at_168 rfl (n := 169) rfl ?_
        refine G.iconst C (v := (2 : Int32)) at_169 (by decide) (n := 170) rfl ?_
        refine G.iload C at_170 rfl (n := 172) rfl ?_
        refine G.iastore C O27 (by decide) (show (2 : Int32).toInt < ((3 : Nat) : Int) by decide) g14 at_172 (n := 173) rfl ?_
        intro h29 K30 W31 O32
        have O33 : Ints Z h29 b9 .int [v2, v3, v4] := O32
        have Z34 : n0 ≤ h29.size := Nat.le_trans Z28 K30.1
        refine G.astore C at_173 rfl (l' := #[.val (.int i0), .val (.int i1), .val (.int i2), .val (.int i3), .val (.int (3 : Int32)), .val (.int v2), .val (.int v3), .val (.int v4), .val (.ref b9), .unset, .unset, .unset, .unset]) rfl (n := 175) rfl ?_
        refine G.iconst C (v := (4 : Int32)) at_175 (by decide) (n := 176) rfl ?_
        refine G.newarray C (ty := .int) (cap := 4) (wd hw 1 rfl) rfl rfl (by decide) (by decide) (by decide) at_176 (n := 178) rfl (c' := 2) (s' := 7) rfl rfl (by decide) (by decide) ?_
        intro h35 b36 q37 E38 O39
        have O40 : Ints Z h35 b36 .int [0, 0, 0, 0] := O39
        have ne41 : b9 ≠ b36 := Nat.ne_of_lt (Nat.lt_of_lt_of_le O33.lt (Nat.le_of_eq q37.symm))
        have g42 : n0 ≤ b36 := Nat.le_trans Z34 (Nat.le_of_eq q37.symm)
        have K43 := kext E38
        have O44 := O33.keep K43 nin0
        have Z45 : n0 ≤ h35.size := Nat.le_trans Z34 K43.1
        refine G.dup C at_178 rfl (n := 179) rfl ?_
        refine G.iconst C (v := (0 : Int32)) at_179 (by decide) (n := 180) rfl ?_
        refine G.iconst C (v := (0 : Int32)) at_180 (by decide) (n := 181) rfl ?_
        refine G.iastore C O40 (by decide) (show (0 : Int32).toInt < ((4 : Nat) : Int) by decide) g42 at_181 (n := 182) rfl ?_
        intro h46 K47 W48 O49
        have O50 : Ints Z h46 b36 .int [(0 : Int32), 0, 0, 0] := O49
        have O51 := O44.keep K47 (ninS ne41 nin0)
        have Z52 : n0 ≤ h46.size := Nat.le_trans Z45 K47.1
        refine G.dup C at_182 rfl (n := 183) rfl ?_
        refine G.iconst C (v := (1 : Int32)) at_183 (by decide) (n := 184) rfl ?_
        refine G.iconst C (v := (1 : Int32)) at_184 (by decide) (n := 185) rfl ?_
        refine G.iastore C O50 (by decide) (show (1 : Int32).toInt < ((4 : Nat) : Int) by decide) g42 at_185 (n := 186) rfl ?_
        intro h53 K54 W55 O56
        have O57 : Ints Z h53 b36 .int [(0 : Int32), (1 : Int32), 0, 0] := O56
        have O58 := O51.keep K54 (ninS ne41 nin0)
        have Z59 : n0 ≤ h53.size := Nat.le_trans Z52 K54.1
        refine G.dup C at_186 rfl (n := 187) rfl ?_
        refine G.iconst C (v := (2 : Int32)) at_187 (by decide) (n := 188) rfl ?_
        refine G.iconst C (v := (2 : Int32)) at_188 (by decide) (n := 189) rfl ?_
        refine G.iastore C O57 (by decide) (show (2 : Int32).toInt < ((4 : Nat) : Int) by decide) g42 at_189 (n := 190) rfl ?_
        intro h60 K61 W62 O63
        have O64 : Ints Z h60 b36 .int [(0 : Int32), (1 : Int32), (2 : Int32), 0] := O63
        have O65 := O58.keep K61 (ninS ne41 nin0)
        have Z66 : n0 ≤ h60.size := Nat.le_trans Z59 K61.1
        refine G.dup C at_190 rfl (n := 191) rfl ?_
        refine G.iconst C (v := (3 : Int32)) at_191 (by decide) (n := 192) rfl ?_
        refine G.iconst C (v := (3 : Int32)) at_192 (by decide) (n := 193) rfl ?_
        refine G.iastore C O64 (by decide) (show (3 : Int32).toInt < ((4 : Nat) : Int) by decide) g42 at_193 (n := 194) rfl ?_
        intro h67 K68 W69 O70
        have O71 : Ints Z h67 b36 .int [(0 : Int32), (1 : Int32), (2 : Int32), (3 : Int32)] := O70
        have O72 := O65.keep K68 (ninS ne41 nin0)
        have Z73 : n0 ≤ h67.size := Nat.le_trans Z66 K68.1
        refine G.astore C at_194 rfl (l' := #[.val (.int i0), .val (.int i1), .val (.int i2), .val (.int i3), .val (.int (3 : Int32)), .val (.int v2), .val (.int v3), .val (.int v4), .val (.ref b9), .val (.ref b36), .unset, .unset, .unset]) rfl (n := 196) rfl ?_
        refine G.iconst C (v := (3 : Int32)) at_196 (by decide) (n := 197) rfl ?_
        refine G.newarray C (ty := .int) (cap := 3) (wd hw 1 rfl) rfl rfl (by decide) (by decide) (by decide) at_197 (n := 199) rfl (c' := 3) (s' := 10) rfl rfl (by decide) (by decide) ?_
        intro h74 b75 q76 E77 O78
        have O79 : Ints Z h74 b75 .int [0, 0, 0] := O78
        have ne80 : b9 ≠ b75 := Nat.ne_of_lt (Nat.lt_of_lt_of_le O72.lt (Nat.le_of_eq q76.symm))
        have ne81 : b36 ≠ b75 := Nat.ne_of_lt (Nat.lt_of_lt_of_le O71.lt (Nat.le_of_eq q76.symm))
        have g82 : n0 ≤ b75 := Nat.le_trans Z73 (Nat.le_of_eq q76.symm)
        have K83 := kext E77
        have O84 := O72.keep K83 nin0
        have O85 := O71.keep K83 nin0
        have Z86 : n0 ≤ h74.size := Nat.le_trans Z73 K83.1
        refine G.dup C at_199 rfl (n := 200) rfl ?_
        refine G.iconst C (v := (0 : Int32)) at_200 (by decide) (n := 201) rfl ?_
        refine G.iconst C (v := (0 : Int32)) at_201 (by decide) (n := 202) rfl ?_
        refine G.iastore C O79 (by decide) (show (0 : Int32).toInt < ((3 : Nat) : Int) by decide) g82 at_202 (n := 203) rfl ?_
        intro h87 K88 W89 O90
        have O91 : Ints Z h87 b75 .int [(0 : Int32), 0, 0] := O90
        have O92 := O84.keep K88 (ninS ne80 nin0)
        have O93 := O85.keep K88 (ninS ne81 nin0)
        have Z94 : n0 ≤ h87.size := Nat.le_trans Z86 K88.1
        refine G.dup C at_203 rfl (n := 204) rfl ?_
        refine G.iconst C (v := (1 : Int32)) at_204 (by decide) (n := 205) rfl ?_
        refine G.iconst C (v := (0 : Int32)) at_205 (by decide) (n := 206) rfl ?_
        refine G.iastore C O91 (by decide) (show (1 : Int32).toInt < ((3 : Nat) : Int) by decide) g82 at_206 (n := 207) rfl ?_
        intro h95 K96 W97 O98
        have O99 : Ints Z h95 b75 .int [(0 : Int32), (0 : Int32), 0] := O98
        have O100 := O92.keep K96 (ninS ne80 nin0)
        have O101 := O93.keep K96 (ninS ne81 nin0)
        have Z102 : n0 ≤ h95.size := Nat.le_trans Z94 K96.1
        refine G.dup C at_207 rfl (n := 208) rfl ?_
        refine G.iconst C (v := (2 : Int32)) at_208 (by decide) (n := 209) rfl ?_
        refine G.iconst C (v := (0 : Int32)) at_209 (by decide) (n := 210) rfl ?_
        refine G.iastore C O99 (by decide) (show (2 : Int32).toInt < ((3 : Nat) : Int) by decide) g82 at_210 (n := 211) rfl ?_
        intro h103 K104 W105 O106
        have O107 : Ints Z h103 b75 .int [(0 : Int32), (0 : Int32), (0 : Int32)] := O106
        have O108 := O100.keep K104 (ninS ne80 nin0)
        have O109 := O101.keep K104 (ninS ne81 nin0)
        have Z110 : n0 ≤ h103.size := Nat.le_trans Z102 K104.1
        refine G.astore C at_211 rfl (l' := #[.val (.int i0), .val (.int i1), .val (.int i2), .val (.int i3), .val (.int (3 : Int32)), .val (.int v2), .val (.int v3), .val (.int v4), .val (.ref b9), .val (.ref b36), .val (.ref b75), .unset, .unset]) rfl (n := 213) rfl ?_
        refine G.new C (wd hw 2 rfl) (wd hw 3 rfl) (wd hw 4 rfl) at_213 (n := 216) rfl (c' := 4) (s' := 14) rfl rfl (by decide) (by decide) ?_
        intro h111 b112 q113 E114 A115 D116
        have ne117 : b9 ≠ b112 := Nat.ne_of_lt (Nat.lt_of_lt_of_le O108.lt (Nat.le_of_eq q113.symm))
        have ne118 : b36 ≠ b112 := Nat.ne_of_lt (Nat.lt_of_lt_of_le O109.lt (Nat.le_of_eq q113.symm))
        have ne119 : b75 ≠ b112 := Nat.ne_of_lt (Nat.lt_of_lt_of_le O107.lt (Nat.le_of_eq q113.symm))
        have g120 : n0 ≤ b112 := Nat.le_trans Z110 (Nat.le_of_eq q113.symm)
        have O121 := Ob_P.new hw A115 D116
        have K122 := kext E114
        have O123 := O108.keep K122 nin0
        have O124 := O109.keep K122 nin0
        have O125 := O107.keep K122 nin0
        have Z126 : n0 ≤ h111.size := Nat.le_trans Z110 K122.1
        refine G.dup C at_216 rfl (n := 217) rfl ?_
        refine G.aload C at_217 rfl rfl (n := 219) rfl ?_
        refine G.aload C at_219 rfl rfl (n := 221) rfl ?_
        refine G.aload C at_221 rfl rfl (n := 223) rfl ?_
        refine G.callC C (argsL := [(.ref b9), (.ref b36), (.ref b75)]) (yc := (⟨"com/example/near_miss/nearmiss/index/PostingsIterator", "<init>", "([I[I[I)V"⟩ : MethodName)) (a := b112) rfl (wd hw 5 rfl) (wd hw 6 rfl) (wd hw 4 rfl) (wd hw 7 rfl) (by decide) (m_init l Z a0 hw b112 b9 b36 b75 h111 n0 Z126 O121 g120) rfl (by decide) (W := 1) rfl (by decide) (c' := 4) (s' := 14) rfl rfl (by decide) (by decide) at_223 (n := 226) rfl pd1 rfl rfl ?_
        rintro _ h130 ⟨rfl, K127, O128⟩
        have O131 := O123.keep K127 (ninS ne117 nin0)
        have O132 := O124.keep K127 (ninS ne118 nin0)
        have O133 := O125.keep K127 (ninS ne119 nin0)
        have Z134 : n0 ≤ h130.size := Nat.le_trans Z126 K127.1
        refine G.astore C at_226 rfl (l' := #[.val (.int i0), .val (.int i1), .val (.int i2), .val (.int i3), .val (.int (3 : Int32)), .val (.int v2), .val (.int v3), .val (.int v4), .val (.ref b9), .val (.ref b36), .val (.ref b75), .val (.ref b112), .unset]) rfl (n := 228) rfl ?_
        refine G.aload C at_228 rfl rfl (n := 230) rfl ?_
        refine G.callV C (argsL := []) (yr := (⟨"com/example/near_miss/nearmiss/index/PostingsIterator", "doc", "()I"⟩ : MethodName)) (yc := (⟨"com/example/near_miss/nearmiss/index/PostingsIterator", "doc", "()I"⟩ : MethodName)) (a := b112) (O128.1) (wd hw 19 rfl) (wd hw 20 rfl) (nfS (wd hw 22 rfl) rfl) (wd hw 22 rfl) (wd hw 21 rfl) (wd hw 4 rfl) (wd hw 23 rfl) (by decide) (m_doc l Z a0 hw b112 b9 b36 b75 (-1 : Int32) [v2, v3, v4] (3 : Int32) (-1 : Int32) h130 n0 Z134 O128 O131 rfl (by first | rfl | simp [docf])) rfl (by decide) (W := 0) rfl (by decide) (c' := 4) (s' := 14) rfl rfl (by decide) (by decide) at_230 (n := 233) rfl pd0 rfl rfl ?_
        rintro _ _ ⟨rfl, rfl⟩
        refine G.iconst C (v := (0 : Int32)) at_233 (by decide) (n := 234) rfl ?_
        refine G.iload C at_234 rfl (n := 236) rfl ?_
        refine G.iload C at_236 rfl (n := 238) rfl ?_
        refine G.iload C at_238 rfl (n := 240) rfl ?_
        refine G.iload C at_240 rfl (n := 242) rfl ?_
        refine G.callS C (argsL := [(.int (0 : Int32)), (.int (3 : Int32)), (.int v2), (.int v3), (.int v4)]) (yc := (⟨"com/example/near_miss/nearmiss/index/PostingsIteratorDocPinLaw", "expected", "(IIIII)I"⟩ : MethodName)) (wd hw 24 rfl) (wd hw 25 rfl) (wd hw 26 rfl) (wd hw 27 rfl) (by decide) (m_expected l Z a0 hw (0 : Int32) (3 : Int32) v2 v3 v4 (-1 : Int32) h130 n0 Z134 (by first | rfl | simp [expf])) rfl (by decide) (W := 1) rfl (by decide) (c' := 4) (s' := 14) rfl rfl (by decide) (by decide) at_242 (n := 245) rfl pd2 rfl rfl ?_
        rintro _ _ ⟨rfl, rfl⟩
        refine G.icmp_ne C (A := (-1)) (B := (-1)) (by decide) (by decide) at_245 (by decide) (by decide) (n := 248) (n' := 252) rfl (fun c245_139 c245_139i => ?_) (fun c245_139 c245_139i => ?_)
        · exact absurd c245_139 (by decide)
        refine G.iconst C (v := (1 : Int32)) at_248 (by decide) (n := 249) rfl ?_
        refine G.goto C at_249 (by decide) (n := 253) (by decide) ?_
        refine G.istore C at_253 (l' := #[.val (.int i0), .val (.int i1), .val (.int i2), .val (.int i3), .val (.int (3 : Int32)), .val (.int v2), .val (.int v3), .val (.int v4), .val (.ref b9), .val (.ref b36), .val (.ref b75), .val (.ref b112), .val (.int (1 : Int32))]) rfl (n := 255) rfl ?_
        refine G.aload C at_255 rfl rfl (n := 257) rfl ?_
        refine G.callV C (argsL := []) (yr := (⟨"com/example/near_miss/nearmiss/index/PostingsIterator", "next", "()I"⟩ : MethodName)) (yc := (⟨"com/example/near_miss/nearmiss/index/PostingsIterator", "next", "()I"⟩ : MethodName)) (a := b112) (O128.1) (wd hw 28 rfl) (wd hw 29 rfl) (nfS (wd hw 31 rfl) rfl) (wd hw 31 rfl) (wd hw 30 rfl) (wd hw 4 rfl) (wd hw 32 rfl) (by decide) (m_next l Z a0 hw b112 b9 b36 b75 (-1 : Int32) [v2, v3, v4] (3 : Int32) (0 : Int32) h130 n0 Z134 O128 O131 rfl ne117 g120 (by decide)) rfl (by decide) (W := 0) rfl (by decide) (c' := 4) (s' := 14) rfl rfl (by decide) (by decide) at_257 (n := 260) rfl pd0 rfl rfl ?_
        rintro _ h144 ⟨⟨r140, rfl⟩, K141, O142⟩
        have O145 := O131.keep K141 (ninS ne117 nin0)
        have O146 := O132.keep K141 (ninS ne118 nin0)
        have O147 := O133.keep K141 (ninS ne119 nin0)
        have Z148 : n0 ≤ h144.size := Nat.le_trans Z134 K141.1
        refine G.pop C at_260 rfl (n := 261) rfl ?_
        refine G.iload C at_261 rfl (n := 263) rfl ?_
        refine G.aload C at_263 rfl rfl (n := 265) rfl ?_
        refine G.callV C (argsL := []) (yr := (⟨"com/example/near_miss/nearmiss/index/PostingsIterator", "doc", "()I"⟩ : MethodName)) (yc := (⟨"com/example/near_miss/nearmiss/index/PostingsIterator", "doc", "()I"⟩ : MethodName)) (a := b112) (O142.1) (wd hw 19 rfl) (wd hw 20 rfl) (nfS (wd hw 22 rfl) rfl) (wd hw 22 rfl) (wd hw 21 rfl) (wd hw 4 rfl) (wd hw 23 rfl) (by decide) (m_doc l Z a0 hw b112 b9 b36 b75 (0 : Int32) [v2, v3, v4] (3 : Int32) v2 h144 n0 Z148 O142 O145 rfl (by first | rfl | simp [docf])) rfl (by decide) (W := 1) rfl (by decide) (c' := 4) (s' := 14) rfl rfl (by decide) (by decide) at_265 (n := 268) rfl pd0 rfl rfl ?_
        rintro _ _ ⟨rfl, rfl⟩
        refine G.iconst C (v := (1 : Int32)) at_268 (by decide) (n := 269) rfl ?_
        refine G.iload C at_269 rfl (n := 271) rfl ?_
        refine G.iload C at_271 rfl (n := 273) rfl ?_
        refine G.iload C at_273 rfl (n := 275) rfl ?_
        refine G.iload C at_275 rfl (n := 277) rfl ?_
        refine G.callS C (argsL := [(.int (1 : Int32)), (.int (3 : Int32)), (.int v2), (.int v3), (.int v4)]) (yc := (⟨"com/example/near_miss/nearmiss/index/PostingsIteratorDocPinLaw", "expected", "(IIIII)I"⟩ : MethodName)) (wd hw 24 rfl) (wd hw 25 rfl) (wd hw 26 rfl) (wd hw 27 rfl) (by decide) (m_expected l Z a0 hw (1 : Int32) (3 : Int32) v2 v3 v4 v2 h144 n0 Z148 (by first | rfl | simp [expf])) rfl (by decide) (W := 2) rfl (by decide) (c' := 4) (s' := 14) rfl rfl (by decide) (by decide) at_277 (n := 280) rfl pd2 rfl rfl ?_
        rintro _ _ ⟨rfl, rfl⟩
        refine G.icmp_ne C (A := v2.toInt) (B := v2.toInt) rfl rfl at_280 (by decide) (by decide) (n := 283) (n' := 287) rfl (fun c280_153 c280_153i => ?_) (fun c280_153 c280_153i => ?_)
        · exact absurd rfl c280_153
        refine G.iconst C (v := (1 : Int32)) at_283 (by decide) (n := 284) rfl ?_
        refine G.goto C at_284 (by decide) (n := 288) (by decide) ?_
        refine G.iand C at_288 (n := 289) rfl ?_
        refine G.fold_int (z := (1 : Int32)) (by decide) ?_
        refine G.istore C at_289 (l' := #[.val (.int i0), .val (.int i1), .val (.int i2), .val (.int i3), .val (.int (3 : Int32)), .val (.int v2), .val (.int v3), .val (.int v4), .val (.ref b9), .val (.ref b36), .val (.ref b75), .val (.ref b112), .val (.int (1 : Int32))]) rfl (n := 291) rfl ?_
        refine G.aload C at_291 rfl rfl (n := 293) rfl ?_
        refine G.callV C (argsL := []) (yr := (⟨"com/example/near_miss/nearmiss/index/PostingsIterator", "next", "()I"⟩ : MethodName)) (yc := (⟨"com/example/near_miss/nearmiss/index/PostingsIterator", "next", "()I"⟩ : MethodName)) (a := b112) (O142.1) (wd hw 28 rfl) (wd hw 29 rfl) (nfS (wd hw 31 rfl) rfl) (wd hw 31 rfl) (wd hw 30 rfl) (wd hw 4 rfl) (wd hw 32 rfl) (by decide) (m_next l Z a0 hw b112 b9 b36 b75 (0 : Int32) [v2, v3, v4] (3 : Int32) (1 : Int32) h144 n0 Z148 O142 O145 rfl ne117 g120 (by decide)) rfl (by decide) (W := 0) rfl (by decide) (c' := 4) (s' := 14) rfl rfl (by decide) (by decide) at_293 (n := 296) rfl pd0 rfl rfl ?_
        rintro _ h158 ⟨⟨r154, rfl⟩, K155, O156⟩
        have O159 := O145.keep K155 (ninS ne117 nin0)
        have O160 := O146.keep K155 (ninS ne118 nin0)
        have O161 := O147.keep K155 (ninS ne119 nin0)
        have Z162 : n0 ≤ h158.size := Nat.le_trans Z148 K155.1
        refine G.pop C at_296 rfl (n := 297) rfl ?_
        refine G.iload C at_297 rfl (n := 299) rfl ?_
        refine G.aload C at_299 rfl rfl (n := 301) rfl ?_
        refine G.callV C (argsL := []) (yr := (⟨"com/example/near_miss/nearmiss/index/PostingsIterator", "doc", "()I"⟩ : MethodName)) (yc := (⟨"com/example/near_miss/nearmiss/index/PostingsIterator", "doc", "()I"⟩ : MethodName)) (a := b112) (O156.1) (wd hw 19 rfl) (wd hw 20 rfl) (nfS (wd hw 22 rfl) rfl) (wd hw 22 rfl) (wd hw 21 rfl) (wd hw 4 rfl) (wd hw 23 rfl) (by decide) (m_doc l Z a0 hw b112 b9 b36 b75 (1 : Int32) [v2, v3, v4] (3 : Int32) v3 h158 n0 Z162 O156 O159 rfl (by first | rfl | simp [docf])) rfl (by decide) (W := 1) rfl (by decide) (c' := 4) (s' := 14) rfl rfl (by decide) (by decide) at_301 (n := 304) rfl pd0 rfl rfl ?_
        rintro _ _ ⟨rfl, rfl⟩
        refine G.iconst C (v := (2 : Int32)) at_304 (by decide) (n := 305) rfl ?_
        refine G.iload C at_305 rfl (n := 307) rfl ?_
        refine G.iload C at_307 rfl (n := 309) rfl ?_
        refine G.iload C at_309 rfl (n := 311) rfl ?_
        refine G.iload C at_311 rfl (n := 313) rfl ?_
        refine G.callS C (argsL := [(.int (2 : Int32)), (.int (3 : Int32)), (.int v2), (.int v3), (.int v4)]) (yc := (⟨"com/example/near_miss/nearmiss/index/PostingsIteratorDocPinLaw", "expected", "(IIIII)I"⟩ : MethodName)) (wd hw 24 rfl) (wd hw 25 rfl) (wd hw 26 rfl) (wd hw 27 rfl) (by decide) (m_expected l Z a0 hw (2 : Int32) (3 : Int32) v2 v3 v4 v3 h158 n0 Z162 (by first | rfl | simp [expf])) rfl (by decide) (W := 2) rfl (by decide) (c' := 4) (s' := 14) rfl rfl (by decide) (by decide) at_313 (n := 316) rfl pd2 rfl rfl ?_
        rintro _ _ ⟨rfl, rfl⟩
        refine G.icmp_ne C (A := v3.toInt) (B := v3.toInt) rfl rfl at_316 (by decide) (by decide) (n := 319) (n' := 323) rfl (fun c316_167 c316_167i => ?_) (fun c316_167 c316_167i => ?_)
        · exact absurd rfl c316_167
        refine G.iconst C (v := (1 : Int32)) at_319 (by decide) (n := 320) rfl ?_
        refine G.goto C at_320 (by decide) (n := 324) (by decide) ?_
        refine G.iand C at_324 (n := 325) rfl ?_
        refine G.fold_int (z := (1 : Int32)) (by decide) ?_
        refine G.istore C at_325 (l' := #[.val (.int i0), .val (.int i1), .val (.int i2), .val (.int i3), .val (.int (3 : Int32)), .val (.int v2), .val (.int v3), .val (.int v4), .val (.ref b9), .val (.ref b36), .val (.ref b75), .val (.ref b112), .val (.int (1 : Int32))]) rfl (n := 327) rfl ?_
        refine G.aload C at_327 rfl rfl (n := 329) rfl ?_
        refine G.callV C (argsL := []) (yr := (⟨"com/example/near_miss/nearmiss/index/PostingsIterator", "next", "()I"⟩ : MethodName)) (yc := (⟨"com/example/near_miss/nearmiss/index/PostingsIterator", "next", "()I"⟩ : MethodName)) (a := b112) (O156.1) (wd hw 28 rfl) (wd hw 29 rfl) (nfS (wd hw 31 rfl) rfl) (wd hw 31 rfl) (wd hw 30 rfl) (wd hw 4 rfl) (wd hw 32 rfl) (by decide) (m_next l Z a0 hw b112 b9 b36 b75 (1 : Int32) [v2, v3, v4] (3 : Int32) (2 : Int32) h158 n0 Z162 O156 O159 rfl ne117 g120 (by decide)) rfl (by decide) (W := 0) rfl (by decide) (c' := 4) (s' := 14) rfl rfl (by decide) (by decide) at_329 (n := 332) rfl pd0 rfl rfl ?_
        rintro _ h172 ⟨⟨r168, rfl⟩, K169, O170⟩
        have O173 := O159.keep K169 (ninS ne117 nin0)
        have O174 := O160.keep K169 (ninS ne118 nin0)
        have O175 := O161.keep K169 (ninS ne119 nin0)
        have Z176 : n0 ≤ h172.size := Nat.le_trans Z162 K169.1
        refine G.pop C at_332 rfl (n := 333) rfl ?_
        refine G.iload C at_333 rfl (n := 335) rfl ?_
        refine G.aload C at_335 rfl rfl (n := 337) rfl ?_
        refine G.callV C (argsL := []) (yr := (⟨"com/example/near_miss/nearmiss/index/PostingsIterator", "doc", "()I"⟩ : MethodName)) (yc := (⟨"com/example/near_miss/nearmiss/index/PostingsIterator", "doc", "()I"⟩ : MethodName)) (a := b112) (O170.1) (wd hw 19 rfl) (wd hw 20 rfl) (nfS (wd hw 22 rfl) rfl) (wd hw 22 rfl) (wd hw 21 rfl) (wd hw 4 rfl) (wd hw 23 rfl) (by decide) (m_doc l Z a0 hw b112 b9 b36 b75 (2 : Int32) [v2, v3, v4] (3 : Int32) v4 h172 n0 Z176 O170 O173 rfl (by first | rfl | simp [docf])) rfl (by decide) (W := 1) rfl (by decide) (c' := 4) (s' := 14) rfl rfl (by decide) (by decide) at_337 (n := 340) rfl pd0 rfl rfl ?_
        rintro _ _ ⟨rfl, rfl⟩
        refine G.iconst C (v := (3 : Int32)) at_340 (by decide) (n := 341) rfl ?_
        refine G.iload C at_341 rfl (n := 343) rfl ?_
        refine G.iload C at_343 rfl (n := 345) rfl ?_
        refine G.iload C at_345 rfl (n := 347) rfl ?_
        refine G.iload C at_347 rfl (n := 349) rfl ?_
        refine G.callS C (argsL := [(.int (3 : Int32)), (.int (3 : Int32)), (.int v2), (.int v3), (.int v4)]) (yc := (⟨"com/example/near_miss/nearmiss/index/PostingsIteratorDocPinLaw", "expected", "(IIIII)I"⟩ : MethodName)) (wd hw 24 rfl) (wd hw 25 rfl) (wd hw 26 rfl) (wd hw 27 rfl) (by decide) (m_expected l Z a0 hw (3 : Int32) (3 : Int32) v2 v3 v4 v4 h172 n0 Z176 (by first | rfl | simp [expf])) rfl (by decide) (W := 2) rfl (by decide) (c' := 4) (s' := 14) rfl rfl (by decide) (by decide) at_349 (n := 352) rfl pd2 rfl rfl ?_
        rintro _ _ ⟨rfl, rfl⟩
        refine G.icmp_ne C (A := v4.toInt) (B := v4.toInt) rfl rfl at_352 (by decide) (by decide) (n := 355) (n' := 359) rfl (fun c352_181 c352_181i => ?_) (fun c352_181 c352_181i => ?_)
        · exact absurd rfl c352_181
        refine G.iconst C (v := (1 : Int32)) at_355 (by decide) (n := 356) rfl ?_
        refine G.goto C at_356 (by decide) (n := 360) (by decide) ?_
        refine G.iand C at_360 (n := 361) rfl ?_
        refine G.fold_int (z := (1 : Int32)) (by decide) ?_
        refine G.istore C at_361 (l' := #[.val (.int i0), .val (.int i1), .val (.int i2), .val (.int i3), .val (.int (3 : Int32)), .val (.int v2), .val (.int v3), .val (.int v4), .val (.ref b9), .val (.ref b36), .val (.ref b75), .val (.ref b112), .val (.int (1 : Int32))]) rfl (n := 363) rfl ?_
        refine G.aload C at_363 rfl rfl (n := 365) rfl ?_
        refine G.callV C (argsL := []) (yr := (⟨"com/example/near_miss/nearmiss/index/PostingsIterator", "next", "()I"⟩ : MethodName)) (yc := (⟨"com/example/near_miss/nearmiss/index/PostingsIterator", "next", "()I"⟩ : MethodName)) (a := b112) (O170.1) (wd hw 28 rfl) (wd hw 29 rfl) (nfS (wd hw 31 rfl) rfl) (wd hw 31 rfl) (wd hw 30 rfl) (wd hw 4 rfl) (wd hw 32 rfl) (by decide) (m_next l Z a0 hw b112 b9 b36 b75 (2 : Int32) [v2, v3, v4] (3 : Int32) (3 : Int32) h172 n0 Z176 O170 O173 rfl ne117 g120 (by decide)) rfl (by decide) (W := 0) rfl (by decide) (c' := 4) (s' := 14) rfl rfl (by decide) (by decide) at_365 (n := 368) rfl pd0 rfl rfl ?_
        rintro _ h186 ⟨⟨r182, rfl⟩, K183, O184⟩
        have O187 := O173.keep K183 (ninS ne117 nin0)
        have O188 := O174.keep K183 (ninS ne118 nin0)
        have O189 := O175.keep K183 (ninS ne119 nin0)
        have Z190 : n0 ≤ h186.size := Nat.le_trans Z176 K183.1
        refine G.pop C at_368 rfl (n := 369) rfl ?_
        refine G.iload C at_369 rfl (n := 371) rfl ?_
        refine G.aload C at_371 rfl rfl (n := 373) rfl ?_
        refine G.callV C (argsL := []) (yr := (⟨"com/example/near_miss/nearmiss/index/PostingsIterator", "doc", "()I"⟩ : MethodName)) (yc := (⟨"com/example/near_miss/nearmiss/index/PostingsIterator", "doc", "()I"⟩ : MethodName)) (a := b112) (O184.1) (wd hw 19 rfl) (wd hw 20 rfl) (nfS (wd hw 22 rfl) rfl) (wd hw 22 rfl) (wd hw 21 rfl) (wd hw 4 rfl) (wd hw 23 rfl) (by decide) (m_doc l Z a0 hw b112 b9 b36 b75 (3 : Int32) [v2, v3, v4] (3 : Int32) (2147483647 : Int32) h186 n0 Z190 O184 O187 rfl (by first | rfl | simp [docf])) rfl (by decide) (W := 1) rfl (by decide) (c' := 4) (s' := 14) rfl rfl (by decide) (by decide) at_373 (n := 376) rfl pd0 rfl rfl ?_
        rintro _ _ ⟨rfl, rfl⟩
        refine G.iconst C (v := (4 : Int32)) at_376 (by decide) (n := 377) rfl ?_
        refine G.iload C at_377 rfl (n := 379) rfl ?_
        refine G.iload C at_379 rfl (n := 381) rfl ?_
        refine G.iload C at_381 rfl (n := 383) rfl ?_
        refine G.iload C at_383 rfl (n := 385) rfl ?_
        refine G.callS C (argsL := [(.int (4 : Int32)), (.int (3 : Int32)), (.int v2), (.int v3), (.int v4)]) (yc := (⟨"com/example/near_miss/nearmiss/index/PostingsIteratorDocPinLaw", "expected", "(IIIII)I"⟩ : MethodName)) (wd hw 24 rfl) (wd hw 25 rfl) (wd hw 26 rfl) (wd hw 27 rfl) (by decide) (m_expected l Z a0 hw (4 : Int32) (3 : Int32) v2 v3 v4 (2147483647 : Int32) h186 n0 Z190 (by first | rfl | simp [expf])) rfl (by decide) (W := 2) rfl (by decide) (c' := 4) (s' := 14) rfl rfl (by decide) (by decide) at_385 (n := 388) rfl pd2 rfl rfl ?_
        rintro _ _ ⟨rfl, rfl⟩
        refine G.icmp_ne C (A := 2147483647) (B := 2147483647) (by decide) (by decide) at_388 (by decide) (by decide) (n := 391) (n' := 395) rfl (fun c388_195 c388_195i => ?_) (fun c388_195 c388_195i => ?_)
        · exact absurd c388_195 (by decide)
        refine G.iconst C (v := (1 : Int32)) at_391 (by decide) (n := 392) rfl ?_
        refine G.goto C at_392 (by decide) (n := 396) (by decide) ?_
        refine G.iand C at_396 (n := 397) rfl ?_
        refine G.fold_int (z := (1 : Int32)) (by decide) ?_
        refine G.istore C at_397 (l' := #[.val (.int i0), .val (.int i1), .val (.int i2), .val (.int i3), .val (.int (3 : Int32)), .val (.int v2), .val (.int v3), .val (.int v4), .val (.ref b9), .val (.ref b36), .val (.ref b75), .val (.ref b112), .val (.int (1 : Int32))]) rfl (n := 399) rfl ?_
        refine G.iload C at_399 rfl (n := 401) rfl ?_
        refine G.ireturn C at_401 (rfl) (by simp) (by decide) (by decide) ?_
        exact rfl
      · subst c104_7
        refine G.iconst C (v := (2 : Int32)) at_107 (by decide) (n := 108) rfl ?_
        refine G.newarray C (ty := .int) (cap := 2) (wd hw 1 rfl) rfl rfl (by decide) (by decide) (by decide) at_108 (n := 110) rfl (c' := 1) (s' := 2) rfl rfl (by decide) (by decide) ?_
        intro h196 b197 q198 E199 O200
        have O201 : Ints Z h196 b197 .int [0, 0] := O200
        have g202 : n0 ≤ b197 := Nat.le_trans Z0 (Nat.le_of_eq q198.symm)
        have K203 := kext E199
        have Z204 : n0 ≤ h196.size := Nat.le_trans Z0 K203.1
        refine G.dup C at_110 rfl (n := 111) rfl ?_
        refine G.iconst C (v := (0 : Int32)) at_111 (by decide) (n := 112) rfl ?_
        refine G.iload C at_112 rfl (n := 114) rfl ?_
        refine G.iastore C O201 (by decide) (show (0 : Int32).toInt < ((2 : Nat) : Int) by decide) g202 at_114 (n := 115) rfl ?_
        intro h205 K206 W207 O208
        have O209 : Ints Z h205 b197 .int [v2, 0] := O208
        have Z210 : n0 ≤ h205.size := Nat.le_trans Z204 K206.1
        refine G.dup C at_115 rfl (n := 116) rfl ?_
        refine G.iconst C (v := (1 : Int32)) at_116 (by decide) (n := 117) rfl ?_
        refine G.iload C at_117 rfl (n := 119) rfl ?_
        refine G.iastore C O209 (by decide) (show (1 : Int32).toInt < ((2 : Nat) : Int) by decide) g202 at_119 (n := 120) rfl ?_
        intro h211 K212 W213 O214
        have O215 : Ints Z h211 b197 .int [v2, v3] := O214
        have Z216 : n0 ≤ h211.size := Nat.le_trans Z210 K212.1
        refine G.astore C at_120 rfl (l' := #[.val (.int i0), .val (.int i1), .val (.int i2), .val (.int i3), .val (.int (2 : Int32)), .val (.int v2), .val (.int v3), .val (.int v4), .val (.ref b197), .unset, .unset, .unset, .unset]) rfl (n := 122) rfl ?_
        refine G.iconst C (v := (3 : Int32)) at_122 (by decide) (n := 123) rfl ?_
        refine G.newarray C (ty := .int) (cap := 3) (wd hw 1 rfl) rfl rfl (by decide) (by decide) (by decide) at_123 (n := 125) rfl (c' := 2) (s' := 5) rfl rfl (by decide) (by decide) ?_
        intro h217 b218 q219 E220 O221
        have O222 : Ints Z h217 b218 .int [0, 0, 0] := O221
        have ne223 : b197 ≠ b218 := Nat.ne_of_lt (Nat.lt_of_lt_of_le O215.lt (Nat.le_of_eq q219.symm))
        have g224 : n0 ≤ b218 := Nat.le_trans Z216 (Nat.le_of_eq q219.symm)
        have K225 := kext E220
        have O226 := O215.keep K225 nin0
        have Z227 : n0 ≤ h217.size := Nat.le_trans Z216 K225.1
        refine G.dup C at_125 rfl (n := 126) rfl ?_
        refine G.iconst C (v := (0 : Int32)) at_126 (by decide) (n := 127) rfl ?_
        refine G.iconst C (v := (0 : Int32)) at_127 (by decide) (n := 128) rfl ?_
        refine G.iastore C O222 (by decide) (show (0 : Int32).toInt < ((3 : Nat) : Int) by decide) g224 at_128 (n := 129) rfl ?_
        intro h228 K229 W230 O231
        have O232 : Ints Z h228 b218 .int [(0 : Int32), 0, 0] := O231
        have O233 := O226.keep K229 (ninS ne223 nin0)
        have Z234 : n0 ≤ h228.size := Nat.le_trans Z227 K229.1
        refine G.dup C at_129 rfl (n := 130) rfl ?_
        refine G.iconst C (v := (1 : Int32)) at_130 (by decide) (n := 131) rfl ?_
        refine G.iconst C (v := (1 : Int32)) at_131 (by decide) (n := 132) rfl ?_
        refine G.iastore C O232 (by decide) (show (1 : Int32).toInt < ((3 : Nat) : Int) by decide) g224 at_132 (n := 133) rfl ?_
        intro h235 K236 W237 O238
        have O239 : Ints Z h235 b218 .int [(0 : Int32), (1 : Int32), 0] := O238
        have O240 := O233.keep K236 (ninS ne223 nin0)
        have Z241 : n0 ≤ h235.size := Nat.le_trans Z234 K236.1
        refine G.dup C at_133 rfl (n := 134) rfl ?_
        refine G.iconst C (v := (2 : Int32)) at_134 (by decide) (n := 135) rfl ?_
        refine G.iconst C (v := (2 : Int32)) at_135 (by decide) (n := 136) rfl ?_
        refine G.iastore C O239 (by decide) (show (2 : Int32).toInt < ((3 : Nat) : Int) by decide) g224 at_136 (n := 137) rfl ?_
        intro h242 K243 W244 O245
        have O246 : Ints Z h242 b218 .int [(0 : Int32), (1 : Int32), (2 : Int32)] := O245
        have O247 := O240.keep K243 (ninS ne223 nin0)
        have Z248 : n0 ≤ h242.size := Nat.le_trans Z241 K243.1
        refine G.astore C at_137 rfl (l' := #[.val (.int i0), .val (.int i1), .val (.int i2), .val (.int i3), .val (.int (2 : Int32)), .val (.int v2), .val (.int v3), .val (.int v4), .val (.ref b197), .val (.ref b218), .unset, .unset, .unset]) rfl (n := 139) rfl ?_
        refine G.iconst C (v := (2 : Int32)) at_139 (by decide) (n := 140) rfl ?_
        refine G.newarray C (ty := .int) (cap := 2) (wd hw 1 rfl) rfl rfl (by decide) (by decide) (by decide) at_140 (n := 142) rfl (c' := 3) (s' := 7) rfl rfl (by decide) (by decide) ?_
        intro h249 b250 q251 E252 O253
        have O254 : Ints Z h249 b250 .int [0, 0] := O253
        have ne255 : b197 ≠ b250 := Nat.ne_of_lt (Nat.lt_of_lt_of_le O247.lt (Nat.le_of_eq q251.symm))
        have ne256 : b218 ≠ b250 := Nat.ne_of_lt (Nat.lt_of_lt_of_le O246.lt (Nat.le_of_eq q251.symm))
        have g257 : n0 ≤ b250 := Nat.le_trans Z248 (Nat.le_of_eq q251.symm)
        have K258 := kext E252
        have O259 := O247.keep K258 nin0
        have O260 := O246.keep K258 nin0
        have Z261 : n0 ≤ h249.size := Nat.le_trans Z248 K258.1
        refine G.dup C at_142 rfl (n := 143) rfl ?_
        refine G.iconst C (v := (0 : Int32)) at_143 (by decide) (n := 144) rfl ?_
        refine G.iconst C (v := (0 : Int32)) at_144 (by decide) (n := 145) rfl ?_
        refine G.iastore C O254 (by decide) (show (0 : Int32).toInt < ((2 : Nat) : Int) by decide) g257 at_145 (n := 146) rfl ?_
        intro h262 K263 W264 O265
        have O266 : Ints Z h262 b250 .int [(0 : Int32), 0] := O265
        have O267 := O259.keep K263 (ninS ne255 nin0)
        have O268 := O260.keep K263 (ninS ne256 nin0)
        have Z269 : n0 ≤ h262.size := Nat.le_trans Z261 K263.1
        refine G.dup C at_146 rfl (n := 147) rfl ?_
        refine G.iconst C (v := (1 : Int32)) at_147 (by decide) (n := 148) rfl ?_
        refine G.iconst C (v := (0 : Int32)) at_148 (by decide) (n := 149) rfl ?_
        refine G.iastore C O266 (by decide) (show (1 : Int32).toInt < ((2 : Nat) : Int) by decide) g257 at_149 (n := 150) rfl ?_
        intro h270 K271 W272 O273
        have O274 : Ints Z h270 b250 .int [(0 : Int32), (0 : Int32)] := O273
        have O275 := O267.keep K271 (ninS ne255 nin0)
        have O276 := O268.keep K271 (ninS ne256 nin0)
        have Z277 : n0 ≤ h270.size := Nat.le_trans Z269 K271.1
        refine G.astore C at_150 rfl (l' := #[.val (.int i0), .val (.int i1), .val (.int i2), .val (.int i3), .val (.int (2 : Int32)), .val (.int v2), .val (.int v3), .val (.int v4), .val (.ref b197), .val (.ref b218), .val (.ref b250), .unset, .unset]) rfl (n := 152) rfl ?_
        refine G.goto C at_152 (by decide) (n := 213) (by decide) ?_
        refine G.new C (wd hw 2 rfl) (wd hw 3 rfl) (wd hw 4 rfl) at_213 (n := 216) rfl (c' := 4) (s' := 11) rfl rfl (by decide) (by decide) ?_
        intro h278 b279 q280 E281 A282 D283
        have ne284 : b197 ≠ b279 := Nat.ne_of_lt (Nat.lt_of_lt_of_le O275.lt (Nat.le_of_eq q280.symm))
        have ne285 : b218 ≠ b279 := Nat.ne_of_lt (Nat.lt_of_lt_of_le O276.lt (Nat.le_of_eq q280.symm))
        have ne286 : b250 ≠ b279 := Nat.ne_of_lt (Nat.lt_of_lt_of_le O274.lt (Nat.le_of_eq q280.symm))
        have g287 : n0 ≤ b279 := Nat.le_trans Z277 (Nat.le_of_eq q280.symm)
        have O288 := Ob_P.new hw A282 D283
        have K289 := kext E281
        have O290 := O275.keep K289 nin0
        have O291 := O276.keep K289 nin0
        have O292 := O274.keep K289 nin0
        have Z293 : n0 ≤ h278.size := Nat.le_trans Z277 K289.1
        refine G.dup C at_216 rfl (n := 217) rfl ?_
        refine G.aload C at_217 rfl rfl (n := 219) rfl ?_
        refine G.aload C at_219 rfl rfl (n := 221) rfl ?_
        refine G.aload C at_221 rfl rfl (n := 223) rfl ?_
        refine G.callC C (argsL := [(.ref b197), (.ref b218), (.ref b250)]) (yc := (⟨"com/example/near_miss/nearmiss/index/PostingsIterator", "<init>", "([I[I[I)V"⟩ : MethodName)) (a := b279) rfl (wd hw 5 rfl) (wd hw 6 rfl) (wd hw 4 rfl) (wd hw 7 rfl) (by decide) (m_init l Z a0 hw b279 b197 b218 b250 h278 n0 Z293 O288 g287) rfl (by decide) (W := 1) rfl (by decide) (c' := 4) (s' := 11) rfl rfl (by decide) (by decide) at_223 (n := 226) rfl pd1 rfl rfl ?_
        rintro _ h297 ⟨rfl, K294, O295⟩
        have O298 := O290.keep K294 (ninS ne284 nin0)
        have O299 := O291.keep K294 (ninS ne285 nin0)
        have O300 := O292.keep K294 (ninS ne286 nin0)
        have Z301 : n0 ≤ h297.size := Nat.le_trans Z293 K294.1
        refine G.astore C at_226 rfl (l' := #[.val (.int i0), .val (.int i1), .val (.int i2), .val (.int i3), .val (.int (2 : Int32)), .val (.int v2), .val (.int v3), .val (.int v4), .val (.ref b197), .val (.ref b218), .val (.ref b250), .val (.ref b279), .unset]) rfl (n := 228) rfl ?_
        refine G.aload C at_228 rfl rfl (n := 230) rfl ?_
        refine G.callV C (argsL := []) (yr := (⟨"com/example/near_miss/nearmiss/index/PostingsIterator", "doc", "()I"⟩ : MethodName)) (yc := (⟨"com/example/near_miss/nearmiss/index/PostingsIterator", "doc", "()I"⟩ : MethodName)) (a := b279) (O295.1) (wd hw 19 rfl) (wd hw 20 rfl) (nfS (wd hw 22 rfl) rfl) (wd hw 22 rfl) (wd hw 21 rfl) (wd hw 4 rfl) (wd hw 23 rfl) (by decide) (m_doc l Z a0 hw b279 b197 b218 b250 (-1 : Int32) [v2, v3] (2 : Int32) (-1 : Int32) h297 n0 Z301 O295 O298 rfl (by first | rfl | simp [docf])) rfl (by decide) (W := 0) rfl (by decide) (c' := 4) (s' := 11) rfl rfl (by decide) (by decide) at_230 (n := 233) rfl pd0 rfl rfl ?_
        rintro _ _ ⟨rfl, rfl⟩
        refine G.iconst C (v := (0 : Int32)) at_233 (by decide) (n := 234) rfl ?_
        refine G.iload C at_234 rfl (n := 236) rfl ?_
        refine G.iload C at_236 rfl (n := 238) rfl ?_
        refine G.iload C at_238 rfl (n := 240) rfl ?_
        refine G.iload C at_240 rfl (n := 242) rfl ?_
        refine G.callS C (argsL := [(.int (0 : Int32)), (.int (2 : Int32)), (.int v2), (.int v3), (.int v4)]) (yc := (⟨"com/example/near_miss/nearmiss/index/PostingsIteratorDocPinLaw", "expected", "(IIIII)I"⟩ : MethodName)) (wd hw 24 rfl) (wd hw 25 rfl) (wd hw 26 rfl) (wd hw 27 rfl) (by decide) (m_expected l Z a0 hw (0 : Int32) (2 : Int32) v2 v3 v4 (-1 : Int32) h297 n0 Z301 (by first | rfl | simp [expf])) rfl (by decide) (W := 1) rfl (by decide) (c' := 4) (s' := 11) rfl rfl (by decide) (by decide) at_242 (n := 245) rfl pd2 rfl rfl ?_
        rintro _ _ ⟨rfl, rfl⟩
        refine G.icmp_ne C (A := (-1)) (B := (-1)) (by decide) (by decide) at_245 (by decide) (by decide) (n := 248) (n' := 252) rfl (fun c245_306 c245_306i => ?_) (fun c245_306 c245_306i => ?_)
        · exact absurd c245_306 (by decide)
        refine G.iconst C (v := (1 : Int32)) at_248 (by decide) (n := 249) rfl ?_
        refine G.goto C at_249 (by decide) (n := 253) (by decide) ?_
        refine G.istore C at_253 (l' := #[.val (.int i0), .val (.int i1), .val (.int i2), .val (.int i3), .val (.int (2 : Int32)), .val (.int v2), .val (.int v3), .val (.int v4), .val (.ref b197), .val (.ref b218), .val (.ref b250), .val (.ref b279), .val (.int (1 : Int32))]) rfl (n := 255) rfl ?_
        refine G.aload C at_255 rfl rfl (n := 257) rfl ?_
        refine G.callV C (argsL := []) (yr := (⟨"com/example/near_miss/nearmiss/index/PostingsIterator", "next", "()I"⟩ : MethodName)) (yc := (⟨"com/example/near_miss/nearmiss/index/PostingsIterator", "next", "()I"⟩ : MethodName)) (a := b279) (O295.1) (wd hw 28 rfl) (wd hw 29 rfl) (nfS (wd hw 31 rfl) rfl) (wd hw 31 rfl) (wd hw 30 rfl) (wd hw 4 rfl) (wd hw 32 rfl) (by decide) (m_next l Z a0 hw b279 b197 b218 b250 (-1 : Int32) [v2, v3] (2 : Int32) (0 : Int32) h297 n0 Z301 O295 O298 rfl ne284 g287 (by decide)) rfl (by decide) (W := 0) rfl (by decide) (c' := 4) (s' := 11) rfl rfl (by decide) (by decide) at_257 (n := 260) rfl pd0 rfl rfl ?_
        rintro _ h311 ⟨⟨r307, rfl⟩, K308, O309⟩
        have O312 := O298.keep K308 (ninS ne284 nin0)
        have O313 := O299.keep K308 (ninS ne285 nin0)
        have O314 := O300.keep K308 (ninS ne286 nin0)
        have Z315 : n0 ≤ h311.size := Nat.le_trans Z301 K308.1
        refine G.pop C at_260 rfl (n := 261) rfl ?_
        refine G.iload C at_261 rfl (n := 263) rfl ?_
        refine G.aload C at_263 rfl rfl (n := 265) rfl ?_
        refine G.callV C (argsL := []) (yr := (⟨"com/example/near_miss/nearmiss/index/PostingsIterator", "doc", "()I"⟩ : MethodName)) (yc := (⟨"com/example/near_miss/nearmiss/index/PostingsIterator", "doc", "()I"⟩ : MethodName)) (a := b279) (O309.1) (wd hw 19 rfl) (wd hw 20 rfl) (nfS (wd hw 22 rfl) rfl) (wd hw 22 rfl) (wd hw 21 rfl) (wd hw 4 rfl) (wd hw 23 rfl) (by decide) (m_doc l Z a0 hw b279 b197 b218 b250 (0 : Int32) [v2, v3] (2 : Int32) v2 h311 n0 Z315 O309 O312 rfl (by first | rfl | simp [docf])) rfl (by decide) (W := 1) rfl (by decide) (c' := 4) (s' := 11) rfl rfl (by decide) (by decide) at_265 (n := 268) rfl pd0 rfl rfl ?_
        rintro _ _ ⟨rfl, rfl⟩
        refine G.iconst C (v := (1 : Int32)) at_268 (by decide) (n := 269) rfl ?_
        refine G.iload C at_269 rfl (n := 271) rfl ?_
        refine G.iload C at_271 rfl (n := 273) rfl ?_
        refine G.iload C at_273 rfl (n := 275) rfl ?_
        refine G.iload C at_275 rfl (n := 277) rfl ?_
        refine G.callS C (argsL := [(.int (1 : Int32)), (.int (2 : Int32)), (.int v2), (.int v3), (.int v4)]) (yc := (⟨"com/example/near_miss/nearmiss/index/PostingsIteratorDocPinLaw", "expected", "(IIIII)I"⟩ : MethodName)) (wd hw 24 rfl) (wd hw 25 rfl) (wd hw 26 rfl) (wd hw 27 rfl) (by decide) (m_expected l Z a0 hw (1 : Int32) (2 : Int32) v2 v3 v4 v2 h311 n0 Z315 (by first | rfl | simp [expf])) rfl (by decide) (W := 2) rfl (by decide) (c' := 4) (s' := 11) rfl rfl (by decide) (by decide) at_277 (n := 280) rfl pd2 rfl rfl ?_
        rintro _ _ ⟨rfl, rfl⟩
        refine G.icmp_ne C (A := v2.toInt) (B := v2.toInt) rfl rfl at_280 (by decide) (by decide) (n := 283) (n' := 287) rfl (fun c280_320 c280_320i => ?_) (fun c280_320 c280_320i => ?_)
        · exact absurd rfl c280_320
        refine G.iconst C (v := (1 : Int32)) at_283 (by decide) (n := 284) rfl ?_
        refine G.goto C at_284 (by decide) (n := 288) (by decide) ?_
        refine G.iand C at_288 (n := 289) rfl ?_
        refine G.fold_int (z := (1 : Int32)) (by decide) ?_
        refine G.istore C at_289 (l' := #[.val (.int i0), .val (.int i1), .val (.int i2), .val (.int i3), .val (.int (2 : Int32)), .val (.int v2), .val (.int v3), .val (.int v4), .val (.ref b197), .val (.ref b218), .val (.ref b250), .val (.ref b279), .val (.int (1 : Int32))]) rfl (n := 291) rfl ?_
        refine G.aload C at_291 rfl rfl (n := 293) rfl ?_
        refine G.callV C (argsL := []) (yr := (⟨"com/example/near_miss/nearmiss/index/PostingsIterator", "next", "()I"⟩ : MethodName)) (yc := (⟨"com/example/near_miss/nearmiss/index/PostingsIterator", "next", "()I"⟩ : MethodName)) (a := b279) (O309.1) (wd hw 28 rfl) (wd hw 29 rfl) (nfS (wd hw 31 rfl) rfl) (wd hw 31 rfl) (wd hw 30 rfl) (wd hw 4 rfl) (wd hw 32 rfl) (by decide) (m_next l Z a0 hw b279 b197 b218 b250 (0 : Int32) [v2, v3] (2 : Int32) (1 : Int32) h311 n0 Z315 O309 O312 rfl ne284 g287 (by decide)) rfl (by decide) (W := 0) rfl (by decide) (c' := 4) (s' := 11) rfl rfl (by decide) (by decide) at_293 (n := 296) rfl pd0 rfl rfl ?_
        rintro _ h325 ⟨⟨r321, rfl⟩, K322, O323⟩
        have O326 := O312.keep K322 (ninS ne284 nin0)
        have O327 := O313.keep K322 (ninS ne285 nin0)
        have O328 := O314.keep K322 (ninS ne286 nin0)
        have Z329 : n0 ≤ h325.size := Nat.le_trans Z315 K322.1
        refine G.pop C at_296 rfl (n := 297) rfl ?_
        refine G.iload C at_297 rfl (n := 299) rfl ?_
        refine G.aload C at_299 rfl rfl (n := 301) rfl ?_
        refine G.callV C (argsL := []) (yr := (⟨"com/example/near_miss/nearmiss/index/PostingsIterator", "doc", "()I"⟩ : MethodName)) (yc := (⟨"com/example/near_miss/nearmiss/index/PostingsIterator", "doc", "()I"⟩ : MethodName)) (a := b279) (O323.1) (wd hw 19 rfl) (wd hw 20 rfl) (nfS (wd hw 22 rfl) rfl) (wd hw 22 rfl) (wd hw 21 rfl) (wd hw 4 rfl) (wd hw 23 rfl) (by decide) (m_doc l Z a0 hw b279 b197 b218 b250 (1 : Int32) [v2, v3] (2 : Int32) v3 h325 n0 Z329 O323 O326 rfl (by first | rfl | simp [docf])) rfl (by decide) (W := 1) rfl (by decide) (c' := 4) (s' := 11) rfl rfl (by decide) (by decide) at_301 (n := 304) rfl pd0 rfl rfl ?_
        rintro _ _ ⟨rfl, rfl⟩
        refine G.iconst C (v := (2 : Int32)) at_304 (by decide) (n := 305) rfl ?_
        refine G.iload C at_305 rfl (n := 307) rfl ?_
        refine G.iload C at_307 rfl (n := 309) rfl ?_
        refine G.iload C at_309 rfl (n := 311) rfl ?_
        refine G.iload C at_311 rfl (n := 313) rfl ?_
        refine G.callS C (argsL := [(.int (2 : Int32)), (.int (2 : Int32)), (.int v2), (.int v3), (.int v4)]) (yc := (⟨"com/example/near_miss/nearmiss/index/PostingsIteratorDocPinLaw", "expected", "(IIIII)I"⟩ : MethodName)) (wd hw 24 rfl) (wd hw 25 rfl) (wd hw 26 rfl) (wd hw 27 rfl) (by decide) (m_expected l Z a0 hw (2 : Int32) (2 : Int32) v2 v3 v4 v3 h325 n0 Z329 (by first | rfl | simp [expf])) rfl (by decide) (W := 2) rfl (by decide) (c' := 4) (s' := 11) rfl rfl (by decide) (by decide) at_313 (n := 316) rfl pd2 rfl rfl ?_
        rintro _ _ ⟨rfl, rfl⟩
        refine G.icmp_ne C (A := v3.toInt) (B := v3.toInt) rfl rfl at_316 (by decide) (by decide) (n := 319) (n' := 323) rfl (fun c316_334 c316_334i => ?_) (fun c316_334 c316_334i => ?_)
        · exact absurd rfl c316_334
        refine G.iconst C (v := (1 : Int32)) at_319 (by decide) (n := 320) rfl ?_
        refine G.goto C at_320 (by decide) (n := 324) (by decide) ?_
        refine G.iand C at_324 (n := 325) rfl ?_
        refine G.fold_int (z := (1 : Int32)) (by decide) ?_
        refine G.istore C at_325 (l' := #[.val (.int i0), .val (.int i1), .val (.int i2), .val (.int i3), .val (.int (2 : Int32)), .val (.int v2), .val (.int v3), .val (.int v4), .val (.ref b197), .val (.ref b218), .val (.ref b250), .val (.ref b279), .val (.int (1 : Int32))]) rfl (n := 327) rfl ?_
        refine G.aload C at_327 rfl rfl (n := 329) rfl ?_
        refine G.callV C (argsL := []) (yr := (⟨"com/example/near_miss/nearmiss/index/PostingsIterator", "next", "()I"⟩ : MethodName)) (yc := (⟨"com/example/near_miss/nearmiss/index/PostingsIterator", "next", "()I"⟩ : MethodName)) (a := b279) (O323.1) (wd hw 28 rfl) (wd hw 29 rfl) (nfS (wd hw 31 rfl) rfl) (wd hw 31 rfl) (wd hw 30 rfl) (wd hw 4 rfl) (wd hw 32 rfl) (by decide) (m_next l Z a0 hw b279 b197 b218 b250 (1 : Int32) [v2, v3] (2 : Int32) (2 : Int32) h325 n0 Z329 O323 O326 rfl ne284 g287 (by decide)) rfl (by decide) (W := 0) rfl (by decide) (c' := 4) (s' := 11) rfl rfl (by decide) (by decide) at_329 (n := 332) rfl pd0 rfl rfl ?_
        rintro _ h339 ⟨⟨r335, rfl⟩, K336, O337⟩
        have O340 := O326.keep K336 (ninS ne284 nin0)
        have O341 := O327.keep K336 (ninS ne285 nin0)
        have O342 := O328.keep K336 (ninS ne286 nin0)
        have Z343 : n0 ≤ h339.size := Nat.le_trans Z329 K336.1
        refine G.pop C at_332 rfl (n := 333) rfl ?_
        refine G.iload C at_333 rfl (n := 335) rfl ?_
        refine G.aload C at_335 rfl rfl (n := 337) rfl ?_
        refine G.callV C (argsL := []) (yr := (⟨"com/example/near_miss/nearmiss/index/PostingsIterator", "doc", "()I"⟩ : MethodName)) (yc := (⟨"com/example/near_miss/nearmiss/index/PostingsIterator", "doc", "()I"⟩ : MethodName)) (a := b279) (O337.1) (wd hw 19 rfl) (wd hw 20 rfl) (nfS (wd hw 22 rfl) rfl) (wd hw 22 rfl) (wd hw 21 rfl) (wd hw 4 rfl) (wd hw 23 rfl) (by decide) (m_doc l Z a0 hw b279 b197 b218 b250 (2 : Int32) [v2, v3] (2 : Int32) (2147483647 : Int32) h339 n0 Z343 O337 O340 rfl (by first | rfl | simp [docf])) rfl (by decide) (W := 1) rfl (by decide) (c' := 4) (s' := 11) rfl rfl (by decide) (by decide) at_337 (n := 340) rfl pd0 rfl rfl ?_
        rintro _ _ ⟨rfl, rfl⟩
        refine G.iconst C (v := (3 : Int32)) at_340 (by decide) (n := 341) rfl ?_
        refine G.iload C at_341 rfl (n := 343) rfl ?_
        refine G.iload C at_343 rfl (n := 345) rfl ?_
        refine G.iload C at_345 rfl (n := 347) rfl ?_
        refine G.iload C at_347 rfl (n := 349) rfl ?_
        refine G.callS C (argsL := [(.int (3 : Int32)), (.int (2 : Int32)), (.int v2), (.int v3), (.int v4)]) (yc := (⟨"com/example/near_miss/nearmiss/index/PostingsIteratorDocPinLaw", "expected", "(IIIII)I"⟩ : MethodName)) (wd hw 24 rfl) (wd hw 25 rfl) (wd hw 26 rfl) (wd hw 27 rfl) (by decide) (m_expected l Z a0 hw (3 : Int32) (2 : Int32) v2 v3 v4 (2147483647 : Int32) h339 n0 Z343 (by first | rfl | simp [expf])) rfl (by decide) (W := 2) rfl (by decide) (c' := 4) (s' := 11) rfl rfl (by decide) (by decide) at_349 (n := 352) rfl pd2 rfl rfl ?_
        rintro _ _ ⟨rfl, rfl⟩
        refine G.icmp_ne C (A := 2147483647) (B := 2147483647) (by decide) (by decide) at_352 (by decide) (by decide) (n := 355) (n' := 359) rfl (fun c352_348 c352_348i => ?_) (fun c352_348 c352_348i => ?_)
        · exact absurd c352_348 (by decide)
        refine G.iconst C (v := (1 : Int32)) at_355 (by decide) (n := 356) rfl ?_
        refine G.goto C at_356 (by decide) (n := 360) (by decide) ?_
        refine G.iand C at_360 (n := 361) rfl ?_
        refine G.fold_int (z := (1 : Int32)) (by decide) ?_
        refine G.istore C at_361 (l' := #[.val (.int i0), .val (.int i1), .val (.int i2), .val (.int i3), .val (.int (2 : Int32)), .val (.int v2), .val (.int v3), .val (.int v4), .val (.ref b197), .val (.ref b218), .val (.ref b250), .val (.ref b279), .val (.int (1 : Int32))]) rfl (n := 363) rfl ?_
        refine G.aload C at_363 rfl rfl (n := 365) rfl ?_
        refine G.callV C (argsL := []) (yr := (⟨"com/example/near_miss/nearmiss/index/PostingsIterator", "next", "()I"⟩ : MethodName)) (yc := (⟨"com/example/near_miss/nearmiss/index/PostingsIterator", "next", "()I"⟩ : MethodName)) (a := b279) (O337.1) (wd hw 28 rfl) (wd hw 29 rfl) (nfS (wd hw 31 rfl) rfl) (wd hw 31 rfl) (wd hw 30 rfl) (wd hw 4 rfl) (wd hw 32 rfl) (by decide) (m_next l Z a0 hw b279 b197 b218 b250 (2 : Int32) [v2, v3] (2 : Int32) (2 : Int32) h339 n0 Z343 O337 O340 rfl ne284 g287 (by decide)) rfl (by decide) (W := 0) rfl (by decide) (c' := 4) (s' := 11) rfl rfl (by decide) (by decide) at_365 (n := 368) rfl pd0 rfl rfl ?_
        rintro _ h353 ⟨⟨r349, rfl⟩, K350, O351⟩
        have O354 := O340.keep K350 (ninS ne284 nin0)
        have O355 := O341.keep K350 (ninS ne285 nin0)
        have O356 := O342.keep K350 (ninS ne286 nin0)
        have Z357 : n0 ≤ h353.size := Nat.le_trans Z343 K350.1
        refine G.pop C at_368 rfl (n := 369) rfl ?_
        refine G.iload C at_369 rfl (n := 371) rfl ?_
        refine G.aload C at_371 rfl rfl (n := 373) rfl ?_
        refine G.callV C (argsL := []) (yr := (⟨"com/example/near_miss/nearmiss/index/PostingsIterator", "doc", "()I"⟩ : MethodName)) (yc := (⟨"com/example/near_miss/nearmiss/index/PostingsIterator", "doc", "()I"⟩ : MethodName)) (a := b279) (O351.1) (wd hw 19 rfl) (wd hw 20 rfl) (nfS (wd hw 22 rfl) rfl) (wd hw 22 rfl) (wd hw 21 rfl) (wd hw 4 rfl) (wd hw 23 rfl) (by decide) (m_doc l Z a0 hw b279 b197 b218 b250 (2 : Int32) [v2, v3] (2 : Int32) (2147483647 : Int32) h353 n0 Z357 O351 O354 rfl (by first | rfl | simp [docf])) rfl (by decide) (W := 1) rfl (by decide) (c' := 4) (s' := 11) rfl rfl (by decide) (by decide) at_373 (n := 376) rfl pd0 rfl rfl ?_
        rintro _ _ ⟨rfl, rfl⟩
        refine G.iconst C (v := (4 : Int32)) at_376 (by decide) (n := 377) rfl ?_
        refine G.iload C at_377 rfl (n := 379) rfl ?_
        refine G.iload C at_379 rfl (n := 381) rfl ?_
        refine G.iload C at_381 rfl (n := 383) rfl ?_
        refine G.iload C at_383 rfl (n := 385) rfl ?_
        refine G.callS C (argsL := [(.int (4 : Int32)), (.int (2 : Int32)), (.int v2), (.int v3), (.int v4)]) (yc := (⟨"com/example/near_miss/nearmiss/index/PostingsIteratorDocPinLaw", "expected", "(IIIII)I"⟩ : MethodName)) (wd hw 24 rfl) (wd hw 25 rfl) (wd hw 26 rfl) (wd hw 27 rfl) (by decide) (m_expected l Z a0 hw (4 : Int32) (2 : Int32) v2 v3 v4 (2147483647 : Int32) h353 n0 Z357 (by first | rfl | simp [expf])) rfl (by decide) (W := 2) rfl (by decide) (c' := 4) (s' := 11) rfl rfl (by decide) (by decide) at_385 (n := 388) rfl pd2 rfl rfl ?_
        rintro _ _ ⟨rfl, rfl⟩
        refine G.icmp_ne C (A := 2147483647) (B := 2147483647) (by decide) (by decide) at_388 (by decide) (by decide) (n := 391) (n' := 395) rfl (fun c388_362 c388_362i => ?_) (fun c388_362 c388_362i => ?_)
        · exact absurd c388_362 (by decide)
        refine G.iconst C (v := (1 : Int32)) at_391 (by decide) (n := 392) rfl ?_
        refine G.goto C at_392 (by decide) (n := 396) (by decide) ?_
        refine G.iand C at_396 (n := 397) rfl ?_
        refine G.fold_int (z := (1 : Int32)) (by decide) ?_
        refine G.istore C at_397 (l' := #[.val (.int i0), .val (.int i1), .val (.int i2), .val (.int i3), .val (.int (2 : Int32)), .val (.int v2), .val (.int v3), .val (.int v4), .val (.ref b197), .val (.ref b218), .val (.ref b250), .val (.ref b279), .val (.int (1 : Int32))]) rfl (n := 399) rfl ?_
        refine G.iload C at_399 rfl (n := 401) rfl ?_
        refine G.ireturn C at_401 (rfl) (by simp) (by decide) (by decide) ?_
        exact rfl
    · subst c63_6
      refine G.iconst C (v := (1 : Int32)) at_66 (by decide) (n := 67) rfl ?_
      refine G.newarray C (ty := .int) (cap := 1) (wd hw 1 rfl) rfl rfl (by decide) (by decide) (by decide) at_67 (n := 69) rfl (c' := 1) (s' := 1) rfl rfl (by decide) (by decide) ?_
      intro h363 b364 q365 E366 O367
      have O368 : Ints Z h363 b364 .int [0] := O367
      have g369 : n0 ≤ b364 := Nat.le_trans Z0 (Nat.le_of_eq q365.symm)
      have K370 := kext E366
      have Z371 : n0 ≤ h363.size := Nat.le_trans Z0 K370.1
      refine G.dup C at_69 rfl (n := 70) rfl ?_
      refine G.iconst C (v := (0 : Int32)) at_70 (by decide) (n := 71) rfl ?_
      refine G.iload C at_71 rfl (n := 73) rfl ?_
      refine G.iastore C O368 (by decide) (show (0 : Int32).toInt < ((1 : Nat) : Int) by decide) g369 at_73 (n := 74) rfl ?_
      intro h372 K373 W374 O375
      have O376 : Ints Z h372 b364 .int [v2] := O375
      have Z377 : n0 ≤ h372.size := Nat.le_trans Z371 K373.1
      refine G.astore C at_74 rfl (l' := #[.val (.int i0), .val (.int i1), .val (.int i2), .val (.int i3), .val (.int (1 : Int32)), .val (.int v2), .val (.int v3), .val (.int v4), .val (.ref b364), .unset, .unset, .unset, .unset]) rfl (n := 76) rfl ?_
      refine G.iconst C (v := (2 : Int32)) at_76 (by decide) (n := 77) rfl ?_
      refine G.newarray C (ty := .int) (cap := 2) (wd hw 1 rfl) rfl rfl (by decide) (by decide) (by decide) at_77 (n := 79) rfl (c' := 2) (s' := 3) rfl rfl (by decide) (by decide) ?_
      intro h378 b379 q380 E381 O382
      have O383 : Ints Z h378 b379 .int [0, 0] := O382
      have ne384 : b364 ≠ b379 := Nat.ne_of_lt (Nat.lt_of_lt_of_le O376.lt (Nat.le_of_eq q380.symm))
      have g385 : n0 ≤ b379 := Nat.le_trans Z377 (Nat.le_of_eq q380.symm)
      have K386 := kext E381
      have O387 := O376.keep K386 nin0
      have Z388 : n0 ≤ h378.size := Nat.le_trans Z377 K386.1
      refine G.dup C at_79 rfl (n := 80) rfl ?_
      refine G.iconst C (v := (0 : Int32)) at_80 (by decide) (n := 81) rfl ?_
      refine G.iconst C (v := (0 : Int32)) at_81 (by decide) (n := 82) rfl ?_
      refine G.iastore C O383 (by decide) (show (0 : Int32).toInt < ((2 : Nat) : Int) by decide) g385 at_82 (n := 83) rfl ?_
      intro h389 K390 W391 O392
      have O393 : Ints Z h389 b379 .int [(0 : Int32), 0] := O392
      have O394 := O387.keep K390 (ninS ne384 nin0)
      have Z395 : n0 ≤ h389.size := Nat.le_trans Z388 K390.1
      refine G.dup C at_83 rfl (n := 84) rfl ?_
      refine G.iconst C (v := (1 : Int32)) at_84 (by decide) (n := 85) rfl ?_
      refine G.iconst C (v := (1 : Int32)) at_85 (by decide) (n := 86) rfl ?_
      refine G.iastore C O393 (by decide) (show (1 : Int32).toInt < ((2 : Nat) : Int) by decide) g385 at_86 (n := 87) rfl ?_
      intro h396 K397 W398 O399
      have O400 : Ints Z h396 b379 .int [(0 : Int32), (1 : Int32)] := O399
      have O401 := O394.keep K397 (ninS ne384 nin0)
      have Z402 : n0 ≤ h396.size := Nat.le_trans Z395 K397.1
      refine G.astore C at_87 rfl (l' := #[.val (.int i0), .val (.int i1), .val (.int i2), .val (.int i3), .val (.int (1 : Int32)), .val (.int v2), .val (.int v3), .val (.int v4), .val (.ref b364), .val (.ref b379), .unset, .unset, .unset]) rfl (n := 89) rfl ?_
      refine G.iconst C (v := (1 : Int32)) at_89 (by decide) (n := 90) rfl ?_
      refine G.newarray C (ty := .int) (cap := 1) (wd hw 1 rfl) rfl rfl (by decide) (by decide) (by decide) at_90 (n := 92) rfl (c' := 3) (s' := 4) rfl rfl (by decide) (by decide) ?_
      intro h403 b404 q405 E406 O407
      have O408 : Ints Z h403 b404 .int [0] := O407
      have ne409 : b364 ≠ b404 := Nat.ne_of_lt (Nat.lt_of_lt_of_le O401.lt (Nat.le_of_eq q405.symm))
      have ne410 : b379 ≠ b404 := Nat.ne_of_lt (Nat.lt_of_lt_of_le O400.lt (Nat.le_of_eq q405.symm))
      have g411 : n0 ≤ b404 := Nat.le_trans Z402 (Nat.le_of_eq q405.symm)
      have K412 := kext E406
      have O413 := O401.keep K412 nin0
      have O414 := O400.keep K412 nin0
      have Z415 : n0 ≤ h403.size := Nat.le_trans Z402 K412.1
      refine G.dup C at_92 rfl (n := 93) rfl ?_
      refine G.iconst C (v := (0 : Int32)) at_93 (by decide) (n := 94) rfl ?_
      refine G.iconst C (v := (0 : Int32)) at_94 (by decide) (n := 95) rfl ?_
      refine G.iastore C O408 (by decide) (show (0 : Int32).toInt < ((1 : Nat) : Int) by decide) g411 at_95 (n := 96) rfl ?_
      intro h416 K417 W418 O419
      have O420 : Ints Z h416 b404 .int [(0 : Int32)] := O419
      have O421 := O413.keep K417 (ninS ne409 nin0)
      have O422 := O414.keep K417 (ninS ne410 nin0)
      have Z423 : n0 ≤ h416.size := Nat.le_trans Z415 K417.1
      refine G.astore C at_96 rfl (l' := #[.val (.int i0), .val (.int i1), .val (.int i2), .val (.int i3), .val (.int (1 : Int32)), .val (.int v2), .val (.int v3), .val (.int v4), .val (.ref b364), .val (.ref b379), .val (.ref b404), .unset, .unset]) rfl (n := 98) rfl ?_
      refine G.goto C at_98 (by decide) (n := 213) (by decide) ?_
      refine G.new C (wd hw 2 rfl) (wd hw 3 rfl) (wd hw 4 rfl) at_213 (n := 216) rfl (c' := 4) (s' := 8) rfl rfl (by decide) (by decide) ?_
      intro h424 b425 q426 E427 A428 D429
      have ne430 : b364 ≠ b425 := Nat.ne_of_lt (Nat.lt_of_lt_of_le O421.lt (Nat.le_of_eq q426.symm))
      have ne431 : b379 ≠ b425 := Nat.ne_of_lt (Nat.lt_of_lt_of_le O422.lt (Nat.le_of_eq q426.symm))
      have ne432 : b404 ≠ b425 := Nat.ne_of_lt (Nat.lt_of_lt_of_le O420.lt (Nat.le_of_eq q426.symm))
      have g433 : n0 ≤ b425 := Nat.le_trans Z423 (Nat.le_of_eq q426.symm)
      have O434 := Ob_P.new hw A428 D429
      have K435 := kext E427
      have O436 := O421.keep K435 nin0
      have O437 := O422.keep K435 nin0
      have O438 := O420.keep K435 nin0
      have Z439 : n0 ≤ h424.size := Nat.le_trans Z423 K435.1
      refine G.dup C at_216 rfl (n := 217) rfl ?_
      refine G.aload C at_217 rfl rfl (n := 219) rfl ?_
      refine G.aload C at_219 rfl rfl (n := 221) rfl ?_
      refine G.aload C at_221 rfl rfl (n := 223) rfl ?_
      refine G.callC C (argsL := [(.ref b364), (.ref b379), (.ref b404)]) (yc := (⟨"com/example/near_miss/nearmiss/index/PostingsIterator", "<init>", "([I[I[I)V"⟩ : MethodName)) (a := b425) rfl (wd hw 5 rfl) (wd hw 6 rfl) (wd hw 4 rfl) (wd hw 7 rfl) (by decide) (m_init l Z a0 hw b425 b364 b379 b404 h424 n0 Z439 O434 g433) rfl (by decide) (W := 1) rfl (by decide) (c' := 4) (s' := 8) rfl rfl (by decide) (by decide) at_223 (n := 226) rfl pd1 rfl rfl ?_
      rintro _ h443 ⟨rfl, K440, O441⟩
      have O444 := O436.keep K440 (ninS ne430 nin0)
      have O445 := O437.keep K440 (ninS ne431 nin0)
      have O446 := O438.keep K440 (ninS ne432 nin0)
      have Z447 : n0 ≤ h443.size := Nat.le_trans Z439 K440.1
      refine G.astore C at_226 rfl (l' := #[.val (.int i0), .val (.int i1), .val (.int i2), .val (.int i3), .val (.int (1 : Int32)), .val (.int v2), .val (.int v3), .val (.int v4), .val (.ref b364), .val (.ref b379), .val (.ref b404), .val (.ref b425), .unset]) rfl (n := 228) rfl ?_
      refine G.aload C at_228 rfl rfl (n := 230) rfl ?_
      refine G.callV C (argsL := []) (yr := (⟨"com/example/near_miss/nearmiss/index/PostingsIterator", "doc", "()I"⟩ : MethodName)) (yc := (⟨"com/example/near_miss/nearmiss/index/PostingsIterator", "doc", "()I"⟩ : MethodName)) (a := b425) (O441.1) (wd hw 19 rfl) (wd hw 20 rfl) (nfS (wd hw 22 rfl) rfl) (wd hw 22 rfl) (wd hw 21 rfl) (wd hw 4 rfl) (wd hw 23 rfl) (by decide) (m_doc l Z a0 hw b425 b364 b379 b404 (-1 : Int32) [v2] (1 : Int32) (-1 : Int32) h443 n0 Z447 O441 O444 rfl (by first | rfl | simp [docf])) rfl (by decide) (W := 0) rfl (by decide) (c' := 4) (s' := 8) rfl rfl (by decide) (by decide) at_230 (n := 233) rfl pd0 rfl rfl ?_
      rintro _ _ ⟨rfl, rfl⟩
      refine G.iconst C (v := (0 : Int32)) at_233 (by decide) (n := 234) rfl ?_
      refine G.iload C at_234 rfl (n := 236) rfl ?_
      refine G.iload C at_236 rfl (n := 238) rfl ?_
      refine G.iload C at_238 rfl (n := 240) rfl ?_
      refine G.iload C at_240 rfl (n := 242) rfl ?_
      refine G.callS C (argsL := [(.int (0 : Int32)), (.int (1 : Int32)), (.int v2), (.int v3), (.int v4)]) (yc := (⟨"com/example/near_miss/nearmiss/index/PostingsIteratorDocPinLaw", "expected", "(IIIII)I"⟩ : MethodName)) (wd hw 24 rfl) (wd hw 25 rfl) (wd hw 26 rfl) (wd hw 27 rfl) (by decide) (m_expected l Z a0 hw (0 : Int32) (1 : Int32) v2 v3 v4 (-1 : Int32) h443 n0 Z447 (by first | rfl | simp [expf])) rfl (by decide) (W := 1) rfl (by decide) (c' := 4) (s' := 8) rfl rfl (by decide) (by decide) at_242 (n := 245) rfl pd2 rfl rfl ?_
      rintro _ _ ⟨rfl, rfl⟩
      refine G.icmp_ne C (A := (-1)) (B := (-1)) (by decide) (by decide) at_245 (by decide) (by decide) (n := 248) (n' := 252) rfl (fun c245_452 c245_452i => ?_) (fun c245_452 c245_452i => ?_)
      · exact absurd c245_452 (by decide)
      refine G.iconst C (v := (1 : Int32)) at_248 (by decide) (n := 249) rfl ?_
      refine G.goto C at_249 (by decide) (n := 253) (by decide) ?_
      refine G.istore C at_253 (l' := #[.val (.int i0), .val (.int i1), .val (.int i2), .val (.int i3), .val (.int (1 : Int32)), .val (.int v2), .val (.int v3), .val (.int v4), .val (.ref b364), .val (.ref b379), .val (.ref b404), .val (.ref b425), .val (.int (1 : Int32))]) rfl (n := 255) rfl ?_
      refine G.aload C at_255 rfl rfl (n := 257) rfl ?_
      refine G.callV C (argsL := []) (yr := (⟨"com/example/near_miss/nearmiss/index/PostingsIterator", "next", "()I"⟩ : MethodName)) (yc := (⟨"com/example/near_miss/nearmiss/index/PostingsIterator", "next", "()I"⟩ : MethodName)) (a := b425) (O441.1) (wd hw 28 rfl) (wd hw 29 rfl) (nfS (wd hw 31 rfl) rfl) (wd hw 31 rfl) (wd hw 30 rfl) (wd hw 4 rfl) (wd hw 32 rfl) (by decide) (m_next l Z a0 hw b425 b364 b379 b404 (-1 : Int32) [v2] (1 : Int32) (0 : Int32) h443 n0 Z447 O441 O444 rfl ne430 g433 (by decide)) rfl (by decide) (W := 0) rfl (by decide) (c' := 4) (s' := 8) rfl rfl (by decide) (by decide) at_257 (n := 260) rfl pd0 rfl rfl ?_
      rintro _ h457 ⟨⟨r453, rfl⟩, K454, O455⟩
      have O458 := O444.keep K454 (ninS ne430 nin0)
      have O459 := O445.keep K454 (ninS ne431 nin0)
      have O460 := O446.keep K454 (ninS ne432 nin0)
      have Z461 : n0 ≤ h457.size := Nat.le_trans Z447 K454.1
      refine G.pop C at_260 rfl (n := 261) rfl ?_
      refine G.iload C at_261 rfl (n := 263) rfl ?_
      refine G.aload C at_263 rfl rfl (n := 265) rfl ?_
      refine G.callV C (argsL := []) (yr := (⟨"com/example/near_miss/nearmiss/index/PostingsIterator", "doc", "()I"⟩ : MethodName)) (yc := (⟨"com/example/near_miss/nearmiss/index/PostingsIterator", "doc", "()I"⟩ : MethodName)) (a := b425) (O455.1) (wd hw 19 rfl) (wd hw 20 rfl) (nfS (wd hw 22 rfl) rfl) (wd hw 22 rfl) (wd hw 21 rfl) (wd hw 4 rfl) (wd hw 23 rfl) (by decide) (m_doc l Z a0 hw b425 b364 b379 b404 (0 : Int32) [v2] (1 : Int32) v2 h457 n0 Z461 O455 O458 rfl (by first | rfl | simp [docf])) rfl (by decide) (W := 1) rfl (by decide) (c' := 4) (s' := 8) rfl rfl (by decide) (by decide) at_265 (n := 268) rfl pd0 rfl rfl ?_
      rintro _ _ ⟨rfl, rfl⟩
      refine G.iconst C (v := (1 : Int32)) at_268 (by decide) (n := 269) rfl ?_
      refine G.iload C at_269 rfl (n := 271) rfl ?_
      refine G.iload C at_271 rfl (n := 273) rfl ?_
      refine G.iload C at_273 rfl (n := 275) rfl ?_
      refine G.iload C at_275 rfl (n := 277) rfl ?_
      refine G.callS C (argsL := [(.int (1 : Int32)), (.int (1 : Int32)), (.int v2), (.int v3), (.int v4)]) (yc := (⟨"com/example/near_miss/nearmiss/index/PostingsIteratorDocPinLaw", "expected", "(IIIII)I"⟩ : MethodName)) (wd hw 24 rfl) (wd hw 25 rfl) (wd hw 26 rfl) (wd hw 27 rfl) (by decide) (m_expected l Z a0 hw (1 : Int32) (1 : Int32) v2 v3 v4 v2 h457 n0 Z461 (by first | rfl | simp [expf])) rfl (by decide) (W := 2) rfl (by decide) (c' := 4) (s' := 8) rfl rfl (by decide) (by decide) at_277 (n := 280) rfl pd2 rfl rfl ?_
      rintro _ _ ⟨rfl, rfl⟩
      refine G.icmp_ne C (A := v2.toInt) (B := v2.toInt) rfl rfl at_280 (by decide) (by decide) (n := 283) (n' := 287) rfl (fun c280_466 c280_466i => ?_) (fun c280_466 c280_466i => ?_)
      · exact absurd rfl c280_466
      refine G.iconst C (v := (1 : Int32)) at_283 (by decide) (n := 284) rfl ?_
      refine G.goto C at_284 (by decide) (n := 288) (by decide) ?_
      refine G.iand C at_288 (n := 289) rfl ?_
      refine G.fold_int (z := (1 : Int32)) (by decide) ?_
      refine G.istore C at_289 (l' := #[.val (.int i0), .val (.int i1), .val (.int i2), .val (.int i3), .val (.int (1 : Int32)), .val (.int v2), .val (.int v3), .val (.int v4), .val (.ref b364), .val (.ref b379), .val (.ref b404), .val (.ref b425), .val (.int (1 : Int32))]) rfl (n := 291) rfl ?_
      refine G.aload C at_291 rfl rfl (n := 293) rfl ?_
      refine G.callV C (argsL := []) (yr := (⟨"com/example/near_miss/nearmiss/index/PostingsIterator", "next", "()I"⟩ : MethodName)) (yc := (⟨"com/example/near_miss/nearmiss/index/PostingsIterator", "next", "()I"⟩ : MethodName)) (a := b425) (O455.1) (wd hw 28 rfl) (wd hw 29 rfl) (nfS (wd hw 31 rfl) rfl) (wd hw 31 rfl) (wd hw 30 rfl) (wd hw 4 rfl) (wd hw 32 rfl) (by decide) (m_next l Z a0 hw b425 b364 b379 b404 (0 : Int32) [v2] (1 : Int32) (1 : Int32) h457 n0 Z461 O455 O458 rfl ne430 g433 (by decide)) rfl (by decide) (W := 0) rfl (by decide) (c' := 4) (s' := 8) rfl rfl (by decide) (by decide) at_293 (n := 296) rfl pd0 rfl rfl ?_
      rintro _ h471 ⟨⟨r467, rfl⟩, K468, O469⟩
      have O472 := O458.keep K468 (ninS ne430 nin0)
      have O473 := O459.keep K468 (ninS ne431 nin0)
      have O474 := O460.keep K468 (ninS ne432 nin0)
      have Z475 : n0 ≤ h471.size := Nat.le_trans Z461 K468.1
      refine G.pop C at_296 rfl (n := 297) rfl ?_
      refine G.iload C at_297 rfl (n := 299) rfl ?_
      refine G.aload C at_299 rfl rfl (n := 301) rfl ?_
      refine G.callV C (argsL := []) (yr := (⟨"com/example/near_miss/nearmiss/index/PostingsIterator", "doc", "()I"⟩ : MethodName)) (yc := (⟨"com/example/near_miss/nearmiss/index/PostingsIterator", "doc", "()I"⟩ : MethodName)) (a := b425) (O469.1) (wd hw 19 rfl) (wd hw 20 rfl) (nfS (wd hw 22 rfl) rfl) (wd hw 22 rfl) (wd hw 21 rfl) (wd hw 4 rfl) (wd hw 23 rfl) (by decide) (m_doc l Z a0 hw b425 b364 b379 b404 (1 : Int32) [v2] (1 : Int32) (2147483647 : Int32) h471 n0 Z475 O469 O472 rfl (by first | rfl | simp [docf])) rfl (by decide) (W := 1) rfl (by decide) (c' := 4) (s' := 8) rfl rfl (by decide) (by decide) at_301 (n := 304) rfl pd0 rfl rfl ?_
      rintro _ _ ⟨rfl, rfl⟩
      refine G.iconst C (v := (2 : Int32)) at_304 (by decide) (n := 305) rfl ?_
      refine G.iload C at_305 rfl (n := 307) rfl ?_
      refine G.iload C at_307 rfl (n := 309) rfl ?_
      refine G.iload C at_309 rfl (n := 311) rfl ?_
      refine G.iload C at_311 rfl (n := 313) rfl ?_
      refine G.callS C (argsL := [(.int (2 : Int32)), (.int (1 : Int32)), (.int v2), (.int v3), (.int v4)]) (yc := (⟨"com/example/near_miss/nearmiss/index/PostingsIteratorDocPinLaw", "expected", "(IIIII)I"⟩ : MethodName)) (wd hw 24 rfl) (wd hw 25 rfl) (wd hw 26 rfl) (wd hw 27 rfl) (by decide) (m_expected l Z a0 hw (2 : Int32) (1 : Int32) v2 v3 v4 (2147483647 : Int32) h471 n0 Z475 (by first | rfl | simp [expf])) rfl (by decide) (W := 2) rfl (by decide) (c' := 4) (s' := 8) rfl rfl (by decide) (by decide) at_313 (n := 316) rfl pd2 rfl rfl ?_
      rintro _ _ ⟨rfl, rfl⟩
      refine G.icmp_ne C (A := 2147483647) (B := 2147483647) (by decide) (by decide) at_316 (by decide) (by decide) (n := 319) (n' := 323) rfl (fun c316_480 c316_480i => ?_) (fun c316_480 c316_480i => ?_)
      · exact absurd c316_480 (by decide)
      refine G.iconst C (v := (1 : Int32)) at_319 (by decide) (n := 320) rfl ?_
      refine G.goto C at_320 (by decide) (n := 324) (by decide) ?_
      refine G.iand C at_324 (n := 325) rfl ?_
      refine G.fold_int (z := (1 : Int32)) (by decide) ?_
      refine G.istore C at_325 (l' := #[.val (.int i0), .val (.int i1), .val (.int i2), .val (.int i3), .val (.int (1 : Int32)), .val (.int v2), .val (.int v3), .val (.int v4), .val (.ref b364), .val (.ref b379), .val (.ref b404), .val (.ref b425), .val (.int (1 : Int32))]) rfl (n := 327) rfl ?_
      refine G.aload C at_327 rfl rfl (n := 329) rfl ?_
      refine G.callV C (argsL := []) (yr := (⟨"com/example/near_miss/nearmiss/index/PostingsIterator", "next", "()I"⟩ : MethodName)) (yc := (⟨"com/example/near_miss/nearmiss/index/PostingsIterator", "next", "()I"⟩ : MethodName)) (a := b425) (O469.1) (wd hw 28 rfl) (wd hw 29 rfl) (nfS (wd hw 31 rfl) rfl) (wd hw 31 rfl) (wd hw 30 rfl) (wd hw 4 rfl) (wd hw 32 rfl) (by decide) (m_next l Z a0 hw b425 b364 b379 b404 (1 : Int32) [v2] (1 : Int32) (1 : Int32) h471 n0 Z475 O469 O472 rfl ne430 g433 (by decide)) rfl (by decide) (W := 0) rfl (by decide) (c' := 4) (s' := 8) rfl rfl (by decide) (by decide) at_329 (n := 332) rfl pd0 rfl rfl ?_
      rintro _ h485 ⟨⟨r481, rfl⟩, K482, O483⟩
      have O486 := O472.keep K482 (ninS ne430 nin0)
      have O487 := O473.keep K482 (ninS ne431 nin0)
      have O488 := O474.keep K482 (ninS ne432 nin0)
      have Z489 : n0 ≤ h485.size := Nat.le_trans Z475 K482.1
      refine G.pop C at_332 rfl (n := 333) rfl ?_
      refine G.iload C at_333 rfl (n := 335) rfl ?_
      refine G.aload C at_335 rfl rfl (n := 337) rfl ?_
      refine G.callV C (argsL := []) (yr := (⟨"com/example/near_miss/nearmiss/index/PostingsIterator", "doc", "()I"⟩ : MethodName)) (yc := (⟨"com/example/near_miss/nearmiss/index/PostingsIterator", "doc", "()I"⟩ : MethodName)) (a := b425) (O483.1) (wd hw 19 rfl) (wd hw 20 rfl) (nfS (wd hw 22 rfl) rfl) (wd hw 22 rfl) (wd hw 21 rfl) (wd hw 4 rfl) (wd hw 23 rfl) (by decide) (m_doc l Z a0 hw b425 b364 b379 b404 (1 : Int32) [v2] (1 : Int32) (2147483647 : Int32) h485 n0 Z489 O483 O486 rfl (by first | rfl | simp [docf])) rfl (by decide) (W := 1) rfl (by decide) (c' := 4) (s' := 8) rfl rfl (by decide) (by decide) at_337 (n := 340) rfl pd0 rfl rfl ?_
      rintro _ _ ⟨rfl, rfl⟩
      refine G.iconst C (v := (3 : Int32)) at_340 (by decide) (n := 341) rfl ?_
      refine G.iload C at_341 rfl (n := 343) rfl ?_
      refine G.iload C at_343 rfl (n := 345) rfl ?_
      refine G.iload C at_345 rfl (n := 347) rfl ?_
      refine G.iload C at_347 rfl (n := 349) rfl ?_
      refine G.callS C (argsL := [(.int (3 : Int32)), (.int (1 : Int32)), (.int v2), (.int v3), (.int v4)]) (yc := (⟨"com/example/near_miss/nearmiss/index/PostingsIteratorDocPinLaw", "expected", "(IIIII)I"⟩ : MethodName)) (wd hw 24 rfl) (wd hw 25 rfl) (wd hw 26 rfl) (wd hw 27 rfl) (by decide) (m_expected l Z a0 hw (3 : Int32) (1 : Int32) v2 v3 v4 (2147483647 : Int32) h485 n0 Z489 (by first | rfl | simp [expf])) rfl (by decide) (W := 2) rfl (by decide) (c' := 4) (s' := 8) rfl rfl (by decide) (by decide) at_349 (n := 352) rfl pd2 rfl rfl ?_
      rintro _ _ ⟨rfl, rfl⟩
      refine G.icmp_ne C (A := 2147483647) (B := 2147483647) (by decide) (by decide) at_352 (by decide) (by decide) (n := 355) (n' := 359) rfl (fun c352_494 c352_494i => ?_) (fun c352_494 c352_494i => ?_)
      · exact absurd c352_494 (by decide)
      refine G.iconst C (v := (1 : Int32)) at_355 (by decide) (n := 356) rfl ?_
      refine G.goto C at_356 (by decide) (n := 360) (by decide) ?_
      refine G.iand C at_360 (n := 361) rfl ?_
      refine G.fold_int (z := (1 : Int32)) (by decide) ?_
      refine G.istore C at_361 (l' := #[.val (.int i0), .val (.int i1), .val (.int i2), .val (.int i3), .val (.int (1 : Int32)), .val (.int v2), .val (.int v3), .val (.int v4), .val (.ref b364), .val (.ref b379), .val (.ref b404), .val (.ref b425), .val (.int (1 : Int32))]) rfl (n := 363) rfl ?_
      refine G.aload C at_363 rfl rfl (n := 365) rfl ?_
      refine G.callV C (argsL := []) (yr := (⟨"com/example/near_miss/nearmiss/index/PostingsIterator", "next", "()I"⟩ : MethodName)) (yc := (⟨"com/example/near_miss/nearmiss/index/PostingsIterator", "next", "()I"⟩ : MethodName)) (a := b425) (O483.1) (wd hw 28 rfl) (wd hw 29 rfl) (nfS (wd hw 31 rfl) rfl) (wd hw 31 rfl) (wd hw 30 rfl) (wd hw 4 rfl) (wd hw 32 rfl) (by decide) (m_next l Z a0 hw b425 b364 b379 b404 (1 : Int32) [v2] (1 : Int32) (1 : Int32) h485 n0 Z489 O483 O486 rfl ne430 g433 (by decide)) rfl (by decide) (W := 0) rfl (by decide) (c' := 4) (s' := 8) rfl rfl (by decide) (by decide) at_365 (n := 368) rfl pd0 rfl rfl ?_
      rintro _ h499 ⟨⟨r495, rfl⟩, K496, O497⟩
      have O500 := O486.keep K496 (ninS ne430 nin0)
      have O501 := O487.keep K496 (ninS ne431 nin0)
      have O502 := O488.keep K496 (ninS ne432 nin0)
      have Z503 : n0 ≤ h499.size := Nat.le_trans Z489 K496.1
      refine G.pop C at_368 rfl (n := 369) rfl ?_
      refine G.iload C at_369 rfl (n := 371) rfl ?_
      refine G.aload C at_371 rfl rfl (n := 373) rfl ?_
      refine G.callV C (argsL := []) (yr := (⟨"com/example/near_miss/nearmiss/index/PostingsIterator", "doc", "()I"⟩ : MethodName)) (yc := (⟨"com/example/near_miss/nearmiss/index/PostingsIterator", "doc", "()I"⟩ : MethodName)) (a := b425) (O497.1) (wd hw 19 rfl) (wd hw 20 rfl) (nfS (wd hw 22 rfl) rfl) (wd hw 22 rfl) (wd hw 21 rfl) (wd hw 4 rfl) (wd hw 23 rfl) (by decide) (m_doc l Z a0 hw b425 b364 b379 b404 (1 : Int32) [v2] (1 : Int32) (2147483647 : Int32) h499 n0 Z503 O497 O500 rfl (by first | rfl | simp [docf])) rfl (by decide) (W := 1) rfl (by decide) (c' := 4) (s' := 8) rfl rfl (by decide) (by decide) at_373 (n := 376) rfl pd0 rfl rfl ?_
      rintro _ _ ⟨rfl, rfl⟩
      refine G.iconst C (v := (4 : Int32)) at_376 (by decide) (n := 377) rfl ?_
      refine G.iload C at_377 rfl (n := 379) rfl ?_
      refine G.iload C at_379 rfl (n := 381) rfl ?_
      refine G.iload C at_381 rfl (n := 383) rfl ?_
      refine G.iload C at_383 rfl (n := 385) rfl ?_
      refine G.callS C (argsL := [(.int (4 : Int32)), (.int (1 : Int32)), (.int v2), (.int v3), (.int v4)]) (yc := (⟨"com/example/near_miss/nearmiss/index/PostingsIteratorDocPinLaw", "expected", "(IIIII)I"⟩ : MethodName)) (wd hw 24 rfl) (wd hw 25 rfl) (wd hw 26 rfl) (wd hw 27 rfl) (by decide) (m_expected l Z a0 hw (4 : Int32) (1 : Int32) v2 v3 v4 (2147483647 : Int32) h499 n0 Z503 (by first | rfl | simp [expf])) rfl (by decide) (W := 2) rfl (by decide) (c' := 4) (s' := 8) rfl rfl (by decide) (by decide) at_385 (n := 388) rfl pd2 rfl rfl ?_
      rintro _ _ ⟨rfl, rfl⟩
      refine G.icmp_ne C (A := 2147483647) (B := 2147483647) (by decide) (by decide) at_388 (by decide) (by decide) (n := 391) (n' := 395) rfl (fun c388_508 c388_508i => ?_) (fun c388_508 c388_508i => ?_)
      · exact absurd c388_508 (by decide)
      refine G.iconst C (v := (1 : Int32)) at_391 (by decide) (n := 392) rfl ?_
      refine G.goto C at_392 (by decide) (n := 396) (by decide) ?_
      refine G.iand C at_396 (n := 397) rfl ?_
      refine G.fold_int (z := (1 : Int32)) (by decide) ?_
      refine G.istore C at_397 (l' := #[.val (.int i0), .val (.int i1), .val (.int i2), .val (.int i3), .val (.int (1 : Int32)), .val (.int v2), .val (.int v3), .val (.int v4), .val (.ref b364), .val (.ref b379), .val (.ref b404), .val (.ref b425), .val (.int (1 : Int32))]) rfl (n := 399) rfl ?_
      refine G.iload C at_399 rfl (n := 401) rfl ?_
      refine G.ireturn C at_401 (rfl) (by simp) (by decide) (by decide) ?_
      exact rfl
  · subst c35_5
    refine G.iconst C (v := (0 : Int32)) at_38 (by decide) (n := 39) rfl ?_
    refine G.newarray C (ty := .int) (cap := 0) (wd hw 1 rfl) rfl rfl (by decide) (by decide) (by decide) at_39 (n := 41) rfl (c' := 1) (s' := 0) rfl rfl (by decide) (by decide) ?_
    intro h509 b510 q511 E512 O513
    have O514 : Ints Z h509 b510 .int [] := O513
    have g515 : n0 ≤ b510 := Nat.le_trans Z0 (Nat.le_of_eq q511.symm)
    have K516 := kext E512
    have Z517 : n0 ≤ h509.size := Nat.le_trans Z0 K516.1
    refine G.astore C at_41 rfl (l' := #[.val (.int i0), .val (.int i1), .val (.int i2), .val (.int i3), .val (.int (0 : Int32)), .val (.int v2), .val (.int v3), .val (.int v4), .val (.ref b510), .unset, .unset, .unset, .unset]) rfl (n := 43) rfl ?_
    refine G.iconst C (v := (1 : Int32)) at_43 (by decide) (n := 44) rfl ?_
    refine G.newarray C (ty := .int) (cap := 1) (wd hw 1 rfl) rfl rfl (by decide) (by decide) (by decide) at_44 (n := 46) rfl (c' := 2) (s' := 1) rfl rfl (by decide) (by decide) ?_
    intro h518 b519 q520 E521 O522
    have O523 : Ints Z h518 b519 .int [0] := O522
    have ne524 : b510 ≠ b519 := Nat.ne_of_lt (Nat.lt_of_lt_of_le O514.lt (Nat.le_of_eq q520.symm))
    have g525 : n0 ≤ b519 := Nat.le_trans Z517 (Nat.le_of_eq q520.symm)
    have K526 := kext E521
    have O527 := O514.keep K526 nin0
    have Z528 : n0 ≤ h518.size := Nat.le_trans Z517 K526.1
    refine G.dup C at_46 rfl (n := 47) rfl ?_
    refine G.iconst C (v := (0 : Int32)) at_47 (by decide) (n := 48) rfl ?_
    refine G.iconst C (v := (0 : Int32)) at_48 (by decide) (n := 49) rfl ?_
    refine G.iastore C O523 (by decide) (show (0 : Int32).toInt < ((1 : Nat) : Int) by decide) g525 at_49 (n := 50) rfl ?_
    intro h529 K530 W531 O532
    have O533 : Ints Z h529 b519 .int [(0 : Int32)] := O532
    have O534 := O527.keep K530 (ninS ne524 nin0)
    have Z535 : n0 ≤ h529.size := Nat.le_trans Z528 K530.1
    refine G.astore C at_50 rfl (l' := #[.val (.int i0), .val (.int i1), .val (.int i2), .val (.int i3), .val (.int (0 : Int32)), .val (.int v2), .val (.int v3), .val (.int v4), .val (.ref b510), .val (.ref b519), .unset, .unset, .unset]) rfl (n := 52) rfl ?_
    refine G.iconst C (v := (0 : Int32)) at_52 (by decide) (n := 53) rfl ?_
    refine G.newarray C (ty := .int) (cap := 0) (wd hw 1 rfl) rfl rfl (by decide) (by decide) (by decide) at_53 (n := 55) rfl (c' := 3) (s' := 1) rfl rfl (by decide) (by decide) ?_
    intro h536 b537 q538 E539 O540
    have O541 : Ints Z h536 b537 .int [] := O540
    have ne542 : b510 ≠ b537 := Nat.ne_of_lt (Nat.lt_of_lt_of_le O534.lt (Nat.le_of_eq q538.symm))
    have ne543 : b519 ≠ b537 := Nat.ne_of_lt (Nat.lt_of_lt_of_le O533.lt (Nat.le_of_eq q538.symm))
    have g544 : n0 ≤ b537 := Nat.le_trans Z535 (Nat.le_of_eq q538.symm)
    have K545 := kext E539
    have O546 := O534.keep K545 nin0
    have O547 := O533.keep K545 nin0
    have Z548 : n0 ≤ h536.size := Nat.le_trans Z535 K545.1
    refine G.astore C at_55 rfl (l' := #[.val (.int i0), .val (.int i1), .val (.int i2), .val (.int i3), .val (.int (0 : Int32)), .val (.int v2), .val (.int v3), .val (.int v4), .val (.ref b510), .val (.ref b519), .val (.ref b537), .unset, .unset]) rfl (n := 57) rfl ?_
    refine G.goto C at_57 (by decide) (n := 213) (by decide) ?_
    refine G.new C (wd hw 2 rfl) (wd hw 3 rfl) (wd hw 4 rfl) at_213 (n := 216) rfl (c' := 4) (s' := 5) rfl rfl (by decide) (by decide) ?_
    intro h549 b550 q551 E552 A553 D554
    have ne555 : b510 ≠ b550 := Nat.ne_of_lt (Nat.lt_of_lt_of_le O546.lt (Nat.le_of_eq q551.symm))
    have ne556 : b519 ≠ b550 := Nat.ne_of_lt (Nat.lt_of_lt_of_le O547.lt (Nat.le_of_eq q551.symm))
    have ne557 : b537 ≠ b550 := Nat.ne_of_lt (Nat.lt_of_lt_of_le O541.lt (Nat.le_of_eq q551.symm))
    have g558 : n0 ≤ b550 := Nat.le_trans Z548 (Nat.le_of_eq q551.symm)
    have O559 := Ob_P.new hw A553 D554
    have K560 := kext E552
    have O561 := O546.keep K560 nin0
    have O562 := O547.keep K560 nin0
    have O563 := O541.keep K560 nin0
    have Z564 : n0 ≤ h549.size := Nat.le_trans Z548 K560.1
    refine G.dup C at_216 rfl (n := 217) rfl ?_
    refine G.aload C at_217 rfl rfl (n := 219) rfl ?_
    refine G.aload C at_219 rfl rfl (n := 221) rfl ?_
    refine G.aload C at_221 rfl rfl (n := 223) rfl ?_
    refine G.callC C (argsL := [(.ref b510), (.ref b519), (.ref b537)]) (yc := (⟨"com/example/near_miss/nearmiss/index/PostingsIterator", "<init>", "([I[I[I)V"⟩ : MethodName)) (a := b550) rfl (wd hw 5 rfl) (wd hw 6 rfl) (wd hw 4 rfl) (wd hw 7 rfl) (by decide) (m_init l Z a0 hw b550 b510 b519 b537 h549 n0 Z564 O559 g558) rfl (by decide) (W := 1) rfl (by decide) (c' := 4) (s' := 5) rfl rfl (by decide) (by decide) at_223 (n := 226) rfl pd1 rfl rfl ?_
    rintro _ h568 ⟨rfl, K565, O566⟩
    have O569 := O561.keep K565 (ninS ne555 nin0)
    have O570 := O562.keep K565 (ninS ne556 nin0)
    have O571 := O563.keep K565 (ninS ne557 nin0)
    have Z572 : n0 ≤ h568.size := Nat.le_trans Z564 K565.1
    refine G.astore C at_226 rfl (l' := #[.val (.int i0), .val (.int i1), .val (.int i2), .val (.int i3), .val (.int (0 : Int32)), .val (.int v2), .val (.int v3), .val (.int v4), .val (.ref b510), .val (.ref b519), .val (.ref b537), .val (.ref b550), .unset]) rfl (n := 228) rfl ?_
    refine G.aload C at_228 rfl rfl (n := 230) rfl ?_
    refine G.callV C (argsL := []) (yr := (⟨"com/example/near_miss/nearmiss/index/PostingsIterator", "doc", "()I"⟩ : MethodName)) (yc := (⟨"com/example/near_miss/nearmiss/index/PostingsIterator", "doc", "()I"⟩ : MethodName)) (a := b550) (O566.1) (wd hw 19 rfl) (wd hw 20 rfl) (nfS (wd hw 22 rfl) rfl) (wd hw 22 rfl) (wd hw 21 rfl) (wd hw 4 rfl) (wd hw 23 rfl) (by decide) (m_doc l Z a0 hw b550 b510 b519 b537 (-1 : Int32) [] (0 : Int32) (-1 : Int32) h568 n0 Z572 O566 O569 rfl (by first | rfl | simp [docf])) rfl (by decide) (W := 0) rfl (by decide) (c' := 4) (s' := 5) rfl rfl (by decide) (by decide) at_230 (n := 233) rfl pd0 rfl rfl ?_
    rintro _ _ ⟨rfl, rfl⟩
    refine G.iconst C (v := (0 : Int32)) at_233 (by decide) (n := 234) rfl ?_
    refine G.iload C at_234 rfl (n := 236) rfl ?_
    refine G.iload C at_236 rfl (n := 238) rfl ?_
    refine G.iload C at_238 rfl (n := 240) rfl ?_
    refine G.iload C at_240 rfl (n := 242) rfl ?_
    refine G.callS C (argsL := [(.int (0 : Int32)), (.int (0 : Int32)), (.int v2), (.int v3), (.int v4)]) (yc := (⟨"com/example/near_miss/nearmiss/index/PostingsIteratorDocPinLaw", "expected", "(IIIII)I"⟩ : MethodName)) (wd hw 24 rfl) (wd hw 25 rfl) (wd hw 26 rfl) (wd hw 27 rfl) (by decide) (m_expected l Z a0 hw (0 : Int32) (0 : Int32) v2 v3 v4 (-1 : Int32) h568 n0 Z572 (by first | rfl | simp [expf])) rfl (by decide) (W := 1) rfl (by decide) (c' := 4) (s' := 5) rfl rfl (by decide) (by decide) at_242 (n := 245) rfl pd2 rfl rfl ?_
    rintro _ _ ⟨rfl, rfl⟩
    refine G.icmp_ne C (A := (-1)) (B := (-1)) (by decide) (by decide) at_245 (by decide) (by decide) (n := 248) (n' := 252) rfl (fun c245_577 c245_577i => ?_) (fun c245_577 c245_577i => ?_)
    · exact absurd c245_577 (by decide)
    refine G.iconst C (v := (1 : Int32)) at_248 (by decide) (n := 249) rfl ?_
    refine G.goto C at_249 (by decide) (n := 253) (by decide) ?_
    refine G.istore C at_253 (l' := #[.val (.int i0), .val (.int i1), .val (.int i2), .val (.int i3), .val (.int (0 : Int32)), .val (.int v2), .val (.int v3), .val (.int v4), .val (.ref b510), .val (.ref b519), .val (.ref b537), .val (.ref b550), .val (.int (1 : Int32))]) rfl (n := 255) rfl ?_
    refine G.aload C at_255 rfl rfl (n := 257) rfl ?_
    refine G.callV C (argsL := []) (yr := (⟨"com/example/near_miss/nearmiss/index/PostingsIterator", "next", "()I"⟩ : MethodName)) (yc := (⟨"com/example/near_miss/nearmiss/index/PostingsIterator", "next", "()I"⟩ : MethodName)) (a := b550) (O566.1) (wd hw 28 rfl) (wd hw 29 rfl) (nfS (wd hw 31 rfl) rfl) (wd hw 31 rfl) (wd hw 30 rfl) (wd hw 4 rfl) (wd hw 32 rfl) (by decide) (m_next l Z a0 hw b550 b510 b519 b537 (-1 : Int32) [] (0 : Int32) (0 : Int32) h568 n0 Z572 O566 O569 rfl ne555 g558 (by decide)) rfl (by decide) (W := 0) rfl (by decide) (c' := 4) (s' := 5) rfl rfl (by decide) (by decide) at_257 (n := 260) rfl pd0 rfl rfl ?_
    rintro _ h582 ⟨⟨r578, rfl⟩, K579, O580⟩
    have O583 := O569.keep K579 (ninS ne555 nin0)
    have O584 := O570.keep K579 (ninS ne556 nin0)
    have O585 := O571.keep K579 (ninS ne557 nin0)
    have Z586 : n0 ≤ h582.size := Nat.le_trans Z572 K579.1
    refine G.pop C at_260 rfl (n := 261) rfl ?_
    refine G.iload C at_261 rfl (n := 263) rfl ?_
    refine G.aload C at_263 rfl rfl (n := 265) rfl ?_
    refine G.callV C (argsL := []) (yr := (⟨"com/example/near_miss/nearmiss/index/PostingsIterator", "doc", "()I"⟩ : MethodName)) (yc := (⟨"com/example/near_miss/nearmiss/index/PostingsIterator", "doc", "()I"⟩ : MethodName)) (a := b550) (O580.1) (wd hw 19 rfl) (wd hw 20 rfl) (nfS (wd hw 22 rfl) rfl) (wd hw 22 rfl) (wd hw 21 rfl) (wd hw 4 rfl) (wd hw 23 rfl) (by decide) (m_doc l Z a0 hw b550 b510 b519 b537 (0 : Int32) [] (0 : Int32) (2147483647 : Int32) h582 n0 Z586 O580 O583 rfl (by first | rfl | simp [docf])) rfl (by decide) (W := 1) rfl (by decide) (c' := 4) (s' := 5) rfl rfl (by decide) (by decide) at_265 (n := 268) rfl pd0 rfl rfl ?_
    rintro _ _ ⟨rfl, rfl⟩
    refine G.iconst C (v := (1 : Int32)) at_268 (by decide) (n := 269) rfl ?_
    refine G.iload C at_269 rfl (n := 271) rfl ?_
    refine G.iload C at_271 rfl (n := 273) rfl ?_
    refine G.iload C at_273 rfl (n := 275) rfl ?_
    refine G.iload C at_275 rfl (n := 277) rfl ?_
    refine G.callS C (argsL := [(.int (1 : Int32)), (.int (0 : Int32)), (.int v2), (.int v3), (.int v4)]) (yc := (⟨"com/example/near_miss/nearmiss/index/PostingsIteratorDocPinLaw", "expected", "(IIIII)I"⟩ : MethodName)) (wd hw 24 rfl) (wd hw 25 rfl) (wd hw 26 rfl) (wd hw 27 rfl) (by decide) (m_expected l Z a0 hw (1 : Int32) (0 : Int32) v2 v3 v4 (2147483647 : Int32) h582 n0 Z586 (by first | rfl | simp [expf])) rfl (by decide) (W := 2) rfl (by decide) (c' := 4) (s' := 5) rfl rfl (by decide) (by decide) at_277 (n := 280) rfl pd2 rfl rfl ?_
    rintro _ _ ⟨rfl, rfl⟩
    refine G.icmp_ne C (A := 2147483647) (B := 2147483647) (by decide) (by decide) at_280 (by decide) (by decide) (n := 283) (n' := 287) rfl (fun c280_591 c280_591i => ?_) (fun c280_591 c280_591i => ?_)
    · exact absurd c280_591 (by decide)
    refine G.iconst C (v := (1 : Int32)) at_283 (by decide) (n := 284) rfl ?_
    refine G.goto C at_284 (by decide) (n := 288) (by decide) ?_
    refine G.iand C at_288 (n := 289) rfl ?_
    refine G.fold_int (z := (1 : Int32)) (by decide) ?_
    refine G.istore C at_289 (l' := #[.val (.int i0), .val (.int i1), .val (.int i2), .val (.int i3), .val (.int (0 : Int32)), .val (.int v2), .val (.int v3), .val (.int v4), .val (.ref b510), .val (.ref b519), .val (.ref b537), .val (.ref b550), .val (.int (1 : Int32))]) rfl (n := 291) rfl ?_
    refine G.aload C at_291 rfl rfl (n := 293) rfl ?_
    refine G.callV C (argsL := []) (yr := (⟨"com/example/near_miss/nearmiss/index/PostingsIterator", "next", "()I"⟩ : MethodName)) (yc := (⟨"com/example/near_miss/nearmiss/index/PostingsIterator", "next", "()I"⟩ : MethodName)) (a := b550) (O580.1) (wd hw 28 rfl) (wd hw 29 rfl) (nfS (wd hw 31 rfl) rfl) (wd hw 31 rfl) (wd hw 30 rfl) (wd hw 4 rfl) (wd hw 32 rfl) (by decide) (m_next l Z a0 hw b550 b510 b519 b537 (0 : Int32) [] (0 : Int32) (0 : Int32) h582 n0 Z586 O580 O583 rfl ne555 g558 (by decide)) rfl (by decide) (W := 0) rfl (by decide) (c' := 4) (s' := 5) rfl rfl (by decide) (by decide) at_293 (n := 296) rfl pd0 rfl rfl ?_
    rintro _ h596 ⟨⟨r592, rfl⟩, K593, O594⟩
    have O597 := O583.keep K593 (ninS ne555 nin0)
    have O598 := O584.keep K593 (ninS ne556 nin0)
    have O599 := O585.keep K593 (ninS ne557 nin0)
    have Z600 : n0 ≤ h596.size := Nat.le_trans Z586 K593.1
    refine G.pop C at_296 rfl (n := 297) rfl ?_
    refine G.iload C at_297 rfl (n := 299) rfl ?_
    refine G.aload C at_299 rfl rfl (n := 301) rfl ?_
    refine G.callV C (argsL := []) (yr := (⟨"com/example/near_miss/nearmiss/index/PostingsIterator", "doc", "()I"⟩ : MethodName)) (yc := (⟨"com/example/near_miss/nearmiss/index/PostingsIterator", "doc", "()I"⟩ : MethodName)) (a := b550) (O594.1) (wd hw 19 rfl) (wd hw 20 rfl) (nfS (wd hw 22 rfl) rfl) (wd hw 22 rfl) (wd hw 21 rfl) (wd hw 4 rfl) (wd hw 23 rfl) (by decide) (m_doc l Z a0 hw b550 b510 b519 b537 (0 : Int32) [] (0 : Int32) (2147483647 : Int32) h596 n0 Z600 O594 O597 rfl (by first | rfl | simp [docf])) rfl (by decide) (W := 1) rfl (by decide) (c' := 4) (s' := 5) rfl rfl (by decide) (by decide) at_301 (n := 304) rfl pd0 rfl rfl ?_
    rintro _ _ ⟨rfl, rfl⟩
    refine G.iconst C (v := (2 : Int32)) at_304 (by decide) (n := 305) rfl ?_
    refine G.iload C at_305 rfl (n := 307) rfl ?_
    refine G.iload C at_307 rfl (n := 309) rfl ?_
    refine G.iload C at_309 rfl (n := 311) rfl ?_
    refine G.iload C at_311 rfl (n := 313) rfl ?_
    refine G.callS C (argsL := [(.int (2 : Int32)), (.int (0 : Int32)), (.int v2), (.int v3), (.int v4)]) (yc := (⟨"com/example/near_miss/nearmiss/index/PostingsIteratorDocPinLaw", "expected", "(IIIII)I"⟩ : MethodName)) (wd hw 24 rfl) (wd hw 25 rfl) (wd hw 26 rfl) (wd hw 27 rfl) (by decide) (m_expected l Z a0 hw (2 : Int32) (0 : Int32) v2 v3 v4 (2147483647 : Int32) h596 n0 Z600 (by first | rfl | simp [expf])) rfl (by decide) (W := 2) rfl (by decide) (c' := 4) (s' := 5) rfl rfl (by decide) (by decide) at_313 (n := 316) rfl pd2 rfl rfl ?_
    rintro _ _ ⟨rfl, rfl⟩
    refine G.icmp_ne C (A := 2147483647) (B := 2147483647) (by decide) (by decide) at_316 (by decide) (by decide) (n := 319) (n' := 323) rfl (fun c316_605 c316_605i => ?_) (fun c316_605 c316_605i => ?_)
    · exact absurd c316_605 (by decide)
    refine G.iconst C (v := (1 : Int32)) at_319 (by decide) (n := 320) rfl ?_
    refine G.goto C at_320 (by decide) (n := 324) (by decide) ?_
    refine G.iand C at_324 (n := 325) rfl ?_
    refine G.fold_int (z := (1 : Int32)) (by decide) ?_
    refine G.istore C at_325 (l' := #[.val (.int i0), .val (.int i1), .val (.int i2), .val (.int i3), .val (.int (0 : Int32)), .val (.int v2), .val (.int v3), .val (.int v4), .val (.ref b510), .val (.ref b519), .val (.ref b537), .val (.ref b550), .val (.int (1 : Int32))]) rfl (n := 327) rfl ?_
    refine G.aload C at_327 rfl rfl (n := 329) rfl ?_
    refine G.callV C (argsL := []) (yr := (⟨"com/example/near_miss/nearmiss/index/PostingsIterator", "next", "()I"⟩ : MethodName)) (yc := (⟨"com/example/near_miss/nearmiss/index/PostingsIterator", "next", "()I"⟩ : MethodName)) (a := b550) (O594.1) (wd hw 28 rfl) (wd hw 29 rfl) (nfS (wd hw 31 rfl) rfl) (wd hw 31 rfl) (wd hw 30 rfl) (wd hw 4 rfl) (wd hw 32 rfl) (by decide) (m_next l Z a0 hw b550 b510 b519 b537 (0 : Int32) [] (0 : Int32) (0 : Int32) h596 n0 Z600 O594 O597 rfl ne555 g558 (by decide)) rfl (by decide) (W := 0) rfl (by decide) (c' := 4) (s' := 5) rfl rfl (by decide) (by decide) at_329 (n := 332) rfl pd0 rfl rfl ?_
    rintro _ h610 ⟨⟨r606, rfl⟩, K607, O608⟩
    have O611 := O597.keep K607 (ninS ne555 nin0)
    have O612 := O598.keep K607 (ninS ne556 nin0)
    have O613 := O599.keep K607 (ninS ne557 nin0)
    have Z614 : n0 ≤ h610.size := Nat.le_trans Z600 K607.1
    refine G.pop C at_332 rfl (n := 333) rfl ?_
    refine G.iload C at_333 rfl (n := 335) rfl ?_
    refine G.aload C at_335 rfl rfl (n := 337) rfl ?_
    refine G.callV C (argsL := []) (yr := (⟨"com/example/near_miss/nearmiss/index/PostingsIterator", "doc", "()I"⟩ : MethodName)) (yc := (⟨"com/example/near_miss/nearmiss/index/PostingsIterator", "doc", "()I"⟩ : MethodName)) (a := b550) (O608.1) (wd hw 19 rfl) (wd hw 20 rfl) (nfS (wd hw 22 rfl) rfl) (wd hw 22 rfl) (wd hw 21 rfl) (wd hw 4 rfl) (wd hw 23 rfl) (by decide) (m_doc l Z a0 hw b550 b510 b519 b537 (0 : Int32) [] (0 : Int32) (2147483647 : Int32) h610 n0 Z614 O608 O611 rfl (by first | rfl | simp [docf])) rfl (by decide) (W := 1) rfl (by decide) (c' := 4) (s' := 5) rfl rfl (by decide) (by decide) at_337 (n := 340) rfl pd0 rfl rfl ?_
    rintro _ _ ⟨rfl, rfl⟩
    refine G.iconst C (v := (3 : Int32)) at_340 (by decide) (n := 341) rfl ?_
    refine G.iload C at_341 rfl (n := 343) rfl ?_
    refine G.iload C at_343 rfl (n := 345) rfl ?_
    refine G.iload C at_345 rfl (n := 347) rfl ?_
    refine G.iload C at_347 rfl (n := 349) rfl ?_
    refine G.callS C (argsL := [(.int (3 : Int32)), (.int (0 : Int32)), (.int v2), (.int v3), (.int v4)]) (yc := (⟨"com/example/near_miss/nearmiss/index/PostingsIteratorDocPinLaw", "expected", "(IIIII)I"⟩ : MethodName)) (wd hw 24 rfl) (wd hw 25 rfl) (wd hw 26 rfl) (wd hw 27 rfl) (by decide) (m_expected l Z a0 hw (3 : Int32) (0 : Int32) v2 v3 v4 (2147483647 : Int32) h610 n0 Z614 (by first | rfl | simp [expf])) rfl (by decide) (W := 2) rfl (by decide) (c' := 4) (s' := 5) rfl rfl (by decide) (by decide) at_349 (n := 352) rfl pd2 rfl rfl ?_
    rintro _ _ ⟨rfl, rfl⟩
    refine G.icmp_ne C (A := 2147483647) (B := 2147483647) (by decide) (by decide) at_352 (by decide) (by decide) (n := 355) (n' := 359) rfl (fun c352_619 c352_619i => ?_) (fun c352_619 c352_619i => ?_)
    · exact absurd c352_619 (by decide)
    refine G.iconst C (v := (1 : Int32)) at_355 (by decide) (n := 356) rfl ?_
    refine G.goto C at_356 (by decide) (n := 360) (by decide) ?_
    refine G.iand C at_360 (n := 361) rfl ?_
    refine G.fold_int (z := (1 : Int32)) (by decide) ?_
    refine G.istore C at_361 (l' := #[.val (.int i0), .val (.int i1), .val (.int i2), .val (.int i3), .val (.int (0 : Int32)), .val (.int v2), .val (.int v3), .val (.int v4), .val (.ref b510), .val (.ref b519), .val (.ref b537), .val (.ref b550), .val (.int (1 : Int32))]) rfl (n := 363) rfl ?_
    refine G.aload C at_363 rfl rfl (n := 365) rfl ?_
    refine G.callV C (argsL := []) (yr := (⟨"com/example/near_miss/nearmiss/index/PostingsIterator", "next", "()I"⟩ : MethodName)) (yc := (⟨"com/example/near_miss/nearmiss/index/PostingsIterator", "next", "()I"⟩ : MethodName)) (a := b550) (O608.1) (wd hw 28 rfl) (wd hw 29 rfl) (nfS (wd hw 31 rfl) rfl) (wd hw 31 rfl) (wd hw 30 rfl) (wd hw 4 rfl) (wd hw 32 rfl) (by decide) (m_next l Z a0 hw b550 b510 b519 b537 (0 : Int32) [] (0 : Int32) (0 : Int32) h610 n0 Z614 O608 O611 rfl ne555 g558 (by decide)) rfl (by decide) (W := 0) rfl (by decide) (c' := 4) (s' := 5) rfl rfl (by decide) (by decide) at_365 (n := 368) rfl pd0 rfl rfl ?_
    rintro _ h624 ⟨⟨r620, rfl⟩, K621, O622⟩
    have O625 := O611.keep K621 (ninS ne555 nin0)
    have O626 := O612.keep K621 (ninS ne556 nin0)
    have O627 := O613.keep K621 (ninS ne557 nin0)
    have Z628 : n0 ≤ h624.size := Nat.le_trans Z614 K621.1
    refine G.pop C at_368 rfl (n := 369) rfl ?_
    refine G.iload C at_369 rfl (n := 371) rfl ?_
    refine G.aload C at_371 rfl rfl (n := 373) rfl ?_
    refine G.callV C (argsL := []) (yr := (⟨"com/example/near_miss/nearmiss/index/PostingsIterator", "doc", "()I"⟩ : MethodName)) (yc := (⟨"com/example/near_miss/nearmiss/index/PostingsIterator", "doc", "()I"⟩ : MethodName)) (a := b550) (O622.1) (wd hw 19 rfl) (wd hw 20 rfl) (nfS (wd hw 22 rfl) rfl) (wd hw 22 rfl) (wd hw 21 rfl) (wd hw 4 rfl) (wd hw 23 rfl) (by decide) (m_doc l Z a0 hw b550 b510 b519 b537 (0 : Int32) [] (0 : Int32) (2147483647 : Int32) h624 n0 Z628 O622 O625 rfl (by first | rfl | simp [docf])) rfl (by decide) (W := 1) rfl (by decide) (c' := 4) (s' := 5) rfl rfl (by decide) (by decide) at_373 (n := 376) rfl pd0 rfl rfl ?_
    rintro _ _ ⟨rfl, rfl⟩
    refine G.iconst C (v := (4 : Int32)) at_376 (by decide) (n := 377) rfl ?_
    refine G.iload C at_377 rfl (n := 379) rfl ?_
    refine G.iload C at_379 rfl (n := 381) rfl ?_
    refine G.iload C at_381 rfl (n := 383) rfl ?_
    refine G.iload C at_383 rfl (n := 385) rfl ?_
    refine G.callS C (argsL := [(.int (4 : Int32)), (.int (0 : Int32)), (.int v2), (.int v3), (.int v4)]) (yc := (⟨"com/example/near_miss/nearmiss/index/PostingsIteratorDocPinLaw", "expected", "(IIIII)I"⟩ : MethodName)) (wd hw 24 rfl) (wd hw 25 rfl) (wd hw 26 rfl) (wd hw 27 rfl) (by decide) (m_expected l Z a0 hw (4 : Int32) (0 : Int32) v2 v3 v4 (2147483647 : Int32) h624 n0 Z628 (by first | rfl | simp [expf])) rfl (by decide) (W := 2) rfl (by decide) (c' := 4) (s' := 5) rfl rfl (by decide) (by decide) at_385 (n := 388) rfl pd2 rfl rfl ?_
    rintro _ _ ⟨rfl, rfl⟩
    refine G.icmp_ne C (A := 2147483647) (B := 2147483647) (by decide) (by decide) at_388 (by decide) (by decide) (n := 391) (n' := 395) rfl (fun c388_633 c388_633i => ?_) (fun c388_633 c388_633i => ?_)
    · exact absurd c388_633 (by decide)
    refine G.iconst C (v := (1 : Int32)) at_391 (by decide) (n := 392) rfl ?_
    refine G.goto C at_392 (by decide) (n := 396) (by decide) ?_
    refine G.iand C at_396 (n := 397) rfl ?_
    refine G.fold_int (z := (1 : Int32)) (by decide) ?_
    refine G.istore C at_397 (l' := #[.val (.int i0), .val (.int i1), .val (.int i2), .val (.int i3), .val (.int (0 : Int32)), .val (.int v2), .val (.int v3), .val (.int v4), .val (.ref b510), .val (.ref b519), .val (.ref b537), .val (.ref b550), .val (.int (1 : Int32))]) rfl (n := 399) rfl ?_
    refine G.iload C at_399 rfl (n := 401) rfl ?_
    refine G.ireturn C at_401 (rfl) (by simp) (by decide) (by decide) ?_
    exact rfl
set_option maxRecDepth 65536 in
set_option maxHeartbeats 40000000 in
theorem comes_1 {Post : Tables → Env → Array Value → State → Outcome → State → Prop} (hpost : ∀ tb e args s v u, (limb_1_1.after args s (.returned v) u = true ∧ limb_1_2.after args s (.returned v) u = true ∧ True) → FrameEnd s (.returned v) u (Jvm.fieldLocs frame_1_writes args s ++ Jvm.arrayLocs frame_1_arrays args s ++ Jvm.staticLocs frame_1_statics s) 16 128 → Post tb e args s (.returned v) u) :
    ArmFor flags0 classFile x code maxLocals ret World_1 tables_1 room_1 Calls_1 rest_1 Pre_1 Post := by
  intro l hfl _ _ p e ha hc hk s m args below hf hA hF happ hP
  obtain ⟨hcalls, hrest, hpre⟩ := hP
  obtain ⟨-, -, -, hnamed, -, -, -, hat⟩ := (Spec.applies_iff hf).mp happ
  obtain ⟨hg, hn⟩ := and_e (Cond.before_iff.mp (show (Jvm.Cond.and given_1 narrow_1).before args s = true from hpre))
  obtain ⟨k1, k2⟩ := and_e hg
  obtain ⟨w0, w1, w2, w3, rfl⟩ : ∃ w0 w1 w2 w3 : Value, args = #[w0, w1, w2, w3] := by
    have hs : args.size = 4 := by simpa [Cond.value, given_1] using k1
    obtain ⟨L⟩ := args
    match L, hs with
    | [w0, w1, w2, w3], _ => exact ⟨w0, w1, w2, w3, rfl⟩
  have hw := fun d (hd : d ∈ tables_1) => atoms_spec (ws := Jvm.Cond.code x code maxLocals ret :: tables_1) hat d (List.mem_cons_of_mem _ hd)
  have hfit : Fit s := fun {y c} hc i hi => by
    obtain ⟨ha, rfl⟩ := Array.getElem?_eq_some_iff.mp hc
    have q := List.all_eq_true.mp ((Array.all_eq_true_iff_forall_mem.mp hF) _ (Array.getElem_mem ha)) i (List.mem_range.mpr hi)
    simpa [Array.getElem?_eq_getElem hi] using q
  obtain ⟨u0, k2⟩ := and_e k2
  obtain ⟨i0, e0⟩ := is_v u0
  obtain rfl : w0 = (.int i0) := Option.some.inj e0
  obtain ⟨u1, k2⟩ := and_e k2
  obtain ⟨i1, e1⟩ := is_v u1
  obtain rfl : w1 = (.int i1) := Option.some.inj e1
  obtain ⟨u2, k2⟩ := and_e k2
  obtain ⟨i2, e2⟩ := is_v u2
  obtain rfl : w2 = (.int i2) := Option.some.inj e2
  have u3 := k2
  obtain ⟨i3, e3⟩ := is_v u3
  obtain rfl : w3 = (.int i3) := Option.some.inj e3
  obtain ⟨n, o, h1, h2, h3, _, L, rfl, ⟨N, rfl⟩, hq⟩ := m_law l s _ hw i0 i1 i2 i3 s.heap s.heap.size (Nat.le_refl _)  tables_1 p e ha hc hk s m _ below hf ((Spec.applies_iff_loose hf).mp happ).1 ⟨rfl, State.Warmed39.refl s, rfl⟩ trivial
  refine ⟨n, _, h1, h2, h3, hpost _ _ _ _ _ _ ⟨Cond.after_iff.mpr rfl, Cond.after_iff.mpr (eq_i res_at (Term.int_eval (1)) rfl), trivial⟩ ⟨hq.1, hq.2.1, (hq.2.2.sift fun y hy => Or.inr (N y hy)).mono (by decide) (by decide)⟩⟩
theorem main_1_1 : Claimed_1_1 := comes_1 fun _ _ _ _ _ _ h hF => ⟨h.1, hF⟩
theorem main_1_2 : Claimed_1_2 := comes_1 fun _ _ _ _ _ _ h hF => ⟨h.2.1, hF⟩
end Jvm.Pilot.@@N@@
namespace Jvm.Pilot.@@N@@
open Jvm Jvm.ClassFile Sem Op Lib Jvm.Free Jvm.Stand Jvm.Pilot.@@N@@.Jvm.D
/-! MADE BY PROGRAM (witnessworld.py) out of the Statement's table words and the real class files: 10 classes; the members and pool entries that the words name. The judged class is class 1, her method 2. -/
namespace start1
open Jvm.ClassFile
def u (s : String) : CpInfo := .utf8 (stringToUtf16 s)
/-- a pool by its gaps: so many unusable entries, then the entry; so many at the end -/
def gap : Nat → List CpInfo → List CpInfo
  | 0, r => r
  | n + 1, r => .unusable :: gap n r
def poolList (es : List (Nat × CpInfo)) (last : Nat) : List CpInfo := es.foldr (fun e r => gap e.1 (e.2 :: r)) (gap last [])
def pool (es : List (Nat × CpInfo)) (last : Nat) : Array CpInfo := ⟨poolList es last⟩
def fileOf (pool : Array CpInfo) (this : Nat) (attrs : Array Attribute := #[]) (ms : Array MethodInfo := #[]) (fl : Nat := 33) (sup : Nat := 0) (ifs : Array Nat := #[]) (fds : Array FieldInfo := #[]) : ClassFile where
  minorVersion := 0
  majorVersion := 65
  constantPool := pool
  accessFlags := fl
  thisClass := this
  superClass := sup
  interfaces := ifs
  fields := fds
  methods := ms
  attributes := attrs
def plain (name : String) (sup : Option ClassId) : Class where
  name := name
  kind := .ordinary
  loader := none
  accessFlags := 33
  super := sup
  interfaces := #[]
  cf := none
  fields := #[]
  methods := #[]
  instanceTypes := #[]
  staticTypes := #[]
  resolved := #[]
  callSites := []
  init := .initialized
  statics := none
  mirror := none

def pool0 : Array CpInfo := pool [(5, u "<init>"), (0, u "()V"), (1, .class_ 10), (1, u "java/lang/Object")] 113

def k0c0 : Code := { maxStack := 0, maxLocals := 1, code := object_method_1_code, exceptionTable := #[], attributes := #[] }
def k0m0 : Method := { name := "<init>", desc := "()V", sig := { parameters := [], returnType := none }, accessFlags := 1, code := some k0c0 }
/-- java/lang/Object -/
def k0 : Class := { plain "java/lang/Object" none with
  accessFlags := 33
  interfaces := #[]
  cf := some (fileOf pool0 8 #[] #[{ accessFlags := 1, nameIndex := 5, descriptorIndex := 6, attributes := #[] }] 33 0 #[] #[])
  fields := #[]
  methods := #[k0m0]
  instanceTypes := #[]
  staticTypes := #[]
  resolved := Array.replicate 124 none
  statics := none }

def pool1 : Array CpInfo := pool [(2, .class_ 4), (1, u "java/lang/Object"), (0, u "<init>"), (0, u "()V"), (2, .integer 2147483647), (0, .integer 536870911), (0, .class_ 12), (0, u "com/example/near_miss/nearmiss/index/PostingsIterator"), (0, .methodref 11 14), (0, .nameAndType 5 15), (0, u "([I[I[I)V"), (0, .methodref 11 17), (0, .nameAndType 18 19), (0, u "doc"), (0, u "()I"), (0, .methodref 21 22), (0, .class_ 23), (0, .nameAndType 24 25), (0, u "com/example/near_miss/nearmiss/index/PostingsIteratorDocPinLaw"), (0, u "expected"), (0, u "(IIIII)I"), (0, .methodref 11 27), (0, .nameAndType 28 19), (0, u "next"), (3, u "law"), (0, u "(IIII)Z")] 4

def k1m0 : Method := { name := "<init>", desc := "()V", sig := { parameters := [], returnType := none }, accessFlags := 1, code := none }
def k1c1 : Code := { maxStack := 2, maxLocals := 5, code := method_2_code, exceptionTable := #[], attributes := #[] }
def k1m1 : Method := { name := "expected", desc := "(IIIII)I", sig := { parameters := [.int, .int, .int, .int, .int], returnType := some .int }, accessFlags := 10, code := some k1c1 }
def k1c2 : Code := { maxStack := 7, maxLocals := 13, code := code, exceptionTable := #[], attributes := #[] }
def k1m2 : Method := { name := "law", desc := "(IIII)Z", sig := { parameters := [.int, .int, .int, .int], returnType := some .boolean }, accessFlags := 9, code := some k1c2 }
/-- com/example/near_miss/nearmiss/index/PostingsIteratorDocPinLaw -/
def k1 : Class := { plain "com/example/near_miss/nearmiss/index/PostingsIteratorDocPinLaw" (some 0) with
  accessFlags := 49
  interfaces := #[]
  cf := some (fileOf pool1 21 #[] #[{ accessFlags := 1, nameIndex := 5, descriptorIndex := 6, attributes := #[] }, { accessFlags := 10, nameIndex := 24, descriptorIndex := 25, attributes := #[] }, { accessFlags := 9, nameIndex := 32, descriptorIndex := 33, attributes := #[] }] 49 2 #[] #[])
  fields := #[]
  methods := #[k1m0, k1m1, k1m2]
  instanceTypes := #[]
  staticTypes := #[]
  resolved := Array.replicate 38 none
  statics := none }

def pool2 : Array CpInfo := pool [(3, .class_ 4), (0, u "com/example/near_miss/nearmiss/index/DocIterator"), (0, .class_ 6), (0, u "java/lang/Object"), (0, u "END"), (0, u "I")] 6

/-- com/example/near_miss/nearmiss/index/DocIterator -/
def k2 : Class := { plain "com/example/near_miss/nearmiss/index/DocIterator" (some 0) with
  accessFlags := 1537
  interfaces := #[]
  cf := some (fileOf pool2 3 #[] #[] 1537 5 #[] #[{ accessFlags := 25, nameIndex := 7, descriptorIndex := 8, attributes := #[] }])
  fields := #[{ name := "END", type := .int, accessFlags := 25, slot := 0, constantValue := 0 }]
  methods := #[]
  instanceTypes := #[]
  staticTypes := #[.int]
  resolved := Array.replicate 15 none
  statics := none }

def pool3 : Array CpInfo := pool [(1, .methodref 2 3), (0, .class_ 4), (0, .nameAndType 5 6), (0, u "java/lang/Object"), (0, u "<init>"), (0, u "()V"), (0, .fieldref 8 9), (0, .class_ 10), (0, .nameAndType 11 12), (0, u "com/example/near_miss/nearmiss/index/PostingsIterator"), (0, u "index"), (0, u "I"), (0, .fieldref 8 14), (0, .nameAndType 15 16), (0, u "docs"), (0, u "[I"), (0, .fieldref 8 18), (0, .nameAndType 19 16), (0, u "positionStarts"), (0, .fieldref 8 21), (0, .nameAndType 22 16), (0, u "positions"), (0, .methodref 8 24), (0, .nameAndType 25 26), (0, u "doc"), (0, u "()I"), (11, .class_ 39), (0, u "com/example/near_miss/nearmiss/index/DocIterator"), (0, .integer 2147483647), (8, u "([I[I[I)V"), (3, u "next")] 6

def k3c0 : Code := { maxStack := 2, maxLocals := 4, code := prog_10_method_1_code, exceptionTable := #[], attributes := #[] }
def k3m0 : Method := { name := "<init>", desc := "([I[I[I)V", sig := { parameters := [(.array .int), (.array .int), (.array .int)], returnType := none }, accessFlags := 0, code := some k3c0 }
def k3c1 : Code := { maxStack := 3, maxLocals := 1, code := prog_10_method_3_code, exceptionTable := #[], attributes := #[] }
def k3m1 : Method := { name := "next", desc := "()I", sig := { parameters := [], returnType := some .int }, accessFlags := 1, code := some k3c1 }
def k3c2 : Code := { maxStack := 2, maxLocals := 1, code := prog_10_method_5_code, exceptionTable := #[], attributes := #[] }
def k3m2 : Method := { name := "doc", desc := "()I", sig := { parameters := [], returnType := some .int }, accessFlags := 1, code := some k3c2 }
/-- com/example/near_miss/nearmiss/index/PostingsIterator -/
def k3 : Class := { plain "com/example/near_miss/nearmiss/index/PostingsIterator" (some 0) with
  accessFlags := 33
  interfaces := #[2]
  cf := some (fileOf pool3 8 #[] #[{ accessFlags := 0, nameIndex := 5, descriptorIndex := 49, attributes := #[] }, { accessFlags := 1, nameIndex := 53, descriptorIndex := 26, attributes := #[] }, { accessFlags := 1, nameIndex := 25, descriptorIndex := 26, attributes := #[] }] 33 2 #[38] #[{ accessFlags := 18, nameIndex := 15, descriptorIndex := 16, attributes := #[] }, { accessFlags := 18, nameIndex := 19, descriptorIndex := 16, attributes := #[] }, { accessFlags := 18, nameIndex := 22, descriptorIndex := 16, attributes := #[] }, { accessFlags := 2, nameIndex := 11, descriptorIndex := 12, attributes := #[] }])
  fields := #[{ name := "docs", type := (.array .int), accessFlags := 18, slot := 0, constantValue := 0 }, { name := "positionStarts", type := (.array .int), accessFlags := 18, slot := 1, constantValue := 0 }, { name := "positions", type := (.array .int), accessFlags := 18, slot := 2, constantValue := 0 }, { name := "index", type := .int, accessFlags := 2, slot := 3, constantValue := 0 }]
  methods := #[k3m0, k3m1, k3m2]
  instanceTypes := #[(.array .int), (.array .int), (.array .int), .int]
  staticTypes := #[]
  resolved := Array.replicate 60 none
  statics := none }

def pool4 : Array CpInfo := pool [(1, u "java/lang/Cloneable"), (0, .class_ 1), (0, u "java/lang/Object"), (0, .class_ 3)] 3

/-- java/lang/Cloneable -/
def k4 : Class := { plain "java/lang/Cloneable" (some 0) with
  accessFlags := 1537
  interfaces := #[]
  cf := some (fileOf pool4 2 #[] #[] 1537 4 #[] #[])
  fields := #[]
  methods := #[]
  instanceTypes := #[]
  staticTypes := #[]
  resolved := Array.replicate 8 none
  statics := none }

def pool5 : Array CpInfo := pool [(1, u "java/io/Serializable"), (0, .class_ 1), (0, u "java/lang/Object"), (0, .class_ 3)] 3

/-- java/io/Serializable -/
def k5 : Class := { plain "java/io/Serializable" (some 0) with
  accessFlags := 1537
  interfaces := #[]
  cf := some (fileOf pool5 2 #[] #[] 1537 4 #[] #[])
  fields := #[]
  methods := #[]
  instanceTypes := #[]
  staticTypes := #[]
  resolved := Array.replicate 8 none
  statics := none }

/-- the primitive byte -/
def k6 : Class := { plain "byte" none with kind := .primitive 'B', accessFlags := 0x411 }
/-- [B -/
def k7 : Class := { plain "[B" (some 0) with kind := .array 6 .byte, interfaces := #[4, 5], accessFlags := 1041 }

/-- the primitive int -/
def k8 : Class := { plain "int" none with kind := .primitive 'I', accessFlags := 0x411 }
/-- [I -/
def k9 : Class := { plain "[I" (some 0) with kind := .array 8 .int, interfaces := #[4, 5], accessFlags := 1041 }

def heap : Heap := #[]
def classes : Array Class := #[k0, k1, k2, k3, k4, k5, k6, k7, k8, k9]
def interned : List (Array UInt16 × Addr) := []
def slotsUsed : Nat := 0
def theMethod : MethodId := ⟨1, 2⟩
def args0 : Array Value := #[.int 5, .int 6, .int 7, .int 1]
def aboutOver (below : List Frame) : State where
  vm := { classes := classes, interned := interned.toArray }
  heap := heap
  slotsUsed := slotsUsed
  threads := #[{ frames := .invoking theMethod args0 :: below }]
def below0 : List Frame := [.native { method := ⟨0, 0⟩, args := #[] }]
def about1 : State := aboutOver below0
def p0 : Program := .bare "" "" ""
def e0 : Env := launch0.env 0 0 0
theorem w_frames : about1.frames = Frame.invoking theMethod args0 :: below0 := rfl
set_option maxRecDepth 65536 in
theorem w_args : argsFit about1.vm theMethod args0 = true := by decide +kernel
set_option maxRecDepth 65536 in
theorem w_heap : heapFits about1 = true := by decide +kernel
set_option maxRecDepth 65536 in
theorem w_runnable : about1.curStatus? = some .runnable := by decide +kernel
set_option maxRecDepth 65536 in
theorem w_alone : about1.alone = true := by decide +kernel
set_option maxRecDepth 65536 in
theorem w_named : about1.methodNamed? x = some theMethod := by decide +kernel
set_option maxRecDepth 65536 in
theorem w_hears : about1.hears theMethod below0 = true := by decide +kernel
set_option maxRecDepth 65536 in
theorem w_ripe : about1.ripe theMethod args0 below0 = true := by decide +kernel
theorem w_running : about1.status = .running := rfl
set_option maxRecDepth 65536 in
theorem w_room : about1.hasRoom e0.platform room_1 = true :=
  launch0.hasRoom_least _ room_1 (by decide +kernel) (by decide +kernel) (by decide +kernel) (by decide +kernel) (by decide +kernel) (by decide +kernel)
theorem allAtoms_all (ts : List Jvm.Cond) (a : Array Jvm.Value) (st : Jvm.State) : (allAtoms ts).before a st = ts.all (fun c => c.before a st) := by
  induction ts with
  | nil => rfl
  | cons c t ih =>
    show (Jvm.Cond.and c (allAtoms t)).before a st = _
    rw [Jvm.Cond.before_and, ih, List.all_cons]
def words1 : List Jvm.Cond := Jvm.Cond.code x code maxLocals ret :: tables_1
/-- a 'code' word, met by the world's own term for the bytes: nothing is compared byte by byte -/
theorem code_word {y : MethodName} {bytes : ByteArray} {mx : Nat} {rt : Option FieldType} {a : Array Value} {s : State} {m : MethodId} {meth : Method} {c : Code} (h1 : s.methodNamed? y = some m) (h2 : s.vm.method? m = some meth) (h3 : meth.code = some c) (h4 : c.code = bytes)
    (h5 : (c.maxLocals == mx && c.exceptionTable.isEmpty && decide (c.maxStack ≤ mostOperands) && decide (meth.sig.returnType = rt) && !meth.locks && decide (parseMethodDescriptor y.desc = some meth.sig)) = true) : (Jvm.Cond.code y bytes mx rt).before a s = true := by
  simp only [Bool.and_eq_true, beq_iff_eq, Bool.not_eq_true', decide_eq_true_eq] at h5
  obtain ⟨⟨⟨⟨⟨g1, g2⟩, g3⟩, g4⟩, g5⟩, g6⟩ := h5
  simp [Cond.before, Cond.holds, Cond.value, h1, h2, h3, h4, g1, g2, g3, g4, g5, g6]
def isCode : Jvm.Cond → Bool
  | .code _ _ _ _ => true
  | _ => false
theorem all_split {L : List Jvm.Cond} {P : Jvm.Cond → Bool} (h1 : L.all (fun c => isCode c || P c) = true) (h2 : ∀ c ∈ L.filter isCode, P c = true) : L.all P = true := by
  refine List.all_eq_true.mpr fun c hc => ?_
  have h := List.all_eq_true.mp h1 c hc
  rcases Bool.eq_false_or_eq_true (isCode c) with hi | hi
  · exact h2 c (List.mem_filter.mpr ⟨hc, hi⟩)
  · simpa [hi] using h
set_option maxRecDepth 65536 in
theorem w_c0 : (Jvm.Cond.code x code maxLocals ret).before args0 about1 = true := code_word (m := ⟨1, 2⟩) (meth := k1m2) (c := k1c2) (by decide +kernel) rfl rfl rfl (by decide +kernel)
set_option maxRecDepth 65536 in
theorem w_c1 : (Jvm.Cond.code ({ cls := "com/example/near_miss/nearmiss/index/PostingsIterator", name := "<init>", desc := "([I[I[I)V" } : Jvm.MethodName) prog_10_method_1_code (4 : Nat) (Option.none : Option Jvm.ClassFile.FieldType)).before args0 about1 = true := code_word (m := ⟨3, 0⟩) (meth := k3m0) (c := k3c0) (by decide +kernel) rfl rfl rfl (by decide +kernel)
set_option maxRecDepth 65536 in
theorem w_c2 : (Jvm.Cond.code ({ cls := "java/lang/Object", name := "<init>", desc := "()V" } : Jvm.MethodName) object_method_1_code (1 : Nat) (Option.none : Option Jvm.ClassFile.FieldType)).before args0 about1 = true := code_word (m := ⟨0, 0⟩) (meth := k0m0) (c := k0c0) (by decide +kernel) rfl rfl rfl (by decide +kernel)
set_option maxRecDepth 65536 in
theorem w_c3 : (Jvm.Cond.code ({ cls := "com/example/near_miss/nearmiss/index/PostingsIterator", name := "doc", desc := "()I" } : Jvm.MethodName) prog_10_method_5_code (1 : Nat) (Option.some Jvm.ClassFile.FieldType.int)).before args0 about1 = true := code_word (m := ⟨3, 2⟩) (meth := k3m2) (c := k3c2) (by decide +kernel) rfl rfl rfl (by decide +kernel)
set_option maxRecDepth 65536 in
theorem w_c4 : (Jvm.Cond.code ({ cls := "com/example/near_miss/nearmiss/index/PostingsIteratorDocPinLaw", name := "expected", desc := "(IIIII)I" } : Jvm.MethodName) method_2_code (5 : Nat) (Option.some Jvm.ClassFile.FieldType.int)).before args0 about1 = true := code_word (m := ⟨1, 1⟩) (meth := k1m1) (c := k1c1) (by decide +kernel) rfl rfl rfl (by decide +kernel)
set_option maxRecDepth 65536 in
theorem w_c5 : (Jvm.Cond.code ({ cls := "com/example/near_miss/nearmiss/index/PostingsIterator", name := "next", desc := "()I" } : Jvm.MethodName) prog_10_method_3_code (1 : Nat) (Option.some Jvm.ClassFile.FieldType.int)).before args0 about1 = true := code_word (m := ⟨3, 1⟩) (meth := k3m1) (c := k3c1) (by decide +kernel) rfl rfl rfl (by decide +kernel)
def codes1 : List Jvm.Cond := [Jvm.Cond.code x code maxLocals ret, Jvm.Cond.code ({ cls := "com/example/near_miss/nearmiss/index/PostingsIterator", name := "<init>", desc := "([I[I[I)V" } : Jvm.MethodName) prog_10_method_1_code (4 : Nat) (Option.none : Option Jvm.ClassFile.FieldType), Jvm.Cond.code ({ cls := "java/lang/Object", name := "<init>", desc := "()V" } : Jvm.MethodName) object_method_1_code (1 : Nat) (Option.none : Option Jvm.ClassFile.FieldType), Jvm.Cond.code ({ cls := "com/example/near_miss/nearmiss/index/PostingsIterator", name := "doc", desc := "()I" } : Jvm.MethodName) prog_10_method_5_code (1 : Nat) (Option.some Jvm.ClassFile.FieldType.int), Jvm.Cond.code ({ cls := "com/example/near_miss/nearmiss/index/PostingsIteratorDocPinLaw", name := "expected", desc := "(IIIII)I" } : Jvm.MethodName) method_2_code (5 : Nat) (Option.some Jvm.ClassFile.FieldType.int), Jvm.Cond.code ({ cls := "com/example/near_miss/nearmiss/index/PostingsIterator", name := "next", desc := "()I" } : Jvm.MethodName) prog_10_method_3_code (1 : Nat) (Option.some Jvm.ClassFile.FieldType.int)]
set_option maxRecDepth 65536 in
theorem codes_eq : words1.filter isCode = codes1 := rfl
theorem w_codes : ∀ c ∈ words1.filter isCode, c.before args0 about1 = true := by
  rw [codes_eq]
  intro c hc
  simp only [codes1, List.mem_cons, List.not_mem_nil, or_false] at hc
  rcases hc with rfl | rfl | rfl | rfl | rfl | rfl
  · exact w_c0
  · exact w_c1
  · exact w_c2
  · exact w_c3
  · exact w_c4
  · exact w_c5
set_option maxRecDepth 65536 in
theorem w_t1 : (words1.take 24).all (fun c => isCode c || c.before args0 about1) = true := by decide +kernel
set_option maxRecDepth 65536 in
theorem w_t2 : (words1.drop 24).all (fun c => isCode c || c.before args0 about1) = true := by decide +kernel
theorem w_tables : (allAtoms (Jvm.Cond.code x code maxLocals ret :: tables_1)).before args0 about1 = true := by
  rw [allAtoms_all]
  show words1.all (fun c => c.before args0 about1) = true
  refine all_split ?_ w_codes
  rw [← List.take_append_drop 24 words1, List.all_append, w_t1, w_t2]
  rfl
set_option maxRecDepth 65536 in
theorem w_case : (Jvm.Cond.and given_1 narrow_1).before args0 about1 = true := by decide +kernel
theorem w_applies : (headSpec (Jvm.Cond.code x code maxLocals ret :: tables_1) room_1).applies x e0.platform about1 = true :=
  (Spec.applies_iff w_frames).mpr ⟨w_running, w_runnable, w_alone, w_named, w_hears, w_ripe, w_room, w_tables⟩
theorem atStart : AtStart classFile x code maxLocals ret World_1 tables_1 room_1 Calls_1 rest_1 Pre_1 launch0 p0 e0 about1 theMethod args0 below0 :=
  ⟨lists_1, trivial, launch0.admits_env _ _ _, launch0.least_env, fairChoices_fair.cas, fairChoices_fair.clock, w_frames, w_args, w_heap, w_applies, trivial, trivial, w_case⟩
end start1
theorem witness_1 : WitnessClaimed_1 := ⟨start1.p0, start1.e0, start1.about1, start1.theMethod, start1.args0, start1.below0, start1.atStart⟩
end Jvm.Pilot.@@N@@
