import JvmDerived
import JvmDerived.Pilot.@@N@@Statement
import JvmDerived.Pilot.@@N@@Code
set_option linter.unusedVariables false
set_option linter.unusedSimpArgs false
namespace Jvm.Own
open Jvm Jvm.ClassFile Sem Op Lib Jvm.Free Jvm.Stand Jvm.LawKit Jvm.RoadKit
def b2i (b : Bool) : Int32 := if b then 1 else 0
theorem wd {ws : List Jvm.Cond} {a0 : Array Value} {Z : State} (hw : ∀ d ∈ ws, d.before a0 Z = true) (i : Nat) {d : Jvm.Cond} (h : ws[i]? = some d) : d.before a0 Z = true := hw d (List.mem_of_getElem? h)
/-- a contract of a body: from the heap h with these arguments it returns, writes nothing below n0, and Q holds of what it returns and of the heap -/
def Met (l : Launch) (Z : State) (y : MethodName) (bytes : ByteArray) (maxL : Nat) (ret : Option FieldType) (rm : Room) (as' : Array Value) (h : Heap) (n0 : Nat) (Q : Option Value → Heap → Prop) : Prop :=
  ∀ ws, MetFree l y (head1 (Jvm.Cond.code y bytes maxL ret :: ws) rm) (fun a U => a = as' ∧ Z.Warmed39 U.vm ∧ U.heap = h) (fun _ _ _ _ _ => True) (fun _ U o U' => ∃ v L, o = .returned v ∧ (Fr n0 L ∧ Q v U'.heap) ∧ FrameEnd U o U' L rm.cells rm.slots)
def Cx (p : Program) (s : State) (m : MethodId) (meth : Method) (c : Code) (Z : State) (y : MethodName) (bytes : ByteArray) (maxL : Nat) (ret : Option FieldType) : Prop :=
  p.tables.exec = Jvm.exec ∧ Z.Warmed39 s.vm ∧ s.vm.findClass y.cls = some m.cls ∧ meth.name = y.name ∧ c.code = bytes ∧ c.maxLocals = maxL ∧ meth.sig.returnType = ret ∧ meth.locks = false
def Go (p : Program) (l : Launch) (e : Env) (R : Room) (s : State) (m : MethodId) (args : Array Value) (below : List Frame) (meth : Method) (c : Code) (n0 : Nat) (Q : Option Value → Heap → Prop) (cells slots : Nat) (h : Heap) (f : JFrame) : Prop :=
  ∀ T locs, Stand p l e R s m args below meth c T locs cells slots → Fr n0 locs → T.heap = h → ∃ t o, Steps p.tables e below (T.setTop f) t ∧ t.status = .running ∧ Ended t below o ∧ ∃ v L, o = .returned v ∧ (Fr n0 L ∧ Q v t.heap) ∧ FrameEnd s o t L R.cells R.slots
section
variable {p : Program} {l : Launch} {e : Env} {R : Room} {s : State} {m : MethodId} {args : Array Value} {below : List Frame} {meth : Method} {c : Code} {Z : State} {y : MethodName} {bytes : ByteArray} {maxL : Nat} {ret : Option FieldType} {n0 : Nat} {Q : Option Value → Heap → Prop} {cells slots : Nat} {h : Heap} {pc n n' : Nat} {Ls : Array Slot} {st : List Value} {a0 : Array Value}
theorem Cx.x (C : Cx p s m meth c Z y bytes maxL ret) : p.tables.exec = Jvm.exec := C.1
theorem Cx.z (C : Cx p s m meth c Z y bytes maxL ret) : Z.Warmed39 s.vm := C.2.1
theorem Cx.own (C : Cx p s m meth c Z y bytes maxL ret) : s.vm.findClass y.cls = some m.cls := C.2.2.1
theorem Cx.nm (C : Cx p s m meth c Z y bytes maxL ret) : meth.name = y.name := C.2.2.2.1
theorem Cx.by (C : Cx p s m meth c Z y bytes maxL ret) : c.code = bytes := C.2.2.2.2.1
theorem Cx.ml (C : Cx p s m meth c Z y bytes maxL ret) : c.maxLocals = maxL := C.2.2.2.2.2.1
theorem Cx.rt (C : Cx p s m meth c Z y bytes maxL ret) : meth.sig.returnType = ret := C.2.2.2.2.2.2.1
theorem Cx.locks (C : Cx p s m meth c Z y bytes maxL ret) : meth.locks = false := C.2.2.2.2.2.2.2
theorem Met.of {rm : Room} {as' : Array Value} {Ls0 : Array Slot} (hp : plainFor y = true) (he : ∀ m, entryFrame m as' maxL = mkF m 0 Ls0 [])
    (body : ∀ p e s m args below meth c, Cx p s m meth c Z y bytes maxL ret → Go p l e rm s m args below meth c n0 Q 0 0 h (mkF m 0 Ls0 [])) : Met l Z y bytes maxL ret rm as' h n0 Q := by
  intro ws
  refine MetFree.of_bodySF hp hisR ?_
  intro p e s m args below meth c s₁ Bd hml0 hP hK
  obtain ⟨rfl, hZ, hh⟩ := hP
  have C : Cx p s m meth c Z y bytes maxL ret := ⟨Bd.exec, hZ, findClass_of_methodNamed Bd.named, (name_of_methodNamed Bd.named Bd.method).1, Bd.bytes, hml0, Bd.returns, Bd.notSynchronized⟩
  have X0 : Stand p l e rm s m args below meth c s₁ [] 0 0 := Stand.of_body Bd
  have e0 : s₁.heap = h := by rw [← hh, Bd.state]; rfl
  obtain ⟨t, o, st, r⟩ := body p e s m args below meth c C s₁ [] X0 (Fr.nil n0) e0
  exact ⟨t, o, castTop (he m) st, r⟩
theorem Met.weaken {rm : Room} {as' : Array Value} {Q' : Option Value → Heap → Prop} (M : Met l Z y bytes maxL ret rm as' h n0 Q) (q : ∀ v h', Q v h' → Q' v h') : Met l Z y bytes maxL ret rm as' h n0 Q' := by
  intro ws p e ha hc hk s m args below hf happ hP hK
  obtain ⟨n, o, h1, h2, h3, v, L, h4, h5, h6⟩ := M ws p e ha hc hk s m args below hf happ hP hK
  exact ⟨n, o, h1, h2, h3, v, L, h4, ⟨h5.1, q _ _ h5.2⟩, h6⟩
theorem Go.via {f f' : JFrame} (hs : ∀ T locs, Stand p l e R s m args below meth c T locs cells slots → T.heap = h → ∀ t, Steps p.tables e below (T.setTop f') t → Steps p.tables e below (T.setTop f) t)
    (k : Go p l e R s m args below meth c n0 Q cells slots h f') : Go p l e R s m args below meth c n0 Q cells slots h f := fun T locs X N q => by
  obtain ⟨t, o, st, r⟩ := k T locs X N q
  exact ⟨t, o, hs T locs X q t st, r⟩
theorem Go.mono {f : JFrame} {cells' slots' : Nat} (h1 : cells ≤ cells') (h2 : slots ≤ slots') (k : Go p l e R s m args below meth c n0 Q cells' slots' h f) : Go p l e R s m args below meth c n0 Q cells slots h f := fun T locs X N q =>
  k T locs ⟨X.admits, X.cas, X.clock, X.frames, X.room, X.hears, X.method, X.code, X.here, X.tail, X.warmed, X.limits, X.bytes, X.same.mono h1 h2⟩ N q
theorem Go.cast {f f' : JFrame} (q : f = f') (k : Go p l e R s m args below meth c n0 Q cells slots h f') : Go p l e R s m args below meth c n0 Q cells slots h f := q ▸ k

theorem G.iadd (C : Cx p s m meth c Z y bytes maxL ret) {x1 x2 : Int32} (hd : decode bytes pc = .ok (.iadd, 1))  (hn : pc + 1 = n) (k : Go p l e R s m args below meth c n0 Q cells slots h (mkF m n Ls (.int (x1 + x2) :: st))) : Go p l e R s m args below meth c n0 Q cells slots h (mkF m pc Ls (.int x2 :: .int x1 :: st)) := by
  subst hn
  exact Go.via (fun T locs X _ t q => XS.iadd X.here C.x rfl (hb C.by hd) rfl q) k
theorem G.isub (C : Cx p s m meth c Z y bytes maxL ret) {x1 x2 : Int32} (hd : decode bytes pc = .ok (.isub, 1))  (hn : pc + 1 = n) (k : Go p l e R s m args below meth c n0 Q cells slots h (mkF m n Ls (.int (x1 - x2) :: st))) : Go p l e R s m args below meth c n0 Q cells slots h (mkF m pc Ls (.int x2 :: .int x1 :: st)) := by
  subst hn
  exact Go.via (fun T locs X _ t q => XS.isub X.here C.x rfl (hb C.by hd) rfl q) k
theorem G.imul (C : Cx p s m meth c Z y bytes maxL ret) {x1 x2 : Int32} (hd : decode bytes pc = .ok (.imul, 1))  (hn : pc + 1 = n) (k : Go p l e R s m args below meth c n0 Q cells slots h (mkF m n Ls (.int (x1 * x2) :: st))) : Go p l e R s m args below meth c n0 Q cells slots h (mkF m pc Ls (.int x2 :: .int x1 :: st)) := by
  subst hn
  exact Go.via (fun T locs X _ t q => XS.imul X.here C.x rfl (hb C.by hd) rfl q) k
theorem G.iand (C : Cx p s m meth c Z y bytes maxL ret) {x1 x2 : Int32} (hd : decode bytes pc = .ok (.iand, 1))  (hn : pc + 1 = n) (k : Go p l e R s m args below meth c n0 Q cells slots h (mkF m n Ls (.int (x1 &&& x2) :: st))) : Go p l e R s m args below meth c n0 Q cells slots h (mkF m pc Ls (.int x2 :: .int x1 :: st)) := by
  subst hn
  exact Go.via (fun T locs X _ t q => XS.iand X.here C.x rfl (hb C.by hd) rfl q) k
theorem G.ior (C : Cx p s m meth c Z y bytes maxL ret) {x1 x2 : Int32} (hd : decode bytes pc = .ok (.ior, 1))  (hn : pc + 1 = n) (k : Go p l e R s m args below meth c n0 Q cells slots h (mkF m n Ls (.int (x1 ||| x2) :: st))) : Go p l e R s m args below meth c n0 Q cells slots h (mkF m pc Ls (.int x2 :: .int x1 :: st)) := by
  subst hn
  exact Go.via (fun T locs X _ t q => XS.ior X.here C.x rfl (hb C.by hd) rfl q) k
theorem G.ixor (C : Cx p s m meth c Z y bytes maxL ret) {x1 x2 : Int32} (hd : decode bytes pc = .ok (.ixor, 1))  (hn : pc + 1 = n) (k : Go p l e R s m args below meth c n0 Q cells slots h (mkF m n Ls (.int (x1 ^^^ x2) :: st))) : Go p l e R s m args below meth c n0 Q cells slots h (mkF m pc Ls (.int x2 :: .int x1 :: st)) := by
  subst hn
  exact Go.via (fun T locs X _ t q => XS.ixor X.here C.x rfl (hb C.by hd) rfl q) k
theorem G.ladd (C : Cx p s m meth c Z y bytes maxL ret) {x1 x2 : Int64} (hd : decode bytes pc = .ok (.ladd, 1))  (hn : pc + 1 = n) (k : Go p l e R s m args below meth c n0 Q cells slots h (mkF m n Ls (.long (x1 + x2) :: st))) : Go p l e R s m args below meth c n0 Q cells slots h (mkF m pc Ls (.long x2 :: .long x1 :: st)) := by
  subst hn
  exact Go.via (fun T locs X _ t q => XS.ladd X.here C.x rfl (hb C.by hd) rfl q) k
theorem G.lsub (C : Cx p s m meth c Z y bytes maxL ret) {x1 x2 : Int64} (hd : decode bytes pc = .ok (.lsub, 1))  (hn : pc + 1 = n) (k : Go p l e R s m args below meth c n0 Q cells slots h (mkF m n Ls (.long (x1 - x2) :: st))) : Go p l e R s m args below meth c n0 Q cells slots h (mkF m pc Ls (.long x2 :: .long x1 :: st)) := by
  subst hn
  exact Go.via (fun T locs X _ t q => XS.lsub X.here C.x rfl (hb C.by hd) rfl q) k
theorem G.lmul (C : Cx p s m meth c Z y bytes maxL ret) {x1 x2 : Int64} (hd : decode bytes pc = .ok (.lmul, 1))  (hn : pc + 1 = n) (k : Go p l e R s m args below meth c n0 Q cells slots h (mkF m n Ls (.long (x1 * x2) :: st))) : Go p l e R s m args below meth c n0 Q cells slots h (mkF m pc Ls (.long x2 :: .long x1 :: st)) := by
  subst hn
  exact Go.via (fun T locs X _ t q => XS.lmul X.here C.x rfl (hb C.by hd) rfl q) k
theorem G.land (C : Cx p s m meth c Z y bytes maxL ret) {x1 x2 : Int64} (hd : decode bytes pc = .ok (.land, 1))  (hn : pc + 1 = n) (k : Go p l e R s m args below meth c n0 Q cells slots h (mkF m n Ls (.long (x1 &&& x2) :: st))) : Go p l e R s m args below meth c n0 Q cells slots h (mkF m pc Ls (.long x2 :: .long x1 :: st)) := by
  subst hn
  exact Go.via (fun T locs X _ t q => XS.land X.here C.x rfl (hb C.by hd) rfl q) k
theorem G.lor (C : Cx p s m meth c Z y bytes maxL ret) {x1 x2 : Int64} (hd : decode bytes pc = .ok (.lor, 1))  (hn : pc + 1 = n) (k : Go p l e R s m args below meth c n0 Q cells slots h (mkF m n Ls (.long (x1 ||| x2) :: st))) : Go p l e R s m args below meth c n0 Q cells slots h (mkF m pc Ls (.long x2 :: .long x1 :: st)) := by
  subst hn
  exact Go.via (fun T locs X _ t q => XS.lor X.here C.x rfl (hb C.by hd) rfl q) k
theorem G.lxor (C : Cx p s m meth c Z y bytes maxL ret) {x1 x2 : Int64} (hd : decode bytes pc = .ok (.lxor, 1))  (hn : pc + 1 = n) (k : Go p l e R s m args below meth c n0 Q cells slots h (mkF m n Ls (.long (x1 ^^^ x2) :: st))) : Go p l e R s m args below meth c n0 Q cells slots h (mkF m pc Ls (.long x2 :: .long x1 :: st)) := by
  subst hn
  exact Go.via (fun T locs X _ t q => XS.lxor X.here C.x rfl (hb C.by hd) rfl q) k
theorem G.idiv (C : Cx p s m meth c Z y bytes maxL ret) {x1 x2 : Int32} (hd : decode bytes pc = .ok (.idiv, 1)) (hy : x2 ≠ 0) (hn : pc + 1 = n) (k : Go p l e R s m args below meth c n0 Q cells slots h (mkF m n Ls (.int (x1 / x2) :: st))) : Go p l e R s m args below meth c n0 Q cells slots h (mkF m pc Ls (.int x2 :: .int x1 :: st)) := by
  subst hn
  exact Go.via (fun T locs X _ t q => XS.idiv X.here C.x rfl (hb C.by hd) rfl hy q) k
theorem G.ishl (C : Cx p s m meth c Z y bytes maxL ret) {x1 x2 : Int32} (hd : decode bytes pc = .ok (.ishl, 1))  (hn : pc + 1 = n) (k : Go p l e R s m args below meth c n0 Q cells slots h (mkF m n Ls (.int (x1 <<< (x2 &&& 31)) :: st))) : Go p l e R s m args below meth c n0 Q cells slots h (mkF m pc Ls (.int x2 :: .int x1 :: st)) := by
  subst hn
  exact Go.via (fun T locs X _ t q => XS.ishl X.here C.x rfl (hb C.by hd) rfl q) k
theorem G.ishr (C : Cx p s m meth c Z y bytes maxL ret) {x1 x2 : Int32} (hd : decode bytes pc = .ok (.ishr, 1))  (hn : pc + 1 = n) (k : Go p l e R s m args below meth c n0 Q cells slots h (mkF m n Ls (.int (x1 >>> (x2 &&& 31)) :: st))) : Go p l e R s m args below meth c n0 Q cells slots h (mkF m pc Ls (.int x2 :: .int x1 :: st)) := by
  subst hn
  exact Go.via (fun T locs X _ t q => XS.ishr X.here C.x rfl (hb C.by hd) rfl q) k
theorem G.iushr (C : Cx p s m meth c Z y bytes maxL ret) {x1 x2 : Int32} (hd : decode bytes pc = .ok (.iushr, 1))  (hn : pc + 1 = n) (k : Go p l e R s m args below meth c n0 Q cells slots h (mkF m n Ls (.int ((x1.toUInt32 >>> (x2 &&& 31).toUInt32).toInt32) :: st))) : Go p l e R s m args below meth c n0 Q cells slots h (mkF m pc Ls (.int x2 :: .int x1 :: st)) := by
  subst hn
  exact Go.via (fun T locs X _ t q => XS.iushr X.here C.x rfl (hb C.by hd) rfl q) k
theorem G.irem (C : Cx p s m meth c Z y bytes maxL ret) {x1 x2 : Int32} (hd : decode bytes pc = .ok (.irem, 1)) (hy : x2 ≠ 0) (hn : pc + 1 = n) (k : Go p l e R s m args below meth c n0 Q cells slots h (mkF m n Ls (.int (x1 % x2) :: st))) : Go p l e R s m args below meth c n0 Q cells slots h (mkF m pc Ls (.int x2 :: .int x1 :: st)) := by
  subst hn
  exact Go.via (fun T locs X _ t q => iremM X C.x rfl (hb C.by hd) rfl hy q) k
theorem G.ldiv (C : Cx p s m meth c Z y bytes maxL ret) {x1 x2 : Int64} (hd : decode bytes pc = .ok (.ldiv, 1)) (hy : x2 ≠ 0) (hn : pc + 1 = n) (k : Go p l e R s m args below meth c n0 Q cells slots h (mkF m n Ls (.long (x1 / x2) :: st))) : Go p l e R s m args below meth c n0 Q cells slots h (mkF m pc Ls (.long x2 :: .long x1 :: st)) := by
  subst hn
  exact Go.via (fun T locs X _ t q => XS.ldiv X.here C.x rfl (hb C.by hd) rfl hy q) k
theorem G.lrem (C : Cx p s m meth c Z y bytes maxL ret) {x1 x2 : Int64} (hd : decode bytes pc = .ok (.lrem, 1)) (hy : x2 ≠ 0) (hn : pc + 1 = n) (k : Go p l e R s m args below meth c n0 Q cells slots h (mkF m n Ls (.long (x1 - (x1 / x2) * x2) :: st))) : Go p l e R s m args below meth c n0 Q cells slots h (mkF m pc Ls (.long x2 :: .long x1 :: st)) := by
  subst hn
  exact Go.via (fun T locs X _ t q => XS.lrem X.here C.x rfl (hb C.by hd) rfl hy q) k
theorem G.lshl (C : Cx p s m meth c Z y bytes maxL ret) {x1 : Int64} {x2 : Int32} (hd : decode bytes pc = .ok (.lshl, 1))  (hn : pc + 1 = n) (k : Go p l e R s m args below meth c n0 Q cells slots h (mkF m n Ls (.long (x1 <<< (x2 &&& 0x3f).toInt64) :: st))) : Go p l e R s m args below meth c n0 Q cells slots h (mkF m pc Ls (.int x2 :: .long x1 :: st)) := by
  subst hn
  exact Go.via (fun T locs X _ t q => XS.lshl X.here C.x rfl (hb C.by hd) rfl q) k
theorem G.lshr (C : Cx p s m meth c Z y bytes maxL ret) {x1 : Int64} {x2 : Int32} (hd : decode bytes pc = .ok (.lshr, 1))  (hn : pc + 1 = n) (k : Go p l e R s m args below meth c n0 Q cells slots h (mkF m n Ls (.long (x1 >>> (x2 &&& 0x3f).toInt64) :: st))) : Go p l e R s m args below meth c n0 Q cells slots h (mkF m pc Ls (.int x2 :: .long x1 :: st)) := by
  subst hn
  exact Go.via (fun T locs X _ t q => XS.lshr X.here C.x rfl (hb C.by hd) rfl q) k
theorem G.lushr (C : Cx p s m meth c Z y bytes maxL ret) {x1 : Int64} {x2 : Int32} (hd : decode bytes pc = .ok (.lushr, 1))  (hn : pc + 1 = n) (k : Go p l e R s m args below meth c n0 Q cells slots h (mkF m n Ls (.long ((x1.toUInt64 >>> (x2 &&& 0x3f).toInt64.toUInt64).toInt64) :: st))) : Go p l e R s m args below meth c n0 Q cells slots h (mkF m pc Ls (.int x2 :: .long x1 :: st)) := by
  subst hn
  exact Go.via (fun T locs X _ t q => XS.lushr X.here C.x rfl (hb C.by hd) rfl q) k
theorem G.ineg (C : Cx p s m meth c Z y bytes maxL ret) {x : Int32} (hd : decode bytes pc = .ok (.ineg, 1))  (hn : pc + 1 = n) (k : Go p l e R s m args below meth c n0 Q cells slots h (mkF m n Ls (.int (-x) :: st))) : Go p l e R s m args below meth c n0 Q cells slots h (mkF m pc Ls (.int x :: st)) := by
  subst hn
  exact Go.via (fun T locs X _ t q => XS.ineg X.here C.x rfl (hb C.by hd) rfl q) k
theorem G.lneg (C : Cx p s m meth c Z y bytes maxL ret) {x : Int64} (hd : decode bytes pc = .ok (.lneg, 1))  (hn : pc + 1 = n) (k : Go p l e R s m args below meth c n0 Q cells slots h (mkF m n Ls (.long (-x) :: st))) : Go p l e R s m args below meth c n0 Q cells slots h (mkF m pc Ls (.long x :: st)) := by
  subst hn
  exact Go.via (fun T locs X _ t q => XS.lneg X.here C.x rfl (hb C.by hd) rfl q) k
theorem G.i2l (C : Cx p s m meth c Z y bytes maxL ret) {x : Int32} (hd : decode bytes pc = .ok (.i2l, 1))  (hn : pc + 1 = n) (k : Go p l e R s m args below meth c n0 Q cells slots h (mkF m n Ls (.long (x.toInt64) :: st))) : Go p l e R s m args below meth c n0 Q cells slots h (mkF m pc Ls (.int x :: st)) := by
  subst hn
  exact Go.via (fun T locs X _ t q => XS.i2l X.here C.x rfl (hb C.by hd) rfl q) k
theorem G.l2i (C : Cx p s m meth c Z y bytes maxL ret) {x : Int64} (hd : decode bytes pc = .ok (.l2i, 1))  (hn : pc + 1 = n) (k : Go p l e R s m args below meth c n0 Q cells slots h (mkF m n Ls (.int (x.toInt32) :: st))) : Go p l e R s m args below meth c n0 Q cells slots h (mkF m pc Ls (.long x :: st)) := by
  subst hn
  exact Go.via (fun T locs X _ t q => XS.l2i X.here C.x rfl (hb C.by hd) rfl q) k
theorem G.i2b (C : Cx p s m meth c Z y bytes maxL ret) {x : Int32} (hd : decode bytes pc = .ok (.i2b, 1))  (hn : pc + 1 = n) (k : Go p l e R s m args below meth c n0 Q cells slots h (mkF m n Ls (.int (x.toInt8.toInt32) :: st))) : Go p l e R s m args below meth c n0 Q cells slots h (mkF m pc Ls (.int x :: st)) := by
  subst hn
  exact Go.via (fun T locs X _ t q => XS.i2b X.here C.x rfl (hb C.by hd) rfl q) k
theorem G.i2s (C : Cx p s m meth c Z y bytes maxL ret) {x : Int32} (hd : decode bytes pc = .ok (.i2s, 1))  (hn : pc + 1 = n) (k : Go p l e R s m args below meth c n0 Q cells slots h (mkF m n Ls (.int (x.toInt16.toInt32) :: st))) : Go p l e R s m args below meth c n0 Q cells slots h (mkF m pc Ls (.int x :: st)) := by
  subst hn
  exact Go.via (fun T locs X _ t q => XS.i2s X.here C.x rfl (hb C.by hd) rfl q) k
theorem G.i2c (C : Cx p s m meth c Z y bytes maxL ret) {x : Int32} (hd : decode bytes pc = .ok (.i2c, 1))  (hn : pc + 1 = n) (k : Go p l e R s m args below meth c n0 Q cells slots h (mkF m n Ls (.int (x.toUInt32.toUInt16.toUInt32.toInt32) :: st))) : Go p l e R s m args below meth c n0 Q cells slots h (mkF m pc Ls (.int x :: st)) := by
  subst hn
  exact Go.via (fun T locs X _ t q => XS.i2c X.here C.x rfl (hb C.by hd) rfl q) k
theorem G.iconst (C : Cx p s m meth c Z y bytes maxL ret) {i : Int} (v : Int32) (hd : decode bytes pc = .ok (.iconst i, 1)) (hv : Int32.ofInt i = v) (hn : pc + 1 = n) (k : Go p l e R s m args below meth c n0 Q cells slots h (mkF m n Ls (.int v :: st))) : Go p l e R s m args below meth c n0 Q cells slots h (mkF m pc Ls (st)) := by
  subst hn hv
  exact Go.via (fun T locs X _ t q => XS.iconst X.here C.x rfl (hb C.by hd)  q) k
theorem G.bipush (C : Cx p s m meth c Z y bytes maxL ret) {i : Int} (v : Int32) (hd : decode bytes pc = .ok (.bipush i, 2)) (hv : (Int8.ofInt i).toInt32 = v) (hn : pc + 2 = n) (k : Go p l e R s m args below meth c n0 Q cells slots h (mkF m n Ls (.int v :: st))) : Go p l e R s m args below meth c n0 Q cells slots h (mkF m pc Ls (st)) := by
  subst hn hv
  exact Go.via (fun T locs X _ t q => XS.bipush X.here C.x rfl (hb C.by hd)  q) k
theorem G.sipush (C : Cx p s m meth c Z y bytes maxL ret) {i : Int} (v : Int32) (hd : decode bytes pc = .ok (.sipush i, 3)) (hv : (Int16.ofInt i).toInt32 = v) (hn : pc + 3 = n) (k : Go p l e R s m args below meth c n0 Q cells slots h (mkF m n Ls (.int v :: st))) : Go p l e R s m args below meth c n0 Q cells slots h (mkF m pc Ls (st)) := by
  subst hn hv
  exact Go.via (fun T locs X _ t q => XS.sipush X.here C.x rfl (hb C.by hd)  q) k
theorem G.lconst (C : Cx p s m meth c Z y bytes maxL ret) {i : Fin 2} (v : Int64) (hd : decode bytes pc = .ok (.lconst i, 1)) (hv : Int64.ofNat i = v) (hn : pc + 1 = n) (k : Go p l e R s m args below meth c n0 Q cells slots h (mkF m n Ls (.long v :: st))) : Go p l e R s m args below meth c n0 Q cells slots h (mkF m pc Ls (st)) := by
  subst hn hv
  exact Go.via (fun T locs X _ t q => XS.lconst X.here C.x rfl (hb C.by hd)  q) k
theorem G.aconst_null (C : Cx p s m meth c Z y bytes maxL ret)  (hd : decode bytes pc = .ok (.aconst_null, 1))  (hn : pc + 1 = n) (k : Go p l e R s m args below meth c n0 Q cells slots h (mkF m n Ls (.null :: st))) : Go p l e R s m args below meth c n0 Q cells slots h (mkF m pc Ls (st)) := by
  subst hn
  exact Go.via (fun T locs X _ t q => XS.aconstNull X.here C.x rfl (hb C.by hd)  q) k
theorem G.iload (C : Cx p s m meth c Z y bytes maxL ret) {k : Nat} {v : Int32} (hd : decode bytes pc = .ok (.iload k, 2)) (hl : Ls[k]? = some (.val (.int v)))  (hn : pc + 2 = n) (k : Go p l e R s m args below meth c n0 Q cells slots h (mkF m n Ls (.int v :: st))) : Go p l e R s m args below meth c n0 Q cells slots h (mkF m pc Ls (st)) := by
  subst hn
  exact Go.via (fun T locs X _ t q => XS.iload X.here C.x rfl (hb C.by hd) hl q) k
theorem G.iloadN (C : Cx p s m meth c Z y bytes maxL ret) {k : Fin 4} {v : Int32} (hd : decode bytes pc = .ok (.iload_n k, 1)) (hl : Ls[k.val]? = some (.val (.int v)))  (hn : pc + 1 = n) (k : Go p l e R s m args below meth c n0 Q cells slots h (mkF m n Ls (.int v :: st))) : Go p l e R s m args below meth c n0 Q cells slots h (mkF m pc Ls (st)) := by
  subst hn
  exact Go.via (fun T locs X _ t q => XS.iloadN X.here C.x rfl (hb C.by hd) hl q) k
theorem G.lload (C : Cx p s m meth c Z y bytes maxL ret) {k : Nat} {v : Int64} (hd : decode bytes pc = .ok (.lload k, 2)) (hl : Ls[k]? = some (.val (.long v)))  (hn : pc + 2 = n) (k : Go p l e R s m args below meth c n0 Q cells slots h (mkF m n Ls (.long v :: st))) : Go p l e R s m args below meth c n0 Q cells slots h (mkF m pc Ls (st)) := by
  subst hn
  exact Go.via (fun T locs X _ t q => XS.lload X.here C.x rfl (hb C.by hd) hl q) k
theorem G.lloadN (C : Cx p s m meth c Z y bytes maxL ret) {k : Fin 4} {v : Int64} (hd : decode bytes pc = .ok (.lload_n k, 1)) (hl : Ls[k.val]? = some (.val (.long v)))  (hn : pc + 1 = n) (k : Go p l e R s m args below meth c n0 Q cells slots h (mkF m n Ls (.long v :: st))) : Go p l e R s m args below meth c n0 Q cells slots h (mkF m pc Ls (st)) := by
  subst hn
  exact Go.via (fun T locs X _ t q => XS.lloadN X.here C.x rfl (hb C.by hd) hl q) k
theorem G.aload (C : Cx p s m meth c Z y bytes maxL ret) {k : Nat} {v : Value} (hd : decode bytes pc = .ok (.aload k, 2)) (hl : Ls[k]? = some (.val (v))) (hv : v.isRef = true) (hn : pc + 2 = n) (k : Go p l e R s m args below meth c n0 Q cells slots h (mkF m n Ls (v :: st))) : Go p l e R s m args below meth c n0 Q cells slots h (mkF m pc Ls (st)) := by
  subst hn
  exact Go.via (fun T locs X _ t q => XS.aload X.here C.x rfl (hb C.by hd) hl hv q) k
theorem G.aloadN (C : Cx p s m meth c Z y bytes maxL ret) {k : Fin 4} {v : Value} (hd : decode bytes pc = .ok (.aload_n k, 1)) (hl : Ls[k.val]? = some (.val (v))) (hv : v.isRef = true) (hn : pc + 1 = n) (k : Go p l e R s m args below meth c n0 Q cells slots h (mkF m n Ls (v :: st))) : Go p l e R s m args below meth c n0 Q cells slots h (mkF m pc Ls (st)) := by
  subst hn
  exact Go.via (fun T locs X _ t q => XS.aloadN X.here C.x rfl (hb C.by hd) hl hv q) k
theorem G.istore (C : Cx p s m meth c Z y bytes maxL ret) {k : Nat} {x : Int32} {l' : Array Slot} (hd : decode bytes pc = .ok (.istore k, 2))  (hl : storeLocals Ls k (.int x) = some l') (hn : pc + 2 = n) (kk : Go p l e R s m args below meth c n0 Q cells slots h (mkF m n l' (st))) : Go p l e R s m args below meth c n0 Q cells slots h (mkF m pc Ls (.int x :: st)) := by
  subst hn
  exact Go.via (fun T locs X _ t q => XS.istore X.here C.x rfl (hb C.by hd) rfl hl q) kk
theorem G.istoreZ (C : Cx p s m meth c Z y bytes maxL ret) {k : Nat} {x : Int32} {l' : Int32 → Array Slot} (hd : decode bytes pc = .ok (.istore k, 2)) (hl : ∀ z, storeLocals Ls k (.int z) = some (l' z)) (hn : pc + 2 = n) (kk : ∀ z, z = x → Go p l e R s m args below meth c n0 Q cells slots h (mkF m n (l' z) (st))) : Go p l e R s m args below meth c n0 Q cells slots h (mkF m pc Ls (.int x :: st)) :=
  G.istore C hd (hl x) hn (kk x rfl)
theorem G.istoreN (C : Cx p s m meth c Z y bytes maxL ret) {k : Fin 4} {x : Int32} {l' : Array Slot} (hd : decode bytes pc = .ok (.istore_n k, 1))  (hl : storeLocals Ls k.val (.int x) = some l') (hn : pc + 1 = n) (kk : Go p l e R s m args below meth c n0 Q cells slots h (mkF m n l' (st))) : Go p l e R s m args below meth c n0 Q cells slots h (mkF m pc Ls (.int x :: st)) := by
  subst hn
  exact Go.via (fun T locs X _ t q => XS.istoreN X.here C.x rfl (hb C.by hd) rfl hl q) kk
theorem G.istoreNZ (C : Cx p s m meth c Z y bytes maxL ret) {k : Fin 4} {x : Int32} {l' : Int32 → Array Slot} (hd : decode bytes pc = .ok (.istore_n k, 1)) (hl : ∀ z, storeLocals Ls k.val (.int z) = some (l' z)) (hn : pc + 1 = n) (kk : ∀ z, z = x → Go p l e R s m args below meth c n0 Q cells slots h (mkF m n (l' z) (st))) : Go p l e R s m args below meth c n0 Q cells slots h (mkF m pc Ls (.int x :: st)) :=
  G.istoreN C hd (hl x) hn (kk x rfl)
theorem G.lstore (C : Cx p s m meth c Z y bytes maxL ret) {k : Nat} {x : Int64} {l' : Array Slot} (hd : decode bytes pc = .ok (.lstore k, 2))  (hl : storeLocals Ls k (.long x) = some l') (hn : pc + 2 = n) (kk : Go p l e R s m args below meth c n0 Q cells slots h (mkF m n l' (st))) : Go p l e R s m args below meth c n0 Q cells slots h (mkF m pc Ls (.long x :: st)) := by
  subst hn
  exact Go.via (fun T locs X _ t q => XS.lstore X.here C.x rfl (hb C.by hd) rfl hl q) kk
theorem G.lstoreZ (C : Cx p s m meth c Z y bytes maxL ret) {k : Nat} {x : Int64} {l' : Int64 → Array Slot} (hd : decode bytes pc = .ok (.lstore k, 2)) (hl : ∀ z, storeLocals Ls k (.long z) = some (l' z)) (hn : pc + 2 = n) (kk : ∀ z, z = x → Go p l e R s m args below meth c n0 Q cells slots h (mkF m n (l' z) (st))) : Go p l e R s m args below meth c n0 Q cells slots h (mkF m pc Ls (.long x :: st)) :=
  G.lstore C hd (hl x) hn (kk x rfl)
theorem G.lstoreN (C : Cx p s m meth c Z y bytes maxL ret) {k : Fin 4} {x : Int64} {l' : Array Slot} (hd : decode bytes pc = .ok (.lstore_n k, 1))  (hl : storeLocals Ls k.val (.long x) = some l') (hn : pc + 1 = n) (kk : Go p l e R s m args below meth c n0 Q cells slots h (mkF m n l' (st))) : Go p l e R s m args below meth c n0 Q cells slots h (mkF m pc Ls (.long x :: st)) := by
  subst hn
  exact Go.via (fun T locs X _ t q => XS.lstoreN X.here C.x rfl (hb C.by hd) rfl hl q) kk
theorem G.lstoreNZ (C : Cx p s m meth c Z y bytes maxL ret) {k : Fin 4} {x : Int64} {l' : Int64 → Array Slot} (hd : decode bytes pc = .ok (.lstore_n k, 1)) (hl : ∀ z, storeLocals Ls k.val (.long z) = some (l' z)) (hn : pc + 1 = n) (kk : ∀ z, z = x → Go p l e R s m args below meth c n0 Q cells slots h (mkF m n (l' z) (st))) : Go p l e R s m args below meth c n0 Q cells slots h (mkF m pc Ls (.long x :: st)) :=
  G.lstoreN C hd (hl x) hn (kk x rfl)
theorem G.astore (C : Cx p s m meth c Z y bytes maxL ret) {k : Nat} {x : Value} {l' : Array Slot} (hd : decode bytes pc = .ok (.astore k, 2)) (hv : x.isRef = true) (hl : storeLocals Ls k (x) = some l') (hn : pc + 2 = n) (kk : Go p l e R s m args below meth c n0 Q cells slots h (mkF m n l' (st))) : Go p l e R s m args below meth c n0 Q cells slots h (mkF m pc Ls (x :: st)) := by
  subst hn
  exact Go.via (fun T locs X _ t q => XS.astore X.here C.x rfl (hb C.by hd) rfl hv hl q) kk
theorem G.astoreN (C : Cx p s m meth c Z y bytes maxL ret) {k : Fin 4} {x : Value} {l' : Array Slot} (hd : decode bytes pc = .ok (.astore_n k, 1)) (hv : x.isRef = true) (hl : storeLocals Ls k.val (x) = some l') (hn : pc + 1 = n) (kk : Go p l e R s m args below meth c n0 Q cells slots h (mkF m n l' (st))) : Go p l e R s m args below meth c n0 Q cells slots h (mkF m pc Ls (x :: st)) := by
  subst hn
  exact Go.via (fun T locs X _ t q => XS.astoreN X.here C.x rfl (hb C.by hd) rfl hv hl q) kk
theorem G.iinc (C : Cx p s m meth c Z y bytes maxL ret) {k : Nat} {cst : Int} (v : Int32) {x : Int32} {l' : Array Slot} (hd : decode bytes pc = .ok (.iinc k cst, 3)) (hv : Int32.ofInt cst = v) (hx : Ls[k]? = some (.val (.int x))) (hl : storeLocals Ls k (.int (x + v)) = some l') (hn : pc + 3 = n) (kk : Go p l e R s m args below meth c n0 Q cells slots h (mkF m n l' (st))) : Go p l e R s m args below meth c n0 Q cells slots h (mkF m pc Ls (st)) := by
  subst hn hv
  exact Go.via (fun T locs X _ t q => XS.iinc X.here C.x rfl (hb C.by hd) hx hl q) kk
theorem G.iincZ (C : Cx p s m meth c Z y bytes maxL ret) {k : Nat} {cst : Int} (v : Int32) {x : Int32} {l' : Int32 → Array Slot} (hd : decode bytes pc = .ok (.iinc k cst, 3)) (hv : Int32.ofInt cst = v) (hx : Ls[k]? = some (.val (.int x))) (hl : ∀ z, storeLocals Ls k (.int z) = some (l' z)) (hn : pc + 3 = n) (kk : ∀ z, z = x + v → Go p l e R s m args below meth c n0 Q cells slots h (mkF m n (l' z) (st))) : Go p l e R s m args below meth c n0 Q cells slots h (mkF m pc Ls (st)) :=
  G.iinc C v hd hv hx (hl _) hn (kk _ rfl)
theorem G.iincK (C : Cx p s m meth c Z y bytes maxL ret) {k : Nat} {cst : Int} (v : Int32) {x : Int32} (z : Int32) {l' : Array Slot} (hd : decode bytes pc = .ok (.iinc k cst, 3)) (hv : Int32.ofInt cst = v) (hx : Ls[k]? = some (.val (.int x))) (hz : x + v = z) (hl : storeLocals Ls k (.int z) = some l') (hn : pc + 3 = n) (kk : Go p l e R s m args below meth c n0 Q cells slots h (mkF m n l' (st))) : Go p l e R s m args below meth c n0 Q cells slots h (mkF m pc Ls (st)) := by
  subst hz
  exact G.iinc C v hd hv hx hl hn kk
theorem G.name_int {x : Int32} (kk : ∀ z, z = x → Go p l e R s m args below meth c n0 Q cells slots h (mkF m pc Ls (.int z :: st))) : Go p l e R s m args below meth c n0 Q cells slots h (mkF m pc Ls (.int x :: st)) := kk x rfl
theorem G.name_long {x : Int64} (kk : ∀ z, z = x → Go p l e R s m args below meth c n0 Q cells slots h (mkF m pc Ls (.long z :: st))) : Go p l e R s m args below meth c n0 Q cells slots h (mkF m pc Ls (.long x :: st)) := kk x rfl
theorem G.fold_int {x z : Int32} (hz : x = z) (kk : Go p l e R s m args below meth c n0 Q cells slots h (mkF m pc Ls (.int z :: st))) : Go p l e R s m args below meth c n0 Q cells slots h (mkF m pc Ls (.int x :: st)) := hz ▸ kk
theorem G.fold_long {x z : Int64} (hz : x = z) (kk : Go p l e R s m args below meth c n0 Q cells slots h (mkF m pc Ls (.long z :: st))) : Go p l e R s m args below meth c n0 Q cells slots h (mkF m pc Ls (.long x :: st)) := hz ▸ kk
theorem G.dup (C : Cx p s m meth c Z y bytes maxL ret) {x : Value} (hd : decode bytes pc = .ok (.dup, 1)) (hc : x.category = 1) (hn : pc + 1 = n) (k : Go p l e R s m args below meth c n0 Q cells slots h (mkF m n Ls (x :: x :: st))) : Go p l e R s m args below meth c n0 Q cells slots h (mkF m pc Ls (x :: st)) := by
  subst hn
  exact Go.via (fun T locs X _ t q => XS.dup X.here C.x rfl (hb C.by hd) rfl hc q) k
theorem G.pop (C : Cx p s m meth c Z y bytes maxL ret) {x : Value} (hd : decode bytes pc = .ok (.pop, 1)) (hc : x.category = 1) (hn : pc + 1 = n) (k : Go p l e R s m args below meth c n0 Q cells slots h (mkF m n Ls (st))) : Go p l e R s m args below meth c n0 Q cells slots h (mkF m pc Ls (x :: st)) := by
  subst hn
  exact Go.via (fun T locs X _ t q => XS.pop X.here C.x rfl (hb C.by hd) rfl hc q) k
theorem G.dup_x1 (C : Cx p s m meth c Z y bytes maxL ret) {x x2 : Value} (hd : decode bytes pc = .ok (.dup_x1, 1)) (hc : x.category = 1) (hc2 : x2.category = 1) (hn : pc + 1 = n) (k : Go p l e R s m args below meth c n0 Q cells slots h (mkF m n Ls (x :: x2 :: x :: st))) : Go p l e R s m args below meth c n0 Q cells slots h (mkF m pc Ls (x :: x2 :: st)) := by
  subst hn
  exact Go.via (fun T locs X _ t q => XS.dupX1 X.here C.x rfl (hb C.by hd) rfl hc hc2 q) k
theorem G.dup2 (C : Cx p s m meth c Z y bytes maxL ret) {x x2 : Value} (hd : decode bytes pc = .ok (.dup2, 1)) (hc : x.category = 1) (hc2 : x2.category = 1) (hn : pc + 1 = n) (k : Go p l e R s m args below meth c n0 Q cells slots h (mkF m n Ls (x :: x2 :: x :: x2 :: st))) : Go p l e R s m args below meth c n0 Q cells slots h (mkF m pc Ls (x :: x2 :: st)) := by
  subst hn
  exact Go.via (fun T locs X _ t q => XT.dup2 X.here C.x rfl (hb C.by hd) rfl hc hc2 q) k
theorem G.dup2L (C : Cx p s m meth c Z y bytes maxL ret) {x : Int64} (hd : decode bytes pc = .ok (.dup2, 1)) (hn : pc + 1 = n) (k : Go p l e R s m args below meth c n0 Q cells slots h (mkF m n Ls (.long x :: .long x :: st))) : Go p l e R s m args below meth c n0 Q cells slots h (mkF m pc Ls (.long x :: st)) := by
  subst hn
  exact Go.via (fun T locs X _ t q => XT.dup2L X.here C.x rfl (hb C.by hd) rfl q) k
theorem G.goto (C : Cx p s m meth c Z y bytes maxL ret) {o : Int} (hd : decode bytes pc = .ok (.goto o, 3)) (ho : 0 ≤ (pc : Int) + o) (hp : ((pc : Int) + o).toNat = n) (k : Go p l e R s m args below meth c n0 Q cells slots h (mkF m n Ls (st))) : Go p l e R s m args below meth c n0 Q cells slots h (mkF m pc Ls (st)) :=
  Go.via (fun T locs X _ t q => XS.goto X.here C.x rfl rfl (hb C.by hd) ho hp q) k
theorem lt_i {x y : Int32} : x < y ↔ x.toInt < y.toInt := Int32.lt_iff_toInt_lt
theorem lt_l {x y : Int64} : x < y ↔ x.toInt < y.toInt := Int64.lt_iff_toInt_lt
theorem le_i {x y : Int32} : x ≤ y ↔ x.toInt ≤ y.toInt := Int32.le_iff_toInt_le
theorem le_l {x y : Int64} : x ≤ y ↔ x.toInt ≤ y.toInt := Int64.le_iff_toInt_le
theorem ich_lt {x1 x2 : Int32} : (x1.toInt < x2.toInt ∧ if_icmp.holds .lt x1 x2 = true) ∨ (x2.toInt ≤ x1.toInt ∧ if_icmp.holds .lt x1 x2 = false) := by
  by_cases q : x1.toInt < x2.toInt
  · exact Or.inl ⟨q, by simp [if_icmp.holds, lt_i, le_i, Int32.lt_iff_toInt_lt, Int32.le_iff_toInt_le, q]⟩
  · exact Or.inr ⟨by omega, by first | (simp [if_icmp.holds, lt_i, le_i, Int32.lt_iff_toInt_lt, Int32.le_iff_toInt_le, q]; done) | (simp [if_icmp.holds, lt_i, le_i, Int32.lt_iff_toInt_lt, Int32.le_iff_toInt_le]; omega)⟩
theorem G.icmp_lt (C : Cx p s m meth c Z y bytes maxL ret) {x1 x2 : Int32} {o : Int} {A B : Int} (hA : x1.toInt = A) (hB : x2.toInt = B) (hd : decode bytes pc = .ok (.if_icmp .lt o, 3)) (ho : 0 ≤ (pc : Int) + o) (hp : ((pc : Int) + o).toNat = n') (hn : pc + 3 = n) (kt : A < B → Go p l e R s m args below meth c n0 Q cells slots h (mkF m n' Ls (st))) (kf : B ≤ A → Go p l e R s m args below meth c n0 Q cells slots h (mkF m n Ls (st))) : Go p l e R s m args below meth c n0 Q cells slots h (mkF m pc Ls (.int x2 :: .int x1 :: st)) := by
  subst hn hA hB
  rcases ich_lt (x1 := x1) (x2 := x2) with ⟨q, r⟩ | ⟨q, r⟩
  · exact Go.via (fun T locs X _ t q => XS.icmpYes X.here C.x rfl rfl (hb C.by hd) rfl r ho hp q) (kt q)
  · exact Go.via (fun T locs X _ t q => XS.icmpNo X.here C.x rfl (hb C.by hd) rfl r q) (kf q)
theorem G.if_lt (C : Cx p s m meth c Z y bytes maxL ret) {x1 : Int32} {o : Int} {A : Int} (hA : x1.toInt = A) (hd : decode bytes pc = .ok (.ifCond .lt o, 3)) (ho : 0 ≤ (pc : Int) + o) (hp : ((pc : Int) + o).toNat = n') (hn : pc + 3 = n) (kt : A < 0 → Go p l e R s m args below meth c n0 Q cells slots h (mkF m n' Ls (st))) (kf : 0 ≤ A → Go p l e R s m args below meth c n0 Q cells slots h (mkF m n Ls (st))) : Go p l e R s m args below meth c n0 Q cells slots h (mkF m pc Ls (.int x1 :: st)) := by
  subst hn hA
  rcases ich_lt (x1 := x1) (x2 := 0) with ⟨q, r⟩ | ⟨q, r⟩
  · exact Go.via (fun T locs X _ t q => XS.ifYes X.here C.x rfl rfl (hb C.by hd) rfl ((if0 _ _).trans r) ho hp q) (kt q)
  · exact Go.via (fun T locs X _ t q => XS.ifNo X.here C.x rfl (hb C.by hd) rfl ((if0 _ _).trans r) q) (kf q)
theorem lch_lt (x1 x2 : Int64) : ((lcmpW x1 x2).toInt < 0 → x1.toInt < x2.toInt) ∧ (0 ≤ (lcmpW x1 x2).toInt → x2.toInt ≤ x1.toInt) := by
  have q := c_lcmp x1 x2
  have z : ∀ x : Int32, x = 0 ↔ x.toInt = 0 := fun x => ⟨fun q => by rw [q]; rfl, fun q => Int32.toInt_inj.mp q⟩
  have w : x1 = x2 ↔ x1.toInt = x2.toInt := Int64.toInt_inj.symm
  
  constructor <;> intro r <;> omega
theorem G.lcmp_lt (C : Cx p s m meth c Z y bytes maxL ret) {x1 x2 : Int64} {o : Int} {A B : Int} (hA : x1.toInt = A) (hB : x2.toInt = B) (hc : decode bytes pc = .ok (.lcmp, 1)) (hd : decode bytes (pc + 1) = .ok (.ifCond .lt o, 3)) (ho : 0 ≤ ((pc + 1 : Nat) : Int) + o) (hp : (((pc + 1 : Nat) : Int) + o).toNat = n') (hn : pc + 4 = n) (kt : A < B → Go p l e R s m args below meth c n0 Q cells slots h (mkF m n' Ls (st))) (kf : B ≤ A → Go p l e R s m args below meth c n0 Q cells slots h (mkF m n Ls (st))) : Go p l e R s m args below meth c n0 Q cells slots h (mkF m pc Ls (.long x2 :: .long x1 :: st)) := by
  subst hn hA hB
  refine Go.via (fun T locs X _ t q => XS.lcmp X.here C.x rfl (hb C.by hc) rfl q) ?_
  exact G.if_lt C (A := (lcmpW x1 x2).toInt) rfl (pc := pc + 1) hd ho hp (n := pc + 4) rfl (fun q => kt ((lch_lt x1 x2).1 q)) (fun q => kf ((lch_lt x1 x2).2 q))
theorem ich_ge {x1 x2 : Int32} : (x2.toInt ≤ x1.toInt ∧ if_icmp.holds .ge x1 x2 = true) ∨ (x1.toInt < x2.toInt ∧ if_icmp.holds .ge x1 x2 = false) := by
  by_cases q : x2.toInt ≤ x1.toInt
  · exact Or.inl ⟨q, by simp [if_icmp.holds, lt_i, le_i, Int32.lt_iff_toInt_lt, Int32.le_iff_toInt_le, q]⟩
  · exact Or.inr ⟨by omega, by first | (simp [if_icmp.holds, lt_i, le_i, Int32.lt_iff_toInt_lt, Int32.le_iff_toInt_le, q]; done) | (simp [if_icmp.holds, lt_i, le_i, Int32.lt_iff_toInt_lt, Int32.le_iff_toInt_le]; omega)⟩
theorem G.icmp_ge (C : Cx p s m meth c Z y bytes maxL ret) {x1 x2 : Int32} {o : Int} {A B : Int} (hA : x1.toInt = A) (hB : x2.toInt = B) (hd : decode bytes pc = .ok (.if_icmp .ge o, 3)) (ho : 0 ≤ (pc : Int) + o) (hp : ((pc : Int) + o).toNat = n') (hn : pc + 3 = n) (kt : B ≤ A → Go p l e R s m args below meth c n0 Q cells slots h (mkF m n' Ls (st))) (kf : A < B → Go p l e R s m args below meth c n0 Q cells slots h (mkF m n Ls (st))) : Go p l e R s m args below meth c n0 Q cells slots h (mkF m pc Ls (.int x2 :: .int x1 :: st)) := by
  subst hn hA hB
  rcases ich_ge (x1 := x1) (x2 := x2) with ⟨q, r⟩ | ⟨q, r⟩
  · exact Go.via (fun T locs X _ t q => XS.icmpYes X.here C.x rfl rfl (hb C.by hd) rfl r ho hp q) (kt q)
  · exact Go.via (fun T locs X _ t q => XS.icmpNo X.here C.x rfl (hb C.by hd) rfl r q) (kf q)
theorem G.if_ge (C : Cx p s m meth c Z y bytes maxL ret) {x1 : Int32} {o : Int} {A : Int} (hA : x1.toInt = A) (hd : decode bytes pc = .ok (.ifCond .ge o, 3)) (ho : 0 ≤ (pc : Int) + o) (hp : ((pc : Int) + o).toNat = n') (hn : pc + 3 = n) (kt : 0 ≤ A → Go p l e R s m args below meth c n0 Q cells slots h (mkF m n' Ls (st))) (kf : A < 0 → Go p l e R s m args below meth c n0 Q cells slots h (mkF m n Ls (st))) : Go p l e R s m args below meth c n0 Q cells slots h (mkF m pc Ls (.int x1 :: st)) := by
  subst hn hA
  rcases ich_ge (x1 := x1) (x2 := 0) with ⟨q, r⟩ | ⟨q, r⟩
  · exact Go.via (fun T locs X _ t q => XS.ifYes X.here C.x rfl rfl (hb C.by hd) rfl ((if0 _ _).trans r) ho hp q) (kt q)
  · exact Go.via (fun T locs X _ t q => XS.ifNo X.here C.x rfl (hb C.by hd) rfl ((if0 _ _).trans r) q) (kf q)
theorem lch_ge (x1 x2 : Int64) : (0 ≤ (lcmpW x1 x2).toInt → x2.toInt ≤ x1.toInt) ∧ ((lcmpW x1 x2).toInt < 0 → x1.toInt < x2.toInt) := by
  have q := c_lcmp x1 x2
  have z : ∀ x : Int32, x = 0 ↔ x.toInt = 0 := fun x => ⟨fun q => by rw [q]; rfl, fun q => Int32.toInt_inj.mp q⟩
  have w : x1 = x2 ↔ x1.toInt = x2.toInt := Int64.toInt_inj.symm
  
  constructor <;> intro r <;> omega
theorem G.lcmp_ge (C : Cx p s m meth c Z y bytes maxL ret) {x1 x2 : Int64} {o : Int} {A B : Int} (hA : x1.toInt = A) (hB : x2.toInt = B) (hc : decode bytes pc = .ok (.lcmp, 1)) (hd : decode bytes (pc + 1) = .ok (.ifCond .ge o, 3)) (ho : 0 ≤ ((pc + 1 : Nat) : Int) + o) (hp : (((pc + 1 : Nat) : Int) + o).toNat = n') (hn : pc + 4 = n) (kt : B ≤ A → Go p l e R s m args below meth c n0 Q cells slots h (mkF m n' Ls (st))) (kf : A < B → Go p l e R s m args below meth c n0 Q cells slots h (mkF m n Ls (st))) : Go p l e R s m args below meth c n0 Q cells slots h (mkF m pc Ls (.long x2 :: .long x1 :: st)) := by
  subst hn hA hB
  refine Go.via (fun T locs X _ t q => XS.lcmp X.here C.x rfl (hb C.by hc) rfl q) ?_
  exact G.if_ge C (A := (lcmpW x1 x2).toInt) rfl (pc := pc + 1) hd ho hp (n := pc + 4) rfl (fun q => kt ((lch_ge x1 x2).1 q)) (fun q => kf ((lch_ge x1 x2).2 q))
theorem ich_gt {x1 x2 : Int32} : (x2.toInt < x1.toInt ∧ if_icmp.holds .gt x1 x2 = true) ∨ (x1.toInt ≤ x2.toInt ∧ if_icmp.holds .gt x1 x2 = false) := by
  by_cases q : x2.toInt < x1.toInt
  · exact Or.inl ⟨q, by simp [if_icmp.holds, lt_i, le_i, Int32.lt_iff_toInt_lt, Int32.le_iff_toInt_le, q]⟩
  · exact Or.inr ⟨by omega, by first | (simp [if_icmp.holds, lt_i, le_i, Int32.lt_iff_toInt_lt, Int32.le_iff_toInt_le, q]; done) | (simp [if_icmp.holds, lt_i, le_i, Int32.lt_iff_toInt_lt, Int32.le_iff_toInt_le]; omega)⟩
theorem G.icmp_gt (C : Cx p s m meth c Z y bytes maxL ret) {x1 x2 : Int32} {o : Int} {A B : Int} (hA : x1.toInt = A) (hB : x2.toInt = B) (hd : decode bytes pc = .ok (.if_icmp .gt o, 3)) (ho : 0 ≤ (pc : Int) + o) (hp : ((pc : Int) + o).toNat = n') (hn : pc + 3 = n) (kt : B < A → Go p l e R s m args below meth c n0 Q cells slots h (mkF m n' Ls (st))) (kf : A ≤ B → Go p l e R s m args below meth c n0 Q cells slots h (mkF m n Ls (st))) : Go p l e R s m args below meth c n0 Q cells slots h (mkF m pc Ls (.int x2 :: .int x1 :: st)) := by
  subst hn hA hB
  rcases ich_gt (x1 := x1) (x2 := x2) with ⟨q, r⟩ | ⟨q, r⟩
  · exact Go.via (fun T locs X _ t q => XS.icmpYes X.here C.x rfl rfl (hb C.by hd) rfl r ho hp q) (kt q)
  · exact Go.via (fun T locs X _ t q => XS.icmpNo X.here C.x rfl (hb C.by hd) rfl r q) (kf q)
theorem G.if_gt (C : Cx p s m meth c Z y bytes maxL ret) {x1 : Int32} {o : Int} {A : Int} (hA : x1.toInt = A) (hd : decode bytes pc = .ok (.ifCond .gt o, 3)) (ho : 0 ≤ (pc : Int) + o) (hp : ((pc : Int) + o).toNat = n') (hn : pc + 3 = n) (kt : 0 < A → Go p l e R s m args below meth c n0 Q cells slots h (mkF m n' Ls (st))) (kf : A ≤ 0 → Go p l e R s m args below meth c n0 Q cells slots h (mkF m n Ls (st))) : Go p l e R s m args below meth c n0 Q cells slots h (mkF m pc Ls (.int x1 :: st)) := by
  subst hn hA
  rcases ich_gt (x1 := x1) (x2 := 0) with ⟨q, r⟩ | ⟨q, r⟩
  · exact Go.via (fun T locs X _ t q => XS.ifYes X.here C.x rfl rfl (hb C.by hd) rfl ((if0 _ _).trans r) ho hp q) (kt q)
  · exact Go.via (fun T locs X _ t q => XS.ifNo X.here C.x rfl (hb C.by hd) rfl ((if0 _ _).trans r) q) (kf q)
theorem lch_gt (x1 x2 : Int64) : (0 < (lcmpW x1 x2).toInt → x2.toInt < x1.toInt) ∧ ((lcmpW x1 x2).toInt ≤ 0 → x1.toInt ≤ x2.toInt) := by
  have q := c_lcmp x1 x2
  have z : ∀ x : Int32, x = 0 ↔ x.toInt = 0 := fun x => ⟨fun q => by rw [q]; rfl, fun q => Int32.toInt_inj.mp q⟩
  have w : x1 = x2 ↔ x1.toInt = x2.toInt := Int64.toInt_inj.symm
  
  constructor <;> intro r <;> omega
theorem G.lcmp_gt (C : Cx p s m meth c Z y bytes maxL ret) {x1 x2 : Int64} {o : Int} {A B : Int} (hA : x1.toInt = A) (hB : x2.toInt = B) (hc : decode bytes pc = .ok (.lcmp, 1)) (hd : decode bytes (pc + 1) = .ok (.ifCond .gt o, 3)) (ho : 0 ≤ ((pc + 1 : Nat) : Int) + o) (hp : (((pc + 1 : Nat) : Int) + o).toNat = n') (hn : pc + 4 = n) (kt : B < A → Go p l e R s m args below meth c n0 Q cells slots h (mkF m n' Ls (st))) (kf : A ≤ B → Go p l e R s m args below meth c n0 Q cells slots h (mkF m n Ls (st))) : Go p l e R s m args below meth c n0 Q cells slots h (mkF m pc Ls (.long x2 :: .long x1 :: st)) := by
  subst hn hA hB
  refine Go.via (fun T locs X _ t q => XS.lcmp X.here C.x rfl (hb C.by hc) rfl q) ?_
  exact G.if_gt C (A := (lcmpW x1 x2).toInt) rfl (pc := pc + 1) hd ho hp (n := pc + 4) rfl (fun q => kt ((lch_gt x1 x2).1 q)) (fun q => kf ((lch_gt x1 x2).2 q))
theorem ich_le {x1 x2 : Int32} : (x1.toInt ≤ x2.toInt ∧ if_icmp.holds .le x1 x2 = true) ∨ (x2.toInt < x1.toInt ∧ if_icmp.holds .le x1 x2 = false) := by
  by_cases q : x1.toInt ≤ x2.toInt
  · exact Or.inl ⟨q, by simp [if_icmp.holds, lt_i, le_i, Int32.lt_iff_toInt_lt, Int32.le_iff_toInt_le, q]⟩
  · exact Or.inr ⟨by omega, by first | (simp [if_icmp.holds, lt_i, le_i, Int32.lt_iff_toInt_lt, Int32.le_iff_toInt_le, q]; done) | (simp [if_icmp.holds, lt_i, le_i, Int32.lt_iff_toInt_lt, Int32.le_iff_toInt_le]; omega)⟩
theorem G.icmp_le (C : Cx p s m meth c Z y bytes maxL ret) {x1 x2 : Int32} {o : Int} {A B : Int} (hA : x1.toInt = A) (hB : x2.toInt = B) (hd : decode bytes pc = .ok (.if_icmp .le o, 3)) (ho : 0 ≤ (pc : Int) + o) (hp : ((pc : Int) + o).toNat = n') (hn : pc + 3 = n) (kt : A ≤ B → Go p l e R s m args below meth c n0 Q cells slots h (mkF m n' Ls (st))) (kf : B < A → Go p l e R s m args below meth c n0 Q cells slots h (mkF m n Ls (st))) : Go p l e R s m args below meth c n0 Q cells slots h (mkF m pc Ls (.int x2 :: .int x1 :: st)) := by
  subst hn hA hB
  rcases ich_le (x1 := x1) (x2 := x2) with ⟨q, r⟩ | ⟨q, r⟩
  · exact Go.via (fun T locs X _ t q => XS.icmpYes X.here C.x rfl rfl (hb C.by hd) rfl r ho hp q) (kt q)
  · exact Go.via (fun T locs X _ t q => XS.icmpNo X.here C.x rfl (hb C.by hd) rfl r q) (kf q)
theorem G.if_le (C : Cx p s m meth c Z y bytes maxL ret) {x1 : Int32} {o : Int} {A : Int} (hA : x1.toInt = A) (hd : decode bytes pc = .ok (.ifCond .le o, 3)) (ho : 0 ≤ (pc : Int) + o) (hp : ((pc : Int) + o).toNat = n') (hn : pc + 3 = n) (kt : A ≤ 0 → Go p l e R s m args below meth c n0 Q cells slots h (mkF m n' Ls (st))) (kf : 0 < A → Go p l e R s m args below meth c n0 Q cells slots h (mkF m n Ls (st))) : Go p l e R s m args below meth c n0 Q cells slots h (mkF m pc Ls (.int x1 :: st)) := by
  subst hn hA
  rcases ich_le (x1 := x1) (x2 := 0) with ⟨q, r⟩ | ⟨q, r⟩
  · exact Go.via (fun T locs X _ t q => XS.ifYes X.here C.x rfl rfl (hb C.by hd) rfl ((if0 _ _).trans r) ho hp q) (kt q)
  · exact Go.via (fun T locs X _ t q => XS.ifNo X.here C.x rfl (hb C.by hd) rfl ((if0 _ _).trans r) q) (kf q)
theorem lch_le (x1 x2 : Int64) : ((lcmpW x1 x2).toInt ≤ 0 → x1.toInt ≤ x2.toInt) ∧ (0 < (lcmpW x1 x2).toInt → x2.toInt < x1.toInt) := by
  have q := c_lcmp x1 x2
  have z : ∀ x : Int32, x = 0 ↔ x.toInt = 0 := fun x => ⟨fun q => by rw [q]; rfl, fun q => Int32.toInt_inj.mp q⟩
  have w : x1 = x2 ↔ x1.toInt = x2.toInt := Int64.toInt_inj.symm
  
  constructor <;> intro r <;> omega
theorem G.lcmp_le (C : Cx p s m meth c Z y bytes maxL ret) {x1 x2 : Int64} {o : Int} {A B : Int} (hA : x1.toInt = A) (hB : x2.toInt = B) (hc : decode bytes pc = .ok (.lcmp, 1)) (hd : decode bytes (pc + 1) = .ok (.ifCond .le o, 3)) (ho : 0 ≤ ((pc + 1 : Nat) : Int) + o) (hp : (((pc + 1 : Nat) : Int) + o).toNat = n') (hn : pc + 4 = n) (kt : A ≤ B → Go p l e R s m args below meth c n0 Q cells slots h (mkF m n' Ls (st))) (kf : B < A → Go p l e R s m args below meth c n0 Q cells slots h (mkF m n Ls (st))) : Go p l e R s m args below meth c n0 Q cells slots h (mkF m pc Ls (.long x2 :: .long x1 :: st)) := by
  subst hn hA hB
  refine Go.via (fun T locs X _ t q => XS.lcmp X.here C.x rfl (hb C.by hc) rfl q) ?_
  exact G.if_le C (A := (lcmpW x1 x2).toInt) rfl (pc := pc + 1) hd ho hp (n := pc + 4) rfl (fun q => kt ((lch_le x1 x2).1 q)) (fun q => kf ((lch_le x1 x2).2 q))
theorem ich_eq {x1 x2 : Int32} : (x1 = x2 ∧ if_icmp.holds .eq x1 x2 = true) ∨ (x1 ≠ x2 ∧ if_icmp.holds .eq x1 x2 = false) := by
  by_cases q : x1 = x2 <;> simp [if_icmp.holds, q]
theorem G.icmp_eq (C : Cx p s m meth c Z y bytes maxL ret) {x1 x2 : Int32} {o : Int} {A B : Int} (hA : x1.toInt = A) (hB : x2.toInt = B) (hd : decode bytes pc = .ok (.if_icmp .eq o, 3)) (ho : 0 ≤ (pc : Int) + o) (hp : ((pc : Int) + o).toNat = n') (hn : pc + 3 = n) (kt : x1 = x2 → A = B → Go p l e R s m args below meth c n0 Q cells slots h (mkF m n' Ls (st))) (kf : x1 ≠ x2 → A ≠ B → Go p l e R s m args below meth c n0 Q cells slots h (mkF m n Ls (st))) : Go p l e R s m args below meth c n0 Q cells slots h (mkF m pc Ls (.int x2 :: .int x1 :: st)) := by
  subst hn hA hB
  rcases ich_eq (x1 := x1) (x2 := x2) with ⟨q, r⟩ | ⟨q, r⟩
  · exact Go.via (fun T locs X _ t q => XS.icmpYes X.here C.x rfl rfl (hb C.by hd) rfl r ho hp q) (kt q (congrArg _ q))
  · exact Go.via (fun T locs X _ t q => XS.icmpNo X.here C.x rfl (hb C.by hd) rfl r q) (kf q (fun r => q (Int32.toInt_inj.mp r)))
theorem G.if_eq (C : Cx p s m meth c Z y bytes maxL ret) {x1 : Int32} {o : Int} {A : Int} (hA : x1.toInt = A) (hd : decode bytes pc = .ok (.ifCond .eq o, 3)) (ho : 0 ≤ (pc : Int) + o) (hp : ((pc : Int) + o).toNat = n') (hn : pc + 3 = n) (kt : x1 = 0 → A = 0 → Go p l e R s m args below meth c n0 Q cells slots h (mkF m n' Ls (st))) (kf : x1 ≠ 0 → A ≠ 0 → Go p l e R s m args below meth c n0 Q cells slots h (mkF m n Ls (st))) : Go p l e R s m args below meth c n0 Q cells slots h (mkF m pc Ls (.int x1 :: st)) := by
  subst hn hA
  rcases ich_eq (x1 := x1) (x2 := 0) with ⟨q, r⟩ | ⟨q, r⟩
  · exact Go.via (fun T locs X _ t q => XS.ifYes X.here C.x rfl rfl (hb C.by hd) rfl ((if0 _ _).trans r) ho hp q) (kt q (congrArg Int32.toInt q))
  · exact Go.via (fun T locs X _ t q => XS.ifNo X.here C.x rfl (hb C.by hd) rfl ((if0 _ _).trans r) q) (kf q (fun r => q (Int32.toInt_inj.mp r)))
theorem lch_eq (x1 x2 : Int64) : ((lcmpW x1 x2) = 0 → x1 = x2) ∧ ((lcmpW x1 x2) ≠ 0 → x1 ≠ x2) := by
  have q := c_lcmp x1 x2
  have z : ∀ x : Int32, x = 0 ↔ x.toInt = 0 := fun x => ⟨fun q => by rw [q]; rfl, fun q => Int32.toInt_inj.mp q⟩
  have w : x1 = x2 ↔ x1.toInt = x2.toInt := Int64.toInt_inj.symm
  simp only [ne_eq, z, w]
  constructor <;> intro r <;> omega
theorem G.lcmp_eq (C : Cx p s m meth c Z y bytes maxL ret) {x1 x2 : Int64} {o : Int} {A B : Int} (hA : x1.toInt = A) (hB : x2.toInt = B) (hc : decode bytes pc = .ok (.lcmp, 1)) (hd : decode bytes (pc + 1) = .ok (.ifCond .eq o, 3)) (ho : 0 ≤ ((pc + 1 : Nat) : Int) + o) (hp : (((pc + 1 : Nat) : Int) + o).toNat = n') (hn : pc + 4 = n) (kt : x1 = x2 → A = B → Go p l e R s m args below meth c n0 Q cells slots h (mkF m n' Ls (st))) (kf : x1 ≠ x2 → A ≠ B → Go p l e R s m args below meth c n0 Q cells slots h (mkF m n Ls (st))) : Go p l e R s m args below meth c n0 Q cells slots h (mkF m pc Ls (.long x2 :: .long x1 :: st)) := by
  subst hn hA hB
  refine Go.via (fun T locs X _ t q => XS.lcmp X.here C.x rfl (hb C.by hc) rfl q) ?_
  exact G.if_eq C (A := (lcmpW x1 x2).toInt) rfl (pc := pc + 1) hd ho hp (n := pc + 4) rfl (fun q _ => kt ((lch_eq x1 x2).1 q) (congrArg _ ((lch_eq x1 x2).1 q))) (fun q _ => kf ((lch_eq x1 x2).2 q) (fun r => (lch_eq x1 x2).2 q (Int64.toInt_inj.mp r)))
theorem ich_ne {x1 x2 : Int32} : (x1 ≠ x2 ∧ if_icmp.holds .ne x1 x2 = true) ∨ (x1 = x2 ∧ if_icmp.holds .ne x1 x2 = false) := by
  by_cases q : x1 = x2 <;> simp [if_icmp.holds, q]
theorem G.icmp_ne (C : Cx p s m meth c Z y bytes maxL ret) {x1 x2 : Int32} {o : Int} {A B : Int} (hA : x1.toInt = A) (hB : x2.toInt = B) (hd : decode bytes pc = .ok (.if_icmp .ne o, 3)) (ho : 0 ≤ (pc : Int) + o) (hp : ((pc : Int) + o).toNat = n') (hn : pc + 3 = n) (kt : x1 ≠ x2 → A ≠ B → Go p l e R s m args below meth c n0 Q cells slots h (mkF m n' Ls (st))) (kf : x1 = x2 → A = B → Go p l e R s m args below meth c n0 Q cells slots h (mkF m n Ls (st))) : Go p l e R s m args below meth c n0 Q cells slots h (mkF m pc Ls (.int x2 :: .int x1 :: st)) := by
  subst hn hA hB
  rcases ich_ne (x1 := x1) (x2 := x2) with ⟨q, r⟩ | ⟨q, r⟩
  · exact Go.via (fun T locs X _ t q => XS.icmpYes X.here C.x rfl rfl (hb C.by hd) rfl r ho hp q) (kt q (fun r => q (Int32.toInt_inj.mp r)))
  · exact Go.via (fun T locs X _ t q => XS.icmpNo X.here C.x rfl (hb C.by hd) rfl r q) (kf q (congrArg _ q))
theorem G.if_ne (C : Cx p s m meth c Z y bytes maxL ret) {x1 : Int32} {o : Int} {A : Int} (hA : x1.toInt = A) (hd : decode bytes pc = .ok (.ifCond .ne o, 3)) (ho : 0 ≤ (pc : Int) + o) (hp : ((pc : Int) + o).toNat = n') (hn : pc + 3 = n) (kt : x1 ≠ 0 → A ≠ 0 → Go p l e R s m args below meth c n0 Q cells slots h (mkF m n' Ls (st))) (kf : x1 = 0 → A = 0 → Go p l e R s m args below meth c n0 Q cells slots h (mkF m n Ls (st))) : Go p l e R s m args below meth c n0 Q cells slots h (mkF m pc Ls (.int x1 :: st)) := by
  subst hn hA
  rcases ich_ne (x1 := x1) (x2 := 0) with ⟨q, r⟩ | ⟨q, r⟩
  · exact Go.via (fun T locs X _ t q => XS.ifYes X.here C.x rfl rfl (hb C.by hd) rfl ((if0 _ _).trans r) ho hp q) (kt q (fun r => q (Int32.toInt_inj.mp r)))
  · exact Go.via (fun T locs X _ t q => XS.ifNo X.here C.x rfl (hb C.by hd) rfl ((if0 _ _).trans r) q) (kf q (congrArg Int32.toInt q))
theorem lch_ne (x1 x2 : Int64) : ((lcmpW x1 x2) ≠ 0 → x1 ≠ x2) ∧ ((lcmpW x1 x2) = 0 → x1 = x2) := by
  have q := c_lcmp x1 x2
  have z : ∀ x : Int32, x = 0 ↔ x.toInt = 0 := fun x => ⟨fun q => by rw [q]; rfl, fun q => Int32.toInt_inj.mp q⟩
  have w : x1 = x2 ↔ x1.toInt = x2.toInt := Int64.toInt_inj.symm
  simp only [ne_eq, z, w]
  constructor <;> intro r <;> omega
theorem G.lcmp_ne (C : Cx p s m meth c Z y bytes maxL ret) {x1 x2 : Int64} {o : Int} {A B : Int} (hA : x1.toInt = A) (hB : x2.toInt = B) (hc : decode bytes pc = .ok (.lcmp, 1)) (hd : decode bytes (pc + 1) = .ok (.ifCond .ne o, 3)) (ho : 0 ≤ ((pc + 1 : Nat) : Int) + o) (hp : (((pc + 1 : Nat) : Int) + o).toNat = n') (hn : pc + 4 = n) (kt : x1 ≠ x2 → A ≠ B → Go p l e R s m args below meth c n0 Q cells slots h (mkF m n' Ls (st))) (kf : x1 = x2 → A = B → Go p l e R s m args below meth c n0 Q cells slots h (mkF m n Ls (st))) : Go p l e R s m args below meth c n0 Q cells slots h (mkF m pc Ls (.long x2 :: .long x1 :: st)) := by
  subst hn hA hB
  refine Go.via (fun T locs X _ t q => XS.lcmp X.here C.x rfl (hb C.by hc) rfl q) ?_
  exact G.if_ne C (A := (lcmpW x1 x2).toInt) rfl (pc := pc + 1) hd ho hp (n := pc + 4) rfl (fun q _ => kt ((lch_ne x1 x2).1 q) (fun r => (lch_ne x1 x2).1 q (Int64.toInt_inj.mp r))) (fun q _ => kf ((lch_ne x1 x2).2 q) (congrArg _ ((lch_ne x1 x2).2 q)))
theorem G.ifnullN (C : Cx p s m meth c Z y bytes maxL ret) {b : Addr} {o : Int} (hd : decode bytes pc = .ok (.ifnull o, 3)) (hn : pc + 3 = n) (k : Go p l e R s m args below meth c n0 Q cells slots h (mkF m n Ls (st))) : Go p l e R s m args below meth c n0 Q cells slots h (mkF m pc Ls (.ref b :: st)) := by
  subst hn
  exact Go.via (fun T locs X _ t q => XS.ifnullNo X.here C.x rfl (hb C.by hd) rfl q) k
theorem G.ifnullY (C : Cx p s m meth c Z y bytes maxL ret) {o : Int} (hd : decode bytes pc = .ok (.ifnull o, 3)) (ho : 0 ≤ (pc : Int) + o) (hp : ((pc : Int) + o).toNat = n) (k : Go p l e R s m args below meth c n0 Q cells slots h (mkF m n Ls (st))) : Go p l e R s m args below meth c n0 Q cells slots h (mkF m pc Ls (.null :: st)) :=
  Go.via (fun T locs X _ t q => XS.ifnullYes X.here C.x rfl rfl (hb C.by hd) rfl ho hp q) k
theorem G.ifnonnullY (C : Cx p s m meth c Z y bytes maxL ret) {b : Addr} {o : Int} (hd : decode bytes pc = .ok (.ifnonnull o, 3)) (ho : 0 ≤ (pc : Int) + o) (hp : ((pc : Int) + o).toNat = n) (k : Go p l e R s m args below meth c n0 Q cells slots h (mkF m n Ls (st))) : Go p l e R s m args below meth c n0 Q cells slots h (mkF m pc Ls (.ref b :: st)) :=
  Go.via (fun T locs X _ t q => XS.ifnonnullYes X.here C.x rfl rfl (hb C.by hd) rfl ho hp q) k
theorem G.ifnonnullN (C : Cx p s m meth c Z y bytes maxL ret) {o : Int} (hd : decode bytes pc = .ok (.ifnonnull o, 3)) (hn : pc + 3 = n) (k : Go p l e R s m args below meth c n0 Q cells slots h (mkF m n Ls (st))) : Go p l e R s m args below meth c n0 Q cells slots h (mkF m pc Ls (.null :: st)) := by
  subst hn
  exact Go.via (fun T locs X _ t q => XS.ifnonnullNo X.here C.x rfl (hb C.by hd) rfl q) k
theorem G.acmp_eq (C : Cx p s m meth c Z y bytes maxL ret) {x1 x2 : Value} {o : Int} (h1 : x1.isRef = true) (h2 : x2.isRef = true) (hd : decode bytes pc = .ok (.if_acmp .eq o, 3)) (ho : 0 ≤ (pc : Int) + o) (hp : ((pc : Int) + o).toNat = n') (hn : pc + 3 = n) (kt : x1 = x2 → Go p l e R s m args below meth c n0 Q cells slots h (mkF m n' Ls (st))) (kf : x1 ≠ x2 → Go p l e R s m args below meth c n0 Q cells slots h (mkF m n Ls (st))) : Go p l e R s m args below meth c n0 Q cells slots h (mkF m pc Ls (x2 :: x1 :: st)) := by
  subst hn
  by_cases r : x1 = x2
  · exact Go.via (fun T locs X _ t q => Jvm.RoadKit.acmp (g := mkF m pc Ls (x2 :: x1 :: st)) X C.x rfl h1 h2 (same := true) rfl (hb C.by hd) rfl (decide_eq_true r) ho (hp.symm) q) (kt r)
  · exact Go.via (fun T locs X _ t q => Jvm.RoadKit.acmp (g := mkF m pc Ls (x2 :: x1 :: st)) X C.x rfl h1 h2 (same := false) rfl (hb C.by hd) rfl (decide_eq_false r) ho (rfl) q) (kf r)
theorem G.acmp_ne (C : Cx p s m meth c Z y bytes maxL ret) {x1 x2 : Value} {o : Int} (h1 : x1.isRef = true) (h2 : x2.isRef = true) (hd : decode bytes pc = .ok (.if_acmp .ne o, 3)) (ho : 0 ≤ (pc : Int) + o) (hp : ((pc : Int) + o).toNat = n') (hn : pc + 3 = n) (kt : x1 ≠ x2 → Go p l e R s m args below meth c n0 Q cells slots h (mkF m n' Ls (st))) (kf : x1 = x2 → Go p l e R s m args below meth c n0 Q cells slots h (mkF m n Ls (st))) : Go p l e R s m args below meth c n0 Q cells slots h (mkF m pc Ls (x2 :: x1 :: st)) := by
  subst hn
  by_cases r : x1 = x2
  · exact Go.via (fun T locs X _ t q => Jvm.RoadKit.acmp (g := mkF m pc Ls (x2 :: x1 :: st)) X C.x rfl h1 h2 (same := true) rfl (hb C.by hd) rfl (decide_eq_true r) ho (rfl) q) (kf r)
  · exact Go.via (fun T locs X _ t q => Jvm.RoadKit.acmp (g := mkF m pc Ls (x2 :: x1 :: st)) X C.x rfl h1 h2 (same := false) rfl (hb C.by hd) rfl (decide_eq_false r) ho (hp.symm) q) (kt r)
theorem G.ldc (C : Cx p s m meth c Z y bytes maxL ret) {index : Nat} {v : Int32} (w : (Jvm.Cond.constant y.cls index v).before a0 Z = true) (hd : decode bytes pc = .ok (.ldc index, 2)) (hn : pc + 2 = n) (k : Go p l e R s m args below meth c n0 Q cells slots h (mkF m n Ls (.int v :: st))) : Go p l e R s m args below meth c n0 Q cells slots h (mkF m pc Ls (st)) := by
  subst hn
  exact Go.via (fun T locs X _ t q => X.ldcInt C.x C.own (mvT C.z w) (g := mkF m pc Ls st) rfl (hb C.by hd) t q) k
theorem G.ldc_w (C : Cx p s m meth c Z y bytes maxL ret) {index : Nat} {v : Int32} (w : (Jvm.Cond.constant y.cls index v).before a0 Z = true) (hd : decode bytes pc = .ok (.ldc_w index, 3)) (hn : pc + 3 = n) (k : Go p l e R s m args below meth c n0 Q cells slots h (mkF m n Ls (.int v :: st))) : Go p l e R s m args below meth c n0 Q cells slots h (mkF m pc Ls (st)) := by
  subst hn
  exact Go.via (fun T locs X _ t q => X.ldcwInt C.x C.own (mvT C.z w) (g := mkF m pc Ls st) rfl (hb C.by hd) t q) k
theorem G.ldc2 (C : Cx p s m meth c Z y bytes maxL ret) {index : Nat} {v : Int64} (w : (Jvm.Cond.constantLong y.cls index v).before a0 Z = true) (hd : decode bytes pc = .ok (.ldc2_w index, 3)) (hn : pc + 3 = n) (k : Go p l e R s m args below meth c n0 Q cells slots h (mkF m n Ls (.long v :: st))) : Go p l e R s m args below meth c n0 Q cells slots h (mkF m pc Ls (st)) := by
  subst hn
  exact Go.via (fun T locs X _ t q => X.ldc2Long C.x C.own (mvT C.z w) (g := mkF m pc Ls st) rfl (hb C.by hd) t q) k
theorem Go.leave (C : Cx p s m meth c Z y bytes maxL ret) {v : Option Value} {f : JFrame} (hv : ret = none → v = none) (hc : cells ≤ R.cells) (hs : slots ≤ R.slots)
    (hret : ∀ T locs, Stand p l e R s m args below meth c T locs cells slots → ∀ fs, (∀ (f : JFrame) (acts : List Action), f.method = m → f.locked = none → f.entered = [] → (doReturn e (T.setTop f) acts v).1 = T.setFrames fs) → Steps p.tables e below (T.setTop f) (T.setFrames fs))
    (q : Q v h) : Go p l e R s m args below meth c n0 Q cells slots h f := fun T locs X N e0 => by
  obtain ⟨fs, hr, hrun, hended, hW, hsame⟩ := X.leave (v := v) (fun q => hv (C.rt.symm.trans q)) C.locks
  refine ⟨_, _, hret T locs X fs hr, hrun, hended, v, locs, rfl, ⟨N, ?_⟩, ⟨_, rfl⟩, hW, hsame.mono hc hs⟩
  show Q v T.heap
  rw [e0]; exact q
theorem G.return_ (C : Cx p s m meth c Z y bytes maxL none) (hd : decode bytes pc = .ok (.return_, 1)) (hc : cells ≤ R.cells) (hs : slots ≤ R.slots) (q : Q none h) : Go p l e R s m args below meth c n0 Q cells slots h (mkF m pc Ls ([])) :=
  Go.leave C (v := none) (fun _ => rfl) hc hs (fun T locs X fs hr => X.returnOut C.x C.rt (hb C.by hd) hr) q
theorem G.ireturn {t : FieldType} (C : Cx p s m meth c Z y bytes maxL (some t)) {x : Int32} (hd : decode bytes pc = .ok (.ireturn, 1)) (hnn : narrow t (.int x) = .int x) (ht : t = .int ∨ t = .boolean ∨ t = .byte ∨ t = .char ∨ t = .short) (hc : cells ≤ R.cells) (hs : slots ≤ R.slots) (q : Q (some (.int x)) h) : Go p l e R s m args below meth c n0 Q cells slots h (mkF m pc Ls (.int x :: st)) :=
  Go.leave C (v := some (.int x)) (fun q => nomatch q) hc hs (fun T locs X fs hr => retOut X C.x C.rt hnn (Or.inl ⟨rfl, ht, _, rfl⟩) (hb C.by hd) hr) q
theorem G.lreturn (C : Cx p s m meth c Z y bytes maxL (some .long)) {x : Int64} (hd : decode bytes pc = .ok (.lreturn, 1)) (hc : cells ≤ R.cells) (hs : slots ≤ R.slots) (q : Q (some (.long x)) h) : Go p l e R s m args below meth c n0 Q cells slots h (mkF m pc Ls (.long x :: st)) :=
  Go.leave C (v := some (.long x)) (fun q => nomatch q) hc hs (fun T locs X fs hr => retOut X C.x C.rt rfl (Or.inr (Or.inl ⟨rfl, rfl, _, rfl⟩)) (hb C.by hd) hr) q
theorem G.areturn {t : FieldType} (C : Cx p s m meth c Z y bytes maxL (some t)) {x : Value} (hd : decode bytes pc = .ok (.areturn, 1)) (ht : t.isReference = true) (hx : x.isRef = true) (hnn : narrow t x = x) (hc : cells ≤ R.cells) (hs : slots ≤ R.slots) (q : Q (some x) h) : Go p l e R s m args below meth c n0 Q cells slots h (mkF m pc Ls (x :: st)) :=
  Go.leave C (v := some x) (fun q => nomatch q) hc hs (fun T locs X fs hr => retOut X C.x C.rt hnn (Or.inr (Or.inr (Or.inr (Or.inr ⟨rfl, ht, hx⟩)))) (hb C.by hd) hr) q
theorem G.getfield (C : Cx p s m meth c Z y bytes maxL ret) {R0 O nm d host : String} {index : Nat} (w : (Jvm.Cond.fieldLink y.cls index R0 nm d).before a0 Z = true ∨ (Jvm.Cond.fieldLinkNest y.cls index R0 nm d host).before a0 Z = true) (via : Via Z R0 O nm d) {a : Addr} {v : Value} (F : Fld Z h a O nm d v) (hd : decode bytes pc = .ok (.getfield index, 3)) (hn : pc + 3 = n) (k : Go p l e R s m args below meth c n0 Q cells slots h (mkF m n Ls (v :: st))) : Go p l e R s m args below meth c n0 Q cells slots h (mkF m pc Ls (.ref a :: st)) := fun T locs X N q => by
  subst hn
  obtain ⟨T', X', e', st'⟩ := getF X C.x C.z C.own w via q F (g := mkF m pc Ls (.ref a :: st)) rfl rfl (hb C.by hd)
  obtain ⟨t, o, s1, r⟩ := k T' locs X' N e'
  exact ⟨t, o, st' t s1, r⟩
theorem G.getstatic (C : Cx p s m meth c Z y bytes maxL ret) {R0 O nm d host : String} {index : Nat} (w : (Jvm.Cond.fieldLink y.cls index R0 nm d).before a0 Z = true ∨ (Jvm.Cond.fieldLinkNest y.cls index R0 nm d host).before a0 Z = true) (via : Via Z R0 O nm d) {v : Value} (F : Sta Z h O nm d v) (hd : decode bytes pc = .ok (.getstatic index, 3)) (hn : pc + 3 = n) (k : Go p l e R s m args below meth c n0 Q cells slots h (mkF m n Ls (v :: st))) : Go p l e R s m args below meth c n0 Q cells slots h (mkF m pc Ls (st)) := fun T locs X N q => by
  subst hn
  obtain ⟨T', X', e', st'⟩ := getS2 X C.x C.z C.own w via q F (g := mkF m pc Ls st) rfl (hb C.by hd)
  obtain ⟨t, o, s1, r⟩ := k T' locs X' N e'
  exact ⟨t, o, st' t s1, r⟩
theorem G.putfield (C : Cx p s m meth c Z y bytes maxL ret) {R0 O nm d host K : String} {index kk : Nat} {ty : FieldType} (w : (Jvm.Cond.fieldLink y.cls index R0 nm d).before a0 Z = true ∨ (Jvm.Cond.fieldLinkNest y.cls index R0 nm d host).before a0 Z = true) (via : Via Z R0 O nm d) {a : Addr} {v old : Value} (F : Fld Z h a O nm d old) (E : Exa Z h a K)
    (L : (Jvm.Cond.lays K O nm d).before a0 Z = true ∨ ((Jvm.Cond.laysFinal K O nm d).before a0 Z = true ∧ y.cls = O ∧ y.name = "<init>")) (wi : (Jvm.Cond.instantiable K kk).before a0 Z = true) (hty : parseFieldDescriptor d = some ty) (hnn : narrow ty v = v) (hf : fits ty v = true) (g : n0 ≤ a)
    (hd : decode bytes pc = .ok (.putfield index, 3)) (hn : pc + 3 = n) (k : ∀ h', Wr h h' a (RoadKit.slotOf Z O nm d) v → Go p l e R s m args below meth c n0 Q cells slots h' (mkF m n Ls (st))) : Go p l e R s m args below meth c n0 Q cells slots h (mkF m pc Ls (v :: .ref a :: st)) := fun T locs X N q => by
  subst hn
  obtain ⟨T', h', X', e', W, st'⟩ := putF X C.x C.z C.own w via q F E (L.imp id fun r => ⟨r.1, r.2.1, C.nm.trans r.2.2⟩) wi hty hnn hf (g := mkF m pc Ls (v :: .ref a :: st)) rfl rfl (hb C.by hd)
  obtain ⟨t, o, s1, r⟩ := k h' W T' _ X' (Fr.snoc X' N g) e'
  exact ⟨t, o, st' t s1, r⟩
theorem G.putfieldN (C : Cx p s m meth c Z y bytes maxL ret) {R0 O nm d K : String} {index kk : Nat} {ty : FieldType} (w : (Jvm.Cond.fieldLink y.cls index R0 nm d).before a0 Z = true) (via : Via Z R0 O nm d) {a : Addr} {v v' old : Value} (F : Fld Z h a O nm d old) (E : Exa Z h a K)
    (L : (Jvm.Cond.lays K O nm d).before a0 Z = true ∨ ((Jvm.Cond.laysFinal K O nm d).before a0 Z = true ∧ y.cls = O ∧ y.name = "<init>")) (wi : (Jvm.Cond.instantiable K kk).before a0 Z = true) (hty : parseFieldDescriptor d = some ty) (hnn : narrow ty v = v') (hf : fits ty v' = true) (g : n0 ≤ a)
    (hd : decode bytes pc = .ok (.putfield index, 3)) (hn : pc + 3 = n) (k : ∀ h', Wr h h' a (RoadKit.slotOf Z O nm d) v' → Go p l e R s m args below meth c n0 Q cells slots h' (mkF m n Ls (st))) : Go p l e R s m args below meth c n0 Q cells slots h (mkF m pc Ls (v :: .ref a :: st)) := fun T locs X N q => by
  subst hn
  obtain ⟨T', h', X', e', W, st'⟩ := putFN X C.x C.z C.own w via q F E (L.imp id fun r => ⟨r.1, r.2.1, C.nm.trans r.2.2⟩) wi hty hnn hf (g := mkF m pc Ls (v :: .ref a :: st)) rfl rfl (hb C.by hd)
  obtain ⟨t, o, s1, r⟩ := k h' W T' _ X' (Fr.snoc X' N g) e'
  exact ⟨t, o, st' t s1, r⟩
theorem G.new (C : Cx p s m meth c Z y bytes maxL ret) {K : String} {index ns c' s' : Nat} (w : (Jvm.Cond.classLink y.cls index K).before a0 Z = true) (wi : (Jvm.Cond.instantiable K ns).before a0 Z = true) (wz : (Jvm.Cond.initialized K).before a0 Z = true) (hd : decode bytes pc = .ok (.new index, 3)) (hn : pc + 3 = n) (hc' : cells + 1 = c') (hs' : slots + ns = s') (hc : c' ≤ R.cells) (hs : s' ≤ R.slots)
    (k : ∀ h' b, b = h.size → Ext h h' → Exa Z h' b K → (∀ {O nm d : String} {ty : FieldType}, Laid Z a0 K O nm d → parseFieldDescriptor d = some ty → Fld Z h' b O nm d (defaultValue ty)) → Go p l e R s m args below meth c n0 Q c' s' h' (mkF m n Ls (.ref b :: st))) : Go p l e R s m args below meth c n0 Q cells slots h (mkF m pc Ls (st)) := fun T locs X N q => by
  subst hn hc' hs'
  obtain ⟨T', h', X', e', E, A, D, -, st'⟩ := newO X C.x C.z C.own w wi wz q (g := mkF m pc Ls st) rfl (hb C.by hd) hc hs
  obtain ⟨t, o, s1, r⟩ := k h' _ rfl E A D T' _ X' N e'
  exact ⟨t, o, st' t s1, r⟩
theorem G.objinit (C : Cx p s m meth c Z y bytes maxL ret) {index W : Nat} (w1 : (Jvm.Cond.methodLink y.cls index Lib.objectInit).before a0 Z = true) (w2 : (Jvm.Cond.instanceMethod Lib.objectInit).before a0 Z = true) (w3 : (Jvm.Cond.code Lib.objectInit ⟨#[0xb1]⟩ 1 none).before a0 Z = true) {a : Addr} (hd : decode bytes pc = .ok (.invokespecial index, 3)) (hsz : Ls.size = maxL) (hf : 1 ≤ R.frames) (hW : (st.map fun v => v.category).sum = W) (hl : W + 12 ≤ R.locals) (hn : pc + 3 = n) (k : Go p l e R s m args below meth c n0 Q cells slots h (mkF m n Ls (st))) : Go p l e R s m args below meth c n0 Q cells slots h (mkF m pc Ls (.ref a :: st)) := fun T locs X N q => by
  subst hn hW
  obtain ⟨T', X', e', st'⟩ := initO X C.x C.z C.own w1 w2 w3 q (g := mkF m pc Ls (.ref a :: st)) rfl (hsz.trans C.ml.symm) rfl (hb C.by hd) hf (W := (st.map fun v => v.category).sum) (by show 2 * 0 + _ ≤ _; omega) hl
  obtain ⟨t, o, s1, r⟩ := k T' locs X' N e'
  exact ⟨t, o, st' t s1, r⟩
theorem G.callS (C : Cx p s m meth c Z y bytes maxL ret) {index W : Nat} {yc : MethodName} {bc : ByteArray} {mc : Nat} {rc : Option FieldType} {rm : Room} {c' s' : Nat} {Qc : Option Value → Heap → Prop} {ps : List FieldType} {argsL stk : List Value} (w1 : (Jvm.Cond.methodLink y.cls index yc).before a0 Z = true) (w2 : (Jvm.Cond.static yc).before a0 Z = true) (w3 : (Jvm.Cond.initialized yc.cls).before a0 Z = true) (w4 : (Jvm.Cond.code yc bc mc rc).before a0 Z = true) (hy : yc.cls ≠ "java/lang/invoke/MethodHandle" ∧ yc.cls ≠ "java/lang/invoke/VarHandle") (M : Met l Z yc bc mc rc rm argsL.toArray h n0 Qc) (hsz : Ls.size = maxL) (hf : rm.frames + 1 ≤ R.frames) (hW : (st.map fun v => v.category).sum = W) (hl : W + (mc + 11) + rm.locals ≤ R.locals) (hc' : cells + rm.cells = c') (hs' : slots + rm.slots = s') (hc : c' ≤ R.cells) (hs : s' ≤ R.slots) (hd : decode bytes pc = .ok (.invokestatic index, 3)) (hn : pc + 3 = n) (hlen : parseMethodDescriptor yc.desc = some ⟨ps, rc⟩) (hal : argsL.length = ps.length) (hst : stk = argsL.reverse ++ st) (k : ∀ v h', Qc v h' → Go p l e R s m args below meth c n0 Q c' s' h' (mkF m n Ls (v.toList ++ st))) : Go p l e R s m args below meth c n0 Q cells slots h (mkF m pc Ls (stk)) := fun T locs X N q => by
  subst hn hW hc' hs' hst
  obtain ⟨v, _, ⟨T', L', k', n''⟩, -, X', ⟨Lc, hQ, h1, h2, h3⟩, st'⟩ := Jvm.LawKit.callS X C.x (y := yc) C.own (mvT C.z w1) (mvT C.z w2) (mvT C.z w3) (mvT C.z w4) hy (backOf (W := (st.map fun v => v.category).sum) (Q := fun v h L => Fr n0 L ∧ Qc v h) (M []) C.z w4 w3 hf hl) (g := mkF m pc Ls (argsL.reverse ++ st)) rfl (hsz.trans C.ml.symm) (argsL := argsL) (rest := st) (lenOf hlen hal) rfl (by show 2 * 0 + _ ≤ _; omega) (hb C.by hd) (fun _ _ => ⟨rfl, q, hc, hs⟩)
  dsimp only [Pt.U, Pt.locs, Pt.cells, Pt.slots] at X' h1 h2 h3 st' hQ
  subst h1 h2 h3
  obtain ⟨t, o, s1, r⟩ := k v _ hQ.2 T' _ X' (Fr.app N hQ.1) rfl
  exact ⟨t, o, st' t s1, r⟩
theorem G.callC (C : Cx p s m meth c Z y bytes maxL ret) {index W : Nat} {yc : MethodName} {bc : ByteArray} {mc : Nat} {rm : Room} {c' s' : Nat} {Qc : Option Value → Heap → Prop} {ps : List FieldType} {argsL stk : List Value} {a : Addr} (hy1 : yc.name = "<init>") (w1 : (Jvm.Cond.methodLink y.cls index yc).before a0 Z = true) (w2 : (Jvm.Cond.instanceMethod yc).before a0 Z = true) (w3 : (Jvm.Cond.initialized yc.cls).before a0 Z = true) (w4 : (Jvm.Cond.code yc bc mc none).before a0 Z = true) (hy : yc.cls ≠ "java/lang/invoke/MethodHandle" ∧ yc.cls ≠ "java/lang/invoke/VarHandle") (M : Met l Z yc bc mc none rm (.ref a :: argsL).toArray h n0 Qc) (hsz : Ls.size = maxL) (hf : rm.frames + 1 ≤ R.frames) (hW : (st.map fun v => v.category).sum = W) (hl : W + (mc + 11) + rm.locals ≤ R.locals) (hc' : cells + rm.cells = c') (hs' : slots + rm.slots = s') (hc : c' ≤ R.cells) (hs : s' ≤ R.slots) (hd : decode bytes pc = .ok (.invokespecial index, 3)) (hn : pc + 3 = n) (hlen : parseMethodDescriptor yc.desc = some ⟨ps, none⟩) (hal : argsL.length = ps.length) (hst : stk = argsL.reverse ++ .ref a :: st) (k : ∀ v h', Qc v h' → Go p l e R s m args below meth c n0 Q c' s' h' (mkF m n Ls (v.toList ++ st))) : Go p l e R s m args below meth c n0 Q cells slots h (mkF m pc Ls (stk)) := fun T locs X N q => by
  subst hn hW hc' hs' hst
  obtain ⟨v, _, ⟨T', L', k', n''⟩, -, X', ⟨Lc, hQ, h1, h2, h3⟩, st'⟩ := X.specialBack C.x (y := yc) hy1 C.own (mvT C.z w1) (mvT C.z w2) (mvT C.z w4) hy (backOf (W := (st.map fun v => v.category).sum) (Q := fun v h L => Fr n0 L ∧ Qc v h) (M []) C.z w4 w3 hf hl) (g := mkF m pc Ls (argsL.reverse ++ .ref a :: st)) rfl (hsz.trans C.ml.symm) (Steps.refl _) (a := a) (argsL := argsL) (rest := st) (lenOf hlen hal) rfl (by show 2 * 0 + _ ≤ _; omega) (hb C.by hd) (fun _ _ => ⟨rfl, q, hc, hs⟩)
  dsimp only [Pt.U, Pt.locs, Pt.cells, Pt.slots] at X' h1 h2 h3 st' hQ
  subst h1 h2 h3
  obtain ⟨t, o, s1, r⟩ := k v _ hQ.2 T' _ X' (Fr.app N hQ.1) rfl
  exact ⟨t, o, st'.trans s1, r⟩
theorem G.callV (C : Cx p s m meth c Z y bytes maxL ret) {index W : Nat} {yc : MethodName} {bc : ByteArray} {mc : Nat} {rc : Option FieldType} {rm : Room} {c' s' : Nat} {Qc : Option Value → Heap → Prop} {ps : List FieldType} {K : String} {yr : MethodName} {argsL stk : List Value} {a : Addr} (E : Exa Z h a K) (w1 : (Jvm.Cond.methodLink y.cls index yr).before a0 Z = true) (w5 : (Jvm.Cond.declares yr).before a0 Z = true) (hnf : ∀ s : State, Z.Warmed39 s.vm → NotFace s yr) (w6 : (Jvm.Cond.selects K yr yc).before a0 Z = true) (w2 : (Jvm.Cond.instanceMethod yc).before a0 Z = true) (w3 : (Jvm.Cond.initialized yc.cls).before a0 Z = true) (w4 : (Jvm.Cond.code yc bc mc rc).before a0 Z = true) (hy : yr.cls ≠ "java/lang/invoke/MethodHandle" ∧ yr.cls ≠ "java/lang/invoke/VarHandle") (M : Met l Z yc bc mc rc rm (.ref a :: argsL).toArray h n0 Qc) (hsz : Ls.size = maxL) (hf : rm.frames + 1 ≤ R.frames) (hW : (st.map fun v => v.category).sum = W) (hl : W + (mc + 11) + rm.locals ≤ R.locals) (hc' : cells + rm.cells = c') (hs' : slots + rm.slots = s') (hc : c' ≤ R.cells) (hs : s' ≤ R.slots) (hd : decode bytes pc = .ok (.invokevirtual index, 3)) (hn : pc + 3 = n) (hlen : parseMethodDescriptor yr.desc = some ⟨ps, rc⟩) (hal : argsL.length = ps.length) (hst : stk = argsL.reverse ++ .ref a :: st) (k : ∀ v h', Qc v h' → Go p l e R s m args below meth c n0 Q c' s' h' (mkF m n Ls (v.toList ++ st))) : Go p l e R s m args below meth c n0 Q cells slots h (mkF m pc Ls (stk)) := fun T locs X N q => by
  subst hn hW hc' hs' hst
  obtain ⟨cq, kq, qa, qb, qc⟩ := isOf C.z q E
  obtain ⟨v, _, ⟨T', L', k', n''⟩, -, X', ⟨Lc, hQ, h1, h2, h3⟩, st'⟩ := X.virtualBack C.x (y := yr) (z := yc) C.own (mvT C.z w1) (mvT C.z w5) (hnf s C.z) (mvT C.z w6) (mvT C.z w2) hy (backOf (W := (st.map fun v => v.category).sum) (Q := fun v h L => Fr n0 L ∧ Qc v h) (M []) C.z w4 w3 hf hl) qa qc (g := mkF m pc Ls (argsL.reverse ++ .ref a :: st)) rfl (hsz.trans C.ml.symm) (Steps.refl _) (argsL := argsL) (rest := st) (lenOf hlen hal) rfl (by show 2 * 0 + _ ≤ _; omega) (hb C.by hd) (fun _ _ => ⟨rfl, q, hc, hs⟩)
  dsimp only [Pt.U, Pt.locs, Pt.cells, Pt.slots] at X' h1 h2 h3 st' hQ
  subst h1 h2 h3
  obtain ⟨t, o, s1, r⟩ := k v _ hQ.2 T' _ X' (Fr.app N hQ.1) rfl
  exact ⟨t, o, st'.trans s1, r⟩
theorem nfS {yr : MethodName} {K : String} {z : MethodName} (w6 : (Jvm.Cond.selects K yr z).before a0 Z = true) (hz : z = yr) : ∀ s : State, Z.Warmed39 s.vm → NotFace s yr := fun s hZ => by
  subst hz
  exact notFace_of_selects (args := #[]) (mvT hZ w6)
def Ints (Z : State) (h : Heap) (a : Addr) (ty : FieldType) (vs : List Int32) : Prop := ∃ k z, Arv Z h a k ty z (vs.map Value.int) (.int 0) ∧ z.toInt = vs.length
def Longs (Z : State) (h : Heap) (a : Addr) (vs : List Int64) : Prop := ∃ k z, Arv Z h a k .long z (vs.map Value.long) (.long 0) ∧ z.toInt = vs.length
theorem nat_clamp {j : Int32} : j.toNatClampNeg = j.toInt.toNat := rfl
theorem not_neg {j : Int32} (hj : 0 ≤ j.toInt) : ¬ j < 0 := by rw [lt_i]; exact Int.not_lt.mpr hj
theorem of_not_neg {j : Int32} (hj : ¬ j < 0) : 0 ≤ j.toInt := by rw [lt_i] at hj; exact Int.not_lt.mp hj
theorem inb {j z : Int32} {cl : Cell} {len : Nat} (hj : 0 ≤ j.toInt) (S : cl.slots.size = z.toNatClampNeg) (hz : z.toInt = len) (hl : j.toInt.toNat < len) : ¬ (j < 0 ∨ cl.slots.size ≤ j.toNatClampNeg) := by
  rintro (q | q)
  · exact not_neg hj q
  · rw [S, nat_clamp, nat_clamp, hz] at q; omega
theorem getD_map {α : Type} (f : α → Value) (vs : List α) (i : Nat) (d : Value) {x : α} (hx : vs[i]? = some x) : (vs.map f).getD i d = f x := by
  rw [List.getD_eq_getElem?_getD, List.getElem?_map, hx]; rfl
theorem lt_of_some {α : Type} {vs : List α} {i : Nat} {x : α} (hx : vs[i]? = some x) : i < vs.length := (List.getElem?_eq_some_iff.mp hx).1
theorem Ints.lt {a : Addr} {ty : FieldType} {vs : List Int32} (F : Ints Z h a ty vs) : a < h.size := by obtain ⟨k, z, A, -⟩ := F; exact A.lt
theorem Ints.ext {h' : Heap} {a : Addr} {ty : FieldType} {vs : List Int32} (F : Ints Z h a ty vs) (E : Ext h h') : Ints Z h' a ty vs := by obtain ⟨k, z, A, q⟩ := F; exact ⟨k, z, A.ext E, q⟩
theorem Ints.keep {h' : Heap} {ws : List Addr} {a : Addr} {ty : FieldType} {vs : List Int32} (F : Ints Z h a ty vs) (K : Keep h h' ws) (r : a ∉ ws) : Ints Z h' a ty vs := by obtain ⟨k, z, A, q⟩ := F; exact ⟨k, z, A.keep K r, q⟩
theorem Ints.other {h' : Heap} {sl : Nat} {v : Value} {a b : Addr} {ty : FieldType} {vs : List Int32} (F : Ints Z h a ty vs) (W : Wr h h' b sl v) (r : a ≠ b) : Ints Z h' a ty vs := by obtain ⟨k, z, A, q⟩ := F; exact ⟨k, z, A.other W r, q⟩
theorem Ints.len {a : Addr} {ty : FieldType} {vs : List Int32} (F : Ints Z h a ty vs) : (vs.length : Int) < 2147483648 := by obtain ⟨k, z, A, q⟩ := F; rw [← q]; exact (rng32 z).2
theorem Ints.at {a : Addr} {ty : FieldType} {vs : List Int32} (F : Ints Z h a ty vs) {j : Int32} {x : Int32} (hj : 0 ≤ j.toInt) (hx : vs[j.toInt.toNat]? = some x) : ∃ cl, Arr Z h a cl ty ∧ ¬ (j < 0 ∨ cl.slots.size ≤ j.toNatClampNeg) ∧ cl.slots[j.toNatClampNeg]? = some (.int x) ∧ fits ty (.int x) = true := by
  obtain ⟨k, z, ⟨cl, A, q1, S, N, H, G⟩, hz⟩ := F
  have hi := inb hj S hz (lt_of_some hx)
  have hi2 : j.toNatClampNeg < cl.slots.size := Nat.lt_of_not_le fun y => hi (Or.inr y)
  have e1 := H _ hi2
  have e2 := G _ hi2
  rw [nat_clamp, getD_map _ _ _ _ hx] at e1 e2
  exact ⟨cl, A, hi, e1, e2⟩
theorem Ints.put {h' : Heap} {a : Addr} {ty : FieldType} {vs : List Int32} (F : Ints Z h a ty vs) {j : Int32} {x : Int32} (hj : 0 ≤ j.toInt) (hl : j.toInt < vs.length) (hf : fits ty (.int x) = true) : ∃ cl, Arr Z h a cl ty ∧ ¬ (j < 0 ∨ cl.slots.size ≤ j.toNatClampNeg) ∧ (Wr h h' a j.toNatClampNeg (.int x) → Ints Z h' a ty (vs.set j.toInt.toNat x)) := by
  obtain ⟨k, z, ⟨cl, A, q1, S, N, H, G⟩, hz⟩ := F
  have hl2 : j.toInt.toNat < vs.length := by omega
  refine ⟨cl, A, inb hj S hz hl2, fun W => ⟨k, z, ?_, ?_⟩⟩
  · have r := Arv.set A q1 S N H G hf W j.toInt.toNat rfl (by rw [List.length_map]; exact hl2)
    rw [List.map_set]; exact r
  · rw [List.length_set]; exact hz
theorem Longs.lt {a : Addr} {vs : List Int64} (F : Longs Z h a vs) : a < h.size := by obtain ⟨k, z, A, -⟩ := F; exact A.lt
theorem Longs.ext {h' : Heap} {a : Addr} {vs : List Int64} (F : Longs Z h a vs) (E : Ext h h') : Longs Z h' a vs := by obtain ⟨k, z, A, q⟩ := F; exact ⟨k, z, A.ext E, q⟩
theorem Longs.keep {h' : Heap} {ws : List Addr} {a : Addr} {vs : List Int64} (F : Longs Z h a vs) (K : Keep h h' ws) (r : a ∉ ws) : Longs Z h' a vs := by obtain ⟨k, z, A, q⟩ := F; exact ⟨k, z, A.keep K r, q⟩
theorem Longs.other {h' : Heap} {sl : Nat} {v : Value} {a b : Addr} {vs : List Int64} (F : Longs Z h a vs) (W : Wr h h' b sl v) (r : a ≠ b) : Longs Z h' a vs := by obtain ⟨k, z, A, q⟩ := F; exact ⟨k, z, A.other W r, q⟩
theorem Longs.len {a : Addr} {vs : List Int64} (F : Longs Z h a vs) : (vs.length : Int) < 2147483648 := by obtain ⟨k, z, A, q⟩ := F; rw [← q]; exact (rng32 z).2
theorem Longs.at {a : Addr} {vs : List Int64} (F : Longs Z h a vs) {j : Int32} {x : Int64} (hj : 0 ≤ j.toInt) (hx : vs[j.toInt.toNat]? = some x) : ∃ cl, Arr Z h a cl .long ∧ ¬ (j < 0 ∨ cl.slots.size ≤ j.toNatClampNeg) ∧ cl.slots[j.toNatClampNeg]? = some (.long x) ∧ fits .long (.long x) = true := by
  obtain ⟨k, z, ⟨cl, A, q1, S, N, H, G⟩, hz⟩ := F
  have hi := inb hj S hz (lt_of_some hx)
  have hi2 : j.toNatClampNeg < cl.slots.size := Nat.lt_of_not_le fun y => hi (Or.inr y)
  have e1 := H _ hi2
  have e2 := G _ hi2
  rw [nat_clamp, getD_map _ _ _ _ hx] at e1 e2
  exact ⟨cl, A, hi, e1, e2⟩
theorem Longs.put {h' : Heap} {a : Addr} {vs : List Int64} (F : Longs Z h a vs) {j : Int32} {x : Int64} (hj : 0 ≤ j.toInt) (hl : j.toInt < vs.length) (hf : fits .long (.long x) = true) : ∃ cl, Arr Z h a cl .long ∧ ¬ (j < 0 ∨ cl.slots.size ≤ j.toNatClampNeg) ∧ (Wr h h' a j.toNatClampNeg (.long x) → Longs Z h' a (vs.set j.toInt.toNat x)) := by
  obtain ⟨k, z, ⟨cl, A, q1, S, N, H, G⟩, hz⟩ := F
  have hl2 : j.toInt.toNat < vs.length := by omega
  refine ⟨cl, A, inb hj S hz hl2, fun W => ⟨k, z, ?_, ?_⟩⟩
  · have r := Arv.set A q1 S N H G hf W j.toInt.toNat rfl (by rw [List.length_map]; exact hl2)
    rw [List.map_set]; exact r
  · rw [List.length_set]; exact hz
theorem G.iaload (C : Cx p s m meth c Z y bytes maxL ret) {a : Addr} {j : Int32} {x : Int32} {vs : List Int32} (F : Ints Z h a .int vs) (hj : 0 ≤ j.toInt) (hx : vs[j.toInt.toNat]? = some x) (hd : decode bytes pc = .ok (.iaload, 1)) (hn : pc + 1 = n) (k : Go p l e R s m args below meth c n0 Q cells slots h (mkF m n Ls (.int x :: st))) : Go p l e R s m args below meth c n0 Q cells slots h (mkF m pc Ls (.int j :: .ref a :: st)) := by
  subst hn
  obtain ⟨cl, A, h1, h2, -⟩ := F.at hj hx
  exact Go.via (fun T locs X q t r => X.iaload C.x (j := j) (v := .int x) (by rw [q]; exact A.1) (State.isArrayOf_alike C.z.alike A.2.1) A.2.2 h1 h2 (g := mkF m pc Ls (.int j :: .ref a :: st)) rfl rfl (hb C.by hd) t r) k
theorem G.laload (C : Cx p s m meth c Z y bytes maxL ret) {a : Addr} {j : Int32} {x : Int64} {vs : List Int64} (F : Longs Z h a vs) (hj : 0 ≤ j.toInt) (hx : vs[j.toInt.toNat]? = some x) (hd : decode bytes pc = .ok (.laload, 1)) (hn : pc + 1 = n) (k : Go p l e R s m args below meth c n0 Q cells slots h (mkF m n Ls (.long x :: st))) : Go p l e R s m args below meth c n0 Q cells slots h (mkF m pc Ls (.int j :: .ref a :: st)) := by
  subst hn
  obtain ⟨cl, A, h1, h2, -⟩ := F.at hj hx
  exact Go.via (fun T locs X q t r => X.laload C.x (j := j) (v := .long x) (by rw [q]; exact A.1) (State.isArrayOf_alike C.z.alike A.2.1) A.2.2 h1 h2 (g := mkF m pc Ls (.int j :: .ref a :: st)) rfl rfl (hb C.by hd) t r) k
theorem G.caload (C : Cx p s m meth c Z y bytes maxL ret) {a : Addr} {j : Int32} {x : Int32} {vs : List Int32} (F : Ints Z h a .char vs) (hj : 0 ≤ j.toInt) (hx : vs[j.toInt.toNat]? = some x) (hd : decode bytes pc = .ok (.caload, 1)) (hn : pc + 1 = n) (k : Go p l e R s m args below meth c n0 Q cells slots h (mkF m n Ls (.int x :: st))) : Go p l e R s m args below meth c n0 Q cells slots h (mkF m pc Ls (.int j :: .ref a :: st)) := by
  subst hn
  obtain ⟨cl, A, h1, h2, -⟩ := F.at hj hx
  exact Go.via (fun T locs X q t r => X.caload C.x (j := j) (v := .int x) (by rw [q]; exact A.1) (State.isArrayOf_alike C.z.alike A.2.1) A.2.2 h1 h2 (g := mkF m pc Ls (.int j :: .ref a :: st)) rfl rfl (hb C.by hd) t r) k
theorem G.baload (C : Cx p s m meth c Z y bytes maxL ret) {a : Addr} {j : Int32} {x : Int32} {vs : List Int32} (F : Ints Z h a .byte vs) (hj : 0 ≤ j.toInt) (hx : vs[j.toInt.toNat]? = some x) (hd : decode bytes pc = .ok (.baload, 1)) (hn : pc + 1 = n) (k : Go p l e R s m args below meth c n0 Q cells slots h (mkF m n Ls (.int x :: st))) : Go p l e R s m args below meth c n0 Q cells slots h (mkF m pc Ls (.int j :: .ref a :: st)) := by
  subst hn
  obtain ⟨cl, A, h1, h2, -⟩ := F.at hj hx
  exact Go.via (fun T locs X q t r => X.baloadBytes C.x (j := j) (v := .int x) (by rw [q]; exact A.1) (State.isArrayOf_alike C.z.alike A.2.1) A.2.2 h1 h2 (g := mkF m pc Ls (.int j :: .ref a :: st)) rfl rfl (hb C.by hd) t r) k
theorem G.baloadZ (C : Cx p s m meth c Z y bytes maxL ret) {a : Addr} {j : Int32} {x : Int32} {vs : List Int32} (F : Ints Z h a .boolean vs) (hj : 0 ≤ j.toInt) (hx : vs[j.toInt.toNat]? = some x) (hd : decode bytes pc = .ok (.baload, 1)) (hn : pc + 1 = n) (k : Go p l e R s m args below meth c n0 Q cells slots h (mkF m n Ls (.int x :: st))) : Go p l e R s m args below meth c n0 Q cells slots h (mkF m pc Ls (.int j :: .ref a :: st)) := by
  subst hn
  obtain ⟨cl, A, h1, h2, -⟩ := F.at hj hx
  exact Go.via (fun T locs X q t r => X.baloadBooleans C.x (j := j) (v := .int x) (by rw [q]; exact A.1) (State.isArrayOf_alike C.z.alike A.2.1) A.2.2 h1 h2 (g := mkF m pc Ls (.int j :: .ref a :: st)) rfl rfl (hb C.by hd) t r) k
theorem G.iastore (C : Cx p s m meth c Z y bytes maxL ret) {a : Addr} {j : Int32} {x : Int32} {vs : List Int32} (F : Ints Z h a .int vs) (hj : 0 ≤ j.toInt) (hl : j.toInt < vs.length) (g : n0 ≤ a) (hd : decode bytes pc = .ok (.iastore, 1)) (hn : pc + 1 = n) (k : ∀ h', Keep h h' [a] → (∃ w, Wr h h' a j.toNatClampNeg w) → Ints Z h' a .int (vs.set j.toInt.toNat x) → Go p l e R s m args below meth c n0 Q cells slots h' (mkF m n Ls (st))) : Go p l e R s m args below meth c n0 Q cells slots h (mkF m pc Ls (.int x :: .int j :: .ref a :: st)) := fun T locs X N q => by
  subst hn
  obtain ⟨cl, A, h1, -⟩ := F.put (h' := h) hj hl (x := x) rfl
  obtain ⟨T', h', X', e', W, st'⟩ := stI X C.x C.z q A (j := j) h1 (g := mkF m pc Ls (.int x :: .int j :: .ref a :: st)) rfl rfl (hb C.by hd)
  obtain ⟨cl2, A2, -, h3⟩ := F.put (h' := h') hj hl (x := x) rfl
  obtain ⟨t, o, s1, r⟩ := k h' (Keep.of_wr W) ⟨_, W⟩ (h3 W) T' _ X' (Fr.snoc X' N g) e'
  exact ⟨t, o, st' t s1, r⟩
theorem G.lastore (C : Cx p s m meth c Z y bytes maxL ret) {a : Addr} {j : Int32} {x : Int64} {vs : List Int64} (F : Longs Z h a vs) (hj : 0 ≤ j.toInt) (hl : j.toInt < vs.length) (g : n0 ≤ a) (hd : decode bytes pc = .ok (.lastore, 1)) (hn : pc + 1 = n) (k : ∀ h', Keep h h' [a] → (∃ w, Wr h h' a j.toNatClampNeg w) → Longs Z h' a (vs.set j.toInt.toNat x) → Go p l e R s m args below meth c n0 Q cells slots h' (mkF m n Ls (st))) : Go p l e R s m args below meth c n0 Q cells slots h (mkF m pc Ls (.long x :: .int j :: .ref a :: st)) := fun T locs X N q => by
  subst hn
  obtain ⟨cl, A, h1, -⟩ := F.put (h' := h) hj hl (x := x) rfl
  obtain ⟨T', h', X', e', W, st'⟩ := stJ X C.x C.z q A (j := j) h1 (g := mkF m pc Ls (.long x :: .int j :: .ref a :: st)) rfl rfl (hb C.by hd)
  obtain ⟨cl2, A2, -, h3⟩ := F.put (h' := h') hj hl (x := x) rfl
  obtain ⟨t, o, s1, r⟩ := k h' (Keep.of_wr W) ⟨_, W⟩ (h3 W) T' _ X' (Fr.snoc X' N g) e'
  exact ⟨t, o, st' t s1, r⟩
theorem G.castore (C : Cx p s m meth c Z y bytes maxL ret) {a : Addr} {j : Int32} {x : Int32} {vs : List Int32} (F : Ints Z h a .char vs) (hj : 0 ≤ j.toInt) (hl : j.toInt < vs.length) (g : n0 ≤ a) (hd : decode bytes pc = .ok (.castore, 1)) (hn : pc + 1 = n) (k : ∀ h', Keep h h' [a] → (∃ w, Wr h h' a j.toNatClampNeg w) → Ints Z h' a .char (vs.set j.toInt.toNat (nar .char x)) → Go p l e R s m args below meth c n0 Q cells slots h' (mkF m n Ls (st))) : Go p l e R s m args below meth c n0 Q cells slots h (mkF m pc Ls (.int x :: .int j :: .ref a :: st)) := fun T locs X N q => by
  subst hn
  obtain ⟨cl, A, h1, -⟩ := F.put (h' := h) hj hl (x := (nar .char x)) (fits_nar_char x)
  obtain ⟨T', h', X', e', W, st'⟩ := stC X C.x C.z q A (j := j) h1 (g := mkF m pc Ls (.int x :: .int j :: .ref a :: st)) rfl rfl (hb C.by hd)
  obtain ⟨cl2, A2, -, h3⟩ := F.put (h' := h') hj hl (x := (nar .char x)) (fits_nar_char x)
  obtain ⟨t, o, s1, r⟩ := k h' (Keep.of_wr W) ⟨_, W⟩ (h3 W) T' _ X' (Fr.snoc X' N g) e'
  exact ⟨t, o, st' t s1, r⟩
theorem G.bastore (C : Cx p s m meth c Z y bytes maxL ret) {a : Addr} {j : Int32} {x : Int32} {vs : List Int32} (F : Ints Z h a .byte vs) (hj : 0 ≤ j.toInt) (hl : j.toInt < vs.length) (g : n0 ≤ a) (hd : decode bytes pc = .ok (.bastore, 1)) (hn : pc + 1 = n) (k : ∀ h', Keep h h' [a] → (∃ w, Wr h h' a j.toNatClampNeg w) → Ints Z h' a .byte (vs.set j.toInt.toNat (nar .byte x)) → Go p l e R s m args below meth c n0 Q cells slots h' (mkF m n Ls (st))) : Go p l e R s m args below meth c n0 Q cells slots h (mkF m pc Ls (.int x :: .int j :: .ref a :: st)) := fun T locs X N q => by
  subst hn
  obtain ⟨cl, A, h1, -⟩ := F.put (h' := h) hj hl (x := (nar .byte x)) (fits_nar_byte x)
  obtain ⟨T', h', X', e', W, st'⟩ := stB X C.x C.z q A (j := j) h1 (g := mkF m pc Ls (.int x :: .int j :: .ref a :: st)) rfl rfl (hb C.by hd)
  obtain ⟨cl2, A2, -, h3⟩ := F.put (h' := h') hj hl (x := (nar .byte x)) (fits_nar_byte x)
  obtain ⟨t, o, s1, r⟩ := k h' (Keep.of_wr W) ⟨_, W⟩ (h3 W) T' _ X' (Fr.snoc X' N g) e'
  exact ⟨t, o, st' t s1, r⟩
theorem G.bastoreZ (C : Cx p s m meth c Z y bytes maxL ret) {a : Addr} {j : Int32} {x : Int32} {vs : List Int32} (F : Ints Z h a .boolean vs) (hj : 0 ≤ j.toInt) (hl : j.toInt < vs.length) (g : n0 ≤ a) (hd : decode bytes pc = .ok (.bastore, 1)) (hn : pc + 1 = n) (k : ∀ h', Keep h h' [a] → (∃ w, Wr h h' a j.toNatClampNeg w) → Ints Z h' a .boolean (vs.set j.toInt.toNat (nar .boolean x)) → Go p l e R s m args below meth c n0 Q cells slots h' (mkF m n Ls (st))) : Go p l e R s m args below meth c n0 Q cells slots h (mkF m pc Ls (.int x :: .int j :: .ref a :: st)) := fun T locs X N q => by
  subst hn
  obtain ⟨cl, A, h1, -⟩ := F.put (h' := h) hj hl (x := (nar .boolean x)) (fits_nar_bool x)
  obtain ⟨T', h', X', e', W, st'⟩ := stZ X C.x C.z q A (j := j) h1 (g := mkF m pc Ls (.int x :: .int j :: .ref a :: st)) rfl rfl (hb C.by hd)
  obtain ⟨cl2, A2, -, h3⟩ := F.put (h' := h') hj hl (x := (nar .boolean x)) (fits_nar_bool x)
  obtain ⟨t, o, s1, r⟩ := k h' (Keep.of_wr W) ⟨_, W⟩ (h3 W) T' _ X' (Fr.snoc X' N g) e'
  exact ⟨t, o, st' t s1, r⟩
theorem len32 {z : Int32} {k : Nat} (hz : z.toInt = k) : z = Int32.ofNat k := by
  have h2 := (rng32 z).2
  exact Int32.toInt_inj.mp (by rw [Int32.toInt_ofNat_of_lt (by omega)]; exact hz)
theorem G.arraylengthI (C : Cx p s m meth c Z y bytes maxL ret) {a : Addr} {ty : FieldType} {vs : List Int32} {len : Int32} (F : Ints Z h a ty vs) (hlen : len.toInt = vs.length) (hd : decode bytes pc = .ok (.arraylength, 1)) (hn : pc + 1 = n) (k : Go p l e R s m args below meth c n0 Q cells slots h (mkF m n Ls (.int len :: st))) : Go p l e R s m args below meth c n0 Q cells slots h (mkF m pc Ls (.ref a :: st)) := by
  subst hn
  obtain ⟨k', z, ⟨cl, A, q1, S, N, H, G⟩, hz⟩ := F
  have e1 : cl.slots.size.toInt32 = len := (len_of S N).trans (Int32.toInt_inj.mp (hz.trans hlen.symm))
  exact Go.via (fun T locs X q t r => X.arraylength C.x (by rw [q]; exact A.1) (State.isArrayOf_alike C.z.alike A.2.1) (g := mkF m pc Ls (.ref a :: st)) rfl rfl (hb C.by hd) t (by rw [e1]; exact r)) k
theorem G.arraylengthL (C : Cx p s m meth c Z y bytes maxL ret) {a : Addr} {vs : List Int64} {len : Int32} (F : Longs Z h a vs) (hlen : len.toInt = vs.length) (hd : decode bytes pc = .ok (.arraylength, 1)) (hn : pc + 1 = n) (k : Go p l e R s m args below meth c n0 Q cells slots h (mkF m n Ls (.int len :: st))) : Go p l e R s m args below meth c n0 Q cells slots h (mkF m pc Ls (.ref a :: st)) := by
  subst hn
  obtain ⟨k', z, ⟨cl, A, q1, S, N, H, G⟩, hz⟩ := F
  have e1 : cl.slots.size.toInt32 = len := (len_of S N).trans (Int32.toInt_inj.mp (hz.trans hlen.symm))
  exact Go.via (fun T locs X q t r => X.arraylength C.x (by rw [q]; exact A.1) (State.isArrayOf_alike C.z.alike A.2.1) (g := mkF m pc Ls (.ref a :: st)) rfl rfl (hb C.by hd) t (by rw [e1]; exact r)) k
theorem G.newarray (C : Cx p s m meth c Z y bytes maxL ret) {aty : ArrayType} {ty : FieldType} {len : Int32} {cap c' s' : Nat} (w : (Jvm.Cond.arrayClass ty).before a0 Z = true) (hty : newarray.typeOf aty = ty) (hdv : defaultValue ty = .int 0) (hlen : 0 ≤ len.toInt) (hcap : len.toInt ≤ cap) (hbig : cap * 8 ≤ 536870912) (hd : decode bytes pc = .ok (.newarray aty, 2)) (hn : pc + 2 = n) (hc' : cells + 1 = c') (hs' : slots + cap = s') (hc : c' ≤ R.cells) (hs : s' ≤ R.slots)
    (k : ∀ h' b, b = h.size → Ext h h' → Ints Z h' b ty (List.replicate len.toInt.toNat 0) → Go p l e R s m args below meth c n0 Q c' s' h' (mkF m n Ls (.ref b :: st))) : Go p l e R s m args below meth c n0 Q cells slots h (mkF m pc Ls (.int len :: st)) := fun T locs X N q => by
  subst hn hc' hs' hty
  obtain ⟨T', h', cA, X', e', E, A, st'⟩ := newP X C.x C.z w q (g := mkF m pc Ls (.int len :: st)) rfl (hb C.by hd) rfl (not_neg hlen) (cap := cap) (by rw [nat_clamp]; omega) hbig hc hs
  have V := (Arv.new A (not_neg hlen))
  rw [hdv] at V
  have V2 := V.pad (pad_rep [] _ len.toInt.toNat)
  rw [List.nil_append, ← List.map_replicate (f := Value.int)] at V2
  obtain ⟨t, o, s1, r⟩ := k h' _ rfl E ⟨cA, len, V2, by rw [List.length_replicate]; omega⟩ T' _ X' N e'
  exact ⟨t, o, st' t s1, r⟩
theorem G.newarrayJ (C : Cx p s m meth c Z y bytes maxL ret) {aty : ArrayType} {ty : FieldType} {len : Int32} {cap c' s' : Nat} (w : (Jvm.Cond.arrayClass ty).before a0 Z = true) (hty : newarray.typeOf aty = ty) (hdv : defaultValue ty = .long 0) (hJ : ty = .long) (hlen : 0 ≤ len.toInt) (hcap : len.toInt ≤ cap) (hbig : cap * 8 ≤ 536870912) (hd : decode bytes pc = .ok (.newarray aty, 2)) (hn : pc + 2 = n) (hc' : cells + 1 = c') (hs' : slots + cap = s') (hc : c' ≤ R.cells) (hs : s' ≤ R.slots)
    (k : ∀ h' b, b = h.size → Ext h h' → Longs Z h' b (List.replicate len.toInt.toNat 0) → Go p l e R s m args below meth c n0 Q c' s' h' (mkF m n Ls (.ref b :: st))) : Go p l e R s m args below meth c n0 Q cells slots h (mkF m pc Ls (.int len :: st)) := fun T locs X N q => by
  subst hn hc' hs' hty
  obtain ⟨T', h', cA, X', e', E, A, st'⟩ := newP X C.x C.z w q (g := mkF m pc Ls (.int len :: st)) rfl (hb C.by hd) rfl (not_neg hlen) (cap := cap) (by rw [nat_clamp]; omega) hbig hc hs
  have V := (Arv.new A (not_neg hlen))
  rw [hdv] at V
  have V2 := V.pad (pad_rep [] _ len.toInt.toNat)
  rw [List.nil_append, ← List.map_replicate (f := Value.long), hJ] at V2
  obtain ⟨t, o, s1, r⟩ := k h' _ rfl E ⟨cA, len, V2, by rw [List.length_replicate]; omega⟩ T' _ X' N e'
  exact ⟨t, o, st' t s1, r⟩
theorem getD_at {α : Type} {vs : List α} {i : Nat} {d : α} (h : i < vs.length) : vs[i]? = some (vs.getD i d) := by
  rw [List.getD_eq_getElem?_getD, List.getElem?_eq_getElem h]; rfl
def Refs (Z : State) (h : Heap) (a : Addr) (ty : FieldType) (vs : List Value) : Prop := ∃ k z, Arv Z h a k ty z vs .null ∧ z.toInt = vs.length
theorem Refs.lt {a : Addr} {ty : FieldType} {vs : List Value} (F : Refs Z h a ty vs) : a < h.size := by obtain ⟨k, z, A, -⟩ := F; exact A.lt
theorem Refs.keep {h' : Heap} {ws : List Addr} {a : Addr} {ty : FieldType} {vs : List Value} (F : Refs Z h a ty vs) (K : Keep h h' ws) (r : a ∉ ws) : Refs Z h' a ty vs := by obtain ⟨k, z, A, q⟩ := F; exact ⟨k, z, A.keep K r, q⟩
theorem Refs.at {a : Addr} {ty : FieldType} {vs : List Value} (F : Refs Z h a ty vs) {j : Int32} {x : Value} (hj : 0 ≤ j.toInt) (hx : vs[j.toInt.toNat]? = some x) : ∃ cl, Arr Z h a cl ty ∧ ¬ (j < 0 ∨ cl.slots.size ≤ j.toNatClampNeg) ∧ cl.slots[j.toNatClampNeg]? = some x := by
  obtain ⟨k, z, ⟨cl, A, q1, S, N, H, G⟩, hz⟩ := F
  have hi := inb hj S hz (lt_of_some hx)
  have hi2 : j.toNatClampNeg < cl.slots.size := Nat.lt_of_not_le fun y => hi (Or.inr y)
  have e1 := H _ hi2
  rw [nat_clamp, List.getD_eq_getElem?_getD, hx] at e1
  exact ⟨cl, A, hi, e1⟩
theorem G.aaload (C : Cx p s m meth c Z y bytes maxL ret) {a : Addr} {j : Int32} {x : Value} {ty : FieldType} {vs : List Value} (F : Refs Z h a ty vs) (hty : ty.isReference = true) (hj : 0 ≤ j.toInt) (hx : vs[j.toInt.toNat]? = some x) (hd : decode bytes pc = .ok (.aaload, 1)) (hn : pc + 1 = n) (k : Go p l e R s m args below meth c n0 Q cells slots h (mkF m n Ls (x :: st))) : Go p l e R s m args below meth c n0 Q cells slots h (mkF m pc Ls (.int j :: .ref a :: st)) := by
  subst hn
  obtain ⟨cl, A, h1, h2⟩ := F.at hj hx
  exact Go.via (fun T locs X q t r => X.aaload C.x (j := j) (v := x) (by rw [q]; exact A.1) (State.isArrayOf_alike C.z.alike A.2.1) hty A.2.2 h1 h2 (g := mkF m pc Ls (.int j :: .ref a :: st)) rfl rfl (hb C.by hd) t r) k
theorem G.arraylengthR (C : Cx p s m meth c Z y bytes maxL ret) {a : Addr} {ty : FieldType} {vs : List Value} {len : Int32} (F : Refs Z h a ty vs) (hlen : len.toInt = vs.length) (hd : decode bytes pc = .ok (.arraylength, 1)) (hn : pc + 1 = n) (k : Go p l e R s m args below meth c n0 Q cells slots h (mkF m n Ls (.int len :: st))) : Go p l e R s m args below meth c n0 Q cells slots h (mkF m pc Ls (.ref a :: st)) := by
  subst hn
  obtain ⟨k', z, ⟨cl, A, q1, S, N, H, G⟩, hz⟩ := F
  have e1 : cl.slots.size.toInt32 = len := (len_of S N).trans (Int32.toInt_inj.mp (hz.trans hlen.symm))
  exact Go.via (fun T locs X q t r => X.arraylength C.x (by rw [q]; exact A.1) (State.isArrayOf_alike C.z.alike A.2.1) (g := mkF m pc Ls (.ref a :: st)) rfl rfl (hb C.by hd) t (by rw [e1]; exact r)) k
theorem eqv_r {Z : State} {args : Array Value} {X F : Term} {idx : List Nat} {y : Addr} (hF : F.eval args Z none idx Z = some (.ref y)) (h : (Jvm.Cond.eq X F).value args Z none Z idx = some true) : X.eval args Z none idx Z = some (.ref y) := by
  obtain ⟨x, y', e1, e2, k1, k2⟩ := cmp_v (Or.inl h)
  cases hF.symm.trans e2
  have hx : x.isRef = true := k2.2
  have := gotT (eq_R e1 hF hx rfl) h
  rw [e1, this]
theorem len_q {Z : State} {args : Array Value} {t : Term} {a : Addr} {cl : Cell} {y : Int32} (ht : t.eval args Z none [] Z = some (.ref a)) (ha : Z.arrayAt? a = some cl) (h : (Term.length t).eval args Z none [] Z = some (.int y)) : cl.slots.size < 2 ^ 31 ∧ cl.slots.size.toInt32 = y := by
  simp [Term.eval, ht, ha] at h
  exact h
theorem Refs.start {s : State} {a : Addr} {cl : Cell} {ty : FieldType} {z : Int32} {vs : List Value} (hf : Fit s) (A : Arr s s.heap a cl ty) (q : cl.slots.size < 2 ^ 31 ∧ cl.slots.size.toInt32 = z) (hz : z.toInt = vs.length) (H : HasL cl 0 vs) : Refs s s.heap a ty vs :=
  ⟨cl.cls, z, Arv.start hf A q.1 q.2 (not_neg (by omega)) (by rw [nat_clamp]; omega) H, hz⟩
theorem Ints.start {s : State} {a : Addr} {cl : Cell} {ty : FieldType} {z : Int32} {vs : List Int32} (hf : Fit s) (A : Arr s s.heap a cl ty) (q : cl.slots.size < 2 ^ 31 ∧ cl.slots.size.toInt32 = z) (hz : z.toInt = vs.length) (H : HasL cl 0 (vs.map Value.int)) : Ints s s.heap a ty vs :=
  ⟨cl.cls, z, Arv.start hf A q.1 q.2 (not_neg (by omega)) (by rw [nat_clamp, List.length_map]; omega) H, hz⟩
theorem us_all (vs : List Int32) : ((List.range vs.length).map fun i => (vs.map Value.int).getD (0 + i) (.int 0)) = vs.map Value.int := by
  apply List.ext_getElem (by simp)
  intro i h1 h2
  simp at h1
  simp [h1]
theorem G.arraycopy0 (C : Cx p s m meth c Z y bytes maxL ret) {index W : Nat} {ty : FieldType} {a b : Addr} {vs vd : List Int32} {nn : Int32} (w1 : (Jvm.Cond.methodLink y.cls index Jvm.Stand.acN).before a0 Z = true) (w2 : (Jvm.Cond.native Jvm.Stand.acN).before a0 Z = true) (w3 : (Jvm.Cond.static Jvm.Stand.acN).before a0 Z = true) (w4 : (Jvm.Cond.initialized "java/lang/System").before a0 Z = true) (A : Ints Z h a ty vs) (B : Ints Z h b ty vd) (hp : refKind ty = false) (h3 : nn.toInt = vs.length) (h5 : vs.length ≤ vd.length) (g : n0 ≤ b)
    (hd : decode bytes pc = .ok (.invokestatic index, 3)) (hsz : Ls.size = maxL) (hf : 1 ≤ R.frames) (hW : (st.map fun v => v.category).sum = W) (hlo : W + (nativeFrameWords "java/lang/System" "arraycopy" 5 + 11) ≤ R.locals) (hn : pc + 3 = n) (k : ∀ h', Keep h h' [b] → Ints Z h' b ty (vs ++ vd.drop vs.length) → Go p l e R s m args below meth c n0 Q cells slots h' (mkF m n Ls (st))) : Go p l e R s m args below meth c n0 Q cells slots h (mkF m pc Ls (.int nn :: .int 0 :: .ref b :: .int 0 :: .ref a :: st)) := fun T locs X N q => by
  subst hn hW
  obtain ⟨k1, z1, A1, e1⟩ := A
  obtain ⟨k2, z2, B1, e2⟩ := B
  have hnn : nn.toNatClampNeg = vs.length := by rw [nat_clamp, h3]; rfl
  have z1n : z1.toNatClampNeg = vs.length := by rw [nat_clamp, e1]; rfl
  have z2n : z2.toNatClampNeg = vd.length := by rw [nat_clamp, e2]; rfl
  obtain ⟨T', h', L, X', e', NL, K, V, st'⟩ := cpA X C.x C.z C.own w1 w2 w3 w4 q (us := vs.map Value.int) A1 B1 (Or.inl ⟨rfl, hp⟩) (sp := 0) (dp := 0) (nn := nn) (by decide) (by decide) (not_neg (by omega)) (by rw [hnn, z1n]; show 0 + _ ≤ _; omega) (by rw [hnn, z2n]; show 0 + _ ≤ _; omega) (by rw [hnn]; exact (us_all vs).symm) (by rw [hnn, List.length_map]; show 0 + _ ≤ _; omega) N g (g := mkF m pc Ls (.int nn :: .int 0 :: .ref b :: .int 0 :: .ref a :: st)) rfl (hsz.trans C.ml.symm) rfl (hb C.by hd) hf (W := (st.map fun v => v.category).sum) (by show 2 * 0 + _ ≤ _; omega) hlo
  rw [hnn, show (0 : Int32).toNatClampNeg = 0 from rfl, List.take_zero, List.nil_append, Nat.zero_add, ← List.map_drop, ← List.map_append] at V
  obtain ⟨t, o, s1, r⟩ := k h' K ⟨k2, z2, V, by rw [e2, List.length_append, List.length_drop]; omega⟩ T' L X' NL e'
  exact ⟨t, o, st' t s1, r⟩
theorem kext {h' : Heap} (E : Ext h h') : Keep h h' [] := (Keep.refl h []).ext E
theorem Keep.tr {h' h'' : Heap} {ws ws' : List Addr} (K : Keep h h' ws) (K' : Keep h' h'' ws') (q : ∀ x ∈ ws', x ∈ ws ∨ h.size ≤ x) : Keep h h'' ws := K.trans K' q
theorem G.dconst0 (C : Cx p s m meth c Z y bytes maxL ret)  (hd : decode bytes pc = .ok (.dconst 0, 1))  (hn : pc + 1 = n) (k : Go p l e R s m args below meth c n0 Q cells slots h (mkF m n Ls (.double FP.dconst0 :: st))) : Go p l e R s m args below meth c n0 Q cells slots h (mkF m pc Ls (st)) := by
  subst hn
  exact Go.via (fun T locs X _ t q => XS.dconst0 X.here C.x rfl (hb C.by hd) rfl q) k
theorem G.dconst1 (C : Cx p s m meth c Z y bytes maxL ret)  (hd : decode bytes pc = .ok (.dconst 1, 1))  (hn : pc + 1 = n) (k : Go p l e R s m args below meth c n0 Q cells slots h (mkF m n Ls (.double FP.dconst1 :: st))) : Go p l e R s m args below meth c n0 Q cells slots h (mkF m pc Ls (st)) := by
  subst hn
  exact Go.via (fun T locs X _ t q => XS.dconst1 X.here C.x rfl (hb C.by hd) rfl q) k
theorem G.dload (C : Cx p s m meth c Z y bytes maxL ret) {k : Nat} {v : UInt64} (hd : decode bytes pc = .ok (.dload k, 2)) (hl : Ls[k]? = some (.val (.double v))) (hn : pc + 2 = n) (k : Go p l e R s m args below meth c n0 Q cells slots h (mkF m n Ls (.double v :: st))) : Go p l e R s m args below meth c n0 Q cells slots h (mkF m pc Ls (st)) := by
  subst hn
  exact Go.via (fun T locs X _ t q => XS.dload X.here C.x rfl (hb C.by hd) hl q) k
theorem G.dloadN (C : Cx p s m meth c Z y bytes maxL ret) {k : Fin 4} {v : UInt64} (hd : decode bytes pc = .ok (.dload_n k, 1)) (hl : Ls[k.val]? = some (.val (.double v))) (hn : pc + 1 = n) (k : Go p l e R s m args below meth c n0 Q cells slots h (mkF m n Ls (.double v :: st))) : Go p l e R s m args below meth c n0 Q cells slots h (mkF m pc Ls (st)) := by
  subst hn
  exact Go.via (fun T locs X _ t q => XS.dloadN X.here C.x rfl (hb C.by hd) hl q) k
theorem G.ldc2D (C : Cx p s m meth c Z y bytes maxL ret) {index : Nat} {v : UInt64} (w : (Jvm.Cond.constantDouble y.cls index v).before a0 Z = true) (hd : decode bytes pc = .ok (.ldc2_w index, 3)) (hn : pc + 3 = n) (k : Go p l e R s m args below meth c n0 Q cells slots h (mkF m n Ls (.double v :: st))) : Go p l e R s m args below meth c n0 Q cells slots h (mkF m pc Ls (st)) := by
  subst hn
  exact Go.via (fun T locs X _ t q => X.ldc2DoubleC C.x C.own (mvT C.z w) (g := mkF m pc Ls st) rfl (hb C.by hd) t q) k
def ArrN (Z : State) (h : Heap) (a : Addr) (ty : FieldType) (k : Nat) : Prop := ∃ cl, Arr Z h a cl ty ∧ cl.slots.size = k
theorem ArrN.lt {a : Addr} {ty : FieldType} {k : Nat} (F : ArrN Z h a ty k) : a < h.size := by obtain ⟨cl, A, -⟩ := F; exact A.lt
theorem ArrN.keep {h' : Heap} {ws : List Addr} {a : Addr} {ty : FieldType} {k : Nat} (F : ArrN Z h a ty k) (K : Keep h h' ws) (r : a ∉ ws) : ArrN Z h' a ty k := by obtain ⟨cl, A, q⟩ := F; exact ⟨cl, ⟨K.2.1 a cl A.1 r, A.2⟩, q⟩
theorem ArrN.wr {h' : Heap} {a : Addr} {ty : FieldType} {k sl : Nat} {v : Value} (F : ArrN Z h a ty k) (W : Wr h h' a sl v) : ArrN Z h' a ty k := by obtain ⟨cl, A, q⟩ := F; exact ⟨_, Arr.same W A, by simp [Cell.setSlot, q]⟩
theorem nob {cl : Cell} {j : Int32} {k : Nat} (hj : 0 ≤ j.toInt) (hl : j.toInt < k) (q : cl.slots.size = k) : ¬ (j < 0 ∨ cl.slots.size ≤ j.toNatClampNeg) := by
  rintro (r | r)
  · exact not_neg hj r
  · rw [q, nat_clamp] at r; omega
theorem G.dastore (C : Cx p s m meth c Z y bytes maxL ret) {a : Addr} {j : Int32} {x : UInt64} {kn : Nat} (F : ArrN Z h a .double kn) (hj : 0 ≤ j.toInt) (hl : j.toInt < kn) (g : n0 ≤ a) (hd : decode bytes pc = .ok (.dastore, 1)) (hn : pc + 1 = n) (k : ∀ h', Keep h h' [a] → ArrN Z h' a .double kn → Go p l e R s m args below meth c n0 Q cells slots h' (mkF m n Ls (st))) : Go p l e R s m args below meth c n0 Q cells slots h (mkF m pc Ls (.double x :: .int j :: .ref a :: st)) := fun T locs X N q => by
  subst hn
  obtain ⟨cl, A, q1⟩ := F
  obtain ⟨T', h', X', e', W, st'⟩ := stD X C.x C.z q A (j := j) (nob hj hl q1) (g := mkF m pc Ls (.double x :: .int j :: .ref a :: st)) rfl rfl (hb C.by hd)
  obtain ⟨t, o, s1, r⟩ := k h' (Keep.of_wr W) (ArrN.wr ⟨cl, A, q1⟩ W) T' _ X' (Fr.snoc X' N g) e'
  exact ⟨t, o, st' t s1, r⟩
theorem G.aastoreNull (C : Cx p s m meth c Z y bytes maxL ret) {a : Addr} {j : Int32} {ty : FieldType} {kn : Nat} (F : ArrN Z h a ty kn) (hty : ty.isReference = true) (hj : 0 ≤ j.toInt) (hl : j.toInt < kn) (g : n0 ≤ a) (hd : decode bytes pc = .ok (.aastore, 1)) (hn : pc + 1 = n) (k : ∀ h', Keep h h' [a] → ArrN Z h' a ty kn → Go p l e R s m args below meth c n0 Q cells slots h' (mkF m n Ls (st))) : Go p l e R s m args below meth c n0 Q cells slots h (mkF m pc Ls (.null :: .int j :: .ref a :: st)) := fun T locs X N q => by
  subst hn
  obtain ⟨cl, A, q1⟩ := F
  obtain ⟨T', h', X', e', W, st'⟩ := stR X C.x C.z q A (j := j) (v := .null) (nob hj hl q1) hty (Or.inl rfl) (g := mkF m pc Ls (.null :: .int j :: .ref a :: st)) rfl rfl (hb C.by hd)
  obtain ⟨t, o, s1, r⟩ := k h' (Keep.of_wr W) (ArrN.wr ⟨cl, A, q1⟩ W) T' _ X' (Fr.snoc X' N g) e'
  exact ⟨t, o, st' t s1, r⟩
theorem G.arraylengthN (C : Cx p s m meth c Z y bytes maxL ret) {a : Addr} {ty : FieldType} {kn : Nat} {len : Int32} (F : ArrN Z h a ty kn) (hlen : len.toInt = kn) (hd : decode bytes pc = .ok (.arraylength, 1)) (hn : pc + 1 = n) (k : Go p l e R s m args below meth c n0 Q cells slots h (mkF m n Ls (.int len :: st))) : Go p l e R s m args below meth c n0 Q cells slots h (mkF m pc Ls (.ref a :: st)) := by
  subst hn
  obtain ⟨cl, A, q1⟩ := F
  have e1 : cl.slots.size.toInt32 = len := by rw [q1]; exact (len32 hlen).symm
  exact Go.via (fun T locs X q t r => X.arraylength C.x (by rw [q]; exact A.1) (State.isArrayOf_alike C.z.alike A.2.1) (g := mkF m pc Ls (.ref a :: st)) rfl rfl (hb C.by hd) t (by rw [e1]; exact r)) k
theorem G.newarrayN (C : Cx p s m meth c Z y bytes maxL ret) {aty : ArrayType} {ty : FieldType} {len : Int32} {cap c' s' : Nat} (w : (Jvm.Cond.arrayClass ty).before a0 Z = true) (hty : newarray.typeOf aty = ty) (hlen : len.toInt = cap) (hbig : cap * 8 ≤ 536870912) (hd : decode bytes pc = .ok (.newarray aty, 2)) (hn : pc + 2 = n) (hc' : cells + 1 = c') (hs' : slots + cap = s') (hc : c' ≤ R.cells) (hs : s' ≤ R.slots)
    (k : ∀ h' b, b = h.size → Ext h h' → ArrN Z h' b ty cap → Go p l e R s m args below meth c n0 Q c' s' h' (mkF m n Ls (.ref b :: st))) : Go p l e R s m args below meth c n0 Q cells slots h (mkF m pc Ls (.int len :: st)) := fun T locs X N q => by
  subst hn hc' hs' hty
  obtain ⟨T', h', cA, X', e', E, A, st'⟩ := newP X C.x C.z w q (g := mkF m pc Ls (.int len :: st)) rfl (hb C.by hd) rfl (not_neg (by omega)) (cap := cap) (by rw [nat_clamp]; omega) hbig hc hs
  obtain ⟨t, o, s1, r⟩ := k h' _ rfl E ⟨_, A, by rw [sz_new, nat_clamp]; omega⟩ T' _ X' N e'
  exact ⟨t, o, st' t s1, r⟩
theorem G.anewarrayN (C : Cx p s m meth c Z y bytes maxL ret) {K : String} {index : Nat} {len : Int32} {cap c' s' : Nat} (w1 : (Jvm.Cond.classLink y.cls index K).before a0 Z = true) (w2 : (Jvm.Cond.arrayOver (.object K)).before a0 Z = true) (hlen : len.toInt = cap) (hbig : cap * 8 ≤ 536870912) (hd : decode bytes pc = .ok (.anewarray index, 3)) (hn : pc + 3 = n) (hc' : cells + 1 = c') (hs' : slots + cap = s') (hc : c' ≤ R.cells) (hs : s' ≤ R.slots)
    (k : ∀ h' b, b = h.size → Ext h h' → ArrN Z h' b (.object K) cap → Go p l e R s m args below meth c n0 Q c' s' h' (mkF m n Ls (.ref b :: st))) : Go p l e R s m args below meth c n0 Q cells slots h (mkF m pc Ls (.int len :: st)) := fun T locs X N q => by
  subst hn hc' hs'
  obtain ⟨T', h', cA, X', e', E, A, -, st'⟩ := newR X C.x C.z C.own w1 w2 q (g := mkF m pc Ls (.int len :: st)) rfl (hb C.by hd) rfl (not_neg (by omega)) (cap := cap) (by rw [nat_clamp]; omega) hbig hc hs
  obtain ⟨t, o, s1, r⟩ := k h' _ rfl E ⟨_, A, by rw [sz_new, nat_clamp]; omega⟩ T' _ X' N e'
  exact ⟨t, o, st' t s1, r⟩
theorem G.callP (C : Cx p s m meth c Z y bytes maxL ret) {index W : Nat} {yc : MethodName} {bc : ByteArray} {mc : Nat} {rc : Option FieldType} {rm : Room} {c' s' : Nat} {Qc : Option Value → Heap → Prop} {ps : List FieldType} {K K' : String} {yo : MethodName} {argsL stk : List Value} {a : Addr} (E : Exa Z h a K) (w1 : (Jvm.Cond.methodLink y.cls index yc).before a0 Z = true) (w5 : (Jvm.Cond.selects K' yo yo).before a0 Z = true) (hyo : yo.cls = yc.cls) (w6 : (Jvm.Cond.privateMethod yc).before a0 Z = true) (w2 : (Jvm.Cond.instanceMethod yc).before a0 Z = true) (w3 : (Jvm.Cond.initialized yc.cls).before a0 Z = true) (w4 : (Jvm.Cond.code yc bc mc rc).before a0 Z = true) (hy : yc.cls ≠ "java/lang/invoke/MethodHandle" ∧ yc.cls ≠ "java/lang/invoke/VarHandle") (M : Met l Z yc bc mc rc rm (.ref a :: argsL).toArray h n0 Qc) (hsz : Ls.size = maxL) (hf : rm.frames + 1 ≤ R.frames) (hW : (st.map fun v => v.category).sum = W) (hl : W + (mc + 11) + rm.locals ≤ R.locals) (hc' : cells + rm.cells = c') (hs' : slots + rm.slots = s') (hc : c' ≤ R.cells) (hs : s' ≤ R.slots) (hd : decode bytes pc = .ok (.invokevirtual index, 3)) (hn : pc + 3 = n) (hlen : parseMethodDescriptor yc.desc = some ⟨ps, rc⟩) (hal : argsL.length = ps.length) (hst : stk = argsL.reverse ++ .ref a :: st) (k : ∀ v h', Qc v h' → Go p l e R s m args below meth c n0 Q c' s' h' (mkF m n Ls (v.toList ++ st))) : Go p l e R s m args below meth c n0 Q cells slots h (mkF m pc Ls (stk)) := fun T locs X N q => by
  subst hn hW hc' hs' hst
  obtain ⟨cq, qa, qb⟩ := E.cell
  obtain ⟨c2, r2, m2, -, -, q3, -, kP, hkP, hkPi⟩ := Cond.selects_spec (mvT (args := #[]) C.z w5)
  have hpv := Cond.privateMethod_at (mvP C.z w6 (args := #[]))
  have hsel : (Jvm.Cond.selects yc.cls yc yc).before args s = true := selects_self_of_private (by rw [← hyo]; exact findClass_of_methodNamed q3) hkP hkPi hpv (mvT C.z w2) hy
  obtain ⟨v, _, ⟨T', L', k', n''⟩, -, X', ⟨Lc, hQ, h1, h2, h3⟩, st'⟩ := X.privateBack C.x (y := yc) C.own (mvT C.z w1) (mvT C.z w2) hsel hpv (mvT C.z w4) hy (backOf (W := (st.map fun v => v.category).sum) (Q := fun v h L => Fr n0 L ∧ Qc v h) (M []) C.z w4 w3 hf hl) (g := mkF m pc Ls (argsL.reverse ++ .ref a :: st)) rfl (hsz.trans C.ml.symm) (Steps.refl _) (a := a) (cell := cq) (by rw [q]; exact qa) qb (argsL := argsL) (rest := st) (lenOf hlen hal) rfl (by show 2 * 0 + _ ≤ _; omega) (hb C.by hd) (fun _ _ => ⟨rfl, q, hc, hs⟩)
  dsimp only [Pt.U, Pt.locs, Pt.cells, Pt.slots] at X' h1 h2 h3 st' hQ
  subst h1 h2 h3
  obtain ⟨t, o, s1, r⟩ := k v _ hQ.2 T' _ X' (Fr.app N hQ.1) rfl
  exact ⟨t, o, st'.trans s1, r⟩
end
end Jvm.Own
namespace Jvm.Pilot.@@N@@
open Jvm Jvm.ClassFile Sem Op Lib Jvm.Free Jvm.Stand Jvm.LawKit Jvm.RoadKit Jvm.Own Bundle Jvm.Pilot.@@N@@.Jvm.D
abbrev bt (a : Int32) : Int64 := ((1 : Int64) <<< (a &&& 0x3f).toInt64)
abbrev w6 (a : Int32) : Int32 := ((a.toUInt32 >>> ((6 : Int32) &&& 31).toUInt32).toInt32)
def btN (i : Nat) : Int64 := (1 : Int64) <<< Int64.ofNat i
theorem w6_at {a : Int32} (h0 : 0 ≤ a.toInt) (h1 : a.toInt < 1024) : (w6 a).toInt = a.toInt / 64 := by
  have q : (w6 a).toInt = _ := c_iushr a 6 6 (by decide) (by decide)
  rw [show ((2 ^ 6 : Nat) : Int) = 64 from rfl] at q
  omega
theorem w6_nat {a : Int32} (h0 : 0 ≤ a.toInt) (h1 : a.toInt < 1024) : (w6 a).toInt.toNat = a.toInt.toNat / 64 := by
  rw [w6_at h0 h1]; omega
theorem kbt : ∀ n : Fin 1024, bt (Int32.ofNat n.val) = btN (n.val % 64) := by decide +kernel
theorem bt_at {a : Int32} (h0 : 0 ≤ a.toInt) (h1 : a.toInt < 1024) : bt a = btN (a.toInt.toNat % 64) := by
  have e := len32 (z := a) (k := a.toInt.toNat) (by omega)
  have q := kbt ⟨a.toInt.toNat, by omega⟩
  rw [← e] at q; exact q
theorem kaa : ∀ i j : Fin 64, btN i.val &&& btN j.val = if i = j then btN i.val else 0 := by decide +kernel
theorem knz : ∀ i : Fin 64, btN i.val ≠ 0 := by decide +kernel
theorem knn : ∀ i j : Fin 64, (btN i.val ^^^ (-1 : Int64)) &&& btN j.val = if i = j then 0 else btN j.val := by decide +kernel
theorem or_and (x y z : Int64) : (x ||| y) &&& z = x &&& z ||| y &&& z := Int64.toBitVec_inj.mp BitVec.and_or_distrib_right
theorem or_nz (x y : Int64) : x ||| y ≠ 0 ↔ x ≠ 0 ∨ y ≠ 0 := by
  constructor
  · intro h
    by_cases q : x = 0
    · exact Or.inr fun r => h (by rw [q, r]; rfl)
    · exact Or.inl q
  · rintro h r
    have q : x.toBitVec ||| y.toBitVec = 0#64 := congrArg Int64.toBitVec r
    rw [BitVec.or_eq_zero_iff] at q
    exact h.elim (fun z => z (Int64.toBitVec_inj.mp q.1)) (fun z => z (Int64.toBitVec_inj.mp q.2))
theorem an_not (x : Int64) : x &&& (x ^^^ (-1 : Int64)) = 0 := by
  have : x ^^^ (-1 : Int64) = ~~~x := Int64.xor_neg_one
  rw [this]; exact Int64.toBitVec_inj.mp (by show x.toBitVec &&& ~~~x.toBitVec = 0#64; exact BitVec.and_not_self _)
theorem gset (l : List Int64) (i j : Nat) (v : Int64) (h : i < l.length) : (l.set i v).getD j 0 = if i = j then v else l.getD j 0 := by
  rw [List.getD_eq_getElem?_getD, List.getElem?_set]
  split
  · rename_i e; subst e; simp [h]
  · rw [List.getD_eq_getElem?_getD]
def Has (ms : List Int64) (P : Nat → Prop) : Prop := ms.length = 16 ∧ ∀ s, s < 1024 → (ms.getD (s / 64) 0 &&& btN (s % 64) ≠ 0 ↔ P s)
theorem has0 : Has [0, 0, 0, 0, 0, 0, 0, 0, 0, 0, 0, 0, 0, 0, 0, 0] (fun s => s < 0) := ⟨rfl, fun s hs => by
  rw [show ([0, 0, 0, 0, 0, 0, 0, 0, 0, 0, 0, 0, 0, 0, 0, 0] : List Int64) = List.replicate 16 0 from rfl, List.getD_eq_getElem?_getD, List.getElem?_replicate]
  split <;> simp⟩
theorem has_set {ms : List Int64} {P : Nat → Prop} {a : Int32} (H : Has ms P) (h0 : 0 ≤ a.toInt) (h1 : a.toInt < 1024) : Has (ms.set (w6 a).toInt.toNat (ms.getD (w6 a).toInt.toNat 0 ||| bt a)) (fun s => P s ∨ s = a.toInt.toNat) := by
  rw [w6_nat h0 h1, bt_at h0 h1]
  generalize hA : a.toInt.toNat = A
  have hA2 : A < 1024 := by omega
  refine ⟨by rw [List.length_set]; exact H.1, fun s hs => ?_⟩
  rw [gset _ _ _ _ (by rw [H.1]; omega)]
  have K := kaa ⟨A % 64, by omega⟩ ⟨s % 64, by omega⟩
  split
  · rename_i e
    rw [or_and, or_nz, e, H.2 s hs]
    refine or_congr Iff.rfl ?_
    rw [K]
    split
    · rename_i r; have := Fin.mk.inj r
      exact ⟨fun _ => by omega, fun _ => knz ⟨A % 64, by omega⟩⟩
    · rename_i r
      exact ⟨fun q => absurd rfl q, fun q => absurd (by subst q; rfl) r⟩
  · rename_i e
    rw [H.2 s hs]
    exact ⟨Or.inl, fun q => q.resolve_right fun r => e (by rw [r])⟩
theorem has_rm {ms : List Int64} {P : Nat → Prop} {a : Int32} (H : Has ms P) (h0 : 0 ≤ a.toInt) (h1 : a.toInt < 1024) : Has (ms.set (w6 a).toInt.toNat (ms.getD (w6 a).toInt.toNat 0 &&& (bt a ^^^ (-1 : Int64)))) (fun s => P s ∧ s ≠ a.toInt.toNat) := by
  rw [w6_nat h0 h1, bt_at h0 h1]
  generalize hA : a.toInt.toNat = A
  have hA2 : A < 1024 := by omega
  refine ⟨by rw [List.length_set]; exact H.1, fun s hs => ?_⟩
  rw [gset _ _ _ _ (by rw [H.1]; omega)]
  have K := knn ⟨A % 64, by omega⟩ ⟨s % 64, by omega⟩
  split
  · rename_i e
    rw [Int64.and_assoc, K, e]
    split
    · rename_i r; have := Fin.mk.inj r
      exact ⟨fun q => absurd (by simp) q, fun q => absurd (by omega) q.2⟩
    · rename_i r
      rw [H.2 s hs]
      exact ⟨fun q => ⟨q, fun z => r (by subst z; rfl)⟩, fun q => q.1⟩
  · rename_i e
    rw [H.2 s hs]
    exact ⟨fun q => ⟨q, fun r => e (by rw [r])⟩, fun q => q.1⟩
theorem has_reset {ms us : List Int64} {P : Nat → Prop} {w : Nat} (H : Has ms P) (hl : us.length = 16) (hu : ∀ q, us.getD q 0 = if q < w then 0 else ms.getD q 0) (hP : ∀ s, P s → s < 64 * w) : Has us (fun s => s < 0) := by
  refine ⟨hl, fun s hs => ?_⟩
  rw [hu]
  split
  · simp
  · rw [H.2 s hs]
    exact ⟨fun q => by have := hP s q; omega, fun q => absurd q (Nat.not_lt_zero _)⟩
theorem has_q {ms : List Int64} {P : Nat → Prop} {s : Int32} (H : Has ms P) (h0 : 0 ≤ s.toInt) (h1 : s.toInt < 1024) : ms.getD (w6 s).toInt.toNat 0 &&& bt s ≠ 0 ↔ P s.toInt.toNat := by
  rw [w6_nat h0 h1, bt_at h0 h1]; exact H.2 _ (by omega)
theorem uset {ms us : List Int64} {u : Nat} {x : Int64} (hl : us.length = 16) (h1 : u < 16) (hx : x = 0) (hu : ∀ q, us.getD q 0 = if q < u then 0 else ms.getD q 0) (q : Nat) : (us.set u x).getD q 0 = if q < u + 1 then 0 else ms.getD q 0 := by
  rw [gset _ _ _ _ (by omega), hu, hx]
  split
  · rw [if_pos (by omega)]
  · split
    · rw [if_pos (by omega)]
    · rw [if_neg (by omega)]
theorem bits0 {x : Int64} (h : x.toUInt64.toNat ≤ 0) : x = 0 := by
  apply Int64.toBitVec_inj.mp; apply BitVec.eq_of_toNat_eq
  have : x.toBitVec.toNat = x.toUInt64.toNat := rfl
  rw [this]; show _ = 0; omega
theorem bits_dec {x : Int64} {k : Nat} (hx : x ≠ 0) (h : x.toUInt64.toNat ≤ k + 1) : (x &&& (x - (1 : Int64))).toUInt64.toNat ≤ k := by
  have e0 : (x &&& (x - (1 : Int64))).toUInt64.toNat = x.toBitVec.toNat &&& (x.toBitVec - 1#64).toNat := rfl
  have e1 : x.toUInt64.toNat = x.toBitVec.toNat := rfl
  have e2 : x.toBitVec.toNat ≠ 0 := fun q => hx (bits0 (by rw [e1]; omega))
  have e3 := x.toBitVec.isLt
  rw [e0, BitVec.toNat_sub_of_le (by show 1 % 2 ^ 64 ≤ _; omega)]
  refine Nat.le_trans Nat.and_le_right ?_
  show _ - 1 % 2 ^ 64 ≤ k
  omega
theorem hi_nz {x : Int64} (hx : x ≠ 0) (h : x.toInt32 = 0) : ((x.toUInt64 >>> ((32 : Int32) &&& 0x3f).toInt64.toUInt64).toInt64).toInt32 ≠ 0 := by
  intro q
  apply hx
  have e1 : x.toInt32.toBitVec.toNat = x.toBitVec.toNat % 2 ^ 32 := by show (x.toBitVec.signExtend 32).toNat = _; rw [BitVec.signExtend_eq_setWidth_of_le _ (by decide), BitVec.toNat_setWidth]
  rw [h] at e1
  have e3 : (((x.toUInt64 >>> ((32 : Int32) &&& 0x3f).toInt64.toUInt64).toInt64).toInt32).toBitVec.toNat = (x.toBitVec.toNat / 2 ^ 32) % 2 ^ 32 := by
    show ((x.toBitVec >>> (32#64 % 64)).signExtend 32).toNat = _
    rw [BitVec.signExtend_eq_setWidth_of_le _ (by decide), BitVec.toNat_setWidth, BitVec.ushiftRight_eq', BitVec.toNat_ushiftRight, Nat.shiftRight_eq_div_pow]
    rfl
  rw [q] at e3
  have e5 : (0 : Int32).toBitVec.toNat = 0 := rfl
  rw [e5] at e1 e3
  have := x.toBitVec.isLt
  apply bits0
  show x.toBitVec.toNat ≤ 0
  omega
theorem y_nn {i : Int32} (hi : i ≠ 0) : 0 ≤ ((i ^^^ (-1 : Int32)) &&& (i - (1 : Int32))).toInt := by
  have z : i.toInt ≠ 0 := fun q => hi (Int32.toInt_inj.mp q)
  have r := rng32 i
  by_cases q : 0 ≤ i.toInt
  · refine (c_and _ _ ?_).1
    have q1 := c_isub i 1
    have q2 := rng32 (i - 1)
    rw [show (1 : Int32).toInt = 1 from rfl] at q1
    omega
  · rw [Int32.and_comm]
    refine (c_and _ _ ?_).1
    rw [Int32.xor_neg_one, Int32.not_eq_neg_sub]
    have q1 := c_isub (-i) 1
    have q2 := rng32 (-i - 1)
    have q3 := c_ineg i
    rw [show (1 : Int32).toInt = 1 from rfl] at q1
    omega
theorem ush_nn {x : Int32} (k : Int32) (K : Nat) (D : Int) (hk : k.toBitVec.toNat % 32 = K) (h0 : 0 < K) (hD : ((2 ^ K : Nat) : Int) = D) (h : 0 ≤ x.toInt) : ((x.toUInt32 >>> (k &&& 31).toUInt32).toInt32).toInt = x.toInt / D := by
  have q := c_iushr x k K hk h0
  have r := rng32 x
  rw [hD, Int.emod_eq_of_lt h (by omega)] at q
  exact q
theorem addk {x y : Int32} {K : Int} (hx : x.toInt = K) (h0 : 0 ≤ K + y.toInt) (h1 : K + y.toInt < 2147483648) : (x + y).toInt = K + y.toInt := by
  have q1 := c_iadd x y
  have q2 := rng32 (x + y)
  omega
theorem ix64 {i r : Int32} (h0 : 0 ≤ i.toInt) (h1 : i.toInt < 16) (h2 : 0 ≤ r.toInt) (h3 : r.toInt ≤ 63) : ((i * (64 : Int32)) + r).toInt = 64 * i.toInt + r.toInt := by
  have q1 := c_imul i 64
  have q2 := rng32 (i * 64)
  rw [show (64 : Int32).toInt = 64 from rfl] at q1
  have e : (i * (64 : Int32)).toInt = 64 * i.toInt := by omega
  rw [addk e (by omega) (by omega)]
theorem asub (x y : Int32) : (x + y) - x = y := by
  rw [Int32.add_comm, Int32.add_sub_cancel]
theorem rem_v {x d : Int32} (hd : 0 < d.toInt) : 0 ≤ ((x &&& (2147483647 : Int32)) % d).toInt ∧ ((x &&& (2147483647 : Int32)) % d).toInt < d.toInt := by
  have q := (c_iremV (x &&& 2147483647) d).1 (c_and x 2147483647 (by decide)).1 hd
  exact ⟨q.1, q.2.1⟩
theorem nz_pos {d : Int32} (hd : 0 < d.toInt) : d ≠ 0 := fun h => by rw [h] at hd; exact absurd hd (by decide)
theorem words_at {l : Int32} (h0 : 1 ≤ l.toInt) (h1 : l.toInt ≤ 1024) : (((l + (64 : Int32)) - (1 : Int32)) / (64 : Int32)).toInt = (l.toInt + 63) / 64 := by
  have q1 := c_iadd l 64
  have q2 := rng32 (l + 64)
  have q3 := c_isub (l + 64) 1
  have q4 := rng32 ((l + 64) - 1)
  rw [show (64 : Int32).toInt = 64 from rfl] at q1
  rw [show (1 : Int32).toInt = 1 from rfl] at q3
  have e : ((l + (64 : Int32)) - (1 : Int32)).toInt = l.toInt + 63 := by omega
  have q5 := (c_idiv ((l + 64) - 1) 64 64 rfl (by decide)).1 (by omega)
  rw [q5, e]
theorem rsub {x l : Int32} (h0 : 0 ≤ l.toInt) (h1 : l.toInt ≤ 1024) (h2 : x.toInt < 1000000000) : x.toInt < (x + l).toInt + 1 ∧ ((x + l) - x).toInt = l.toInt ∧ (x + l).toInt = x.toInt + l.toInt := by
  have q1 := c_iadd x l
  have q2 := rng32 (x + l)
  have q3 := rng32 x
  rw [asub]
  refine ⟨by omega, rfl, by omega⟩

def Ob_Wn (Z : State) (h : Heap) (a : Addr) (f_matched : Value) (f_scores : Value) (f_explains : Int32) (f_explanations : Value) (f_words : Int32) (f_base : Int32) (f_end : Int32) (f_tallies : Value) : Prop := Exa Z h a "com/example/near_miss/nearmiss/search/Window" ∧ Fld Z h a "com/example/near_miss/nearmiss/search/Window" "matched" "[J" f_matched ∧ Fld Z h a "com/example/near_miss/nearmiss/search/Window" "scores" "[D" f_scores ∧ Fld Z h a "com/example/near_miss/nearmiss/search/Window" "explains" "Z" (.int f_explains) ∧ Fld Z h a "com/example/near_miss/nearmiss/search/Window" "explanations" "[Lcom/example/near_miss/nearmiss/scoring/Explanation;" f_explanations ∧ Fld Z h a "com/example/near_miss/nearmiss/search/Window" "words" "I" (.int f_words) ∧ Fld Z h a "com/example/near_miss/nearmiss/search/Window" "base" "I" (.int f_base) ∧ Fld Z h a "com/example/near_miss/nearmiss/search/Window" "end" "I" (.int f_end) ∧ Fld Z h a "com/example/near_miss/nearmiss/search/Window" "tallies" "[D" f_tallies
theorem Ob_Wn.keep {Z : State} {h h' : Heap} {ws : List Addr} {a : Addr} {f_matched : Value} {f_scores : Value} {f_explains : Int32} {f_explanations : Value} {f_words : Int32} {f_base : Int32} {f_end : Int32} {f_tallies : Value} (O : Ob_Wn Z h a f_matched f_scores f_explains f_explanations f_words f_base f_end f_tallies) (K : Keep h h' ws) (r : a ∉ ws) : Ob_Wn Z h' a f_matched f_scores f_explains f_explanations f_words f_base f_end f_tallies := ⟨(O.1).keep K, (O.2.1).keep K r, (O.2.2.1).keep K r, (O.2.2.2.1).keep K r, (O.2.2.2.2.1).keep K r, (O.2.2.2.2.2.1).keep K r, (O.2.2.2.2.2.2.1).keep K r, (O.2.2.2.2.2.2.2.1).keep K r, (O.2.2.2.2.2.2.2.2).keep K r⟩
theorem Ob_Wn.lt {Z : State} {h : Heap} {a : Addr} {f_matched : Value} {f_scores : Value} {f_explains : Int32} {f_explanations : Value} {f_words : Int32} {f_base : Int32} {f_end : Int32} {f_tallies : Value} (O : Ob_Wn Z h a f_matched f_scores f_explains f_explanations f_words f_base f_end f_tallies) : a < h.size := Exa.lt (O.1)
theorem Ob_Wn.set_matched {Z : State} {a0 : Array Value} (hw : ∀ d ∈ tables_1, d.before a0 Z = true) {h h' : Heap} {a : Addr} {f_matched : Value} {f_scores : Value} {f_explains : Int32} {f_explanations : Value} {f_words : Int32} {f_base : Int32} {f_end : Int32} {f_tallies : Value} {v : Value} (O : Ob_Wn Z h a f_matched f_scores f_explains f_explanations f_words f_base f_end f_tallies) (W : Wr h h' a (RoadKit.slotOf Z "com/example/near_miss/nearmiss/search/Window" "matched" "[J") v) : Ob_Wn Z h' a v f_scores f_explains f_explanations f_words f_base f_end f_tallies := ⟨(O.1).wr W, (O.2.1).same W, (O.2.2.1).other W (Or.inr (slot_ne (Or.inr (wd hw 15 rfl)) (Or.inr (wd hw 12 rfl)) (by decide) (t := (.array .double)) (t' := (.array .long)) (by decide) (by decide))), (O.2.2.2.1).other W (Or.inr (slot_ne (Or.inr (wd hw 17 rfl)) (Or.inr (wd hw 12 rfl)) (by decide) (t := .boolean) (t' := (.array .long)) (by decide) (by decide))), (O.2.2.2.2.1).other W (Or.inr (slot_ne (Or.inr (wd hw 19 rfl)) (Or.inr (wd hw 12 rfl)) (by decide) (t := (.array (.object "com/example/near_miss/nearmiss/scoring/Explanation"))) (t' := (.array .long)) (by decide) (by decide))), (O.2.2.2.2.2.1).other W (Or.inr (slot_ne (Or.inl (wd hw 26 rfl)) (Or.inr (wd hw 12 rfl)) (by decide) (t := .int) (t' := (.array .long)) (by decide) (by decide))), (O.2.2.2.2.2.2.1).other W (Or.inr (slot_ne (Or.inl (wd hw 28 rfl)) (Or.inr (wd hw 12 rfl)) (by decide) (t := .int) (t' := (.array .long)) (by decide) (by decide))), (O.2.2.2.2.2.2.2.1).other W (Or.inr (slot_ne (Or.inl (wd hw 30 rfl)) (Or.inr (wd hw 12 rfl)) (by decide) (t := .int) (t' := (.array .long)) (by decide) (by decide))), (O.2.2.2.2.2.2.2.2).other W (Or.inr (slot_ne (Or.inl (wd hw 72 rfl)) (Or.inr (wd hw 12 rfl)) (by decide) (t := (.array .double)) (t' := (.array .long)) (by decide) (by decide)))⟩
theorem Ob_Wn.set_scores {Z : State} {a0 : Array Value} (hw : ∀ d ∈ tables_1, d.before a0 Z = true) {h h' : Heap} {a : Addr} {f_matched : Value} {f_scores : Value} {f_explains : Int32} {f_explanations : Value} {f_words : Int32} {f_base : Int32} {f_end : Int32} {f_tallies : Value} {v : Value} (O : Ob_Wn Z h a f_matched f_scores f_explains f_explanations f_words f_base f_end f_tallies) (W : Wr h h' a (RoadKit.slotOf Z "com/example/near_miss/nearmiss/search/Window" "scores" "[D") v) : Ob_Wn Z h' a f_matched v f_explains f_explanations f_words f_base f_end f_tallies := ⟨(O.1).wr W, (O.2.1).other W (Or.inr (slot_ne (Or.inr (wd hw 12 rfl)) (Or.inr (wd hw 15 rfl)) (by decide) (t := (.array .long)) (t' := (.array .double)) (by decide) (by decide))), (O.2.2.1).same W, (O.2.2.2.1).other W (Or.inr (slot_ne (Or.inr (wd hw 17 rfl)) (Or.inr (wd hw 15 rfl)) (by decide) (t := .boolean) (t' := (.array .double)) (by decide) (by decide))), (O.2.2.2.2.1).other W (Or.inr (slot_ne (Or.inr (wd hw 19 rfl)) (Or.inr (wd hw 15 rfl)) (by decide) (t := (.array (.object "com/example/near_miss/nearmiss/scoring/Explanation"))) (t' := (.array .double)) (by decide) (by decide))), (O.2.2.2.2.2.1).other W (Or.inr (slot_ne (Or.inl (wd hw 26 rfl)) (Or.inr (wd hw 15 rfl)) (by decide) (t := .int) (t' := (.array .double)) (by decide) (by decide))), (O.2.2.2.2.2.2.1).other W (Or.inr (slot_ne (Or.inl (wd hw 28 rfl)) (Or.inr (wd hw 15 rfl)) (by decide) (t := .int) (t' := (.array .double)) (by decide) (by decide))), (O.2.2.2.2.2.2.2.1).other W (Or.inr (slot_ne (Or.inl (wd hw 30 rfl)) (Or.inr (wd hw 15 rfl)) (by decide) (t := .int) (t' := (.array .double)) (by decide) (by decide))), (O.2.2.2.2.2.2.2.2).other W (Or.inr (slot_ne (Or.inl (wd hw 72 rfl)) (Or.inr (wd hw 15 rfl)) (by decide) (t := (.array .double)) (t' := (.array .double)) (by decide) (by decide)))⟩
theorem Ob_Wn.set_explains {Z : State} {a0 : Array Value} (hw : ∀ d ∈ tables_1, d.before a0 Z = true) {h h' : Heap} {a : Addr} {f_matched : Value} {f_scores : Value} {f_explains : Int32} {f_explanations : Value} {f_words : Int32} {f_base : Int32} {f_end : Int32} {f_tallies : Value} {v : Int32} (O : Ob_Wn Z h a f_matched f_scores f_explains f_explanations f_words f_base f_end f_tallies) (W : Wr h h' a (RoadKit.slotOf Z "com/example/near_miss/nearmiss/search/Window" "explains" "Z") (.int v)) : Ob_Wn Z h' a f_matched f_scores v f_explanations f_words f_base f_end f_tallies := ⟨(O.1).wr W, (O.2.1).other W (Or.inr (slot_ne (Or.inr (wd hw 12 rfl)) (Or.inr (wd hw 17 rfl)) (by decide) (t := (.array .long)) (t' := .boolean) (by decide) (by decide))), (O.2.2.1).other W (Or.inr (slot_ne (Or.inr (wd hw 15 rfl)) (Or.inr (wd hw 17 rfl)) (by decide) (t := (.array .double)) (t' := .boolean) (by decide) (by decide))), (O.2.2.2.1).same W, (O.2.2.2.2.1).other W (Or.inr (slot_ne (Or.inr (wd hw 19 rfl)) (Or.inr (wd hw 17 rfl)) (by decide) (t := (.array (.object "com/example/near_miss/nearmiss/scoring/Explanation"))) (t' := .boolean) (by decide) (by decide))), (O.2.2.2.2.2.1).other W (Or.inr (slot_ne (Or.inl (wd hw 26 rfl)) (Or.inr (wd hw 17 rfl)) (by decide) (t := .int) (t' := .boolean) (by decide) (by decide))), (O.2.2.2.2.2.2.1).other W (Or.inr (slot_ne (Or.inl (wd hw 28 rfl)) (Or.inr (wd hw 17 rfl)) (by decide) (t := .int) (t' := .boolean) (by decide) (by decide))), (O.2.2.2.2.2.2.2.1).other W (Or.inr (slot_ne (Or.inl (wd hw 30 rfl)) (Or.inr (wd hw 17 rfl)) (by decide) (t := .int) (t' := .boolean) (by decide) (by decide))), (O.2.2.2.2.2.2.2.2).other W (Or.inr (slot_ne (Or.inl (wd hw 72 rfl)) (Or.inr (wd hw 17 rfl)) (by decide) (t := (.array .double)) (t' := .boolean) (by decide) (by decide)))⟩
theorem Ob_Wn.set_explanations {Z : State} {a0 : Array Value} (hw : ∀ d ∈ tables_1, d.before a0 Z = true) {h h' : Heap} {a : Addr} {f_matched : Value} {f_scores : Value} {f_explains : Int32} {f_explanations : Value} {f_words : Int32} {f_base : Int32} {f_end : Int32} {f_tallies : Value} {v : Value} (O : Ob_Wn Z h a f_matched f_scores f_explains f_explanations f_words f_base f_end f_tallies) (W : Wr h h' a (RoadKit.slotOf Z "com/example/near_miss/nearmiss/search/Window" "explanations" "[Lcom/example/near_miss/nearmiss/scoring/Explanation;") v) : Ob_Wn Z h' a f_matched f_scores f_explains v f_words f_base f_end f_tallies := ⟨(O.1).wr W, (O.2.1).other W (Or.inr (slot_ne (Or.inr (wd hw 12 rfl)) (Or.inr (wd hw 19 rfl)) (by decide) (t := (.array .long)) (t' := (.array (.object "com/example/near_miss/nearmiss/scoring/Explanation"))) (by decide) (by decide))), (O.2.2.1).other W (Or.inr (slot_ne (Or.inr (wd hw 15 rfl)) (Or.inr (wd hw 19 rfl)) (by decide) (t := (.array .double)) (t' := (.array (.object "com/example/near_miss/nearmiss/scoring/Explanation"))) (by decide) (by decide))), (O.2.2.2.1).other W (Or.inr (slot_ne (Or.inr (wd hw 17 rfl)) (Or.inr (wd hw 19 rfl)) (by decide) (t := .boolean) (t' := (.array (.object "com/example/near_miss/nearmiss/scoring/Explanation"))) (by decide) (by decide))), (O.2.2.2.2.1).same W, (O.2.2.2.2.2.1).other W (Or.inr (slot_ne (Or.inl (wd hw 26 rfl)) (Or.inr (wd hw 19 rfl)) (by decide) (t := .int) (t' := (.array (.object "com/example/near_miss/nearmiss/scoring/Explanation"))) (by decide) (by decide))), (O.2.2.2.2.2.2.1).other W (Or.inr (slot_ne (Or.inl (wd hw 28 rfl)) (Or.inr (wd hw 19 rfl)) (by decide) (t := .int) (t' := (.array (.object "com/example/near_miss/nearmiss/scoring/Explanation"))) (by decide) (by decide))), (O.2.2.2.2.2.2.2.1).other W (Or.inr (slot_ne (Or.inl (wd hw 30 rfl)) (Or.inr (wd hw 19 rfl)) (by decide) (t := .int) (t' := (.array (.object "com/example/near_miss/nearmiss/scoring/Explanation"))) (by decide) (by decide))), (O.2.2.2.2.2.2.2.2).other W (Or.inr (slot_ne (Or.inl (wd hw 72 rfl)) (Or.inr (wd hw 19 rfl)) (by decide) (t := (.array .double)) (t' := (.array (.object "com/example/near_miss/nearmiss/scoring/Explanation"))) (by decide) (by decide)))⟩
theorem Ob_Wn.set_words {Z : State} {a0 : Array Value} (hw : ∀ d ∈ tables_1, d.before a0 Z = true) {h h' : Heap} {a : Addr} {f_matched : Value} {f_scores : Value} {f_explains : Int32} {f_explanations : Value} {f_words : Int32} {f_base : Int32} {f_end : Int32} {f_tallies : Value} {v : Int32} (O : Ob_Wn Z h a f_matched f_scores f_explains f_explanations f_words f_base f_end f_tallies) (W : Wr h h' a (RoadKit.slotOf Z "com/example/near_miss/nearmiss/search/Window" "words" "I") (.int v)) : Ob_Wn Z h' a f_matched f_scores f_explains f_explanations v f_base f_end f_tallies := ⟨(O.1).wr W, (O.2.1).other W (Or.inr (slot_ne (Or.inr (wd hw 12 rfl)) (Or.inl (wd hw 26 rfl)) (by decide) (t := (.array .long)) (t' := .int) (by decide) (by decide))), (O.2.2.1).other W (Or.inr (slot_ne (Or.inr (wd hw 15 rfl)) (Or.inl (wd hw 26 rfl)) (by decide) (t := (.array .double)) (t' := .int) (by decide) (by decide))), (O.2.2.2.1).other W (Or.inr (slot_ne (Or.inr (wd hw 17 rfl)) (Or.inl (wd hw 26 rfl)) (by decide) (t := .boolean) (t' := .int) (by decide) (by decide))), (O.2.2.2.2.1).other W (Or.inr (slot_ne (Or.inr (wd hw 19 rfl)) (Or.inl (wd hw 26 rfl)) (by decide) (t := (.array (.object "com/example/near_miss/nearmiss/scoring/Explanation"))) (t' := .int) (by decide) (by decide))), (O.2.2.2.2.2.1).same W, (O.2.2.2.2.2.2.1).other W (Or.inr (slot_ne (Or.inl (wd hw 28 rfl)) (Or.inl (wd hw 26 rfl)) (by decide) (t := .int) (t' := .int) (by decide) (by decide))), (O.2.2.2.2.2.2.2.1).other W (Or.inr (slot_ne (Or.inl (wd hw 30 rfl)) (Or.inl (wd hw 26 rfl)) (by decide) (t := .int) (t' := .int) (by decide) (by decide))), (O.2.2.2.2.2.2.2.2).other W (Or.inr (slot_ne (Or.inl (wd hw 72 rfl)) (Or.inl (wd hw 26 rfl)) (by decide) (t := (.array .double)) (t' := .int) (by decide) (by decide)))⟩
theorem Ob_Wn.set_base {Z : State} {a0 : Array Value} (hw : ∀ d ∈ tables_1, d.before a0 Z = true) {h h' : Heap} {a : Addr} {f_matched : Value} {f_scores : Value} {f_explains : Int32} {f_explanations : Value} {f_words : Int32} {f_base : Int32} {f_end : Int32} {f_tallies : Value} {v : Int32} (O : Ob_Wn Z h a f_matched f_scores f_explains f_explanations f_words f_base f_end f_tallies) (W : Wr h h' a (RoadKit.slotOf Z "com/example/near_miss/nearmiss/search/Window" "base" "I") (.int v)) : Ob_Wn Z h' a f_matched f_scores f_explains f_explanations f_words v f_end f_tallies := ⟨(O.1).wr W, (O.2.1).other W (Or.inr (slot_ne (Or.inr (wd hw 12 rfl)) (Or.inl (wd hw 28 rfl)) (by decide) (t := (.array .long)) (t' := .int) (by decide) (by decide))), (O.2.2.1).other W (Or.inr (slot_ne (Or.inr (wd hw 15 rfl)) (Or.inl (wd hw 28 rfl)) (by decide) (t := (.array .double)) (t' := .int) (by decide) (by decide))), (O.2.2.2.1).other W (Or.inr (slot_ne (Or.inr (wd hw 17 rfl)) (Or.inl (wd hw 28 rfl)) (by decide) (t := .boolean) (t' := .int) (by decide) (by decide))), (O.2.2.2.2.1).other W (Or.inr (slot_ne (Or.inr (wd hw 19 rfl)) (Or.inl (wd hw 28 rfl)) (by decide) (t := (.array (.object "com/example/near_miss/nearmiss/scoring/Explanation"))) (t' := .int) (by decide) (by decide))), (O.2.2.2.2.2.1).other W (Or.inr (slot_ne (Or.inl (wd hw 26 rfl)) (Or.inl (wd hw 28 rfl)) (by decide) (t := .int) (t' := .int) (by decide) (by decide))), (O.2.2.2.2.2.2.1).same W, (O.2.2.2.2.2.2.2.1).other W (Or.inr (slot_ne (Or.inl (wd hw 30 rfl)) (Or.inl (wd hw 28 rfl)) (by decide) (t := .int) (t' := .int) (by decide) (by decide))), (O.2.2.2.2.2.2.2.2).other W (Or.inr (slot_ne (Or.inl (wd hw 72 rfl)) (Or.inl (wd hw 28 rfl)) (by decide) (t := (.array .double)) (t' := .int) (by decide) (by decide)))⟩
theorem Ob_Wn.set_end {Z : State} {a0 : Array Value} (hw : ∀ d ∈ tables_1, d.before a0 Z = true) {h h' : Heap} {a : Addr} {f_matched : Value} {f_scores : Value} {f_explains : Int32} {f_explanations : Value} {f_words : Int32} {f_base : Int32} {f_end : Int32} {f_tallies : Value} {v : Int32} (O : Ob_Wn Z h a f_matched f_scores f_explains f_explanations f_words f_base f_end f_tallies) (W : Wr h h' a (RoadKit.slotOf Z "com/example/near_miss/nearmiss/search/Window" "end" "I") (.int v)) : Ob_Wn Z h' a f_matched f_scores f_explains f_explanations f_words f_base v f_tallies := ⟨(O.1).wr W, (O.2.1).other W (Or.inr (slot_ne (Or.inr (wd hw 12 rfl)) (Or.inl (wd hw 30 rfl)) (by decide) (t := (.array .long)) (t' := .int) (by decide) (by decide))), (O.2.2.1).other W (Or.inr (slot_ne (Or.inr (wd hw 15 rfl)) (Or.inl (wd hw 30 rfl)) (by decide) (t := (.array .double)) (t' := .int) (by decide) (by decide))), (O.2.2.2.1).other W (Or.inr (slot_ne (Or.inr (wd hw 17 rfl)) (Or.inl (wd hw 30 rfl)) (by decide) (t := .boolean) (t' := .int) (by decide) (by decide))), (O.2.2.2.2.1).other W (Or.inr (slot_ne (Or.inr (wd hw 19 rfl)) (Or.inl (wd hw 30 rfl)) (by decide) (t := (.array (.object "com/example/near_miss/nearmiss/scoring/Explanation"))) (t' := .int) (by decide) (by decide))), (O.2.2.2.2.2.1).other W (Or.inr (slot_ne (Or.inl (wd hw 26 rfl)) (Or.inl (wd hw 30 rfl)) (by decide) (t := .int) (t' := .int) (by decide) (by decide))), (O.2.2.2.2.2.2.1).other W (Or.inr (slot_ne (Or.inl (wd hw 28 rfl)) (Or.inl (wd hw 30 rfl)) (by decide) (t := .int) (t' := .int) (by decide) (by decide))), (O.2.2.2.2.2.2.2.1).same W, (O.2.2.2.2.2.2.2.2).other W (Or.inr (slot_ne (Or.inl (wd hw 72 rfl)) (Or.inl (wd hw 30 rfl)) (by decide) (t := (.array .double)) (t' := .int) (by decide) (by decide)))⟩
theorem Ob_Wn.set_tallies {Z : State} {a0 : Array Value} (hw : ∀ d ∈ tables_1, d.before a0 Z = true) {h h' : Heap} {a : Addr} {f_matched : Value} {f_scores : Value} {f_explains : Int32} {f_explanations : Value} {f_words : Int32} {f_base : Int32} {f_end : Int32} {f_tallies : Value} {v : Value} (O : Ob_Wn Z h a f_matched f_scores f_explains f_explanations f_words f_base f_end f_tallies) (W : Wr h h' a (RoadKit.slotOf Z "com/example/near_miss/nearmiss/search/Window" "tallies" "[D") v) : Ob_Wn Z h' a f_matched f_scores f_explains f_explanations f_words f_base f_end v := ⟨(O.1).wr W, (O.2.1).other W (Or.inr (slot_ne (Or.inr (wd hw 12 rfl)) (Or.inl (wd hw 72 rfl)) (by decide) (t := (.array .long)) (t' := (.array .double)) (by decide) (by decide))), (O.2.2.1).other W (Or.inr (slot_ne (Or.inr (wd hw 15 rfl)) (Or.inl (wd hw 72 rfl)) (by decide) (t := (.array .double)) (t' := (.array .double)) (by decide) (by decide))), (O.2.2.2.1).other W (Or.inr (slot_ne (Or.inr (wd hw 17 rfl)) (Or.inl (wd hw 72 rfl)) (by decide) (t := .boolean) (t' := (.array .double)) (by decide) (by decide))), (O.2.2.2.2.1).other W (Or.inr (slot_ne (Or.inr (wd hw 19 rfl)) (Or.inl (wd hw 72 rfl)) (by decide) (t := (.array (.object "com/example/near_miss/nearmiss/scoring/Explanation"))) (t' := (.array .double)) (by decide) (by decide))), (O.2.2.2.2.2.1).other W (Or.inr (slot_ne (Or.inl (wd hw 26 rfl)) (Or.inl (wd hw 72 rfl)) (by decide) (t := .int) (t' := (.array .double)) (by decide) (by decide))), (O.2.2.2.2.2.2.1).other W (Or.inr (slot_ne (Or.inl (wd hw 28 rfl)) (Or.inl (wd hw 72 rfl)) (by decide) (t := .int) (t' := (.array .double)) (by decide) (by decide))), (O.2.2.2.2.2.2.2.1).other W (Or.inr (slot_ne (Or.inl (wd hw 30 rfl)) (Or.inl (wd hw 72 rfl)) (by decide) (t := .int) (t' := (.array .double)) (by decide) (by decide))), (O.2.2.2.2.2.2.2.2).same W⟩
theorem Ob_Wn.new {Z : State} {a0 : Array Value} (hw : ∀ d ∈ tables_1, d.before a0 Z = true) {h : Heap} {a : Addr} (E : Exa Z h a "com/example/near_miss/nearmiss/search/Window") (D : ∀ {O nm d : String} {ty : FieldType}, Laid Z a0 "com/example/near_miss/nearmiss/search/Window" O nm d → parseFieldDescriptor d = some ty → Fld Z h a O nm d (defaultValue ty)) : Ob_Wn Z h a .null .null (0 : Int32) .null (0 : Int32) (0 : Int32) (0 : Int32) .null := ⟨E, D (Or.inr (wd hw 12 rfl)) (ty := (.array .long)) (by decide), D (Or.inr (wd hw 15 rfl)) (ty := (.array .double)) (by decide), D (Or.inr (wd hw 17 rfl)) (ty := .boolean) (by decide), D (Or.inr (wd hw 19 rfl)) (ty := (.array (.object "com/example/near_miss/nearmiss/scoring/Explanation"))) (by decide), D (Or.inl (wd hw 26 rfl)) (ty := .int) (by decide), D (Or.inl (wd hw 28 rfl)) (ty := .int) (by decide), D (Or.inl (wd hw 30 rfl)) (ty := .int) (by decide), D (Or.inl (wd hw 72 rfl)) (ty := (.array .double)) (by decide)⟩
theorem d12_0 : decode jdk_33_method_48_code 0 = .ok (.iload_n 0, 1) := by decide +kernel
theorem d12_1 : decode jdk_33_method_48_code 1 = .ok (.iconst (-1), 1) := by decide +kernel
theorem d12_2 : decode jdk_33_method_48_code 2 = .ok (.ixor, 1) := by decide +kernel
theorem d12_3 : decode jdk_33_method_48_code 3 = .ok (.iload_n 0, 1) := by decide +kernel
theorem d12_4 : decode jdk_33_method_48_code 4 = .ok (.iconst 1, 1) := by decide +kernel
theorem d12_5 : decode jdk_33_method_48_code 5 = .ok (.isub, 1) := by decide +kernel
theorem d12_6 : decode jdk_33_method_48_code 6 = .ok (.iand, 1) := by decide +kernel
theorem d12_7 : decode jdk_33_method_48_code 7 = .ok (.istore_n 0, 1) := by decide +kernel
theorem d12_8 : decode jdk_33_method_48_code 8 = .ok (.iload_n 0, 1) := by decide +kernel
theorem d12_9 : decode jdk_33_method_48_code 9 = .ok (.ifCond .gt 8, 3) := by decide +kernel
theorem d12_12 : decode jdk_33_method_48_code 12 = .ok (.iload_n 0, 1) := by decide +kernel
theorem d12_13 : decode jdk_33_method_48_code 13 = .ok (.bipush 32, 2) := by decide +kernel
theorem d12_15 : decode jdk_33_method_48_code 15 = .ok (.iand, 1) := by decide +kernel
theorem d12_16 : decode jdk_33_method_48_code 16 = .ok (.ireturn, 1) := by decide +kernel
theorem d12_17 : decode jdk_33_method_48_code 17 = .ok (.iconst 1, 1) := by decide +kernel
theorem d12_18 : decode jdk_33_method_48_code 18 = .ok (.istore_n 1, 1) := by decide +kernel
theorem d12_19 : decode jdk_33_method_48_code 19 = .ok (.iload_n 0, 1) := by decide +kernel
theorem d12_20 : decode jdk_33_method_48_code 20 = .ok (.ldc_w 264, 3) := by decide +kernel
theorem d12_23 : decode jdk_33_method_48_code 23 = .ok (.if_icmp .le 11, 3) := by decide +kernel
theorem d12_26 : decode jdk_33_method_48_code 26 = .ok (.iinc 1 16, 3) := by decide +kernel
theorem d12_29 : decode jdk_33_method_48_code 29 = .ok (.iload_n 0, 1) := by decide +kernel
theorem d12_30 : decode jdk_33_method_48_code 30 = .ok (.bipush 16, 2) := by decide +kernel
theorem d12_32 : decode jdk_33_method_48_code 32 = .ok (.iushr, 1) := by decide +kernel
theorem d12_33 : decode jdk_33_method_48_code 33 = .ok (.istore_n 0, 1) := by decide +kernel
theorem d12_34 : decode jdk_33_method_48_code 34 = .ok (.iload_n 0, 1) := by decide +kernel
theorem d12_35 : decode jdk_33_method_48_code 35 = .ok (.sipush 256, 3) := by decide +kernel
theorem d12_38 : decode jdk_33_method_48_code 38 = .ok (.if_icmp .le 11, 3) := by decide +kernel
theorem d12_41 : decode jdk_33_method_48_code 41 = .ok (.iinc 1 8, 3) := by decide +kernel
theorem d12_44 : decode jdk_33_method_48_code 44 = .ok (.iload_n 0, 1) := by decide +kernel
theorem d12_45 : decode jdk_33_method_48_code 45 = .ok (.bipush 8, 2) := by decide +kernel
theorem d12_47 : decode jdk_33_method_48_code 47 = .ok (.iushr, 1) := by decide +kernel
theorem d12_48 : decode jdk_33_method_48_code 48 = .ok (.istore_n 0, 1) := by decide +kernel
theorem d12_49 : decode jdk_33_method_48_code 49 = .ok (.iload_n 0, 1) := by decide +kernel
theorem d12_50 : decode jdk_33_method_48_code 50 = .ok (.bipush 16, 2) := by decide +kernel
theorem d12_52 : decode jdk_33_method_48_code 52 = .ok (.if_icmp .le 10, 3) := by decide +kernel
theorem d12_55 : decode jdk_33_method_48_code 55 = .ok (.iinc 1 4, 3) := by decide +kernel
theorem d12_58 : decode jdk_33_method_48_code 58 = .ok (.iload_n 0, 1) := by decide +kernel
theorem d12_59 : decode jdk_33_method_48_code 59 = .ok (.iconst 4, 1) := by decide +kernel
theorem d12_60 : decode jdk_33_method_48_code 60 = .ok (.iushr, 1) := by decide +kernel
theorem d12_61 : decode jdk_33_method_48_code 61 = .ok (.istore_n 0, 1) := by decide +kernel
theorem d12_62 : decode jdk_33_method_48_code 62 = .ok (.iload_n 0, 1) := by decide +kernel
theorem d12_63 : decode jdk_33_method_48_code 63 = .ok (.iconst 4, 1) := by decide +kernel
theorem d12_64 : decode jdk_33_method_48_code 64 = .ok (.if_icmp .le 10, 3) := by decide +kernel
theorem d12_67 : decode jdk_33_method_48_code 67 = .ok (.iinc 1 2, 3) := by decide +kernel
theorem d12_70 : decode jdk_33_method_48_code 70 = .ok (.iload_n 0, 1) := by decide +kernel
theorem d12_71 : decode jdk_33_method_48_code 71 = .ok (.iconst 2, 1) := by decide +kernel
theorem d12_72 : decode jdk_33_method_48_code 72 = .ok (.iushr, 1) := by decide +kernel
theorem d12_73 : decode jdk_33_method_48_code 73 = .ok (.istore_n 0, 1) := by decide +kernel
theorem d12_74 : decode jdk_33_method_48_code 74 = .ok (.iload_n 1, 1) := by decide +kernel
theorem d12_75 : decode jdk_33_method_48_code 75 = .ok (.iload_n 0, 1) := by decide +kernel
theorem d12_76 : decode jdk_33_method_48_code 76 = .ok (.iconst 1, 1) := by decide +kernel
theorem d12_77 : decode jdk_33_method_48_code 77 = .ok (.iushr, 1) := by decide +kernel
theorem d12_78 : decode jdk_33_method_48_code 78 = .ok (.iadd, 1) := by decide +kernel
theorem d12_79 : decode jdk_33_method_48_code 79 = .ok (.ireturn, 1) := by decide +kernel
theorem pn0 : plainName "java/lang/Integer" = true := by first | (simp [plainName, overriddenIn]; done) | decide +kernel
theorem ef1 (m : MethodId) (i : Int32) : entryFrame m #[(.int i)] 2 = mkF m 0 #[.val (.int i), .unset] [] := by first | (simp [entryFrame, mkF, argsToLocals, Value.category]; done) | rfl
abbrev Q_ntzI (Z : State) (h0 : Heap) (n0 : Nat) (i : Int32) : Option Value → Heap → Prop := fun v h' => ∃ r : Int32, v = some (.int r) ∧ 0 ≤ r.toInt ∧ r.toInt ≤ 31 ∧ h0 = h'
abbrev R_ntzI : Room := { frames := 0, cells := 0, slots := 0, locals := 0 }
set_option maxRecDepth 65536 in
set_option maxHeartbeats 40000000 in
theorem m_ntzI (l : Launch) (Z : State) (a0 : Array Value) (hw : ∀ d ∈ tables_1, d.before a0 Z = true) (i : Int32) (h0 : Heap) (n0 : Nat) (Z0 : n0 ≤ h0.size) (nz : i ≠ 0) : Met l Z (⟨"java/lang/Integer", "numberOfTrailingZeros", "(I)I"⟩ : MethodName) jdk_33_method_48_code 2 (some .int) R_ntzI #[(.int i)] h0 n0 (Q_ntzI Z h0 n0 i) := by
  refine Met.of (plainFor_of_name pn0) (fun m => ef1 m i) ?_
  intro p e s m args below meth c C
  refine G.iloadN C d12_0 rfl (n := 1) rfl ?_
  refine G.iconst C (v := (-1 : Int32)) d12_1 (by decide) (n := 2) rfl ?_
  refine G.ixor C d12_2 (n := 3) rfl ?_
  refine G.iloadN C d12_3 rfl (n := 4) rfl ?_
  refine G.iconst C (v := (1 : Int32)) d12_4 (by decide) (n := 5) rfl ?_
  refine G.isub C d12_5 (n := 6) rfl ?_
  refine G.iand C d12_6 (n := 7) rfl ?_
  refine G.istoreNZ C d12_7 (l' := fun z => #[.val (.int z), .unset]) (fun _ => rfl) (n := 8) rfl ?_
  intro v1 hv1
  have y0 : 0 ≤ v1.toInt := by rw [hv1]; exact y_nn nz
  have yr := rng32 v1
  refine G.iloadN C d12_8 rfl (n := 9) rfl ?_
  refine G.if_gt C (A := v1.toInt) rfl d12_9 (by decide) (by decide) (n := 12) (n' := 17) rfl (fun c9_2 => ?_) (fun c9_2 => ?_)
  · refine G.iconst C (v := (1 : Int32)) d12_17 (by decide) (n := 18) rfl ?_
    refine G.istoreN C d12_18 (l' := #[.val (.int v1), .val (.int (1 : Int32))]) rfl (n := 19) rfl ?_
    refine G.iloadN C d12_19 rfl (n := 20) rfl ?_
    refine G.ldc_w C (v := (65536 : Int32)) (wd hw 70 rfl) d12_20 (n := 23) rfl ?_
    refine G.icmp_le C (A := v1.toInt) (B := 65536) rfl (by decide) d12_23 (by decide) (by decide) (n := 26) (n' := 34) rfl (fun c23_3 => ?_) (fun c23_3 => ?_)
    · refine G.iloadN C d12_34 rfl (n := 35) rfl ?_
      refine G.sipush C (v := (256 : Int32)) d12_35 (by decide) (n := 38) rfl ?_
      refine G.icmp_le C (A := v1.toInt) (B := 256) rfl (by decide) d12_38 (by decide) (by decide) (n := 41) (n' := 49) rfl (fun c38_4 => ?_) (fun c38_4 => ?_)
      · refine G.iloadN C d12_49 rfl (n := 50) rfl ?_
        refine G.bipush C (v := (16 : Int32)) d12_50 (by decide) (n := 52) rfl ?_
        refine G.icmp_le C (A := v1.toInt) (B := 16) rfl (by decide) d12_52 (by decide) (by decide) (n := 55) (n' := 62) rfl (fun c52_5 => ?_) (fun c52_5 => ?_)
        · refine G.iloadN C d12_62 rfl (n := 63) rfl ?_
          refine G.iconst C (v := (4 : Int32)) d12_63 (by decide) (n := 64) rfl ?_
          refine G.icmp_le C (A := v1.toInt) (B := 4) rfl (by decide) d12_64 (by decide) (by decide) (n := 67) (n' := 74) rfl (fun c64_6 => ?_) (fun c64_6 => ?_)
          · refine G.iloadN C d12_74 rfl (n := 75) rfl ?_
            refine G.iloadN C d12_75 rfl (n := 76) rfl ?_
            refine G.iconst C (v := (1 : Int32)) d12_76 (by decide) (n := 77) rfl ?_
            refine G.iushr C d12_77 (n := 78) rfl ?_
            refine G.iadd C d12_78 (n := 79) rfl ?_
            refine G.ireturn C d12_79 (rfl) (by simp) (by decide) (by decide) ?_
            have q1 := ush_nn (x := v1) 1 1 2 (by decide) (by decide) (by decide) (by omega)
            have q2 := addk (x := (1 : Int32)) (y := (v1.toUInt32 >>> ((1 : Int32) &&& 31).toUInt32).toInt32) (K := 1) (by decide) (by omega) (by omega)
            exact ⟨_, rfl, by omega, by omega, rfl⟩
          · refine G.iincK C (v := (2 : Int32)) (z := (3 : Int32)) d12_67 (by decide) rfl (by decide) (l' := #[.val (.int v1), .val (.int (3 : Int32))]) rfl (n := 70) rfl ?_
            refine G.iloadN C d12_70 rfl (n := 71) rfl ?_
            refine G.iconst C (v := (2 : Int32)) d12_71 (by decide) (n := 72) rfl ?_
            refine G.iushr C d12_72 (n := 73) rfl ?_
            refine G.istoreNZ C d12_73 (l' := fun z => #[.val (.int z), .val (.int (3 : Int32))]) (fun _ => rfl) (n := 74) rfl ?_
            intro v7 hv7
            have y74 : v7.toInt = v1.toInt / 4 := by rw [hv7]; exact ush_nn 2 2 4 (by decide) (by decide) (by decide) (by omega)
            refine G.iloadN C d12_74 rfl (n := 75) rfl ?_
            refine G.iloadN C d12_75 rfl (n := 76) rfl ?_
            refine G.iconst C (v := (1 : Int32)) d12_76 (by decide) (n := 77) rfl ?_
            refine G.iushr C d12_77 (n := 78) rfl ?_
            refine G.iadd C d12_78 (n := 79) rfl ?_
            refine G.ireturn C d12_79 (rfl) (by simp) (by decide) (by decide) ?_
            have q1 := ush_nn (x := v7) 1 1 2 (by decide) (by decide) (by decide) (by omega)
            have q2 := addk (x := (3 : Int32)) (y := (v7.toUInt32 >>> ((1 : Int32) &&& 31).toUInt32).toInt32) (K := 3) (by decide) (by omega) (by omega)
            exact ⟨_, rfl, by omega, by omega, rfl⟩
        · refine G.iincK C (v := (4 : Int32)) (z := (5 : Int32)) d12_55 (by decide) rfl (by decide) (l' := #[.val (.int v1), .val (.int (5 : Int32))]) rfl (n := 58) rfl ?_
          refine G.iloadN C d12_58 rfl (n := 59) rfl ?_
          refine G.iconst C (v := (4 : Int32)) d12_59 (by decide) (n := 60) rfl ?_
          refine G.iushr C d12_60 (n := 61) rfl ?_
          refine G.istoreNZ C d12_61 (l' := fun z => #[.val (.int z), .val (.int (5 : Int32))]) (fun _ => rfl) (n := 62) rfl ?_
          intro v8 hv8
          have y62 : v8.toInt = v1.toInt / 16 := by rw [hv8]; exact ush_nn 4 4 16 (by decide) (by decide) (by decide) (by omega)
          refine G.iloadN C d12_62 rfl (n := 63) rfl ?_
          refine G.iconst C (v := (4 : Int32)) d12_63 (by decide) (n := 64) rfl ?_
          refine G.icmp_le C (A := v8.toInt) (B := 4) rfl (by decide) d12_64 (by decide) (by decide) (n := 67) (n' := 74) rfl (fun c64_9 => ?_) (fun c64_9 => ?_)
          · refine G.iloadN C d12_74 rfl (n := 75) rfl ?_
            refine G.iloadN C d12_75 rfl (n := 76) rfl ?_
            refine G.iconst C (v := (1 : Int32)) d12_76 (by decide) (n := 77) rfl ?_
            refine G.iushr C d12_77 (n := 78) rfl ?_
            refine G.iadd C d12_78 (n := 79) rfl ?_
            refine G.ireturn C d12_79 (rfl) (by simp) (by decide) (by decide) ?_
            have q1 := ush_nn (x := v8) 1 1 2 (by decide) (by decide) (by decide) (by omega)
            have q2 := addk (x := (5 : Int32)) (y := (v8.toUInt32 >>> ((1 : Int32) &&& 31).toUInt32).toInt32) (K := 5) (by decide) (by omega) (by omega)
            exact ⟨_, rfl, by omega, by omega, rfl⟩
          · refine G.iincK C (v := (2 : Int32)) (z := (7 : Int32)) d12_67 (by decide) rfl (by decide) (l' := #[.val (.int v8), .val (.int (7 : Int32))]) rfl (n := 70) rfl ?_
            refine G.iloadN C d12_70 rfl (n := 71) rfl ?_
            refine G.iconst C (v := (2 : Int32)) d12_71 (by decide) (n := 72) rfl ?_
            refine G.iushr C d12_72 (n := 73) rfl ?_
            refine G.istoreNZ C d12_73 (l' := fun z => #[.val (.int z), .val (.int (7 : Int32))]) (fun _ => rfl) (n := 74) rfl ?_
            intro v10 hv10
            have y74 : v10.toInt = v8.toInt / 4 := by rw [hv10]; exact ush_nn 2 2 4 (by decide) (by decide) (by decide) (by omega)
            refine G.iloadN C d12_74 rfl (n := 75) rfl ?_
            refine G.iloadN C d12_75 rfl (n := 76) rfl ?_
            refine G.iconst C (v := (1 : Int32)) d12_76 (by decide) (n := 77) rfl ?_
            refine G.iushr C d12_77 (n := 78) rfl ?_
            refine G.iadd C d12_78 (n := 79) rfl ?_
            refine G.ireturn C d12_79 (rfl) (by simp) (by decide) (by decide) ?_
            have q1 := ush_nn (x := v10) 1 1 2 (by decide) (by decide) (by decide) (by omega)
            have q2 := addk (x := (7 : Int32)) (y := (v10.toUInt32 >>> ((1 : Int32) &&& 31).toUInt32).toInt32) (K := 7) (by decide) (by omega) (by omega)
            exact ⟨_, rfl, by omega, by omega, rfl⟩
      · refine G.iincK C (v := (8 : Int32)) (z := (9 : Int32)) d12_41 (by decide) rfl (by decide) (l' := #[.val (.int v1), .val (.int (9 : Int32))]) rfl (n := 44) rfl ?_
        refine G.iloadN C d12_44 rfl (n := 45) rfl ?_
        refine G.bipush C (v := (8 : Int32)) d12_45 (by decide) (n := 47) rfl ?_
        refine G.iushr C d12_47 (n := 48) rfl ?_
        refine G.istoreNZ C d12_48 (l' := fun z => #[.val (.int z), .val (.int (9 : Int32))]) (fun _ => rfl) (n := 49) rfl ?_
        intro v11 hv11
        have y49 : v11.toInt = v1.toInt / 256 := by rw [hv11]; exact ush_nn 8 8 256 (by decide) (by decide) (by decide) (by omega)
        refine G.iloadN C d12_49 rfl (n := 50) rfl ?_
        refine G.bipush C (v := (16 : Int32)) d12_50 (by decide) (n := 52) rfl ?_
        refine G.icmp_le C (A := v11.toInt) (B := 16) rfl (by decide) d12_52 (by decide) (by decide) (n := 55) (n' := 62) rfl (fun c52_12 => ?_) (fun c52_12 => ?_)
        · refine G.iloadN C d12_62 rfl (n := 63) rfl ?_
          refine G.iconst C (v := (4 : Int32)) d12_63 (by decide) (n := 64) rfl ?_
          refine G.icmp_le C (A := v11.toInt) (B := 4) rfl (by decide) d12_64 (by decide) (by decide) (n := 67) (n' := 74) rfl (fun c64_13 => ?_) (fun c64_13 => ?_)
          · refine G.iloadN C d12_74 rfl (n := 75) rfl ?_
            refine G.iloadN C d12_75 rfl (n := 76) rfl ?_
            refine G.iconst C (v := (1 : Int32)) d12_76 (by decide) (n := 77) rfl ?_
            refine G.iushr C d12_77 (n := 78) rfl ?_
            refine G.iadd C d12_78 (n := 79) rfl ?_
            refine G.ireturn C d12_79 (rfl) (by simp) (by decide) (by decide) ?_
            have q1 := ush_nn (x := v11) 1 1 2 (by decide) (by decide) (by decide) (by omega)
            have q2 := addk (x := (9 : Int32)) (y := (v11.toUInt32 >>> ((1 : Int32) &&& 31).toUInt32).toInt32) (K := 9) (by decide) (by omega) (by omega)
            exact ⟨_, rfl, by omega, by omega, rfl⟩
          · refine G.iincK C (v := (2 : Int32)) (z := (11 : Int32)) d12_67 (by decide) rfl (by decide) (l' := #[.val (.int v11), .val (.int (11 : Int32))]) rfl (n := 70) rfl ?_
            refine G.iloadN C d12_70 rfl (n := 71) rfl ?_
            refine G.iconst C (v := (2 : Int32)) d12_71 (by decide) (n := 72) rfl ?_
            refine G.iushr C d12_72 (n := 73) rfl ?_
            refine G.istoreNZ C d12_73 (l' := fun z => #[.val (.int z), .val (.int (11 : Int32))]) (fun _ => rfl) (n := 74) rfl ?_
            intro v14 hv14
            have y74 : v14.toInt = v11.toInt / 4 := by rw [hv14]; exact ush_nn 2 2 4 (by decide) (by decide) (by decide) (by omega)
            refine G.iloadN C d12_74 rfl (n := 75) rfl ?_
            refine G.iloadN C d12_75 rfl (n := 76) rfl ?_
            refine G.iconst C (v := (1 : Int32)) d12_76 (by decide) (n := 77) rfl ?_
            refine G.iushr C d12_77 (n := 78) rfl ?_
            refine G.iadd C d12_78 (n := 79) rfl ?_
            refine G.ireturn C d12_79 (rfl) (by simp) (by decide) (by decide) ?_
            have q1 := ush_nn (x := v14) 1 1 2 (by decide) (by decide) (by decide) (by omega)
            have q2 := addk (x := (11 : Int32)) (y := (v14.toUInt32 >>> ((1 : Int32) &&& 31).toUInt32).toInt32) (K := 11) (by decide) (by omega) (by omega)
            exact ⟨_, rfl, by omega, by omega, rfl⟩
        · refine G.iincK C (v := (4 : Int32)) (z := (13 : Int32)) d12_55 (by decide) rfl (by decide) (l' := #[.val (.int v11), .val (.int (13 : Int32))]) rfl (n := 58) rfl ?_
          refine G.iloadN C d12_58 rfl (n := 59) rfl ?_
          refine G.iconst C (v := (4 : Int32)) d12_59 (by decide) (n := 60) rfl ?_
          refine G.iushr C d12_60 (n := 61) rfl ?_
          refine G.istoreNZ C d12_61 (l' := fun z => #[.val (.int z), .val (.int (13 : Int32))]) (fun _ => rfl) (n := 62) rfl ?_
          intro v15 hv15
          have y62 : v15.toInt = v11.toInt / 16 := by rw [hv15]; exact ush_nn 4 4 16 (by decide) (by decide) (by decide) (by omega)
          refine G.iloadN C d12_62 rfl (n := 63) rfl ?_
          refine G.iconst C (v := (4 : Int32)) d12_63 (by decide) (n := 64) rfl ?_
          refine G.icmp_le C (A := v15.toInt) (B := 4) rfl (by decide) d12_64 (by decide) (by decide) (n := 67) (n' := 74) rfl (fun c64_16 => ?_) (fun c64_16 => ?_)
          · refine G.iloadN C d12_74 rfl (n := 75) rfl ?_
            refine G.iloadN C d12_75 rfl (n := 76) rfl ?_
            refine G.iconst C (v := (1 : Int32)) d12_76 (by decide) (n := 77) rfl ?_
            refine G.iushr C d12_77 (n := 78) rfl ?_
            refine G.iadd C d12_78 (n := 79) rfl ?_
            refine G.ireturn C d12_79 (rfl) (by simp) (by decide) (by decide) ?_
            have q1 := ush_nn (x := v15) 1 1 2 (by decide) (by decide) (by decide) (by omega)
            have q2 := addk (x := (13 : Int32)) (y := (v15.toUInt32 >>> ((1 : Int32) &&& 31).toUInt32).toInt32) (K := 13) (by decide) (by omega) (by omega)
            exact ⟨_, rfl, by omega, by omega, rfl⟩
          · refine G.iincK C (v := (2 : Int32)) (z := (15 : Int32)) d12_67 (by decide) rfl (by decide) (l' := #[.val (.int v15), .val (.int (15 : Int32))]) rfl (n := 70) rfl ?_
            refine G.iloadN C d12_70 rfl (n := 71) rfl ?_
            refine G.iconst C (v := (2 : Int32)) d12_71 (by decide) (n := 72) rfl ?_
            refine G.iushr C d12_72 (n := 73) rfl ?_
            refine G.istoreNZ C d12_73 (l' := fun z => #[.val (.int z), .val (.int (15 : Int32))]) (fun _ => rfl) (n := 74) rfl ?_
            intro v17 hv17
            have y74 : v17.toInt = v15.toInt / 4 := by rw [hv17]; exact ush_nn 2 2 4 (by decide) (by decide) (by decide) (by omega)
            refine G.iloadN C d12_74 rfl (n := 75) rfl ?_
            refine G.iloadN C d12_75 rfl (n := 76) rfl ?_
            refine G.iconst C (v := (1 : Int32)) d12_76 (by decide) (n := 77) rfl ?_
            refine G.iushr C d12_77 (n := 78) rfl ?_
            refine G.iadd C d12_78 (n := 79) rfl ?_
            refine G.ireturn C d12_79 (rfl) (by simp) (by decide) (by decide) ?_
            have q1 := ush_nn (x := v17) 1 1 2 (by decide) (by decide) (by decide) (by omega)
            have q2 := addk (x := (15 : Int32)) (y := (v17.toUInt32 >>> ((1 : Int32) &&& 31).toUInt32).toInt32) (K := 15) (by decide) (by omega) (by omega)
            exact ⟨_, rfl, by omega, by omega, rfl⟩
    · refine G.iincK C (v := (16 : Int32)) (z := (17 : Int32)) d12_26 (by decide) rfl (by decide) (l' := #[.val (.int v1), .val (.int (17 : Int32))]) rfl (n := 29) rfl ?_
      refine G.iloadN C d12_29 rfl (n := 30) rfl ?_
      refine G.bipush C (v := (16 : Int32)) d12_30 (by decide) (n := 32) rfl ?_
      refine G.iushr C d12_32 (n := 33) rfl ?_
      refine G.istoreNZ C d12_33 (l' := fun z => #[.val (.int z), .val (.int (17 : Int32))]) (fun _ => rfl) (n := 34) rfl ?_
      intro v18 hv18
      have y34 : v18.toInt = v1.toInt / 65536 := by rw [hv18]; exact ush_nn 16 16 65536 (by decide) (by decide) (by decide) (by omega)
      refine G.iloadN C d12_34 rfl (n := 35) rfl ?_
      refine G.sipush C (v := (256 : Int32)) d12_35 (by decide) (n := 38) rfl ?_
      refine G.icmp_le C (A := v18.toInt) (B := 256) rfl (by decide) d12_38 (by decide) (by decide) (n := 41) (n' := 49) rfl (fun c38_19 => ?_) (fun c38_19 => ?_)
      · refine G.iloadN C d12_49 rfl (n := 50) rfl ?_
        refine G.bipush C (v := (16 : Int32)) d12_50 (by decide) (n := 52) rfl ?_
        refine G.icmp_le C (A := v18.toInt) (B := 16) rfl (by decide) d12_52 (by decide) (by decide) (n := 55) (n' := 62) rfl (fun c52_20 => ?_) (fun c52_20 => ?_)
        · refine G.iloadN C d12_62 rfl (n := 63) rfl ?_
          refine G.iconst C (v := (4 : Int32)) d12_63 (by decide) (n := 64) rfl ?_
          refine G.icmp_le C (A := v18.toInt) (B := 4) rfl (by decide) d12_64 (by decide) (by decide) (n := 67) (n' := 74) rfl (fun c64_21 => ?_) (fun c64_21 => ?_)
          · refine G.iloadN C d12_74 rfl (n := 75) rfl ?_
            refine G.iloadN C d12_75 rfl (n := 76) rfl ?_
            refine G.iconst C (v := (1 : Int32)) d12_76 (by decide) (n := 77) rfl ?_
            refine G.iushr C d12_77 (n := 78) rfl ?_
            refine G.iadd C d12_78 (n := 79) rfl ?_
            refine G.ireturn C d12_79 (rfl) (by simp) (by decide) (by decide) ?_
            have q1 := ush_nn (x := v18) 1 1 2 (by decide) (by decide) (by decide) (by omega)
            have q2 := addk (x := (17 : Int32)) (y := (v18.toUInt32 >>> ((1 : Int32) &&& 31).toUInt32).toInt32) (K := 17) (by decide) (by omega) (by omega)
            exact ⟨_, rfl, by omega, by omega, rfl⟩
          · refine G.iincK C (v := (2 : Int32)) (z := (19 : Int32)) d12_67 (by decide) rfl (by decide) (l' := #[.val (.int v18), .val (.int (19 : Int32))]) rfl (n := 70) rfl ?_
            refine G.iloadN C d12_70 rfl (n := 71) rfl ?_
            refine G.iconst C (v := (2 : Int32)) d12_71 (by decide) (n := 72) rfl ?_
            refine G.iushr C d12_72 (n := 73) rfl ?_
            refine G.istoreNZ C d12_73 (l' := fun z => #[.val (.int z), .val (.int (19 : Int32))]) (fun _ => rfl) (n := 74) rfl ?_
            intro v22 hv22
            have y74 : v22.toInt = v18.toInt / 4 := by rw [hv22]; exact ush_nn 2 2 4 (by decide) (by decide) (by decide) (by omega)
            refine G.iloadN C d12_74 rfl (n := 75) rfl ?_
            refine G.iloadN C d12_75 rfl (n := 76) rfl ?_
            refine G.iconst C (v := (1 : Int32)) d12_76 (by decide) (n := 77) rfl ?_
            refine G.iushr C d12_77 (n := 78) rfl ?_
            refine G.iadd C d12_78 (n := 79) rfl ?_
            refine G.ireturn C d12_79 (rfl) (by simp) (by decide) (by decide) ?_
            have q1 := ush_nn (x := v22) 1 1 2 (by decide) (by decide) (by decide) (by omega)
            have q2 := addk (x := (19 : Int32)) (y := (v22.toUInt32 >>> ((1 : Int32) &&& 31).toUInt32).toInt32) (K := 19) (by decide) (by omega) (by omega)
            exact ⟨_, rfl, by omega, by omega, rfl⟩
        · refine G.iincK C (v := (4 : Int32)) (z := (21 : Int32)) d12_55 (by decide) rfl (by decide) (l' := #[.val (.int v18), .val (.int (21 : Int32))]) rfl (n := 58) rfl ?_
          refine G.iloadN C d12_58 rfl (n := 59) rfl ?_
          refine G.iconst C (v := (4 : Int32)) d12_59 (by decide) (n := 60) rfl ?_
          refine G.iushr C d12_60 (n := 61) rfl ?_
          refine G.istoreNZ C d12_61 (l' := fun z => #[.val (.int z), .val (.int (21 : Int32))]) (fun _ => rfl) (n := 62) rfl ?_
          intro v23 hv23
          have y62 : v23.toInt = v18.toInt / 16 := by rw [hv23]; exact ush_nn 4 4 16 (by decide) (by decide) (by decide) (by omega)
          refine G.iloadN C d12_62 rfl (n := 63) rfl ?_
          refine G.iconst C (v := (4 : Int32)) d12_63 (by decide) (n := 64) rfl ?_
          refine G.icmp_le C (A := v23.toInt) (B := 4) rfl (by decide) d12_64 (by decide) (by decide) (n := 67) (n' := 74) rfl (fun c64_24 => ?_) (fun c64_24 => ?_)
          · refine G.iloadN C d12_74 rfl (n := 75) rfl ?_
            refine G.iloadN C d12_75 rfl (n := 76) rfl ?_
            refine G.iconst C (v := (1 : Int32)) d12_76 (by decide) (n := 77) rfl ?_
            refine G.iushr C d12_77 (n := 78) rfl ?_
            refine G.iadd C d12_78 (n := 79) rfl ?_
            refine G.ireturn C d12_79 (rfl) (by simp) (by decide) (by decide) ?_
            have q1 := ush_nn (x := v23) 1 1 2 (by decide) (by decide) (by decide) (by omega)
            have q2 := addk (x := (21 : Int32)) (y := (v23.toUInt32 >>> ((1 : Int32) &&& 31).toUInt32).toInt32) (K := 21) (by decide) (by omega) (by omega)
            exact ⟨_, rfl, by omega, by omega, rfl⟩
          · refine G.iincK C (v := (2 : Int32)) (z := (23 : Int32)) d12_67 (by decide) rfl (by decide) (l' := #[.val (.int v23), .val (.int (23 : Int32))]) rfl (n := 70) rfl ?_
            refine G.iloadN C d12_70 rfl (n := 71) rfl ?_
            refine G.iconst C (v := (2 : Int32)) d12_71 (by decide) (n := 72) rfl ?_
            refine G.iushr C d12_72 (n := 73) rfl ?_
            refine G.istoreNZ C d12_73 (l' := fun z => #[.val (.int z), .val (.int (23 : Int32))]) (fun _ => rfl) (n := 74) rfl ?_
            intro v25 hv25
            have y74 : v25.toInt = v23.toInt / 4 := by rw [hv25]; exact ush_nn 2 2 4 (by decide) (by decide) (by decide) (by omega)
            refine G.iloadN C d12_74 rfl (n := 75) rfl ?_
            refine G.iloadN C d12_75 rfl (n := 76) rfl ?_
            refine G.iconst C (v := (1 : Int32)) d12_76 (by decide) (n := 77) rfl ?_
            refine G.iushr C d12_77 (n := 78) rfl ?_
            refine G.iadd C d12_78 (n := 79) rfl ?_
            refine G.ireturn C d12_79 (rfl) (by simp) (by decide) (by decide) ?_
            have q1 := ush_nn (x := v25) 1 1 2 (by decide) (by decide) (by decide) (by omega)
            have q2 := addk (x := (23 : Int32)) (y := (v25.toUInt32 >>> ((1 : Int32) &&& 31).toUInt32).toInt32) (K := 23) (by decide) (by omega) (by omega)
            exact ⟨_, rfl, by omega, by omega, rfl⟩
      · refine G.iincK C (v := (8 : Int32)) (z := (25 : Int32)) d12_41 (by decide) rfl (by decide) (l' := #[.val (.int v18), .val (.int (25 : Int32))]) rfl (n := 44) rfl ?_
        refine G.iloadN C d12_44 rfl (n := 45) rfl ?_
        refine G.bipush C (v := (8 : Int32)) d12_45 (by decide) (n := 47) rfl ?_
        refine G.iushr C d12_47 (n := 48) rfl ?_
        refine G.istoreNZ C d12_48 (l' := fun z => #[.val (.int z), .val (.int (25 : Int32))]) (fun _ => rfl) (n := 49) rfl ?_
        intro v26 hv26
        have y49 : v26.toInt = v18.toInt / 256 := by rw [hv26]; exact ush_nn 8 8 256 (by decide) (by decide) (by decide) (by omega)
        refine G.iloadN C d12_49 rfl (n := 50) rfl ?_
        refine G.bipush C (v := (16 : Int32)) d12_50 (by decide) (n := 52) rfl ?_
        refine G.icmp_le C (A := v26.toInt) (B := 16) rfl (by decide) d12_52 (by decide) (by decide) (n := 55) (n' := 62) rfl (fun c52_27 => ?_) (fun c52_27 => ?_)
        · refine G.iloadN C d12_62 rfl (n := 63) rfl ?_
          refine G.iconst C (v := (4 : Int32)) d12_63 (by decide) (n := 64) rfl ?_
          refine G.icmp_le C (A := v26.toInt) (B := 4) rfl (by decide) d12_64 (by decide) (by decide) (n := 67) (n' := 74) rfl (fun c64_28 => ?_) (fun c64_28 => ?_)
          · refine G.iloadN C d12_74 rfl (n := 75) rfl ?_
            refine G.iloadN C d12_75 rfl (n := 76) rfl ?_
            refine G.iconst C (v := (1 : Int32)) d12_76 (by decide) (n := 77) rfl ?_
            refine G.iushr C d12_77 (n := 78) rfl ?_
            refine G.iadd C d12_78 (n := 79) rfl ?_
            refine G.ireturn C d12_79 (rfl) (by simp) (by decide) (by decide) ?_
            have q1 := ush_nn (x := v26) 1 1 2 (by decide) (by decide) (by decide) (by omega)
            have q2 := addk (x := (25 : Int32)) (y := (v26.toUInt32 >>> ((1 : Int32) &&& 31).toUInt32).toInt32) (K := 25) (by decide) (by omega) (by omega)
            exact ⟨_, rfl, by omega, by omega, rfl⟩
          · refine G.iincK C (v := (2 : Int32)) (z := (27 : Int32)) d12_67 (by decide) rfl (by decide) (l' := #[.val (.int v26), .val (.int (27 : Int32))]) rfl (n := 70) rfl ?_
            refine G.iloadN C d12_70 rfl (n := 71) rfl ?_
            refine G.iconst C (v := (2 : Int32)) d12_71 (by decide) (n := 72) rfl ?_
            refine G.iushr C d12_72 (n := 73) rfl ?_
            refine G.istoreNZ C d12_73 (l' := fun z => #[.val (.int z), .val (.int (27 : Int32))]) (fun _ => rfl) (n := 74) rfl ?_
            intro v29 hv29
            have y74 : v29.toInt = v26.toInt / 4 := by rw [hv29]; exact ush_nn 2 2 4 (by decide) (by decide) (by decide) (by omega)
            refine G.iloadN C d12_74 rfl (n := 75) rfl ?_
            refine G.iloadN C d12_75 rfl (n := 76) rfl ?_
            refine G.iconst C (v := (1 : Int32)) d12_76 (by decide) (n := 77) rfl ?_
            refine G.iushr C d12_77 (n := 78) rfl ?_
            refine G.iadd C d12_78 (n := 79) rfl ?_
            refine G.ireturn C d12_79 (rfl) (by simp) (by decide) (by decide) ?_
            have q1 := ush_nn (x := v29) 1 1 2 (by decide) (by decide) (by decide) (by omega)
            have q2 := addk (x := (27 : Int32)) (y := (v29.toUInt32 >>> ((1 : Int32) &&& 31).toUInt32).toInt32) (K := 27) (by decide) (by omega) (by omega)
            exact ⟨_, rfl, by omega, by omega, rfl⟩
        · refine G.iincK C (v := (4 : Int32)) (z := (29 : Int32)) d12_55 (by decide) rfl (by decide) (l' := #[.val (.int v26), .val (.int (29 : Int32))]) rfl (n := 58) rfl ?_
          refine G.iloadN C d12_58 rfl (n := 59) rfl ?_
          refine G.iconst C (v := (4 : Int32)) d12_59 (by decide) (n := 60) rfl ?_
          refine G.iushr C d12_60 (n := 61) rfl ?_
          refine G.istoreNZ C d12_61 (l' := fun z => #[.val (.int z), .val (.int (29 : Int32))]) (fun _ => rfl) (n := 62) rfl ?_
          intro v30 hv30
          have y62 : v30.toInt = v26.toInt / 16 := by rw [hv30]; exact ush_nn 4 4 16 (by decide) (by decide) (by decide) (by omega)
          refine G.iloadN C d12_62 rfl (n := 63) rfl ?_
          refine G.iconst C (v := (4 : Int32)) d12_63 (by decide) (n := 64) rfl ?_
          refine G.icmp_le C (A := v30.toInt) (B := 4) rfl (by decide) d12_64 (by decide) (by decide) (n := 67) (n' := 74) rfl (fun c64_31 => ?_) (fun c64_31 => ?_)
          · refine G.iloadN C d12_74 rfl (n := 75) rfl ?_
            refine G.iloadN C d12_75 rfl (n := 76) rfl ?_
            refine G.iconst C (v := (1 : Int32)) d12_76 (by decide) (n := 77) rfl ?_
            refine G.iushr C d12_77 (n := 78) rfl ?_
            refine G.iadd C d12_78 (n := 79) rfl ?_
            refine G.ireturn C d12_79 (rfl) (by simp) (by decide) (by decide) ?_
            have q1 := ush_nn (x := v30) 1 1 2 (by decide) (by decide) (by decide) (by omega)
            have q2 := addk (x := (29 : Int32)) (y := (v30.toUInt32 >>> ((1 : Int32) &&& 31).toUInt32).toInt32) (K := 29) (by decide) (by omega) (by omega)
            exact ⟨_, rfl, by omega, by omega, rfl⟩
          · refine G.iincK C (v := (2 : Int32)) (z := (31 : Int32)) d12_67 (by decide) rfl (by decide) (l' := #[.val (.int v30), .val (.int (31 : Int32))]) rfl (n := 70) rfl ?_
            refine G.iloadN C d12_70 rfl (n := 71) rfl ?_
            refine G.iconst C (v := (2 : Int32)) d12_71 (by decide) (n := 72) rfl ?_
            refine G.iushr C d12_72 (n := 73) rfl ?_
            refine G.istoreNZ C d12_73 (l' := fun z => #[.val (.int z), .val (.int (31 : Int32))]) (fun _ => rfl) (n := 74) rfl ?_
            intro v32 hv32
            have y74 : v32.toInt = v30.toInt / 4 := by rw [hv32]; exact ush_nn 2 2 4 (by decide) (by decide) (by decide) (by omega)
            refine G.iloadN C d12_74 rfl (n := 75) rfl ?_
            refine G.iloadN C d12_75 rfl (n := 76) rfl ?_
            refine G.iconst C (v := (1 : Int32)) d12_76 (by decide) (n := 77) rfl ?_
            refine G.iushr C d12_77 (n := 78) rfl ?_
            refine G.iadd C d12_78 (n := 79) rfl ?_
            refine G.ireturn C d12_79 (rfl) (by simp) (by decide) (by decide) ?_
            have q1 := ush_nn (x := v32) 1 1 2 (by decide) (by decide) (by decide) (by omega)
            have q2 := addk (x := (31 : Int32)) (y := (v32.toUInt32 >>> ((1 : Int32) &&& 31).toUInt32).toInt32) (K := 31) (by decide) (by omega) (by omega)
            exact ⟨_, rfl, by omega, by omega, rfl⟩
  · refine G.iloadN C d12_12 rfl (n := 13) rfl ?_
    refine G.bipush C (v := (32 : Int32)) d12_13 (by decide) (n := 15) rfl ?_
    refine G.iand C d12_15 (n := 16) rfl ?_
    refine G.ireturn C d12_16 (rfl) (by simp) (by decide) (by decide) ?_
    have e0 : v1 = 0 := Int32.toInt_inj.mp (by show _ = 0; omega)
    rw [e0]
    exact ⟨_, rfl, by decide, by decide, rfl⟩
theorem d11_0 : decode jdk_35_method_49_code 0 = .ok (.lload_n 0, 1) := by decide +kernel
theorem d11_1 : decode jdk_35_method_49_code 1 = .ok (.l2i, 1) := by decide +kernel
theorem d11_2 : decode jdk_35_method_49_code 2 = .ok (.istore_n 2, 1) := by decide +kernel
theorem d11_3 : decode jdk_35_method_49_code 3 = .ok (.iload_n 2, 1) := by decide +kernel
theorem d11_4 : decode jdk_35_method_49_code 4 = .ok (.ifCond .ne 17, 3) := by decide +kernel
theorem d11_7 : decode jdk_35_method_49_code 7 = .ok (.bipush 32, 2) := by decide +kernel
theorem d11_9 : decode jdk_35_method_49_code 9 = .ok (.lload_n 0, 1) := by decide +kernel
theorem d11_10 : decode jdk_35_method_49_code 10 = .ok (.bipush 32, 2) := by decide +kernel
theorem d11_12 : decode jdk_35_method_49_code 12 = .ok (.lushr, 1) := by decide +kernel
theorem d11_13 : decode jdk_35_method_49_code 13 = .ok (.l2i, 1) := by decide +kernel
theorem d11_14 : decode jdk_35_method_49_code 14 = .ok (.invokestatic 311, 3) := by decide +kernel
theorem d11_17 : decode jdk_35_method_49_code 17 = .ok (.iadd, 1) := by decide +kernel
theorem d11_18 : decode jdk_35_method_49_code 18 = .ok (.goto 7, 3) := by decide +kernel
theorem d11_21 : decode jdk_35_method_49_code 21 = .ok (.iload_n 2, 1) := by decide +kernel
theorem d11_22 : decode jdk_35_method_49_code 22 = .ok (.invokestatic 311, 3) := by decide +kernel
theorem d11_25 : decode jdk_35_method_49_code 25 = .ok (.ireturn, 1) := by decide +kernel
theorem pd0 : parseMethodDescriptor "(I)I" = some ⟨[.int], some .int⟩ := by decide +kernel
theorem pn1 : plainName "java/lang/Long" = true := by first | (simp [plainName, overriddenIn]; done) | decide +kernel
theorem ef2 (m : MethodId) (x : Int64) : entryFrame m #[(.long x)] 3 = mkF m 0 #[.val (.long x), .second, .unset] [] := by first | (simp [entryFrame, mkF, argsToLocals, Value.category]; done) | rfl
abbrev Q_ntzL (Z : State) (h0 : Heap) (n0 : Nat) (x : Int64) : Option Value → Heap → Prop := fun v h' => ∃ r : Int32, v = some (.int r) ∧ 0 ≤ r.toInt ∧ r.toInt ≤ 63 ∧ h0 = h'
abbrev R_ntzL : Room := { frames := 1, cells := 0, slots := 0, locals := 14 }
set_option maxRecDepth 65536 in
set_option maxHeartbeats 40000000 in
theorem m_ntzL (l : Launch) (Z : State) (a0 : Array Value) (hw : ∀ d ∈ tables_1, d.before a0 Z = true) (x : Int64) (h0 : Heap) (n0 : Nat) (Z0 : n0 ≤ h0.size) (nz : x ≠ 0) : Met l Z (⟨"java/lang/Long", "numberOfTrailingZeros", "(J)I"⟩ : MethodName) jdk_35_method_49_code 3 (some .int) R_ntzL #[(.long x)] h0 n0 (Q_ntzL Z h0 n0 x) := by
  refine Met.of (plainFor_of_name pn1) (fun m => ef2 m x) ?_
  intro p e s m args below meth c C
  refine G.lloadN C d11_0 rfl (n := 1) rfl ?_
  refine G.l2i C d11_1 (n := 2) rfl ?_
  refine G.istoreNZ C d11_2 (l' := fun z => #[.val (.long x), .second, .val (.int z)]) (fun _ => rfl) (n := 3) rfl ?_
  intro v1 hv1
  refine G.iloadN C d11_3 rfl (n := 4) rfl ?_
  refine G.if_ne C (A := v1.toInt) rfl d11_4 (by decide) (by decide) (n := 7) (n' := 21) rfl (fun c4_2 c4_2i => ?_) (fun c4_2 c4_2i => ?_)
  · refine G.iloadN C d11_21 rfl (n := 22) rfl ?_
    refine G.callS C (argsL := [(.int v1)]) (yc := (⟨"java/lang/Integer", "numberOfTrailingZeros", "(I)I"⟩ : MethodName)) (wd hw 66 rfl) (wd hw 67 rfl) (wd hw 68 rfl) (wd hw 69 rfl) (by decide) (m_ntzI l Z a0 hw v1 h0 n0 Z0 c4_2) rfl (by decide) (W := 0) rfl (by decide) (c' := 0) (s' := 0) rfl rfl (by decide) (by decide) d11_22 (n := 25) rfl pd0 rfl rfl ?_
    rintro _ h7 ⟨rr3, rfl, b4, b5, rfl⟩
    refine G.ireturn C d11_25 (rfl) (by simp) (by decide) (by decide) ?_
    exact ⟨_, rfl, by omega, by omega, rfl⟩
  · refine G.bipush C (v := (32 : Int32)) d11_7 (by decide) (n := 9) rfl ?_
    refine G.lloadN C d11_9 rfl (n := 10) rfl ?_
    refine G.bipush C (v := (32 : Int32)) d11_10 (by decide) (n := 12) rfl ?_
    refine G.lushr C d11_12 (n := 13) rfl ?_
    refine G.l2i C d11_13 (n := 14) rfl ?_
    refine G.callS C (argsL := [(.int (((x.toUInt64 >>> ((32 : Int32) &&& 0x3f).toInt64.toUInt64).toInt64).toInt32))]) (yc := (⟨"java/lang/Integer", "numberOfTrailingZeros", "(I)I"⟩ : MethodName)) (wd hw 66 rfl) (wd hw 67 rfl) (wd hw 68 rfl) (wd hw 69 rfl) (by decide) (m_ntzI l Z a0 hw (((x.toUInt64 >>> ((32 : Int32) &&& 0x3f).toInt64.toUInt64).toInt64).toInt32) h0 n0 Z0 (hi_nz nz (by rw [← hv1]; exact c4_2))) rfl (by decide) (W := 1) rfl (by decide) (c' := 0) (s' := 0) rfl rfl (by decide) (by decide) d11_14 (n := 17) rfl pd0 rfl rfl ?_
    rintro _ h12 ⟨rr8, rfl, b9, b10, rfl⟩
    refine G.iadd C d11_17 (n := 18) rfl ?_
    refine G.goto C d11_18 (by decide) (n := 25) (by decide) ?_
    refine G.ireturn C d11_25 (rfl) (by simp) (by decide) (by decide) ?_
    have q2 := addk (x := 32) (y := rr8) (K := 32) (by decide) (by omega) (by omega)
    exact ⟨_, rfl, by omega, by omega, rfl⟩
theorem d7_0 : decode jdk_41_method_11_code 0 = .ok (.iload_n 0, 1) := by decide +kernel
theorem d7_1 : decode jdk_41_method_11_code 1 = .ok (.ifCond .lt 8, 3) := by decide +kernel
theorem d7_4 : decode jdk_41_method_11_code 4 = .ok (.iload_n 0, 1) := by decide +kernel
theorem d7_5 : decode jdk_41_method_11_code 5 = .ok (.iload_n 1, 1) := by decide +kernel
theorem d7_6 : decode jdk_41_method_11_code 6 = .ok (.if_icmp .lt 10, 3) := by decide +kernel
theorem d7_9 : decode jdk_41_method_11_code 9 = .ok (.aload_n 2, 1) := by decide +kernel
theorem d7_10 : decode jdk_41_method_11_code 10 = .ok (.iload_n 0, 1) := by decide +kernel
theorem d7_11 : decode jdk_41_method_11_code 11 = .ok (.iload_n 1, 1) := by decide +kernel
theorem d7_12 : decode jdk_41_method_11_code 12 = .ok (.invokestatic 95, 3) := by decide +kernel
theorem d7_15 : decode jdk_41_method_11_code 15 = .ok (.athrow, 1) := by decide +kernel
theorem d7_16 : decode jdk_41_method_11_code 16 = .ok (.iload_n 0, 1) := by decide +kernel
theorem d7_17 : decode jdk_41_method_11_code 17 = .ok (.ireturn, 1) := by decide +kernel
theorem pn2 : plainName "jdk/internal/util/Preconditions" = true := by first | (simp [plainName, overriddenIn]; done) | decide +kernel
theorem ef3 (m : MethodId) (i : Int32) (k : Int32) : entryFrame m #[(.int i), (.int k), .null] 3 = mkF m 0 #[.val (.int i), .val (.int k), .val .null] [] := by first | (simp [entryFrame, mkF, argsToLocals, Value.category]; done) | rfl
abbrev Q_ci3 (Z : State) (h0 : Heap) (n0 : Nat) (i : Int32) (k : Int32) : Option Value → Heap → Prop := fun v h' => v = some (.int i) ∧ h0 = h'
abbrev R_ci3 : Room := { frames := 0, cells := 0, slots := 0, locals := 0 }
set_option maxRecDepth 65536 in
set_option maxHeartbeats 40000000 in
theorem m_ci3 (l : Launch) (Z : State) (a0 : Array Value) (hw : ∀ d ∈ tables_1, d.before a0 Z = true) (i : Int32) (k : Int32) (h0 : Heap) (n0 : Nat) (Z0 : n0 ≤ h0.size) (q1 : 0 ≤ i.toInt) (q2 : i.toInt < k.toInt) : Met l Z (⟨"jdk/internal/util/Preconditions", "checkIndex", "(IILjava/util/function/BiFunction;)I"⟩ : MethodName) jdk_41_method_11_code 3 (some .int) R_ci3 #[(.int i), (.int k), .null] h0 n0 (Q_ci3 Z h0 n0 i k) := by
  refine Met.of (plainFor_of_name pn2) (fun m => ef3 m i k) ?_
  intro p e s m args below meth c C
  refine G.iloadN C d7_0 rfl (n := 1) rfl ?_
  refine G.if_lt C (A := i.toInt) rfl d7_1 (by decide) (by decide) (n := 4) (n' := 9) rfl (fun c1_1 => ?_) (fun c1_1 => ?_)
  · exact absurd c1_1 (by omega)
  refine G.iloadN C d7_4 rfl (n := 5) rfl ?_
  refine G.iloadN C d7_5 rfl (n := 6) rfl ?_
  refine G.icmp_lt C (A := i.toInt) (B := k.toInt) rfl rfl d7_6 (by decide) (by decide) (n := 9) (n' := 16) rfl (fun c6_2 => ?_) (fun c6_2 => ?_)
  rotate_left
  · exact absurd c6_2 (by omega)
  refine G.iloadN C d7_16 rfl (n := 17) rfl ?_
  refine G.ireturn C d7_17 (rfl) (by simp) (by decide) (by decide) ?_
  exact ⟨rfl, rfl⟩
theorem d6_0 : decode jdk_31_method_17_code 0 = .ok (.iload_n 0, 1) := by decide +kernel
theorem d6_1 : decode jdk_31_method_17_code 1 = .ok (.iload_n 1, 1) := by decide +kernel
theorem d6_2 : decode jdk_31_method_17_code 2 = .ok (.aconst_null, 1) := by decide +kernel
theorem d6_3 : decode jdk_31_method_17_code 3 = .ok (.invokestatic 105, 3) := by decide +kernel
theorem d6_6 : decode jdk_31_method_17_code 6 = .ok (.ireturn, 1) := by decide +kernel
theorem pd1 : parseMethodDescriptor "(IILjava/util/function/BiFunction;)I" = some ⟨[.int, .int, (.object "java/util/function/BiFunction")], some .int⟩ := by decide +kernel
theorem pn3 : plainName "java/util/Objects" = true := by first | (simp [plainName, overriddenIn]; done) | decide +kernel
theorem ef4 (m : MethodId) (i : Int32) (k : Int32) : entryFrame m #[(.int i), (.int k)] 2 = mkF m 0 #[.val (.int i), .val (.int k)] [] := by first | (simp [entryFrame, mkF, argsToLocals, Value.category]; done) | rfl
abbrev Q_ci2 (Z : State) (h0 : Heap) (n0 : Nat) (i : Int32) (k : Int32) : Option Value → Heap → Prop := fun v h' => v = some (.int i) ∧ h0 = h'
abbrev R_ci2 : Room := { frames := 1, cells := 0, slots := 0, locals := 14 }
set_option maxRecDepth 65536 in
set_option maxHeartbeats 40000000 in
theorem m_ci2 (l : Launch) (Z : State) (a0 : Array Value) (hw : ∀ d ∈ tables_1, d.before a0 Z = true) (i : Int32) (k : Int32) (h0 : Heap) (n0 : Nat) (Z0 : n0 ≤ h0.size) (q1 : 0 ≤ i.toInt) (q2 : i.toInt < k.toInt) : Met l Z (⟨"java/util/Objects", "checkIndex", "(II)I"⟩ : MethodName) jdk_31_method_17_code 2 (some .int) R_ci2 #[(.int i), (.int k)] h0 n0 (Q_ci2 Z h0 n0 i k) := by
  refine Met.of (plainFor_of_name pn3) (fun m => ef4 m i k) ?_
  intro p e s m args below meth c C
  refine G.iloadN C d6_0 rfl (n := 1) rfl ?_
  refine G.iloadN C d6_1 rfl (n := 2) rfl ?_
  refine G.aconst_null C d6_2 (n := 3) rfl ?_
  refine G.callS C (argsL := [(.int i), (.int k), .null]) (yc := (⟨"jdk/internal/util/Preconditions", "checkIndex", "(IILjava/util/function/BiFunction;)I"⟩ : MethodName)) (wd hw 44 rfl) (wd hw 45 rfl) (wd hw 46 rfl) (wd hw 47 rfl) (by decide) (m_ci3 l Z a0 hw i k h0 n0 Z0 q1 q2) rfl (by decide) (W := 0) rfl (by decide) (c' := 0) (s' := 0) rfl rfl (by decide) (by decide) d6_3 (n := 6) rfl pd1 rfl rfl ?_
  rintro _ _ ⟨rfl, rfl⟩
  refine G.ireturn C d6_6 (rfl) (by simp) (by decide) (by decide) ?_
  exact ⟨rfl, rfl⟩
theorem d14_0 : decode jdk_65_method_30_code 0 = .ok (.iload_n 1, 1) := by decide +kernel
theorem d14_1 : decode jdk_65_method_30_code 1 = .ok (.iload_n 2, 1) := by decide +kernel
theorem d14_2 : decode jdk_65_method_30_code 2 = .ok (.if_icmp .le 44, 3) := by decide +kernel
theorem d14_5 : decode jdk_65_method_30_code 5 = .ok (.new 43, 3) := by decide +kernel
theorem d14_8 : decode jdk_65_method_30_code 8 = .ok (.dup, 1) := by decide +kernel
theorem d14_9 : decode jdk_65_method_30_code 9 = .ok (.new 45, 3) := by decide +kernel
theorem d14_12 : decode jdk_65_method_30_code 12 = .ok (.dup, 1) := by decide +kernel
theorem d14_13 : decode jdk_65_method_30_code 13 = .ok (.invokespecial 47, 3) := by decide +kernel
theorem d14_16 : decode jdk_65_method_30_code 16 = .ok (.ldc 48, 2) := by decide +kernel
theorem d14_18 : decode jdk_65_method_30_code 18 = .ok (.invokevirtual 50, 3) := by decide +kernel
theorem d14_21 : decode jdk_65_method_30_code 21 = .ok (.iload_n 1, 1) := by decide +kernel
theorem d14_22 : decode jdk_65_method_30_code 22 = .ok (.invokevirtual 54, 3) := by decide +kernel
theorem d14_25 : decode jdk_65_method_30_code 25 = .ok (.ldc 57, 2) := by decide +kernel
theorem d14_27 : decode jdk_65_method_30_code 27 = .ok (.invokevirtual 50, 3) := by decide +kernel
theorem d14_30 : decode jdk_65_method_30_code 30 = .ok (.iload_n 2, 1) := by decide +kernel
theorem d14_31 : decode jdk_65_method_30_code 31 = .ok (.invokevirtual 54, 3) := by decide +kernel
theorem d14_34 : decode jdk_65_method_30_code 34 = .ok (.ldc 59, 2) := by decide +kernel
theorem d14_36 : decode jdk_65_method_30_code 36 = .ok (.invokevirtual 50, 3) := by decide +kernel
theorem d14_39 : decode jdk_65_method_30_code 39 = .ok (.invokevirtual 61, 3) := by decide +kernel
theorem d14_42 : decode jdk_65_method_30_code 42 = .ok (.invokespecial 65, 3) := by decide +kernel
theorem d14_45 : decode jdk_65_method_30_code 45 = .ok (.athrow, 1) := by decide +kernel
theorem d14_46 : decode jdk_65_method_30_code 46 = .ok (.iload_n 1, 1) := by decide +kernel
theorem d14_47 : decode jdk_65_method_30_code 47 = .ok (.ifCond .ge 12, 3) := by decide +kernel
theorem d14_50 : decode jdk_65_method_30_code 50 = .ok (.new 68, 3) := by decide +kernel
theorem d14_53 : decode jdk_65_method_30_code 53 = .ok (.dup, 1) := by decide +kernel
theorem d14_54 : decode jdk_65_method_30_code 54 = .ok (.iload_n 1, 1) := by decide +kernel
theorem d14_55 : decode jdk_65_method_30_code 55 = .ok (.invokespecial 70, 3) := by decide +kernel
theorem d14_58 : decode jdk_65_method_30_code 58 = .ok (.athrow, 1) := by decide +kernel
theorem d14_59 : decode jdk_65_method_30_code 59 = .ok (.iload_n 2, 1) := by decide +kernel
theorem d14_60 : decode jdk_65_method_30_code 60 = .ok (.iload_n 0, 1) := by decide +kernel
theorem d14_61 : decode jdk_65_method_30_code 61 = .ok (.if_icmp .le 12, 3) := by decide +kernel
theorem d14_64 : decode jdk_65_method_30_code 64 = .ok (.new 68, 3) := by decide +kernel
theorem d14_67 : decode jdk_65_method_30_code 67 = .ok (.dup, 1) := by decide +kernel
theorem d14_68 : decode jdk_65_method_30_code 68 = .ok (.iload_n 2, 1) := by decide +kernel
theorem d14_69 : decode jdk_65_method_30_code 69 = .ok (.invokespecial 70, 3) := by decide +kernel
theorem d14_72 : decode jdk_65_method_30_code 72 = .ok (.athrow, 1) := by decide +kernel
theorem d14_73 : decode jdk_65_method_30_code 73 = .ok (.return_, 1) := by decide +kernel
theorem pn4 : plainName "java/util/Arrays" = true := by first | (simp [plainName, overriddenIn]; done) | decide +kernel
theorem ef5 (m : MethodId) (n1 : Int32) (f1 : Int32) (t1 : Int32) : entryFrame m #[(.int n1), (.int f1), (.int t1)] 3 = mkF m 0 #[.val (.int n1), .val (.int f1), .val (.int t1)] [] := by first | (simp [entryFrame, mkF, argsToLocals, Value.category]; done) | rfl
abbrev Q_rck (Z : State) (h0 : Heap) (n0 : Nat) (n1 : Int32) (f1 : Int32) (t1 : Int32) : Option Value → Heap → Prop := fun v h' => v = none ∧ h0 = h'
abbrev R_rck : Room := { frames := 0, cells := 0, slots := 0, locals := 0 }
set_option maxRecDepth 65536 in
set_option maxHeartbeats 40000000 in
theorem m_rck (l : Launch) (Z : State) (a0 : Array Value) (hw : ∀ d ∈ tables_1, d.before a0 Z = true) (n1 : Int32) (f1 : Int32) (t1 : Int32) (h0 : Heap) (n0 : Nat) (Z0 : n0 ≤ h0.size) (q1 : 0 ≤ f1.toInt) (q2 : f1.toInt ≤ t1.toInt) (q3 : t1.toInt ≤ n1.toInt) : Met l Z (⟨"java/util/Arrays", "rangeCheck", "(III)V"⟩ : MethodName) jdk_65_method_30_code 3 none R_rck #[(.int n1), (.int f1), (.int t1)] h0 n0 (Q_rck Z h0 n0 n1 f1 t1) := by
  refine Met.of (plainFor_of_name pn4) (fun m => ef5 m n1 f1 t1) ?_
  intro p e s m args below meth c C
  refine G.iloadN C d14_0 rfl (n := 1) rfl ?_
  refine G.iloadN C d14_1 rfl (n := 2) rfl ?_
  refine G.icmp_le C (A := f1.toInt) (B := t1.toInt) rfl rfl d14_2 (by decide) (by decide) (n := 5) (n' := 46) rfl (fun c2_1 => ?_) (fun c2_1 => ?_)
  rotate_left
  · exact absurd c2_1 (by omega)
  refine G.iloadN C d14_46 rfl (n := 47) rfl ?_
  refine G.if_ge C (A := f1.toInt) rfl d14_47 (by decide) (by decide) (n := 50) (n' := 59) rfl (fun c47_2 => ?_) (fun c47_2 => ?_)
  rotate_left
  · exact absurd c47_2 (by omega)
  refine G.iloadN C d14_59 rfl (n := 60) rfl ?_
  refine G.iloadN C d14_60 rfl (n := 61) rfl ?_
  refine G.icmp_le C (A := t1.toInt) (B := n1.toInt) rfl rfl d14_61 (by decide) (by decide) (n := 64) (n' := 73) rfl (fun c61_3 => ?_) (fun c61_3 => ?_)
  rotate_left
  · exact absurd c61_3 (by omega)
  refine G.return_ C d14_73 (by decide) (by decide) ?_
  exact ⟨rfl, rfl⟩
theorem d13_0 : decode jdk_65_method_118_code 0 = .ok (.aload_n 0, 1) := by decide +kernel
theorem d13_1 : decode jdk_65_method_118_code 1 = .ok (.arraylength, 1) := by decide +kernel
theorem d13_2 : decode jdk_65_method_118_code 2 = .ok (.iload_n 1, 1) := by decide +kernel
theorem d13_3 : decode jdk_65_method_118_code 3 = .ok (.iload_n 2, 1) := by decide +kernel
theorem d13_4 : decode jdk_65_method_118_code 4 = .ok (.invokestatic 13, 3) := by decide +kernel
theorem d13_7 : decode jdk_65_method_118_code 7 = .ok (.iload_n 1, 1) := by decide +kernel
theorem d13_8 : decode jdk_65_method_118_code 8 = .ok (.istore 4, 2) := by decide +kernel
theorem d13_10 : decode jdk_65_method_118_code 10 = .ok (.iload 4, 2) := by decide +kernel
theorem d13_12 : decode jdk_65_method_118_code 12 = .ok (.iload_n 2, 1) := by decide +kernel
theorem d13_13 : decode jdk_65_method_118_code 13 = .ok (.if_icmp .ge 14, 3) := by decide +kernel
theorem d13_16 : decode jdk_65_method_118_code 16 = .ok (.aload_n 0, 1) := by decide +kernel
theorem d13_17 : decode jdk_65_method_118_code 17 = .ok (.iload 4, 2) := by decide +kernel
theorem d13_19 : decode jdk_65_method_118_code 19 = .ok (.aload_n 3, 1) := by decide +kernel
theorem d13_20 : decode jdk_65_method_118_code 20 = .ok (.aastore, 1) := by decide +kernel
theorem d13_21 : decode jdk_65_method_118_code 21 = .ok (.iinc 4 1, 3) := by decide +kernel
theorem d13_24 : decode jdk_65_method_118_code 24 = .ok (.goto (-14), 3) := by decide +kernel
theorem d13_27 : decode jdk_65_method_118_code 27 = .ok (.return_, 1) := by decide +kernel
theorem pd2 : parseMethodDescriptor "(III)V" = some ⟨[.int, .int, .int], none⟩ := by decide +kernel
theorem ef6 (m : MethodId) (a : Addr) (t1 : Int32) : entryFrame m #[(.ref a), (.int (0 : Int32)), (.int t1), .null] 5 = mkF m 0 #[.val (.ref a), .val (.int (0 : Int32)), .val (.int t1), .val .null, .unset] [] := by first | (simp [entryFrame, mkF, argsToLocals, Value.category]; done) | rfl
abbrev Q_fill (Z : State) (h0 : Heap) (n0 : Nat) (a : Addr) (t1 : Int32) : Option Value → Heap → Prop := fun v h' => v = none ∧ Keep h0 h' [a] ∧ ArrN Z h' a (.object "com/example/near_miss/nearmiss/scoring/Explanation") 1024
abbrev R_fill : Room := { frames := 1, cells := 0, slots := 0, locals := 14 }
set_option maxRecDepth 65536 in
set_option maxHeartbeats 40000000 in
theorem m_fill (l : Launch) (Z : State) (a0 : Array Value) (hw : ∀ d ∈ tables_1, d.before a0 Z = true) (a : Addr) (t1 : Int32) (h0 : Heap) (n0 : Nat) (Z0 : n0 ≤ h0.size) (O_a : ArrN Z h0 a (.object "com/example/near_miss/nearmiss/scoring/Explanation") 1024) (g_a : n0 ≤ a) (q1 : 0 ≤ t1.toInt) (q2 : t1.toInt ≤ 1024) : Met l Z (⟨"java/util/Arrays", "fill", "([Ljava/lang/Object;IILjava/lang/Object;)V"⟩ : MethodName) jdk_65_method_118_code 5 none R_fill #[(.ref a), (.int (0 : Int32)), (.int t1), .null] h0 n0 (Q_fill Z h0 n0 a t1) := by
  refine Met.of (plainFor_of_name pn4) (fun m => ef6 m a t1) ?_
  intro p e s m args below meth c C
  refine G.aloadN C d13_0 rfl rfl (n := 1) rfl ?_
  refine G.arraylengthN C (len := (1024 : Int32)) O_a rfl d13_1 (n := 2) rfl ?_
  refine G.iloadN C d13_2 rfl (n := 3) rfl ?_
  refine G.iloadN C d13_3 rfl (n := 4) rfl ?_
  refine G.callS C (argsL := [(.int (1024 : Int32)), (.int (0 : Int32)), (.int t1)]) (yc := (⟨"java/util/Arrays", "rangeCheck", "(III)V"⟩ : MethodName)) (wd hw 80 rfl) (wd hw 81 rfl) (wd hw 78 rfl) (wd hw 82 rfl) (by decide) (m_rck l Z a0 hw (1024 : Int32) (0 : Int32) t1 h0 n0 Z0 (by decide) (by show 0 ≤ t1.toInt; exact q1) (by show t1.toInt ≤ 1024; exact q2)) rfl (by decide) (W := 0) rfl (by decide) (c' := 0) (s' := 0) rfl rfl (by decide) (by decide) d13_4 (n := 7) rfl pd2 rfl rfl ?_
  rintro _ _ ⟨rfl, rfl⟩
  refine G.iloadN C d13_7 rfl (n := 8) rfl ?_
  refine G.istore C d13_8 (l' := #[.val (.ref a), .val (.int (0 : Int32)), .val (.int t1), .val .null, .val (.int (0 : Int32))]) rfl (n := 10) rfl ?_
  have qt := rng32 t1
  have loop3 : ∀ k : Nat, ∀ (i : Int32) (hL : Heap), (ArrN Z hL a (.object "com/example/near_miss/nearmiss/scoring/Explanation") 1024) → (n0 ≤ hL.size) → (Keep h0 hL [a]) → (0 ≤ i.toInt) → (i.toInt + (k : Int) = t1.toInt) → Go p l e R_fill s m args below meth c n0 (Q_fill Z h0 n0 a t1) 0 0 hL (mkF m 10 #[.val (.ref a), .val (.int (0 : Int32)), .val (.int t1), .val .null, .val (.int i)] []) := by
    intro k
    induction k with
    | zero =>
      intro i hL J4 Z5 K6 j0 j1
      refine G.iload C d13_10 rfl (n := 12) rfl ?_
      refine G.iloadN C d13_12 rfl (n := 13) rfl ?_
      refine G.icmp_ge C (A := i.toInt) (B := t1.toInt) rfl rfl d13_13 (by decide) (by decide) (n := 16) (n' := 27) rfl (fun c13_7 => ?_) (fun c13_7 => ?_)
      rotate_left
      · exact absurd c13_7 (by omega)
      refine G.return_ C d13_27 (by decide) (by decide) ?_
      exact ⟨rfl, K6, J4⟩
    | succ k ih =>
      intro i hL J4 Z5 K6 j0 j1
      refine G.iload C d13_10 rfl (n := 12) rfl ?_
      refine G.iloadN C d13_12 rfl (n := 13) rfl ?_
      refine G.icmp_ge C (A := i.toInt) (B := t1.toInt) rfl rfl d13_13 (by decide) (by decide) (n := 16) (n' := 27) rfl (fun c13_8 => ?_) (fun c13_8 => ?_)
      · exact absurd c13_8 (by omega)
      refine G.aloadN C d13_16 rfl rfl (n := 17) rfl ?_
      refine G.iload C d13_17 rfl (n := 19) rfl ?_
      refine G.aloadN C d13_19 rfl rfl (n := 20) rfl ?_
      refine G.aastoreNull C J4 rfl j0 (by omega) g_a d13_20 (n := 21) rfl ?_
      intro h9 K10 O11
      have Z12 : n0 ≤ h9.size := Nat.le_trans Z5 K10.1
      have K13 : Keep h0 h9 [a] := Keep.tr K6 K10 (allS (Or.inl (List.mem_of_getElem? (i := 0) rfl)) all0)
      refine G.iincZ C (v := (1 : Int32)) d13_21 (by decide) rfl (l' := fun z => #[.val (.ref a), .val (.int (0 : Int32)), .val (.int t1), .val .null, .val (.int z)]) (fun _ => rfl) (n := 24) rfl ?_
      intro v14 hv14
      refine G.goto C d13_24 (by decide) (n := 10) (by decide) ?_
      exact ih v14 h9 O11 Z12 K13 (by rw [hv14, Int32.add_comm, addk (K := 1) (by decide) (by omega) (by omega)]; omega) (by rw [hv14, Int32.add_comm, addk (K := 1) (by decide) (by omega) (by omega)]; omega)
  exact loop3 t1.toInt.toNat (0 : Int32) h0 O_a Z0 (Keep.refl h0 _) (by decide) (by show 0 + _ = _; omega)
theorem d10_0 : decode prog_23_method_26_code 0 = .ok (.lload_n 2, 1) := by decide +kernel
theorem d10_1 : decode prog_23_method_26_code 1 = .ok (.lstore 4, 2) := by decide +kernel
theorem d10_3 : decode prog_23_method_26_code 3 = .ok (.lload 4, 2) := by decide +kernel
theorem d10_5 : decode prog_23_method_26_code 5 = .ok (.lconst 0, 1) := by decide +kernel
theorem d10_6 : decode prog_23_method_26_code 6 = .ok (.lcmp, 1) := by decide +kernel
theorem d10_7 : decode prog_23_method_26_code 7 = .ok (.ifCond .eq 50, 3) := by decide +kernel
theorem d10_10 : decode prog_23_method_26_code 10 = .ok (.iload_n 1, 1) := by decide +kernel
theorem d10_11 : decode prog_23_method_26_code 11 = .ok (.bipush 64, 2) := by decide +kernel
theorem d10_13 : decode prog_23_method_26_code 13 = .ok (.imul, 1) := by decide +kernel
theorem d10_14 : decode prog_23_method_26_code 14 = .ok (.lload 4, 2) := by decide +kernel
theorem d10_16 : decode prog_23_method_26_code 16 = .ok (.invokestatic 96, 3) := by decide +kernel
theorem d10_19 : decode prog_23_method_26_code 19 = .ok (.iadd, 1) := by decide +kernel
theorem d10_20 : decode prog_23_method_26_code 20 = .ok (.istore 6, 2) := by decide +kernel
theorem d10_22 : decode prog_23_method_26_code 22 = .ok (.aload_n 0, 1) := by decide +kernel
theorem d10_23 : decode prog_23_method_26_code 23 = .ok (.getfield 15, 3) := by decide +kernel
theorem d10_26 : decode prog_23_method_26_code 26 = .ok (.iload 6, 2) := by decide +kernel
theorem d10_28 : decode prog_23_method_26_code 28 = .ok (.dconst 0, 1) := by decide +kernel
theorem d10_29 : decode prog_23_method_26_code 29 = .ok (.dastore, 1) := by decide +kernel
theorem d10_30 : decode prog_23_method_26_code 30 = .ok (.aload_n 0, 1) := by decide +kernel
theorem d10_31 : decode prog_23_method_26_code 31 = .ok (.getfield 107, 3) := by decide +kernel
theorem d10_34 : decode prog_23_method_26_code 34 = .ok (.ifnull 11, 3) := by decide +kernel
theorem d10_37 : decode prog_23_method_26_code 37 = .ok (.aload_n 0, 1) := by decide +kernel
theorem d10_38 : decode prog_23_method_26_code 38 = .ok (.getfield 107, 3) := by decide +kernel
theorem d10_41 : decode prog_23_method_26_code 41 = .ok (.iload 6, 2) := by decide +kernel
theorem d10_43 : decode prog_23_method_26_code 43 = .ok (.dconst 0, 1) := by decide +kernel
theorem d10_44 : decode prog_23_method_26_code 44 = .ok (.dastore, 1) := by decide +kernel
theorem d10_45 : decode prog_23_method_26_code 45 = .ok (.lload 4, 2) := by decide +kernel
theorem d10_47 : decode prog_23_method_26_code 47 = .ok (.lload 4, 2) := by decide +kernel
theorem d10_49 : decode prog_23_method_26_code 49 = .ok (.lconst 1, 1) := by decide +kernel
theorem d10_50 : decode prog_23_method_26_code 50 = .ok (.lsub, 1) := by decide +kernel
theorem d10_51 : decode prog_23_method_26_code 51 = .ok (.land, 1) := by decide +kernel
theorem d10_52 : decode prog_23_method_26_code 52 = .ok (.lstore 4, 2) := by decide +kernel
theorem d10_54 : decode prog_23_method_26_code 54 = .ok (.goto (-51), 3) := by decide +kernel
theorem d10_57 : decode prog_23_method_26_code 57 = .ok (.aload_n 0, 1) := by decide +kernel
theorem d10_58 : decode prog_23_method_26_code 58 = .ok (.getfield 11, 3) := by decide +kernel
theorem d10_61 : decode prog_23_method_26_code 61 = .ok (.iload_n 1, 1) := by decide +kernel
theorem d10_62 : decode prog_23_method_26_code 62 = .ok (.dup2, 1) := by decide +kernel
theorem d10_63 : decode prog_23_method_26_code 63 = .ok (.laload, 1) := by decide +kernel
theorem d10_64 : decode prog_23_method_26_code 64 = .ok (.lload_n 2, 1) := by decide +kernel
theorem d10_65 : decode prog_23_method_26_code 65 = .ok (.ldc2_w 94, 3) := by decide +kernel
theorem d10_68 : decode prog_23_method_26_code 68 = .ok (.lxor, 1) := by decide +kernel
theorem d10_69 : decode prog_23_method_26_code 69 = .ok (.land, 1) := by decide +kernel
theorem d10_70 : decode prog_23_method_26_code 70 = .ok (.lastore, 1) := by decide +kernel
theorem d10_71 : decode prog_23_method_26_code 71 = .ok (.return_, 1) := by decide +kernel
theorem pd3 : parseMethodDescriptor "(J)I" = some ⟨[.long], some .int⟩ := by decide +kernel
theorem pn5 : plainName "com/example/near_miss/nearmiss/search/Window" = true := by first | (simp [plainName, overriddenIn]; done) | decide +kernel
theorem ef7 (m : MethodId) (a : Addr) (i : Int32) (x : Int64) : entryFrame m #[(.ref a), (.int i), (.long x)] 7 = mkF m 0 #[.val (.ref a), .val (.int i), .val (.long x), .second, .unset, .unset, .unset] [] := by first | (simp [entryFrame, mkF, argsToLocals, Value.category]; done) | rfl
abbrev Q_empty (Z : State) (h0 : Heap) (n0 : Nat) (a : Addr) (M : Addr) (Sc : Addr) (ex : Int32) (xv : Value) (wo : Int32) (bs : Int32) (en : Int32) (ms : List Int64) (i : Int32) (x : Int64) : Option Value → Heap → Prop := fun v h' => v = none ∧ Keep h0 h' [M, Sc] ∧ Longs Z h' M (ms.set i.toInt.toNat ((ms.getD i.toInt.toNat 0) &&& (x ^^^ (-1 : Int64)))) ∧ ArrN Z h' Sc .double 1024
abbrev R_empty : Room := { frames := 2, cells := 0, slots := 0, locals := 29 }
set_option maxRecDepth 65536 in
set_option maxHeartbeats 40000000 in
theorem m_empty (l : Launch) (Z : State) (a0 : Array Value) (hw : ∀ d ∈ tables_1, d.before a0 Z = true) (a : Addr) (M : Addr) (Sc : Addr) (ex : Int32) (xv : Value) (wo : Int32) (bs : Int32) (en : Int32) (ms : List Int64) (i : Int32) (x : Int64) (h0 : Heap) (n0 : Nat) (Z0 : n0 ≤ h0.size) (O_a : Ob_Wn Z h0 a (.ref M) (.ref Sc) ex xv wo bs en .null) (O_M : Longs Z h0 M ms) (O_S : ArrN Z h0 Sc .double 1024) (ne1 : a ≠ M) (ne2 : a ≠ Sc) (ne3 : M ≠ Sc) (g_M : n0 ≤ M) (g_S : n0 ≤ Sc) (q_m : ms.length = 16) (q_i0 : 0 ≤ i.toInt) (q_i1 : i.toInt < 16) : Met l Z (⟨"com/example/near_miss/nearmiss/search/Window", "empty", "(IJ)V"⟩ : MethodName) prog_23_method_26_code 7 none R_empty #[(.ref a), (.int i), (.long x)] h0 n0 (Q_empty Z h0 n0 a M Sc ex xv wo bs en ms i x) := by
  refine Met.of (plainFor_of_name pn5) (fun m => ef7 m a i x) ?_
  intro p e s m args below meth c C
  refine G.lloadN C d10_0 rfl (n := 1) rfl ?_
  refine G.lstore C d10_1 (l' := #[.val (.ref a), .val (.int i), .val (.long x), .second, .val (.long x), .second, .unset]) rfl (n := 3) rfl ?_
  have loop1 : ∀ k : Nat, ∀ (bb : Int64) (s6 : Slot) (hL : Heap), (Ob_Wn Z hL a (.ref M) (.ref Sc) ex xv wo bs en .null) → (Longs Z hL M ms) → (ArrN Z hL Sc .double 1024) → (n0 ≤ hL.size) → (Keep h0 hL [M, Sc]) → (bb.toUInt64.toNat ≤ k) → (s6 = .unset ∨ ∃ w, s6 = .val w ∧ w.category = 1) → Go p l e R_empty s m args below meth c n0 (Q_empty Z h0 n0 a M Sc ex xv wo bs en ms i x) 0 0 hL (mkF m 3 #[.val (.ref a), .val (.int i), .val (.long x), .second, .val (.long bb), .second, s6] []) := by
    intro k
    induction k with
    | zero =>
      intro bb s6 hL J2 J3 J4 Z5 K6 j1 hs6
      refine G.lload C d10_3 rfl (n := 5) rfl ?_
      refine G.lconst C (v := (0 : Int64)) d10_5 (by decide) (n := 6) rfl ?_
      refine G.lcmp_eq C (A := bb.toInt) (B := 0) rfl (by decide) d10_6 d10_7 (by decide) (by decide) (n := 10) (n' := 57) rfl (fun c7_7 c7_7i => ?_) (fun c7_7 c7_7i => ?_)
      rotate_left
      · exact absurd (bits0 j1) c7_7
      refine G.aloadN C d10_57 rfl rfl (n := 58) rfl ?_
      refine G.getfield C (host := "") (Or.inl (wd hw 11 rfl)) Via.refl (J2.2.1) d10_58 (n := 61) rfl ?_
      refine G.iloadN C d10_61 rfl (n := 62) rfl ?_
      refine G.dup2 C d10_62 rfl rfl (n := 63) rfl ?_
      refine G.laload C (x := (ms.getD i.toInt.toNat 0)) J3 q_i0 (getD_at (by omega)) d10_63 (n := 64) rfl ?_
      refine G.lloadN C d10_64 rfl (n := 65) rfl ?_
      refine G.ldc2 C (v := (-1 : Int64)) (wd hw 73 rfl) d10_65 (n := 68) rfl ?_
      refine G.lxor C d10_68 (n := 69) rfl ?_
      refine G.land C d10_69 (n := 70) rfl ?_
      refine G.lastore C J3 q_i0 (by omega) g_M d10_70 (n := 71) rfl ?_
      intro h8 K9 W10 O11
      have O12 := J2.keep K9 (ninS ne1 nin0)
      have O13 := J4.keep K9 (ninS (Ne.symm ne3) nin0)
      have Z14 : n0 ≤ h8.size := Nat.le_trans Z5 K9.1
      have K15 : Keep h0 h8 [M, Sc] := Keep.tr K6 K9 (allS (Or.inl (List.mem_of_getElem? (i := 0) rfl)) all0)
      refine G.return_ C d10_71 (by decide) (by decide) ?_
      exact ⟨rfl, K15, O11, O13⟩
    | succ k ih =>
      intro bb s6 hL J2 J3 J4 Z5 K6 j1 hs6
      refine G.lload C d10_3 rfl (n := 5) rfl ?_
      refine G.lconst C (v := (0 : Int64)) d10_5 (by decide) (n := 6) rfl ?_
      refine G.lcmp_eq C (A := bb.toInt) (B := 0) rfl (by decide) d10_6 d10_7 (by decide) (by decide) (n := 10) (n' := 57) rfl (fun c7_16 c7_16i => ?_) (fun c7_16 c7_16i => ?_)
      · refine G.aloadN C d10_57 rfl rfl (n := 58) rfl ?_
        refine G.getfield C (host := "") (Or.inl (wd hw 11 rfl)) Via.refl (J2.2.1) d10_58 (n := 61) rfl ?_
        refine G.iloadN C d10_61 rfl (n := 62) rfl ?_
        refine G.dup2 C d10_62 rfl rfl (n := 63) rfl ?_
        refine G.laload C (x := (ms.getD i.toInt.toNat 0)) J3 q_i0 (getD_at (by omega)) d10_63 (n := 64) rfl ?_
        refine G.lloadN C d10_64 rfl (n := 65) rfl ?_
        refine G.ldc2 C (v := (-1 : Int64)) (wd hw 73 rfl) d10_65 (n := 68) rfl ?_
        refine G.lxor C d10_68 (n := 69) rfl ?_
        refine G.land C d10_69 (n := 70) rfl ?_
        refine G.lastore C J3 q_i0 (by omega) g_M d10_70 (n := 71) rfl ?_
        intro h17 K18 W19 O20
        have O21 := J2.keep K18 (ninS ne1 nin0)
        have O22 := J4.keep K18 (ninS (Ne.symm ne3) nin0)
        have Z23 : n0 ≤ h17.size := Nat.le_trans Z5 K18.1
        have K24 : Keep h0 h17 [M, Sc] := Keep.tr K6 K18 (allS (Or.inl (List.mem_of_getElem? (i := 0) rfl)) all0)
        refine G.return_ C d10_71 (by decide) (by decide) ?_
        exact ⟨rfl, K24, O20, O22⟩
      · refine G.iloadN C d10_10 rfl (n := 11) rfl ?_
        refine G.bipush C (v := (64 : Int32)) d10_11 (by decide) (n := 13) rfl ?_
        refine G.imul C d10_13 (n := 14) rfl ?_
        refine G.lload C d10_14 rfl (n := 16) rfl ?_
        refine G.callS C (argsL := [(.long bb)]) (yc := (⟨"java/lang/Long", "numberOfTrailingZeros", "(J)I"⟩ : MethodName)) (wd hw 62 rfl) (wd hw 63 rfl) (wd hw 64 rfl) (wd hw 65 rfl) (by decide) (m_ntzL l Z a0 hw bb hL n0 Z5 c7_16) rfl (by decide) (W := 1) rfl (by decide) (c' := 0) (s' := 0) rfl rfl (by decide) (by decide) d10_16 (n := 19) rfl pd3 rfl rfl ?_
        rintro _ h26 ⟨rr, rfl, rb1, rb2, rfl⟩
        refine G.iadd C d10_19 (n := 20) rfl ?_
        refine G.istoreZ C d10_20 (l' := fun z => #[.val (.ref a), .val (.int i), .val (.long x), .second, .val (.long bb), .second, .val (.int z)]) (fun _ => (Jvm.Free.XS.store1 rfl hs6 rfl)) (n := 22) rfl ?_
        intro v27 hv27
        have q6 : v27.toInt = 64 * i.toInt + rr.toInt := by rw [hv27]; exact ix64 q_i0 q_i1 rb1 rb2
        refine G.aloadN C d10_22 rfl rfl (n := 23) rfl ?_
        refine G.getfield C (host := "") (Or.inl (wd hw 14 rfl)) Via.refl (J2.2.2.1) d10_23 (n := 26) rfl ?_
        refine G.iload C d10_26 rfl (n := 28) rfl ?_
        refine G.dconst0 C d10_28 (n := 29) rfl ?_
        refine G.dastore C J4  (by omega) (by omega) g_S d10_29 (n := 30) rfl ?_
        intro h28 K29 O30
        have O31 := J2.keep K29 (ninS ne2 nin0)
        have O32 := J3.keep K29 (ninS ne3 nin0)
        have Z33 : n0 ≤ h28.size := Nat.le_trans Z5 K29.1
        have K34 : Keep h0 h28 [M, Sc] := Keep.tr K6 K29 (allS (Or.inl (List.mem_of_getElem? (i := 1) rfl)) all0)
        refine G.aloadN C d10_30 rfl rfl (n := 31) rfl ?_
        refine G.getfield C (host := "") (Or.inl (wd hw 71 rfl)) Via.refl (O31.2.2.2.2.2.2.2.2) d10_31 (n := 34) rfl ?_
        refine G.ifnullY C d10_34 (by decide) (n := 45) (by decide) ?_
        refine G.lload C d10_45 rfl (n := 47) rfl ?_
        refine G.lload C d10_47 rfl (n := 49) rfl ?_
        refine G.lconst C (v := (1 : Int64)) d10_49 (by decide) (n := 50) rfl ?_
        refine G.lsub C d10_50 (n := 51) rfl ?_
        refine G.land C d10_51 (n := 52) rfl ?_
        refine G.lstoreZ C d10_52 (l' := fun z => #[.val (.ref a), .val (.int i), .val (.long x), .second, .val (.long z), .second, .val (.int v27)]) (fun _ => rfl) (n := 54) rfl ?_
        intro v35 hv35
        refine G.goto C d10_54 (by decide) (n := 3) (by decide) ?_
        exact ih v35 (.val (.int v27)) h28 O31 O32 O30 Z33 K34 (by rw [hv35]; exact bits_dec c7_16 j1) (Or.inr ⟨_, rfl, rfl⟩)
  exact loop1 x.toUInt64.toNat x (.unset) h0 O_a O_M O_S Z0 (Keep.refl h0 _) (Nat.le_refl _) (Or.inl rfl)
theorem d15_0 : decode prog_23_method_18_code 0 = .ok (.aload_n 0, 1) := by decide +kernel
theorem d15_1 : decode prog_23_method_18_code 1 = .ok (.iload_n 1, 1) := by decide +kernel
theorem d15_2 : decode prog_23_method_18_code 2 = .ok (.bipush 6, 2) := by decide +kernel
theorem d15_4 : decode prog_23_method_18_code 4 = .ok (.iushr, 1) := by decide +kernel
theorem d15_5 : decode prog_23_method_18_code 5 = .ok (.lconst 1, 1) := by decide +kernel
theorem d15_6 : decode prog_23_method_18_code 6 = .ok (.iload_n 1, 1) := by decide +kernel
theorem d15_7 : decode prog_23_method_18_code 7 = .ok (.lshl, 1) := by decide +kernel
theorem d15_8 : decode prog_23_method_18_code 8 = .ok (.invokevirtual 73, 3) := by decide +kernel
theorem d15_11 : decode prog_23_method_18_code 11 = .ok (.return_, 1) := by decide +kernel
theorem pd4 : parseMethodDescriptor "(IJ)V" = some ⟨[.int, .long], none⟩ := by decide +kernel
theorem ef8 (m : MethodId) (a : Addr) (i : Int32) : entryFrame m #[(.ref a), (.int i)] 2 = mkF m 0 #[.val (.ref a), .val (.int i)] [] := by first | (simp [entryFrame, mkF, argsToLocals, Value.category]; done) | rfl
abbrev Q_remove (Z : State) (h0 : Heap) (n0 : Nat) (a : Addr) (M : Addr) (Sc : Addr) (ex : Int32) (xv : Value) (wo : Int32) (bs : Int32) (en : Int32) (ms : List Int64) (i : Int32) : Option Value → Heap → Prop := fun v h' => v = none ∧ Keep h0 h' [M, Sc] ∧ ∃ us, Longs Z h' M us ∧ us.length = 16 ∧ (∀ P, Has ms P → Has us (fun s => P s ∧ s ≠ i.toInt.toNat)) ∧ ArrN Z h' Sc .double 1024
abbrev R_remove : Room := { frames := 3, cells := 0, slots := 0, locals := 47 }
set_option maxRecDepth 65536 in
set_option maxHeartbeats 40000000 in
theorem m_remove (l : Launch) (Z : State) (a0 : Array Value) (hw : ∀ d ∈ tables_1, d.before a0 Z = true) (a : Addr) (M : Addr) (Sc : Addr) (ex : Int32) (xv : Value) (wo : Int32) (bs : Int32) (en : Int32) (ms : List Int64) (i : Int32) (h0 : Heap) (n0 : Nat) (Z0 : n0 ≤ h0.size) (O_a : Ob_Wn Z h0 a (.ref M) (.ref Sc) ex xv wo bs en .null) (O_M : Longs Z h0 M ms) (O_S : ArrN Z h0 Sc .double 1024) (ne1 : a ≠ M) (ne2 : a ≠ Sc) (ne3 : M ≠ Sc) (g_M : n0 ≤ M) (g_S : n0 ≤ Sc) (q_m : ms.length = 16) (q_i0 : 0 ≤ i.toInt) (q_i1 : i.toInt < 1024) : Met l Z (⟨"com/example/near_miss/nearmiss/search/Window", "remove", "(I)V"⟩ : MethodName) prog_23_method_18_code 2 none R_remove #[(.ref a), (.int i)] h0 n0 (Q_remove Z h0 n0 a M Sc ex xv wo bs en ms i) := by
  refine Met.of (plainFor_of_name pn5) (fun m => ef8 m a i) ?_
  intro p e s m args below meth c C
  refine G.aloadN C d15_0 rfl rfl (n := 1) rfl ?_
  refine G.iloadN C d15_1 rfl (n := 2) rfl ?_
  refine G.bipush C (v := (6 : Int32)) d15_2 (by decide) (n := 4) rfl ?_
  refine G.iushr C d15_4 (n := 5) rfl ?_
  refine G.lconst C (v := (1 : Int64)) d15_5 (by decide) (n := 6) rfl ?_
  refine G.iloadN C d15_6 rfl (n := 7) rfl ?_
  refine G.lshl C d15_7 (n := 8) rfl ?_
  refine G.callP C (argsL := [(.int ((i.toUInt32 >>> ((6 : Int32) &&& 31).toUInt32).toInt32)), (.long ((1 : Int64) <<< (i &&& 0x3f).toInt64))]) (yo := (⟨"com/example/near_miss/nearmiss/search/Window", "reset", "(II)V"⟩ : MethodName)) (yc := (⟨"com/example/near_miss/nearmiss/search/Window", "empty", "(IJ)V"⟩ : MethodName)) (a := a) (O_a.1) (wd hw 58 rfl) (wd hw 23 rfl) rfl (wd hw 60 rfl) (wd hw 59 rfl) (wd hw 3 rfl) (wd hw 61 rfl) (by decide) (m_empty l Z a0 hw a M Sc ex xv wo bs en ms ((i.toUInt32 >>> ((6 : Int32) &&& 31).toUInt32).toInt32) ((1 : Int64) <<< (i &&& 0x3f).toInt64) h0 n0 Z0 O_a O_M O_S ne1 ne2 ne3 g_M g_S q_m (by rw [w6_at q_i0 q_i1]; omega) (by rw [w6_at q_i0 q_i1]; omega)) rfl (by decide) (W := 0) rfl (by decide) (c' := 0) (s' := 0) rfl rfl (by decide) (by decide) d15_8 (n := 11) rfl pd4 rfl rfl ?_
  rintro _ h5 ⟨rfl, K1, O2, O3⟩
  have O6 := O_a.keep K1 (ninS ne1 (ninS ne2 nin0))
  have Z7 : n0 ≤ h5.size := Nat.le_trans Z0 K1.1
  have K8 : Keep h0 h5 [M, Sc] := Keep.tr (Keep.refl h0 _) K1 (allS (Or.inl (List.mem_of_getElem? (i := 0) rfl)) (allS (Or.inl (List.mem_of_getElem? (i := 1) rfl)) all0))
  refine G.return_ C d15_11 (by decide) (by decide) ?_
  exact ⟨rfl, K8, _, O2, by rw [List.length_set]; exact q_m, fun P H => has_rm H q_i0 q_i1, O3⟩
theorem d8_0 : decode prog_23_method_13_code 0 = .ok (.aload_n 0, 1) := by decide +kernel
theorem d8_1 : decode prog_23_method_13_code 1 = .ok (.getfield 11, 3) := by decide +kernel
theorem d8_4 : decode prog_23_method_13_code 4 = .ok (.iload_n 1, 1) := by decide +kernel
theorem d8_5 : decode prog_23_method_13_code 5 = .ok (.bipush 6, 2) := by decide +kernel
theorem d8_7 : decode prog_23_method_13_code 7 = .ok (.iushr, 1) := by decide +kernel
theorem d8_8 : decode prog_23_method_13_code 8 = .ok (.dup2, 1) := by decide +kernel
theorem d8_9 : decode prog_23_method_13_code 9 = .ok (.laload, 1) := by decide +kernel
theorem d8_10 : decode prog_23_method_13_code 10 = .ok (.lconst 1, 1) := by decide +kernel
theorem d8_11 : decode prog_23_method_13_code 11 = .ok (.iload_n 1, 1) := by decide +kernel
theorem d8_12 : decode prog_23_method_13_code 12 = .ok (.lshl, 1) := by decide +kernel
theorem d8_13 : decode prog_23_method_13_code 13 = .ok (.lor, 1) := by decide +kernel
theorem d8_14 : decode prog_23_method_13_code 14 = .ok (.lastore, 1) := by decide +kernel
theorem d8_15 : decode prog_23_method_13_code 15 = .ok (.aload_n 0, 1) := by decide +kernel
theorem d8_16 : decode prog_23_method_13_code 16 = .ok (.getfield 15, 3) := by decide +kernel
theorem d8_19 : decode prog_23_method_13_code 19 = .ok (.iload_n 1, 1) := by decide +kernel
theorem d8_20 : decode prog_23_method_13_code 20 = .ok (.dload_n 2, 1) := by decide +kernel
theorem d8_21 : decode prog_23_method_13_code 21 = .ok (.dastore, 1) := by decide +kernel
theorem d8_22 : decode prog_23_method_13_code 22 = .ok (.return_, 1) := by decide +kernel
theorem ef9 (m : MethodId) (a : Addr) (i : Int32) (dv : UInt64) : entryFrame m #[(.ref a), (.int i), (.double dv)] 4 = mkF m 0 #[.val (.ref a), .val (.int i), .val (.double dv), .second] [] := by first | (simp [entryFrame, mkF, argsToLocals, Value.category]; done) | rfl
abbrev Q_set (Z : State) (h0 : Heap) (n0 : Nat) (a : Addr) (M : Addr) (Sc : Addr) (ex : Int32) (xv : Value) (wo : Int32) (bs : Int32) (en : Int32) (ms : List Int64) (i : Int32) (dv : UInt64) : Option Value → Heap → Prop := fun v h' => v = none ∧ Keep h0 h' [M, Sc] ∧ Longs Z h' M (ms.set (w6 i).toInt.toNat ((ms.getD (w6 i).toInt.toNat 0) ||| bt i)) ∧ ArrN Z h' Sc .double 1024
abbrev R_set : Room := { frames := 0, cells := 0, slots := 0, locals := 0 }
set_option maxRecDepth 65536 in
set_option maxHeartbeats 40000000 in
theorem m_set (l : Launch) (Z : State) (a0 : Array Value) (hw : ∀ d ∈ tables_1, d.before a0 Z = true) (a : Addr) (M : Addr) (Sc : Addr) (ex : Int32) (xv : Value) (wo : Int32) (bs : Int32) (en : Int32) (ms : List Int64) (i : Int32) (dv : UInt64) (h0 : Heap) (n0 : Nat) (Z0 : n0 ≤ h0.size) (O_a : Ob_Wn Z h0 a (.ref M) (.ref Sc) ex xv wo bs en .null) (O_M : Longs Z h0 M ms) (O_S : ArrN Z h0 Sc .double 1024) (ne1 : a ≠ M) (ne2 : a ≠ Sc) (ne3 : M ≠ Sc) (g_M : n0 ≤ M) (g_S : n0 ≤ Sc) (q_m : ms.length = 16) (q_i0 : 0 ≤ i.toInt) (q_i1 : i.toInt < 1024) : Met l Z (⟨"com/example/near_miss/nearmiss/search/Window", "set", "(ID)V"⟩ : MethodName) prog_23_method_13_code 4 none R_set #[(.ref a), (.int i), (.double dv)] h0 n0 (Q_set Z h0 n0 a M Sc ex xv wo bs en ms i dv) := by
  refine Met.of (plainFor_of_name pn5) (fun m => ef9 m a i dv) ?_
  intro p e s m args below meth c C
  have qw := w6_at q_i0 q_i1
  have qw0 : 0 ≤ (w6 i).toInt := by omega
  have qw2 : ((i.toUInt32 >>> ((6 : Int32) &&& 31).toUInt32).toInt32).toInt = i.toInt / 64 := qw
  refine G.aloadN C d8_0 rfl rfl (n := 1) rfl ?_
  refine G.getfield C (host := "") (Or.inl (wd hw 11 rfl)) Via.refl (O_a.2.1) d8_1 (n := 4) rfl ?_
  refine G.iloadN C d8_4 rfl (n := 5) rfl ?_
  refine G.bipush C (v := (6 : Int32)) d8_5 (by decide) (n := 7) rfl ?_
  refine G.iushr C d8_7 (n := 8) rfl ?_
  refine G.dup2 C d8_8 rfl rfl (n := 9) rfl ?_
  refine G.laload C (x := (ms.getD (w6 i).toInt.toNat 0)) O_M qw0 (getD_at (by omega)) d8_9 (n := 10) rfl ?_
  refine G.lconst C (v := (1 : Int64)) d8_10 (by decide) (n := 11) rfl ?_
  refine G.iloadN C d8_11 rfl (n := 12) rfl ?_
  refine G.lshl C d8_12 (n := 13) rfl ?_
  refine G.lor C d8_13 (n := 14) rfl ?_
  refine G.lastore C O_M qw0 (by omega) g_M d8_14 (n := 15) rfl ?_
  intro h1 K2 W3 O4
  have O5 := O_a.keep K2 (ninS ne1 nin0)
  have O6 := O_S.keep K2 (ninS (Ne.symm ne3) nin0)
  have Z7 : n0 ≤ h1.size := Nat.le_trans Z0 K2.1
  have K8 : Keep h0 h1 [M, Sc] := Keep.tr (Keep.refl h0 _) K2 (allS (Or.inl (List.mem_of_getElem? (i := 0) rfl)) all0)
  refine G.aloadN C d8_15 rfl rfl (n := 16) rfl ?_
  refine G.getfield C (host := "") (Or.inl (wd hw 14 rfl)) Via.refl (O5.2.2.1) d8_16 (n := 19) rfl ?_
  refine G.iloadN C d8_19 rfl (n := 20) rfl ?_
  refine G.dloadN C d8_20 rfl (n := 21) rfl ?_
  refine G.dastore C O6  q_i0 q_i1 g_S d8_21 (n := 22) rfl ?_
  intro h9 K10 O11
  have O12 := O5.keep K10 (ninS ne2 nin0)
  have O13 := O4.keep K10 (ninS ne3 nin0)
  have Z14 : n0 ≤ h9.size := Nat.le_trans Z7 K10.1
  have K15 : Keep h0 h9 [M, Sc] := Keep.tr K8 K10 (allS (Or.inl (List.mem_of_getElem? (i := 1) rfl)) all0)
  refine G.return_ C d8_22 (by decide) (by decide) ?_
  exact ⟨rfl, K15, O13, O11⟩
theorem d5_0 : decode prog_23_method_27_code 0 = .ok (.iload_n 1, 1) := by decide +kernel
theorem d5_1 : decode prog_23_method_27_code 1 = .ok (.aload_n 0, 1) := by decide +kernel
theorem d5_2 : decode prog_23_method_27_code 2 = .ok (.getfield 29, 3) := by decide +kernel
theorem d5_5 : decode prog_23_method_27_code 5 = .ok (.isub, 1) := by decide +kernel
theorem d5_6 : decode prog_23_method_27_code 6 = .ok (.aload_n 0, 1) := by decide +kernel
theorem d5_7 : decode prog_23_method_27_code 7 = .ok (.getfield 33, 3) := by decide +kernel
theorem d5_10 : decode prog_23_method_27_code 10 = .ok (.aload_n 0, 1) := by decide +kernel
theorem d5_11 : decode prog_23_method_27_code 11 = .ok (.getfield 29, 3) := by decide +kernel
theorem d5_14 : decode prog_23_method_27_code 14 = .ok (.isub, 1) := by decide +kernel
theorem d5_15 : decode prog_23_method_27_code 15 = .ok (.invokestatic 121, 3) := by decide +kernel
theorem d5_18 : decode prog_23_method_27_code 18 = .ok (.ireturn, 1) := by decide +kernel
theorem pd5 : parseMethodDescriptor "(II)I" = some ⟨[.int, .int], some .int⟩ := by decide +kernel
theorem ef10 (m : MethodId) (a : Addr) (dc : Int32) : entryFrame m #[(.ref a), (.int dc)] 2 = mkF m 0 #[.val (.ref a), .val (.int dc)] [] := by first | (simp [entryFrame, mkF, argsToLocals, Value.category]; done) | rfl
abbrev Q_slotOf (Z : State) (h0 : Heap) (n0 : Nat) (a : Addr) (M : Addr) (Sc : Addr) (ex : Int32) (xv : Value) (wo : Int32) (bs : Int32) (en : Int32) (ms : List Int64) (dc : Int32) : Option Value → Heap → Prop := fun v h' => v = some (.int (dc - bs)) ∧ h0 = h'
abbrev R_slotOf : Room := { frames := 2, cells := 0, slots := 0, locals := 27 }
set_option maxRecDepth 65536 in
set_option maxHeartbeats 40000000 in
theorem m_slotOf (l : Launch) (Z : State) (a0 : Array Value) (hw : ∀ d ∈ tables_1, d.before a0 Z = true) (a : Addr) (M : Addr) (Sc : Addr) (ex : Int32) (xv : Value) (wo : Int32) (bs : Int32) (en : Int32) (ms : List Int64) (dc : Int32) (h0 : Heap) (n0 : Nat) (Z0 : n0 ≤ h0.size) (O_a : Ob_Wn Z h0 a (.ref M) (.ref Sc) ex xv wo bs en .null) (O_M : Longs Z h0 M ms) (O_S : ArrN Z h0 Sc .double 1024) (ne1 : a ≠ M) (ne2 : a ≠ Sc) (ne3 : M ≠ Sc) (g_M : n0 ≤ M) (g_S : n0 ≤ Sc) (q_m : ms.length = 16) (q1 : 0 ≤ (dc - bs).toInt) (q2 : (dc - bs).toInt < (en - bs).toInt) : Met l Z (⟨"com/example/near_miss/nearmiss/search/Window", "slotOf", "(I)I"⟩ : MethodName) prog_23_method_27_code 2 (some .int) R_slotOf #[(.ref a), (.int dc)] h0 n0 (Q_slotOf Z h0 n0 a M Sc ex xv wo bs en ms dc) := by
  refine Met.of (plainFor_of_name pn5) (fun m => ef10 m a dc) ?_
  intro p e s m args below meth c C
  refine G.iloadN C d5_0 rfl (n := 1) rfl ?_
  refine G.aloadN C d5_1 rfl rfl (n := 2) rfl ?_
  refine G.getfield C (host := "") (Or.inl (wd hw 27 rfl)) Via.refl (O_a.2.2.2.2.2.2.1) d5_2 (n := 5) rfl ?_
  refine G.isub C d5_5 (n := 6) rfl ?_
  refine G.aloadN C d5_6 rfl rfl (n := 7) rfl ?_
  refine G.getfield C (host := "") (Or.inl (wd hw 29 rfl)) Via.refl (O_a.2.2.2.2.2.2.2.1) d5_7 (n := 10) rfl ?_
  refine G.aloadN C d5_10 rfl rfl (n := 11) rfl ?_
  refine G.getfield C (host := "") (Or.inl (wd hw 27 rfl)) Via.refl (O_a.2.2.2.2.2.2.1) d5_11 (n := 14) rfl ?_
  refine G.isub C d5_14 (n := 15) rfl ?_
  refine G.callS C (argsL := [(.int (dc - bs)), (.int (en - bs))]) (yc := (⟨"java/util/Objects", "checkIndex", "(II)I"⟩ : MethodName)) (wd hw 40 rfl) (wd hw 41 rfl) (wd hw 42 rfl) (wd hw 43 rfl) (by decide) (m_ci2 l Z a0 hw (dc - bs) (en - bs) h0 n0 Z0 q1 q2) rfl (by decide) (W := 0) rfl (by decide) (c' := 0) (s' := 0) rfl rfl (by decide) (by decide) d5_15 (n := 18) rfl pd5 rfl rfl ?_
  rintro _ _ ⟨rfl, rfl⟩
  refine G.ireturn C d5_18 (rfl) (by simp) (by decide) (by decide) ?_
  exact ⟨rfl, rfl⟩
theorem d4_0 : decode prog_23_method_5_code 0 = .ok (.aload_n 0, 1) := by decide +kernel
theorem d4_1 : decode prog_23_method_5_code 1 = .ok (.aload_n 0, 1) := by decide +kernel
theorem d4_2 : decode prog_23_method_5_code 2 = .ok (.iload_n 1, 1) := by decide +kernel
theorem d4_3 : decode prog_23_method_5_code 3 = .ok (.invokevirtual 36, 3) := by decide +kernel
theorem d4_6 : decode prog_23_method_5_code 6 = .ok (.dload_n 2, 1) := by decide +kernel
theorem d4_7 : decode prog_23_method_5_code 7 = .ok (.invokevirtual 40, 3) := by decide +kernel
theorem d4_10 : decode prog_23_method_5_code 10 = .ok (.return_, 1) := by decide +kernel
theorem pd6 : parseMethodDescriptor "(ID)V" = some ⟨[.int, .double], none⟩ := by decide +kernel
theorem ef11 (m : MethodId) (a : Addr) (dc : Int32) (dv : UInt64) : entryFrame m #[(.ref a), (.int dc), (.double dv)] 4 = mkF m 0 #[.val (.ref a), .val (.int dc), .val (.double dv), .second] [] := by first | (simp [entryFrame, mkF, argsToLocals, Value.category]; done) | rfl
abbrev Q_add (Z : State) (h0 : Heap) (n0 : Nat) (a : Addr) (M : Addr) (Sc : Addr) (ex : Int32) (xv : Value) (wo : Int32) (bs : Int32) (en : Int32) (ms : List Int64) (dc : Int32) (i : Int32) (dv : UInt64) : Option Value → Heap → Prop := fun v h' => v = none ∧ Keep h0 h' [M, Sc] ∧ ∃ us, Longs Z h' M us ∧ us.length = 16 ∧ (∀ P, Has ms P → Has us (fun s => P s ∨ s = i.toInt.toNat)) ∧ ArrN Z h' Sc .double 1024
abbrev R_add : Room := { frames := 3, cells := 0, slots := 0, locals := 41 }
set_option maxRecDepth 65536 in
set_option maxHeartbeats 40000000 in
theorem m_add (l : Launch) (Z : State) (a0 : Array Value) (hw : ∀ d ∈ tables_1, d.before a0 Z = true) (a : Addr) (M : Addr) (Sc : Addr) (ex : Int32) (xv : Value) (wo : Int32) (bs : Int32) (en : Int32) (ms : List Int64) (dc : Int32) (i : Int32) (dv : UInt64) (h0 : Heap) (n0 : Nat) (Z0 : n0 ≤ h0.size) (O_a : Ob_Wn Z h0 a (.ref M) (.ref Sc) ex xv wo bs en .null) (O_M : Longs Z h0 M ms) (O_S : ArrN Z h0 Sc .double 1024) (ne1 : a ≠ M) (ne2 : a ≠ Sc) (ne3 : M ≠ Sc) (g_M : n0 ≤ M) (g_S : n0 ≤ Sc) (q_m : ms.length = 16) (e_sl : dc - bs = i) (q_i0 : 0 ≤ i.toInt) (q_i1 : i.toInt < 1024) (q_i2 : i.toInt < (en - bs).toInt) : Met l Z (⟨"com/example/near_miss/nearmiss/search/Window", "add", "(ID)V"⟩ : MethodName) prog_23_method_5_code 4 none R_add #[(.ref a), (.int dc), (.double dv)] h0 n0 (Q_add Z h0 n0 a M Sc ex xv wo bs en ms dc i dv) := by
  refine Met.of (plainFor_of_name pn5) (fun m => ef11 m a dc dv) ?_
  intro p e s m args below meth c C
  refine G.aloadN C d4_0 rfl rfl (n := 1) rfl ?_
  refine G.aloadN C d4_1 rfl rfl (n := 2) rfl ?_
  refine G.iloadN C d4_2 rfl (n := 3) rfl ?_
  refine G.callP C (argsL := [(.int dc)]) (yo := (⟨"com/example/near_miss/nearmiss/search/Window", "reset", "(II)V"⟩ : MethodName)) (yc := (⟨"com/example/near_miss/nearmiss/search/Window", "slotOf", "(I)I"⟩ : MethodName)) (a := a) (O_a.1) (wd hw 36 rfl) (wd hw 23 rfl) rfl (wd hw 38 rfl) (wd hw 37 rfl) (wd hw 3 rfl) (wd hw 39 rfl) (by decide) (m_slotOf l Z a0 hw a M Sc ex xv wo bs en ms dc h0 n0 Z0 O_a O_M O_S ne1 ne2 ne3 g_M g_S q_m (by rw [e_sl]; exact q_i0) (by rw [e_sl]; exact q_i2)) rfl (by decide) (W := 1) rfl (by decide) (c' := 0) (s' := 0) rfl rfl (by decide) (by decide) d4_3 (n := 6) rfl pd0 rfl rfl ?_
  rintro _ _ ⟨rfl, rfl⟩
  refine G.fold_int (z := i) e_sl ?_
  refine G.dloadN C d4_6 rfl (n := 7) rfl ?_
  refine G.callP C (argsL := [(.int i), (.double dv)]) (yo := (⟨"com/example/near_miss/nearmiss/search/Window", "reset", "(II)V"⟩ : MethodName)) (yc := (⟨"com/example/near_miss/nearmiss/search/Window", "set", "(ID)V"⟩ : MethodName)) (a := a) (O_a.1) (wd hw 48 rfl) (wd hw 23 rfl) rfl (wd hw 50 rfl) (wd hw 49 rfl) (wd hw 3 rfl) (wd hw 51 rfl) (by decide) (m_set l Z a0 hw a M Sc ex xv wo bs en ms i dv h0 n0 Z0 O_a O_M O_S ne1 ne2 ne3 g_M g_S q_m q_i0 q_i1) rfl (by decide) (W := 0) rfl (by decide) (c' := 0) (s' := 0) rfl rfl (by decide) (by decide) d4_7 (n := 10) rfl pd6 rfl rfl ?_
  rintro _ h7 ⟨rfl, K3, O4, O5⟩
  have O8 := O_a.keep K3 (ninS ne1 (ninS ne2 nin0))
  have Z9 : n0 ≤ h7.size := Nat.le_trans Z0 K3.1
  have K10 : Keep h0 h7 [M, Sc] := Keep.tr (Keep.refl h0 _) K3 (allS (Or.inl (List.mem_of_getElem? (i := 0) rfl)) (allS (Or.inl (List.mem_of_getElem? (i := 1) rfl)) all0))
  refine G.return_ C d4_10 (by decide) (by decide) ?_
  exact ⟨rfl, K10, _, O4, by rw [List.length_set]; exact q_m, fun P H => has_set H q_i0 q_i1, O5⟩
theorem d9_0 : decode prog_23_method_12_code 0 = .ok (.aload_n 0, 1) := by decide +kernel
theorem d9_1 : decode prog_23_method_12_code 1 = .ok (.getfield 11, 3) := by decide +kernel
theorem d9_4 : decode prog_23_method_12_code 4 = .ok (.iload_n 1, 1) := by decide +kernel
theorem d9_5 : decode prog_23_method_12_code 5 = .ok (.bipush 6, 2) := by decide +kernel
theorem d9_7 : decode prog_23_method_12_code 7 = .ok (.iushr, 1) := by decide +kernel
theorem d9_8 : decode prog_23_method_12_code 8 = .ok (.laload, 1) := by decide +kernel
theorem d9_9 : decode prog_23_method_12_code 9 = .ok (.lconst 1, 1) := by decide +kernel
theorem d9_10 : decode prog_23_method_12_code 10 = .ok (.iload_n 1, 1) := by decide +kernel
theorem d9_11 : decode prog_23_method_12_code 11 = .ok (.lshl, 1) := by decide +kernel
theorem d9_12 : decode prog_23_method_12_code 12 = .ok (.land, 1) := by decide +kernel
theorem d9_13 : decode prog_23_method_12_code 13 = .ok (.lconst 0, 1) := by decide +kernel
theorem d9_14 : decode prog_23_method_12_code 14 = .ok (.lcmp, 1) := by decide +kernel
theorem d9_15 : decode prog_23_method_12_code 15 = .ok (.ifCond .eq 7, 3) := by decide +kernel
theorem d9_18 : decode prog_23_method_12_code 18 = .ok (.iconst 1, 1) := by decide +kernel
theorem d9_19 : decode prog_23_method_12_code 19 = .ok (.goto 4, 3) := by decide +kernel
theorem d9_22 : decode prog_23_method_12_code 22 = .ok (.iconst 0, 1) := by decide +kernel
theorem d9_23 : decode prog_23_method_12_code 23 = .ok (.ireturn, 1) := by decide +kernel
theorem ef12 (m : MethodId) (a : Addr) (i : Int32) : entryFrame m #[(.ref a), (.int i)] 2 = mkF m 0 #[.val (.ref a), .val (.int i)] [] := by first | (simp [entryFrame, mkF, argsToLocals, Value.category]; done) | rfl
abbrev Q_holds (Z : State) (h0 : Heap) (n0 : Nat) (a : Addr) (M : Addr) (Sc : Addr) (ex : Int32) (xv : Value) (wo : Int32) (bs : Int32) (en : Int32) (ms : List Int64) (i : Int32) : Option Value → Heap → Prop := fun v h' => ∃ r : Int32, v = some (.int r) ∧ (∀ P : Nat → Prop, Has ms P → ((r = 1 ∧ P i.toInt.toNat) ∨ (r = 0 ∧ ¬ P i.toInt.toNat))) ∧ h0 = h'
abbrev R_holds : Room := { frames := 0, cells := 0, slots := 0, locals := 0 }
set_option maxRecDepth 65536 in
set_option maxHeartbeats 40000000 in
theorem m_holds (l : Launch) (Z : State) (a0 : Array Value) (hw : ∀ d ∈ tables_1, d.before a0 Z = true) (a : Addr) (M : Addr) (Sc : Addr) (ex : Int32) (xv : Value) (wo : Int32) (bs : Int32) (en : Int32) (ms : List Int64) (i : Int32) (h0 : Heap) (n0 : Nat) (Z0 : n0 ≤ h0.size) (O_a : Ob_Wn Z h0 a (.ref M) (.ref Sc) ex xv wo bs en .null) (O_M : Longs Z h0 M ms) (O_S : ArrN Z h0 Sc .double 1024) (ne1 : a ≠ M) (ne2 : a ≠ Sc) (ne3 : M ≠ Sc) (g_M : n0 ≤ M) (g_S : n0 ≤ Sc) (q_m : ms.length = 16) (q_i0 : 0 ≤ i.toInt) (q_i1 : i.toInt < 1024) : Met l Z (⟨"com/example/near_miss/nearmiss/search/Window", "holds", "(I)Z"⟩ : MethodName) prog_23_method_12_code 2 (some .boolean) R_holds #[(.ref a), (.int i)] h0 n0 (Q_holds Z h0 n0 a M Sc ex xv wo bs en ms i) := by
  refine Met.of (plainFor_of_name pn5) (fun m => ef12 m a i) ?_
  intro p e s m args below meth c C
  have qw := w6_at q_i0 q_i1
  have qw0 : 0 ≤ (w6 i).toInt := by omega
  have qw2 : ((i.toUInt32 >>> ((6 : Int32) &&& 31).toUInt32).toInt32).toInt = i.toInt / 64 := qw
  refine G.aloadN C d9_0 rfl rfl (n := 1) rfl ?_
  refine G.getfield C (host := "") (Or.inl (wd hw 11 rfl)) Via.refl (O_a.2.1) d9_1 (n := 4) rfl ?_
  refine G.iloadN C d9_4 rfl (n := 5) rfl ?_
  refine G.bipush C (v := (6 : Int32)) d9_5 (by decide) (n := 7) rfl ?_
  refine G.iushr C d9_7 (n := 8) rfl ?_
  refine G.laload C (x := (ms.getD (w6 i).toInt.toNat 0)) O_M qw0 (getD_at (by omega)) d9_8 (n := 9) rfl ?_
  refine G.lconst C (v := (1 : Int64)) d9_9 (by decide) (n := 10) rfl ?_
  refine G.iloadN C d9_10 rfl (n := 11) rfl ?_
  refine G.lshl C d9_11 (n := 12) rfl ?_
  refine G.land C d9_12 (n := 13) rfl ?_
  refine G.lconst C (v := (0 : Int64)) d9_13 (by decide) (n := 14) rfl ?_
  refine G.lcmp_eq C (A := ((ms.getD (w6 i).toInt.toNat 0) &&& ((1 : Int64) <<< (i &&& 0x3f).toInt64)).toInt) (B := 0) rfl (by decide) d9_14 d9_15 (by decide) (by decide) (n := 18) (n' := 22) rfl (fun c15_1 c15_1i => ?_) (fun c15_1 c15_1i => ?_)
  · refine G.iconst C (v := (0 : Int32)) d9_22 (by decide) (n := 23) rfl ?_
    refine G.ireturn C d9_23 (rfl) (by simp) (by decide) (by decide) ?_
    exact ⟨_, rfl, fun P H => Or.inr ⟨rfl, fun q => (has_q H q_i0 q_i1).mpr q c15_1⟩, rfl⟩
  · refine G.iconst C (v := (1 : Int32)) d9_18 (by decide) (n := 19) rfl ?_
    refine G.goto C d9_19 (by decide) (n := 23) (by decide) ?_
    refine G.ireturn C d9_23 (rfl) (by simp) (by decide) (by decide) ?_
    exact ⟨_, rfl, fun P H => Or.inl ⟨rfl, (has_q H q_i0 q_i1).mp c15_1⟩, rfl⟩
theorem d3_0 : decode prog_23_method_8_code 0 = .ok (.iload_n 2, 1) := by decide +kernel
theorem d3_1 : decode prog_23_method_8_code 1 = .ok (.iload_n 1, 1) := by decide +kernel
theorem d3_2 : decode prog_23_method_8_code 2 = .ok (.if_icmp .le 12, 3) := by decide +kernel
theorem d3_5 : decode prog_23_method_8_code 5 = .ok (.iload_n 2, 1) := by decide +kernel
theorem d3_6 : decode prog_23_method_8_code 6 = .ok (.iload_n 1, 1) := by decide +kernel
theorem d3_7 : decode prog_23_method_8_code 7 = .ok (.isub, 1) := by decide +kernel
theorem d3_8 : decode prog_23_method_8_code 8 = .ok (.sipush 1024, 3) := by decide +kernel
theorem d3_11 : decode prog_23_method_8_code 11 = .ok (.if_icmp .le 13, 3) := by decide +kernel
theorem d3_14 : decode prog_23_method_8_code 14 = .ok (.new 63, 3) := by decide +kernel
theorem d3_17 : decode prog_23_method_8_code 17 = .ok (.dup, 1) := by decide +kernel
theorem d3_18 : decode prog_23_method_8_code 18 = .ok (.ldc 65, 2) := by decide +kernel
theorem d3_20 : decode prog_23_method_8_code 20 = .ok (.invokespecial 67, 3) := by decide +kernel
theorem d3_23 : decode prog_23_method_8_code 23 = .ok (.athrow, 1) := by decide +kernel
theorem d3_24 : decode prog_23_method_8_code 24 = .ok (.iconst 0, 1) := by decide +kernel
theorem d3_25 : decode prog_23_method_8_code 25 = .ok (.istore_n 3, 1) := by decide +kernel
theorem d3_26 : decode prog_23_method_8_code 26 = .ok (.iload_n 3, 1) := by decide +kernel
theorem d3_27 : decode prog_23_method_8_code 27 = .ok (.aload_n 0, 1) := by decide +kernel
theorem d3_28 : decode prog_23_method_8_code 28 = .ok (.getfield 70, 3) := by decide +kernel
theorem d3_31 : decode prog_23_method_8_code 31 = .ok (.if_icmp .ge 20, 3) := by decide +kernel
theorem d3_34 : decode prog_23_method_8_code 34 = .ok (.aload_n 0, 1) := by decide +kernel
theorem d3_35 : decode prog_23_method_8_code 35 = .ok (.iload_n 3, 1) := by decide +kernel
theorem d3_36 : decode prog_23_method_8_code 36 = .ok (.aload_n 0, 1) := by decide +kernel
theorem d3_37 : decode prog_23_method_8_code 37 = .ok (.getfield 11, 3) := by decide +kernel
theorem d3_40 : decode prog_23_method_8_code 40 = .ok (.iload_n 3, 1) := by decide +kernel
theorem d3_41 : decode prog_23_method_8_code 41 = .ok (.laload, 1) := by decide +kernel
theorem d3_42 : decode prog_23_method_8_code 42 = .ok (.invokevirtual 73, 3) := by decide +kernel
theorem d3_45 : decode prog_23_method_8_code 45 = .ok (.iinc 3 1, 3) := by decide +kernel
theorem d3_48 : decode prog_23_method_8_code 48 = .ok (.goto (-22), 3) := by decide +kernel
theorem d3_51 : decode prog_23_method_8_code 51 = .ok (.aload_n 0, 1) := by decide +kernel
theorem d3_52 : decode prog_23_method_8_code 52 = .ok (.getfield 19, 3) := by decide +kernel
theorem d3_55 : decode prog_23_method_8_code 55 = .ok (.ifCond .eq 21, 3) := by decide +kernel
theorem d3_58 : decode prog_23_method_8_code 58 = .ok (.aload_n 0, 1) := by decide +kernel
theorem d3_59 : decode prog_23_method_8_code 59 = .ok (.getfield 25, 3) := by decide +kernel
theorem d3_62 : decode prog_23_method_8_code 62 = .ok (.iconst 0, 1) := by decide +kernel
theorem d3_63 : decode prog_23_method_8_code 63 = .ok (.aload_n 0, 1) := by decide +kernel
theorem d3_64 : decode prog_23_method_8_code 64 = .ok (.getfield 33, 3) := by decide +kernel
theorem d3_67 : decode prog_23_method_8_code 67 = .ok (.aload_n 0, 1) := by decide +kernel
theorem d3_68 : decode prog_23_method_8_code 68 = .ok (.getfield 29, 3) := by decide +kernel
theorem d3_71 : decode prog_23_method_8_code 71 = .ok (.isub, 1) := by decide +kernel
theorem d3_72 : decode prog_23_method_8_code 72 = .ok (.aconst_null, 1) := by decide +kernel
theorem d3_73 : decode prog_23_method_8_code 73 = .ok (.invokestatic 77, 3) := by decide +kernel
theorem d3_76 : decode prog_23_method_8_code 76 = .ok (.aload_n 0, 1) := by decide +kernel
theorem d3_77 : decode prog_23_method_8_code 77 = .ok (.iload_n 1, 1) := by decide +kernel
theorem d3_78 : decode prog_23_method_8_code 78 = .ok (.putfield 29, 3) := by decide +kernel
theorem d3_81 : decode prog_23_method_8_code 81 = .ok (.aload_n 0, 1) := by decide +kernel
theorem d3_82 : decode prog_23_method_8_code 82 = .ok (.iload_n 2, 1) := by decide +kernel
theorem d3_83 : decode prog_23_method_8_code 83 = .ok (.putfield 33, 3) := by decide +kernel
theorem d3_86 : decode prog_23_method_8_code 86 = .ok (.aload_n 0, 1) := by decide +kernel
theorem d3_87 : decode prog_23_method_8_code 87 = .ok (.iload_n 2, 1) := by decide +kernel
theorem d3_88 : decode prog_23_method_8_code 88 = .ok (.iload_n 1, 1) := by decide +kernel
theorem d3_89 : decode prog_23_method_8_code 89 = .ok (.isub, 1) := by decide +kernel
theorem d3_90 : decode prog_23_method_8_code 90 = .ok (.bipush 64, 2) := by decide +kernel
theorem d3_92 : decode prog_23_method_8_code 92 = .ok (.iadd, 1) := by decide +kernel
theorem d3_93 : decode prog_23_method_8_code 93 = .ok (.iconst 1, 1) := by decide +kernel
theorem d3_94 : decode prog_23_method_8_code 94 = .ok (.isub, 1) := by decide +kernel
theorem d3_95 : decode prog_23_method_8_code 95 = .ok (.bipush 64, 2) := by decide +kernel
theorem d3_97 : decode prog_23_method_8_code 97 = .ok (.idiv, 1) := by decide +kernel
theorem d3_98 : decode prog_23_method_8_code 98 = .ok (.putfield 70, 3) := by decide +kernel
theorem d3_101 : decode prog_23_method_8_code 101 = .ok (.return_, 1) := by decide +kernel
theorem ef13 (m : MethodId) (a : Addr) (b1 : Int32) (e1 : Int32) : entryFrame m #[(.ref a), (.int b1), (.int e1)] 4 = mkF m 0 #[.val (.ref a), .val (.int b1), .val (.int e1), .unset] [] := by first | (simp [entryFrame, mkF, argsToLocals, Value.category]; done) | rfl
abbrev Q_reset0 (Z : State) (h0 : Heap) (n0 : Nat) (a : Addr) (M : Addr) (Sc : Addr) (wo : Int32) (bs : Int32) (en : Int32) (ms : List Int64) (b1 : Int32) (e1 : Int32) : Option Value → Heap → Prop := fun v h' => v = none ∧ Keep h0 h' [a, M, Sc] ∧ Ob_Wn Z h' a (.ref M) (.ref Sc) (0 : Int32) .null ((((e1 - b1) + (64 : Int32)) - (1 : Int32)) / (64 : Int32)) b1 e1 .null ∧ ∃ us, Longs Z h' M us ∧ us.length = 16 ∧ (∀ P : Nat → Prop, Has ms P → (∀ s, P s → s < 64 * wo.toInt.toNat) → Has us (fun s => s < 0)) ∧ ArrN Z h' Sc .double 1024
abbrev R_reset0 : Room := { frames := 3, cells := 0, slots := 0, locals := 47 }
set_option maxRecDepth 65536 in
set_option maxHeartbeats 40000000 in
theorem m_reset0 (l : Launch) (Z : State) (a0 : Array Value) (hw : ∀ d ∈ tables_1, d.before a0 Z = true) (a : Addr) (M : Addr) (Sc : Addr) (wo : Int32) (bs : Int32) (en : Int32) (ms : List Int64) (b1 : Int32) (e1 : Int32) (h0 : Heap) (n0 : Nat) (Z0 : n0 ≤ h0.size) (O_a : Ob_Wn Z h0 a (.ref M) (.ref Sc) (0 : Int32) .null wo bs en .null) (O_M : Longs Z h0 M ms) (O_S : ArrN Z h0 Sc .double 1024) (ne1 : a ≠ M) (ne2 : a ≠ Sc) (ne3 : M ≠ Sc) (g_M : n0 ≤ M) (g_S : n0 ≤ Sc) (q_m : ms.length = 16) (g_a : n0 ≤ a) (q_w0 : 0 ≤ wo.toInt) (q_w1 : wo.toInt ≤ 16) (q_f0 : 0 ≤ (en - bs).toInt) (q_f1 : (en - bs).toInt ≤ 1024) (q_b : b1.toInt < e1.toInt) (q_l : (e1 - b1).toInt ≤ 1024) : Met l Z (⟨"com/example/near_miss/nearmiss/search/Window", "reset", "(II)V"⟩ : MethodName) prog_23_method_8_code 4 none R_reset0 #[(.ref a), (.int b1), (.int e1)] h0 n0 (Q_reset0 Z h0 n0 a M Sc wo bs en ms b1 e1) := by
  refine Met.of (plainFor_of_name pn5) (fun m => ef13 m a b1 e1) ?_
  intro p e s m args below meth c C
  refine G.iloadN C d3_0 rfl (n := 1) rfl ?_
  refine G.iloadN C d3_1 rfl (n := 2) rfl ?_
  refine G.icmp_le C (A := e1.toInt) (B := b1.toInt) rfl rfl d3_2 (by decide) (by decide) (n := 5) (n' := 14) rfl (fun c2_1 => ?_) (fun c2_1 => ?_)
  · exact absurd c2_1 (by omega)
  refine G.iloadN C d3_5 rfl (n := 6) rfl ?_
  refine G.iloadN C d3_6 rfl (n := 7) rfl ?_
  refine G.isub C d3_7 (n := 8) rfl ?_
  refine G.sipush C (v := (1024 : Int32)) d3_8 (by decide) (n := 11) rfl ?_
  refine G.icmp_le C (A := (e1 - b1).toInt) (B := 1024) rfl (by decide) d3_11 (by decide) (by decide) (n := 14) (n' := 24) rfl (fun c11_2 => ?_) (fun c11_2 => ?_)
  rotate_left
  · exact absurd c11_2 (by omega)
  refine G.iconst C (v := (0 : Int32)) d3_24 (by decide) (n := 25) rfl ?_
  refine G.istoreN C d3_25 (l' := #[.val (.ref a), .val (.int b1), .val (.int e1), .val (.int (0 : Int32))]) rfl (n := 26) rfl ?_
  have loop3 : ∀ k : Nat, ∀ (i : Int32) (u : Nat) (us : List Int64) (hL : Heap), (Ob_Wn Z hL a (.ref M) (.ref Sc) (0 : Int32) .null wo bs en .null) → (Longs Z hL M us) → (ArrN Z hL Sc .double 1024) → (n0 ≤ hL.size) → (Keep h0 hL [a, M, Sc]) → (i.toInt = (u : Int)) → ((u : Int) + (k : Int) = wo.toInt) → (us.length = 16) → (∀ q, us.getD q 0 = if q < u then 0 else ms.getD q 0) → Go p l e R_reset0 s m args below meth c n0 (Q_reset0 Z h0 n0 a M Sc wo bs en ms b1 e1) 0 0 hL (mkF m 26 #[.val (.ref a), .val (.int b1), .val (.int e1), .val (.int i)] []) := by
    intro k
    induction k with
    | zero =>
      intro i u us hL J4 J5 J6 Z7 K8 j0 j1 j2 j3
      refine G.iloadN C d3_26 rfl (n := 27) rfl ?_
      refine G.aloadN C d3_27 rfl rfl (n := 28) rfl ?_
      refine G.getfield C (host := "") (Or.inl (wd hw 25 rfl)) Via.refl (J4.2.2.2.2.2.1) d3_28 (n := 31) rfl ?_
      refine G.icmp_ge C (A := i.toInt) (B := wo.toInt) rfl rfl d3_31 (by decide) (by decide) (n := 34) (n' := 51) rfl (fun c31_9 => ?_) (fun c31_9 => ?_)
      rotate_left
      · exact absurd c31_9 (by omega)
      refine G.aloadN C d3_51 rfl rfl (n := 52) rfl ?_
      refine G.getfield C (host := "") (Or.inl (wd hw 16 rfl)) Via.refl (J4.2.2.2.1) d3_52 (n := 55) rfl ?_
      refine G.if_eq C (A := 0) (by decide) d3_55 (by decide) (by decide) (n := 58) (n' := 76) rfl (fun c55_10 c55_10i => ?_) (fun c55_10 c55_10i => ?_)
      rotate_left
      · exact absurd c55_10 (by decide)
      refine G.aloadN C d3_76 rfl rfl (n := 77) rfl ?_
      refine G.iloadN C d3_77 rfl (n := 78) rfl ?_
      refine G.putfield C (host := "") (Or.inl (wd hw 27 rfl)) Via.refl (J4.2.2.2.2.2.2.1) (J4.1) (Or.inl (wd hw 28 rfl)) (wd hw 2 rfl) (ty := .int) (by decide) rfl rfl g_a d3_78 (n := 81) rfl ?_
      intro h11 W12
      have O13 := Ob_Wn.set_base hw J4 W12
      have K14 := Keep.of_wr W12
      have O15 := J5.keep K14 (ninS (Ne.symm ne1) nin0)
      have O16 := J6.keep K14 (ninS (Ne.symm ne2) nin0)
      have Z17 : n0 ≤ h11.size := Nat.le_trans Z7 K14.1
      have K18 : Keep h0 h11 [a, M, Sc] := Keep.tr K8 K14 (allS (Or.inl (List.mem_of_getElem? (i := 0) rfl)) all0)
      refine G.aloadN C d3_81 rfl rfl (n := 82) rfl ?_
      refine G.iloadN C d3_82 rfl (n := 83) rfl ?_
      refine G.putfield C (host := "") (Or.inl (wd hw 29 rfl)) Via.refl (O13.2.2.2.2.2.2.2.1) (O13.1) (Or.inl (wd hw 30 rfl)) (wd hw 2 rfl) (ty := .int) (by decide) rfl rfl g_a d3_83 (n := 86) rfl ?_
      intro h19 W20
      have O21 := Ob_Wn.set_end hw O13 W20
      have K22 := Keep.of_wr W20
      have O23 := O15.keep K22 (ninS (Ne.symm ne1) nin0)
      have O24 := O16.keep K22 (ninS (Ne.symm ne2) nin0)
      have Z25 : n0 ≤ h19.size := Nat.le_trans Z17 K22.1
      have K26 : Keep h0 h19 [a, M, Sc] := Keep.tr K18 K22 (allS (Or.inl (List.mem_of_getElem? (i := 0) rfl)) all0)
      refine G.aloadN C d3_86 rfl rfl (n := 87) rfl ?_
      refine G.iloadN C d3_87 rfl (n := 88) rfl ?_
      refine G.iloadN C d3_88 rfl (n := 89) rfl ?_
      refine G.isub C d3_89 (n := 90) rfl ?_
      refine G.bipush C (v := (64 : Int32)) d3_90 (by decide) (n := 92) rfl ?_
      refine G.iadd C d3_92 (n := 93) rfl ?_
      refine G.iconst C (v := (1 : Int32)) d3_93 (by decide) (n := 94) rfl ?_
      refine G.isub C d3_94 (n := 95) rfl ?_
      refine G.bipush C (v := (64 : Int32)) d3_95 (by decide) (n := 97) rfl ?_
      refine G.idiv C d3_97 (by decide) (n := 98) rfl ?_
      refine G.putfield C (host := "") (Or.inl (wd hw 25 rfl)) Via.refl (O21.2.2.2.2.2.1) (O21.1) (Or.inl (wd hw 26 rfl)) (wd hw 2 rfl) (ty := .int) (by decide) rfl rfl g_a d3_98 (n := 101) rfl ?_
      intro h27 W28
      have O29 := Ob_Wn.set_words hw O21 W28
      have K30 := Keep.of_wr W28
      have O31 := O23.keep K30 (ninS (Ne.symm ne1) nin0)
      have O32 := O24.keep K30 (ninS (Ne.symm ne2) nin0)
      have Z33 : n0 ≤ h27.size := Nat.le_trans Z25 K30.1
      have K34 : Keep h0 h27 [a, M, Sc] := Keep.tr K26 K30 (allS (Or.inl (List.mem_of_getElem? (i := 0) rfl)) all0)
      refine G.return_ C d3_101 (by decide) (by decide) ?_
      exact ⟨rfl, K34, O29, us, O31, j2, fun P H hP => has_reset H j2 (w := wo.toInt.toNat) (fun q => by rw [j3 q, show u = wo.toInt.toNat by omega]) hP, O32⟩
    | succ k ih =>
      intro i u us hL J4 J5 J6 Z7 K8 j0 j1 j2 j3
      refine G.iloadN C d3_26 rfl (n := 27) rfl ?_
      refine G.aloadN C d3_27 rfl rfl (n := 28) rfl ?_
      refine G.getfield C (host := "") (Or.inl (wd hw 25 rfl)) Via.refl (J4.2.2.2.2.2.1) d3_28 (n := 31) rfl ?_
      refine G.icmp_ge C (A := i.toInt) (B := wo.toInt) rfl rfl d3_31 (by decide) (by decide) (n := 34) (n' := 51) rfl (fun c31_35 => ?_) (fun c31_35 => ?_)
      · exact absurd c31_35 (by omega)
      refine G.aloadN C d3_34 rfl rfl (n := 35) rfl ?_
      refine G.iloadN C d3_35 rfl (n := 36) rfl ?_
      refine G.aloadN C d3_36 rfl rfl (n := 37) rfl ?_
      refine G.getfield C (host := "") (Or.inl (wd hw 11 rfl)) Via.refl (J4.2.1) d3_37 (n := 40) rfl ?_
      refine G.iloadN C d3_40 rfl (n := 41) rfl ?_
      refine G.laload C (x := (us.getD i.toInt.toNat 0)) J5 (by omega) (getD_at (by omega)) d3_41 (n := 42) rfl ?_
      refine G.callP C (argsL := [(.int i), (.long (us.getD i.toInt.toNat 0))]) (yo := (⟨"com/example/near_miss/nearmiss/search/Window", "reset", "(II)V"⟩ : MethodName)) (yc := (⟨"com/example/near_miss/nearmiss/search/Window", "empty", "(IJ)V"⟩ : MethodName)) (a := a) (J4.1) (wd hw 58 rfl) (wd hw 23 rfl) rfl (wd hw 60 rfl) (wd hw 59 rfl) (wd hw 3 rfl) (wd hw 61 rfl) (by decide) (m_empty l Z a0 hw a M Sc (0 : Int32) .null wo bs en us i (us.getD i.toInt.toNat 0) hL n0 Z7 J4 J5 J6 ne1 ne2 ne3 g_M g_S j2 (by omega) (by omega)) rfl (by decide) (W := 0) rfl (by decide) (c' := 0) (s' := 0) rfl rfl (by decide) (by decide) d3_42 (n := 45) rfl pd4 rfl rfl ?_
      rintro _ h40 ⟨rfl, K36, O37, O38⟩
      have O41 := J4.keep K36 (ninS ne1 (ninS ne2 nin0))
      have Z42 : n0 ≤ h40.size := Nat.le_trans Z7 K36.1
      have K43 : Keep h0 h40 [a, M, Sc] := Keep.tr K8 K36 (allS (Or.inl (List.mem_of_getElem? (i := 1) rfl)) (allS (Or.inl (List.mem_of_getElem? (i := 2) rfl)) all0))
      refine G.iincZ C (v := (1 : Int32)) d3_45 (by decide) rfl (l' := fun z => #[.val (.ref a), .val (.int b1), .val (.int e1), .val (.int z)]) (fun _ => rfl) (n := 48) rfl ?_
      intro v44 hv44
      refine G.goto C d3_48 (by decide) (n := 26) (by decide) ?_
      exact ih v44 (u + 1) (us.set i.toInt.toNat ((us.getD i.toInt.toNat 0) &&& ((us.getD i.toInt.toNat 0) ^^^ (-1 : Int64)))) h40 O41 O37 O38 Z42 K43 (by rw [hv44, Int32.add_comm, addk (K := 1) (by decide) (by omega) (by omega)]; omega) (by omega) (by rw [List.length_set]; exact j2) (fun q => by rw [show i.toInt.toNat = u by omega]; exact uset j2 (by omega) (an_not _) j3 q)
  exact loop3 wo.toInt.toNat (0 : Int32) 0 ms h0 O_a O_M O_S Z0 (Keep.refl h0 _) (by rfl) (by omega) q_m (fun q => by rw [if_neg (by omega)])
theorem pd7 : parseMethodDescriptor "([Ljava/lang/Object;IILjava/lang/Object;)V" = some ⟨[(.array (.object "java/lang/Object")), .int, .int, (.object "java/lang/Object")], none⟩ := by decide +kernel
theorem ef14 (m : MethodId) (a : Addr) (b1 : Int32) (e1 : Int32) : entryFrame m #[(.ref a), (.int b1), (.int e1)] 4 = mkF m 0 #[.val (.ref a), .val (.int b1), .val (.int e1), .unset] [] := by first | (simp [entryFrame, mkF, argsToLocals, Value.category]; done) | rfl
abbrev Q_reset1 (Z : State) (h0 : Heap) (n0 : Nat) (a : Addr) (M : Addr) (Sc : Addr) (wo : Int32) (bs : Int32) (en : Int32) (ms : List Int64) (X : Addr) (b1 : Int32) (e1 : Int32) : Option Value → Heap → Prop := fun v h' => v = none ∧ Keep h0 h' [a, M, Sc, X] ∧ Ob_Wn Z h' a (.ref M) (.ref Sc) (1 : Int32) (.ref X) ((((e1 - b1) + (64 : Int32)) - (1 : Int32)) / (64 : Int32)) b1 e1 .null ∧ ∃ us, Longs Z h' M us ∧ us.length = 16 ∧ (∀ P : Nat → Prop, Has ms P → (∀ s, P s → s < 64 * wo.toInt.toNat) → Has us (fun s => s < 0)) ∧ ArrN Z h' Sc .double 1024 ∧ ArrN Z h' X (.object "com/example/near_miss/nearmiss/scoring/Explanation") 1024
abbrev R_reset1 : Room := { frames := 3, cells := 0, slots := 0, locals := 47 }
set_option maxRecDepth 65536 in
set_option maxHeartbeats 40000000 in
theorem m_reset1 (l : Launch) (Z : State) (a0 : Array Value) (hw : ∀ d ∈ tables_1, d.before a0 Z = true) (a : Addr) (M : Addr) (Sc : Addr) (wo : Int32) (bs : Int32) (en : Int32) (ms : List Int64) (X : Addr) (b1 : Int32) (e1 : Int32) (h0 : Heap) (n0 : Nat) (Z0 : n0 ≤ h0.size) (O_a : Ob_Wn Z h0 a (.ref M) (.ref Sc) (1 : Int32) (.ref X) wo bs en .null) (O_M : Longs Z h0 M ms) (O_S : ArrN Z h0 Sc .double 1024) (ne1 : a ≠ M) (ne2 : a ≠ Sc) (ne3 : M ≠ Sc) (g_M : n0 ≤ M) (g_S : n0 ≤ Sc) (q_m : ms.length = 16) (g_a : n0 ≤ a) (O_X : ArrN Z h0 X (.object "com/example/near_miss/nearmiss/scoring/Explanation") 1024) (ne4 : a ≠ X) (ne5 : M ≠ X) (ne6 : Sc ≠ X) (g_X : n0 ≤ X) (q_w0 : 0 ≤ wo.toInt) (q_w1 : wo.toInt ≤ 16) (q_f0 : 0 ≤ (en - bs).toInt) (q_f1 : (en - bs).toInt ≤ 1024) (q_b : b1.toInt < e1.toInt) (q_l : (e1 - b1).toInt ≤ 1024) : Met l Z (⟨"com/example/near_miss/nearmiss/search/Window", "reset", "(II)V"⟩ : MethodName) prog_23_method_8_code 4 none R_reset1 #[(.ref a), (.int b1), (.int e1)] h0 n0 (Q_reset1 Z h0 n0 a M Sc wo bs en ms X b1 e1) := by
  refine Met.of (plainFor_of_name pn5) (fun m => ef14 m a b1 e1) ?_
  intro p e s m args below meth c C
  refine G.iloadN C d3_0 rfl (n := 1) rfl ?_
  refine G.iloadN C d3_1 rfl (n := 2) rfl ?_
  refine G.icmp_le C (A := e1.toInt) (B := b1.toInt) rfl rfl d3_2 (by decide) (by decide) (n := 5) (n' := 14) rfl (fun c2_1 => ?_) (fun c2_1 => ?_)
  · exact absurd c2_1 (by omega)
  refine G.iloadN C d3_5 rfl (n := 6) rfl ?_
  refine G.iloadN C d3_6 rfl (n := 7) rfl ?_
  refine G.isub C d3_7 (n := 8) rfl ?_
  refine G.sipush C (v := (1024 : Int32)) d3_8 (by decide) (n := 11) rfl ?_
  refine G.icmp_le C (A := (e1 - b1).toInt) (B := 1024) rfl (by decide) d3_11 (by decide) (by decide) (n := 14) (n' := 24) rfl (fun c11_2 => ?_) (fun c11_2 => ?_)
  rotate_left
  · exact absurd c11_2 (by omega)
  refine G.iconst C (v := (0 : Int32)) d3_24 (by decide) (n := 25) rfl ?_
  refine G.istoreN C d3_25 (l' := #[.val (.ref a), .val (.int b1), .val (.int e1), .val (.int (0 : Int32))]) rfl (n := 26) rfl ?_
  have loop3 : ∀ k : Nat, ∀ (i : Int32) (u : Nat) (us : List Int64) (hL : Heap), (Ob_Wn Z hL a (.ref M) (.ref Sc) (1 : Int32) (.ref X) wo bs en .null) → (Longs Z hL M us) → (ArrN Z hL Sc .double 1024) → (ArrN Z hL X (.object "com/example/near_miss/nearmiss/scoring/Explanation") 1024) → (n0 ≤ hL.size) → (Keep h0 hL [a, M, Sc, X]) → (i.toInt = (u : Int)) → ((u : Int) + (k : Int) = wo.toInt) → (us.length = 16) → (∀ q, us.getD q 0 = if q < u then 0 else ms.getD q 0) → Go p l e R_reset1 s m args below meth c n0 (Q_reset1 Z h0 n0 a M Sc wo bs en ms X b1 e1) 0 0 hL (mkF m 26 #[.val (.ref a), .val (.int b1), .val (.int e1), .val (.int i)] []) := by
    intro k
    induction k with
    | zero =>
      intro i u us hL J4 J5 J6 J7 Z8 K9 j0 j1 j2 j3
      refine G.iloadN C d3_26 rfl (n := 27) rfl ?_
      refine G.aloadN C d3_27 rfl rfl (n := 28) rfl ?_
      refine G.getfield C (host := "") (Or.inl (wd hw 25 rfl)) Via.refl (J4.2.2.2.2.2.1) d3_28 (n := 31) rfl ?_
      refine G.icmp_ge C (A := i.toInt) (B := wo.toInt) rfl rfl d3_31 (by decide) (by decide) (n := 34) (n' := 51) rfl (fun c31_10 => ?_) (fun c31_10 => ?_)
      rotate_left
      · exact absurd c31_10 (by omega)
      refine G.aloadN C d3_51 rfl rfl (n := 52) rfl ?_
      refine G.getfield C (host := "") (Or.inl (wd hw 16 rfl)) Via.refl (J4.2.2.2.1) d3_52 (n := 55) rfl ?_
      refine G.if_eq C (A := 1) (by decide) d3_55 (by decide) (by decide) (n := 58) (n' := 76) rfl (fun c55_11 c55_11i => ?_) (fun c55_11 c55_11i => ?_)
      · exact absurd c55_11 (by decide)
      refine G.aloadN C d3_58 rfl rfl (n := 59) rfl ?_
      refine G.getfield C (host := "") (Or.inl (wd hw 18 rfl)) Via.refl (J4.2.2.2.2.1) d3_59 (n := 62) rfl ?_
      refine G.iconst C (v := (0 : Int32)) d3_62 (by decide) (n := 63) rfl ?_
      refine G.aloadN C d3_63 rfl rfl (n := 64) rfl ?_
      refine G.getfield C (host := "") (Or.inl (wd hw 29 rfl)) Via.refl (J4.2.2.2.2.2.2.2.1) d3_64 (n := 67) rfl ?_
      refine G.aloadN C d3_67 rfl rfl (n := 68) rfl ?_
      refine G.getfield C (host := "") (Or.inl (wd hw 27 rfl)) Via.refl (J4.2.2.2.2.2.2.1) d3_68 (n := 71) rfl ?_
      refine G.isub C d3_71 (n := 72) rfl ?_
      refine G.aconst_null C d3_72 (n := 73) rfl ?_
      refine G.callS C (argsL := [(.ref X), (.int (0 : Int32)), (.int (en - bs)), .null]) (yc := (⟨"java/util/Arrays", "fill", "([Ljava/lang/Object;IILjava/lang/Object;)V"⟩ : MethodName)) (wd hw 76 rfl) (wd hw 77 rfl) (wd hw 78 rfl) (wd hw 79 rfl) (by decide) (m_fill l Z a0 hw X (en - bs) hL n0 Z8 J7 g_X q_f0 q_f1) rfl (by decide) (W := 0) rfl (by decide) (c' := 0) (s' := 0) rfl rfl (by decide) (by decide) d3_73 (n := 76) rfl pd7 rfl rfl ?_
      rintro _ h15 ⟨rfl, K12, O13⟩
      have O16 := J4.keep K12 (ninS ne4 nin0)
      have O17 := J5.keep K12 (ninS ne5 nin0)
      have O18 := J6.keep K12 (ninS ne6 nin0)
      have Z19 : n0 ≤ h15.size := Nat.le_trans Z8 K12.1
      have K20 : Keep h0 h15 [a, M, Sc, X] := Keep.tr K9 K12 (allS (Or.inl (List.mem_of_getElem? (i := 3) rfl)) all0)
      refine G.aloadN C d3_76 rfl rfl (n := 77) rfl ?_
      refine G.iloadN C d3_77 rfl (n := 78) rfl ?_
      refine G.putfield C (host := "") (Or.inl (wd hw 27 rfl)) Via.refl (O16.2.2.2.2.2.2.1) (O16.1) (Or.inl (wd hw 28 rfl)) (wd hw 2 rfl) (ty := .int) (by decide) rfl rfl g_a d3_78 (n := 81) rfl ?_
      intro h21 W22
      have O23 := Ob_Wn.set_base hw O16 W22
      have K24 := Keep.of_wr W22
      have O25 := O17.keep K24 (ninS (Ne.symm ne1) nin0)
      have O26 := O18.keep K24 (ninS (Ne.symm ne2) nin0)
      have O27 := O13.keep K24 (ninS (Ne.symm ne4) nin0)
      have Z28 : n0 ≤ h21.size := Nat.le_trans Z19 K24.1
      have K29 : Keep h0 h21 [a, M, Sc, X] := Keep.tr K20 K24 (allS (Or.inl (List.mem_of_getElem? (i := 0) rfl)) all0)
      refine G.aloadN C d3_81 rfl rfl (n := 82) rfl ?_
      refine G.iloadN C d3_82 rfl (n := 83) rfl ?_
      refine G.putfield C (host := "") (Or.inl (wd hw 29 rfl)) Via.refl (O23.2.2.2.2.2.2.2.1) (O23.1) (Or.inl (wd hw 30 rfl)) (wd hw 2 rfl) (ty := .int) (by decide) rfl rfl g_a d3_83 (n := 86) rfl ?_
      intro h30 W31
      have O32 := Ob_Wn.set_end hw O23 W31
      have K33 := Keep.of_wr W31
      have O34 := O25.keep K33 (ninS (Ne.symm ne1) nin0)
      have O35 := O26.keep K33 (ninS (Ne.symm ne2) nin0)
      have O36 := O27.keep K33 (ninS (Ne.symm ne4) nin0)
      have Z37 : n0 ≤ h30.size := Nat.le_trans Z28 K33.1
      have K38 : Keep h0 h30 [a, M, Sc, X] := Keep.tr K29 K33 (allS (Or.inl (List.mem_of_getElem? (i := 0) rfl)) all0)
      refine G.aloadN C d3_86 rfl rfl (n := 87) rfl ?_
      refine G.iloadN C d3_87 rfl (n := 88) rfl ?_
      refine G.iloadN C d3_88 rfl (n := 89) rfl ?_
      refine G.isub C d3_89 (n := 90) rfl ?_
      refine G.bipush C (v := (64 : Int32)) d3_90 (by decide) (n := 92) rfl ?_
      refine G.iadd C d3_92 (n := 93) rfl ?_
      refine G.iconst C (v := (1 : Int32)) d3_93 (by decide) (n := 94) rfl ?_
      refine G.isub C d3_94 (n := 95) rfl ?_
      refine G.bipush C (v := (64 : Int32)) d3_95 (by decide) (n := 97) rfl ?_
      refine G.idiv C d3_97 (by decide) (n := 98) rfl ?_
      refine G.putfield C (host := "") (Or.inl (wd hw 25 rfl)) Via.refl (O32.2.2.2.2.2.1) (O32.1) (Or.inl (wd hw 26 rfl)) (wd hw 2 rfl) (ty := .int) (by decide) rfl rfl g_a d3_98 (n := 101) rfl ?_
      intro h39 W40
      have O41 := Ob_Wn.set_words hw O32 W40
      have K42 := Keep.of_wr W40
      have O43 := O34.keep K42 (ninS (Ne.symm ne1) nin0)
      have O44 := O35.keep K42 (ninS (Ne.symm ne2) nin0)
      have O45 := O36.keep K42 (ninS (Ne.symm ne4) nin0)
      have Z46 : n0 ≤ h39.size := Nat.le_trans Z37 K42.1
      have K47 : Keep h0 h39 [a, M, Sc, X] := Keep.tr K38 K42 (allS (Or.inl (List.mem_of_getElem? (i := 0) rfl)) all0)
      refine G.return_ C d3_101 (by decide) (by decide) ?_
      exact ⟨rfl, K47, O41, us, O43, j2, fun P H hP => has_reset H j2 (w := wo.toInt.toNat) (fun q => by rw [j3 q, show u = wo.toInt.toNat by omega]) hP, O44, O45⟩
    | succ k ih =>
      intro i u us hL J4 J5 J6 J7 Z8 K9 j0 j1 j2 j3
      refine G.iloadN C d3_26 rfl (n := 27) rfl ?_
      refine G.aloadN C d3_27 rfl rfl (n := 28) rfl ?_
      refine G.getfield C (host := "") (Or.inl (wd hw 25 rfl)) Via.refl (J4.2.2.2.2.2.1) d3_28 (n := 31) rfl ?_
      refine G.icmp_ge C (A := i.toInt) (B := wo.toInt) rfl rfl d3_31 (by decide) (by decide) (n := 34) (n' := 51) rfl (fun c31_48 => ?_) (fun c31_48 => ?_)
      · exact absurd c31_48 (by omega)
      refine G.aloadN C d3_34 rfl rfl (n := 35) rfl ?_
      refine G.iloadN C d3_35 rfl (n := 36) rfl ?_
      refine G.aloadN C d3_36 rfl rfl (n := 37) rfl ?_
      refine G.getfield C (host := "") (Or.inl (wd hw 11 rfl)) Via.refl (J4.2.1) d3_37 (n := 40) rfl ?_
      refine G.iloadN C d3_40 rfl (n := 41) rfl ?_
      refine G.laload C (x := (us.getD i.toInt.toNat 0)) J5 (by omega) (getD_at (by omega)) d3_41 (n := 42) rfl ?_
      refine G.callP C (argsL := [(.int i), (.long (us.getD i.toInt.toNat 0))]) (yo := (⟨"com/example/near_miss/nearmiss/search/Window", "reset", "(II)V"⟩ : MethodName)) (yc := (⟨"com/example/near_miss/nearmiss/search/Window", "empty", "(IJ)V"⟩ : MethodName)) (a := a) (J4.1) (wd hw 58 rfl) (wd hw 23 rfl) rfl (wd hw 60 rfl) (wd hw 59 rfl) (wd hw 3 rfl) (wd hw 61 rfl) (by decide) (m_empty l Z a0 hw a M Sc (1 : Int32) (.ref X) wo bs en us i (us.getD i.toInt.toNat 0) hL n0 Z8 J4 J5 J6 ne1 ne2 ne3 g_M g_S j2 (by omega) (by omega)) rfl (by decide) (W := 0) rfl (by decide) (c' := 0) (s' := 0) rfl rfl (by decide) (by decide) d3_42 (n := 45) rfl pd4 rfl rfl ?_
      rintro _ h53 ⟨rfl, K49, O50, O51⟩
      have O54 := J4.keep K49 (ninS ne1 (ninS ne2 nin0))
      have O55 := J7.keep K49 (ninS (Ne.symm ne5) (ninS (Ne.symm ne6) nin0))
      have Z56 : n0 ≤ h53.size := Nat.le_trans Z8 K49.1
      have K57 : Keep h0 h53 [a, M, Sc, X] := Keep.tr K9 K49 (allS (Or.inl (List.mem_of_getElem? (i := 1) rfl)) (allS (Or.inl (List.mem_of_getElem? (i := 2) rfl)) all0))
      refine G.iincZ C (v := (1 : Int32)) d3_45 (by decide) rfl (l' := fun z => #[.val (.ref a), .val (.int b1), .val (.int e1), .val (.int z)]) (fun _ => rfl) (n := 48) rfl ?_
      intro v58 hv58
      refine G.goto C d3_48 (by decide) (n := 26) (by decide) ?_
      exact ih v58 (u + 1) (us.set i.toInt.toNat ((us.getD i.toInt.toNat 0) &&& ((us.getD i.toInt.toNat 0) ^^^ (-1 : Int64)))) h53 O54 O50 O51 O55 Z56 K57 (by rw [hv58, Int32.add_comm, addk (K := 1) (by decide) (by omega) (by omega)]; omega) (by omega) (by rw [List.length_set]; exact j2) (fun q => by rw [show i.toInt.toNat = u by omega]; exact uset j2 (by omega) (an_not _) j3 q)
  exact loop3 wo.toInt.toNat (0 : Int32) 0 ms h0 O_a O_M O_S O_X Z0 (Keep.refl h0 _) (by rfl) (by omega) q_m (fun q => by rw [if_neg (by omega)])
theorem d1_0 : decode prog_23_method_1_code 0 = .ok (.aload_n 0, 1) := by decide +kernel
theorem d1_1 : decode prog_23_method_1_code 1 = .ok (.invokespecial 5, 3) := by decide +kernel
theorem d1_4 : decode prog_23_method_1_code 4 = .ok (.aload_n 0, 1) := by decide +kernel
theorem d1_5 : decode prog_23_method_1_code 5 = .ok (.bipush 16, 2) := by decide +kernel
theorem d1_7 : decode prog_23_method_1_code 7 = .ok (.newarray .long, 2) := by decide +kernel
theorem d1_9 : decode prog_23_method_1_code 9 = .ok (.putfield 11, 3) := by decide +kernel
theorem d1_12 : decode prog_23_method_1_code 12 = .ok (.aload_n 0, 1) := by decide +kernel
theorem d1_13 : decode prog_23_method_1_code 13 = .ok (.sipush 1024, 3) := by decide +kernel
theorem d1_16 : decode prog_23_method_1_code 16 = .ok (.newarray .double, 2) := by decide +kernel
theorem d1_18 : decode prog_23_method_1_code 18 = .ok (.putfield 15, 3) := by decide +kernel
theorem d1_21 : decode prog_23_method_1_code 21 = .ok (.aload_n 0, 1) := by decide +kernel
theorem d1_22 : decode prog_23_method_1_code 22 = .ok (.iload_n 1, 1) := by decide +kernel
theorem d1_23 : decode prog_23_method_1_code 23 = .ok (.putfield 19, 3) := by decide +kernel
theorem d1_26 : decode prog_23_method_1_code 26 = .ok (.aload_n 0, 1) := by decide +kernel
theorem d1_27 : decode prog_23_method_1_code 27 = .ok (.iload_n 1, 1) := by decide +kernel
theorem d1_28 : decode prog_23_method_1_code 28 = .ok (.ifCond .eq 12, 3) := by decide +kernel
theorem d1_31 : decode prog_23_method_1_code 31 = .ok (.sipush 1024, 3) := by decide +kernel
theorem d1_34 : decode prog_23_method_1_code 34 = .ok (.anewarray 23, 3) := by decide +kernel
theorem d1_37 : decode prog_23_method_1_code 37 = .ok (.goto 4, 3) := by decide +kernel
theorem d1_40 : decode prog_23_method_1_code 40 = .ok (.aconst_null, 1) := by decide +kernel
theorem d1_41 : decode prog_23_method_1_code 41 = .ok (.putfield 25, 3) := by decide +kernel
theorem d1_44 : decode prog_23_method_1_code 44 = .ok (.return_, 1) := by decide +kernel
theorem ef15 (m : MethodId) (a : Addr) : entryFrame m #[(.ref a), (.int (0 : Int32))] 2 = mkF m 0 #[.val (.ref a), .val (.int (0 : Int32))] [] := by first | (simp [entryFrame, mkF, argsToLocals, Value.category]; done) | rfl
abbrev Q_init0 (Z : State) (h0 : Heap) (n0 : Nat) (a : Addr) : Option Value → Heap → Prop := fun v h' => v = none ∧ Keep h0 h' [a] ∧ ∃ M Sc : Addr, Ob_Wn Z h' a (.ref M) (.ref Sc) (0 : Int32) .null 0 0 0 .null ∧ Longs Z h' M [0, 0, 0, 0, 0, 0, 0, 0, 0, 0, 0, 0, 0, 0, 0, 0] ∧ ArrN Z h' Sc .double 1024 ∧ h0.size ≤ M ∧ h0.size ≤ Sc ∧ M ≠ Sc
abbrev R_init0 : Room := { frames := 1, cells := 2, slots := 1040, locals := 12 }
set_option maxRecDepth 65536 in
set_option maxHeartbeats 40000000 in
theorem m_init0 (l : Launch) (Z : State) (a0 : Array Value) (hw : ∀ d ∈ tables_1, d.before a0 Z = true) (a : Addr) (h0 : Heap) (n0 : Nat) (Z0 : n0 ≤ h0.size) (O_a : Ob_Wn Z h0 a .null .null 0 .null 0 0 0 .null) (g_a : n0 ≤ a) : Met l Z (⟨"com/example/near_miss/nearmiss/search/Window", "<init>", "(Z)V"⟩ : MethodName) prog_23_method_1_code 2 none R_init0 #[(.ref a), (.int (0 : Int32))] h0 n0 (Q_init0 Z h0 n0 a) := by
  refine Met.of (plainFor_of_name pn5) (fun m => ef15 m a) ?_
  intro p e s m args below meth c C
  refine G.aloadN C d1_0 rfl rfl (n := 1) rfl ?_
  refine G.objinit C (wd hw 7 rfl) (wd hw 8 rfl) (wd hw 9 rfl) d1_1 rfl (by decide) (W := 0) rfl (by decide) (n := 4) rfl ?_
  refine G.aloadN C d1_4 rfl rfl (n := 5) rfl ?_
  refine G.bipush C (v := (16 : Int32)) d1_5 (by decide) (n := 7) rfl ?_
  refine G.newarrayJ C (ty := .long) (cap := 16) (wd hw 10 rfl) rfl rfl rfl (by decide) (by decide) (by decide) d1_7 (n := 9) rfl (c' := 1) (s' := 16) rfl rfl (by decide) (by decide) ?_
  intro h1 b2 q3 E4 O5
  have O6 : Longs Z h1 b2 [0, 0, 0, 0, 0, 0, 0, 0, 0, 0, 0, 0, 0, 0, 0, 0] := O5
  have ne7 : a ≠ b2 := Nat.ne_of_lt (Nat.lt_of_lt_of_le O_a.lt (Nat.le_of_eq q3.symm))
  have g8 : n0 ≤ b2 := Nat.le_trans Z0 (Nat.le_of_eq q3.symm)
  have f9 : h0.size ≤ b2 := Nat.le_trans (Keep.refl h0 []).1 (Nat.le_of_eq q3.symm)
  have K10 := kext E4
  have O11 := O_a.keep K10 nin0
  have Z12 : n0 ≤ h1.size := Nat.le_trans Z0 K10.1
  have K13 : Keep h0 h1 [a] := Keep.tr (Keep.refl h0 _) K10 all0
  refine G.putfield C (host := "") (Or.inl (wd hw 11 rfl)) Via.refl (O11.2.1) (O11.1) (Or.inr ⟨(wd hw 12 rfl), rfl, rfl⟩) (wd hw 2 rfl) (ty := (.array .long)) (by decide) rfl rfl g_a d1_9 (n := 12) rfl ?_
  intro h14 W15
  have O16 := Ob_Wn.set_matched hw O11 (v := (.ref b2)) W15
  have K17 := Keep.of_wr W15
  have O18 := O6.keep K17 (ninS (Ne.symm ne7) nin0)
  have Z19 : n0 ≤ h14.size := Nat.le_trans Z12 K17.1
  have K20 : Keep h0 h14 [a] := Keep.tr K13 K17 (allS (Or.inl (List.mem_of_getElem? (i := 0) rfl)) all0)
  refine G.aloadN C d1_12 rfl rfl (n := 13) rfl ?_
  refine G.sipush C (v := (1024 : Int32)) d1_13 (by decide) (n := 16) rfl ?_
  refine G.newarrayN C (ty := .double) (cap := 1024) (wd hw 13 rfl) rfl (by decide) (by decide) d1_16 (n := 18) rfl (c' := 2) (s' := 1040) rfl rfl (by decide) (by decide) ?_
  intro h21 b22 q23 E24 O25
  have ne26 : a ≠ b22 := Nat.ne_of_lt (Nat.lt_of_lt_of_le O16.lt (Nat.le_of_eq q23.symm))
  have ne27 : b2 ≠ b22 := Nat.ne_of_lt (Nat.lt_of_lt_of_le O18.lt (Nat.le_of_eq q23.symm))
  have g28 : n0 ≤ b22 := Nat.le_trans Z19 (Nat.le_of_eq q23.symm)
  have f29 : h0.size ≤ b22 := Nat.le_trans K20.1 (Nat.le_of_eq q23.symm)
  have K30 := kext E24
  have O31 := O16.keep K30 nin0
  have O32 := O18.keep K30 nin0
  have Z33 : n0 ≤ h21.size := Nat.le_trans Z19 K30.1
  have K34 : Keep h0 h21 [a] := Keep.tr K20 K30 all0
  refine G.putfield C (host := "") (Or.inl (wd hw 14 rfl)) Via.refl (O31.2.2.1) (O31.1) (Or.inr ⟨(wd hw 15 rfl), rfl, rfl⟩) (wd hw 2 rfl) (ty := (.array .double)) (by decide) rfl rfl g_a d1_18 (n := 21) rfl ?_
  intro h35 W36
  have O37 := Ob_Wn.set_scores hw O31 (v := (.ref b22)) W36
  have K38 := Keep.of_wr W36
  have O39 := O32.keep K38 (ninS (Ne.symm ne7) nin0)
  have O40 := O25.keep K38 (ninS (Ne.symm ne26) nin0)
  have Z41 : n0 ≤ h35.size := Nat.le_trans Z33 K38.1
  have K42 : Keep h0 h35 [a] := Keep.tr K34 K38 (allS (Or.inl (List.mem_of_getElem? (i := 0) rfl)) all0)
  refine G.aloadN C d1_21 rfl rfl (n := 22) rfl ?_
  refine G.iloadN C d1_22 rfl (n := 23) rfl ?_
  refine G.putfield C (host := "") (Or.inl (wd hw 16 rfl)) Via.refl (O37.2.2.2.1) (O37.1) (Or.inr ⟨(wd hw 17 rfl), rfl, rfl⟩) (wd hw 2 rfl) (ty := .boolean) (by decide) rfl rfl g_a d1_23 (n := 26) rfl ?_
  intro h43 W44
  have O45 := Ob_Wn.set_explains hw O37 W44
  have K46 := Keep.of_wr W44
  have O47 := O39.keep K46 (ninS (Ne.symm ne7) nin0)
  have O48 := O40.keep K46 (ninS (Ne.symm ne26) nin0)
  have Z49 : n0 ≤ h43.size := Nat.le_trans Z41 K46.1
  have K50 : Keep h0 h43 [a] := Keep.tr K42 K46 (allS (Or.inl (List.mem_of_getElem? (i := 0) rfl)) all0)
  refine G.aloadN C d1_26 rfl rfl (n := 27) rfl ?_
  refine G.iloadN C d1_27 rfl (n := 28) rfl ?_
  refine G.if_eq C (A := 0) (by decide) d1_28 (by decide) (by decide) (n := 31) (n' := 40) rfl (fun c28_51 c28_51i => ?_) (fun c28_51 c28_51i => ?_)
  rotate_left
  · exact absurd c28_51 (by decide)
  refine G.aconst_null C d1_40 (n := 41) rfl ?_
  refine G.putfield C (host := "") (Or.inl (wd hw 18 rfl)) Via.refl (O45.2.2.2.2.1) (O45.1) (Or.inr ⟨(wd hw 19 rfl), rfl, rfl⟩) (wd hw 2 rfl) (ty := (.array (.object "com/example/near_miss/nearmiss/scoring/Explanation"))) (by decide) rfl rfl g_a d1_41 (n := 44) rfl ?_
  intro h52 W53
  have O54 := Ob_Wn.set_explanations hw O45 (v := .null) W53
  have K55 := Keep.of_wr W53
  have O56 := O47.keep K55 (ninS (Ne.symm ne7) nin0)
  have O57 := O48.keep K55 (ninS (Ne.symm ne26) nin0)
  have Z58 : n0 ≤ h52.size := Nat.le_trans Z49 K55.1
  have K59 : Keep h0 h52 [a] := Keep.tr K50 K55 (allS (Or.inl (List.mem_of_getElem? (i := 0) rfl)) all0)
  refine G.return_ C d1_44 (by decide) (by decide) ?_
  exact ⟨rfl, K59, b2, b22, O54, O56, O57, f9, f29, ne27⟩
theorem ef16 (m : MethodId) (a : Addr) : entryFrame m #[(.ref a), (.int (1 : Int32))] 2 = mkF m 0 #[.val (.ref a), .val (.int (1 : Int32))] [] := by first | (simp [entryFrame, mkF, argsToLocals, Value.category]; done) | rfl
abbrev Q_init1 (Z : State) (h0 : Heap) (n0 : Nat) (a : Addr) : Option Value → Heap → Prop := fun v h' => v = none ∧ Keep h0 h' [a] ∧ ∃ M Sc X : Addr, Ob_Wn Z h' a (.ref M) (.ref Sc) (1 : Int32) (.ref X) 0 0 0 .null ∧ Longs Z h' M [0, 0, 0, 0, 0, 0, 0, 0, 0, 0, 0, 0, 0, 0, 0, 0] ∧ ArrN Z h' Sc .double 1024 ∧ h0.size ≤ M ∧ h0.size ≤ Sc ∧ M ≠ Sc ∧ ArrN Z h' X (.object "com/example/near_miss/nearmiss/scoring/Explanation") 1024 ∧ h0.size ≤ X ∧ M ≠ X ∧ Sc ≠ X
abbrev R_init1 : Room := { frames := 1, cells := 3, slots := 2064, locals := 12 }
set_option maxRecDepth 65536 in
set_option maxHeartbeats 40000000 in
theorem m_init1 (l : Launch) (Z : State) (a0 : Array Value) (hw : ∀ d ∈ tables_1, d.before a0 Z = true) (a : Addr) (h0 : Heap) (n0 : Nat) (Z0 : n0 ≤ h0.size) (O_a : Ob_Wn Z h0 a .null .null 0 .null 0 0 0 .null) (g_a : n0 ≤ a) : Met l Z (⟨"com/example/near_miss/nearmiss/search/Window", "<init>", "(Z)V"⟩ : MethodName) prog_23_method_1_code 2 none R_init1 #[(.ref a), (.int (1 : Int32))] h0 n0 (Q_init1 Z h0 n0 a) := by
  refine Met.of (plainFor_of_name pn5) (fun m => ef16 m a) ?_
  intro p e s m args below meth c C
  refine G.aloadN C d1_0 rfl rfl (n := 1) rfl ?_
  refine G.objinit C (wd hw 7 rfl) (wd hw 8 rfl) (wd hw 9 rfl) d1_1 rfl (by decide) (W := 0) rfl (by decide) (n := 4) rfl ?_
  refine G.aloadN C d1_4 rfl rfl (n := 5) rfl ?_
  refine G.bipush C (v := (16 : Int32)) d1_5 (by decide) (n := 7) rfl ?_
  refine G.newarrayJ C (ty := .long) (cap := 16) (wd hw 10 rfl) rfl rfl rfl (by decide) (by decide) (by decide) d1_7 (n := 9) rfl (c' := 1) (s' := 16) rfl rfl (by decide) (by decide) ?_
  intro h1 b2 q3 E4 O5
  have O6 : Longs Z h1 b2 [0, 0, 0, 0, 0, 0, 0, 0, 0, 0, 0, 0, 0, 0, 0, 0] := O5
  have ne7 : a ≠ b2 := Nat.ne_of_lt (Nat.lt_of_lt_of_le O_a.lt (Nat.le_of_eq q3.symm))
  have g8 : n0 ≤ b2 := Nat.le_trans Z0 (Nat.le_of_eq q3.symm)
  have f9 : h0.size ≤ b2 := Nat.le_trans (Keep.refl h0 []).1 (Nat.le_of_eq q3.symm)
  have K10 := kext E4
  have O11 := O_a.keep K10 nin0
  have Z12 : n0 ≤ h1.size := Nat.le_trans Z0 K10.1
  have K13 : Keep h0 h1 [a] := Keep.tr (Keep.refl h0 _) K10 all0
  refine G.putfield C (host := "") (Or.inl (wd hw 11 rfl)) Via.refl (O11.2.1) (O11.1) (Or.inr ⟨(wd hw 12 rfl), rfl, rfl⟩) (wd hw 2 rfl) (ty := (.array .long)) (by decide) rfl rfl g_a d1_9 (n := 12) rfl ?_
  intro h14 W15
  have O16 := Ob_Wn.set_matched hw O11 (v := (.ref b2)) W15
  have K17 := Keep.of_wr W15
  have O18 := O6.keep K17 (ninS (Ne.symm ne7) nin0)
  have Z19 : n0 ≤ h14.size := Nat.le_trans Z12 K17.1
  have K20 : Keep h0 h14 [a] := Keep.tr K13 K17 (allS (Or.inl (List.mem_of_getElem? (i := 0) rfl)) all0)
  refine G.aloadN C d1_12 rfl rfl (n := 13) rfl ?_
  refine G.sipush C (v := (1024 : Int32)) d1_13 (by decide) (n := 16) rfl ?_
  refine G.newarrayN C (ty := .double) (cap := 1024) (wd hw 13 rfl) rfl (by decide) (by decide) d1_16 (n := 18) rfl (c' := 2) (s' := 1040) rfl rfl (by decide) (by decide) ?_
  intro h21 b22 q23 E24 O25
  have ne26 : a ≠ b22 := Nat.ne_of_lt (Nat.lt_of_lt_of_le O16.lt (Nat.le_of_eq q23.symm))
  have ne27 : b2 ≠ b22 := Nat.ne_of_lt (Nat.lt_of_lt_of_le O18.lt (Nat.le_of_eq q23.symm))
  have g28 : n0 ≤ b22 := Nat.le_trans Z19 (Nat.le_of_eq q23.symm)
  have f29 : h0.size ≤ b22 := Nat.le_trans K20.1 (Nat.le_of_eq q23.symm)
  have K30 := kext E24
  have O31 := O16.keep K30 nin0
  have O32 := O18.keep K30 nin0
  have Z33 : n0 ≤ h21.size := Nat.le_trans Z19 K30.1
  have K34 : Keep h0 h21 [a] := Keep.tr K20 K30 all0
  refine G.putfield C (host := "") (Or.inl (wd hw 14 rfl)) Via.refl (O31.2.2.1) (O31.1) (Or.inr ⟨(wd hw 15 rfl), rfl, rfl⟩) (wd hw 2 rfl) (ty := (.array .double)) (by decide) rfl rfl g_a d1_18 (n := 21) rfl ?_
  intro h35 W36
  have O37 := Ob_Wn.set_scores hw O31 (v := (.ref b22)) W36
  have K38 := Keep.of_wr W36
  have O39 := O32.keep K38 (ninS (Ne.symm ne7) nin0)
  have O40 := O25.keep K38 (ninS (Ne.symm ne26) nin0)
  have Z41 : n0 ≤ h35.size := Nat.le_trans Z33 K38.1
  have K42 : Keep h0 h35 [a] := Keep.tr K34 K38 (allS (Or.inl (List.mem_of_getElem? (i := 0) rfl)) all0)
  refine G.aloadN C d1_21 rfl rfl (n := 22) rfl ?_
  refine G.iloadN C d1_22 rfl (n := 23) rfl ?_
  refine G.putfield C (host := "") (Or.inl (wd hw 16 rfl)) Via.refl (O37.2.2.2.1) (O37.1) (Or.inr ⟨(wd hw 17 rfl), rfl, rfl⟩) (wd hw 2 rfl) (ty := .boolean) (by decide) rfl rfl g_a d1_23 (n := 26) rfl ?_
  intro h43 W44
  have O45 := Ob_Wn.set_explains hw O37 W44
  have K46 := Keep.of_wr W44
  have O47 := O39.keep K46 (ninS (Ne.symm ne7) nin0)
  have O48 := O40.keep K46 (ninS (Ne.symm ne26) nin0)
  have Z49 : n0 ≤ h43.size := Nat.le_trans Z41 K46.1
  have K50 : Keep h0 h43 [a] := Keep.tr K42 K46 (allS (Or.inl (List.mem_of_getElem? (i := 0) rfl)) all0)
  refine G.aloadN C d1_26 rfl rfl (n := 27) rfl ?_
  refine G.iloadN C d1_27 rfl (n := 28) rfl ?_
  refine G.if_eq C (A := 1) (by decide) d1_28 (by decide) (by decide) (n := 31) (n' := 40) rfl (fun c28_51 c28_51i => ?_) (fun c28_51 c28_51i => ?_)
  · exact absurd c28_51 (by decide)
  refine G.sipush C (v := (1024 : Int32)) d1_31 (by decide) (n := 34) rfl ?_
  refine G.anewarrayN C (cap := 1024) (wd hw 74 rfl) (wd hw 75 rfl) (by decide) (by decide) d1_34 (n := 37) rfl (c' := 3) (s' := 2064) rfl rfl (by decide) (by decide) ?_
  intro h52 b53 q54 E55 O56
  have ne57 : a ≠ b53 := Nat.ne_of_lt (Nat.lt_of_lt_of_le O45.lt (Nat.le_of_eq q54.symm))
  have ne58 : b2 ≠ b53 := Nat.ne_of_lt (Nat.lt_of_lt_of_le O47.lt (Nat.le_of_eq q54.symm))
  have ne59 : b22 ≠ b53 := Nat.ne_of_lt (Nat.lt_of_lt_of_le O48.lt (Nat.le_of_eq q54.symm))
  have g60 : n0 ≤ b53 := Nat.le_trans Z49 (Nat.le_of_eq q54.symm)
  have f61 : h0.size ≤ b53 := Nat.le_trans K50.1 (Nat.le_of_eq q54.symm)
  have K62 := kext E55
  have O63 := O45.keep K62 nin0
  have O64 := O47.keep K62 nin0
  have O65 := O48.keep K62 nin0
  have Z66 : n0 ≤ h52.size := Nat.le_trans Z49 K62.1
  have K67 : Keep h0 h52 [a] := Keep.tr K50 K62 all0
  refine G.goto C d1_37 (by decide) (n := 41) (by decide) ?_
  refine G.putfield C (host := "") (Or.inl (wd hw 18 rfl)) Via.refl (O63.2.2.2.2.1) (O63.1) (Or.inr ⟨(wd hw 19 rfl), rfl, rfl⟩) (wd hw 2 rfl) (ty := (.array (.object "com/example/near_miss/nearmiss/scoring/Explanation"))) (by decide) rfl rfl g_a d1_41 (n := 44) rfl ?_
  intro h68 W69
  have O70 := Ob_Wn.set_explanations hw O63 (v := (.ref b53)) W69
  have K71 := Keep.of_wr W69
  have O72 := O64.keep K71 (ninS (Ne.symm ne7) nin0)
  have O73 := O65.keep K71 (ninS (Ne.symm ne26) nin0)
  have O74 := O56.keep K71 (ninS (Ne.symm ne57) nin0)
  have Z75 : n0 ≤ h68.size := Nat.le_trans Z66 K71.1
  have K76 : Keep h0 h68 [a] := Keep.tr K67 K71 (allS (Or.inl (List.mem_of_getElem? (i := 0) rfl)) all0)
  refine G.return_ C d1_44 (by decide) (by decide) ?_
  exact ⟨rfl, K76, b2, b22, b53, O70, O72, O73, f9, f29, ne27, O74, f61, ne58, ne59⟩
theorem pd8 : parseMethodDescriptor "(Z)V" = some ⟨[.boolean], none⟩ := by decide +kernel
theorem pd9 : parseMethodDescriptor "(II)V" = some ⟨[.int, .int], none⟩ := by decide +kernel
theorem pd10 : parseMethodDescriptor "(I)Z" = some ⟨[.int], some .boolean⟩ := by decide +kernel
theorem pd11 : parseMethodDescriptor "(I)V" = some ⟨[.int], none⟩ := by decide +kernel
theorem pn6 : plainName "com/example/near_miss/nearmiss/search/WindowHoldsPinLaw" = true := by first | (simp [plainName, overriddenIn]; done) | decide +kernel
theorem ef17 (m : MethodId) (i0 : Int32) (i1 : Int32) (i2 : Int32) (i3 : Int32) (i4 : Int32) (i5 : Int32) : entryFrame m #[(.int i0), (.int i1), (.int i2), (.int i3), (.int i4), (.int i5)] 18 = mkF m 0 #[.val (.int i0), .val (.int i1), .val (.int i2), .val (.int i3), .val (.int i4), .val (.int i5), .unset, .unset, .unset, .unset, .unset, .unset, .unset, .unset, .unset, .unset, .unset, .unset] [] := by first | (simp [entryFrame, mkF, argsToLocals, Value.category]; done) | rfl
abbrev Q_law (Z : State) (h0 : Heap) (n0 : Nat) (i0 : Int32) (i1 : Int32) (i2 : Int32) (i3 : Int32) (i4 : Int32) (i5 : Int32) : Option Value → Heap → Prop := fun v h' => v = some (.int 1)
set_option maxRecDepth 65536 in
set_option maxHeartbeats 40000000 in
theorem m_law (l : Launch) (Z : State) (a0 : Array Value) (hw : ∀ d ∈ tables_1, d.before a0 Z = true) (i0 : Int32) (i1 : Int32) (i2 : Int32) (i3 : Int32) (i4 : Int32) (i5 : Int32) (h0 : Heap) (n0 : Nat) (Z0 : n0 ≤ h0.size)  : Met l Z (⟨"com/example/near_miss/nearmiss/search/WindowHoldsPinLaw", "law", "(IIIIII)Z"⟩ : MethodName) code 18 (some .boolean) room_1 #[(.int i0), (.int i1), (.int i2), (.int i3), (.int i4), (.int i5)] h0 n0 (Q_law Z h0 n0 i0 i1 i2 i3 i4 i5) := by
  refine Met.of (plainFor_of_name pn6) (fun m => ef17 m i0 i1 i2 i3 i4 i5) ?_
  intro p e s m args below meth c C
  refine G.iloadN C at_0 rfl (n := 1) rfl ?_
  refine G.iconst C (v := (1 : Int32)) at_1 (by decide) (n := 2) rfl ?_
  refine G.iand C at_2 (n := 3) rfl ?_
  refine G.if_eq C (A := (i0 &&& (1 : Int32)).toInt) rfl at_3 (by decide) (by decide) (n := 6) (n' := 10) rfl (fun c3_1 c3_1i => ?_) (fun c3_1 c3_1i => ?_)
  · refine G.iconst C (v := (0 : Int32)) at_10 (by decide) (n := 11) rfl ?_
    refine G.istore C at_11 (l' := #[.val (.int i0), .val (.int i1), .val (.int i2), .val (.int i3), .val (.int i4), .val (.int i5), .val (.int (0 : Int32)), .unset, .unset, .unset, .unset, .unset, .unset, .unset, .unset, .unset, .unset, .unset]) rfl (n := 13) rfl ?_
    refine G.iloadN C at_13 rfl (n := 14) rfl ?_
    refine G.iconst C (v := (2 : Int32)) at_14 (by decide) (n := 15) rfl ?_
    refine G.iand C at_15 (n := 16) rfl ?_
    refine G.if_eq C (A := (i0 &&& (2 : Int32)).toInt) rfl at_16 (by decide) (by decide) (n := 19) (n' := 23) rfl (fun c16_2 c16_2i => ?_) (fun c16_2 c16_2i => ?_)
    · refine G.iconst C (v := (0 : Int32)) at_23 (by decide) (n := 24) rfl ?_
      refine G.istore C at_24 (l' := #[.val (.int i0), .val (.int i1), .val (.int i2), .val (.int i3), .val (.int i4), .val (.int i5), .val (.int (0 : Int32)), .val (.int (0 : Int32)), .unset, .unset, .unset, .unset, .unset, .unset, .unset, .unset, .unset, .unset]) rfl (n := 26) rfl ?_
      refine G.iloadN C at_26 rfl (n := 27) rfl ?_
      refine G.iconst C (v := (4 : Int32)) at_27 (by decide) (n := 28) rfl ?_
      refine G.iand C at_28 (n := 29) rfl ?_
      refine G.if_eq C (A := (i0 &&& (4 : Int32)).toInt) rfl at_29 (by decide) (by decide) (n := 32) (n' := 36) rfl (fun c29_3 c29_3i => ?_) (fun c29_3 c29_3i => ?_)
      · refine G.iconst C (v := (0 : Int32)) at_36 (by decide) (n := 37) rfl ?_
        refine G.istore C at_37 (l' := #[.val (.int i0), .val (.int i1), .val (.int i2), .val (.int i3), .val (.int i4), .val (.int i5), .val (.int (0 : Int32)), .val (.int (0 : Int32)), .val (.int (0 : Int32)), .unset, .unset, .unset, .unset, .unset, .unset, .unset, .unset, .unset]) rfl (n := 39) rfl ?_
        refine G.iload C at_39 rfl (n := 41) rfl ?_
        refine G.iconst C (v := (2 : Int32)) at_41 (by decide) (n := 42) rfl ?_
        refine G.ishr C at_42 (n := 43) rfl ?_
        refine G.istoreZ C at_43 (l' := fun z => #[.val (.int i0), .val (.int i1), .val (.int i2), .val (.int i3), .val (.int i4), .val (.int i5), .val (.int (0 : Int32)), .val (.int (0 : Int32)), .val (.int (0 : Int32)), .val (.int z), .unset, .unset, .unset, .unset, .unset, .unset, .unset, .unset]) (fun _ => rfl) (n := 45) rfl ?_
        intro v4 hv4
        have qb : v4.toInt < 1000000000 := by rw [hv4, c_ishr i5 2 2 (by decide)]; have := rng32 i5; show _ / 4 < _; omega
        refine G.iloadN C at_45 rfl (n := 46) rfl ?_
        refine G.ldc C (v := (2147483647 : Int32)) (wd hw 0 rfl) at_46 (n := 48) rfl ?_
        refine G.iand C at_48 (n := 49) rfl ?_
        refine G.sipush C (v := (1024 : Int32)) at_49 (by decide) (n := 52) rfl ?_
        refine G.irem C at_52 (by decide) (n := 53) rfl ?_
        refine G.iconst C (v := (1 : Int32)) at_53 (by decide) (n := 54) rfl ?_
        refine G.iadd C at_54 (n := 55) rfl ?_
        refine G.istoreZ C at_55 (l' := fun z => #[.val (.int i0), .val (.int i1), .val (.int i2), .val (.int i3), .val (.int i4), .val (.int i5), .val (.int (0 : Int32)), .val (.int (0 : Int32)), .val (.int (0 : Int32)), .val (.int v4), .val (.int z), .unset, .unset, .unset, .unset, .unset, .unset, .unset]) (fun _ => rfl) (n := 57) rfl ?_
        intro v5 hv5
        have ql : 1 ≤ v5.toInt ∧ v5.toInt ≤ 1024 := by have r := rem_v (x := i1) (d := 1024) (by decide); rw [show (1024 : Int32).toInt = 1024 from rfl] at r; rw [hv5, Int32.add_comm, addk (K := 1) (by decide) (by omega) (by omega)]; omega
        have qr := rsub (x := v4) (l := v5) (by omega) ql.2 qb
        have qe := qr.2.1
        have qwd2 : (((((v4 + v5) - v4) + (64 : Int32)) - (1 : Int32)) / (64 : Int32)).toInt = (v5.toInt + 63) / 64 := by rw [asub]; exact words_at ql.1 ql.2
        have qwd : (((((v4 + v5) - v4) + (64 : Int32)) - (1 : Int32)) / (64 : Int32)).toInt.toNat = (v5.toInt.toNat + 63) / 64 := by rw [qwd2]; omega
        refine G.iloadN C at_57 rfl (n := 58) rfl ?_
        refine G.ldc C (v := (2147483647 : Int32)) (wd hw 0 rfl) at_58 (n := 60) rfl ?_
        refine G.iand C at_60 (n := 61) rfl ?_
        refine G.iload C at_61 rfl (n := 63) rfl ?_
        refine G.irem C at_63 (nz_pos (by omega)) (n := 64) rfl ?_
        refine G.istoreZ C at_64 (l' := fun z => #[.val (.int i0), .val (.int i1), .val (.int i2), .val (.int i3), .val (.int i4), .val (.int i5), .val (.int (0 : Int32)), .val (.int (0 : Int32)), .val (.int (0 : Int32)), .val (.int v4), .val (.int v5), .val (.int z), .unset, .unset, .unset, .unset, .unset, .unset]) (fun _ => rfl) (n := 66) rfl ?_
        intro v6 hv6
        have qa : 0 ≤ v6.toInt ∧ v6.toInt < v5.toInt := by rw [hv6]; exact rem_v (by omega)
        refine G.iloadN C at_66 rfl (n := 67) rfl ?_
        refine G.ldc C (v := (2147483647 : Int32)) (wd hw 0 rfl) at_67 (n := 69) rfl ?_
        refine G.iand C at_69 (n := 70) rfl ?_
        refine G.iload C at_70 rfl (n := 72) rfl ?_
        refine G.irem C at_72 (nz_pos (by omega)) (n := 73) rfl ?_
        refine G.istoreZ C at_73 (l' := fun z => #[.val (.int i0), .val (.int i1), .val (.int i2), .val (.int i3), .val (.int i4), .val (.int i5), .val (.int (0 : Int32)), .val (.int (0 : Int32)), .val (.int (0 : Int32)), .val (.int v4), .val (.int v5), .val (.int v6), .val (.int z), .unset, .unset, .unset, .unset, .unset]) (fun _ => rfl) (n := 75) rfl ?_
        intro v7 hv7
        have qb2 : 0 ≤ v7.toInt ∧ v7.toInt < v5.toInt := by rw [hv7]; exact rem_v (by omega)
        refine G.iload C at_75 rfl (n := 77) rfl ?_
        refine G.sipush C (v := (1023 : Int32)) at_77 (by decide) (n := 80) rfl ?_
        refine G.iand C at_80 (n := 81) rfl ?_
        refine G.istoreZ C at_81 (l' := fun z => #[.val (.int i0), .val (.int i1), .val (.int i2), .val (.int i3), .val (.int i4), .val (.int i5), .val (.int (0 : Int32)), .val (.int (0 : Int32)), .val (.int (0 : Int32)), .val (.int v4), .val (.int v5), .val (.int v6), .val (.int v7), .val (.int z), .unset, .unset, .unset, .unset]) (fun _ => rfl) (n := 83) rfl ?_
        intro v8 hv8
        have qs : 0 ≤ v8.toInt ∧ v8.toInt ≤ 1023 := by rw [hv8]; exact c_and i4 1023 (by decide)
        refine G.new C (wd hw 1 rfl) (wd hw 2 rfl) (wd hw 3 rfl) at_83 (n := 86) rfl (c' := 1) (s' := 9) rfl rfl (by decide) (by decide) ?_
        intro h9 b10 q11 E12 A13 D14
        have g15 : n0 ≤ b10 := Nat.le_trans Z0 (Nat.le_of_eq q11.symm)
        have O16 := Ob_Wn.new hw A13 D14
        have K17 := kext E12
        have Z18 : n0 ≤ h9.size := Nat.le_trans Z0 K17.1
        refine G.dup C at_86 rfl (n := 87) rfl ?_
        refine G.iload C at_87 rfl (n := 89) rfl ?_
        refine G.callC C (argsL := [(.int (0 : Int32))]) (yc := (⟨"com/example/near_miss/nearmiss/search/Window", "<init>", "(Z)V"⟩ : MethodName)) (a := b10) rfl (wd hw 4 rfl) (wd hw 5 rfl) (wd hw 3 rfl) (wd hw 6 rfl) (by decide) (m_init0 l Z a0 hw b10 h9 n0 Z18 O16 g15) rfl (by decide) (W := 1) rfl (by decide) (c' := 3) (s' := 1049) rfl rfl (by decide) (by decide) at_89 (n := 92) rfl pd8 rfl rfl ?_
        rintro _ h31 ⟨rfl, K19, M, Sc, O20, O21, O22, f24, f25, ne27⟩
        have ne32 : b10 ≠ M := Nat.ne_of_lt (Nat.lt_of_lt_of_le O16.lt f24)
        have g33 : n0 ≤ M := Nat.le_trans Z18 f24
        have ne34 : b10 ≠ Sc := Nat.ne_of_lt (Nat.lt_of_lt_of_le O16.lt f25)
        have g35 : n0 ≤ Sc := Nat.le_trans Z18 f25
        have Z36 : n0 ≤ h31.size := Nat.le_trans Z18 K19.1
        refine G.astore C at_92 rfl (l' := #[.val (.int i0), .val (.int i1), .val (.int i2), .val (.int i3), .val (.int i4), .val (.int i5), .val (.int (0 : Int32)), .val (.int (0 : Int32)), .val (.int (0 : Int32)), .val (.int v4), .val (.int v5), .val (.int v6), .val (.int v7), .val (.int v8), .val (.ref b10), .unset, .unset, .unset]) rfl (n := 94) rfl ?_
        refine G.aload C at_94 rfl rfl (n := 96) rfl ?_
        refine G.iload C at_96 rfl (n := 98) rfl ?_
        refine G.iload C at_98 rfl (n := 100) rfl ?_
        refine G.iload C at_100 rfl (n := 102) rfl ?_
        refine G.iadd C at_102 (n := 103) rfl ?_
        refine G.callV C (argsL := [(.int v4), (.int (v4 + v5))]) (yr := (⟨"com/example/near_miss/nearmiss/search/Window", "reset", "(II)V"⟩ : MethodName)) (yc := (⟨"com/example/near_miss/nearmiss/search/Window", "reset", "(II)V"⟩ : MethodName)) (a := b10) (O20.1) (wd hw 20 rfl) (wd hw 21 rfl) (nfS (wd hw 23 rfl) rfl) (wd hw 23 rfl) (wd hw 22 rfl) (wd hw 3 rfl) (wd hw 24 rfl) (by decide) (m_reset0 l Z a0 hw b10 M Sc (0 : Int32) (0 : Int32) (0 : Int32) [0, 0, 0, 0, 0, 0, 0, 0, 0, 0, 0, 0, 0, 0, 0, 0]  v4 (v4 + v5) h31 n0 Z36 O20 O21 O22 ne32 ne34 ne27 g33 g35 rfl g15 (by decide) (by decide) (by decide) (by decide) (by rw [qr.2.2]; omega) (by rw [qe]; exact ql.2)) rfl (by decide) (W := 0) rfl (by decide) (c' := 3) (s' := 1049) rfl rfl (by decide) (by decide) at_103 (n := 106) rfl pd9 rfl rfl ?_
        rintro _ h46 ⟨rfl, K37, O38, us42, O39, Hl43, F44, O40⟩
        have Z47 : n0 ≤ h46.size := Nat.le_trans Z36 K37.1
        have H48 := F44 _ has0 (fun s h => absurd h (Nat.not_lt_zero _))
        refine G.aload C at_106 rfl rfl (n := 108) rfl ?_
        refine G.iload C at_108 rfl (n := 110) rfl ?_
        refine G.iload C at_110 rfl (n := 112) rfl ?_
        refine G.iadd C at_112 (n := 113) rfl ?_
        refine G.dconst1 C at_113 (n := 114) rfl ?_
        refine G.callV C (argsL := [(.int (v4 + v6)), (.double FP.dconst1)]) (yr := (⟨"com/example/near_miss/nearmiss/search/Window", "add", "(ID)V"⟩ : MethodName)) (yc := (⟨"com/example/near_miss/nearmiss/search/Window", "add", "(ID)V"⟩ : MethodName)) (a := b10) (O38.1) (wd hw 31 rfl) (wd hw 32 rfl) (nfS (wd hw 34 rfl) rfl) (wd hw 34 rfl) (wd hw 33 rfl) (wd hw 3 rfl) (wd hw 35 rfl) (by decide) (m_add l Z a0 hw b10 M Sc (0 : Int32) .null (((((v4 + v5) - v4) + (64 : Int32)) - (1 : Int32)) / (64 : Int32)) v4 (v4 + v5) us42 (v4 + v6) v6 FP.dconst1 h46 n0 Z47 O38 O39 O40 ne32 ne34 ne27 g33 g35 Hl43 (asub _ _) qa.1 (by omega) (by rw [qe]; exact qa.2)) rfl (by decide) (W := 0) rfl (by decide) (c' := 3) (s' := 1049) rfl rfl (by decide) (by decide) at_114 (n := 117) rfl pd6 rfl rfl ?_
        rintro _ h56 ⟨rfl, K49, us52, O50, Hl53, F54, O51⟩
        have O57 := O38.keep K49 (ninS ne32 (ninS ne34 nin0))
        have Z58 : n0 ≤ h56.size := Nat.le_trans Z47 K49.1
        have H59 := F54 _ H48
        refine G.iload C at_117 rfl (n := 119) rfl ?_
        refine G.iload C at_119 rfl (n := 121) rfl ?_
        refine G.icmp_eq C (A := v7.toInt) (B := v6.toInt) rfl rfl at_121 (by decide) (by decide) (n := 124) (n' := 137) rfl (fun c121_60 c121_60i => ?_) (fun c121_60 c121_60i => ?_)
        · refine G.iload C at_137 rfl (n := 139) rfl ?_
          refine G.if_eq C (A := 0) (by decide) at_139 (by decide) (by decide) (n := 142) (n' := 154) rfl (fun c139_61 c139_61i => ?_) (fun c139_61 c139_61i => ?_)
          rotate_left
          · exact absurd c139_61 (by decide)
          refine G.iload C at_154 rfl (n := 156) rfl ?_
          refine G.if_eq C (A := 0) (by decide) at_156 (by decide) (by decide) (n := 159) (n' := 166) rfl (fun c156_62 c156_62i => ?_) (fun c156_62 c156_62i => ?_)
          rotate_left
          · exact absurd c156_62 (by decide)
          refine G.iload C at_166 rfl (n := 168) rfl ?_
          refine G.if_eq C (A := 0) (by decide) at_168 (by decide) (by decide) (n := 171) (n' := 177) rfl (fun c168_63 c168_63i => ?_) (fun c168_63 c168_63i => ?_)
          rotate_left
          · exact absurd c168_63 (by decide)
          refine G.iload C at_177 rfl (n := 179) rfl ?_
          refine G.iload C at_179 rfl (n := 181) rfl ?_
          refine G.icmp_ne C (A := v8.toInt) (B := v6.toInt) rfl rfl at_181 (by decide) (by decide) (n := 184) (n' := 193) rfl (fun c181_64 c181_64i => ?_) (fun c181_64 c181_64i => ?_)
          · refine G.iconst C (v := (0 : Int32)) at_193 (by decide) (n := 194) rfl ?_
            refine G.istore C at_194 (l' := #[.val (.int i0), .val (.int i1), .val (.int i2), .val (.int i3), .val (.int i4), .val (.int i5), .val (.int (0 : Int32)), .val (.int (0 : Int32)), .val (.int (0 : Int32)), .val (.int v4), .val (.int v5), .val (.int v6), .val (.int v7), .val (.int v8), .val (.ref b10), .unset, .val (.int (0 : Int32)), .unset]) rfl (n := 196) rfl ?_
            refine G.iload C at_196 rfl (n := 198) rfl ?_
            refine G.iload C at_198 rfl (n := 200) rfl ?_
            refine G.icmp_eq C (A := v7.toInt) (B := v6.toInt) rfl rfl at_200 (by decide) (by decide) (n := 203) (n' := 214) rfl (fun c200_65 c200_65i => ?_) (fun c200_65 c200_65i => ?_)
            · refine G.iconst C (v := (0 : Int32)) at_214 (by decide) (n := 215) rfl ?_
              refine G.istore C at_215 (l' := #[.val (.int i0), .val (.int i1), .val (.int i2), .val (.int i3), .val (.int i4), .val (.int i5), .val (.int (0 : Int32)), .val (.int (0 : Int32)), .val (.int (0 : Int32)), .val (.int v4), .val (.int v5), .val (.int v6), .val (.int v7), .val (.int v8), .val (.ref b10), .unset, .val (.int (0 : Int32)), .val (.int (0 : Int32))]) rfl (n := 217) rfl ?_
              refine G.iload C at_217 rfl (n := 219) rfl ?_
              refine G.if_ne C (A := 0) (by decide) at_219 (by decide) (by decide) (n := 222) (n' := 227) rfl (fun c219_66 c219_66i => ?_) (fun c219_66 c219_66i => ?_)
              · exact absurd c219_66 (by decide)
              refine G.iload C at_222 rfl (n := 224) rfl ?_
              refine G.if_eq C (A := 0) (by decide) at_224 (by decide) (by decide) (n := 227) (n' := 231) rfl (fun c224_67 c224_67i => ?_) (fun c224_67 c224_67i => ?_)
              rotate_left
              · exact absurd c224_67 (by decide)
              refine G.iconst C (v := (0 : Int32)) at_231 (by decide) (n := 232) rfl ?_
              refine G.istore C at_232 (l' := #[.val (.int i0), .val (.int i1), .val (.int i2), .val (.int i3), .val (.int i4), .val (.int i5), .val (.int (0 : Int32)), .val (.int (0 : Int32)), .val (.int (0 : Int32)), .val (.int v4), .val (.int v5), .val (.int v6), .val (.int v7), .val (.int v8), .val (.ref b10), .val (.int (0 : Int32)), .val (.int (0 : Int32)), .val (.int (0 : Int32))]) rfl (n := 234) rfl ?_
              refine G.aload C at_234 rfl rfl (n := 236) rfl ?_
              refine G.iload C at_236 rfl (n := 238) rfl ?_
              refine G.callV C (argsL := [(.int v8)]) (yr := (⟨"com/example/near_miss/nearmiss/search/Window", "holds", "(I)Z"⟩ : MethodName)) (yc := (⟨"com/example/near_miss/nearmiss/search/Window", "holds", "(I)Z"⟩ : MethodName)) (a := b10) (O57.1) (wd hw 53 rfl) (wd hw 54 rfl) (nfS (wd hw 56 rfl) rfl) (wd hw 56 rfl) (wd hw 55 rfl) (wd hw 3 rfl) (wd hw 57 rfl) (by decide) (m_holds l Z a0 hw b10 M Sc (0 : Int32) .null (((((v4 + v5) - v4) + (64 : Int32)) - (1 : Int32)) / (64 : Int32)) v4 (v4 + v5) us52 v8 h56 n0 Z58 O57 O50 O51 ne32 ne34 ne27 g33 g35 Hl53 qs.1 (by omega)) rfl (by decide) (W := 0) rfl (by decide) (c' := 3) (s' := 1049) rfl rfl (by decide) (by decide) at_238 (n := 241) rfl pd10 rfl rfl ?_
              rintro _ h69 ⟨rr, rfl, Fr0, rfl⟩
              have Hr := Fr0 _ H59
              refine G.iload C at_241 rfl (n := 243) rfl ?_
              refine G.icmp_ne C (A := rr.toInt) (B := 0) rfl (by decide) at_243 (by decide) (by decide) (n := 246) (n' := 250) rfl (fun c243_70 c243_70i => ?_) (fun c243_70 c243_70i => ?_)
              · rcases Hr with ⟨r1, r2⟩ | ⟨r1, r2⟩ <;> first | exact absurd r1 c243_70 | (exfalso; omega)
              refine G.iconst C (v := (1 : Int32)) at_246 (by decide) (n := 247) rfl ?_
              refine G.goto C at_247 (by decide) (n := 251) (by decide) ?_
              refine G.ireturn C at_251 (rfl) (by simp) (by decide) (by decide) ?_
              exact rfl
            · refine G.iload C at_203 rfl (n := 205) rfl ?_
              refine G.iload C at_205 rfl (n := 207) rfl ?_
              refine G.icmp_ne C (A := v8.toInt) (B := v7.toInt) rfl rfl at_207 (by decide) (by decide) (n := 210) (n' := 214) rfl (fun c207_71 c207_71i => ?_) (fun c207_71 c207_71i => ?_)
              · refine G.iconst C (v := (0 : Int32)) at_214 (by decide) (n := 215) rfl ?_
                refine G.istore C at_215 (l' := #[.val (.int i0), .val (.int i1), .val (.int i2), .val (.int i3), .val (.int i4), .val (.int i5), .val (.int (0 : Int32)), .val (.int (0 : Int32)), .val (.int (0 : Int32)), .val (.int v4), .val (.int v5), .val (.int v6), .val (.int v7), .val (.int v8), .val (.ref b10), .unset, .val (.int (0 : Int32)), .val (.int (0 : Int32))]) rfl (n := 217) rfl ?_
                refine G.iload C at_217 rfl (n := 219) rfl ?_
                refine G.if_ne C (A := 0) (by decide) at_219 (by decide) (by decide) (n := 222) (n' := 227) rfl (fun c219_72 c219_72i => ?_) (fun c219_72 c219_72i => ?_)
                · exact absurd c219_72 (by decide)
                refine G.iload C at_222 rfl (n := 224) rfl ?_
                refine G.if_eq C (A := 0) (by decide) at_224 (by decide) (by decide) (n := 227) (n' := 231) rfl (fun c224_73 c224_73i => ?_) (fun c224_73 c224_73i => ?_)
                rotate_left
                · exact absurd c224_73 (by decide)
                refine G.iconst C (v := (0 : Int32)) at_231 (by decide) (n := 232) rfl ?_
                refine G.istore C at_232 (l' := #[.val (.int i0), .val (.int i1), .val (.int i2), .val (.int i3), .val (.int i4), .val (.int i5), .val (.int (0 : Int32)), .val (.int (0 : Int32)), .val (.int (0 : Int32)), .val (.int v4), .val (.int v5), .val (.int v6), .val (.int v7), .val (.int v8), .val (.ref b10), .val (.int (0 : Int32)), .val (.int (0 : Int32)), .val (.int (0 : Int32))]) rfl (n := 234) rfl ?_
                refine G.aload C at_234 rfl rfl (n := 236) rfl ?_
                refine G.iload C at_236 rfl (n := 238) rfl ?_
                refine G.callV C (argsL := [(.int v8)]) (yr := (⟨"com/example/near_miss/nearmiss/search/Window", "holds", "(I)Z"⟩ : MethodName)) (yc := (⟨"com/example/near_miss/nearmiss/search/Window", "holds", "(I)Z"⟩ : MethodName)) (a := b10) (O57.1) (wd hw 53 rfl) (wd hw 54 rfl) (nfS (wd hw 56 rfl) rfl) (wd hw 56 rfl) (wd hw 55 rfl) (wd hw 3 rfl) (wd hw 57 rfl) (by decide) (m_holds l Z a0 hw b10 M Sc (0 : Int32) .null (((((v4 + v5) - v4) + (64 : Int32)) - (1 : Int32)) / (64 : Int32)) v4 (v4 + v5) us52 v8 h56 n0 Z58 O57 O50 O51 ne32 ne34 ne27 g33 g35 Hl53 qs.1 (by omega)) rfl (by decide) (W := 0) rfl (by decide) (c' := 3) (s' := 1049) rfl rfl (by decide) (by decide) at_238 (n := 241) rfl pd10 rfl rfl ?_
                rintro _ h75 ⟨rr, rfl, Fr0, rfl⟩
                have Hr := Fr0 _ H59
                refine G.iload C at_241 rfl (n := 243) rfl ?_
                refine G.icmp_ne C (A := rr.toInt) (B := 0) rfl (by decide) at_243 (by decide) (by decide) (n := 246) (n' := 250) rfl (fun c243_76 c243_76i => ?_) (fun c243_76 c243_76i => ?_)
                · rcases Hr with ⟨r1, r2⟩ | ⟨r1, r2⟩ <;> first | exact absurd r1 c243_76 | (exfalso; omega)
                refine G.iconst C (v := (1 : Int32)) at_246 (by decide) (n := 247) rfl ?_
                refine G.goto C at_247 (by decide) (n := 251) (by decide) ?_
                refine G.ireturn C at_251 (rfl) (by simp) (by decide) (by decide) ?_
                exact rfl
              · refine G.iconst C (v := (1 : Int32)) at_210 (by decide) (n := 211) rfl ?_
                refine G.goto C at_211 (by decide) (n := 215) (by decide) ?_
                refine G.istore C at_215 (l' := #[.val (.int i0), .val (.int i1), .val (.int i2), .val (.int i3), .val (.int i4), .val (.int i5), .val (.int (0 : Int32)), .val (.int (0 : Int32)), .val (.int (0 : Int32)), .val (.int v4), .val (.int v5), .val (.int v6), .val (.int v7), .val (.int v8), .val (.ref b10), .unset, .val (.int (0 : Int32)), .val (.int (1 : Int32))]) rfl (n := 217) rfl ?_
                refine G.iload C at_217 rfl (n := 219) rfl ?_
                refine G.if_ne C (A := 0) (by decide) at_219 (by decide) (by decide) (n := 222) (n' := 227) rfl (fun c219_77 c219_77i => ?_) (fun c219_77 c219_77i => ?_)
                · exact absurd c219_77 (by decide)
                refine G.iload C at_222 rfl (n := 224) rfl ?_
                refine G.if_eq C (A := 1) (by decide) at_224 (by decide) (by decide) (n := 227) (n' := 231) rfl (fun c224_78 c224_78i => ?_) (fun c224_78 c224_78i => ?_)
                · exact absurd c224_78 (by decide)
                refine G.iconst C (v := (1 : Int32)) at_227 (by decide) (n := 228) rfl ?_
                refine G.goto C at_228 (by decide) (n := 232) (by decide) ?_
                refine G.istore C at_232 (l' := #[.val (.int i0), .val (.int i1), .val (.int i2), .val (.int i3), .val (.int i4), .val (.int i5), .val (.int (0 : Int32)), .val (.int (0 : Int32)), .val (.int (0 : Int32)), .val (.int v4), .val (.int v5), .val (.int v6), .val (.int v7), .val (.int v8), .val (.ref b10), .val (.int (1 : Int32)), .val (.int (0 : Int32)), .val (.int (1 : Int32))]) rfl (n := 234) rfl ?_
                refine G.aload C at_234 rfl rfl (n := 236) rfl ?_
                refine G.iload C at_236 rfl (n := 238) rfl ?_
                refine G.callV C (argsL := [(.int v8)]) (yr := (⟨"com/example/near_miss/nearmiss/search/Window", "holds", "(I)Z"⟩ : MethodName)) (yc := (⟨"com/example/near_miss/nearmiss/search/Window", "holds", "(I)Z"⟩ : MethodName)) (a := b10) (O57.1) (wd hw 53 rfl) (wd hw 54 rfl) (nfS (wd hw 56 rfl) rfl) (wd hw 56 rfl) (wd hw 55 rfl) (wd hw 3 rfl) (wd hw 57 rfl) (by decide) (m_holds l Z a0 hw b10 M Sc (0 : Int32) .null (((((v4 + v5) - v4) + (64 : Int32)) - (1 : Int32)) / (64 : Int32)) v4 (v4 + v5) us52 v8 h56 n0 Z58 O57 O50 O51 ne32 ne34 ne27 g33 g35 Hl53 qs.1 (by omega)) rfl (by decide) (W := 0) rfl (by decide) (c' := 3) (s' := 1049) rfl rfl (by decide) (by decide) at_238 (n := 241) rfl pd10 rfl rfl ?_
                rintro _ h80 ⟨rr, rfl, Fr0, rfl⟩
                have Hr := Fr0 _ H59
                refine G.iload C at_241 rfl (n := 243) rfl ?_
                refine G.icmp_ne C (A := rr.toInt) (B := 1) rfl (by decide) at_243 (by decide) (by decide) (n := 246) (n' := 250) rfl (fun c243_81 c243_81i => ?_) (fun c243_81 c243_81i => ?_)
                · rcases Hr with ⟨r1, r2⟩ | ⟨r1, r2⟩ <;> first | exact absurd r1 c243_81 | (exfalso; omega)
                refine G.iconst C (v := (1 : Int32)) at_246 (by decide) (n := 247) rfl ?_
                refine G.goto C at_247 (by decide) (n := 251) (by decide) ?_
                refine G.ireturn C at_251 (rfl) (by simp) (by decide) (by decide) ?_
                exact rfl
          · refine G.iload C at_184 rfl (n := 186) rfl ?_
            refine G.if_ne C (A := 0) (by decide) at_186 (by decide) (by decide) (n := 189) (n' := 193) rfl (fun c186_82 c186_82i => ?_) (fun c186_82 c186_82i => ?_)
            · exact absurd c186_82 (by decide)
            refine G.iconst C (v := (1 : Int32)) at_189 (by decide) (n := 190) rfl ?_
            refine G.goto C at_190 (by decide) (n := 194) (by decide) ?_
            refine G.istore C at_194 (l' := #[.val (.int i0), .val (.int i1), .val (.int i2), .val (.int i3), .val (.int i4), .val (.int i5), .val (.int (0 : Int32)), .val (.int (0 : Int32)), .val (.int (0 : Int32)), .val (.int v4), .val (.int v5), .val (.int v6), .val (.int v7), .val (.int v8), .val (.ref b10), .unset, .val (.int (1 : Int32)), .unset]) rfl (n := 196) rfl ?_
            refine G.iload C at_196 rfl (n := 198) rfl ?_
            refine G.iload C at_198 rfl (n := 200) rfl ?_
            refine G.icmp_eq C (A := v7.toInt) (B := v6.toInt) rfl rfl at_200 (by decide) (by decide) (n := 203) (n' := 214) rfl (fun c200_83 c200_83i => ?_) (fun c200_83 c200_83i => ?_)
            · refine G.iconst C (v := (0 : Int32)) at_214 (by decide) (n := 215) rfl ?_
              refine G.istore C at_215 (l' := #[.val (.int i0), .val (.int i1), .val (.int i2), .val (.int i3), .val (.int i4), .val (.int i5), .val (.int (0 : Int32)), .val (.int (0 : Int32)), .val (.int (0 : Int32)), .val (.int v4), .val (.int v5), .val (.int v6), .val (.int v7), .val (.int v8), .val (.ref b10), .unset, .val (.int (1 : Int32)), .val (.int (0 : Int32))]) rfl (n := 217) rfl ?_
              refine G.iload C at_217 rfl (n := 219) rfl ?_
              refine G.if_ne C (A := 1) (by decide) at_219 (by decide) (by decide) (n := 222) (n' := 227) rfl (fun c219_84 c219_84i => ?_) (fun c219_84 c219_84i => ?_)
              rotate_left
              · exact absurd c219_84 (by decide)
              refine G.iconst C (v := (1 : Int32)) at_227 (by decide) (n := 228) rfl ?_
              refine G.goto C at_228 (by decide) (n := 232) (by decide) ?_
              refine G.istore C at_232 (l' := #[.val (.int i0), .val (.int i1), .val (.int i2), .val (.int i3), .val (.int i4), .val (.int i5), .val (.int (0 : Int32)), .val (.int (0 : Int32)), .val (.int (0 : Int32)), .val (.int v4), .val (.int v5), .val (.int v6), .val (.int v7), .val (.int v8), .val (.ref b10), .val (.int (1 : Int32)), .val (.int (1 : Int32)), .val (.int (0 : Int32))]) rfl (n := 234) rfl ?_
              refine G.aload C at_234 rfl rfl (n := 236) rfl ?_
              refine G.iload C at_236 rfl (n := 238) rfl ?_
              refine G.callV C (argsL := [(.int v8)]) (yr := (⟨"com/example/near_miss/nearmiss/search/Window", "holds", "(I)Z"⟩ : MethodName)) (yc := (⟨"com/example/near_miss/nearmiss/search/Window", "holds", "(I)Z"⟩ : MethodName)) (a := b10) (O57.1) (wd hw 53 rfl) (wd hw 54 rfl) (nfS (wd hw 56 rfl) rfl) (wd hw 56 rfl) (wd hw 55 rfl) (wd hw 3 rfl) (wd hw 57 rfl) (by decide) (m_holds l Z a0 hw b10 M Sc (0 : Int32) .null (((((v4 + v5) - v4) + (64 : Int32)) - (1 : Int32)) / (64 : Int32)) v4 (v4 + v5) us52 v8 h56 n0 Z58 O57 O50 O51 ne32 ne34 ne27 g33 g35 Hl53 qs.1 (by omega)) rfl (by decide) (W := 0) rfl (by decide) (c' := 3) (s' := 1049) rfl rfl (by decide) (by decide) at_238 (n := 241) rfl pd10 rfl rfl ?_
              rintro _ h86 ⟨rr, rfl, Fr0, rfl⟩
              have Hr := Fr0 _ H59
              refine G.iload C at_241 rfl (n := 243) rfl ?_
              refine G.icmp_ne C (A := rr.toInt) (B := 1) rfl (by decide) at_243 (by decide) (by decide) (n := 246) (n' := 250) rfl (fun c243_87 c243_87i => ?_) (fun c243_87 c243_87i => ?_)
              · rcases Hr with ⟨r1, r2⟩ | ⟨r1, r2⟩ <;> first | exact absurd r1 c243_87 | (exfalso; omega)
              refine G.iconst C (v := (1 : Int32)) at_246 (by decide) (n := 247) rfl ?_
              refine G.goto C at_247 (by decide) (n := 251) (by decide) ?_
              refine G.ireturn C at_251 (rfl) (by simp) (by decide) (by decide) ?_
              exact rfl
            · refine G.iload C at_203 rfl (n := 205) rfl ?_
              refine G.iload C at_205 rfl (n := 207) rfl ?_
              refine G.icmp_ne C (A := v8.toInt) (B := v7.toInt) rfl rfl at_207 (by decide) (by decide) (n := 210) (n' := 214) rfl (fun c207_88 c207_88i => ?_) (fun c207_88 c207_88i => ?_)
              · refine G.iconst C (v := (0 : Int32)) at_214 (by decide) (n := 215) rfl ?_
                refine G.istore C at_215 (l' := #[.val (.int i0), .val (.int i1), .val (.int i2), .val (.int i3), .val (.int i4), .val (.int i5), .val (.int (0 : Int32)), .val (.int (0 : Int32)), .val (.int (0 : Int32)), .val (.int v4), .val (.int v5), .val (.int v6), .val (.int v7), .val (.int v8), .val (.ref b10), .unset, .val (.int (1 : Int32)), .val (.int (0 : Int32))]) rfl (n := 217) rfl ?_
                refine G.iload C at_217 rfl (n := 219) rfl ?_
                refine G.if_ne C (A := 1) (by decide) at_219 (by decide) (by decide) (n := 222) (n' := 227) rfl (fun c219_89 c219_89i => ?_) (fun c219_89 c219_89i => ?_)
                rotate_left
                · exact absurd c219_89 (by decide)
                refine G.iconst C (v := (1 : Int32)) at_227 (by decide) (n := 228) rfl ?_
                refine G.goto C at_228 (by decide) (n := 232) (by decide) ?_
                refine G.istore C at_232 (l' := #[.val (.int i0), .val (.int i1), .val (.int i2), .val (.int i3), .val (.int i4), .val (.int i5), .val (.int (0 : Int32)), .val (.int (0 : Int32)), .val (.int (0 : Int32)), .val (.int v4), .val (.int v5), .val (.int v6), .val (.int v7), .val (.int v8), .val (.ref b10), .val (.int (1 : Int32)), .val (.int (1 : Int32)), .val (.int (0 : Int32))]) rfl (n := 234) rfl ?_
                refine G.aload C at_234 rfl rfl (n := 236) rfl ?_
                refine G.iload C at_236 rfl (n := 238) rfl ?_
                refine G.callV C (argsL := [(.int v8)]) (yr := (⟨"com/example/near_miss/nearmiss/search/Window", "holds", "(I)Z"⟩ : MethodName)) (yc := (⟨"com/example/near_miss/nearmiss/search/Window", "holds", "(I)Z"⟩ : MethodName)) (a := b10) (O57.1) (wd hw 53 rfl) (wd hw 54 rfl) (nfS (wd hw 56 rfl) rfl) (wd hw 56 rfl) (wd hw 55 rfl) (wd hw 3 rfl) (wd hw 57 rfl) (by decide) (m_holds l Z a0 hw b10 M Sc (0 : Int32) .null (((((v4 + v5) - v4) + (64 : Int32)) - (1 : Int32)) / (64 : Int32)) v4 (v4 + v5) us52 v8 h56 n0 Z58 O57 O50 O51 ne32 ne34 ne27 g33 g35 Hl53 qs.1 (by omega)) rfl (by decide) (W := 0) rfl (by decide) (c' := 3) (s' := 1049) rfl rfl (by decide) (by decide) at_238 (n := 241) rfl pd10 rfl rfl ?_
                rintro _ h91 ⟨rr, rfl, Fr0, rfl⟩
                have Hr := Fr0 _ H59
                refine G.iload C at_241 rfl (n := 243) rfl ?_
                refine G.icmp_ne C (A := rr.toInt) (B := 1) rfl (by decide) at_243 (by decide) (by decide) (n := 246) (n' := 250) rfl (fun c243_92 c243_92i => ?_) (fun c243_92 c243_92i => ?_)
                · rcases Hr with ⟨r1, r2⟩ | ⟨r1, r2⟩ <;> first | exact absurd r1 c243_92 | (exfalso; omega)
                refine G.iconst C (v := (1 : Int32)) at_246 (by decide) (n := 247) rfl ?_
                refine G.goto C at_247 (by decide) (n := 251) (by decide) ?_
                refine G.ireturn C at_251 (rfl) (by simp) (by decide) (by decide) ?_
                exact rfl
              · refine G.iconst C (v := (1 : Int32)) at_210 (by decide) (n := 211) rfl ?_
                refine G.goto C at_211 (by decide) (n := 215) (by decide) ?_
                refine G.istore C at_215 (l' := #[.val (.int i0), .val (.int i1), .val (.int i2), .val (.int i3), .val (.int i4), .val (.int i5), .val (.int (0 : Int32)), .val (.int (0 : Int32)), .val (.int (0 : Int32)), .val (.int v4), .val (.int v5), .val (.int v6), .val (.int v7), .val (.int v8), .val (.ref b10), .unset, .val (.int (1 : Int32)), .val (.int (1 : Int32))]) rfl (n := 217) rfl ?_
                refine G.iload C at_217 rfl (n := 219) rfl ?_
                refine G.if_ne C (A := 1) (by decide) at_219 (by decide) (by decide) (n := 222) (n' := 227) rfl (fun c219_93 c219_93i => ?_) (fun c219_93 c219_93i => ?_)
                rotate_left
                · exact absurd c219_93 (by decide)
                refine G.iconst C (v := (1 : Int32)) at_227 (by decide) (n := 228) rfl ?_
                refine G.goto C at_228 (by decide) (n := 232) (by decide) ?_
                refine G.istore C at_232 (l' := #[.val (.int i0), .val (.int i1), .val (.int i2), .val (.int i3), .val (.int i4), .val (.int i5), .val (.int (0 : Int32)), .val (.int (0 : Int32)), .val (.int (0 : Int32)), .val (.int v4), .val (.int v5), .val (.int v6), .val (.int v7), .val (.int v8), .val (.ref b10), .val (.int (1 : Int32)), .val (.int (1 : Int32)), .val (.int (1 : Int32))]) rfl (n := 234) rfl ?_
                refine G.aload C at_234 rfl rfl (n := 236) rfl ?_
                refine G.iload C at_236 rfl (n := 238) rfl ?_
                refine G.callV C (argsL := [(.int v8)]) (yr := (⟨"com/example/near_miss/nearmiss/search/Window", "holds", "(I)Z"⟩ : MethodName)) (yc := (⟨"com/example/near_miss/nearmiss/search/Window", "holds", "(I)Z"⟩ : MethodName)) (a := b10) (O57.1) (wd hw 53 rfl) (wd hw 54 rfl) (nfS (wd hw 56 rfl) rfl) (wd hw 56 rfl) (wd hw 55 rfl) (wd hw 3 rfl) (wd hw 57 rfl) (by decide) (m_holds l Z a0 hw b10 M Sc (0 : Int32) .null (((((v4 + v5) - v4) + (64 : Int32)) - (1 : Int32)) / (64 : Int32)) v4 (v4 + v5) us52 v8 h56 n0 Z58 O57 O50 O51 ne32 ne34 ne27 g33 g35 Hl53 qs.1 (by omega)) rfl (by decide) (W := 0) rfl (by decide) (c' := 3) (s' := 1049) rfl rfl (by decide) (by decide) at_238 (n := 241) rfl pd10 rfl rfl ?_
                rintro _ h95 ⟨rr, rfl, Fr0, rfl⟩
                have Hr := Fr0 _ H59
                refine G.iload C at_241 rfl (n := 243) rfl ?_
                refine G.icmp_ne C (A := rr.toInt) (B := 1) rfl (by decide) at_243 (by decide) (by decide) (n := 246) (n' := 250) rfl (fun c243_96 c243_96i => ?_) (fun c243_96 c243_96i => ?_)
                · rcases Hr with ⟨r1, r2⟩ | ⟨r1, r2⟩ <;> first | exact absurd r1 c243_96 | (exfalso; omega)
                refine G.iconst C (v := (1 : Int32)) at_246 (by decide) (n := 247) rfl ?_
                refine G.goto C at_247 (by decide) (n := 251) (by decide) ?_
                refine G.ireturn C at_251 (rfl) (by simp) (by decide) (by decide) ?_
                exact rfl
        · refine G.aload C at_124 rfl rfl (n := 126) rfl ?_
          refine G.iload C at_126 rfl (n := 128) rfl ?_
          refine G.iload C at_128 rfl (n := 130) rfl ?_
          refine G.iadd C at_130 (n := 131) rfl ?_
          refine G.ldc2D C (v := (4611686018427387904 : UInt64)) (wd hw 52 rfl) at_131 (n := 134) rfl ?_
          refine G.callV C (argsL := [(.int (v4 + v7)), (.double (4611686018427387904 : UInt64))]) (yr := (⟨"com/example/near_miss/nearmiss/search/Window", "add", "(ID)V"⟩ : MethodName)) (yc := (⟨"com/example/near_miss/nearmiss/search/Window", "add", "(ID)V"⟩ : MethodName)) (a := b10) (O57.1) (wd hw 31 rfl) (wd hw 32 rfl) (nfS (wd hw 34 rfl) rfl) (wd hw 34 rfl) (wd hw 33 rfl) (wd hw 3 rfl) (wd hw 35 rfl) (by decide) (m_add l Z a0 hw b10 M Sc (0 : Int32) .null (((((v4 + v5) - v4) + (64 : Int32)) - (1 : Int32)) / (64 : Int32)) v4 (v4 + v5) us52 (v4 + v7) v7 (4611686018427387904 : UInt64) h56 n0 Z58 O57 O50 O51 ne32 ne34 ne27 g33 g35 Hl53 (asub _ _) qb2.1 (by omega) (by rw [qe]; exact qb2.2)) rfl (by decide) (W := 0) rfl (by decide) (c' := 3) (s' := 1049) rfl rfl (by decide) (by decide) at_134 (n := 137) rfl pd6 rfl rfl ?_
          rintro _ h104 ⟨rfl, K97, us100, O98, Hl101, F102, O99⟩
          have O105 := O57.keep K97 (ninS ne32 (ninS ne34 nin0))
          have Z106 : n0 ≤ h104.size := Nat.le_trans Z58 K97.1
          have H107 := F102 _ H59
          refine G.iload C at_137 rfl (n := 139) rfl ?_
          refine G.if_eq C (A := 0) (by decide) at_139 (by decide) (by decide) (n := 142) (n' := 154) rfl (fun c139_108 c139_108i => ?_) (fun c139_108 c139_108i => ?_)
          rotate_left
          · exact absurd c139_108 (by decide)
          refine G.iload C at_154 rfl (n := 156) rfl ?_
          refine G.if_eq C (A := 0) (by decide) at_156 (by decide) (by decide) (n := 159) (n' := 166) rfl (fun c156_109 c156_109i => ?_) (fun c156_109 c156_109i => ?_)
          rotate_left
          · exact absurd c156_109 (by decide)
          refine G.iload C at_166 rfl (n := 168) rfl ?_
          refine G.if_eq C (A := 0) (by decide) at_168 (by decide) (by decide) (n := 171) (n' := 177) rfl (fun c168_110 c168_110i => ?_) (fun c168_110 c168_110i => ?_)
          rotate_left
          · exact absurd c168_110 (by decide)
          refine G.iload C at_177 rfl (n := 179) rfl ?_
          refine G.iload C at_179 rfl (n := 181) rfl ?_
          refine G.icmp_ne C (A := v8.toInt) (B := v6.toInt) rfl rfl at_181 (by decide) (by decide) (n := 184) (n' := 193) rfl (fun c181_111 c181_111i => ?_) (fun c181_111 c181_111i => ?_)
          · refine G.iconst C (v := (0 : Int32)) at_193 (by decide) (n := 194) rfl ?_
            refine G.istore C at_194 (l' := #[.val (.int i0), .val (.int i1), .val (.int i2), .val (.int i3), .val (.int i4), .val (.int i5), .val (.int (0 : Int32)), .val (.int (0 : Int32)), .val (.int (0 : Int32)), .val (.int v4), .val (.int v5), .val (.int v6), .val (.int v7), .val (.int v8), .val (.ref b10), .unset, .val (.int (0 : Int32)), .unset]) rfl (n := 196) rfl ?_
            refine G.iload C at_196 rfl (n := 198) rfl ?_
            refine G.iload C at_198 rfl (n := 200) rfl ?_
            refine G.icmp_eq C (A := v7.toInt) (B := v6.toInt) rfl rfl at_200 (by decide) (by decide) (n := 203) (n' := 214) rfl (fun c200_112 c200_112i => ?_) (fun c200_112 c200_112i => ?_)
            · refine G.iconst C (v := (0 : Int32)) at_214 (by decide) (n := 215) rfl ?_
              refine G.istore C at_215 (l' := #[.val (.int i0), .val (.int i1), .val (.int i2), .val (.int i3), .val (.int i4), .val (.int i5), .val (.int (0 : Int32)), .val (.int (0 : Int32)), .val (.int (0 : Int32)), .val (.int v4), .val (.int v5), .val (.int v6), .val (.int v7), .val (.int v8), .val (.ref b10), .unset, .val (.int (0 : Int32)), .val (.int (0 : Int32))]) rfl (n := 217) rfl ?_
              refine G.iload C at_217 rfl (n := 219) rfl ?_
              refine G.if_ne C (A := 0) (by decide) at_219 (by decide) (by decide) (n := 222) (n' := 227) rfl (fun c219_113 c219_113i => ?_) (fun c219_113 c219_113i => ?_)
              · exact absurd c219_113 (by decide)
              refine G.iload C at_222 rfl (n := 224) rfl ?_
              refine G.if_eq C (A := 0) (by decide) at_224 (by decide) (by decide) (n := 227) (n' := 231) rfl (fun c224_114 c224_114i => ?_) (fun c224_114 c224_114i => ?_)
              rotate_left
              · exact absurd c224_114 (by decide)
              refine G.iconst C (v := (0 : Int32)) at_231 (by decide) (n := 232) rfl ?_
              refine G.istore C at_232 (l' := #[.val (.int i0), .val (.int i1), .val (.int i2), .val (.int i3), .val (.int i4), .val (.int i5), .val (.int (0 : Int32)), .val (.int (0 : Int32)), .val (.int (0 : Int32)), .val (.int v4), .val (.int v5), .val (.int v6), .val (.int v7), .val (.int v8), .val (.ref b10), .val (.int (0 : Int32)), .val (.int (0 : Int32)), .val (.int (0 : Int32))]) rfl (n := 234) rfl ?_
              refine G.aload C at_234 rfl rfl (n := 236) rfl ?_
              refine G.iload C at_236 rfl (n := 238) rfl ?_
              refine G.callV C (argsL := [(.int v8)]) (yr := (⟨"com/example/near_miss/nearmiss/search/Window", "holds", "(I)Z"⟩ : MethodName)) (yc := (⟨"com/example/near_miss/nearmiss/search/Window", "holds", "(I)Z"⟩ : MethodName)) (a := b10) (O105.1) (wd hw 53 rfl) (wd hw 54 rfl) (nfS (wd hw 56 rfl) rfl) (wd hw 56 rfl) (wd hw 55 rfl) (wd hw 3 rfl) (wd hw 57 rfl) (by decide) (m_holds l Z a0 hw b10 M Sc (0 : Int32) .null (((((v4 + v5) - v4) + (64 : Int32)) - (1 : Int32)) / (64 : Int32)) v4 (v4 + v5) us100 v8 h104 n0 Z106 O105 O98 O99 ne32 ne34 ne27 g33 g35 Hl101 qs.1 (by omega)) rfl (by decide) (W := 0) rfl (by decide) (c' := 3) (s' := 1049) rfl rfl (by decide) (by decide) at_238 (n := 241) rfl pd10 rfl rfl ?_
              rintro _ h116 ⟨rr, rfl, Fr0, rfl⟩
              have Hr := Fr0 _ H107
              refine G.iload C at_241 rfl (n := 243) rfl ?_
              refine G.icmp_ne C (A := rr.toInt) (B := 0) rfl (by decide) at_243 (by decide) (by decide) (n := 246) (n' := 250) rfl (fun c243_117 c243_117i => ?_) (fun c243_117 c243_117i => ?_)
              · rcases Hr with ⟨r1, r2⟩ | ⟨r1, r2⟩ <;> first | exact absurd r1 c243_117 | (exfalso; omega)
              refine G.iconst C (v := (1 : Int32)) at_246 (by decide) (n := 247) rfl ?_
              refine G.goto C at_247 (by decide) (n := 251) (by decide) ?_
              refine G.ireturn C at_251 (rfl) (by simp) (by decide) (by decide) ?_
              exact rfl
            · refine G.iload C at_203 rfl (n := 205) rfl ?_
              refine G.iload C at_205 rfl (n := 207) rfl ?_
              refine G.icmp_ne C (A := v8.toInt) (B := v7.toInt) rfl rfl at_207 (by decide) (by decide) (n := 210) (n' := 214) rfl (fun c207_118 c207_118i => ?_) (fun c207_118 c207_118i => ?_)
              · refine G.iconst C (v := (0 : Int32)) at_214 (by decide) (n := 215) rfl ?_
                refine G.istore C at_215 (l' := #[.val (.int i0), .val (.int i1), .val (.int i2), .val (.int i3), .val (.int i4), .val (.int i5), .val (.int (0 : Int32)), .val (.int (0 : Int32)), .val (.int (0 : Int32)), .val (.int v4), .val (.int v5), .val (.int v6), .val (.int v7), .val (.int v8), .val (.ref b10), .unset, .val (.int (0 : Int32)), .val (.int (0 : Int32))]) rfl (n := 217) rfl ?_
                refine G.iload C at_217 rfl (n := 219) rfl ?_
                refine G.if_ne C (A := 0) (by decide) at_219 (by decide) (by decide) (n := 222) (n' := 227) rfl (fun c219_119 c219_119i => ?_) (fun c219_119 c219_119i => ?_)
                · exact absurd c219_119 (by decide)
                refine G.iload C at_222 rfl (n := 224) rfl ?_
                refine G.if_eq C (A := 0) (by decide) at_224 (by decide) (by decide) (n := 227) (n' := 231) rfl (fun c224_120 c224_120i => ?_) (fun c224_120 c224_120i => ?_)
                rotate_left
                · exact absurd c224_120 (by decide)
                refine G.iconst C (v := (0 : Int32)) at_231 (by decide) (n := 232) rfl ?_
                refine G.istore C at_232 (l' := #[.val (.int i0), .val (.int i1), .val (.int i2), .val (.int i3), .val (.int i4), .val (.int i5), .val (.int (0 : Int32)), .val (.int (0 : Int32)), .val (.int (0 : Int32)), .val (.int v4), .val (.int v5), .val (.int v6), .val (.int v7), .val (.int v8), .val (.ref b10), .val (.int (0 : Int32)), .val (.int (0 : Int32)), .val (.int (0 : Int32))]) rfl (n := 234) rfl ?_
                refine G.aload C at_234 rfl rfl (n := 236) rfl ?_
                refine G.iload C at_236 rfl (n := 238) rfl ?_
                refine G.callV C (argsL := [(.int v8)]) (yr := (⟨"com/example/near_miss/nearmiss/search/Window", "holds", "(I)Z"⟩ : MethodName)) (yc := (⟨"com/example/near_miss/nearmiss/search/Window", "holds", "(I)Z"⟩ : MethodName)) (a := b10) (O105.1) (wd hw 53 rfl) (wd hw 54 rfl) (nfS (wd hw 56 rfl) rfl) (wd hw 56 rfl) (wd hw 55 rfl) (wd hw 3 rfl) (wd hw 57 rfl) (by decide) (m_holds l Z a0 hw b10 M Sc (0 : Int32) .null (((((v4 + v5) - v4) + (64 : Int32)) - (1 : Int32)) / (64 : Int32)) v4 (v4 + v5) us100 v8 h104 n0 Z106 O105 O98 O99 ne32 ne34 ne27 g33 g35 Hl101 qs.1 (by omega)) rfl (by decide) (W := 0) rfl (by decide) (c' := 3) (s' := 1049) rfl rfl (by decide) (by decide) at_238 (n := 241) rfl pd10 rfl rfl ?_
                rintro _ h122 ⟨rr, rfl, Fr0, rfl⟩
                have Hr := Fr0 _ H107
                refine G.iload C at_241 rfl (n := 243) rfl ?_
                refine G.icmp_ne C (A := rr.toInt) (B := 0) rfl (by decide) at_243 (by decide) (by decide) (n := 246) (n' := 250) rfl (fun c243_123 c243_123i => ?_) (fun c243_123 c243_123i => ?_)
                · rcases Hr with ⟨r1, r2⟩ | ⟨r1, r2⟩ <;> first | exact absurd r1 c243_123 | (exfalso; omega)
                refine G.iconst C (v := (1 : Int32)) at_246 (by decide) (n := 247) rfl ?_
                refine G.goto C at_247 (by decide) (n := 251) (by decide) ?_
                refine G.ireturn C at_251 (rfl) (by simp) (by decide) (by decide) ?_
                exact rfl
              · refine G.iconst C (v := (1 : Int32)) at_210 (by decide) (n := 211) rfl ?_
                refine G.goto C at_211 (by decide) (n := 215) (by decide) ?_
                refine G.istore C at_215 (l' := #[.val (.int i0), .val (.int i1), .val (.int i2), .val (.int i3), .val (.int i4), .val (.int i5), .val (.int (0 : Int32)), .val (.int (0 : Int32)), .val (.int (0 : Int32)), .val (.int v4), .val (.int v5), .val (.int v6), .val (.int v7), .val (.int v8), .val (.ref b10), .unset, .val (.int (0 : Int32)), .val (.int (1 : Int32))]) rfl (n := 217) rfl ?_
                refine G.iload C at_217 rfl (n := 219) rfl ?_
                refine G.if_ne C (A := 0) (by decide) at_219 (by decide) (by decide) (n := 222) (n' := 227) rfl (fun c219_124 c219_124i => ?_) (fun c219_124 c219_124i => ?_)
                · exact absurd c219_124 (by decide)
                refine G.iload C at_222 rfl (n := 224) rfl ?_
                refine G.if_eq C (A := 1) (by decide) at_224 (by decide) (by decide) (n := 227) (n' := 231) rfl (fun c224_125 c224_125i => ?_) (fun c224_125 c224_125i => ?_)
                · exact absurd c224_125 (by decide)
                refine G.iconst C (v := (1 : Int32)) at_227 (by decide) (n := 228) rfl ?_
                refine G.goto C at_228 (by decide) (n := 232) (by decide) ?_
                refine G.istore C at_232 (l' := #[.val (.int i0), .val (.int i1), .val (.int i2), .val (.int i3), .val (.int i4), .val (.int i5), .val (.int (0 : Int32)), .val (.int (0 : Int32)), .val (.int (0 : Int32)), .val (.int v4), .val (.int v5), .val (.int v6), .val (.int v7), .val (.int v8), .val (.ref b10), .val (.int (1 : Int32)), .val (.int (0 : Int32)), .val (.int (1 : Int32))]) rfl (n := 234) rfl ?_
                refine G.aload C at_234 rfl rfl (n := 236) rfl ?_
                refine G.iload C at_236 rfl (n := 238) rfl ?_
                refine G.callV C (argsL := [(.int v8)]) (yr := (⟨"com/example/near_miss/nearmiss/search/Window", "holds", "(I)Z"⟩ : MethodName)) (yc := (⟨"com/example/near_miss/nearmiss/search/Window", "holds", "(I)Z"⟩ : MethodName)) (a := b10) (O105.1) (wd hw 53 rfl) (wd hw 54 rfl) (nfS (wd hw 56 rfl) rfl) (wd hw 56 rfl) (wd hw 55 rfl) (wd hw 3 rfl) (wd hw 57 rfl) (by decide) (m_holds l Z a0 hw b10 M Sc (0 : Int32) .null (((((v4 + v5) - v4) + (64 : Int32)) - (1 : Int32)) / (64 : Int32)) v4 (v4 + v5) us100 v8 h104 n0 Z106 O105 O98 O99 ne32 ne34 ne27 g33 g35 Hl101 qs.1 (by omega)) rfl (by decide) (W := 0) rfl (by decide) (c' := 3) (s' := 1049) rfl rfl (by decide) (by decide) at_238 (n := 241) rfl pd10 rfl rfl ?_
                rintro _ h127 ⟨rr, rfl, Fr0, rfl⟩
                have Hr := Fr0 _ H107
                refine G.iload C at_241 rfl (n := 243) rfl ?_
                refine G.icmp_ne C (A := rr.toInt) (B := 1) rfl (by decide) at_243 (by decide) (by decide) (n := 246) (n' := 250) rfl (fun c243_128 c243_128i => ?_) (fun c243_128 c243_128i => ?_)
                · rcases Hr with ⟨r1, r2⟩ | ⟨r1, r2⟩ <;> first | exact absurd r1 c243_128 | (exfalso; omega)
                refine G.iconst C (v := (1 : Int32)) at_246 (by decide) (n := 247) rfl ?_
                refine G.goto C at_247 (by decide) (n := 251) (by decide) ?_
                refine G.ireturn C at_251 (rfl) (by simp) (by decide) (by decide) ?_
                exact rfl
          · refine G.iload C at_184 rfl (n := 186) rfl ?_
            refine G.if_ne C (A := 0) (by decide) at_186 (by decide) (by decide) (n := 189) (n' := 193) rfl (fun c186_129 c186_129i => ?_) (fun c186_129 c186_129i => ?_)
            · exact absurd c186_129 (by decide)
            refine G.iconst C (v := (1 : Int32)) at_189 (by decide) (n := 190) rfl ?_
            refine G.goto C at_190 (by decide) (n := 194) (by decide) ?_
            refine G.istore C at_194 (l' := #[.val (.int i0), .val (.int i1), .val (.int i2), .val (.int i3), .val (.int i4), .val (.int i5), .val (.int (0 : Int32)), .val (.int (0 : Int32)), .val (.int (0 : Int32)), .val (.int v4), .val (.int v5), .val (.int v6), .val (.int v7), .val (.int v8), .val (.ref b10), .unset, .val (.int (1 : Int32)), .unset]) rfl (n := 196) rfl ?_
            refine G.iload C at_196 rfl (n := 198) rfl ?_
            refine G.iload C at_198 rfl (n := 200) rfl ?_
            refine G.icmp_eq C (A := v7.toInt) (B := v6.toInt) rfl rfl at_200 (by decide) (by decide) (n := 203) (n' := 214) rfl (fun c200_130 c200_130i => ?_) (fun c200_130 c200_130i => ?_)
            · refine G.iconst C (v := (0 : Int32)) at_214 (by decide) (n := 215) rfl ?_
              refine G.istore C at_215 (l' := #[.val (.int i0), .val (.int i1), .val (.int i2), .val (.int i3), .val (.int i4), .val (.int i5), .val (.int (0 : Int32)), .val (.int (0 : Int32)), .val (.int (0 : Int32)), .val (.int v4), .val (.int v5), .val (.int v6), .val (.int v7), .val (.int v8), .val (.ref b10), .unset, .val (.int (1 : Int32)), .val (.int (0 : Int32))]) rfl (n := 217) rfl ?_
              refine G.iload C at_217 rfl (n := 219) rfl ?_
              refine G.if_ne C (A := 1) (by decide) at_219 (by decide) (by decide) (n := 222) (n' := 227) rfl (fun c219_131 c219_131i => ?_) (fun c219_131 c219_131i => ?_)
              rotate_left
              · exact absurd c219_131 (by decide)
              refine G.iconst C (v := (1 : Int32)) at_227 (by decide) (n := 228) rfl ?_
              refine G.goto C at_228 (by decide) (n := 232) (by decide) ?_
              refine G.istore C at_232 (l' := #[.val (.int i0), .val (.int i1), .val (.int i2), .val (.int i3), .val (.int i4), .val (.int i5), .val (.int (0 : Int32)), .val (.int (0 : Int32)), .val (.int (0 : Int32)), .val (.int v4), .val (.int v5), .val (.int v6), .val (.int v7), .val (.int v8), .val (.ref b10), .val (.int (1 : Int32)), .val (.int (1 : Int32)), .val (.int (0 : Int32))]) rfl (n := 234) rfl ?_
              refine G.aload C at_234 rfl rfl (n := 236) rfl ?_
              refine G.iload C at_236 rfl (n := 238) rfl ?_
              refine G.callV C (argsL := [(.int v8)]) (yr := (⟨"com/example/near_miss/nearmiss/search/Window", "holds", "(I)Z"⟩ : MethodName)) (yc := (⟨"com/example/near_miss/nearmiss/search/Window", "holds", "(I)Z"⟩ : MethodName)) (a := b10) (O105.1) (wd hw 53 rfl) (wd hw 54 rfl) (nfS (wd hw 56 rfl) rfl) (wd hw 56 rfl) (wd hw 55 rfl) (wd hw 3 rfl) (wd hw 57 rfl) (by decide) (m_holds l Z a0 hw b10 M Sc (0 : Int32) .null (((((v4 + v5) - v4) + (64 : Int32)) - (1 : Int32)) / (64 : Int32)) v4 (v4 + v5) us100 v8 h104 n0 Z106 O105 O98 O99 ne32 ne34 ne27 g33 g35 Hl101 qs.1 (by omega)) rfl (by decide) (W := 0) rfl (by decide) (c' := 3) (s' := 1049) rfl rfl (by decide) (by decide) at_238 (n := 241) rfl pd10 rfl rfl ?_
              rintro _ h133 ⟨rr, rfl, Fr0, rfl⟩
              have Hr := Fr0 _ H107
              refine G.iload C at_241 rfl (n := 243) rfl ?_
              refine G.icmp_ne C (A := rr.toInt) (B := 1) rfl (by decide) at_243 (by decide) (by decide) (n := 246) (n' := 250) rfl (fun c243_134 c243_134i => ?_) (fun c243_134 c243_134i => ?_)
              · rcases Hr with ⟨r1, r2⟩ | ⟨r1, r2⟩ <;> first | exact absurd r1 c243_134 | (exfalso; omega)
              refine G.iconst C (v := (1 : Int32)) at_246 (by decide) (n := 247) rfl ?_
              refine G.goto C at_247 (by decide) (n := 251) (by decide) ?_
              refine G.ireturn C at_251 (rfl) (by simp) (by decide) (by decide) ?_
              exact rfl
            · refine G.iload C at_203 rfl (n := 205) rfl ?_
              refine G.iload C at_205 rfl (n := 207) rfl ?_
              refine G.icmp_ne C (A := v8.toInt) (B := v7.toInt) rfl rfl at_207 (by decide) (by decide) (n := 210) (n' := 214) rfl (fun c207_135 c207_135i => ?_) (fun c207_135 c207_135i => ?_)
              · refine G.iconst C (v := (0 : Int32)) at_214 (by decide) (n := 215) rfl ?_
                refine G.istore C at_215 (l' := #[.val (.int i0), .val (.int i1), .val (.int i2), .val (.int i3), .val (.int i4), .val (.int i5), .val (.int (0 : Int32)), .val (.int (0 : Int32)), .val (.int (0 : Int32)), .val (.int v4), .val (.int v5), .val (.int v6), .val (.int v7), .val (.int v8), .val (.ref b10), .unset, .val (.int (1 : Int32)), .val (.int (0 : Int32))]) rfl (n := 217) rfl ?_
                refine G.iload C at_217 rfl (n := 219) rfl ?_
                refine G.if_ne C (A := 1) (by decide) at_219 (by decide) (by decide) (n := 222) (n' := 227) rfl (fun c219_136 c219_136i => ?_) (fun c219_136 c219_136i => ?_)
                rotate_left
                · exact absurd c219_136 (by decide)
                refine G.iconst C (v := (1 : Int32)) at_227 (by decide) (n := 228) rfl ?_
                refine G.goto C at_228 (by decide) (n := 232) (by decide) ?_
                refine G.istore C at_232 (l' := #[.val (.int i0), .val (.int i1), .val (.int i2), .val (.int i3), .val (.int i4), .val (.int i5), .val (.int (0 : Int32)), .val (.int (0 : Int32)), .val (.int (0 : Int32)), .val (.int v4), .val (.int v5), .val (.int v6), .val (.int v7), .val (.int v8), .val (.ref b10), .val (.int (1 : Int32)), .val (.int (1 : Int32)), .val (.int (0 : Int32))]) rfl (n := 234) rfl ?_
                refine G.aload C at_234 rfl rfl (n := 236) rfl ?_
                refine G.iload C at_236 rfl (n := 238) rfl ?_
                refine G.callV C (argsL := [(.int v8)]) (yr := (⟨"com/example/near_miss/nearmiss/search/Window", "holds", "(I)Z"⟩ : MethodName)) (yc := (⟨"com/example/near_miss/nearmiss/search/Window", "holds", "(I)Z"⟩ : MethodName)) (a := b10) (O105.1) (wd hw 53 rfl) (wd hw 54 rfl) (nfS (wd hw 56 rfl) rfl) (wd hw 56 rfl) (wd hw 55 rfl) (wd hw 3 rfl) (wd hw 57 rfl) (by decide) (m_holds l Z a0 hw b10 M Sc (0 : Int32) .null (((((v4 + v5) - v4) + (64 : Int32)) - (1 : Int32)) / (64 : Int32)) v4 (v4 + v5) us100 v8 h104 n0 Z106 O105 O98 O99 ne32 ne34 ne27 g33 g35 Hl101 qs.1 (by omega)) rfl (by decide) (W := 0) rfl (by decide) (c' := 3) (s' := 1049) rfl rfl (by decide) (by decide) at_238 (n := 241) rfl pd10 rfl rfl ?_
                rintro _ h138 ⟨rr, rfl, Fr0, rfl⟩
                have Hr := Fr0 _ H107
                refine G.iload C at_241 rfl (n := 243) rfl ?_
                refine G.icmp_ne C (A := rr.toInt) (B := 1) rfl (by decide) at_243 (by decide) (by decide) (n := 246) (n' := 250) rfl (fun c243_139 c243_139i => ?_) (fun c243_139 c243_139i => ?_)
                · rcases Hr with ⟨r1, r2⟩ | ⟨r1, r2⟩ <;> first | exact absurd r1 c243_139 | (exfalso; omega)
                refine G.iconst C (v := (1 : Int32)) at_246 (by decide) (n := 247) rfl ?_
                refine G.goto C at_247 (by decide) (n := 251) (by decide) ?_
                refine G.ireturn C at_251 (rfl) (by simp) (by decide) (by decide) ?_
                exact rfl
              · refine G.iconst C (v := (1 : Int32)) at_210 (by decide) (n := 211) rfl ?_
                refine G.goto C at_211 (by decide) (n := 215) (by decide) ?_
                refine G.istore C at_215 (l' := #[.val (.int i0), .val (.int i1), .val (.int i2), .val (.int i3), .val (.int i4), .val (.int i5), .val (.int (0 : Int32)), .val (.int (0 : Int32)), .val (.int (0 : Int32)), .val (.int v4), .val (.int v5), .val (.int v6), .val (.int v7), .val (.int v8), .val (.ref b10), .unset, .val (.int (1 : Int32)), .val (.int (1 : Int32))]) rfl (n := 217) rfl ?_
                refine G.iload C at_217 rfl (n := 219) rfl ?_
                refine G.if_ne C (A := 1) (by decide) at_219 (by decide) (by decide) (n := 222) (n' := 227) rfl (fun c219_140 c219_140i => ?_) (fun c219_140 c219_140i => ?_)
                rotate_left
                · exact absurd c219_140 (by decide)
                refine G.iconst C (v := (1 : Int32)) at_227 (by decide) (n := 228) rfl ?_
                refine G.goto C at_228 (by decide) (n := 232) (by decide) ?_
                refine G.istore C at_232 (l' := #[.val (.int i0), .val (.int i1), .val (.int i2), .val (.int i3), .val (.int i4), .val (.int i5), .val (.int (0 : Int32)), .val (.int (0 : Int32)), .val (.int (0 : Int32)), .val (.int v4), .val (.int v5), .val (.int v6), .val (.int v7), .val (.int v8), .val (.ref b10), .val (.int (1 : Int32)), .val (.int (1 : Int32)), .val (.int (1 : Int32))]) rfl (n := 234) rfl ?_
                refine G.aload C at_234 rfl rfl (n := 236) rfl ?_
                refine G.iload C at_236 rfl (n := 238) rfl ?_
                refine G.callV C (argsL := [(.int v8)]) (yr := (⟨"com/example/near_miss/nearmiss/search/Window", "holds", "(I)Z"⟩ : MethodName)) (yc := (⟨"com/example/near_miss/nearmiss/search/Window", "holds", "(I)Z"⟩ : MethodName)) (a := b10) (O105.1) (wd hw 53 rfl) (wd hw 54 rfl) (nfS (wd hw 56 rfl) rfl) (wd hw 56 rfl) (wd hw 55 rfl) (wd hw 3 rfl) (wd hw 57 rfl) (by decide) (m_holds l Z a0 hw b10 M Sc (0 : Int32) .null (((((v4 + v5) - v4) + (64 : Int32)) - (1 : Int32)) / (64 : Int32)) v4 (v4 + v5) us100 v8 h104 n0 Z106 O105 O98 O99 ne32 ne34 ne27 g33 g35 Hl101 qs.1 (by omega)) rfl (by decide) (W := 0) rfl (by decide) (c' := 3) (s' := 1049) rfl rfl (by decide) (by decide) at_238 (n := 241) rfl pd10 rfl rfl ?_
                rintro _ h142 ⟨rr, rfl, Fr0, rfl⟩
                have Hr := Fr0 _ H107
                refine G.iload C at_241 rfl (n := 243) rfl ?_
                refine G.icmp_ne C (A := rr.toInt) (B := 1) rfl (by decide) at_243 (by decide) (by decide) (n := 246) (n' := 250) rfl (fun c243_143 c243_143i => ?_) (fun c243_143 c243_143i => ?_)
                · rcases Hr with ⟨r1, r2⟩ | ⟨r1, r2⟩ <;> first | exact absurd r1 c243_143 | (exfalso; omega)
                refine G.iconst C (v := (1 : Int32)) at_246 (by decide) (n := 247) rfl ?_
                refine G.goto C at_247 (by decide) (n := 251) (by decide) ?_
                refine G.ireturn C at_251 (rfl) (by simp) (by decide) (by decide) ?_
                exact rfl
      · refine G.iconst C (v := (1 : Int32)) at_32 (by decide) (n := 33) rfl ?_
        refine G.goto C at_33 (by decide) (n := 37) (by decide) ?_
        refine G.istore C at_37 (l' := #[.val (.int i0), .val (.int i1), .val (.int i2), .val (.int i3), .val (.int i4), .val (.int i5), .val (.int (0 : Int32)), .val (.int (0 : Int32)), .val (.int (1 : Int32)), .unset, .unset, .unset, .unset, .unset, .unset, .unset, .unset, .unset]) rfl (n := 39) rfl ?_
        refine G.iload C at_39 rfl (n := 41) rfl ?_
        refine G.iconst C (v := (2 : Int32)) at_41 (by decide) (n := 42) rfl ?_
        refine G.ishr C at_42 (n := 43) rfl ?_
        refine G.istoreZ C at_43 (l' := fun z => #[.val (.int i0), .val (.int i1), .val (.int i2), .val (.int i3), .val (.int i4), .val (.int i5), .val (.int (0 : Int32)), .val (.int (0 : Int32)), .val (.int (1 : Int32)), .val (.int z), .unset, .unset, .unset, .unset, .unset, .unset, .unset, .unset]) (fun _ => rfl) (n := 45) rfl ?_
        intro v144 hv144
        have qb : v144.toInt < 1000000000 := by rw [hv144, c_ishr i5 2 2 (by decide)]; have := rng32 i5; show _ / 4 < _; omega
        refine G.iloadN C at_45 rfl (n := 46) rfl ?_
        refine G.ldc C (v := (2147483647 : Int32)) (wd hw 0 rfl) at_46 (n := 48) rfl ?_
        refine G.iand C at_48 (n := 49) rfl ?_
        refine G.sipush C (v := (1024 : Int32)) at_49 (by decide) (n := 52) rfl ?_
        refine G.irem C at_52 (by decide) (n := 53) rfl ?_
        refine G.iconst C (v := (1 : Int32)) at_53 (by decide) (n := 54) rfl ?_
        refine G.iadd C at_54 (n := 55) rfl ?_
        refine G.istoreZ C at_55 (l' := fun z => #[.val (.int i0), .val (.int i1), .val (.int i2), .val (.int i3), .val (.int i4), .val (.int i5), .val (.int (0 : Int32)), .val (.int (0 : Int32)), .val (.int (1 : Int32)), .val (.int v144), .val (.int z), .unset, .unset, .unset, .unset, .unset, .unset, .unset]) (fun _ => rfl) (n := 57) rfl ?_
        intro v145 hv145
        have ql : 1 ≤ v145.toInt ∧ v145.toInt ≤ 1024 := by have r := rem_v (x := i1) (d := 1024) (by decide); rw [show (1024 : Int32).toInt = 1024 from rfl] at r; rw [hv145, Int32.add_comm, addk (K := 1) (by decide) (by omega) (by omega)]; omega
        have qr := rsub (x := v144) (l := v145) (by omega) ql.2 qb
        have qe := qr.2.1
        have qwd2 : (((((v144 + v145) - v144) + (64 : Int32)) - (1 : Int32)) / (64 : Int32)).toInt = (v145.toInt + 63) / 64 := by rw [asub]; exact words_at ql.1 ql.2
        have qwd : (((((v144 + v145) - v144) + (64 : Int32)) - (1 : Int32)) / (64 : Int32)).toInt.toNat = (v145.toInt.toNat + 63) / 64 := by rw [qwd2]; omega
        refine G.iloadN C at_57 rfl (n := 58) rfl ?_
        refine G.ldc C (v := (2147483647 : Int32)) (wd hw 0 rfl) at_58 (n := 60) rfl ?_
        refine G.iand C at_60 (n := 61) rfl ?_
        refine G.iload C at_61 rfl (n := 63) rfl ?_
        refine G.irem C at_63 (nz_pos (by omega)) (n := 64) rfl ?_
        refine G.istoreZ C at_64 (l' := fun z => #[.val (.int i0), .val (.int i1), .val (.int i2), .val (.int i3), .val (.int i4), .val (.int i5), .val (.int (0 : Int32)), .val (.int (0 : Int32)), .val (.int (1 : Int32)), .val (.int v144), .val (.int v145), .val (.int z), .unset, .unset, .unset, .unset, .unset, .unset]) (fun _ => rfl) (n := 66) rfl ?_
        intro v146 hv146
        have qa : 0 ≤ v146.toInt ∧ v146.toInt < v145.toInt := by rw [hv146]; exact rem_v (by omega)
        refine G.iloadN C at_66 rfl (n := 67) rfl ?_
        refine G.ldc C (v := (2147483647 : Int32)) (wd hw 0 rfl) at_67 (n := 69) rfl ?_
        refine G.iand C at_69 (n := 70) rfl ?_
        refine G.iload C at_70 rfl (n := 72) rfl ?_
        refine G.irem C at_72 (nz_pos (by omega)) (n := 73) rfl ?_
        refine G.istoreZ C at_73 (l' := fun z => #[.val (.int i0), .val (.int i1), .val (.int i2), .val (.int i3), .val (.int i4), .val (.int i5), .val (.int (0 : Int32)), .val (.int (0 : Int32)), .val (.int (1 : Int32)), .val (.int v144), .val (.int v145), .val (.int v146), .val (.int z), .unset, .unset, .unset, .unset, .unset]) (fun _ => rfl) (n := 75) rfl ?_
        intro v147 hv147
        have qb2 : 0 ≤ v147.toInt ∧ v147.toInt < v145.toInt := by rw [hv147]; exact rem_v (by omega)
        refine G.iload C at_75 rfl (n := 77) rfl ?_
        refine G.sipush C (v := (1023 : Int32)) at_77 (by decide) (n := 80) rfl ?_
        refine G.iand C at_80 (n := 81) rfl ?_
        refine G.istoreZ C at_81 (l' := fun z => #[.val (.int i0), .val (.int i1), .val (.int i2), .val (.int i3), .val (.int i4), .val (.int i5), .val (.int (0 : Int32)), .val (.int (0 : Int32)), .val (.int (1 : Int32)), .val (.int v144), .val (.int v145), .val (.int v146), .val (.int v147), .val (.int z), .unset, .unset, .unset, .unset]) (fun _ => rfl) (n := 83) rfl ?_
        intro v148 hv148
        have qs : 0 ≤ v148.toInt ∧ v148.toInt ≤ 1023 := by rw [hv148]; exact c_and i4 1023 (by decide)
        refine G.new C (wd hw 1 rfl) (wd hw 2 rfl) (wd hw 3 rfl) at_83 (n := 86) rfl (c' := 1) (s' := 9) rfl rfl (by decide) (by decide) ?_
        intro h149 b150 q151 E152 A153 D154
        have g155 : n0 ≤ b150 := Nat.le_trans Z0 (Nat.le_of_eq q151.symm)
        have O156 := Ob_Wn.new hw A153 D154
        have K157 := kext E152
        have Z158 : n0 ≤ h149.size := Nat.le_trans Z0 K157.1
        refine G.dup C at_86 rfl (n := 87) rfl ?_
        refine G.iload C at_87 rfl (n := 89) rfl ?_
        refine G.callC C (argsL := [(.int (0 : Int32))]) (yc := (⟨"com/example/near_miss/nearmiss/search/Window", "<init>", "(Z)V"⟩ : MethodName)) (a := b150) rfl (wd hw 4 rfl) (wd hw 5 rfl) (wd hw 3 rfl) (wd hw 6 rfl) (by decide) (m_init0 l Z a0 hw b150 h149 n0 Z158 O156 g155) rfl (by decide) (W := 1) rfl (by decide) (c' := 3) (s' := 1049) rfl rfl (by decide) (by decide) at_89 (n := 92) rfl pd8 rfl rfl ?_
        rintro _ h171 ⟨rfl, K159, M, Sc, O160, O161, O162, f164, f165, ne167⟩
        have ne172 : b150 ≠ M := Nat.ne_of_lt (Nat.lt_of_lt_of_le O156.lt f164)
        have g173 : n0 ≤ M := Nat.le_trans Z158 f164
        have ne174 : b150 ≠ Sc := Nat.ne_of_lt (Nat.lt_of_lt_of_le O156.lt f165)
        have g175 : n0 ≤ Sc := Nat.le_trans Z158 f165
        have Z176 : n0 ≤ h171.size := Nat.le_trans Z158 K159.1
        refine G.astore C at_92 rfl (l' := #[.val (.int i0), .val (.int i1), .val (.int i2), .val (.int i3), .val (.int i4), .val (.int i5), .val (.int (0 : Int32)), .val (.int (0 : Int32)), .val (.int (1 : Int32)), .val (.int v144), .val (.int v145), .val (.int v146), .val (.int v147), .val (.int v148), .val (.ref b150), .unset, .unset, .unset]) rfl (n := 94) rfl ?_
        refine G.aload C at_94 rfl rfl (n := 96) rfl ?_
        refine G.iload C at_96 rfl (n := 98) rfl ?_
        refine G.iload C at_98 rfl (n := 100) rfl ?_
        refine G.iload C at_100 rfl (n := 102) rfl ?_
        refine G.iadd C at_102 (n := 103) rfl ?_
        refine G.callV C (argsL := [(.int v144), (.int (v144 + v145))]) (yr := (⟨"com/example/near_miss/nearmiss/search/Window", "reset", "(II)V"⟩ : MethodName)) (yc := (⟨"com/example/near_miss/nearmiss/search/Window", "reset", "(II)V"⟩ : MethodName)) (a := b150) (O160.1) (wd hw 20 rfl) (wd hw 21 rfl) (nfS (wd hw 23 rfl) rfl) (wd hw 23 rfl) (wd hw 22 rfl) (wd hw 3 rfl) (wd hw 24 rfl) (by decide) (m_reset0 l Z a0 hw b150 M Sc (0 : Int32) (0 : Int32) (0 : Int32) [0, 0, 0, 0, 0, 0, 0, 0, 0, 0, 0, 0, 0, 0, 0, 0]  v144 (v144 + v145) h171 n0 Z176 O160 O161 O162 ne172 ne174 ne167 g173 g175 rfl g155 (by decide) (by decide) (by decide) (by decide) (by rw [qr.2.2]; omega) (by rw [qe]; exact ql.2)) rfl (by decide) (W := 0) rfl (by decide) (c' := 3) (s' := 1049) rfl rfl (by decide) (by decide) at_103 (n := 106) rfl pd9 rfl rfl ?_
        rintro _ h186 ⟨rfl, K177, O178, us182, O179, Hl183, F184, O180⟩
        have Z187 : n0 ≤ h186.size := Nat.le_trans Z176 K177.1
        have H188 := F184 _ has0 (fun s h => absurd h (Nat.not_lt_zero _))
        refine G.aload C at_106 rfl rfl (n := 108) rfl ?_
        refine G.iload C at_108 rfl (n := 110) rfl ?_
        refine G.iload C at_110 rfl (n := 112) rfl ?_
        refine G.iadd C at_112 (n := 113) rfl ?_
        refine G.dconst1 C at_113 (n := 114) rfl ?_
        refine G.callV C (argsL := [(.int (v144 + v146)), (.double FP.dconst1)]) (yr := (⟨"com/example/near_miss/nearmiss/search/Window", "add", "(ID)V"⟩ : MethodName)) (yc := (⟨"com/example/near_miss/nearmiss/search/Window", "add", "(ID)V"⟩ : MethodName)) (a := b150) (O178.1) (wd hw 31 rfl) (wd hw 32 rfl) (nfS (wd hw 34 rfl) rfl) (wd hw 34 rfl) (wd hw 33 rfl) (wd hw 3 rfl) (wd hw 35 rfl) (by decide) (m_add l Z a0 hw b150 M Sc (0 : Int32) .null (((((v144 + v145) - v144) + (64 : Int32)) - (1 : Int32)) / (64 : Int32)) v144 (v144 + v145) us182 (v144 + v146) v146 FP.dconst1 h186 n0 Z187 O178 O179 O180 ne172 ne174 ne167 g173 g175 Hl183 (asub _ _) qa.1 (by omega) (by rw [qe]; exact qa.2)) rfl (by decide) (W := 0) rfl (by decide) (c' := 3) (s' := 1049) rfl rfl (by decide) (by decide) at_114 (n := 117) rfl pd6 rfl rfl ?_
        rintro _ h196 ⟨rfl, K189, us192, O190, Hl193, F194, O191⟩
        have O197 := O178.keep K189 (ninS ne172 (ninS ne174 nin0))
        have Z198 : n0 ≤ h196.size := Nat.le_trans Z187 K189.1
        have H199 := F194 _ H188
        refine G.iload C at_117 rfl (n := 119) rfl ?_
        refine G.iload C at_119 rfl (n := 121) rfl ?_
        refine G.icmp_eq C (A := v147.toInt) (B := v146.toInt) rfl rfl at_121 (by decide) (by decide) (n := 124) (n' := 137) rfl (fun c121_200 c121_200i => ?_) (fun c121_200 c121_200i => ?_)
        · refine G.iload C at_137 rfl (n := 139) rfl ?_
          refine G.if_eq C (A := 1) (by decide) at_139 (by decide) (by decide) (n := 142) (n' := 154) rfl (fun c139_201 c139_201i => ?_) (fun c139_201 c139_201i => ?_)
          · exact absurd c139_201 (by decide)
          refine G.aload C at_142 rfl rfl (n := 144) rfl ?_
          refine G.iload C at_144 rfl (n := 146) rfl ?_
          refine G.iload C at_146 rfl (n := 148) rfl ?_
          refine G.iload C at_148 rfl (n := 150) rfl ?_
          refine G.iadd C at_150 (n := 151) rfl ?_
          refine G.callV C (argsL := [(.int v144), (.int (v144 + v145))]) (yr := (⟨"com/example/near_miss/nearmiss/search/Window", "reset", "(II)V"⟩ : MethodName)) (yc := (⟨"com/example/near_miss/nearmiss/search/Window", "reset", "(II)V"⟩ : MethodName)) (a := b150) (O197.1) (wd hw 20 rfl) (wd hw 21 rfl) (nfS (wd hw 23 rfl) rfl) (wd hw 23 rfl) (wd hw 22 rfl) (wd hw 3 rfl) (wd hw 24 rfl) (by decide) (m_reset0 l Z a0 hw b150 M Sc (((((v144 + v145) - v144) + (64 : Int32)) - (1 : Int32)) / (64 : Int32)) v144 (v144 + v145) us192  v144 (v144 + v145) h196 n0 Z198 O197 O190 O191 ne172 ne174 ne167 g173 g175 Hl193 g155 (by rw [qwd2]; omega) (by rw [qwd2]; omega) (by rw [qe]; omega) (by rw [qe]; omega) (by rw [qr.2.2]; omega) (by rw [qe]; exact ql.2)) rfl (by decide) (W := 0) rfl (by decide) (c' := 3) (s' := 1049) rfl rfl (by decide) (by decide) at_151 (n := 154) rfl pd9 rfl rfl ?_
          rintro _ h211 ⟨rfl, K202, O203, us207, O204, Hl208, F209, O205⟩
          have Z212 : n0 ≤ h211.size := Nat.le_trans Z198 K202.1
          have H213 := F209 _ H199 (fun s h => by rw [qwd]; omega)
          refine G.iload C at_154 rfl (n := 156) rfl ?_
          refine G.if_eq C (A := 0) (by decide) at_156 (by decide) (by decide) (n := 159) (n' := 166) rfl (fun c156_214 c156_214i => ?_) (fun c156_214 c156_214i => ?_)
          rotate_left
          · exact absurd c156_214 (by decide)
          refine G.iload C at_166 rfl (n := 168) rfl ?_
          refine G.if_eq C (A := 1) (by decide) at_168 (by decide) (by decide) (n := 171) (n' := 177) rfl (fun c168_215 c168_215i => ?_) (fun c168_215 c168_215i => ?_)
          · exact absurd c168_215 (by decide)
          refine G.iconst C (v := (0 : Int32)) at_171 (by decide) (n := 172) rfl ?_
          refine G.istore C at_172 (l' := #[.val (.int i0), .val (.int i1), .val (.int i2), .val (.int i3), .val (.int i4), .val (.int i5), .val (.int (0 : Int32)), .val (.int (0 : Int32)), .val (.int (1 : Int32)), .val (.int v144), .val (.int v145), .val (.int v146), .val (.int v147), .val (.int v148), .val (.ref b150), .val (.int (0 : Int32)), .unset, .unset]) rfl (n := 174) rfl ?_
          refine G.goto C at_174 (by decide) (n := 234) (by decide) ?_
          refine G.aload C at_234 rfl rfl (n := 236) rfl ?_
          refine G.iload C at_236 rfl (n := 238) rfl ?_
          refine G.callV C (argsL := [(.int v148)]) (yr := (⟨"com/example/near_miss/nearmiss/search/Window", "holds", "(I)Z"⟩ : MethodName)) (yc := (⟨"com/example/near_miss/nearmiss/search/Window", "holds", "(I)Z"⟩ : MethodName)) (a := b150) (O203.1) (wd hw 53 rfl) (wd hw 54 rfl) (nfS (wd hw 56 rfl) rfl) (wd hw 56 rfl) (wd hw 55 rfl) (wd hw 3 rfl) (wd hw 57 rfl) (by decide) (m_holds l Z a0 hw b150 M Sc (0 : Int32) .null (((((v144 + v145) - v144) + (64 : Int32)) - (1 : Int32)) / (64 : Int32)) v144 (v144 + v145) us207 v148 h211 n0 Z212 O203 O204 O205 ne172 ne174 ne167 g173 g175 Hl208 qs.1 (by omega)) rfl (by decide) (W := 0) rfl (by decide) (c' := 3) (s' := 1049) rfl rfl (by decide) (by decide) at_238 (n := 241) rfl pd10 rfl rfl ?_
          rintro _ h217 ⟨rr, rfl, Fr0, rfl⟩
          have Hr := Fr0 _ H213
          refine G.iload C at_241 rfl (n := 243) rfl ?_
          refine G.icmp_ne C (A := rr.toInt) (B := 0) rfl (by decide) at_243 (by decide) (by decide) (n := 246) (n' := 250) rfl (fun c243_218 c243_218i => ?_) (fun c243_218 c243_218i => ?_)
          · rcases Hr with ⟨r1, r2⟩ | ⟨r1, r2⟩ <;> first | exact absurd r1 c243_218 | (exfalso; omega)
          refine G.iconst C (v := (1 : Int32)) at_246 (by decide) (n := 247) rfl ?_
          refine G.goto C at_247 (by decide) (n := 251) (by decide) ?_
          refine G.ireturn C at_251 (rfl) (by simp) (by decide) (by decide) ?_
          exact rfl
        · refine G.aload C at_124 rfl rfl (n := 126) rfl ?_
          refine G.iload C at_126 rfl (n := 128) rfl ?_
          refine G.iload C at_128 rfl (n := 130) rfl ?_
          refine G.iadd C at_130 (n := 131) rfl ?_
          refine G.ldc2D C (v := (4611686018427387904 : UInt64)) (wd hw 52 rfl) at_131 (n := 134) rfl ?_
          refine G.callV C (argsL := [(.int (v144 + v147)), (.double (4611686018427387904 : UInt64))]) (yr := (⟨"com/example/near_miss/nearmiss/search/Window", "add", "(ID)V"⟩ : MethodName)) (yc := (⟨"com/example/near_miss/nearmiss/search/Window", "add", "(ID)V"⟩ : MethodName)) (a := b150) (O197.1) (wd hw 31 rfl) (wd hw 32 rfl) (nfS (wd hw 34 rfl) rfl) (wd hw 34 rfl) (wd hw 33 rfl) (wd hw 3 rfl) (wd hw 35 rfl) (by decide) (m_add l Z a0 hw b150 M Sc (0 : Int32) .null (((((v144 + v145) - v144) + (64 : Int32)) - (1 : Int32)) / (64 : Int32)) v144 (v144 + v145) us192 (v144 + v147) v147 (4611686018427387904 : UInt64) h196 n0 Z198 O197 O190 O191 ne172 ne174 ne167 g173 g175 Hl193 (asub _ _) qb2.1 (by omega) (by rw [qe]; exact qb2.2)) rfl (by decide) (W := 0) rfl (by decide) (c' := 3) (s' := 1049) rfl rfl (by decide) (by decide) at_134 (n := 137) rfl pd6 rfl rfl ?_
          rintro _ h226 ⟨rfl, K219, us222, O220, Hl223, F224, O221⟩
          have O227 := O197.keep K219 (ninS ne172 (ninS ne174 nin0))
          have Z228 : n0 ≤ h226.size := Nat.le_trans Z198 K219.1
          have H229 := F224 _ H199
          refine G.iload C at_137 rfl (n := 139) rfl ?_
          refine G.if_eq C (A := 1) (by decide) at_139 (by decide) (by decide) (n := 142) (n' := 154) rfl (fun c139_230 c139_230i => ?_) (fun c139_230 c139_230i => ?_)
          · exact absurd c139_230 (by decide)
          refine G.aload C at_142 rfl rfl (n := 144) rfl ?_
          refine G.iload C at_144 rfl (n := 146) rfl ?_
          refine G.iload C at_146 rfl (n := 148) rfl ?_
          refine G.iload C at_148 rfl (n := 150) rfl ?_
          refine G.iadd C at_150 (n := 151) rfl ?_
          refine G.callV C (argsL := [(.int v144), (.int (v144 + v145))]) (yr := (⟨"com/example/near_miss/nearmiss/search/Window", "reset", "(II)V"⟩ : MethodName)) (yc := (⟨"com/example/near_miss/nearmiss/search/Window", "reset", "(II)V"⟩ : MethodName)) (a := b150) (O227.1) (wd hw 20 rfl) (wd hw 21 rfl) (nfS (wd hw 23 rfl) rfl) (wd hw 23 rfl) (wd hw 22 rfl) (wd hw 3 rfl) (wd hw 24 rfl) (by decide) (m_reset0 l Z a0 hw b150 M Sc (((((v144 + v145) - v144) + (64 : Int32)) - (1 : Int32)) / (64 : Int32)) v144 (v144 + v145) us222  v144 (v144 + v145) h226 n0 Z228 O227 O220 O221 ne172 ne174 ne167 g173 g175 Hl223 g155 (by rw [qwd2]; omega) (by rw [qwd2]; omega) (by rw [qe]; omega) (by rw [qe]; omega) (by rw [qr.2.2]; omega) (by rw [qe]; exact ql.2)) rfl (by decide) (W := 0) rfl (by decide) (c' := 3) (s' := 1049) rfl rfl (by decide) (by decide) at_151 (n := 154) rfl pd9 rfl rfl ?_
          rintro _ h240 ⟨rfl, K231, O232, us236, O233, Hl237, F238, O234⟩
          have Z241 : n0 ≤ h240.size := Nat.le_trans Z228 K231.1
          have H242 := F238 _ H229 (fun s h => by rw [qwd]; omega)
          refine G.iload C at_154 rfl (n := 156) rfl ?_
          refine G.if_eq C (A := 0) (by decide) at_156 (by decide) (by decide) (n := 159) (n' := 166) rfl (fun c156_243 c156_243i => ?_) (fun c156_243 c156_243i => ?_)
          rotate_left
          · exact absurd c156_243 (by decide)
          refine G.iload C at_166 rfl (n := 168) rfl ?_
          refine G.if_eq C (A := 1) (by decide) at_168 (by decide) (by decide) (n := 171) (n' := 177) rfl (fun c168_244 c168_244i => ?_) (fun c168_244 c168_244i => ?_)
          · exact absurd c168_244 (by decide)
          refine G.iconst C (v := (0 : Int32)) at_171 (by decide) (n := 172) rfl ?_
          refine G.istore C at_172 (l' := #[.val (.int i0), .val (.int i1), .val (.int i2), .val (.int i3), .val (.int i4), .val (.int i5), .val (.int (0 : Int32)), .val (.int (0 : Int32)), .val (.int (1 : Int32)), .val (.int v144), .val (.int v145), .val (.int v146), .val (.int v147), .val (.int v148), .val (.ref b150), .val (.int (0 : Int32)), .unset, .unset]) rfl (n := 174) rfl ?_
          refine G.goto C at_174 (by decide) (n := 234) (by decide) ?_
          refine G.aload C at_234 rfl rfl (n := 236) rfl ?_
          refine G.iload C at_236 rfl (n := 238) rfl ?_
          refine G.callV C (argsL := [(.int v148)]) (yr := (⟨"com/example/near_miss/nearmiss/search/Window", "holds", "(I)Z"⟩ : MethodName)) (yc := (⟨"com/example/near_miss/nearmiss/search/Window", "holds", "(I)Z"⟩ : MethodName)) (a := b150) (O232.1) (wd hw 53 rfl) (wd hw 54 rfl) (nfS (wd hw 56 rfl) rfl) (wd hw 56 rfl) (wd hw 55 rfl) (wd hw 3 rfl) (wd hw 57 rfl) (by decide) (m_holds l Z a0 hw b150 M Sc (0 : Int32) .null (((((v144 + v145) - v144) + (64 : Int32)) - (1 : Int32)) / (64 : Int32)) v144 (v144 + v145) us236 v148 h240 n0 Z241 O232 O233 O234 ne172 ne174 ne167 g173 g175 Hl237 qs.1 (by omega)) rfl (by decide) (W := 0) rfl (by decide) (c' := 3) (s' := 1049) rfl rfl (by decide) (by decide) at_238 (n := 241) rfl pd10 rfl rfl ?_
          rintro _ h246 ⟨rr, rfl, Fr0, rfl⟩
          have Hr := Fr0 _ H242
          refine G.iload C at_241 rfl (n := 243) rfl ?_
          refine G.icmp_ne C (A := rr.toInt) (B := 0) rfl (by decide) at_243 (by decide) (by decide) (n := 246) (n' := 250) rfl (fun c243_247 c243_247i => ?_) (fun c243_247 c243_247i => ?_)
          · rcases Hr with ⟨r1, r2⟩ | ⟨r1, r2⟩ <;> first | exact absurd r1 c243_247 | (exfalso; omega)
          refine G.iconst C (v := (1 : Int32)) at_246 (by decide) (n := 247) rfl ?_
          refine G.goto C at_247 (by decide) (n := 251) (by decide) ?_
          refine G.ireturn C at_251 (rfl) (by simp) (by decide) (by decide) ?_
          exact rfl
    · refine G.iconst C (v := (1 : Int32)) at_19 (by decide) (n := 20) rfl ?_
      refine G.goto C at_20 (by decide) (n := 24) (by decide) ?_
      refine G.istore C at_24 (l' := #[.val (.int i0), .val (.int i1), .val (.int i2), .val (.int i3), .val (.int i4), .val (.int i5), .val (.int (0 : Int32)), .val (.int (1 : Int32)), .unset, .unset, .unset, .unset, .unset, .unset, .unset, .unset, .unset, .unset]) rfl (n := 26) rfl ?_
      refine G.iloadN C at_26 rfl (n := 27) rfl ?_
      refine G.iconst C (v := (4 : Int32)) at_27 (by decide) (n := 28) rfl ?_
      refine G.iand C at_28 (n := 29) rfl ?_
      refine G.if_eq C (A := (i0 &&& (4 : Int32)).toInt) rfl at_29 (by decide) (by decide) (n := 32) (n' := 36) rfl (fun c29_248 c29_248i => ?_) (fun c29_248 c29_248i => ?_)
      · refine G.iconst C (v := (0 : Int32)) at_36 (by decide) (n := 37) rfl ?_
        refine G.istore C at_37 (l' := #[.val (.int i0), .val (.int i1), .val (.int i2), .val (.int i3), .val (.int i4), .val (.int i5), .val (.int (0 : Int32)), .val (.int (1 : Int32)), .val (.int (0 : Int32)), .unset, .unset, .unset, .unset, .unset, .unset, .unset, .unset, .unset]) rfl (n := 39) rfl ?_
        refine G.iload C at_39 rfl (n := 41) rfl ?_
        refine G.iconst C (v := (2 : Int32)) at_41 (by decide) (n := 42) rfl ?_
        refine G.ishr C at_42 (n := 43) rfl ?_
        refine G.istoreZ C at_43 (l' := fun z => #[.val (.int i0), .val (.int i1), .val (.int i2), .val (.int i3), .val (.int i4), .val (.int i5), .val (.int (0 : Int32)), .val (.int (1 : Int32)), .val (.int (0 : Int32)), .val (.int z), .unset, .unset, .unset, .unset, .unset, .unset, .unset, .unset]) (fun _ => rfl) (n := 45) rfl ?_
        intro v249 hv249
        have qb : v249.toInt < 1000000000 := by rw [hv249, c_ishr i5 2 2 (by decide)]; have := rng32 i5; show _ / 4 < _; omega
        refine G.iloadN C at_45 rfl (n := 46) rfl ?_
        refine G.ldc C (v := (2147483647 : Int32)) (wd hw 0 rfl) at_46 (n := 48) rfl ?_
        refine G.iand C at_48 (n := 49) rfl ?_
        refine G.sipush C (v := (1024 : Int32)) at_49 (by decide) (n := 52) rfl ?_
        refine G.irem C at_52 (by decide) (n := 53) rfl ?_
        refine G.iconst C (v := (1 : Int32)) at_53 (by decide) (n := 54) rfl ?_
        refine G.iadd C at_54 (n := 55) rfl ?_
        refine G.istoreZ C at_55 (l' := fun z => #[.val (.int i0), .val (.int i1), .val (.int i2), .val (.int i3), .val (.int i4), .val (.int i5), .val (.int (0 : Int32)), .val (.int (1 : Int32)), .val (.int (0 : Int32)), .val (.int v249), .val (.int z), .unset, .unset, .unset, .unset, .unset, .unset, .unset]) (fun _ => rfl) (n := 57) rfl ?_
        intro v250 hv250
        have ql : 1 ≤ v250.toInt ∧ v250.toInt ≤ 1024 := by have r := rem_v (x := i1) (d := 1024) (by decide); rw [show (1024 : Int32).toInt = 1024 from rfl] at r; rw [hv250, Int32.add_comm, addk (K := 1) (by decide) (by omega) (by omega)]; omega
        have qr := rsub (x := v249) (l := v250) (by omega) ql.2 qb
        have qe := qr.2.1
        have qwd2 : (((((v249 + v250) - v249) + (64 : Int32)) - (1 : Int32)) / (64 : Int32)).toInt = (v250.toInt + 63) / 64 := by rw [asub]; exact words_at ql.1 ql.2
        have qwd : (((((v249 + v250) - v249) + (64 : Int32)) - (1 : Int32)) / (64 : Int32)).toInt.toNat = (v250.toInt.toNat + 63) / 64 := by rw [qwd2]; omega
        refine G.iloadN C at_57 rfl (n := 58) rfl ?_
        refine G.ldc C (v := (2147483647 : Int32)) (wd hw 0 rfl) at_58 (n := 60) rfl ?_
        refine G.iand C at_60 (n := 61) rfl ?_
        refine G.iload C at_61 rfl (n := 63) rfl ?_
        refine G.irem C at_63 (nz_pos (by omega)) (n := 64) rfl ?_
        refine G.istoreZ C at_64 (l' := fun z => #[.val (.int i0), .val (.int i1), .val (.int i2), .val (.int i3), .val (.int i4), .val (.int i5), .val (.int (0 : Int32)), .val (.int (1 : Int32)), .val (.int (0 : Int32)), .val (.int v249), .val (.int v250), .val (.int z), .unset, .unset, .unset, .unset, .unset, .unset]) (fun _ => rfl) (n := 66) rfl ?_
        intro v251 hv251
        have qa : 0 ≤ v251.toInt ∧ v251.toInt < v250.toInt := by rw [hv251]; exact rem_v (by omega)
        refine G.iloadN C at_66 rfl (n := 67) rfl ?_
        refine G.ldc C (v := (2147483647 : Int32)) (wd hw 0 rfl) at_67 (n := 69) rfl ?_
        refine G.iand C at_69 (n := 70) rfl ?_
        refine G.iload C at_70 rfl (n := 72) rfl ?_
        refine G.irem C at_72 (nz_pos (by omega)) (n := 73) rfl ?_
        refine G.istoreZ C at_73 (l' := fun z => #[.val (.int i0), .val (.int i1), .val (.int i2), .val (.int i3), .val (.int i4), .val (.int i5), .val (.int (0 : Int32)), .val (.int (1 : Int32)), .val (.int (0 : Int32)), .val (.int v249), .val (.int v250), .val (.int v251), .val (.int z), .unset, .unset, .unset, .unset, .unset]) (fun _ => rfl) (n := 75) rfl ?_
        intro v252 hv252
        have qb2 : 0 ≤ v252.toInt ∧ v252.toInt < v250.toInt := by rw [hv252]; exact rem_v (by omega)
        refine G.iload C at_75 rfl (n := 77) rfl ?_
        refine G.sipush C (v := (1023 : Int32)) at_77 (by decide) (n := 80) rfl ?_
        refine G.iand C at_80 (n := 81) rfl ?_
        refine G.istoreZ C at_81 (l' := fun z => #[.val (.int i0), .val (.int i1), .val (.int i2), .val (.int i3), .val (.int i4), .val (.int i5), .val (.int (0 : Int32)), .val (.int (1 : Int32)), .val (.int (0 : Int32)), .val (.int v249), .val (.int v250), .val (.int v251), .val (.int v252), .val (.int z), .unset, .unset, .unset, .unset]) (fun _ => rfl) (n := 83) rfl ?_
        intro v253 hv253
        have qs : 0 ≤ v253.toInt ∧ v253.toInt ≤ 1023 := by rw [hv253]; exact c_and i4 1023 (by decide)
        refine G.new C (wd hw 1 rfl) (wd hw 2 rfl) (wd hw 3 rfl) at_83 (n := 86) rfl (c' := 1) (s' := 9) rfl rfl (by decide) (by decide) ?_
        intro h254 b255 q256 E257 A258 D259
        have g260 : n0 ≤ b255 := Nat.le_trans Z0 (Nat.le_of_eq q256.symm)
        have O261 := Ob_Wn.new hw A258 D259
        have K262 := kext E257
        have Z263 : n0 ≤ h254.size := Nat.le_trans Z0 K262.1
        refine G.dup C at_86 rfl (n := 87) rfl ?_
        refine G.iload C at_87 rfl (n := 89) rfl ?_
        refine G.callC C (argsL := [(.int (0 : Int32))]) (yc := (⟨"com/example/near_miss/nearmiss/search/Window", "<init>", "(Z)V"⟩ : MethodName)) (a := b255) rfl (wd hw 4 rfl) (wd hw 5 rfl) (wd hw 3 rfl) (wd hw 6 rfl) (by decide) (m_init0 l Z a0 hw b255 h254 n0 Z263 O261 g260) rfl (by decide) (W := 1) rfl (by decide) (c' := 3) (s' := 1049) rfl rfl (by decide) (by decide) at_89 (n := 92) rfl pd8 rfl rfl ?_
        rintro _ h276 ⟨rfl, K264, M, Sc, O265, O266, O267, f269, f270, ne272⟩
        have ne277 : b255 ≠ M := Nat.ne_of_lt (Nat.lt_of_lt_of_le O261.lt f269)
        have g278 : n0 ≤ M := Nat.le_trans Z263 f269
        have ne279 : b255 ≠ Sc := Nat.ne_of_lt (Nat.lt_of_lt_of_le O261.lt f270)
        have g280 : n0 ≤ Sc := Nat.le_trans Z263 f270
        have Z281 : n0 ≤ h276.size := Nat.le_trans Z263 K264.1
        refine G.astore C at_92 rfl (l' := #[.val (.int i0), .val (.int i1), .val (.int i2), .val (.int i3), .val (.int i4), .val (.int i5), .val (.int (0 : Int32)), .val (.int (1 : Int32)), .val (.int (0 : Int32)), .val (.int v249), .val (.int v250), .val (.int v251), .val (.int v252), .val (.int v253), .val (.ref b255), .unset, .unset, .unset]) rfl (n := 94) rfl ?_
        refine G.aload C at_94 rfl rfl (n := 96) rfl ?_
        refine G.iload C at_96 rfl (n := 98) rfl ?_
        refine G.iload C at_98 rfl (n := 100) rfl ?_
        refine G.iload C at_100 rfl (n := 102) rfl ?_
        refine G.iadd C at_102 (n := 103) rfl ?_
        refine G.callV C (argsL := [(.int v249), (.int (v249 + v250))]) (yr := (⟨"com/example/near_miss/nearmiss/search/Window", "reset", "(II)V"⟩ : MethodName)) (yc := (⟨"com/example/near_miss/nearmiss/search/Window", "reset", "(II)V"⟩ : MethodName)) (a := b255) (O265.1) (wd hw 20 rfl) (wd hw 21 rfl) (nfS (wd hw 23 rfl) rfl) (wd hw 23 rfl) (wd hw 22 rfl) (wd hw 3 rfl) (wd hw 24 rfl) (by decide) (m_reset0 l Z a0 hw b255 M Sc (0 : Int32) (0 : Int32) (0 : Int32) [0, 0, 0, 0, 0, 0, 0, 0, 0, 0, 0, 0, 0, 0, 0, 0]  v249 (v249 + v250) h276 n0 Z281 O265 O266 O267 ne277 ne279 ne272 g278 g280 rfl g260 (by decide) (by decide) (by decide) (by decide) (by rw [qr.2.2]; omega) (by rw [qe]; exact ql.2)) rfl (by decide) (W := 0) rfl (by decide) (c' := 3) (s' := 1049) rfl rfl (by decide) (by decide) at_103 (n := 106) rfl pd9 rfl rfl ?_
        rintro _ h291 ⟨rfl, K282, O283, us287, O284, Hl288, F289, O285⟩
        have Z292 : n0 ≤ h291.size := Nat.le_trans Z281 K282.1
        have H293 := F289 _ has0 (fun s h => absurd h (Nat.not_lt_zero _))
        refine G.aload C at_106 rfl rfl (n := 108) rfl ?_
        refine G.iload C at_108 rfl (n := 110) rfl ?_
        refine G.iload C at_110 rfl (n := 112) rfl ?_
        refine G.iadd C at_112 (n := 113) rfl ?_
        refine G.dconst1 C at_113 (n := 114) rfl ?_
        refine G.callV C (argsL := [(.int (v249 + v251)), (.double FP.dconst1)]) (yr := (⟨"com/example/near_miss/nearmiss/search/Window", "add", "(ID)V"⟩ : MethodName)) (yc := (⟨"com/example/near_miss/nearmiss/search/Window", "add", "(ID)V"⟩ : MethodName)) (a := b255) (O283.1) (wd hw 31 rfl) (wd hw 32 rfl) (nfS (wd hw 34 rfl) rfl) (wd hw 34 rfl) (wd hw 33 rfl) (wd hw 3 rfl) (wd hw 35 rfl) (by decide) (m_add l Z a0 hw b255 M Sc (0 : Int32) .null (((((v249 + v250) - v249) + (64 : Int32)) - (1 : Int32)) / (64 : Int32)) v249 (v249 + v250) us287 (v249 + v251) v251 FP.dconst1 h291 n0 Z292 O283 O284 O285 ne277 ne279 ne272 g278 g280 Hl288 (asub _ _) qa.1 (by omega) (by rw [qe]; exact qa.2)) rfl (by decide) (W := 0) rfl (by decide) (c' := 3) (s' := 1049) rfl rfl (by decide) (by decide) at_114 (n := 117) rfl pd6 rfl rfl ?_
        rintro _ h301 ⟨rfl, K294, us297, O295, Hl298, F299, O296⟩
        have O302 := O283.keep K294 (ninS ne277 (ninS ne279 nin0))
        have Z303 : n0 ≤ h301.size := Nat.le_trans Z292 K294.1
        have H304 := F299 _ H293
        refine G.iload C at_117 rfl (n := 119) rfl ?_
        refine G.iload C at_119 rfl (n := 121) rfl ?_
        refine G.icmp_eq C (A := v252.toInt) (B := v251.toInt) rfl rfl at_121 (by decide) (by decide) (n := 124) (n' := 137) rfl (fun c121_305 c121_305i => ?_) (fun c121_305 c121_305i => ?_)
        · refine G.iload C at_137 rfl (n := 139) rfl ?_
          refine G.if_eq C (A := 0) (by decide) at_139 (by decide) (by decide) (n := 142) (n' := 154) rfl (fun c139_306 c139_306i => ?_) (fun c139_306 c139_306i => ?_)
          rotate_left
          · exact absurd c139_306 (by decide)
          refine G.iload C at_154 rfl (n := 156) rfl ?_
          refine G.if_eq C (A := 1) (by decide) at_156 (by decide) (by decide) (n := 159) (n' := 166) rfl (fun c156_307 c156_307i => ?_) (fun c156_307 c156_307i => ?_)
          · exact absurd c156_307 (by decide)
          refine G.aload C at_159 rfl rfl (n := 161) rfl ?_
          refine G.iload C at_161 rfl (n := 163) rfl ?_
          refine G.callV C (argsL := [(.int v251)]) (yr := (⟨"com/example/near_miss/nearmiss/search/Window", "remove", "(I)V"⟩ : MethodName)) (yc := (⟨"com/example/near_miss/nearmiss/search/Window", "remove", "(I)V"⟩ : MethodName)) (a := b255) (O302.1) (wd hw 83 rfl) (wd hw 84 rfl) (nfS (wd hw 86 rfl) rfl) (wd hw 86 rfl) (wd hw 85 rfl) (wd hw 3 rfl) (wd hw 87 rfl) (by decide) (m_remove l Z a0 hw b255 M Sc (0 : Int32) .null (((((v249 + v250) - v249) + (64 : Int32)) - (1 : Int32)) / (64 : Int32)) v249 (v249 + v250) us297 v251 h301 n0 Z303 O302 O295 O296 ne277 ne279 ne272 g278 g280 Hl298 qa.1 (by omega)) rfl (by decide) (W := 0) rfl (by decide) (c' := 3) (s' := 1049) rfl rfl (by decide) (by decide) at_163 (n := 166) rfl pd11 rfl rfl ?_
          rintro _ h315 ⟨rfl, K308, us311, O309, Hl312, F313, O310⟩
          have O316 := O302.keep K308 (ninS ne277 (ninS ne279 nin0))
          have Z317 : n0 ≤ h315.size := Nat.le_trans Z303 K308.1
          have H318 := F313 _ H304
          refine G.iload C at_166 rfl (n := 168) rfl ?_
          refine G.if_eq C (A := 0) (by decide) at_168 (by decide) (by decide) (n := 171) (n' := 177) rfl (fun c168_319 c168_319i => ?_) (fun c168_319 c168_319i => ?_)
          rotate_left
          · exact absurd c168_319 (by decide)
          refine G.iload C at_177 rfl (n := 179) rfl ?_
          refine G.iload C at_179 rfl (n := 181) rfl ?_
          refine G.icmp_ne C (A := v253.toInt) (B := v251.toInt) rfl rfl at_181 (by decide) (by decide) (n := 184) (n' := 193) rfl (fun c181_320 c181_320i => ?_) (fun c181_320 c181_320i => ?_)
          · refine G.iconst C (v := (0 : Int32)) at_193 (by decide) (n := 194) rfl ?_
            refine G.istore C at_194 (l' := #[.val (.int i0), .val (.int i1), .val (.int i2), .val (.int i3), .val (.int i4), .val (.int i5), .val (.int (0 : Int32)), .val (.int (1 : Int32)), .val (.int (0 : Int32)), .val (.int v249), .val (.int v250), .val (.int v251), .val (.int v252), .val (.int v253), .val (.ref b255), .unset, .val (.int (0 : Int32)), .unset]) rfl (n := 196) rfl ?_
            refine G.iload C at_196 rfl (n := 198) rfl ?_
            refine G.iload C at_198 rfl (n := 200) rfl ?_
            refine G.icmp_eq C (A := v252.toInt) (B := v251.toInt) rfl rfl at_200 (by decide) (by decide) (n := 203) (n' := 214) rfl (fun c200_321 c200_321i => ?_) (fun c200_321 c200_321i => ?_)
            · refine G.iconst C (v := (0 : Int32)) at_214 (by decide) (n := 215) rfl ?_
              refine G.istore C at_215 (l' := #[.val (.int i0), .val (.int i1), .val (.int i2), .val (.int i3), .val (.int i4), .val (.int i5), .val (.int (0 : Int32)), .val (.int (1 : Int32)), .val (.int (0 : Int32)), .val (.int v249), .val (.int v250), .val (.int v251), .val (.int v252), .val (.int v253), .val (.ref b255), .unset, .val (.int (0 : Int32)), .val (.int (0 : Int32))]) rfl (n := 217) rfl ?_
              refine G.iload C at_217 rfl (n := 219) rfl ?_
              refine G.if_ne C (A := 0) (by decide) at_219 (by decide) (by decide) (n := 222) (n' := 227) rfl (fun c219_322 c219_322i => ?_) (fun c219_322 c219_322i => ?_)
              · exact absurd c219_322 (by decide)
              refine G.iload C at_222 rfl (n := 224) rfl ?_
              refine G.if_eq C (A := 0) (by decide) at_224 (by decide) (by decide) (n := 227) (n' := 231) rfl (fun c224_323 c224_323i => ?_) (fun c224_323 c224_323i => ?_)
              rotate_left
              · exact absurd c224_323 (by decide)
              refine G.iconst C (v := (0 : Int32)) at_231 (by decide) (n := 232) rfl ?_
              refine G.istore C at_232 (l' := #[.val (.int i0), .val (.int i1), .val (.int i2), .val (.int i3), .val (.int i4), .val (.int i5), .val (.int (0 : Int32)), .val (.int (1 : Int32)), .val (.int (0 : Int32)), .val (.int v249), .val (.int v250), .val (.int v251), .val (.int v252), .val (.int v253), .val (.ref b255), .val (.int (0 : Int32)), .val (.int (0 : Int32)), .val (.int (0 : Int32))]) rfl (n := 234) rfl ?_
              refine G.aload C at_234 rfl rfl (n := 236) rfl ?_
              refine G.iload C at_236 rfl (n := 238) rfl ?_
              refine G.callV C (argsL := [(.int v253)]) (yr := (⟨"com/example/near_miss/nearmiss/search/Window", "holds", "(I)Z"⟩ : MethodName)) (yc := (⟨"com/example/near_miss/nearmiss/search/Window", "holds", "(I)Z"⟩ : MethodName)) (a := b255) (O316.1) (wd hw 53 rfl) (wd hw 54 rfl) (nfS (wd hw 56 rfl) rfl) (wd hw 56 rfl) (wd hw 55 rfl) (wd hw 3 rfl) (wd hw 57 rfl) (by decide) (m_holds l Z a0 hw b255 M Sc (0 : Int32) .null (((((v249 + v250) - v249) + (64 : Int32)) - (1 : Int32)) / (64 : Int32)) v249 (v249 + v250) us311 v253 h315 n0 Z317 O316 O309 O310 ne277 ne279 ne272 g278 g280 Hl312 qs.1 (by omega)) rfl (by decide) (W := 0) rfl (by decide) (c' := 3) (s' := 1049) rfl rfl (by decide) (by decide) at_238 (n := 241) rfl pd10 rfl rfl ?_
              rintro _ h325 ⟨rr, rfl, Fr0, rfl⟩
              have Hr := Fr0 _ H318
              refine G.iload C at_241 rfl (n := 243) rfl ?_
              refine G.icmp_ne C (A := rr.toInt) (B := 0) rfl (by decide) at_243 (by decide) (by decide) (n := 246) (n' := 250) rfl (fun c243_326 c243_326i => ?_) (fun c243_326 c243_326i => ?_)
              · rcases Hr with ⟨r1, r2⟩ | ⟨r1, r2⟩ <;> first | exact absurd r1 c243_326 | (exfalso; omega)
              refine G.iconst C (v := (1 : Int32)) at_246 (by decide) (n := 247) rfl ?_
              refine G.goto C at_247 (by decide) (n := 251) (by decide) ?_
              refine G.ireturn C at_251 (rfl) (by simp) (by decide) (by decide) ?_
              exact rfl
            · refine G.iload C at_203 rfl (n := 205) rfl ?_
              refine G.iload C at_205 rfl (n := 207) rfl ?_
              refine G.icmp_ne C (A := v253.toInt) (B := v252.toInt) rfl rfl at_207 (by decide) (by decide) (n := 210) (n' := 214) rfl (fun c207_327 c207_327i => ?_) (fun c207_327 c207_327i => ?_)
              · refine G.iconst C (v := (0 : Int32)) at_214 (by decide) (n := 215) rfl ?_
                refine G.istore C at_215 (l' := #[.val (.int i0), .val (.int i1), .val (.int i2), .val (.int i3), .val (.int i4), .val (.int i5), .val (.int (0 : Int32)), .val (.int (1 : Int32)), .val (.int (0 : Int32)), .val (.int v249), .val (.int v250), .val (.int v251), .val (.int v252), .val (.int v253), .val (.ref b255), .unset, .val (.int (0 : Int32)), .val (.int (0 : Int32))]) rfl (n := 217) rfl ?_
                refine G.iload C at_217 rfl (n := 219) rfl ?_
                refine G.if_ne C (A := 0) (by decide) at_219 (by decide) (by decide) (n := 222) (n' := 227) rfl (fun c219_328 c219_328i => ?_) (fun c219_328 c219_328i => ?_)
                · exact absurd c219_328 (by decide)
                refine G.iload C at_222 rfl (n := 224) rfl ?_
                refine G.if_eq C (A := 0) (by decide) at_224 (by decide) (by decide) (n := 227) (n' := 231) rfl (fun c224_329 c224_329i => ?_) (fun c224_329 c224_329i => ?_)
                rotate_left
                · exact absurd c224_329 (by decide)
                refine G.iconst C (v := (0 : Int32)) at_231 (by decide) (n := 232) rfl ?_
                refine G.istore C at_232 (l' := #[.val (.int i0), .val (.int i1), .val (.int i2), .val (.int i3), .val (.int i4), .val (.int i5), .val (.int (0 : Int32)), .val (.int (1 : Int32)), .val (.int (0 : Int32)), .val (.int v249), .val (.int v250), .val (.int v251), .val (.int v252), .val (.int v253), .val (.ref b255), .val (.int (0 : Int32)), .val (.int (0 : Int32)), .val (.int (0 : Int32))]) rfl (n := 234) rfl ?_
                refine G.aload C at_234 rfl rfl (n := 236) rfl ?_
                refine G.iload C at_236 rfl (n := 238) rfl ?_
                refine G.callV C (argsL := [(.int v253)]) (yr := (⟨"com/example/near_miss/nearmiss/search/Window", "holds", "(I)Z"⟩ : MethodName)) (yc := (⟨"com/example/near_miss/nearmiss/search/Window", "holds", "(I)Z"⟩ : MethodName)) (a := b255) (O316.1) (wd hw 53 rfl) (wd hw 54 rfl) (nfS (wd hw 56 rfl) rfl) (wd hw 56 rfl) (wd hw 55 rfl) (wd hw 3 rfl) (wd hw 57 rfl) (by decide) (m_holds l Z a0 hw b255 M Sc (0 : Int32) .null (((((v249 + v250) - v249) + (64 : Int32)) - (1 : Int32)) / (64 : Int32)) v249 (v249 + v250) us311 v253 h315 n0 Z317 O316 O309 O310 ne277 ne279 ne272 g278 g280 Hl312 qs.1 (by omega)) rfl (by decide) (W := 0) rfl (by decide) (c' := 3) (s' := 1049) rfl rfl (by decide) (by decide) at_238 (n := 241) rfl pd10 rfl rfl ?_
                rintro _ h331 ⟨rr, rfl, Fr0, rfl⟩
                have Hr := Fr0 _ H318
                refine G.iload C at_241 rfl (n := 243) rfl ?_
                refine G.icmp_ne C (A := rr.toInt) (B := 0) rfl (by decide) at_243 (by decide) (by decide) (n := 246) (n' := 250) rfl (fun c243_332 c243_332i => ?_) (fun c243_332 c243_332i => ?_)
                · rcases Hr with ⟨r1, r2⟩ | ⟨r1, r2⟩ <;> first | exact absurd r1 c243_332 | (exfalso; omega)
                refine G.iconst C (v := (1 : Int32)) at_246 (by decide) (n := 247) rfl ?_
                refine G.goto C at_247 (by decide) (n := 251) (by decide) ?_
                refine G.ireturn C at_251 (rfl) (by simp) (by decide) (by decide) ?_
                exact rfl
              · refine G.iconst C (v := (1 : Int32)) at_210 (by decide) (n := 211) rfl ?_
                refine G.goto C at_211 (by decide) (n := 215) (by decide) ?_
                refine G.istore C at_215 (l' := #[.val (.int i0), .val (.int i1), .val (.int i2), .val (.int i3), .val (.int i4), .val (.int i5), .val (.int (0 : Int32)), .val (.int (1 : Int32)), .val (.int (0 : Int32)), .val (.int v249), .val (.int v250), .val (.int v251), .val (.int v252), .val (.int v253), .val (.ref b255), .unset, .val (.int (0 : Int32)), .val (.int (1 : Int32))]) rfl (n := 217) rfl ?_
                refine G.iload C at_217 rfl (n := 219) rfl ?_
                refine G.if_ne C (A := 0) (by decide) at_219 (by decide) (by decide) (n := 222) (n' := 227) rfl (fun c219_333 c219_333i => ?_) (fun c219_333 c219_333i => ?_)
                · exact absurd c219_333 (by decide)
                refine G.iload C at_222 rfl (n := 224) rfl ?_
                refine G.if_eq C (A := 1) (by decide) at_224 (by decide) (by decide) (n := 227) (n' := 231) rfl (fun c224_334 c224_334i => ?_) (fun c224_334 c224_334i => ?_)
                · exact absurd c224_334 (by decide)
                refine G.iconst C (v := (1 : Int32)) at_227 (by decide) (n := 228) rfl ?_
                refine G.goto C at_228 (by decide) (n := 232) (by decide) ?_
                refine G.istore C at_232 (l' := #[.val (.int i0), .val (.int i1), .val (.int i2), .val (.int i3), .val (.int i4), .val (.int i5), .val (.int (0 : Int32)), .val (.int (1 : Int32)), .val (.int (0 : Int32)), .val (.int v249), .val (.int v250), .val (.int v251), .val (.int v252), .val (.int v253), .val (.ref b255), .val (.int (1 : Int32)), .val (.int (0 : Int32)), .val (.int (1 : Int32))]) rfl (n := 234) rfl ?_
                refine G.aload C at_234 rfl rfl (n := 236) rfl ?_
                refine G.iload C at_236 rfl (n := 238) rfl ?_
                refine G.callV C (argsL := [(.int v253)]) (yr := (⟨"com/example/near_miss/nearmiss/search/Window", "holds", "(I)Z"⟩ : MethodName)) (yc := (⟨"com/example/near_miss/nearmiss/search/Window", "holds", "(I)Z"⟩ : MethodName)) (a := b255) (O316.1) (wd hw 53 rfl) (wd hw 54 rfl) (nfS (wd hw 56 rfl) rfl) (wd hw 56 rfl) (wd hw 55 rfl) (wd hw 3 rfl) (wd hw 57 rfl) (by decide) (m_holds l Z a0 hw b255 M Sc (0 : Int32) .null (((((v249 + v250) - v249) + (64 : Int32)) - (1 : Int32)) / (64 : Int32)) v249 (v249 + v250) us311 v253 h315 n0 Z317 O316 O309 O310 ne277 ne279 ne272 g278 g280 Hl312 qs.1 (by omega)) rfl (by decide) (W := 0) rfl (by decide) (c' := 3) (s' := 1049) rfl rfl (by decide) (by decide) at_238 (n := 241) rfl pd10 rfl rfl ?_
                rintro _ h336 ⟨rr, rfl, Fr0, rfl⟩
                have Hr := Fr0 _ H318
                refine G.iload C at_241 rfl (n := 243) rfl ?_
                refine G.icmp_ne C (A := rr.toInt) (B := 1) rfl (by decide) at_243 (by decide) (by decide) (n := 246) (n' := 250) rfl (fun c243_337 c243_337i => ?_) (fun c243_337 c243_337i => ?_)
                · rcases Hr with ⟨r1, r2⟩ | ⟨r1, r2⟩ <;> first | exact absurd r1 c243_337 | (exfalso; omega)
                refine G.iconst C (v := (1 : Int32)) at_246 (by decide) (n := 247) rfl ?_
                refine G.goto C at_247 (by decide) (n := 251) (by decide) ?_
                refine G.ireturn C at_251 (rfl) (by simp) (by decide) (by decide) ?_
                exact rfl
          · refine G.iload C at_184 rfl (n := 186) rfl ?_
            refine G.if_ne C (A := 1) (by decide) at_186 (by decide) (by decide) (n := 189) (n' := 193) rfl (fun c186_338 c186_338i => ?_) (fun c186_338 c186_338i => ?_)
            rotate_left
            · exact absurd c186_338 (by decide)
            refine G.iconst C (v := (0 : Int32)) at_193 (by decide) (n := 194) rfl ?_
            refine G.istore C at_194 (l' := #[.val (.int i0), .val (.int i1), .val (.int i2), .val (.int i3), .val (.int i4), .val (.int i5), .val (.int (0 : Int32)), .val (.int (1 : Int32)), .val (.int (0 : Int32)), .val (.int v249), .val (.int v250), .val (.int v251), .val (.int v252), .val (.int v253), .val (.ref b255), .unset, .val (.int (0 : Int32)), .unset]) rfl (n := 196) rfl ?_
            refine G.iload C at_196 rfl (n := 198) rfl ?_
            refine G.iload C at_198 rfl (n := 200) rfl ?_
            refine G.icmp_eq C (A := v252.toInt) (B := v251.toInt) rfl rfl at_200 (by decide) (by decide) (n := 203) (n' := 214) rfl (fun c200_339 c200_339i => ?_) (fun c200_339 c200_339i => ?_)
            · refine G.iconst C (v := (0 : Int32)) at_214 (by decide) (n := 215) rfl ?_
              refine G.istore C at_215 (l' := #[.val (.int i0), .val (.int i1), .val (.int i2), .val (.int i3), .val (.int i4), .val (.int i5), .val (.int (0 : Int32)), .val (.int (1 : Int32)), .val (.int (0 : Int32)), .val (.int v249), .val (.int v250), .val (.int v251), .val (.int v252), .val (.int v253), .val (.ref b255), .unset, .val (.int (0 : Int32)), .val (.int (0 : Int32))]) rfl (n := 217) rfl ?_
              refine G.iload C at_217 rfl (n := 219) rfl ?_
              refine G.if_ne C (A := 0) (by decide) at_219 (by decide) (by decide) (n := 222) (n' := 227) rfl (fun c219_340 c219_340i => ?_) (fun c219_340 c219_340i => ?_)
              · exact absurd c219_340 (by decide)
              refine G.iload C at_222 rfl (n := 224) rfl ?_
              refine G.if_eq C (A := 0) (by decide) at_224 (by decide) (by decide) (n := 227) (n' := 231) rfl (fun c224_341 c224_341i => ?_) (fun c224_341 c224_341i => ?_)
              rotate_left
              · exact absurd c224_341 (by decide)
              refine G.iconst C (v := (0 : Int32)) at_231 (by decide) (n := 232) rfl ?_
              refine G.istore C at_232 (l' := #[.val (.int i0), .val (.int i1), .val (.int i2), .val (.int i3), .val (.int i4), .val (.int i5), .val (.int (0 : Int32)), .val (.int (1 : Int32)), .val (.int (0 : Int32)), .val (.int v249), .val (.int v250), .val (.int v251), .val (.int v252), .val (.int v253), .val (.ref b255), .val (.int (0 : Int32)), .val (.int (0 : Int32)), .val (.int (0 : Int32))]) rfl (n := 234) rfl ?_
              refine G.aload C at_234 rfl rfl (n := 236) rfl ?_
              refine G.iload C at_236 rfl (n := 238) rfl ?_
              refine G.callV C (argsL := [(.int v253)]) (yr := (⟨"com/example/near_miss/nearmiss/search/Window", "holds", "(I)Z"⟩ : MethodName)) (yc := (⟨"com/example/near_miss/nearmiss/search/Window", "holds", "(I)Z"⟩ : MethodName)) (a := b255) (O316.1) (wd hw 53 rfl) (wd hw 54 rfl) (nfS (wd hw 56 rfl) rfl) (wd hw 56 rfl) (wd hw 55 rfl) (wd hw 3 rfl) (wd hw 57 rfl) (by decide) (m_holds l Z a0 hw b255 M Sc (0 : Int32) .null (((((v249 + v250) - v249) + (64 : Int32)) - (1 : Int32)) / (64 : Int32)) v249 (v249 + v250) us311 v253 h315 n0 Z317 O316 O309 O310 ne277 ne279 ne272 g278 g280 Hl312 qs.1 (by omega)) rfl (by decide) (W := 0) rfl (by decide) (c' := 3) (s' := 1049) rfl rfl (by decide) (by decide) at_238 (n := 241) rfl pd10 rfl rfl ?_
              rintro _ h343 ⟨rr, rfl, Fr0, rfl⟩
              have Hr := Fr0 _ H318
              refine G.iload C at_241 rfl (n := 243) rfl ?_
              refine G.icmp_ne C (A := rr.toInt) (B := 0) rfl (by decide) at_243 (by decide) (by decide) (n := 246) (n' := 250) rfl (fun c243_344 c243_344i => ?_) (fun c243_344 c243_344i => ?_)
              · rcases Hr with ⟨r1, r2⟩ | ⟨r1, r2⟩ <;> first | exact absurd r1 c243_344 | (exfalso; omega)
              refine G.iconst C (v := (1 : Int32)) at_246 (by decide) (n := 247) rfl ?_
              refine G.goto C at_247 (by decide) (n := 251) (by decide) ?_
              refine G.ireturn C at_251 (rfl) (by simp) (by decide) (by decide) ?_
              exact rfl
            · refine G.iload C at_203 rfl (n := 205) rfl ?_
              refine G.iload C at_205 rfl (n := 207) rfl ?_
              refine G.icmp_ne C (A := v253.toInt) (B := v252.toInt) rfl rfl at_207 (by decide) (by decide) (n := 210) (n' := 214) rfl (fun c207_345 c207_345i => ?_) (fun c207_345 c207_345i => ?_)
              · refine G.iconst C (v := (0 : Int32)) at_214 (by decide) (n := 215) rfl ?_
                refine G.istore C at_215 (l' := #[.val (.int i0), .val (.int i1), .val (.int i2), .val (.int i3), .val (.int i4), .val (.int i5), .val (.int (0 : Int32)), .val (.int (1 : Int32)), .val (.int (0 : Int32)), .val (.int v249), .val (.int v250), .val (.int v251), .val (.int v252), .val (.int v253), .val (.ref b255), .unset, .val (.int (0 : Int32)), .val (.int (0 : Int32))]) rfl (n := 217) rfl ?_
                refine G.iload C at_217 rfl (n := 219) rfl ?_
                refine G.if_ne C (A := 0) (by decide) at_219 (by decide) (by decide) (n := 222) (n' := 227) rfl (fun c219_346 c219_346i => ?_) (fun c219_346 c219_346i => ?_)
                · exact absurd c219_346 (by decide)
                refine G.iload C at_222 rfl (n := 224) rfl ?_
                refine G.if_eq C (A := 0) (by decide) at_224 (by decide) (by decide) (n := 227) (n' := 231) rfl (fun c224_347 c224_347i => ?_) (fun c224_347 c224_347i => ?_)
                rotate_left
                · exact absurd c224_347 (by decide)
                refine G.iconst C (v := (0 : Int32)) at_231 (by decide) (n := 232) rfl ?_
                refine G.istore C at_232 (l' := #[.val (.int i0), .val (.int i1), .val (.int i2), .val (.int i3), .val (.int i4), .val (.int i5), .val (.int (0 : Int32)), .val (.int (1 : Int32)), .val (.int (0 : Int32)), .val (.int v249), .val (.int v250), .val (.int v251), .val (.int v252), .val (.int v253), .val (.ref b255), .val (.int (0 : Int32)), .val (.int (0 : Int32)), .val (.int (0 : Int32))]) rfl (n := 234) rfl ?_
                refine G.aload C at_234 rfl rfl (n := 236) rfl ?_
                refine G.iload C at_236 rfl (n := 238) rfl ?_
                refine G.callV C (argsL := [(.int v253)]) (yr := (⟨"com/example/near_miss/nearmiss/search/Window", "holds", "(I)Z"⟩ : MethodName)) (yc := (⟨"com/example/near_miss/nearmiss/search/Window", "holds", "(I)Z"⟩ : MethodName)) (a := b255) (O316.1) (wd hw 53 rfl) (wd hw 54 rfl) (nfS (wd hw 56 rfl) rfl) (wd hw 56 rfl) (wd hw 55 rfl) (wd hw 3 rfl) (wd hw 57 rfl) (by decide) (m_holds l Z a0 hw b255 M Sc (0 : Int32) .null (((((v249 + v250) - v249) + (64 : Int32)) - (1 : Int32)) / (64 : Int32)) v249 (v249 + v250) us311 v253 h315 n0 Z317 O316 O309 O310 ne277 ne279 ne272 g278 g280 Hl312 qs.1 (by omega)) rfl (by decide) (W := 0) rfl (by decide) (c' := 3) (s' := 1049) rfl rfl (by decide) (by decide) at_238 (n := 241) rfl pd10 rfl rfl ?_
                rintro _ h349 ⟨rr, rfl, Fr0, rfl⟩
                have Hr := Fr0 _ H318
                refine G.iload C at_241 rfl (n := 243) rfl ?_
                refine G.icmp_ne C (A := rr.toInt) (B := 0) rfl (by decide) at_243 (by decide) (by decide) (n := 246) (n' := 250) rfl (fun c243_350 c243_350i => ?_) (fun c243_350 c243_350i => ?_)
                · rcases Hr with ⟨r1, r2⟩ | ⟨r1, r2⟩ <;> first | exact absurd r1 c243_350 | (exfalso; omega)
                refine G.iconst C (v := (1 : Int32)) at_246 (by decide) (n := 247) rfl ?_
                refine G.goto C at_247 (by decide) (n := 251) (by decide) ?_
                refine G.ireturn C at_251 (rfl) (by simp) (by decide) (by decide) ?_
                exact rfl
              · refine G.iconst C (v := (1 : Int32)) at_210 (by decide) (n := 211) rfl ?_
                refine G.goto C at_211 (by decide) (n := 215) (by decide) ?_
                refine G.istore C at_215 (l' := #[.val (.int i0), .val (.int i1), .val (.int i2), .val (.int i3), .val (.int i4), .val (.int i5), .val (.int (0 : Int32)), .val (.int (1 : Int32)), .val (.int (0 : Int32)), .val (.int v249), .val (.int v250), .val (.int v251), .val (.int v252), .val (.int v253), .val (.ref b255), .unset, .val (.int (0 : Int32)), .val (.int (1 : Int32))]) rfl (n := 217) rfl ?_
                refine G.iload C at_217 rfl (n := 219) rfl ?_
                refine G.if_ne C (A := 0) (by decide) at_219 (by decide) (by decide) (n := 222) (n' := 227) rfl (fun c219_351 c219_351i => ?_) (fun c219_351 c219_351i => ?_)
                · exact absurd c219_351 (by decide)
                refine G.iload C at_222 rfl (n := 224) rfl ?_
                refine G.if_eq C (A := 1) (by decide) at_224 (by decide) (by decide) (n := 227) (n' := 231) rfl (fun c224_352 c224_352i => ?_) (fun c224_352 c224_352i => ?_)
                · exact absurd c224_352 (by decide)
                refine G.iconst C (v := (1 : Int32)) at_227 (by decide) (n := 228) rfl ?_
                refine G.goto C at_228 (by decide) (n := 232) (by decide) ?_
                refine G.istore C at_232 (l' := #[.val (.int i0), .val (.int i1), .val (.int i2), .val (.int i3), .val (.int i4), .val (.int i5), .val (.int (0 : Int32)), .val (.int (1 : Int32)), .val (.int (0 : Int32)), .val (.int v249), .val (.int v250), .val (.int v251), .val (.int v252), .val (.int v253), .val (.ref b255), .val (.int (1 : Int32)), .val (.int (0 : Int32)), .val (.int (1 : Int32))]) rfl (n := 234) rfl ?_
                refine G.aload C at_234 rfl rfl (n := 236) rfl ?_
                refine G.iload C at_236 rfl (n := 238) rfl ?_
                refine G.callV C (argsL := [(.int v253)]) (yr := (⟨"com/example/near_miss/nearmiss/search/Window", "holds", "(I)Z"⟩ : MethodName)) (yc := (⟨"com/example/near_miss/nearmiss/search/Window", "holds", "(I)Z"⟩ : MethodName)) (a := b255) (O316.1) (wd hw 53 rfl) (wd hw 54 rfl) (nfS (wd hw 56 rfl) rfl) (wd hw 56 rfl) (wd hw 55 rfl) (wd hw 3 rfl) (wd hw 57 rfl) (by decide) (m_holds l Z a0 hw b255 M Sc (0 : Int32) .null (((((v249 + v250) - v249) + (64 : Int32)) - (1 : Int32)) / (64 : Int32)) v249 (v249 + v250) us311 v253 h315 n0 Z317 O316 O309 O310 ne277 ne279 ne272 g278 g280 Hl312 qs.1 (by omega)) rfl (by decide) (W := 0) rfl (by decide) (c' := 3) (s' := 1049) rfl rfl (by decide) (by decide) at_238 (n := 241) rfl pd10 rfl rfl ?_
                rintro _ h354 ⟨rr, rfl, Fr0, rfl⟩
                have Hr := Fr0 _ H318
                refine G.iload C at_241 rfl (n := 243) rfl ?_
                refine G.icmp_ne C (A := rr.toInt) (B := 1) rfl (by decide) at_243 (by decide) (by decide) (n := 246) (n' := 250) rfl (fun c243_355 c243_355i => ?_) (fun c243_355 c243_355i => ?_)
                · rcases Hr with ⟨r1, r2⟩ | ⟨r1, r2⟩ <;> first | exact absurd r1 c243_355 | (exfalso; omega)
                refine G.iconst C (v := (1 : Int32)) at_246 (by decide) (n := 247) rfl ?_
                refine G.goto C at_247 (by decide) (n := 251) (by decide) ?_
                refine G.ireturn C at_251 (rfl) (by simp) (by decide) (by decide) ?_
                exact rfl
        · refine G.aload C at_124 rfl rfl (n := 126) rfl ?_
          refine G.iload C at_126 rfl (n := 128) rfl ?_
          refine G.iload C at_128 rfl (n := 130) rfl ?_
          refine G.iadd C at_130 (n := 131) rfl ?_
          refine G.ldc2D C (v := (4611686018427387904 : UInt64)) (wd hw 52 rfl) at_131 (n := 134) rfl ?_
          refine G.callV C (argsL := [(.int (v249 + v252)), (.double (4611686018427387904 : UInt64))]) (yr := (⟨"com/example/near_miss/nearmiss/search/Window", "add", "(ID)V"⟩ : MethodName)) (yc := (⟨"com/example/near_miss/nearmiss/search/Window", "add", "(ID)V"⟩ : MethodName)) (a := b255) (O302.1) (wd hw 31 rfl) (wd hw 32 rfl) (nfS (wd hw 34 rfl) rfl) (wd hw 34 rfl) (wd hw 33 rfl) (wd hw 3 rfl) (wd hw 35 rfl) (by decide) (m_add l Z a0 hw b255 M Sc (0 : Int32) .null (((((v249 + v250) - v249) + (64 : Int32)) - (1 : Int32)) / (64 : Int32)) v249 (v249 + v250) us297 (v249 + v252) v252 (4611686018427387904 : UInt64) h301 n0 Z303 O302 O295 O296 ne277 ne279 ne272 g278 g280 Hl298 (asub _ _) qb2.1 (by omega) (by rw [qe]; exact qb2.2)) rfl (by decide) (W := 0) rfl (by decide) (c' := 3) (s' := 1049) rfl rfl (by decide) (by decide) at_134 (n := 137) rfl pd6 rfl rfl ?_
          rintro _ h363 ⟨rfl, K356, us359, O357, Hl360, F361, O358⟩
          have O364 := O302.keep K356 (ninS ne277 (ninS ne279 nin0))
          have Z365 : n0 ≤ h363.size := Nat.le_trans Z303 K356.1
          have H366 := F361 _ H304
          refine G.iload C at_137 rfl (n := 139) rfl ?_
          refine G.if_eq C (A := 0) (by decide) at_139 (by decide) (by decide) (n := 142) (n' := 154) rfl (fun c139_367 c139_367i => ?_) (fun c139_367 c139_367i => ?_)
          rotate_left
          · exact absurd c139_367 (by decide)
          refine G.iload C at_154 rfl (n := 156) rfl ?_
          refine G.if_eq C (A := 1) (by decide) at_156 (by decide) (by decide) (n := 159) (n' := 166) rfl (fun c156_368 c156_368i => ?_) (fun c156_368 c156_368i => ?_)
          · exact absurd c156_368 (by decide)
          refine G.aload C at_159 rfl rfl (n := 161) rfl ?_
          refine G.iload C at_161 rfl (n := 163) rfl ?_
          refine G.callV C (argsL := [(.int v251)]) (yr := (⟨"com/example/near_miss/nearmiss/search/Window", "remove", "(I)V"⟩ : MethodName)) (yc := (⟨"com/example/near_miss/nearmiss/search/Window", "remove", "(I)V"⟩ : MethodName)) (a := b255) (O364.1) (wd hw 83 rfl) (wd hw 84 rfl) (nfS (wd hw 86 rfl) rfl) (wd hw 86 rfl) (wd hw 85 rfl) (wd hw 3 rfl) (wd hw 87 rfl) (by decide) (m_remove l Z a0 hw b255 M Sc (0 : Int32) .null (((((v249 + v250) - v249) + (64 : Int32)) - (1 : Int32)) / (64 : Int32)) v249 (v249 + v250) us359 v251 h363 n0 Z365 O364 O357 O358 ne277 ne279 ne272 g278 g280 Hl360 qa.1 (by omega)) rfl (by decide) (W := 0) rfl (by decide) (c' := 3) (s' := 1049) rfl rfl (by decide) (by decide) at_163 (n := 166) rfl pd11 rfl rfl ?_
          rintro _ h376 ⟨rfl, K369, us372, O370, Hl373, F374, O371⟩
          have O377 := O364.keep K369 (ninS ne277 (ninS ne279 nin0))
          have Z378 : n0 ≤ h376.size := Nat.le_trans Z365 K369.1
          have H379 := F374 _ H366
          refine G.iload C at_166 rfl (n := 168) rfl ?_
          refine G.if_eq C (A := 0) (by decide) at_168 (by decide) (by decide) (n := 171) (n' := 177) rfl (fun c168_380 c168_380i => ?_) (fun c168_380 c168_380i => ?_)
          rotate_left
          · exact absurd c168_380 (by decide)
          refine G.iload C at_177 rfl (n := 179) rfl ?_
          refine G.iload C at_179 rfl (n := 181) rfl ?_
          refine G.icmp_ne C (A := v253.toInt) (B := v251.toInt) rfl rfl at_181 (by decide) (by decide) (n := 184) (n' := 193) rfl (fun c181_381 c181_381i => ?_) (fun c181_381 c181_381i => ?_)
          · refine G.iconst C (v := (0 : Int32)) at_193 (by decide) (n := 194) rfl ?_
            refine G.istore C at_194 (l' := #[.val (.int i0), .val (.int i1), .val (.int i2), .val (.int i3), .val (.int i4), .val (.int i5), .val (.int (0 : Int32)), .val (.int (1 : Int32)), .val (.int (0 : Int32)), .val (.int v249), .val (.int v250), .val (.int v251), .val (.int v252), .val (.int v253), .val (.ref b255), .unset, .val (.int (0 : Int32)), .unset]) rfl (n := 196) rfl ?_
            refine G.iload C at_196 rfl (n := 198) rfl ?_
            refine G.iload C at_198 rfl (n := 200) rfl ?_
            refine G.icmp_eq C (A := v252.toInt) (B := v251.toInt) rfl rfl at_200 (by decide) (by decide) (n := 203) (n' := 214) rfl (fun c200_382 c200_382i => ?_) (fun c200_382 c200_382i => ?_)
            · refine G.iconst C (v := (0 : Int32)) at_214 (by decide) (n := 215) rfl ?_
              refine G.istore C at_215 (l' := #[.val (.int i0), .val (.int i1), .val (.int i2), .val (.int i3), .val (.int i4), .val (.int i5), .val (.int (0 : Int32)), .val (.int (1 : Int32)), .val (.int (0 : Int32)), .val (.int v249), .val (.int v250), .val (.int v251), .val (.int v252), .val (.int v253), .val (.ref b255), .unset, .val (.int (0 : Int32)), .val (.int (0 : Int32))]) rfl (n := 217) rfl ?_
              refine G.iload C at_217 rfl (n := 219) rfl ?_
              refine G.if_ne C (A := 0) (by decide) at_219 (by decide) (by decide) (n := 222) (n' := 227) rfl (fun c219_383 c219_383i => ?_) (fun c219_383 c219_383i => ?_)
              · exact absurd c219_383 (by decide)
              refine G.iload C at_222 rfl (n := 224) rfl ?_
              refine G.if_eq C (A := 0) (by decide) at_224 (by decide) (by decide) (n := 227) (n' := 231) rfl (fun c224_384 c224_384i => ?_) (fun c224_384 c224_384i => ?_)
              rotate_left
              · exact absurd c224_384 (by decide)
              refine G.iconst C (v := (0 : Int32)) at_231 (by decide) (n := 232) rfl ?_
              refine G.istore C at_232 (l' := #[.val (.int i0), .val (.int i1), .val (.int i2), .val (.int i3), .val (.int i4), .val (.int i5), .val (.int (0 : Int32)), .val (.int (1 : Int32)), .val (.int (0 : Int32)), .val (.int v249), .val (.int v250), .val (.int v251), .val (.int v252), .val (.int v253), .val (.ref b255), .val (.int (0 : Int32)), .val (.int (0 : Int32)), .val (.int (0 : Int32))]) rfl (n := 234) rfl ?_
              refine G.aload C at_234 rfl rfl (n := 236) rfl ?_
              refine G.iload C at_236 rfl (n := 238) rfl ?_
              refine G.callV C (argsL := [(.int v253)]) (yr := (⟨"com/example/near_miss/nearmiss/search/Window", "holds", "(I)Z"⟩ : MethodName)) (yc := (⟨"com/example/near_miss/nearmiss/search/Window", "holds", "(I)Z"⟩ : MethodName)) (a := b255) (O377.1) (wd hw 53 rfl) (wd hw 54 rfl) (nfS (wd hw 56 rfl) rfl) (wd hw 56 rfl) (wd hw 55 rfl) (wd hw 3 rfl) (wd hw 57 rfl) (by decide) (m_holds l Z a0 hw b255 M Sc (0 : Int32) .null (((((v249 + v250) - v249) + (64 : Int32)) - (1 : Int32)) / (64 : Int32)) v249 (v249 + v250) us372 v253 h376 n0 Z378 O377 O370 O371 ne277 ne279 ne272 g278 g280 Hl373 qs.1 (by omega)) rfl (by decide) (W := 0) rfl (by decide) (c' := 3) (s' := 1049) rfl rfl (by decide) (by decide) at_238 (n := 241) rfl pd10 rfl rfl ?_
              rintro _ h386 ⟨rr, rfl, Fr0, rfl⟩
              have Hr := Fr0 _ H379
              refine G.iload C at_241 rfl (n := 243) rfl ?_
              refine G.icmp_ne C (A := rr.toInt) (B := 0) rfl (by decide) at_243 (by decide) (by decide) (n := 246) (n' := 250) rfl (fun c243_387 c243_387i => ?_) (fun c243_387 c243_387i => ?_)
              · rcases Hr with ⟨r1, r2⟩ | ⟨r1, r2⟩ <;> first | exact absurd r1 c243_387 | (exfalso; omega)
              refine G.iconst C (v := (1 : Int32)) at_246 (by decide) (n := 247) rfl ?_
              refine G.goto C at_247 (by decide) (n := 251) (by decide) ?_
              refine G.ireturn C at_251 (rfl) (by simp) (by decide) (by decide) ?_
              exact rfl
            · refine G.iload C at_203 rfl (n := 205) rfl ?_
              refine G.iload C at_205 rfl (n := 207) rfl ?_
              refine G.icmp_ne C (A := v253.toInt) (B := v252.toInt) rfl rfl at_207 (by decide) (by decide) (n := 210) (n' := 214) rfl (fun c207_388 c207_388i => ?_) (fun c207_388 c207_388i => ?_)
              · refine G.iconst C (v := (0 : Int32)) at_214 (by decide) (n := 215) rfl ?_
                refine G.istore C at_215 (l' := #[.val (.int i0), .val (.int i1), .val (.int i2), .val (.int i3), .val (.int i4), .val (.int i5), .val (.int (0 : Int32)), .val (.int (1 : Int32)), .val (.int (0 : Int32)), .val (.int v249), .val (.int v250), .val (.int v251), .val (.int v252), .val (.int v253), .val (.ref b255), .unset, .val (.int (0 : Int32)), .val (.int (0 : Int32))]) rfl (n := 217) rfl ?_
                refine G.iload C at_217 rfl (n := 219) rfl ?_
                refine G.if_ne C (A := 0) (by decide) at_219 (by decide) (by decide) (n := 222) (n' := 227) rfl (fun c219_389 c219_389i => ?_) (fun c219_389 c219_389i => ?_)
                · exact absurd c219_389 (by decide)
                refine G.iload C at_222 rfl (n := 224) rfl ?_
                refine G.if_eq C (A := 0) (by decide) at_224 (by decide) (by decide) (n := 227) (n' := 231) rfl (fun c224_390 c224_390i => ?_) (fun c224_390 c224_390i => ?_)
                rotate_left
                · exact absurd c224_390 (by decide)
                refine G.iconst C (v := (0 : Int32)) at_231 (by decide) (n := 232) rfl ?_
                refine G.istore C at_232 (l' := #[.val (.int i0), .val (.int i1), .val (.int i2), .val (.int i3), .val (.int i4), .val (.int i5), .val (.int (0 : Int32)), .val (.int (1 : Int32)), .val (.int (0 : Int32)), .val (.int v249), .val (.int v250), .val (.int v251), .val (.int v252), .val (.int v253), .val (.ref b255), .val (.int (0 : Int32)), .val (.int (0 : Int32)), .val (.int (0 : Int32))]) rfl (n := 234) rfl ?_
                refine G.aload C at_234 rfl rfl (n := 236) rfl ?_
                refine G.iload C at_236 rfl (n := 238) rfl ?_
                refine G.callV C (argsL := [(.int v253)]) (yr := (⟨"com/example/near_miss/nearmiss/search/Window", "holds", "(I)Z"⟩ : MethodName)) (yc := (⟨"com/example/near_miss/nearmiss/search/Window", "holds", "(I)Z"⟩ : MethodName)) (a := b255) (O377.1) (wd hw 53 rfl) (wd hw 54 rfl) (nfS (wd hw 56 rfl) rfl) (wd hw 56 rfl) (wd hw 55 rfl) (wd hw 3 rfl) (wd hw 57 rfl) (by decide) (m_holds l Z a0 hw b255 M Sc (0 : Int32) .null (((((v249 + v250) - v249) + (64 : Int32)) - (1 : Int32)) / (64 : Int32)) v249 (v249 + v250) us372 v253 h376 n0 Z378 O377 O370 O371 ne277 ne279 ne272 g278 g280 Hl373 qs.1 (by omega)) rfl (by decide) (W := 0) rfl (by decide) (c' := 3) (s' := 1049) rfl rfl (by decide) (by decide) at_238 (n := 241) rfl pd10 rfl rfl ?_
                rintro _ h392 ⟨rr, rfl, Fr0, rfl⟩
                have Hr := Fr0 _ H379
                refine G.iload C at_241 rfl (n := 243) rfl ?_
                refine G.icmp_ne C (A := rr.toInt) (B := 0) rfl (by decide) at_243 (by decide) (by decide) (n := 246) (n' := 250) rfl (fun c243_393 c243_393i => ?_) (fun c243_393 c243_393i => ?_)
                · rcases Hr with ⟨r1, r2⟩ | ⟨r1, r2⟩ <;> first | exact absurd r1 c243_393 | (exfalso; omega)
                refine G.iconst C (v := (1 : Int32)) at_246 (by decide) (n := 247) rfl ?_
                refine G.goto C at_247 (by decide) (n := 251) (by decide) ?_
                refine G.ireturn C at_251 (rfl) (by simp) (by decide) (by decide) ?_
                exact rfl
              · refine G.iconst C (v := (1 : Int32)) at_210 (by decide) (n := 211) rfl ?_
                refine G.goto C at_211 (by decide) (n := 215) (by decide) ?_
                refine G.istore C at_215 (l' := #[.val (.int i0), .val (.int i1), .val (.int i2), .val (.int i3), .val (.int i4), .val (.int i5), .val (.int (0 : Int32)), .val (.int (1 : Int32)), .val (.int (0 : Int32)), .val (.int v249), .val (.int v250), .val (.int v251), .val (.int v252), .val (.int v253), .val (.ref b255), .unset, .val (.int (0 : Int32)), .val (.int (1 : Int32))]) rfl (n := 217) rfl ?_
                refine G.iload C at_217 rfl (n := 219) rfl ?_
                refine G.if_ne C (A := 0) (by decide) at_219 (by decide) (by decide) (n := 222) (n' := 227) rfl (fun c219_394 c219_394i => ?_) (fun c219_394 c219_394i => ?_)
                · exact absurd c219_394 (by decide)
                refine G.iload C at_222 rfl (n := 224) rfl ?_
                refine G.if_eq C (A := 1) (by decide) at_224 (by decide) (by decide) (n := 227) (n' := 231) rfl (fun c224_395 c224_395i => ?_) (fun c224_395 c224_395i => ?_)
                · exact absurd c224_395 (by decide)
                refine G.iconst C (v := (1 : Int32)) at_227 (by decide) (n := 228) rfl ?_
                refine G.goto C at_228 (by decide) (n := 232) (by decide) ?_
                refine G.istore C at_232 (l' := #[.val (.int i0), .val (.int i1), .val (.int i2), .val (.int i3), .val (.int i4), .val (.int i5), .val (.int (0 : Int32)), .val (.int (1 : Int32)), .val (.int (0 : Int32)), .val (.int v249), .val (.int v250), .val (.int v251), .val (.int v252), .val (.int v253), .val (.ref b255), .val (.int (1 : Int32)), .val (.int (0 : Int32)), .val (.int (1 : Int32))]) rfl (n := 234) rfl ?_
                refine G.aload C at_234 rfl rfl (n := 236) rfl ?_
                refine G.iload C at_236 rfl (n := 238) rfl ?_
                refine G.callV C (argsL := [(.int v253)]) (yr := (⟨"com/example/near_miss/nearmiss/search/Window", "holds", "(I)Z"⟩ : MethodName)) (yc := (⟨"com/example/near_miss/nearmiss/search/Window", "holds", "(I)Z"⟩ : MethodName)) (a := b255) (O377.1) (wd hw 53 rfl) (wd hw 54 rfl) (nfS (wd hw 56 rfl) rfl) (wd hw 56 rfl) (wd hw 55 rfl) (wd hw 3 rfl) (wd hw 57 rfl) (by decide) (m_holds l Z a0 hw b255 M Sc (0 : Int32) .null (((((v249 + v250) - v249) + (64 : Int32)) - (1 : Int32)) / (64 : Int32)) v249 (v249 + v250) us372 v253 h376 n0 Z378 O377 O370 O371 ne277 ne279 ne272 g278 g280 Hl373 qs.1 (by omega)) rfl (by decide) (W := 0) rfl (by decide) (c' := 3) (s' := 1049) rfl rfl (by decide) (by decide) at_238 (n := 241) rfl pd10 rfl rfl ?_
                rintro _ h397 ⟨rr, rfl, Fr0, rfl⟩
                have Hr := Fr0 _ H379
                refine G.iload C at_241 rfl (n := 243) rfl ?_
                refine G.icmp_ne C (A := rr.toInt) (B := 1) rfl (by decide) at_243 (by decide) (by decide) (n := 246) (n' := 250) rfl (fun c243_398 c243_398i => ?_) (fun c243_398 c243_398i => ?_)
                · rcases Hr with ⟨r1, r2⟩ | ⟨r1, r2⟩ <;> first | exact absurd r1 c243_398 | (exfalso; omega)
                refine G.iconst C (v := (1 : Int32)) at_246 (by decide) (n := 247) rfl ?_
                refine G.goto C at_247 (by decide) (n := 251) (by decide) ?_
                refine G.ireturn C at_251 (rfl) (by simp) (by decide) (by decide) ?_
                exact rfl
          · refine G.iload C at_184 rfl (n := 186) rfl ?_
            refine G.if_ne C (A := 1) (by decide) at_186 (by decide) (by decide) (n := 189) (n' := 193) rfl (fun c186_399 c186_399i => ?_) (fun c186_399 c186_399i => ?_)
            rotate_left
            · exact absurd c186_399 (by decide)
            refine G.iconst C (v := (0 : Int32)) at_193 (by decide) (n := 194) rfl ?_
            refine G.istore C at_194 (l' := #[.val (.int i0), .val (.int i1), .val (.int i2), .val (.int i3), .val (.int i4), .val (.int i5), .val (.int (0 : Int32)), .val (.int (1 : Int32)), .val (.int (0 : Int32)), .val (.int v249), .val (.int v250), .val (.int v251), .val (.int v252), .val (.int v253), .val (.ref b255), .unset, .val (.int (0 : Int32)), .unset]) rfl (n := 196) rfl ?_
            refine G.iload C at_196 rfl (n := 198) rfl ?_
            refine G.iload C at_198 rfl (n := 200) rfl ?_
            refine G.icmp_eq C (A := v252.toInt) (B := v251.toInt) rfl rfl at_200 (by decide) (by decide) (n := 203) (n' := 214) rfl (fun c200_400 c200_400i => ?_) (fun c200_400 c200_400i => ?_)
            · refine G.iconst C (v := (0 : Int32)) at_214 (by decide) (n := 215) rfl ?_
              refine G.istore C at_215 (l' := #[.val (.int i0), .val (.int i1), .val (.int i2), .val (.int i3), .val (.int i4), .val (.int i5), .val (.int (0 : Int32)), .val (.int (1 : Int32)), .val (.int (0 : Int32)), .val (.int v249), .val (.int v250), .val (.int v251), .val (.int v252), .val (.int v253), .val (.ref b255), .unset, .val (.int (0 : Int32)), .val (.int (0 : Int32))]) rfl (n := 217) rfl ?_
              refine G.iload C at_217 rfl (n := 219) rfl ?_
              refine G.if_ne C (A := 0) (by decide) at_219 (by decide) (by decide) (n := 222) (n' := 227) rfl (fun c219_401 c219_401i => ?_) (fun c219_401 c219_401i => ?_)
              · exact absurd c219_401 (by decide)
              refine G.iload C at_222 rfl (n := 224) rfl ?_
              refine G.if_eq C (A := 0) (by decide) at_224 (by decide) (by decide) (n := 227) (n' := 231) rfl (fun c224_402 c224_402i => ?_) (fun c224_402 c224_402i => ?_)
              rotate_left
              · exact absurd c224_402 (by decide)
              refine G.iconst C (v := (0 : Int32)) at_231 (by decide) (n := 232) rfl ?_
              refine G.istore C at_232 (l' := #[.val (.int i0), .val (.int i1), .val (.int i2), .val (.int i3), .val (.int i4), .val (.int i5), .val (.int (0 : Int32)), .val (.int (1 : Int32)), .val (.int (0 : Int32)), .val (.int v249), .val (.int v250), .val (.int v251), .val (.int v252), .val (.int v253), .val (.ref b255), .val (.int (0 : Int32)), .val (.int (0 : Int32)), .val (.int (0 : Int32))]) rfl (n := 234) rfl ?_
              refine G.aload C at_234 rfl rfl (n := 236) rfl ?_
              refine G.iload C at_236 rfl (n := 238) rfl ?_
              refine G.callV C (argsL := [(.int v253)]) (yr := (⟨"com/example/near_miss/nearmiss/search/Window", "holds", "(I)Z"⟩ : MethodName)) (yc := (⟨"com/example/near_miss/nearmiss/search/Window", "holds", "(I)Z"⟩ : MethodName)) (a := b255) (O377.1) (wd hw 53 rfl) (wd hw 54 rfl) (nfS (wd hw 56 rfl) rfl) (wd hw 56 rfl) (wd hw 55 rfl) (wd hw 3 rfl) (wd hw 57 rfl) (by decide) (m_holds l Z a0 hw b255 M Sc (0 : Int32) .null (((((v249 + v250) - v249) + (64 : Int32)) - (1 : Int32)) / (64 : Int32)) v249 (v249 + v250) us372 v253 h376 n0 Z378 O377 O370 O371 ne277 ne279 ne272 g278 g280 Hl373 qs.1 (by omega)) rfl (by decide) (W := 0) rfl (by decide) (c' := 3) (s' := 1049) rfl rfl (by decide) (by decide) at_238 (n := 241) rfl pd10 rfl rfl ?_
              rintro _ h404 ⟨rr, rfl, Fr0, rfl⟩
              have Hr := Fr0 _ H379
              refine G.iload C at_241 rfl (n := 243) rfl ?_
              refine G.icmp_ne C (A := rr.toInt) (B := 0) rfl (by decide) at_243 (by decide) (by decide) (n := 246) (n' := 250) rfl (fun c243_405 c243_405i => ?_) (fun c243_405 c243_405i => ?_)
              · rcases Hr with ⟨r1, r2⟩ | ⟨r1, r2⟩ <;> first | exact absurd r1 c243_405 | (exfalso; omega)
              refine G.iconst C (v := (1 : Int32)) at_246 (by decide) (n := 247) rfl ?_
              refine G.goto C at_247 (by decide) (n := 251) (by decide) ?_
              refine G.ireturn C at_251 (rfl) (by simp) (by decide) (by decide) ?_
              exact rfl
            · refine G.iload C at_203 rfl (n := 205) rfl ?_
              refine G.iload C at_205 rfl (n := 207) rfl ?_
              refine G.icmp_ne C (A := v253.toInt) (B := v252.toInt) rfl rfl at_207 (by decide) (by decide) (n := 210) (n' := 214) rfl (fun c207_406 c207_406i => ?_) (fun c207_406 c207_406i => ?_)
              · refine G.iconst C (v := (0 : Int32)) at_214 (by decide) (n := 215) rfl ?_
                refine G.istore C at_215 (l' := #[.val (.int i0), .val (.int i1), .val (.int i2), .val (.int i3), .val (.int i4), .val (.int i5), .val (.int (0 : Int32)), .val (.int (1 : Int32)), .val (.int (0 : Int32)), .val (.int v249), .val (.int v250), .val (.int v251), .val (.int v252), .val (.int v253), .val (.ref b255), .unset, .val (.int (0 : Int32)), .val (.int (0 : Int32))]) rfl (n := 217) rfl ?_
                refine G.iload C at_217 rfl (n := 219) rfl ?_
                refine G.if_ne C (A := 0) (by decide) at_219 (by decide) (by decide) (n := 222) (n' := 227) rfl (fun c219_407 c219_407i => ?_) (fun c219_407 c219_407i => ?_)
                · exact absurd c219_407 (by decide)
                refine G.iload C at_222 rfl (n := 224) rfl ?_
                refine G.if_eq C (A := 0) (by decide) at_224 (by decide) (by decide) (n := 227) (n' := 231) rfl (fun c224_408 c224_408i => ?_) (fun c224_408 c224_408i => ?_)
                rotate_left
                · exact absurd c224_408 (by decide)
                refine G.iconst C (v := (0 : Int32)) at_231 (by decide) (n := 232) rfl ?_
                refine G.istore C at_232 (l' := #[.val (.int i0), .val (.int i1), .val (.int i2), .val (.int i3), .val (.int i4), .val (.int i5), .val (.int (0 : Int32)), .val (.int (1 : Int32)), .val (.int (0 : Int32)), .val (.int v249), .val (.int v250), .val (.int v251), .val (.int v252), .val (.int v253), .val (.ref b255), .val (.int (0 : Int32)), .val (.int (0 : Int32)), .val (.int (0 : Int32))]) rfl (n := 234) rfl ?_
                refine G.aload C at_234 rfl rfl (n := 236) rfl ?_
                refine G.iload C at_236 rfl (n := 238) rfl ?_
                refine G.callV C (argsL := [(.int v253)]) (yr := (⟨"com/example/near_miss/nearmiss/search/Window", "holds", "(I)Z"⟩ : MethodName)) (yc := (⟨"com/example/near_miss/nearmiss/search/Window", "holds", "(I)Z"⟩ : MethodName)) (a := b255) (O377.1) (wd hw 53 rfl) (wd hw 54 rfl) (nfS (wd hw 56 rfl) rfl) (wd hw 56 rfl) (wd hw 55 rfl) (wd hw 3 rfl) (wd hw 57 rfl) (by decide) (m_holds l Z a0 hw b255 M Sc (0 : Int32) .null (((((v249 + v250) - v249) + (64 : Int32)) - (1 : Int32)) / (64 : Int32)) v249 (v249 + v250) us372 v253 h376 n0 Z378 O377 O370 O371 ne277 ne279 ne272 g278 g280 Hl373 qs.1 (by omega)) rfl (by decide) (W := 0) rfl (by decide) (c' := 3) (s' := 1049) rfl rfl (by decide) (by decide) at_238 (n := 241) rfl pd10 rfl rfl ?_
                rintro _ h410 ⟨rr, rfl, Fr0, rfl⟩
                have Hr := Fr0 _ H379
                refine G.iload C at_241 rfl (n := 243) rfl ?_
                refine G.icmp_ne C (A := rr.toInt) (B := 0) rfl (by decide) at_243 (by decide) (by decide) (n := 246) (n' := 250) rfl (fun c243_411 c243_411i => ?_) (fun c243_411 c243_411i => ?_)
                · rcases Hr with ⟨r1, r2⟩ | ⟨r1, r2⟩ <;> first | exact absurd r1 c243_411 | (exfalso; omega)
                refine G.iconst C (v := (1 : Int32)) at_246 (by decide) (n := 247) rfl ?_
                refine G.goto C at_247 (by decide) (n := 251) (by decide) ?_
                refine G.ireturn C at_251 (rfl) (by simp) (by decide) (by decide) ?_
                exact rfl
              · refine G.iconst C (v := (1 : Int32)) at_210 (by decide) (n := 211) rfl ?_
                refine G.goto C at_211 (by decide) (n := 215) (by decide) ?_
                refine G.istore C at_215 (l' := #[.val (.int i0), .val (.int i1), .val (.int i2), .val (.int i3), .val (.int i4), .val (.int i5), .val (.int (0 : Int32)), .val (.int (1 : Int32)), .val (.int (0 : Int32)), .val (.int v249), .val (.int v250), .val (.int v251), .val (.int v252), .val (.int v253), .val (.ref b255), .unset, .val (.int (0 : Int32)), .val (.int (1 : Int32))]) rfl (n := 217) rfl ?_
                refine G.iload C at_217 rfl (n := 219) rfl ?_
                refine G.if_ne C (A := 0) (by decide) at_219 (by decide) (by decide) (n := 222) (n' := 227) rfl (fun c219_412 c219_412i => ?_) (fun c219_412 c219_412i => ?_)
                · exact absurd c219_412 (by decide)
                refine G.iload C at_222 rfl (n := 224) rfl ?_
                refine G.if_eq C (A := 1) (by decide) at_224 (by decide) (by decide) (n := 227) (n' := 231) rfl (fun c224_413 c224_413i => ?_) (fun c224_413 c224_413i => ?_)
                · exact absurd c224_413 (by decide)
                refine G.iconst C (v := (1 : Int32)) at_227 (by decide) (n := 228) rfl ?_
                refine G.goto C at_228 (by decide) (n := 232) (by decide) ?_
                refine G.istore C at_232 (l' := #[.val (.int i0), .val (.int i1), .val (.int i2), .val (.int i3), .val (.int i4), .val (.int i5), .val (.int (0 : Int32)), .val (.int (1 : Int32)), .val (.int (0 : Int32)), .val (.int v249), .val (.int v250), .val (.int v251), .val (.int v252), .val (.int v253), .val (.ref b255), .val (.int (1 : Int32)), .val (.int (0 : Int32)), .val (.int (1 : Int32))]) rfl (n := 234) rfl ?_
                refine G.aload C at_234 rfl rfl (n := 236) rfl ?_
                refine G.iload C at_236 rfl (n := 238) rfl ?_
                refine G.callV C (argsL := [(.int v253)]) (yr := (⟨"com/example/near_miss/nearmiss/search/Window", "holds", "(I)Z"⟩ : MethodName)) (yc := (⟨"com/example/near_miss/nearmiss/search/Window", "holds", "(I)Z"⟩ : MethodName)) (a := b255) (O377.1) (wd hw 53 rfl) (wd hw 54 rfl) (nfS (wd hw 56 rfl) rfl) (wd hw 56 rfl) (wd hw 55 rfl) (wd hw 3 rfl) (wd hw 57 rfl) (by decide) (m_holds l Z a0 hw b255 M Sc (0 : Int32) .null (((((v249 + v250) - v249) + (64 : Int32)) - (1 : Int32)) / (64 : Int32)) v249 (v249 + v250) us372 v253 h376 n0 Z378 O377 O370 O371 ne277 ne279 ne272 g278 g280 Hl373 qs.1 (by omega)) rfl (by decide) (W := 0) rfl (by decide) (c' := 3) (s' := 1049) rfl rfl (by decide) (by decide) at_238 (n := 241) rfl pd10 rfl rfl ?_
                rintro _ h415 ⟨rr, rfl, Fr0, rfl⟩
                have Hr := Fr0 _ H379
                refine G.iload C at_241 rfl (n := 243) rfl ?_
                refine G.icmp_ne C (A := rr.toInt) (B := 1) rfl (by decide) at_243 (by decide) (by decide) (n := 246) (n' := 250) rfl (fun c243_416 c243_416i => ?_) (fun c243_416 c243_416i => ?_)
                · rcases Hr with ⟨r1, r2⟩ | ⟨r1, r2⟩ <;> first | exact absurd r1 c243_416 | (exfalso; omega)
                refine G.iconst C (v := (1 : Int32)) at_246 (by decide) (n := 247) rfl ?_
                refine G.goto C at_247 (by decide) (n := 251) (by decide) ?_
                refine G.ireturn C at_251 (rfl) (by simp) (by decide) (by decide) ?_
                exact rfl
      · refine G.iconst C (v := (1 : Int32)) at_32 (by decide) (n := 33) rfl ?_
        refine G.goto C at_33 (by decide) (n := 37) (by decide) ?_
        refine G.istore C at_37 (l' := #[.val (.int i0), .val (.int i1), .val (.int i2), .val (.int i3), .val (.int i4), .val (.int i5), .val (.int (0 : Int32)), .val (.int (1 : Int32)), .val (.int (1 : Int32)), .unset, .unset, .unset, .unset, .unset, .unset, .unset, .unset, .unset]) rfl (n := 39) rfl ?_
        refine G.iload C at_39 rfl (n := 41) rfl ?_
        refine G.iconst C (v := (2 : Int32)) at_41 (by decide) (n := 42) rfl ?_
        refine G.ishr C at_42 (n := 43) rfl ?_
        refine G.istoreZ C at_43 (l' := fun z => #[.val (.int i0), .val (.int i1), .val (.int i2), .val (.int i3), .val (.int i4), .val (.int i5), .val (.int (0 : Int32)), .val (.int (1 : Int32)), .val (.int (1 : Int32)), .val (.int z), .unset, .unset, .unset, .unset, .unset, .unset, .unset, .unset]) (fun _ => rfl) (n := 45) rfl ?_
        intro v417 hv417
        have qb : v417.toInt < 1000000000 := by rw [hv417, c_ishr i5 2 2 (by decide)]; have := rng32 i5; show _ / 4 < _; omega
        refine G.iloadN C at_45 rfl (n := 46) rfl ?_
        refine G.ldc C (v := (2147483647 : Int32)) (wd hw 0 rfl) at_46 (n := 48) rfl ?_
        refine G.iand C at_48 (n := 49) rfl ?_
        refine G.sipush C (v := (1024 : Int32)) at_49 (by decide) (n := 52) rfl ?_
        refine G.irem C at_52 (by decide) (n := 53) rfl ?_
        refine G.iconst C (v := (1 : Int32)) at_53 (by decide) (n := 54) rfl ?_
        refine G.iadd C at_54 (n := 55) rfl ?_
        refine G.istoreZ C at_55 (l' := fun z => #[.val (.int i0), .val (.int i1), .val (.int i2), .val (.int i3), .val (.int i4), .val (.int i5), .val (.int (0 : Int32)), .val (.int (1 : Int32)), .val (.int (1 : Int32)), .val (.int v417), .val (.int z), .unset, .unset, .unset, .unset, .unset, .unset, .unset]) (fun _ => rfl) (n := 57) rfl ?_
        intro v418 hv418
        have ql : 1 ≤ v418.toInt ∧ v418.toInt ≤ 1024 := by have r := rem_v (x := i1) (d := 1024) (by decide); rw [show (1024 : Int32).toInt = 1024 from rfl] at r; rw [hv418, Int32.add_comm, addk (K := 1) (by decide) (by omega) (by omega)]; omega
        have qr := rsub (x := v417) (l := v418) (by omega) ql.2 qb
        have qe := qr.2.1
        have qwd2 : (((((v417 + v418) - v417) + (64 : Int32)) - (1 : Int32)) / (64 : Int32)).toInt = (v418.toInt + 63) / 64 := by rw [asub]; exact words_at ql.1 ql.2
        have qwd : (((((v417 + v418) - v417) + (64 : Int32)) - (1 : Int32)) / (64 : Int32)).toInt.toNat = (v418.toInt.toNat + 63) / 64 := by rw [qwd2]; omega
        refine G.iloadN C at_57 rfl (n := 58) rfl ?_
        refine G.ldc C (v := (2147483647 : Int32)) (wd hw 0 rfl) at_58 (n := 60) rfl ?_
        refine G.iand C at_60 (n := 61) rfl ?_
        refine G.iload C at_61 rfl (n := 63) rfl ?_
        refine G.irem C at_63 (nz_pos (by omega)) (n := 64) rfl ?_
        refine G.istoreZ C at_64 (l' := fun z => #[.val (.int i0), .val (.int i1), .val (.int i2), .val (.int i3), .val (.int i4), .val (.int i5), .val (.int (0 : Int32)), .val (.int (1 : Int32)), .val (.int (1 : Int32)), .val (.int v417), .val (.int v418), .val (.int z), .unset, .unset, .unset, .unset, .unset, .unset]) (fun _ => rfl) (n := 66) rfl ?_
        intro v419 hv419
        have qa : 0 ≤ v419.toInt ∧ v419.toInt < v418.toInt := by rw [hv419]; exact rem_v (by omega)
        refine G.iloadN C at_66 rfl (n := 67) rfl ?_
        refine G.ldc C (v := (2147483647 : Int32)) (wd hw 0 rfl) at_67 (n := 69) rfl ?_
        refine G.iand C at_69 (n := 70) rfl ?_
        refine G.iload C at_70 rfl (n := 72) rfl ?_
        refine G.irem C at_72 (nz_pos (by omega)) (n := 73) rfl ?_
        refine G.istoreZ C at_73 (l' := fun z => #[.val (.int i0), .val (.int i1), .val (.int i2), .val (.int i3), .val (.int i4), .val (.int i5), .val (.int (0 : Int32)), .val (.int (1 : Int32)), .val (.int (1 : Int32)), .val (.int v417), .val (.int v418), .val (.int v419), .val (.int z), .unset, .unset, .unset, .unset, .unset]) (fun _ => rfl) (n := 75) rfl ?_
        intro v420 hv420
        have qb2 : 0 ≤ v420.toInt ∧ v420.toInt < v418.toInt := by rw [hv420]; exact rem_v (by omega)
        refine G.iload C at_75 rfl (n := 77) rfl ?_
        refine G.sipush C (v := (1023 : Int32)) at_77 (by decide) (n := 80) rfl ?_
        refine G.iand C at_80 (n := 81) rfl ?_
        refine G.istoreZ C at_81 (l' := fun z => #[.val (.int i0), .val (.int i1), .val (.int i2), .val (.int i3), .val (.int i4), .val (.int i5), .val (.int (0 : Int32)), .val (.int (1 : Int32)), .val (.int (1 : Int32)), .val (.int v417), .val (.int v418), .val (.int v419), .val (.int v420), .val (.int z), .unset, .unset, .unset, .unset]) (fun _ => rfl) (n := 83) rfl ?_
        intro v421 hv421
        have qs : 0 ≤ v421.toInt ∧ v421.toInt ≤ 1023 := by rw [hv421]; exact c_and i4 1023 (by decide)
        refine G.new C (wd hw 1 rfl) (wd hw 2 rfl) (wd hw 3 rfl) at_83 (n := 86) rfl (c' := 1) (s' := 9) rfl rfl (by decide) (by decide) ?_
        intro h422 b423 q424 E425 A426 D427
        have g428 : n0 ≤ b423 := Nat.le_trans Z0 (Nat.le_of_eq q424.symm)
        have O429 := Ob_Wn.new hw A426 D427
        have K430 := kext E425
        have Z431 : n0 ≤ h422.size := Nat.le_trans Z0 K430.1
        refine G.dup C at_86 rfl (n := 87) rfl ?_
        refine G.iload C at_87 rfl (n := 89) rfl ?_
        refine G.callC C (argsL := [(.int (0 : Int32))]) (yc := (⟨"com/example/near_miss/nearmiss/search/Window", "<init>", "(Z)V"⟩ : MethodName)) (a := b423) rfl (wd hw 4 rfl) (wd hw 5 rfl) (wd hw 3 rfl) (wd hw 6 rfl) (by decide) (m_init0 l Z a0 hw b423 h422 n0 Z431 O429 g428) rfl (by decide) (W := 1) rfl (by decide) (c' := 3) (s' := 1049) rfl rfl (by decide) (by decide) at_89 (n := 92) rfl pd8 rfl rfl ?_
        rintro _ h444 ⟨rfl, K432, M, Sc, O433, O434, O435, f437, f438, ne440⟩
        have ne445 : b423 ≠ M := Nat.ne_of_lt (Nat.lt_of_lt_of_le O429.lt f437)
        have g446 : n0 ≤ M := Nat.le_trans Z431 f437
        have ne447 : b423 ≠ Sc := Nat.ne_of_lt (Nat.lt_of_lt_of_le O429.lt f438)
        have g448 : n0 ≤ Sc := Nat.le_trans Z431 f438
        have Z449 : n0 ≤ h444.size := Nat.le_trans Z431 K432.1
        refine G.astore C at_92 rfl (l' := #[.val (.int i0), .val (.int i1), .val (.int i2), .val (.int i3), .val (.int i4), .val (.int i5), .val (.int (0 : Int32)), .val (.int (1 : Int32)), .val (.int (1 : Int32)), .val (.int v417), .val (.int v418), .val (.int v419), .val (.int v420), .val (.int v421), .val (.ref b423), .unset, .unset, .unset]) rfl (n := 94) rfl ?_
        refine G.aload C at_94 rfl rfl (n := 96) rfl ?_
        refine G.iload C at_96 rfl (n := 98) rfl ?_
        refine G.iload C at_98 rfl (n := 100) rfl ?_
        refine G.iload C at_100 rfl (n := 102) rfl ?_
        refine G.iadd C at_102 (n := 103) rfl ?_
        refine G.callV C (argsL := [(.int v417), (.int (v417 + v418))]) (yr := (⟨"com/example/near_miss/nearmiss/search/Window", "reset", "(II)V"⟩ : MethodName)) (yc := (⟨"com/example/near_miss/nearmiss/search/Window", "reset", "(II)V"⟩ : MethodName)) (a := b423) (O433.1) (wd hw 20 rfl) (wd hw 21 rfl) (nfS (wd hw 23 rfl) rfl) (wd hw 23 rfl) (wd hw 22 rfl) (wd hw 3 rfl) (wd hw 24 rfl) (by decide) (m_reset0 l Z a0 hw b423 M Sc (0 : Int32) (0 : Int32) (0 : Int32) [0, 0, 0, 0, 0, 0, 0, 0, 0, 0, 0, 0, 0, 0, 0, 0]  v417 (v417 + v418) h444 n0 Z449 O433 O434 O435 ne445 ne447 ne440 g446 g448 rfl g428 (by decide) (by decide) (by decide) (by decide) (by rw [qr.2.2]; omega) (by rw [qe]; exact ql.2)) rfl (by decide) (W := 0) rfl (by decide) (c' := 3) (s' := 1049) rfl rfl (by decide) (by decide) at_103 (n := 106) rfl pd9 rfl rfl ?_
        rintro _ h459 ⟨rfl, K450, O451, us455, O452, Hl456, F457, O453⟩
        have Z460 : n0 ≤ h459.size := Nat.le_trans Z449 K450.1
        have H461 := F457 _ has0 (fun s h => absurd h (Nat.not_lt_zero _))
        refine G.aload C at_106 rfl rfl (n := 108) rfl ?_
        refine G.iload C at_108 rfl (n := 110) rfl ?_
        refine G.iload C at_110 rfl (n := 112) rfl ?_
        refine G.iadd C at_112 (n := 113) rfl ?_
        refine G.dconst1 C at_113 (n := 114) rfl ?_
        refine G.callV C (argsL := [(.int (v417 + v419)), (.double FP.dconst1)]) (yr := (⟨"com/example/near_miss/nearmiss/search/Window", "add", "(ID)V"⟩ : MethodName)) (yc := (⟨"com/example/near_miss/nearmiss/search/Window", "add", "(ID)V"⟩ : MethodName)) (a := b423) (O451.1) (wd hw 31 rfl) (wd hw 32 rfl) (nfS (wd hw 34 rfl) rfl) (wd hw 34 rfl) (wd hw 33 rfl) (wd hw 3 rfl) (wd hw 35 rfl) (by decide) (m_add l Z a0 hw b423 M Sc (0 : Int32) .null (((((v417 + v418) - v417) + (64 : Int32)) - (1 : Int32)) / (64 : Int32)) v417 (v417 + v418) us455 (v417 + v419) v419 FP.dconst1 h459 n0 Z460 O451 O452 O453 ne445 ne447 ne440 g446 g448 Hl456 (asub _ _) qa.1 (by omega) (by rw [qe]; exact qa.2)) rfl (by decide) (W := 0) rfl (by decide) (c' := 3) (s' := 1049) rfl rfl (by decide) (by decide) at_114 (n := 117) rfl pd6 rfl rfl ?_
        rintro _ h469 ⟨rfl, K462, us465, O463, Hl466, F467, O464⟩
        have O470 := O451.keep K462 (ninS ne445 (ninS ne447 nin0))
        have Z471 : n0 ≤ h469.size := Nat.le_trans Z460 K462.1
        have H472 := F467 _ H461
        refine G.iload C at_117 rfl (n := 119) rfl ?_
        refine G.iload C at_119 rfl (n := 121) rfl ?_
        refine G.icmp_eq C (A := v420.toInt) (B := v419.toInt) rfl rfl at_121 (by decide) (by decide) (n := 124) (n' := 137) rfl (fun c121_473 c121_473i => ?_) (fun c121_473 c121_473i => ?_)
        · refine G.iload C at_137 rfl (n := 139) rfl ?_
          refine G.if_eq C (A := 1) (by decide) at_139 (by decide) (by decide) (n := 142) (n' := 154) rfl (fun c139_474 c139_474i => ?_) (fun c139_474 c139_474i => ?_)
          · exact absurd c139_474 (by decide)
          refine G.aload C at_142 rfl rfl (n := 144) rfl ?_
          refine G.iload C at_144 rfl (n := 146) rfl ?_
          refine G.iload C at_146 rfl (n := 148) rfl ?_
          refine G.iload C at_148 rfl (n := 150) rfl ?_
          refine G.iadd C at_150 (n := 151) rfl ?_
          refine G.callV C (argsL := [(.int v417), (.int (v417 + v418))]) (yr := (⟨"com/example/near_miss/nearmiss/search/Window", "reset", "(II)V"⟩ : MethodName)) (yc := (⟨"com/example/near_miss/nearmiss/search/Window", "reset", "(II)V"⟩ : MethodName)) (a := b423) (O470.1) (wd hw 20 rfl) (wd hw 21 rfl) (nfS (wd hw 23 rfl) rfl) (wd hw 23 rfl) (wd hw 22 rfl) (wd hw 3 rfl) (wd hw 24 rfl) (by decide) (m_reset0 l Z a0 hw b423 M Sc (((((v417 + v418) - v417) + (64 : Int32)) - (1 : Int32)) / (64 : Int32)) v417 (v417 + v418) us465  v417 (v417 + v418) h469 n0 Z471 O470 O463 O464 ne445 ne447 ne440 g446 g448 Hl466 g428 (by rw [qwd2]; omega) (by rw [qwd2]; omega) (by rw [qe]; omega) (by rw [qe]; omega) (by rw [qr.2.2]; omega) (by rw [qe]; exact ql.2)) rfl (by decide) (W := 0) rfl (by decide) (c' := 3) (s' := 1049) rfl rfl (by decide) (by decide) at_151 (n := 154) rfl pd9 rfl rfl ?_
          rintro _ h484 ⟨rfl, K475, O476, us480, O477, Hl481, F482, O478⟩
          have Z485 : n0 ≤ h484.size := Nat.le_trans Z471 K475.1
          have H486 := F482 _ H472 (fun s h => by rw [qwd]; omega)
          refine G.iload C at_154 rfl (n := 156) rfl ?_
          refine G.if_eq C (A := 1) (by decide) at_156 (by decide) (by decide) (n := 159) (n' := 166) rfl (fun c156_487 c156_487i => ?_) (fun c156_487 c156_487i => ?_)
          · exact absurd c156_487 (by decide)
          refine G.aload C at_159 rfl rfl (n := 161) rfl ?_
          refine G.iload C at_161 rfl (n := 163) rfl ?_
          refine G.callV C (argsL := [(.int v419)]) (yr := (⟨"com/example/near_miss/nearmiss/search/Window", "remove", "(I)V"⟩ : MethodName)) (yc := (⟨"com/example/near_miss/nearmiss/search/Window", "remove", "(I)V"⟩ : MethodName)) (a := b423) (O476.1) (wd hw 83 rfl) (wd hw 84 rfl) (nfS (wd hw 86 rfl) rfl) (wd hw 86 rfl) (wd hw 85 rfl) (wd hw 3 rfl) (wd hw 87 rfl) (by decide) (m_remove l Z a0 hw b423 M Sc (0 : Int32) .null (((((v417 + v418) - v417) + (64 : Int32)) - (1 : Int32)) / (64 : Int32)) v417 (v417 + v418) us480 v419 h484 n0 Z485 O476 O477 O478 ne445 ne447 ne440 g446 g448 Hl481 qa.1 (by omega)) rfl (by decide) (W := 0) rfl (by decide) (c' := 3) (s' := 1049) rfl rfl (by decide) (by decide) at_163 (n := 166) rfl pd11 rfl rfl ?_
          rintro _ h495 ⟨rfl, K488, us491, O489, Hl492, F493, O490⟩
          have O496 := O476.keep K488 (ninS ne445 (ninS ne447 nin0))
          have Z497 : n0 ≤ h495.size := Nat.le_trans Z485 K488.1
          have H498 := F493 _ H486
          refine G.iload C at_166 rfl (n := 168) rfl ?_
          refine G.if_eq C (A := 1) (by decide) at_168 (by decide) (by decide) (n := 171) (n' := 177) rfl (fun c168_499 c168_499i => ?_) (fun c168_499 c168_499i => ?_)
          · exact absurd c168_499 (by decide)
          refine G.iconst C (v := (0 : Int32)) at_171 (by decide) (n := 172) rfl ?_
          refine G.istore C at_172 (l' := #[.val (.int i0), .val (.int i1), .val (.int i2), .val (.int i3), .val (.int i4), .val (.int i5), .val (.int (0 : Int32)), .val (.int (1 : Int32)), .val (.int (1 : Int32)), .val (.int v417), .val (.int v418), .val (.int v419), .val (.int v420), .val (.int v421), .val (.ref b423), .val (.int (0 : Int32)), .unset, .unset]) rfl (n := 174) rfl ?_
          refine G.goto C at_174 (by decide) (n := 234) (by decide) ?_
          refine G.aload C at_234 rfl rfl (n := 236) rfl ?_
          refine G.iload C at_236 rfl (n := 238) rfl ?_
          refine G.callV C (argsL := [(.int v421)]) (yr := (⟨"com/example/near_miss/nearmiss/search/Window", "holds", "(I)Z"⟩ : MethodName)) (yc := (⟨"com/example/near_miss/nearmiss/search/Window", "holds", "(I)Z"⟩ : MethodName)) (a := b423) (O496.1) (wd hw 53 rfl) (wd hw 54 rfl) (nfS (wd hw 56 rfl) rfl) (wd hw 56 rfl) (wd hw 55 rfl) (wd hw 3 rfl) (wd hw 57 rfl) (by decide) (m_holds l Z a0 hw b423 M Sc (0 : Int32) .null (((((v417 + v418) - v417) + (64 : Int32)) - (1 : Int32)) / (64 : Int32)) v417 (v417 + v418) us491 v421 h495 n0 Z497 O496 O489 O490 ne445 ne447 ne440 g446 g448 Hl492 qs.1 (by omega)) rfl (by decide) (W := 0) rfl (by decide) (c' := 3) (s' := 1049) rfl rfl (by decide) (by decide) at_238 (n := 241) rfl pd10 rfl rfl ?_
          rintro _ h501 ⟨rr, rfl, Fr0, rfl⟩
          have Hr := Fr0 _ H498
          refine G.iload C at_241 rfl (n := 243) rfl ?_
          refine G.icmp_ne C (A := rr.toInt) (B := 0) rfl (by decide) at_243 (by decide) (by decide) (n := 246) (n' := 250) rfl (fun c243_502 c243_502i => ?_) (fun c243_502 c243_502i => ?_)
          · rcases Hr with ⟨r1, r2⟩ | ⟨r1, r2⟩ <;> first | exact absurd r1 c243_502 | (exfalso; omega)
          refine G.iconst C (v := (1 : Int32)) at_246 (by decide) (n := 247) rfl ?_
          refine G.goto C at_247 (by decide) (n := 251) (by decide) ?_
          refine G.ireturn C at_251 (rfl) (by simp) (by decide) (by decide) ?_
          exact rfl
        · refine G.aload C at_124 rfl rfl (n := 126) rfl ?_
          refine G.iload C at_126 rfl (n := 128) rfl ?_
          refine G.iload C at_128 rfl (n := 130) rfl ?_
          refine G.iadd C at_130 (n := 131) rfl ?_
          refine G.ldc2D C (v := (4611686018427387904 : UInt64)) (wd hw 52 rfl) at_131 (n := 134) rfl ?_
          refine G.callV C (argsL := [(.int (v417 + v420)), (.double (4611686018427387904 : UInt64))]) (yr := (⟨"com/example/near_miss/nearmiss/search/Window", "add", "(ID)V"⟩ : MethodName)) (yc := (⟨"com/example/near_miss/nearmiss/search/Window", "add", "(ID)V"⟩ : MethodName)) (a := b423) (O470.1) (wd hw 31 rfl) (wd hw 32 rfl) (nfS (wd hw 34 rfl) rfl) (wd hw 34 rfl) (wd hw 33 rfl) (wd hw 3 rfl) (wd hw 35 rfl) (by decide) (m_add l Z a0 hw b423 M Sc (0 : Int32) .null (((((v417 + v418) - v417) + (64 : Int32)) - (1 : Int32)) / (64 : Int32)) v417 (v417 + v418) us465 (v417 + v420) v420 (4611686018427387904 : UInt64) h469 n0 Z471 O470 O463 O464 ne445 ne447 ne440 g446 g448 Hl466 (asub _ _) qb2.1 (by omega) (by rw [qe]; exact qb2.2)) rfl (by decide) (W := 0) rfl (by decide) (c' := 3) (s' := 1049) rfl rfl (by decide) (by decide) at_134 (n := 137) rfl pd6 rfl rfl ?_
          rintro _ h510 ⟨rfl, K503, us506, O504, Hl507, F508, O505⟩
          have O511 := O470.keep K503 (ninS ne445 (ninS ne447 nin0))
          have Z512 : n0 ≤ h510.size := Nat.le_trans Z471 K503.1
          have H513 := F508 _ H472
          refine G.iload C at_137 rfl (n := 139) rfl ?_
          refine G.if_eq C (A := 1) (by decide) at_139 (by decide) (by decide) (n := 142) (n' := 154) rfl (fun c139_514 c139_514i => ?_) (fun c139_514 c139_514i => ?_)
          · exact absurd c139_514 (by decide)
          refine G.aload C at_142 rfl rfl (n := 144) rfl ?_
          refine G.iload C at_144 rfl (n := 146) rfl ?_
          refine G.iload C at_146 rfl (n := 148) rfl ?_
          refine G.iload C at_148 rfl (n := 150) rfl ?_
          refine G.iadd C at_150 (n := 151) rfl ?_
          refine G.callV C (argsL := [(.int v417), (.int (v417 + v418))]) (yr := (⟨"com/example/near_miss/nearmiss/search/Window", "reset", "(II)V"⟩ : MethodName)) (yc := (⟨"com/example/near_miss/nearmiss/search/Window", "reset", "(II)V"⟩ : MethodName)) (a := b423) (O511.1) (wd hw 20 rfl) (wd hw 21 rfl) (nfS (wd hw 23 rfl) rfl) (wd hw 23 rfl) (wd hw 22 rfl) (wd hw 3 rfl) (wd hw 24 rfl) (by decide) (m_reset0 l Z a0 hw b423 M Sc (((((v417 + v418) - v417) + (64 : Int32)) - (1 : Int32)) / (64 : Int32)) v417 (v417 + v418) us506  v417 (v417 + v418) h510 n0 Z512 O511 O504 O505 ne445 ne447 ne440 g446 g448 Hl507 g428 (by rw [qwd2]; omega) (by rw [qwd2]; omega) (by rw [qe]; omega) (by rw [qe]; omega) (by rw [qr.2.2]; omega) (by rw [qe]; exact ql.2)) rfl (by decide) (W := 0) rfl (by decide) (c' := 3) (s' := 1049) rfl rfl (by decide) (by decide) at_151 (n := 154) rfl pd9 rfl rfl ?_
          rintro _ h524 ⟨rfl, K515, O516, us520, O517, Hl521, F522, O518⟩
          have Z525 : n0 ≤ h524.size := Nat.le_trans Z512 K515.1
          have H526 := F522 _ H513 (fun s h => by rw [qwd]; omega)
          refine G.iload C at_154 rfl (n := 156) rfl ?_
          refine G.if_eq C (A := 1) (by decide) at_156 (by decide) (by decide) (n := 159) (n' := 166) rfl (fun c156_527 c156_527i => ?_) (fun c156_527 c156_527i => ?_)
          · exact absurd c156_527 (by decide)
          refine G.aload C at_159 rfl rfl (n := 161) rfl ?_
          refine G.iload C at_161 rfl (n := 163) rfl ?_
          refine G.callV C (argsL := [(.int v419)]) (yr := (⟨"com/example/near_miss/nearmiss/search/Window", "remove", "(I)V"⟩ : MethodName)) (yc := (⟨"com/example/near_miss/nearmiss/search/Window", "remove", "(I)V"⟩ : MethodName)) (a := b423) (O516.1) (wd hw 83 rfl) (wd hw 84 rfl) (nfS (wd hw 86 rfl) rfl) (wd hw 86 rfl) (wd hw 85 rfl) (wd hw 3 rfl) (wd hw 87 rfl) (by decide) (m_remove l Z a0 hw b423 M Sc (0 : Int32) .null (((((v417 + v418) - v417) + (64 : Int32)) - (1 : Int32)) / (64 : Int32)) v417 (v417 + v418) us520 v419 h524 n0 Z525 O516 O517 O518 ne445 ne447 ne440 g446 g448 Hl521 qa.1 (by omega)) rfl (by decide) (W := 0) rfl (by decide) (c' := 3) (s' := 1049) rfl rfl (by decide) (by decide) at_163 (n := 166) rfl pd11 rfl rfl ?_
          rintro _ h535 ⟨rfl, K528, us531, O529, Hl532, F533, O530⟩
          have O536 := O516.keep K528 (ninS ne445 (ninS ne447 nin0))
          have Z537 : n0 ≤ h535.size := Nat.le_trans Z525 K528.1
          have H538 := F533 _ H526
          refine G.iload C at_166 rfl (n := 168) rfl ?_
          refine G.if_eq C (A := 1) (by decide) at_168 (by decide) (by decide) (n := 171) (n' := 177) rfl (fun c168_539 c168_539i => ?_) (fun c168_539 c168_539i => ?_)
          · exact absurd c168_539 (by decide)
          refine G.iconst C (v := (0 : Int32)) at_171 (by decide) (n := 172) rfl ?_
          refine G.istore C at_172 (l' := #[.val (.int i0), .val (.int i1), .val (.int i2), .val (.int i3), .val (.int i4), .val (.int i5), .val (.int (0 : Int32)), .val (.int (1 : Int32)), .val (.int (1 : Int32)), .val (.int v417), .val (.int v418), .val (.int v419), .val (.int v420), .val (.int v421), .val (.ref b423), .val (.int (0 : Int32)), .unset, .unset]) rfl (n := 174) rfl ?_
          refine G.goto C at_174 (by decide) (n := 234) (by decide) ?_
          refine G.aload C at_234 rfl rfl (n := 236) rfl ?_
          refine G.iload C at_236 rfl (n := 238) rfl ?_
          refine G.callV C (argsL := [(.int v421)]) (yr := (⟨"com/example/near_miss/nearmiss/search/Window", "holds", "(I)Z"⟩ : MethodName)) (yc := (⟨"com/example/near_miss/nearmiss/search/Window", "holds", "(I)Z"⟩ : MethodName)) (a := b423) (O536.1) (wd hw 53 rfl) (wd hw 54 rfl) (nfS (wd hw 56 rfl) rfl) (wd hw 56 rfl) (wd hw 55 rfl) (wd hw 3 rfl) (wd hw 57 rfl) (by decide) (m_holds l Z a0 hw b423 M Sc (0 : Int32) .null (((((v417 + v418) - v417) + (64 : Int32)) - (1 : Int32)) / (64 : Int32)) v417 (v417 + v418) us531 v421 h535 n0 Z537 O536 O529 O530 ne445 ne447 ne440 g446 g448 Hl532 qs.1 (by omega)) rfl (by decide) (W := 0) rfl (by decide) (c' := 3) (s' := 1049) rfl rfl (by decide) (by decide) at_238 (n := 241) rfl pd10 rfl rfl ?_
          rintro _ h541 ⟨rr, rfl, Fr0, rfl⟩
          have Hr := Fr0 _ H538
          refine G.iload C at_241 rfl (n := 243) rfl ?_
          refine G.icmp_ne C (A := rr.toInt) (B := 0) rfl (by decide) at_243 (by decide) (by decide) (n := 246) (n' := 250) rfl (fun c243_542 c243_542i => ?_) (fun c243_542 c243_542i => ?_)
          · rcases Hr with ⟨r1, r2⟩ | ⟨r1, r2⟩ <;> first | exact absurd r1 c243_542 | (exfalso; omega)
          refine G.iconst C (v := (1 : Int32)) at_246 (by decide) (n := 247) rfl ?_
          refine G.goto C at_247 (by decide) (n := 251) (by decide) ?_
          refine G.ireturn C at_251 (rfl) (by simp) (by decide) (by decide) ?_
          exact rfl
  · refine G.iconst C (v := (1 : Int32)) at_6 (by decide) (n := 7) rfl ?_
    refine G.goto C at_7 (by decide) (n := 11) (by decide) ?_
    refine G.istore C at_11 (l' := #[.val (.int i0), .val (.int i1), .val (.int i2), .val (.int i3), .val (.int i4), .val (.int i5), .val (.int (1 : Int32)), .unset, .unset, .unset, .unset, .unset, .unset, .unset, .unset, .unset, .unset, .unset]) rfl (n := 13) rfl ?_
    refine G.iloadN C at_13 rfl (n := 14) rfl ?_
    refine G.iconst C (v := (2 : Int32)) at_14 (by decide) (n := 15) rfl ?_
    refine G.iand C at_15 (n := 16) rfl ?_
    refine G.if_eq C (A := (i0 &&& (2 : Int32)).toInt) rfl at_16 (by decide) (by decide) (n := 19) (n' := 23) rfl (fun c16_543 c16_543i => ?_) (fun c16_543 c16_543i => ?_)
    · refine G.iconst C (v := (0 : Int32)) at_23 (by decide) (n := 24) rfl ?_
      refine G.istore C at_24 (l' := #[.val (.int i0), .val (.int i1), .val (.int i2), .val (.int i3), .val (.int i4), .val (.int i5), .val (.int (1 : Int32)), .val (.int (0 : Int32)), .unset, .unset, .unset, .unset, .unset, .unset, .unset, .unset, .unset, .unset]) rfl (n := 26) rfl ?_
      refine G.iloadN C at_26 rfl (n := 27) rfl ?_
      refine G.iconst C (v := (4 : Int32)) at_27 (by decide) (n := 28) rfl ?_
      refine G.iand C at_28 (n := 29) rfl ?_
      refine G.if_eq C (A := (i0 &&& (4 : Int32)).toInt) rfl at_29 (by decide) (by decide) (n := 32) (n' := 36) rfl (fun c29_544 c29_544i => ?_) (fun c29_544 c29_544i => ?_)
      · refine G.iconst C (v := (0 : Int32)) at_36 (by decide) (n := 37) rfl ?_
        refine G.istore C at_37 (l' := #[.val (.int i0), .val (.int i1), .val (.int i2), .val (.int i3), .val (.int i4), .val (.int i5), .val (.int (1 : Int32)), .val (.int (0 : Int32)), .val (.int (0 : Int32)), .unset, .unset, .unset, .unset, .unset, .unset, .unset, .unset, .unset]) rfl (n := 39) rfl ?_
        refine G.iload C at_39 rfl (n := 41) rfl ?_
        refine G.iconst C (v := (2 : Int32)) at_41 (by decide) (n := 42) rfl ?_
        refine G.ishr C at_42 (n := 43) rfl ?_
        refine G.istoreZ C at_43 (l' := fun z => #[.val (.int i0), .val (.int i1), .val (.int i2), .val (.int i3), .val (.int i4), .val (.int i5), .val (.int (1 : Int32)), .val (.int (0 : Int32)), .val (.int (0 : Int32)), .val (.int z), .unset, .unset, .unset, .unset, .unset, .unset, .unset, .unset]) (fun _ => rfl) (n := 45) rfl ?_
        intro v545 hv545
        have qb : v545.toInt < 1000000000 := by rw [hv545, c_ishr i5 2 2 (by decide)]; have := rng32 i5; show _ / 4 < _; omega
        refine G.iloadN C at_45 rfl (n := 46) rfl ?_
        refine G.ldc C (v := (2147483647 : Int32)) (wd hw 0 rfl) at_46 (n := 48) rfl ?_
        refine G.iand C at_48 (n := 49) rfl ?_
        refine G.sipush C (v := (1024 : Int32)) at_49 (by decide) (n := 52) rfl ?_
        refine G.irem C at_52 (by decide) (n := 53) rfl ?_
        refine G.iconst C (v := (1 : Int32)) at_53 (by decide) (n := 54) rfl ?_
        refine G.iadd C at_54 (n := 55) rfl ?_
        refine G.istoreZ C at_55 (l' := fun z => #[.val (.int i0), .val (.int i1), .val (.int i2), .val (.int i3), .val (.int i4), .val (.int i5), .val (.int (1 : Int32)), .val (.int (0 : Int32)), .val (.int (0 : Int32)), .val (.int v545), .val (.int z), .unset, .unset, .unset, .unset, .unset, .unset, .unset]) (fun _ => rfl) (n := 57) rfl ?_
        intro v546 hv546
        have ql : 1 ≤ v546.toInt ∧ v546.toInt ≤ 1024 := by have r := rem_v (x := i1) (d := 1024) (by decide); rw [show (1024 : Int32).toInt = 1024 from rfl] at r; rw [hv546, Int32.add_comm, addk (K := 1) (by decide) (by omega) (by omega)]; omega
        have qr := rsub (x := v545) (l := v546) (by omega) ql.2 qb
        have qe := qr.2.1
        have qwd2 : (((((v545 + v546) - v545) + (64 : Int32)) - (1 : Int32)) / (64 : Int32)).toInt = (v546.toInt + 63) / 64 := by rw [asub]; exact words_at ql.1 ql.2
        have qwd : (((((v545 + v546) - v545) + (64 : Int32)) - (1 : Int32)) / (64 : Int32)).toInt.toNat = (v546.toInt.toNat + 63) / 64 := by rw [qwd2]; omega
        refine G.iloadN C at_57 rfl (n := 58) rfl ?_
        refine G.ldc C (v := (2147483647 : Int32)) (wd hw 0 rfl) at_58 (n := 60) rfl ?_
        refine G.iand C at_60 (n := 61) rfl ?_
        refine G.iload C at_61 rfl (n := 63) rfl ?_
        refine G.irem C at_63 (nz_pos (by omega)) (n := 64) rfl ?_
        refine G.istoreZ C at_64 (l' := fun z => #[.val (.int i0), .val (.int i1), .val (.int i2), .val (.int i3), .val (.int i4), .val (.int i5), .val (.int (1 : Int32)), .val (.int (0 : Int32)), .val (.int (0 : Int32)), .val (.int v545), .val (.int v546), .val (.int z), .unset, .unset, .unset, .unset, .unset, .unset]) (fun _ => rfl) (n := 66) rfl ?_
        intro v547 hv547
        have qa : 0 ≤ v547.toInt ∧ v547.toInt < v546.toInt := by rw [hv547]; exact rem_v (by omega)
        refine G.iloadN C at_66 rfl (n := 67) rfl ?_
        refine G.ldc C (v := (2147483647 : Int32)) (wd hw 0 rfl) at_67 (n := 69) rfl ?_
        refine G.iand C at_69 (n := 70) rfl ?_
        refine G.iload C at_70 rfl (n := 72) rfl ?_
        refine G.irem C at_72 (nz_pos (by omega)) (n := 73) rfl ?_
        refine G.istoreZ C at_73 (l' := fun z => #[.val (.int i0), .val (.int i1), .val (.int i2), .val (.int i3), .val (.int i4), .val (.int i5), .val (.int (1 : Int32)), .val (.int (0 : Int32)), .val (.int (0 : Int32)), .val (.int v545), .val (.int v546), .val (.int v547), .val (.int z), .unset, .unset, .unset, .unset, .unset]) (fun _ => rfl) (n := 75) rfl ?_
        intro v548 hv548
        have qb2 : 0 ≤ v548.toInt ∧ v548.toInt < v546.toInt := by rw [hv548]; exact rem_v (by omega)
        refine G.iload C at_75 rfl (n := 77) rfl ?_
        refine G.sipush C (v := (1023 : Int32)) at_77 (by decide) (n := 80) rfl ?_
        refine G.iand C at_80 (n := 81) rfl ?_
        refine G.istoreZ C at_81 (l' := fun z => #[.val (.int i0), .val (.int i1), .val (.int i2), .val (.int i3), .val (.int i4), .val (.int i5), .val (.int (1 : Int32)), .val (.int (0 : Int32)), .val (.int (0 : Int32)), .val (.int v545), .val (.int v546), .val (.int v547), .val (.int v548), .val (.int z), .unset, .unset, .unset, .unset]) (fun _ => rfl) (n := 83) rfl ?_
        intro v549 hv549
        have qs : 0 ≤ v549.toInt ∧ v549.toInt ≤ 1023 := by rw [hv549]; exact c_and i4 1023 (by decide)
        refine G.new C (wd hw 1 rfl) (wd hw 2 rfl) (wd hw 3 rfl) at_83 (n := 86) rfl (c' := 1) (s' := 9) rfl rfl (by decide) (by decide) ?_
        intro h550 b551 q552 E553 A554 D555
        have g556 : n0 ≤ b551 := Nat.le_trans Z0 (Nat.le_of_eq q552.symm)
        have O557 := Ob_Wn.new hw A554 D555
        have K558 := kext E553
        have Z559 : n0 ≤ h550.size := Nat.le_trans Z0 K558.1
        refine G.dup C at_86 rfl (n := 87) rfl ?_
        refine G.iload C at_87 rfl (n := 89) rfl ?_
        refine G.callC C (argsL := [(.int (1 : Int32))]) (yc := (⟨"com/example/near_miss/nearmiss/search/Window", "<init>", "(Z)V"⟩ : MethodName)) (a := b551) rfl (wd hw 4 rfl) (wd hw 5 rfl) (wd hw 3 rfl) (wd hw 6 rfl) (by decide) (m_init1 l Z a0 hw b551 h550 n0 Z559 O557 g556) rfl (by decide) (W := 1) rfl (by decide) (c' := 4) (s' := 2073) rfl rfl (by decide) (by decide) at_89 (n := 92) rfl pd8 rfl rfl ?_
        rintro _ h572 ⟨rfl, K560, M, Sc, X, O561, O562, O563, f565, f566, ne568, O564, f567, ne569, ne570⟩
        have ne573 : b551 ≠ M := Nat.ne_of_lt (Nat.lt_of_lt_of_le O557.lt f565)
        have g574 : n0 ≤ M := Nat.le_trans Z559 f565
        have ne575 : b551 ≠ Sc := Nat.ne_of_lt (Nat.lt_of_lt_of_le O557.lt f566)
        have g576 : n0 ≤ Sc := Nat.le_trans Z559 f566
        have ne577 : b551 ≠ X := Nat.ne_of_lt (Nat.lt_of_lt_of_le O557.lt f567)
        have g578 : n0 ≤ X := Nat.le_trans Z559 f567
        have Z579 : n0 ≤ h572.size := Nat.le_trans Z559 K560.1
        refine G.astore C at_92 rfl (l' := #[.val (.int i0), .val (.int i1), .val (.int i2), .val (.int i3), .val (.int i4), .val (.int i5), .val (.int (1 : Int32)), .val (.int (0 : Int32)), .val (.int (0 : Int32)), .val (.int v545), .val (.int v546), .val (.int v547), .val (.int v548), .val (.int v549), .val (.ref b551), .unset, .unset, .unset]) rfl (n := 94) rfl ?_
        refine G.aload C at_94 rfl rfl (n := 96) rfl ?_
        refine G.iload C at_96 rfl (n := 98) rfl ?_
        refine G.iload C at_98 rfl (n := 100) rfl ?_
        refine G.iload C at_100 rfl (n := 102) rfl ?_
        refine G.iadd C at_102 (n := 103) rfl ?_
        refine G.callV C (argsL := [(.int v545), (.int (v545 + v546))]) (yr := (⟨"com/example/near_miss/nearmiss/search/Window", "reset", "(II)V"⟩ : MethodName)) (yc := (⟨"com/example/near_miss/nearmiss/search/Window", "reset", "(II)V"⟩ : MethodName)) (a := b551) (O561.1) (wd hw 20 rfl) (wd hw 21 rfl) (nfS (wd hw 23 rfl) rfl) (wd hw 23 rfl) (wd hw 22 rfl) (wd hw 3 rfl) (wd hw 24 rfl) (by decide) (m_reset1 l Z a0 hw b551 M Sc (0 : Int32) (0 : Int32) (0 : Int32) [0, 0, 0, 0, 0, 0, 0, 0, 0, 0, 0, 0, 0, 0, 0, 0] X v545 (v545 + v546) h572 n0 Z579 O561 O562 O563 ne573 ne575 ne568 g574 g576 rfl g556 O564 ne577 ne569 ne570 g578 (by decide) (by decide) (by decide) (by decide) (by rw [qr.2.2]; omega) (by rw [qe]; exact ql.2)) rfl (by decide) (W := 0) rfl (by decide) (c' := 4) (s' := 2073) rfl rfl (by decide) (by decide) at_103 (n := 106) rfl pd9 rfl rfl ?_
        rintro _ h589 ⟨rfl, K580, O581, us585, O582, Hl586, F587, O583, O584⟩
        have Z590 : n0 ≤ h589.size := Nat.le_trans Z579 K580.1
        have H591 := F587 _ has0 (fun s h => absurd h (Nat.not_lt_zero _))
        refine G.aload C at_106 rfl rfl (n := 108) rfl ?_
        refine G.iload C at_108 rfl (n := 110) rfl ?_
        refine G.iload C at_110 rfl (n := 112) rfl ?_
        refine G.iadd C at_112 (n := 113) rfl ?_
        refine G.dconst1 C at_113 (n := 114) rfl ?_
        refine G.callV C (argsL := [(.int (v545 + v547)), (.double FP.dconst1)]) (yr := (⟨"com/example/near_miss/nearmiss/search/Window", "add", "(ID)V"⟩ : MethodName)) (yc := (⟨"com/example/near_miss/nearmiss/search/Window", "add", "(ID)V"⟩ : MethodName)) (a := b551) (O581.1) (wd hw 31 rfl) (wd hw 32 rfl) (nfS (wd hw 34 rfl) rfl) (wd hw 34 rfl) (wd hw 33 rfl) (wd hw 3 rfl) (wd hw 35 rfl) (by decide) (m_add l Z a0 hw b551 M Sc (1 : Int32) (.ref X) (((((v545 + v546) - v545) + (64 : Int32)) - (1 : Int32)) / (64 : Int32)) v545 (v545 + v546) us585 (v545 + v547) v547 FP.dconst1 h589 n0 Z590 O581 O582 O583 ne573 ne575 ne568 g574 g576 Hl586 (asub _ _) qa.1 (by omega) (by rw [qe]; exact qa.2)) rfl (by decide) (W := 0) rfl (by decide) (c' := 4) (s' := 2073) rfl rfl (by decide) (by decide) at_114 (n := 117) rfl pd6 rfl rfl ?_
        rintro _ h599 ⟨rfl, K592, us595, O593, Hl596, F597, O594⟩
        have O600 := O581.keep K592 (ninS ne573 (ninS ne575 nin0))
        have O601 := O584.keep K592 (ninS (Ne.symm ne569) (ninS (Ne.symm ne570) nin0))
        have Z602 : n0 ≤ h599.size := Nat.le_trans Z590 K592.1
        have H603 := F597 _ H591
        refine G.iload C at_117 rfl (n := 119) rfl ?_
        refine G.iload C at_119 rfl (n := 121) rfl ?_
        refine G.icmp_eq C (A := v548.toInt) (B := v547.toInt) rfl rfl at_121 (by decide) (by decide) (n := 124) (n' := 137) rfl (fun c121_604 c121_604i => ?_) (fun c121_604 c121_604i => ?_)
        · refine G.iload C at_137 rfl (n := 139) rfl ?_
          refine G.if_eq C (A := 0) (by decide) at_139 (by decide) (by decide) (n := 142) (n' := 154) rfl (fun c139_605 c139_605i => ?_) (fun c139_605 c139_605i => ?_)
          rotate_left
          · exact absurd c139_605 (by decide)
          refine G.iload C at_154 rfl (n := 156) rfl ?_
          refine G.if_eq C (A := 0) (by decide) at_156 (by decide) (by decide) (n := 159) (n' := 166) rfl (fun c156_606 c156_606i => ?_) (fun c156_606 c156_606i => ?_)
          rotate_left
          · exact absurd c156_606 (by decide)
          refine G.iload C at_166 rfl (n := 168) rfl ?_
          refine G.if_eq C (A := 0) (by decide) at_168 (by decide) (by decide) (n := 171) (n' := 177) rfl (fun c168_607 c168_607i => ?_) (fun c168_607 c168_607i => ?_)
          rotate_left
          · exact absurd c168_607 (by decide)
          refine G.iload C at_177 rfl (n := 179) rfl ?_
          refine G.iload C at_179 rfl (n := 181) rfl ?_
          refine G.icmp_ne C (A := v549.toInt) (B := v547.toInt) rfl rfl at_181 (by decide) (by decide) (n := 184) (n' := 193) rfl (fun c181_608 c181_608i => ?_) (fun c181_608 c181_608i => ?_)
          · refine G.iconst C (v := (0 : Int32)) at_193 (by decide) (n := 194) rfl ?_
            refine G.istore C at_194 (l' := #[.val (.int i0), .val (.int i1), .val (.int i2), .val (.int i3), .val (.int i4), .val (.int i5), .val (.int (1 : Int32)), .val (.int (0 : Int32)), .val (.int (0 : Int32)), .val (.int v545), .val (.int v546), .val (.int v547), .val (.int v548), .val (.int v549), .val (.ref b551), .unset, .val (.int (0 : Int32)), .unset]) rfl (n := 196) rfl ?_
            refine G.iload C at_196 rfl (n := 198) rfl ?_
            refine G.iload C at_198 rfl (n := 200) rfl ?_
            refine G.icmp_eq C (A := v548.toInt) (B := v547.toInt) rfl rfl at_200 (by decide) (by decide) (n := 203) (n' := 214) rfl (fun c200_609 c200_609i => ?_) (fun c200_609 c200_609i => ?_)
            · refine G.iconst C (v := (0 : Int32)) at_214 (by decide) (n := 215) rfl ?_
              refine G.istore C at_215 (l' := #[.val (.int i0), .val (.int i1), .val (.int i2), .val (.int i3), .val (.int i4), .val (.int i5), .val (.int (1 : Int32)), .val (.int (0 : Int32)), .val (.int (0 : Int32)), .val (.int v545), .val (.int v546), .val (.int v547), .val (.int v548), .val (.int v549), .val (.ref b551), .unset, .val (.int (0 : Int32)), .val (.int (0 : Int32))]) rfl (n := 217) rfl ?_
              refine G.iload C at_217 rfl (n := 219) rfl ?_
              refine G.if_ne C (A := 0) (by decide) at_219 (by decide) (by decide) (n := 222) (n' := 227) rfl (fun c219_610 c219_610i => ?_) (fun c219_610 c219_610i => ?_)
              · exact absurd c219_610 (by decide)
              refine G.iload C at_222 rfl (n := 224) rfl ?_
              refine G.if_eq C (A := 0) (by decide) at_224 (by decide) (by decide) (n := 227) (n' := 231) rfl (fun c224_611 c224_611i => ?_) (fun c224_611 c224_611i => ?_)
              rotate_left
              · exact absurd c224_611 (by decide)
              refine G.iconst C (v := (0 : Int32)) at_231 (by decide) (n := 232) rfl ?_
              refine G.istore C at_232 (l' := #[.val (.int i0), .val (.int i1), .val (.int i2), .val (.int i3), .val (.int i4), .val (.int i5), .val (.int (1 : Int32)), .val (.int (0 : Int32)), .val (.int (0 : Int32)), .val (.int v545), .val (.int v546), .val (.int v547), .val (.int v548), .val (.int v549), .val (.ref b551), .val (.int (0 : Int32)), .val (.int (0 : Int32)), .val (.int (0 : Int32))]) rfl (n := 234) rfl ?_
              refine G.aload C at_234 rfl rfl (n := 236) rfl ?_
              refine G.iload C at_236 rfl (n := 238) rfl ?_
              refine G.callV C (argsL := [(.int v549)]) (yr := (⟨"com/example/near_miss/nearmiss/search/Window", "holds", "(I)Z"⟩ : MethodName)) (yc := (⟨"com/example/near_miss/nearmiss/search/Window", "holds", "(I)Z"⟩ : MethodName)) (a := b551) (O600.1) (wd hw 53 rfl) (wd hw 54 rfl) (nfS (wd hw 56 rfl) rfl) (wd hw 56 rfl) (wd hw 55 rfl) (wd hw 3 rfl) (wd hw 57 rfl) (by decide) (m_holds l Z a0 hw b551 M Sc (1 : Int32) (.ref X) (((((v545 + v546) - v545) + (64 : Int32)) - (1 : Int32)) / (64 : Int32)) v545 (v545 + v546) us595 v549 h599 n0 Z602 O600 O593 O594 ne573 ne575 ne568 g574 g576 Hl596 qs.1 (by omega)) rfl (by decide) (W := 0) rfl (by decide) (c' := 4) (s' := 2073) rfl rfl (by decide) (by decide) at_238 (n := 241) rfl pd10 rfl rfl ?_
              rintro _ h613 ⟨rr, rfl, Fr0, rfl⟩
              have Hr := Fr0 _ H603
              refine G.iload C at_241 rfl (n := 243) rfl ?_
              refine G.icmp_ne C (A := rr.toInt) (B := 0) rfl (by decide) at_243 (by decide) (by decide) (n := 246) (n' := 250) rfl (fun c243_614 c243_614i => ?_) (fun c243_614 c243_614i => ?_)
              · rcases Hr with ⟨r1, r2⟩ | ⟨r1, r2⟩ <;> first | exact absurd r1 c243_614 | (exfalso; omega)
              refine G.iconst C (v := (1 : Int32)) at_246 (by decide) (n := 247) rfl ?_
              refine G.goto C at_247 (by decide) (n := 251) (by decide) ?_
              refine G.ireturn C at_251 (rfl) (by simp) (by decide) (by decide) ?_
              exact rfl
            · refine G.iload C at_203 rfl (n := 205) rfl ?_
              refine G.iload C at_205 rfl (n := 207) rfl ?_
              refine G.icmp_ne C (A := v549.toInt) (B := v548.toInt) rfl rfl at_207 (by decide) (by decide) (n := 210) (n' := 214) rfl (fun c207_615 c207_615i => ?_) (fun c207_615 c207_615i => ?_)
              · refine G.iconst C (v := (0 : Int32)) at_214 (by decide) (n := 215) rfl ?_
                refine G.istore C at_215 (l' := #[.val (.int i0), .val (.int i1), .val (.int i2), .val (.int i3), .val (.int i4), .val (.int i5), .val (.int (1 : Int32)), .val (.int (0 : Int32)), .val (.int (0 : Int32)), .val (.int v545), .val (.int v546), .val (.int v547), .val (.int v548), .val (.int v549), .val (.ref b551), .unset, .val (.int (0 : Int32)), .val (.int (0 : Int32))]) rfl (n := 217) rfl ?_
                refine G.iload C at_217 rfl (n := 219) rfl ?_
                refine G.if_ne C (A := 0) (by decide) at_219 (by decide) (by decide) (n := 222) (n' := 227) rfl (fun c219_616 c219_616i => ?_) (fun c219_616 c219_616i => ?_)
                · exact absurd c219_616 (by decide)
                refine G.iload C at_222 rfl (n := 224) rfl ?_
                refine G.if_eq C (A := 0) (by decide) at_224 (by decide) (by decide) (n := 227) (n' := 231) rfl (fun c224_617 c224_617i => ?_) (fun c224_617 c224_617i => ?_)
                rotate_left
                · exact absurd c224_617 (by decide)
                refine G.iconst C (v := (0 : Int32)) at_231 (by decide) (n := 232) rfl ?_
                refine G.istore C at_232 (l' := #[.val (.int i0), .val (.int i1), .val (.int i2), .val (.int i3), .val (.int i4), .val (.int i5), .val (.int (1 : Int32)), .val (.int (0 : Int32)), .val (.int (0 : Int32)), .val (.int v545), .val (.int v546), .val (.int v547), .val (.int v548), .val (.int v549), .val (.ref b551), .val (.int (0 : Int32)), .val (.int (0 : Int32)), .val (.int (0 : Int32))]) rfl (n := 234) rfl ?_
                refine G.aload C at_234 rfl rfl (n := 236) rfl ?_
                refine G.iload C at_236 rfl (n := 238) rfl ?_
                refine G.callV C (argsL := [(.int v549)]) (yr := (⟨"com/example/near_miss/nearmiss/search/Window", "holds", "(I)Z"⟩ : MethodName)) (yc := (⟨"com/example/near_miss/nearmiss/search/Window", "holds", "(I)Z"⟩ : MethodName)) (a := b551) (O600.1) (wd hw 53 rfl) (wd hw 54 rfl) (nfS (wd hw 56 rfl) rfl) (wd hw 56 rfl) (wd hw 55 rfl) (wd hw 3 rfl) (wd hw 57 rfl) (by decide) (m_holds l Z a0 hw b551 M Sc (1 : Int32) (.ref X) (((((v545 + v546) - v545) + (64 : Int32)) - (1 : Int32)) / (64 : Int32)) v545 (v545 + v546) us595 v549 h599 n0 Z602 O600 O593 O594 ne573 ne575 ne568 g574 g576 Hl596 qs.1 (by omega)) rfl (by decide) (W := 0) rfl (by decide) (c' := 4) (s' := 2073) rfl rfl (by decide) (by decide) at_238 (n := 241) rfl pd10 rfl rfl ?_
                rintro _ h619 ⟨rr, rfl, Fr0, rfl⟩
                have Hr := Fr0 _ H603
                refine G.iload C at_241 rfl (n := 243) rfl ?_
                refine G.icmp_ne C (A := rr.toInt) (B := 0) rfl (by decide) at_243 (by decide) (by decide) (n := 246) (n' := 250) rfl (fun c243_620 c243_620i => ?_) (fun c243_620 c243_620i => ?_)
                · rcases Hr with ⟨r1, r2⟩ | ⟨r1, r2⟩ <;> first | exact absurd r1 c243_620 | (exfalso; omega)
                refine G.iconst C (v := (1 : Int32)) at_246 (by decide) (n := 247) rfl ?_
                refine G.goto C at_247 (by decide) (n := 251) (by decide) ?_
                refine G.ireturn C at_251 (rfl) (by simp) (by decide) (by decide) ?_
                exact rfl
              · refine G.iconst C (v := (1 : Int32)) at_210 (by decide) (n := 211) rfl ?_
                refine G.goto C at_211 (by decide) (n := 215) (by decide) ?_
                refine G.istore C at_215 (l' := #[.val (.int i0), .val (.int i1), .val (.int i2), .val (.int i3), .val (.int i4), .val (.int i5), .val (.int (1 : Int32)), .val (.int (0 : Int32)), .val (.int (0 : Int32)), .val (.int v545), .val (.int v546), .val (.int v547), .val (.int v548), .val (.int v549), .val (.ref b551), .unset, .val (.int (0 : Int32)), .val (.int (1 : Int32))]) rfl (n := 217) rfl ?_
                refine G.iload C at_217 rfl (n := 219) rfl ?_
                refine G.if_ne C (A := 0) (by decide) at_219 (by decide) (by decide) (n := 222) (n' := 227) rfl (fun c219_621 c219_621i => ?_) (fun c219_621 c219_621i => ?_)
                · exact absurd c219_621 (by decide)
                refine G.iload C at_222 rfl (n := 224) rfl ?_
                refine G.if_eq C (A := 1) (by decide) at_224 (by decide) (by decide) (n := 227) (n' := 231) rfl (fun c224_622 c224_622i => ?_) (fun c224_622 c224_622i => ?_)
                · exact absurd c224_622 (by decide)
                refine G.iconst C (v := (1 : Int32)) at_227 (by decide) (n := 228) rfl ?_
                refine G.goto C at_228 (by decide) (n := 232) (by decide) ?_
                refine G.istore C at_232 (l' := #[.val (.int i0), .val (.int i1), .val (.int i2), .val (.int i3), .val (.int i4), .val (.int i5), .val (.int (1 : Int32)), .val (.int (0 : Int32)), .val (.int (0 : Int32)), .val (.int v545), .val (.int v546), .val (.int v547), .val (.int v548), .val (.int v549), .val (.ref b551), .val (.int (1 : Int32)), .val (.int (0 : Int32)), .val (.int (1 : Int32))]) rfl (n := 234) rfl ?_
                refine G.aload C at_234 rfl rfl (n := 236) rfl ?_
                refine G.iload C at_236 rfl (n := 238) rfl ?_
                refine G.callV C (argsL := [(.int v549)]) (yr := (⟨"com/example/near_miss/nearmiss/search/Window", "holds", "(I)Z"⟩ : MethodName)) (yc := (⟨"com/example/near_miss/nearmiss/search/Window", "holds", "(I)Z"⟩ : MethodName)) (a := b551) (O600.1) (wd hw 53 rfl) (wd hw 54 rfl) (nfS (wd hw 56 rfl) rfl) (wd hw 56 rfl) (wd hw 55 rfl) (wd hw 3 rfl) (wd hw 57 rfl) (by decide) (m_holds l Z a0 hw b551 M Sc (1 : Int32) (.ref X) (((((v545 + v546) - v545) + (64 : Int32)) - (1 : Int32)) / (64 : Int32)) v545 (v545 + v546) us595 v549 h599 n0 Z602 O600 O593 O594 ne573 ne575 ne568 g574 g576 Hl596 qs.1 (by omega)) rfl (by decide) (W := 0) rfl (by decide) (c' := 4) (s' := 2073) rfl rfl (by decide) (by decide) at_238 (n := 241) rfl pd10 rfl rfl ?_
                rintro _ h624 ⟨rr, rfl, Fr0, rfl⟩
                have Hr := Fr0 _ H603
                refine G.iload C at_241 rfl (n := 243) rfl ?_
                refine G.icmp_ne C (A := rr.toInt) (B := 1) rfl (by decide) at_243 (by decide) (by decide) (n := 246) (n' := 250) rfl (fun c243_625 c243_625i => ?_) (fun c243_625 c243_625i => ?_)
                · rcases Hr with ⟨r1, r2⟩ | ⟨r1, r2⟩ <;> first | exact absurd r1 c243_625 | (exfalso; omega)
                refine G.iconst C (v := (1 : Int32)) at_246 (by decide) (n := 247) rfl ?_
                refine G.goto C at_247 (by decide) (n := 251) (by decide) ?_
                refine G.ireturn C at_251 (rfl) (by simp) (by decide) (by decide) ?_
                exact rfl
          · refine G.iload C at_184 rfl (n := 186) rfl ?_
            refine G.if_ne C (A := 0) (by decide) at_186 (by decide) (by decide) (n := 189) (n' := 193) rfl (fun c186_626 c186_626i => ?_) (fun c186_626 c186_626i => ?_)
            · exact absurd c186_626 (by decide)
            refine G.iconst C (v := (1 : Int32)) at_189 (by decide) (n := 190) rfl ?_
            refine G.goto C at_190 (by decide) (n := 194) (by decide) ?_
            refine G.istore C at_194 (l' := #[.val (.int i0), .val (.int i1), .val (.int i2), .val (.int i3), .val (.int i4), .val (.int i5), .val (.int (1 : Int32)), .val (.int (0 : Int32)), .val (.int (0 : Int32)), .val (.int v545), .val (.int v546), .val (.int v547), .val (.int v548), .val (.int v549), .val (.ref b551), .unset, .val (.int (1 : Int32)), .unset]) rfl (n := 196) rfl ?_
            refine G.iload C at_196 rfl (n := 198) rfl ?_
            refine G.iload C at_198 rfl (n := 200) rfl ?_
            refine G.icmp_eq C (A := v548.toInt) (B := v547.toInt) rfl rfl at_200 (by decide) (by decide) (n := 203) (n' := 214) rfl (fun c200_627 c200_627i => ?_) (fun c200_627 c200_627i => ?_)
            · refine G.iconst C (v := (0 : Int32)) at_214 (by decide) (n := 215) rfl ?_
              refine G.istore C at_215 (l' := #[.val (.int i0), .val (.int i1), .val (.int i2), .val (.int i3), .val (.int i4), .val (.int i5), .val (.int (1 : Int32)), .val (.int (0 : Int32)), .val (.int (0 : Int32)), .val (.int v545), .val (.int v546), .val (.int v547), .val (.int v548), .val (.int v549), .val (.ref b551), .unset, .val (.int (1 : Int32)), .val (.int (0 : Int32))]) rfl (n := 217) rfl ?_
              refine G.iload C at_217 rfl (n := 219) rfl ?_
              refine G.if_ne C (A := 1) (by decide) at_219 (by decide) (by decide) (n := 222) (n' := 227) rfl (fun c219_628 c219_628i => ?_) (fun c219_628 c219_628i => ?_)
              rotate_left
              · exact absurd c219_628 (by decide)
              refine G.iconst C (v := (1 : Int32)) at_227 (by decide) (n := 228) rfl ?_
              refine G.goto C at_228 (by decide) (n := 232) (by decide) ?_
              refine G.istore C at_232 (l' := #[.val (.int i0), .val (.int i1), .val (.int i2), .val (.int i3), .val (.int i4), .val (.int i5), .val (.int (1 : Int32)), .val (.int (0 : Int32)), .val (.int (0 : Int32)), .val (.int v545), .val (.int v546), .val (.int v547), .val (.int v548), .val (.int v549), .val (.ref b551), .val (.int (1 : Int32)), .val (.int (1 : Int32)), .val (.int (0 : Int32))]) rfl (n := 234) rfl ?_
              refine G.aload C at_234 rfl rfl (n := 236) rfl ?_
              refine G.iload C at_236 rfl (n := 238) rfl ?_
              refine G.callV C (argsL := [(.int v549)]) (yr := (⟨"com/example/near_miss/nearmiss/search/Window", "holds", "(I)Z"⟩ : MethodName)) (yc := (⟨"com/example/near_miss/nearmiss/search/Window", "holds", "(I)Z"⟩ : MethodName)) (a := b551) (O600.1) (wd hw 53 rfl) (wd hw 54 rfl) (nfS (wd hw 56 rfl) rfl) (wd hw 56 rfl) (wd hw 55 rfl) (wd hw 3 rfl) (wd hw 57 rfl) (by decide) (m_holds l Z a0 hw b551 M Sc (1 : Int32) (.ref X) (((((v545 + v546) - v545) + (64 : Int32)) - (1 : Int32)) / (64 : Int32)) v545 (v545 + v546) us595 v549 h599 n0 Z602 O600 O593 O594 ne573 ne575 ne568 g574 g576 Hl596 qs.1 (by omega)) rfl (by decide) (W := 0) rfl (by decide) (c' := 4) (s' := 2073) rfl rfl (by decide) (by decide) at_238 (n := 241) rfl pd10 rfl rfl ?_
              rintro _ h630 ⟨rr, rfl, Fr0, rfl⟩
              have Hr := Fr0 _ H603
              refine G.iload C at_241 rfl (n := 243) rfl ?_
              refine G.icmp_ne C (A := rr.toInt) (B := 1) rfl (by decide) at_243 (by decide) (by decide) (n := 246) (n' := 250) rfl (fun c243_631 c243_631i => ?_) (fun c243_631 c243_631i => ?_)
              · rcases Hr with ⟨r1, r2⟩ | ⟨r1, r2⟩ <;> first | exact absurd r1 c243_631 | (exfalso; omega)
              refine G.iconst C (v := (1 : Int32)) at_246 (by decide) (n := 247) rfl ?_
              refine G.goto C at_247 (by decide) (n := 251) (by decide) ?_
              refine G.ireturn C at_251 (rfl) (by simp) (by decide) (by decide) ?_
              exact rfl
            · refine G.iload C at_203 rfl (n := 205) rfl ?_
              refine G.iload C at_205 rfl (n := 207) rfl ?_
              refine G.icmp_ne C (A := v549.toInt) (B := v548.toInt) rfl rfl at_207 (by decide) (by decide) (n := 210) (n' := 214) rfl (fun c207_632 c207_632i => ?_) (fun c207_632 c207_632i => ?_)
              · refine G.iconst C (v := (0 : Int32)) at_214 (by decide) (n := 215) rfl ?_
                refine G.istore C at_215 (l' := #[.val (.int i0), .val (.int i1), .val (.int i2), .val (.int i3), .val (.int i4), .val (.int i5), .val (.int (1 : Int32)), .val (.int (0 : Int32)), .val (.int (0 : Int32)), .val (.int v545), .val (.int v546), .val (.int v547), .val (.int v548), .val (.int v549), .val (.ref b551), .unset, .val (.int (1 : Int32)), .val (.int (0 : Int32))]) rfl (n := 217) rfl ?_
                refine G.iload C at_217 rfl (n := 219) rfl ?_
                refine G.if_ne C (A := 1) (by decide) at_219 (by decide) (by decide) (n := 222) (n' := 227) rfl (fun c219_633 c219_633i => ?_) (fun c219_633 c219_633i => ?_)
                rotate_left
                · exact absurd c219_633 (by decide)
                refine G.iconst C (v := (1 : Int32)) at_227 (by decide) (n := 228) rfl ?_
                refine G.goto C at_228 (by decide) (n := 232) (by decide) ?_
                refine G.istore C at_232 (l' := #[.val (.int i0), .val (.int i1), .val (.int i2), .val (.int i3), .val (.int i4), .val (.int i5), .val (.int (1 : Int32)), .val (.int (0 : Int32)), .val (.int (0 : Int32)), .val (.int v545), .val (.int v546), .val (.int v547), .val (.int v548), .val (.int v549), .val (.ref b551), .val (.int (1 : Int32)), .val (.int (1 : Int32)), .val (.int (0 : Int32))]) rfl (n := 234) rfl ?_
                refine G.aload C at_234 rfl rfl (n := 236) rfl ?_
                refine G.iload C at_236 rfl (n := 238) rfl ?_
                refine G.callV C (argsL := [(.int v549)]) (yr := (⟨"com/example/near_miss/nearmiss/search/Window", "holds", "(I)Z"⟩ : MethodName)) (yc := (⟨"com/example/near_miss/nearmiss/search/Window", "holds", "(I)Z"⟩ : MethodName)) (a := b551) (O600.1) (wd hw 53 rfl) (wd hw 54 rfl) (nfS (wd hw 56 rfl) rfl) (wd hw 56 rfl) (wd hw 55 rfl) (wd hw 3 rfl) (wd hw 57 rfl) (by decide) (m_holds l Z a0 hw b551 M Sc (1 : Int32) (.ref X) (((((v545 + v546) - v545) + (64 : Int32)) - (1 : Int32)) / (64 : Int32)) v545 (v545 + v546) us595 v549 h599 n0 Z602 O600 O593 O594 ne573 ne575 ne568 g574 g576 Hl596 qs.1 (by omega)) rfl (by decide) (W := 0) rfl (by decide) (c' := 4) (s' := 2073) rfl rfl (by decide) (by decide) at_238 (n := 241) rfl pd10 rfl rfl ?_
                rintro _ h635 ⟨rr, rfl, Fr0, rfl⟩
                have Hr := Fr0 _ H603
                refine G.iload C at_241 rfl (n := 243) rfl ?_
                refine G.icmp_ne C (A := rr.toInt) (B := 1) rfl (by decide) at_243 (by decide) (by decide) (n := 246) (n' := 250) rfl (fun c243_636 c243_636i => ?_) (fun c243_636 c243_636i => ?_)
                · rcases Hr with ⟨r1, r2⟩ | ⟨r1, r2⟩ <;> first | exact absurd r1 c243_636 | (exfalso; omega)
                refine G.iconst C (v := (1 : Int32)) at_246 (by decide) (n := 247) rfl ?_
                refine G.goto C at_247 (by decide) (n := 251) (by decide) ?_
                refine G.ireturn C at_251 (rfl) (by simp) (by decide) (by decide) ?_
                exact rfl
              · refine G.iconst C (v := (1 : Int32)) at_210 (by decide) (n := 211) rfl ?_
                refine G.goto C at_211 (by decide) (n := 215) (by decide) ?_
                refine G.istore C at_215 (l' := #[.val (.int i0), .val (.int i1), .val (.int i2), .val (.int i3), .val (.int i4), .val (.int i5), .val (.int (1 : Int32)), .val (.int (0 : Int32)), .val (.int (0 : Int32)), .val (.int v545), .val (.int v546), .val (.int v547), .val (.int v548), .val (.int v549), .val (.ref b551), .unset, .val (.int (1 : Int32)), .val (.int (1 : Int32))]) rfl (n := 217) rfl ?_
                refine G.iload C at_217 rfl (n := 219) rfl ?_
                refine G.if_ne C (A := 1) (by decide) at_219 (by decide) (by decide) (n := 222) (n' := 227) rfl (fun c219_637 c219_637i => ?_) (fun c219_637 c219_637i => ?_)
                rotate_left
                · exact absurd c219_637 (by decide)
                refine G.iconst C (v := (1 : Int32)) at_227 (by decide) (n := 228) rfl ?_
                refine G.goto C at_228 (by decide) (n := 232) (by decide) ?_
                refine G.istore C at_232 (l' := #[.val (.int i0), .val (.int i1), .val (.int i2), .val (.int i3), .val (.int i4), .val (.int i5), .val (.int (1 : Int32)), .val (.int (0 : Int32)), .val (.int (0 : Int32)), .val (.int v545), .val (.int v546), .val (.int v547), .val (.int v548), .val (.int v549), .val (.ref b551), .val (.int (1 : Int32)), .val (.int (1 : Int32)), .val (.int (1 : Int32))]) rfl (n := 234) rfl ?_
                refine G.aload C at_234 rfl rfl (n := 236) rfl ?_
                refine G.iload C at_236 rfl (n := 238) rfl ?_
                refine G.callV C (argsL := [(.int v549)]) (yr := (⟨"com/example/near_miss/nearmiss/search/Window", "holds", "(I)Z"⟩ : MethodName)) (yc := (⟨"com/example/near_miss/nearmiss/search/Window", "holds", "(I)Z"⟩ : MethodName)) (a := b551) (O600.1) (wd hw 53 rfl) (wd hw 54 rfl) (nfS (wd hw 56 rfl) rfl) (wd hw 56 rfl) (wd hw 55 rfl) (wd hw 3 rfl) (wd hw 57 rfl) (by decide) (m_holds l Z a0 hw b551 M Sc (1 : Int32) (.ref X) (((((v545 + v546) - v545) + (64 : Int32)) - (1 : Int32)) / (64 : Int32)) v545 (v545 + v546) us595 v549 h599 n0 Z602 O600 O593 O594 ne573 ne575 ne568 g574 g576 Hl596 qs.1 (by omega)) rfl (by decide) (W := 0) rfl (by decide) (c' := 4) (s' := 2073) rfl rfl (by decide) (by decide) at_238 (n := 241) rfl pd10 rfl rfl ?_
                rintro _ h639 ⟨rr, rfl, Fr0, rfl⟩
                have Hr := Fr0 _ H603
                refine G.iload C at_241 rfl (n := 243) rfl ?_
                refine G.icmp_ne C (A := rr.toInt) (B := 1) rfl (by decide) at_243 (by decide) (by decide) (n := 246) (n' := 250) rfl (fun c243_640 c243_640i => ?_) (fun c243_640 c243_640i => ?_)
                · rcases Hr with ⟨r1, r2⟩ | ⟨r1, r2⟩ <;> first | exact absurd r1 c243_640 | (exfalso; omega)
                refine G.iconst C (v := (1 : Int32)) at_246 (by decide) (n := 247) rfl ?_
                refine G.goto C at_247 (by decide) (n := 251) (by decide) ?_
                refine G.ireturn C at_251 (rfl) (by simp) (by decide) (by decide) ?_
                exact rfl
        · refine G.aload C at_124 rfl rfl (n := 126) rfl ?_
          refine G.iload C at_126 rfl (n := 128) rfl ?_
          refine G.iload C at_128 rfl (n := 130) rfl ?_
          refine G.iadd C at_130 (n := 131) rfl ?_
          refine G.ldc2D C (v := (4611686018427387904 : UInt64)) (wd hw 52 rfl) at_131 (n := 134) rfl ?_
          refine G.callV C (argsL := [(.int (v545 + v548)), (.double (4611686018427387904 : UInt64))]) (yr := (⟨"com/example/near_miss/nearmiss/search/Window", "add", "(ID)V"⟩ : MethodName)) (yc := (⟨"com/example/near_miss/nearmiss/search/Window", "add", "(ID)V"⟩ : MethodName)) (a := b551) (O600.1) (wd hw 31 rfl) (wd hw 32 rfl) (nfS (wd hw 34 rfl) rfl) (wd hw 34 rfl) (wd hw 33 rfl) (wd hw 3 rfl) (wd hw 35 rfl) (by decide) (m_add l Z a0 hw b551 M Sc (1 : Int32) (.ref X) (((((v545 + v546) - v545) + (64 : Int32)) - (1 : Int32)) / (64 : Int32)) v545 (v545 + v546) us595 (v545 + v548) v548 (4611686018427387904 : UInt64) h599 n0 Z602 O600 O593 O594 ne573 ne575 ne568 g574 g576 Hl596 (asub _ _) qb2.1 (by omega) (by rw [qe]; exact qb2.2)) rfl (by decide) (W := 0) rfl (by decide) (c' := 4) (s' := 2073) rfl rfl (by decide) (by decide) at_134 (n := 137) rfl pd6 rfl rfl ?_
          rintro _ h648 ⟨rfl, K641, us644, O642, Hl645, F646, O643⟩
          have O649 := O600.keep K641 (ninS ne573 (ninS ne575 nin0))
          have O650 := O601.keep K641 (ninS (Ne.symm ne569) (ninS (Ne.symm ne570) nin0))
          have Z651 : n0 ≤ h648.size := Nat.le_trans Z602 K641.1
          have H652 := F646 _ H603
          refine G.iload C at_137 rfl (n := 139) rfl ?_
          refine G.if_eq C (A := 0) (by decide) at_139 (by decide) (by decide) (n := 142) (n' := 154) rfl (fun c139_653 c139_653i => ?_) (fun c139_653 c139_653i => ?_)
          rotate_left
          · exact absurd c139_653 (by decide)
          refine G.iload C at_154 rfl (n := 156) rfl ?_
          refine G.if_eq C (A := 0) (by decide) at_156 (by decide) (by decide) (n := 159) (n' := 166) rfl (fun c156_654 c156_654i => ?_) (fun c156_654 c156_654i => ?_)
          rotate_left
          · exact absurd c156_654 (by decide)
          refine G.iload C at_166 rfl (n := 168) rfl ?_
          refine G.if_eq C (A := 0) (by decide) at_168 (by decide) (by decide) (n := 171) (n' := 177) rfl (fun c168_655 c168_655i => ?_) (fun c168_655 c168_655i => ?_)
          rotate_left
          · exact absurd c168_655 (by decide)
          refine G.iload C at_177 rfl (n := 179) rfl ?_
          refine G.iload C at_179 rfl (n := 181) rfl ?_
          refine G.icmp_ne C (A := v549.toInt) (B := v547.toInt) rfl rfl at_181 (by decide) (by decide) (n := 184) (n' := 193) rfl (fun c181_656 c181_656i => ?_) (fun c181_656 c181_656i => ?_)
          · refine G.iconst C (v := (0 : Int32)) at_193 (by decide) (n := 194) rfl ?_
            refine G.istore C at_194 (l' := #[.val (.int i0), .val (.int i1), .val (.int i2), .val (.int i3), .val (.int i4), .val (.int i5), .val (.int (1 : Int32)), .val (.int (0 : Int32)), .val (.int (0 : Int32)), .val (.int v545), .val (.int v546), .val (.int v547), .val (.int v548), .val (.int v549), .val (.ref b551), .unset, .val (.int (0 : Int32)), .unset]) rfl (n := 196) rfl ?_
            refine G.iload C at_196 rfl (n := 198) rfl ?_
            refine G.iload C at_198 rfl (n := 200) rfl ?_
            refine G.icmp_eq C (A := v548.toInt) (B := v547.toInt) rfl rfl at_200 (by decide) (by decide) (n := 203) (n' := 214) rfl (fun c200_657 c200_657i => ?_) (fun c200_657 c200_657i => ?_)
            · refine G.iconst C (v := (0 : Int32)) at_214 (by decide) (n := 215) rfl ?_
              refine G.istore C at_215 (l' := #[.val (.int i0), .val (.int i1), .val (.int i2), .val (.int i3), .val (.int i4), .val (.int i5), .val (.int (1 : Int32)), .val (.int (0 : Int32)), .val (.int (0 : Int32)), .val (.int v545), .val (.int v546), .val (.int v547), .val (.int v548), .val (.int v549), .val (.ref b551), .unset, .val (.int (0 : Int32)), .val (.int (0 : Int32))]) rfl (n := 217) rfl ?_
              refine G.iload C at_217 rfl (n := 219) rfl ?_
              refine G.if_ne C (A := 0) (by decide) at_219 (by decide) (by decide) (n := 222) (n' := 227) rfl (fun c219_658 c219_658i => ?_) (fun c219_658 c219_658i => ?_)
              · exact absurd c219_658 (by decide)
              refine G.iload C at_222 rfl (n := 224) rfl ?_
              refine G.if_eq C (A := 0) (by decide) at_224 (by decide) (by decide) (n := 227) (n' := 231) rfl (fun c224_659 c224_659i => ?_) (fun c224_659 c224_659i => ?_)
              rotate_left
              · exact absurd c224_659 (by decide)
              refine G.iconst C (v := (0 : Int32)) at_231 (by decide) (n := 232) rfl ?_
              refine G.istore C at_232 (l' := #[.val (.int i0), .val (.int i1), .val (.int i2), .val (.int i3), .val (.int i4), .val (.int i5), .val (.int (1 : Int32)), .val (.int (0 : Int32)), .val (.int (0 : Int32)), .val (.int v545), .val (.int v546), .val (.int v547), .val (.int v548), .val (.int v549), .val (.ref b551), .val (.int (0 : Int32)), .val (.int (0 : Int32)), .val (.int (0 : Int32))]) rfl (n := 234) rfl ?_
              refine G.aload C at_234 rfl rfl (n := 236) rfl ?_
              refine G.iload C at_236 rfl (n := 238) rfl ?_
              refine G.callV C (argsL := [(.int v549)]) (yr := (⟨"com/example/near_miss/nearmiss/search/Window", "holds", "(I)Z"⟩ : MethodName)) (yc := (⟨"com/example/near_miss/nearmiss/search/Window", "holds", "(I)Z"⟩ : MethodName)) (a := b551) (O649.1) (wd hw 53 rfl) (wd hw 54 rfl) (nfS (wd hw 56 rfl) rfl) (wd hw 56 rfl) (wd hw 55 rfl) (wd hw 3 rfl) (wd hw 57 rfl) (by decide) (m_holds l Z a0 hw b551 M Sc (1 : Int32) (.ref X) (((((v545 + v546) - v545) + (64 : Int32)) - (1 : Int32)) / (64 : Int32)) v545 (v545 + v546) us644 v549 h648 n0 Z651 O649 O642 O643 ne573 ne575 ne568 g574 g576 Hl645 qs.1 (by omega)) rfl (by decide) (W := 0) rfl (by decide) (c' := 4) (s' := 2073) rfl rfl (by decide) (by decide) at_238 (n := 241) rfl pd10 rfl rfl ?_
              rintro _ h661 ⟨rr, rfl, Fr0, rfl⟩
              have Hr := Fr0 _ H652
              refine G.iload C at_241 rfl (n := 243) rfl ?_
              refine G.icmp_ne C (A := rr.toInt) (B := 0) rfl (by decide) at_243 (by decide) (by decide) (n := 246) (n' := 250) rfl (fun c243_662 c243_662i => ?_) (fun c243_662 c243_662i => ?_)
              · rcases Hr with ⟨r1, r2⟩ | ⟨r1, r2⟩ <;> first | exact absurd r1 c243_662 | (exfalso; omega)
              refine G.iconst C (v := (1 : Int32)) at_246 (by decide) (n := 247) rfl ?_
              refine G.goto C at_247 (by decide) (n := 251) (by decide) ?_
              refine G.ireturn C at_251 (rfl) (by simp) (by decide) (by decide) ?_
              exact rfl
            · refine G.iload C at_203 rfl (n := 205) rfl ?_
              refine G.iload C at_205 rfl (n := 207) rfl ?_
              refine G.icmp_ne C (A := v549.toInt) (B := v548.toInt) rfl rfl at_207 (by decide) (by decide) (n := 210) (n' := 214) rfl (fun c207_663 c207_663i => ?_) (fun c207_663 c207_663i => ?_)
              · refine G.iconst C (v := (0 : Int32)) at_214 (by decide) (n := 215) rfl ?_
                refine G.istore C at_215 (l' := #[.val (.int i0), .val (.int i1), .val (.int i2), .val (.int i3), .val (.int i4), .val (.int i5), .val (.int (1 : Int32)), .val (.int (0 : Int32)), .val (.int (0 : Int32)), .val (.int v545), .val (.int v546), .val (.int v547), .val (.int v548), .val (.int v549), .val (.ref b551), .unset, .val (.int (0 : Int32)), .val (.int (0 : Int32))]) rfl (n := 217) rfl ?_
                refine G.iload C at_217 rfl (n := 219) rfl ?_
                refine G.if_ne C (A := 0) (by decide) at_219 (by decide) (by decide) (n := 222) (n' := 227) rfl (fun c219_664 c219_664i => ?_) (fun c219_664 c219_664i => ?_)
                · exact absurd c219_664 (by decide)
                refine G.iload C at_222 rfl (n := 224) rfl ?_
                refine G.if_eq C (A := 0) (by decide) at_224 (by decide) (by decide) (n := 227) (n' := 231) rfl (fun c224_665 c224_665i => ?_) (fun c224_665 c224_665i => ?_)
                rotate_left
                · exact absurd c224_665 (by decide)
                refine G.iconst C (v := (0 : Int32)) at_231 (by decide) (n := 232) rfl ?_
                refine G.istore C at_232 (l' := #[.val (.int i0), .val (.int i1), .val (.int i2), .val (.int i3), .val (.int i4), .val (.int i5), .val (.int (1 : Int32)), .val (.int (0 : Int32)), .val (.int (0 : Int32)), .val (.int v545), .val (.int v546), .val (.int v547), .val (.int v548), .val (.int v549), .val (.ref b551), .val (.int (0 : Int32)), .val (.int (0 : Int32)), .val (.int (0 : Int32))]) rfl (n := 234) rfl ?_
                refine G.aload C at_234 rfl rfl (n := 236) rfl ?_
                refine G.iload C at_236 rfl (n := 238) rfl ?_
                refine G.callV C (argsL := [(.int v549)]) (yr := (⟨"com/example/near_miss/nearmiss/search/Window", "holds", "(I)Z"⟩ : MethodName)) (yc := (⟨"com/example/near_miss/nearmiss/search/Window", "holds", "(I)Z"⟩ : MethodName)) (a := b551) (O649.1) (wd hw 53 rfl) (wd hw 54 rfl) (nfS (wd hw 56 rfl) rfl) (wd hw 56 rfl) (wd hw 55 rfl) (wd hw 3 rfl) (wd hw 57 rfl) (by decide) (m_holds l Z a0 hw b551 M Sc (1 : Int32) (.ref X) (((((v545 + v546) - v545) + (64 : Int32)) - (1 : Int32)) / (64 : Int32)) v545 (v545 + v546) us644 v549 h648 n0 Z651 O649 O642 O643 ne573 ne575 ne568 g574 g576 Hl645 qs.1 (by omega)) rfl (by decide) (W := 0) rfl (by decide) (c' := 4) (s' := 2073) rfl rfl (by decide) (by decide) at_238 (n := 241) rfl pd10 rfl rfl ?_
                rintro _ h667 ⟨rr, rfl, Fr0, rfl⟩
                have Hr := Fr0 _ H652
                refine G.iload C at_241 rfl (n := 243) rfl ?_
                refine G.icmp_ne C (A := rr.toInt) (B := 0) rfl (by decide) at_243 (by decide) (by decide) (n := 246) (n' := 250) rfl (fun c243_668 c243_668i => ?_) (fun c243_668 c243_668i => ?_)
                · rcases Hr with ⟨r1, r2⟩ | ⟨r1, r2⟩ <;> first | exact absurd r1 c243_668 | (exfalso; omega)
                refine G.iconst C (v := (1 : Int32)) at_246 (by decide) (n := 247) rfl ?_
                refine G.goto C at_247 (by decide) (n := 251) (by decide) ?_
                refine G.ireturn C at_251 (rfl) (by simp) (by decide) (by decide) ?_
                exact rfl
              · refine G.iconst C (v := (1 : Int32)) at_210 (by decide) (n := 211) rfl ?_
                refine G.goto C at_211 (by decide) (n := 215) (by decide) ?_
                refine G.istore C at_215 (l' := #[.val (.int i0), .val (.int i1), .val (.int i2), .val (.int i3), .val (.int i4), .val (.int i5), .val (.int (1 : Int32)), .val (.int (0 : Int32)), .val (.int (0 : Int32)), .val (.int v545), .val (.int v546), .val (.int v547), .val (.int v548), .val (.int v549), .val (.ref b551), .unset, .val (.int (0 : Int32)), .val (.int (1 : Int32))]) rfl (n := 217) rfl ?_
                refine G.iload C at_217 rfl (n := 219) rfl ?_
                refine G.if_ne C (A := 0) (by decide) at_219 (by decide) (by decide) (n := 222) (n' := 227) rfl (fun c219_669 c219_669i => ?_) (fun c219_669 c219_669i => ?_)
                · exact absurd c219_669 (by decide)
                refine G.iload C at_222 rfl (n := 224) rfl ?_
                refine G.if_eq C (A := 1) (by decide) at_224 (by decide) (by decide) (n := 227) (n' := 231) rfl (fun c224_670 c224_670i => ?_) (fun c224_670 c224_670i => ?_)
                · exact absurd c224_670 (by decide)
                refine G.iconst C (v := (1 : Int32)) at_227 (by decide) (n := 228) rfl ?_
                refine G.goto C at_228 (by decide) (n := 232) (by decide) ?_
                refine G.istore C at_232 (l' := #[.val (.int i0), .val (.int i1), .val (.int i2), .val (.int i3), .val (.int i4), .val (.int i5), .val (.int (1 : Int32)), .val (.int (0 : Int32)), .val (.int (0 : Int32)), .val (.int v545), .val (.int v546), .val (.int v547), .val (.int v548), .val (.int v549), .val (.ref b551), .val (.int (1 : Int32)), .val (.int (0 : Int32)), .val (.int (1 : Int32))]) rfl (n := 234) rfl ?_
                refine G.aload C at_234 rfl rfl (n := 236) rfl ?_
                refine G.iload C at_236 rfl (n := 238) rfl ?_
                refine G.callV C (argsL := [(.int v549)]) (yr := (⟨"com/example/near_miss/nearmiss/search/Window", "holds", "(I)Z"⟩ : MethodName)) (yc := (⟨"com/example/near_miss/nearmiss/search/Window", "holds", "(I)Z"⟩ : MethodName)) (a := b551) (O649.1) (wd hw 53 rfl) (wd hw 54 rfl) (nfS (wd hw 56 rfl) rfl) (wd hw 56 rfl) (wd hw 55 rfl) (wd hw 3 rfl) (wd hw 57 rfl) (by decide) (m_holds l Z a0 hw b551 M Sc (1 : Int32) (.ref X) (((((v545 + v546) - v545) + (64 : Int32)) - (1 : Int32)) / (64 : Int32)) v545 (v545 + v546) us644 v549 h648 n0 Z651 O649 O642 O643 ne573 ne575 ne568 g574 g576 Hl645 qs.1 (by omega)) rfl (by decide) (W := 0) rfl (by decide) (c' := 4) (s' := 2073) rfl rfl (by decide) (by decide) at_238 (n := 241) rfl pd10 rfl rfl ?_
                rintro _ h672 ⟨rr, rfl, Fr0, rfl⟩
                have Hr := Fr0 _ H652
                refine G.iload C at_241 rfl (n := 243) rfl ?_
                refine G.icmp_ne C (A := rr.toInt) (B := 1) rfl (by decide) at_243 (by decide) (by decide) (n := 246) (n' := 250) rfl (fun c243_673 c243_673i => ?_) (fun c243_673 c243_673i => ?_)
                · rcases Hr with ⟨r1, r2⟩ | ⟨r1, r2⟩ <;> first | exact absurd r1 c243_673 | (exfalso; omega)
                refine G.iconst C (v := (1 : Int32)) at_246 (by decide) (n := 247) rfl ?_
                refine G.goto C at_247 (by decide) (n := 251) (by decide) ?_
                refine G.ireturn C at_251 (rfl) (by simp) (by decide) (by decide) ?_
                exact rfl
          · refine G.iload C at_184 rfl (n := 186) rfl ?_
            refine G.if_ne C (A := 0) (by decide) at_186 (by decide) (by decide) (n := 189) (n' := 193) rfl (fun c186_674 c186_674i => ?_) (fun c186_674 c186_674i => ?_)
            · exact absurd c186_674 (by decide)
            refine G.iconst C (v := (1 : Int32)) at_189 (by decide) (n := 190) rfl ?_
            refine G.goto C at_190 (by decide) (n := 194) (by decide) ?_
            refine G.istore C at_194 (l' := #[.val (.int i0), .val (.int i1), .val (.int i2), .val (.int i3), .val (.int i4), .val (.int i5), .val (.int (1 : Int32)), .val (.int (0 : Int32)), .val (.int (0 : Int32)), .val (.int v545), .val (.int v546), .val (.int v547), .val (.int v548), .val (.int v549), .val (.ref b551), .unset, .val (.int (1 : Int32)), .unset]) rfl (n := 196) rfl ?_
            refine G.iload C at_196 rfl (n := 198) rfl ?_
            refine G.iload C at_198 rfl (n := 200) rfl ?_
            refine G.icmp_eq C (A := v548.toInt) (B := v547.toInt) rfl rfl at_200 (by decide) (by decide) (n := 203) (n' := 214) rfl (fun c200_675 c200_675i => ?_) (fun c200_675 c200_675i => ?_)
            · refine G.iconst C (v := (0 : Int32)) at_214 (by decide) (n := 215) rfl ?_
              refine G.istore C at_215 (l' := #[.val (.int i0), .val (.int i1), .val (.int i2), .val (.int i3), .val (.int i4), .val (.int i5), .val (.int (1 : Int32)), .val (.int (0 : Int32)), .val (.int (0 : Int32)), .val (.int v545), .val (.int v546), .val (.int v547), .val (.int v548), .val (.int v549), .val (.ref b551), .unset, .val (.int (1 : Int32)), .val (.int (0 : Int32))]) rfl (n := 217) rfl ?_
              refine G.iload C at_217 rfl (n := 219) rfl ?_
              refine G.if_ne C (A := 1) (by decide) at_219 (by decide) (by decide) (n := 222) (n' := 227) rfl (fun c219_676 c219_676i => ?_) (fun c219_676 c219_676i => ?_)
              rotate_left
              · exact absurd c219_676 (by decide)
              refine G.iconst C (v := (1 : Int32)) at_227 (by decide) (n := 228) rfl ?_
              refine G.goto C at_228 (by decide) (n := 232) (by decide) ?_
              refine G.istore C at_232 (l' := #[.val (.int i0), .val (.int i1), .val (.int i2), .val (.int i3), .val (.int i4), .val (.int i5), .val (.int (1 : Int32)), .val (.int (0 : Int32)), .val (.int (0 : Int32)), .val (.int v545), .val (.int v546), .val (.int v547), .val (.int v548), .val (.int v549), .val (.ref b551), .val (.int (1 : Int32)), .val (.int (1 : Int32)), .val (.int (0 : Int32))]) rfl (n := 234) rfl ?_
              refine G.aload C at_234 rfl rfl (n := 236) rfl ?_
              refine G.iload C at_236 rfl (n := 238) rfl ?_
              refine G.callV C (argsL := [(.int v549)]) (yr := (⟨"com/example/near_miss/nearmiss/search/Window", "holds", "(I)Z"⟩ : MethodName)) (yc := (⟨"com/example/near_miss/nearmiss/search/Window", "holds", "(I)Z"⟩ : MethodName)) (a := b551) (O649.1) (wd hw 53 rfl) (wd hw 54 rfl) (nfS (wd hw 56 rfl) rfl) (wd hw 56 rfl) (wd hw 55 rfl) (wd hw 3 rfl) (wd hw 57 rfl) (by decide) (m_holds l Z a0 hw b551 M Sc (1 : Int32) (.ref X) (((((v545 + v546) - v545) + (64 : Int32)) - (1 : Int32)) / (64 : Int32)) v545 (v545 + v546) us644 v549 h648 n0 Z651 O649 O642 O643 ne573 ne575 ne568 g574 g576 Hl645 qs.1 (by omega)) rfl (by decide) (W := 0) rfl (by decide) (c' := 4) (s' := 2073) rfl rfl (by decide) (by decide) at_238 (n := 241) rfl pd10 rfl rfl ?_
              rintro _ h678 ⟨rr, rfl, Fr0, rfl⟩
              have Hr := Fr0 _ H652
              refine G.iload C at_241 rfl (n := 243) rfl ?_
              refine G.icmp_ne C (A := rr.toInt) (B := 1) rfl (by decide) at_243 (by decide) (by decide) (n := 246) (n' := 250) rfl (fun c243_679 c243_679i => ?_) (fun c243_679 c243_679i => ?_)
              · rcases Hr with ⟨r1, r2⟩ | ⟨r1, r2⟩ <;> first | exact absurd r1 c243_679 | (exfalso; omega)
              refine G.iconst C (v := (1 : Int32)) at_246 (by decide) (n := 247) rfl ?_
              refine G.goto C at_247 (by decide) (n := 251) (by decide) ?_
              refine G.ireturn C at_251 (rfl) (by simp) (by decide) (by decide) ?_
              exact rfl
            · refine G.iload C at_203 rfl (n := 205) rfl ?_
              refine G.iload C at_205 rfl (n := 207) rfl ?_
              refine G.icmp_ne C (A := v549.toInt) (B := v548.toInt) rfl rfl at_207 (by decide) (by decide) (n := 210) (n' := 214) rfl (fun c207_680 c207_680i => ?_) (fun c207_680 c207_680i => ?_)
              · refine G.iconst C (v := (0 : Int32)) at_214 (by decide) (n := 215) rfl ?_
                refine G.istore C at_215 (l' := #[.val (.int i0), .val (.int i1), .val (.int i2), .val (.int i3), .val (.int i4), .val (.int i5), .val (.int (1 : Int32)), .val (.int (0 : Int32)), .val (.int (0 : Int32)), .val (.int v545), .val (.int v546), .val (.int v547), .val (.int v548), .val (.int v549), .val (.ref b551), .unset, .val (.int (1 : Int32)), .val (.int (0 : Int32))]) rfl (n := 217) rfl ?_
                refine G.iload C at_217 rfl (n := 219) rfl ?_
                refine G.if_ne C (A := 1) (by decide) at_219 (by decide) (by decide) (n := 222) (n' := 227) rfl (fun c219_681 c219_681i => ?_) (fun c219_681 c219_681i => ?_)
                rotate_left
                · exact absurd c219_681 (by decide)
                refine G.iconst C (v := (1 : Int32)) at_227 (by decide) (n := 228) rfl ?_
                refine G.goto C at_228 (by decide) (n := 232) (by decide) ?_
                refine G.istore C at_232 (l' := #[.val (.int i0), .val (.int i1), .val (.int i2), .val (.int i3), .val (.int i4), .val (.int i5), .val (.int (1 : Int32)), .val (.int (0 : Int32)), .val (.int (0 : Int32)), .val (.int v545), .val (.int v546), .val (.int v547), .val (.int v548), .val (.int v549), .val (.ref b551), .val (.int (1 : Int32)), .val (.int (1 : Int32)), .val (.int (0 : Int32))]) rfl (n := 234) rfl ?_
                refine G.aload C at_234 rfl rfl (n := 236) rfl ?_
                refine G.iload C at_236 rfl (n := 238) rfl ?_
                refine G.callV C (argsL := [(.int v549)]) (yr := (⟨"com/example/near_miss/nearmiss/search/Window", "holds", "(I)Z"⟩ : MethodName)) (yc := (⟨"com/example/near_miss/nearmiss/search/Window", "holds", "(I)Z"⟩ : MethodName)) (a := b551) (O649.1) (wd hw 53 rfl) (wd hw 54 rfl) (nfS (wd hw 56 rfl) rfl) (wd hw 56 rfl) (wd hw 55 rfl) (wd hw 3 rfl) (wd hw 57 rfl) (by decide) (m_holds l Z a0 hw b551 M Sc (1 : Int32) (.ref X) (((((v545 + v546) - v545) + (64 : Int32)) - (1 : Int32)) / (64 : Int32)) v545 (v545 + v546) us644 v549 h648 n0 Z651 O649 O642 O643 ne573 ne575 ne568 g574 g576 Hl645 qs.1 (by omega)) rfl (by decide) (W := 0) rfl (by decide) (c' := 4) (s' := 2073) rfl rfl (by decide) (by decide) at_238 (n := 241) rfl pd10 rfl rfl ?_
                rintro _ h683 ⟨rr, rfl, Fr0, rfl⟩
                have Hr := Fr0 _ H652
                refine G.iload C at_241 rfl (n := 243) rfl ?_
                refine G.icmp_ne C (A := rr.toInt) (B := 1) rfl (by decide) at_243 (by decide) (by decide) (n := 246) (n' := 250) rfl (fun c243_684 c243_684i => ?_) (fun c243_684 c243_684i => ?_)
                · rcases Hr with ⟨r1, r2⟩ | ⟨r1, r2⟩ <;> first | exact absurd r1 c243_684 | (exfalso; omega)
                refine G.iconst C (v := (1 : Int32)) at_246 (by decide) (n := 247) rfl ?_
                refine G.goto C at_247 (by decide) (n := 251) (by decide) ?_
                refine G.ireturn C at_251 (rfl) (by simp) (by decide) (by decide) ?_
                exact rfl
              · refine G.iconst C (v := (1 : Int32)) at_210 (by decide) (n := 211) rfl ?_
                refine G.goto C at_211 (by decide) (n := 215) (by decide) ?_
                refine G.istore C at_215 (l' := #[.val (.int i0), .val (.int i1), .val (.int i2), .val (.int i3), .val (.int i4), .val (.int i5), .val (.int (1 : Int32)), .val (.int (0 : Int32)), .val (.int (0 : Int32)), .val (.int v545), .val (.int v546), .val (.int v547), .val (.int v548), .val (.int v549), .val (.ref b551), .unset, .val (.int (1 : Int32)), .val (.int (1 : Int32))]) rfl (n := 217) rfl ?_
                refine G.iload C at_217 rfl (n := 219) rfl ?_
                refine G.if_ne C (A := 1) (by decide) at_219 (by decide) (by decide) (n := 222) (n' := 227) rfl (fun c219_685 c219_685i => ?_) (fun c219_685 c219_685i => ?_)
                rotate_left
                · exact absurd c219_685 (by decide)
                refine G.iconst C (v := (1 : Int32)) at_227 (by decide) (n := 228) rfl ?_
                refine G.goto C at_228 (by decide) (n := 232) (by decide) ?_
                refine G.istore C at_232 (l' := #[.val (.int i0), .val (.int i1), .val (.int i2), .val (.int i3), .val (.int i4), .val (.int i5), .val (.int (1 : Int32)), .val (.int (0 : Int32)), .val (.int (0 : Int32)), .val (.int v545), .val (.int v546), .val (.int v547), .val (.int v548), .val (.int v549), .val (.ref b551), .val (.int (1 : Int32)), .val (.int (1 : Int32)), .val (.int (1 : Int32))]) rfl (n := 234) rfl ?_
                refine G.aload C at_234 rfl rfl (n := 236) rfl ?_
                refine G.iload C at_236 rfl (n := 238) rfl ?_
                refine G.callV C (argsL := [(.int v549)]) (yr := (⟨"com/example/near_miss/nearmiss/search/Window", "holds", "(I)Z"⟩ : MethodName)) (yc := (⟨"com/example/near_miss/nearmiss/search/Window", "holds", "(I)Z"⟩ : MethodName)) (a := b551) (O649.1) (wd hw 53 rfl) (wd hw 54 rfl) (nfS (wd hw 56 rfl) rfl) (wd hw 56 rfl) (wd hw 55 rfl) (wd hw 3 rfl) (wd hw 57 rfl) (by decide) (m_holds l Z a0 hw b551 M Sc (1 : Int32) (.ref X) (((((v545 + v546) - v545) + (64 : Int32)) - (1 : Int32)) / (64 : Int32)) v545 (v545 + v546) us644 v549 h648 n0 Z651 O649 O642 O643 ne573 ne575 ne568 g574 g576 Hl645 qs.1 (by omega)) rfl (by decide) (W := 0) rfl (by decide) (c' := 4) (s' := 2073) rfl rfl (by decide) (by decide) at_238 (n := 241) rfl pd10 rfl rfl ?_
                rintro _ h687 ⟨rr, rfl, Fr0, rfl⟩
                have Hr := Fr0 _ H652
                refine G.iload C at_241 rfl (n := 243) rfl ?_
                refine G.icmp_ne C (A := rr.toInt) (B := 1) rfl (by decide) at_243 (by decide) (by decide) (n := 246) (n' := 250) rfl (fun c243_688 c243_688i => ?_) (fun c243_688 c243_688i => ?_)
                · rcases Hr with ⟨r1, r2⟩ | ⟨r1, r2⟩ <;> first | exact absurd r1 c243_688 | (exfalso; omega)
                refine G.iconst C (v := (1 : Int32)) at_246 (by decide) (n := 247) rfl ?_
                refine G.goto C at_247 (by decide) (n := 251) (by decide) ?_
                refine G.ireturn C at_251 (rfl) (by simp) (by decide) (by decide) ?_
                exact rfl
      · refine G.iconst C (v := (1 : Int32)) at_32 (by decide) (n := 33) rfl ?_
        refine G.goto C at_33 (by decide) (n := 37) (by decide) ?_
        refine G.istore C at_37 (l' := #[.val (.int i0), .val (.int i1), .val (.int i2), .val (.int i3), .val (.int i4), .val (.int i5), .val (.int (1 : Int32)), .val (.int (0 : Int32)), .val (.int (1 : Int32)), .unset, .unset, .unset, .unset, .unset, .unset, .unset, .unset, .unset]) rfl (n := 39) rfl ?_
        refine G.iload C at_39 rfl (n := 41) rfl ?_
        refine G.iconst C (v := (2 : Int32)) at_41 (by decide) (n := 42) rfl ?_
        refine G.ishr C at_42 (n := 43) rfl ?_
        refine G.istoreZ C at_43 (l' := fun z => #[.val (.int i0), .val (.int i1), .val (.int i2), .val (.int i3), .val (.int i4), .val (.int i5), .val (.int (1 : Int32)), .val (.int (0 : Int32)), .val (.int (1 : Int32)), .val (.int z), .unset, .unset, .unset, .unset, .unset, .unset, .unset, .unset]) (fun _ => rfl) (n := 45) rfl ?_
        intro v689 hv689
        have qb : v689.toInt < 1000000000 := by rw [hv689, c_ishr i5 2 2 (by decide)]; have := rng32 i5; show _ / 4 < _; omega
        refine G.iloadN C at_45 rfl (n := 46) rfl ?_
        refine G.ldc C (v := (2147483647 : Int32)) (wd hw 0 rfl) at_46 (n := 48) rfl ?_
        refine G.iand C at_48 (n := 49) rfl ?_
        refine G.sipush C (v := (1024 : Int32)) at_49 (by decide) (n := 52) rfl ?_
        refine G.irem C at_52 (by decide) (n := 53) rfl ?_
        refine G.iconst C (v := (1 : Int32)) at_53 (by decide) (n := 54) rfl ?_
        refine G.iadd C at_54 (n := 55) rfl ?_
        refine G.istoreZ C at_55 (l' := fun z => #[.val (.int i0), .val (.int i1), .val (.int i2), .val (.int i3), .val (.int i4), .val (.int i5), .val (.int (1 : Int32)), .val (.int (0 : Int32)), .val (.int (1 : Int32)), .val (.int v689), .val (.int z), .unset, .unset, .unset, .unset, .unset, .unset, .unset]) (fun _ => rfl) (n := 57) rfl ?_
        intro v690 hv690
        have ql : 1 ≤ v690.toInt ∧ v690.toInt ≤ 1024 := by have r := rem_v (x := i1) (d := 1024) (by decide); rw [show (1024 : Int32).toInt = 1024 from rfl] at r; rw [hv690, Int32.add_comm, addk (K := 1) (by decide) (by omega) (by omega)]; omega
        have qr := rsub (x := v689) (l := v690) (by omega) ql.2 qb
        have qe := qr.2.1
        have qwd2 : (((((v689 + v690) - v689) + (64 : Int32)) - (1 : Int32)) / (64 : Int32)).toInt = (v690.toInt + 63) / 64 := by rw [asub]; exact words_at ql.1 ql.2
        have qwd : (((((v689 + v690) - v689) + (64 : Int32)) - (1 : Int32)) / (64 : Int32)).toInt.toNat = (v690.toInt.toNat + 63) / 64 := by rw [qwd2]; omega
        refine G.iloadN C at_57 rfl (n := 58) rfl ?_
        refine G.ldc C (v := (2147483647 : Int32)) (wd hw 0 rfl) at_58 (n := 60) rfl ?_
        refine G.iand C at_60 (n := 61) rfl ?_
        refine G.iload C at_61 rfl (n := 63) rfl ?_
        refine G.irem C at_63 (nz_pos (by omega)) (n := 64) rfl ?_
        refine G.istoreZ C at_64 (l' := fun z => #[.val (.int i0), .val (.int i1), .val (.int i2), .val (.int i3), .val (.int i4), .val (.int i5), .val (.int (1 : Int32)), .val (.int (0 : Int32)), .val (.int (1 : Int32)), .val (.int v689), .val (.int v690), .val (.int z), .unset, .unset, .unset, .unset, .unset, .unset]) (fun _ => rfl) (n := 66) rfl ?_
        intro v691 hv691
        have qa : 0 ≤ v691.toInt ∧ v691.toInt < v690.toInt := by rw [hv691]; exact rem_v (by omega)
        refine G.iloadN C at_66 rfl (n := 67) rfl ?_
        refine G.ldc C (v := (2147483647 : Int32)) (wd hw 0 rfl) at_67 (n := 69) rfl ?_
        refine G.iand C at_69 (n := 70) rfl ?_
        refine G.iload C at_70 rfl (n := 72) rfl ?_
        refine G.irem C at_72 (nz_pos (by omega)) (n := 73) rfl ?_
        refine G.istoreZ C at_73 (l' := fun z => #[.val (.int i0), .val (.int i1), .val (.int i2), .val (.int i3), .val (.int i4), .val (.int i5), .val (.int (1 : Int32)), .val (.int (0 : Int32)), .val (.int (1 : Int32)), .val (.int v689), .val (.int v690), .val (.int v691), .val (.int z), .unset, .unset, .unset, .unset, .unset]) (fun _ => rfl) (n := 75) rfl ?_
        intro v692 hv692
        have qb2 : 0 ≤ v692.toInt ∧ v692.toInt < v690.toInt := by rw [hv692]; exact rem_v (by omega)
        refine G.iload C at_75 rfl (n := 77) rfl ?_
        refine G.sipush C (v := (1023 : Int32)) at_77 (by decide) (n := 80) rfl ?_
        refine G.iand C at_80 (n := 81) rfl ?_
        refine G.istoreZ C at_81 (l' := fun z => #[.val (.int i0), .val (.int i1), .val (.int i2), .val (.int i3), .val (.int i4), .val (.int i5), .val (.int (1 : Int32)), .val (.int (0 : Int32)), .val (.int (1 : Int32)), .val (.int v689), .val (.int v690), .val (.int v691), .val (.int v692), .val (.int z), .unset, .unset, .unset, .unset]) (fun _ => rfl) (n := 83) rfl ?_
        intro v693 hv693
        have qs : 0 ≤ v693.toInt ∧ v693.toInt ≤ 1023 := by rw [hv693]; exact c_and i4 1023 (by decide)
        refine G.new C (wd hw 1 rfl) (wd hw 2 rfl) (wd hw 3 rfl) at_83 (n := 86) rfl (c' := 1) (s' := 9) rfl rfl (by decide) (by decide) ?_
        intro h694 b695 q696 E697 A698 D699
        have g700 : n0 ≤ b695 := Nat.le_trans Z0 (Nat.le_of_eq q696.symm)
        have O701 := Ob_Wn.new hw A698 D699
        have K702 := kext E697
        have Z703 : n0 ≤ h694.size := Nat.le_trans Z0 K702.1
        refine G.dup C at_86 rfl (n := 87) rfl ?_
        refine G.iload C at_87 rfl (n := 89) rfl ?_
        refine G.callC C (argsL := [(.int (1 : Int32))]) (yc := (⟨"com/example/near_miss/nearmiss/search/Window", "<init>", "(Z)V"⟩ : MethodName)) (a := b695) rfl (wd hw 4 rfl) (wd hw 5 rfl) (wd hw 3 rfl) (wd hw 6 rfl) (by decide) (m_init1 l Z a0 hw b695 h694 n0 Z703 O701 g700) rfl (by decide) (W := 1) rfl (by decide) (c' := 4) (s' := 2073) rfl rfl (by decide) (by decide) at_89 (n := 92) rfl pd8 rfl rfl ?_
        rintro _ h716 ⟨rfl, K704, M, Sc, X, O705, O706, O707, f709, f710, ne712, O708, f711, ne713, ne714⟩
        have ne717 : b695 ≠ M := Nat.ne_of_lt (Nat.lt_of_lt_of_le O701.lt f709)
        have g718 : n0 ≤ M := Nat.le_trans Z703 f709
        have ne719 : b695 ≠ Sc := Nat.ne_of_lt (Nat.lt_of_lt_of_le O701.lt f710)
        have g720 : n0 ≤ Sc := Nat.le_trans Z703 f710
        have ne721 : b695 ≠ X := Nat.ne_of_lt (Nat.lt_of_lt_of_le O701.lt f711)
        have g722 : n0 ≤ X := Nat.le_trans Z703 f711
        have Z723 : n0 ≤ h716.size := Nat.le_trans Z703 K704.1
        refine G.astore C at_92 rfl (l' := #[.val (.int i0), .val (.int i1), .val (.int i2), .val (.int i3), .val (.int i4), .val (.int i5), .val (.int (1 : Int32)), .val (.int (0 : Int32)), .val (.int (1 : Int32)), .val (.int v689), .val (.int v690), .val (.int v691), .val (.int v692), .val (.int v693), .val (.ref b695), .unset, .unset, .unset]) rfl (n := 94) rfl ?_
        refine G.aload C at_94 rfl rfl (n := 96) rfl ?_
        refine G.iload C at_96 rfl (n := 98) rfl ?_
        refine G.iload C at_98 rfl (n := 100) rfl ?_
        refine G.iload C at_100 rfl (n := 102) rfl ?_
        refine G.iadd C at_102 (n := 103) rfl ?_
        refine G.callV C (argsL := [(.int v689), (.int (v689 + v690))]) (yr := (⟨"com/example/near_miss/nearmiss/search/Window", "reset", "(II)V"⟩ : MethodName)) (yc := (⟨"com/example/near_miss/nearmiss/search/Window", "reset", "(II)V"⟩ : MethodName)) (a := b695) (O705.1) (wd hw 20 rfl) (wd hw 21 rfl) (nfS (wd hw 23 rfl) rfl) (wd hw 23 rfl) (wd hw 22 rfl) (wd hw 3 rfl) (wd hw 24 rfl) (by decide) (m_reset1 l Z a0 hw b695 M Sc (0 : Int32) (0 : Int32) (0 : Int32) [0, 0, 0, 0, 0, 0, 0, 0, 0, 0, 0, 0, 0, 0, 0, 0] X v689 (v689 + v690) h716 n0 Z723 O705 O706 O707 ne717 ne719 ne712 g718 g720 rfl g700 O708 ne721 ne713 ne714 g722 (by decide) (by decide) (by decide) (by decide) (by rw [qr.2.2]; omega) (by rw [qe]; exact ql.2)) rfl (by decide) (W := 0) rfl (by decide) (c' := 4) (s' := 2073) rfl rfl (by decide) (by decide) at_103 (n := 106) rfl pd9 rfl rfl ?_
        rintro _ h733 ⟨rfl, K724, O725, us729, O726, Hl730, F731, O727, O728⟩
        have Z734 : n0 ≤ h733.size := Nat.le_trans Z723 K724.1
        have H735 := F731 _ has0 (fun s h => absurd h (Nat.not_lt_zero _))
        refine G.aload C at_106 rfl rfl (n := 108) rfl ?_
        refine G.iload C at_108 rfl (n := 110) rfl ?_
        refine G.iload C at_110 rfl (n := 112) rfl ?_
        refine G.iadd C at_112 (n := 113) rfl ?_
        refine G.dconst1 C at_113 (n := 114) rfl ?_
        refine G.callV C (argsL := [(.int (v689 + v691)), (.double FP.dconst1)]) (yr := (⟨"com/example/near_miss/nearmiss/search/Window", "add", "(ID)V"⟩ : MethodName)) (yc := (⟨"com/example/near_miss/nearmiss/search/Window", "add", "(ID)V"⟩ : MethodName)) (a := b695) (O725.1) (wd hw 31 rfl) (wd hw 32 rfl) (nfS (wd hw 34 rfl) rfl) (wd hw 34 rfl) (wd hw 33 rfl) (wd hw 3 rfl) (wd hw 35 rfl) (by decide) (m_add l Z a0 hw b695 M Sc (1 : Int32) (.ref X) (((((v689 + v690) - v689) + (64 : Int32)) - (1 : Int32)) / (64 : Int32)) v689 (v689 + v690) us729 (v689 + v691) v691 FP.dconst1 h733 n0 Z734 O725 O726 O727 ne717 ne719 ne712 g718 g720 Hl730 (asub _ _) qa.1 (by omega) (by rw [qe]; exact qa.2)) rfl (by decide) (W := 0) rfl (by decide) (c' := 4) (s' := 2073) rfl rfl (by decide) (by decide) at_114 (n := 117) rfl pd6 rfl rfl ?_
        rintro _ h743 ⟨rfl, K736, us739, O737, Hl740, F741, O738⟩
        have O744 := O725.keep K736 (ninS ne717 (ninS ne719 nin0))
        have O745 := O728.keep K736 (ninS (Ne.symm ne713) (ninS (Ne.symm ne714) nin0))
        have Z746 : n0 ≤ h743.size := Nat.le_trans Z734 K736.1
        have H747 := F741 _ H735
        refine G.iload C at_117 rfl (n := 119) rfl ?_
        refine G.iload C at_119 rfl (n := 121) rfl ?_
        refine G.icmp_eq C (A := v692.toInt) (B := v691.toInt) rfl rfl at_121 (by decide) (by decide) (n := 124) (n' := 137) rfl (fun c121_748 c121_748i => ?_) (fun c121_748 c121_748i => ?_)
        · refine G.iload C at_137 rfl (n := 139) rfl ?_
          refine G.if_eq C (A := 1) (by decide) at_139 (by decide) (by decide) (n := 142) (n' := 154) rfl (fun c139_749 c139_749i => ?_) (fun c139_749 c139_749i => ?_)
          · exact absurd c139_749 (by decide)
          refine G.aload C at_142 rfl rfl (n := 144) rfl ?_
          refine G.iload C at_144 rfl (n := 146) rfl ?_
          refine G.iload C at_146 rfl (n := 148) rfl ?_
          refine G.iload C at_148 rfl (n := 150) rfl ?_
          refine G.iadd C at_150 (n := 151) rfl ?_
          refine G.callV C (argsL := [(.int v689), (.int (v689 + v690))]) (yr := (⟨"com/example/near_miss/nearmiss/search/Window", "reset", "(II)V"⟩ : MethodName)) (yc := (⟨"com/example/near_miss/nearmiss/search/Window", "reset", "(II)V"⟩ : MethodName)) (a := b695) (O744.1) (wd hw 20 rfl) (wd hw 21 rfl) (nfS (wd hw 23 rfl) rfl) (wd hw 23 rfl) (wd hw 22 rfl) (wd hw 3 rfl) (wd hw 24 rfl) (by decide) (m_reset1 l Z a0 hw b695 M Sc (((((v689 + v690) - v689) + (64 : Int32)) - (1 : Int32)) / (64 : Int32)) v689 (v689 + v690) us739 X v689 (v689 + v690) h743 n0 Z746 O744 O737 O738 ne717 ne719 ne712 g718 g720 Hl740 g700 O745 ne721 ne713 ne714 g722 (by rw [qwd2]; omega) (by rw [qwd2]; omega) (by rw [qe]; omega) (by rw [qe]; omega) (by rw [qr.2.2]; omega) (by rw [qe]; exact ql.2)) rfl (by decide) (W := 0) rfl (by decide) (c' := 4) (s' := 2073) rfl rfl (by decide) (by decide) at_151 (n := 154) rfl pd9 rfl rfl ?_
          rintro _ h759 ⟨rfl, K750, O751, us755, O752, Hl756, F757, O753, O754⟩
          have Z760 : n0 ≤ h759.size := Nat.le_trans Z746 K750.1
          have H761 := F757 _ H747 (fun s h => by rw [qwd]; omega)
          refine G.iload C at_154 rfl (n := 156) rfl ?_
          refine G.if_eq C (A := 0) (by decide) at_156 (by decide) (by decide) (n := 159) (n' := 166) rfl (fun c156_762 c156_762i => ?_) (fun c156_762 c156_762i => ?_)
          rotate_left
          · exact absurd c156_762 (by decide)
          refine G.iload C at_166 rfl (n := 168) rfl ?_
          refine G.if_eq C (A := 1) (by decide) at_168 (by decide) (by decide) (n := 171) (n' := 177) rfl (fun c168_763 c168_763i => ?_) (fun c168_763 c168_763i => ?_)
          · exact absurd c168_763 (by decide)
          refine G.iconst C (v := (0 : Int32)) at_171 (by decide) (n := 172) rfl ?_
          refine G.istore C at_172 (l' := #[.val (.int i0), .val (.int i1), .val (.int i2), .val (.int i3), .val (.int i4), .val (.int i5), .val (.int (1 : Int32)), .val (.int (0 : Int32)), .val (.int (1 : Int32)), .val (.int v689), .val (.int v690), .val (.int v691), .val (.int v692), .val (.int v693), .val (.ref b695), .val (.int (0 : Int32)), .unset, .unset]) rfl (n := 174) rfl ?_
          refine G.goto C at_174 (by decide) (n := 234) (by decide) ?_
          refine G.aload C at_234 rfl rfl (n := 236) rfl ?_
          refine G.iload C at_236 rfl (n := 238) rfl ?_
          refine G.callV C (argsL := [(.int v693)]) (yr := (⟨"com/example/near_miss/nearmiss/search/Window", "holds", "(I)Z"⟩ : MethodName)) (yc := (⟨"com/example/near_miss/nearmiss/search/Window", "holds", "(I)Z"⟩ : MethodName)) (a := b695) (O751.1) (wd hw 53 rfl) (wd hw 54 rfl) (nfS (wd hw 56 rfl) rfl) (wd hw 56 rfl) (wd hw 55 rfl) (wd hw 3 rfl) (wd hw 57 rfl) (by decide) (m_holds l Z a0 hw b695 M Sc (1 : Int32) (.ref X) (((((v689 + v690) - v689) + (64 : Int32)) - (1 : Int32)) / (64 : Int32)) v689 (v689 + v690) us755 v693 h759 n0 Z760 O751 O752 O753 ne717 ne719 ne712 g718 g720 Hl756 qs.1 (by omega)) rfl (by decide) (W := 0) rfl (by decide) (c' := 4) (s' := 2073) rfl rfl (by decide) (by decide) at_238 (n := 241) rfl pd10 rfl rfl ?_
          rintro _ h765 ⟨rr, rfl, Fr0, rfl⟩
          have Hr := Fr0 _ H761
          refine G.iload C at_241 rfl (n := 243) rfl ?_
          refine G.icmp_ne C (A := rr.toInt) (B := 0) rfl (by decide) at_243 (by decide) (by decide) (n := 246) (n' := 250) rfl (fun c243_766 c243_766i => ?_) (fun c243_766 c243_766i => ?_)
          · rcases Hr with ⟨r1, r2⟩ | ⟨r1, r2⟩ <;> first | exact absurd r1 c243_766 | (exfalso; omega)
          refine G.iconst C (v := (1 : Int32)) at_246 (by decide) (n := 247) rfl ?_
          refine G.goto C at_247 (by decide) (n := 251) (by decide) ?_
          refine G.ireturn C at_251 (rfl) (by simp) (by decide) (by decide) ?_
          exact rfl
        · refine G.aload C at_124 rfl rfl (n := 126) rfl ?_
          refine G.iload C at_126 rfl (n := 128) rfl ?_
          refine G.iload C at_128 rfl (n := 130) rfl ?_
          refine G.iadd C at_130 (n := 131) rfl ?_
          refine G.ldc2D C (v := (4611686018427387904 : UInt64)) (wd hw 52 rfl) at_131 (n := 134) rfl ?_
          refine G.callV C (argsL := [(.int (v689 + v692)), (.double (4611686018427387904 : UInt64))]) (yr := (⟨"com/example/near_miss/nearmiss/search/Window", "add", "(ID)V"⟩ : MethodName)) (yc := (⟨"com/example/near_miss/nearmiss/search/Window", "add", "(ID)V"⟩ : MethodName)) (a := b695) (O744.1) (wd hw 31 rfl) (wd hw 32 rfl) (nfS (wd hw 34 rfl) rfl) (wd hw 34 rfl) (wd hw 33 rfl) (wd hw 3 rfl) (wd hw 35 rfl) (by decide) (m_add l Z a0 hw b695 M Sc (1 : Int32) (.ref X) (((((v689 + v690) - v689) + (64 : Int32)) - (1 : Int32)) / (64 : Int32)) v689 (v689 + v690) us739 (v689 + v692) v692 (4611686018427387904 : UInt64) h743 n0 Z746 O744 O737 O738 ne717 ne719 ne712 g718 g720 Hl740 (asub _ _) qb2.1 (by omega) (by rw [qe]; exact qb2.2)) rfl (by decide) (W := 0) rfl (by decide) (c' := 4) (s' := 2073) rfl rfl (by decide) (by decide) at_134 (n := 137) rfl pd6 rfl rfl ?_
          rintro _ h774 ⟨rfl, K767, us770, O768, Hl771, F772, O769⟩
          have O775 := O744.keep K767 (ninS ne717 (ninS ne719 nin0))
          have O776 := O745.keep K767 (ninS (Ne.symm ne713) (ninS (Ne.symm ne714) nin0))
          have Z777 : n0 ≤ h774.size := Nat.le_trans Z746 K767.1
          have H778 := F772 _ H747
          refine G.iload C at_137 rfl (n := 139) rfl ?_
          refine G.if_eq C (A := 1) (by decide) at_139 (by decide) (by decide) (n := 142) (n' := 154) rfl (fun c139_779 c139_779i => ?_) (fun c139_779 c139_779i => ?_)
          · exact absurd c139_779 (by decide)
          refine G.aload C at_142 rfl rfl (n := 144) rfl ?_
          refine G.iload C at_144 rfl (n := 146) rfl ?_
          refine G.iload C at_146 rfl (n := 148) rfl ?_
          refine G.iload C at_148 rfl (n := 150) rfl ?_
          refine G.iadd C at_150 (n := 151) rfl ?_
          refine G.callV C (argsL := [(.int v689), (.int (v689 + v690))]) (yr := (⟨"com/example/near_miss/nearmiss/search/Window", "reset", "(II)V"⟩ : MethodName)) (yc := (⟨"com/example/near_miss/nearmiss/search/Window", "reset", "(II)V"⟩ : MethodName)) (a := b695) (O775.1) (wd hw 20 rfl) (wd hw 21 rfl) (nfS (wd hw 23 rfl) rfl) (wd hw 23 rfl) (wd hw 22 rfl) (wd hw 3 rfl) (wd hw 24 rfl) (by decide) (m_reset1 l Z a0 hw b695 M Sc (((((v689 + v690) - v689) + (64 : Int32)) - (1 : Int32)) / (64 : Int32)) v689 (v689 + v690) us770 X v689 (v689 + v690) h774 n0 Z777 O775 O768 O769 ne717 ne719 ne712 g718 g720 Hl771 g700 O776 ne721 ne713 ne714 g722 (by rw [qwd2]; omega) (by rw [qwd2]; omega) (by rw [qe]; omega) (by rw [qe]; omega) (by rw [qr.2.2]; omega) (by rw [qe]; exact ql.2)) rfl (by decide) (W := 0) rfl (by decide) (c' := 4) (s' := 2073) rfl rfl (by decide) (by decide) at_151 (n := 154) rfl pd9 rfl rfl ?_
          rintro _ h789 ⟨rfl, K780, O781, us785, O782, Hl786, F787, O783, O784⟩
          have Z790 : n0 ≤ h789.size := Nat.le_trans Z777 K780.1
          have H791 := F787 _ H778 (fun s h => by rw [qwd]; omega)
          refine G.iload C at_154 rfl (n := 156) rfl ?_
          refine G.if_eq C (A := 0) (by decide) at_156 (by decide) (by decide) (n := 159) (n' := 166) rfl (fun c156_792 c156_792i => ?_) (fun c156_792 c156_792i => ?_)
          rotate_left
          · exact absurd c156_792 (by decide)
          refine G.iload C at_166 rfl (n := 168) rfl ?_
          refine G.if_eq C (A := 1) (by decide) at_168 (by decide) (by decide) (n := 171) (n' := 177) rfl (fun c168_793 c168_793i => ?_) (fun c168_793 c168_793i => ?_)
          · exact absurd c168_793 (by decide)
          refine G.iconst C (v := (0 : Int32)) at_171 (by decide) (n := 172) rfl ?_
          refine G.istore C at_172 (l' := #[.val (.int i0), .val (.int i1), .val (.int i2), .val (.int i3), .val (.int i4), .val (.int i5), .val (.int (1 : Int32)), .val (.int (0 : Int32)), .val (.int (1 : Int32)), .val (.int v689), .val (.int v690), .val (.int v691), .val (.int v692), .val (.int v693), .val (.ref b695), .val (.int (0 : Int32)), .unset, .unset]) rfl (n := 174) rfl ?_
          refine G.goto C at_174 (by decide) (n := 234) (by decide) ?_
          refine G.aload C at_234 rfl rfl (n := 236) rfl ?_
          refine G.iload C at_236 rfl (n := 238) rfl ?_
          refine G.callV C (argsL := [(.int v693)]) (yr := (⟨"com/example/near_miss/nearmiss/search/Window", "holds", "(I)Z"⟩ : MethodName)) (yc := (⟨"com/example/near_miss/nearmiss/search/Window", "holds", "(I)Z"⟩ : MethodName)) (a := b695) (O781.1) (wd hw 53 rfl) (wd hw 54 rfl) (nfS (wd hw 56 rfl) rfl) (wd hw 56 rfl) (wd hw 55 rfl) (wd hw 3 rfl) (wd hw 57 rfl) (by decide) (m_holds l Z a0 hw b695 M Sc (1 : Int32) (.ref X) (((((v689 + v690) - v689) + (64 : Int32)) - (1 : Int32)) / (64 : Int32)) v689 (v689 + v690) us785 v693 h789 n0 Z790 O781 O782 O783 ne717 ne719 ne712 g718 g720 Hl786 qs.1 (by omega)) rfl (by decide) (W := 0) rfl (by decide) (c' := 4) (s' := 2073) rfl rfl (by decide) (by decide) at_238 (n := 241) rfl pd10 rfl rfl ?_
          rintro _ h795 ⟨rr, rfl, Fr0, rfl⟩
          have Hr := Fr0 _ H791
          refine G.iload C at_241 rfl (n := 243) rfl ?_
          refine G.icmp_ne C (A := rr.toInt) (B := 0) rfl (by decide) at_243 (by decide) (by decide) (n := 246) (n' := 250) rfl (fun c243_796 c243_796i => ?_) (fun c243_796 c243_796i => ?_)
          · rcases Hr with ⟨r1, r2⟩ | ⟨r1, r2⟩ <;> first | exact absurd r1 c243_796 | (exfalso; omega)
          refine G.iconst C (v := (1 : Int32)) at_246 (by decide) (n := 247) rfl ?_
          refine G.goto C at_247 (by decide) (n := 251) (by decide) ?_
          refine G.ireturn C at_251 (rfl) (by simp) (by decide) (by decide) ?_
          exact rfl
    · refine G.iconst C (v := (1 : Int32)) at_19 (by decide) (n := 20) rfl ?_
      refine G.goto C at_20 (by decide) (n := 24) (by decide) ?_
      refine G.istore C at_24 (l' := #[.val (.int i0), .val (.int i1), .val (.int i2), .val (.int i3), .val (.int i4), .val (.int i5), .val (.int (1 : Int32)), .val (.int (1 : Int32)), .unset, .unset, .unset, .unset, .unset, .unset, .unset, .unset, .unset, .unset]) rfl (n := 26) rfl ?_
      refine G.iloadN C at_26 rfl (n := 27) rfl ?_
      refine G.iconst C (v := (4 : Int32)) at_27 (by decide) (n := 28) rfl ?_
      refine G.iand C at_28 (n := 29) rfl ?_
      refine G.if_eq C (A := (i0 &&& (4 : Int32)).toInt) rfl at_29 (by decide) (by decide) (n := 32) (n' := 36) rfl (fun c29_797 c29_797i => ?_) (fun c29_797 c29_797i => ?_)
      · refine G.iconst C (v := (0 : Int32)) at_36 (by decide) (n := 37) rfl ?_
        refine G.istore C at_37 (l' := #[.val (.int i0), .val (.int i1), .val (.int i2), .val (.int i3), .val (.int i4), .val (.int i5), .val (.int (1 : Int32)), .val (.int (1 : Int32)), .val (.int (0 : Int32)), .unset, .unset, .unset, .unset, .unset, .unset, .unset, .unset, .unset]) rfl (n := 39) rfl ?_
        refine G.iload C at_39 rfl (n := 41) rfl ?_
        refine G.iconst C (v := (2 : Int32)) at_41 (by decide) (n := 42) rfl ?_
        refine G.ishr C at_42 (n := 43) rfl ?_
        refine G.istoreZ C at_43 (l' := fun z => #[.val (.int i0), .val (.int i1), .val (.int i2), .val (.int i3), .val (.int i4), .val (.int i5), .val (.int (1 : Int32)), .val (.int (1 : Int32)), .val (.int (0 : Int32)), .val (.int z), .unset, .unset, .unset, .unset, .unset, .unset, .unset, .unset]) (fun _ => rfl) (n := 45) rfl ?_
        intro v798 hv798
        have qb : v798.toInt < 1000000000 := by rw [hv798, c_ishr i5 2 2 (by decide)]; have := rng32 i5; show _ / 4 < _; omega
        refine G.iloadN C at_45 rfl (n := 46) rfl ?_
        refine G.ldc C (v := (2147483647 : Int32)) (wd hw 0 rfl) at_46 (n := 48) rfl ?_
        refine G.iand C at_48 (n := 49) rfl ?_
        refine G.sipush C (v := (1024 : Int32)) at_49 (by decide) (n := 52) rfl ?_
        refine G.irem C at_52 (by decide) (n := 53) rfl ?_
        refine G.iconst C (v := (1 : Int32)) at_53 (by decide) (n := 54) rfl ?_
        refine G.iadd C at_54 (n := 55) rfl ?_
        refine G.istoreZ C at_55 (l' := fun z => #[.val (.int i0), .val (.int i1), .val (.int i2), .val (.int i3), .val (.int i4), .val (.int i5), .val (.int (1 : Int32)), .val (.int (1 : Int32)), .val (.int (0 : Int32)), .val (.int v798), .val (.int z), .unset, .unset, .unset, .unset, .unset, .unset, .unset]) (fun _ => rfl) (n := 57) rfl ?_
        intro v799 hv799
        have ql : 1 ≤ v799.toInt ∧ v799.toInt ≤ 1024 := by have r := rem_v (x := i1) (d := 1024) (by decide); rw [show (1024 : Int32).toInt = 1024 from rfl] at r; rw [hv799, Int32.add_comm, addk (K := 1) (by decide) (by omega) (by omega)]; omega
        have qr := rsub (x := v798) (l := v799) (by omega) ql.2 qb
        have qe := qr.2.1
        have qwd2 : (((((v798 + v799) - v798) + (64 : Int32)) - (1 : Int32)) / (64 : Int32)).toInt = (v799.toInt + 63) / 64 := by rw [asub]; exact words_at ql.1 ql.2
        have qwd : (((((v798 + v799) - v798) + (64 : Int32)) - (1 : Int32)) / (64 : Int32)).toInt.toNat = (v799.toInt.toNat + 63) / 64 := by rw [qwd2]; omega
        refine G.iloadN C at_57 rfl (n := 58) rfl ?_
        refine G.ldc C (v := (2147483647 : Int32)) (wd hw 0 rfl) at_58 (n := 60) rfl ?_
        refine G.iand C at_60 (n := 61) rfl ?_
        refine G.iload C at_61 rfl (n := 63) rfl ?_
        refine G.irem C at_63 (nz_pos (by omega)) (n := 64) rfl ?_
        refine G.istoreZ C at_64 (l' := fun z => #[.val (.int i0), .val (.int i1), .val (.int i2), .val (.int i3), .val (.int i4), .val (.int i5), .val (.int (1 : Int32)), .val (.int (1 : Int32)), .val (.int (0 : Int32)), .val (.int v798), .val (.int v799), .val (.int z), .unset, .unset, .unset, .unset, .unset, .unset]) (fun _ => rfl) (n := 66) rfl ?_
        intro v800 hv800
        have qa : 0 ≤ v800.toInt ∧ v800.toInt < v799.toInt := by rw [hv800]; exact rem_v (by omega)
        refine G.iloadN C at_66 rfl (n := 67) rfl ?_
        refine G.ldc C (v := (2147483647 : Int32)) (wd hw 0 rfl) at_67 (n := 69) rfl ?_
        refine G.iand C at_69 (n := 70) rfl ?_
        refine G.iload C at_70 rfl (n := 72) rfl ?_
        refine G.irem C at_72 (nz_pos (by omega)) (n := 73) rfl ?_
        refine G.istoreZ C at_73 (l' := fun z => #[.val (.int i0), .val (.int i1), .val (.int i2), .val (.int i3), .val (.int i4), .val (.int i5), .val (.int (1 : Int32)), .val (.int (1 : Int32)), .val (.int (0 : Int32)), .val (.int v798), .val (.int v799), .val (.int v800), .val (.int z), .unset, .unset, .unset, .unset, .unset]) (fun _ => rfl) (n := 75) rfl ?_
        intro v801 hv801
        have qb2 : 0 ≤ v801.toInt ∧ v801.toInt < v799.toInt := by rw [hv801]; exact rem_v (by omega)
        refine G.iload C at_75 rfl (n := 77) rfl ?_
        refine G.sipush C (v := (1023 : Int32)) at_77 (by decide) (n := 80) rfl ?_
        refine G.iand C at_80 (n := 81) rfl ?_
        refine G.istoreZ C at_81 (l' := fun z => #[.val (.int i0), .val (.int i1), .val (.int i2), .val (.int i3), .val (.int i4), .val (.int i5), .val (.int (1 : Int32)), .val (.int (1 : Int32)), .val (.int (0 : Int32)), .val (.int v798), .val (.int v799), .val (.int v800), .val (.int v801), .val (.int z), .unset, .unset, .unset, .unset]) (fun _ => rfl) (n := 83) rfl ?_
        intro v802 hv802
        have qs : 0 ≤ v802.toInt ∧ v802.toInt ≤ 1023 := by rw [hv802]; exact c_and i4 1023 (by decide)
        refine G.new C (wd hw 1 rfl) (wd hw 2 rfl) (wd hw 3 rfl) at_83 (n := 86) rfl (c' := 1) (s' := 9) rfl rfl (by decide) (by decide) ?_
        intro h803 b804 q805 E806 A807 D808
        have g809 : n0 ≤ b804 := Nat.le_trans Z0 (Nat.le_of_eq q805.symm)
        have O810 := Ob_Wn.new hw A807 D808
        have K811 := kext E806
        have Z812 : n0 ≤ h803.size := Nat.le_trans Z0 K811.1
        refine G.dup C at_86 rfl (n := 87) rfl ?_
        refine G.iload C at_87 rfl (n := 89) rfl ?_
        refine G.callC C (argsL := [(.int (1 : Int32))]) (yc := (⟨"com/example/near_miss/nearmiss/search/Window", "<init>", "(Z)V"⟩ : MethodName)) (a := b804) rfl (wd hw 4 rfl) (wd hw 5 rfl) (wd hw 3 rfl) (wd hw 6 rfl) (by decide) (m_init1 l Z a0 hw b804 h803 n0 Z812 O810 g809) rfl (by decide) (W := 1) rfl (by decide) (c' := 4) (s' := 2073) rfl rfl (by decide) (by decide) at_89 (n := 92) rfl pd8 rfl rfl ?_
        rintro _ h825 ⟨rfl, K813, M, Sc, X, O814, O815, O816, f818, f819, ne821, O817, f820, ne822, ne823⟩
        have ne826 : b804 ≠ M := Nat.ne_of_lt (Nat.lt_of_lt_of_le O810.lt f818)
        have g827 : n0 ≤ M := Nat.le_trans Z812 f818
        have ne828 : b804 ≠ Sc := Nat.ne_of_lt (Nat.lt_of_lt_of_le O810.lt f819)
        have g829 : n0 ≤ Sc := Nat.le_trans Z812 f819
        have ne830 : b804 ≠ X := Nat.ne_of_lt (Nat.lt_of_lt_of_le O810.lt f820)
        have g831 : n0 ≤ X := Nat.le_trans Z812 f820
        have Z832 : n0 ≤ h825.size := Nat.le_trans Z812 K813.1
        refine G.astore C at_92 rfl (l' := #[.val (.int i0), .val (.int i1), .val (.int i2), .val (.int i3), .val (.int i4), .val (.int i5), .val (.int (1 : Int32)), .val (.int (1 : Int32)), .val (.int (0 : Int32)), .val (.int v798), .val (.int v799), .val (.int v800), .val (.int v801), .val (.int v802), .val (.ref b804), .unset, .unset, .unset]) rfl (n := 94) rfl ?_
        refine G.aload C at_94 rfl rfl (n := 96) rfl ?_
        refine G.iload C at_96 rfl (n := 98) rfl ?_
        refine G.iload C at_98 rfl (n := 100) rfl ?_
        refine G.iload C at_100 rfl (n := 102) rfl ?_
        refine G.iadd C at_102 (n := 103) rfl ?_
        refine G.callV C (argsL := [(.int v798), (.int (v798 + v799))]) (yr := (⟨"com/example/near_miss/nearmiss/search/Window", "reset", "(II)V"⟩ : MethodName)) (yc := (⟨"com/example/near_miss/nearmiss/search/Window", "reset", "(II)V"⟩ : MethodName)) (a := b804) (O814.1) (wd hw 20 rfl) (wd hw 21 rfl) (nfS (wd hw 23 rfl) rfl) (wd hw 23 rfl) (wd hw 22 rfl) (wd hw 3 rfl) (wd hw 24 rfl) (by decide) (m_reset1 l Z a0 hw b804 M Sc (0 : Int32) (0 : Int32) (0 : Int32) [0, 0, 0, 0, 0, 0, 0, 0, 0, 0, 0, 0, 0, 0, 0, 0] X v798 (v798 + v799) h825 n0 Z832 O814 O815 O816 ne826 ne828 ne821 g827 g829 rfl g809 O817 ne830 ne822 ne823 g831 (by decide) (by decide) (by decide) (by decide) (by rw [qr.2.2]; omega) (by rw [qe]; exact ql.2)) rfl (by decide) (W := 0) rfl (by decide) (c' := 4) (s' := 2073) rfl rfl (by decide) (by decide) at_103 (n := 106) rfl pd9 rfl rfl ?_
        rintro _ h842 ⟨rfl, K833, O834, us838, O835, Hl839, F840, O836, O837⟩
        have Z843 : n0 ≤ h842.size := Nat.le_trans Z832 K833.1
        have H844 := F840 _ has0 (fun s h => absurd h (Nat.not_lt_zero _))
        refine G.aload C at_106 rfl rfl (n := 108) rfl ?_
        refine G.iload C at_108 rfl (n := 110) rfl ?_
        refine G.iload C at_110 rfl (n := 112) rfl ?_
        refine G.iadd C at_112 (n := 113) rfl ?_
        refine G.dconst1 C at_113 (n := 114) rfl ?_
        refine G.callV C (argsL := [(.int (v798 + v800)), (.double FP.dconst1)]) (yr := (⟨"com/example/near_miss/nearmiss/search/Window", "add", "(ID)V"⟩ : MethodName)) (yc := (⟨"com/example/near_miss/nearmiss/search/Window", "add", "(ID)V"⟩ : MethodName)) (a := b804) (O834.1) (wd hw 31 rfl) (wd hw 32 rfl) (nfS (wd hw 34 rfl) rfl) (wd hw 34 rfl) (wd hw 33 rfl) (wd hw 3 rfl) (wd hw 35 rfl) (by decide) (m_add l Z a0 hw b804 M Sc (1 : Int32) (.ref X) (((((v798 + v799) - v798) + (64 : Int32)) - (1 : Int32)) / (64 : Int32)) v798 (v798 + v799) us838 (v798 + v800) v800 FP.dconst1 h842 n0 Z843 O834 O835 O836 ne826 ne828 ne821 g827 g829 Hl839 (asub _ _) qa.1 (by omega) (by rw [qe]; exact qa.2)) rfl (by decide) (W := 0) rfl (by decide) (c' := 4) (s' := 2073) rfl rfl (by decide) (by decide) at_114 (n := 117) rfl pd6 rfl rfl ?_
        rintro _ h852 ⟨rfl, K845, us848, O846, Hl849, F850, O847⟩
        have O853 := O834.keep K845 (ninS ne826 (ninS ne828 nin0))
        have O854 := O837.keep K845 (ninS (Ne.symm ne822) (ninS (Ne.symm ne823) nin0))
        have Z855 : n0 ≤ h852.size := Nat.le_trans Z843 K845.1
        have H856 := F850 _ H844
        refine G.iload C at_117 rfl (n := 119) rfl ?_
        refine G.iload C at_119 rfl (n := 121) rfl ?_
        refine G.icmp_eq C (A := v801.toInt) (B := v800.toInt) rfl rfl at_121 (by decide) (by decide) (n := 124) (n' := 137) rfl (fun c121_857 c121_857i => ?_) (fun c121_857 c121_857i => ?_)
        · refine G.iload C at_137 rfl (n := 139) rfl ?_
          refine G.if_eq C (A := 0) (by decide) at_139 (by decide) (by decide) (n := 142) (n' := 154) rfl (fun c139_858 c139_858i => ?_) (fun c139_858 c139_858i => ?_)
          rotate_left
          · exact absurd c139_858 (by decide)
          refine G.iload C at_154 rfl (n := 156) rfl ?_
          refine G.if_eq C (A := 1) (by decide) at_156 (by decide) (by decide) (n := 159) (n' := 166) rfl (fun c156_859 c156_859i => ?_) (fun c156_859 c156_859i => ?_)
          · exact absurd c156_859 (by decide)
          refine G.aload C at_159 rfl rfl (n := 161) rfl ?_
          refine G.iload C at_161 rfl (n := 163) rfl ?_
          refine G.callV C (argsL := [(.int v800)]) (yr := (⟨"com/example/near_miss/nearmiss/search/Window", "remove", "(I)V"⟩ : MethodName)) (yc := (⟨"com/example/near_miss/nearmiss/search/Window", "remove", "(I)V"⟩ : MethodName)) (a := b804) (O853.1) (wd hw 83 rfl) (wd hw 84 rfl) (nfS (wd hw 86 rfl) rfl) (wd hw 86 rfl) (wd hw 85 rfl) (wd hw 3 rfl) (wd hw 87 rfl) (by decide) (m_remove l Z a0 hw b804 M Sc (1 : Int32) (.ref X) (((((v798 + v799) - v798) + (64 : Int32)) - (1 : Int32)) / (64 : Int32)) v798 (v798 + v799) us848 v800 h852 n0 Z855 O853 O846 O847 ne826 ne828 ne821 g827 g829 Hl849 qa.1 (by omega)) rfl (by decide) (W := 0) rfl (by decide) (c' := 4) (s' := 2073) rfl rfl (by decide) (by decide) at_163 (n := 166) rfl pd11 rfl rfl ?_
          rintro _ h867 ⟨rfl, K860, us863, O861, Hl864, F865, O862⟩
          have O868 := O853.keep K860 (ninS ne826 (ninS ne828 nin0))
          have O869 := O854.keep K860 (ninS (Ne.symm ne822) (ninS (Ne.symm ne823) nin0))
          have Z870 : n0 ≤ h867.size := Nat.le_trans Z855 K860.1
          have H871 := F865 _ H856
          refine G.iload C at_166 rfl (n := 168) rfl ?_
          refine G.if_eq C (A := 0) (by decide) at_168 (by decide) (by decide) (n := 171) (n' := 177) rfl (fun c168_872 c168_872i => ?_) (fun c168_872 c168_872i => ?_)
          rotate_left
          · exact absurd c168_872 (by decide)
          refine G.iload C at_177 rfl (n := 179) rfl ?_
          refine G.iload C at_179 rfl (n := 181) rfl ?_
          refine G.icmp_ne C (A := v802.toInt) (B := v800.toInt) rfl rfl at_181 (by decide) (by decide) (n := 184) (n' := 193) rfl (fun c181_873 c181_873i => ?_) (fun c181_873 c181_873i => ?_)
          · refine G.iconst C (v := (0 : Int32)) at_193 (by decide) (n := 194) rfl ?_
            refine G.istore C at_194 (l' := #[.val (.int i0), .val (.int i1), .val (.int i2), .val (.int i3), .val (.int i4), .val (.int i5), .val (.int (1 : Int32)), .val (.int (1 : Int32)), .val (.int (0 : Int32)), .val (.int v798), .val (.int v799), .val (.int v800), .val (.int v801), .val (.int v802), .val (.ref b804), .unset, .val (.int (0 : Int32)), .unset]) rfl (n := 196) rfl ?_
            refine G.iload C at_196 rfl (n := 198) rfl ?_
            refine G.iload C at_198 rfl (n := 200) rfl ?_
            refine G.icmp_eq C (A := v801.toInt) (B := v800.toInt) rfl rfl at_200 (by decide) (by decide) (n := 203) (n' := 214) rfl (fun c200_874 c200_874i => ?_) (fun c200_874 c200_874i => ?_)
            · refine G.iconst C (v := (0 : Int32)) at_214 (by decide) (n := 215) rfl ?_
              refine G.istore C at_215 (l' := #[.val (.int i0), .val (.int i1), .val (.int i2), .val (.int i3), .val (.int i4), .val (.int i5), .val (.int (1 : Int32)), .val (.int (1 : Int32)), .val (.int (0 : Int32)), .val (.int v798), .val (.int v799), .val (.int v800), .val (.int v801), .val (.int v802), .val (.ref b804), .unset, .val (.int (0 : Int32)), .val (.int (0 : Int32))]) rfl (n := 217) rfl ?_
              refine G.iload C at_217 rfl (n := 219) rfl ?_
              refine G.if_ne C (A := 0) (by decide) at_219 (by decide) (by decide) (n := 222) (n' := 227) rfl (fun c219_875 c219_875i => ?_) (fun c219_875 c219_875i => ?_)
              · exact absurd c219_875 (by decide)
              refine G.iload C at_222 rfl (n := 224) rfl ?_
              refine G.if_eq C (A := 0) (by decide) at_224 (by decide) (by decide) (n := 227) (n' := 231) rfl (fun c224_876 c224_876i => ?_) (fun c224_876 c224_876i => ?_)
              rotate_left
              · exact absurd c224_876 (by decide)
              refine G.iconst C (v := (0 : Int32)) at_231 (by decide) (n := 232) rfl ?_
              refine G.istore C at_232 (l' := #[.val (.int i0), .val (.int i1), .val (.int i2), .val (.int i3), .val (.int i4), .val (.int i5), .val (.int (1 : Int32)), .val (.int (1 : Int32)), .val (.int (0 : Int32)), .val (.int v798), .val (.int v799), .val (.int v800), .val (.int v801), .val (.int v802), .val (.ref b804), .val (.int (0 : Int32)), .val (.int (0 : Int32)), .val (.int (0 : Int32))]) rfl (n := 234) rfl ?_
              refine G.aload C at_234 rfl rfl (n := 236) rfl ?_
              refine G.iload C at_236 rfl (n := 238) rfl ?_
              refine G.callV C (argsL := [(.int v802)]) (yr := (⟨"com/example/near_miss/nearmiss/search/Window", "holds", "(I)Z"⟩ : MethodName)) (yc := (⟨"com/example/near_miss/nearmiss/search/Window", "holds", "(I)Z"⟩ : MethodName)) (a := b804) (O868.1) (wd hw 53 rfl) (wd hw 54 rfl) (nfS (wd hw 56 rfl) rfl) (wd hw 56 rfl) (wd hw 55 rfl) (wd hw 3 rfl) (wd hw 57 rfl) (by decide) (m_holds l Z a0 hw b804 M Sc (1 : Int32) (.ref X) (((((v798 + v799) - v798) + (64 : Int32)) - (1 : Int32)) / (64 : Int32)) v798 (v798 + v799) us863 v802 h867 n0 Z870 O868 O861 O862 ne826 ne828 ne821 g827 g829 Hl864 qs.1 (by omega)) rfl (by decide) (W := 0) rfl (by decide) (c' := 4) (s' := 2073) rfl rfl (by decide) (by decide) at_238 (n := 241) rfl pd10 rfl rfl ?_
              rintro _ h878 ⟨rr, rfl, Fr0, rfl⟩
              have Hr := Fr0 _ H871
              refine G.iload C at_241 rfl (n := 243) rfl ?_
              refine G.icmp_ne C (A := rr.toInt) (B := 0) rfl (by decide) at_243 (by decide) (by decide) (n := 246) (n' := 250) rfl (fun c243_879 c243_879i => ?_) (fun c243_879 c243_879i => ?_)
              · rcases Hr with ⟨r1, r2⟩ | ⟨r1, r2⟩ <;> first | exact absurd r1 c243_879 | (exfalso; omega)
              refine G.iconst C (v := (1 : Int32)) at_246 (by decide) (n := 247) rfl ?_
              refine G.goto C at_247 (by decide) (n := 251) (by decide) ?_
              refine G.ireturn C at_251 (rfl) (by simp) (by decide) (by decide) ?_
              exact rfl
            · refine G.iload C at_203 rfl (n := 205) rfl ?_
              refine G.iload C at_205 rfl (n := 207) rfl ?_
              refine G.icmp_ne C (A := v802.toInt) (B := v801.toInt) rfl rfl at_207 (by decide) (by decide) (n := 210) (n' := 214) rfl (fun c207_880 c207_880i => ?_) (fun c207_880 c207_880i => ?_)
              · refine G.iconst C (v := (0 : Int32)) at_214 (by decide) (n := 215) rfl ?_
                refine G.istore C at_215 (l' := #[.val (.int i0), .val (.int i1), .val (.int i2), .val (.int i3), .val (.int i4), .val (.int i5), .val (.int (1 : Int32)), .val (.int (1 : Int32)), .val (.int (0 : Int32)), .val (.int v798), .val (.int v799), .val (.int v800), .val (.int v801), .val (.int v802), .val (.ref b804), .unset, .val (.int (0 : Int32)), .val (.int (0 : Int32))]) rfl (n := 217) rfl ?_
                refine G.iload C at_217 rfl (n := 219) rfl ?_
                refine G.if_ne C (A := 0) (by decide) at_219 (by decide) (by decide) (n := 222) (n' := 227) rfl (fun c219_881 c219_881i => ?_) (fun c219_881 c219_881i => ?_)
                · exact absurd c219_881 (by decide)
                refine G.iload C at_222 rfl (n := 224) rfl ?_
                refine G.if_eq C (A := 0) (by decide) at_224 (by decide) (by decide) (n := 227) (n' := 231) rfl (fun c224_882 c224_882i => ?_) (fun c224_882 c224_882i => ?_)
                rotate_left
                · exact absurd c224_882 (by decide)
                refine G.iconst C (v := (0 : Int32)) at_231 (by decide) (n := 232) rfl ?_
                refine G.istore C at_232 (l' := #[.val (.int i0), .val (.int i1), .val (.int i2), .val (.int i3), .val (.int i4), .val (.int i5), .val (.int (1 : Int32)), .val (.int (1 : Int32)), .val (.int (0 : Int32)), .val (.int v798), .val (.int v799), .val (.int v800), .val (.int v801), .val (.int v802), .val (.ref b804), .val (.int (0 : Int32)), .val (.int (0 : Int32)), .val (.int (0 : Int32))]) rfl (n := 234) rfl ?_
                refine G.aload C at_234 rfl rfl (n := 236) rfl ?_
                refine G.iload C at_236 rfl (n := 238) rfl ?_
                refine G.callV C (argsL := [(.int v802)]) (yr := (⟨"com/example/near_miss/nearmiss/search/Window", "holds", "(I)Z"⟩ : MethodName)) (yc := (⟨"com/example/near_miss/nearmiss/search/Window", "holds", "(I)Z"⟩ : MethodName)) (a := b804) (O868.1) (wd hw 53 rfl) (wd hw 54 rfl) (nfS (wd hw 56 rfl) rfl) (wd hw 56 rfl) (wd hw 55 rfl) (wd hw 3 rfl) (wd hw 57 rfl) (by decide) (m_holds l Z a0 hw b804 M Sc (1 : Int32) (.ref X) (((((v798 + v799) - v798) + (64 : Int32)) - (1 : Int32)) / (64 : Int32)) v798 (v798 + v799) us863 v802 h867 n0 Z870 O868 O861 O862 ne826 ne828 ne821 g827 g829 Hl864 qs.1 (by omega)) rfl (by decide) (W := 0) rfl (by decide) (c' := 4) (s' := 2073) rfl rfl (by decide) (by decide) at_238 (n := 241) rfl pd10 rfl rfl ?_
                rintro _ h884 ⟨rr, rfl, Fr0, rfl⟩
                have Hr := Fr0 _ H871
                refine G.iload C at_241 rfl (n := 243) rfl ?_
                refine G.icmp_ne C (A := rr.toInt) (B := 0) rfl (by decide) at_243 (by decide) (by decide) (n := 246) (n' := 250) rfl (fun c243_885 c243_885i => ?_) (fun c243_885 c243_885i => ?_)
                · rcases Hr with ⟨r1, r2⟩ | ⟨r1, r2⟩ <;> first | exact absurd r1 c243_885 | (exfalso; omega)
                refine G.iconst C (v := (1 : Int32)) at_246 (by decide) (n := 247) rfl ?_
                refine G.goto C at_247 (by decide) (n := 251) (by decide) ?_
                refine G.ireturn C at_251 (rfl) (by simp) (by decide) (by decide) ?_
                exact rfl
              · refine G.iconst C (v := (1 : Int32)) at_210 (by decide) (n := 211) rfl ?_
                refine G.goto C at_211 (by decide) (n := 215) (by decide) ?_
                refine G.istore C at_215 (l' := #[.val (.int i0), .val (.int i1), .val (.int i2), .val (.int i3), .val (.int i4), .val (.int i5), .val (.int (1 : Int32)), .val (.int (1 : Int32)), .val (.int (0 : Int32)), .val (.int v798), .val (.int v799), .val (.int v800), .val (.int v801), .val (.int v802), .val (.ref b804), .unset, .val (.int (0 : Int32)), .val (.int (1 : Int32))]) rfl (n := 217) rfl ?_
                refine G.iload C at_217 rfl (n := 219) rfl ?_
                refine G.if_ne C (A := 0) (by decide) at_219 (by decide) (by decide) (n := 222) (n' := 227) rfl (fun c219_886 c219_886i => ?_) (fun c219_886 c219_886i => ?_)
                · exact absurd c219_886 (by decide)
                refine G.iload C at_222 rfl (n := 224) rfl ?_
                refine G.if_eq C (A := 1) (by decide) at_224 (by decide) (by decide) (n := 227) (n' := 231) rfl (fun c224_887 c224_887i => ?_) (fun c224_887 c224_887i => ?_)
                · exact absurd c224_887 (by decide)
                refine G.iconst C (v := (1 : Int32)) at_227 (by decide) (n := 228) rfl ?_
                refine G.goto C at_228 (by decide) (n := 232) (by decide) ?_
                refine G.istore C at_232 (l' := #[.val (.int i0), .val (.int i1), .val (.int i2), .val (.int i3), .val (.int i4), .val (.int i5), .val (.int (1 : Int32)), .val (.int (1 : Int32)), .val (.int (0 : Int32)), .val (.int v798), .val (.int v799), .val (.int v800), .val (.int v801), .val (.int v802), .val (.ref b804), .val (.int (1 : Int32)), .val (.int (0 : Int32)), .val (.int (1 : Int32))]) rfl (n := 234) rfl ?_
                refine G.aload C at_234 rfl rfl (n := 236) rfl ?_
                refine G.iload C at_236 rfl (n := 238) rfl ?_
                refine G.callV C (argsL := [(.int v802)]) (yr := (⟨"com/example/near_miss/nearmiss/search/Window", "holds", "(I)Z"⟩ : MethodName)) (yc := (⟨"com/example/near_miss/nearmiss/search/Window", "holds", "(I)Z"⟩ : MethodName)) (a := b804) (O868.1) (wd hw 53 rfl) (wd hw 54 rfl) (nfS (wd hw 56 rfl) rfl) (wd hw 56 rfl) (wd hw 55 rfl) (wd hw 3 rfl) (wd hw 57 rfl) (by decide) (m_holds l Z a0 hw b804 M Sc (1 : Int32) (.ref X) (((((v798 + v799) - v798) + (64 : Int32)) - (1 : Int32)) / (64 : Int32)) v798 (v798 + v799) us863 v802 h867 n0 Z870 O868 O861 O862 ne826 ne828 ne821 g827 g829 Hl864 qs.1 (by omega)) rfl (by decide) (W := 0) rfl (by decide) (c' := 4) (s' := 2073) rfl rfl (by decide) (by decide) at_238 (n := 241) rfl pd10 rfl rfl ?_
                rintro _ h889 ⟨rr, rfl, Fr0, rfl⟩
                have Hr := Fr0 _ H871
                refine G.iload C at_241 rfl (n := 243) rfl ?_
                refine G.icmp_ne C (A := rr.toInt) (B := 1) rfl (by decide) at_243 (by decide) (by decide) (n := 246) (n' := 250) rfl (fun c243_890 c243_890i => ?_) (fun c243_890 c243_890i => ?_)
                · rcases Hr with ⟨r1, r2⟩ | ⟨r1, r2⟩ <;> first | exact absurd r1 c243_890 | (exfalso; omega)
                refine G.iconst C (v := (1 : Int32)) at_246 (by decide) (n := 247) rfl ?_
                refine G.goto C at_247 (by decide) (n := 251) (by decide) ?_
                refine G.ireturn C at_251 (rfl) (by simp) (by decide) (by decide) ?_
                exact rfl
          · refine G.iload C at_184 rfl (n := 186) rfl ?_
            refine G.if_ne C (A := 1) (by decide) at_186 (by decide) (by decide) (n := 189) (n' := 193) rfl (fun c186_891 c186_891i => ?_) (fun c186_891 c186_891i => ?_)
            rotate_left
            · exact absurd c186_891 (by decide)
            refine G.iconst C (v := (0 : Int32)) at_193 (by decide) (n := 194) rfl ?_
            refine G.istore C at_194 (l' := #[.val (.int i0), .val (.int i1), .val (.int i2), .val (.int i3), .val (.int i4), .val (.int i5), .val (.int (1 : Int32)), .val (.int (1 : Int32)), .val (.int (0 : Int32)), .val (.int v798), .val (.int v799), .val (.int v800), .val (.int v801), .val (.int v802), .val (.ref b804), .unset, .val (.int (0 : Int32)), .unset]) rfl (n := 196) rfl ?_
            refine G.iload C at_196 rfl (n := 198) rfl ?_
            refine G.iload C at_198 rfl (n := 200) rfl ?_
            refine G.icmp_eq C (A := v801.toInt) (B := v800.toInt) rfl rfl at_200 (by decide) (by decide) (n := 203) (n' := 214) rfl (fun c200_892 c200_892i => ?_) (fun c200_892 c200_892i => ?_)
            · refine G.iconst C (v := (0 : Int32)) at_214 (by decide) (n := 215) rfl ?_
              refine G.istore C at_215 (l' := #[.val (.int i0), .val (.int i1), .val (.int i2), .val (.int i3), .val (.int i4), .val (.int i5), .val (.int (1 : Int32)), .val (.int (1 : Int32)), .val (.int (0 : Int32)), .val (.int v798), .val (.int v799), .val (.int v800), .val (.int v801), .val (.int v802), .val (.ref b804), .unset, .val (.int (0 : Int32)), .val (.int (0 : Int32))]) rfl (n := 217) rfl ?_
              refine G.iload C at_217 rfl (n := 219) rfl ?_
              refine G.if_ne C (A := 0) (by decide) at_219 (by decide) (by decide) (n := 222) (n' := 227) rfl (fun c219_893 c219_893i => ?_) (fun c219_893 c219_893i => ?_)
              · exact absurd c219_893 (by decide)
              refine G.iload C at_222 rfl (n := 224) rfl ?_
              refine G.if_eq C (A := 0) (by decide) at_224 (by decide) (by decide) (n := 227) (n' := 231) rfl (fun c224_894 c224_894i => ?_) (fun c224_894 c224_894i => ?_)
              rotate_left
              · exact absurd c224_894 (by decide)
              refine G.iconst C (v := (0 : Int32)) at_231 (by decide) (n := 232) rfl ?_
              refine G.istore C at_232 (l' := #[.val (.int i0), .val (.int i1), .val (.int i2), .val (.int i3), .val (.int i4), .val (.int i5), .val (.int (1 : Int32)), .val (.int (1 : Int32)), .val (.int (0 : Int32)), .val (.int v798), .val (.int v799), .val (.int v800), .val (.int v801), .val (.int v802), .val (.ref b804), .val (.int (0 : Int32)), .val (.int (0 : Int32)), .val (.int (0 : Int32))]) rfl (n := 234) rfl ?_
              refine G.aload C at_234 rfl rfl (n := 236) rfl ?_
              refine G.iload C at_236 rfl (n := 238) rfl ?_
              refine G.callV C (argsL := [(.int v802)]) (yr := (⟨"com/example/near_miss/nearmiss/search/Window", "holds", "(I)Z"⟩ : MethodName)) (yc := (⟨"com/example/near_miss/nearmiss/search/Window", "holds", "(I)Z"⟩ : MethodName)) (a := b804) (O868.1) (wd hw 53 rfl) (wd hw 54 rfl) (nfS (wd hw 56 rfl) rfl) (wd hw 56 rfl) (wd hw 55 rfl) (wd hw 3 rfl) (wd hw 57 rfl) (by decide) (m_holds l Z a0 hw b804 M Sc (1 : Int32) (.ref X) (((((v798 + v799) - v798) + (64 : Int32)) - (1 : Int32)) / (64 : Int32)) v798 (v798 + v799) us863 v802 h867 n0 Z870 O868 O861 O862 ne826 ne828 ne821 g827 g829 Hl864 qs.1 (by omega)) rfl (by decide) (W := 0) rfl (by decide) (c' := 4) (s' := 2073) rfl rfl (by decide) (by decide) at_238 (n := 241) rfl pd10 rfl rfl ?_
              rintro _ h896 ⟨rr, rfl, Fr0, rfl⟩
              have Hr := Fr0 _ H871
              refine G.iload C at_241 rfl (n := 243) rfl ?_
              refine G.icmp_ne C (A := rr.toInt) (B := 0) rfl (by decide) at_243 (by decide) (by decide) (n := 246) (n' := 250) rfl (fun c243_897 c243_897i => ?_) (fun c243_897 c243_897i => ?_)
              · rcases Hr with ⟨r1, r2⟩ | ⟨r1, r2⟩ <;> first | exact absurd r1 c243_897 | (exfalso; omega)
              refine G.iconst C (v := (1 : Int32)) at_246 (by decide) (n := 247) rfl ?_
              refine G.goto C at_247 (by decide) (n := 251) (by decide) ?_
              refine G.ireturn C at_251 (rfl) (by simp) (by decide) (by decide) ?_
              exact rfl
            · refine G.iload C at_203 rfl (n := 205) rfl ?_
              refine G.iload C at_205 rfl (n := 207) rfl ?_
              refine G.icmp_ne C (A := v802.toInt) (B := v801.toInt) rfl rfl at_207 (by decide) (by decide) (n := 210) (n' := 214) rfl (fun c207_898 c207_898i => ?_) (fun c207_898 c207_898i => ?_)
              · refine G.iconst C (v := (0 : Int32)) at_214 (by decide) (n := 215) rfl ?_
                refine G.istore C at_215 (l' := #[.val (.int i0), .val (.int i1), .val (.int i2), .val (.int i3), .val (.int i4), .val (.int i5), .val (.int (1 : Int32)), .val (.int (1 : Int32)), .val (.int (0 : Int32)), .val (.int v798), .val (.int v799), .val (.int v800), .val (.int v801), .val (.int v802), .val (.ref b804), .unset, .val (.int (0 : Int32)), .val (.int (0 : Int32))]) rfl (n := 217) rfl ?_
                refine G.iload C at_217 rfl (n := 219) rfl ?_
                refine G.if_ne C (A := 0) (by decide) at_219 (by decide) (by decide) (n := 222) (n' := 227) rfl (fun c219_899 c219_899i => ?_) (fun c219_899 c219_899i => ?_)
                · exact absurd c219_899 (by decide)
                refine G.iload C at_222 rfl (n := 224) rfl ?_
                refine G.if_eq C (A := 0) (by decide) at_224 (by decide) (by decide) (n := 227) (n' := 231) rfl (fun c224_900 c224_900i => ?_) (fun c224_900 c224_900i => ?_)
                rotate_left
                · exact absurd c224_900 (by decide)
                refine G.iconst C (v := (0 : Int32)) at_231 (by decide) (n := 232) rfl ?_
                refine G.istore C at_232 (l' := #[.val (.int i0), .val (.int i1), .val (.int i2), .val (.int i3), .val (.int i4), .val (.int i5), .val (.int (1 : Int32)), .val (.int (1 : Int32)), .val (.int (0 : Int32)), .val (.int v798), .val (.int v799), .val (.int v800), .val (.int v801), .val (.int v802), .val (.ref b804), .val (.int (0 : Int32)), .val (.int (0 : Int32)), .val (.int (0 : Int32))]) rfl (n := 234) rfl ?_
                refine G.aload C at_234 rfl rfl (n := 236) rfl ?_
                refine G.iload C at_236 rfl (n := 238) rfl ?_
                refine G.callV C (argsL := [(.int v802)]) (yr := (⟨"com/example/near_miss/nearmiss/search/Window", "holds", "(I)Z"⟩ : MethodName)) (yc := (⟨"com/example/near_miss/nearmiss/search/Window", "holds", "(I)Z"⟩ : MethodName)) (a := b804) (O868.1) (wd hw 53 rfl) (wd hw 54 rfl) (nfS (wd hw 56 rfl) rfl) (wd hw 56 rfl) (wd hw 55 rfl) (wd hw 3 rfl) (wd hw 57 rfl) (by decide) (m_holds l Z a0 hw b804 M Sc (1 : Int32) (.ref X) (((((v798 + v799) - v798) + (64 : Int32)) - (1 : Int32)) / (64 : Int32)) v798 (v798 + v799) us863 v802 h867 n0 Z870 O868 O861 O862 ne826 ne828 ne821 g827 g829 Hl864 qs.1 (by omega)) rfl (by decide) (W := 0) rfl (by decide) (c' := 4) (s' := 2073) rfl rfl (by decide) (by decide) at_238 (n := 241) rfl pd10 rfl rfl ?_
                rintro _ h902 ⟨rr, rfl, Fr0, rfl⟩
                have Hr := Fr0 _ H871
                refine G.iload C at_241 rfl (n := 243) rfl ?_
                refine G.icmp_ne C (A := rr.toInt) (B := 0) rfl (by decide) at_243 (by decide) (by decide) (n := 246) (n' := 250) rfl (fun c243_903 c243_903i => ?_) (fun c243_903 c243_903i => ?_)
                · rcases Hr with ⟨r1, r2⟩ | ⟨r1, r2⟩ <;> first | exact absurd r1 c243_903 | (exfalso; omega)
                refine G.iconst C (v := (1 : Int32)) at_246 (by decide) (n := 247) rfl ?_
                refine G.goto C at_247 (by decide) (n := 251) (by decide) ?_
                refine G.ireturn C at_251 (rfl) (by simp) (by decide) (by decide) ?_
                exact rfl
              · refine G.iconst C (v := (1 : Int32)) at_210 (by decide) (n := 211) rfl ?_
                refine G.goto C at_211 (by decide) (n := 215) (by decide) ?_
                refine G.istore C at_215 (l' := #[.val (.int i0), .val (.int i1), .val (.int i2), .val (.int i3), .val (.int i4), .val (.int i5), .val (.int (1 : Int32)), .val (.int (1 : Int32)), .val (.int (0 : Int32)), .val (.int v798), .val (.int v799), .val (.int v800), .val (.int v801), .val (.int v802), .val (.ref b804), .unset, .val (.int (0 : Int32)), .val (.int (1 : Int32))]) rfl (n := 217) rfl ?_
                refine G.iload C at_217 rfl (n := 219) rfl ?_
                refine G.if_ne C (A := 0) (by decide) at_219 (by decide) (by decide) (n := 222) (n' := 227) rfl (fun c219_904 c219_904i => ?_) (fun c219_904 c219_904i => ?_)
                · exact absurd c219_904 (by decide)
                refine G.iload C at_222 rfl (n := 224) rfl ?_
                refine G.if_eq C (A := 1) (by decide) at_224 (by decide) (by decide) (n := 227) (n' := 231) rfl (fun c224_905 c224_905i => ?_) (fun c224_905 c224_905i => ?_)
                · exact absurd c224_905 (by decide)
                refine G.iconst C (v := (1 : Int32)) at_227 (by decide) (n := 228) rfl ?_
                refine G.goto C at_228 (by decide) (n := 232) (by decide) ?_
                refine G.istore C at_232 (l' := #[.val (.int i0), .val (.int i1), .val (.int i2), .val (.int i3), .val (.int i4), .val (.int i5), .val (.int (1 : Int32)), .val (.int (1 : Int32)), .val (.int (0 : Int32)), .val (.int v798), .val (.int v799), .val (.int v800), .val (.int v801), .val (.int v802), .val (.ref b804), .val (.int (1 : Int32)), .val (.int (0 : Int32)), .val (.int (1 : Int32))]) rfl (n := 234) rfl ?_
                refine G.aload C at_234 rfl rfl (n := 236) rfl ?_
                refine G.iload C at_236 rfl (n := 238) rfl ?_
                refine G.callV C (argsL := [(.int v802)]) (yr := (⟨"com/example/near_miss/nearmiss/search/Window", "holds", "(I)Z"⟩ : MethodName)) (yc := (⟨"com/example/near_miss/nearmiss/search/Window", "holds", "(I)Z"⟩ : MethodName)) (a := b804) (O868.1) (wd hw 53 rfl) (wd hw 54 rfl) (nfS (wd hw 56 rfl) rfl) (wd hw 56 rfl) (wd hw 55 rfl) (wd hw 3 rfl) (wd hw 57 rfl) (by decide) (m_holds l Z a0 hw b804 M Sc (1 : Int32) (.ref X) (((((v798 + v799) - v798) + (64 : Int32)) - (1 : Int32)) / (64 : Int32)) v798 (v798 + v799) us863 v802 h867 n0 Z870 O868 O861 O862 ne826 ne828 ne821 g827 g829 Hl864 qs.1 (by omega)) rfl (by decide) (W := 0) rfl (by decide) (c' := 4) (s' := 2073) rfl rfl (by decide) (by decide) at_238 (n := 241) rfl pd10 rfl rfl ?_
                rintro _ h907 ⟨rr, rfl, Fr0, rfl⟩
                have Hr := Fr0 _ H871
                refine G.iload C at_241 rfl (n := 243) rfl ?_
                refine G.icmp_ne C (A := rr.toInt) (B := 1) rfl (by decide) at_243 (by decide) (by decide) (n := 246) (n' := 250) rfl (fun c243_908 c243_908i => ?_) (fun c243_908 c243_908i => ?_)
                · rcases Hr with ⟨r1, r2⟩ | ⟨r1, r2⟩ <;> first | exact absurd r1 c243_908 | (exfalso; omega)
                refine G.iconst C (v := (1 : Int32)) at_246 (by decide) (n := 247) rfl ?_
                refine G.goto C at_247 (by decide) (n := 251) (by decide) ?_
                refine G.ireturn C at_251 (rfl) (by simp) (by decide) (by decide) ?_
                exact rfl
        · refine G.aload C at_124 rfl rfl (n := 126) rfl ?_
          refine G.iload C at_126 rfl (n := 128) rfl ?_
          refine G.iload C at_128 rfl (n := 130) rfl ?_
          refine G.iadd C at_130 (n := 131) rfl ?_
          refine G.ldc2D C (v := (4611686018427387904 : UInt64)) (wd hw 52 rfl) at_131 (n := 134) rfl ?_
          refine G.callV C (argsL := [(.int (v798 + v801)), (.double (4611686018427387904 : UInt64))]) (yr := (⟨"com/example/near_miss/nearmiss/search/Window", "add", "(ID)V"⟩ : MethodName)) (yc := (⟨"com/example/near_miss/nearmiss/search/Window", "add", "(ID)V"⟩ : MethodName)) (a := b804) (O853.1) (wd hw 31 rfl) (wd hw 32 rfl) (nfS (wd hw 34 rfl) rfl) (wd hw 34 rfl) (wd hw 33 rfl) (wd hw 3 rfl) (wd hw 35 rfl) (by decide) (m_add l Z a0 hw b804 M Sc (1 : Int32) (.ref X) (((((v798 + v799) - v798) + (64 : Int32)) - (1 : Int32)) / (64 : Int32)) v798 (v798 + v799) us848 (v798 + v801) v801 (4611686018427387904 : UInt64) h852 n0 Z855 O853 O846 O847 ne826 ne828 ne821 g827 g829 Hl849 (asub _ _) qb2.1 (by omega) (by rw [qe]; exact qb2.2)) rfl (by decide) (W := 0) rfl (by decide) (c' := 4) (s' := 2073) rfl rfl (by decide) (by decide) at_134 (n := 137) rfl pd6 rfl rfl ?_
          rintro _ h916 ⟨rfl, K909, us912, O910, Hl913, F914, O911⟩
          have O917 := O853.keep K909 (ninS ne826 (ninS ne828 nin0))
          have O918 := O854.keep K909 (ninS (Ne.symm ne822) (ninS (Ne.symm ne823) nin0))
          have Z919 : n0 ≤ h916.size := Nat.le_trans Z855 K909.1
          have H920 := F914 _ H856
          refine G.iload C at_137 rfl (n := 139) rfl ?_
          refine G.if_eq C (A := 0) (by decide) at_139 (by decide) (by decide) (n := 142) (n' := 154) rfl (fun c139_921 c139_921i => ?_) (fun c139_921 c139_921i => ?_)
          rotate_left
          · exact absurd c139_921 (by decide)
          refine G.iload C at_154 rfl (n := 156) rfl ?_
          refine G.if_eq C (A := 1) (by decide) at_156 (by decide) (by decide) (n := 159) (n' := 166) rfl (fun c156_922 c156_922i => ?_) (fun c156_922 c156_922i => ?_)
          · exact absurd c156_922 (by decide)
          refine G.aload C at_159 rfl rfl (n := 161) rfl ?_
          refine G.iload C at_161 rfl (n := 163) rfl ?_
          refine G.callV C (argsL := [(.int v800)]) (yr := (⟨"com/example/near_miss/nearmiss/search/Window", "remove", "(I)V"⟩ : MethodName)) (yc := (⟨"com/example/near_miss/nearmiss/search/Window", "remove", "(I)V"⟩ : MethodName)) (a := b804) (O917.1) (wd hw 83 rfl) (wd hw 84 rfl) (nfS (wd hw 86 rfl) rfl) (wd hw 86 rfl) (wd hw 85 rfl) (wd hw 3 rfl) (wd hw 87 rfl) (by decide) (m_remove l Z a0 hw b804 M Sc (1 : Int32) (.ref X) (((((v798 + v799) - v798) + (64 : Int32)) - (1 : Int32)) / (64 : Int32)) v798 (v798 + v799) us912 v800 h916 n0 Z919 O917 O910 O911 ne826 ne828 ne821 g827 g829 Hl913 qa.1 (by omega)) rfl (by decide) (W := 0) rfl (by decide) (c' := 4) (s' := 2073) rfl rfl (by decide) (by decide) at_163 (n := 166) rfl pd11 rfl rfl ?_
          rintro _ h930 ⟨rfl, K923, us926, O924, Hl927, F928, O925⟩
          have O931 := O917.keep K923 (ninS ne826 (ninS ne828 nin0))
          have O932 := O918.keep K923 (ninS (Ne.symm ne822) (ninS (Ne.symm ne823) nin0))
          have Z933 : n0 ≤ h930.size := Nat.le_trans Z919 K923.1
          have H934 := F928 _ H920
          refine G.iload C at_166 rfl (n := 168) rfl ?_
          refine G.if_eq C (A := 0) (by decide) at_168 (by decide) (by decide) (n := 171) (n' := 177) rfl (fun c168_935 c168_935i => ?_) (fun c168_935 c168_935i => ?_)
          rotate_left
          · exact absurd c168_935 (by decide)
          refine G.iload C at_177 rfl (n := 179) rfl ?_
          refine G.iload C at_179 rfl (n := 181) rfl ?_
          refine G.icmp_ne C (A := v802.toInt) (B := v800.toInt) rfl rfl at_181 (by decide) (by decide) (n := 184) (n' := 193) rfl (fun c181_936 c181_936i => ?_) (fun c181_936 c181_936i => ?_)
          · refine G.iconst C (v := (0 : Int32)) at_193 (by decide) (n := 194) rfl ?_
            refine G.istore C at_194 (l' := #[.val (.int i0), .val (.int i1), .val (.int i2), .val (.int i3), .val (.int i4), .val (.int i5), .val (.int (1 : Int32)), .val (.int (1 : Int32)), .val (.int (0 : Int32)), .val (.int v798), .val (.int v799), .val (.int v800), .val (.int v801), .val (.int v802), .val (.ref b804), .unset, .val (.int (0 : Int32)), .unset]) rfl (n := 196) rfl ?_
            refine G.iload C at_196 rfl (n := 198) rfl ?_
            refine G.iload C at_198 rfl (n := 200) rfl ?_
            refine G.icmp_eq C (A := v801.toInt) (B := v800.toInt) rfl rfl at_200 (by decide) (by decide) (n := 203) (n' := 214) rfl (fun c200_937 c200_937i => ?_) (fun c200_937 c200_937i => ?_)
            · refine G.iconst C (v := (0 : Int32)) at_214 (by decide) (n := 215) rfl ?_
              refine G.istore C at_215 (l' := #[.val (.int i0), .val (.int i1), .val (.int i2), .val (.int i3), .val (.int i4), .val (.int i5), .val (.int (1 : Int32)), .val (.int (1 : Int32)), .val (.int (0 : Int32)), .val (.int v798), .val (.int v799), .val (.int v800), .val (.int v801), .val (.int v802), .val (.ref b804), .unset, .val (.int (0 : Int32)), .val (.int (0 : Int32))]) rfl (n := 217) rfl ?_
              refine G.iload C at_217 rfl (n := 219) rfl ?_
              refine G.if_ne C (A := 0) (by decide) at_219 (by decide) (by decide) (n := 222) (n' := 227) rfl (fun c219_938 c219_938i => ?_) (fun c219_938 c219_938i => ?_)
              · exact absurd c219_938 (by decide)
              refine G.iload C at_222 rfl (n := 224) rfl ?_
              refine G.if_eq C (A := 0) (by decide) at_224 (by decide) (by decide) (n := 227) (n' := 231) rfl (fun c224_939 c224_939i => ?_) (fun c224_939 c224_939i => ?_)
              rotate_left
              · exact absurd c224_939 (by decide)
              refine G.iconst C (v := (0 : Int32)) at_231 (by decide) (n := 232) rfl ?_
              refine G.istore C at_232 (l' := #[.val (.int i0), .val (.int i1), .val (.int i2), .val (.int i3), .val (.int i4), .val (.int i5), .val (.int (1 : Int32)), .val (.int (1 : Int32)), .val (.int (0 : Int32)), .val (.int v798), .val (.int v799), .val (.int v800), .val (.int v801), .val (.int v802), .val (.ref b804), .val (.int (0 : Int32)), .val (.int (0 : Int32)), .val (.int (0 : Int32))]) rfl (n := 234) rfl ?_
              refine G.aload C at_234 rfl rfl (n := 236) rfl ?_
              refine G.iload C at_236 rfl (n := 238) rfl ?_
              refine G.callV C (argsL := [(.int v802)]) (yr := (⟨"com/example/near_miss/nearmiss/search/Window", "holds", "(I)Z"⟩ : MethodName)) (yc := (⟨"com/example/near_miss/nearmiss/search/Window", "holds", "(I)Z"⟩ : MethodName)) (a := b804) (O931.1) (wd hw 53 rfl) (wd hw 54 rfl) (nfS (wd hw 56 rfl) rfl) (wd hw 56 rfl) (wd hw 55 rfl) (wd hw 3 rfl) (wd hw 57 rfl) (by decide) (m_holds l Z a0 hw b804 M Sc (1 : Int32) (.ref X) (((((v798 + v799) - v798) + (64 : Int32)) - (1 : Int32)) / (64 : Int32)) v798 (v798 + v799) us926 v802 h930 n0 Z933 O931 O924 O925 ne826 ne828 ne821 g827 g829 Hl927 qs.1 (by omega)) rfl (by decide) (W := 0) rfl (by decide) (c' := 4) (s' := 2073) rfl rfl (by decide) (by decide) at_238 (n := 241) rfl pd10 rfl rfl ?_
              rintro _ h941 ⟨rr, rfl, Fr0, rfl⟩
              have Hr := Fr0 _ H934
              refine G.iload C at_241 rfl (n := 243) rfl ?_
              refine G.icmp_ne C (A := rr.toInt) (B := 0) rfl (by decide) at_243 (by decide) (by decide) (n := 246) (n' := 250) rfl (fun c243_942 c243_942i => ?_) (fun c243_942 c243_942i => ?_)
              · rcases Hr with ⟨r1, r2⟩ | ⟨r1, r2⟩ <;> first | exact absurd r1 c243_942 | (exfalso; omega)
              refine G.iconst C (v := (1 : Int32)) at_246 (by decide) (n := 247) rfl ?_
              refine G.goto C at_247 (by decide) (n := 251) (by decide) ?_
              refine G.ireturn C at_251 (rfl) (by simp) (by decide) (by decide) ?_
              exact rfl
            · refine G.iload C at_203 rfl (n := 205) rfl ?_
              refine G.iload C at_205 rfl (n := 207) rfl ?_
              refine G.icmp_ne C (A := v802.toInt) (B := v801.toInt) rfl rfl at_207 (by decide) (by decide) (n := 210) (n' := 214) rfl (fun c207_943 c207_943i => ?_) (fun c207_943 c207_943i => ?_)
              · refine G.iconst C (v := (0 : Int32)) at_214 (by decide) (n := 215) rfl ?_
                refine G.istore C at_215 (l' := #[.val (.int i0), .val (.int i1), .val (.int i2), .val (.int i3), .val (.int i4), .val (.int i5), .val (.int (1 : Int32)), .val (.int (1 : Int32)), .val (.int (0 : Int32)), .val (.int v798), .val (.int v799), .val (.int v800), .val (.int v801), .val (.int v802), .val (.ref b804), .unset, .val (.int (0 : Int32)), .val (.int (0 : Int32))]) rfl (n := 217) rfl ?_
                refine G.iload C at_217 rfl (n := 219) rfl ?_
                refine G.if_ne C (A := 0) (by decide) at_219 (by decide) (by decide) (n := 222) (n' := 227) rfl (fun c219_944 c219_944i => ?_) (fun c219_944 c219_944i => ?_)
                · exact absurd c219_944 (by decide)
                refine G.iload C at_222 rfl (n := 224) rfl ?_
                refine G.if_eq C (A := 0) (by decide) at_224 (by decide) (by decide) (n := 227) (n' := 231) rfl (fun c224_945 c224_945i => ?_) (fun c224_945 c224_945i => ?_)
                rotate_left
                · exact absurd c224_945 (by decide)
                refine G.iconst C (v := (0 : Int32)) at_231 (by decide) (n := 232) rfl ?_
                refine G.istore C at_232 (l' := #[.val (.int i0), .val (.int i1), .val (.int i2), .val (.int i3), .val (.int i4), .val (.int i5), .val (.int (1 : Int32)), .val (.int (1 : Int32)), .val (.int (0 : Int32)), .val (.int v798), .val (.int v799), .val (.int v800), .val (.int v801), .val (.int v802), .val (.ref b804), .val (.int (0 : Int32)), .val (.int (0 : Int32)), .val (.int (0 : Int32))]) rfl (n := 234) rfl ?_
                refine G.aload C at_234 rfl rfl (n := 236) rfl ?_
                refine G.iload C at_236 rfl (n := 238) rfl ?_
                refine G.callV C (argsL := [(.int v802)]) (yr := (⟨"com/example/near_miss/nearmiss/search/Window", "holds", "(I)Z"⟩ : MethodName)) (yc := (⟨"com/example/near_miss/nearmiss/search/Window", "holds", "(I)Z"⟩ : MethodName)) (a := b804) (O931.1) (wd hw 53 rfl) (wd hw 54 rfl) (nfS (wd hw 56 rfl) rfl) (wd hw 56 rfl) (wd hw 55 rfl) (wd hw 3 rfl) (wd hw 57 rfl) (by decide) (m_holds l Z a0 hw b804 M Sc (1 : Int32) (.ref X) (((((v798 + v799) - v798) + (64 : Int32)) - (1 : Int32)) / (64 : Int32)) v798 (v798 + v799) us926 v802 h930 n0 Z933 O931 O924 O925 ne826 ne828 ne821 g827 g829 Hl927 qs.1 (by omega)) rfl (by decide) (W := 0) rfl (by decide) (c' := 4) (s' := 2073) rfl rfl (by decide) (by decide) at_238 (n := 241) rfl pd10 rfl rfl ?_
                rintro _ h947 ⟨rr, rfl, Fr0, rfl⟩
                have Hr := Fr0 _ H934
                refine G.iload C at_241 rfl (n := 243) rfl ?_
                refine G.icmp_ne C (A := rr.toInt) (B := 0) rfl (by decide) at_243 (by decide) (by decide) (n := 246) (n' := 250) rfl (fun c243_948 c243_948i => ?_) (fun c243_948 c243_948i => ?_)
                · rcases Hr with ⟨r1, r2⟩ | ⟨r1, r2⟩ <;> first | exact absurd r1 c243_948 | (exfalso; omega)
                refine G.iconst C (v := (1 : Int32)) at_246 (by decide) (n := 247) rfl ?_
                refine G.goto C at_247 (by decide) (n := 251) (by decide) ?_
                refine G.ireturn C at_251 (rfl) (by simp) (by decide) (by decide) ?_
                exact rfl
              · refine G.iconst C (v := (1 : Int32)) at_210 (by decide) (n := 211) rfl ?_
                refine G.goto C at_211 (by decide) (n := 215) (by decide) ?_
                refine G.istore C at_215 (l' := #[.val (.int i0), .val (.int i1), .val (.int i2), .val (.int i3), .val (.int i4), .val (.int i5), .val (.int (1 : Int32)), .val (.int (1 : Int32)), .val (.int (0 : Int32)), .val (.int v798), .val (.int v799), .val (.int v800), .val (.int v801), .val (.int v802), .val (.ref b804), .unset, .val (.int (0 : Int32)), .val (.int (1 : Int32))]) rfl (n := 217) rfl ?_
                refine G.iload C at_217 rfl (n := 219) rfl ?_
                refine G.if_ne C (A := 0) (by decide) at_219 (by decide) (by decide) (n := 222) (n' := 227) rfl (fun c219_949 c219_949i => ?_) (fun c219_949 c219_949i => ?_)
                · exact absurd c219_949 (by decide)
                refine G.iload C at_222 rfl (n := 224) rfl ?_
                refine G.if_eq C (A := 1) (by decide) at_224 (by decide) (by decide) (n := 227) (n' := 231) rfl (fun c224_950 c224_950i => ?_) (fun c224_950 c224_950i => ?_)
                · exact absurd c224_950 (by decide)
                refine G.iconst C (v := (1 : Int32)) at_227 (by decide) (n := 228) rfl ?_
                refine G.goto C at_228 (by decide) (n := 232) (by decide) ?_
                refine G.istore C at_232 (l' := #[.val (.int i0), .val (.int i1), .val (.int i2), .val (.int i3), .val (.int i4), .val (.int i5), .val (.int (1 : Int32)), .val (.int (1 : Int32)), .val (.int (0 : Int32)), .val (.int v798), .val (.int v799), .val (.int v800), .val (.int v801), .val (.int v802), .val (.ref b804), .val (.int (1 : Int32)), .val (.int (0 : Int32)), .val (.int (1 : Int32))]) rfl (n := 234) rfl ?_
                refine G.aload C at_234 rfl rfl (n := 236) rfl ?_
                refine G.iload C at_236 rfl (n := 238) rfl ?_
                refine G.callV C (argsL := [(.int v802)]) (yr := (⟨"com/example/near_miss/nearmiss/search/Window", "holds", "(I)Z"⟩ : MethodName)) (yc := (⟨"com/example/near_miss/nearmiss/search/Window", "holds", "(I)Z"⟩ : MethodName)) (a := b804) (O931.1) (wd hw 53 rfl) (wd hw 54 rfl) (nfS (wd hw 56 rfl) rfl) (wd hw 56 rfl) (wd hw 55 rfl) (wd hw 3 rfl) (wd hw 57 rfl) (by decide) (m_holds l Z a0 hw b804 M Sc (1 : Int32) (.ref X) (((((v798 + v799) - v798) + (64 : Int32)) - (1 : Int32)) / (64 : Int32)) v798 (v798 + v799) us926 v802 h930 n0 Z933 O931 O924 O925 ne826 ne828 ne821 g827 g829 Hl927 qs.1 (by omega)) rfl (by decide) (W := 0) rfl (by decide) (c' := 4) (s' := 2073) rfl rfl (by decide) (by decide) at_238 (n := 241) rfl pd10 rfl rfl ?_
                rintro _ h952 ⟨rr, rfl, Fr0, rfl⟩
                have Hr := Fr0 _ H934
                refine G.iload C at_241 rfl (n := 243) rfl ?_
                refine G.icmp_ne C (A := rr.toInt) (B := 1) rfl (by decide) at_243 (by decide) (by decide) (n := 246) (n' := 250) rfl (fun c243_953 c243_953i => ?_) (fun c243_953 c243_953i => ?_)
                · rcases Hr with ⟨r1, r2⟩ | ⟨r1, r2⟩ <;> first | exact absurd r1 c243_953 | (exfalso; omega)
                refine G.iconst C (v := (1 : Int32)) at_246 (by decide) (n := 247) rfl ?_
                refine G.goto C at_247 (by decide) (n := 251) (by decide) ?_
                refine G.ireturn C at_251 (rfl) (by simp) (by decide) (by decide) ?_
                exact rfl
          · refine G.iload C at_184 rfl (n := 186) rfl ?_
            refine G.if_ne C (A := 1) (by decide) at_186 (by decide) (by decide) (n := 189) (n' := 193) rfl (fun c186_954 c186_954i => ?_) (fun c186_954 c186_954i => ?_)
            rotate_left
            · exact absurd c186_954 (by decide)
            refine G.iconst C (v := (0 : Int32)) at_193 (by decide) (n := 194) rfl ?_
            refine G.istore C at_194 (l' := #[.val (.int i0), .val (.int i1), .val (.int i2), .val (.int i3), .val (.int i4), .val (.int i5), .val (.int (1 : Int32)), .val (.int (1 : Int32)), .val (.int (0 : Int32)), .val (.int v798), .val (.int v799), .val (.int v800), .val (.int v801), .val (.int v802), .val (.ref b804), .unset, .val (.int (0 : Int32)), .unset]) rfl (n := 196) rfl ?_
            refine G.iload C at_196 rfl (n := 198) rfl ?_
            refine G.iload C at_198 rfl (n := 200) rfl ?_
            refine G.icmp_eq C (A := v801.toInt) (B := v800.toInt) rfl rfl at_200 (by decide) (by decide) (n := 203) (n' := 214) rfl (fun c200_955 c200_955i => ?_) (fun c200_955 c200_955i => ?_)
            · refine G.iconst C (v := (0 : Int32)) at_214 (by decide) (n := 215) rfl ?_
              refine G.istore C at_215 (l' := #[.val (.int i0), .val (.int i1), .val (.int i2), .val (.int i3), .val (.int i4), .val (.int i5), .val (.int (1 : Int32)), .val (.int (1 : Int32)), .val (.int (0 : Int32)), .val (.int v798), .val (.int v799), .val (.int v800), .val (.int v801), .val (.int v802), .val (.ref b804), .unset, .val (.int (0 : Int32)), .val (.int (0 : Int32))]) rfl (n := 217) rfl ?_
              refine G.iload C at_217 rfl (n := 219) rfl ?_
              refine G.if_ne C (A := 0) (by decide) at_219 (by decide) (by decide) (n := 222) (n' := 227) rfl (fun c219_956 c219_956i => ?_) (fun c219_956 c219_956i => ?_)
              · exact absurd c219_956 (by decide)
              refine G.iload C at_222 rfl (n := 224) rfl ?_
              refine G.if_eq C (A := 0) (by decide) at_224 (by decide) (by decide) (n := 227) (n' := 231) rfl (fun c224_957 c224_957i => ?_) (fun c224_957 c224_957i => ?_)
              rotate_left
              · exact absurd c224_957 (by decide)
              refine G.iconst C (v := (0 : Int32)) at_231 (by decide) (n := 232) rfl ?_
              refine G.istore C at_232 (l' := #[.val (.int i0), .val (.int i1), .val (.int i2), .val (.int i3), .val (.int i4), .val (.int i5), .val (.int (1 : Int32)), .val (.int (1 : Int32)), .val (.int (0 : Int32)), .val (.int v798), .val (.int v799), .val (.int v800), .val (.int v801), .val (.int v802), .val (.ref b804), .val (.int (0 : Int32)), .val (.int (0 : Int32)), .val (.int (0 : Int32))]) rfl (n := 234) rfl ?_
              refine G.aload C at_234 rfl rfl (n := 236) rfl ?_
              refine G.iload C at_236 rfl (n := 238) rfl ?_
              refine G.callV C (argsL := [(.int v802)]) (yr := (⟨"com/example/near_miss/nearmiss/search/Window", "holds", "(I)Z"⟩ : MethodName)) (yc := (⟨"com/example/near_miss/nearmiss/search/Window", "holds", "(I)Z"⟩ : MethodName)) (a := b804) (O931.1) (wd hw 53 rfl) (wd hw 54 rfl) (nfS (wd hw 56 rfl) rfl) (wd hw 56 rfl) (wd hw 55 rfl) (wd hw 3 rfl) (wd hw 57 rfl) (by decide) (m_holds l Z a0 hw b804 M Sc (1 : Int32) (.ref X) (((((v798 + v799) - v798) + (64 : Int32)) - (1 : Int32)) / (64 : Int32)) v798 (v798 + v799) us926 v802 h930 n0 Z933 O931 O924 O925 ne826 ne828 ne821 g827 g829 Hl927 qs.1 (by omega)) rfl (by decide) (W := 0) rfl (by decide) (c' := 4) (s' := 2073) rfl rfl (by decide) (by decide) at_238 (n := 241) rfl pd10 rfl rfl ?_
              rintro _ h959 ⟨rr, rfl, Fr0, rfl⟩
              have Hr := Fr0 _ H934
              refine G.iload C at_241 rfl (n := 243) rfl ?_
              refine G.icmp_ne C (A := rr.toInt) (B := 0) rfl (by decide) at_243 (by decide) (by decide) (n := 246) (n' := 250) rfl (fun c243_960 c243_960i => ?_) (fun c243_960 c243_960i => ?_)
              · rcases Hr with ⟨r1, r2⟩ | ⟨r1, r2⟩ <;> first | exact absurd r1 c243_960 | (exfalso; omega)
              refine G.iconst C (v := (1 : Int32)) at_246 (by decide) (n := 247) rfl ?_
              refine G.goto C at_247 (by decide) (n := 251) (by decide) ?_
              refine G.ireturn C at_251 (rfl) (by simp) (by decide) (by decide) ?_
              exact rfl
            · refine G.iload C at_203 rfl (n := 205) rfl ?_
              refine G.iload C at_205 rfl (n := 207) rfl ?_
              refine G.icmp_ne C (A := v802.toInt) (B := v801.toInt) rfl rfl at_207 (by decide) (by decide) (n := 210) (n' := 214) rfl (fun c207_961 c207_961i => ?_) (fun c207_961 c207_961i => ?_)
              · refine G.iconst C (v := (0 : Int32)) at_214 (by decide) (n := 215) rfl ?_
                refine G.istore C at_215 (l' := #[.val (.int i0), .val (.int i1), .val (.int i2), .val (.int i3), .val (.int i4), .val (.int i5), .val (.int (1 : Int32)), .val (.int (1 : Int32)), .val (.int (0 : Int32)), .val (.int v798), .val (.int v799), .val (.int v800), .val (.int v801), .val (.int v802), .val (.ref b804), .unset, .val (.int (0 : Int32)), .val (.int (0 : Int32))]) rfl (n := 217) rfl ?_
                refine G.iload C at_217 rfl (n := 219) rfl ?_
                refine G.if_ne C (A := 0) (by decide) at_219 (by decide) (by decide) (n := 222) (n' := 227) rfl (fun c219_962 c219_962i => ?_) (fun c219_962 c219_962i => ?_)
                · exact absurd c219_962 (by decide)
                refine G.iload C at_222 rfl (n := 224) rfl ?_
                refine G.if_eq C (A := 0) (by decide) at_224 (by decide) (by decide) (n := 227) (n' := 231) rfl (fun c224_963 c224_963i => ?_) (fun c224_963 c224_963i => ?_)
                rotate_left
                · exact absurd c224_963 (by decide)
                refine G.iconst C (v := (0 : Int32)) at_231 (by decide) (n := 232) rfl ?_
                refine G.istore C at_232 (l' := #[.val (.int i0), .val (.int i1), .val (.int i2), .val (.int i3), .val (.int i4), .val (.int i5), .val (.int (1 : Int32)), .val (.int (1 : Int32)), .val (.int (0 : Int32)), .val (.int v798), .val (.int v799), .val (.int v800), .val (.int v801), .val (.int v802), .val (.ref b804), .val (.int (0 : Int32)), .val (.int (0 : Int32)), .val (.int (0 : Int32))]) rfl (n := 234) rfl ?_
                refine G.aload C at_234 rfl rfl (n := 236) rfl ?_
                refine G.iload C at_236 rfl (n := 238) rfl ?_
                refine G.callV C (argsL := [(.int v802)]) (yr := (⟨"com/example/near_miss/nearmiss/search/Window", "holds", "(I)Z"⟩ : MethodName)) (yc := (⟨"com/example/near_miss/nearmiss/search/Window", "holds", "(I)Z"⟩ : MethodName)) (a := b804) (O931.1) (wd hw 53 rfl) (wd hw 54 rfl) (nfS (wd hw 56 rfl) rfl) (wd hw 56 rfl) (wd hw 55 rfl) (wd hw 3 rfl) (wd hw 57 rfl) (by decide) (m_holds l Z a0 hw b804 M Sc (1 : Int32) (.ref X) (((((v798 + v799) - v798) + (64 : Int32)) - (1 : Int32)) / (64 : Int32)) v798 (v798 + v799) us926 v802 h930 n0 Z933 O931 O924 O925 ne826 ne828 ne821 g827 g829 Hl927 qs.1 (by omega)) rfl (by decide) (W := 0) rfl (by decide) (c' := 4) (s' := 2073) rfl rfl (by decide) (by decide) at_238 (n := 241) rfl pd10 rfl rfl ?_
                rintro _ h965 ⟨rr, rfl, Fr0, rfl⟩
                have Hr := Fr0 _ H934
                refine G.iload C at_241 rfl (n := 243) rfl ?_
                refine G.icmp_ne C (A := rr.toInt) (B := 0) rfl (by decide) at_243 (by decide) (by decide) (n := 246) (n' := 250) rfl (fun c243_966 c243_966i => ?_) (fun c243_966 c243_966i => ?_)
                · rcases Hr with ⟨r1, r2⟩ | ⟨r1, r2⟩ <;> first | exact absurd r1 c243_966 | (exfalso; omega)
                refine G.iconst C (v := (1 : Int32)) at_246 (by decide) (n := 247) rfl ?_
                refine G.goto C at_247 (by decide) (n := 251) (by decide) ?_
                refine G.ireturn C at_251 (rfl) (by simp) (by decide) (by decide) ?_
                exact rfl
              · refine G.iconst C (v := (1 : Int32)) at_210 (by decide) (n := 211) rfl ?_
                refine G.goto C at_211 (by decide) (n := 215) (by decide) ?_
                refine G.istore C at_215 (l' := #[.val (.int i0), .val (.int i1), .val (.int i2), .val (.int i3), .val (.int i4), .val (.int i5), .val (.int (1 : Int32)), .val (.int (1 : Int32)), .val (.int (0 : Int32)), .val (.int v798), .val (.int v799), .val (.int v800), .val (.int v801), .val (.int v802), .val (.ref b804), .unset, .val (.int (0 : Int32)), .val (.int (1 : Int32))]) rfl (n := 217) rfl ?_
                refine G.iload C at_217 rfl (n := 219) rfl ?_
                refine G.if_ne C (A := 0) (by decide) at_219 (by decide) (by decide) (n := 222) (n' := 227) rfl (fun c219_967 c219_967i => ?_) (fun c219_967 c219_967i => ?_)
                · exact absurd c219_967 (by decide)
                refine G.iload C at_222 rfl (n := 224) rfl ?_
                refine G.if_eq C (A := 1) (by decide) at_224 (by decide) (by decide) (n := 227) (n' := 231) rfl (fun c224_968 c224_968i => ?_) (fun c224_968 c224_968i => ?_)
                · exact absurd c224_968 (by decide)
                refine G.iconst C (v := (1 : Int32)) at_227 (by decide) (n := 228) rfl ?_
                refine G.goto C at_228 (by decide) (n := 232) (by decide) ?_
                refine G.istore C at_232 (l' := #[.val (.int i0), .val (.int i1), .val (.int i2), .val (.int i3), .val (.int i4), .val (.int i5), .val (.int (1 : Int32)), .val (.int (1 : Int32)), .val (.int (0 : Int32)), .val (.int v798), .val (.int v799), .val (.int v800), .val (.int v801), .val (.int v802), .val (.ref b804), .val (.int (1 : Int32)), .val (.int (0 : Int32)), .val (.int (1 : Int32))]) rfl (n := 234) rfl ?_
                refine G.aload C at_234 rfl rfl (n := 236) rfl ?_
                refine G.iload C at_236 rfl (n := 238) rfl ?_
                refine G.callV C (argsL := [(.int v802)]) (yr := (⟨"com/example/near_miss/nearmiss/search/Window", "holds", "(I)Z"⟩ : MethodName)) (yc := (⟨"com/example/near_miss/nearmiss/search/Window", "holds", "(I)Z"⟩ : MethodName)) (a := b804) (O931.1) (wd hw 53 rfl) (wd hw 54 rfl) (nfS (wd hw 56 rfl) rfl) (wd hw 56 rfl) (wd hw 55 rfl) (wd hw 3 rfl) (wd hw 57 rfl) (by decide) (m_holds l Z a0 hw b804 M Sc (1 : Int32) (.ref X) (((((v798 + v799) - v798) + (64 : Int32)) - (1 : Int32)) / (64 : Int32)) v798 (v798 + v799) us926 v802 h930 n0 Z933 O931 O924 O925 ne826 ne828 ne821 g827 g829 Hl927 qs.1 (by omega)) rfl (by decide) (W := 0) rfl (by decide) (c' := 4) (s' := 2073) rfl rfl (by decide) (by decide) at_238 (n := 241) rfl pd10 rfl rfl ?_
                rintro _ h970 ⟨rr, rfl, Fr0, rfl⟩
                have Hr := Fr0 _ H934
                refine G.iload C at_241 rfl (n := 243) rfl ?_
                refine G.icmp_ne C (A := rr.toInt) (B := 1) rfl (by decide) at_243 (by decide) (by decide) (n := 246) (n' := 250) rfl (fun c243_971 c243_971i => ?_) (fun c243_971 c243_971i => ?_)
                · rcases Hr with ⟨r1, r2⟩ | ⟨r1, r2⟩ <;> first | exact absurd r1 c243_971 | (exfalso; omega)
                refine G.iconst C (v := (1 : Int32)) at_246 (by decide) (n := 247) rfl ?_
                refine G.goto C at_247 (by decide) (n := 251) (by decide) ?_
                refine G.ireturn C at_251 (rfl) (by simp) (by decide) (by decide) ?_
                exact rfl
      · refine G.iconst C (v := (1 : Int32)) at_32 (by decide) (n := 33) rfl ?_
        refine G.goto C at_33 (by decide) (n := 37) (by decide) ?_
        refine G.istore C at_37 (l' := #[.val (.int i0), .val (.int i1), .val (.int i2), .val (.int i3), .val (.int i4), .val (.int i5), .val (.int (1 : Int32)), .val (.int (1 : Int32)), .val (.int (1 : Int32)), .unset, .unset, .unset, .unset, .unset, .unset, .unset, .unset, .unset]) rfl (n := 39) rfl ?_
        refine G.iload C at_39 rfl (n := 41) rfl ?_
        refine G.iconst C (v := (2 : Int32)) at_41 (by decide) (n := 42) rfl ?_
        refine G.ishr C at_42 (n := 43) rfl ?_
        refine G.istoreZ C at_43 (l' := fun z => #[.val (.int i0), .val (.int i1), .val (.int i2), .val (.int i3), .val (.int i4), .val (.int i5), .val (.int (1 : Int32)), .val (.int (1 : Int32)), .val (.int (1 : Int32)), .val (.int z), .unset, .unset, .unset, .unset, .unset, .unset, .unset, .unset]) (fun _ => rfl) (n := 45) rfl ?_
        intro v972 hv972
        have qb : v972.toInt < 1000000000 := by rw [hv972, c_ishr i5 2 2 (by decide)]; have := rng32 i5; show _ / 4 < _; omega
        refine G.iloadN C at_45 rfl (n := 46) rfl ?_
        refine G.ldc C (v := (2147483647 : Int32)) (wd hw 0 rfl) at_46 (n := 48) rfl ?_
        refine G.iand C at_48 (n := 49) rfl ?_
        refine G.sipush C (v := (1024 : Int32)) at_49 (by decide) (n := 52) rfl ?_
        refine G.irem C at_52 (by decide) (n := 53) rfl ?_
        refine G.iconst C (v := (1 : Int32)) at_53 (by decide) (n := 54) rfl ?_
        refine G.iadd C at_54 (n := 55) rfl ?_
        refine G.istoreZ C at_55 (l' := fun z => #[.val (.int i0), .val (.int i1), .val (.int i2), .val (.int i3), .val (.int i4), .val (.int i5), .val (.int (1 : Int32)), .val (.int (1 : Int32)), .val (.int (1 : Int32)), .val (.int v972), .val (.int z), .unset, .unset, .unset, .unset, .unset, .unset, .unset]) (fun _ => rfl) (n := 57) rfl ?_
        intro v973 hv973
        have ql : 1 ≤ v973.toInt ∧ v973.toInt ≤ 1024 := by have r := rem_v (x := i1) (d := 1024) (by decide); rw [show (1024 : Int32).toInt = 1024 from rfl] at r; rw [hv973, Int32.add_comm, addk (K := 1) (by decide) (by omega) (by omega)]; omega
        have qr := rsub (x := v972) (l := v973) (by omega) ql.2 qb
        have qe := qr.2.1
        have qwd2 : (((((v972 + v973) - v972) + (64 : Int32)) - (1 : Int32)) / (64 : Int32)).toInt = (v973.toInt + 63) / 64 := by rw [asub]; exact words_at ql.1 ql.2
        have qwd : (((((v972 + v973) - v972) + (64 : Int32)) - (1 : Int32)) / (64 : Int32)).toInt.toNat = (v973.toInt.toNat + 63) / 64 := by rw [qwd2]; omega
        refine G.iloadN C at_57 rfl (n := 58) rfl ?_
        refine G.ldc C (v := (2147483647 : Int32)) (wd hw 0 rfl) at_58 (n := 60) rfl ?_
        refine G.iand C at_60 (n := 61) rfl ?_
        refine G.iload C at_61 rfl (n := 63) rfl ?_
        refine G.irem C at_63 (nz_pos (by omega)) (n := 64) rfl ?_
        refine G.istoreZ C at_64 (l' := fun z => #[.val (.int i0), .val (.int i1), .val (.int i2), .val (.int i3), .val (.int i4), .val (.int i5), .val (.int (1 : Int32)), .val (.int (1 : Int32)), .val (.int (1 : Int32)), .val (.int v972), .val (.int v973), .val (.int z), .unset, .unset, .unset, .unset, .unset, .unset]) (fun _ => rfl) (n := 66) rfl ?_
        intro v974 hv974
        have qa : 0 ≤ v974.toInt ∧ v974.toInt < v973.toInt := by rw [hv974]; exact rem_v (by omega)
        refine G.iloadN C at_66 rfl (n := 67) rfl ?_
        refine G.ldc C (v := (2147483647 : Int32)) (wd hw 0 rfl) at_67 (n := 69) rfl ?_
        refine G.iand C at_69 (n := 70) rfl ?_
        refine G.iload C at_70 rfl (n := 72) rfl ?_
        refine G.irem C at_72 (nz_pos (by omega)) (n := 73) rfl ?_
        refine G.istoreZ C at_73 (l' := fun z => #[.val (.int i0), .val (.int i1), .val (.int i2), .val (.int i3), .val (.int i4), .val (.int i5), .val (.int (1 : Int32)), .val (.int (1 : Int32)), .val (.int (1 : Int32)), .val (.int v972), .val (.int v973), .val (.int v974), .val (.int z), .unset, .unset, .unset, .unset, .unset]) (fun _ => rfl) (n := 75) rfl ?_
        intro v975 hv975
        have qb2 : 0 ≤ v975.toInt ∧ v975.toInt < v973.toInt := by rw [hv975]; exact rem_v (by omega)
        refine G.iload C at_75 rfl (n := 77) rfl ?_
        refine G.sipush C (v := (1023 : Int32)) at_77 (by decide) (n := 80) rfl ?_
        refine G.iand C at_80 (n := 81) rfl ?_
        refine G.istoreZ C at_81 (l' := fun z => #[.val (.int i0), .val (.int i1), .val (.int i2), .val (.int i3), .val (.int i4), .val (.int i5), .val (.int (1 : Int32)), .val (.int (1 : Int32)), .val (.int (1 : Int32)), .val (.int v972), .val (.int v973), .val (.int v974), .val (.int v975), .val (.int z), .unset, .unset, .unset, .unset]) (fun _ => rfl) (n := 83) rfl ?_
        intro v976 hv976
        have qs : 0 ≤ v976.toInt ∧ v976.toInt ≤ 1023 := by rw [hv976]; exact c_and i4 1023 (by decide)
        refine G.new C (wd hw 1 rfl) (wd hw 2 rfl) (wd hw 3 rfl) at_83 (n := 86) rfl (c' := 1) (s' := 9) rfl rfl (by decide) (by decide) ?_
        intro h977 b978 q979 E980 A981 D982
        have g983 : n0 ≤ b978 := Nat.le_trans Z0 (Nat.le_of_eq q979.symm)
        have O984 := Ob_Wn.new hw A981 D982
        have K985 := kext E980
        have Z986 : n0 ≤ h977.size := Nat.le_trans Z0 K985.1
        refine G.dup C at_86 rfl (n := 87) rfl ?_
        refine G.iload C at_87 rfl (n := 89) rfl ?_
        refine G.callC C (argsL := [(.int (1 : Int32))]) (yc := (⟨"com/example/near_miss/nearmiss/search/Window", "<init>", "(Z)V"⟩ : MethodName)) (a := b978) rfl (wd hw 4 rfl) (wd hw 5 rfl) (wd hw 3 rfl) (wd hw 6 rfl) (by decide) (m_init1 l Z a0 hw b978 h977 n0 Z986 O984 g983) rfl (by decide) (W := 1) rfl (by decide) (c' := 4) (s' := 2073) rfl rfl (by decide) (by decide) at_89 (n := 92) rfl pd8 rfl rfl ?_
        rintro _ h999 ⟨rfl, K987, M, Sc, X, O988, O989, O990, f992, f993, ne995, O991, f994, ne996, ne997⟩
        have ne1000 : b978 ≠ M := Nat.ne_of_lt (Nat.lt_of_lt_of_le O984.lt f992)
        have g1001 : n0 ≤ M := Nat.le_trans Z986 f992
        have ne1002 : b978 ≠ Sc := Nat.ne_of_lt (Nat.lt_of_lt_of_le O984.lt f993)
        have g1003 : n0 ≤ Sc := Nat.le_trans Z986 f993
        have ne1004 : b978 ≠ X := Nat.ne_of_lt (Nat.lt_of_lt_of_le O984.lt f994)
        have g1005 : n0 ≤ X := Nat.le_trans Z986 f994
        have Z1006 : n0 ≤ h999.size := Nat.le_trans Z986 K987.1
        refine G.astore C at_92 rfl (l' := #[.val (.int i0), .val (.int i1), .val (.int i2), .val (.int i3), .val (.int i4), .val (.int i5), .val (.int (1 : Int32)), .val (.int (1 : Int32)), .val (.int (1 : Int32)), .val (.int v972), .val (.int v973), .val (.int v974), .val (.int v975), .val (.int v976), .val (.ref b978), .unset, .unset, .unset]) rfl (n := 94) rfl ?_
        refine G.aload C at_94 rfl rfl (n := 96) rfl ?_
        refine G.iload C at_96 rfl (n := 98) rfl ?_
        refine G.iload C at_98 rfl (n := 100) rfl ?_
        refine G.iload C at_100 rfl (n := 102) rfl ?_
        refine G.iadd C at_102 (n := 103) rfl ?_
        refine G.callV C (argsL := [(.int v972), (.int (v972 + v973))]) (yr := (⟨"com/example/near_miss/nearmiss/search/Window", "reset", "(II)V"⟩ : MethodName)) (yc := (⟨"com/example/near_miss/nearmiss/search/Window", "reset", "(II)V"⟩ : MethodName)) (a := b978) (O988.1) (wd hw 20 rfl) (wd hw 21 rfl) (nfS (wd hw 23 rfl) rfl) (wd hw 23 rfl) (wd hw 22 rfl) (wd hw 3 rfl) (wd hw 24 rfl) (by decide) (m_reset1 l Z a0 hw b978 M Sc (0 : Int32) (0 : Int32) (0 : Int32) [0, 0, 0, 0, 0, 0, 0, 0, 0, 0, 0, 0, 0, 0, 0, 0] X v972 (v972 + v973) h999 n0 Z1006 O988 O989 O990 ne1000 ne1002 ne995 g1001 g1003 rfl g983 O991 ne1004 ne996 ne997 g1005 (by decide) (by decide) (by decide) (by decide) (by rw [qr.2.2]; omega) (by rw [qe]; exact ql.2)) rfl (by decide) (W := 0) rfl (by decide) (c' := 4) (s' := 2073) rfl rfl (by decide) (by decide) at_103 (n := 106) rfl pd9 rfl rfl ?_
        rintro _ h1016 ⟨rfl, K1007, O1008, us1012, O1009, Hl1013, F1014, O1010, O1011⟩
        have Z1017 : n0 ≤ h1016.size := Nat.le_trans Z1006 K1007.1
        have H1018 := F1014 _ has0 (fun s h => absurd h (Nat.not_lt_zero _))
        refine G.aload C at_106 rfl rfl (n := 108) rfl ?_
        refine G.iload C at_108 rfl (n := 110) rfl ?_
        refine G.iload C at_110 rfl (n := 112) rfl ?_
        refine G.iadd C at_112 (n := 113) rfl ?_
        refine G.dconst1 C at_113 (n := 114) rfl ?_
        refine G.callV C (argsL := [(.int (v972 + v974)), (.double FP.dconst1)]) (yr := (⟨"com/example/near_miss/nearmiss/search/Window", "add", "(ID)V"⟩ : MethodName)) (yc := (⟨"com/example/near_miss/nearmiss/search/Window", "add", "(ID)V"⟩ : MethodName)) (a := b978) (O1008.1) (wd hw 31 rfl) (wd hw 32 rfl) (nfS (wd hw 34 rfl) rfl) (wd hw 34 rfl) (wd hw 33 rfl) (wd hw 3 rfl) (wd hw 35 rfl) (by decide) (m_add l Z a0 hw b978 M Sc (1 : Int32) (.ref X) (((((v972 + v973) - v972) + (64 : Int32)) - (1 : Int32)) / (64 : Int32)) v972 (v972 + v973) us1012 (v972 + v974) v974 FP.dconst1 h1016 n0 Z1017 O1008 O1009 O1010 ne1000 ne1002 ne995 g1001 g1003 Hl1013 (asub _ _) qa.1 (by omega) (by rw [qe]; exact qa.2)) rfl (by decide) (W := 0) rfl (by decide) (c' := 4) (s' := 2073) rfl rfl (by decide) (by decide) at_114 (n := 117) rfl pd6 rfl rfl ?_
        rintro _ h1026 ⟨rfl, K1019, us1022, O1020, Hl1023, F1024, O1021⟩
        have O1027 := O1008.keep K1019 (ninS ne1000 (ninS ne1002 nin0))
        have O1028 := O1011.keep K1019 (ninS (Ne.symm ne996) (ninS (Ne.symm ne997) nin0))
        have Z1029 : n0 ≤ h1026.size := Nat.le_trans Z1017 K1019.1
        have H1030 := F1024 _ H1018
        refine G.iload C at_117 rfl (n := 119) rfl ?_
        refine G.iload C at_119 rfl (n := 121) rfl ?_
        refine G.icmp_eq C (A := v975.toInt) (B := v974.toInt) rfl rfl at_121 (by decide) (by decide) (n := 124) (n' := 137) rfl (fun c121_1031 c121_1031i => ?_) (fun c121_1031 c121_1031i => ?_)
        · refine G.iload C at_137 rfl (n := 139) rfl ?_
          refine G.if_eq C (A := 1) (by decide) at_139 (by decide) (by decide) (n := 142) (n' := 154) rfl (fun c139_1032 c139_1032i => ?_) (fun c139_1032 c139_1032i => ?_)
          · exact absurd c139_1032 (by decide)
          refine G.aload C at_142 rfl rfl (n := 144) rfl ?_
          refine G.iload C at_144 rfl (n := 146) rfl ?_
          refine G.iload C at_146 rfl (n := 148) rfl ?_
          refine G.iload C at_148 rfl (n := 150) rfl ?_
          refine G.iadd C at_150 (n := 151) rfl ?_
          refine G.callV C (argsL := [(.int v972), (.int (v972 + v973))]) (yr := (⟨"com/example/near_miss/nearmiss/search/Window", "reset", "(II)V"⟩ : MethodName)) (yc := (⟨"com/example/near_miss/nearmiss/search/Window", "reset", "(II)V"⟩ : MethodName)) (a := b978) (O1027.1) (wd hw 20 rfl) (wd hw 21 rfl) (nfS (wd hw 23 rfl) rfl) (wd hw 23 rfl) (wd hw 22 rfl) (wd hw 3 rfl) (wd hw 24 rfl) (by decide) (m_reset1 l Z a0 hw b978 M Sc (((((v972 + v973) - v972) + (64 : Int32)) - (1 : Int32)) / (64 : Int32)) v972 (v972 + v973) us1022 X v972 (v972 + v973) h1026 n0 Z1029 O1027 O1020 O1021 ne1000 ne1002 ne995 g1001 g1003 Hl1023 g983 O1028 ne1004 ne996 ne997 g1005 (by rw [qwd2]; omega) (by rw [qwd2]; omega) (by rw [qe]; omega) (by rw [qe]; omega) (by rw [qr.2.2]; omega) (by rw [qe]; exact ql.2)) rfl (by decide) (W := 0) rfl (by decide) (c' := 4) (s' := 2073) rfl rfl (by decide) (by decide) at_151 (n := 154) rfl pd9 rfl rfl ?_
          rintro _ h1042 ⟨rfl, K1033, O1034, us1038, O1035, Hl1039, F1040, O1036, O1037⟩
          have Z1043 : n0 ≤ h1042.size := Nat.le_trans Z1029 K1033.1
          have H1044 := F1040 _ H1030 (fun s h => by rw [qwd]; omega)
          refine G.iload C at_154 rfl (n := 156) rfl ?_
          refine G.if_eq C (A := 1) (by decide) at_156 (by decide) (by decide) (n := 159) (n' := 166) rfl (fun c156_1045 c156_1045i => ?_) (fun c156_1045 c156_1045i => ?_)
          · exact absurd c156_1045 (by decide)
          refine G.aload C at_159 rfl rfl (n := 161) rfl ?_
          refine G.iload C at_161 rfl (n := 163) rfl ?_
          refine G.callV C (argsL := [(.int v974)]) (yr := (⟨"com/example/near_miss/nearmiss/search/Window", "remove", "(I)V"⟩ : MethodName)) (yc := (⟨"com/example/near_miss/nearmiss/search/Window", "remove", "(I)V"⟩ : MethodName)) (a := b978) (O1034.1) (wd hw 83 rfl) (wd hw 84 rfl) (nfS (wd hw 86 rfl) rfl) (wd hw 86 rfl) (wd hw 85 rfl) (wd hw 3 rfl) (wd hw 87 rfl) (by decide) (m_remove l Z a0 hw b978 M Sc (1 : Int32) (.ref X) (((((v972 + v973) - v972) + (64 : Int32)) - (1 : Int32)) / (64 : Int32)) v972 (v972 + v973) us1038 v974 h1042 n0 Z1043 O1034 O1035 O1036 ne1000 ne1002 ne995 g1001 g1003 Hl1039 qa.1 (by omega)) rfl (by decide) (W := 0) rfl (by decide) (c' := 4) (s' := 2073) rfl rfl (by decide) (by decide) at_163 (n := 166) rfl pd11 rfl rfl ?_
          rintro _ h1053 ⟨rfl, K1046, us1049, O1047, Hl1050, F1051, O1048⟩
          have O1054 := O1034.keep K1046 (ninS ne1000 (ninS ne1002 nin0))
          have O1055 := O1037.keep K1046 (ninS (Ne.symm ne996) (ninS (Ne.symm ne997) nin0))
          have Z1056 : n0 ≤ h1053.size := Nat.le_trans Z1043 K1046.1
          have H1057 := F1051 _ H1044
          refine G.iload C at_166 rfl (n := 168) rfl ?_
          refine G.if_eq C (A := 1) (by decide) at_168 (by decide) (by decide) (n := 171) (n' := 177) rfl (fun c168_1058 c168_1058i => ?_) (fun c168_1058 c168_1058i => ?_)
          · exact absurd c168_1058 (by decide)
          refine G.iconst C (v := (0 : Int32)) at_171 (by decide) (n := 172) rfl ?_
          refine G.istore C at_172 (l' := #[.val (.int i0), .val (.int i1), .val (.int i2), .val (.int i3), .val (.int i4), .val (.int i5), .val (.int (1 : Int32)), .val (.int (1 : Int32)), .val (.int (1 : Int32)), .val (.int v972), .val (.int v973), .val (.int v974), .val (.int v975), .val (.int v976), .val (.ref b978), .val (.int (0 : Int32)), .unset, .unset]) rfl (n := 174) rfl ?_
          refine G.goto C at_174 (by decide) (n := 234) (by decide) ?_
          refine G.aload C at_234 rfl rfl (n := 236) rfl ?_
          refine G.iload C at_236 rfl (n := 238) rfl ?_
          refine G.callV C (argsL := [(.int v976)]) (yr := (⟨"com/example/near_miss/nearmiss/search/Window", "holds", "(I)Z"⟩ : MethodName)) (yc := (⟨"com/example/near_miss/nearmiss/search/Window", "holds", "(I)Z"⟩ : MethodName)) (a := b978) (O1054.1) (wd hw 53 rfl) (wd hw 54 rfl) (nfS (wd hw 56 rfl) rfl) (wd hw 56 rfl) (wd hw 55 rfl) (wd hw 3 rfl) (wd hw 57 rfl) (by decide) (m_holds l Z a0 hw b978 M Sc (1 : Int32) (.ref X) (((((v972 + v973) - v972) + (64 : Int32)) - (1 : Int32)) / (64 : Int32)) v972 (v972 + v973) us1049 v976 h1053 n0 Z1056 O1054 O1047 O1048 ne1000 ne1002 ne995 g1001 g1003 Hl1050 qs.1 (by omega)) rfl (by decide) (W := 0) rfl (by decide) (c' := 4) (s' := 2073) rfl rfl (by decide) (by decide) at_238 (n := 241) rfl pd10 rfl rfl ?_
          rintro _ h1060 ⟨rr, rfl, Fr0, rfl⟩
          have Hr := Fr0 _ H1057
          refine G.iload C at_241 rfl (n := 243) rfl ?_
          refine G.icmp_ne C (A := rr.toInt) (B := 0) rfl (by decide) at_243 (by decide) (by decide) (n := 246) (n' := 250) rfl (fun c243_1061 c243_1061i => ?_) (fun c243_1061 c243_1061i => ?_)
          · rcases Hr with ⟨r1, r2⟩ | ⟨r1, r2⟩ <;> first | exact absurd r1 c243_1061 | (exfalso; omega)
          refine G.iconst C (v := (1 : Int32)) at_246 (by decide) (n := 247) rfl ?_
          refine G.goto C at_247 (by decide) (n := 251) (by decide) ?_
          refine G.ireturn C at_251 (rfl) (by simp) (by decide) (by decide) ?_
          exact rfl
        · refine G.aload C at_124 rfl rfl (n := 126) rfl ?_
          refine G.iload C at_126 rfl (n := 128) rfl ?_
          refine G.iload C at_128 rfl (n := 130) rfl ?_
          refine G.iadd C at_130 (n := 131) rfl ?_
          refine G.ldc2D C (v := (4611686018427387904 : UInt64)) (wd hw 52 rfl) at_131 (n := 134) rfl ?_
          refine G.callV C (argsL := [(.int (v972 + v975)), (.double (4611686018427387904 : UInt64))]) (yr := (⟨"com/example/near_miss/nearmiss/search/Window", "add", "(ID)V"⟩ : MethodName)) (yc := (⟨"com/example/near_miss/nearmiss/search/Window", "add", "(ID)V"⟩ : MethodName)) (a := b978) (O1027.1) (wd hw 31 rfl) (wd hw 32 rfl) (nfS (wd hw 34 rfl) rfl) (wd hw 34 rfl) (wd hw 33 rfl) (wd hw 3 rfl) (wd hw 35 rfl) (by decide) (m_add l Z a0 hw b978 M Sc (1 : Int32) (.ref X) (((((v972 + v973) - v972) + (64 : Int32)) - (1 : Int32)) / (64 : Int32)) v972 (v972 + v973) us1022 (v972 + v975) v975 (4611686018427387904 : UInt64) h1026 n0 Z1029 O1027 O1020 O1021 ne1000 ne1002 ne995 g1001 g1003 Hl1023 (asub _ _) qb2.1 (by omega) (by rw [qe]; exact qb2.2)) rfl (by decide) (W := 0) rfl (by decide) (c' := 4) (s' := 2073) rfl rfl (by decide) (by decide) at_134 (n := 137) rfl pd6 rfl rfl ?_
          rintro _ h1069 ⟨rfl, K1062, us1065, O1063, Hl1066, F1067, O1064⟩
          have O1070 := O1027.keep K1062 (ninS ne1000 (ninS ne1002 nin0))
          have O1071 := O1028.keep K1062 (ninS (Ne.symm ne996) (ninS (Ne.symm ne997) nin0))
          have Z1072 : n0 ≤ h1069.size := Nat.le_trans Z1029 K1062.1
          have H1073 := F1067 _ H1030
          refine G.iload C at_137 rfl (n := 139) rfl ?_
          refine G.if_eq C (A := 1) (by decide) at_139 (by decide) (by decide) (n := 142) (n' := 154) rfl (fun c139_1074 c139_1074i => ?_) (fun c139_1074 c139_1074i => ?_)
          · exact absurd c139_1074 (by decide)
          refine G.aload C at_142 rfl rfl (n := 144) rfl ?_
          refine G.iload C at_144 rfl (n := 146) rfl ?_
          refine G.iload C at_146 rfl (n := 148) rfl ?_
          refine G.iload C at_148 rfl (n := 150) rfl ?_
          refine G.iadd C at_150 (n := 151) rfl ?_
          refine G.callV C (argsL := [(.int v972), (.int (v972 + v973))]) (yr := (⟨"com/example/near_miss/nearmiss/search/Window", "reset", "(II)V"⟩ : MethodName)) (yc := (⟨"com/example/near_miss/nearmiss/search/Window", "reset", "(II)V"⟩ : MethodName)) (a := b978) (O1070.1) (wd hw 20 rfl) (wd hw 21 rfl) (nfS (wd hw 23 rfl) rfl) (wd hw 23 rfl) (wd hw 22 rfl) (wd hw 3 rfl) (wd hw 24 rfl) (by decide) (m_reset1 l Z a0 hw b978 M Sc (((((v972 + v973) - v972) + (64 : Int32)) - (1 : Int32)) / (64 : Int32)) v972 (v972 + v973) us1065 X v972 (v972 + v973) h1069 n0 Z1072 O1070 O1063 O1064 ne1000 ne1002 ne995 g1001 g1003 Hl1066 g983 O1071 ne1004 ne996 ne997 g1005 (by rw [qwd2]; omega) (by rw [qwd2]; omega) (by rw [qe]; omega) (by rw [qe]; omega) (by rw [qr.2.2]; omega) (by rw [qe]; exact ql.2)) rfl (by decide) (W := 0) rfl (by decide) (c' := 4) (s' := 2073) rfl rfl (by decide) (by decide) at_151 (n := 154) rfl pd9 rfl rfl ?_
          rintro _ h1084 ⟨rfl, K1075, O1076, us1080, O1077, Hl1081, F1082, O1078, O1079⟩
          have Z1085 : n0 ≤ h1084.size := Nat.le_trans Z1072 K1075.1
          have H1086 := F1082 _ H1073 (fun s h => by rw [qwd]; omega)
          refine G.iload C at_154 rfl (n := 156) rfl ?_
          refine G.if_eq C (A := 1) (by decide) at_156 (by decide) (by decide) (n := 159) (n' := 166) rfl (fun c156_1087 c156_1087i => ?_) (fun c156_1087 c156_1087i => ?_)
          · exact absurd c156_1087 (by decide)
          refine G.aload C at_159 rfl rfl (n := 161) rfl ?_
          refine G.iload C at_161 rfl (n := 163) rfl ?_
          refine G.callV C (argsL := [(.int v974)]) (yr := (⟨"com/example/near_miss/nearmiss/search/Window", "remove", "(I)V"⟩ : MethodName)) (yc := (⟨"com/example/near_miss/nearmiss/search/Window", "remove", "(I)V"⟩ : MethodName)) (a := b978) (O1076.1) (wd hw 83 rfl) (wd hw 84 rfl) (nfS (wd hw 86 rfl) rfl) (wd hw 86 rfl) (wd hw 85 rfl) (wd hw 3 rfl) (wd hw 87 rfl) (by decide) (m_remove l Z a0 hw b978 M Sc (1 : Int32) (.ref X) (((((v972 + v973) - v972) + (64 : Int32)) - (1 : Int32)) / (64 : Int32)) v972 (v972 + v973) us1080 v974 h1084 n0 Z1085 O1076 O1077 O1078 ne1000 ne1002 ne995 g1001 g1003 Hl1081 qa.1 (by omega)) rfl (by decide) (W := 0) rfl (by decide) (c' := 4) (s' := 2073) rfl rfl (by decide) (by decide) at_163 (n := 166) rfl pd11 rfl rfl ?_
          rintro _ h1095 ⟨rfl, K1088, us1091, O1089, Hl1092, F1093, O1090⟩
          have O1096 := O1076.keep K1088 (ninS ne1000 (ninS ne1002 nin0))
          have O1097 := O1079.keep K1088 (ninS (Ne.symm ne996) (ninS (Ne.symm ne997) nin0))
          have Z1098 : n0 ≤ h1095.size := Nat.le_trans Z1085 K1088.1
          have H1099 := F1093 _ H1086
          refine G.iload C at_166 rfl (n := 168) rfl ?_
          refine G.if_eq C (A := 1) (by decide) at_168 (by decide) (by decide) (n := 171) (n' := 177) rfl (fun c168_1100 c168_1100i => ?_) (fun c168_1100 c168_1100i => ?_)
          · exact absurd c168_1100 (by decide)
          refine G.iconst C (v := (0 : Int32)) at_171 (by decide) (n := 172) rfl ?_
          refine G.istore C at_172 (l' := #[.val (.int i0), .val (.int i1), .val (.int i2), .val (.int i3), .val (.int i4), .val (.int i5), .val (.int (1 : Int32)), .val (.int (1 : Int32)), .val (.int (1 : Int32)), .val (.int v972), .val (.int v973), .val (.int v974), .val (.int v975), .val (.int v976), .val (.ref b978), .val (.int (0 : Int32)), .unset, .unset]) rfl (n := 174) rfl ?_
          refine G.goto C at_174 (by decide) (n := 234) (by decide) ?_
          refine G.aload C at_234 rfl rfl (n := 236) rfl ?_
          refine G.iload C at_236 rfl (n := 238) rfl ?_
          refine G.callV C (argsL := [(.int v976)]) (yr := (⟨"com/example/near_miss/nearmiss/search/Window", "holds", "(I)Z"⟩ : MethodName)) (yc := (⟨"com/example/near_miss/nearmiss/search/Window", "holds", "(I)Z"⟩ : MethodName)) (a := b978) (O1096.1) (wd hw 53 rfl) (wd hw 54 rfl) (nfS (wd hw 56 rfl) rfl) (wd hw 56 rfl) (wd hw 55 rfl) (wd hw 3 rfl) (wd hw 57 rfl) (by decide) (m_holds l Z a0 hw b978 M Sc (1 : Int32) (.ref X) (((((v972 + v973) - v972) + (64 : Int32)) - (1 : Int32)) / (64 : Int32)) v972 (v972 + v973) us1091 v976 h1095 n0 Z1098 O1096 O1089 O1090 ne1000 ne1002 ne995 g1001 g1003 Hl1092 qs.1 (by omega)) rfl (by decide) (W := 0) rfl (by decide) (c' := 4) (s' := 2073) rfl rfl (by decide) (by decide) at_238 (n := 241) rfl pd10 rfl rfl ?_
          rintro _ h1102 ⟨rr, rfl, Fr0, rfl⟩
          have Hr := Fr0 _ H1099
          refine G.iload C at_241 rfl (n := 243) rfl ?_
          refine G.icmp_ne C (A := rr.toInt) (B := 0) rfl (by decide) at_243 (by decide) (by decide) (n := 246) (n' := 250) rfl (fun c243_1103 c243_1103i => ?_) (fun c243_1103 c243_1103i => ?_)
          · rcases Hr with ⟨r1, r2⟩ | ⟨r1, r2⟩ <;> first | exact absurd r1 c243_1103 | (exfalso; omega)
          refine G.iconst C (v := (1 : Int32)) at_246 (by decide) (n := 247) rfl ?_
          refine G.goto C at_247 (by decide) (n := 251) (by decide) ?_
          refine G.ireturn C at_251 (rfl) (by simp) (by decide) (by decide) ?_
          exact rfl
set_option maxRecDepth 65536 in
set_option maxHeartbeats 40000000 in
theorem comes_1 {Post : Tables → Env → Array Value → State → Outcome → State → Prop} (hpost : ∀ tb e args s v u, (limb_1_1.after args s (.returned v) u = true ∧ limb_1_2.after args s (.returned v) u = true ∧ True) → FrameEnd s (.returned v) u (Jvm.fieldLocs frame_1_writes args s ++ Jvm.arrayLocs frame_1_arrays args s ++ Jvm.staticLocs frame_1_statics s) 16 4224 → Post tb e args s (.returned v) u) :
    ArmFor flags0 classFile x code maxLocals ret World_1 tables_1 room_1 Calls_1 rest_1 Pre_1 Post := by
  intro l hfl _ _ p e ha hc hk s m args below hf hA hF happ hP
  obtain ⟨hcalls, hrest, hpre⟩ := hP
  obtain ⟨-, -, -, hnamed, -, -, -, hat⟩ := (Spec.applies_iff hf).mp happ
  obtain ⟨hg, hn⟩ := and_e (Cond.before_iff.mp (show (Jvm.Cond.and given_1 narrow_1).before args s = true from hpre))
  obtain ⟨k1, k2⟩ := and_e hg
  obtain ⟨w0, w1, w2, w3, w4, w5, rfl⟩ : ∃ w0 w1 w2 w3 w4 w5 : Value, args = #[w0, w1, w2, w3, w4, w5] := by
    have hs : args.size = 6 := by simpa [Cond.value, given_1] using k1
    obtain ⟨L⟩ := args
    match L, hs with
    | [w0, w1, w2, w3, w4, w5], _ => exact ⟨w0, w1, w2, w3, w4, w5, rfl⟩
  have hw := fun d (hd : d ∈ tables_1) => atoms_spec (ws := Jvm.Cond.code x code maxLocals ret :: tables_1) hat d (List.mem_cons_of_mem _ hd)
  have hfit : Fit s := fun {y c} hc i hi => by
    obtain ⟨ha, rfl⟩ := Array.getElem?_eq_some_iff.mp hc
    have q := List.all_eq_true.mp ((Array.all_eq_true_iff_forall_mem.mp hF) _ (Array.getElem_mem ha)) i (List.mem_range.mpr hi)
    simpa [Array.getElem?_eq_getElem hi] using q
  obtain ⟨u0, k2⟩ := and_e k2
  obtain ⟨i0, e0⟩ := is_v u0
  obtain rfl : w0 = (.int i0) := Option.some.inj e0
  obtain ⟨u1, k2⟩ := and_e k2
  obtain ⟨i1, e1⟩ := is_v u1
  obtain rfl : w1 = (.int i1) := Option.some.inj e1
  obtain ⟨u2, k2⟩ := and_e k2
  obtain ⟨i2, e2⟩ := is_v u2
  obtain rfl : w2 = (.int i2) := Option.some.inj e2
  obtain ⟨u3, k2⟩ := and_e k2
  obtain ⟨i3, e3⟩ := is_v u3
  obtain rfl : w3 = (.int i3) := Option.some.inj e3
  obtain ⟨u4, k2⟩ := and_e k2
  obtain ⟨i4, e4⟩ := is_v u4
  obtain rfl : w4 = (.int i4) := Option.some.inj e4
  have u5 := k2
  obtain ⟨i5, e5⟩ := is_v u5
  obtain rfl : w5 = (.int i5) := Option.some.inj e5
  obtain ⟨n, o, h1, h2, h3, _, L, rfl, ⟨N, rfl⟩, hq⟩ := m_law l s _ hw i0 i1 i2 i3 i4 i5 s.heap s.heap.size (Nat.le_refl _)  tables_1 p e ha hc hk s m _ below hf ((Spec.applies_iff_loose hf).mp happ).1 ⟨rfl, State.Warmed39.refl s, rfl⟩ trivial
  refine ⟨n, _, h1, h2, h3, hpost _ _ _ _ _ _ ⟨Cond.after_iff.mpr rfl, Cond.after_iff.mpr (eq_i res_at (Term.int_eval (1)) rfl), trivial⟩ ⟨hq.1, hq.2.1, (hq.2.2.sift fun y hy => Or.inr (N y hy)).mono (by decide) (by decide)⟩⟩
theorem main_1_1 : Claimed_1_1 := comes_1 fun _ _ _ _ _ _ h hF => ⟨h.1, hF⟩
theorem main_1_2 : Claimed_1_2 := comes_1 fun _ _ _ _ _ _ h hF => ⟨h.2.1, hF⟩
end Jvm.Pilot.@@N@@
namespace Jvm.Pilot.@@N@@
open Jvm Jvm.ClassFile Sem Op Lib Jvm.Free Jvm.Stand Jvm.Pilot.@@N@@.Jvm.D
/-! MADE BY PROGRAM (witnessworld.py) out of the Statement's table words and the real class files: 25 classes; the members and pool entries that the words name. The judged class is class 1, her method 1. -/
namespace start1
open Jvm.ClassFile
def u (s : String) : CpInfo := .utf8 (stringToUtf16 s)
/-- a pool by its gaps: so many unusable entries, then the entry; so many at the end -/
def gap : Nat → List CpInfo → List CpInfo
  | 0, r => r
  | n + 1, r => .unusable :: gap n r
def poolList (es : List (Nat × CpInfo)) (last : Nat) : List CpInfo := es.foldr (fun e r => gap e.1 (e.2 :: r)) (gap last [])
def pool (es : List (Nat × CpInfo)) (last : Nat) : Array CpInfo := ⟨poolList es last⟩
def fileOf (pool : Array CpInfo) (this : Nat) (attrs : Array Attribute := #[]) (ms : Array MethodInfo := #[]) (fl : Nat := 33) (sup : Nat := 0) (ifs : Array Nat := #[]) (fds : Array FieldInfo := #[]) : ClassFile where
  minorVersion := 0
  majorVersion := 65
  constantPool := pool
  accessFlags := fl
  thisClass := this
  superClass := sup
  interfaces := ifs
  fields := fds
  methods := ms
  attributes := attrs
def plain (name : String) (sup : Option ClassId) : Class where
  name := name
  kind := .ordinary
  loader := none
  accessFlags := 33
  super := sup
  interfaces := #[]
  cf := none
  fields := #[]
  methods := #[]
  instanceTypes := #[]
  staticTypes := #[]
  resolved := #[]
  callSites := []
  init := .initialized
  statics := none
  mirror := none

def pool0 : Array CpInfo := pool [(5, u "<init>"), (0, u "()V"), (1, .class_ 10), (1, u "java/lang/Object")] 113

def k0c0 : Code := { maxStack := 0, maxLocals := 1, code := object_method_1_code, exceptionTable := #[], attributes := #[] }
def k0m0 : Method := { name := "<init>", desc := "()V", sig := { parameters := [], returnType := none }, accessFlags := 1, code := some k0c0 }
/-- java/lang/Object -/
def k0 : Class := { plain "java/lang/Object" none with
  accessFlags := 33
  interfaces := #[]
  cf := some (fileOf pool0 8 #[] #[{ accessFlags := 1, nameIndex := 5, descriptorIndex := 6, attributes := #[] }] 33 0 #[] #[])
  fields := #[]
  methods := #[k0m0]
  instanceTypes := #[]
  staticTypes := #[]
  resolved := Array.replicate 124 none
  statics := none }

def pool1 : Array CpInfo := pool [(2, .class_ 4), (1, u "java/lang/Object"), (0, u "<init>"), (0, u "()V"), (0, .integer 2147483647), (0, .class_ 9), (0, u "com/example/near_miss/nearmiss/search/Window"), (0, .methodref 8 11), (0, .nameAndType 5 12), (0, u "(Z)V"), (0, .methodref 8 14), (0, .nameAndType 15 16), (0, u "reset"), (0, u "(II)V"), (0, .methodref 8 18), (0, .nameAndType 19 20), (0, u "add"), (0, u "(ID)V"), (0, .double 4611686018427387904), (1, .methodref 8 24), (0, .nameAndType 25 26), (0, u "remove"), (0, u "(I)V"), (0, .methodref 8 28), (0, .nameAndType 29 30), (0, u "holds"), (0, u "(I)Z"), (0, .class_ 32), (0, u "com/example/near_miss/nearmiss/search/WindowHoldsPinLaw"), (2, u "law"), (0, u "(IIIIII)Z")] 3

def k1m0 : Method := { name := "<init>", desc := "()V", sig := { parameters := [], returnType := none }, accessFlags := 2, code := none }
def k1c1 : Code := { maxStack := 4, maxLocals := 18, code := code, exceptionTable := #[], attributes := #[] }
def k1m1 : Method := { name := "law", desc := "(IIIIII)Z", sig := { parameters := [.int, .int, .int, .int, .int, .int], returnType := some .boolean }, accessFlags := 9, code := some k1c1 }
/-- com/example/near_miss/nearmiss/search/WindowHoldsPinLaw -/
def k1 : Class := { plain "com/example/near_miss/nearmiss/search/WindowHoldsPinLaw" (some 0) with
  accessFlags := 49
  interfaces := #[]
  cf := some (fileOf pool1 31 #[] #[{ accessFlags := 2, nameIndex := 5, descriptorIndex := 6, attributes := #[] }, { accessFlags := 9, nameIndex := 35, descriptorIndex := 36, attributes := #[] }] 49 2 #[] #[])
  fields := #[]
  methods := #[k1m0, k1m1]
  instanceTypes := #[]
  staticTypes := #[]
  resolved := Array.replicate 40 none
  statics := none }

def pool2 : Array CpInfo := pool [(1, .class_ 2), (0, u "com/example/near_miss/nearmiss/search/Window"), (0, .class_ 4), (0, u "java/lang/Long"), (0, .methodref 6 7), (0, .class_ 8), (0, .nameAndType 9 10), (0, u "java/lang/Object"), (0, u "<init>"), (0, u "()V"), (0, .fieldref 1 12), (0, .nameAndType 13 14), (0, u "matched"), (0, u "[J"), (0, .fieldref 1 16), (0, .nameAndType 17 18), (0, u "scores"), (0, u "[D"), (0, .fieldref 1 20), (0, .nameAndType 21 22), (0, u "explains"), (0, u "Z"), (0, .class_ 24), (0, u "com/example/near_miss/nearmiss/scoring/Explanation"), (0, .fieldref 1 26), (0, .nameAndType 27 28), (0, u "explanations"), (0, u "[Lcom/example/near_miss/nearmiss/scoring/Explanation;"), (0, .fieldref 1 30), (0, .nameAndType 31 32), (0, u "base"), (0, u "I"), (0, .fieldref 1 34), (0, .nameAndType 35 32), (0, u "end"), (0, .methodref 1 37), (0, .nameAndType 38 39), (0, u "slotOf"), (0, u "(I)I"), (0, .methodref 1 41), (0, .nameAndType 42 43), (0, u "set"), (0, u "(ID)V"), (8, u "add"), (17, .fieldref 1 71), (0, .nameAndType 72 32), (0, u "words"), (0, .methodref 1 74), (0, .nameAndType 75 76), (0, u "empty"), (0, u "(IJ)V"), (0, .methodref 78 79), (0, .class_ 80), (0, .nameAndType 81 82), (0, u "java/util/Arrays"), (0, u "fill"), (0, u "([Ljava/lang/Object;IILjava/lang/Object;)V"), (2, u "child"), (0, u "Lcom/example/near_miss/nearmiss/search/Window;"), (2, u "(Z)V"), (2, u "reset"), (0, u "(II)V"), (0, .long 18446744073709551615), (1, .methodref 3 97), (0, .nameAndType 98 99), (0, u "numberOfTrailingZeros"), (0, u "(J)I"), (7, .fieldref 1 108), (0, .nameAndType 109 18), (0, u "tallies"), (11, .methodref 122 123), (0, .class_ 124), (0, .nameAndType 125 126), (0, u "java/util/Objects"), (0, u "checkIndex"), (0, u "(II)I"), (0, u "SIZE"), (2, u "WORDS"), (10, u "holds"), (0, u "(I)Z"), (5, u "remove"), (0, u "(I)V")] 9

def k2c0 : Code := { maxStack := 2, maxLocals := 2, code := prog_23_method_1_code, exceptionTable := #[], attributes := #[] }
def k2m0 : Method := { name := "<init>", desc := "(Z)V", sig := { parameters := [.boolean], returnType := none }, accessFlags := 0, code := some k2c0 }
def k2c1 : Code := { maxStack := 4, maxLocals := 4, code := prog_23_method_5_code, exceptionTable := #[], attributes := #[] }
def k2m1 : Method := { name := "add", desc := "(ID)V", sig := { parameters := [.int, .double], returnType := none }, accessFlags := 1, code := some k2c1 }
def k2c2 : Code := { maxStack := 4, maxLocals := 4, code := prog_23_method_8_code, exceptionTable := #[], attributes := #[] }
def k2m2 : Method := { name := "reset", desc := "(II)V", sig := { parameters := [.int, .int], returnType := none }, accessFlags := 0, code := some k2c2 }
def k2c3 : Code := { maxStack := 5, maxLocals := 2, code := prog_23_method_12_code, exceptionTable := #[], attributes := #[] }
def k2m3 : Method := { name := "holds", desc := "(I)Z", sig := { parameters := [.int], returnType := some .boolean }, accessFlags := 0, code := some k2c3 }
def k2c4 : Code := { maxStack := 7, maxLocals := 4, code := prog_23_method_13_code, exceptionTable := #[], attributes := #[] }
def k2m4 : Method := { name := "set", desc := "(ID)V", sig := { parameters := [.int, .double], returnType := none }, accessFlags := 2, code := some k2c4 }
def k2c5 : Code := { maxStack := 5, maxLocals := 2, code := prog_23_method_18_code, exceptionTable := #[], attributes := #[] }
def k2m5 : Method := { name := "remove", desc := "(I)V", sig := { parameters := [.int], returnType := none }, accessFlags := 0, code := some k2c5 }
def k2c6 : Code := { maxStack := 8, maxLocals := 7, code := prog_23_method_26_code, exceptionTable := #[], attributes := #[] }
def k2m6 : Method := { name := "empty", desc := "(IJ)V", sig := { parameters := [.int, .long], returnType := none }, accessFlags := 2, code := some k2c6 }
def k2c7 : Code := { maxStack := 3, maxLocals := 2, code := prog_23_method_27_code, exceptionTable := #[], attributes := #[] }
def k2m7 : Method := { name := "slotOf", desc := "(I)I", sig := { parameters := [.int], returnType := some .int }, accessFlags := 2, code := some k2c7 }
/-- com/example/near_miss/nearmiss/search/Window -/
def k2 : Class := { plain "com/example/near_miss/nearmiss/search/Window" (some 0) with
  accessFlags := 33
  interfaces := #[]
  cf := some (fileOf pool2 1 #[] #[{ accessFlags := 0, nameIndex := 9, descriptorIndex := 89, attributes := #[] }, { accessFlags := 1, nameIndex := 52, descriptorIndex := 43, attributes := #[] }, { accessFlags := 0, nameIndex := 92, descriptorIndex := 93, attributes := #[] }, { accessFlags := 0, nameIndex := 141, descriptorIndex := 142, attributes := #[] }, { accessFlags := 2, nameIndex := 42, descriptorIndex := 43, attributes := #[] }, { accessFlags := 0, nameIndex := 148, descriptorIndex := 149, attributes := #[] }, { accessFlags := 2, nameIndex := 75, descriptorIndex := 76, attributes := #[] }, { accessFlags := 2, nameIndex := 38, descriptorIndex := 39, attributes := #[] }] 33 6 #[] #[{ accessFlags := 25, nameIndex := 127, descriptorIndex := 32, attributes := #[] }, { accessFlags := 26, nameIndex := 130, descriptorIndex := 32, attributes := #[] }, { accessFlags := 18, nameIndex := 21, descriptorIndex := 22, attributes := #[] }, { accessFlags := 18, nameIndex := 13, descriptorIndex := 14, attributes := #[] }, { accessFlags := 18, nameIndex := 17, descriptorIndex := 18, attributes := #[] }, { accessFlags := 2, nameIndex := 109, descriptorIndex := 18, attributes := #[] }, { accessFlags := 18, nameIndex := 27, descriptorIndex := 28, attributes := #[] }, { accessFlags := 2, nameIndex := 31, descriptorIndex := 32, attributes := #[] }, { accessFlags := 2, nameIndex := 35, descriptorIndex := 32, attributes := #[] }, { accessFlags := 2, nameIndex := 72, descriptorIndex := 32, attributes := #[] }, { accessFlags := 2, nameIndex := 85, descriptorIndex := 86, attributes := #[] }])
  fields := #[{ name := "SIZE", type := .int, accessFlags := 25, slot := 0, constantValue := 0 }, { name := "WORDS", type := .int, accessFlags := 26, slot := 1, constantValue := 0 }, { name := "explains", type := .boolean, accessFlags := 18, slot := 0, constantValue := 0 }, { name := "matched", type := (.array .long), accessFlags := 18, slot := 1, constantValue := 0 }, { name := "scores", type := (.array .double), accessFlags := 18, slot := 2, constantValue := 0 }, { name := "tallies", type := (.array .double), accessFlags := 2, slot := 3, constantValue := 0 }, { name := "explanations", type := (.array (.object "com/example/near_miss/nearmiss/scoring/Explanation")), accessFlags := 18, slot := 4, constantValue := 0 }, { name := "base", type := .int, accessFlags := 2, slot := 5, constantValue := 0 }, { name := "end", type := .int, accessFlags := 2, slot := 6, constantValue := 0 }, { name := "words", type := .int, accessFlags := 2, slot := 7, constantValue := 0 }, { name := "child", type := (.object "com/example/near_miss/nearmiss/search/Window"), accessFlags := 2, slot := 8, constantValue := 0 }]
  methods := #[k2m0, k2m1, k2m2, k2m3, k2m4, k2m5, k2m6, k2m7]
  instanceTypes := #[.boolean, (.array .long), (.array .double), (.array .double), (.array (.object "com/example/near_miss/nearmiss/scoring/Explanation")), .int, .int, .int, (.object "com/example/near_miss/nearmiss/search/Window")]
  staticTypes := #[.int, .int]
  resolved := Array.replicate 159 none
  statics := none }

def pool3 : Array CpInfo := pool [(2, .class_ 4), (1, u "java/lang/Object"), (0, u "<init>"), (0, u "()V"), (35, .class_ 44), (1, u "java/util/Objects"), (60, .methodref 106 107), (0, .class_ 108), (0, .nameAndType 109 110), (0, u "jdk/internal/util/Preconditions"), (0, u "checkIndex"), (0, u "(IILjava/util/function/BiFunction;)I"), (60, u "(II)I")] 12

def k3m0 : Method := { name := "<init>", desc := "()V", sig := { parameters := [], returnType := none }, accessFlags := 2, code := none }
def k3c1 : Code := { maxStack := 3, maxLocals := 2, code := jdk_31_method_17_code, exceptionTable := #[], attributes := #[] }
def k3m1 : Method := { name := "checkIndex", desc := "(II)I", sig := { parameters := [.int, .int], returnType := some .int }, accessFlags := 9, code := some k3c1 }
/-- java/util/Objects -/
def k3 : Class := { plain "java/util/Objects" (some 0) with
  accessFlags := 49
  interfaces := #[]
  cf := some (fileOf pool3 42 #[] #[{ accessFlags := 2, nameIndex := 5, descriptorIndex := 6, attributes := #[] }, { accessFlags := 9, nameIndex := 109, descriptorIndex := 171, attributes := #[] }] 49 2 #[] #[])
  fields := #[]
  methods := #[k3m0, k3m1]
  instanceTypes := #[]
  staticTypes := #[]
  resolved := Array.replicate 184 none
  statics := none }

def pool4 : Array CpInfo := pool [(2, .class_ 4), (1, u "java/lang/Object"), (0, u "<init>"), (0, u "()V"), (17, .class_ 26), (1, u "jdk/internal/util/Preconditions"), (6, u "checkIndex"), (21, .class_ 56), (0, u "jdk/internal/util/Preconditions$4"), (57, .class_ 115), (0, u "jdk/internal/util/Preconditions$1"), (7, u "SIOOBE_FORMATTER"), (0, u "Ljava/util/function/BiFunction;"), (0, .class_ 126), (0, u "jdk/internal/util/Preconditions$2"), (3, u "AIOOBE_FORMATTER"), (0, .class_ 132), (0, u "jdk/internal/util/Preconditions$3"), (3, u "IOOBE_FORMATTER"), (41, u "(IILjava/util/function/BiFunction;)I")] 15

def k4m0 : Method := { name := "<init>", desc := "()V", sig := { parameters := [], returnType := none }, accessFlags := 1, code := none }
def k4c1 : Code := { maxStack := 3, maxLocals := 3, code := jdk_41_method_11_code, exceptionTable := #[], attributes := #[] }
def k4m1 : Method := { name := "checkIndex", desc := "(IILjava/util/function/BiFunction;)I", sig := { parameters := [.int, .int, (.object "java/util/function/BiFunction")], returnType := some .int }, accessFlags := 9, code := some k4c1 }
/-- jdk/internal/util/Preconditions -/
def k4 : Class := { plain "jdk/internal/util/Preconditions" (some 0) with
  accessFlags := 33
  interfaces := #[]
  cf := some (fileOf pool4 24 #[.nestMembers #[55, 131, 125, 114]] #[{ accessFlags := 1, nameIndex := 5, descriptorIndex := 6, attributes := #[] }, { accessFlags := 9, nameIndex := 33, descriptorIndex := 178, attributes := #[] }] 33 2 #[] #[{ accessFlags := 25, nameIndex := 123, descriptorIndex := 124, attributes := #[] }, { accessFlags := 25, nameIndex := 130, descriptorIndex := 124, attributes := #[] }, { accessFlags := 25, nameIndex := 136, descriptorIndex := 124, attributes := #[] }])
  fields := #[{ name := "SIOOBE_FORMATTER", type := (.object "java/util/function/BiFunction"), accessFlags := 25, slot := 0, constantValue := 0 }, { name := "AIOOBE_FORMATTER", type := (.object "java/util/function/BiFunction"), accessFlags := 25, slot := 1, constantValue := 0 }, { name := "IOOBE_FORMATTER", type := (.object "java/util/function/BiFunction"), accessFlags := 25, slot := 2, constantValue := 0 }]
  methods := #[k4m0, k4m1]
  instanceTypes := #[]
  staticTypes := #[(.object "java/util/function/BiFunction"), (.object "java/util/function/BiFunction"), (.object "java/util/function/BiFunction")]
  resolved := Array.replicate 194 none
  statics := none }

def pool5 : Array CpInfo := pool [(1, .class_ 2), (0, u "java/io/Serializable"), (0, .class_ 4), (0, u "java/lang/Object")] 2

/-- java/io/Serializable -/
def k5 : Class := { plain "java/io/Serializable" (some 0) with
  accessFlags := 1537
  interfaces := #[]
  cf := some (fileOf pool5 1 #[] #[] 1537 3 #[] #[])
  fields := #[]
  methods := #[]
  instanceTypes := #[]
  staticTypes := #[]
  resolved := Array.replicate 7 none
  statics := none }

def pool6 : Array CpInfo := pool [(2, .class_ 4), (1, u "java/lang/Object"), (0, u "<init>"), (0, u "()V"), (1, .class_ 10), (1, u "java/lang/Number"), (2, .class_ 14), (0, u "java/io/Serializable"), (0, u "serialVersionUID"), (0, u "J")] 20

def k6m0 : Method := { name := "<init>", desc := "()V", sig := { parameters := [], returnType := none }, accessFlags := 1, code := none }
/-- java/lang/Number -/
def k6 : Class := { plain "java/lang/Number" (some 0) with
  accessFlags := 1057
  interfaces := #[5]
  cf := some (fileOf pool6 8 #[] #[{ accessFlags := 1, nameIndex := 5, descriptorIndex := 6, attributes := #[] }] 1057 2 #[13] #[{ accessFlags := 26, nameIndex := 15, descriptorIndex := 16, attributes := #[] }])
  fields := #[{ name := "serialVersionUID", type := .long, accessFlags := 26, slot := 0, constantValue := 0 }]
  methods := #[k6m0]
  instanceTypes := #[]
  staticTypes := #[.long]
  resolved := Array.replicate 37 none
  statics := none }

def pool7 : Array CpInfo := pool [(1, .class_ 2), (0, u "java/lang/Comparable"), (0, .class_ 4), (0, u "java/lang/Object")] 7

/-- java/lang/Comparable -/
def k7 : Class := { plain "java/lang/Comparable" (some 0) with
  accessFlags := 1537
  interfaces := #[]
  cf := some (fileOf pool7 1 #[] #[] 1537 3 #[] #[])
  fields := #[]
  methods := #[]
  instanceTypes := #[]
  staticTypes := #[]
  resolved := Array.replicate 12 none
  statics := none }

def pool8 : Array CpInfo := pool [(1, .class_ 2), (0, u "java/lang/constant/Constable"), (0, .class_ 4), (0, u "java/lang/Object")] 6

/-- java/lang/constant/Constable -/
def k8 : Class := { plain "java/lang/constant/Constable" (some 0) with
  accessFlags := 1537
  interfaces := #[]
  cf := some (fileOf pool8 1 #[] #[] 1537 3 #[] #[])
  fields := #[]
  methods := #[]
  instanceTypes := #[]
  staticTypes := #[]
  resolved := Array.replicate 11 none
  statics := none }

def pool9 : Array CpInfo := pool [(1, .class_ 2), (0, u "java/lang/constant/ConstantDesc"), (0, .class_ 4), (0, u "java/lang/Object")] 32

/-- java/lang/constant/ConstantDesc -/
def k9 : Class := { plain "java/lang/constant/ConstantDesc" (some 0) with
  accessFlags := 1537
  interfaces := #[]
  cf := some (fileOf pool9 1 #[] #[] 1537 3 #[] #[])
  fields := #[]
  methods := #[]
  instanceTypes := #[]
  staticTypes := #[]
  resolved := Array.replicate 37 none
  statics := none }

def pool10 : Array CpInfo := pool [(1, .class_ 2), (0, u "java/lang/Long"), (15, .class_ 20), (1, u "java/lang/Integer"), (80, u "(J)I"), (133, .class_ 237), (1, u "java/lang/Long$LongCache"), (33, .class_ 272), (0, u "java/lang/Number"), (2, u "value"), (0, u "J"), (33, u "(I)I"), (0, .methodref 18 312), (0, .nameAndType 313 310), (0, u "numberOfTrailingZeros"), (47, u "TYPE"), (0, u "Ljava/lang/Class;"), (0, .class_ 364), (0, u "java/lang/Comparable"), (0, .class_ 366), (0, u "java/lang/constant/Constable"), (0, .class_ 368), (0, u "java/lang/constant/ConstantDesc"), (0, u "MIN_VALUE"), (1, u "MAX_VALUE"), (4, u "SIZE"), (0, u "I"), (1, u "BYTES"), (1, u "serialVersionUID")] 142

def k10c0 : Code := { maxStack := 4, maxLocals := 3, code := jdk_35_method_49_code, exceptionTable := #[], attributes := #[] }
def k10m0 : Method := { name := "numberOfTrailingZeros", desc := "(J)I", sig := { parameters := [.long], returnType := some .int }, accessFlags := 9, code := some k10c0 }
/-- java/lang/Long -/
def k10 : Class := { plain "java/lang/Long" (some 6) with
  accessFlags := 49
  interfaces := #[7, 8, 9]
  cf := some (fileOf pool10 1 #[.nestMembers #[235]] #[{ accessFlags := 9, nameIndex := 313, descriptorIndex := 101, attributes := #[] }] 49 271 #[363, 365, 367] #[{ accessFlags := 25, nameIndex := 369, descriptorIndex := 276, attributes := #[] }, { accessFlags := 25, nameIndex := 371, descriptorIndex := 276, attributes := #[] }, { accessFlags := 25, nameIndex := 361, descriptorIndex := 362, attributes := #[] }, { accessFlags := 18, nameIndex := 275, descriptorIndex := 276, attributes := #[] }, { accessFlags := 25, nameIndex := 376, descriptorIndex := 377, attributes := #[] }, { accessFlags := 25, nameIndex := 379, descriptorIndex := 377, attributes := #[] }, { accessFlags := 26, nameIndex := 381, descriptorIndex := 276, attributes := #[] }])
  fields := #[{ name := "MIN_VALUE", type := .long, accessFlags := 25, slot := 0, constantValue := 0 }, { name := "MAX_VALUE", type := .long, accessFlags := 25, slot := 1, constantValue := 0 }, { name := "TYPE", type := (.object "java/lang/Class"), accessFlags := 25, slot := 2, constantValue := 0 }, { name := "value", type := .long, accessFlags := 18, slot := 0, constantValue := 0 }, { name := "SIZE", type := .int, accessFlags := 25, slot := 3, constantValue := 0 }, { name := "BYTES", type := .int, accessFlags := 25, slot := 4, constantValue := 0 }, { name := "serialVersionUID", type := .long, accessFlags := 26, slot := 5, constantValue := 0 }]
  methods := #[k10m0]
  instanceTypes := #[.long]
  staticTypes := #[.long, .long, (.object "java/lang/Class"), .int, .int, .long]
  resolved := Array.replicate 524 none
  statics := none }

def pool11 : Array CpInfo := pool [(1, .class_ 2), (0, u "java/lang/Integer"), (16, u "digits"), (0, u "[C"), (33, u "(I)I"), (30, u "DigitOnes"), (0, u "[B"), (2, u "DigitTens"), (99, .class_ 190), (0, u "java/lang/Integer$IntegerCache"), (3, u "I"), (8, .class_ 204), (0, u "java/lang/Number"), (2, u "value"), (56, .integer 65536), (37, u "TYPE"), (0, u "Ljava/lang/Class;"), (0, .class_ 305), (0, u "java/lang/Comparable"), (0, .class_ 307), (0, u "java/lang/constant/Constable"), (0, .class_ 309), (0, u "java/lang/constant/ConstantDesc"), (0, u "MIN_VALUE"), (1, u "MAX_VALUE"), (3, u "SIZE"), (1, u "BYTES"), (1, u "serialVersionUID"), (0, u "J"), (84, u "numberOfTrailingZeros")] 46

def k11c0 : Code := { maxStack := 3, maxLocals := 2, code := jdk_33_method_48_code, exceptionTable := #[], attributes := #[] }
def k11m0 : Method := { name := "numberOfTrailingZeros", desc := "(I)I", sig := { parameters := [.int], returnType := some .int }, accessFlags := 9, code := some k11c0 }
/-- java/lang/Integer -/
def k11 : Class := { plain "java/lang/Integer" (some 6) with
  accessFlags := 49
  interfaces := #[7, 8, 9]
  cf := some (fileOf pool11 1 #[.nestMembers #[189]] #[{ accessFlags := 9, nameIndex := 406, descriptorIndex := 54, attributes := #[] }] 49 203 #[304, 306, 308] #[{ accessFlags := 25, nameIndex := 310, descriptorIndex := 194, attributes := #[] }, { accessFlags := 25, nameIndex := 312, descriptorIndex := 194, attributes := #[] }, { accessFlags := 25, nameIndex := 302, descriptorIndex := 303, attributes := #[] }, { accessFlags := 24, nameIndex := 19, descriptorIndex := 20, attributes := #[] }, { accessFlags := 24, nameIndex := 89, descriptorIndex := 86, attributes := #[] }, { accessFlags := 24, nameIndex := 85, descriptorIndex := 86, attributes := #[] }, { accessFlags := 18, nameIndex := 207, descriptorIndex := 194, attributes := #[] }, { accessFlags := 25, nameIndex := 316, descriptorIndex := 194, attributes := #[] }, { accessFlags := 25, nameIndex := 318, descriptorIndex := 194, attributes := #[] }, { accessFlags := 26, nameIndex := 320, descriptorIndex := 321, attributes := #[] }])
  fields := #[{ name := "MIN_VALUE", type := .int, accessFlags := 25, slot := 0, constantValue := 0 }, { name := "MAX_VALUE", type := .int, accessFlags := 25, slot := 1, constantValue := 0 }, { name := "TYPE", type := (.object "java/lang/Class"), accessFlags := 25, slot := 2, constantValue := 0 }, { name := "digits", type := (.array .char), accessFlags := 24, slot := 3, constantValue := 0 }, { name := "DigitTens", type := (.array .byte), accessFlags := 24, slot := 4, constantValue := 0 }, { name := "DigitOnes", type := (.array .byte), accessFlags := 24, slot := 5, constantValue := 0 }, { name := "value", type := .int, accessFlags := 18, slot := 0, constantValue := 0 }, { name := "SIZE", type := .int, accessFlags := 25, slot := 6, constantValue := 0 }, { name := "BYTES", type := .int, accessFlags := 25, slot := 7, constantValue := 0 }, { name := "serialVersionUID", type := .long, accessFlags := 26, slot := 8, constantValue := 0 }]
  methods := #[k11m0]
  instanceTypes := #[.int]
  staticTypes := #[.int, .int, (.object "java/lang/Class"), (.array .char), (.array .byte), (.array .byte), .int, .int, .long]
  resolved := Array.replicate 453 none
  statics := none }

def pool12 : Array CpInfo := pool [(2, .class_ 4), (1, u "java/lang/Object"), (0, u "<init>"), (0, u "()V"), (0, .class_ 8), (0, u "java/lang/Record")] 13

def k12m0 : Method := { name := "<init>", desc := "()V", sig := { parameters := [], returnType := none }, accessFlags := 4, code := none }
/-- java/lang/Record -/
def k12 : Class := { plain "java/lang/Record" (some 0) with
  accessFlags := 1057
  interfaces := #[]
  cf := some (fileOf pool12 7 #[] #[{ accessFlags := 4, nameIndex := 5, descriptorIndex := 6, attributes := #[] }] 1057 2 #[] #[])
  fields := #[]
  methods := #[k12m0]
  instanceTypes := #[]
  staticTypes := #[]
  resolved := Array.replicate 22 none
  statics := none }

def pool13 : Array CpInfo := pool [(2, .class_ 4), (1, u "java/lang/Record"), (3, u "description"), (13, .class_ 24), (1, u "com/example/near_miss/nearmiss/scoring/Explanation"), (0, u "value"), (0, u "D"), (2, u "Ljava/lang/String;"), (2, u "details"), (0, u "Ljava/util/List;")] 94

/-- com/example/near_miss/nearmiss/scoring/Explanation -/
def k13 : Class := { plain "com/example/near_miss/nearmiss/scoring/Explanation" (some 12) with
  accessFlags := 49
  interfaces := #[]
  cf := some (fileOf pool13 22 #[] #[] 49 2 #[] #[{ accessFlags := 18, nameIndex := 25, descriptorIndex := 26, attributes := #[] }, { accessFlags := 18, nameIndex := 8, descriptorIndex := 29, attributes := #[] }, { accessFlags := 18, nameIndex := 32, descriptorIndex := 33, attributes := #[] }])
  fields := #[{ name := "value", type := .double, accessFlags := 18, slot := 0, constantValue := 0 }, { name := "description", type := (.object "java/lang/String"), accessFlags := 18, slot := 1, constantValue := 0 }, { name := "details", type := (.object "java/util/List"), accessFlags := 18, slot := 2, constantValue := 0 }]
  methods := #[]
  instanceTypes := #[.double, (.object "java/lang/String"), (.object "java/util/List")]
  staticTypes := #[]
  resolved := Array.replicate 128 none
  statics := none }

def pool14 : Array CpInfo := pool [(2, .class_ 4), (1, u "java/lang/Object"), (0, u "<init>"), (0, u "()V"), (6, .methodref 14 15), (0, .class_ 16), (0, .nameAndType 17 18), (0, u "java/util/Arrays"), (0, u "rangeCheck"), (0, u "(III)V"), (55, .class_ 76), (1, u "java/util/Arrays$NaturalOrder"), (36, .class_ 115), (1, u "java/util/Arrays$LegacyMergeSort"), (1, u "Z"), (257, .class_ 376), (0, u "java/util/Arrays$ArrayList"), (68, u "$assertionsDisabled"), (269, u "MIN_ARRAY_SORT_GRAN"), (0, u "I"), (2, u "INSERTIONSORT_THRESHOLD"), (120, u "fill"), (18, u "([Ljava/lang/Object;IILjava/lang/Object;)V"), (115, .class_ 976), (0, u "java/util/Arrays$ArrayItr")] 52

def k14m0 : Method := { name := "<init>", desc := "()V", sig := { parameters := [], returnType := none }, accessFlags := 2, code := none }
def k14c1 : Code := { maxStack := 4, maxLocals := 3, code := jdk_65_method_30_code, exceptionTable := #[], attributes := #[] }
def k14m1 : Method := { name := "rangeCheck", desc := "(III)V", sig := { parameters := [.int, .int, .int], returnType := none }, accessFlags := 8, code := some k14c1 }
def k14c2 : Code := { maxStack := 3, maxLocals := 5, code := jdk_65_method_118_code, exceptionTable := #[], attributes := #[] }
def k14m2 : Method := { name := "fill", desc := "([Ljava/lang/Object;IILjava/lang/Object;)V", sig := { parameters := [(.array (.object "java/lang/Object")), .int, .int, (.object "java/lang/Object")], returnType := none }, accessFlags := 9, code := some k14c2 }
/-- java/util/Arrays -/
def k14 : Class := { plain "java/util/Arrays" (some 0) with
  accessFlags := 49
  interfaces := #[]
  cf := some (fileOf pool14 14 #[.nestMembers #[975, 375, 113, 74]] #[{ accessFlags := 2, nameIndex := 5, descriptorIndex := 6, attributes := #[] }, { accessFlags := 8, nameIndex := 17, descriptorIndex := 18, attributes := #[] }, { accessFlags := 9, nameIndex := 840, descriptorIndex := 859, attributes := #[] }] 49 2 #[] #[{ accessFlags := 26, nameIndex := 715, descriptorIndex := 716, attributes := #[] }, { accessFlags := 26, nameIndex := 719, descriptorIndex := 716, attributes := #[] }, { accessFlags := 4120, nameIndex := 445, descriptorIndex := 117, attributes := #[] }])
  fields := #[{ name := "MIN_ARRAY_SORT_GRAN", type := .int, accessFlags := 26, slot := 0, constantValue := 0 }, { name := "INSERTIONSORT_THRESHOLD", type := .int, accessFlags := 26, slot := 1, constantValue := 0 }, { name := "$assertionsDisabled", type := .boolean, accessFlags := 4120, slot := 2, constantValue := 0 }]
  methods := #[k14m0, k14m1, k14m2]
  instanceTypes := #[]
  staticTypes := #[.int, .int, .boolean]
  resolved := Array.replicate 1029 none
  statics := none }

def pool15 : Array CpInfo := pool [(1, u "java/lang/Cloneable"), (0, .class_ 1), (0, u "java/lang/Object"), (0, .class_ 3)] 3

/-- java/lang/Cloneable -/
def k15 : Class := { plain "java/lang/Cloneable" (some 0) with
  accessFlags := 1537
  interfaces := #[]
  cf := some (fileOf pool15 2 #[] #[] 1537 4 #[] #[])
  fields := #[]
  methods := #[]
  instanceTypes := #[]
  staticTypes := #[]
  resolved := Array.replicate 8 none
  statics := none }

/-- the primitive byte -/
def k16 : Class := { plain "byte" none with kind := .primitive 'B', accessFlags := 0x411 }
/-- [B -/
def k17 : Class := { plain "[B" (some 0) with kind := .array 16 .byte, interfaces := #[15, 5], accessFlags := 1041 }

/-- the primitive double -/
def k18 : Class := { plain "double" none with kind := .primitive 'D', accessFlags := 0x411 }
/-- [D -/
def k19 : Class := { plain "[D" (some 0) with kind := .array 18 .double, interfaces := #[15, 5], accessFlags := 1041 }

/-- the primitive int -/
def k20 : Class := { plain "int" none with kind := .primitive 'I', accessFlags := 0x411 }
/-- [I -/
def k21 : Class := { plain "[I" (some 0) with kind := .array 20 .int, interfaces := #[15, 5], accessFlags := 1041 }

/-- the primitive long -/
def k22 : Class := { plain "long" none with kind := .primitive 'J', accessFlags := 0x411 }
/-- [J -/
def k23 : Class := { plain "[J" (some 0) with kind := .array 22 .long, interfaces := #[15, 5], accessFlags := 1041 }

/-- [Lcom/example/near_miss/nearmiss/scoring/Explanation; -/
def k24 : Class := { plain "[Lcom/example/near_miss/nearmiss/scoring/Explanation;" (some 0) with kind := .array 13 (.object "com/example/near_miss/nearmiss/scoring/Explanation"), interfaces := #[15, 5], accessFlags := 1041 }

def heap : Heap := #[]
def classes : Array Class := #[k0, k1, k2, k3, k4, k5, k6, k7, k8, k9, k10, k11, k12, k13, k14, k15, k16, k17, k18, k19, k20, k21, k22, k23, k24]
def interned : List (Array UInt16 × Addr) := []
def slotsUsed : Nat := 0
def theMethod : MethodId := ⟨1, 1⟩
def args0 : Array Value := #[.int 5, .int 6, .int 1, .int 2, .int 3, .int 7]
def aboutOver (below : List Frame) : State where
  vm := { classes := classes, interned := interned.toArray }
  heap := heap
  slotsUsed := slotsUsed
  threads := #[{ frames := .invoking theMethod args0 :: below }]
def below0 : List Frame := [.native { method := ⟨0, 0⟩, args := #[] }]
def about1 : State := aboutOver below0
def p0 : Program := .bare "" "" ""
def e0 : Env := launch0.env 0 0 0
theorem w_frames : about1.frames = Frame.invoking theMethod args0 :: below0 := rfl
set_option maxRecDepth 65536 in
theorem w_args : argsFit about1.vm theMethod args0 = true := by decide +kernel
set_option maxRecDepth 65536 in
theorem w_heap : heapFits about1 = true := by decide +kernel
set_option maxRecDepth 65536 in
theorem w_runnable : about1.curStatus? = some .runnable := by decide +kernel
set_option maxRecDepth 65536 in
theorem w_alone : about1.alone = true := by decide +kernel
set_option maxRecDepth 65536 in
theorem w_named : about1.methodNamed? x = some theMethod := by decide +kernel
set_option maxRecDepth 65536 in
theorem w_hears : about1.hears theMethod below0 = true := by decide +kernel
set_option maxRecDepth 65536 in
theorem w_ripe : about1.ripe theMethod args0 below0 = true := by decide +kernel
theorem w_running : about1.status = .running := rfl
set_option maxRecDepth 65536 in
theorem w_room : about1.hasRoom e0.platform room_1 = true :=
  launch0.hasRoom_least _ room_1 (by decide +kernel) (by decide +kernel) (by decide +kernel) (by decide +kernel) (by decide +kernel) (by decide +kernel)
theorem allAtoms_all (ts : List Jvm.Cond) (a : Array Jvm.Value) (st : Jvm.State) : (allAtoms ts).before a st = ts.all (fun c => c.before a st) := by
  induction ts with
  | nil => rfl
  | cons c t ih =>
    show (Jvm.Cond.and c (allAtoms t)).before a st = _
    rw [Jvm.Cond.before_and, ih, List.all_cons]
def words1 : List Jvm.Cond := Jvm.Cond.code x code maxLocals ret :: tables_1
/-- a 'code' word, met by the world's own term for the bytes: nothing is compared byte by byte -/
theorem code_word {y : MethodName} {bytes : ByteArray} {mx : Nat} {rt : Option FieldType} {a : Array Value} {s : State} {m : MethodId} {meth : Method} {c : Code} (h1 : s.methodNamed? y = some m) (h2 : s.vm.method? m = some meth) (h3 : meth.code = some c) (h4 : c.code = bytes)
    (h5 : (c.maxLocals == mx && c.exceptionTable.isEmpty && decide (c.maxStack ≤ mostOperands) && decide (meth.sig.returnType = rt) && !meth.locks && decide (parseMethodDescriptor y.desc = some meth.sig)) = true) : (Jvm.Cond.code y bytes mx rt).before a s = true := by
  simp only [Bool.and_eq_true, beq_iff_eq, Bool.not_eq_true', decide_eq_true_eq] at h5
  obtain ⟨⟨⟨⟨⟨g1, g2⟩, g3⟩, g4⟩, g5⟩, g6⟩ := h5
  simp [Cond.before, Cond.holds, Cond.value, h1, h2, h3, h4, g1, g2, g3, g4, g5, g6]
def isCode : Jvm.Cond → Bool
  | .code _ _ _ _ => true
  | _ => false
theorem all_split {L : List Jvm.Cond} {P : Jvm.Cond → Bool} (h1 : L.all (fun c => isCode c || P c) = true) (h2 : ∀ c ∈ L.filter isCode, P c = true) : L.all P = true := by
  refine List.all_eq_true.mpr fun c hc => ?_
  have h := List.all_eq_true.mp h1 c hc
  rcases Bool.eq_false_or_eq_true (isCode c) with hi | hi
  · exact h2 c (List.mem_filter.mpr ⟨hc, hi⟩)
  · simpa [hi] using h
set_option maxRecDepth 65536 in
theorem w_c0 : (Jvm.Cond.code x code maxLocals ret).before args0 about1 = true := code_word (m := ⟨1, 1⟩) (meth := k1m1) (c := k1c1) (by decide +kernel) rfl rfl rfl (by decide +kernel)
set_option maxRecDepth 65536 in
theorem w_c1 : (Jvm.Cond.code ({ cls := "com/example/near_miss/nearmiss/search/Window", name := "<init>", desc := "(Z)V" } : Jvm.MethodName) prog_23_method_1_code (2 : Nat) (Option.none : Option Jvm.ClassFile.FieldType)).before args0 about1 = true := code_word (m := ⟨2, 0⟩) (meth := k2m0) (c := k2c0) (by decide +kernel) rfl rfl rfl (by decide +kernel)
set_option maxRecDepth 65536 in
theorem w_c2 : (Jvm.Cond.code ({ cls := "java/lang/Object", name := "<init>", desc := "()V" } : Jvm.MethodName) object_method_1_code (1 : Nat) (Option.none : Option Jvm.ClassFile.FieldType)).before args0 about1 = true := code_word (m := ⟨0, 0⟩) (meth := k0m0) (c := k0c0) (by decide +kernel) rfl rfl rfl (by decide +kernel)
set_option maxRecDepth 65536 in
theorem w_c3 : (Jvm.Cond.code ({ cls := "com/example/near_miss/nearmiss/search/Window", name := "reset", desc := "(II)V" } : Jvm.MethodName) prog_23_method_8_code (4 : Nat) (Option.none : Option Jvm.ClassFile.FieldType)).before args0 about1 = true := code_word (m := ⟨2, 2⟩) (meth := k2m2) (c := k2c2) (by decide +kernel) rfl rfl rfl (by decide +kernel)
set_option maxRecDepth 65536 in
theorem w_c4 : (Jvm.Cond.code ({ cls := "com/example/near_miss/nearmiss/search/Window", name := "add", desc := "(ID)V" } : Jvm.MethodName) prog_23_method_5_code (4 : Nat) (Option.none : Option Jvm.ClassFile.FieldType)).before args0 about1 = true := code_word (m := ⟨2, 1⟩) (meth := k2m1) (c := k2c1) (by decide +kernel) rfl rfl rfl (by decide +kernel)
set_option maxRecDepth 65536 in
theorem w_c5 : (Jvm.Cond.code ({ cls := "com/example/near_miss/nearmiss/search/Window", name := "slotOf", desc := "(I)I" } : Jvm.MethodName) prog_23_method_27_code (2 : Nat) (Option.some Jvm.ClassFile.FieldType.int)).before args0 about1 = true := code_word (m := ⟨2, 7⟩) (meth := k2m7) (c := k2c7) (by decide +kernel) rfl rfl rfl (by decide +kernel)
set_option maxRecDepth 65536 in
theorem w_c6 : (Jvm.Cond.code ({ cls := "java/util/Objects", name := "checkIndex", desc := "(II)I" } : Jvm.MethodName) jdk_31_method_17_code (2 : Nat) (Option.some Jvm.ClassFile.FieldType.int)).before args0 about1 = true := code_word (m := ⟨3, 1⟩) (meth := k3m1) (c := k3c1) (by decide +kernel) rfl rfl rfl (by decide +kernel)
set_option maxRecDepth 65536 in
theorem w_c7 : (Jvm.Cond.code ({ cls := "jdk/internal/util/Preconditions", name := "checkIndex", desc := "(IILjava/util/function/BiFunction;)I" } : Jvm.MethodName) jdk_41_method_11_code (3 : Nat) (Option.some Jvm.ClassFile.FieldType.int)).before args0 about1 = true := code_word (m := ⟨4, 1⟩) (meth := k4m1) (c := k4c1) (by decide +kernel) rfl rfl rfl (by decide +kernel)
set_option maxRecDepth 65536 in
theorem w_c8 : (Jvm.Cond.code ({ cls := "com/example/near_miss/nearmiss/search/Window", name := "set", desc := "(ID)V" } : Jvm.MethodName) prog_23_method_13_code (4 : Nat) (Option.none : Option Jvm.ClassFile.FieldType)).before args0 about1 = true := code_word (m := ⟨2, 4⟩) (meth := k2m4) (c := k2c4) (by decide +kernel) rfl rfl rfl (by decide +kernel)
set_option maxRecDepth 65536 in
theorem w_c9 : (Jvm.Cond.code ({ cls := "com/example/near_miss/nearmiss/search/Window", name := "holds", desc := "(I)Z" } : Jvm.MethodName) prog_23_method_12_code (2 : Nat) (Option.some Jvm.ClassFile.FieldType.boolean)).before args0 about1 = true := code_word (m := ⟨2, 3⟩) (meth := k2m3) (c := k2c3) (by decide +kernel) rfl rfl rfl (by decide +kernel)
set_option maxRecDepth 65536 in
theorem w_c10 : (Jvm.Cond.code ({ cls := "com/example/near_miss/nearmiss/search/Window", name := "empty", desc := "(IJ)V" } : Jvm.MethodName) prog_23_method_26_code (7 : Nat) (Option.none : Option Jvm.ClassFile.FieldType)).before args0 about1 = true := code_word (m := ⟨2, 6⟩) (meth := k2m6) (c := k2c6) (by decide +kernel) rfl rfl rfl (by decide +kernel)
set_option maxRecDepth 65536 in
theorem w_c11 : (Jvm.Cond.code ({ cls := "java/lang/Long", name := "numberOfTrailingZeros", desc := "(J)I" } : Jvm.MethodName) jdk_35_method_49_code (3 : Nat) (Option.some Jvm.ClassFile.FieldType.int)).before args0 about1 = true := code_word (m := ⟨10, 0⟩) (meth := k10m0) (c := k10c0) (by decide +kernel) rfl rfl rfl (by decide +kernel)
set_option maxRecDepth 65536 in
theorem w_c12 : (Jvm.Cond.code ({ cls := "java/lang/Integer", name := "numberOfTrailingZeros", desc := "(I)I" } : Jvm.MethodName) jdk_33_method_48_code (2 : Nat) (Option.some Jvm.ClassFile.FieldType.int)).before args0 about1 = true := code_word (m := ⟨11, 0⟩) (meth := k11m0) (c := k11c0) (by decide +kernel) rfl rfl rfl (by decide +kernel)
set_option maxRecDepth 65536 in
theorem w_c13 : (Jvm.Cond.code ({ cls := "java/util/Arrays", name := "fill", desc := "([Ljava/lang/Object;IILjava/lang/Object;)V" } : Jvm.MethodName) jdk_65_method_118_code (5 : Nat) (Option.none : Option Jvm.ClassFile.FieldType)).before args0 about1 = true := code_word (m := ⟨14, 2⟩) (meth := k14m2) (c := k14c2) (by decide +kernel) rfl rfl rfl (by decide +kernel)
set_option maxRecDepth 65536 in
theorem w_c14 : (Jvm.Cond.code ({ cls := "java/util/Arrays", name := "rangeCheck", desc := "(III)V" } : Jvm.MethodName) jdk_65_method_30_code (3 : Nat) (Option.none : Option Jvm.ClassFile.FieldType)).before args0 about1 = true := code_word (m := ⟨14, 1⟩) (meth := k14m1) (c := k14c1) (by decide +kernel) rfl rfl rfl (by decide +kernel)
set_option maxRecDepth 65536 in
theorem w_c15 : (Jvm.Cond.code ({ cls := "com/example/near_miss/nearmiss/search/Window", name := "remove", desc := "(I)V" } : Jvm.MethodName) prog_23_method_18_code (2 : Nat) (Option.none : Option Jvm.ClassFile.FieldType)).before args0 about1 = true := code_word (m := ⟨2, 5⟩) (meth := k2m5) (c := k2c5) (by decide +kernel) rfl rfl rfl (by decide +kernel)
def codes1 : List Jvm.Cond := [Jvm.Cond.code x code maxLocals ret, Jvm.Cond.code ({ cls := "com/example/near_miss/nearmiss/search/Window", name := "<init>", desc := "(Z)V" } : Jvm.MethodName) prog_23_method_1_code (2 : Nat) (Option.none : Option Jvm.ClassFile.FieldType), Jvm.Cond.code ({ cls := "java/lang/Object", name := "<init>", desc := "()V" } : Jvm.MethodName) object_method_1_code (1 : Nat) (Option.none : Option Jvm.ClassFile.FieldType), Jvm.Cond.code ({ cls := "com/example/near_miss/nearmiss/search/Window", name := "reset", desc := "(II)V" } : Jvm.MethodName) prog_23_method_8_code (4 : Nat) (Option.none : Option Jvm.ClassFile.FieldType), Jvm.Cond.code ({ cls := "com/example/near_miss/nearmiss/search/Window", name := "add", desc := "(ID)V" } : Jvm.MethodName) prog_23_method_5_code (4 : Nat) (Option.none : Option Jvm.ClassFile.FieldType), Jvm.Cond.code ({ cls := "com/example/near_miss/nearmiss/search/Window", name := "slotOf", desc := "(I)I" } : Jvm.MethodName) prog_23_method_27_code (2 : Nat) (Option.some Jvm.ClassFile.FieldType.int), Jvm.Cond.code ({ cls := "java/util/Objects", name := "checkIndex", desc := "(II)I" } : Jvm.MethodName) jdk_31_method_17_code (2 : Nat) (Option.some Jvm.ClassFile.FieldType.int), Jvm.Cond.code ({ cls := "jdk/internal/util/Preconditions", name := "checkIndex", desc := "(IILjava/util/function/BiFunction;)I" } : Jvm.MethodName) jdk_41_method_11_code (3 : Nat) (Option.some Jvm.ClassFile.FieldType.int), Jvm.Cond.code ({ cls := "com/example/near_miss/nearmiss/search/Window", name := "set", desc := "(ID)V" } : Jvm.MethodName) prog_23_method_13_code (4 : Nat) (Option.none : Option Jvm.ClassFile.FieldType), Jvm.Cond.code ({ cls := "com/example/near_miss/nearmiss/search/Window", name := "holds", desc := "(I)Z" } : Jvm.MethodName) prog_23_method_12_code (2 : Nat) (Option.some Jvm.ClassFile.FieldType.boolean), Jvm.Cond.code ({ cls := "com/example/near_miss/nearmiss/search/Window", name := "empty", desc := "(IJ)V" } : Jvm.MethodName) prog_23_method_26_code (7 : Nat) (Option.none : Option Jvm.ClassFile.FieldType), Jvm.Cond.code ({ cls := "java/lang/Long", name := "numberOfTrailingZeros", desc := "(J)I" } : Jvm.MethodName) jdk_35_method_49_code (3 : Nat) (Option.some Jvm.ClassFile.FieldType.int), Jvm.Cond.code ({ cls := "java/lang/Integer", name := "numberOfTrailingZeros", desc := "(I)I" } : Jvm.MethodName) jdk_33_method_48_code (2 : Nat) (Option.some Jvm.ClassFile.FieldType.int), Jvm.Cond.code ({ cls := "java/util/Arrays", name := "fill", desc := "([Ljava/lang/Object;IILjava/lang/Object;)V" } : Jvm.MethodName) jdk_65_method_118_code (5 : Nat) (Option.none : Option Jvm.ClassFile.FieldType), Jvm.Cond.code ({ cls := "java/util/Arrays", name := "rangeCheck", desc := "(III)V" } : Jvm.MethodName) jdk_65_method_30_code (3 : Nat) (Option.none : Option Jvm.ClassFile.FieldType), Jvm.Cond.code ({ cls := "com/example/near_miss/nearmiss/search/Window", name := "remove", desc := "(I)V" } : Jvm.MethodName) prog_23_method_18_code (2 : Nat) (Option.none : Option Jvm.ClassFile.FieldType)]
set_option maxRecDepth 65536 in
theorem codes_eq : words1.filter isCode = codes1 := rfl
theorem w_codes : ∀ c ∈ words1.filter isCode, c.before args0 about1 = true := by
  rw [codes_eq]
  intro c hc
  simp only [codes1, List.mem_cons, List.not_mem_nil, or_false] at hc
  rcases hc with rfl | rfl | rfl | rfl | rfl | rfl | rfl | rfl | rfl | rfl | rfl | rfl | rfl | rfl | rfl | rfl
  · exact w_c0
  · exact w_c1
  · exact w_c2
  · exact w_c3
  · exact w_c4
  · exact w_c5
  · exact w_c6
  · exact w_c7
  · exact w_c8
  · exact w_c9
  · exact w_c10
  · exact w_c11
  · exact w_c12
  · exact w_c13
  · exact w_c14
  · exact w_c15
set_option maxRecDepth 65536 in
theorem w_t1 : (words1.take 24).all (fun c => isCode c || c.before args0 about1) = true := by decide +kernel
set_option maxRecDepth 65536 in
theorem w_t2 : ((words1.drop 24).take 24).all (fun c => isCode c || c.before args0 about1) = true := by decide +kernel
set_option maxRecDepth 65536 in
theorem w_t3 : (((words1.drop 24).drop 24).take 24).all (fun c => isCode c || c.before args0 about1) = true := by decide +kernel
set_option maxRecDepth 65536 in
theorem w_t4 : (((words1.drop 24).drop 24).drop 24).all (fun c => isCode c || c.before args0 about1) = true := by decide +kernel
theorem w_tables : (allAtoms (Jvm.Cond.code x code maxLocals ret :: tables_1)).before args0 about1 = true := by
  rw [allAtoms_all]
  show words1.all (fun c => c.before args0 about1) = true
  refine all_split ?_ w_codes
  rw [← List.take_append_drop 24 words1, List.all_append, w_t1, ← List.take_append_drop 24 (words1.drop 24), List.all_append, w_t2, ← List.take_append_drop 24 ((words1.drop 24).drop 24), List.all_append, w_t3, w_t4]
  rfl
set_option maxRecDepth 65536 in
theorem w_case : (Jvm.Cond.and given_1 narrow_1).before args0 about1 = true := by decide +kernel
theorem w_applies : (headSpec (Jvm.Cond.code x code maxLocals ret :: tables_1) room_1).applies x e0.platform about1 = true :=
  (Spec.applies_iff w_frames).mpr ⟨w_running, w_runnable, w_alone, w_named, w_hears, w_ripe, w_room, w_tables⟩
theorem atStart : AtStart classFile x code maxLocals ret World_1 tables_1 room_1 Calls_1 rest_1 Pre_1 launch0 p0 e0 about1 theMethod args0 below0 :=
  ⟨lists_1, trivial, launch0.admits_env _ _ _, launch0.least_env, fairChoices_fair.cas, fairChoices_fair.clock, w_frames, w_args, w_heap, w_applies, trivial, trivial, w_case⟩
end start1
theorem witness_1 : WitnessClaimed_1 := ⟨start1.p0, start1.e0, start1.about1, start1.theMethod, start1.args0, start1.below0, start1.atStart⟩
end Jvm.Pilot.@@N@@
