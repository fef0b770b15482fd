import JvmDerived
import JvmDerived.Pilot.@@N@@Statement
import JvmDerived.Pilot.@@N@@Code
set_option linter.unusedVariables false
set_option linter.unusedSimpArgs false
namespace Jvm.Own
open Jvm Jvm.ClassFile Sem Op Lib Jvm.Free Jvm.Stand Jvm.LawKit Jvm.RoadKit
def b2i (b : Bool) : Int32 := if b then 1 else 0
theorem wd {ws : List Jvm.Cond} {a0 : Array Value} {Z : State} (hw : ∀ d ∈ ws, d.before a0 Z = true) (i : Nat) {d : Jvm.Cond} (h : ws[i]? = some d) : d.before a0 Z = true := hw d (List.mem_of_getElem? h)
/-- a contract of a body: from the heap h with these arguments it returns, writes nothing below n0, and Q holds of what it returns and of the heap -/
def Met (l : Launch) (Z : State) (y : MethodName) (bytes : ByteArray) (maxL : Nat) (ret : Option FieldType) (rm : Room) (as' : Array Value) (h : Heap) (n0 : Nat) (Q : Option Value → Heap → Prop) : Prop :=
  ∀ ws, MetFree l y (head1 (Jvm.Cond.code y bytes maxL ret :: ws) rm) (fun a U => a = as' ∧ Z.Warmed39 U.vm ∧ U.heap = h) (fun _ _ _ _ _ => True) (fun _ U o U' => ∃ v L, o = .returned v ∧ (Fr n0 L ∧ Q v U'.heap) ∧ ReturnedEndW U o U' L rm.cells rm.slots)
def Cx (p : Program) (s : State) (m : MethodId) (meth : Method) (c : Code) (Z : State) (y : MethodName) (bytes : ByteArray) (maxL : Nat) (ret : Option FieldType) : Prop :=
  p.tables.exec = Jvm.exec ∧ Z.Warmed39 s.vm ∧ s.vm.findClass y.cls = some m.cls ∧ meth.name = y.name ∧ c.code = bytes ∧ c.maxLocals = maxL ∧ meth.sig.returnType = ret ∧ meth.locks = false
def Ende (R : Room) (s : State) (below : List Frame) (n0 : Nat) (Q : Option Value → Heap → Prop) (h : Heap) (t : State) (o : Outcome) : Prop := t.status = .running ∧ Ended t below o ∧ ∃ v L, o = .returned v ∧ (Fr n0 L ∧ Q v t.heap) ∧ ReturnedEndW s o t L R.cells R.slots ∧ h.size ≤ t.heap.size
theorem Ende.up {R : Room} {s : State} {below : List Frame} {n0 : Nat} {Q : Option Value → Heap → Prop} {h h' : Heap} {t : State} {o : Outcome} (g : h.size ≤ h'.size) (F : Ende R s below n0 Q h' t o) : Ende R s below n0 Q h t o := by
  obtain ⟨r1, r2, v, L, r3, r4, r5, r6⟩ := F
  exact ⟨r1, r2, v, L, r3, r4, r5, Nat.le_trans g r6⟩
theorem Ende.back {R : Room} {s : State} {below : List Frame} {n0 : Nat} {Q : Option Value → Heap → Prop} {h h' : Heap} {t : State} {o : Outcome} {vm' : Vm} {k : Nat} (hS : s.Since vm' k) (hk : k ≤ h'.size) (g : h.size ≤ h'.size) (F : Ende R (s.setVm vm') below n0 Q h' t o) : Ende R s below n0 Q h t o := by
  obtain ⟨r1, r2, v, L, r3, r4, ⟨e1, e2, e3, e4⟩, r6⟩ := F
  have q : s.Since t.vm t.heap.size := hS.trans ⟨e2, e3⟩ (Nat.le_trans hk r6)
  exact ⟨r1, r2, v, L, r3, r4, ⟨e1, q.1, q.2, e4.setVm s.vm⟩, Nat.le_trans g r6⟩
def Go (p : Program) (l : Launch) (e : Env) (R : Room) (s : State) (m : MethodId) (args : Array Value) (below : List Frame) (meth : Method) (c : Code) (n0 : Nat) (Q : Option Value → Heap → Prop) (cells slots : Nat) (h : Heap) (f : JFrame) : Prop :=
  ∀ T locs, Stand p l e R s m args below meth c T locs cells slots → Fr n0 locs → T.heap = h → ∃ t o, Steps p.tables e below (T.setTop f) t ∧ Ende R s below n0 Q h t o
section
variable {p : Program} {l : Launch} {e : Env} {R : Room} {s : State} {m : MethodId} {args : Array Value} {below : List Frame} {meth : Method} {c : Code} {Z : State} {y : MethodName} {bytes : ByteArray} {maxL : Nat} {ret : Option FieldType} {n0 : Nat} {Q : Option Value → Heap → Prop} {cells slots : Nat} {h : Heap} {pc n n' : Nat} {Ls : Array Slot} {st : List Value} {a0 : Array Value}
theorem Cx.x (C : Cx p s m meth c Z y bytes maxL ret) : p.tables.exec = Jvm.exec := C.1
theorem Cx.z (C : Cx p s m meth c Z y bytes maxL ret) : Z.Warmed39 s.vm := C.2.1
theorem Cx.own (C : Cx p s m meth c Z y bytes maxL ret) : s.vm.findClass y.cls = some m.cls := C.2.2.1
theorem Cx.nm (C : Cx p s m meth c Z y bytes maxL ret) : meth.name = y.name := C.2.2.2.1
theorem Cx.by (C : Cx p s m meth c Z y bytes maxL ret) : c.code = bytes := C.2.2.2.2.1
theorem Cx.ml (C : Cx p s m meth c Z y bytes maxL ret) : c.maxLocals = maxL := C.2.2.2.2.2.1
theorem Cx.rt (C : Cx p s m meth c Z y bytes maxL ret) : meth.sig.returnType = ret := C.2.2.2.2.2.2.1
theorem Cx.locks (C : Cx p s m meth c Z y bytes maxL ret) : meth.locks = false := C.2.2.2.2.2.2.2
theorem Cx.move {vm' : Vm} (C : Cx p s m meth c Z y bytes maxL ret) (hW : s.Warmed39 vm') : Cx p (s.setVm vm') m meth c Z y bytes maxL ret :=
  ⟨C.1, State.Warmed39.trans (t := s) C.z hW, by show vm'.findClass y.cls = _; rw [hW.alike.findClass]; exact C.own, C.2.2.2⟩
theorem Met.of {rm : Room} {as' : Array Value} {Ls0 : Array Slot} (hp : plainFor y = true) (he : ∀ m, entryFrame m as' maxL = mkF m 0 Ls0 [])
    (body : ∀ p e s m args below meth c, Cx p s m meth c Z y bytes maxL ret → Go p l e rm s m args below meth c n0 Q 0 0 h (mkF m 0 Ls0 [])) : Met l Z y bytes maxL ret rm as' h n0 Q := by
  intro ws
  refine MetFree.of_bodySF hp hisR ?_
  intro p e s m args below meth c s₁ Bd hml0 hP hK
  obtain ⟨rfl, hZ, hh⟩ := hP
  have C : Cx p s m meth c Z y bytes maxL ret := ⟨Bd.exec, hZ, findClass_of_methodNamed Bd.named, (name_of_methodNamed Bd.named Bd.method).1, Bd.bytes, hml0, Bd.returns, Bd.notSynchronized⟩
  have X0 : Stand p l e rm s m args below meth c s₁ [] 0 0 := Stand.of_body Bd
  have e0 : s₁.heap = h := by rw [← hh, Bd.state]; rfl
  obtain ⟨t, o, st, r1, r2, v, L, r3, r4, r5, -⟩ := body p e s m args below meth c C s₁ [] X0 (Fr.nil n0) e0
  exact ⟨t, o, castTop (he m) st, r1, r2, v, L, r3, r4, r5⟩
theorem Met.weaken {rm : Room} {as' : Array Value} {Q' : Option Value → Heap → Prop} (M : Met l Z y bytes maxL ret rm as' h n0 Q) (q : ∀ v h', Q v h' → Q' v h') : Met l Z y bytes maxL ret rm as' h n0 Q' := by
  intro ws p e ha hc hk s m args below hf happ hP hK
  obtain ⟨n, o, h1, h2, h3, v, L, h4, h5, h6⟩ := M ws p e ha hc hk s m args below hf happ hP hK
  exact ⟨n, o, h1, h2, h3, v, L, h4, ⟨h5.1, q _ _ h5.2⟩, h6⟩
theorem Go.via {f f' : JFrame} (hs : ∀ T locs, Stand p l e R s m args below meth c T locs cells slots → T.heap = h → ∀ t, Steps p.tables e below (T.setTop f') t → Steps p.tables e below (T.setTop f) t)
    (k : Go p l e R s m args below meth c n0 Q cells slots h f') : Go p l e R s m args below meth c n0 Q cells slots h f := fun T locs X N q => by
  obtain ⟨t, o, st, r⟩ := k T locs X N q
  exact ⟨t, o, hs T locs X q t st, r⟩
theorem Go.mono {f : JFrame} {cells' slots' : Nat} (h1 : cells ≤ cells') (h2 : slots ≤ slots') (k : Go p l e R s m args below meth c n0 Q cells' slots' h f) : Go p l e R s m args below meth c n0 Q cells slots h f := fun T locs X N q =>
  k T locs ⟨X.admits, X.cas, X.clock, X.frames, X.room, X.hears, X.method, X.code, X.here, X.tail, X.warmed, X.limits, X.bytes, X.same.mono h1 h2⟩ N q
theorem Go.cast {f f' : JFrame} (q : f = f') (k : Go p l e R s m args below meth c n0 Q cells slots h f') : Go p l e R s m args below meth c n0 Q cells slots h f := q ▸ k

theorem G.iadd (C : Cx p s m meth c Z y bytes maxL ret) {x1 x2 : Int32} (hd : decode bytes pc = .ok (.iadd, 1))  (hn : pc + 1 = n) (k : Go p l e R s m args below meth c n0 Q cells slots h (mkF m n Ls (.int (x1 + x2) :: st))) : Go p l e R s m args below meth c n0 Q cells slots h (mkF m pc Ls (.int x2 :: .int x1 :: st)) := by
  subst hn
  exact Go.via (fun T locs X _ t q => XS.iadd X.here C.x rfl (hb C.by hd) rfl q) k
theorem G.isub (C : Cx p s m meth c Z y bytes maxL ret) {x1 x2 : Int32} (hd : decode bytes pc = .ok (.isub, 1))  (hn : pc + 1 = n) (k : Go p l e R s m args below meth c n0 Q cells slots h (mkF m n Ls (.int (x1 - x2) :: st))) : Go p l e R s m args below meth c n0 Q cells slots h (mkF m pc Ls (.int x2 :: .int x1 :: st)) := by
  subst hn
  exact Go.via (fun T locs X _ t q => XS.isub X.here C.x rfl (hb C.by hd) rfl q) k
theorem G.imul (C : Cx p s m meth c Z y bytes maxL ret) {x1 x2 : Int32} (hd : decode bytes pc = .ok (.imul, 1))  (hn : pc + 1 = n) (k : Go p l e R s m args below meth c n0 Q cells slots h (mkF m n Ls (.int (x1 * x2) :: st))) : Go p l e R s m args below meth c n0 Q cells slots h (mkF m pc Ls (.int x2 :: .int x1 :: st)) := by
  subst hn
  exact Go.via (fun T locs X _ t q => XS.imul X.here C.x rfl (hb C.by hd) rfl q) k
theorem G.iand (C : Cx p s m meth c Z y bytes maxL ret) {x1 x2 : Int32} (hd : decode bytes pc = .ok (.iand, 1))  (hn : pc + 1 = n) (k : Go p l e R s m args below meth c n0 Q cells slots h (mkF m n Ls (.int (x1 &&& x2) :: st))) : Go p l e R s m args below meth c n0 Q cells slots h (mkF m pc Ls (.int x2 :: .int x1 :: st)) := by
  subst hn
  exact Go.via (fun T locs X _ t q => XS.iand X.here C.x rfl (hb C.by hd) rfl q) k
theorem G.ior (C : Cx p s m meth c Z y bytes maxL ret) {x1 x2 : Int32} (hd : decode bytes pc = .ok (.ior, 1))  (hn : pc + 1 = n) (k : Go p l e R s m args below meth c n0 Q cells slots h (mkF m n Ls (.int (x1 ||| x2) :: st))) : Go p l e R s m args below meth c n0 Q cells slots h (mkF m pc Ls (.int x2 :: .int x1 :: st)) := by
  subst hn
  exact Go.via (fun T locs X _ t q => XS.ior X.here C.x rfl (hb C.by hd) rfl q) k
theorem G.ixor (C : Cx p s m meth c Z y bytes maxL ret) {x1 x2 : Int32} (hd : decode bytes pc = .ok (.ixor, 1))  (hn : pc + 1 = n) (k : Go p l e R s m args below meth c n0 Q cells slots h (mkF m n Ls (.int (x1 ^^^ x2) :: st))) : Go p l e R s m args below meth c n0 Q cells slots h (mkF m pc Ls (.int x2 :: .int x1 :: st)) := by
  subst hn
  exact Go.via (fun T locs X _ t q => XS.ixor X.here C.x rfl (hb C.by hd) rfl q) k
theorem G.ladd (C : Cx p s m meth c Z y bytes maxL ret) {x1 x2 : Int64} (hd : decode bytes pc = .ok (.ladd, 1))  (hn : pc + 1 = n) (k : Go p l e R s m args below meth c n0 Q cells slots h (mkF m n Ls (.long (x1 + x2) :: st))) : Go p l e R s m args below meth c n0 Q cells slots h (mkF m pc Ls (.long x2 :: .long x1 :: st)) := by
  subst hn
  exact Go.via (fun T locs X _ t q => XS.ladd X.here C.x rfl (hb C.by hd) rfl q) k
theorem G.lsub (C : Cx p s m meth c Z y bytes maxL ret) {x1 x2 : Int64} (hd : decode bytes pc = .ok (.lsub, 1))  (hn : pc + 1 = n) (k : Go p l e R s m args below meth c n0 Q cells slots h (mkF m n Ls (.long (x1 - x2) :: st))) : Go p l e R s m args below meth c n0 Q cells slots h (mkF m pc Ls (.long x2 :: .long x1 :: st)) := by
  subst hn
  exact Go.via (fun T locs X _ t q => XS.lsub X.here C.x rfl (hb C.by hd) rfl q) k
theorem G.lmul (C : Cx p s m meth c Z y bytes maxL ret) {x1 x2 : Int64} (hd : decode bytes pc = .ok (.lmul, 1))  (hn : pc + 1 = n) (k : Go p l e R s m args below meth c n0 Q cells slots h (mkF m n Ls (.long (x1 * x2) :: st))) : Go p l e R s m args below meth c n0 Q cells slots h (mkF m pc Ls (.long x2 :: .long x1 :: st)) := by
  subst hn
  exact Go.via (fun T locs X _ t q => XS.lmul X.here C.x rfl (hb C.by hd) rfl q) k
theorem G.land (C : Cx p s m meth c Z y bytes maxL ret) {x1 x2 : Int64} (hd : decode bytes pc = .ok (.land, 1))  (hn : pc + 1 = n) (k : Go p l e R s m args below meth c n0 Q cells slots h (mkF m n Ls (.long (x1 &&& x2) :: st))) : Go p l e R s m args below meth c n0 Q cells slots h (mkF m pc Ls (.long x2 :: .long x1 :: st)) := by
  subst hn
  exact Go.via (fun T locs X _ t q => XS.land X.here C.x rfl (hb C.by hd) rfl q) k
theorem G.lor (C : Cx p s m meth c Z y bytes maxL ret) {x1 x2 : Int64} (hd : decode bytes pc = .ok (.lor, 1))  (hn : pc + 1 = n) (k : Go p l e R s m args below meth c n0 Q cells slots h (mkF m n Ls (.long (x1 ||| x2) :: st))) : Go p l e R s m args below meth c n0 Q cells slots h (mkF m pc Ls (.long x2 :: .long x1 :: st)) := by
  subst hn
  exact Go.via (fun T locs X _ t q => XS.lor X.here C.x rfl (hb C.by hd) rfl q) k
theorem G.lxor (C : Cx p s m meth c Z y bytes maxL ret) {x1 x2 : Int64} (hd : decode bytes pc = .ok (.lxor, 1))  (hn : pc + 1 = n) (k : Go p l e R s m args below meth c n0 Q cells slots h (mkF m n Ls (.long (x1 ^^^ x2) :: st))) : Go p l e R s m args below meth c n0 Q cells slots h (mkF m pc Ls (.long x2 :: .long x1 :: st)) := by
  subst hn
  exact Go.via (fun T locs X _ t q => XS.lxor X.here C.x rfl (hb C.by hd) rfl q) k
theorem G.idiv (C : Cx p s m meth c Z y bytes maxL ret) {x1 x2 : Int32} (hd : decode bytes pc = .ok (.idiv, 1)) (hy : x2 ≠ 0) (hn : pc + 1 = n) (k : Go p l e R s m args below meth c n0 Q cells slots h (mkF m n Ls (.int (x1 / x2) :: st))) : Go p l e R s m args below meth c n0 Q cells slots h (mkF m pc Ls (.int x2 :: .int x1 :: st)) := by
  subst hn
  exact Go.via (fun T locs X _ t q => XS.idiv X.here C.x rfl (hb C.by hd) rfl hy q) k
theorem G.ishl (C : Cx p s m meth c Z y bytes maxL ret) {x1 x2 : Int32} (hd : decode bytes pc = .ok (.ishl, 1))  (hn : pc + 1 = n) (k : Go p l e R s m args below meth c n0 Q cells slots h (mkF m n Ls (.int (x1 <<< (x2 &&& 31)) :: st))) : Go p l e R s m args below meth c n0 Q cells slots h (mkF m pc Ls (.int x2 :: .int x1 :: st)) := by
  subst hn
  exact Go.via (fun T locs X _ t q => XS.ishl X.here C.x rfl (hb C.by hd) rfl q) k
theorem G.ishr (C : Cx p s m meth c Z y bytes maxL ret) {x1 x2 : Int32} (hd : decode bytes pc = .ok (.ishr, 1))  (hn : pc + 1 = n) (k : Go p l e R s m args below meth c n0 Q cells slots h (mkF m n Ls (.int (x1 >>> (x2 &&& 31)) :: st))) : Go p l e R s m args below meth c n0 Q cells slots h (mkF m pc Ls (.int x2 :: .int x1 :: st)) := by
  subst hn
  exact Go.via (fun T locs X _ t q => XS.ishr X.here C.x rfl (hb C.by hd) rfl q) k
theorem G.iushr (C : Cx p s m meth c Z y bytes maxL ret) {x1 x2 : Int32} (hd : decode bytes pc = .ok (.iushr, 1))  (hn : pc + 1 = n) (k : Go p l e R s m args below meth c n0 Q cells slots h (mkF m n Ls (.int ((x1.toUInt32 >>> (x2 &&& 31).toUInt32).toInt32) :: st))) : Go p l e R s m args below meth c n0 Q cells slots h (mkF m pc Ls (.int x2 :: .int x1 :: st)) := by
  subst hn
  exact Go.via (fun T locs X _ t q => XS.iushr X.here C.x rfl (hb C.by hd) rfl q) k
theorem G.irem (C : Cx p s m meth c Z y bytes maxL ret) {x1 x2 : Int32} (hd : decode bytes pc = .ok (.irem, 1)) (hy : x2 ≠ 0) (hn : pc + 1 = n) (k : Go p l e R s m args below meth c n0 Q cells slots h (mkF m n Ls (.int (x1 % x2) :: st))) : Go p l e R s m args below meth c n0 Q cells slots h (mkF m pc Ls (.int x2 :: .int x1 :: st)) := by
  subst hn
  exact Go.via (fun T locs X _ t q => iremM X C.x rfl (hb C.by hd) rfl hy q) k
theorem G.ldiv (C : Cx p s m meth c Z y bytes maxL ret) {x1 x2 : Int64} (hd : decode bytes pc = .ok (.ldiv, 1)) (hy : x2 ≠ 0) (hn : pc + 1 = n) (k : Go p l e R s m args below meth c n0 Q cells slots h (mkF m n Ls (.long (x1 / x2) :: st))) : Go p l e R s m args below meth c n0 Q cells slots h (mkF m pc Ls (.long x2 :: .long x1 :: st)) := by
  subst hn
  exact Go.via (fun T locs X _ t q => XS.ldiv X.here C.x rfl (hb C.by hd) rfl hy q) k
theorem G.lrem (C : Cx p s m meth c Z y bytes maxL ret) {x1 x2 : Int64} (hd : decode bytes pc = .ok (.lrem, 1)) (hy : x2 ≠ 0) (hn : pc + 1 = n) (k : Go p l e R s m args below meth c n0 Q cells slots h (mkF m n Ls (.long (x1 - (x1 / x2) * x2) :: st))) : Go p l e R s m args below meth c n0 Q cells slots h (mkF m pc Ls (.long x2 :: .long x1 :: st)) := by
  subst hn
  exact Go.via (fun T locs X _ t q => XS.lrem X.here C.x rfl (hb C.by hd) rfl hy q) k
theorem G.lshl (C : Cx p s m meth c Z y bytes maxL ret) {x1 : Int64} {x2 : Int32} (hd : decode bytes pc = .ok (.lshl, 1))  (hn : pc + 1 = n) (k : Go p l e R s m args below meth c n0 Q cells slots h (mkF m n Ls (.long (x1 <<< (x2 &&& 0x3f).toInt64) :: st))) : Go p l e R s m args below meth c n0 Q cells slots h (mkF m pc Ls (.int x2 :: .long x1 :: st)) := by
  subst hn
  exact Go.via (fun T locs X _ t q => XS.lshl X.here C.x rfl (hb C.by hd) rfl q) k
theorem G.lshr (C : Cx p s m meth c Z y bytes maxL ret) {x1 : Int64} {x2 : Int32} (hd : decode bytes pc = .ok (.lshr, 1))  (hn : pc + 1 = n) (k : Go p l e R s m args below meth c n0 Q cells slots h (mkF m n Ls (.long (x1 >>> (x2 &&& 0x3f).toInt64) :: st))) : Go p l e R s m args below meth c n0 Q cells slots h (mkF m pc Ls (.int x2 :: .long x1 :: st)) := by
  subst hn
  exact Go.via (fun T locs X _ t q => XS.lshr X.here C.x rfl (hb C.by hd) rfl q) k
theorem G.lushr (C : Cx p s m meth c Z y bytes maxL ret) {x1 : Int64} {x2 : Int32} (hd : decode bytes pc = .ok (.lushr, 1))  (hn : pc + 1 = n) (k : Go p l e R s m args below meth c n0 Q cells slots h (mkF m n Ls (.long ((x1.toUInt64 >>> (x2 &&& 0x3f).toInt64.toUInt64).toInt64) :: st))) : Go p l e R s m args below meth c n0 Q cells slots h (mkF m pc Ls (.int x2 :: .long x1 :: st)) := by
  subst hn
  exact Go.via (fun T locs X _ t q => XS.lushr X.here C.x rfl (hb C.by hd) rfl q) k
theorem G.ineg (C : Cx p s m meth c Z y bytes maxL ret) {x : Int32} (hd : decode bytes pc = .ok (.ineg, 1))  (hn : pc + 1 = n) (k : Go p l e R s m args below meth c n0 Q cells slots h (mkF m n Ls (.int (-x) :: st))) : Go p l e R s m args below meth c n0 Q cells slots h (mkF m pc Ls (.int x :: st)) := by
  subst hn
  exact Go.via (fun T locs X _ t q => XS.ineg X.here C.x rfl (hb C.by hd) rfl q) k
theorem G.lneg (C : Cx p s m meth c Z y bytes maxL ret) {x : Int64} (hd : decode bytes pc = .ok (.lneg, 1))  (hn : pc + 1 = n) (k : Go p l e R s m args below meth c n0 Q cells slots h (mkF m n Ls (.long (-x) :: st))) : Go p l e R s m args below meth c n0 Q cells slots h (mkF m pc Ls (.long x :: st)) := by
  subst hn
  exact Go.via (fun T locs X _ t q => XS.lneg X.here C.x rfl (hb C.by hd) rfl q) k
theorem G.i2l (C : Cx p s m meth c Z y bytes maxL ret) {x : Int32} (hd : decode bytes pc = .ok (.i2l, 1))  (hn : pc + 1 = n) (k : Go p l e R s m args below meth c n0 Q cells slots h (mkF m n Ls (.long (x.toInt64) :: st))) : Go p l e R s m args below meth c n0 Q cells slots h (mkF m pc Ls (.int x :: st)) := by
  subst hn
  exact Go.via (fun T locs X _ t q => XS.i2l X.here C.x rfl (hb C.by hd) rfl q) k
theorem G.l2i (C : Cx p s m meth c Z y bytes maxL ret) {x : Int64} (hd : decode bytes pc = .ok (.l2i, 1))  (hn : pc + 1 = n) (k : Go p l e R s m args below meth c n0 Q cells slots h (mkF m n Ls (.int (x.toInt32) :: st))) : Go p l e R s m args below meth c n0 Q cells slots h (mkF m pc Ls (.long x :: st)) := by
  subst hn
  exact Go.via (fun T locs X _ t q => XS.l2i X.here C.x rfl (hb C.by hd) rfl q) k
theorem G.i2b (C : Cx p s m meth c Z y bytes maxL ret) {x : Int32} (hd : decode bytes pc = .ok (.i2b, 1))  (hn : pc + 1 = n) (k : Go p l e R s m args below meth c n0 Q cells slots h (mkF m n Ls (.int (x.toInt8.toInt32) :: st))) : Go p l e R s m args below meth c n0 Q cells slots h (mkF m pc Ls (.int x :: st)) := by
  subst hn
  exact Go.via (fun T locs X _ t q => XS.i2b X.here C.x rfl (hb C.by hd) rfl q) k
theorem G.i2s (C : Cx p s m meth c Z y bytes maxL ret) {x : Int32} (hd : decode bytes pc = .ok (.i2s, 1))  (hn : pc + 1 = n) (k : Go p l e R s m args below meth c n0 Q cells slots h (mkF m n Ls (.int (x.toInt16.toInt32) :: st))) : Go p l e R s m args below meth c n0 Q cells slots h (mkF m pc Ls (.int x :: st)) := by
  subst hn
  exact Go.via (fun T locs X _ t q => XS.i2s X.here C.x rfl (hb C.by hd) rfl q) k
theorem G.i2c (C : Cx p s m meth c Z y bytes maxL ret) {x : Int32} (hd : decode bytes pc = .ok (.i2c, 1))  (hn : pc + 1 = n) (k : Go p l e R s m args below meth c n0 Q cells slots h (mkF m n Ls (.int (x.toUInt32.toUInt16.toUInt32.toInt32) :: st))) : Go p l e R s m args below meth c n0 Q cells slots h (mkF m pc Ls (.int x :: st)) := by
  subst hn
  exact Go.via (fun T locs X _ t q => XS.i2c X.here C.x rfl (hb C.by hd) rfl q) k
theorem G.iconst (C : Cx p s m meth c Z y bytes maxL ret) {i : Int} (v : Int32) (hd : decode bytes pc = .ok (.iconst i, 1)) (hv : Int32.ofInt i = v) (hn : pc + 1 = n) (k : Go p l e R s m args below meth c n0 Q cells slots h (mkF m n Ls (.int v :: st))) : Go p l e R s m args below meth c n0 Q cells slots h (mkF m pc Ls (st)) := by
  subst hn hv
  exact Go.via (fun T locs X _ t q => XS.iconst X.here C.x rfl (hb C.by hd)  q) k
theorem G.bipush (C : Cx p s m meth c Z y bytes maxL ret) {i : Int} (v : Int32) (hd : decode bytes pc = .ok (.bipush i, 2)) (hv : (Int8.ofInt i).toInt32 = v) (hn : pc + 2 = n) (k : Go p l e R s m args below meth c n0 Q cells slots h (mkF m n Ls (.int v :: st))) : Go p l e R s m args below meth c n0 Q cells slots h (mkF m pc Ls (st)) := by
  subst hn hv
  exact Go.via (fun T locs X _ t q => XS.bipush X.here C.x rfl (hb C.by hd)  q) k
theorem G.sipush (C : Cx p s m meth c Z y bytes maxL ret) {i : Int} (v : Int32) (hd : decode bytes pc = .ok (.sipush i, 3)) (hv : (Int16.ofInt i).toInt32 = v) (hn : pc + 3 = n) (k : Go p l e R s m args below meth c n0 Q cells slots h (mkF m n Ls (.int v :: st))) : Go p l e R s m args below meth c n0 Q cells slots h (mkF m pc Ls (st)) := by
  subst hn hv
  exact Go.via (fun T locs X _ t q => XS.sipush X.here C.x rfl (hb C.by hd)  q) k
theorem G.lconst (C : Cx p s m meth c Z y bytes maxL ret) {i : Fin 2} (v : Int64) (hd : decode bytes pc = .ok (.lconst i, 1)) (hv : Int64.ofNat i = v) (hn : pc + 1 = n) (k : Go p l e R s m args below meth c n0 Q cells slots h (mkF m n Ls (.long v :: st))) : Go p l e R s m args below meth c n0 Q cells slots h (mkF m pc Ls (st)) := by
  subst hn hv
  exact Go.via (fun T locs X _ t q => XS.lconst X.here C.x rfl (hb C.by hd)  q) k
theorem G.aconst_null (C : Cx p s m meth c Z y bytes maxL ret)  (hd : decode bytes pc = .ok (.aconst_null, 1))  (hn : pc + 1 = n) (k : Go p l e R s m args below meth c n0 Q cells slots h (mkF m n Ls (.null :: st))) : Go p l e R s m args below meth c n0 Q cells slots h (mkF m pc Ls (st)) := by
  subst hn
  exact Go.via (fun T locs X _ t q => XS.aconstNull X.here C.x rfl (hb C.by hd)  q) k
theorem G.iload (C : Cx p s m meth c Z y bytes maxL ret) {k : Nat} {v : Int32} (hd : decode bytes pc = .ok (.iload k, 2)) (hl : Ls[k]? = some (.val (.int v)))  (hn : pc + 2 = n) (k : Go p l e R s m args below meth c n0 Q cells slots h (mkF m n Ls (.int v :: st))) : Go p l e R s m args below meth c n0 Q cells slots h (mkF m pc Ls (st)) := by
  subst hn
  exact Go.via (fun T locs X _ t q => XS.iload X.here C.x rfl (hb C.by hd) hl q) k
theorem G.iloadN (C : Cx p s m meth c Z y bytes maxL ret) {k : Fin 4} {v : Int32} (hd : decode bytes pc = .ok (.iload_n k, 1)) (hl : Ls[k.val]? = some (.val (.int v)))  (hn : pc + 1 = n) (k : Go p l e R s m args below meth c n0 Q cells slots h (mkF m n Ls (.int v :: st))) : Go p l e R s m args below meth c n0 Q cells slots h (mkF m pc Ls (st)) := by
  subst hn
  exact Go.via (fun T locs X _ t q => XS.iloadN X.here C.x rfl (hb C.by hd) hl q) k
theorem G.lload (C : Cx p s m meth c Z y bytes maxL ret) {k : Nat} {v : Int64} (hd : decode bytes pc = .ok (.lload k, 2)) (hl : Ls[k]? = some (.val (.long v)))  (hn : pc + 2 = n) (k : Go p l e R s m args below meth c n0 Q cells slots h (mkF m n Ls (.long v :: st))) : Go p l e R s m args below meth c n0 Q cells slots h (mkF m pc Ls (st)) := by
  subst hn
  exact Go.via (fun T locs X _ t q => XS.lload X.here C.x rfl (hb C.by hd) hl q) k
theorem G.lloadN (C : Cx p s m meth c Z y bytes maxL ret) {k : Fin 4} {v : Int64} (hd : decode bytes pc = .ok (.lload_n k, 1)) (hl : Ls[k.val]? = some (.val (.long v)))  (hn : pc + 1 = n) (k : Go p l e R s m args below meth c n0 Q cells slots h (mkF m n Ls (.long v :: st))) : Go p l e R s m args below meth c n0 Q cells slots h (mkF m pc Ls (st)) := by
  subst hn
  exact Go.via (fun T locs X _ t q => XS.lloadN X.here C.x rfl (hb C.by hd) hl q) k
theorem G.aload (C : Cx p s m meth c Z y bytes maxL ret) {k : Nat} {v : Value} (hd : decode bytes pc = .ok (.aload k, 2)) (hl : Ls[k]? = some (.val (v))) (hv : v.isRef = true) (hn : pc + 2 = n) (k : Go p l e R s m args below meth c n0 Q cells slots h (mkF m n Ls (v :: st))) : Go p l e R s m args below meth c n0 Q cells slots h (mkF m pc Ls (st)) := by
  subst hn
  exact Go.via (fun T locs X _ t q => XS.aload X.here C.x rfl (hb C.by hd) hl hv q) k
theorem G.aloadN (C : Cx p s m meth c Z y bytes maxL ret) {k : Fin 4} {v : Value} (hd : decode bytes pc = .ok (.aload_n k, 1)) (hl : Ls[k.val]? = some (.val (v))) (hv : v.isRef = true) (hn : pc + 1 = n) (k : Go p l e R s m args below meth c n0 Q cells slots h (mkF m n Ls (v :: st))) : Go p l e R s m args below meth c n0 Q cells slots h (mkF m pc Ls (st)) := by
  subst hn
  exact Go.via (fun T locs X _ t q => XS.aloadN X.here C.x rfl (hb C.by hd) hl hv q) k
theorem G.istore (C : Cx p s m meth c Z y bytes maxL ret) {k : Nat} {x : Int32} {l' : Array Slot} (hd : decode bytes pc = .ok (.istore k, 2))  (hl : storeLocals Ls k (.int x) = some l') (hn : pc + 2 = n) (kk : Go p l e R s m args below meth c n0 Q cells slots h (mkF m n l' (st))) : Go p l e R s m args below meth c n0 Q cells slots h (mkF m pc Ls (.int x :: st)) := by
  subst hn
  exact Go.via (fun T locs X _ t q => XS.istore X.here C.x rfl (hb C.by hd) rfl hl q) kk
theorem G.istoreZ (C : Cx p s m meth c Z y bytes maxL ret) {k : Nat} {x : Int32} {l' : Int32 → Array Slot} (hd : decode bytes pc = .ok (.istore k, 2)) (hl : ∀ z, storeLocals Ls k (.int z) = some (l' z)) (hn : pc + 2 = n) (kk : ∀ z, z = x → Go p l e R s m args below meth c n0 Q cells slots h (mkF m n (l' z) (st))) : Go p l e R s m args below meth c n0 Q cells slots h (mkF m pc Ls (.int x :: st)) :=
  G.istore C hd (hl x) hn (kk x rfl)
theorem G.istoreN (C : Cx p s m meth c Z y bytes maxL ret) {k : Fin 4} {x : Int32} {l' : Array Slot} (hd : decode bytes pc = .ok (.istore_n k, 1))  (hl : storeLocals Ls k.val (.int x) = some l') (hn : pc + 1 = n) (kk : Go p l e R s m args below meth c n0 Q cells slots h (mkF m n l' (st))) : Go p l e R s m args below meth c n0 Q cells slots h (mkF m pc Ls (.int x :: st)) := by
  subst hn
  exact Go.via (fun T locs X _ t q => XS.istoreN X.here C.x rfl (hb C.by hd) rfl hl q) kk
theorem G.istoreNZ (C : Cx p s m meth c Z y bytes maxL ret) {k : Fin 4} {x : Int32} {l' : Int32 → Array Slot} (hd : decode bytes pc = .ok (.istore_n k, 1)) (hl : ∀ z, storeLocals Ls k.val (.int z) = some (l' z)) (hn : pc + 1 = n) (kk : ∀ z, z = x → Go p l e R s m args below meth c n0 Q cells slots h (mkF m n (l' z) (st))) : Go p l e R s m args below meth c n0 Q cells slots h (mkF m pc Ls (.int x :: st)) :=
  G.istoreN C hd (hl x) hn (kk x rfl)
theorem G.lstore (C : Cx p s m meth c Z y bytes maxL ret) {k : Nat} {x : Int64} {l' : Array Slot} (hd : decode bytes pc = .ok (.lstore k, 2))  (hl : storeLocals Ls k (.long x) = some l') (hn : pc + 2 = n) (kk : Go p l e R s m args below meth c n0 Q cells slots h (mkF m n l' (st))) : Go p l e R s m args below meth c n0 Q cells slots h (mkF m pc Ls (.long x :: st)) := by
  subst hn
  exact Go.via (fun T locs X _ t q => XS.lstore X.here C.x rfl (hb C.by hd) rfl hl q) kk
theorem G.lstoreZ (C : Cx p s m meth c Z y bytes maxL ret) {k : Nat} {x : Int64} {l' : Int64 → Array Slot} (hd : decode bytes pc = .ok (.lstore k, 2)) (hl : ∀ z, storeLocals Ls k (.long z) = some (l' z)) (hn : pc + 2 = n) (kk : ∀ z, z = x → Go p l e R s m args below meth c n0 Q cells slots h (mkF m n (l' z) (st))) : Go p l e R s m args below meth c n0 Q cells slots h (mkF m pc Ls (.long x :: st)) :=
  G.lstore C hd (hl x) hn (kk x rfl)
theorem G.lstoreN (C : Cx p s m meth c Z y bytes maxL ret) {k : Fin 4} {x : Int64} {l' : Array Slot} (hd : decode bytes pc = .ok (.lstore_n k, 1))  (hl : storeLocals Ls k.val (.long x) = some l') (hn : pc + 1 = n) (kk : Go p l e R s m args below meth c n0 Q cells slots h (mkF m n l' (st))) : Go p l e R s m args below meth c n0 Q cells slots h (mkF m pc Ls (.long x :: st)) := by
  subst hn
  exact Go.via (fun T locs X _ t q => XS.lstoreN X.here C.x rfl (hb C.by hd) rfl hl q) kk
theorem G.lstoreNZ (C : Cx p s m meth c Z y bytes maxL ret) {k : Fin 4} {x : Int64} {l' : Int64 → Array Slot} (hd : decode bytes pc = .ok (.lstore_n k, 1)) (hl : ∀ z, storeLocals Ls k.val (.long z) = some (l' z)) (hn : pc + 1 = n) (kk : ∀ z, z = x → Go p l e R s m args below meth c n0 Q cells slots h (mkF m n (l' z) (st))) : Go p l e R s m args below meth c n0 Q cells slots h (mkF m pc Ls (.long x :: st)) :=
  G.lstoreN C hd (hl x) hn (kk x rfl)
theorem G.astore (C : Cx p s m meth c Z y bytes maxL ret) {k : Nat} {x : Value} {l' : Array Slot} (hd : decode bytes pc = .ok (.astore k, 2)) (hv : x.isRef = true) (hl : storeLocals Ls k (x) = some l') (hn : pc + 2 = n) (kk : Go p l e R s m args below meth c n0 Q cells slots h (mkF m n l' (st))) : Go p l e R s m args below meth c n0 Q cells slots h (mkF m pc Ls (x :: st)) := by
  subst hn
  exact Go.via (fun T locs X _ t q => XS.astore X.here C.x rfl (hb C.by hd) rfl hv hl q) kk
theorem G.astoreN (C : Cx p s m meth c Z y bytes maxL ret) {k : Fin 4} {x : Value} {l' : Array Slot} (hd : decode bytes pc = .ok (.astore_n k, 1)) (hv : x.isRef = true) (hl : storeLocals Ls k.val (x) = some l') (hn : pc + 1 = n) (kk : Go p l e R s m args below meth c n0 Q cells slots h (mkF m n l' (st))) : Go p l e R s m args below meth c n0 Q cells slots h (mkF m pc Ls (x :: st)) := by
  subst hn
  exact Go.via (fun T locs X _ t q => XS.astoreN X.here C.x rfl (hb C.by hd) rfl hv hl q) kk
theorem G.iinc (C : Cx p s m meth c Z y bytes maxL ret) {k : Nat} {cst : Int} (v : Int32) {x : Int32} {l' : Array Slot} (hd : decode bytes pc = .ok (.iinc k cst, 3)) (hv : Int32.ofInt cst = v) (hx : Ls[k]? = some (.val (.int x))) (hl : storeLocals Ls k (.int (x + v)) = some l') (hn : pc + 3 = n) (kk : Go p l e R s m args below meth c n0 Q cells slots h (mkF m n l' (st))) : Go p l e R s m args below meth c n0 Q cells slots h (mkF m pc Ls (st)) := by
  subst hn hv
  exact Go.via (fun T locs X _ t q => XS.iinc X.here C.x rfl (hb C.by hd) hx hl q) kk
theorem G.iincZ (C : Cx p s m meth c Z y bytes maxL ret) {k : Nat} {cst : Int} (v : Int32) {x : Int32} {l' : Int32 → Array Slot} (hd : decode bytes pc = .ok (.iinc k cst, 3)) (hv : Int32.ofInt cst = v) (hx : Ls[k]? = some (.val (.int x))) (hl : ∀ z, storeLocals Ls k (.int z) = some (l' z)) (hn : pc + 3 = n) (kk : ∀ z, z = x + v → Go p l e R s m args below meth c n0 Q cells slots h (mkF m n (l' z) (st))) : Go p l e R s m args below meth c n0 Q cells slots h (mkF m pc Ls (st)) :=
  G.iinc C v hd hv hx (hl _) hn (kk _ rfl)
theorem G.iincK (C : Cx p s m meth c Z y bytes maxL ret) {k : Nat} {cst : Int} (v : Int32) {x : Int32} (z : Int32) {l' : Array Slot} (hd : decode bytes pc = .ok (.iinc k cst, 3)) (hv : Int32.ofInt cst = v) (hx : Ls[k]? = some (.val (.int x))) (hz : x + v = z) (hl : storeLocals Ls k (.int z) = some l') (hn : pc + 3 = n) (kk : Go p l e R s m args below meth c n0 Q cells slots h (mkF m n l' (st))) : Go p l e R s m args below meth c n0 Q cells slots h (mkF m pc Ls (st)) := by
  subst hz
  exact G.iinc C v hd hv hx hl hn kk
theorem G.name_int {x : Int32} (kk : ∀ z, z = x → Go p l e R s m args below meth c n0 Q cells slots h (mkF m pc Ls (.int z :: st))) : Go p l e R s m args below meth c n0 Q cells slots h (mkF m pc Ls (.int x :: st)) := kk x rfl
theorem G.name_long {x : Int64} (kk : ∀ z, z = x → Go p l e R s m args below meth c n0 Q cells slots h (mkF m pc Ls (.long z :: st))) : Go p l e R s m args below meth c n0 Q cells slots h (mkF m pc Ls (.long x :: st)) := kk x rfl
theorem G.fold_int {x z : Int32} (hz : x = z) (kk : Go p l e R s m args below meth c n0 Q cells slots h (mkF m pc Ls (.int z :: st))) : Go p l e R s m args below meth c n0 Q cells slots h (mkF m pc Ls (.int x :: st)) := hz ▸ kk
theorem G.fold_long {x z : Int64} (hz : x = z) (kk : Go p l e R s m args below meth c n0 Q cells slots h (mkF m pc Ls (.long z :: st))) : Go p l e R s m args below meth c n0 Q cells slots h (mkF m pc Ls (.long x :: st)) := hz ▸ kk
theorem G.dup (C : Cx p s m meth c Z y bytes maxL ret) {x : Value} (hd : decode bytes pc = .ok (.dup, 1)) (hc : x.category = 1) (hn : pc + 1 = n) (k : Go p l e R s m args below meth c n0 Q cells slots h (mkF m n Ls (x :: x :: st))) : Go p l e R s m args below meth c n0 Q cells slots h (mkF m pc Ls (x :: st)) := by
  subst hn
  exact Go.via (fun T locs X _ t q => XS.dup X.here C.x rfl (hb C.by hd) rfl hc q) k
theorem G.pop (C : Cx p s m meth c Z y bytes maxL ret) {x : Value} (hd : decode bytes pc = .ok (.pop, 1)) (hc : x.category = 1) (hn : pc + 1 = n) (k : Go p l e R s m args below meth c n0 Q cells slots h (mkF m n Ls (st))) : Go p l e R s m args below meth c n0 Q cells slots h (mkF m pc Ls (x :: st)) := by
  subst hn
  exact Go.via (fun T locs X _ t q => XS.pop X.here C.x rfl (hb C.by hd) rfl hc q) k
theorem G.dup_x1 (C : Cx p s m meth c Z y bytes maxL ret) {x x2 : Value} (hd : decode bytes pc = .ok (.dup_x1, 1)) (hc : x.category = 1) (hc2 : x2.category = 1) (hn : pc + 1 = n) (k : Go p l e R s m args below meth c n0 Q cells slots h (mkF m n Ls (x :: x2 :: x :: st))) : Go p l e R s m args below meth c n0 Q cells slots h (mkF m pc Ls (x :: x2 :: st)) := by
  subst hn
  exact Go.via (fun T locs X _ t q => XS.dupX1 X.here C.x rfl (hb C.by hd) rfl hc hc2 q) k
theorem G.dup2 (C : Cx p s m meth c Z y bytes maxL ret) {x x2 : Value} (hd : decode bytes pc = .ok (.dup2, 1)) (hc : x.category = 1) (hc2 : x2.category = 1) (hn : pc + 1 = n) (k : Go p l e R s m args below meth c n0 Q cells slots h (mkF m n Ls (x :: x2 :: x :: x2 :: st))) : Go p l e R s m args below meth c n0 Q cells slots h (mkF m pc Ls (x :: x2 :: st)) := by
  subst hn
  exact Go.via (fun T locs X _ t q => XT.dup2 X.here C.x rfl (hb C.by hd) rfl hc hc2 q) k
theorem G.dup2L (C : Cx p s m meth c Z y bytes maxL ret) {x : Int64} (hd : decode bytes pc = .ok (.dup2, 1)) (hn : pc + 1 = n) (k : Go p l e R s m args below meth c n0 Q cells slots h (mkF m n Ls (.long x :: .long x :: st))) : Go p l e R s m args below meth c n0 Q cells slots h (mkF m pc Ls (.long x :: st)) := by
  subst hn
  exact Go.via (fun T locs X _ t q => XT.dup2L X.here C.x rfl (hb C.by hd) rfl q) k
theorem G.goto (C : Cx p s m meth c Z y bytes maxL ret) {o : Int} (hd : decode bytes pc = .ok (.goto o, 3)) (ho : 0 ≤ (pc : Int) + o) (hp : ((pc : Int) + o).toNat = n) (k : Go p l e R s m args below meth c n0 Q cells slots h (mkF m n Ls (st))) : Go p l e R s m args below meth c n0 Q cells slots h (mkF m pc Ls (st)) :=
  Go.via (fun T locs X _ t q => XS.goto X.here C.x rfl rfl (hb C.by hd) ho hp q) k
theorem lt_i {x y : Int32} : x < y ↔ x.toInt < y.toInt := Int32.lt_iff_toInt_lt
theorem lt_l {x y : Int64} : x < y ↔ x.toInt < y.toInt := Int64.lt_iff_toInt_lt
theorem le_i {x y : Int32} : x ≤ y ↔ x.toInt ≤ y.toInt := Int32.le_iff_toInt_le
theorem le_l {x y : Int64} : x ≤ y ↔ x.toInt ≤ y.toInt := Int64.le_iff_toInt_le
theorem ich_lt {x1 x2 : Int32} : (x1.toInt < x2.toInt ∧ if_icmp.holds .lt x1 x2 = true) ∨ (x2.toInt ≤ x1.toInt ∧ if_icmp.holds .lt x1 x2 = false) := by
  by_cases q : x1.toInt < x2.toInt
  · exact Or.inl ⟨q, by simp [if_icmp.holds, lt_i, le_i, Int32.lt_iff_toInt_lt, Int32.le_iff_toInt_le, q]⟩
  · exact Or.inr ⟨by omega, by first | (simp [if_icmp.holds, lt_i, le_i, Int32.lt_iff_toInt_lt, Int32.le_iff_toInt_le, q]; done) | (simp [if_icmp.holds, lt_i, le_i, Int32.lt_iff_toInt_lt, Int32.le_iff_toInt_le]; omega)⟩
theorem G.icmp_lt (C : Cx p s m meth c Z y bytes maxL ret) {x1 x2 : Int32} {o : Int} {A B : Int} (hA : x1.toInt = A) (hB : x2.toInt = B) (hd : decode bytes pc = .ok (.if_icmp .lt o, 3)) (ho : 0 ≤ (pc : Int) + o) (hp : ((pc : Int) + o).toNat = n') (hn : pc + 3 = n) (kt : A < B → Go p l e R s m args below meth c n0 Q cells slots h (mkF m n' Ls (st))) (kf : B ≤ A → Go p l e R s m args below meth c n0 Q cells slots h (mkF m n Ls (st))) : Go p l e R s m args below meth c n0 Q cells slots h (mkF m pc Ls (.int x2 :: .int x1 :: st)) := by
  subst hn hA hB
  rcases ich_lt (x1 := x1) (x2 := x2) with ⟨q, r⟩ | ⟨q, r⟩
  · exact Go.via (fun T locs X _ t q => XS.icmpYes X.here C.x rfl rfl (hb C.by hd) rfl r ho hp q) (kt q)
  · exact Go.via (fun T locs X _ t q => XS.icmpNo X.here C.x rfl (hb C.by hd) rfl r q) (kf q)
theorem G.if_lt (C : Cx p s m meth c Z y bytes maxL ret) {x1 : Int32} {o : Int} {A : Int} (hA : x1.toInt = A) (hd : decode bytes pc = .ok (.ifCond .lt o, 3)) (ho : 0 ≤ (pc : Int) + o) (hp : ((pc : Int) + o).toNat = n') (hn : pc + 3 = n) (kt : A < 0 → Go p l e R s m args below meth c n0 Q cells slots h (mkF m n' Ls (st))) (kf : 0 ≤ A → Go p l e R s m args below meth c n0 Q cells slots h (mkF m n Ls (st))) : Go p l e R s m args below meth c n0 Q cells slots h (mkF m pc Ls (.int x1 :: st)) := by
  subst hn hA
  rcases ich_lt (x1 := x1) (x2 := 0) with ⟨q, r⟩ | ⟨q, r⟩
  · exact Go.via (fun T locs X _ t q => XS.ifYes X.here C.x rfl rfl (hb C.by hd) rfl ((if0 _ _).trans r) ho hp q) (kt q)
  · exact Go.via (fun T locs X _ t q => XS.ifNo X.here C.x rfl (hb C.by hd) rfl ((if0 _ _).trans r) q) (kf q)
theorem lch_lt (x1 x2 : Int64) : ((lcmpW x1 x2).toInt < 0 → x1.toInt < x2.toInt) ∧ (0 ≤ (lcmpW x1 x2).toInt → x2.toInt ≤ x1.toInt) := by
  have q := c_lcmp x1 x2
  have z : ∀ x : Int32, x = 0 ↔ x.toInt = 0 := fun x => ⟨fun q => by rw [q]; rfl, fun q => Int32.toInt_inj.mp q⟩
  have w : x1 = x2 ↔ x1.toInt = x2.toInt := Int64.toInt_inj.symm
  
  constructor <;> intro r <;> omega
theorem G.lcmp_lt (C : Cx p s m meth c Z y bytes maxL ret) {x1 x2 : Int64} {o : Int} {A B : Int} (hA : x1.toInt = A) (hB : x2.toInt = B) (hc : decode bytes pc = .ok (.lcmp, 1)) (hd : decode bytes (pc + 1) = .ok (.ifCond .lt o, 3)) (ho : 0 ≤ ((pc + 1 : Nat) : Int) + o) (hp : (((pc + 1 : Nat) : Int) + o).toNat = n') (hn : pc + 4 = n) (kt : A < B → Go p l e R s m args below meth c n0 Q cells slots h (mkF m n' Ls (st))) (kf : B ≤ A → Go p l e R s m args below meth c n0 Q cells slots h (mkF m n Ls (st))) : Go p l e R s m args below meth c n0 Q cells slots h (mkF m pc Ls (.long x2 :: .long x1 :: st)) := by
  subst hn hA hB
  refine Go.via (fun T locs X _ t q => XS.lcmp X.here C.x rfl (hb C.by hc) rfl q) ?_
  exact G.if_lt C (A := (lcmpW x1 x2).toInt) rfl (pc := pc + 1) hd ho hp (n := pc + 4) rfl (fun q => kt ((lch_lt x1 x2).1 q)) (fun q => kf ((lch_lt x1 x2).2 q))
theorem ich_ge {x1 x2 : Int32} : (x2.toInt ≤ x1.toInt ∧ if_icmp.holds .ge x1 x2 = true) ∨ (x1.toInt < x2.toInt ∧ if_icmp.holds .ge x1 x2 = false) := by
  by_cases q : x2.toInt ≤ x1.toInt
  · exact Or.inl ⟨q, by simp [if_icmp.holds, lt_i, le_i, Int32.lt_iff_toInt_lt, Int32.le_iff_toInt_le, q]⟩
  · exact Or.inr ⟨by omega, by first | (simp [if_icmp.holds, lt_i, le_i, Int32.lt_iff_toInt_lt, Int32.le_iff_toInt_le, q]; done) | (simp [if_icmp.holds, lt_i, le_i, Int32.lt_iff_toInt_lt, Int32.le_iff_toInt_le]; omega)⟩
theorem G.icmp_ge (C : Cx p s m meth c Z y bytes maxL ret) {x1 x2 : Int32} {o : Int} {A B : Int} (hA : x1.toInt = A) (hB : x2.toInt = B) (hd : decode bytes pc = .ok (.if_icmp .ge o, 3)) (ho : 0 ≤ (pc : Int) + o) (hp : ((pc : Int) + o).toNat = n') (hn : pc + 3 = n) (kt : B ≤ A → Go p l e R s m args below meth c n0 Q cells slots h (mkF m n' Ls (st))) (kf : A < B → Go p l e R s m args below meth c n0 Q cells slots h (mkF m n Ls (st))) : Go p l e R s m args below meth c n0 Q cells slots h (mkF m pc Ls (.int x2 :: .int x1 :: st)) := by
  subst hn hA hB
  rcases ich_ge (x1 := x1) (x2 := x2) with ⟨q, r⟩ | ⟨q, r⟩
  · exact Go.via (fun T locs X _ t q => XS.icmpYes X.here C.x rfl rfl (hb C.by hd) rfl r ho hp q) (kt q)
  · exact Go.via (fun T locs X _ t q => XS.icmpNo X.here C.x rfl (hb C.by hd) rfl r q) (kf q)
theorem G.if_ge (C : Cx p s m meth c Z y bytes maxL ret) {x1 : Int32} {o : Int} {A : Int} (hA : x1.toInt = A) (hd : decode bytes pc = .ok (.ifCond .ge o, 3)) (ho : 0 ≤ (pc : Int) + o) (hp : ((pc : Int) + o).toNat = n') (hn : pc + 3 = n) (kt : 0 ≤ A → Go p l e R s m args below meth c n0 Q cells slots h (mkF m n' Ls (st))) (kf : A < 0 → Go p l e R s m args below meth c n0 Q cells slots h (mkF m n Ls (st))) : Go p l e R s m args below meth c n0 Q cells slots h (mkF m pc Ls (.int x1 :: st)) := by
  subst hn hA
  rcases ich_ge (x1 := x1) (x2 := 0) with ⟨q, r⟩ | ⟨q, r⟩
  · exact Go.via (fun T locs X _ t q => XS.ifYes X.here C.x rfl rfl (hb C.by hd) rfl ((if0 _ _).trans r) ho hp q) (kt q)
  · exact Go.via (fun T locs X _ t q => XS.ifNo X.here C.x rfl (hb C.by hd) rfl ((if0 _ _).trans r) q) (kf q)
theorem lch_ge (x1 x2 : Int64) : (0 ≤ (lcmpW x1 x2).toInt → x2.toInt ≤ x1.toInt) ∧ ((lcmpW x1 x2).toInt < 0 → x1.toInt < x2.toInt) := by
  have q := c_lcmp x1 x2
  have z : ∀ x : Int32, x = 0 ↔ x.toInt = 0 := fun x => ⟨fun q => by rw [q]; rfl, fun q => Int32.toInt_inj.mp q⟩
  have w : x1 = x2 ↔ x1.toInt = x2.toInt := Int64.toInt_inj.symm
  
  constructor <;> intro r <;> omega
theorem G.lcmp_ge (C : Cx p s m meth c Z y bytes maxL ret) {x1 x2 : Int64} {o : Int} {A B : Int} (hA : x1.toInt = A) (hB : x2.toInt = B) (hc : decode bytes pc = .ok (.lcmp, 1)) (hd : decode bytes (pc + 1) = .ok (.ifCond .ge o, 3)) (ho : 0 ≤ ((pc + 1 : Nat) : Int) + o) (hp : (((pc + 1 : Nat) : Int) + o).toNat = n') (hn : pc + 4 = n) (kt : B ≤ A → Go p l e R s m args below meth c n0 Q cells slots h (mkF m n' Ls (st))) (kf : A < B → Go p l e R s m args below meth c n0 Q cells slots h (mkF m n Ls (st))) : Go p l e R s m args below meth c n0 Q cells slots h (mkF m pc Ls (.long x2 :: .long x1 :: st)) := by
  subst hn hA hB
  refine Go.via (fun T locs X _ t q => XS.lcmp X.here C.x rfl (hb C.by hc) rfl q) ?_
  exact G.if_ge C (A := (lcmpW x1 x2).toInt) rfl (pc := pc + 1) hd ho hp (n := pc + 4) rfl (fun q => kt ((lch_ge x1 x2).1 q)) (fun q => kf ((lch_ge x1 x2).2 q))
theorem ich_gt {x1 x2 : Int32} : (x2.toInt < x1.toInt ∧ if_icmp.holds .gt x1 x2 = true) ∨ (x1.toInt ≤ x2.toInt ∧ if_icmp.holds .gt x1 x2 = false) := by
  by_cases q : x2.toInt < x1.toInt
  · exact Or.inl ⟨q, by simp [if_icmp.holds, lt_i, le_i, Int32.lt_iff_toInt_lt, Int32.le_iff_toInt_le, q]⟩
  · exact Or.inr ⟨by omega, by first | (simp [if_icmp.holds, lt_i, le_i, Int32.lt_iff_toInt_lt, Int32.le_iff_toInt_le, q]; done) | (simp [if_icmp.holds, lt_i, le_i, Int32.lt_iff_toInt_lt, Int32.le_iff_toInt_le]; omega)⟩
theorem G.icmp_gt (C : Cx p s m meth c Z y bytes maxL ret) {x1 x2 : Int32} {o : Int} {A B : Int} (hA : x1.toInt = A) (hB : x2.toInt = B) (hd : decode bytes pc = .ok (.if_icmp .gt o, 3)) (ho : 0 ≤ (pc : Int) + o) (hp : ((pc : Int) + o).toNat = n') (hn : pc + 3 = n) (kt : B < A → Go p l e R s m args below meth c n0 Q cells slots h (mkF m n' Ls (st))) (kf : A ≤ B → Go p l e R s m args below meth c n0 Q cells slots h (mkF m n Ls (st))) : Go p l e R s m args below meth c n0 Q cells slots h (mkF m pc Ls (.int x2 :: .int x1 :: st)) := by
  subst hn hA hB
  rcases ich_gt (x1 := x1) (x2 := x2) with ⟨q, r⟩ | ⟨q, r⟩
  · exact Go.via (fun T locs X _ t q => XS.icmpYes X.here C.x rfl rfl (hb C.by hd) rfl r ho hp q) (kt q)
  · exact Go.via (fun T locs X _ t q => XS.icmpNo X.here C.x rfl (hb C.by hd) rfl r q) (kf q)
theorem G.if_gt (C : Cx p s m meth c Z y bytes maxL ret) {x1 : Int32} {o : Int} {A : Int} (hA : x1.toInt = A) (hd : decode bytes pc = .ok (.ifCond .gt o, 3)) (ho : 0 ≤ (pc : Int) + o) (hp : ((pc : Int) + o).toNat = n') (hn : pc + 3 = n) (kt : 0 < A → Go p l e R s m args below meth c n0 Q cells slots h (mkF m n' Ls (st))) (kf : A ≤ 0 → Go p l e R s m args below meth c n0 Q cells slots h (mkF m n Ls (st))) : Go p l e R s m args below meth c n0 Q cells slots h (mkF m pc Ls (.int x1 :: st)) := by
  subst hn hA
  rcases ich_gt (x1 := x1) (x2 := 0) with ⟨q, r⟩ | ⟨q, r⟩
  · exact Go.via (fun T locs X _ t q => XS.ifYes X.here C.x rfl rfl (hb C.by hd) rfl ((if0 _ _).trans r) ho hp q) (kt q)
  · exact Go.via (fun T locs X _ t q => XS.ifNo X.here C.x rfl (hb C.by hd) rfl ((if0 _ _).trans r) q) (kf q)
theorem lch_gt (x1 x2 : Int64) : (0 < (lcmpW x1 x2).toInt → x2.toInt < x1.toInt) ∧ ((lcmpW x1 x2).toInt ≤ 0 → x1.toInt ≤ x2.toInt) := by
  have q := c_lcmp x1 x2
  have z : ∀ x : Int32, x = 0 ↔ x.toInt = 0 := fun x => ⟨fun q => by rw [q]; rfl, fun q => Int32.toInt_inj.mp q⟩
  have w : x1 = x2 ↔ x1.toInt = x2.toInt := Int64.toInt_inj.symm
  
  constructor <;> intro r <;> omega
theorem G.lcmp_gt (C : Cx p s m meth c Z y bytes maxL ret) {x1 x2 : Int64} {o : Int} {A B : Int} (hA : x1.toInt = A) (hB : x2.toInt = B) (hc : decode bytes pc = .ok (.lcmp, 1)) (hd : decode bytes (pc + 1) = .ok (.ifCond .gt o, 3)) (ho : 0 ≤ ((pc + 1 : Nat) : Int) + o) (hp : (((pc + 1 : Nat) : Int) + o).toNat = n') (hn : pc + 4 = n) (kt : B < A → Go p l e R s m args below meth c n0 Q cells slots h (mkF m n' Ls (st))) (kf : A ≤ B → Go p l e R s m args below meth c n0 Q cells slots h (mkF m n Ls (st))) : Go p l e R s m args below meth c n0 Q cells slots h (mkF m pc Ls (.long x2 :: .long x1 :: st)) := by
  subst hn hA hB
  refine Go.via (fun T locs X _ t q => XS.lcmp X.here C.x rfl (hb C.by hc) rfl q) ?_
  exact G.if_gt C (A := (lcmpW x1 x2).toInt) rfl (pc := pc + 1) hd ho hp (n := pc + 4) rfl (fun q => kt ((lch_gt x1 x2).1 q)) (fun q => kf ((lch_gt x1 x2).2 q))
theorem ich_le {x1 x2 : Int32} : (x1.toInt ≤ x2.toInt ∧ if_icmp.holds .le x1 x2 = true) ∨ (x2.toInt < x1.toInt ∧ if_icmp.holds .le x1 x2 = false) := by
  by_cases q : x1.toInt ≤ x2.toInt
  · exact Or.inl ⟨q, by simp [if_icmp.holds, lt_i, le_i, Int32.lt_iff_toInt_lt, Int32.le_iff_toInt_le, q]⟩
  · exact Or.inr ⟨by omega, by first | (simp [if_icmp.holds, lt_i, le_i, Int32.lt_iff_toInt_lt, Int32.le_iff_toInt_le, q]; done) | (simp [if_icmp.holds, lt_i, le_i, Int32.lt_iff_toInt_lt, Int32.le_iff_toInt_le]; omega)⟩
theorem G.icmp_le (C : Cx p s m meth c Z y bytes maxL ret) {x1 x2 : Int32} {o : Int} {A B : Int} (hA : x1.toInt = A) (hB : x2.toInt = B) (hd : decode bytes pc = .ok (.if_icmp .le o, 3)) (ho : 0 ≤ (pc : Int) + o) (hp : ((pc : Int) + o).toNat = n') (hn : pc + 3 = n) (kt : A ≤ B → Go p l e R s m args below meth c n0 Q cells slots h (mkF m n' Ls (st))) (kf : B < A → Go p l e R s m args below meth c n0 Q cells slots h (mkF m n Ls (st))) : Go p l e R s m args below meth c n0 Q cells slots h (mkF m pc Ls (.int x2 :: .int x1 :: st)) := by
  subst hn hA hB
  rcases ich_le (x1 := x1) (x2 := x2) with ⟨q, r⟩ | ⟨q, r⟩
  · exact Go.via (fun T locs X _ t q => XS.icmpYes X.here C.x rfl rfl (hb C.by hd) rfl r ho hp q) (kt q)
  · exact Go.via (fun T locs X _ t q => XS.icmpNo X.here C.x rfl (hb C.by hd) rfl r q) (kf q)
theorem G.if_le (C : Cx p s m meth c Z y bytes maxL ret) {x1 : Int32} {o : Int} {A : Int} (hA : x1.toInt = A) (hd : decode bytes pc = .ok (.ifCond .le o, 3)) (ho : 0 ≤ (pc : Int) + o) (hp : ((pc : Int) + o).toNat = n') (hn : pc + 3 = n) (kt : A ≤ 0 → Go p l e R s m args below meth c n0 Q cells slots h (mkF m n' Ls (st))) (kf : 0 < A → Go p l e R s m args below meth c n0 Q cells slots h (mkF m n Ls (st))) : Go p l e R s m args below meth c n0 Q cells slots h (mkF m pc Ls (.int x1 :: st)) := by
  subst hn hA
  rcases ich_le (x1 := x1) (x2 := 0) with ⟨q, r⟩ | ⟨q, r⟩
  · exact Go.via (fun T locs X _ t q => XS.ifYes X.here C.x rfl rfl (hb C.by hd) rfl ((if0 _ _).trans r) ho hp q) (kt q)
  · exact Go.via (fun T locs X _ t q => XS.ifNo X.here C.x rfl (hb C.by hd) rfl ((if0 _ _).trans r) q) (kf q)
theorem lch_le (x1 x2 : Int64) : ((lcmpW x1 x2).toInt ≤ 0 → x1.toInt ≤ x2.toInt) ∧ (0 < (lcmpW x1 x2).toInt → x2.toInt < x1.toInt) := by
  have q := c_lcmp x1 x2
  have z : ∀ x : Int32, x = 0 ↔ x.toInt = 0 := fun x => ⟨fun q => by rw [q]; rfl, fun q => Int32.toInt_inj.mp q⟩
  have w : x1 = x2 ↔ x1.toInt = x2.toInt := Int64.toInt_inj.symm
  
  constructor <;> intro r <;> omega
theorem G.lcmp_le (C : Cx p s m meth c Z y bytes maxL ret) {x1 x2 : Int64} {o : Int} {A B : Int} (hA : x1.toInt = A) (hB : x2.toInt = B) (hc : decode bytes pc = .ok (.lcmp, 1)) (hd : decode bytes (pc + 1) = .ok (.ifCond .le o, 3)) (ho : 0 ≤ ((pc + 1 : Nat) : Int) + o) (hp : (((pc + 1 : Nat) : Int) + o).toNat = n') (hn : pc + 4 = n) (kt : A ≤ B → Go p l e R s m args below meth c n0 Q cells slots h (mkF m n' Ls (st))) (kf : B < A → Go p l e R s m args below meth c n0 Q cells slots h (mkF m n Ls (st))) : Go p l e R s m args below meth c n0 Q cells slots h (mkF m pc Ls (.long x2 :: .long x1 :: st)) := by
  subst hn hA hB
  refine Go.via (fun T locs X _ t q => XS.lcmp X.here C.x rfl (hb C.by hc) rfl q) ?_
  exact G.if_le C (A := (lcmpW x1 x2).toInt) rfl (pc := pc + 1) hd ho hp (n := pc + 4) rfl (fun q => kt ((lch_le x1 x2).1 q)) (fun q => kf ((lch_le x1 x2).2 q))
theorem ich_eq {x1 x2 : Int32} : (x1 = x2 ∧ if_icmp.holds .eq x1 x2 = true) ∨ (x1 ≠ x2 ∧ if_icmp.holds .eq x1 x2 = false) := by
  by_cases q : x1 = x2 <;> simp [if_icmp.holds, q]
theorem G.icmp_eq (C : Cx p s m meth c Z y bytes maxL ret) {x1 x2 : Int32} {o : Int} {A B : Int} (hA : x1.toInt = A) (hB : x2.toInt = B) (hd : decode bytes pc = .ok (.if_icmp .eq o, 3)) (ho : 0 ≤ (pc : Int) + o) (hp : ((pc : Int) + o).toNat = n') (hn : pc + 3 = n) (kt : x1 = x2 → A = B → Go p l e R s m args below meth c n0 Q cells slots h (mkF m n' Ls (st))) (kf : x1 ≠ x2 → A ≠ B → Go p l e R s m args below meth c n0 Q cells slots h (mkF m n Ls (st))) : Go p l e R s m args below meth c n0 Q cells slots h (mkF m pc Ls (.int x2 :: .int x1 :: st)) := by
  subst hn hA hB
  rcases ich_eq (x1 := x1) (x2 := x2) with ⟨q, r⟩ | ⟨q, r⟩
  · exact Go.via (fun T locs X _ t q => XS.icmpYes X.here C.x rfl rfl (hb C.by hd) rfl r ho hp q) (kt q (congrArg _ q))
  · exact Go.via (fun T locs X _ t q => XS.icmpNo X.here C.x rfl (hb C.by hd) rfl r q) (kf q (fun r => q (Int32.toInt_inj.mp r)))
theorem G.if_eq (C : Cx p s m meth c Z y bytes maxL ret) {x1 : Int32} {o : Int} {A : Int} (hA : x1.toInt = A) (hd : decode bytes pc = .ok (.ifCond .eq o, 3)) (ho : 0 ≤ (pc : Int) + o) (hp : ((pc : Int) + o).toNat = n') (hn : pc + 3 = n) (kt : x1 = 0 → A = 0 → Go p l e R s m args below meth c n0 Q cells slots h (mkF m n' Ls (st))) (kf : x1 ≠ 0 → A ≠ 0 → Go p l e R s m args below meth c n0 Q cells slots h (mkF m n Ls (st))) : Go p l e R s m args below meth c n0 Q cells slots h (mkF m pc Ls (.int x1 :: st)) := by
  subst hn hA
  rcases ich_eq (x1 := x1) (x2 := 0) with ⟨q, r⟩ | ⟨q, r⟩
  · exact Go.via (fun T locs X _ t q => XS.ifYes X.here C.x rfl rfl (hb C.by hd) rfl ((if0 _ _).trans r) ho hp q) (kt q (congrArg Int32.toInt q))
  · exact Go.via (fun T locs X _ t q => XS.ifNo X.here C.x rfl (hb C.by hd) rfl ((if0 _ _).trans r) q) (kf q (fun r => q (Int32.toInt_inj.mp r)))
theorem lch_eq (x1 x2 : Int64) : ((lcmpW x1 x2) = 0 → x1 = x2) ∧ ((lcmpW x1 x2) ≠ 0 → x1 ≠ x2) := by
  have q := c_lcmp x1 x2
  have z : ∀ x : Int32, x = 0 ↔ x.toInt = 0 := fun x => ⟨fun q => by rw [q]; rfl, fun q => Int32.toInt_inj.mp q⟩
  have w : x1 = x2 ↔ x1.toInt = x2.toInt := Int64.toInt_inj.symm
  simp only [ne_eq, z, w]
  constructor <;> intro r <;> omega
theorem G.lcmp_eq (C : Cx p s m meth c Z y bytes maxL ret) {x1 x2 : Int64} {o : Int} {A B : Int} (hA : x1.toInt = A) (hB : x2.toInt = B) (hc : decode bytes pc = .ok (.lcmp, 1)) (hd : decode bytes (pc + 1) = .ok (.ifCond .eq o, 3)) (ho : 0 ≤ ((pc + 1 : Nat) : Int) + o) (hp : (((pc + 1 : Nat) : Int) + o).toNat = n') (hn : pc + 4 = n) (kt : x1 = x2 → A = B → Go p l e R s m args below meth c n0 Q cells slots h (mkF m n' Ls (st))) (kf : x1 ≠ x2 → A ≠ B → Go p l e R s m args below meth c n0 Q cells slots h (mkF m n Ls (st))) : Go p l e R s m args below meth c n0 Q cells slots h (mkF m pc Ls (.long x2 :: .long x1 :: st)) := by
  subst hn hA hB
  refine Go.via (fun T locs X _ t q => XS.lcmp X.here C.x rfl (hb C.by hc) rfl q) ?_
  exact G.if_eq C (A := (lcmpW x1 x2).toInt) rfl (pc := pc + 1) hd ho hp (n := pc + 4) rfl (fun q _ => kt ((lch_eq x1 x2).1 q) (congrArg _ ((lch_eq x1 x2).1 q))) (fun q _ => kf ((lch_eq x1 x2).2 q) (fun r => (lch_eq x1 x2).2 q (Int64.toInt_inj.mp r)))
theorem ich_ne {x1 x2 : Int32} : (x1 ≠ x2 ∧ if_icmp.holds .ne x1 x2 = true) ∨ (x1 = x2 ∧ if_icmp.holds .ne x1 x2 = false) := by
  by_cases q : x1 = x2 <;> simp [if_icmp.holds, q]
theorem G.icmp_ne (C : Cx p s m meth c Z y bytes maxL ret) {x1 x2 : Int32} {o : Int} {A B : Int} (hA : x1.toInt = A) (hB : x2.toInt = B) (hd : decode bytes pc = .ok (.if_icmp .ne o, 3)) (ho : 0 ≤ (pc : Int) + o) (hp : ((pc : Int) + o).toNat = n') (hn : pc + 3 = n) (kt : x1 ≠ x2 → A ≠ B → Go p l e R s m args below meth c n0 Q cells slots h (mkF m n' Ls (st))) (kf : x1 = x2 → A = B → Go p l e R s m args below meth c n0 Q cells slots h (mkF m n Ls (st))) : Go p l e R s m args below meth c n0 Q cells slots h (mkF m pc Ls (.int x2 :: .int x1 :: st)) := by
  subst hn hA hB
  rcases ich_ne (x1 := x1) (x2 := x2) with ⟨q, r⟩ | ⟨q, r⟩
  · exact Go.via (fun T locs X _ t q => XS.icmpYes X.here C.x rfl rfl (hb C.by hd) rfl r ho hp q) (kt q (fun r => q (Int32.toInt_inj.mp r)))
  · exact Go.via (fun T locs X _ t q => XS.icmpNo X.here C.x rfl (hb C.by hd) rfl r q) (kf q (congrArg _ q))
theorem G.if_ne (C : Cx p s m meth c Z y bytes maxL ret) {x1 : Int32} {o : Int} {A : Int} (hA : x1.toInt = A) (hd : decode bytes pc = .ok (.ifCond .ne o, 3)) (ho : 0 ≤ (pc : Int) + o) (hp : ((pc : Int) + o).toNat = n') (hn : pc + 3 = n) (kt : x1 ≠ 0 → A ≠ 0 → Go p l e R s m args below meth c n0 Q cells slots h (mkF m n' Ls (st))) (kf : x1 = 0 → A = 0 → Go p l e R s m args below meth c n0 Q cells slots h (mkF m n Ls (st))) : Go p l e R s m args below meth c n0 Q cells slots h (mkF m pc Ls (.int x1 :: st)) := by
  subst hn hA
  rcases ich_ne (x1 := x1) (x2 := 0) with ⟨q, r⟩ | ⟨q, r⟩
  · exact Go.via (fun T locs X _ t q => XS.ifYes X.here C.x rfl rfl (hb C.by hd) rfl ((if0 _ _).trans r) ho hp q) (kt q (fun r => q (Int32.toInt_inj.mp r)))
  · exact Go.via (fun T locs X _ t q => XS.ifNo X.here C.x rfl (hb C.by hd) rfl ((if0 _ _).trans r) q) (kf q (congrArg Int32.toInt q))
theorem lch_ne (x1 x2 : Int64) : ((lcmpW x1 x2) ≠ 0 → x1 ≠ x2) ∧ ((lcmpW x1 x2) = 0 → x1 = x2) := by
  have q := c_lcmp x1 x2
  have z : ∀ x : Int32, x = 0 ↔ x.toInt = 0 := fun x => ⟨fun q => by rw [q]; rfl, fun q => Int32.toInt_inj.mp q⟩
  have w : x1 = x2 ↔ x1.toInt = x2.toInt := Int64.toInt_inj.symm
  simp only [ne_eq, z, w]
  constructor <;> intro r <;> omega
theorem G.lcmp_ne (C : Cx p s m meth c Z y bytes maxL ret) {x1 x2 : Int64} {o : Int} {A B : Int} (hA : x1.toInt = A) (hB : x2.toInt = B) (hc : decode bytes pc = .ok (.lcmp, 1)) (hd : decode bytes (pc + 1) = .ok (.ifCond .ne o, 3)) (ho : 0 ≤ ((pc + 1 : Nat) : Int) + o) (hp : (((pc + 1 : Nat) : Int) + o).toNat = n') (hn : pc + 4 = n) (kt : x1 ≠ x2 → A ≠ B → Go p l e R s m args below meth c n0 Q cells slots h (mkF m n' Ls (st))) (kf : x1 = x2 → A = B → Go p l e R s m args below meth c n0 Q cells slots h (mkF m n Ls (st))) : Go p l e R s m args below meth c n0 Q cells slots h (mkF m pc Ls (.long x2 :: .long x1 :: st)) := by
  subst hn hA hB
  refine Go.via (fun T locs X _ t q => XS.lcmp X.here C.x rfl (hb C.by hc) rfl q) ?_
  exact G.if_ne C (A := (lcmpW x1 x2).toInt) rfl (pc := pc + 1) hd ho hp (n := pc + 4) rfl (fun q _ => kt ((lch_ne x1 x2).1 q) (fun r => (lch_ne x1 x2).1 q (Int64.toInt_inj.mp r))) (fun q _ => kf ((lch_ne x1 x2).2 q) (congrArg _ ((lch_ne x1 x2).2 q)))
theorem G.ifnullN (C : Cx p s m meth c Z y bytes maxL ret) {b : Addr} {o : Int} (hd : decode bytes pc = .ok (.ifnull o, 3)) (hn : pc + 3 = n) (k : Go p l e R s m args below meth c n0 Q cells slots h (mkF m n Ls (st))) : Go p l e R s m args below meth c n0 Q cells slots h (mkF m pc Ls (.ref b :: st)) := by
  subst hn
  exact Go.via (fun T locs X _ t q => XS.ifnullNo X.here C.x rfl (hb C.by hd) rfl q) k
theorem G.ifnullY (C : Cx p s m meth c Z y bytes maxL ret) {o : Int} (hd : decode bytes pc = .ok (.ifnull o, 3)) (ho : 0 ≤ (pc : Int) + o) (hp : ((pc : Int) + o).toNat = n) (k : Go p l e R s m args below meth c n0 Q cells slots h (mkF m n Ls (st))) : Go p l e R s m args below meth c n0 Q cells slots h (mkF m pc Ls (.null :: st)) :=
  Go.via (fun T locs X _ t q => XS.ifnullYes X.here C.x rfl rfl (hb C.by hd) rfl ho hp q) k
theorem G.ifnonnullY (C : Cx p s m meth c Z y bytes maxL ret) {b : Addr} {o : Int} (hd : decode bytes pc = .ok (.ifnonnull o, 3)) (ho : 0 ≤ (pc : Int) + o) (hp : ((pc : Int) + o).toNat = n) (k : Go p l e R s m args below meth c n0 Q cells slots h (mkF m n Ls (st))) : Go p l e R s m args below meth c n0 Q cells slots h (mkF m pc Ls (.ref b :: st)) :=
  Go.via (fun T locs X _ t q => XS.ifnonnullYes X.here C.x rfl rfl (hb C.by hd) rfl ho hp q) k
theorem G.ifnonnullN (C : Cx p s m meth c Z y bytes maxL ret) {o : Int} (hd : decode bytes pc = .ok (.ifnonnull o, 3)) (hn : pc + 3 = n) (k : Go p l e R s m args below meth c n0 Q cells slots h (mkF m n Ls (st))) : Go p l e R s m args below meth c n0 Q cells slots h (mkF m pc Ls (.null :: st)) := by
  subst hn
  exact Go.via (fun T locs X _ t q => XS.ifnonnullNo X.here C.x rfl (hb C.by hd) rfl q) k
theorem G.acmp_eq (C : Cx p s m meth c Z y bytes maxL ret) {x1 x2 : Value} {o : Int} (h1 : x1.isRef = true) (h2 : x2.isRef = true) (hd : decode bytes pc = .ok (.if_acmp .eq o, 3)) (ho : 0 ≤ (pc : Int) + o) (hp : ((pc : Int) + o).toNat = n') (hn : pc + 3 = n) (kt : x1 = x2 → Go p l e R s m args below meth c n0 Q cells slots h (mkF m n' Ls (st))) (kf : x1 ≠ x2 → Go p l e R s m args below meth c n0 Q cells slots h (mkF m n Ls (st))) : Go p l e R s m args below meth c n0 Q cells slots h (mkF m pc Ls (x2 :: x1 :: st)) := by
  subst hn
  by_cases r : x1 = x2
  · exact Go.via (fun T locs X _ t q => Jvm.RoadKit.acmp (g := mkF m pc Ls (x2 :: x1 :: st)) X C.x rfl h1 h2 (same := true) rfl (hb C.by hd) rfl (decide_eq_true r) ho (hp.symm) q) (kt r)
  · exact Go.via (fun T locs X _ t q => Jvm.RoadKit.acmp (g := mkF m pc Ls (x2 :: x1 :: st)) X C.x rfl h1 h2 (same := false) rfl (hb C.by hd) rfl (decide_eq_false r) ho (rfl) q) (kf r)
theorem G.acmp_ne (C : Cx p s m meth c Z y bytes maxL ret) {x1 x2 : Value} {o : Int} (h1 : x1.isRef = true) (h2 : x2.isRef = true) (hd : decode bytes pc = .ok (.if_acmp .ne o, 3)) (ho : 0 ≤ (pc : Int) + o) (hp : ((pc : Int) + o).toNat = n') (hn : pc + 3 = n) (kt : x1 ≠ x2 → Go p l e R s m args below meth c n0 Q cells slots h (mkF m n' Ls (st))) (kf : x1 = x2 → Go p l e R s m args below meth c n0 Q cells slots h (mkF m n Ls (st))) : Go p l e R s m args below meth c n0 Q cells slots h (mkF m pc Ls (x2 :: x1 :: st)) := by
  subst hn
  by_cases r : x1 = x2
  · exact Go.via (fun T locs X _ t q => Jvm.RoadKit.acmp (g := mkF m pc Ls (x2 :: x1 :: st)) X C.x rfl h1 h2 (same := true) rfl (hb C.by hd) rfl (decide_eq_true r) ho (rfl) q) (kf r)
  · exact Go.via (fun T locs X _ t q => Jvm.RoadKit.acmp (g := mkF m pc Ls (x2 :: x1 :: st)) X C.x rfl h1 h2 (same := false) rfl (hb C.by hd) rfl (decide_eq_false r) ho (hp.symm) q) (kt r)
theorem G.ldc (C : Cx p s m meth c Z y bytes maxL ret) {index : Nat} {v : Int32} (w : (Jvm.Cond.constant y.cls index v).before a0 Z = true) (hd : decode bytes pc = .ok (.ldc index, 2)) (hn : pc + 2 = n) (k : Go p l e R s m args below meth c n0 Q cells slots h (mkF m n Ls (.int v :: st))) : Go p l e R s m args below meth c n0 Q cells slots h (mkF m pc Ls (st)) := by
  subst hn
  exact Go.via (fun T locs X _ t q => X.ldcInt C.x C.own (mvT C.z w) (g := mkF m pc Ls st) rfl (hb C.by hd) t q) k
theorem G.ldc_w (C : Cx p s m meth c Z y bytes maxL ret) {index : Nat} {v : Int32} (w : (Jvm.Cond.constant y.cls index v).before a0 Z = true) (hd : decode bytes pc = .ok (.ldc_w index, 3)) (hn : pc + 3 = n) (k : Go p l e R s m args below meth c n0 Q cells slots h (mkF m n Ls (.int v :: st))) : Go p l e R s m args below meth c n0 Q cells slots h (mkF m pc Ls (st)) := by
  subst hn
  exact Go.via (fun T locs X _ t q => X.ldcwInt C.x C.own (mvT C.z w) (g := mkF m pc Ls st) rfl (hb C.by hd) t q) k
theorem G.ldc2 (C : Cx p s m meth c Z y bytes maxL ret) {index : Nat} {v : Int64} (w : (Jvm.Cond.constantLong y.cls index v).before a0 Z = true) (hd : decode bytes pc = .ok (.ldc2_w index, 3)) (hn : pc + 3 = n) (k : Go p l e R s m args below meth c n0 Q cells slots h (mkF m n Ls (.long v :: st))) : Go p l e R s m args below meth c n0 Q cells slots h (mkF m pc Ls (st)) := by
  subst hn
  exact Go.via (fun T locs X _ t q => X.ldc2Long C.x C.own (mvT C.z w) (g := mkF m pc Ls st) rfl (hb C.by hd) t q) k
theorem Go.leave (C : Cx p s m meth c Z y bytes maxL ret) {v : Option Value} {f : JFrame} (hv : ret = none → v = none) (hc : cells ≤ R.cells) (hs : slots ≤ R.slots)
    (hret : ∀ T locs, Stand p l e R s m args below meth c T locs cells slots → ∀ fs, (∀ (f : JFrame) (acts : List Action), f.method = m → f.locked = none → f.entered = [] → (doReturn e (T.setTop f) acts v).1 = T.setFrames fs) → Steps p.tables e below (T.setTop f) (T.setFrames fs))
    (q : Q v h) : Go p l e R s m args below meth c n0 Q cells slots h f := fun T locs X N e0 => by
  obtain ⟨fs, hr, hrun, hended, hW, hsame⟩ := X.leave (v := v) (fun q => hv (C.rt.symm.trans q)) C.locks
  refine ⟨_, _, hret T locs X fs hr, hrun, hended, v, locs, rfl, ⟨N, ?_⟩, ReturnedEndW.of_narrow ⟨_, rfl⟩ hW (hsame.mono hc hs), Nat.le_of_eq (congrArg Array.size e0.symm)⟩
  show Q v T.heap
  rw [e0]; exact q
theorem G.return_ (C : Cx p s m meth c Z y bytes maxL none) (hd : decode bytes pc = .ok (.return_, 1)) (hc : cells ≤ R.cells) (hs : slots ≤ R.slots) (q : Q none h) : Go p l e R s m args below meth c n0 Q cells slots h (mkF m pc Ls ([])) :=
  Go.leave C (v := none) (fun _ => rfl) hc hs (fun T locs X fs hr => X.returnOut C.x C.rt (hb C.by hd) hr) q
theorem G.ireturn {t : FieldType} (C : Cx p s m meth c Z y bytes maxL (some t)) {x : Int32} (hd : decode bytes pc = .ok (.ireturn, 1)) (hnn : narrow t (.int x) = .int x) (ht : t = .int ∨ t = .boolean ∨ t = .byte ∨ t = .char ∨ t = .short) (hc : cells ≤ R.cells) (hs : slots ≤ R.slots) (q : Q (some (.int x)) h) : Go p l e R s m args below meth c n0 Q cells slots h (mkF m pc Ls (.int x :: st)) :=
  Go.leave C (v := some (.int x)) (fun q => nomatch q) hc hs (fun T locs X fs hr => retOut X C.x C.rt hnn (Or.inl ⟨rfl, ht, _, rfl⟩) (hb C.by hd) hr) q
theorem G.lreturn (C : Cx p s m meth c Z y bytes maxL (some .long)) {x : Int64} (hd : decode bytes pc = .ok (.lreturn, 1)) (hc : cells ≤ R.cells) (hs : slots ≤ R.slots) (q : Q (some (.long x)) h) : Go p l e R s m args below meth c n0 Q cells slots h (mkF m pc Ls (.long x :: st)) :=
  Go.leave C (v := some (.long x)) (fun q => nomatch q) hc hs (fun T locs X fs hr => retOut X C.x C.rt rfl (Or.inr (Or.inl ⟨rfl, rfl, _, rfl⟩)) (hb C.by hd) hr) q
theorem G.areturn {t : FieldType} (C : Cx p s m meth c Z y bytes maxL (some t)) {x : Value} (hd : decode bytes pc = .ok (.areturn, 1)) (ht : t.isReference = true) (hx : x.isRef = true) (hnn : narrow t x = x) (hc : cells ≤ R.cells) (hs : slots ≤ R.slots) (q : Q (some x) h) : Go p l e R s m args below meth c n0 Q cells slots h (mkF m pc Ls (x :: st)) :=
  Go.leave C (v := some x) (fun q => nomatch q) hc hs (fun T locs X fs hr => retOut X C.x C.rt hnn (Or.inr (Or.inr (Or.inr (Or.inr ⟨rfl, ht, hx⟩)))) (hb C.by hd) hr) q
theorem G.getfield (C : Cx p s m meth c Z y bytes maxL ret) {R0 O nm d host : String} {index : Nat} (w : (Jvm.Cond.fieldLink y.cls index R0 nm d).before a0 Z = true ∨ (Jvm.Cond.fieldLinkNest y.cls index R0 nm d host).before a0 Z = true) (via : Via Z R0 O nm d) {a : Addr} {v : Value} (F : Fld Z h a O nm d v) (hd : decode bytes pc = .ok (.getfield index, 3)) (hn : pc + 3 = n) (k : Go p l e R s m args below meth c n0 Q cells slots h (mkF m n Ls (v :: st))) : Go p l e R s m args below meth c n0 Q cells slots h (mkF m pc Ls (.ref a :: st)) := fun T locs X N q => by
  subst hn
  obtain ⟨T', X', e', st'⟩ := getF X C.x C.z C.own w via q F (g := mkF m pc Ls (.ref a :: st)) rfl rfl (hb C.by hd)
  obtain ⟨t, o, s1, r⟩ := k T' locs X' N e'
  exact ⟨t, o, st' t s1, r⟩
theorem G.getstatic (C : Cx p s m meth c Z y bytes maxL ret) {R0 O nm d host : String} {index : Nat} (w : (Jvm.Cond.fieldLink y.cls index R0 nm d).before a0 Z = true ∨ (Jvm.Cond.fieldLinkNest y.cls index R0 nm d host).before a0 Z = true) (via : Via Z R0 O nm d) {v : Value} (F : Sta Z h O nm d v) (hd : decode bytes pc = .ok (.getstatic index, 3)) (hn : pc + 3 = n) (k : Go p l e R s m args below meth c n0 Q cells slots h (mkF m n Ls (v :: st))) : Go p l e R s m args below meth c n0 Q cells slots h (mkF m pc Ls (st)) := fun T locs X N q => by
  subst hn
  obtain ⟨T', X', e', st'⟩ := getS2 X C.x C.z C.own w via q F (g := mkF m pc Ls st) rfl (hb C.by hd)
  obtain ⟨t, o, s1, r⟩ := k T' locs X' N e'
  exact ⟨t, o, st' t s1, r⟩
theorem G.putfield (C : Cx p s m meth c Z y bytes maxL ret) {R0 O nm d host K : String} {index kk : Nat} {ty : FieldType} (w : (Jvm.Cond.fieldLink y.cls index R0 nm d).before a0 Z = true ∨ (Jvm.Cond.fieldLinkNest y.cls index R0 nm d host).before a0 Z = true) (via : Via Z R0 O nm d) {a : Addr} {v old : Value} (F : Fld Z h a O nm d old) (E : Exa Z h a K)
    (L : (Jvm.Cond.lays K O nm d).before a0 Z = true ∨ ((Jvm.Cond.laysFinal K O nm d).before a0 Z = true ∧ y.cls = O ∧ y.name = "<init>")) (wi : (Jvm.Cond.instantiable K kk).before a0 Z = true) (hty : parseFieldDescriptor d = some ty) (hnn : narrow ty v = v) (hf : fits ty v = true) (g : n0 ≤ a)
    (hd : decode bytes pc = .ok (.putfield index, 3)) (hn : pc + 3 = n) (k : ∀ h', Wr h h' a (RoadKit.slotOf Z O nm d) v → Go p l e R s m args below meth c n0 Q cells slots h' (mkF m n Ls (st))) : Go p l e R s m args below meth c n0 Q cells slots h (mkF m pc Ls (v :: .ref a :: st)) := fun T locs X N q => by
  subst hn
  obtain ⟨T', h', X', e', W, st'⟩ := putF X C.x C.z C.own w via q F E (L.imp id fun r => ⟨r.1, r.2.1, C.nm.trans r.2.2⟩) wi hty hnn hf (g := mkF m pc Ls (v :: .ref a :: st)) rfl rfl (hb C.by hd)
  obtain ⟨t, o, s1, r⟩ := k h' W T' _ X' (Fr.snoc X' N g) e'
  exact ⟨t, o, st' t s1, Ende.up (Keep.of_wr W).1 r⟩
theorem G.putfieldN (C : Cx p s m meth c Z y bytes maxL ret) {R0 O nm d K : String} {index kk : Nat} {ty : FieldType} (w : (Jvm.Cond.fieldLink y.cls index R0 nm d).before a0 Z = true) (via : Via Z R0 O nm d) {a : Addr} {v v' old : Value} (F : Fld Z h a O nm d old) (E : Exa Z h a K)
    (L : (Jvm.Cond.lays K O nm d).before a0 Z = true ∨ ((Jvm.Cond.laysFinal K O nm d).before a0 Z = true ∧ y.cls = O ∧ y.name = "<init>")) (wi : (Jvm.Cond.instantiable K kk).before a0 Z = true) (hty : parseFieldDescriptor d = some ty) (hnn : narrow ty v = v') (hf : fits ty v' = true) (g : n0 ≤ a)
    (hd : decode bytes pc = .ok (.putfield index, 3)) (hn : pc + 3 = n) (k : ∀ h', Wr h h' a (RoadKit.slotOf Z O nm d) v' → Go p l e R s m args below meth c n0 Q cells slots h' (mkF m n Ls (st))) : Go p l e R s m args below meth c n0 Q cells slots h (mkF m pc Ls (v :: .ref a :: st)) := fun T locs X N q => by
  subst hn
  obtain ⟨T', h', X', e', W, st'⟩ := putFN X C.x C.z C.own w via q F E (L.imp id fun r => ⟨r.1, r.2.1, C.nm.trans r.2.2⟩) wi hty hnn hf (g := mkF m pc Ls (v :: .ref a :: st)) rfl rfl (hb C.by hd)
  obtain ⟨t, o, s1, r⟩ := k h' W T' _ X' (Fr.snoc X' N g) e'
  exact ⟨t, o, st' t s1, Ende.up (Keep.of_wr W).1 r⟩
theorem G.new (C : Cx p s m meth c Z y bytes maxL ret) {K : String} {index ns c' s' : Nat} (w : (Jvm.Cond.classLink y.cls index K).before a0 Z = true) (wi : (Jvm.Cond.instantiable K ns).before a0 Z = true) (wz : (Jvm.Cond.initialized K).before a0 Z = true) (hd : decode bytes pc = .ok (.new index, 3)) (hn : pc + 3 = n) (hc' : cells + 1 = c') (hs' : slots + ns = s') (hc : c' ≤ R.cells) (hs : s' ≤ R.slots)
    (k : ∀ h' b, b = h.size → Ext h h' → Exa Z h' b K → (∀ {O nm d : String} {ty : FieldType}, Laid Z a0 K O nm d → parseFieldDescriptor d = some ty → Fld Z h' b O nm d (defaultValue ty)) → Go p l e R s m args below meth c n0 Q c' s' h' (mkF m n Ls (.ref b :: st))) : Go p l e R s m args below meth c n0 Q cells slots h (mkF m pc Ls (st)) := fun T locs X N q => by
  subst hn hc' hs'
  obtain ⟨T', h', X', e', E, A, D, -, st'⟩ := newO X C.x C.z C.own w wi wz q (g := mkF m pc Ls st) rfl (hb C.by hd) hc hs
  obtain ⟨t, o, s1, r⟩ := k h' _ rfl E A D T' _ X' N e'
  exact ⟨t, o, st' t s1, Ende.up E.1 r⟩
theorem G.objinit (C : Cx p s m meth c Z y bytes maxL ret) {index W : Nat} (w1 : (Jvm.Cond.methodLink y.cls index Lib.objectInit).before a0 Z = true) (w2 : (Jvm.Cond.instanceMethod Lib.objectInit).before a0 Z = true) (w3 : (Jvm.Cond.code Lib.objectInit ⟨#[0xb1]⟩ 1 none).before a0 Z = true) {a : Addr} (hd : decode bytes pc = .ok (.invokespecial index, 3)) (hsz : Ls.size = maxL) (hf : 1 ≤ R.frames) (hW : (st.map fun v => v.category).sum = W) (hl : W + 12 ≤ R.locals) (hn : pc + 3 = n) (k : Go p l e R s m args below meth c n0 Q cells slots h (mkF m n Ls (st))) : Go p l e R s m args below meth c n0 Q cells slots h (mkF m pc Ls (.ref a :: st)) := fun T locs X N q => by
  subst hn hW
  obtain ⟨T', X', e', st'⟩ := initO X C.x C.z C.own w1 w2 w3 q (g := mkF m pc Ls (.ref a :: st)) rfl (hsz.trans C.ml.symm) rfl (hb C.by hd) hf (W := (st.map fun v => v.category).sum) (by show 2 * 0 + _ ≤ _; omega) hl
  obtain ⟨t, o, s1, r⟩ := k T' locs X' N e'
  exact ⟨t, o, st' t s1, r⟩
theorem G.callS (C : Cx p s m meth c Z y bytes maxL ret) {index W : Nat} {yc : MethodName} {bc : ByteArray} {mc : Nat} {rc : Option FieldType} {rm : Room} {c' s' : Nat} {Qc : Option Value → Heap → Prop} {ps : List FieldType} {argsL stk : List Value} (w1 : (Jvm.Cond.methodLink y.cls index yc).before a0 Z = true) (w2 : (Jvm.Cond.static yc).before a0 Z = true) (w3 : (Jvm.Cond.initialized yc.cls).before a0 Z = true) (w4 : (Jvm.Cond.code yc bc mc rc).before a0 Z = true) (hy : yc.cls ≠ "java/lang/invoke/MethodHandle" ∧ yc.cls ≠ "java/lang/invoke/VarHandle") (M : Met l Z yc bc mc rc rm argsL.toArray h n0 Qc) (hsz : Ls.size = maxL) (hf : rm.frames + 1 ≤ R.frames) (hW : (st.map fun v => v.category).sum = W) (hl : W + (mc + 11) + rm.locals ≤ R.locals) (hc' : cells + rm.cells = c') (hs' : slots + rm.slots = s') (hc : c' ≤ R.cells) (hs : s' ≤ R.slots) (hd : decode bytes pc = .ok (.invokestatic index, 3)) (hn : pc + 3 = n) (hlen : parseMethodDescriptor yc.desc = some ⟨ps, rc⟩) (hal : argsL.length = ps.length) (hst : stk = argsL.reverse ++ st) (k : ∀ sN, Cx p sN m meth c Z y bytes maxL ret → ∀ v h', Qc v h' → Go p l e R sN m args below meth c n0 Q c' s' h' (mkF m n Ls (v.toList ++ st))) : Go p l e R s m args below meth c n0 Q cells slots h (mkF m pc Ls (stk)) := fun T locs X N q => by
  subst hn hW hc' hs' hst
  obtain ⟨v, _, ⟨T', L', k', n''⟩, -, X', hS, hz, ⟨Lc, hQ, h1, h2, h3⟩, st'⟩ := callSS X C.x (y := yc) C.own (mvT C.z w1) (mvT C.z w2) (mvT C.z w3) (mvT C.z w4) hy (backOfS (W := (st.map fun v => v.category).sum) (Q := fun v h L => Fr n0 L ∧ Qc v h) (M []) C.z w4 w3 hf hl) (g := mkF m pc Ls (argsL.reverse ++ st)) rfl (hsz.trans C.ml.symm) (argsL := argsL) (rest := st) (lenOf hlen hal) rfl (by show 2 * 0 + _ ≤ _; omega) (hb C.by hd) (fun _ _ => ⟨rfl, q, hc, hs⟩)
  dsimp only [Pt.U, Pt.locs, Pt.cells, Pt.slots] at X' hS hz h1 h2 h3 st' hQ
  subst h1 h2 h3
  obtain ⟨t, o, s1, r⟩ := k _ (C.move hS.1) v _ hQ.2 T' _ X' (Fr.app N hQ.1) rfl
  exact ⟨t, o, st'.trans s1, Ende.back hS (Nat.le_refl _) (by rw [← q]; exact hz) r⟩
theorem G.callC (C : Cx p s m meth c Z y bytes maxL ret) {index W : Nat} {yc : MethodName} {bc : ByteArray} {mc : Nat} {rm : Room} {c' s' : Nat} {Qc : Option Value → Heap → Prop} {ps : List FieldType} {argsL stk : List Value} {a : Addr} (hy1 : yc.name = "<init>") (w1 : (Jvm.Cond.methodLink y.cls index yc).before a0 Z = true) (w2 : (Jvm.Cond.instanceMethod yc).before a0 Z = true) (w3 : (Jvm.Cond.initialized yc.cls).before a0 Z = true) (w4 : (Jvm.Cond.code yc bc mc none).before a0 Z = true) (hy : yc.cls ≠ "java/lang/invoke/MethodHandle" ∧ yc.cls ≠ "java/lang/invoke/VarHandle") (M : Met l Z yc bc mc none rm (.ref a :: argsL).toArray h n0 Qc) (hsz : Ls.size = maxL) (hf : rm.frames + 1 ≤ R.frames) (hW : (st.map fun v => v.category).sum = W) (hl : W + (mc + 11) + rm.locals ≤ R.locals) (hc' : cells + rm.cells = c') (hs' : slots + rm.slots = s') (hc : c' ≤ R.cells) (hs : s' ≤ R.slots) (hd : decode bytes pc = .ok (.invokespecial index, 3)) (hn : pc + 3 = n) (hlen : parseMethodDescriptor yc.desc = some ⟨ps, none⟩) (hal : argsL.length = ps.length) (hst : stk = argsL.reverse ++ .ref a :: st) (k : ∀ sN, Cx p sN m meth c Z y bytes maxL ret → ∀ v h', Qc v h' → Go p l e R sN m args below meth c n0 Q c' s' h' (mkF m n Ls (v.toList ++ st))) : Go p l e R s m args below meth c n0 Q cells slots h (mkF m pc Ls (stk)) := fun T locs X N q => by
  subst hn hW hc' hs' hst
  obtain ⟨v, _, ⟨T', L', k', n''⟩, -, X', hS, hz, ⟨Lc, hQ, h1, h2, h3⟩, st'⟩ := X.specialBackS C.x (y := yc) hy1 C.own (mvT C.z w1) (mvT C.z w2) (mvT C.z w4) hy (backOfS (W := (st.map fun v => v.category).sum) (Q := fun v h L => Fr n0 L ∧ Qc v h) (M []) C.z w4 w3 hf hl) (g := mkF m pc Ls (argsL.reverse ++ .ref a :: st)) rfl (hsz.trans C.ml.symm) (Steps.refl _) (a := a) (argsL := argsL) (rest := st) (lenOf hlen hal) rfl (by show 2 * 0 + _ ≤ _; omega) (hb C.by hd) (fun _ _ => ⟨rfl, q, hc, hs⟩)
  dsimp only [Pt.U, Pt.locs, Pt.cells, Pt.slots] at X' hS hz h1 h2 h3 st' hQ
  subst h1 h2 h3
  obtain ⟨t, o, s1, r⟩ := k _ (C.move hS.1) v _ hQ.2 T' _ X' (Fr.app N hQ.1) rfl
  exact ⟨t, o, st'.trans s1, Ende.back hS (Nat.le_refl _) (by rw [← q]; exact hz) r⟩
theorem G.callV (C : Cx p s m meth c Z y bytes maxL ret) {index W : Nat} {yc : MethodName} {bc : ByteArray} {mc : Nat} {rc : Option FieldType} {rm : Room} {c' s' : Nat} {Qc : Option Value → Heap → Prop} {ps : List FieldType} {K : String} {yr : MethodName} {argsL stk : List Value} {a : Addr} (E : Exa Z h a K) (w1 : (Jvm.Cond.methodLink y.cls index yr).before a0 Z = true) (w5 : (Jvm.Cond.declares yr).before a0 Z = true) (hnf : ∀ s : State, Z.Warmed39 s.vm → NotFace s yr) (w6 : (Jvm.Cond.selects K yr yc).before a0 Z = true) (w2 : (Jvm.Cond.instanceMethod yc).before a0 Z = true) (w3 : (Jvm.Cond.initialized yc.cls).before a0 Z = true) (w4 : (Jvm.Cond.code yc bc mc rc).before a0 Z = true) (hy : yr.cls ≠ "java/lang/invoke/MethodHandle" ∧ yr.cls ≠ "java/lang/invoke/VarHandle") (M : Met l Z yc bc mc rc rm (.ref a :: argsL).toArray h n0 Qc) (hsz : Ls.size = maxL) (hf : rm.frames + 1 ≤ R.frames) (hW : (st.map fun v => v.category).sum = W) (hl : W + (mc + 11) + rm.locals ≤ R.locals) (hc' : cells + rm.cells = c') (hs' : slots + rm.slots = s') (hc : c' ≤ R.cells) (hs : s' ≤ R.slots) (hd : decode bytes pc = .ok (.invokevirtual index, 3)) (hn : pc + 3 = n) (hlen : parseMethodDescriptor yr.desc = some ⟨ps, rc⟩) (hal : argsL.length = ps.length) (hst : stk = argsL.reverse ++ .ref a :: st) (k : ∀ sN, Cx p sN m meth c Z y bytes maxL ret → ∀ v h', Qc v h' → Go p l e R sN m args below meth c n0 Q c' s' h' (mkF m n Ls (v.toList ++ st))) : Go p l e R s m args below meth c n0 Q cells slots h (mkF m pc Ls (stk)) := fun T locs X N q => by
  subst hn hW hc' hs' hst
  obtain ⟨cq, kq, qa, qb, qc⟩ := isOf C.z q E
  obtain ⟨v, _, ⟨T', L', k', n''⟩, -, X', hS, hz, ⟨Lc, hQ, h1, h2, h3⟩, st'⟩ := X.virtualBackS C.x (y := yr) (z := yc) C.own (mvT C.z w1) (mvT C.z w5) (hnf s C.z) (mvT C.z w6) (mvT C.z w2) hy (backOfS (W := (st.map fun v => v.category).sum) (Q := fun v h L => Fr n0 L ∧ Qc v h) (M []) C.z w4 w3 hf hl) qa qc (g := mkF m pc Ls (argsL.reverse ++ .ref a :: st)) rfl (hsz.trans C.ml.symm) (Steps.refl _) (argsL := argsL) (rest := st) (lenOf hlen hal) rfl (by show 2 * 0 + _ ≤ _; omega) (hb C.by hd) (fun _ _ => ⟨rfl, q, hc, hs⟩)
  dsimp only [Pt.U, Pt.locs, Pt.cells, Pt.slots] at X' hS hz h1 h2 h3 st' hQ
  subst h1 h2 h3
  obtain ⟨t, o, s1, r⟩ := k _ (C.move hS.1) v _ hQ.2 T' _ X' (Fr.app N hQ.1) rfl
  exact ⟨t, o, st'.trans s1, Ende.back hS (Nat.le_refl _) (by rw [← q]; exact hz) r⟩
theorem nfS {yr : MethodName} {K : String} {z : MethodName} (w6 : (Jvm.Cond.selects K yr z).before a0 Z = true) (hz : z = yr) : ∀ s : State, Z.Warmed39 s.vm → NotFace s yr := fun s hZ => by
  subst hz
  exact notFace_of_selects (args := #[]) (mvT hZ w6)
def Ints (Z : State) (h : Heap) (a : Addr) (ty : FieldType) (vs : List Int32) : Prop := ∃ k z, Arv Z h a k ty z (vs.map Value.int) (.int 0) ∧ z.toInt = vs.length
def Longs (Z : State) (h : Heap) (a : Addr) (vs : List Int64) : Prop := ∃ k z, Arv Z h a k .long z (vs.map Value.long) (.long 0) ∧ z.toInt = vs.length
theorem nat_clamp {j : Int32} : j.toNatClampNeg = j.toInt.toNat := rfl
theorem not_neg {j : Int32} (hj : 0 ≤ j.toInt) : ¬ j < 0 := by rw [lt_i]; exact Int.not_lt.mpr hj
theorem of_not_neg {j : Int32} (hj : ¬ j < 0) : 0 ≤ j.toInt := by rw [lt_i] at hj; exact Int.not_lt.mp hj
theorem inb {j z : Int32} {cl : Cell} {len : Nat} (hj : 0 ≤ j.toInt) (S : cl.slots.size = z.toNatClampNeg) (hz : z.toInt = len) (hl : j.toInt.toNat < len) : ¬ (j < 0 ∨ cl.slots.size ≤ j.toNatClampNeg) := by
  rintro (q | q)
  · exact not_neg hj q
  · rw [S, nat_clamp, nat_clamp, hz] at q; omega
theorem getD_map {α : Type} (f : α → Value) (vs : List α) (i : Nat) (d : Value) {x : α} (hx : vs[i]? = some x) : (vs.map f).getD i d = f x := by
  rw [List.getD_eq_getElem?_getD, List.getElem?_map, hx]; rfl
theorem lt_of_some {α : Type} {vs : List α} {i : Nat} {x : α} (hx : vs[i]? = some x) : i < vs.length := (List.getElem?_eq_some_iff.mp hx).1
theorem Ints.lt {a : Addr} {ty : FieldType} {vs : List Int32} (F : Ints Z h a ty vs) : a < h.size := by obtain ⟨k, z, A, -⟩ := F; exact A.lt
theorem Ints.ext {h' : Heap} {a : Addr} {ty : FieldType} {vs : List Int32} (F : Ints Z h a ty vs) (E : Ext h h') : Ints Z h' a ty vs := by obtain ⟨k, z, A, q⟩ := F; exact ⟨k, z, A.ext E, q⟩
theorem Ints.keep {h' : Heap} {ws : List Addr} {a : Addr} {ty : FieldType} {vs : List Int32} (F : Ints Z h a ty vs) (K : Keep h h' ws) (r : a ∉ ws) : Ints Z h' a ty vs := by obtain ⟨k, z, A, q⟩ := F; exact ⟨k, z, A.keep K r, q⟩
theorem Ints.other {h' : Heap} {sl : Nat} {v : Value} {a b : Addr} {ty : FieldType} {vs : List Int32} (F : Ints Z h a ty vs) (W : Wr h h' b sl v) (r : a ≠ b) : Ints Z h' a ty vs := by obtain ⟨k, z, A, q⟩ := F; exact ⟨k, z, A.other W r, q⟩
theorem Ints.len {a : Addr} {ty : FieldType} {vs : List Int32} (F : Ints Z h a ty vs) : (vs.length : Int) < 2147483648 := by obtain ⟨k, z, A, q⟩ := F; rw [← q]; exact (rng32 z).2
theorem Ints.at {a : Addr} {ty : FieldType} {vs : List Int32} (F : Ints Z h a ty vs) {j : Int32} {x : Int32} (hj : 0 ≤ j.toInt) (hx : vs[j.toInt.toNat]? = some x) : ∃ cl, Arr Z h a cl ty ∧ ¬ (j < 0 ∨ cl.slots.size ≤ j.toNatClampNeg) ∧ cl.slots[j.toNatClampNeg]? = some (.int x) ∧ fits ty (.int x) = true := by
  obtain ⟨k, z, ⟨cl, A, q1, S, N, H, G⟩, hz⟩ := F
  have hi := inb hj S hz (lt_of_some hx)
  have hi2 : j.toNatClampNeg < cl.slots.size := Nat.lt_of_not_le fun y => hi (Or.inr y)
  have e1 := H _ hi2
  have e2 := G _ hi2
  rw [nat_clamp, getD_map _ _ _ _ hx] at e1 e2
  exact ⟨cl, A, hi, e1, e2⟩
theorem Ints.put {h' : Heap} {a : Addr} {ty : FieldType} {vs : List Int32} (F : Ints Z h a ty vs) {j : Int32} {x : Int32} (hj : 0 ≤ j.toInt) (hl : j.toInt < vs.length) (hf : fits ty (.int x) = true) : ∃ cl, Arr Z h a cl ty ∧ ¬ (j < 0 ∨ cl.slots.size ≤ j.toNatClampNeg) ∧ (Wr h h' a j.toNatClampNeg (.int x) → Ints Z h' a ty (vs.set j.toInt.toNat x)) := by
  obtain ⟨k, z, ⟨cl, A, q1, S, N, H, G⟩, hz⟩ := F
  have hl2 : j.toInt.toNat < vs.length := by omega
  refine ⟨cl, A, inb hj S hz hl2, fun W => ⟨k, z, ?_, ?_⟩⟩
  · have r := Arv.set A q1 S N H G hf W j.toInt.toNat rfl (by rw [List.length_map]; exact hl2)
    rw [List.map_set]; exact r
  · rw [List.length_set]; exact hz
theorem Longs.lt {a : Addr} {vs : List Int64} (F : Longs Z h a vs) : a < h.size := by obtain ⟨k, z, A, -⟩ := F; exact A.lt
theorem Longs.ext {h' : Heap} {a : Addr} {vs : List Int64} (F : Longs Z h a vs) (E : Ext h h') : Longs Z h' a vs := by obtain ⟨k, z, A, q⟩ := F; exact ⟨k, z, A.ext E, q⟩
theorem Longs.keep {h' : Heap} {ws : List Addr} {a : Addr} {vs : List Int64} (F : Longs Z h a vs) (K : Keep h h' ws) (r : a ∉ ws) : Longs Z h' a vs := by obtain ⟨k, z, A, q⟩ := F; exact ⟨k, z, A.keep K r, q⟩
theorem Longs.other {h' : Heap} {sl : Nat} {v : Value} {a b : Addr} {vs : List Int64} (F : Longs Z h a vs) (W : Wr h h' b sl v) (r : a ≠ b) : Longs Z h' a vs := by obtain ⟨k, z, A, q⟩ := F; exact ⟨k, z, A.other W r, q⟩
theorem Longs.len {a : Addr} {vs : List Int64} (F : Longs Z h a vs) : (vs.length : Int) < 2147483648 := by obtain ⟨k, z, A, q⟩ := F; rw [← q]; exact (rng32 z).2
theorem Longs.at {a : Addr} {vs : List Int64} (F : Longs Z h a vs) {j : Int32} {x : Int64} (hj : 0 ≤ j.toInt) (hx : vs[j.toInt.toNat]? = some x) : ∃ cl, Arr Z h a cl .long ∧ ¬ (j < 0 ∨ cl.slots.size ≤ j.toNatClampNeg) ∧ cl.slots[j.toNatClampNeg]? = some (.long x) ∧ fits .long (.long x) = true := by
  obtain ⟨k, z, ⟨cl, A, q1, S, N, H, G⟩, hz⟩ := F
  have hi := inb hj S hz (lt_of_some hx)
  have hi2 : j.toNatClampNeg < cl.slots.size := Nat.lt_of_not_le fun y => hi (Or.inr y)
  have e1 := H _ hi2
  have e2 := G _ hi2
  rw [nat_clamp, getD_map _ _ _ _ hx] at e1 e2
  exact ⟨cl, A, hi, e1, e2⟩
theorem Longs.put {h' : Heap} {a : Addr} {vs : List Int64} (F : Longs Z h a vs) {j : Int32} {x : Int64} (hj : 0 ≤ j.toInt) (hl : j.toInt < vs.length) (hf : fits .long (.long x) = true) : ∃ cl, Arr Z h a cl .long ∧ ¬ (j < 0 ∨ cl.slots.size ≤ j.toNatClampNeg) ∧ (Wr h h' a j.toNatClampNeg (.long x) → Longs Z h' a (vs.set j.toInt.toNat x)) := by
  obtain ⟨k, z, ⟨cl, A, q1, S, N, H, G⟩, hz⟩ := F
  have hl2 : j.toInt.toNat < vs.length := by omega
  refine ⟨cl, A, inb hj S hz hl2, fun W => ⟨k, z, ?_, ?_⟩⟩
  · have r := Arv.set A q1 S N H G hf W j.toInt.toNat rfl (by rw [List.length_map]; exact hl2)
    rw [List.map_set]; exact r
  · rw [List.length_set]; exact hz
theorem G.iaload (C : Cx p s m meth c Z y bytes maxL ret) {a : Addr} {j : Int32} {x : Int32} {vs : List Int32} (F : Ints Z h a .int vs) (hj : 0 ≤ j.toInt) (hx : vs[j.toInt.toNat]? = some x) (hd : decode bytes pc = .ok (.iaload, 1)) (hn : pc + 1 = n) (k : Go p l e R s m args below meth c n0 Q cells slots h (mkF m n Ls (.int x :: st))) : Go p l e R s m args below meth c n0 Q cells slots h (mkF m pc Ls (.int j :: .ref a :: st)) := by
  subst hn
  obtain ⟨cl, A, h1, h2, -⟩ := F.at hj hx
  exact Go.via (fun T locs X q t r => X.iaload C.x (j := j) (v := .int x) (by rw [q]; exact A.1) (State.isArrayOf_alike C.z.alike A.2.1) A.2.2 h1 h2 (g := mkF m pc Ls (.int j :: .ref a :: st)) rfl rfl (hb C.by hd) t r) k
theorem G.laload (C : Cx p s m meth c Z y bytes maxL ret) {a : Addr} {j : Int32} {x : Int64} {vs : List Int64} (F : Longs Z h a vs) (hj : 0 ≤ j.toInt) (hx : vs[j.toInt.toNat]? = some x) (hd : decode bytes pc = .ok (.laload, 1)) (hn : pc + 1 = n) (k : Go p l e R s m args below meth c n0 Q cells slots h (mkF m n Ls (.long x :: st))) : Go p l e R s m args below meth c n0 Q cells slots h (mkF m pc Ls (.int j :: .ref a :: st)) := by
  subst hn
  obtain ⟨cl, A, h1, h2, -⟩ := F.at hj hx
  exact Go.via (fun T locs X q t r => X.laload C.x (j := j) (v := .long x) (by rw [q]; exact A.1) (State.isArrayOf_alike C.z.alike A.2.1) A.2.2 h1 h2 (g := mkF m pc Ls (.int j :: .ref a :: st)) rfl rfl (hb C.by hd) t r) k
theorem G.caload (C : Cx p s m meth c Z y bytes maxL ret) {a : Addr} {j : Int32} {x : Int32} {vs : List Int32} (F : Ints Z h a .char vs) (hj : 0 ≤ j.toInt) (hx : vs[j.toInt.toNat]? = some x) (hd : decode bytes pc = .ok (.caload, 1)) (hn : pc + 1 = n) (k : Go p l e R s m args below meth c n0 Q cells slots h (mkF m n Ls (.int x :: st))) : Go p l e R s m args below meth c n0 Q cells slots h (mkF m pc Ls (.int j :: .ref a :: st)) := by
  subst hn
  obtain ⟨cl, A, h1, h2, -⟩ := F.at hj hx
  exact Go.via (fun T locs X q t r => X.caload C.x (j := j) (v := .int x) (by rw [q]; exact A.1) (State.isArrayOf_alike C.z.alike A.2.1) A.2.2 h1 h2 (g := mkF m pc Ls (.int j :: .ref a :: st)) rfl rfl (hb C.by hd) t r) k
theorem G.baload (C : Cx p s m meth c Z y bytes maxL ret) {a : Addr} {j : Int32} {x : Int32} {vs : List Int32} (F : Ints Z h a .byte vs) (hj : 0 ≤ j.toInt) (hx : vs[j.toInt.toNat]? = some x) (hd : decode bytes pc = .ok (.baload, 1)) (hn : pc + 1 = n) (k : Go p l e R s m args below meth c n0 Q cells slots h (mkF m n Ls (.int x :: st))) : Go p l e R s m args below meth c n0 Q cells slots h (mkF m pc Ls (.int j :: .ref a :: st)) := by
  subst hn
  obtain ⟨cl, A, h1, h2, -⟩ := F.at hj hx
  exact Go.via (fun T locs X q t r => X.baloadBytes C.x (j := j) (v := .int x) (by rw [q]; exact A.1) (State.isArrayOf_alike C.z.alike A.2.1) A.2.2 h1 h2 (g := mkF m pc Ls (.int j :: .ref a :: st)) rfl rfl (hb C.by hd) t r) k
theorem G.baloadZ (C : Cx p s m meth c Z y bytes maxL ret) {a : Addr} {j : Int32} {x : Int32} {vs : List Int32} (F : Ints Z h a .boolean vs) (hj : 0 ≤ j.toInt) (hx : vs[j.toInt.toNat]? = some x) (hd : decode bytes pc = .ok (.baload, 1)) (hn : pc + 1 = n) (k : Go p l e R s m args below meth c n0 Q cells slots h (mkF m n Ls (.int x :: st))) : Go p l e R s m args below meth c n0 Q cells slots h (mkF m pc Ls (.int j :: .ref a :: st)) := by
  subst hn
  obtain ⟨cl, A, h1, h2, -⟩ := F.at hj hx
  exact Go.via (fun T locs X q t r => X.baloadBooleans C.x (j := j) (v := .int x) (by rw [q]; exact A.1) (State.isArrayOf_alike C.z.alike A.2.1) A.2.2 h1 h2 (g := mkF m pc Ls (.int j :: .ref a :: st)) rfl rfl (hb C.by hd) t r) k
theorem G.iastore (C : Cx p s m meth c Z y bytes maxL ret) {a : Addr} {j : Int32} {x : Int32} {vs : List Int32} (F : Ints Z h a .int vs) (hj : 0 ≤ j.toInt) (hl : j.toInt < vs.length) (g : n0 ≤ a) (hd : decode bytes pc = .ok (.iastore, 1)) (hn : pc + 1 = n) (k : ∀ h', Keep h h' [a] → (∃ w, Wr h h' a j.toNatClampNeg w) → Ints Z h' a .int (vs.set j.toInt.toNat x) → Go p l e R s m args below meth c n0 Q cells slots h' (mkF m n Ls (st))) : Go p l e R s m args below meth c n0 Q cells slots h (mkF m pc Ls (.int x :: .int j :: .ref a :: st)) := fun T locs X N q => by
  subst hn
  obtain ⟨cl, A, h1, -⟩ := F.put (h' := h) hj hl (x := x) rfl
  obtain ⟨T', h', X', e', W, st'⟩ := stI X C.x C.z q A (j := j) h1 (g := mkF m pc Ls (.int x :: .int j :: .ref a :: st)) rfl rfl (hb C.by hd)
  obtain ⟨cl2, A2, -, h3⟩ := F.put (h' := h') hj hl (x := x) rfl
  obtain ⟨t, o, s1, r⟩ := k h' (Keep.of_wr W) ⟨_, W⟩ (h3 W) T' _ X' (Fr.snoc X' N g) e'
  exact ⟨t, o, st' t s1, Ende.up (Keep.of_wr W).1 r⟩
theorem G.lastore (C : Cx p s m meth c Z y bytes maxL ret) {a : Addr} {j : Int32} {x : Int64} {vs : List Int64} (F : Longs Z h a vs) (hj : 0 ≤ j.toInt) (hl : j.toInt < vs.length) (g : n0 ≤ a) (hd : decode bytes pc = .ok (.lastore, 1)) (hn : pc + 1 = n) (k : ∀ h', Keep h h' [a] → (∃ w, Wr h h' a j.toNatClampNeg w) → Longs Z h' a (vs.set j.toInt.toNat x) → Go p l e R s m args below meth c n0 Q cells slots h' (mkF m n Ls (st))) : Go p l e R s m args below meth c n0 Q cells slots h (mkF m pc Ls (.long x :: .int j :: .ref a :: st)) := fun T locs X N q => by
  subst hn
  obtain ⟨cl, A, h1, -⟩ := F.put (h' := h) hj hl (x := x) rfl
  obtain ⟨T', h', X', e', W, st'⟩ := stJ X C.x C.z q A (j := j) h1 (g := mkF m pc Ls (.long x :: .int j :: .ref a :: st)) rfl rfl (hb C.by hd)
  obtain ⟨cl2, A2, -, h3⟩ := F.put (h' := h') hj hl (x := x) rfl
  obtain ⟨t, o, s1, r⟩ := k h' (Keep.of_wr W) ⟨_, W⟩ (h3 W) T' _ X' (Fr.snoc X' N g) e'
  exact ⟨t, o, st' t s1, Ende.up (Keep.of_wr W).1 r⟩
theorem G.castore (C : Cx p s m meth c Z y bytes maxL ret) {a : Addr} {j : Int32} {x : Int32} {vs : List Int32} (F : Ints Z h a .char vs) (hj : 0 ≤ j.toInt) (hl : j.toInt < vs.length) (g : n0 ≤ a) (hd : decode bytes pc = .ok (.castore, 1)) (hn : pc + 1 = n) (k : ∀ h', Keep h h' [a] → (∃ w, Wr h h' a j.toNatClampNeg w) → Ints Z h' a .char (vs.set j.toInt.toNat (nar .char x)) → Go p l e R s m args below meth c n0 Q cells slots h' (mkF m n Ls (st))) : Go p l e R s m args below meth c n0 Q cells slots h (mkF m pc Ls (.int x :: .int j :: .ref a :: st)) := fun T locs X N q => by
  subst hn
  obtain ⟨cl, A, h1, -⟩ := F.put (h' := h) hj hl (x := (nar .char x)) (fits_nar_char x)
  obtain ⟨T', h', X', e', W, st'⟩ := stC X C.x C.z q A (j := j) h1 (g := mkF m pc Ls (.int x :: .int j :: .ref a :: st)) rfl rfl (hb C.by hd)
  obtain ⟨cl2, A2, -, h3⟩ := F.put (h' := h') hj hl (x := (nar .char x)) (fits_nar_char x)
  obtain ⟨t, o, s1, r⟩ := k h' (Keep.of_wr W) ⟨_, W⟩ (h3 W) T' _ X' (Fr.snoc X' N g) e'
  exact ⟨t, o, st' t s1, Ende.up (Keep.of_wr W).1 r⟩
theorem G.bastore (C : Cx p s m meth c Z y bytes maxL ret) {a : Addr} {j : Int32} {x : Int32} {vs : List Int32} (F : Ints Z h a .byte vs) (hj : 0 ≤ j.toInt) (hl : j.toInt < vs.length) (g : n0 ≤ a) (hd : decode bytes pc = .ok (.bastore, 1)) (hn : pc + 1 = n) (k : ∀ h', Keep h h' [a] → (∃ w, Wr h h' a j.toNatClampNeg w) → Ints Z h' a .byte (vs.set j.toInt.toNat (nar .byte x)) → Go p l e R s m args below meth c n0 Q cells slots h' (mkF m n Ls (st))) : Go p l e R s m args below meth c n0 Q cells slots h (mkF m pc Ls (.int x :: .int j :: .ref a :: st)) := fun T locs X N q => by
  subst hn
  obtain ⟨cl, A, h1, -⟩ := F.put (h' := h) hj hl (x := (nar .byte x)) (fits_nar_byte x)
  obtain ⟨T', h', X', e', W, st'⟩ := stB X C.x C.z q A (j := j) h1 (g := mkF m pc Ls (.int x :: .int j :: .ref a :: st)) rfl rfl (hb C.by hd)
  obtain ⟨cl2, A2, -, h3⟩ := F.put (h' := h') hj hl (x := (nar .byte x)) (fits_nar_byte x)
  obtain ⟨t, o, s1, r⟩ := k h' (Keep.of_wr W) ⟨_, W⟩ (h3 W) T' _ X' (Fr.snoc X' N g) e'
  exact ⟨t, o, st' t s1, Ende.up (Keep.of_wr W).1 r⟩
theorem G.bastoreZ (C : Cx p s m meth c Z y bytes maxL ret) {a : Addr} {j : Int32} {x : Int32} {vs : List Int32} (F : Ints Z h a .boolean vs) (hj : 0 ≤ j.toInt) (hl : j.toInt < vs.length) (g : n0 ≤ a) (hd : decode bytes pc = .ok (.bastore, 1)) (hn : pc + 1 = n) (k : ∀ h', Keep h h' [a] → (∃ w, Wr h h' a j.toNatClampNeg w) → Ints Z h' a .boolean (vs.set j.toInt.toNat (nar .boolean x)) → Go p l e R s m args below meth c n0 Q cells slots h' (mkF m n Ls (st))) : Go p l e R s m args below meth c n0 Q cells slots h (mkF m pc Ls (.int x :: .int j :: .ref a :: st)) := fun T locs X N q => by
  subst hn
  obtain ⟨cl, A, h1, -⟩ := F.put (h' := h) hj hl (x := (nar .boolean x)) (fits_nar_bool x)
  obtain ⟨T', h', X', e', W, st'⟩ := stZ X C.x C.z q A (j := j) h1 (g := mkF m pc Ls (.int x :: .int j :: .ref a :: st)) rfl rfl (hb C.by hd)
  obtain ⟨cl2, A2, -, h3⟩ := F.put (h' := h') hj hl (x := (nar .boolean x)) (fits_nar_bool x)
  obtain ⟨t, o, s1, r⟩ := k h' (Keep.of_wr W) ⟨_, W⟩ (h3 W) T' _ X' (Fr.snoc X' N g) e'
  exact ⟨t, o, st' t s1, Ende.up (Keep.of_wr W).1 r⟩
theorem len32 {z : Int32} {k : Nat} (hz : z.toInt = k) : z = Int32.ofNat k := by
  have h2 := (rng32 z).2
  exact Int32.toInt_inj.mp (by rw [Int32.toInt_ofNat_of_lt (by omega)]; exact hz)
theorem G.arraylengthI (C : Cx p s m meth c Z y bytes maxL ret) {a : Addr} {ty : FieldType} {vs : List Int32} {len : Int32} (F : Ints Z h a ty vs) (hlen : len.toInt = vs.length) (hd : decode bytes pc = .ok (.arraylength, 1)) (hn : pc + 1 = n) (k : Go p l e R s m args below meth c n0 Q cells slots h (mkF m n Ls (.int len :: st))) : Go p l e R s m args below meth c n0 Q cells slots h (mkF m pc Ls (.ref a :: st)) := by
  subst hn
  obtain ⟨k', z, ⟨cl, A, q1, S, N, H, G⟩, hz⟩ := F
  have e1 : cl.slots.size.toInt32 = len := (len_of S N).trans (Int32.toInt_inj.mp (hz.trans hlen.symm))
  exact Go.via (fun T locs X q t r => X.arraylength C.x (by rw [q]; exact A.1) (State.isArrayOf_alike C.z.alike A.2.1) (g := mkF m pc Ls (.ref a :: st)) rfl rfl (hb C.by hd) t (by rw [e1]; exact r)) k
theorem G.arraylengthL (C : Cx p s m meth c Z y bytes maxL ret) {a : Addr} {vs : List Int64} {len : Int32} (F : Longs Z h a vs) (hlen : len.toInt = vs.length) (hd : decode bytes pc = .ok (.arraylength, 1)) (hn : pc + 1 = n) (k : Go p l e R s m args below meth c n0 Q cells slots h (mkF m n Ls (.int len :: st))) : Go p l e R s m args below meth c n0 Q cells slots h (mkF m pc Ls (.ref a :: st)) := by
  subst hn
  obtain ⟨k', z, ⟨cl, A, q1, S, N, H, G⟩, hz⟩ := F
  have e1 : cl.slots.size.toInt32 = len := (len_of S N).trans (Int32.toInt_inj.mp (hz.trans hlen.symm))
  exact Go.via (fun T locs X q t r => X.arraylength C.x (by rw [q]; exact A.1) (State.isArrayOf_alike C.z.alike A.2.1) (g := mkF m pc Ls (.ref a :: st)) rfl rfl (hb C.by hd) t (by rw [e1]; exact r)) k
theorem G.newarray (C : Cx p s m meth c Z y bytes maxL ret) {aty : ArrayType} {ty : FieldType} {len : Int32} {cap c' s' : Nat} (w : (Jvm.Cond.arrayClass ty).before a0 Z = true) (hty : newarray.typeOf aty = ty) (hdv : defaultValue ty = .int 0) (hlen : 0 ≤ len.toInt) (hcap : len.toInt ≤ cap) (hbig : cap * 8 ≤ 536870912) (hd : decode bytes pc = .ok (.newarray aty, 2)) (hn : pc + 2 = n) (hc' : cells + 1 = c') (hs' : slots + cap = s') (hc : c' ≤ R.cells) (hs : s' ≤ R.slots)
    (k : ∀ h' b, b = h.size → Ext h h' → Ints Z h' b ty (List.replicate len.toInt.toNat 0) → Go p l e R s m args below meth c n0 Q c' s' h' (mkF m n Ls (.ref b :: st))) : Go p l e R s m args below meth c n0 Q cells slots h (mkF m pc Ls (.int len :: st)) := fun T locs X N q => by
  subst hn hc' hs' hty
  obtain ⟨T', h', cA, X', e', E, A, st'⟩ := newP X C.x C.z w q (g := mkF m pc Ls (.int len :: st)) rfl (hb C.by hd) rfl (not_neg hlen) (cap := cap) (by rw [nat_clamp]; omega) hbig hc hs
  have V := (Arv.new A (not_neg hlen))
  rw [hdv] at V
  have V2 := V.pad (pad_rep [] _ len.toInt.toNat)
  rw [List.nil_append, ← List.map_replicate (f := Value.int)] at V2
  obtain ⟨t, o, s1, r⟩ := k h' _ rfl E ⟨cA, len, V2, by rw [List.length_replicate]; omega⟩ T' _ X' N e'
  exact ⟨t, o, st' t s1, Ende.up E.1 r⟩
theorem G.newarrayJ (C : Cx p s m meth c Z y bytes maxL ret) {aty : ArrayType} {ty : FieldType} {len : Int32} {cap c' s' : Nat} (w : (Jvm.Cond.arrayClass ty).before a0 Z = true) (hty : newarray.typeOf aty = ty) (hdv : defaultValue ty = .long 0) (hJ : ty = .long) (hlen : 0 ≤ len.toInt) (hcap : len.toInt ≤ cap) (hbig : cap * 8 ≤ 536870912) (hd : decode bytes pc = .ok (.newarray aty, 2)) (hn : pc + 2 = n) (hc' : cells + 1 = c') (hs' : slots + cap = s') (hc : c' ≤ R.cells) (hs : s' ≤ R.slots)
    (k : ∀ h' b, b = h.size → Ext h h' → Longs Z h' b (List.replicate len.toInt.toNat 0) → Go p l e R s m args below meth c n0 Q c' s' h' (mkF m n Ls (.ref b :: st))) : Go p l e R s m args below meth c n0 Q cells slots h (mkF m pc Ls (.int len :: st)) := fun T locs X N q => by
  subst hn hc' hs' hty
  obtain ⟨T', h', cA, X', e', E, A, st'⟩ := newP X C.x C.z w q (g := mkF m pc Ls (.int len :: st)) rfl (hb C.by hd) rfl (not_neg hlen) (cap := cap) (by rw [nat_clamp]; omega) hbig hc hs
  have V := (Arv.new A (not_neg hlen))
  rw [hdv] at V
  have V2 := V.pad (pad_rep [] _ len.toInt.toNat)
  rw [List.nil_append, ← List.map_replicate (f := Value.long), hJ] at V2
  obtain ⟨t, o, s1, r⟩ := k h' _ rfl E ⟨cA, len, V2, by rw [List.length_replicate]; omega⟩ T' _ X' N e'
  exact ⟨t, o, st' t s1, Ende.up E.1 r⟩
theorem getD_at {α : Type} {vs : List α} {i : Nat} {d : α} (h : i < vs.length) : vs[i]? = some (vs.getD i d) := by
  rw [List.getD_eq_getElem?_getD, List.getElem?_eq_getElem h]; rfl
def Refs (Z : State) (h : Heap) (a : Addr) (ty : FieldType) (vs : List Value) : Prop := ∃ k z, Arv Z h a k ty z vs .null ∧ z.toInt = vs.length
theorem Refs.lt {a : Addr} {ty : FieldType} {vs : List Value} (F : Refs Z h a ty vs) : a < h.size := by obtain ⟨k, z, A, -⟩ := F; exact A.lt
theorem Refs.keep {h' : Heap} {ws : List Addr} {a : Addr} {ty : FieldType} {vs : List Value} (F : Refs Z h a ty vs) (K : Keep h h' ws) (r : a ∉ ws) : Refs Z h' a ty vs := by obtain ⟨k, z, A, q⟩ := F; exact ⟨k, z, A.keep K r, q⟩
theorem Refs.at {a : Addr} {ty : FieldType} {vs : List Value} (F : Refs Z h a ty vs) {j : Int32} {x : Value} (hj : 0 ≤ j.toInt) (hx : vs[j.toInt.toNat]? = some x) : ∃ cl, Arr Z h a cl ty ∧ ¬ (j < 0 ∨ cl.slots.size ≤ j.toNatClampNeg) ∧ cl.slots[j.toNatClampNeg]? = some x := by
  obtain ⟨k, z, ⟨cl, A, q1, S, N, H, G⟩, hz⟩ := F
  have hi := inb hj S hz (lt_of_some hx)
  have hi2 : j.toNatClampNeg < cl.slots.size := Nat.lt_of_not_le fun y => hi (Or.inr y)
  have e1 := H _ hi2
  rw [nat_clamp, List.getD_eq_getElem?_getD, hx] at e1
  exact ⟨cl, A, hi, e1⟩
theorem G.aaload (C : Cx p s m meth c Z y bytes maxL ret) {a : Addr} {j : Int32} {x : Value} {ty : FieldType} {vs : List Value} (F : Refs Z h a ty vs) (hty : ty.isReference = true) (hj : 0 ≤ j.toInt) (hx : vs[j.toInt.toNat]? = some x) (hd : decode bytes pc = .ok (.aaload, 1)) (hn : pc + 1 = n) (k : Go p l e R s m args below meth c n0 Q cells slots h (mkF m n Ls (x :: st))) : Go p l e R s m args below meth c n0 Q cells slots h (mkF m pc Ls (.int j :: .ref a :: st)) := by
  subst hn
  obtain ⟨cl, A, h1, h2⟩ := F.at hj hx
  exact Go.via (fun T locs X q t r => X.aaload C.x (j := j) (v := x) (by rw [q]; exact A.1) (State.isArrayOf_alike C.z.alike A.2.1) hty A.2.2 h1 h2 (g := mkF m pc Ls (.int j :: .ref a :: st)) rfl rfl (hb C.by hd) t r) k
theorem G.arraylengthR (C : Cx p s m meth c Z y bytes maxL ret) {a : Addr} {ty : FieldType} {vs : List Value} {len : Int32} (F : Refs Z h a ty vs) (hlen : len.toInt = vs.length) (hd : decode bytes pc = .ok (.arraylength, 1)) (hn : pc + 1 = n) (k : Go p l e R s m args below meth c n0 Q cells slots h (mkF m n Ls (.int len :: st))) : Go p l e R s m args below meth c n0 Q cells slots h (mkF m pc Ls (.ref a :: st)) := by
  subst hn
  obtain ⟨k', z, ⟨cl, A, q1, S, N, H, G⟩, hz⟩ := F
  have e1 : cl.slots.size.toInt32 = len := (len_of S N).trans (Int32.toInt_inj.mp (hz.trans hlen.symm))
  exact Go.via (fun T locs X q t r => X.arraylength C.x (by rw [q]; exact A.1) (State.isArrayOf_alike C.z.alike A.2.1) (g := mkF m pc Ls (.ref a :: st)) rfl rfl (hb C.by hd) t (by rw [e1]; exact r)) k
theorem eqv_r {Z : State} {args : Array Value} {X F : Term} {idx : List Nat} {y : Addr} (hF : F.eval args Z none idx Z = some (.ref y)) (h : (Jvm.Cond.eq X F).value args Z none Z idx = some true) : X.eval args Z none idx Z = some (.ref y) := by
  obtain ⟨x, y', e1, e2, k1, k2⟩ := cmp_v (Or.inl h)
  cases hF.symm.trans e2
  have hx : x.isRef = true := k2.2
  have := gotT (eq_R e1 hF hx rfl) h
  rw [e1, this]
theorem len_q {Z : State} {args : Array Value} {t : Term} {a : Addr} {cl : Cell} {y : Int32} (ht : t.eval args Z none [] Z = some (.ref a)) (ha : Z.arrayAt? a = some cl) (h : (Term.length t).eval args Z none [] Z = some (.int y)) : cl.slots.size < 2 ^ 31 ∧ cl.slots.size.toInt32 = y := by
  simp [Term.eval, ht, ha] at h
  exact h
theorem Refs.start {s : State} {a : Addr} {cl : Cell} {ty : FieldType} {z : Int32} {vs : List Value} (hf : Fit s) (A : Arr s s.heap a cl ty) (q : cl.slots.size < 2 ^ 31 ∧ cl.slots.size.toInt32 = z) (hz : z.toInt = vs.length) (H : HasL cl 0 vs) : Refs s s.heap a ty vs :=
  ⟨cl.cls, z, Arv.start hf A q.1 q.2 (not_neg (by omega)) (by rw [nat_clamp]; omega) H, hz⟩
theorem Ints.start {s : State} {a : Addr} {cl : Cell} {ty : FieldType} {z : Int32} {vs : List Int32} (hf : Fit s) (A : Arr s s.heap a cl ty) (q : cl.slots.size < 2 ^ 31 ∧ cl.slots.size.toInt32 = z) (hz : z.toInt = vs.length) (H : HasL cl 0 (vs.map Value.int)) : Ints s s.heap a ty vs :=
  ⟨cl.cls, z, Arv.start hf A q.1 q.2 (not_neg (by omega)) (by rw [nat_clamp, List.length_map]; omega) H, hz⟩
theorem us_all (vs : List Int32) : ((List.range vs.length).map fun i => (vs.map Value.int).getD (0 + i) (.int 0)) = vs.map Value.int := by
  apply List.ext_getElem (by simp)
  intro i h1 h2
  simp at h1
  simp [h1]
theorem G.arraycopy0 (C : Cx p s m meth c Z y bytes maxL ret) {index W : Nat} {ty : FieldType} {a b : Addr} {vs vd : List Int32} {nn : Int32} (w1 : (Jvm.Cond.methodLink y.cls index Jvm.Stand.acN).before a0 Z = true) (w2 : (Jvm.Cond.native Jvm.Stand.acN).before a0 Z = true) (w3 : (Jvm.Cond.static Jvm.Stand.acN).before a0 Z = true) (w4 : (Jvm.Cond.initialized "java/lang/System").before a0 Z = true) (A : Ints Z h a ty vs) (B : Ints Z h b ty vd) (hp : refKind ty = false) (h3 : nn.toInt = vs.length) (h5 : vs.length ≤ vd.length) (g : n0 ≤ b)
    (hd : decode bytes pc = .ok (.invokestatic index, 3)) (hsz : Ls.size = maxL) (hf : 1 ≤ R.frames) (hW : (st.map fun v => v.category).sum = W) (hlo : W + (nativeFrameWords "java/lang/System" "arraycopy" 5 + 11) ≤ R.locals) (hn : pc + 3 = n) (k : ∀ h', Keep h h' [b] → Ints Z h' b ty (vs ++ vd.drop vs.length) → Go p l e R s m args below meth c n0 Q cells slots h' (mkF m n Ls (st))) : Go p l e R s m args below meth c n0 Q cells slots h (mkF m pc Ls (.int nn :: .int 0 :: .ref b :: .int 0 :: .ref a :: st)) := fun T locs X N q => by
  subst hn hW
  obtain ⟨k1, z1, A1, e1⟩ := A
  obtain ⟨k2, z2, B1, e2⟩ := B
  have hnn : nn.toNatClampNeg = vs.length := by rw [nat_clamp, h3]; rfl
  have z1n : z1.toNatClampNeg = vs.length := by rw [nat_clamp, e1]; rfl
  have z2n : z2.toNatClampNeg = vd.length := by rw [nat_clamp, e2]; rfl
  obtain ⟨T', h', L, X', e', NL, K, V, st'⟩ := cpA X C.x C.z C.own w1 w2 w3 w4 q (us := vs.map Value.int) A1 B1 (Or.inl ⟨rfl, hp⟩) (sp := 0) (dp := 0) (nn := nn) (by decide) (by decide) (not_neg (by omega)) (by rw [hnn, z1n]; show 0 + _ ≤ _; omega) (by rw [hnn, z2n]; show 0 + _ ≤ _; omega) (by rw [hnn]; exact (us_all vs).symm) (by rw [hnn, List.length_map]; show 0 + _ ≤ _; omega) N g (g := mkF m pc Ls (.int nn :: .int 0 :: .ref b :: .int 0 :: .ref a :: st)) rfl (hsz.trans C.ml.symm) rfl (hb C.by hd) hf (W := (st.map fun v => v.category).sum) (by show 2 * 0 + _ ≤ _; omega) hlo
  rw [hnn, show (0 : Int32).toNatClampNeg = 0 from rfl, List.take_zero, List.nil_append, Nat.zero_add, ← List.map_drop, ← List.map_append] at V
  obtain ⟨t, o, s1, r⟩ := k h' K ⟨k2, z2, V, by rw [e2, List.length_append, List.length_drop]; omega⟩ T' L X' NL e'
  exact ⟨t, o, st' t s1, Ende.up K.1 r⟩
theorem kext {h' : Heap} (E : Ext h h') : Keep h h' [] := (Keep.refl h []).ext E
theorem Keep.tr {h' h'' : Heap} {ws ws' : List Addr} (K : Keep h h' ws) (K' : Keep h' h'' ws') (q : ∀ x ∈ ws', x ∈ ws ∨ h.size ≤ x) : Keep h h'' ws := K.trans K' q
theorem G.dconst0 (C : Cx p s m meth c Z y bytes maxL ret)  (hd : decode bytes pc = .ok (.dconst 0, 1))  (hn : pc + 1 = n) (k : Go p l e R s m args below meth c n0 Q cells slots h (mkF m n Ls (.double FP.dconst0 :: st))) : Go p l e R s m args below meth c n0 Q cells slots h (mkF m pc Ls (st)) := by
  subst hn
  exact Go.via (fun T locs X _ t q => XS.dconst0 X.here C.x rfl (hb C.by hd) rfl q) k
theorem G.dconst1 (C : Cx p s m meth c Z y bytes maxL ret)  (hd : decode bytes pc = .ok (.dconst 1, 1))  (hn : pc + 1 = n) (k : Go p l e R s m args below meth c n0 Q cells slots h (mkF m n Ls (.double FP.dconst1 :: st))) : Go p l e R s m args below meth c n0 Q cells slots h (mkF m pc Ls (st)) := by
  subst hn
  exact Go.via (fun T locs X _ t q => XS.dconst1 X.here C.x rfl (hb C.by hd) rfl q) k
theorem G.dload (C : Cx p s m meth c Z y bytes maxL ret) {k : Nat} {v : UInt64} (hd : decode bytes pc = .ok (.dload k, 2)) (hl : Ls[k]? = some (.val (.double v))) (hn : pc + 2 = n) (k : Go p l e R s m args below meth c n0 Q cells slots h (mkF m n Ls (.double v :: st))) : Go p l e R s m args below meth c n0 Q cells slots h (mkF m pc Ls (st)) := by
  subst hn
  exact Go.via (fun T locs X _ t q => XS.dload X.here C.x rfl (hb C.by hd) hl q) k
theorem G.dloadN (C : Cx p s m meth c Z y bytes maxL ret) {k : Fin 4} {v : UInt64} (hd : decode bytes pc = .ok (.dload_n k, 1)) (hl : Ls[k.val]? = some (.val (.double v))) (hn : pc + 1 = n) (k : Go p l e R s m args below meth c n0 Q cells slots h (mkF m n Ls (.double v :: st))) : Go p l e R s m args below meth c n0 Q cells slots h (mkF m pc Ls (st)) := by
  subst hn
  exact Go.via (fun T locs X _ t q => XS.dloadN X.here C.x rfl (hb C.by hd) hl q) k
theorem G.ldc2D (C : Cx p s m meth c Z y bytes maxL ret) {index : Nat} {v : UInt64} (w : (Jvm.Cond.constantDouble y.cls index v).before a0 Z = true) (hd : decode bytes pc = .ok (.ldc2_w index, 3)) (hn : pc + 3 = n) (k : Go p l e R s m args below meth c n0 Q cells slots h (mkF m n Ls (.double v :: st))) : Go p l e R s m args below meth c n0 Q cells slots h (mkF m pc Ls (st)) := by
  subst hn
  exact Go.via (fun T locs X _ t q => X.ldc2DoubleC C.x C.own (mvT C.z w) (g := mkF m pc Ls st) rfl (hb C.by hd) t q) k
def ArrN (Z : State) (h : Heap) (a : Addr) (ty : FieldType) (k : Nat) : Prop := ∃ cl, Arr Z h a cl ty ∧ cl.slots.size = k
theorem ArrN.lt {a : Addr} {ty : FieldType} {k : Nat} (F : ArrN Z h a ty k) : a < h.size := by obtain ⟨cl, A, -⟩ := F; exact A.lt
theorem ArrN.keep {h' : Heap} {ws : List Addr} {a : Addr} {ty : FieldType} {k : Nat} (F : ArrN Z h a ty k) (K : Keep h h' ws) (r : a ∉ ws) : ArrN Z h' a ty k := by obtain ⟨cl, A, q⟩ := F; exact ⟨cl, ⟨K.2.1 a cl A.1 r, A.2⟩, q⟩
theorem ArrN.wr {h' : Heap} {a : Addr} {ty : FieldType} {k sl : Nat} {v : Value} (F : ArrN Z h a ty k) (W : Wr h h' a sl v) : ArrN Z h' a ty k := by obtain ⟨cl, A, q⟩ := F; exact ⟨_, Arr.same W A, by simp [Cell.setSlot, q]⟩
theorem nob {cl : Cell} {j : Int32} {k : Nat} (hj : 0 ≤ j.toInt) (hl : j.toInt < k) (q : cl.slots.size = k) : ¬ (j < 0 ∨ cl.slots.size ≤ j.toNatClampNeg) := by
  rintro (r | r)
  · exact not_neg hj r
  · rw [q, nat_clamp] at r; omega
theorem G.dastore (C : Cx p s m meth c Z y bytes maxL ret) {a : Addr} {j : Int32} {x : UInt64} {kn : Nat} (F : ArrN Z h a .double kn) (hj : 0 ≤ j.toInt) (hl : j.toInt < kn) (g : n0 ≤ a) (hd : decode bytes pc = .ok (.dastore, 1)) (hn : pc + 1 = n) (k : ∀ h', Keep h h' [a] → ArrN Z h' a .double kn → Go p l e R s m args below meth c n0 Q cells slots h' (mkF m n Ls (st))) : Go p l e R s m args below meth c n0 Q cells slots h (mkF m pc Ls (.double x :: .int j :: .ref a :: st)) := fun T locs X N q => by
  subst hn
  obtain ⟨cl, A, q1⟩ := F
  obtain ⟨T', h', X', e', W, st'⟩ := stD X C.x C.z q A (j := j) (nob hj hl q1) (g := mkF m pc Ls (.double x :: .int j :: .ref a :: st)) rfl rfl (hb C.by hd)
  obtain ⟨t, o, s1, r⟩ := k h' (Keep.of_wr W) (ArrN.wr ⟨cl, A, q1⟩ W) T' _ X' (Fr.snoc X' N g) e'
  exact ⟨t, o, st' t s1, Ende.up (Keep.of_wr W).1 r⟩
theorem G.aastoreNull (C : Cx p s m meth c Z y bytes maxL ret) {a : Addr} {j : Int32} {ty : FieldType} {kn : Nat} (F : ArrN Z h a ty kn) (hty : ty.isReference = true) (hj : 0 ≤ j.toInt) (hl : j.toInt < kn) (g : n0 ≤ a) (hd : decode bytes pc = .ok (.aastore, 1)) (hn : pc + 1 = n) (k : ∀ h', Keep h h' [a] → ArrN Z h' a ty kn → Go p l e R s m args below meth c n0 Q cells slots h' (mkF m n Ls (st))) : Go p l e R s m args below meth c n0 Q cells slots h (mkF m pc Ls (.null :: .int j :: .ref a :: st)) := fun T locs X N q => by
  subst hn
  obtain ⟨cl, A, q1⟩ := F
  obtain ⟨T', h', X', e', W, st'⟩ := stR X C.x C.z q A (j := j) (v := .null) (nob hj hl q1) hty (Or.inl rfl) (g := mkF m pc Ls (.null :: .int j :: .ref a :: st)) rfl rfl (hb C.by hd)
  obtain ⟨t, o, s1, r⟩ := k h' (Keep.of_wr W) (ArrN.wr ⟨cl, A, q1⟩ W) T' _ X' (Fr.snoc X' N g) e'
  exact ⟨t, o, st' t s1, Ende.up (Keep.of_wr W).1 r⟩
theorem G.arraylengthN (C : Cx p s m meth c Z y bytes maxL ret) {a : Addr} {ty : FieldType} {kn : Nat} {len : Int32} (F : ArrN Z h a ty kn) (hlen : len.toInt = kn) (hd : decode bytes pc = .ok (.arraylength, 1)) (hn : pc + 1 = n) (k : Go p l e R s m args below meth c n0 Q cells slots h (mkF m n Ls (.int len :: st))) : Go p l e R s m args below meth c n0 Q cells slots h (mkF m pc Ls (.ref a :: st)) := by
  subst hn
  obtain ⟨cl, A, q1⟩ := F
  have e1 : cl.slots.size.toInt32 = len := by rw [q1]; exact (len32 hlen).symm
  exact Go.via (fun T locs X q t r => X.arraylength C.x (by rw [q]; exact A.1) (State.isArrayOf_alike C.z.alike A.2.1) (g := mkF m pc Ls (.ref a :: st)) rfl rfl (hb C.by hd) t (by rw [e1]; exact r)) k
theorem G.newarrayN (C : Cx p s m meth c Z y bytes maxL ret) {aty : ArrayType} {ty : FieldType} {len : Int32} {cap c' s' : Nat} (w : (Jvm.Cond.arrayClass ty).before a0 Z = true) (hty : newarray.typeOf aty = ty) (hlen : len.toInt = cap) (hbig : cap * 8 ≤ 536870912) (hd : decode bytes pc = .ok (.newarray aty, 2)) (hn : pc + 2 = n) (hc' : cells + 1 = c') (hs' : slots + cap = s') (hc : c' ≤ R.cells) (hs : s' ≤ R.slots)
    (k : ∀ h' b, b = h.size → Ext h h' → ArrN Z h' b ty cap → Go p l e R s m args below meth c n0 Q c' s' h' (mkF m n Ls (.ref b :: st))) : Go p l e R s m args below meth c n0 Q cells slots h (mkF m pc Ls (.int len :: st)) := fun T locs X N q => by
  subst hn hc' hs' hty
  obtain ⟨T', h', cA, X', e', E, A, st'⟩ := newP X C.x C.z w q (g := mkF m pc Ls (.int len :: st)) rfl (hb C.by hd) rfl (not_neg (by omega)) (cap := cap) (by rw [nat_clamp]; omega) hbig hc hs
  obtain ⟨t, o, s1, r⟩ := k h' _ rfl E ⟨_, A, by rw [sz_new, nat_clamp]; omega⟩ T' _ X' N e'
  exact ⟨t, o, st' t s1, Ende.up E.1 r⟩
theorem G.anewarrayN (C : Cx p s m meth c Z y bytes maxL ret) {K : String} {index : Nat} {len : Int32} {cap c' s' : Nat} (w1 : (Jvm.Cond.classLink y.cls index K).before a0 Z = true) (w2 : (Jvm.Cond.arrayOver (.object K)).before a0 Z = true) (hlen : len.toInt = cap) (hbig : cap * 8 ≤ 536870912) (hd : decode bytes pc = .ok (.anewarray index, 3)) (hn : pc + 3 = n) (hc' : cells + 1 = c') (hs' : slots + cap = s') (hc : c' ≤ R.cells) (hs : s' ≤ R.slots)
    (k : ∀ h' b, b = h.size → Ext h h' → ArrN Z h' b (.object K) cap → Go p l e R s m args below meth c n0 Q c' s' h' (mkF m n Ls (.ref b :: st))) : Go p l e R s m args below meth c n0 Q cells slots h (mkF m pc Ls (.int len :: st)) := fun T locs X N q => by
  subst hn hc' hs'
  obtain ⟨T', h', cA, X', e', E, A, -, st'⟩ := newR X C.x C.z C.own w1 w2 q (g := mkF m pc Ls (.int len :: st)) rfl (hb C.by hd) rfl (not_neg (by omega)) (cap := cap) (by rw [nat_clamp]; omega) hbig hc hs
  obtain ⟨t, o, s1, r⟩ := k h' _ rfl E ⟨_, A, by rw [sz_new, nat_clamp]; omega⟩ T' _ X' N e'
  exact ⟨t, o, st' t s1, Ende.up E.1 r⟩
theorem G.callP (C : Cx p s m meth c Z y bytes maxL ret) {index W : Nat} {yc : MethodName} {bc : ByteArray} {mc : Nat} {rc : Option FieldType} {rm : Room} {c' s' : Nat} {Qc : Option Value → Heap → Prop} {ps : List FieldType} {K K' : String} {yo : MethodName} {argsL stk : List Value} {a : Addr} (E : Exa Z h a K) (w1 : (Jvm.Cond.methodLink y.cls index yc).before a0 Z = true) (w5 : (Jvm.Cond.selects K' yo yo).before a0 Z = true) (hyo : yo.cls = yc.cls) (w6 : (Jvm.Cond.privateMethod yc).before a0 Z = true) (w2 : (Jvm.Cond.instanceMethod yc).before a0 Z = true) (w3 : (Jvm.Cond.initialized yc.cls).before a0 Z = true) (w4 : (Jvm.Cond.code yc bc mc rc).before a0 Z = true) (hy : yc.cls ≠ "java/lang/invoke/MethodHandle" ∧ yc.cls ≠ "java/lang/invoke/VarHandle") (M : Met l Z yc bc mc rc rm (.ref a :: argsL).toArray h n0 Qc) (hsz : Ls.size = maxL) (hf : rm.frames + 1 ≤ R.frames) (hW : (st.map fun v => v.category).sum = W) (hl : W + (mc + 11) + rm.locals ≤ R.locals) (hc' : cells + rm.cells = c') (hs' : slots + rm.slots = s') (hc : c' ≤ R.cells) (hs : s' ≤ R.slots) (hd : decode bytes pc = .ok (.invokevirtual index, 3)) (hn : pc + 3 = n) (hlen : parseMethodDescriptor yc.desc = some ⟨ps, rc⟩) (hal : argsL.length = ps.length) (hst : stk = argsL.reverse ++ .ref a :: st) (k : ∀ sN, Cx p sN m meth c Z y bytes maxL ret → ∀ v h', Qc v h' → Go p l e R sN m args below meth c n0 Q c' s' h' (mkF m n Ls (v.toList ++ st))) : Go p l e R s m args below meth c n0 Q cells slots h (mkF m pc Ls (stk)) := fun T locs X N q => by
  subst hn hW hc' hs' hst
  obtain ⟨cq, qa, qb⟩ := E.cell
  obtain ⟨c2, r2, m2, -, -, q3, -, kP, hkP, hkPi⟩ := Cond.selects_spec (mvT (args := #[]) C.z w5)
  have hpv := Cond.privateMethod_at (mvP C.z w6 (args := #[]))
  have hsel : (Jvm.Cond.selects yc.cls yc yc).before args s = true := selects_self_of_private (by rw [← hyo]; exact findClass_of_methodNamed q3) hkP hkPi hpv (mvT C.z w2) hy
  obtain ⟨v, _, ⟨T', L', k', n''⟩, -, X', hS, hz, ⟨Lc, hQ, h1, h2, h3⟩, st'⟩ := X.privateBackS C.x (y := yc) C.own (mvT C.z w1) (mvT C.z w2) hsel hpv (mvT C.z w4) hy (backOfS (W := (st.map fun v => v.category).sum) (Q := fun v h L => Fr n0 L ∧ Qc v h) (M []) C.z w4 w3 hf hl) (g := mkF m pc Ls (argsL.reverse ++ .ref a :: st)) rfl (hsz.trans C.ml.symm) (Steps.refl _) (a := a) (cell := cq) (by rw [q]; exact qa) qb (argsL := argsL) (rest := st) (lenOf hlen hal) rfl (by show 2 * 0 + _ ≤ _; omega) (hb C.by hd) (fun _ _ => ⟨rfl, q, hc, hs⟩)
  dsimp only [Pt.U, Pt.locs, Pt.cells, Pt.slots] at X' hS hz h1 h2 h3 st' hQ
  subst h1 h2 h3
  obtain ⟨t, o, s1, r⟩ := k _ (C.move hS.1) v _ hQ.2 T' _ X' (Fr.app N hQ.1) rfl
  exact ⟨t, o, st'.trans s1, Ende.back hS (Nat.le_refl _) (by rw [← q]; exact hz) r⟩
theorem G.checkcast (C : Cx p s m meth c Z y bytes maxL ret) {K : String} {index : Nat} {a : Addr} (w : (Jvm.Cond.classLink y.cls index K).before a0 Z = true) (F : Ins Z h a K true) (hd : decode bytes pc = .ok (.checkcast index, 3)) (hn : pc + 3 = n) (k : Go p l e R s m args below meth c n0 Q cells slots h (mkF m n Ls (.ref a :: st))) : Go p l e R s m args below meth c n0 Q cells slots h (mkF m pc Ls (.ref a :: st)) := fun T locs X N q => by
  subst hn
  obtain ⟨T', X', e', st'⟩ := castY X C.x C.z C.own w q F (g := mkF m pc Ls (.ref a :: st)) rfl rfl (hb C.by hd)
  obtain ⟨t, o, s1, r⟩ := k T' locs X' N e'
  exact ⟨t, o, st' t s1, r⟩
theorem G.instY (C : Cx p s m meth c Z y bytes maxL ret) {K : String} {index : Nat} {a : Addr} (w : (Jvm.Cond.classLink y.cls index K).before a0 Z = true) (F : Ins Z h a K true) (hd : decode bytes pc = .ok (.instanceof index, 3)) (hn : pc + 3 = n) (k : Go p l e R s m args below meth c n0 Q cells slots h (mkF m n Ls (.int 1 :: st))) : Go p l e R s m args below meth c n0 Q cells slots h (mkF m pc Ls (.ref a :: st)) := fun T locs X N q => by
  subst hn
  obtain ⟨T', X', e', st'⟩ := instY X C.x C.z C.own w q F (g := mkF m pc Ls (.ref a :: st)) rfl rfl (hb C.by hd)
  obtain ⟨t, o, s1, r⟩ := k T' locs X' N e'
  exact ⟨t, o, st' t s1, r⟩
theorem G.instNo (C : Cx p s m meth c Z y bytes maxL ret) {K K' : String} {index : Nat} {a : Addr} (w : (Jvm.Cond.classLink y.cls index K).before a0 Z = true) (E : Exa Z h a K') (F : ∃ c t, Z.vm.findClass K' = some c ∧ Z.vm.findClass K = some t ∧ Z.vm.assignable c t = false) (hd : decode bytes pc = .ok (.instanceof index, 3)) (hn : pc + 3 = n) (k : Go p l e R s m args below meth c n0 Q cells slots h (mkF m n Ls (.int 0 :: st))) : Go p l e R s m args below meth c n0 Q cells slots h (mkF m pc Ls (.ref a :: st)) := fun T locs X N q => by
  subst hn
  obtain ⟨T', X', e', st'⟩ := instNo X C.x C.z C.own w q E F (g := mkF m pc Ls (.ref a :: st)) rfl rfl (hb C.by hd)
  obtain ⟨t, o, s1, r⟩ := k T' locs X' N e'
  exact ⟨t, o, st' t s1, r⟩
theorem G.instNull (C : Cx p s m meth c Z y bytes maxL ret) {index : Nat} (hd : decode bytes pc = .ok (.instanceof index, 3)) (hn : pc + 3 = n) (k : Go p l e R s m args below meth c n0 Q cells slots h (mkF m n Ls (.int 0 :: st))) : Go p l e R s m args below meth c n0 Q cells slots h (mkF m pc Ls (.null :: st)) := by
  subst hn
  exact Go.via (fun T locs X _ t q => X.instanceofNull C.x (g := mkF m pc Ls (.null :: st)) rfl rfl (hb C.by hd) t q) k
def RefsO (Z : State) (h : Heap) (a : Addr) (K : String) (vs : List Value) : Prop := ∃ k z, Arv Z h a k (.object K) z vs .null ∧ z.toInt = vs.length ∧ Ovr Z k K
theorem RefsO.lt {a : Addr} {K : String} {vs : List Value} (F : RefsO Z h a K vs) : a < h.size := by obtain ⟨k, z, A, -⟩ := F; exact A.lt
theorem RefsO.keep {h' : Heap} {ws : List Addr} {a : Addr} {K : String} {vs : List Value} (F : RefsO Z h a K vs) (Kp : Keep h h' ws) (r : a ∉ ws) : RefsO Z h' a K vs := by obtain ⟨k, z, A, q⟩ := F; exact ⟨k, z, A.keep Kp r, q⟩
theorem RefsO.refs {a : Addr} {K : String} {vs : List Value} (F : RefsO Z h a K vs) : Refs Z h a (.object K) vs := by obtain ⟨k, z, A, q, -⟩ := F; exact ⟨k, z, A, q⟩
theorem G.anewarrayO (C : Cx p s m meth c Z y bytes maxL ret) {K : String} {index : Nat} {len : Int32} {cap c' s' : Nat} (w1 : (Jvm.Cond.classLink y.cls index K).before a0 Z = true) (w2 : (Jvm.Cond.arrayOver (.object K)).before a0 Z = true) (hlen : len.toInt = cap) (hbig : cap * 8 ≤ 536870912) (hd : decode bytes pc = .ok (.anewarray index, 3)) (hn : pc + 3 = n) (hc' : cells + 1 = c') (hs' : slots + cap = s') (hc : c' ≤ R.cells) (hs : s' ≤ R.slots)
    (k : ∀ h' b, b = h.size → Ext h h' → RefsO Z h' b K (List.replicate cap .null) → Go p l e R s m args below meth c n0 Q c' s' h' (mkF m n Ls (.ref b :: st))) : Go p l e R s m args below meth c n0 Q cells slots h (mkF m pc Ls (.int len :: st)) := fun T locs X N q => by
  subst hn hc' hs'
  obtain ⟨T', h', cA, X', e', E, A, O, st'⟩ := newR X C.x C.z C.own w1 w2 q (g := mkF m pc Ls (.int len :: st)) rfl (hb C.by hd) rfl (not_neg (by omega)) (cap := cap) (by rw [nat_clamp]; omega) hbig hc hs
  have V := (Arv.new A (not_neg (by omega)))
  have V2 := V.pad (pad_rep [] _ cap)
  rw [List.nil_append] at V2
  obtain ⟨t, o, s1, r⟩ := k h' _ rfl E ⟨cA, len, V2, by rw [List.length_replicate]; exact hlen, O⟩ T' _ X' N e'
  exact ⟨t, o, st' t s1, Ende.up E.1 r⟩
theorem G.aastoreO (C : Cx p s m meth c Z y bytes maxL ret) {a b : Addr} {j : Int32} {K : String} {vs : List Value} (F : RefsO Z h a K vs) (I : Ins Z h b K true) (hj : 0 ≤ j.toInt) (hl : j.toInt < vs.length) (g : n0 ≤ a) (hd : decode bytes pc = .ok (.aastore, 1)) (hn : pc + 1 = n) (k : ∀ h', Keep h h' [a] → RefsO Z h' a K (vs.set j.toInt.toNat (.ref b)) → Go p l e R s m args below meth c n0 Q cells slots h' (mkF m n Ls (st))) : Go p l e R s m args below meth c n0 Q cells slots h (mkF m pc Ls (.ref b :: .int j :: .ref a :: st)) := fun T locs X N q => by
  subst hn
  obtain ⟨kk, z, ⟨cl, A, q1, S, N1, H, G⟩, hz, O⟩ := F
  have hl2 : j.toInt.toNat < vs.length := by omega
  obtain ⟨T', h', X', e', W, st'⟩ := stR X C.x C.z q A (j := j) (v := .ref b) (inb hj S hz hl2) rfl (Sto.of A (q1 ▸ O) I) (g := mkF m pc Ls (.ref b :: .int j :: .ref a :: st)) rfl rfl (hb C.by hd)
  have V := Arv.set A q1 S N1 H G (v := .ref b) rfl W j.toInt.toNat rfl hl2
  obtain ⟨t, o, s1, r⟩ := k h' (Keep.of_wr W) ⟨kk, z, V, by rw [List.length_set]; exact hz, O⟩ T' _ X' (Fr.snoc X' N g) e'
  exact ⟨t, o, st' t s1, Ende.up (Keep.of_wr W).1 r⟩
theorem G.ldcStr (C : Cx p s m meth c Z y bytes maxL ret) {index nn c' s' : Nat} {text : String} (w : (Jvm.Cond.stringLink y.cls index text).before a0 Z = true) (wS : ∀ a ∈ Bundle.stringAtoms, a.before a0 Z = true) (hnn : 4 * text.toList.length ≤ nn) (hbig : nn ≤ 536870912) (hd : decode bytes pc = .ok (.ldc index, 2)) (hn : pc + 2 = n) (hc' : cells + 2 = c') (hs' : slots + (nn + 4) = s') (hc : c' ≤ R.cells) (hs : s' ≤ R.slots)
    (k : ∀ s'', Cx p s'' m meth c Z y bytes maxL ret → ∀ h' b, Ext h h' → Go p l e R s'' m args below meth c n0 Q c' s' h' (mkF m n Ls (.ref b :: st))) : Go p l e R s m args below meth c n0 Q cells slots h (mkF m pc Ls (st)) := fun T locs X N q => by
  subst hn hc' hs'
  obtain ⟨a, T', X', hS, -, hb', -, st'⟩ := X.ldcStringCold C.x (own := y.cls) C.own (mvS (vm0 := s.vm) (s := s) C.z w) (fun d hd => by
    have q := wS d hd
    simp only [Bundle.stringAtoms, List.mem_cons, List.not_mem_nil, or_false] at hd
    rcases hd with rfl | rfl | rfl | rfl | rfl | rfl | rfl
    · exact mv C.z q
    · exact mv C.z q
    · exact mvA C.z q
    · exact mv C.z q
    · exact mv C.z q
    · exact mv C.z q
    · exact mv C.z q) (g := mkF m pc Ls st) rfl (hb C.by hd) hnn hbig hc hs
  have E : Ext h T'.heap := by rw [← q]; exact ext_of hb'
  obtain ⟨t, o, s1, r⟩ := k _ (C.move hS.1) _ a E T' _ X' N rfl
  exact ⟨t, o, st' t s1, Ende.back hS (Nat.le_refl _) E.1 r⟩
end
end Jvm.Own
namespace Jvm.Pilot.@@N@@
open Jvm Jvm.ClassFile Sem Op Lib Jvm.Free Jvm.Stand Jvm.LawKit Jvm.RoadKit Jvm.Own Bundle Jvm.Pilot.@@N@@.Jvm.D
theorem wS {a0 : Array Value} {Z : State} (hw : ∀ d ∈ tables_1, d.before a0 Z = true) : ∀ a ∈ Bundle.stringAtoms, a.before a0 Z = true := by
  intro a ha
  simp only [Bundle.stringAtoms, List.mem_cons, List.not_mem_nil, or_false] at ha
  rcases ha with rfl | rfl | rfl | rfl | rfl | rfl | rfl
  · exact wd hw 30 rfl
  · exact wd hw 31 rfl
  · exact wd hw 32 rfl
  · exact wd hw 33 rfl
  · exact wd hw 34 rfl
  · exact wd hw 35 rfl
  · exact wd hw 36 rfl
def Ob_Wn (Z : State) (h : Heap) (a : Addr) (f_matched : Value) (f_scores : Value) (f_explains : Int32) (f_explanations : Value) : Prop := Exa Z h a "com/example/near_miss/nearmiss/search/Window" ∧ Fld Z h a "com/example/near_miss/nearmiss/search/Window" "matched" "[J" f_matched ∧ Fld Z h a "com/example/near_miss/nearmiss/search/Window" "scores" "[D" f_scores ∧ Fld Z h a "com/example/near_miss/nearmiss/search/Window" "explains" "Z" (.int f_explains) ∧ Fld Z h a "com/example/near_miss/nearmiss/search/Window" "explanations" "[Lcom/example/near_miss/nearmiss/scoring/Explanation;" f_explanations
theorem Ob_Wn.keep {Z : State} {h h' : Heap} {ws : List Addr} {a : Addr} {f_matched : Value} {f_scores : Value} {f_explains : Int32} {f_explanations : Value} (O : Ob_Wn Z h a f_matched f_scores f_explains f_explanations) (K : Keep h h' ws) (r : a ∉ ws) : Ob_Wn Z h' a f_matched f_scores f_explains f_explanations := ⟨(O.1).keep K, (O.2.1).keep K r, (O.2.2.1).keep K r, (O.2.2.2.1).keep K r, (O.2.2.2.2).keep K r⟩
theorem Ob_Wn.lt {Z : State} {h : Heap} {a : Addr} {f_matched : Value} {f_scores : Value} {f_explains : Int32} {f_explanations : Value} (O : Ob_Wn Z h a f_matched f_scores f_explains f_explanations) : a < h.size := Exa.lt (O.1)
theorem Ob_Wn.set_matched {Z : State} {a0 : Array Value} (hw : ∀ d ∈ tables_1, d.before a0 Z = true) {h h' : Heap} {a : Addr} {f_matched : Value} {f_scores : Value} {f_explains : Int32} {f_explanations : Value} {v : Value} (O : Ob_Wn Z h a f_matched f_scores f_explains f_explanations) (W : Wr h h' a (RoadKit.slotOf Z "com/example/near_miss/nearmiss/search/Window" "matched" "[J") v) : Ob_Wn Z h' a v f_scores f_explains f_explanations := ⟨(O.1).wr W, (O.2.1).same W, (O.2.2.1).other W (Or.inr (slot_ne (Or.inr (wd hw 14 rfl)) (Or.inr (wd hw 11 rfl)) (by decide) (t := (.array .double)) (t' := (.array .long)) (by decide) (by decide))), (O.2.2.2.1).other W (Or.inr (slot_ne (Or.inr (wd hw 16 rfl)) (Or.inr (wd hw 11 rfl)) (by decide) (t := .boolean) (t' := (.array .long)) (by decide) (by decide))), (O.2.2.2.2).other W (Or.inr (slot_ne (Or.inr (wd hw 18 rfl)) (Or.inr (wd hw 11 rfl)) (by decide) (t := (.array (.object "com/example/near_miss/nearmiss/scoring/Explanation"))) (t' := (.array .long)) (by decide) (by decide)))⟩
theorem Ob_Wn.set_scores {Z : State} {a0 : Array Value} (hw : ∀ d ∈ tables_1, d.before a0 Z = true) {h h' : Heap} {a : Addr} {f_matched : Value} {f_scores : Value} {f_explains : Int32} {f_explanations : Value} {v : Value} (O : Ob_Wn Z h a f_matched f_scores f_explains f_explanations) (W : Wr h h' a (RoadKit.slotOf Z "com/example/near_miss/nearmiss/search/Window" "scores" "[D") v) : Ob_Wn Z h' a f_matched v f_explains f_explanations := ⟨(O.1).wr W, (O.2.1).other W (Or.inr (slot_ne (Or.inr (wd hw 11 rfl)) (Or.inr (wd hw 14 rfl)) (by decide) (t := (.array .long)) (t' := (.array .double)) (by decide) (by decide))), (O.2.2.1).same W, (O.2.2.2.1).other W (Or.inr (slot_ne (Or.inr (wd hw 16 rfl)) (Or.inr (wd hw 14 rfl)) (by decide) (t := .boolean) (t' := (.array .double)) (by decide) (by decide))), (O.2.2.2.2).other W (Or.inr (slot_ne (Or.inr (wd hw 18 rfl)) (Or.inr (wd hw 14 rfl)) (by decide) (t := (.array (.object "com/example/near_miss/nearmiss/scoring/Explanation"))) (t' := (.array .double)) (by decide) (by decide)))⟩
theorem Ob_Wn.set_explains {Z : State} {a0 : Array Value} (hw : ∀ d ∈ tables_1, d.before a0 Z = true) {h h' : Heap} {a : Addr} {f_matched : Value} {f_scores : Value} {f_explains : Int32} {f_explanations : Value} {v : Int32} (O : Ob_Wn Z h a f_matched f_scores f_explains f_explanations) (W : Wr h h' a (RoadKit.slotOf Z "com/example/near_miss/nearmiss/search/Window" "explains" "Z") (.int v)) : Ob_Wn Z h' a f_matched f_scores v f_explanations := ⟨(O.1).wr W, (O.2.1).other W (Or.inr (slot_ne (Or.inr (wd hw 11 rfl)) (Or.inr (wd hw 16 rfl)) (by decide) (t := (.array .long)) (t' := .boolean) (by decide) (by decide))), (O.2.2.1).other W (Or.inr (slot_ne (Or.inr (wd hw 14 rfl)) (Or.inr (wd hw 16 rfl)) (by decide) (t := (.array .double)) (t' := .boolean) (by decide) (by decide))), (O.2.2.2.1).same W, (O.2.2.2.2).other W (Or.inr (slot_ne (Or.inr (wd hw 18 rfl)) (Or.inr (wd hw 16 rfl)) (by decide) (t := (.array (.object "com/example/near_miss/nearmiss/scoring/Explanation"))) (t' := .boolean) (by decide) (by decide)))⟩
theorem Ob_Wn.set_explanations {Z : State} {a0 : Array Value} (hw : ∀ d ∈ tables_1, d.before a0 Z = true) {h h' : Heap} {a : Addr} {f_matched : Value} {f_scores : Value} {f_explains : Int32} {f_explanations : Value} {v : Value} (O : Ob_Wn Z h a f_matched f_scores f_explains f_explanations) (W : Wr h h' a (RoadKit.slotOf Z "com/example/near_miss/nearmiss/search/Window" "explanations" "[Lcom/example/near_miss/nearmiss/scoring/Explanation;") v) : Ob_Wn Z h' a f_matched f_scores f_explains v := ⟨(O.1).wr W, (O.2.1).other W (Or.inr (slot_ne (Or.inr (wd hw 11 rfl)) (Or.inr (wd hw 18 rfl)) (by decide) (t := (.array .long)) (t' := (.array (.object "com/example/near_miss/nearmiss/scoring/Explanation"))) (by decide) (by decide))), (O.2.2.1).other W (Or.inr (slot_ne (Or.inr (wd hw 14 rfl)) (Or.inr (wd hw 18 rfl)) (by decide) (t := (.array .double)) (t' := (.array (.object "com/example/near_miss/nearmiss/scoring/Explanation"))) (by decide) (by decide))), (O.2.2.2.1).other W (Or.inr (slot_ne (Or.inr (wd hw 16 rfl)) (Or.inr (wd hw 18 rfl)) (by decide) (t := .boolean) (t' := (.array (.object "com/example/near_miss/nearmiss/scoring/Explanation"))) (by decide) (by decide))), (O.2.2.2.2).same W⟩
theorem Ob_Wn.new {Z : State} {a0 : Array Value} (hw : ∀ d ∈ tables_1, d.before a0 Z = true) {h : Heap} {a : Addr} (E : Exa Z h a "com/example/near_miss/nearmiss/search/Window") (D : ∀ {O nm d : String} {ty : FieldType}, Laid Z a0 "com/example/near_miss/nearmiss/search/Window" O nm d → parseFieldDescriptor d = some ty → Fld Z h a O nm d (defaultValue ty)) : Ob_Wn Z h a .null .null (0 : Int32) .null := ⟨E, D (Or.inr (wd hw 11 rfl)) (ty := (.array .long)) (by decide), D (Or.inr (wd hw 14 rfl)) (ty := (.array .double)) (by decide), D (Or.inr (wd hw 16 rfl)) (ty := .boolean) (by decide), D (Or.inr (wd hw 18 rfl)) (ty := (.array (.object "com/example/near_miss/nearmiss/scoring/Explanation"))) (by decide)⟩
def Ob_Ex (Z : State) (h : Heap) (a : Addr) (f_value : Value) (f_description : Value) (f_details : Value) : Prop := Exa Z h a "com/example/near_miss/nearmiss/scoring/Explanation" ∧ Fld Z h a "com/example/near_miss/nearmiss/scoring/Explanation" "value" "D" f_value ∧ Fld Z h a "com/example/near_miss/nearmiss/scoring/Explanation" "description" "Ljava/lang/String;" f_description ∧ Fld Z h a "com/example/near_miss/nearmiss/scoring/Explanation" "details" "Ljava/util/List;" f_details
theorem Ob_Ex.keep {Z : State} {h h' : Heap} {ws : List Addr} {a : Addr} {f_value : Value} {f_description : Value} {f_details : Value} (O : Ob_Ex Z h a f_value f_description f_details) (K : Keep h h' ws) (r : a ∉ ws) : Ob_Ex Z h' a f_value f_description f_details := ⟨(O.1).keep K, (O.2.1).keep K r, (O.2.2.1).keep K r, (O.2.2.2).keep K r⟩
theorem Ob_Ex.lt {Z : State} {h : Heap} {a : Addr} {f_value : Value} {f_description : Value} {f_details : Value} (O : Ob_Ex Z h a f_value f_description f_details) : a < h.size := Exa.lt (O.1)
theorem Ob_Ex.set_value {Z : State} {a0 : Array Value} (hw : ∀ d ∈ tables_1, d.before a0 Z = true) {h h' : Heap} {a : Addr} {f_value : Value} {f_description : Value} {f_details : Value} {v : Value} (O : Ob_Ex Z h a f_value f_description f_details) (W : Wr h h' a (RoadKit.slotOf Z "com/example/near_miss/nearmiss/scoring/Explanation" "value" "D") v) : Ob_Ex Z h' a v f_description f_details := ⟨(O.1).wr W, (O.2.1).same W, (O.2.2.1).other W (Or.inr (slot_ne (Or.inr (wd hw 81 rfl)) (Or.inr (wd hw 79 rfl)) (by decide) (t := (.object "java/lang/String")) (t' := .double) (by decide) (by decide))), (O.2.2.2).other W (Or.inr (slot_ne (Or.inr (wd hw 83 rfl)) (Or.inr (wd hw 79 rfl)) (by decide) (t := (.object "java/util/List")) (t' := .double) (by decide) (by decide)))⟩
theorem Ob_Ex.set_description {Z : State} {a0 : Array Value} (hw : ∀ d ∈ tables_1, d.before a0 Z = true) {h h' : Heap} {a : Addr} {f_value : Value} {f_description : Value} {f_details : Value} {v : Value} (O : Ob_Ex Z h a f_value f_description f_details) (W : Wr h h' a (RoadKit.slotOf Z "com/example/near_miss/nearmiss/scoring/Explanation" "description" "Ljava/lang/String;") v) : Ob_Ex Z h' a f_value v f_details := ⟨(O.1).wr W, (O.2.1).other W (Or.inr (slot_ne (Or.inr (wd hw 79 rfl)) (Or.inr (wd hw 81 rfl)) (by decide) (t := .double) (t' := (.object "java/lang/String")) (by decide) (by decide))), (O.2.2.1).same W, (O.2.2.2).other W (Or.inr (slot_ne (Or.inr (wd hw 83 rfl)) (Or.inr (wd hw 81 rfl)) (by decide) (t := (.object "java/util/List")) (t' := (.object "java/lang/String")) (by decide) (by decide)))⟩
theorem Ob_Ex.set_details {Z : State} {a0 : Array Value} (hw : ∀ d ∈ tables_1, d.before a0 Z = true) {h h' : Heap} {a : Addr} {f_value : Value} {f_description : Value} {f_details : Value} {v : Value} (O : Ob_Ex Z h a f_value f_description f_details) (W : Wr h h' a (RoadKit.slotOf Z "com/example/near_miss/nearmiss/scoring/Explanation" "details" "Ljava/util/List;") v) : Ob_Ex Z h' a f_value f_description v := ⟨(O.1).wr W, (O.2.1).other W (Or.inr (slot_ne (Or.inr (wd hw 79 rfl)) (Or.inr (wd hw 83 rfl)) (by decide) (t := .double) (t' := (.object "java/util/List")) (by decide) (by decide))), (O.2.2.1).other W (Or.inr (slot_ne (Or.inr (wd hw 81 rfl)) (Or.inr (wd hw 83 rfl)) (by decide) (t := (.object "java/lang/String")) (t' := (.object "java/util/List")) (by decide) (by decide))), (O.2.2.2).same W⟩
theorem Ob_Ex.new {Z : State} {a0 : Array Value} (hw : ∀ d ∈ tables_1, d.before a0 Z = true) {h : Heap} {a : Addr} (E : Exa Z h a "com/example/near_miss/nearmiss/scoring/Explanation") (D : ∀ {O nm d : String} {ty : FieldType}, Laid Z a0 "com/example/near_miss/nearmiss/scoring/Explanation" O nm d → parseFieldDescriptor d = some ty → Fld Z h a O nm d (defaultValue ty)) : Ob_Ex Z h a (.double 0) .null .null := ⟨E, D (Or.inr (wd hw 79 rfl)) (ty := .double) (by decide), D (Or.inr (wd hw 81 rfl)) (ty := (.object "java/lang/String")) (by decide), D (Or.inr (wd hw 83 rfl)) (ty := (.object "java/util/List")) (by decide)⟩
def Ob_Ln (Z : State) (h : Heap) (a : Addr) (f_allowNulls : Int32) : Prop := Exa Z h a "java/util/ImmutableCollections$ListN" ∧ Fld Z h a "java/util/ImmutableCollections$ListN" "allowNulls" "Z" (.int f_allowNulls)
theorem Ob_Ln.keep {Z : State} {h h' : Heap} {ws : List Addr} {a : Addr} {f_allowNulls : Int32} (O : Ob_Ln Z h a f_allowNulls) (K : Keep h h' ws) (r : a ∉ ws) : Ob_Ln Z h' a f_allowNulls := ⟨(O.1).keep K, (O.2).keep K r⟩
theorem Ob_Ln.lt {Z : State} {h : Heap} {a : Addr} {f_allowNulls : Int32} (O : Ob_Ln Z h a f_allowNulls) : a < h.size := Exa.lt (O.1)
theorem Ob_Ln.set_allowNulls {Z : State} {a0 : Array Value} (hw : ∀ d ∈ tables_1, d.before a0 Z = true) {h h' : Heap} {a : Addr} {f_allowNulls : Int32} {v : Int32} (O : Ob_Ln Z h a f_allowNulls) (W : Wr h h' a (RoadKit.slotOf Z "java/util/ImmutableCollections$ListN" "allowNulls" "Z") (.int v)) : Ob_Ln Z h' a v := ⟨(O.1).wr W, (O.2).same W⟩
theorem Ob_Ln.new {Z : State} {a0 : Array Value} (hw : ∀ d ∈ tables_1, d.before a0 Z = true) {h : Heap} {a : Addr} (E : Exa Z h a "java/util/ImmutableCollections$ListN") (D : ∀ {O nm d : String} {ty : FieldType}, Laid Z a0 "java/util/ImmutableCollections$ListN" O nm d → parseFieldDescriptor d = some ty → Fld Z h a O nm d (defaultValue ty)) : Ob_Ln Z h a (0 : Int32) := ⟨E, D (Or.inr (wd hw 75 rfl)) (ty := .boolean) (by decide)⟩
theorem Ob_Ln.extO {Z : State} {h h' : Heap} {a : Addr} {x : Int32} (O : Ob_Ln Z h a x) (E : Ext h h') : Ob_Ln Z h' a x := ⟨O.1.ext E, O.2.ext E⟩
theorem ins_or {Z : State} {h : Heap} {a : Addr} {A K : String} (E : Exa Z h a A) (hK : ∃ t, Z.vm.findClass K = some t) : Ins Z h a K true ∨ (∃ c t, Z.vm.findClass A = some c ∧ Z.vm.findClass K = some t ∧ Z.vm.assignable c t = false) := by
  obtain ⟨cell, k, e1, e2, e3, e4, -⟩ := E
  obtain ⟨t, ht⟩ := hK
  cases hq : Z.vm.assignable cell.cls t with
  | true => exact Or.inl ⟨cell, t, e1, ht, by simp [e4, hq]⟩
  | false => exact Or.inr ⟨_, t, e2, ht, hq⟩
theorem cl_found {Z : State} {a0 : Array Value} {y : MethodName} {bytes : ByteArray} {maxL index : Nat} {ret : Option FieldType} {K : String} (wc : (Jvm.Cond.code y bytes maxL ret).before a0 Z = true) (w : (Jvm.Cond.classLink y.cls index K).before a0 Z = true) : ∃ t, Z.vm.findClass K = some t := by
  obtain ⟨mk, hn⟩ := Cond.code_named wc
  obtain ⟨c, h, -⟩ := Cond.classLink_spec (findClass_of_methodNamed hn) w {} rfl
  exact ⟨c, h⟩
theorem fld_val {s : State} {args : Array Value} {t : Term} {a : Addr} {C0 n d : String} {v : Value} (ht : t.eval args s none [] s = some (.ref a)) (h : (Term.field t C0 n d).eval args s none [] s = some v) : s.fieldOf? a C0 n d = some v := by simpa [Term.eval, ht] using h
theorem x_r {i : Nat} (h : i < 1024) : (List.replicate 1024 Value.null)[i]? = some .null := by rw [List.getElem?_replicate, if_pos h]
theorem x2_b {A B : Nat} {u v : Value} (h : B < 1024) : (((List.replicate 1024 Value.null).set A u).set B v)[B]? = some v := List.getElem?_set_self (by rw [List.length_set, List.length_replicate]; exact h)
theorem x2_a {A B : Nat} {u v : Value} (h : A < 1024) (n : A ≠ B) : (((List.replicate 1024 Value.null).set A u).set B v)[A]? = some u := by
  rw [List.getElem?_set_ne (Ne.symm n)]; exact List.getElem?_set_self (by rw [List.length_replicate]; exact h)
theorem x2_n {A B i : Nat} {u v : Value} (h : i < 1024) (n : i ≠ A) (m : i ≠ B) : (((List.replicate 1024 Value.null).set A u).set B v)[i]? = some .null := by
  rw [List.getElem?_set_ne (Ne.symm m), List.getElem?_set_ne (Ne.symm n)]; exact x_r h
theorem d7_0 : decode jdk_30_method_1_code 0 = .ok (.aload_n 0, 1) := by decide +kernel
theorem d7_1 : decode jdk_30_method_1_code 1 = .ok (.invokespecial 1, 3) := by decide +kernel
theorem d7_4 : decode jdk_30_method_1_code 4 = .ok (.return_, 1) := by decide +kernel
theorem pn0 : plainName "java/lang/Record" = true := by first | (simp [plainName, overriddenIn]; done) | decide +kernel
theorem ef1 (m : MethodId) (a : Addr) : entryFrame m #[(.ref a)] 1 = mkF m 0 #[.val (.ref a)] [] := by first | (simp [entryFrame, mkF, argsToLocals, Value.category]; done) | rfl
abbrev Q_rec (Z : State) (h0 : Heap) (n0 : Nat) (a : Addr) : Option Value → Heap → Prop := fun v h' => v = none ∧ h0 = h'
abbrev R_rec : Room := { frames := 1, cells := 0, slots := 0, locals := 12 }
set_option maxRecDepth 65536 in
set_option maxHeartbeats 40000000 in
theorem m_rec (l : Launch) (Z : State) (a0 : Array Value) (hw : ∀ d ∈ tables_1, d.before a0 Z = true) (a : Addr) (h0 : Heap) (n0 : Nat) (Z0 : n0 ≤ h0.size)  : Met l Z (⟨"java/lang/Record", "<init>", "()V"⟩ : MethodName) jdk_30_method_1_code 1 none R_rec #[(.ref a)] h0 n0 (Q_rec Z h0 n0 a) := by
  refine Met.of (plainFor_of_name pn0) (fun m => ef1 m a) ?_
  intro p e s m args below meth c C
  refine G.aloadN C d7_0 rfl rfl (n := 1) rfl ?_
  refine G.objinit C (wd hw 54 rfl) (wd hw 7 rfl) (wd hw 8 rfl) d7_1 rfl (by decide) (W := 0) rfl (by decide) (n := 4) rfl ?_
  refine G.return_ C d7_4 (by decide) (by decide) ?_
  exact ⟨rfl, rfl⟩
theorem d8_0 : decode jdk_31_method_11_code 0 = .ok (.aload_n 0, 1) := by decide +kernel
theorem d8_1 : decode jdk_31_method_11_code 1 = .ok (.ifnonnull 12, 3) := by decide +kernel
theorem d8_4 : decode jdk_31_method_11_code 4 = .ok (.new 84, 3) := by decide +kernel
theorem d8_7 : decode jdk_31_method_11_code 7 = .ok (.dup, 1) := by decide +kernel
theorem d8_8 : decode jdk_31_method_11_code 8 = .ok (.aload_n 1, 1) := by decide +kernel
theorem d8_9 : decode jdk_31_method_11_code 9 = .ok (.invokespecial 87, 3) := by decide +kernel
theorem d8_12 : decode jdk_31_method_11_code 12 = .ok (.athrow, 1) := by decide +kernel
theorem d8_13 : decode jdk_31_method_11_code 13 = .ok (.aload_n 0, 1) := by decide +kernel
theorem d8_14 : decode jdk_31_method_11_code 14 = .ok (.areturn, 1) := by decide +kernel
theorem pn1 : plainName "java/util/Objects" = true := by first | (simp [plainName, overriddenIn]; done) | decide +kernel
theorem ef2 (m : MethodId) (x : Addr) (msg : Addr) : entryFrame m #[(.ref x), (.ref msg)] 2 = mkF m 0 #[.val (.ref x), .val (.ref msg)] [] := by first | (simp [entryFrame, mkF, argsToLocals, Value.category]; done) | rfl
abbrev Q_rnn (Z : State) (h0 : Heap) (n0 : Nat) (x : Addr) (msg : Addr) : Option Value → Heap → Prop := fun v h' => v = some (.ref x) ∧ h0 = h'
abbrev R_rnn : Room := { frames := 0, cells := 0, slots := 0, locals := 0 }
set_option maxRecDepth 65536 in
set_option maxHeartbeats 40000000 in
theorem m_rnn (l : Launch) (Z : State) (a0 : Array Value) (hw : ∀ d ∈ tables_1, d.before a0 Z = true) (x : Addr) (msg : Addr) (h0 : Heap) (n0 : Nat) (Z0 : n0 ≤ h0.size)  : Met l Z (⟨"java/util/Objects", "requireNonNull", "(Ljava/lang/Object;Ljava/lang/String;)Ljava/lang/Object;"⟩ : MethodName) jdk_31_method_11_code 2 (some (.object "java/lang/Object")) R_rnn #[(.ref x), (.ref msg)] h0 n0 (Q_rnn Z h0 n0 x msg) := by
  refine Met.of (plainFor_of_name pn1) (fun m => ef2 m x msg) ?_
  intro p e s m args below meth c C
  refine G.aloadN C d8_0 rfl rfl (n := 1) rfl ?_
  refine G.ifnonnullY C d8_1 (by decide) (n := 13) (by decide) ?_
  refine G.aloadN C d8_13 rfl rfl (n := 14) rfl ?_
  refine G.areturn C d8_14 rfl rfl rfl (by decide) (by decide) ?_
  exact ⟨rfl, rfl⟩
theorem d5_0 : decode jdk_40_method_36_code 0 = .ok (.getstatic 90, 3) := by decide +kernel
theorem d5_3 : decode jdk_40_method_36_code 3 = .ok (.areturn, 1) := by decide +kernel
theorem pn2 : plainName "java/util/List" = true := by first | (simp [plainName, overriddenIn]; done) | decide +kernel
theorem ef3 (m : MethodId)  : entryFrame m #[] 0 = mkF m 0 #[] [] := by first | (simp [entryFrame, mkF, argsToLocals, Value.category]; done) | rfl
abbrev Q_lof (Z : State) (h0 : Heap) (n0 : Nat) (eL : Addr) : Option Value → Heap → Prop := fun v h' => v = some (.ref eL) ∧ h0 = h'
abbrev R_lof : Room := { frames := 0, cells := 0, slots := 0, locals := 0 }
set_option maxRecDepth 65536 in
set_option maxHeartbeats 40000000 in
theorem m_lof (l : Launch) (Z : State) (a0 : Array Value) (hw : ∀ d ∈ tables_1, d.before a0 Z = true) (eL : Addr) (h0 : Heap) (n0 : Nat) (Z0 : n0 ≤ h0.size) (OLD0 : Old Z n0 h0) (S_L : Sta Z Z.heap "java/util/ImmutableCollections" "EMPTY_LIST" "Ljava/util/ImmutableCollections$ListN;" (.ref eL)) (O_L : Ob_Ln Z Z.heap eL 0) : Met l Z (⟨"java/util/List", "of", "()Ljava/util/List;"⟩ : MethodName) jdk_40_method_36_code 0 (some (.object "java/util/List")) R_lof #[] h0 n0 (Q_lof Z h0 n0 eL) := by
  refine Met.of (plainFor_of_name pn2) (fun m => ef3 m ) ?_
  intro p e s m args below meth c C
  refine G.getstatic C (host := "") (Or.inl (wd hw 44 rfl)) Via.refl (S_L.ext OLD0.2) d5_0 (n := 3) rfl ?_
  refine G.areturn C d5_3 rfl rfl rfl (by decide) (by decide) ?_
  exact ⟨rfl, rfl⟩
theorem d10_0 : decode jdk_56_method_3_code 0 = .ok (.aload_n 0, 1) := by decide +kernel
theorem d10_1 : decode jdk_56_method_3_code 1 = .ok (.instanceof 10, 3) := by decide +kernel
theorem d10_4 : decode jdk_56_method_3_code 4 = .ok (.ifCond .ne 22, 3) := by decide +kernel
theorem d10_7 : decode jdk_56_method_3_code 7 = .ok (.aload_n 0, 1) := by decide +kernel
theorem d10_8 : decode jdk_56_method_3_code 8 = .ok (.instanceof 12, 3) := by decide +kernel
theorem d10_11 : decode jdk_56_method_3_code 11 = .ok (.ifCond .eq 20, 3) := by decide +kernel
theorem d10_14 : decode jdk_56_method_3_code 14 = .ok (.aload_n 0, 1) := by decide +kernel
theorem d10_15 : decode jdk_56_method_3_code 15 = .ok (.checkcast 12, 3) := by decide +kernel
theorem d10_18 : decode jdk_56_method_3_code 18 = .ok (.astore_n 1, 1) := by decide +kernel
theorem d10_19 : decode jdk_56_method_3_code 19 = .ok (.aload_n 1, 1) := by decide +kernel
theorem d10_20 : decode jdk_56_method_3_code 20 = .ok (.getfield 14, 3) := by decide +kernel
theorem d10_23 : decode jdk_56_method_3_code 23 = .ok (.ifCond .ne 8, 3) := by decide +kernel
theorem d10_26 : decode jdk_56_method_3_code 26 = .ok (.aload_n 0, 1) := by decide +kernel
theorem d10_27 : decode jdk_56_method_3_code 27 = .ok (.checkcast 18, 3) := by decide +kernel
theorem d10_30 : decode jdk_56_method_3_code 30 = .ok (.areturn, 1) := by decide +kernel
theorem d10_31 : decode jdk_56_method_3_code 31 = .ok (.aload_n 0, 1) := by decide +kernel
theorem d10_32 : decode jdk_56_method_3_code 32 = .ok (.invokeinterface 20 1, 5) := by decide +kernel
theorem d10_37 : decode jdk_56_method_3_code 37 = .ok (.ifCond .eq 7, 3) := by decide +kernel
theorem d10_40 : decode jdk_56_method_3_code 40 = .ok (.invokestatic 26, 3) := by decide +kernel
theorem d10_43 : decode jdk_56_method_3_code 43 = .ok (.areturn, 1) := by decide +kernel
theorem d10_44 : decode jdk_56_method_3_code 44 = .ok (.aload_n 0, 1) := by decide +kernel
theorem d10_45 : decode jdk_56_method_3_code 45 = .ok (.invokeinterface 30 1, 5) := by decide +kernel
theorem d10_50 : decode jdk_56_method_3_code 50 = .ok (.invokestatic 34, 3) := by decide +kernel
theorem d10_53 : decode jdk_56_method_3_code 53 = .ok (.areturn, 1) := by decide +kernel
theorem pn3 : plainName "java/util/ImmutableCollections" = true := by first | (simp [plainName, overriddenIn]; done) | decide +kernel
theorem ef4 (m : MethodId) (eL : Addr) : entryFrame m #[(.ref eL)] 2 = mkF m 0 #[.val (.ref eL), .unset] [] := by first | (simp [entryFrame, mkF, argsToLocals, Value.category]; done) | rfl
abbrev Q_lcp (Z : State) (h0 : Heap) (n0 : Nat) (eL : Addr) : Option Value → Heap → Prop := fun v h' => v = some (.ref eL) ∧ h0 = h'
abbrev R_lcp : Room := { frames := 0, cells := 0, slots := 0, locals := 0 }
set_option maxRecDepth 65536 in
set_option maxHeartbeats 40000000 in
theorem m_lcp (l : Launch) (Z : State) (a0 : Array Value) (hw : ∀ d ∈ tables_1, d.before a0 Z = true) (eL : Addr) (h0 : Heap) (n0 : Nat) (Z0 : n0 ≤ h0.size) (OLD0 : Old Z n0 h0) (S_L : Sta Z Z.heap "java/util/ImmutableCollections" "EMPTY_LIST" "Ljava/util/ImmutableCollections$ListN;" (.ref eL)) (O_L : Ob_Ln Z Z.heap eL 0) : Met l Z (⟨"java/util/ImmutableCollections", "listCopy", "(Ljava/util/Collection;)Ljava/util/List;"⟩ : MethodName) jdk_56_method_3_code 2 (some (.object "java/util/List")) R_lcp #[(.ref eL)] h0 n0 (Q_lcp Z h0 n0 eL) := by
  refine Met.of (plainFor_of_name pn3) (fun m => ef4 m eL) ?_
  intro p e s m args below meth c C
  refine G.aloadN C d10_0 rfl rfl (n := 1) rfl ?_
  rcases ins_or ((Ob_Ln.extO O_L OLD0.2).1) (cl_found (wd hw 65 rfl) (wd hw 66 rfl)) with i12 | i12
  · refine G.instY C (wd hw 66 rfl) i12 d10_1 (n := 4) rfl ?_
    refine G.if_ne C (A := 1) (by decide) d10_4 (by decide) (by decide) (n := 7) (n' := 26) rfl (fun c4_1 c4_1i => ?_) (fun c4_1 c4_1i => ?_)
    rotate_left
    · exact absurd c4_1 (by decide)
    refine G.aloadN C d10_26 rfl rfl (n := 27) rfl ?_
    refine G.checkcast C (wd hw 76 rfl) (Ins.of_exa (Ob_Ln.extO O_L OLD0.2).1 (wd hw 77 rfl)) d10_27 (n := 30) rfl ?_
    refine G.areturn C d10_30 rfl rfl rfl (by decide) (by decide) ?_
    exact ⟨rfl, rfl⟩
  · refine G.instNo C (wd hw 66 rfl) ((Ob_Ln.extO O_L OLD0.2).1) i12 d10_1 (n := 4) rfl ?_
    refine G.if_ne C (A := 0) (by decide) d10_4 (by decide) (by decide) (n := 7) (n' := 26) rfl (fun c4_2 c4_2i => ?_) (fun c4_2 c4_2i => ?_)
    · exact absurd c4_2 (by decide)
    refine G.aloadN C d10_7 rfl rfl (n := 8) rfl ?_
    refine G.instY C (wd hw 72 rfl) (Ins.self ((Ob_Ln.extO O_L OLD0.2).1)) d10_8 (n := 11) rfl ?_
    refine G.if_eq C (A := 1) (by decide) d10_11 (by decide) (by decide) (n := 14) (n' := 31) rfl (fun c11_3 c11_3i => ?_) (fun c11_3 c11_3i => ?_)
    · exact absurd c11_3 (by decide)
    refine G.aloadN C d10_14 rfl rfl (n := 15) rfl ?_
    refine G.checkcast C (wd hw 72 rfl) (Ins.self (Ob_Ln.extO O_L OLD0.2).1) d10_15 (n := 18) rfl ?_
    refine G.astoreN C d10_18 rfl (l' := #[.val (.ref eL), .val (.ref eL)]) rfl (n := 19) rfl ?_
    refine G.aloadN C d10_19 rfl rfl (n := 20) rfl ?_
    refine G.getfield C (Or.inr (wd hw 74 rfl)) Via.refl ((Ob_Ln.extO O_L OLD0.2).2) d10_20 (n := 23) rfl ?_
    refine G.if_ne C (A := 0) (by decide) d10_23 (by decide) (by decide) (n := 26) (n' := 31) rfl (fun c23_4 c23_4i => ?_) (fun c23_4 c23_4i => ?_)
    · exact absurd c23_4 (by decide)
    refine G.aloadN C d10_26 rfl rfl (n := 27) rfl ?_
    refine G.checkcast C (wd hw 76 rfl) (Ins.of_exa (Ob_Ln.extO O_L OLD0.2).1 (wd hw 77 rfl)) d10_27 (n := 30) rfl ?_
    refine G.areturn C d10_30 rfl rfl rfl (by decide) (by decide) ?_
    exact ⟨rfl, rfl⟩
theorem d9_0 : decode jdk_40_method_48_code 0 = .ok (.aload_n 0, 1) := by decide +kernel
theorem d9_1 : decode jdk_40_method_48_code 1 = .ok (.invokestatic 112, 3) := by decide +kernel
theorem d9_4 : decode jdk_40_method_48_code 4 = .ok (.areturn, 1) := by decide +kernel
theorem pd0 : parseMethodDescriptor "(Ljava/util/Collection;)Ljava/util/List;" = some ⟨[(.object "java/util/Collection")], some (.object "java/util/List")⟩ := by decide +kernel
theorem ef5 (m : MethodId) (eL : Addr) : entryFrame m #[(.ref eL)] 1 = mkF m 0 #[.val (.ref eL)] [] := by first | (simp [entryFrame, mkF, argsToLocals, Value.category]; done) | rfl
abbrev Q_cpo (Z : State) (h0 : Heap) (n0 : Nat) (eL : Addr) : Option Value → Heap → Prop := fun v h' => v = some (.ref eL) ∧ h0 = h'
abbrev R_cpo : Room := { frames := 1, cells := 0, slots := 0, locals := 13 }
set_option maxRecDepth 65536 in
set_option maxHeartbeats 40000000 in
theorem m_cpo (l : Launch) (Z : State) (a0 : Array Value) (hw : ∀ d ∈ tables_1, d.before a0 Z = true) (eL : Addr) (h0 : Heap) (n0 : Nat) (Z0 : n0 ≤ h0.size) (OLD0 : Old Z n0 h0) (S_L : Sta Z Z.heap "java/util/ImmutableCollections" "EMPTY_LIST" "Ljava/util/ImmutableCollections$ListN;" (.ref eL)) (O_L : Ob_Ln Z Z.heap eL 0) : Met l Z (⟨"java/util/List", "copyOf", "(Ljava/util/Collection;)Ljava/util/List;"⟩ : MethodName) jdk_40_method_48_code 1 (some (.object "java/util/List")) R_cpo #[(.ref eL)] h0 n0 (Q_cpo Z h0 n0 eL) := by
  refine Met.of (plainFor_of_name pn2) (fun m => ef5 m eL) ?_
  intro p e s m args below meth c C
  refine G.aloadN C d9_0 rfl rfl (n := 1) rfl ?_
  refine G.callS C (argsL := [(.ref eL)]) (yc := (⟨"java/util/ImmutableCollections", "listCopy", "(Ljava/util/Collection;)Ljava/util/List;"⟩ : MethodName)) (wd hw 63 rfl) (wd hw 64 rfl) (wd hw 45 rfl) (wd hw 65 rfl) (by decide) (m_lcp l Z a0 hw eL h0 n0 Z0 OLD0 S_L O_L) rfl (by decide) (W := 0) rfl (by decide) (c' := 0) (s' := 0) rfl rfl (by decide) (by decide) d9_1 (n := 4) rfl pd0 rfl rfl ?_
  rintro s C _ _ ⟨rfl, rfl⟩
  refine G.areturn C d9_4 rfl rfl rfl (by decide) (by decide) ?_
  exact ⟨rfl, rfl⟩
theorem d6_0 : decode prog_16_method_1_code 0 = .ok (.aload_n 0, 1) := by decide +kernel
theorem d6_1 : decode prog_16_method_1_code 1 = .ok (.invokespecial 1, 3) := by decide +kernel
theorem d6_4 : decode prog_16_method_1_code 4 = .ok (.aload_n 3, 1) := by decide +kernel
theorem d6_5 : decode prog_16_method_1_code 5 = .ok (.ldc 7, 2) := by decide +kernel
theorem d6_7 : decode prog_16_method_1_code 7 = .ok (.invokestatic 9, 3) := by decide +kernel
theorem d6_10 : decode prog_16_method_1_code 10 = .ok (.pop, 1) := by decide +kernel
theorem d6_11 : decode prog_16_method_1_code 11 = .ok (.aload 4, 2) := by decide +kernel
theorem d6_13 : decode prog_16_method_1_code 13 = .ok (.invokestatic 15, 3) := by decide +kernel
theorem d6_16 : decode prog_16_method_1_code 16 = .ok (.astore 4, 2) := by decide +kernel
theorem d6_18 : decode prog_16_method_1_code 18 = .ok (.aload_n 0, 1) := by decide +kernel
theorem d6_19 : decode prog_16_method_1_code 19 = .ok (.dload_n 1, 1) := by decide +kernel
theorem d6_20 : decode prog_16_method_1_code 20 = .ok (.putfield 21, 3) := by decide +kernel
theorem d6_23 : decode prog_16_method_1_code 23 = .ok (.aload_n 0, 1) := by decide +kernel
theorem d6_24 : decode prog_16_method_1_code 24 = .ok (.aload_n 3, 1) := by decide +kernel
theorem d6_25 : decode prog_16_method_1_code 25 = .ok (.putfield 27, 3) := by decide +kernel
theorem d6_28 : decode prog_16_method_1_code 28 = .ok (.aload_n 0, 1) := by decide +kernel
theorem d6_29 : decode prog_16_method_1_code 29 = .ok (.aload 4, 2) := by decide +kernel
theorem d6_31 : decode prog_16_method_1_code 31 = .ok (.putfield 30, 3) := by decide +kernel
theorem d6_34 : decode prog_16_method_1_code 34 = .ok (.return_, 1) := by decide +kernel
theorem pd1 : parseMethodDescriptor "()V" = some ⟨[], none⟩ := by decide +kernel
theorem pd2 : parseMethodDescriptor "(Ljava/lang/Object;Ljava/lang/String;)Ljava/lang/Object;" = some ⟨[(.object "java/lang/Object"), (.object "java/lang/String")], some (.object "java/lang/Object")⟩ := by decide +kernel
theorem pn4 : plainName "com/example/near_miss/nearmiss/scoring/Explanation" = true := by first | (simp [plainName, overriddenIn]; done) | decide +kernel
theorem ef6 (m : MethodId) (a : Addr) (dv : UInt64) (msg : Addr) (eL : Addr) : entryFrame m #[(.ref a), (.double dv), (.ref msg), (.ref eL)] 5 = mkF m 0 #[.val (.ref a), .val (.double dv), .second, .val (.ref msg), .val (.ref eL)] [] := by first | (simp [entryFrame, mkF, argsToLocals, Value.category]; done) | rfl
abbrev Q_ex3 (Z : State) (h0 : Heap) (n0 : Nat) (eL : Addr) (a : Addr) (dv : UInt64) (msg : Addr) : Option Value → Heap → Prop := fun v h' => v = none ∧ Keep h0 h' [a] ∧ Ob_Ex Z h' a (.double dv) (.ref msg) (.ref eL)
abbrev R_ex3 : Room := { frames := 2, cells := 2, slots := 48, locals := 25 }
set_option maxRecDepth 65536 in
set_option maxHeartbeats 40000000 in
theorem m_ex3 (l : Launch) (Z : State) (a0 : Array Value) (hw : ∀ d ∈ tables_1, d.before a0 Z = true) (eL : Addr) (a : Addr) (dv : UInt64) (msg : Addr) (h0 : Heap) (n0 : Nat) (Z0 : n0 ≤ h0.size) (OLD0 : Old Z n0 h0) (S_L : Sta Z Z.heap "java/util/ImmutableCollections" "EMPTY_LIST" "Ljava/util/ImmutableCollections$ListN;" (.ref eL)) (O_L : Ob_Ln Z Z.heap eL 0) (O_a : Ob_Ex Z h0 a (.double 0) .null .null) (g_a : n0 ≤ a) : Met l Z (⟨"com/example/near_miss/nearmiss/scoring/Explanation", "<init>", "(DLjava/lang/String;Ljava/util/List;)V"⟩ : MethodName) prog_16_method_1_code 5 none R_ex3 #[(.ref a), (.double dv), (.ref msg), (.ref eL)] h0 n0 (Q_ex3 Z h0 n0 eL a dv msg) := by
  refine Met.of (plainFor_of_name pn4) (fun m => ef6 m a dv msg eL) ?_
  intro p e s m args below meth c C
  refine G.aloadN C d6_0 rfl rfl (n := 1) rfl ?_
  refine G.callC C (argsL := []) (yc := (⟨"java/lang/Record", "<init>", "()V"⟩ : MethodName)) (a := a) rfl (wd hw 49 rfl) (wd hw 50 rfl) (wd hw 52 rfl) (wd hw 53 rfl) (by decide) (m_rec l Z a0 hw a h0 n0 Z0) rfl (by decide) (W := 0) rfl (by decide) (c' := 0) (s' := 0) rfl rfl (by decide) (by decide) d6_1 (n := 4) rfl pd1 rfl rfl ?_
  rintro s C _ _ ⟨rfl, rfl⟩
  refine G.aloadN C d6_4 rfl rfl (n := 5) rfl ?_
  refine G.ldcStr C (nn := 44) (wd hw 55 rfl) (wS hw) (by decide) (by decide) d6_5 (n := 7) rfl (c' := 2) (s' := 48) rfl rfl (by decide) (by decide) ?_
  intro s C h3 b4 E5
  have K6 := kext E5
  have O7 := O_a.keep K6 nin0
  have OL8 := OLD0.keep K6 all0
  have Z9 : n0 ≤ h3.size := Nat.le_trans Z0 K6.1
  have K10 : Keep h0 h3 [a] := Keep.tr (Keep.refl h0 _) K6 all0
  refine G.callS C (argsL := [(.ref msg), (.ref b4)]) (yc := (⟨"java/util/Objects", "requireNonNull", "(Ljava/lang/Object;Ljava/lang/String;)Ljava/lang/Object;"⟩ : MethodName)) (wd hw 56 rfl) (wd hw 57 rfl) (wd hw 58 rfl) (wd hw 59 rfl) (by decide) (m_rnn l Z a0 hw msg b4 h3 n0 Z9) rfl (by decide) (W := 0) rfl (by decide) (c' := 2) (s' := 48) rfl rfl (by decide) (by decide) d6_7 (n := 10) rfl pd2 rfl rfl ?_
  rintro s C _ _ ⟨rfl, rfl⟩
  refine G.pop C d6_10 rfl (n := 11) rfl ?_
  refine G.aload C d6_11 rfl rfl (n := 13) rfl ?_
  refine G.callS C (argsL := [(.ref eL)]) (yc := (⟨"java/util/List", "copyOf", "(Ljava/util/Collection;)Ljava/util/List;"⟩ : MethodName)) (wd hw 60 rfl) (wd hw 61 rfl) (wd hw 42 rfl) (wd hw 62 rfl) (by decide) (m_cpo l Z a0 hw eL h3 n0 Z9 OL8 S_L O_L) rfl (by decide) (W := 0) rfl (by decide) (c' := 2) (s' := 48) rfl rfl (by decide) (by decide) d6_13 (n := 16) rfl pd0 rfl rfl ?_
  rintro s C _ _ ⟨rfl, rfl⟩
  refine G.astore C d6_16 rfl (l' := #[.val (.ref a), .val (.double dv), .second, .val (.ref msg), .val (.ref eL)]) rfl (n := 18) rfl ?_
  refine G.aloadN C d6_18 rfl rfl (n := 19) rfl ?_
  refine G.dloadN C d6_19 rfl (n := 20) rfl ?_
  refine G.putfield C (host := "") (Or.inl (wd hw 78 rfl)) Via.refl (O7.2.1) (O7.1) (Or.inr ⟨(wd hw 79 rfl), rfl, rfl⟩) (wd hw 27 rfl) (ty := .double) (by decide) rfl rfl g_a d6_20 (n := 23) rfl ?_
  intro h15 W16
  have O17 := Ob_Ex.set_value hw O7 (v := (.double dv)) W16
  have K18 := Keep.of_wr W16
  have OL19 := OL8.keep K18 (allS g_a all0)
  have Z20 : n0 ≤ h15.size := Nat.le_trans Z9 K18.1
  have K21 : Keep h0 h15 [a] := Keep.tr K10 K18 (allS (Or.inl (List.mem_of_getElem? (i := 0) rfl)) all0)
  refine G.aloadN C d6_23 rfl rfl (n := 24) rfl ?_
  refine G.aloadN C d6_24 rfl rfl (n := 25) rfl ?_
  refine G.putfield C (host := "") (Or.inl (wd hw 80 rfl)) Via.refl (O17.2.2.1) (O17.1) (Or.inr ⟨(wd hw 81 rfl), rfl, rfl⟩) (wd hw 27 rfl) (ty := (.object "java/lang/String")) (by decide) rfl rfl g_a d6_25 (n := 28) rfl ?_
  intro h22 W23
  have O24 := Ob_Ex.set_description hw O17 (v := (.ref msg)) W23
  have K25 := Keep.of_wr W23
  have OL26 := OL19.keep K25 (allS g_a all0)
  have Z27 : n0 ≤ h22.size := Nat.le_trans Z20 K25.1
  have K28 : Keep h0 h22 [a] := Keep.tr K21 K25 (allS (Or.inl (List.mem_of_getElem? (i := 0) rfl)) all0)
  refine G.aloadN C d6_28 rfl rfl (n := 29) rfl ?_
  refine G.aload C d6_29 rfl rfl (n := 31) rfl ?_
  refine G.putfield C (host := "") (Or.inl (wd hw 82 rfl)) Via.refl (O24.2.2.2) (O24.1) (Or.inr ⟨(wd hw 83 rfl), rfl, rfl⟩) (wd hw 27 rfl) (ty := (.object "java/util/List")) (by decide) rfl rfl g_a d6_31 (n := 34) rfl ?_
  intro h29 W30
  have O31 := Ob_Ex.set_details hw O24 (v := (.ref eL)) W30
  have K32 := Keep.of_wr W30
  have OL33 := OL26.keep K32 (allS g_a all0)
  have Z34 : n0 ≤ h29.size := Nat.le_trans Z27 K32.1
  have K35 : Keep h0 h29 [a] := Keep.tr K28 K32 (allS (Or.inl (List.mem_of_getElem? (i := 0) rfl)) all0)
  refine G.return_ C d6_34 (by decide) (by decide) ?_
  exact ⟨rfl, K35, O31⟩
theorem d4_0 : decode prog_16_method_2_code 0 = .ok (.aload_n 0, 1) := by decide +kernel
theorem d4_1 : decode prog_16_method_2_code 1 = .ok (.dload_n 1, 1) := by decide +kernel
theorem d4_2 : decode prog_16_method_2_code 2 = .ok (.aload_n 3, 1) := by decide +kernel
theorem d4_3 : decode prog_16_method_2_code 3 = .ok (.invokestatic 34, 3) := by decide +kernel
theorem d4_6 : decode prog_16_method_2_code 6 = .ok (.invokespecial 38, 3) := by decide +kernel
theorem d4_9 : decode prog_16_method_2_code 9 = .ok (.return_, 1) := by decide +kernel
theorem pd3 : parseMethodDescriptor "()Ljava/util/List;" = some ⟨[], some (.object "java/util/List")⟩ := by decide +kernel
theorem pd4 : parseMethodDescriptor "(DLjava/lang/String;Ljava/util/List;)V" = some ⟨[.double, (.object "java/lang/String"), (.object "java/util/List")], none⟩ := by decide +kernel
theorem ef7 (m : MethodId) (a : Addr) (dv : UInt64) (msg : Addr) : entryFrame m #[(.ref a), (.double dv), (.ref msg)] 4 = mkF m 0 #[.val (.ref a), .val (.double dv), .second, .val (.ref msg)] [] := by first | (simp [entryFrame, mkF, argsToLocals, Value.category]; done) | rfl
abbrev Q_ex2 (Z : State) (h0 : Heap) (n0 : Nat) (eL : Addr) (a : Addr) (dv : UInt64) (msg : Addr) : Option Value → Heap → Prop := fun v h' => v = none ∧ Keep h0 h' [a] ∧ Ob_Ex Z h' a (.double dv) (.ref msg) (.ref eL)
abbrev R_ex2 : Room := { frames := 3, cells := 2, slots := 48, locals := 41 }
set_option maxRecDepth 65536 in
set_option maxHeartbeats 40000000 in
theorem m_ex2 (l : Launch) (Z : State) (a0 : Array Value) (hw : ∀ d ∈ tables_1, d.before a0 Z = true) (eL : Addr) (a : Addr) (dv : UInt64) (msg : Addr) (h0 : Heap) (n0 : Nat) (Z0 : n0 ≤ h0.size) (OLD0 : Old Z n0 h0) (S_L : Sta Z Z.heap "java/util/ImmutableCollections" "EMPTY_LIST" "Ljava/util/ImmutableCollections$ListN;" (.ref eL)) (O_L : Ob_Ln Z Z.heap eL 0) (O_a : Ob_Ex Z h0 a (.double 0) .null .null) (g_a : n0 ≤ a) : Met l Z (⟨"com/example/near_miss/nearmiss/scoring/Explanation", "<init>", "(DLjava/lang/String;)V"⟩ : MethodName) prog_16_method_2_code 4 none R_ex2 #[(.ref a), (.double dv), (.ref msg)] h0 n0 (Q_ex2 Z h0 n0 eL a dv msg) := by
  refine Met.of (plainFor_of_name pn4) (fun m => ef7 m a dv msg) ?_
  intro p e s m args below meth c C
  refine G.aloadN C d4_0 rfl rfl (n := 1) rfl ?_
  refine G.dloadN C d4_1 rfl (n := 2) rfl ?_
  refine G.aloadN C d4_2 rfl rfl (n := 3) rfl ?_
  refine G.callS C (argsL := []) (yc := (⟨"java/util/List", "of", "()Ljava/util/List;"⟩ : MethodName)) (wd hw 40 rfl) (wd hw 41 rfl) (wd hw 42 rfl) (wd hw 43 rfl) (by decide) (m_lof l Z a0 hw eL h0 n0 Z0 OLD0 S_L O_L) rfl (by decide) (W := 4) rfl (by decide) (c' := 0) (s' := 0) rfl rfl (by decide) (by decide) d4_3 (n := 6) rfl pd3 rfl rfl ?_
  rintro s C _ _ ⟨rfl, rfl⟩
  refine G.callC C (argsL := [(.double dv), (.ref msg), (.ref eL)]) (yc := (⟨"com/example/near_miss/nearmiss/scoring/Explanation", "<init>", "(DLjava/lang/String;Ljava/util/List;)V"⟩ : MethodName)) (a := a) rfl (wd hw 46 rfl) (wd hw 47 rfl) (wd hw 28 rfl) (wd hw 48 rfl) (by decide) (m_ex3 l Z a0 hw eL a dv msg h0 n0 Z0 OLD0 S_L O_L O_a g_a) rfl (by decide) (W := 0) rfl (by decide) (c' := 2) (s' := 48) rfl rfl (by decide) (by decide) d4_6 (n := 9) rfl pd4 rfl rfl ?_
  rintro s C _ h6 ⟨rfl, K3, O4⟩
  have OL7 := OLD0.keep K3 (allS g_a all0)
  have Z8 : n0 ≤ h6.size := Nat.le_trans Z0 K3.1
  have K9 : Keep h0 h6 [a] := Keep.tr (Keep.refl h0 _) K3 (allS (Or.inl (List.mem_of_getElem? (i := 0) rfl)) all0)
  refine G.return_ C d4_9 (by decide) (by decide) ?_
  exact ⟨rfl, K9, O4⟩
theorem d1_0 : decode prog_23_method_1_code 0 = .ok (.aload_n 0, 1) := by decide +kernel
theorem d1_1 : decode prog_23_method_1_code 1 = .ok (.invokespecial 5, 3) := by decide +kernel
theorem d1_4 : decode prog_23_method_1_code 4 = .ok (.aload_n 0, 1) := by decide +kernel
theorem d1_5 : decode prog_23_method_1_code 5 = .ok (.bipush 16, 2) := by decide +kernel
theorem d1_7 : decode prog_23_method_1_code 7 = .ok (.newarray .long, 2) := by decide +kernel
theorem d1_9 : decode prog_23_method_1_code 9 = .ok (.putfield 11, 3) := by decide +kernel
theorem d1_12 : decode prog_23_method_1_code 12 = .ok (.aload_n 0, 1) := by decide +kernel
theorem d1_13 : decode prog_23_method_1_code 13 = .ok (.sipush 1024, 3) := by decide +kernel
theorem d1_16 : decode prog_23_method_1_code 16 = .ok (.newarray .double, 2) := by decide +kernel
theorem d1_18 : decode prog_23_method_1_code 18 = .ok (.putfield 15, 3) := by decide +kernel
theorem d1_21 : decode prog_23_method_1_code 21 = .ok (.aload_n 0, 1) := by decide +kernel
theorem d1_22 : decode prog_23_method_1_code 22 = .ok (.iload_n 1, 1) := by decide +kernel
theorem d1_23 : decode prog_23_method_1_code 23 = .ok (.putfield 19, 3) := by decide +kernel
theorem d1_26 : decode prog_23_method_1_code 26 = .ok (.aload_n 0, 1) := by decide +kernel
theorem d1_27 : decode prog_23_method_1_code 27 = .ok (.iload_n 1, 1) := by decide +kernel
theorem d1_28 : decode prog_23_method_1_code 28 = .ok (.ifCond .eq 12, 3) := by decide +kernel
theorem d1_31 : decode prog_23_method_1_code 31 = .ok (.sipush 1024, 3) := by decide +kernel
theorem d1_34 : decode prog_23_method_1_code 34 = .ok (.anewarray 23, 3) := by decide +kernel
theorem d1_37 : decode prog_23_method_1_code 37 = .ok (.goto 4, 3) := by decide +kernel
theorem d1_40 : decode prog_23_method_1_code 40 = .ok (.aconst_null, 1) := by decide +kernel
theorem d1_41 : decode prog_23_method_1_code 41 = .ok (.putfield 25, 3) := by decide +kernel
theorem d1_44 : decode prog_23_method_1_code 44 = .ok (.return_, 1) := by decide +kernel
theorem pn5 : plainName "com/example/near_miss/nearmiss/search/Window" = true := by first | (simp [plainName, overriddenIn]; done) | decide +kernel
theorem ef8 (m : MethodId) (a : Addr) : entryFrame m #[(.ref a), (.int (0 : Int32))] 2 = mkF m 0 #[.val (.ref a), .val (.int (0 : Int32))] [] := by first | (simp [entryFrame, mkF, argsToLocals, Value.category]; done) | rfl
abbrev Q_init0 (Z : State) (h0 : Heap) (n0 : Nat) (a : Addr) : Option Value → Heap → Prop := fun v h' => v = none ∧ Keep h0 h' [a] ∧ ∃ M Sc : Addr, Ob_Wn Z h' a (.ref M) (.ref Sc) (0 : Int32) .null
abbrev R_init0 : Room := { frames := 1, cells := 2, slots := 1040, locals := 12 }
set_option maxRecDepth 65536 in
set_option maxHeartbeats 40000000 in
theorem m_init0 (l : Launch) (Z : State) (a0 : Array Value) (hw : ∀ d ∈ tables_1, d.before a0 Z = true) (a : Addr) (h0 : Heap) (n0 : Nat) (Z0 : n0 ≤ h0.size) (O_a : Ob_Wn Z h0 a .null .null 0 .null) (g_a : n0 ≤ a) : Met l Z (⟨"com/example/near_miss/nearmiss/search/Window", "<init>", "(Z)V"⟩ : MethodName) prog_23_method_1_code 2 none R_init0 #[(.ref a), (.int (0 : Int32))] h0 n0 (Q_init0 Z h0 n0 a) := by
  refine Met.of (plainFor_of_name pn5) (fun m => ef8 m a) ?_
  intro p e s m args below meth c C
  refine G.aloadN C d1_0 rfl rfl (n := 1) rfl ?_
  refine G.objinit C (wd hw 6 rfl) (wd hw 7 rfl) (wd hw 8 rfl) d1_1 rfl (by decide) (W := 0) rfl (by decide) (n := 4) rfl ?_
  refine G.aloadN C d1_4 rfl rfl (n := 5) rfl ?_
  refine G.bipush C (v := (16 : Int32)) d1_5 (by decide) (n := 7) rfl ?_
  refine G.newarrayJ C (ty := .long) (cap := 16) (wd hw 9 rfl) rfl rfl rfl (by decide) (by decide) (by decide) d1_7 (n := 9) rfl (c' := 1) (s' := 16) rfl rfl (by decide) (by decide) ?_
  intro h1 b2 q3 E4 O5
  have O6 : Longs Z h1 b2 [0, 0, 0, 0, 0, 0, 0, 0, 0, 0, 0, 0, 0, 0, 0, 0] := O5
  have ne7 : a ≠ b2 := Nat.ne_of_lt (Nat.lt_of_lt_of_le O_a.lt (Nat.le_of_eq q3.symm))
  have g8 : n0 ≤ b2 := Nat.le_trans Z0 (Nat.le_of_eq q3.symm)
  have f9 : h0.size ≤ b2 := Nat.le_trans (Keep.refl h0 []).1 (Nat.le_of_eq q3.symm)
  have K10 := kext E4
  have O11 := O_a.keep K10 nin0
  have Z12 : n0 ≤ h1.size := Nat.le_trans Z0 K10.1
  have K13 : Keep h0 h1 [a] := Keep.tr (Keep.refl h0 _) K10 all0
  refine G.putfield C (host := "") (Or.inl (wd hw 10 rfl)) Via.refl (O11.2.1) (O11.1) (Or.inr ⟨(wd hw 11 rfl), rfl, rfl⟩) (wd hw 1 rfl) (ty := (.array .long)) (by decide) rfl rfl g_a d1_9 (n := 12) rfl ?_
  intro h14 W15
  have O16 := Ob_Wn.set_matched hw O11 (v := (.ref b2)) W15
  have K17 := Keep.of_wr W15
  have O18 := O6.keep K17 (ninS (Ne.symm ne7) nin0)
  have Z19 : n0 ≤ h14.size := Nat.le_trans Z12 K17.1
  have K20 : Keep h0 h14 [a] := Keep.tr K13 K17 (allS (Or.inl (List.mem_of_getElem? (i := 0) rfl)) all0)
  refine G.aloadN C d1_12 rfl rfl (n := 13) rfl ?_
  refine G.sipush C (v := (1024 : Int32)) d1_13 (by decide) (n := 16) rfl ?_
  refine G.newarrayN C (ty := .double) (cap := 1024) (wd hw 12 rfl) rfl (by decide) (by decide) d1_16 (n := 18) rfl (c' := 2) (s' := 1040) rfl rfl (by decide) (by decide) ?_
  intro h21 b22 q23 E24 O25
  have ne26 : a ≠ b22 := Nat.ne_of_lt (Nat.lt_of_lt_of_le O16.lt (Nat.le_of_eq q23.symm))
  have ne27 : b2 ≠ b22 := Nat.ne_of_lt (Nat.lt_of_lt_of_le O18.lt (Nat.le_of_eq q23.symm))
  have g28 : n0 ≤ b22 := Nat.le_trans Z19 (Nat.le_of_eq q23.symm)
  have f29 : h0.size ≤ b22 := Nat.le_trans K20.1 (Nat.le_of_eq q23.symm)
  have K30 := kext E24
  have O31 := O16.keep K30 nin0
  have O32 := O18.keep K30 nin0
  have Z33 : n0 ≤ h21.size := Nat.le_trans Z19 K30.1
  have K34 : Keep h0 h21 [a] := Keep.tr K20 K30 all0
  refine G.putfield C (host := "") (Or.inl (wd hw 13 rfl)) Via.refl (O31.2.2.1) (O31.1) (Or.inr ⟨(wd hw 14 rfl), rfl, rfl⟩) (wd hw 1 rfl) (ty := (.array .double)) (by decide) rfl rfl g_a d1_18 (n := 21) rfl ?_
  intro h35 W36
  have O37 := Ob_Wn.set_scores hw O31 (v := (.ref b22)) W36
  have K38 := Keep.of_wr W36
  have O39 := O32.keep K38 (ninS (Ne.symm ne7) nin0)
  have O40 := O25.keep K38 (ninS (Ne.symm ne26) nin0)
  have Z41 : n0 ≤ h35.size := Nat.le_trans Z33 K38.1
  have K42 : Keep h0 h35 [a] := Keep.tr K34 K38 (allS (Or.inl (List.mem_of_getElem? (i := 0) rfl)) all0)
  refine G.aloadN C d1_21 rfl rfl (n := 22) rfl ?_
  refine G.iloadN C d1_22 rfl (n := 23) rfl ?_
  refine G.putfield C (host := "") (Or.inl (wd hw 15 rfl)) Via.refl (O37.2.2.2.1) (O37.1) (Or.inr ⟨(wd hw 16 rfl), rfl, rfl⟩) (wd hw 1 rfl) (ty := .boolean) (by decide) rfl rfl g_a d1_23 (n := 26) rfl ?_
  intro h43 W44
  have O45 := Ob_Wn.set_explains hw O37 W44
  have K46 := Keep.of_wr W44
  have O47 := O39.keep K46 (ninS (Ne.symm ne7) nin0)
  have O48 := O40.keep K46 (ninS (Ne.symm ne26) nin0)
  have Z49 : n0 ≤ h43.size := Nat.le_trans Z41 K46.1
  have K50 : Keep h0 h43 [a] := Keep.tr K42 K46 (allS (Or.inl (List.mem_of_getElem? (i := 0) rfl)) all0)
  refine G.aloadN C d1_26 rfl rfl (n := 27) rfl ?_
  refine G.iloadN C d1_27 rfl (n := 28) rfl ?_
  refine G.if_eq C (A := 0) (by decide) d1_28 (by decide) (by decide) (n := 31) (n' := 40) rfl (fun c28_51 c28_51i => ?_) (fun c28_51 c28_51i => ?_)
  rotate_left
  · exact absurd c28_51 (by decide)
  refine G.aconst_null C d1_40 (n := 41) rfl ?_
  refine G.putfield C (host := "") (Or.inl (wd hw 17 rfl)) Via.refl (O45.2.2.2.2) (O45.1) (Or.inr ⟨(wd hw 18 rfl), rfl, rfl⟩) (wd hw 1 rfl) (ty := (.array (.object "com/example/near_miss/nearmiss/scoring/Explanation"))) (by decide) rfl rfl g_a d1_41 (n := 44) rfl ?_
  intro h52 W53
  have O54 := Ob_Wn.set_explanations hw O45 (v := .null) W53
  have K55 := Keep.of_wr W53
  have O56 := O47.keep K55 (ninS (Ne.symm ne7) nin0)
  have O57 := O48.keep K55 (ninS (Ne.symm ne26) nin0)
  have Z58 : n0 ≤ h52.size := Nat.le_trans Z49 K55.1
  have K59 : Keep h0 h52 [a] := Keep.tr K50 K55 (allS (Or.inl (List.mem_of_getElem? (i := 0) rfl)) all0)
  refine G.return_ C d1_44 (by decide) (by decide) ?_
  exact ⟨rfl, K59, b2, b22, O54⟩
theorem ef9 (m : MethodId) (a : Addr) : entryFrame m #[(.ref a), (.int (1 : Int32))] 2 = mkF m 0 #[.val (.ref a), .val (.int (1 : Int32))] [] := by first | (simp [entryFrame, mkF, argsToLocals, Value.category]; done) | rfl
abbrev Q_init1 (Z : State) (h0 : Heap) (n0 : Nat) (a : Addr) : Option Value → Heap → Prop := fun v h' => v = none ∧ Keep h0 h' [a] ∧ ∃ M Sc X : Addr, Ob_Wn Z h' a (.ref M) (.ref Sc) (1 : Int32) (.ref X) ∧ RefsO Z h' X "com/example/near_miss/nearmiss/scoring/Explanation" (List.replicate 1024 Value.null) ∧ h0.size ≤ X
abbrev R_init1 : Room := { frames := 1, cells := 3, slots := 2064, locals := 12 }
set_option maxRecDepth 65536 in
set_option maxHeartbeats 40000000 in
theorem m_init1 (l : Launch) (Z : State) (a0 : Array Value) (hw : ∀ d ∈ tables_1, d.before a0 Z = true) (a : Addr) (h0 : Heap) (n0 : Nat) (Z0 : n0 ≤ h0.size) (O_a : Ob_Wn Z h0 a .null .null 0 .null) (g_a : n0 ≤ a) : Met l Z (⟨"com/example/near_miss/nearmiss/search/Window", "<init>", "(Z)V"⟩ : MethodName) prog_23_method_1_code 2 none R_init1 #[(.ref a), (.int (1 : Int32))] h0 n0 (Q_init1 Z h0 n0 a) := by
  refine Met.of (plainFor_of_name pn5) (fun m => ef9 m a) ?_
  intro p e s m args below meth c C
  refine G.aloadN C d1_0 rfl rfl (n := 1) rfl ?_
  refine G.objinit C (wd hw 6 rfl) (wd hw 7 rfl) (wd hw 8 rfl) d1_1 rfl (by decide) (W := 0) rfl (by decide) (n := 4) rfl ?_
  refine G.aloadN C d1_4 rfl rfl (n := 5) rfl ?_
  refine G.bipush C (v := (16 : Int32)) d1_5 (by decide) (n := 7) rfl ?_
  refine G.newarrayJ C (ty := .long) (cap := 16) (wd hw 9 rfl) rfl rfl rfl (by decide) (by decide) (by decide) d1_7 (n := 9) rfl (c' := 1) (s' := 16) rfl rfl (by decide) (by decide) ?_
  intro h1 b2 q3 E4 O5
  have O6 : Longs Z h1 b2 [0, 0, 0, 0, 0, 0, 0, 0, 0, 0, 0, 0, 0, 0, 0, 0] := O5
  have ne7 : a ≠ b2 := Nat.ne_of_lt (Nat.lt_of_lt_of_le O_a.lt (Nat.le_of_eq q3.symm))
  have g8 : n0 ≤ b2 := Nat.le_trans Z0 (Nat.le_of_eq q3.symm)
  have f9 : h0.size ≤ b2 := Nat.le_trans (Keep.refl h0 []).1 (Nat.le_of_eq q3.symm)
  have K10 := kext E4
  have O11 := O_a.keep K10 nin0
  have Z12 : n0 ≤ h1.size := Nat.le_trans Z0 K10.1
  have K13 : Keep h0 h1 [a] := Keep.tr (Keep.refl h0 _) K10 all0
  refine G.putfield C (host := "") (Or.inl (wd hw 10 rfl)) Via.refl (O11.2.1) (O11.1) (Or.inr ⟨(wd hw 11 rfl), rfl, rfl⟩) (wd hw 1 rfl) (ty := (.array .long)) (by decide) rfl rfl g_a d1_9 (n := 12) rfl ?_
  intro h14 W15
  have O16 := Ob_Wn.set_matched hw O11 (v := (.ref b2)) W15
  have K17 := Keep.of_wr W15
  have O18 := O6.keep K17 (ninS (Ne.symm ne7) nin0)
  have Z19 : n0 ≤ h14.size := Nat.le_trans Z12 K17.1
  have K20 : Keep h0 h14 [a] := Keep.tr K13 K17 (allS (Or.inl (List.mem_of_getElem? (i := 0) rfl)) all0)
  refine G.aloadN C d1_12 rfl rfl (n := 13) rfl ?_
  refine G.sipush C (v := (1024 : Int32)) d1_13 (by decide) (n := 16) rfl ?_
  refine G.newarrayN C (ty := .double) (cap := 1024) (wd hw 12 rfl) rfl (by decide) (by decide) d1_16 (n := 18) rfl (c' := 2) (s' := 1040) rfl rfl (by decide) (by decide) ?_
  intro h21 b22 q23 E24 O25
  have ne26 : a ≠ b22 := Nat.ne_of_lt (Nat.lt_of_lt_of_le O16.lt (Nat.le_of_eq q23.symm))
  have ne27 : b2 ≠ b22 := Nat.ne_of_lt (Nat.lt_of_lt_of_le O18.lt (Nat.le_of_eq q23.symm))
  have g28 : n0 ≤ b22 := Nat.le_trans Z19 (Nat.le_of_eq q23.symm)
  have f29 : h0.size ≤ b22 := Nat.le_trans K20.1 (Nat.le_of_eq q23.symm)
  have K30 := kext E24
  have O31 := O16.keep K30 nin0
  have O32 := O18.keep K30 nin0
  have Z33 : n0 ≤ h21.size := Nat.le_trans Z19 K30.1
  have K34 : Keep h0 h21 [a] := Keep.tr K20 K30 all0
  refine G.putfield C (host := "") (Or.inl (wd hw 13 rfl)) Via.refl (O31.2.2.1) (O31.1) (Or.inr ⟨(wd hw 14 rfl), rfl, rfl⟩) (wd hw 1 rfl) (ty := (.array .double)) (by decide) rfl rfl g_a d1_18 (n := 21) rfl ?_
  intro h35 W36
  have O37 := Ob_Wn.set_scores hw O31 (v := (.ref b22)) W36
  have K38 := Keep.of_wr W36
  have O39 := O32.keep K38 (ninS (Ne.symm ne7) nin0)
  have O40 := O25.keep K38 (ninS (Ne.symm ne26) nin0)
  have Z41 : n0 ≤ h35.size := Nat.le_trans Z33 K38.1
  have K42 : Keep h0 h35 [a] := Keep.tr K34 K38 (allS (Or.inl (List.mem_of_getElem? (i := 0) rfl)) all0)
  refine G.aloadN C d1_21 rfl rfl (n := 22) rfl ?_
  refine G.iloadN C d1_22 rfl (n := 23) rfl ?_
  refine G.putfield C (host := "") (Or.inl (wd hw 15 rfl)) Via.refl (O37.2.2.2.1) (O37.1) (Or.inr ⟨(wd hw 16 rfl), rfl, rfl⟩) (wd hw 1 rfl) (ty := .boolean) (by decide) rfl rfl g_a d1_23 (n := 26) rfl ?_
  intro h43 W44
  have O45 := Ob_Wn.set_explains hw O37 W44
  have K46 := Keep.of_wr W44
  have O47 := O39.keep K46 (ninS (Ne.symm ne7) nin0)
  have O48 := O40.keep K46 (ninS (Ne.symm ne26) nin0)
  have Z49 : n0 ≤ h43.size := Nat.le_trans Z41 K46.1
  have K50 : Keep h0 h43 [a] := Keep.tr K42 K46 (allS (Or.inl (List.mem_of_getElem? (i := 0) rfl)) all0)
  refine G.aloadN C d1_26 rfl rfl (n := 27) rfl ?_
  refine G.iloadN C d1_27 rfl (n := 28) rfl ?_
  refine G.if_eq C (A := 1) (by decide) d1_28 (by decide) (by decide) (n := 31) (n' := 40) rfl (fun c28_51 c28_51i => ?_) (fun c28_51 c28_51i => ?_)
  · exact absurd c28_51 (by decide)
  refine G.sipush C (v := (1024 : Int32)) d1_31 (by decide) (n := 34) rfl ?_
  refine G.anewarrayO C (cap := 1024) (wd hw 24 rfl) (wd hw 25 rfl) (by decide) (by decide) d1_34 (n := 37) rfl (c' := 3) (s' := 2064) rfl rfl (by decide) (by decide) ?_
  intro h52 b53 q54 E55 O56
  have ne57 : a ≠ b53 := Nat.ne_of_lt (Nat.lt_of_lt_of_le O45.lt (Nat.le_of_eq q54.symm))
  have ne58 : b2 ≠ b53 := Nat.ne_of_lt (Nat.lt_of_lt_of_le O47.lt (Nat.le_of_eq q54.symm))
  have ne59 : b22 ≠ b53 := Nat.ne_of_lt (Nat.lt_of_lt_of_le O48.lt (Nat.le_of_eq q54.symm))
  have g60 : n0 ≤ b53 := Nat.le_trans Z49 (Nat.le_of_eq q54.symm)
  have f61 : h0.size ≤ b53 := Nat.le_trans K50.1 (Nat.le_of_eq q54.symm)
  have K62 := kext E55
  have O63 := O45.keep K62 nin0
  have O64 := O47.keep K62 nin0
  have O65 := O48.keep K62 nin0
  have Z66 : n0 ≤ h52.size := Nat.le_trans Z49 K62.1
  have K67 : Keep h0 h52 [a] := Keep.tr K50 K62 all0
  refine G.goto C d1_37 (by decide) (n := 41) (by decide) ?_
  refine G.putfield C (host := "") (Or.inl (wd hw 17 rfl)) Via.refl (O63.2.2.2.2) (O63.1) (Or.inr ⟨(wd hw 18 rfl), rfl, rfl⟩) (wd hw 1 rfl) (ty := (.array (.object "com/example/near_miss/nearmiss/scoring/Explanation"))) (by decide) rfl rfl g_a d1_41 (n := 44) rfl ?_
  intro h68 W69
  have O70 := Ob_Wn.set_explanations hw O63 (v := (.ref b53)) W69
  have K71 := Keep.of_wr W69
  have O72 := O64.keep K71 (ninS (Ne.symm ne7) nin0)
  have O73 := O65.keep K71 (ninS (Ne.symm ne26) nin0)
  have O74 := O56.keep K71 (ninS (Ne.symm ne57) nin0)
  have Z75 : n0 ≤ h68.size := Nat.le_trans Z66 K71.1
  have K76 : Keep h0 h68 [a] := Keep.tr K67 K71 (allS (Or.inl (List.mem_of_getElem? (i := 0) rfl)) all0)
  refine G.return_ C d1_44 (by decide) (by decide) ?_
  exact ⟨rfl, K76, b2, b22, b53, O70, O74, f61⟩
theorem d3_0 : decode prog_23_method_24_code 0 = .ok (.aload_n 0, 1) := by decide +kernel
theorem d3_1 : decode prog_23_method_24_code 1 = .ok (.getfield 19, 3) := by decide +kernel
theorem d3_4 : decode prog_23_method_24_code 4 = .ok (.ifCond .eq 12, 3) := by decide +kernel
theorem d3_7 : decode prog_23_method_24_code 7 = .ok (.aload_n 0, 1) := by decide +kernel
theorem d3_8 : decode prog_23_method_24_code 8 = .ok (.getfield 25, 3) := by decide +kernel
theorem d3_11 : decode prog_23_method_24_code 11 = .ok (.iload_n 1, 1) := by decide +kernel
theorem d3_12 : decode prog_23_method_24_code 12 = .ok (.aaload, 1) := by decide +kernel
theorem d3_13 : decode prog_23_method_24_code 13 = .ok (.goto 4, 3) := by decide +kernel
theorem d3_16 : decode prog_23_method_24_code 16 = .ok (.aconst_null, 1) := by decide +kernel
theorem d3_17 : decode prog_23_method_24_code 17 = .ok (.areturn, 1) := by decide +kernel
theorem ef10 (m : MethodId) (a : Addr) (i : Int32) : entryFrame m #[(.ref a), (.int i)] 2 = mkF m 0 #[.val (.ref a), .val (.int i)] [] := by first | (simp [entryFrame, mkF, argsToLocals, Value.category]; done) | rfl
abbrev Q_exp0 (Z : State) (h0 : Heap) (n0 : Nat) (a : Addr) (M : Addr) (Sc : Addr) (i : Int32) : Option Value → Heap → Prop := fun v h' => v = some .null ∧ h0 = h'
abbrev R_exp0 : Room := { frames := 0, cells := 0, slots := 0, locals := 0 }
set_option maxRecDepth 65536 in
set_option maxHeartbeats 40000000 in
theorem m_exp0 (l : Launch) (Z : State) (a0 : Array Value) (hw : ∀ d ∈ tables_1, d.before a0 Z = true) (a : Addr) (M : Addr) (Sc : Addr) (i : Int32) (h0 : Heap) (n0 : Nat) (Z0 : n0 ≤ h0.size) (O_a : Ob_Wn Z h0 a (.ref M) (.ref Sc) (0 : Int32) .null) : Met l Z (⟨"com/example/near_miss/nearmiss/search/Window", "explanation", "(I)Lcom/example/near_miss/nearmiss/scoring/Explanation;"⟩ : MethodName) prog_23_method_24_code 2 (some (.object "com/example/near_miss/nearmiss/scoring/Explanation")) R_exp0 #[(.ref a), (.int i)] h0 n0 (Q_exp0 Z h0 n0 a M Sc i) := by
  refine Met.of (plainFor_of_name pn5) (fun m => ef10 m a i) ?_
  intro p e s m args below meth c C
  refine G.aloadN C d3_0 rfl rfl (n := 1) rfl ?_
  refine G.getfield C (host := "") (Or.inl (wd hw 15 rfl)) Via.refl (O_a.2.2.2.1) d3_1 (n := 4) rfl ?_
  refine G.if_eq C (A := 0) (by decide) d3_4 (by decide) (by decide) (n := 7) (n' := 16) rfl (fun c4_1 c4_1i => ?_) (fun c4_1 c4_1i => ?_)
  rotate_left
  · exact absurd c4_1 (by decide)
  refine G.aconst_null C d3_16 (n := 17) rfl ?_
  refine G.areturn C d3_17 rfl rfl rfl (by decide) (by decide) ?_
  exact ⟨rfl, rfl⟩
theorem ef11 (m : MethodId) (a : Addr) (i : Int32) : entryFrame m #[(.ref a), (.int i)] 2 = mkF m 0 #[.val (.ref a), .val (.int i)] [] := by first | (simp [entryFrame, mkF, argsToLocals, Value.category]; done) | rfl
abbrev Q_expN (Z : State) (h0 : Heap) (n0 : Nat) (a : Addr) (M : Addr) (Sc : Addr) (X : Addr) (xs : List Value) (i : Int32) : Option Value → Heap → Prop := fun v h' => v = some .null ∧ h0 = h'
abbrev R_expN : Room := { frames := 0, cells := 0, slots := 0, locals := 0 }
set_option maxRecDepth 65536 in
set_option maxHeartbeats 40000000 in
theorem m_expN (l : Launch) (Z : State) (a0 : Array Value) (hw : ∀ d ∈ tables_1, d.before a0 Z = true) (a : Addr) (M : Addr) (Sc : Addr) (X : Addr) (xs : List Value) (i : Int32) (h0 : Heap) (n0 : Nat) (Z0 : n0 ≤ h0.size) (O_a : Ob_Wn Z h0 a (.ref M) (.ref Sc) (1 : Int32) (.ref X)) (O_X : RefsO Z h0 X "com/example/near_miss/nearmiss/scoring/Explanation" xs) (q_0 : 0 ≤ i.toInt) (q_x : xs[i.toInt.toNat]? = some .null) : Met l Z (⟨"com/example/near_miss/nearmiss/search/Window", "explanation", "(I)Lcom/example/near_miss/nearmiss/scoring/Explanation;"⟩ : MethodName) prog_23_method_24_code 2 (some (.object "com/example/near_miss/nearmiss/scoring/Explanation")) R_expN #[(.ref a), (.int i)] h0 n0 (Q_expN Z h0 n0 a M Sc X xs i) := by
  refine Met.of (plainFor_of_name pn5) (fun m => ef11 m a i) ?_
  intro p e s m args below meth c C
  refine G.aloadN C d3_0 rfl rfl (n := 1) rfl ?_
  refine G.getfield C (host := "") (Or.inl (wd hw 15 rfl)) Via.refl (O_a.2.2.2.1) d3_1 (n := 4) rfl ?_
  refine G.if_eq C (A := 1) (by decide) d3_4 (by decide) (by decide) (n := 7) (n' := 16) rfl (fun c4_1 c4_1i => ?_) (fun c4_1 c4_1i => ?_)
  · exact absurd c4_1 (by decide)
  refine G.aloadN C d3_7 rfl rfl (n := 8) rfl ?_
  refine G.getfield C (host := "") (Or.inl (wd hw 17 rfl)) Via.refl (O_a.2.2.2.2) d3_8 (n := 11) rfl ?_
  refine G.iloadN C d3_11 rfl (n := 12) rfl ?_
  refine G.aaload C (x := .null) (RefsO.refs O_X) rfl q_0 q_x d3_12 (n := 13) rfl ?_
  refine G.goto C d3_13 (by decide) (n := 17) (by decide) ?_
  refine G.areturn C d3_17 rfl rfl rfl (by decide) (by decide) ?_
  exact ⟨rfl, rfl⟩
theorem ef12 (m : MethodId) (a : Addr) (i : Int32) : entryFrame m #[(.ref a), (.int i)] 2 = mkF m 0 #[.val (.ref a), .val (.int i)] [] := by first | (simp [entryFrame, mkF, argsToLocals, Value.category]; done) | rfl
abbrev Q_expR (Z : State) (h0 : Heap) (n0 : Nat) (a : Addr) (M : Addr) (Sc : Addr) (X : Addr) (xs : List Value) (i : Int32) (y1 : Addr) : Option Value → Heap → Prop := fun v h' => v = some (.ref y1) ∧ h0 = h'
abbrev R_expR : Room := { frames := 0, cells := 0, slots := 0, locals := 0 }
set_option maxRecDepth 65536 in
set_option maxHeartbeats 40000000 in
theorem m_expR (l : Launch) (Z : State) (a0 : Array Value) (hw : ∀ d ∈ tables_1, d.before a0 Z = true) (a : Addr) (M : Addr) (Sc : Addr) (X : Addr) (xs : List Value) (i : Int32) (y1 : Addr) (h0 : Heap) (n0 : Nat) (Z0 : n0 ≤ h0.size) (O_a : Ob_Wn Z h0 a (.ref M) (.ref Sc) (1 : Int32) (.ref X)) (O_X : RefsO Z h0 X "com/example/near_miss/nearmiss/scoring/Explanation" xs) (q_0 : 0 ≤ i.toInt) (q_x : xs[i.toInt.toNat]? = some (.ref y1)) : Met l Z (⟨"com/example/near_miss/nearmiss/search/Window", "explanation", "(I)Lcom/example/near_miss/nearmiss/scoring/Explanation;"⟩ : MethodName) prog_23_method_24_code 2 (some (.object "com/example/near_miss/nearmiss/scoring/Explanation")) R_expR #[(.ref a), (.int i)] h0 n0 (Q_expR Z h0 n0 a M Sc X xs i y1) := by
  refine Met.of (plainFor_of_name pn5) (fun m => ef12 m a i) ?_
  intro p e s m args below meth c C
  refine G.aloadN C d3_0 rfl rfl (n := 1) rfl ?_
  refine G.getfield C (host := "") (Or.inl (wd hw 15 rfl)) Via.refl (O_a.2.2.2.1) d3_1 (n := 4) rfl ?_
  refine G.if_eq C (A := 1) (by decide) d3_4 (by decide) (by decide) (n := 7) (n' := 16) rfl (fun c4_1 c4_1i => ?_) (fun c4_1 c4_1i => ?_)
  · exact absurd c4_1 (by decide)
  refine G.aloadN C d3_7 rfl rfl (n := 8) rfl ?_
  refine G.getfield C (host := "") (Or.inl (wd hw 17 rfl)) Via.refl (O_a.2.2.2.2) d3_8 (n := 11) rfl ?_
  refine G.iloadN C d3_11 rfl (n := 12) rfl ?_
  refine G.aaload C (x := (.ref y1)) (RefsO.refs O_X) rfl q_0 q_x d3_12 (n := 13) rfl ?_
  refine G.goto C d3_13 (by decide) (n := 17) (by decide) ?_
  refine G.areturn C d3_17 rfl rfl rfl (by decide) (by decide) ?_
  exact ⟨rfl, rfl⟩
theorem d11_0 : decode prog_23_method_25_code 0 = .ok (.aload_n 0, 1) := by decide +kernel
theorem d11_1 : decode prog_23_method_25_code 1 = .ok (.getfield 19, 3) := by decide +kernel
theorem d11_4 : decode prog_23_method_25_code 4 = .ok (.ifCond .ne 13, 3) := by decide +kernel
theorem d11_7 : decode prog_23_method_25_code 7 = .ok (.new 116, 3) := by decide +kernel
theorem d11_10 : decode prog_23_method_25_code 10 = .ok (.dup, 1) := by decide +kernel
theorem d11_11 : decode prog_23_method_25_code 11 = .ok (.ldc 118, 2) := by decide +kernel
theorem d11_13 : decode prog_23_method_25_code 13 = .ok (.invokespecial 120, 3) := by decide +kernel
theorem d11_16 : decode prog_23_method_25_code 16 = .ok (.athrow, 1) := by decide +kernel
theorem d11_17 : decode prog_23_method_25_code 17 = .ok (.aload_n 0, 1) := by decide +kernel
theorem d11_18 : decode prog_23_method_25_code 18 = .ok (.getfield 25, 3) := by decide +kernel
theorem d11_21 : decode prog_23_method_25_code 21 = .ok (.iload_n 1, 1) := by decide +kernel
theorem d11_22 : decode prog_23_method_25_code 22 = .ok (.aload_n 2, 1) := by decide +kernel
theorem d11_23 : decode prog_23_method_25_code 23 = .ok (.aastore, 1) := by decide +kernel
theorem d11_24 : decode prog_23_method_25_code 24 = .ok (.return_, 1) := by decide +kernel
theorem ef13 (m : MethodId) (a : Addr) (i : Int32) (e1 : Addr) : entryFrame m #[(.ref a), (.int i), (.ref e1)] 3 = mkF m 0 #[.val (.ref a), .val (.int i), .val (.ref e1)] [] := by first | (simp [entryFrame, mkF, argsToLocals, Value.category]; done) | rfl
abbrev Q_setx (Z : State) (h0 : Heap) (n0 : Nat) (a : Addr) (M : Addr) (Sc : Addr) (X : Addr) (xs : List Value) (i : Int32) (e1 : Addr) : Option Value → Heap → Prop := fun v h' => v = none ∧ Keep h0 h' [X] ∧ RefsO Z h' X "com/example/near_miss/nearmiss/scoring/Explanation" (xs.set i.toInt.toNat (.ref e1))
abbrev R_setx : Room := { frames := 0, cells := 0, slots := 0, locals := 0 }
set_option maxRecDepth 65536 in
set_option maxHeartbeats 40000000 in
theorem m_setx (l : Launch) (Z : State) (a0 : Array Value) (hw : ∀ d ∈ tables_1, d.before a0 Z = true) (a : Addr) (M : Addr) (Sc : Addr) (X : Addr) (xs : List Value) (i : Int32) (e1 : Addr) (h0 : Heap) (n0 : Nat) (Z0 : n0 ≤ h0.size) (O_a : Ob_Wn Z h0 a (.ref M) (.ref Sc) (1 : Int32) (.ref X)) (O_X : RefsO Z h0 X "com/example/near_miss/nearmiss/scoring/Explanation" xs) (q_0 : 0 ≤ i.toInt) (q_1 : i.toInt < xs.length) (E_1 : Exa Z h0 e1 "com/example/near_miss/nearmiss/scoring/Explanation") (g_X : n0 ≤ X) (neX : a ≠ X) (neE : e1 ≠ X) : Met l Z (⟨"com/example/near_miss/nearmiss/search/Window", "setExplanation", "(ILcom/example/near_miss/nearmiss/scoring/Explanation;)V"⟩ : MethodName) prog_23_method_25_code 3 none R_setx #[(.ref a), (.int i), (.ref e1)] h0 n0 (Q_setx Z h0 n0 a M Sc X xs i e1) := by
  refine Met.of (plainFor_of_name pn5) (fun m => ef13 m a i e1) ?_
  intro p e s m args below meth c C
  refine G.aloadN C d11_0 rfl rfl (n := 1) rfl ?_
  refine G.getfield C (host := "") (Or.inl (wd hw 15 rfl)) Via.refl (O_a.2.2.2.1) d11_1 (n := 4) rfl ?_
  refine G.if_ne C (A := 1) (by decide) d11_4 (by decide) (by decide) (n := 7) (n' := 17) rfl (fun c4_1 c4_1i => ?_) (fun c4_1 c4_1i => ?_)
  rotate_left
  · exact absurd c4_1 (by decide)
  refine G.aloadN C d11_17 rfl rfl (n := 18) rfl ?_
  refine G.getfield C (host := "") (Or.inl (wd hw 17 rfl)) Via.refl (O_a.2.2.2.2) d11_18 (n := 21) rfl ?_
  refine G.iloadN C d11_21 rfl (n := 22) rfl ?_
  refine G.aloadN C d11_22 rfl rfl (n := 23) rfl ?_
  refine G.aastoreO C O_X (Ins.self E_1) q_0 q_1 g_X d11_23 (n := 24) rfl ?_
  intro h2 K3 O4
  have O5 := O_a.keep K3 (ninS neX nin0)
  have O6 := E_1.keep K3 
  have Z7 : n0 ≤ h2.size := Nat.le_trans Z0 K3.1
  have K8 : Keep h0 h2 [X] := Keep.tr (Keep.refl h0 _) K3 (allS (Or.inl (List.mem_of_getElem? (i := 0) rfl)) all0)
  refine G.return_ C d11_24 (by decide) (by decide) ?_
  exact ⟨rfl, K8, O4⟩
theorem pd5 : parseMethodDescriptor "(Z)V" = some ⟨[.boolean], none⟩ := by decide +kernel
theorem pd6 : parseMethodDescriptor "(I)Lcom/example/near_miss/nearmiss/scoring/Explanation;" = some ⟨[.int], some (.object "com/example/near_miss/nearmiss/scoring/Explanation")⟩ := by decide +kernel
theorem pd7 : parseMethodDescriptor "(DLjava/lang/String;)V" = some ⟨[.double, (.object "java/lang/String")], none⟩ := by decide +kernel
theorem pd8 : parseMethodDescriptor "(ILcom/example/near_miss/nearmiss/scoring/Explanation;)V" = some ⟨[.int, (.object "com/example/near_miss/nearmiss/scoring/Explanation")], none⟩ := by decide +kernel
theorem pn6 : plainName "com/example/near_miss/nearmiss/search/WindowExplanationPinLaw" = true := by first | (simp [plainName, overriddenIn]; done) | decide +kernel
theorem ef14 (m : MethodId) (i0 : Int32) (i1 : Int32) (i2 : Int32) (i3 : Int32) : entryFrame m #[(.int i0), (.int i1), (.int i2), (.int i3)] 17 = mkF m 0 #[.val (.int i0), .val (.int i1), .val (.int i2), .val (.int i3), .unset, .unset, .unset, .unset, .unset, .unset, .unset, .unset, .unset, .unset, .unset, .unset, .unset] [] := by first | (simp [entryFrame, mkF, argsToLocals, Value.category]; done) | rfl
abbrev Q_law (Z : State) (h0 : Heap) (n0 : Nat) (i0 : Int32) (i1 : Int32) (i2 : Int32) (i3 : Int32) (eL : Addr) : Option Value → Heap → Prop := fun v h' => v = some (.int 1)
set_option maxRecDepth 65536 in
set_option maxHeartbeats 40000000 in
theorem m_law (l : Launch) (Z : State) (a0 : Array Value) (hw : ∀ d ∈ tables_1, d.before a0 Z = true) (i0 : Int32) (i1 : Int32) (i2 : Int32) (i3 : Int32) (eL : Addr) (h0 : Heap) (n0 : Nat) (Z0 : n0 ≤ h0.size) (OLD0 : Old Z n0 h0) (S_L : Sta Z Z.heap "java/util/ImmutableCollections" "EMPTY_LIST" "Ljava/util/ImmutableCollections$ListN;" (.ref eL)) (O_L : Ob_Ln Z Z.heap eL 0) : Met l Z (⟨"com/example/near_miss/nearmiss/search/WindowExplanationPinLaw", "law", "(IIII)Z"⟩ : MethodName) code 17 (some .boolean) room_1 #[(.int i0), (.int i1), (.int i2), (.int i3)] h0 n0 (Q_law Z h0 n0 i0 i1 i2 i3 eL) := by
  refine Met.of (plainFor_of_name pn6) (fun m => ef14 m i0 i1 i2 i3) ?_
  intro p e s m args below meth c C
  refine G.iloadN C at_0 rfl (n := 1) rfl ?_
  refine G.iconst C (v := (1 : Int32)) at_1 (by decide) (n := 2) rfl ?_
  refine G.iand C at_2 (n := 3) rfl ?_
  refine G.if_eq C (A := (i0 &&& (1 : Int32)).toInt) rfl at_3 (by decide) (by decide) (n := 6) (n' := 10) rfl (fun c3_1 c3_1i => ?_) (fun c3_1 c3_1i => ?_)
  · refine G.iconst C (v := (0 : Int32)) at_10 (by decide) (n := 11) rfl ?_
    refine G.istore C at_11 (l' := #[.val (.int i0), .val (.int i1), .val (.int i2), .val (.int i3), .val (.int (0 : Int32)), .unset, .unset, .unset, .unset, .unset, .unset, .unset, .unset, .unset, .unset, .unset, .unset]) rfl (n := 13) rfl ?_
    refine G.iloadN C at_13 rfl (n := 14) rfl ?_
    refine G.sipush C (v := (1023 : Int32)) at_14 (by decide) (n := 17) rfl ?_
    refine G.iand C at_17 (n := 18) rfl ?_
    refine G.istoreZ C at_18 (l' := fun z => #[.val (.int i0), .val (.int i1), .val (.int i2), .val (.int i3), .val (.int (0 : Int32)), .val (.int z), .unset, .unset, .unset, .unset, .unset, .unset, .unset, .unset, .unset, .unset, .unset]) (fun _ => rfl) (n := 20) rfl ?_
    intro v2 hv2
    have q_a : 0 ≤ v2.toInt ∧ v2.toInt ≤ 1023 := by rw [hv2]; exact c_and i1 1023 (by decide)
    refine G.iloadN C at_20 rfl (n := 21) rfl ?_
    refine G.sipush C (v := (1023 : Int32)) at_21 (by decide) (n := 24) rfl ?_
    refine G.iand C at_24 (n := 25) rfl ?_
    refine G.istoreZ C at_25 (l' := fun z => #[.val (.int i0), .val (.int i1), .val (.int i2), .val (.int i3), .val (.int (0 : Int32)), .val (.int v2), .val (.int z), .unset, .unset, .unset, .unset, .unset, .unset, .unset, .unset, .unset, .unset]) (fun _ => rfl) (n := 27) rfl ?_
    intro v3 hv3
    have q_b : 0 ≤ v3.toInt ∧ v3.toInt ≤ 1023 := by rw [hv3]; exact c_and i2 1023 (by decide)
    refine G.iloadN C at_27 rfl (n := 28) rfl ?_
    refine G.sipush C (v := (1023 : Int32)) at_28 (by decide) (n := 31) rfl ?_
    refine G.iand C at_31 (n := 32) rfl ?_
    refine G.istoreZ C at_32 (l' := fun z => #[.val (.int i0), .val (.int i1), .val (.int i2), .val (.int i3), .val (.int (0 : Int32)), .val (.int v2), .val (.int v3), .val (.int z), .unset, .unset, .unset, .unset, .unset, .unset, .unset, .unset, .unset]) (fun _ => rfl) (n := 34) rfl ?_
    intro v4 hv4
    have q_c : 0 ≤ v4.toInt ∧ v4.toInt ≤ 1023 := by rw [hv4]; exact c_and i3 1023 (by decide)
    refine G.new C (wd hw 0 rfl) (wd hw 1 rfl) (wd hw 2 rfl) at_34 (n := 37) rfl (c' := 1) (s' := 9) rfl rfl (by decide) (by decide) ?_
    intro h5 b6 q7 E8 A9 D10
    have g11 : n0 ≤ b6 := Nat.le_trans Z0 (Nat.le_of_eq q7.symm)
    have O12 := Ob_Wn.new hw A9 D10
    have K13 := kext E8
    have OL14 := OLD0.keep K13 all0
    have Z15 : n0 ≤ h5.size := Nat.le_trans Z0 K13.1
    refine G.dup C at_37 rfl (n := 38) rfl ?_
    refine G.iload C at_38 rfl (n := 40) rfl ?_
    refine G.callC C (argsL := [(.int (0 : Int32))]) (yc := (⟨"com/example/near_miss/nearmiss/search/Window", "<init>", "(Z)V"⟩ : MethodName)) (a := b6) rfl (wd hw 3 rfl) (wd hw 4 rfl) (wd hw 2 rfl) (wd hw 5 rfl) (by decide) (m_init0 l Z a0 hw b6 h5 n0 Z15 O12 g11) rfl (by decide) (W := 1) rfl (by decide) (c' := 3) (s' := 1049) rfl rfl (by decide) (by decide) at_40 (n := 43) rfl pd5 rfl rfl ?_
    rintro s C _ h21 ⟨rfl, K16, M, Sc, O17⟩
    have OL22 := OL14.keep K16 (allS g11 all0)
    have Z23 : n0 ≤ h21.size := Nat.le_trans Z15 K16.1
    refine G.astore C at_43 rfl (l' := #[.val (.int i0), .val (.int i1), .val (.int i2), .val (.int i3), .val (.int (0 : Int32)), .val (.int v2), .val (.int v3), .val (.int v4), .val (.ref b6), .unset, .unset, .unset, .unset, .unset, .unset, .unset, .unset]) rfl (n := 45) rfl ?_
    refine G.iload C at_45 rfl (n := 47) rfl ?_
    refine G.if_ne C (A := 0) (by decide) at_47 (by decide) (by decide) (n := 50) (n' := 76) rfl (fun c47_24 c47_24i => ?_) (fun c47_24 c47_24i => ?_)
    · exact absurd c47_24 (by decide)
    refine G.aload C at_50 rfl rfl (n := 52) rfl ?_
    refine G.iload C at_52 rfl (n := 54) rfl ?_
    refine G.callV C (argsL := [(.int v2)]) (yr := (⟨"com/example/near_miss/nearmiss/search/Window", "explanation", "(I)Lcom/example/near_miss/nearmiss/scoring/Explanation;"⟩ : MethodName)) (yc := (⟨"com/example/near_miss/nearmiss/search/Window", "explanation", "(I)Lcom/example/near_miss/nearmiss/scoring/Explanation;"⟩ : MethodName)) (a := b6) (O17.1) (wd hw 19 rfl) (wd hw 20 rfl) (nfS (wd hw 22 rfl) rfl) (wd hw 22 rfl) (wd hw 21 rfl) (wd hw 2 rfl) (wd hw 23 rfl) (by decide) (m_exp0 l Z a0 hw b6 M Sc v2 h21 n0 Z23 O17) rfl (by decide) (W := 0) rfl (by decide) (c' := 3) (s' := 1049) rfl rfl (by decide) (by decide) at_54 (n := 57) rfl pd6 rfl rfl ?_
    rintro s C _ _ ⟨rfl, rfl⟩
    refine G.ifnonnullN C at_57 (n := 60) rfl ?_
    refine G.aload C at_60 rfl rfl (n := 62) rfl ?_
    refine G.iload C at_62 rfl (n := 64) rfl ?_
    refine G.callV C (argsL := [(.int v4)]) (yr := (⟨"com/example/near_miss/nearmiss/search/Window", "explanation", "(I)Lcom/example/near_miss/nearmiss/scoring/Explanation;"⟩ : MethodName)) (yc := (⟨"com/example/near_miss/nearmiss/search/Window", "explanation", "(I)Lcom/example/near_miss/nearmiss/scoring/Explanation;"⟩ : MethodName)) (a := b6) (O17.1) (wd hw 19 rfl) (wd hw 20 rfl) (nfS (wd hw 22 rfl) rfl) (wd hw 22 rfl) (wd hw 21 rfl) (wd hw 2 rfl) (wd hw 23 rfl) (by decide) (m_exp0 l Z a0 hw b6 M Sc v4 h21 n0 Z23 O17) rfl (by decide) (W := 0) rfl (by decide) (c' := 3) (s' := 1049) rfl rfl (by decide) (by decide) at_64 (n := 67) rfl pd6 rfl rfl ?_
    rintro s C _ _ ⟨rfl, rfl⟩
    refine G.ifnonnullN C at_67 (n := 70) rfl ?_
    refine G.iconst C (v := (1 : Int32)) at_70 (by decide) (n := 71) rfl ?_
    refine G.goto C at_71 (by decide) (n := 75) (by decide) ?_
    refine G.ireturn C at_75 (rfl) (by simp) (by decide) (by decide) ?_
    exact rfl
  · refine G.iconst C (v := (1 : Int32)) at_6 (by decide) (n := 7) rfl ?_
    refine G.goto C at_7 (by decide) (n := 11) (by decide) ?_
    refine G.istore C at_11 (l' := #[.val (.int i0), .val (.int i1), .val (.int i2), .val (.int i3), .val (.int (1 : Int32)), .unset, .unset, .unset, .unset, .unset, .unset, .unset, .unset, .unset, .unset, .unset, .unset]) rfl (n := 13) rfl ?_
    refine G.iloadN C at_13 rfl (n := 14) rfl ?_
    refine G.sipush C (v := (1023 : Int32)) at_14 (by decide) (n := 17) rfl ?_
    refine G.iand C at_17 (n := 18) rfl ?_
    refine G.istoreZ C at_18 (l' := fun z => #[.val (.int i0), .val (.int i1), .val (.int i2), .val (.int i3), .val (.int (1 : Int32)), .val (.int z), .unset, .unset, .unset, .unset, .unset, .unset, .unset, .unset, .unset, .unset, .unset]) (fun _ => rfl) (n := 20) rfl ?_
    intro v29 hv29
    have q_a : 0 ≤ v29.toInt ∧ v29.toInt ≤ 1023 := by rw [hv29]; exact c_and i1 1023 (by decide)
    refine G.iloadN C at_20 rfl (n := 21) rfl ?_
    refine G.sipush C (v := (1023 : Int32)) at_21 (by decide) (n := 24) rfl ?_
    refine G.iand C at_24 (n := 25) rfl ?_
    refine G.istoreZ C at_25 (l' := fun z => #[.val (.int i0), .val (.int i1), .val (.int i2), .val (.int i3), .val (.int (1 : Int32)), .val (.int v29), .val (.int z), .unset, .unset, .unset, .unset, .unset, .unset, .unset, .unset, .unset, .unset]) (fun _ => rfl) (n := 27) rfl ?_
    intro v30 hv30
    have q_b : 0 ≤ v30.toInt ∧ v30.toInt ≤ 1023 := by rw [hv30]; exact c_and i2 1023 (by decide)
    refine G.iloadN C at_27 rfl (n := 28) rfl ?_
    refine G.sipush C (v := (1023 : Int32)) at_28 (by decide) (n := 31) rfl ?_
    refine G.iand C at_31 (n := 32) rfl ?_
    refine G.istoreZ C at_32 (l' := fun z => #[.val (.int i0), .val (.int i1), .val (.int i2), .val (.int i3), .val (.int (1 : Int32)), .val (.int v29), .val (.int v30), .val (.int z), .unset, .unset, .unset, .unset, .unset, .unset, .unset, .unset, .unset]) (fun _ => rfl) (n := 34) rfl ?_
    intro v31 hv31
    have q_c : 0 ≤ v31.toInt ∧ v31.toInt ≤ 1023 := by rw [hv31]; exact c_and i3 1023 (by decide)
    refine G.new C (wd hw 0 rfl) (wd hw 1 rfl) (wd hw 2 rfl) at_34 (n := 37) rfl (c' := 1) (s' := 9) rfl rfl (by decide) (by decide) ?_
    intro h32 b33 q34 E35 A36 D37
    have g38 : n0 ≤ b33 := Nat.le_trans Z0 (Nat.le_of_eq q34.symm)
    have O39 := Ob_Wn.new hw A36 D37
    have K40 := kext E35
    have OL41 := OLD0.keep K40 all0
    have Z42 : n0 ≤ h32.size := Nat.le_trans Z0 K40.1
    refine G.dup C at_37 rfl (n := 38) rfl ?_
    refine G.iload C at_38 rfl (n := 40) rfl ?_
    refine G.callC C (argsL := [(.int (1 : Int32))]) (yc := (⟨"com/example/near_miss/nearmiss/search/Window", "<init>", "(Z)V"⟩ : MethodName)) (a := b33) rfl (wd hw 3 rfl) (wd hw 4 rfl) (wd hw 2 rfl) (wd hw 5 rfl) (by decide) (m_init1 l Z a0 hw b33 h32 n0 Z42 O39 g38) rfl (by decide) (W := 1) rfl (by decide) (c' := 4) (s' := 2073) rfl rfl (by decide) (by decide) at_40 (n := 43) rfl pd5 rfl rfl ?_
    rintro s C _ h48 ⟨rfl, K43, M, Sc, X, O44, O45, f46⟩
    have ne49 : b33 ≠ X := Nat.ne_of_lt (Nat.lt_of_lt_of_le O39.lt f46)
    have g50 : n0 ≤ X := Nat.le_trans Z42 f46
    have OL51 := OL41.keep K43 (allS g38 all0)
    have Z52 : n0 ≤ h48.size := Nat.le_trans Z42 K43.1
    refine G.astore C at_43 rfl (l' := #[.val (.int i0), .val (.int i1), .val (.int i2), .val (.int i3), .val (.int (1 : Int32)), .val (.int v29), .val (.int v30), .val (.int v31), .val (.ref b33), .unset, .unset, .unset, .unset, .unset, .unset, .unset, .unset]) rfl (n := 45) rfl ?_
    refine G.iload C at_45 rfl (n := 47) rfl ?_
    refine G.if_ne C (A := 1) (by decide) at_47 (by decide) (by decide) (n := 50) (n' := 76) rfl (fun c47_53 c47_53i => ?_) (fun c47_53 c47_53i => ?_)
    rotate_left
    · exact absurd c47_53 (by decide)
    refine G.new C (wd hw 26 rfl) (wd hw 27 rfl) (wd hw 28 rfl) at_76 (n := 79) rfl (c' := 5) (s' := 2076) rfl rfl (by decide) (by decide) ?_
    intro h54 b55 q56 E57 A58 D59
    have ne60 : b33 ≠ b55 := Nat.ne_of_lt (Nat.lt_of_lt_of_le O44.lt (Nat.le_of_eq q56.symm))
    have ne61 : X ≠ b55 := Nat.ne_of_lt (Nat.lt_of_lt_of_le O45.lt (Nat.le_of_eq q56.symm))
    have g62 : n0 ≤ b55 := Nat.le_trans Z52 (Nat.le_of_eq q56.symm)
    have O63 := Ob_Ex.new hw A58 D59
    have K64 := kext E57
    have O65 := O44.keep K64 nin0
    have O66 := O45.keep K64 nin0
    have OL67 := OL51.keep K64 all0
    have Z68 : n0 ≤ h54.size := Nat.le_trans Z52 K64.1
    refine G.dup C at_79 rfl (n := 80) rfl ?_
    refine G.dconst1 C at_80 (n := 81) rfl ?_
    refine G.ldcStr C (nn := 4) (wd hw 29 rfl) (wS hw) (by decide) (by decide) at_81 (n := 83) rfl (c' := 7) (s' := 2084) rfl rfl (by decide) (by decide) ?_
    intro s C h69 b70 E71
    have K72 := kext E71
    have O73 := O65.keep K72 nin0
    have O74 := O66.keep K72 nin0
    have O75 := O63.keep K72 nin0
    have OL76 := OL67.keep K72 all0
    have Z77 : n0 ≤ h69.size := Nat.le_trans Z68 K72.1
    refine G.callC C (argsL := [(.double FP.dconst1), (.ref b70)]) (yc := (⟨"com/example/near_miss/nearmiss/scoring/Explanation", "<init>", "(DLjava/lang/String;)V"⟩ : MethodName)) (a := b55) rfl (wd hw 37 rfl) (wd hw 38 rfl) (wd hw 28 rfl) (wd hw 39 rfl) (by decide) (m_ex2 l Z a0 hw eL b55 FP.dconst1 b70 h69 n0 Z77 OL76 S_L O_L O75 g62) rfl (by decide) (W := 1) rfl (by decide) (c' := 9) (s' := 2132) rfl rfl (by decide) (by decide) at_83 (n := 86) rfl pd7 rfl rfl ?_
    rintro s C _ h81 ⟨rfl, K78, O79⟩
    have O82 := O73.keep K78 (ninS ne60 nin0)
    have O83 := O74.keep K78 (ninS ne61 nin0)
    have OL84 := OL76.keep K78 (allS g62 all0)
    have Z85 : n0 ≤ h81.size := Nat.le_trans Z77 K78.1
    refine G.astore C at_86 rfl (l' := #[.val (.int i0), .val (.int i1), .val (.int i2), .val (.int i3), .val (.int (1 : Int32)), .val (.int v29), .val (.int v30), .val (.int v31), .val (.ref b33), .val (.ref b55), .unset, .unset, .unset, .unset, .unset, .unset, .unset]) rfl (n := 88) rfl ?_
    refine G.new C (wd hw 26 rfl) (wd hw 27 rfl) (wd hw 28 rfl) at_88 (n := 91) rfl (c' := 10) (s' := 2135) rfl rfl (by decide) (by decide) ?_
    intro h86 b87 q88 E89 A90 D91
    have ne92 : b33 ≠ b87 := Nat.ne_of_lt (Nat.lt_of_lt_of_le O82.lt (Nat.le_of_eq q88.symm))
    have ne93 : X ≠ b87 := Nat.ne_of_lt (Nat.lt_of_lt_of_le O83.lt (Nat.le_of_eq q88.symm))
    have ne94 : b55 ≠ b87 := Nat.ne_of_lt (Nat.lt_of_lt_of_le O79.lt (Nat.le_of_eq q88.symm))
    have g95 : n0 ≤ b87 := Nat.le_trans Z85 (Nat.le_of_eq q88.symm)
    have O96 := Ob_Ex.new hw A90 D91
    have K97 := kext E89
    have O98 := O82.keep K97 nin0
    have O99 := O83.keep K97 nin0
    have O100 := O79.keep K97 nin0
    have OL101 := OL84.keep K97 all0
    have Z102 : n0 ≤ h86.size := Nat.le_trans Z85 K97.1
    refine G.dup C at_91 rfl (n := 92) rfl ?_
    refine G.ldc2D C (v := (4611686018427387904 : UInt64)) (wd hw 84 rfl) at_92 (n := 95) rfl ?_
    refine G.ldcStr C (nn := 4) (wd hw 85 rfl) (wS hw) (by decide) (by decide) at_95 (n := 97) rfl (c' := 12) (s' := 2143) rfl rfl (by decide) (by decide) ?_
    intro s C h103 b104 E105
    have K106 := kext E105
    have O107 := O98.keep K106 nin0
    have O108 := O99.keep K106 nin0
    have O109 := O100.keep K106 nin0
    have O110 := O96.keep K106 nin0
    have OL111 := OL101.keep K106 all0
    have Z112 : n0 ≤ h103.size := Nat.le_trans Z102 K106.1
    refine G.callC C (argsL := [(.double (4611686018427387904 : UInt64)), (.ref b104)]) (yc := (⟨"com/example/near_miss/nearmiss/scoring/Explanation", "<init>", "(DLjava/lang/String;)V"⟩ : MethodName)) (a := b87) rfl (wd hw 37 rfl) (wd hw 38 rfl) (wd hw 28 rfl) (wd hw 39 rfl) (by decide) (m_ex2 l Z a0 hw eL b87 (4611686018427387904 : UInt64) b104 h103 n0 Z112 OL111 S_L O_L O110 g95) rfl (by decide) (W := 1) rfl (by decide) (c' := 14) (s' := 2191) rfl rfl (by decide) (by decide) at_97 (n := 100) rfl pd7 rfl rfl ?_
    rintro s C _ h116 ⟨rfl, K113, O114⟩
    have O117 := O107.keep K113 (ninS ne92 nin0)
    have O118 := O108.keep K113 (ninS ne93 nin0)
    have O119 := O109.keep K113 (ninS ne94 nin0)
    have OL120 := OL111.keep K113 (allS g95 all0)
    have Z121 : n0 ≤ h116.size := Nat.le_trans Z112 K113.1
    refine G.astore C at_100 rfl (l' := #[.val (.int i0), .val (.int i1), .val (.int i2), .val (.int i3), .val (.int (1 : Int32)), .val (.int v29), .val (.int v30), .val (.int v31), .val (.ref b33), .val (.ref b55), .val (.ref b87), .unset, .unset, .unset, .unset, .unset, .unset]) rfl (n := 102) rfl ?_
    by_cases k_ab : v29.toInt = v30.toInt
    · have e_ab : v29 = v30 := Int32.toInt_inj.mp k_ab
      by_cases k_cb : v31.toInt = v30.toInt
      · have e_cb : v31 = v30 := Int32.toInt_inj.mp k_cb
        have e_ca : v31 = v29 := e_cb.trans e_ab.symm
        refine G.aload C at_102 rfl rfl (n := 104) rfl ?_
        refine G.iload C at_104 rfl (n := 106) rfl ?_
        refine G.callV C (argsL := [(.int v31)]) (yr := (⟨"com/example/near_miss/nearmiss/search/Window", "explanation", "(I)Lcom/example/near_miss/nearmiss/scoring/Explanation;"⟩ : MethodName)) (yc := (⟨"com/example/near_miss/nearmiss/search/Window", "explanation", "(I)Lcom/example/near_miss/nearmiss/scoring/Explanation;"⟩ : MethodName)) (a := b33) (O117.1) (wd hw 19 rfl) (wd hw 20 rfl) (nfS (wd hw 22 rfl) rfl) (wd hw 22 rfl) (wd hw 21 rfl) (wd hw 2 rfl) (wd hw 23 rfl) (by decide) (m_expN l Z a0 hw b33 M Sc X (List.replicate 1024 Value.null) v31  h116 n0 Z121 O117 O118 (by omega) (x_r (by omega))) rfl (by decide) (W := 0) rfl (by decide) (c' := 14) (s' := 2191) rfl rfl (by decide) (by decide) at_106 (n := 109) rfl pd6 rfl rfl ?_
        rintro s C _ _ ⟨rfl, rfl⟩
        refine G.ifnonnullN C at_109 (n := 112) rfl ?_
        refine G.iconst C (v := (1 : Int32)) at_112 (by decide) (n := 113) rfl ?_
        refine G.goto C at_113 (by decide) (n := 117) (by decide) ?_
        refine G.istore C at_117 (l' := #[.val (.int i0), .val (.int i1), .val (.int i2), .val (.int i3), .val (.int (1 : Int32)), .val (.int v29), .val (.int v30), .val (.int v31), .val (.ref b33), .val (.ref b55), .val (.ref b87), .val (.int (1 : Int32)), .unset, .unset, .unset, .unset, .unset]) rfl (n := 119) rfl ?_
        refine G.aload C at_119 rfl rfl (n := 121) rfl ?_
        refine G.iload C at_121 rfl (n := 123) rfl ?_
        refine G.aload C at_123 rfl rfl (n := 125) rfl ?_
        refine G.callV C (argsL := [(.int v29), (.ref b55)]) (yr := (⟨"com/example/near_miss/nearmiss/search/Window", "setExplanation", "(ILcom/example/near_miss/nearmiss/scoring/Explanation;)V"⟩ : MethodName)) (yc := (⟨"com/example/near_miss/nearmiss/search/Window", "setExplanation", "(ILcom/example/near_miss/nearmiss/scoring/Explanation;)V"⟩ : MethodName)) (a := b33) (O117.1) (wd hw 86 rfl) (wd hw 87 rfl) (nfS (wd hw 89 rfl) rfl) (wd hw 89 rfl) (wd hw 88 rfl) (wd hw 2 rfl) (wd hw 90 rfl) (by decide) (m_setx l Z a0 hw b33 M Sc X (List.replicate 1024 Value.null) v29 b55 h116 n0 Z121 O117 O118 (by omega) (by simp only [List.length_set, List.length_replicate]; omega) (O119.1) g50 ne49 (Ne.symm ne61)) rfl (by decide) (W := 0) rfl (by decide) (c' := 14) (s' := 2191) rfl rfl (by decide) (by decide) at_125 (n := 128) rfl pd8 rfl rfl ?_
        rintro s C _ h127 ⟨rfl, K124, O125⟩
        have O128 := O117.keep K124 (ninS ne49 nin0)
        have O129 := O119.keep K124 (ninS (Ne.symm ne61) nin0)
        have O130 := O114.keep K124 (ninS (Ne.symm ne93) nin0)
        have OL131 := OL120.keep K124 (allS g50 all0)
        have Z132 : n0 ≤ h127.size := Nat.le_trans Z121 K124.1
        refine G.aload C at_128 rfl rfl (n := 130) rfl ?_
        refine G.iload C at_130 rfl (n := 132) rfl ?_
        refine G.aload C at_132 rfl rfl (n := 134) rfl ?_
        refine G.callV C (argsL := [(.int v30), (.ref b87)]) (yr := (⟨"com/example/near_miss/nearmiss/search/Window", "setExplanation", "(ILcom/example/near_miss/nearmiss/scoring/Explanation;)V"⟩ : MethodName)) (yc := (⟨"com/example/near_miss/nearmiss/search/Window", "setExplanation", "(ILcom/example/near_miss/nearmiss/scoring/Explanation;)V"⟩ : MethodName)) (a := b33) (O128.1) (wd hw 86 rfl) (wd hw 87 rfl) (nfS (wd hw 89 rfl) rfl) (wd hw 89 rfl) (wd hw 88 rfl) (wd hw 2 rfl) (wd hw 90 rfl) (by decide) (m_setx l Z a0 hw b33 M Sc X ((List.replicate 1024 Value.null).set v29.toInt.toNat (.ref b55)) v30 b87 h127 n0 Z132 O128 O125 (by omega) (by simp only [List.length_set, List.length_replicate]; omega) (O130.1) g50 ne49 (Ne.symm ne93)) rfl (by decide) (W := 0) rfl (by decide) (c' := 14) (s' := 2191) rfl rfl (by decide) (by decide) at_134 (n := 137) rfl pd8 rfl rfl ?_
        rintro s C _ h136 ⟨rfl, K133, O134⟩
        have O137 := O128.keep K133 (ninS ne49 nin0)
        have O138 := O129.keep K133 (ninS (Ne.symm ne61) nin0)
        have O139 := O130.keep K133 (ninS (Ne.symm ne93) nin0)
        have OL140 := OL131.keep K133 (allS g50 all0)
        have Z141 : n0 ≤ h136.size := Nat.le_trans Z132 K133.1
        refine G.aload C at_137 rfl rfl (n := 139) rfl ?_
        refine G.iload C at_139 rfl (n := 141) rfl ?_
        refine G.callV C (argsL := [(.int v29)]) (yr := (⟨"com/example/near_miss/nearmiss/search/Window", "explanation", "(I)Lcom/example/near_miss/nearmiss/scoring/Explanation;"⟩ : MethodName)) (yc := (⟨"com/example/near_miss/nearmiss/search/Window", "explanation", "(I)Lcom/example/near_miss/nearmiss/scoring/Explanation;"⟩ : MethodName)) (a := b33) (O137.1) (wd hw 19 rfl) (wd hw 20 rfl) (nfS (wd hw 22 rfl) rfl) (wd hw 22 rfl) (wd hw 21 rfl) (wd hw 2 rfl) (wd hw 23 rfl) (by decide) (m_expR l Z a0 hw b33 M Sc X (((List.replicate 1024 Value.null).set v29.toInt.toNat (.ref b55)).set v30.toInt.toNat (.ref b87)) v29 b87 h136 n0 Z141 O137 O134 (by omega) (by rw [e_ab]; exact x2_b (by omega))) rfl (by decide) (W := 0) rfl (by decide) (c' := 14) (s' := 2191) rfl rfl (by decide) (by decide) at_141 (n := 144) rfl pd6 rfl rfl ?_
        rintro s C _ _ ⟨rfl, rfl⟩
        refine G.astore C at_144 rfl (l' := #[.val (.int i0), .val (.int i1), .val (.int i2), .val (.int i3), .val (.int (1 : Int32)), .val (.int v29), .val (.int v30), .val (.int v31), .val (.ref b33), .val (.ref b55), .val (.ref b87), .val (.int (1 : Int32)), .val (.ref b87), .unset, .unset, .unset, .unset]) rfl (n := 146) rfl ?_
        refine G.aload C at_146 rfl rfl (n := 148) rfl ?_
        refine G.iload C at_148 rfl (n := 150) rfl ?_
        refine G.callV C (argsL := [(.int v30)]) (yr := (⟨"com/example/near_miss/nearmiss/search/Window", "explanation", "(I)Lcom/example/near_miss/nearmiss/scoring/Explanation;"⟩ : MethodName)) (yc := (⟨"com/example/near_miss/nearmiss/search/Window", "explanation", "(I)Lcom/example/near_miss/nearmiss/scoring/Explanation;"⟩ : MethodName)) (a := b33) (O137.1) (wd hw 19 rfl) (wd hw 20 rfl) (nfS (wd hw 22 rfl) rfl) (wd hw 22 rfl) (wd hw 21 rfl) (wd hw 2 rfl) (wd hw 23 rfl) (by decide) (m_expR l Z a0 hw b33 M Sc X (((List.replicate 1024 Value.null).set v29.toInt.toNat (.ref b55)).set v30.toInt.toNat (.ref b87)) v30 b87 h136 n0 Z141 O137 O134 (by omega) (x2_b (by omega))) rfl (by decide) (W := 0) rfl (by decide) (c' := 14) (s' := 2191) rfl rfl (by decide) (by decide) at_150 (n := 153) rfl pd6 rfl rfl ?_
        rintro s C _ _ ⟨rfl, rfl⟩
        refine G.astore C at_153 rfl (l' := #[.val (.int i0), .val (.int i1), .val (.int i2), .val (.int i3), .val (.int (1 : Int32)), .val (.int v29), .val (.int v30), .val (.int v31), .val (.ref b33), .val (.ref b55), .val (.ref b87), .val (.int (1 : Int32)), .val (.ref b87), .val (.ref b87), .unset, .unset, .unset]) rfl (n := 155) rfl ?_
        refine G.aload C at_155 rfl rfl (n := 157) rfl ?_
        refine G.iload C at_157 rfl (n := 159) rfl ?_
        refine G.callV C (argsL := [(.int v31)]) (yr := (⟨"com/example/near_miss/nearmiss/search/Window", "explanation", "(I)Lcom/example/near_miss/nearmiss/scoring/Explanation;"⟩ : MethodName)) (yc := (⟨"com/example/near_miss/nearmiss/search/Window", "explanation", "(I)Lcom/example/near_miss/nearmiss/scoring/Explanation;"⟩ : MethodName)) (a := b33) (O137.1) (wd hw 19 rfl) (wd hw 20 rfl) (nfS (wd hw 22 rfl) rfl) (wd hw 22 rfl) (wd hw 21 rfl) (wd hw 2 rfl) (wd hw 23 rfl) (by decide) (m_expR l Z a0 hw b33 M Sc X (((List.replicate 1024 Value.null).set v29.toInt.toNat (.ref b55)).set v30.toInt.toNat (.ref b87)) v31 b87 h136 n0 Z141 O137 O134 (by omega) (by rw [e_cb]; exact x2_b (by omega))) rfl (by decide) (W := 0) rfl (by decide) (c' := 14) (s' := 2191) rfl rfl (by decide) (by decide) at_159 (n := 162) rfl pd6 rfl rfl ?_
        rintro s C _ _ ⟨rfl, rfl⟩
        refine G.astore C at_162 rfl (l' := #[.val (.int i0), .val (.int i1), .val (.int i2), .val (.int i3), .val (.int (1 : Int32)), .val (.int v29), .val (.int v30), .val (.int v31), .val (.ref b33), .val (.ref b55), .val (.ref b87), .val (.int (1 : Int32)), .val (.ref b87), .val (.ref b87), .val (.ref b87), .unset, .unset]) rfl (n := 164) rfl ?_
        refine G.iload C at_164 rfl (n := 166) rfl ?_
        refine G.iload C at_166 rfl (n := 168) rfl ?_
        refine G.icmp_ne C (A := v29.toInt) (B := v30.toInt) rfl rfl at_168 (by decide) (by decide) (n := 171) (n' := 176) rfl (fun c168_148 c168_148i => ?_) (fun c168_148 c168_148i => ?_)
        · exact absurd e_ab c168_148
        refine G.aload C at_171 rfl rfl (n := 173) rfl ?_
        refine G.goto C at_173 (by decide) (n := 178) (by decide) ?_
        refine G.astore C at_178 rfl (l' := #[.val (.int i0), .val (.int i1), .val (.int i2), .val (.int i3), .val (.int (1 : Int32)), .val (.int v29), .val (.int v30), .val (.int v31), .val (.ref b33), .val (.ref b55), .val (.ref b87), .val (.int (1 : Int32)), .val (.ref b87), .val (.ref b87), .val (.ref b87), .val (.ref b87), .unset]) rfl (n := 180) rfl ?_
        refine G.iload C at_180 rfl (n := 182) rfl ?_
        refine G.iload C at_182 rfl (n := 184) rfl ?_
        refine G.icmp_ne C (A := v31.toInt) (B := v30.toInt) rfl rfl at_184 (by decide) (by decide) (n := 187) (n' := 192) rfl (fun c184_149 c184_149i => ?_) (fun c184_149 c184_149i => ?_)
        · exact absurd e_cb c184_149
        refine G.aload C at_187 rfl rfl (n := 189) rfl ?_
        refine G.goto C at_189 (by decide) (n := 205) (by decide) ?_
        refine G.astore C at_205 rfl (l' := #[.val (.int i0), .val (.int i1), .val (.int i2), .val (.int i3), .val (.int (1 : Int32)), .val (.int v29), .val (.int v30), .val (.int v31), .val (.ref b33), .val (.ref b55), .val (.ref b87), .val (.int (1 : Int32)), .val (.ref b87), .val (.ref b87), .val (.ref b87), .val (.ref b87), .val (.ref b87)]) rfl (n := 207) rfl ?_
        refine G.iload C at_207 rfl (n := 209) rfl ?_
        refine G.if_eq C (A := 1) (by decide) at_209 (by decide) (by decide) (n := 212) (n' := 237) rfl (fun c209_150 c209_150i => ?_) (fun c209_150 c209_150i => ?_)
        · exact absurd c209_150 (by decide)
        refine G.aload C at_212 rfl rfl (n := 214) rfl ?_
        refine G.aload C at_214 rfl rfl (n := 216) rfl ?_
        refine G.acmp_ne C rfl rfl at_216 (by decide) (by decide) (n := 219) (n' := 237) rfl (fun c216_151 => ?_) (fun c216_151 => ?_)
        · exact absurd rfl c216_151
        refine G.aload C at_219 rfl rfl (n := 221) rfl ?_
        refine G.aload C at_221 rfl rfl (n := 223) rfl ?_
        refine G.acmp_ne C rfl rfl at_223 (by decide) (by decide) (n := 226) (n' := 237) rfl (fun c223_152 => ?_) (fun c223_152 => ?_)
        · exact absurd rfl c223_152
        refine G.aload C at_226 rfl rfl (n := 228) rfl ?_
        refine G.aload C at_228 rfl rfl (n := 230) rfl ?_
        refine G.acmp_ne C rfl rfl at_230 (by decide) (by decide) (n := 233) (n' := 237) rfl (fun c230_153 => ?_) (fun c230_153 => ?_)
        · exact absurd rfl c230_153
        refine G.iconst C (v := (1 : Int32)) at_233 (by decide) (n := 234) rfl ?_
        refine G.goto C at_234 (by decide) (n := 238) (by decide) ?_
        refine G.ireturn C at_238 (rfl) (by simp) (by decide) (by decide) ?_
        exact rfl
      · have e_cb : v31 ≠ v30 := fun q => k_cb (congrArg _ q)
        have e_ca : v31 ≠ v29 := fun q => e_cb (q.trans e_ab)
        have k_ca : ¬ v31.toInt = v29.toInt := fun q => e_ca (Int32.toInt_inj.mp q)
        refine G.aload C at_102 rfl rfl (n := 104) rfl ?_
        refine G.iload C at_104 rfl (n := 106) rfl ?_
        refine G.callV C (argsL := [(.int v31)]) (yr := (⟨"com/example/near_miss/nearmiss/search/Window", "explanation", "(I)Lcom/example/near_miss/nearmiss/scoring/Explanation;"⟩ : MethodName)) (yc := (⟨"com/example/near_miss/nearmiss/search/Window", "explanation", "(I)Lcom/example/near_miss/nearmiss/scoring/Explanation;"⟩ : MethodName)) (a := b33) (O117.1) (wd hw 19 rfl) (wd hw 20 rfl) (nfS (wd hw 22 rfl) rfl) (wd hw 22 rfl) (wd hw 21 rfl) (wd hw 2 rfl) (wd hw 23 rfl) (by decide) (m_expN l Z a0 hw b33 M Sc X (List.replicate 1024 Value.null) v31  h116 n0 Z121 O117 O118 (by omega) (x_r (by omega))) rfl (by decide) (W := 0) rfl (by decide) (c' := 14) (s' := 2191) rfl rfl (by decide) (by decide) at_106 (n := 109) rfl pd6 rfl rfl ?_
        rintro s C _ _ ⟨rfl, rfl⟩
        refine G.ifnonnullN C at_109 (n := 112) rfl ?_
        refine G.iconst C (v := (1 : Int32)) at_112 (by decide) (n := 113) rfl ?_
        refine G.goto C at_113 (by decide) (n := 117) (by decide) ?_
        refine G.istore C at_117 (l' := #[.val (.int i0), .val (.int i1), .val (.int i2), .val (.int i3), .val (.int (1 : Int32)), .val (.int v29), .val (.int v30), .val (.int v31), .val (.ref b33), .val (.ref b55), .val (.ref b87), .val (.int (1 : Int32)), .unset, .unset, .unset, .unset, .unset]) rfl (n := 119) rfl ?_
        refine G.aload C at_119 rfl rfl (n := 121) rfl ?_
        refine G.iload C at_121 rfl (n := 123) rfl ?_
        refine G.aload C at_123 rfl rfl (n := 125) rfl ?_
        refine G.callV C (argsL := [(.int v29), (.ref b55)]) (yr := (⟨"com/example/near_miss/nearmiss/search/Window", "setExplanation", "(ILcom/example/near_miss/nearmiss/scoring/Explanation;)V"⟩ : MethodName)) (yc := (⟨"com/example/near_miss/nearmiss/search/Window", "setExplanation", "(ILcom/example/near_miss/nearmiss/scoring/Explanation;)V"⟩ : MethodName)) (a := b33) (O117.1) (wd hw 86 rfl) (wd hw 87 rfl) (nfS (wd hw 89 rfl) rfl) (wd hw 89 rfl) (wd hw 88 rfl) (wd hw 2 rfl) (wd hw 90 rfl) (by decide) (m_setx l Z a0 hw b33 M Sc X (List.replicate 1024 Value.null) v29 b55 h116 n0 Z121 O117 O118 (by omega) (by simp only [List.length_set, List.length_replicate]; omega) (O119.1) g50 ne49 (Ne.symm ne61)) rfl (by decide) (W := 0) rfl (by decide) (c' := 14) (s' := 2191) rfl rfl (by decide) (by decide) at_125 (n := 128) rfl pd8 rfl rfl ?_
        rintro s C _ h159 ⟨rfl, K156, O157⟩
        have O160 := O117.keep K156 (ninS ne49 nin0)
        have O161 := O119.keep K156 (ninS (Ne.symm ne61) nin0)
        have O162 := O114.keep K156 (ninS (Ne.symm ne93) nin0)
        have OL163 := OL120.keep K156 (allS g50 all0)
        have Z164 : n0 ≤ h159.size := Nat.le_trans Z121 K156.1
        refine G.aload C at_128 rfl rfl (n := 130) rfl ?_
        refine G.iload C at_130 rfl (n := 132) rfl ?_
        refine G.aload C at_132 rfl rfl (n := 134) rfl ?_
        refine G.callV C (argsL := [(.int v30), (.ref b87)]) (yr := (⟨"com/example/near_miss/nearmiss/search/Window", "setExplanation", "(ILcom/example/near_miss/nearmiss/scoring/Explanation;)V"⟩ : MethodName)) (yc := (⟨"com/example/near_miss/nearmiss/search/Window", "setExplanation", "(ILcom/example/near_miss/nearmiss/scoring/Explanation;)V"⟩ : MethodName)) (a := b33) (O160.1) (wd hw 86 rfl) (wd hw 87 rfl) (nfS (wd hw 89 rfl) rfl) (wd hw 89 rfl) (wd hw 88 rfl) (wd hw 2 rfl) (wd hw 90 rfl) (by decide) (m_setx l Z a0 hw b33 M Sc X ((List.replicate 1024 Value.null).set v29.toInt.toNat (.ref b55)) v30 b87 h159 n0 Z164 O160 O157 (by omega) (by simp only [List.length_set, List.length_replicate]; omega) (O162.1) g50 ne49 (Ne.symm ne93)) rfl (by decide) (W := 0) rfl (by decide) (c' := 14) (s' := 2191) rfl rfl (by decide) (by decide) at_134 (n := 137) rfl pd8 rfl rfl ?_
        rintro s C _ h168 ⟨rfl, K165, O166⟩
        have O169 := O160.keep K165 (ninS ne49 nin0)
        have O170 := O161.keep K165 (ninS (Ne.symm ne61) nin0)
        have O171 := O162.keep K165 (ninS (Ne.symm ne93) nin0)
        have OL172 := OL163.keep K165 (allS g50 all0)
        have Z173 : n0 ≤ h168.size := Nat.le_trans Z164 K165.1
        refine G.aload C at_137 rfl rfl (n := 139) rfl ?_
        refine G.iload C at_139 rfl (n := 141) rfl ?_
        refine G.callV C (argsL := [(.int v29)]) (yr := (⟨"com/example/near_miss/nearmiss/search/Window", "explanation", "(I)Lcom/example/near_miss/nearmiss/scoring/Explanation;"⟩ : MethodName)) (yc := (⟨"com/example/near_miss/nearmiss/search/Window", "explanation", "(I)Lcom/example/near_miss/nearmiss/scoring/Explanation;"⟩ : MethodName)) (a := b33) (O169.1) (wd hw 19 rfl) (wd hw 20 rfl) (nfS (wd hw 22 rfl) rfl) (wd hw 22 rfl) (wd hw 21 rfl) (wd hw 2 rfl) (wd hw 23 rfl) (by decide) (m_expR l Z a0 hw b33 M Sc X (((List.replicate 1024 Value.null).set v29.toInt.toNat (.ref b55)).set v30.toInt.toNat (.ref b87)) v29 b87 h168 n0 Z173 O169 O166 (by omega) (by rw [e_ab]; exact x2_b (by omega))) rfl (by decide) (W := 0) rfl (by decide) (c' := 14) (s' := 2191) rfl rfl (by decide) (by decide) at_141 (n := 144) rfl pd6 rfl rfl ?_
        rintro s C _ _ ⟨rfl, rfl⟩
        refine G.astore C at_144 rfl (l' := #[.val (.int i0), .val (.int i1), .val (.int i2), .val (.int i3), .val (.int (1 : Int32)), .val (.int v29), .val (.int v30), .val (.int v31), .val (.ref b33), .val (.ref b55), .val (.ref b87), .val (.int (1 : Int32)), .val (.ref b87), .unset, .unset, .unset, .unset]) rfl (n := 146) rfl ?_
        refine G.aload C at_146 rfl rfl (n := 148) rfl ?_
        refine G.iload C at_148 rfl (n := 150) rfl ?_
        refine G.callV C (argsL := [(.int v30)]) (yr := (⟨"com/example/near_miss/nearmiss/search/Window", "explanation", "(I)Lcom/example/near_miss/nearmiss/scoring/Explanation;"⟩ : MethodName)) (yc := (⟨"com/example/near_miss/nearmiss/search/Window", "explanation", "(I)Lcom/example/near_miss/nearmiss/scoring/Explanation;"⟩ : MethodName)) (a := b33) (O169.1) (wd hw 19 rfl) (wd hw 20 rfl) (nfS (wd hw 22 rfl) rfl) (wd hw 22 rfl) (wd hw 21 rfl) (wd hw 2 rfl) (wd hw 23 rfl) (by decide) (m_expR l Z a0 hw b33 M Sc X (((List.replicate 1024 Value.null).set v29.toInt.toNat (.ref b55)).set v30.toInt.toNat (.ref b87)) v30 b87 h168 n0 Z173 O169 O166 (by omega) (x2_b (by omega))) rfl (by decide) (W := 0) rfl (by decide) (c' := 14) (s' := 2191) rfl rfl (by decide) (by decide) at_150 (n := 153) rfl pd6 rfl rfl ?_
        rintro s C _ _ ⟨rfl, rfl⟩
        refine G.astore C at_153 rfl (l' := #[.val (.int i0), .val (.int i1), .val (.int i2), .val (.int i3), .val (.int (1 : Int32)), .val (.int v29), .val (.int v30), .val (.int v31), .val (.ref b33), .val (.ref b55), .val (.ref b87), .val (.int (1 : Int32)), .val (.ref b87), .val (.ref b87), .unset, .unset, .unset]) rfl (n := 155) rfl ?_
        refine G.aload C at_155 rfl rfl (n := 157) rfl ?_
        refine G.iload C at_157 rfl (n := 159) rfl ?_
        refine G.callV C (argsL := [(.int v31)]) (yr := (⟨"com/example/near_miss/nearmiss/search/Window", "explanation", "(I)Lcom/example/near_miss/nearmiss/scoring/Explanation;"⟩ : MethodName)) (yc := (⟨"com/example/near_miss/nearmiss/search/Window", "explanation", "(I)Lcom/example/near_miss/nearmiss/scoring/Explanation;"⟩ : MethodName)) (a := b33) (O169.1) (wd hw 19 rfl) (wd hw 20 rfl) (nfS (wd hw 22 rfl) rfl) (wd hw 22 rfl) (wd hw 21 rfl) (wd hw 2 rfl) (wd hw 23 rfl) (by decide) (m_expN l Z a0 hw b33 M Sc X (((List.replicate 1024 Value.null).set v29.toInt.toNat (.ref b55)).set v30.toInt.toNat (.ref b87)) v31  h168 n0 Z173 O169 O166 (by omega) (x2_n (by omega) (by omega) (by omega))) rfl (by decide) (W := 0) rfl (by decide) (c' := 14) (s' := 2191) rfl rfl (by decide) (by decide) at_159 (n := 162) rfl pd6 rfl rfl ?_
        rintro s C _ _ ⟨rfl, rfl⟩
        refine G.astore C at_162 rfl (l' := #[.val (.int i0), .val (.int i1), .val (.int i2), .val (.int i3), .val (.int (1 : Int32)), .val (.int v29), .val (.int v30), .val (.int v31), .val (.ref b33), .val (.ref b55), .val (.ref b87), .val (.int (1 : Int32)), .val (.ref b87), .val (.ref b87), .val .null, .unset, .unset]) rfl (n := 164) rfl ?_
        refine G.iload C at_164 rfl (n := 166) rfl ?_
        refine G.iload C at_166 rfl (n := 168) rfl ?_
        refine G.icmp_ne C (A := v29.toInt) (B := v30.toInt) rfl rfl at_168 (by decide) (by decide) (n := 171) (n' := 176) rfl (fun c168_180 c168_180i => ?_) (fun c168_180 c168_180i => ?_)
        · exact absurd e_ab c168_180
        refine G.aload C at_171 rfl rfl (n := 173) rfl ?_
        refine G.goto C at_173 (by decide) (n := 178) (by decide) ?_
        refine G.astore C at_178 rfl (l' := #[.val (.int i0), .val (.int i1), .val (.int i2), .val (.int i3), .val (.int (1 : Int32)), .val (.int v29), .val (.int v30), .val (.int v31), .val (.ref b33), .val (.ref b55), .val (.ref b87), .val (.int (1 : Int32)), .val (.ref b87), .val (.ref b87), .val .null, .val (.ref b87), .unset]) rfl (n := 180) rfl ?_
        refine G.iload C at_180 rfl (n := 182) rfl ?_
        refine G.iload C at_182 rfl (n := 184) rfl ?_
        refine G.icmp_ne C (A := v31.toInt) (B := v30.toInt) rfl rfl at_184 (by decide) (by decide) (n := 187) (n' := 192) rfl (fun c184_181 c184_181i => ?_) (fun c184_181 c184_181i => ?_)
        rotate_left
        · exact absurd c184_181 e_cb
        refine G.iload C at_192 rfl (n := 194) rfl ?_
        refine G.iload C at_194 rfl (n := 196) rfl ?_
        refine G.icmp_ne C (A := v31.toInt) (B := v29.toInt) rfl rfl at_196 (by decide) (by decide) (n := 199) (n' := 204) rfl (fun c196_182 c196_182i => ?_) (fun c196_182 c196_182i => ?_)
        rotate_left
        · exact absurd c196_182 e_ca
        refine G.aconst_null C at_204 (n := 205) rfl ?_
        refine G.astore C at_205 rfl (l' := #[.val (.int i0), .val (.int i1), .val (.int i2), .val (.int i3), .val (.int (1 : Int32)), .val (.int v29), .val (.int v30), .val (.int v31), .val (.ref b33), .val (.ref b55), .val (.ref b87), .val (.int (1 : Int32)), .val (.ref b87), .val (.ref b87), .val .null, .val (.ref b87), .val .null]) rfl (n := 207) rfl ?_
        refine G.iload C at_207 rfl (n := 209) rfl ?_
        refine G.if_eq C (A := 1) (by decide) at_209 (by decide) (by decide) (n := 212) (n' := 237) rfl (fun c209_183 c209_183i => ?_) (fun c209_183 c209_183i => ?_)
        · exact absurd c209_183 (by decide)
        refine G.aload C at_212 rfl rfl (n := 214) rfl ?_
        refine G.aload C at_214 rfl rfl (n := 216) rfl ?_
        refine G.acmp_ne C rfl rfl at_216 (by decide) (by decide) (n := 219) (n' := 237) rfl (fun c216_184 => ?_) (fun c216_184 => ?_)
        · exact absurd rfl c216_184
        refine G.aload C at_219 rfl rfl (n := 221) rfl ?_
        refine G.aload C at_221 rfl rfl (n := 223) rfl ?_
        refine G.acmp_ne C rfl rfl at_223 (by decide) (by decide) (n := 226) (n' := 237) rfl (fun c223_185 => ?_) (fun c223_185 => ?_)
        · exact absurd rfl c223_185
        refine G.aload C at_226 rfl rfl (n := 228) rfl ?_
        refine G.aload C at_228 rfl rfl (n := 230) rfl ?_
        refine G.acmp_ne C rfl rfl at_230 (by decide) (by decide) (n := 233) (n' := 237) rfl (fun c230_186 => ?_) (fun c230_186 => ?_)
        · exact absurd rfl c230_186
        refine G.iconst C (v := (1 : Int32)) at_233 (by decide) (n := 234) rfl ?_
        refine G.goto C at_234 (by decide) (n := 238) (by decide) ?_
        refine G.ireturn C at_238 (rfl) (by simp) (by decide) (by decide) ?_
        exact rfl
    · have e_ab : v29 ≠ v30 := fun q => k_ab (congrArg _ q)
      by_cases k_cb : v31.toInt = v30.toInt
      · have e_cb : v31 = v30 := Int32.toInt_inj.mp k_cb
        have e_ca : v31 ≠ v29 := fun q => e_ab (q.symm.trans e_cb)
        have k_ca : ¬ v31.toInt = v29.toInt := fun q => e_ca (Int32.toInt_inj.mp q)
        refine G.aload C at_102 rfl rfl (n := 104) rfl ?_
        refine G.iload C at_104 rfl (n := 106) rfl ?_
        refine G.callV C (argsL := [(.int v31)]) (yr := (⟨"com/example/near_miss/nearmiss/search/Window", "explanation", "(I)Lcom/example/near_miss/nearmiss/scoring/Explanation;"⟩ : MethodName)) (yc := (⟨"com/example/near_miss/nearmiss/search/Window", "explanation", "(I)Lcom/example/near_miss/nearmiss/scoring/Explanation;"⟩ : MethodName)) (a := b33) (O117.1) (wd hw 19 rfl) (wd hw 20 rfl) (nfS (wd hw 22 rfl) rfl) (wd hw 22 rfl) (wd hw 21 rfl) (wd hw 2 rfl) (wd hw 23 rfl) (by decide) (m_expN l Z a0 hw b33 M Sc X (List.replicate 1024 Value.null) v31  h116 n0 Z121 O117 O118 (by omega) (x_r (by omega))) rfl (by decide) (W := 0) rfl (by decide) (c' := 14) (s' := 2191) rfl rfl (by decide) (by decide) at_106 (n := 109) rfl pd6 rfl rfl ?_
        rintro s C _ _ ⟨rfl, rfl⟩
        refine G.ifnonnullN C at_109 (n := 112) rfl ?_
        refine G.iconst C (v := (1 : Int32)) at_112 (by decide) (n := 113) rfl ?_
        refine G.goto C at_113 (by decide) (n := 117) (by decide) ?_
        refine G.istore C at_117 (l' := #[.val (.int i0), .val (.int i1), .val (.int i2), .val (.int i3), .val (.int (1 : Int32)), .val (.int v29), .val (.int v30), .val (.int v31), .val (.ref b33), .val (.ref b55), .val (.ref b87), .val (.int (1 : Int32)), .unset, .unset, .unset, .unset, .unset]) rfl (n := 119) rfl ?_
        refine G.aload C at_119 rfl rfl (n := 121) rfl ?_
        refine G.iload C at_121 rfl (n := 123) rfl ?_
        refine G.aload C at_123 rfl rfl (n := 125) rfl ?_
        refine G.callV C (argsL := [(.int v29), (.ref b55)]) (yr := (⟨"com/example/near_miss/nearmiss/search/Window", "setExplanation", "(ILcom/example/near_miss/nearmiss/scoring/Explanation;)V"⟩ : MethodName)) (yc := (⟨"com/example/near_miss/nearmiss/search/Window", "setExplanation", "(ILcom/example/near_miss/nearmiss/scoring/Explanation;)V"⟩ : MethodName)) (a := b33) (O117.1) (wd hw 86 rfl) (wd hw 87 rfl) (nfS (wd hw 89 rfl) rfl) (wd hw 89 rfl) (wd hw 88 rfl) (wd hw 2 rfl) (wd hw 90 rfl) (by decide) (m_setx l Z a0 hw b33 M Sc X (List.replicate 1024 Value.null) v29 b55 h116 n0 Z121 O117 O118 (by omega) (by simp only [List.length_set, List.length_replicate]; omega) (O119.1) g50 ne49 (Ne.symm ne61)) rfl (by decide) (W := 0) rfl (by decide) (c' := 14) (s' := 2191) rfl rfl (by decide) (by decide) at_125 (n := 128) rfl pd8 rfl rfl ?_
        rintro s C _ h192 ⟨rfl, K189, O190⟩
        have O193 := O117.keep K189 (ninS ne49 nin0)
        have O194 := O119.keep K189 (ninS (Ne.symm ne61) nin0)
        have O195 := O114.keep K189 (ninS (Ne.symm ne93) nin0)
        have OL196 := OL120.keep K189 (allS g50 all0)
        have Z197 : n0 ≤ h192.size := Nat.le_trans Z121 K189.1
        refine G.aload C at_128 rfl rfl (n := 130) rfl ?_
        refine G.iload C at_130 rfl (n := 132) rfl ?_
        refine G.aload C at_132 rfl rfl (n := 134) rfl ?_
        refine G.callV C (argsL := [(.int v30), (.ref b87)]) (yr := (⟨"com/example/near_miss/nearmiss/search/Window", "setExplanation", "(ILcom/example/near_miss/nearmiss/scoring/Explanation;)V"⟩ : MethodName)) (yc := (⟨"com/example/near_miss/nearmiss/search/Window", "setExplanation", "(ILcom/example/near_miss/nearmiss/scoring/Explanation;)V"⟩ : MethodName)) (a := b33) (O193.1) (wd hw 86 rfl) (wd hw 87 rfl) (nfS (wd hw 89 rfl) rfl) (wd hw 89 rfl) (wd hw 88 rfl) (wd hw 2 rfl) (wd hw 90 rfl) (by decide) (m_setx l Z a0 hw b33 M Sc X ((List.replicate 1024 Value.null).set v29.toInt.toNat (.ref b55)) v30 b87 h192 n0 Z197 O193 O190 (by omega) (by simp only [List.length_set, List.length_replicate]; omega) (O195.1) g50 ne49 (Ne.symm ne93)) rfl (by decide) (W := 0) rfl (by decide) (c' := 14) (s' := 2191) rfl rfl (by decide) (by decide) at_134 (n := 137) rfl pd8 rfl rfl ?_
        rintro s C _ h201 ⟨rfl, K198, O199⟩
        have O202 := O193.keep K198 (ninS ne49 nin0)
        have O203 := O194.keep K198 (ninS (Ne.symm ne61) nin0)
        have O204 := O195.keep K198 (ninS (Ne.symm ne93) nin0)
        have OL205 := OL196.keep K198 (allS g50 all0)
        have Z206 : n0 ≤ h201.size := Nat.le_trans Z197 K198.1
        refine G.aload C at_137 rfl rfl (n := 139) rfl ?_
        refine G.iload C at_139 rfl (n := 141) rfl ?_
        refine G.callV C (argsL := [(.int v29)]) (yr := (⟨"com/example/near_miss/nearmiss/search/Window", "explanation", "(I)Lcom/example/near_miss/nearmiss/scoring/Explanation;"⟩ : MethodName)) (yc := (⟨"com/example/near_miss/nearmiss/search/Window", "explanation", "(I)Lcom/example/near_miss/nearmiss/scoring/Explanation;"⟩ : MethodName)) (a := b33) (O202.1) (wd hw 19 rfl) (wd hw 20 rfl) (nfS (wd hw 22 rfl) rfl) (wd hw 22 rfl) (wd hw 21 rfl) (wd hw 2 rfl) (wd hw 23 rfl) (by decide) (m_expR l Z a0 hw b33 M Sc X (((List.replicate 1024 Value.null).set v29.toInt.toNat (.ref b55)).set v30.toInt.toNat (.ref b87)) v29 b55 h201 n0 Z206 O202 O199 (by omega) (x2_a (by omega) (by omega))) rfl (by decide) (W := 0) rfl (by decide) (c' := 14) (s' := 2191) rfl rfl (by decide) (by decide) at_141 (n := 144) rfl pd6 rfl rfl ?_
        rintro s C _ _ ⟨rfl, rfl⟩
        refine G.astore C at_144 rfl (l' := #[.val (.int i0), .val (.int i1), .val (.int i2), .val (.int i3), .val (.int (1 : Int32)), .val (.int v29), .val (.int v30), .val (.int v31), .val (.ref b33), .val (.ref b55), .val (.ref b87), .val (.int (1 : Int32)), .val (.ref b55), .unset, .unset, .unset, .unset]) rfl (n := 146) rfl ?_
        refine G.aload C at_146 rfl rfl (n := 148) rfl ?_
        refine G.iload C at_148 rfl (n := 150) rfl ?_
        refine G.callV C (argsL := [(.int v30)]) (yr := (⟨"com/example/near_miss/nearmiss/search/Window", "explanation", "(I)Lcom/example/near_miss/nearmiss/scoring/Explanation;"⟩ : MethodName)) (yc := (⟨"com/example/near_miss/nearmiss/search/Window", "explanation", "(I)Lcom/example/near_miss/nearmiss/scoring/Explanation;"⟩ : MethodName)) (a := b33) (O202.1) (wd hw 19 rfl) (wd hw 20 rfl) (nfS (wd hw 22 rfl) rfl) (wd hw 22 rfl) (wd hw 21 rfl) (wd hw 2 rfl) (wd hw 23 rfl) (by decide) (m_expR l Z a0 hw b33 M Sc X (((List.replicate 1024 Value.null).set v29.toInt.toNat (.ref b55)).set v30.toInt.toNat (.ref b87)) v30 b87 h201 n0 Z206 O202 O199 (by omega) (x2_b (by omega))) rfl (by decide) (W := 0) rfl (by decide) (c' := 14) (s' := 2191) rfl rfl (by decide) (by decide) at_150 (n := 153) rfl pd6 rfl rfl ?_
        rintro s C _ _ ⟨rfl, rfl⟩
        refine G.astore C at_153 rfl (l' := #[.val (.int i0), .val (.int i1), .val (.int i2), .val (.int i3), .val (.int (1 : Int32)), .val (.int v29), .val (.int v30), .val (.int v31), .val (.ref b33), .val (.ref b55), .val (.ref b87), .val (.int (1 : Int32)), .val (.ref b55), .val (.ref b87), .unset, .unset, .unset]) rfl (n := 155) rfl ?_
        refine G.aload C at_155 rfl rfl (n := 157) rfl ?_
        refine G.iload C at_157 rfl (n := 159) rfl ?_
        refine G.callV C (argsL := [(.int v31)]) (yr := (⟨"com/example/near_miss/nearmiss/search/Window", "explanation", "(I)Lcom/example/near_miss/nearmiss/scoring/Explanation;"⟩ : MethodName)) (yc := (⟨"com/example/near_miss/nearmiss/search/Window", "explanation", "(I)Lcom/example/near_miss/nearmiss/scoring/Explanation;"⟩ : MethodName)) (a := b33) (O202.1) (wd hw 19 rfl) (wd hw 20 rfl) (nfS (wd hw 22 rfl) rfl) (wd hw 22 rfl) (wd hw 21 rfl) (wd hw 2 rfl) (wd hw 23 rfl) (by decide) (m_expR l Z a0 hw b33 M Sc X (((List.replicate 1024 Value.null).set v29.toInt.toNat (.ref b55)).set v30.toInt.toNat (.ref b87)) v31 b87 h201 n0 Z206 O202 O199 (by omega) (by rw [e_cb]; exact x2_b (by omega))) rfl (by decide) (W := 0) rfl (by decide) (c' := 14) (s' := 2191) rfl rfl (by decide) (by decide) at_159 (n := 162) rfl pd6 rfl rfl ?_
        rintro s C _ _ ⟨rfl, rfl⟩
        refine G.astore C at_162 rfl (l' := #[.val (.int i0), .val (.int i1), .val (.int i2), .val (.int i3), .val (.int (1 : Int32)), .val (.int v29), .val (.int v30), .val (.int v31), .val (.ref b33), .val (.ref b55), .val (.ref b87), .val (.int (1 : Int32)), .val (.ref b55), .val (.ref b87), .val (.ref b87), .unset, .unset]) rfl (n := 164) rfl ?_
        refine G.iload C at_164 rfl (n := 166) rfl ?_
        refine G.iload C at_166 rfl (n := 168) rfl ?_
        refine G.icmp_ne C (A := v29.toInt) (B := v30.toInt) rfl rfl at_168 (by decide) (by decide) (n := 171) (n' := 176) rfl (fun c168_213 c168_213i => ?_) (fun c168_213 c168_213i => ?_)
        rotate_left
        · exact absurd c168_213 e_ab
        refine G.aload C at_176 rfl rfl (n := 178) rfl ?_
        refine G.astore C at_178 rfl (l' := #[.val (.int i0), .val (.int i1), .val (.int i2), .val (.int i3), .val (.int (1 : Int32)), .val (.int v29), .val (.int v30), .val (.int v31), .val (.ref b33), .val (.ref b55), .val (.ref b87), .val (.int (1 : Int32)), .val (.ref b55), .val (.ref b87), .val (.ref b87), .val (.ref b55), .unset]) rfl (n := 180) rfl ?_
        refine G.iload C at_180 rfl (n := 182) rfl ?_
        refine G.iload C at_182 rfl (n := 184) rfl ?_
        refine G.icmp_ne C (A := v31.toInt) (B := v30.toInt) rfl rfl at_184 (by decide) (by decide) (n := 187) (n' := 192) rfl (fun c184_214 c184_214i => ?_) (fun c184_214 c184_214i => ?_)
        · exact absurd e_cb c184_214
        refine G.aload C at_187 rfl rfl (n := 189) rfl ?_
        refine G.goto C at_189 (by decide) (n := 205) (by decide) ?_
        refine G.astore C at_205 rfl (l' := #[.val (.int i0), .val (.int i1), .val (.int i2), .val (.int i3), .val (.int (1 : Int32)), .val (.int v29), .val (.int v30), .val (.int v31), .val (.ref b33), .val (.ref b55), .val (.ref b87), .val (.int (1 : Int32)), .val (.ref b55), .val (.ref b87), .val (.ref b87), .val (.ref b55), .val (.ref b87)]) rfl (n := 207) rfl ?_
        refine G.iload C at_207 rfl (n := 209) rfl ?_
        refine G.if_eq C (A := 1) (by decide) at_209 (by decide) (by decide) (n := 212) (n' := 237) rfl (fun c209_215 c209_215i => ?_) (fun c209_215 c209_215i => ?_)
        · exact absurd c209_215 (by decide)
        refine G.aload C at_212 rfl rfl (n := 214) rfl ?_
        refine G.aload C at_214 rfl rfl (n := 216) rfl ?_
        refine G.acmp_ne C rfl rfl at_216 (by decide) (by decide) (n := 219) (n' := 237) rfl (fun c216_216 => ?_) (fun c216_216 => ?_)
        · exact absurd rfl c216_216
        refine G.aload C at_219 rfl rfl (n := 221) rfl ?_
        refine G.aload C at_221 rfl rfl (n := 223) rfl ?_
        refine G.acmp_ne C rfl rfl at_223 (by decide) (by decide) (n := 226) (n' := 237) rfl (fun c223_217 => ?_) (fun c223_217 => ?_)
        · exact absurd rfl c223_217
        refine G.aload C at_226 rfl rfl (n := 228) rfl ?_
        refine G.aload C at_228 rfl rfl (n := 230) rfl ?_
        refine G.acmp_ne C rfl rfl at_230 (by decide) (by decide) (n := 233) (n' := 237) rfl (fun c230_218 => ?_) (fun c230_218 => ?_)
        · exact absurd rfl c230_218
        refine G.iconst C (v := (1 : Int32)) at_233 (by decide) (n := 234) rfl ?_
        refine G.goto C at_234 (by decide) (n := 238) (by decide) ?_
        refine G.ireturn C at_238 (rfl) (by simp) (by decide) (by decide) ?_
        exact rfl
      · have e_cb : v31 ≠ v30 := fun q => k_cb (congrArg _ q)
        by_cases k_ca : v31.toInt = v29.toInt
        · have e_ca : v31 = v29 := Int32.toInt_inj.mp k_ca
          refine G.aload C at_102 rfl rfl (n := 104) rfl ?_
          refine G.iload C at_104 rfl (n := 106) rfl ?_
          refine G.callV C (argsL := [(.int v31)]) (yr := (⟨"com/example/near_miss/nearmiss/search/Window", "explanation", "(I)Lcom/example/near_miss/nearmiss/scoring/Explanation;"⟩ : MethodName)) (yc := (⟨"com/example/near_miss/nearmiss/search/Window", "explanation", "(I)Lcom/example/near_miss/nearmiss/scoring/Explanation;"⟩ : MethodName)) (a := b33) (O117.1) (wd hw 19 rfl) (wd hw 20 rfl) (nfS (wd hw 22 rfl) rfl) (wd hw 22 rfl) (wd hw 21 rfl) (wd hw 2 rfl) (wd hw 23 rfl) (by decide) (m_expN l Z a0 hw b33 M Sc X (List.replicate 1024 Value.null) v31  h116 n0 Z121 O117 O118 (by omega) (x_r (by omega))) rfl (by decide) (W := 0) rfl (by decide) (c' := 14) (s' := 2191) rfl rfl (by decide) (by decide) at_106 (n := 109) rfl pd6 rfl rfl ?_
          rintro s C _ _ ⟨rfl, rfl⟩
          refine G.ifnonnullN C at_109 (n := 112) rfl ?_
          refine G.iconst C (v := (1 : Int32)) at_112 (by decide) (n := 113) rfl ?_
          refine G.goto C at_113 (by decide) (n := 117) (by decide) ?_
          refine G.istore C at_117 (l' := #[.val (.int i0), .val (.int i1), .val (.int i2), .val (.int i3), .val (.int (1 : Int32)), .val (.int v29), .val (.int v30), .val (.int v31), .val (.ref b33), .val (.ref b55), .val (.ref b87), .val (.int (1 : Int32)), .unset, .unset, .unset, .unset, .unset]) rfl (n := 119) rfl ?_
          refine G.aload C at_119 rfl rfl (n := 121) rfl ?_
          refine G.iload C at_121 rfl (n := 123) rfl ?_
          refine G.aload C at_123 rfl rfl (n := 125) rfl ?_
          refine G.callV C (argsL := [(.int v29), (.ref b55)]) (yr := (⟨"com/example/near_miss/nearmiss/search/Window", "setExplanation", "(ILcom/example/near_miss/nearmiss/scoring/Explanation;)V"⟩ : MethodName)) (yc := (⟨"com/example/near_miss/nearmiss/search/Window", "setExplanation", "(ILcom/example/near_miss/nearmiss/scoring/Explanation;)V"⟩ : MethodName)) (a := b33) (O117.1) (wd hw 86 rfl) (wd hw 87 rfl) (nfS (wd hw 89 rfl) rfl) (wd hw 89 rfl) (wd hw 88 rfl) (wd hw 2 rfl) (wd hw 90 rfl) (by decide) (m_setx l Z a0 hw b33 M Sc X (List.replicate 1024 Value.null) v29 b55 h116 n0 Z121 O117 O118 (by omega) (by simp only [List.length_set, List.length_replicate]; omega) (O119.1) g50 ne49 (Ne.symm ne61)) rfl (by decide) (W := 0) rfl (by decide) (c' := 14) (s' := 2191) rfl rfl (by decide) (by decide) at_125 (n := 128) rfl pd8 rfl rfl ?_
          rintro s C _ h224 ⟨rfl, K221, O222⟩
          have O225 := O117.keep K221 (ninS ne49 nin0)
          have O226 := O119.keep K221 (ninS (Ne.symm ne61) nin0)
          have O227 := O114.keep K221 (ninS (Ne.symm ne93) nin0)
          have OL228 := OL120.keep K221 (allS g50 all0)
          have Z229 : n0 ≤ h224.size := Nat.le_trans Z121 K221.1
          refine G.aload C at_128 rfl rfl (n := 130) rfl ?_
          refine G.iload C at_130 rfl (n := 132) rfl ?_
          refine G.aload C at_132 rfl rfl (n := 134) rfl ?_
          refine G.callV C (argsL := [(.int v30), (.ref b87)]) (yr := (⟨"com/example/near_miss/nearmiss/search/Window", "setExplanation", "(ILcom/example/near_miss/nearmiss/scoring/Explanation;)V"⟩ : MethodName)) (yc := (⟨"com/example/near_miss/nearmiss/search/Window", "setExplanation", "(ILcom/example/near_miss/nearmiss/scoring/Explanation;)V"⟩ : MethodName)) (a := b33) (O225.1) (wd hw 86 rfl) (wd hw 87 rfl) (nfS (wd hw 89 rfl) rfl) (wd hw 89 rfl) (wd hw 88 rfl) (wd hw 2 rfl) (wd hw 90 rfl) (by decide) (m_setx l Z a0 hw b33 M Sc X ((List.replicate 1024 Value.null).set v29.toInt.toNat (.ref b55)) v30 b87 h224 n0 Z229 O225 O222 (by omega) (by simp only [List.length_set, List.length_replicate]; omega) (O227.1) g50 ne49 (Ne.symm ne93)) rfl (by decide) (W := 0) rfl (by decide) (c' := 14) (s' := 2191) rfl rfl (by decide) (by decide) at_134 (n := 137) rfl pd8 rfl rfl ?_
          rintro s C _ h233 ⟨rfl, K230, O231⟩
          have O234 := O225.keep K230 (ninS ne49 nin0)
          have O235 := O226.keep K230 (ninS (Ne.symm ne61) nin0)
          have O236 := O227.keep K230 (ninS (Ne.symm ne93) nin0)
          have OL237 := OL228.keep K230 (allS g50 all0)
          have Z238 : n0 ≤ h233.size := Nat.le_trans Z229 K230.1
          refine G.aload C at_137 rfl rfl (n := 139) rfl ?_
          refine G.iload C at_139 rfl (n := 141) rfl ?_
          refine G.callV C (argsL := [(.int v29)]) (yr := (⟨"com/example/near_miss/nearmiss/search/Window", "explanation", "(I)Lcom/example/near_miss/nearmiss/scoring/Explanation;"⟩ : MethodName)) (yc := (⟨"com/example/near_miss/nearmiss/search/Window", "explanation", "(I)Lcom/example/near_miss/nearmiss/scoring/Explanation;"⟩ : MethodName)) (a := b33) (O234.1) (wd hw 19 rfl) (wd hw 20 rfl) (nfS (wd hw 22 rfl) rfl) (wd hw 22 rfl) (wd hw 21 rfl) (wd hw 2 rfl) (wd hw 23 rfl) (by decide) (m_expR l Z a0 hw b33 M Sc X (((List.replicate 1024 Value.null).set v29.toInt.toNat (.ref b55)).set v30.toInt.toNat (.ref b87)) v29 b55 h233 n0 Z238 O234 O231 (by omega) (x2_a (by omega) (by omega))) rfl (by decide) (W := 0) rfl (by decide) (c' := 14) (s' := 2191) rfl rfl (by decide) (by decide) at_141 (n := 144) rfl pd6 rfl rfl ?_
          rintro s C _ _ ⟨rfl, rfl⟩
          refine G.astore C at_144 rfl (l' := #[.val (.int i0), .val (.int i1), .val (.int i2), .val (.int i3), .val (.int (1 : Int32)), .val (.int v29), .val (.int v30), .val (.int v31), .val (.ref b33), .val (.ref b55), .val (.ref b87), .val (.int (1 : Int32)), .val (.ref b55), .unset, .unset, .unset, .unset]) rfl (n := 146) rfl ?_
          refine G.aload C at_146 rfl rfl (n := 148) rfl ?_
          refine G.iload C at_148 rfl (n := 150) rfl ?_
          refine G.callV C (argsL := [(.int v30)]) (yr := (⟨"com/example/near_miss/nearmiss/search/Window", "explanation", "(I)Lcom/example/near_miss/nearmiss/scoring/Explanation;"⟩ : MethodName)) (yc := (⟨"com/example/near_miss/nearmiss/search/Window", "explanation", "(I)Lcom/example/near_miss/nearmiss/scoring/Explanation;"⟩ : MethodName)) (a := b33) (O234.1) (wd hw 19 rfl) (wd hw 20 rfl) (nfS (wd hw 22 rfl) rfl) (wd hw 22 rfl) (wd hw 21 rfl) (wd hw 2 rfl) (wd hw 23 rfl) (by decide) (m_expR l Z a0 hw b33 M Sc X (((List.replicate 1024 Value.null).set v29.toInt.toNat (.ref b55)).set v30.toInt.toNat (.ref b87)) v30 b87 h233 n0 Z238 O234 O231 (by omega) (x2_b (by omega))) rfl (by decide) (W := 0) rfl (by decide) (c' := 14) (s' := 2191) rfl rfl (by decide) (by decide) at_150 (n := 153) rfl pd6 rfl rfl ?_
          rintro s C _ _ ⟨rfl, rfl⟩
          refine G.astore C at_153 rfl (l' := #[.val (.int i0), .val (.int i1), .val (.int i2), .val (.int i3), .val (.int (1 : Int32)), .val (.int v29), .val (.int v30), .val (.int v31), .val (.ref b33), .val (.ref b55), .val (.ref b87), .val (.int (1 : Int32)), .val (.ref b55), .val (.ref b87), .unset, .unset, .unset]) rfl (n := 155) rfl ?_
          refine G.aload C at_155 rfl rfl (n := 157) rfl ?_
          refine G.iload C at_157 rfl (n := 159) rfl ?_
          refine G.callV C (argsL := [(.int v31)]) (yr := (⟨"com/example/near_miss/nearmiss/search/Window", "explanation", "(I)Lcom/example/near_miss/nearmiss/scoring/Explanation;"⟩ : MethodName)) (yc := (⟨"com/example/near_miss/nearmiss/search/Window", "explanation", "(I)Lcom/example/near_miss/nearmiss/scoring/Explanation;"⟩ : MethodName)) (a := b33) (O234.1) (wd hw 19 rfl) (wd hw 20 rfl) (nfS (wd hw 22 rfl) rfl) (wd hw 22 rfl) (wd hw 21 rfl) (wd hw 2 rfl) (wd hw 23 rfl) (by decide) (m_expR l Z a0 hw b33 M Sc X (((List.replicate 1024 Value.null).set v29.toInt.toNat (.ref b55)).set v30.toInt.toNat (.ref b87)) v31 b55 h233 n0 Z238 O234 O231 (by omega) (by rw [e_ca]; exact x2_a (by omega) (by omega))) rfl (by decide) (W := 0) rfl (by decide) (c' := 14) (s' := 2191) rfl rfl (by decide) (by decide) at_159 (n := 162) rfl pd6 rfl rfl ?_
          rintro s C _ _ ⟨rfl, rfl⟩
          refine G.astore C at_162 rfl (l' := #[.val (.int i0), .val (.int i1), .val (.int i2), .val (.int i3), .val (.int (1 : Int32)), .val (.int v29), .val (.int v30), .val (.int v31), .val (.ref b33), .val (.ref b55), .val (.ref b87), .val (.int (1 : Int32)), .val (.ref b55), .val (.ref b87), .val (.ref b55), .unset, .unset]) rfl (n := 164) rfl ?_
          refine G.iload C at_164 rfl (n := 166) rfl ?_
          refine G.iload C at_166 rfl (n := 168) rfl ?_
          refine G.icmp_ne C (A := v29.toInt) (B := v30.toInt) rfl rfl at_168 (by decide) (by decide) (n := 171) (n' := 176) rfl (fun c168_245 c168_245i => ?_) (fun c168_245 c168_245i => ?_)
          rotate_left
          · exact absurd c168_245 e_ab
          refine G.aload C at_176 rfl rfl (n := 178) rfl ?_
          refine G.astore C at_178 rfl (l' := #[.val (.int i0), .val (.int i1), .val (.int i2), .val (.int i3), .val (.int (1 : Int32)), .val (.int v29), .val (.int v30), .val (.int v31), .val (.ref b33), .val (.ref b55), .val (.ref b87), .val (.int (1 : Int32)), .val (.ref b55), .val (.ref b87), .val (.ref b55), .val (.ref b55), .unset]) rfl (n := 180) rfl ?_
          refine G.iload C at_180 rfl (n := 182) rfl ?_
          refine G.iload C at_182 rfl (n := 184) rfl ?_
          refine G.icmp_ne C (A := v31.toInt) (B := v30.toInt) rfl rfl at_184 (by decide) (by decide) (n := 187) (n' := 192) rfl (fun c184_246 c184_246i => ?_) (fun c184_246 c184_246i => ?_)
          rotate_left
          · exact absurd c184_246 e_cb
          refine G.iload C at_192 rfl (n := 194) rfl ?_
          refine G.iload C at_194 rfl (n := 196) rfl ?_
          refine G.icmp_ne C (A := v31.toInt) (B := v29.toInt) rfl rfl at_196 (by decide) (by decide) (n := 199) (n' := 204) rfl (fun c196_247 c196_247i => ?_) (fun c196_247 c196_247i => ?_)
          · exact absurd e_ca c196_247
          refine G.aload C at_199 rfl rfl (n := 201) rfl ?_
          refine G.goto C at_201 (by decide) (n := 205) (by decide) ?_
          refine G.astore C at_205 rfl (l' := #[.val (.int i0), .val (.int i1), .val (.int i2), .val (.int i3), .val (.int (1 : Int32)), .val (.int v29), .val (.int v30), .val (.int v31), .val (.ref b33), .val (.ref b55), .val (.ref b87), .val (.int (1 : Int32)), .val (.ref b55), .val (.ref b87), .val (.ref b55), .val (.ref b55), .val (.ref b55)]) rfl (n := 207) rfl ?_
          refine G.iload C at_207 rfl (n := 209) rfl ?_
          refine G.if_eq C (A := 1) (by decide) at_209 (by decide) (by decide) (n := 212) (n' := 237) rfl (fun c209_248 c209_248i => ?_) (fun c209_248 c209_248i => ?_)
          · exact absurd c209_248 (by decide)
          refine G.aload C at_212 rfl rfl (n := 214) rfl ?_
          refine G.aload C at_214 rfl rfl (n := 216) rfl ?_
          refine G.acmp_ne C rfl rfl at_216 (by decide) (by decide) (n := 219) (n' := 237) rfl (fun c216_249 => ?_) (fun c216_249 => ?_)
          · exact absurd rfl c216_249
          refine G.aload C at_219 rfl rfl (n := 221) rfl ?_
          refine G.aload C at_221 rfl rfl (n := 223) rfl ?_
          refine G.acmp_ne C rfl rfl at_223 (by decide) (by decide) (n := 226) (n' := 237) rfl (fun c223_250 => ?_) (fun c223_250 => ?_)
          · exact absurd rfl c223_250
          refine G.aload C at_226 rfl rfl (n := 228) rfl ?_
          refine G.aload C at_228 rfl rfl (n := 230) rfl ?_
          refine G.acmp_ne C rfl rfl at_230 (by decide) (by decide) (n := 233) (n' := 237) rfl (fun c230_251 => ?_) (fun c230_251 => ?_)
          · exact absurd rfl c230_251
          refine G.iconst C (v := (1 : Int32)) at_233 (by decide) (n := 234) rfl ?_
          refine G.goto C at_234 (by decide) (n := 238) (by decide) ?_
          refine G.ireturn C at_238 (rfl) (by simp) (by decide) (by decide) ?_
          exact rfl
        · have e_ca : v31 ≠ v29 := fun q => k_ca (congrArg _ q)
          refine G.aload C at_102 rfl rfl (n := 104) rfl ?_
          refine G.iload C at_104 rfl (n := 106) rfl ?_
          refine G.callV C (argsL := [(.int v31)]) (yr := (⟨"com/example/near_miss/nearmiss/search/Window", "explanation", "(I)Lcom/example/near_miss/nearmiss/scoring/Explanation;"⟩ : MethodName)) (yc := (⟨"com/example/near_miss/nearmiss/search/Window", "explanation", "(I)Lcom/example/near_miss/nearmiss/scoring/Explanation;"⟩ : MethodName)) (a := b33) (O117.1) (wd hw 19 rfl) (wd hw 20 rfl) (nfS (wd hw 22 rfl) rfl) (wd hw 22 rfl) (wd hw 21 rfl) (wd hw 2 rfl) (wd hw 23 rfl) (by decide) (m_expN l Z a0 hw b33 M Sc X (List.replicate 1024 Value.null) v31  h116 n0 Z121 O117 O118 (by omega) (x_r (by omega))) rfl (by decide) (W := 0) rfl (by decide) (c' := 14) (s' := 2191) rfl rfl (by decide) (by decide) at_106 (n := 109) rfl pd6 rfl rfl ?_
          rintro s C _ _ ⟨rfl, rfl⟩
          refine G.ifnonnullN C at_109 (n := 112) rfl ?_
          refine G.iconst C (v := (1 : Int32)) at_112 (by decide) (n := 113) rfl ?_
          refine G.goto C at_113 (by decide) (n := 117) (by decide) ?_
          refine G.istore C at_117 (l' := #[.val (.int i0), .val (.int i1), .val (.int i2), .val (.int i3), .val (.int (1 : Int32)), .val (.int v29), .val (.int v30), .val (.int v31), .val (.ref b33), .val (.ref b55), .val (.ref b87), .val (.int (1 : Int32)), .unset, .unset, .unset, .unset, .unset]) rfl (n := 119) rfl ?_
          refine G.aload C at_119 rfl rfl (n := 121) rfl ?_
          refine G.iload C at_121 rfl (n := 123) rfl ?_
          refine G.aload C at_123 rfl rfl (n := 125) rfl ?_
          refine G.callV C (argsL := [(.int v29), (.ref b55)]) (yr := (⟨"com/example/near_miss/nearmiss/search/Window", "setExplanation", "(ILcom/example/near_miss/nearmiss/scoring/Explanation;)V"⟩ : MethodName)) (yc := (⟨"com/example/near_miss/nearmiss/search/Window", "setExplanation", "(ILcom/example/near_miss/nearmiss/scoring/Explanation;)V"⟩ : MethodName)) (a := b33) (O117.1) (wd hw 86 rfl) (wd hw 87 rfl) (nfS (wd hw 89 rfl) rfl) (wd hw 89 rfl) (wd hw 88 rfl) (wd hw 2 rfl) (wd hw 90 rfl) (by decide) (m_setx l Z a0 hw b33 M Sc X (List.replicate 1024 Value.null) v29 b55 h116 n0 Z121 O117 O118 (by omega) (by simp only [List.length_set, List.length_replicate]; omega) (O119.1) g50 ne49 (Ne.symm ne61)) rfl (by decide) (W := 0) rfl (by decide) (c' := 14) (s' := 2191) rfl rfl (by decide) (by decide) at_125 (n := 128) rfl pd8 rfl rfl ?_
          rintro s C _ h257 ⟨rfl, K254, O255⟩
          have O258 := O117.keep K254 (ninS ne49 nin0)
          have O259 := O119.keep K254 (ninS (Ne.symm ne61) nin0)
          have O260 := O114.keep K254 (ninS (Ne.symm ne93) nin0)
          have OL261 := OL120.keep K254 (allS g50 all0)
          have Z262 : n0 ≤ h257.size := Nat.le_trans Z121 K254.1
          refine G.aload C at_128 rfl rfl (n := 130) rfl ?_
          refine G.iload C at_130 rfl (n := 132) rfl ?_
          refine G.aload C at_132 rfl rfl (n := 134) rfl ?_
          refine G.callV C (argsL := [(.int v30), (.ref b87)]) (yr := (⟨"com/example/near_miss/nearmiss/search/Window", "setExplanation", "(ILcom/example/near_miss/nearmiss/scoring/Explanation;)V"⟩ : MethodName)) (yc := (⟨"com/example/near_miss/nearmiss/search/Window", "setExplanation", "(ILcom/example/near_miss/nearmiss/scoring/Explanation;)V"⟩ : MethodName)) (a := b33) (O258.1) (wd hw 86 rfl) (wd hw 87 rfl) (nfS (wd hw 89 rfl) rfl) (wd hw 89 rfl) (wd hw 88 rfl) (wd hw 2 rfl) (wd hw 90 rfl) (by decide) (m_setx l Z a0 hw b33 M Sc X ((List.replicate 1024 Value.null).set v29.toInt.toNat (.ref b55)) v30 b87 h257 n0 Z262 O258 O255 (by omega) (by simp only [List.length_set, List.length_replicate]; omega) (O260.1) g50 ne49 (Ne.symm ne93)) rfl (by decide) (W := 0) rfl (by decide) (c' := 14) (s' := 2191) rfl rfl (by decide) (by decide) at_134 (n := 137) rfl pd8 rfl rfl ?_
          rintro s C _ h266 ⟨rfl, K263, O264⟩
          have O267 := O258.keep K263 (ninS ne49 nin0)
          have O268 := O259.keep K263 (ninS (Ne.symm ne61) nin0)
          have O269 := O260.keep K263 (ninS (Ne.symm ne93) nin0)
          have OL270 := OL261.keep K263 (allS g50 all0)
          have Z271 : n0 ≤ h266.size := Nat.le_trans Z262 K263.1
          refine G.aload C at_137 rfl rfl (n := 139) rfl ?_
          refine G.iload C at_139 rfl (n := 141) rfl ?_
          refine G.callV C (argsL := [(.int v29)]) (yr := (⟨"com/example/near_miss/nearmiss/search/Window", "explanation", "(I)Lcom/example/near_miss/nearmiss/scoring/Explanation;"⟩ : MethodName)) (yc := (⟨"com/example/near_miss/nearmiss/search/Window", "explanation", "(I)Lcom/example/near_miss/nearmiss/scoring/Explanation;"⟩ : MethodName)) (a := b33) (O267.1) (wd hw 19 rfl) (wd hw 20 rfl) (nfS (wd hw 22 rfl) rfl) (wd hw 22 rfl) (wd hw 21 rfl) (wd hw 2 rfl) (wd hw 23 rfl) (by decide) (m_expR l Z a0 hw b33 M Sc X (((List.replicate 1024 Value.null).set v29.toInt.toNat (.ref b55)).set v30.toInt.toNat (.ref b87)) v29 b55 h266 n0 Z271 O267 O264 (by omega) (x2_a (by omega) (by omega))) rfl (by decide) (W := 0) rfl (by decide) (c' := 14) (s' := 2191) rfl rfl (by decide) (by decide) at_141 (n := 144) rfl pd6 rfl rfl ?_
          rintro s C _ _ ⟨rfl, rfl⟩
          refine G.astore C at_144 rfl (l' := #[.val (.int i0), .val (.int i1), .val (.int i2), .val (.int i3), .val (.int (1 : Int32)), .val (.int v29), .val (.int v30), .val (.int v31), .val (.ref b33), .val (.ref b55), .val (.ref b87), .val (.int (1 : Int32)), .val (.ref b55), .unset, .unset, .unset, .unset]) rfl (n := 146) rfl ?_
          refine G.aload C at_146 rfl rfl (n := 148) rfl ?_
          refine G.iload C at_148 rfl (n := 150) rfl ?_
          refine G.callV C (argsL := [(.int v30)]) (yr := (⟨"com/example/near_miss/nearmiss/search/Window", "explanation", "(I)Lcom/example/near_miss/nearmiss/scoring/Explanation;"⟩ : MethodName)) (yc := (⟨"com/example/near_miss/nearmiss/search/Window", "explanation", "(I)Lcom/example/near_miss/nearmiss/scoring/Explanation;"⟩ : MethodName)) (a := b33) (O267.1) (wd hw 19 rfl) (wd hw 20 rfl) (nfS (wd hw 22 rfl) rfl) (wd hw 22 rfl) (wd hw 21 rfl) (wd hw 2 rfl) (wd hw 23 rfl) (by decide) (m_expR l Z a0 hw b33 M Sc X (((List.replicate 1024 Value.null).set v29.toInt.toNat (.ref b55)).set v30.toInt.toNat (.ref b87)) v30 b87 h266 n0 Z271 O267 O264 (by omega) (x2_b (by omega))) rfl (by decide) (W := 0) rfl (by decide) (c' := 14) (s' := 2191) rfl rfl (by decide) (by decide) at_150 (n := 153) rfl pd6 rfl rfl ?_
          rintro s C _ _ ⟨rfl, rfl⟩
          refine G.astore C at_153 rfl (l' := #[.val (.int i0), .val (.int i1), .val (.int i2), .val (.int i3), .val (.int (1 : Int32)), .val (.int v29), .val (.int v30), .val (.int v31), .val (.ref b33), .val (.ref b55), .val (.ref b87), .val (.int (1 : Int32)), .val (.ref b55), .val (.ref b87), .unset, .unset, .unset]) rfl (n := 155) rfl ?_
          refine G.aload C at_155 rfl rfl (n := 157) rfl ?_
          refine G.iload C at_157 rfl (n := 159) rfl ?_
          refine G.callV C (argsL := [(.int v31)]) (yr := (⟨"com/example/near_miss/nearmiss/search/Window", "explanation", "(I)Lcom/example/near_miss/nearmiss/scoring/Explanation;"⟩ : MethodName)) (yc := (⟨"com/example/near_miss/nearmiss/search/Window", "explanation", "(I)Lcom/example/near_miss/nearmiss/scoring/Explanation;"⟩ : MethodName)) (a := b33) (O267.1) (wd hw 19 rfl) (wd hw 20 rfl) (nfS (wd hw 22 rfl) rfl) (wd hw 22 rfl) (wd hw 21 rfl) (wd hw 2 rfl) (wd hw 23 rfl) (by decide) (m_expN l Z a0 hw b33 M Sc X (((List.replicate 1024 Value.null).set v29.toInt.toNat (.ref b55)).set v30.toInt.toNat (.ref b87)) v31  h266 n0 Z271 O267 O264 (by omega) (x2_n (by omega) (by omega) (by omega))) rfl (by decide) (W := 0) rfl (by decide) (c' := 14) (s' := 2191) rfl rfl (by decide) (by decide) at_159 (n := 162) rfl pd6 rfl rfl ?_
          rintro s C _ _ ⟨rfl, rfl⟩
          refine G.astore C at_162 rfl (l' := #[.val (.int i0), .val (.int i1), .val (.int i2), .val (.int i3), .val (.int (1 : Int32)), .val (.int v29), .val (.int v30), .val (.int v31), .val (.ref b33), .val (.ref b55), .val (.ref b87), .val (.int (1 : Int32)), .val (.ref b55), .val (.ref b87), .val .null, .unset, .unset]) rfl (n := 164) rfl ?_
          refine G.iload C at_164 rfl (n := 166) rfl ?_
          refine G.iload C at_166 rfl (n := 168) rfl ?_
          refine G.icmp_ne C (A := v29.toInt) (B := v30.toInt) rfl rfl at_168 (by decide) (by decide) (n := 171) (n' := 176) rfl (fun c168_278 c168_278i => ?_) (fun c168_278 c168_278i => ?_)
          rotate_left
          · exact absurd c168_278 e_ab
          refine G.aload C at_176 rfl rfl (n := 178) rfl ?_
          refine G.astore C at_178 rfl (l' := #[.val (.int i0), .val (.int i1), .val (.int i2), .val (.int i3), .val (.int (1 : Int32)), .val (.int v29), .val (.int v30), .val (.int v31), .val (.ref b33), .val (.ref b55), .val (.ref b87), .val (.int (1 : Int32)), .val (.ref b55), .val (.ref b87), .val .null, .val (.ref b55), .unset]) rfl (n := 180) rfl ?_
          refine G.iload C at_180 rfl (n := 182) rfl ?_
          refine G.iload C at_182 rfl (n := 184) rfl ?_
          refine G.icmp_ne C (A := v31.toInt) (B := v30.toInt) rfl rfl at_184 (by decide) (by decide) (n := 187) (n' := 192) rfl (fun c184_279 c184_279i => ?_) (fun c184_279 c184_279i => ?_)
          rotate_left
          · exact absurd c184_279 e_cb
          refine G.iload C at_192 rfl (n := 194) rfl ?_
          refine G.iload C at_194 rfl (n := 196) rfl ?_
          refine G.icmp_ne C (A := v31.toInt) (B := v29.toInt) rfl rfl at_196 (by decide) (by decide) (n := 199) (n' := 204) rfl (fun c196_280 c196_280i => ?_) (fun c196_280 c196_280i => ?_)
          rotate_left
          · exact absurd c196_280 e_ca
          refine G.aconst_null C at_204 (n := 205) rfl ?_
          refine G.astore C at_205 rfl (l' := #[.val (.int i0), .val (.int i1), .val (.int i2), .val (.int i3), .val (.int (1 : Int32)), .val (.int v29), .val (.int v30), .val (.int v31), .val (.ref b33), .val (.ref b55), .val (.ref b87), .val (.int (1 : Int32)), .val (.ref b55), .val (.ref b87), .val .null, .val (.ref b55), .val .null]) rfl (n := 207) rfl ?_
          refine G.iload C at_207 rfl (n := 209) rfl ?_
          refine G.if_eq C (A := 1) (by decide) at_209 (by decide) (by decide) (n := 212) (n' := 237) rfl (fun c209_281 c209_281i => ?_) (fun c209_281 c209_281i => ?_)
          · exact absurd c209_281 (by decide)
          refine G.aload C at_212 rfl rfl (n := 214) rfl ?_
          refine G.aload C at_214 rfl rfl (n := 216) rfl ?_
          refine G.acmp_ne C rfl rfl at_216 (by decide) (by decide) (n := 219) (n' := 237) rfl (fun c216_282 => ?_) (fun c216_282 => ?_)
          · exact absurd rfl c216_282
          refine G.aload C at_219 rfl rfl (n := 221) rfl ?_
          refine G.aload C at_221 rfl rfl (n := 223) rfl ?_
          refine G.acmp_ne C rfl rfl at_223 (by decide) (by decide) (n := 226) (n' := 237) rfl (fun c223_283 => ?_) (fun c223_283 => ?_)
          · exact absurd rfl c223_283
          refine G.aload C at_226 rfl rfl (n := 228) rfl ?_
          refine G.aload C at_228 rfl rfl (n := 230) rfl ?_
          refine G.acmp_ne C rfl rfl at_230 (by decide) (by decide) (n := 233) (n' := 237) rfl (fun c230_284 => ?_) (fun c230_284 => ?_)
          · exact absurd rfl c230_284
          refine G.iconst C (v := (1 : Int32)) at_233 (by decide) (n := 234) rfl ?_
          refine G.goto C at_234 (by decide) (n := 238) (by decide) ?_
          refine G.ireturn C at_238 (rfl) (by simp) (by decide) (by decide) ?_
          exact rfl
set_option maxRecDepth 65536 in
set_option maxHeartbeats 40000000 in
theorem comes_1 {Post : Tables → Env → Array Value → State → Outcome → State → Prop} (hpost : ∀ tb e args s v u, (limb_1_1.after args s (.returned v) u = true ∧ limb_1_2.after args s (.returned v) u = true ∧ True) → ReturnedEndW s (.returned v) u (Jvm.fieldLocs frame_1_writes args s ++ Jvm.arrayLocs frame_1_arrays args s ++ Jvm.staticLocs frame_1_statics s) 32 7360 → Post tb e args s (.returned v) u) :
    ArmFor flags0 classFile x code maxLocals ret World_1 tables_1 room_1 Calls_1 rest_1 Pre_1 Post := by
  intro l hfl _ _ p e ha hc hk s m args below hf hA hF happ hP
  obtain ⟨hcalls, hrest, hpre⟩ := hP
  obtain ⟨-, -, -, hnamed, -, -, -, hat⟩ := (Spec.applies_iff hf).mp happ
  obtain ⟨hg, hn⟩ := and_e (Cond.before_iff.mp (show (Jvm.Cond.and given_1 narrow_1).before args s = true from hpre))
  obtain ⟨k1, k2⟩ := and_e hg
  obtain ⟨w0, w1, w2, w3, rfl⟩ : ∃ w0 w1 w2 w3 : Value, args = #[w0, w1, w2, w3] := by
    have hs : args.size = 4 := by simpa [Cond.value, given_1] using k1
    obtain ⟨L⟩ := args
    match L, hs with
    | [w0, w1, w2, w3], _ => exact ⟨w0, w1, w2, w3, rfl⟩
  have hw := fun d (hd : d ∈ tables_1) => atoms_spec (ws := Jvm.Cond.code x code maxLocals ret :: tables_1) hat d (List.mem_cons_of_mem _ hd)
  have hfit : Fit s := fun {y c} hc i hi => by
    obtain ⟨ha, rfl⟩ := Array.getElem?_eq_some_iff.mp hc
    have q := List.all_eq_true.mp ((Array.all_eq_true_iff_forall_mem.mp hF) _ (Array.getElem_mem ha)) i (List.mem_range.mpr hi)
    simpa [Array.getElem?_eq_getElem hi] using q
  obtain ⟨u0, k2⟩ := and_e k2
  obtain ⟨i0, e0⟩ := is_v u0
  obtain rfl : w0 = (.int i0) := Option.some.inj e0
  obtain ⟨u1, k2⟩ := and_e k2
  obtain ⟨i1, e1⟩ := is_v u1
  obtain rfl : w1 = (.int i1) := Option.some.inj e1
  obtain ⟨u2, k2⟩ := and_e k2
  obtain ⟨i2, e2⟩ := is_v u2
  obtain rfl : w2 = (.int i2) := Option.some.inj e2
  have u3 := k2
  obtain ⟨i3, e3⟩ := is_v u3
  obtain rfl : w3 = (.int i3) := Option.some.inj e3
  have hr := Cond.before_iff.mp (show rest_1_c.before _ s = true from hrest)
  obtain ⟨r_0, hr⟩ := and_e hr
  obtain ⟨r_1, hr⟩ := and_e hr
  obtain ⟨r_2, hr⟩ := and_e hr
  obtain ⟨r_3, hr⟩ := and_e hr
  obtain ⟨r_4, hr⟩ := and_e hr
  obtain ⟨r_5, hr⟩ := and_e hr
  obtain ⟨r_6, hr⟩ := and_e hr
  obtain ⟨eL, tL⟩ := exa_v r_2
  have S_L := Sta.start tL (Or.inl (Cond.before_iff.mpr r_1))
  have q6 := eqv_i (Term.int_eval 0) r_6
  have q7 : s.fieldOf? eL "java/util/ImmutableCollections$ListN" "allowNulls" "Z" = some (.int 0) := fld_val tL q6
  have O_L : Ob_Ln s s.heap eL 0 := ⟨Exa.start tL r_2, Fld.start q7⟩
  obtain ⟨n, o, h1, h2, h3, _, L, rfl, ⟨N, rfl⟩, hq⟩ := m_law l s _ hw i0 i1 i2 i3 eL s.heap s.heap.size (Nat.le_refl _) (Old.start s) S_L O_L tables_1 p e ha hc hk s m _ below hf ((Spec.applies_iff_loose hf).mp happ).1 ⟨rfl, State.Warmed39.refl s, rfl⟩ trivial
  refine ⟨n, _, h1, h2, h3, hpost _ _ _ _ _ _ ⟨Cond.after_iff.mpr rfl, Cond.after_iff.mpr (eq_i res_at (Term.int_eval (1)) rfl), trivial⟩ ⟨hq.1, hq.2.1, hq.2.2.1, (hq.2.2.2.sift fun y hy => Or.inr (N y hy)).mono (by decide) (by decide)⟩⟩
theorem main_1_1 : Claimed_1_1 := comes_1 fun _ _ _ _ _ _ h hF => ⟨h.1, hF⟩
theorem main_1_2 : Claimed_1_2 := comes_1 fun _ _ _ _ _ _ h hF => ⟨h.2.1, hF⟩
end Jvm.Pilot.@@N@@
namespace Jvm.Pilot.@@N@@
open Jvm Jvm.ClassFile Sem Op Lib Jvm.Free Jvm.Stand Jvm.Pilot.@@N@@.Jvm.D
/-! MADE BY PROGRAM (witnessworld.py) out of the Statement's table words and the real class files: 34 classes; the members and pool entries that the words name. The judged class is class 1, her method 1. -/
namespace start1
open Jvm.ClassFile
def u (s : String) : CpInfo := .utf8 (stringToUtf16 s)
/-- a pool by its gaps: so many unusable entries, then the entry; so many at the end -/
def gap : Nat → List CpInfo → List CpInfo
  | 0, r => r
  | n + 1, r => .unusable :: gap n r
def poolList (es : List (Nat × CpInfo)) (last : Nat) : List CpInfo := es.foldr (fun e r => gap e.1 (e.2 :: r)) (gap last [])
def pool (es : List (Nat × CpInfo)) (last : Nat) : Array CpInfo := ⟨poolList es last⟩
def fileOf (pool : Array CpInfo) (this : Nat) (attrs : Array Attribute := #[]) (ms : Array MethodInfo := #[]) (fl : Nat := 33) (sup : Nat := 0) (ifs : Array Nat := #[]) (fds : Array FieldInfo := #[]) : ClassFile where
  minorVersion := 0
  majorVersion := 65
  constantPool := pool
  accessFlags := fl
  thisClass := this
  superClass := sup
  interfaces := ifs
  fields := fds
  methods := ms
  attributes := attrs
def plain (name : String) (sup : Option ClassId) : Class where
  name := name
  kind := .ordinary
  loader := none
  accessFlags := 33
  super := sup
  interfaces := #[]
  cf := none
  fields := #[]
  methods := #[]
  instanceTypes := #[]
  staticTypes := #[]
  resolved := #[]
  callSites := []
  init := .initialized
  statics := none
  mirror := none

def pool0 : Array CpInfo := pool [(5, u "<init>"), (0, u "()V"), (1, .class_ 10), (1, u "java/lang/Object")] 113

def k0c0 : Code := { maxStack := 0, maxLocals := 1, code := object_method_1_code, exceptionTable := #[], attributes := #[] }
def k0m0 : Method := { name := "<init>", desc := "()V", sig := { parameters := [], returnType := none }, accessFlags := 1, code := some k0c0 }
/-- java/lang/Object -/
def k0 : Class := { plain "java/lang/Object" none with
  accessFlags := 33
  interfaces := #[]
  cf := some (fileOf pool0 8 #[] #[{ accessFlags := 1, nameIndex := 5, descriptorIndex := 6, attributes := #[] }] 33 0 #[] #[])
  fields := #[]
  methods := #[k0m0]
  instanceTypes := #[]
  staticTypes := #[]
  resolved := Array.replicate 124 none
  statics := none }

def pool1 : Array CpInfo := pool [(2, .class_ 4), (1, u "java/lang/Object"), (0, u "<init>"), (0, u "()V"), (0, .class_ 8), (0, u "com/example/near_miss/nearmiss/search/Window"), (0, .methodref 7 10), (0, .nameAndType 5 11), (0, u "(Z)V"), (0, .methodref 7 13), (0, .nameAndType 14 15), (0, u "explanation"), (0, u "(I)Lcom/example/near_miss/nearmiss/scoring/Explanation;"), (0, .class_ 17), (0, u "com/example/near_miss/nearmiss/scoring/Explanation"), (0, .string 19), (0, u "a"), (0, .methodref 16 21), (0, .nameAndType 5 22), (0, u "(DLjava/lang/String;)V"), (0, .double 4611686018427387904), (1, .string 26), (0, u "b"), (0, .methodref 7 28), (0, .nameAndType 29 30), (0, u "setExplanation"), (0, u "(ILcom/example/near_miss/nearmiss/scoring/Explanation;)V"), (0, .class_ 32), (0, u "com/example/near_miss/nearmiss/search/WindowExplanationPinLaw"), (2, u "law"), (0, u "(IIII)Z")] 3

def k1m0 : Method := { name := "<init>", desc := "()V", sig := { parameters := [], returnType := none }, accessFlags := 1, code := none }
def k1c1 : Code := { maxStack := 5, maxLocals := 17, code := code, exceptionTable := #[], attributes := #[] }
def k1m1 : Method := { name := "law", desc := "(IIII)Z", sig := { parameters := [.int, .int, .int, .int], returnType := some .boolean }, accessFlags := 9, code := some k1c1 }
/-- com/example/near_miss/nearmiss/search/WindowExplanationPinLaw -/
def k1 : Class := { plain "com/example/near_miss/nearmiss/search/WindowExplanationPinLaw" (some 0) with
  accessFlags := 49
  interfaces := #[]
  cf := some (fileOf pool1 31 #[] #[{ accessFlags := 1, nameIndex := 5, descriptorIndex := 6, attributes := #[] }, { accessFlags := 9, nameIndex := 35, descriptorIndex := 36, attributes := #[] }] 49 2 #[] #[])
  fields := #[]
  methods := #[k1m0, k1m1]
  instanceTypes := #[]
  staticTypes := #[]
  resolved := Array.replicate 40 none
  statics := none }

def pool2 : Array CpInfo := pool [(1, .class_ 2), (0, u "com/example/near_miss/nearmiss/search/Window"), (2, .methodref 6 7), (0, .class_ 8), (0, .nameAndType 9 10), (0, u "java/lang/Object"), (0, u "<init>"), (0, u "()V"), (0, .fieldref 1 12), (0, .nameAndType 13 14), (0, u "matched"), (0, u "[J"), (0, .fieldref 1 16), (0, .nameAndType 17 18), (0, u "scores"), (0, u "[D"), (0, .fieldref 1 20), (0, .nameAndType 21 22), (0, u "explains"), (0, u "Z"), (0, .class_ 24), (0, u "com/example/near_miss/nearmiss/scoring/Explanation"), (0, .fieldref 1 26), (0, .nameAndType 27 28), (0, u "explanations"), (0, u "[Lcom/example/near_miss/nearmiss/scoring/Explanation;"), (2, u "base"), (0, u "I"), (2, u "end"), (23, u "(ILcom/example/near_miss/nearmiss/scoring/Explanation;)V"), (2, u "setExplanation"), (9, u "words"), (12, u "child"), (0, u "Lcom/example/near_miss/nearmiss/search/Window;"), (2, u "(Z)V"), (19, u "tallies"), (17, u "SIZE"), (2, u "WORDS"), (24, u "explanation"), (0, u "(I)Lcom/example/near_miss/nearmiss/scoring/Explanation;")] 2

def k2c0 : Code := { maxStack := 2, maxLocals := 2, code := prog_23_method_1_code, exceptionTable := #[], attributes := #[] }
def k2m0 : Method := { name := "<init>", desc := "(Z)V", sig := { parameters := [.boolean], returnType := none }, accessFlags := 0, code := some k2c0 }
def k2c1 : Code := { maxStack := 2, maxLocals := 2, code := prog_23_method_24_code, exceptionTable := #[], attributes := #[] }
def k2m1 : Method := { name := "explanation", desc := "(I)Lcom/example/near_miss/nearmiss/scoring/Explanation;", sig := { parameters := [.int], returnType := some (.object "com/example/near_miss/nearmiss/scoring/Explanation") }, accessFlags := 0, code := some k2c1 }
def k2c2 : Code := { maxStack := 3, maxLocals := 3, code := prog_23_method_25_code, exceptionTable := #[], attributes := #[] }
def k2m2 : Method := { name := "setExplanation", desc := "(ILcom/example/near_miss/nearmiss/scoring/Explanation;)V", sig := { parameters := [.int, (.object "com/example/near_miss/nearmiss/scoring/Explanation")], returnType := none }, accessFlags := 0, code := some k2c2 }
/-- com/example/near_miss/nearmiss/search/Window -/
def k2 : Class := { plain "com/example/near_miss/nearmiss/search/Window" (some 0) with
  accessFlags := 33
  interfaces := #[]
  cf := some (fileOf pool2 1 #[] #[{ accessFlags := 0, nameIndex := 9, descriptorIndex := 89, attributes := #[] }, { accessFlags := 0, nameIndex := 155, descriptorIndex := 156, attributes := #[] }, { accessFlags := 0, nameIndex := 62, descriptorIndex := 59, attributes := #[] }] 33 6 #[] #[{ accessFlags := 25, nameIndex := 127, descriptorIndex := 32, attributes := #[] }, { accessFlags := 26, nameIndex := 130, descriptorIndex := 32, attributes := #[] }, { accessFlags := 18, nameIndex := 21, descriptorIndex := 22, attributes := #[] }, { accessFlags := 18, nameIndex := 13, descriptorIndex := 14, attributes := #[] }, { accessFlags := 18, nameIndex := 17, descriptorIndex := 18, attributes := #[] }, { accessFlags := 2, nameIndex := 109, descriptorIndex := 18, attributes := #[] }, { accessFlags := 18, nameIndex := 27, descriptorIndex := 28, attributes := #[] }, { accessFlags := 2, nameIndex := 31, descriptorIndex := 32, attributes := #[] }, { accessFlags := 2, nameIndex := 35, descriptorIndex := 32, attributes := #[] }, { accessFlags := 2, nameIndex := 72, descriptorIndex := 32, attributes := #[] }, { accessFlags := 2, nameIndex := 85, descriptorIndex := 86, attributes := #[] }])
  fields := #[{ name := "SIZE", type := .int, accessFlags := 25, slot := 0, constantValue := 0 }, { name := "WORDS", type := .int, accessFlags := 26, slot := 1, constantValue := 0 }, { name := "explains", type := .boolean, accessFlags := 18, slot := 0, constantValue := 0 }, { name := "matched", type := (.array .long), accessFlags := 18, slot := 1, constantValue := 0 }, { name := "scores", type := (.array .double), accessFlags := 18, slot := 2, constantValue := 0 }, { name := "tallies", type := (.array .double), accessFlags := 2, slot := 3, constantValue := 0 }, { name := "explanations", type := (.array (.object "com/example/near_miss/nearmiss/scoring/Explanation")), accessFlags := 18, slot := 4, constantValue := 0 }, { name := "base", type := .int, accessFlags := 2, slot := 5, constantValue := 0 }, { name := "end", type := .int, accessFlags := 2, slot := 6, constantValue := 0 }, { name := "words", type := .int, accessFlags := 2, slot := 7, constantValue := 0 }, { name := "child", type := (.object "com/example/near_miss/nearmiss/search/Window"), accessFlags := 2, slot := 8, constantValue := 0 }]
  methods := #[k2m0, k2m1, k2m2]
  instanceTypes := #[.boolean, (.array .long), (.array .double), (.array .double), (.array (.object "com/example/near_miss/nearmiss/scoring/Explanation")), .int, .int, .int, (.object "com/example/near_miss/nearmiss/search/Window")]
  staticTypes := #[.int, .int]
  resolved := Array.replicate 159 none
  statics := none }

def pool3 : Array CpInfo := pool [(1, .methodref 2 3), (0, .class_ 4), (0, .nameAndType 5 6), (0, u "java/lang/Object"), (0, u "<init>"), (0, u "()V"), (0, .class_ 8), (0, u "java/lang/Record")] 13

def k3c0 : Code := { maxStack := 1, maxLocals := 1, code := jdk_30_method_1_code, exceptionTable := #[], attributes := #[] }
def k3m0 : Method := { name := "<init>", desc := "()V", sig := { parameters := [], returnType := none }, accessFlags := 4, code := some k3c0 }
/-- java/lang/Record -/
def k3 : Class := { plain "java/lang/Record" (some 0) with
  accessFlags := 1057
  interfaces := #[]
  cf := some (fileOf pool3 7 #[] #[{ accessFlags := 4, nameIndex := 5, descriptorIndex := 6, attributes := #[] }] 1057 2 #[] #[])
  fields := #[]
  methods := #[k3m0]
  instanceTypes := #[]
  staticTypes := #[]
  resolved := Array.replicate 22 none
  statics := none }

def pool4 : Array CpInfo := pool [(1, .methodref 2 3), (0, .class_ 4), (0, .nameAndType 5 6), (0, u "java/lang/Record"), (0, u "<init>"), (0, u "()V"), (0, .string 8), (0, u "description"), (0, .methodref 10 11), (0, .class_ 12), (0, .nameAndType 13 14), (0, u "java/util/Objects"), (0, u "requireNonNull"), (0, u "(Ljava/lang/Object;Ljava/lang/String;)Ljava/lang/Object;"), (0, .interfaceMethodref 16 17), (0, .class_ 18), (0, .nameAndType 19 20), (0, u "java/util/List"), (0, u "copyOf"), (0, u "(Ljava/util/Collection;)Ljava/util/List;"), (0, .fieldref 22 23), (0, .class_ 24), (0, .nameAndType 25 26), (0, u "com/example/near_miss/nearmiss/scoring/Explanation"), (0, u "value"), (0, u "D"), (0, .fieldref 22 28), (0, .nameAndType 8 29), (0, u "Ljava/lang/String;"), (0, .fieldref 22 31), (0, .nameAndType 32 33), (0, u "details"), (0, u "Ljava/util/List;"), (0, .interfaceMethodref 16 35), (0, .nameAndType 36 37), (0, u "of"), (0, u "()Ljava/util/List;"), (0, .methodref 22 39), (0, .nameAndType 5 40), (0, u "(DLjava/lang/String;Ljava/util/List;)V"), (59, u "(DLjava/lang/String;)V")] 27

def k4c0 : Code := { maxStack := 3, maxLocals := 5, code := prog_16_method_1_code, exceptionTable := #[], attributes := #[] }
def k4m0 : Method := { name := "<init>", desc := "(DLjava/lang/String;Ljava/util/List;)V", sig := { parameters := [.double, (.object "java/lang/String"), (.object "java/util/List")], returnType := none }, accessFlags := 1, code := some k4c0 }
def k4c1 : Code := { maxStack := 5, maxLocals := 4, code := prog_16_method_2_code, exceptionTable := #[], attributes := #[] }
def k4m1 : Method := { name := "<init>", desc := "(DLjava/lang/String;)V", sig := { parameters := [.double, (.object "java/lang/String")], returnType := none }, accessFlags := 1, code := some k4c1 }
/-- com/example/near_miss/nearmiss/scoring/Explanation -/
def k4 : Class := { plain "com/example/near_miss/nearmiss/scoring/Explanation" (some 3) with
  accessFlags := 49
  interfaces := #[]
  cf := some (fileOf pool4 22 #[] #[{ accessFlags := 1, nameIndex := 5, descriptorIndex := 40, attributes := #[] }, { accessFlags := 1, nameIndex := 5, descriptorIndex := 100, attributes := #[] }] 49 2 #[] #[{ accessFlags := 18, nameIndex := 25, descriptorIndex := 26, attributes := #[] }, { accessFlags := 18, nameIndex := 8, descriptorIndex := 29, attributes := #[] }, { accessFlags := 18, nameIndex := 32, descriptorIndex := 33, attributes := #[] }])
  fields := #[{ name := "value", type := .double, accessFlags := 18, slot := 0, constantValue := 0 }, { name := "description", type := (.object "java/lang/String"), accessFlags := 18, slot := 1, constantValue := 0 }, { name := "details", type := (.object "java/util/List"), accessFlags := 18, slot := 2, constantValue := 0 }]
  methods := #[k4m0, k4m1]
  instanceTypes := #[.double, (.object "java/lang/String"), (.object "java/util/List")]
  staticTypes := #[]
  resolved := Array.replicate 128 none
  statics := none }

def pool5 : Array CpInfo := pool [(1, .class_ 2), (0, u "java/io/Serializable"), (0, .class_ 4), (0, u "java/lang/Object")] 2

/-- java/io/Serializable -/
def k5 : Class := { plain "java/io/Serializable" (some 0) with
  accessFlags := 1537
  interfaces := #[]
  cf := some (fileOf pool5 1 #[] #[] 1537 3 #[] #[])
  fields := #[]
  methods := #[]
  instanceTypes := #[]
  staticTypes := #[]
  resolved := Array.replicate 7 none
  statics := none }

def pool6 : Array CpInfo := pool [(1, .class_ 2), (0, u "java/lang/Comparable"), (0, .class_ 4), (0, u "java/lang/Object")] 7

/-- java/lang/Comparable -/
def k6 : Class := { plain "java/lang/Comparable" (some 0) with
  accessFlags := 1537
  interfaces := #[]
  cf := some (fileOf pool6 1 #[] #[] 1537 3 #[] #[])
  fields := #[]
  methods := #[]
  instanceTypes := #[]
  staticTypes := #[]
  resolved := Array.replicate 12 none
  statics := none }

def pool7 : Array CpInfo := pool [(2, .class_ 4), (1, u "java/lang/CharSequence"), (42, .class_ 48), (0, u "java/lang/CharSequence$1CodePointIterator"), (10, .class_ 60), (0, u "java/lang/CharSequence$1CharIterator"), (5, .class_ 67), (0, u "java/lang/Object")] 63

/-- java/lang/CharSequence -/
def k7 : Class := { plain "java/lang/CharSequence" (some 0) with
  accessFlags := 1537
  interfaces := #[]
  cf := some (fileOf pool7 2 #[.nestMembers #[47, 59]] #[] 1537 66 #[] #[])
  fields := #[]
  methods := #[]
  instanceTypes := #[]
  staticTypes := #[]
  resolved := Array.replicate 131 none
  statics := none }

def pool8 : Array CpInfo := pool [(1, .class_ 2), (0, u "java/lang/constant/Constable"), (0, .class_ 4), (0, u "java/lang/Object")] 6

/-- java/lang/constant/Constable -/
def k8 : Class := { plain "java/lang/constant/Constable" (some 0) with
  accessFlags := 1537
  interfaces := #[]
  cf := some (fileOf pool8 1 #[] #[] 1537 3 #[] #[])
  fields := #[]
  methods := #[]
  instanceTypes := #[]
  staticTypes := #[]
  resolved := Array.replicate 11 none
  statics := none }

def pool9 : Array CpInfo := pool [(1, .class_ 2), (0, u "java/lang/constant/ConstantDesc"), (0, .class_ 4), (0, u "java/lang/Object")] 32

/-- java/lang/constant/ConstantDesc -/
def k9 : Class := { plain "java/lang/constant/ConstantDesc" (some 0) with
  accessFlags := 1537
  interfaces := #[]
  cf := some (fileOf pool9 1 #[] #[] 1537 3 #[] #[])
  fields := #[]
  methods := #[]
  instanceTypes := #[]
  staticTypes := #[]
  resolved := Array.replicate 37 none
  statics := none }

def pool10 : Array CpInfo := pool [(2, .class_ 4), (1, u "java/lang/Object"), (0, u "<init>"), (0, u "()V"), (3, .class_ 12), (1, u "java/lang/String"), (0, u "value"), (0, u "[B"), (2, u "coder"), (0, u "B"), (2, u "hash"), (0, u "I"), (2, u "hashIsZero"), (0, u "Z"), (13, u "COMPACT_STRINGS"), (534, .class_ 576), (0, u "java/lang/CharSequence"), (22, u "CASE_INSENSITIVE_ORDER"), (0, u "Ljava/util/Comparator;"), (500, u "serialPersistentFields"), (0, u "[Ljava/io/ObjectStreamField;"), (0, .class_ 1104), (0, u "java/lang/String$CaseInsensitiveComparator"), (1, .class_ 1107), (0, u "java/io/Serializable"), (0, .class_ 1109), (0, u "java/lang/Comparable"), (0, .class_ 1111), (0, u "java/lang/constant/Constable"), (0, .class_ 1113), (0, u "java/lang/constant/ConstantDesc"), (2, u "serialVersionUID"), (0, u "J"), (3, u "REPL"), (0, u "C"), (2, u "LATIN1"), (1, u "UTF16")] 323

def k10m0 : Method := { name := "<init>", desc := "()V", sig := { parameters := [], returnType := none }, accessFlags := 1, code := none }
/-- java/lang/String -/
def k10 : Class := { plain "java/lang/String" (some 0) with
  accessFlags := 49
  interfaces := #[5, 6, 7, 8, 9]
  cf := some (fileOf pool10 10 #[.nestMembers #[1103]] #[{ accessFlags := 1, nameIndex := 5, descriptorIndex := 6, attributes := #[] }] 49 2 #[1106, 1108, 575, 1110, 1112] #[{ accessFlags := 18, nameIndex := 13, descriptorIndex := 14, attributes := #[] }, { accessFlags := 18, nameIndex := 17, descriptorIndex := 18, attributes := #[] }, { accessFlags := 2, nameIndex := 21, descriptorIndex := 22, attributes := #[] }, { accessFlags := 2, nameIndex := 25, descriptorIndex := 26, attributes := #[] }, { accessFlags := 26, nameIndex := 1116, descriptorIndex := 1117, attributes := #[] }, { accessFlags := 24, nameIndex := 40, descriptorIndex := 26, attributes := #[] }, { accessFlags := 26, nameIndex := 1101, descriptorIndex := 1102, attributes := #[] }, { accessFlags := 26, nameIndex := 1121, descriptorIndex := 1122, attributes := #[] }, { accessFlags := 25, nameIndex := 599, descriptorIndex := 600, attributes := #[] }, { accessFlags := 24, nameIndex := 1125, descriptorIndex := 18, attributes := #[] }, { accessFlags := 24, nameIndex := 1127, descriptorIndex := 18, attributes := #[] }])
  fields := #[{ name := "value", type := (.array .byte), accessFlags := 18, slot := 0, constantValue := 0 }, { name := "coder", type := .byte, accessFlags := 18, slot := 1, constantValue := 0 }, { name := "hash", type := .int, accessFlags := 2, slot := 2, constantValue := 0 }, { name := "hashIsZero", type := .boolean, accessFlags := 2, slot := 3, constantValue := 0 }, { name := "serialVersionUID", type := .long, accessFlags := 26, slot := 0, constantValue := 0 }, { name := "COMPACT_STRINGS", type := .boolean, accessFlags := 24, slot := 1, constantValue := 0 }, { name := "serialPersistentFields", type := (.array (.object "java/io/ObjectStreamField")), accessFlags := 26, slot := 2, constantValue := 0 }, { name := "REPL", type := .char, accessFlags := 26, slot := 3, constantValue := 0 }, { name := "CASE_INSENSITIVE_ORDER", type := (.object "java/util/Comparator"), accessFlags := 25, slot := 4, constantValue := 0 }, { name := "LATIN1", type := .byte, accessFlags := 24, slot := 5, constantValue := 0 }, { name := "UTF16", type := .byte, accessFlags := 24, slot := 6, constantValue := 0 }]
  methods := #[k10m0]
  instanceTypes := #[(.array .byte), .byte, .int, .boolean]
  staticTypes := #[.long, .boolean, (.array (.object "java/io/ObjectStreamField")), .char, (.object "java/util/Comparator"), .byte, .byte]
  resolved := Array.replicate 1451 none
  statics := none }

def pool11 : Array CpInfo := pool [(8, .class_ 10), (1, u "java/lang/Iterable"), (24, .class_ 36), (0, u "java/lang/Object")] 25

/-- java/lang/Iterable -/
def k11 : Class := { plain "java/lang/Iterable" (some 0) with
  accessFlags := 1537
  interfaces := #[]
  cf := some (fileOf pool11 8 #[] #[] 1537 35 #[] #[])
  fields := #[]
  methods := #[]
  instanceTypes := #[]
  staticTypes := #[]
  resolved := Array.replicate 62 none
  statics := none }

def pool12 : Array CpInfo := pool [(10, .class_ 12), (1, u "java/util/Collection"), (47, .class_ 61), (0, u "java/lang/Object"), (0, .class_ 63), (0, u "java/lang/Iterable")] 51

/-- java/util/Collection -/
def k12 : Class := { plain "java/util/Collection" (some 0) with
  accessFlags := 1537
  interfaces := #[11]
  cf := some (fileOf pool12 10 #[] #[] 1537 60 #[62] #[])
  fields := #[]
  methods := #[]
  instanceTypes := #[]
  staticTypes := #[]
  resolved := Array.replicate 115 none
  statics := none }

def pool13 : Array CpInfo := pool [(8, .class_ 10), (1, u "java/util/SequencedCollection"), (15, .class_ 27), (0, u "java/lang/Object"), (0, .class_ 29), (0, u "java/util/Collection")] 27

/-- java/util/SequencedCollection -/
def k13 : Class := { plain "java/util/SequencedCollection" (some 0) with
  accessFlags := 1537
  interfaces := #[12]
  cf := some (fileOf pool13 8 #[] #[] 1537 26 #[28] #[])
  fields := #[]
  methods := #[]
  instanceTypes := #[]
  staticTypes := #[]
  resolved := Array.replicate 57 none
  statics := none }

def pool14 : Array CpInfo := pool [(8, .class_ 10), (1, u "java/util/List"), (77, u "of"), (1, .fieldref 91 92), (0, .class_ 93), (0, .nameAndType 94 95), (0, u "java/util/ImmutableCollections"), (0, u "EMPTY_LIST"), (0, u "Ljava/util/ImmutableCollections$ListN;"), (7, .class_ 104), (0, u "java/lang/Object"), (7, .methodref 91 113), (0, .nameAndType 114 115), (0, u "listCopy"), (0, u "(Ljava/util/Collection;)Ljava/util/List;"), (3, u "()Ljava/util/List;"), (0, .class_ 121), (0, u "java/util/SequencedCollection"), (112, u "copyOf")] 16

def k14c0 : Code := { maxStack := 1, maxLocals := 0, code := jdk_40_method_36_code, exceptionTable := #[], attributes := #[] }
def k14m0 : Method := { name := "of", desc := "()Ljava/util/List;", sig := { parameters := [], returnType := some (.object "java/util/List") }, accessFlags := 9, code := some k14c0 }
def k14c1 : Code := { maxStack := 1, maxLocals := 1, code := jdk_40_method_48_code, exceptionTable := #[], attributes := #[] }
def k14m1 : Method := { name := "copyOf", desc := "(Ljava/util/Collection;)Ljava/util/List;", sig := { parameters := [(.object "java/util/Collection")], returnType := some (.object "java/util/List") }, accessFlags := 9, code := some k14c1 }
/-- java/util/List -/
def k14 : Class := { plain "java/util/List" (some 0) with
  accessFlags := 1537
  interfaces := #[13]
  cf := some (fileOf pool14 8 #[] #[{ accessFlags := 9, nameIndex := 88, descriptorIndex := 119, attributes := #[] }, { accessFlags := 9, nameIndex := 234, descriptorIndex := 115, attributes := #[] }] 1537 103 #[120] #[])
  fields := #[]
  methods := #[k14m0, k14m1]
  instanceTypes := #[]
  staticTypes := #[]
  resolved := Array.replicate 251 none
  statics := none }

def pool15 : Array CpInfo := pool [(2, .class_ 4), (1, u "java/lang/Object"), (0, u "<init>"), (0, u "()V"), (3, .class_ 11), (0, u "java/util/ImmutableCollections$List12"), (0, .class_ 13), (0, u "java/util/ImmutableCollections$ListN"), (0, .fieldref 12 15), (0, .nameAndType 16 17), (0, u "allowNulls"), (0, u "Z"), (0, .class_ 19), (0, u "java/util/List"), (27, .class_ 49), (1, u "java/util/ImmutableCollections"), (0, u "$assertionsDisabled"), (5, u "[Ljava/lang/Object;"), (5, u "EMPTY_LIST"), (0, u "Ljava/util/ImmutableCollections$ListN;"), (8, u "EMPTY_LIST_NULLS"), (22, u "SALT32L"), (0, u "J"), (2, u "REVERSE"), (6, u "archivedObjects"), (2, u "EMPTY"), (0, u "Ljava/lang/Object;"), (0, .class_ 112), (0, u "java/util/ImmutableCollections$SetN"), (5, u "EMPTY_SET"), (0, u "Ljava/util/ImmutableCollections$SetN;"), (0, .class_ 121), (0, u "java/util/ImmutableCollections$MapN"), (3, u "EMPTY_MAP"), (0, u "Ljava/util/ImmutableCollections$MapN;"), (4, u "EXPAND_FACTOR"), (0, u "I"), (9, u "listCopy"), (0, u "(Ljava/util/Collection;)Ljava/util/List;"), (25, .class_ 170), (0, u "java/util/ImmutableCollections$MapN$MapNIterator"), (0, .class_ 172), (0, u "java/util/ImmutableCollections$MapN$1"), (0, .class_ 174), (0, u "java/util/ImmutableCollections$Map1"), (0, .class_ 176), (0, u "java/util/ImmutableCollections$AbstractImmutableMap"), (0, .class_ 178), (0, u "java/util/ImmutableCollections$SetN$SetNIterator"), (0, .class_ 180), (0, u "java/util/ImmutableCollections$Set12"), (0, .class_ 182), (0, u "java/util/ImmutableCollections$Set12$1"), (0, .class_ 184), (0, u "java/util/ImmutableCollections$AbstractImmutableSet"), (0, .class_ 186), (0, u "java/util/ImmutableCollections$SubList"), (0, .class_ 188), (0, u "java/util/ImmutableCollections$ListItr"), (0, .class_ 190), (0, u "java/util/ImmutableCollections$AbstractImmutableList"), (0, .class_ 192), (0, u "java/util/ImmutableCollections$AbstractImmutableCollection"), (0, .class_ 194), (0, u "java/util/ImmutableCollections$Access"), (0, .class_ 196), (0, u "java/util/ImmutableCollections$Access$1")] 16

def k15m0 : Method := { name := "<init>", desc := "()V", sig := { parameters := [], returnType := none }, accessFlags := 2, code := none }
def k15c1 : Code := { maxStack := 1, maxLocals := 2, code := jdk_56_method_3_code, exceptionTable := #[], attributes := #[] }
def k15m1 : Method := { name := "listCopy", desc := "(Ljava/util/Collection;)Ljava/util/List;", sig := { parameters := [(.object "java/util/Collection")], returnType := some (.object "java/util/List") }, accessFlags := 8, code := some k15c1 }
/-- java/util/ImmutableCollections -/
def k15 : Class := { plain "java/util/ImmutableCollections" (some 0) with
  accessFlags := 32
  interfaces := #[]
  cf := some (fileOf pool15 47 #[.nestMembers #[120, 169, 171, 173, 175, 111, 177, 179, 181, 183, 12, 10, 185, 187, 189, 191, 193, 195]] #[{ accessFlags := 2, nameIndex := 5, descriptorIndex := 6, attributes := #[] }, { accessFlags := 8, nameIndex := 142, descriptorIndex := 143, attributes := #[] }] 32 2 #[] #[{ accessFlags := 26, nameIndex := 95, descriptorIndex := 96, attributes := #[] }, { accessFlags := 26, nameIndex := 99, descriptorIndex := 17, attributes := #[] }, { accessFlags := 10, nameIndex := 106, descriptorIndex := 56, attributes := #[] }, { accessFlags := 26, nameIndex := 109, descriptorIndex := 110, attributes := #[] }, { accessFlags := 24, nameIndex := 62, descriptorIndex := 63, attributes := #[] }, { accessFlags := 24, nameIndex := 72, descriptorIndex := 63, attributes := #[] }, { accessFlags := 24, nameIndex := 118, descriptorIndex := 119, attributes := #[] }, { accessFlags := 24, nameIndex := 125, descriptorIndex := 126, attributes := #[] }, { accessFlags := 24, nameIndex := 131, descriptorIndex := 132, attributes := #[] }, { accessFlags := 4120, nameIndex := 50, descriptorIndex := 17, attributes := #[] }])
  fields := #[{ name := "SALT32L", type := .long, accessFlags := 26, slot := 0, constantValue := 0 }, { name := "REVERSE", type := .boolean, accessFlags := 26, slot := 1, constantValue := 0 }, { name := "archivedObjects", type := (.array (.object "java/lang/Object")), accessFlags := 10, slot := 2, constantValue := 0 }, { name := "EMPTY", type := (.object "java/lang/Object"), accessFlags := 26, slot := 3, constantValue := 0 }, { name := "EMPTY_LIST", type := (.object "java/util/ImmutableCollections$ListN"), accessFlags := 24, slot := 4, constantValue := 0 }, { name := "EMPTY_LIST_NULLS", type := (.object "java/util/ImmutableCollections$ListN"), accessFlags := 24, slot := 5, constantValue := 0 }, { name := "EMPTY_SET", type := (.object "java/util/ImmutableCollections$SetN"), accessFlags := 24, slot := 6, constantValue := 0 }, { name := "EMPTY_MAP", type := (.object "java/util/ImmutableCollections$MapN"), accessFlags := 24, slot := 7, constantValue := 0 }, { name := "EXPAND_FACTOR", type := .int, accessFlags := 24, slot := 8, constantValue := 0 }, { name := "$assertionsDisabled", type := .boolean, accessFlags := 4120, slot := 9, constantValue := 0 }]
  methods := #[k15m0, k15m1]
  instanceTypes := #[]
  staticTypes := #[.long, .boolean, (.array (.object "java/lang/Object")), (.object "java/lang/Object"), (.object "java/util/ImmutableCollections$ListN"), (.object "java/util/ImmutableCollections$ListN"), (.object "java/util/ImmutableCollections$SetN"), (.object "java/util/ImmutableCollections$MapN"), .int, .boolean]
  resolved := Array.replicate 213 none
  statics := some 0 }

def pool16 : Array CpInfo := pool [(2, .class_ 4), (1, u "java/lang/Object"), (0, u "<init>"), (0, u "()V"), (35, .class_ 44), (1, u "java/util/Objects"), (0, u "requireNonNull"), (48, u "(Ljava/lang/Object;Ljava/lang/String;)Ljava/lang/Object;")] 89

def k16m0 : Method := { name := "<init>", desc := "()V", sig := { parameters := [], returnType := none }, accessFlags := 2, code := none }
def k16c1 : Code := { maxStack := 3, maxLocals := 2, code := jdk_31_method_11_code, exceptionTable := #[], attributes := #[] }
def k16m1 : Method := { name := "requireNonNull", desc := "(Ljava/lang/Object;Ljava/lang/String;)Ljava/lang/Object;", sig := { parameters := [(.object "java/lang/Object"), (.object "java/lang/String")], returnType := some (.object "java/lang/Object") }, accessFlags := 9, code := some k16c1 }
/-- java/util/Objects -/
def k16 : Class := { plain "java/util/Objects" (some 0) with
  accessFlags := 49
  interfaces := #[]
  cf := some (fileOf pool16 42 #[] #[{ accessFlags := 2, nameIndex := 5, descriptorIndex := 6, attributes := #[] }, { accessFlags := 9, nameIndex := 45, descriptorIndex := 94, attributes := #[] }] 49 2 #[] #[])
  fields := #[]
  methods := #[k16m0, k16m1]
  instanceTypes := #[]
  staticTypes := #[]
  resolved := Array.replicate 184 none
  statics := none }

def pool17 : Array CpInfo := pool [(2, .class_ 4), (1, u "java/lang/Object"), (0, u "<init>"), (0, u "()V"), (1, .class_ 10), (1, u "java/util/AbstractCollection"), (66, .class_ 78), (0, u "java/util/Collection")] 81

def k17m0 : Method := { name := "<init>", desc := "()V", sig := { parameters := [], returnType := none }, accessFlags := 4, code := none }
/-- java/util/AbstractCollection -/
def k17 : Class := { plain "java/util/AbstractCollection" (some 0) with
  accessFlags := 1057
  interfaces := #[12]
  cf := some (fileOf pool17 8 #[] #[{ accessFlags := 4, nameIndex := 5, descriptorIndex := 6, attributes := #[] }] 1057 2 #[77] #[])
  fields := #[]
  methods := #[k17m0]
  instanceTypes := #[]
  staticTypes := #[]
  resolved := Array.replicate 160 none
  statics := none }

def pool18 : Array CpInfo := pool [(2, .class_ 4), (1, u "java/util/AbstractCollection"), (0, u "<init>"), (0, u "()V"), (1, .class_ 10), (1, u "java/util/ImmutableCollections"), (2, .class_ 14), (0, u "java/util/ImmutableCollections$AbstractImmutableCollection")] 41

def k18m0 : Method := { name := "<init>", desc := "()V", sig := { parameters := [], returnType := none }, accessFlags := 0, code := none }
/-- java/util/ImmutableCollections$AbstractImmutableCollection -/
def k18 : Class := { plain "java/util/ImmutableCollections$AbstractImmutableCollection" (some 17) with
  accessFlags := 1056
  interfaces := #[]
  cf := some (fileOf pool18 13 #[.nestHost 8] #[{ accessFlags := 0, nameIndex := 5, descriptorIndex := 6, attributes := #[] }] 1056 2 #[] #[])
  fields := #[]
  methods := #[k18m0]
  instanceTypes := #[]
  staticTypes := #[]
  resolved := Array.replicate 56 none
  statics := none }

def pool19 : Array CpInfo := pool [(1, .class_ 2), (0, u "java/util/RandomAccess"), (0, .class_ 4), (0, u "java/lang/Object")] 2

/-- java/util/RandomAccess -/
def k19 : Class := { plain "java/util/RandomAccess" (some 0) with
  accessFlags := 1537
  interfaces := #[]
  cf := some (fileOf pool19 1 #[] #[] 1537 3 #[] #[])
  fields := #[]
  methods := #[]
  instanceTypes := #[]
  staticTypes := #[]
  resolved := Array.replicate 7 none
  statics := none }

def pool20 : Array CpInfo := pool [(2, .class_ 4), (1, u "java/util/ImmutableCollections$AbstractImmutableCollection"), (0, u "<init>"), (0, u "()V"), (1, .class_ 10), (1, u "java/util/ImmutableCollections"), (3, .class_ 16), (1, u "java/util/ImmutableCollections$AbstractImmutableList"), (60, .class_ 78), (0, u "java/util/List"), (45, .class_ 125), (0, u "java/util/RandomAccess")] 70

def k20m0 : Method := { name := "<init>", desc := "()V", sig := { parameters := [], returnType := none }, accessFlags := 0, code := none }
/-- java/util/ImmutableCollections$AbstractImmutableList -/
def k20 : Class := { plain "java/util/ImmutableCollections$AbstractImmutableList" (some 18) with
  accessFlags := 1056
  interfaces := #[14, 19]
  cf := some (fileOf pool20 14 #[.nestHost 8] #[{ accessFlags := 0, nameIndex := 5, descriptorIndex := 6, attributes := #[] }] 1056 2 #[77, 124] #[])
  fields := #[]
  methods := #[k20m0]
  instanceTypes := #[]
  staticTypes := #[]
  resolved := Array.replicate 196 none
  statics := none }

def pool21 : Array CpInfo := pool [(2, .class_ 4), (1, u "java/util/ImmutableCollections$AbstractImmutableList"), (9, .class_ 16), (1, u "java/util/ImmutableCollections$List12"), (0, u "e0"), (0, u "Ljava/lang/Object;"), (1, .class_ 22), (1, u "java/util/ImmutableCollections"), (3, u "e1"), (43, .class_ 71), (0, u "java/io/Serializable")] 53

/-- java/util/ImmutableCollections$List12 -/
def k21 : Class := { plain "java/util/ImmutableCollections$List12" (some 20) with
  accessFlags := 48
  interfaces := #[5]
  cf := some (fileOf pool21 14 #[.nestHost 20] #[] 48 2 #[70] #[{ accessFlags := 18, nameIndex := 17, descriptorIndex := 18, attributes := #[] }, { accessFlags := 18, nameIndex := 26, descriptorIndex := 18, attributes := #[] }])
  fields := #[{ name := "e0", type := (.object "java/lang/Object"), accessFlags := 18, slot := 0, constantValue := 0 }, { name := "e1", type := (.object "java/lang/Object"), accessFlags := 18, slot := 1, constantValue := 0 }]
  methods := #[]
  instanceTypes := #[(.object "java/lang/Object"), (.object "java/lang/Object")]
  staticTypes := #[]
  resolved := Array.replicate 125 none
  statics := none }

def pool22 : Array CpInfo := pool [(2, .class_ 4), (1, u "java/util/ImmutableCollections$AbstractImmutableList"), (3, .class_ 10), (1, u "java/util/ImmutableCollections$ListN"), (0, u "elements"), (0, u "[Ljava/lang/Object;"), (2, u "allowNulls"), (0, u "Z"), (42, .class_ 60), (0, u "java/io/Serializable"), (53, .class_ 115), (0, u "java/util/ImmutableCollections")] 3

/-- java/util/ImmutableCollections$ListN -/
def k22 : Class := { plain "java/util/ImmutableCollections$ListN" (some 20) with
  accessFlags := 48
  interfaces := #[5]
  cf := some (fileOf pool22 8 #[.nestHost 114] #[] 48 2 #[59] #[{ accessFlags := 18, nameIndex := 11, descriptorIndex := 12, attributes := #[] }, { accessFlags := 18, nameIndex := 15, descriptorIndex := 16, attributes := #[] }])
  fields := #[{ name := "elements", type := (.array (.object "java/lang/Object")), accessFlags := 18, slot := 0, constantValue := 0 }, { name := "allowNulls", type := .boolean, accessFlags := 18, slot := 1, constantValue := 0 }]
  methods := #[]
  instanceTypes := #[(.array (.object "java/lang/Object")), .boolean]
  staticTypes := #[]
  resolved := Array.replicate 119 none
  statics := none }

def pool23 : Array CpInfo := pool [(1, u "java/lang/Cloneable"), (0, .class_ 1), (0, u "java/lang/Object"), (0, .class_ 3)] 3

/-- java/lang/Cloneable -/
def k23 : Class := { plain "java/lang/Cloneable" (some 0) with
  accessFlags := 1537
  interfaces := #[]
  cf := some (fileOf pool23 2 #[] #[] 1537 4 #[] #[])
  fields := #[]
  methods := #[]
  instanceTypes := #[]
  staticTypes := #[]
  resolved := Array.replicate 8 none
  statics := none }

/-- the primitive byte -/
def k24 : Class := { plain "byte" none with kind := .primitive 'B', accessFlags := 0x411 }
/-- [B -/
def k25 : Class := { plain "[B" (some 0) with kind := .array 24 .byte, interfaces := #[23, 5], accessFlags := 1041 }

/-- the primitive double -/
def k26 : Class := { plain "double" none with kind := .primitive 'D', accessFlags := 0x411 }
/-- [D -/
def k27 : Class := { plain "[D" (some 0) with kind := .array 26 .double, interfaces := #[23, 5], accessFlags := 1041 }

/-- the primitive int -/
def k28 : Class := { plain "int" none with kind := .primitive 'I', accessFlags := 0x411 }
/-- [I -/
def k29 : Class := { plain "[I" (some 0) with kind := .array 28 .int, interfaces := #[23, 5], accessFlags := 1041 }

/-- the primitive long -/
def k30 : Class := { plain "long" none with kind := .primitive 'J', accessFlags := 0x411 }
/-- [J -/
def k31 : Class := { plain "[J" (some 0) with kind := .array 30 .long, interfaces := #[23, 5], accessFlags := 1041 }

/-- [Lcom/example/near_miss/nearmiss/scoring/Explanation; -/
def k32 : Class := { plain "[Lcom/example/near_miss/nearmiss/scoring/Explanation;" (some 0) with kind := .array 4 (.object "com/example/near_miss/nearmiss/scoring/Explanation"), interfaces := #[23, 5], accessFlags := 1041 }

/-- [Ljava/lang/Object; -/
def k33 : Class := { plain "[Ljava/lang/Object;" (some 0) with kind := .array 0 (.object "java/lang/Object"), interfaces := #[23, 5], accessFlags := 1041 }

def heap : Heap := #[{ cls := 15, slots := #[.long 0, .int 0, .null, .null, .ref 2, .null, .null, .null, .int 0, .int 0], vm := .statics 15 },
  { cls := 33, slots := #[], vm := .none },
  { cls := 22, slots := #[.ref 1, .int 0], vm := .none }]
def classes : Array Class := #[k0, k1, k2, k3, k4, k5, k6, k7, k8, k9, k10, k11, k12, k13, k14, k15, k16, k17, k18, k19, k20, k21, k22, k23, k24, k25, k26, k27, k28, k29, k30, k31, k32, k33]
def interned : List (Array UInt16 × Addr) := []
def slotsUsed : Nat := 12
def theMethod : MethodId := ⟨1, 1⟩
def args0 : Array Value := #[.int 5, .int 6, .int 1, .int 2]
def aboutOver (below : List Frame) : State where
  vm := { classes := classes, interned := interned.toArray }
  heap := heap
  slotsUsed := slotsUsed
  threads := #[{ frames := .invoking theMethod args0 :: below }]
def below0 : List Frame := [.native { method := ⟨0, 0⟩, args := #[] }]
def about1 : State := aboutOver below0
def p0 : Program := .bare "" "" ""
def e0 : Env := launch0.env 0 0 0
theorem w_frames : about1.frames = Frame.invoking theMethod args0 :: below0 := rfl
set_option maxRecDepth 65536 in
theorem w_args : argsFit about1.vm theMethod args0 = true := by decide +kernel
set_option maxRecDepth 65536 in
theorem w_heap : heapFits about1 = true := by decide +kernel
set_option maxRecDepth 65536 in
theorem w_runnable : about1.curStatus? = some .runnable := by decide +kernel
set_option maxRecDepth 65536 in
theorem w_alone : about1.alone = true := by decide +kernel
set_option maxRecDepth 65536 in
theorem w_named : about1.methodNamed? x = some theMethod := by decide +kernel
set_option maxRecDepth 65536 in
theorem w_hears : about1.hears theMethod below0 = true := by decide +kernel
set_option maxRecDepth 65536 in
theorem w_ripe : about1.ripe theMethod args0 below0 = true := by decide +kernel
theorem w_running : about1.status = .running := rfl
set_option maxRecDepth 65536 in
theorem w_room : about1.hasRoom e0.platform room_1 = true :=
  launch0.hasRoom_least _ room_1 (by decide +kernel) (by decide +kernel) (by decide +kernel) (by decide +kernel) (by decide +kernel) (by decide +kernel)
theorem allAtoms_all (ts : List Jvm.Cond) (a : Array Jvm.Value) (st : Jvm.State) : (allAtoms ts).before a st = ts.all (fun c => c.before a st) := by
  induction ts with
  | nil => rfl
  | cons c t ih =>
    show (Jvm.Cond.and c (allAtoms t)).before a st = _
    rw [Jvm.Cond.before_and, ih, List.all_cons]
def words1 : List Jvm.Cond := Jvm.Cond.code x code maxLocals ret :: tables_1
/-- a 'code' word, met by the world's own term for the bytes: nothing is compared byte by byte -/
theorem code_word {y : MethodName} {bytes : ByteArray} {mx : Nat} {rt : Option FieldType} {a : Array Value} {s : State} {m : MethodId} {meth : Method} {c : Code} (h1 : s.methodNamed? y = some m) (h2 : s.vm.method? m = some meth) (h3 : meth.code = some c) (h4 : c.code = bytes)
    (h5 : (c.maxLocals == mx && c.exceptionTable.isEmpty && decide (c.maxStack ≤ mostOperands) && decide (meth.sig.returnType = rt) && !meth.locks && decide (parseMethodDescriptor y.desc = some meth.sig)) = true) : (Jvm.Cond.code y bytes mx rt).before a s = true := by
  simp only [Bool.and_eq_true, beq_iff_eq, Bool.not_eq_true', decide_eq_true_eq] at h5
  obtain ⟨⟨⟨⟨⟨g1, g2⟩, g3⟩, g4⟩, g5⟩, g6⟩ := h5
  simp [Cond.before, Cond.holds, Cond.value, h1, h2, h3, h4, g1, g2, g3, g4, g5, g6]
def isCode : Jvm.Cond → Bool
  | .code _ _ _ _ => true
  | _ => false
theorem all_split {L : List Jvm.Cond} {P : Jvm.Cond → Bool} (h1 : L.all (fun c => isCode c || P c) = true) (h2 : ∀ c ∈ L.filter isCode, P c = true) : L.all P = true := by
  refine List.all_eq_true.mpr fun c hc => ?_
  have h := List.all_eq_true.mp h1 c hc
  rcases Bool.eq_false_or_eq_true (isCode c) with hi | hi
  · exact h2 c (List.mem_filter.mpr ⟨hc, hi⟩)
  · simpa [hi] using h
set_option maxRecDepth 65536 in
theorem w_c0 : (Jvm.Cond.code x code maxLocals ret).before args0 about1 = true := code_word (m := ⟨1, 1⟩) (meth := k1m1) (c := k1c1) (by decide +kernel) rfl rfl rfl (by decide +kernel)
set_option maxRecDepth 65536 in
theorem w_c1 : (Jvm.Cond.code ({ cls := "com/example/near_miss/nearmiss/search/Window", name := "<init>", desc := "(Z)V" } : Jvm.MethodName) prog_23_method_1_code (2 : Nat) (Option.none : Option Jvm.ClassFile.FieldType)).before args0 about1 = true := code_word (m := ⟨2, 0⟩) (meth := k2m0) (c := k2c0) (by decide +kernel) rfl rfl rfl (by decide +kernel)
set_option maxRecDepth 65536 in
theorem w_c2 : (Jvm.Cond.code ({ cls := "java/lang/Object", name := "<init>", desc := "()V" } : Jvm.MethodName) object_method_1_code (1 : Nat) (Option.none : Option Jvm.ClassFile.FieldType)).before args0 about1 = true := code_word (m := ⟨0, 0⟩) (meth := k0m0) (c := k0c0) (by decide +kernel) rfl rfl rfl (by decide +kernel)
set_option maxRecDepth 65536 in
theorem w_c3 : (Jvm.Cond.code ({ cls := "com/example/near_miss/nearmiss/search/Window", name := "explanation", desc := "(I)Lcom/example/near_miss/nearmiss/scoring/Explanation;" } : Jvm.MethodName) prog_23_method_24_code (2 : Nat) (Option.some (Jvm.ClassFile.FieldType.object "com/example/near_miss/nearmiss/scoring/Explanation"))).before args0 about1 = true := code_word (m := ⟨2, 1⟩) (meth := k2m1) (c := k2c1) (by decide +kernel) rfl rfl rfl (by decide +kernel)
set_option maxRecDepth 65536 in
theorem w_c4 : (Jvm.Cond.code ({ cls := "com/example/near_miss/nearmiss/scoring/Explanation", name := "<init>", desc := "(DLjava/lang/String;)V" } : Jvm.MethodName) prog_16_method_2_code (4 : Nat) (Option.none : Option Jvm.ClassFile.FieldType)).before args0 about1 = true := code_word (m := ⟨4, 1⟩) (meth := k4m1) (c := k4c1) (by decide +kernel) rfl rfl rfl (by decide +kernel)
set_option maxRecDepth 65536 in
theorem w_c5 : (Jvm.Cond.code ({ cls := "java/util/List", name := "of", desc := "()Ljava/util/List;" } : Jvm.MethodName) jdk_40_method_36_code (0 : Nat) (Option.some (Jvm.ClassFile.FieldType.object "java/util/List"))).before args0 about1 = true := code_word (m := ⟨14, 0⟩) (meth := k14m0) (c := k14c0) (by decide +kernel) rfl rfl rfl (by decide +kernel)
set_option maxRecDepth 65536 in
theorem w_c6 : (Jvm.Cond.code ({ cls := "com/example/near_miss/nearmiss/scoring/Explanation", name := "<init>", desc := "(DLjava/lang/String;Ljava/util/List;)V" } : Jvm.MethodName) prog_16_method_1_code (5 : Nat) (Option.none : Option Jvm.ClassFile.FieldType)).before args0 about1 = true := code_word (m := ⟨4, 0⟩) (meth := k4m0) (c := k4c0) (by decide +kernel) rfl rfl rfl (by decide +kernel)
set_option maxRecDepth 65536 in
theorem w_c7 : (Jvm.Cond.code ({ cls := "java/lang/Record", name := "<init>", desc := "()V" } : Jvm.MethodName) jdk_30_method_1_code (1 : Nat) (Option.none : Option Jvm.ClassFile.FieldType)).before args0 about1 = true := code_word (m := ⟨3, 0⟩) (meth := k3m0) (c := k3c0) (by decide +kernel) rfl rfl rfl (by decide +kernel)
set_option maxRecDepth 65536 in
theorem w_c8 : (Jvm.Cond.code ({ cls := "java/util/Objects", name := "requireNonNull", desc := "(Ljava/lang/Object;Ljava/lang/String;)Ljava/lang/Object;" } : Jvm.MethodName) jdk_31_method_11_code (2 : Nat) (Option.some (Jvm.ClassFile.FieldType.object "java/lang/Object"))).before args0 about1 = true := code_word (m := ⟨16, 1⟩) (meth := k16m1) (c := k16c1) (by decide +kernel) rfl rfl rfl (by decide +kernel)
set_option maxRecDepth 65536 in
theorem w_c9 : (Jvm.Cond.code ({ cls := "java/util/List", name := "copyOf", desc := "(Ljava/util/Collection;)Ljava/util/List;" } : Jvm.MethodName) jdk_40_method_48_code (1 : Nat) (Option.some (Jvm.ClassFile.FieldType.object "java/util/List"))).before args0 about1 = true := code_word (m := ⟨14, 1⟩) (meth := k14m1) (c := k14c1) (by decide +kernel) rfl rfl rfl (by decide +kernel)
set_option maxRecDepth 65536 in
theorem w_c10 : (Jvm.Cond.code ({ cls := "java/util/ImmutableCollections", name := "listCopy", desc := "(Ljava/util/Collection;)Ljava/util/List;" } : Jvm.MethodName) jdk_56_method_3_code (2 : Nat) (Option.some (Jvm.ClassFile.FieldType.object "java/util/List"))).before args0 about1 = true := code_word (m := ⟨15, 1⟩) (meth := k15m1) (c := k15c1) (by decide +kernel) rfl rfl rfl (by decide +kernel)
set_option maxRecDepth 65536 in
theorem w_c11 : (Jvm.Cond.code ({ cls := "com/example/near_miss/nearmiss/search/Window", name := "setExplanation", desc := "(ILcom/example/near_miss/nearmiss/scoring/Explanation;)V" } : Jvm.MethodName) prog_23_method_25_code (3 : Nat) (Option.none : Option Jvm.ClassFile.FieldType)).before args0 about1 = true := code_word (m := ⟨2, 2⟩) (meth := k2m2) (c := k2c2) (by decide +kernel) rfl rfl rfl (by decide +kernel)
def codes1 : List Jvm.Cond := [Jvm.Cond.code x code maxLocals ret, Jvm.Cond.code ({ cls := "com/example/near_miss/nearmiss/search/Window", name := "<init>", desc := "(Z)V" } : Jvm.MethodName) prog_23_method_1_code (2 : Nat) (Option.none : Option Jvm.ClassFile.FieldType), Jvm.Cond.code ({ cls := "java/lang/Object", name := "<init>", desc := "()V" } : Jvm.MethodName) object_method_1_code (1 : Nat) (Option.none : Option Jvm.ClassFile.FieldType), Jvm.Cond.code ({ cls := "com/example/near_miss/nearmiss/search/Window", name := "explanation", desc := "(I)Lcom/example/near_miss/nearmiss/scoring/Explanation;" } : Jvm.MethodName) prog_23_method_24_code (2 : Nat) (Option.some (Jvm.ClassFile.FieldType.object "com/example/near_miss/nearmiss/scoring/Explanation")), Jvm.Cond.code ({ cls := "com/example/near_miss/nearmiss/scoring/Explanation", name := "<init>", desc := "(DLjava/lang/String;)V" } : Jvm.MethodName) prog_16_method_2_code (4 : Nat) (Option.none : Option Jvm.ClassFile.FieldType), Jvm.Cond.code ({ cls := "java/util/List", name := "of", desc := "()Ljava/util/List;" } : Jvm.MethodName) jdk_40_method_36_code (0 : Nat) (Option.some (Jvm.ClassFile.FieldType.object "java/util/List")), Jvm.Cond.code ({ cls := "com/example/near_miss/nearmiss/scoring/Explanation", name := "<init>", desc := "(DLjava/lang/String;Ljava/util/List;)V" } : Jvm.MethodName) prog_16_method_1_code (5 : Nat) (Option.none : Option Jvm.ClassFile.FieldType), Jvm.Cond.code ({ cls := "java/lang/Record", name := "<init>", desc := "()V" } : Jvm.MethodName) jdk_30_method_1_code (1 : Nat) (Option.none : Option Jvm.ClassFile.FieldType), Jvm.Cond.code ({ cls := "java/util/Objects", name := "requireNonNull", desc := "(Ljava/lang/Object;Ljava/lang/String;)Ljava/lang/Object;" } : Jvm.MethodName) jdk_31_method_11_code (2 : Nat) (Option.some (Jvm.ClassFile.FieldType.object "java/lang/Object")), Jvm.Cond.code ({ cls := "java/util/List", name := "copyOf", desc := "(Ljava/util/Collection;)Ljava/util/List;" } : Jvm.MethodName) jdk_40_method_48_code (1 : Nat) (Option.some (Jvm.ClassFile.FieldType.object "java/util/List")), Jvm.Cond.code ({ cls := "java/util/ImmutableCollections", name := "listCopy", desc := "(Ljava/util/Collection;)Ljava/util/List;" } : Jvm.MethodName) jdk_56_method_3_code (2 : Nat) (Option.some (Jvm.ClassFile.FieldType.object "java/util/List")), Jvm.Cond.code ({ cls := "com/example/near_miss/nearmiss/search/Window", name := "setExplanation", desc := "(ILcom/example/near_miss/nearmiss/scoring/Explanation;)V" } : Jvm.MethodName) prog_23_method_25_code (3 : Nat) (Option.none : Option Jvm.ClassFile.FieldType)]
set_option maxRecDepth 65536 in
theorem codes_eq : words1.filter isCode = codes1 := rfl
theorem w_codes : ∀ c ∈ words1.filter isCode, c.before args0 about1 = true := by
  rw [codes_eq]
  intro c hc
  simp only [codes1, List.mem_cons, List.not_mem_nil, or_false] at hc
  rcases hc with rfl | rfl | rfl | rfl | rfl | rfl | rfl | rfl | rfl | rfl | rfl | rfl
  · exact w_c0
  · exact w_c1
  · exact w_c2
  · exact w_c3
  · exact w_c4
  · exact w_c5
  · exact w_c6
  · exact w_c7
  · exact w_c8
  · exact w_c9
  · exact w_c10
  · exact w_c11
set_option maxRecDepth 65536 in
theorem w_t1 : (words1.take 24).all (fun c => isCode c || c.before args0 about1) = true := by decide +kernel
set_option maxRecDepth 65536 in
theorem w_t2 : ((words1.drop 24).take 24).all (fun c => isCode c || c.before args0 about1) = true := by decide +kernel
set_option maxRecDepth 65536 in
theorem w_t3 : (((words1.drop 24).drop 24).take 24).all (fun c => isCode c || c.before args0 about1) = true := by decide +kernel
set_option maxRecDepth 65536 in
theorem w_t4 : (((words1.drop 24).drop 24).drop 24).all (fun c => isCode c || c.before args0 about1) = true := by decide +kernel
theorem w_tables : (allAtoms (Jvm.Cond.code x code maxLocals ret :: tables_1)).before args0 about1 = true := by
  rw [allAtoms_all]
  show words1.all (fun c => c.before args0 about1) = true
  refine all_split ?_ w_codes
  rw [← List.take_append_drop 24 words1, List.all_append, w_t1, ← List.take_append_drop 24 (words1.drop 24), List.all_append, w_t2, ← List.take_append_drop 24 ((words1.drop 24).drop 24), List.all_append, w_t3, w_t4]
  rfl
set_option maxRecDepth 65536 in
theorem w_rest : rest_1_c.before args0 about1 = true := by decide +kernel
set_option maxRecDepth 65536 in
theorem w_case : (Jvm.Cond.and given_1 narrow_1).before args0 about1 = true := by decide +kernel
theorem w_applies : (headSpec (Jvm.Cond.code x code maxLocals ret :: tables_1) room_1).applies x e0.platform about1 = true :=
  (Spec.applies_iff w_frames).mpr ⟨w_running, w_runnable, w_alone, w_named, w_hears, w_ripe, w_room, w_tables⟩
theorem atStart : AtStart classFile x code maxLocals ret World_1 tables_1 room_1 Calls_1 rest_1 Pre_1 launch0 p0 e0 about1 theMethod args0 below0 :=
  ⟨lists_1, trivial, launch0.admits_env _ _ _, launch0.least_env, fairChoices_fair.cas, fairChoices_fair.clock, w_frames, w_args, w_heap, w_applies, trivial, w_rest, w_case⟩
end start1
theorem witness_1 : WitnessClaimed_1 := ⟨start1.p0, start1.e0, start1.about1, start1.theMethod, start1.args0, start1.below0, start1.atStart⟩
end Jvm.Pilot.@@N@@
