import JvmDerived
import JvmDerived.Pilot.@@N@@Statement
import JvmDerived.Pilot.@@N@@Code
set_option linter.unusedVariables false
set_option linter.unusedSimpArgs false
namespace Jvm.Own
open Jvm Jvm.ClassFile Sem Op Lib Jvm.Free Jvm.Stand Jvm.LawKit Jvm.RoadKit
def b2i (b : Bool) : Int32 := if b then 1 else 0
theorem wd {ws : List Jvm.Cond} {a0 : Array Value} {Z : State} (hw : ∀ d ∈ ws, d.before a0 Z = true) (i : Nat) {d : Jvm.Cond} (h : ws[i]? = some d) : d.before a0 Z = true := hw d (List.mem_of_getElem? h)
/-- a contract of a body: from the heap h with these arguments it returns, writes nothing below n0, and Q holds of what it returns and of the heap -/
def Met (l : Launch) (Z : State) (y : MethodName) (bytes : ByteArray) (maxL : Nat) (ret : Option FieldType) (rm : Room) (as' : Array Value) (h : Heap) (n0 : Nat) (J : Vm → Prop) (Q : Option Value → Heap → Vm → Prop) : Prop :=
  ∀ ws, MetFree l y (head1 (Jvm.Cond.code y bytes maxL ret :: ws) rm) (fun a U => a = as' ∧ Z.Warmed39 U.vm ∧ U.heap = h ∧ J U.vm) (fun _ _ _ _ _ => True) (fun _ U o U' => ∃ v L, o = .returned v ∧ (Fr n0 L ∧ Q v U'.heap U'.vm) ∧ ReturnedEndW U o U' L rm.cells rm.slots)
def Cx (p : Program) (s : State) (m : MethodId) (meth : Method) (c : Code) (Z : State) (y : MethodName) (bytes : ByteArray) (maxL : Nat) (ret : Option FieldType) (hB : Heap) : Prop :=
  p.tables.exec = Jvm.exec ∧ Z.Warmed39 s.vm ∧ s.vm.findClass y.cls = some m.cls ∧ meth.name = y.name ∧ c.code = bytes ∧ c.maxLocals = maxL ∧ meth.sig.returnType = ret ∧ meth.locks = false ∧ s.heap = hB
def Ende (R : Room) (s : State) (below : List Frame) (n0 : Nat) (Q : Option Value → Heap → Vm → Prop) (h : Heap) (t : State) (o : Outcome) : Prop := t.status = .running ∧ Ended t below o ∧ ∃ v L, o = .returned v ∧ (Fr n0 L ∧ Q v t.heap t.vm) ∧ ReturnedEndW s o t L R.cells R.slots ∧ h.size ≤ t.heap.size
theorem Ende.up {R : Room} {s : State} {below : List Frame} {n0 : Nat} {Q : Option Value → Heap → Vm → Prop} {h h' : Heap} {t : State} {o : Outcome} (g : h.size ≤ h'.size) (F : Ende R s below n0 Q h' t o) : Ende R s below n0 Q h t o := by
  obtain ⟨r1, r2, v, L, r3, r4, r5, r6⟩ := F
  exact ⟨r1, r2, v, L, r3, r4, r5, Nat.le_trans g r6⟩
theorem Ende.back {R : Room} {s : State} {below : List Frame} {n0 : Nat} {Q : Option Value → Heap → Vm → Prop} {h h' : Heap} {t : State} {o : Outcome} {vm' : Vm} {k : Nat} (hS : s.Since vm' k) (hk : k ≤ h'.size) (g : h.size ≤ h'.size) (F : Ende R (s.setVm vm') below n0 Q h' t o) : Ende R s below n0 Q h t o := by
  obtain ⟨r1, r2, v, L, r3, r4, ⟨e1, e2, e3, e4⟩, r6⟩ := F
  have q : s.Since t.vm t.heap.size := hS.trans ⟨e2, e3⟩ (Nat.le_trans hk r6)
  exact ⟨r1, r2, v, L, r3, r4, ⟨e1, q.1, q.2, e4.setVm s.vm⟩, Nat.le_trans g r6⟩
def Go (p : Program) (l : Launch) (e : Env) (R : Room) (s : State) (m : MethodId) (args : Array Value) (below : List Frame) (meth : Method) (c : Code) (n0 : Nat) (Q : Option Value → Heap → Vm → Prop) (cells slots : Nat) (h : Heap) (f : JFrame) : Prop :=
  ∀ T locs, Stand p l e R s m args below meth c T locs cells slots → Fr n0 locs → T.heap = h → ∃ t o, Steps p.tables e below (T.setTop f) t ∧ Ende R s below n0 Q h t o
section
variable {p : Program} {l : Launch} {e : Env} {R : Room} {s : State} {m : MethodId} {args : Array Value} {below : List Frame} {meth : Method} {c : Code} {Z : State} {y : MethodName} {bytes : ByteArray} {maxL : Nat} {ret : Option FieldType} {n0 : Nat} {Q : Option Value → Heap → Vm → Prop} {cells slots : Nat} {h : Heap} {pc n n' : Nat} {Ls : Array Slot} {st : List Value} {a0 : Array Value} {hB : Heap} {J : Vm → Prop}
theorem Cx.x (C : Cx p s m meth c Z y bytes maxL ret hB) : p.tables.exec = Jvm.exec := C.1
theorem Cx.z (C : Cx p s m meth c Z y bytes maxL ret hB) : Z.Warmed39 s.vm := C.2.1
theorem Cx.own (C : Cx p s m meth c Z y bytes maxL ret hB) : s.vm.findClass y.cls = some m.cls := C.2.2.1
theorem Cx.nm (C : Cx p s m meth c Z y bytes maxL ret hB) : meth.name = y.name := C.2.2.2.1
theorem Cx.by (C : Cx p s m meth c Z y bytes maxL ret hB) : c.code = bytes := C.2.2.2.2.1
theorem Cx.ml (C : Cx p s m meth c Z y bytes maxL ret hB) : c.maxLocals = maxL := C.2.2.2.2.2.1
theorem Cx.rt (C : Cx p s m meth c Z y bytes maxL ret hB) : meth.sig.returnType = ret := C.2.2.2.2.2.2.1
theorem Cx.locks (C : Cx p s m meth c Z y bytes maxL ret hB) : meth.locks = false := C.2.2.2.2.2.2.2.1
theorem Cx.hp (C : Cx p s m meth c Z y bytes maxL ret hB) : s.heap = hB := C.2.2.2.2.2.2.2.2
theorem Cx.move {vm' : Vm} (C : Cx p s m meth c Z y bytes maxL ret hB) (hW : s.Warmed39 vm') : Cx p (s.setVm vm') m meth c Z y bytes maxL ret hB :=
  ⟨C.1, State.Warmed39.trans (t := s) C.z hW, by show vm'.findClass y.cls = _; rw [hW.alike.findClass]; exact C.own, C.2.2.2⟩
theorem Met.of {rm : Room} {as' : Array Value} {Ls0 : Array Slot} (hp : plainFor y = true) (he : ∀ m, entryFrame m as' maxL = mkF m 0 Ls0 [])
    (body : ∀ p e s m args below meth c, Cx p s m meth c Z y bytes maxL ret h → J s.vm → Go p l e rm s m args below meth c n0 Q 0 0 h (mkF m 0 Ls0 [])) : Met l Z y bytes maxL ret rm as' h n0 J Q := by
  intro ws
  refine MetFree.of_bodySF hp hisR ?_
  intro p e s m args below meth c s₁ Bd hml0 hP hK
  obtain ⟨rfl, hZ, hh, hJ⟩ := hP
  have C : Cx p s m meth c Z y bytes maxL ret h := ⟨Bd.exec, hZ, findClass_of_methodNamed Bd.named, (name_of_methodNamed Bd.named Bd.method).1, Bd.bytes, hml0, Bd.returns, Bd.notSynchronized, hh⟩
  have X0 : Stand p l e rm s m args below meth c s₁ [] 0 0 := Stand.of_body Bd
  have e0 : s₁.heap = h := by rw [← hh, Bd.state]; rfl
  obtain ⟨t, o, st, r1, r2, v, L, r3, r4, r5, -⟩ := body p e s m args below meth c C hJ s₁ [] X0 (Fr.nil n0) e0
  exact ⟨t, o, castTop (he m) st, r1, r2, v, L, r3, r4, r5⟩
theorem Go.via {f f' : JFrame} (hs : ∀ T locs, Stand p l e R s m args below meth c T locs cells slots → T.heap = h → ∀ t, Steps p.tables e below (T.setTop f') t → Steps p.tables e below (T.setTop f) t)
    (k : Go p l e R s m args below meth c n0 Q cells slots h f') : Go p l e R s m args below meth c n0 Q cells slots h f := fun T locs X N q => by
  obtain ⟨t, o, st, r⟩ := k T locs X N q
  exact ⟨t, o, hs T locs X q t st, r⟩
theorem Go.mono {f : JFrame} {cells' slots' : Nat} (h1 : cells ≤ cells') (h2 : slots ≤ slots') (k : Go p l e R s m args below meth c n0 Q cells' slots' h f) : Go p l e R s m args below meth c n0 Q cells slots h f := fun T locs X N q =>
  k T locs ⟨X.admits, X.cas, X.clock, X.frames, X.room, X.hears, X.method, X.code, X.here, X.tail, X.warmed, X.limits, X.bytes, X.same.mono h1 h2⟩ N q
theorem Go.cast {f f' : JFrame} (q : f = f') (k : Go p l e R s m args below meth c n0 Q cells slots h f') : Go p l e R s m args below meth c n0 Q cells slots h f := q ▸ k

theorem backOfSJ {y : MethodName} {bytes : ByteArray} {maxL : Nat} {ret : Option FieldType} {rm : Room} {len W : Nat} {as' : Array Value} {Jc : Vm → Prop} {Qc : Option Value → Heap → Vm → List Loc → Prop}
    (hM : MetFree l y (head1 [Jvm.Cond.code y bytes maxL ret] rm) (fun a U => a = as' ∧ Z.Warmed39 U.vm ∧ U.heap = h ∧ Jc U.vm) (fun _ _ _ _ _ => True) (fun _ U o U' => ∃ v L, o = .returned v ∧ Qc v U'.heap U'.vm L ∧ ReturnedEndW U o U' L rm.cells rm.slots))
    (hZ : Z.Warmed39 s.vm) (hJ : ∀ vm', s.WarmedH vm' → Jc vm') (wc : (Jvm.Cond.code y bytes maxL ret).before a0 Z = true) (wz : (Jvm.Cond.initialized y.cls).before a0 Z = true) (hf : rm.frames + 1 ≤ R.frames) (hl : W + (maxL + 11) + rm.locals ≤ R.locals) :
    BackS l R p e below s args y len W (fun A a => a = as' ∧ A.U.heap = h ∧ A.cells + rm.cells ≤ R.cells ∧ A.slots + rm.slots ≤ R.slots)
      (fun A _ v B => ∃ L, Qc v B.U.heap B.U.vm L ∧ B.locs = A.locs ++ L ∧ B.cells = A.cells + rm.cells ∧ B.slots = A.slots + rm.slots) :=
  BackS.of_freeW (bytes := bytes) (maxL := maxL) (ret := ret) (E := fun _ _ o t L k n => k = rm.cells ∧ n = rm.slots ∧ ∃ v, o = .returned v ∧ Qc v t.heap t.vm L) hM hf hl
    (fun m meth c A a Y hp => ⟨by show (Jvm.Cond.and _ .tt).before a A.U = true; rw [Cond.before_and, mv (wtrans hZ Y.warmed) wc]; rfl, mv (wtrans hZ Y.warmed) wc, mv (wtrans hZ Y.warmed) wz, hp.2.2.1, hp.2.2.2⟩)
    (fun m meth c A a g mk Y hp => ⟨hp.1, wtrans hZ Y.warmed, hp.2.1, hJ _ Y.warmed⟩) (fun _ _ _ _ _ _ _ _ _ => trivial)
    (fun _ _ _ _ ⟨v, L, h1, h2, h3⟩ => ⟨L, _, _, h3, rfl, rfl, v, h1, h2⟩)
    (fun m meth c A a g mk v t L k n Y hp _ _ ⟨e1, e2, v', e3, e4⟩ => by cases e3; subst e1 e2; exact ⟨L, e4, rfl, rfl, rfl⟩)
theorem G.iadd (C : Cx p s m meth c Z y bytes maxL ret hB) {x1 x2 : Int32} (hd : decode bytes pc = .ok (.iadd, 1))  (hn : pc + 1 = n) (k : Go p l e R s m args below meth c n0 Q cells slots h (mkF m n Ls (.int (x1 + x2) :: st))) : Go p l e R s m args below meth c n0 Q cells slots h (mkF m pc Ls (.int x2 :: .int x1 :: st)) := by
  subst hn
  exact Go.via (fun T locs X _ t q => XS.iadd X.here C.x rfl (hb C.by hd) rfl q) k
theorem G.isub (C : Cx p s m meth c Z y bytes maxL ret hB) {x1 x2 : Int32} (hd : decode bytes pc = .ok (.isub, 1))  (hn : pc + 1 = n) (k : Go p l e R s m args below meth c n0 Q cells slots h (mkF m n Ls (.int (x1 - x2) :: st))) : Go p l e R s m args below meth c n0 Q cells slots h (mkF m pc Ls (.int x2 :: .int x1 :: st)) := by
  subst hn
  exact Go.via (fun T locs X _ t q => XS.isub X.here C.x rfl (hb C.by hd) rfl q) k
theorem G.imul (C : Cx p s m meth c Z y bytes maxL ret hB) {x1 x2 : Int32} (hd : decode bytes pc = .ok (.imul, 1))  (hn : pc + 1 = n) (k : Go p l e R s m args below meth c n0 Q cells slots h (mkF m n Ls (.int (x1 * x2) :: st))) : Go p l e R s m args below meth c n0 Q cells slots h (mkF m pc Ls (.int x2 :: .int x1 :: st)) := by
  subst hn
  exact Go.via (fun T locs X _ t q => XS.imul X.here C.x rfl (hb C.by hd) rfl q) k
theorem G.iand (C : Cx p s m meth c Z y bytes maxL ret hB) {x1 x2 : Int32} (hd : decode bytes pc = .ok (.iand, 1))  (hn : pc + 1 = n) (k : Go p l e R s m args below meth c n0 Q cells slots h (mkF m n Ls (.int (x1 &&& x2) :: st))) : Go p l e R s m args below meth c n0 Q cells slots h (mkF m pc Ls (.int x2 :: .int x1 :: st)) := by
  subst hn
  exact Go.via (fun T locs X _ t q => XS.iand X.here C.x rfl (hb C.by hd) rfl q) k
theorem G.ior (C : Cx p s m meth c Z y bytes maxL ret hB) {x1 x2 : Int32} (hd : decode bytes pc = .ok (.ior, 1))  (hn : pc + 1 = n) (k : Go p l e R s m args below meth c n0 Q cells slots h (mkF m n Ls (.int (x1 ||| x2) :: st))) : Go p l e R s m args below meth c n0 Q cells slots h (mkF m pc Ls (.int x2 :: .int x1 :: st)) := by
  subst hn
  exact Go.via (fun T locs X _ t q => XS.ior X.here C.x rfl (hb C.by hd) rfl q) k
theorem G.ixor (C : Cx p s m meth c Z y bytes maxL ret hB) {x1 x2 : Int32} (hd : decode bytes pc = .ok (.ixor, 1))  (hn : pc + 1 = n) (k : Go p l e R s m args below meth c n0 Q cells slots h (mkF m n Ls (.int (x1 ^^^ x2) :: st))) : Go p l e R s m args below meth c n0 Q cells slots h (mkF m pc Ls (.int x2 :: .int x1 :: st)) := by
  subst hn
  exact Go.via (fun T locs X _ t q => XS.ixor X.here C.x rfl (hb C.by hd) rfl q) k
theorem G.ladd (C : Cx p s m meth c Z y bytes maxL ret hB) {x1 x2 : Int64} (hd : decode bytes pc = .ok (.ladd, 1))  (hn : pc + 1 = n) (k : Go p l e R s m args below meth c n0 Q cells slots h (mkF m n Ls (.long (x1 + x2) :: st))) : Go p l e R s m args below meth c n0 Q cells slots h (mkF m pc Ls (.long x2 :: .long x1 :: st)) := by
  subst hn
  exact Go.via (fun T locs X _ t q => XS.ladd X.here C.x rfl (hb C.by hd) rfl q) k
theorem G.lsub (C : Cx p s m meth c Z y bytes maxL ret hB) {x1 x2 : Int64} (hd : decode bytes pc = .ok (.lsub, 1))  (hn : pc + 1 = n) (k : Go p l e R s m args below meth c n0 Q cells slots h (mkF m n Ls (.long (x1 - x2) :: st))) : Go p l e R s m args below meth c n0 Q cells slots h (mkF m pc Ls (.long x2 :: .long x1 :: st)) := by
  subst hn
  exact Go.via (fun T locs X _ t q => XS.lsub X.here C.x rfl (hb C.by hd) rfl q) k
theorem G.lmul (C : Cx p s m meth c Z y bytes maxL ret hB) {x1 x2 : Int64} (hd : decode bytes pc = .ok (.lmul, 1))  (hn : pc + 1 = n) (k : Go p l e R s m args below meth c n0 Q cells slots h (mkF m n Ls (.long (x1 * x2) :: st))) : Go p l e R s m args below meth c n0 Q cells slots h (mkF m pc Ls (.long x2 :: .long x1 :: st)) := by
  subst hn
  exact Go.via (fun T locs X _ t q => XS.lmul X.here C.x rfl (hb C.by hd) rfl q) k
theorem G.land (C : Cx p s m meth c Z y bytes maxL ret hB) {x1 x2 : Int64} (hd : decode bytes pc = .ok (.land, 1))  (hn : pc + 1 = n) (k : Go p l e R s m args below meth c n0 Q cells slots h (mkF m n Ls (.long (x1 &&& x2) :: st))) : Go p l e R s m args below meth c n0 Q cells slots h (mkF m pc Ls (.long x2 :: .long x1 :: st)) := by
  subst hn
  exact Go.via (fun T locs X _ t q => XS.land X.here C.x rfl (hb C.by hd) rfl q) k
theorem G.lor (C : Cx p s m meth c Z y bytes maxL ret hB) {x1 x2 : Int64} (hd : decode bytes pc = .ok (.lor, 1))  (hn : pc + 1 = n) (k : Go p l e R s m args below meth c n0 Q cells slots h (mkF m n Ls (.long (x1 ||| x2) :: st))) : Go p l e R s m args below meth c n0 Q cells slots h (mkF m pc Ls (.long x2 :: .long x1 :: st)) := by
  subst hn
  exact Go.via (fun T locs X _ t q => XS.lor X.here C.x rfl (hb C.by hd) rfl q) k
theorem G.lxor (C : Cx p s m meth c Z y bytes maxL ret hB) {x1 x2 : Int64} (hd : decode bytes pc = .ok (.lxor, 1))  (hn : pc + 1 = n) (k : Go p l e R s m args below meth c n0 Q cells slots h (mkF m n Ls (.long (x1 ^^^ x2) :: st))) : Go p l e R s m args below meth c n0 Q cells slots h (mkF m pc Ls (.long x2 :: .long x1 :: st)) := by
  subst hn
  exact Go.via (fun T locs X _ t q => XS.lxor X.here C.x rfl (hb C.by hd) rfl q) k
theorem G.idiv (C : Cx p s m meth c Z y bytes maxL ret hB) {x1 x2 : Int32} (hd : decode bytes pc = .ok (.idiv, 1)) (hy : x2 ≠ 0) (hn : pc + 1 = n) (k : Go p l e R s m args below meth c n0 Q cells slots h (mkF m n Ls (.int (x1 / x2) :: st))) : Go p l e R s m args below meth c n0 Q cells slots h (mkF m pc Ls (.int x2 :: .int x1 :: st)) := by
  subst hn
  exact Go.via (fun T locs X _ t q => XS.idiv X.here C.x rfl (hb C.by hd) rfl hy q) k
theorem G.ishl (C : Cx p s m meth c Z y bytes maxL ret hB) {x1 x2 : Int32} (hd : decode bytes pc = .ok (.ishl, 1))  (hn : pc + 1 = n) (k : Go p l e R s m args below meth c n0 Q cells slots h (mkF m n Ls (.int (x1 <<< (x2 &&& 31)) :: st))) : Go p l e R s m args below meth c n0 Q cells slots h (mkF m pc Ls (.int x2 :: .int x1 :: st)) := by
  subst hn
  exact Go.via (fun T locs X _ t q => XS.ishl X.here C.x rfl (hb C.by hd) rfl q) k
theorem G.ishr (C : Cx p s m meth c Z y bytes maxL ret hB) {x1 x2 : Int32} (hd : decode bytes pc = .ok (.ishr, 1))  (hn : pc + 1 = n) (k : Go p l e R s m args below meth c n0 Q cells slots h (mkF m n Ls (.int (x1 >>> (x2 &&& 31)) :: st))) : Go p l e R s m args below meth c n0 Q cells slots h (mkF m pc Ls (.int x2 :: .int x1 :: st)) := by
  subst hn
  exact Go.via (fun T locs X _ t q => XS.ishr X.here C.x rfl (hb C.by hd) rfl q) k
theorem G.iushr (C : Cx p s m meth c Z y bytes maxL ret hB) {x1 x2 : Int32} (hd : decode bytes pc = .ok (.iushr, 1))  (hn : pc + 1 = n) (k : Go p l e R s m args below meth c n0 Q cells slots h (mkF m n Ls (.int ((x1.toUInt32 >>> (x2 &&& 31).toUInt32).toInt32) :: st))) : Go p l e R s m args below meth c n0 Q cells slots h (mkF m pc Ls (.int x2 :: .int x1 :: st)) := by
  subst hn
  exact Go.via (fun T locs X _ t q => XS.iushr X.here C.x rfl (hb C.by hd) rfl q) k
theorem G.irem (C : Cx p s m meth c Z y bytes maxL ret hB) {x1 x2 : Int32} (hd : decode bytes pc = .ok (.irem, 1)) (hy : x2 ≠ 0) (hn : pc + 1 = n) (k : Go p l e R s m args below meth c n0 Q cells slots h (mkF m n Ls (.int (x1 % x2) :: st))) : Go p l e R s m args below meth c n0 Q cells slots h (mkF m pc Ls (.int x2 :: .int x1 :: st)) := by
  subst hn
  exact Go.via (fun T locs X _ t q => iremM X C.x rfl (hb C.by hd) rfl hy q) k
theorem G.ldiv (C : Cx p s m meth c Z y bytes maxL ret hB) {x1 x2 : Int64} (hd : decode bytes pc = .ok (.ldiv, 1)) (hy : x2 ≠ 0) (hn : pc + 1 = n) (k : Go p l e R s m args below meth c n0 Q cells slots h (mkF m n Ls (.long (x1 / x2) :: st))) : Go p l e R s m args below meth c n0 Q cells slots h (mkF m pc Ls (.long x2 :: .long x1 :: st)) := by
  subst hn
  exact Go.via (fun T locs X _ t q => XS.ldiv X.here C.x rfl (hb C.by hd) rfl hy q) k
theorem G.lrem (C : Cx p s m meth c Z y bytes maxL ret hB) {x1 x2 : Int64} (hd : decode bytes pc = .ok (.lrem, 1)) (hy : x2 ≠ 0) (hn : pc + 1 = n) (k : Go p l e R s m args below meth c n0 Q cells slots h (mkF m n Ls (.long (x1 - (x1 / x2) * x2) :: st))) : Go p l e R s m args below meth c n0 Q cells slots h (mkF m pc Ls (.long x2 :: .long x1 :: st)) := by
  subst hn
  exact Go.via (fun T locs X _ t q => XS.lrem X.here C.x rfl (hb C.by hd) rfl hy q) k
theorem G.lshl (C : Cx p s m meth c Z y bytes maxL ret hB) {x1 : Int64} {x2 : Int32} (hd : decode bytes pc = .ok (.lshl, 1))  (hn : pc + 1 = n) (k : Go p l e R s m args below meth c n0 Q cells slots h (mkF m n Ls (.long (x1 <<< (x2 &&& 0x3f).toInt64) :: st))) : Go p l e R s m args below meth c n0 Q cells slots h (mkF m pc Ls (.int x2 :: .long x1 :: st)) := by
  subst hn
  exact Go.via (fun T locs X _ t q => XS.lshl X.here C.x rfl (hb C.by hd) rfl q) k
theorem G.lshr (C : Cx p s m meth c Z y bytes maxL ret hB) {x1 : Int64} {x2 : Int32} (hd : decode bytes pc = .ok (.lshr, 1))  (hn : pc + 1 = n) (k : Go p l e R s m args below meth c n0 Q cells slots h (mkF m n Ls (.long (x1 >>> (x2 &&& 0x3f).toInt64) :: st))) : Go p l e R s m args below meth c n0 Q cells slots h (mkF m pc Ls (.int x2 :: .long x1 :: st)) := by
  subst hn
  exact Go.via (fun T locs X _ t q => XS.lshr X.here C.x rfl (hb C.by hd) rfl q) k
theorem G.lushr (C : Cx p s m meth c Z y bytes maxL ret hB) {x1 : Int64} {x2 : Int32} (hd : decode bytes pc = .ok (.lushr, 1))  (hn : pc + 1 = n) (k : Go p l e R s m args below meth c n0 Q cells slots h (mkF m n Ls (.long ((x1.toUInt64 >>> (x2 &&& 0x3f).toInt64.toUInt64).toInt64) :: st))) : Go p l e R s m args below meth c n0 Q cells slots h (mkF m pc Ls (.int x2 :: .long x1 :: st)) := by
  subst hn
  exact Go.via (fun T locs X _ t q => XS.lushr X.here C.x rfl (hb C.by hd) rfl q) k
theorem G.ineg (C : Cx p s m meth c Z y bytes maxL ret hB) {x : Int32} (hd : decode bytes pc = .ok (.ineg, 1))  (hn : pc + 1 = n) (k : Go p l e R s m args below meth c n0 Q cells slots h (mkF m n Ls (.int (-x) :: st))) : Go p l e R s m args below meth c n0 Q cells slots h (mkF m pc Ls (.int x :: st)) := by
  subst hn
  exact Go.via (fun T locs X _ t q => XS.ineg X.here C.x rfl (hb C.by hd) rfl q) k
theorem G.lneg (C : Cx p s m meth c Z y bytes maxL ret hB) {x : Int64} (hd : decode bytes pc = .ok (.lneg, 1))  (hn : pc + 1 = n) (k : Go p l e R s m args below meth c n0 Q cells slots h (mkF m n Ls (.long (-x) :: st))) : Go p l e R s m args below meth c n0 Q cells slots h (mkF m pc Ls (.long x :: st)) := by
  subst hn
  exact Go.via (fun T locs X _ t q => XS.lneg X.here C.x rfl (hb C.by hd) rfl q) k
theorem G.i2l (C : Cx p s m meth c Z y bytes maxL ret hB) {x : Int32} (hd : decode bytes pc = .ok (.i2l, 1))  (hn : pc + 1 = n) (k : Go p l e R s m args below meth c n0 Q cells slots h (mkF m n Ls (.long (x.toInt64) :: st))) : Go p l e R s m args below meth c n0 Q cells slots h (mkF m pc Ls (.int x :: st)) := by
  subst hn
  exact Go.via (fun T locs X _ t q => XS.i2l X.here C.x rfl (hb C.by hd) rfl q) k
theorem G.l2i (C : Cx p s m meth c Z y bytes maxL ret hB) {x : Int64} (hd : decode bytes pc = .ok (.l2i, 1))  (hn : pc + 1 = n) (k : Go p l e R s m args below meth c n0 Q cells slots h (mkF m n Ls (.int (x.toInt32) :: st))) : Go p l e R s m args below meth c n0 Q cells slots h (mkF m pc Ls (.long x :: st)) := by
  subst hn
  exact Go.via (fun T locs X _ t q => XS.l2i X.here C.x rfl (hb C.by hd) rfl q) k
theorem G.i2b (C : Cx p s m meth c Z y bytes maxL ret hB) {x : Int32} (hd : decode bytes pc = .ok (.i2b, 1))  (hn : pc + 1 = n) (k : Go p l e R s m args below meth c n0 Q cells slots h (mkF m n Ls (.int (x.toInt8.toInt32) :: st))) : Go p l e R s m args below meth c n0 Q cells slots h (mkF m pc Ls (.int x :: st)) := by
  subst hn
  exact Go.via (fun T locs X _ t q => XS.i2b X.here C.x rfl (hb C.by hd) rfl q) k
theorem G.i2s (C : Cx p s m meth c Z y bytes maxL ret hB) {x : Int32} (hd : decode bytes pc = .ok (.i2s, 1))  (hn : pc + 1 = n) (k : Go p l e R s m args below meth c n0 Q cells slots h (mkF m n Ls (.int (x.toInt16.toInt32) :: st))) : Go p l e R s m args below meth c n0 Q cells slots h (mkF m pc Ls (.int x :: st)) := by
  subst hn
  exact Go.via (fun T locs X _ t q => XS.i2s X.here C.x rfl (hb C.by hd) rfl q) k
theorem G.i2c (C : Cx p s m meth c Z y bytes maxL ret hB) {x : Int32} (hd : decode bytes pc = .ok (.i2c, 1))  (hn : pc + 1 = n) (k : Go p l e R s m args below meth c n0 Q cells slots h (mkF m n Ls (.int (x.toUInt32.toUInt16.toUInt32.toInt32) :: st))) : Go p l e R s m args below meth c n0 Q cells slots h (mkF m pc Ls (.int x :: st)) := by
  subst hn
  exact Go.via (fun T locs X _ t q => XS.i2c X.here C.x rfl (hb C.by hd) rfl q) k
theorem G.iconst (C : Cx p s m meth c Z y bytes maxL ret hB) {i : Int} (v : Int32) (hd : decode bytes pc = .ok (.iconst i, 1)) (hv : Int32.ofInt i = v) (hn : pc + 1 = n) (k : Go p l e R s m args below meth c n0 Q cells slots h (mkF m n Ls (.int v :: st))) : Go p l e R s m args below meth c n0 Q cells slots h (mkF m pc Ls (st)) := by
  subst hn hv
  exact Go.via (fun T locs X _ t q => XS.iconst X.here C.x rfl (hb C.by hd)  q) k
theorem G.bipush (C : Cx p s m meth c Z y bytes maxL ret hB) {i : Int} (v : Int32) (hd : decode bytes pc = .ok (.bipush i, 2)) (hv : (Int8.ofInt i).toInt32 = v) (hn : pc + 2 = n) (k : Go p l e R s m args below meth c n0 Q cells slots h (mkF m n Ls (.int v :: st))) : Go p l e R s m args below meth c n0 Q cells slots h (mkF m pc Ls (st)) := by
  subst hn hv
  exact Go.via (fun T locs X _ t q => XS.bipush X.here C.x rfl (hb C.by hd)  q) k
theorem G.sipush (C : Cx p s m meth c Z y bytes maxL ret hB) {i : Int} (v : Int32) (hd : decode bytes pc = .ok (.sipush i, 3)) (hv : (Int16.ofInt i).toInt32 = v) (hn : pc + 3 = n) (k : Go p l e R s m args below meth c n0 Q cells slots h (mkF m n Ls (.int v :: st))) : Go p l e R s m args below meth c n0 Q cells slots h (mkF m pc Ls (st)) := by
  subst hn hv
  exact Go.via (fun T locs X _ t q => XS.sipush X.here C.x rfl (hb C.by hd)  q) k
theorem G.lconst (C : Cx p s m meth c Z y bytes maxL ret hB) {i : Fin 2} (v : Int64) (hd : decode bytes pc = .ok (.lconst i, 1)) (hv : Int64.ofNat i = v) (hn : pc + 1 = n) (k : Go p l e R s m args below meth c n0 Q cells slots h (mkF m n Ls (.long v :: st))) : Go p l e R s m args below meth c n0 Q cells slots h (mkF m pc Ls (st)) := by
  subst hn hv
  exact Go.via (fun T locs X _ t q => XS.lconst X.here C.x rfl (hb C.by hd)  q) k
theorem G.aconst_null (C : Cx p s m meth c Z y bytes maxL ret hB)  (hd : decode bytes pc = .ok (.aconst_null, 1))  (hn : pc + 1 = n) (k : Go p l e R s m args below meth c n0 Q cells slots h (mkF m n Ls (.null :: st))) : Go p l e R s m args below meth c n0 Q cells slots h (mkF m pc Ls (st)) := by
  subst hn
  exact Go.via (fun T locs X _ t q => XS.aconstNull X.here C.x rfl (hb C.by hd)  q) k
theorem G.iload (C : Cx p s m meth c Z y bytes maxL ret hB) {k : Nat} {v : Int32} (hd : decode bytes pc = .ok (.iload k, 2)) (hl : Ls[k]? = some (.val (.int v)))  (hn : pc + 2 = n) (k : Go p l e R s m args below meth c n0 Q cells slots h (mkF m n Ls (.int v :: st))) : Go p l e R s m args below meth c n0 Q cells slots h (mkF m pc Ls (st)) := by
  subst hn
  exact Go.via (fun T locs X _ t q => XS.iload X.here C.x rfl (hb C.by hd) hl q) k
theorem G.iloadN (C : Cx p s m meth c Z y bytes maxL ret hB) {k : Fin 4} {v : Int32} (hd : decode bytes pc = .ok (.iload_n k, 1)) (hl : Ls[k.val]? = some (.val (.int v)))  (hn : pc + 1 = n) (k : Go p l e R s m args below meth c n0 Q cells slots h (mkF m n Ls (.int v :: st))) : Go p l e R s m args below meth c n0 Q cells slots h (mkF m pc Ls (st)) := by
  subst hn
  exact Go.via (fun T locs X _ t q => XS.iloadN X.here C.x rfl (hb C.by hd) hl q) k
theorem G.lload (C : Cx p s m meth c Z y bytes maxL ret hB) {k : Nat} {v : Int64} (hd : decode bytes pc = .ok (.lload k, 2)) (hl : Ls[k]? = some (.val (.long v)))  (hn : pc + 2 = n) (k : Go p l e R s m args below meth c n0 Q cells slots h (mkF m n Ls (.long v :: st))) : Go p l e R s m args below meth c n0 Q cells slots h (mkF m pc Ls (st)) := by
  subst hn
  exact Go.via (fun T locs X _ t q => XS.lload X.here C.x rfl (hb C.by hd) hl q) k
theorem G.lloadN (C : Cx p s m meth c Z y bytes maxL ret hB) {k : Fin 4} {v : Int64} (hd : decode bytes pc = .ok (.lload_n k, 1)) (hl : Ls[k.val]? = some (.val (.long v)))  (hn : pc + 1 = n) (k : Go p l e R s m args below meth c n0 Q cells slots h (mkF m n Ls (.long v :: st))) : Go p l e R s m args below meth c n0 Q cells slots h (mkF m pc Ls (st)) := by
  subst hn
  exact Go.via (fun T locs X _ t q => XS.lloadN X.here C.x rfl (hb C.by hd) hl q) k
theorem G.aload (C : Cx p s m meth c Z y bytes maxL ret hB) {k : Nat} {v : Value} (hd : decode bytes pc = .ok (.aload k, 2)) (hl : Ls[k]? = some (.val (v))) (hv : v.isRef = true) (hn : pc + 2 = n) (k : Go p l e R s m args below meth c n0 Q cells slots h (mkF m n Ls (v :: st))) : Go p l e R s m args below meth c n0 Q cells slots h (mkF m pc Ls (st)) := by
  subst hn
  exact Go.via (fun T locs X _ t q => XS.aload X.here C.x rfl (hb C.by hd) hl hv q) k
theorem G.aloadN (C : Cx p s m meth c Z y bytes maxL ret hB) {k : Fin 4} {v : Value} (hd : decode bytes pc = .ok (.aload_n k, 1)) (hl : Ls[k.val]? = some (.val (v))) (hv : v.isRef = true) (hn : pc + 1 = n) (k : Go p l e R s m args below meth c n0 Q cells slots h (mkF m n Ls (v :: st))) : Go p l e R s m args below meth c n0 Q cells slots h (mkF m pc Ls (st)) := by
  subst hn
  exact Go.via (fun T locs X _ t q => XS.aloadN X.here C.x rfl (hb C.by hd) hl hv q) k
theorem G.istore (C : Cx p s m meth c Z y bytes maxL ret hB) {k : Nat} {x : Int32} {l' : Array Slot} (hd : decode bytes pc = .ok (.istore k, 2))  (hl : storeLocals Ls k (.int x) = some l') (hn : pc + 2 = n) (kk : Go p l e R s m args below meth c n0 Q cells slots h (mkF m n l' (st))) : Go p l e R s m args below meth c n0 Q cells slots h (mkF m pc Ls (.int x :: st)) := by
  subst hn
  exact Go.via (fun T locs X _ t q => XS.istore X.here C.x rfl (hb C.by hd) rfl hl q) kk
theorem G.istoreZ (C : Cx p s m meth c Z y bytes maxL ret hB) {k : Nat} {x : Int32} {l' : Int32 → Array Slot} (hd : decode bytes pc = .ok (.istore k, 2)) (hl : ∀ z, storeLocals Ls k (.int z) = some (l' z)) (hn : pc + 2 = n) (kk : ∀ z, z = x → Go p l e R s m args below meth c n0 Q cells slots h (mkF m n (l' z) (st))) : Go p l e R s m args below meth c n0 Q cells slots h (mkF m pc Ls (.int x :: st)) :=
  G.istore C hd (hl x) hn (kk x rfl)
theorem G.istoreN (C : Cx p s m meth c Z y bytes maxL ret hB) {k : Fin 4} {x : Int32} {l' : Array Slot} (hd : decode bytes pc = .ok (.istore_n k, 1))  (hl : storeLocals Ls k.val (.int x) = some l') (hn : pc + 1 = n) (kk : Go p l e R s m args below meth c n0 Q cells slots h (mkF m n l' (st))) : Go p l e R s m args below meth c n0 Q cells slots h (mkF m pc Ls (.int x :: st)) := by
  subst hn
  exact Go.via (fun T locs X _ t q => XS.istoreN X.here C.x rfl (hb C.by hd) rfl hl q) kk
theorem G.istoreNZ (C : Cx p s m meth c Z y bytes maxL ret hB) {k : Fin 4} {x : Int32} {l' : Int32 → Array Slot} (hd : decode bytes pc = .ok (.istore_n k, 1)) (hl : ∀ z, storeLocals Ls k.val (.int z) = some (l' z)) (hn : pc + 1 = n) (kk : ∀ z, z = x → Go p l e R s m args below meth c n0 Q cells slots h (mkF m n (l' z) (st))) : Go p l e R s m args below meth c n0 Q cells slots h (mkF m pc Ls (.int x :: st)) :=
  G.istoreN C hd (hl x) hn (kk x rfl)
theorem G.lstore (C : Cx p s m meth c Z y bytes maxL ret hB) {k : Nat} {x : Int64} {l' : Array Slot} (hd : decode bytes pc = .ok (.lstore k, 2))  (hl : storeLocals Ls k (.long x) = some l') (hn : pc + 2 = n) (kk : Go p l e R s m args below meth c n0 Q cells slots h (mkF m n l' (st))) : Go p l e R s m args below meth c n0 Q cells slots h (mkF m pc Ls (.long x :: st)) := by
  subst hn
  exact Go.via (fun T locs X _ t q => XS.lstore X.here C.x rfl (hb C.by hd) rfl hl q) kk
theorem G.lstoreZ (C : Cx p s m meth c Z y bytes maxL ret hB) {k : Nat} {x : Int64} {l' : Int64 → Array Slot} (hd : decode bytes pc = .ok (.lstore k, 2)) (hl : ∀ z, storeLocals Ls k (.long z) = some (l' z)) (hn : pc + 2 = n) (kk : ∀ z, z = x → Go p l e R s m args below meth c n0 Q cells slots h (mkF m n (l' z) (st))) : Go p l e R s m args below meth c n0 Q cells slots h (mkF m pc Ls (.long x :: st)) :=
  G.lstore C hd (hl x) hn (kk x rfl)
theorem G.lstoreN (C : Cx p s m meth c Z y bytes maxL ret hB) {k : Fin 4} {x : Int64} {l' : Array Slot} (hd : decode bytes pc = .ok (.lstore_n k, 1))  (hl : storeLocals Ls k.val (.long x) = some l') (hn : pc + 1 = n) (kk : Go p l e R s m args below meth c n0 Q cells slots h (mkF m n l' (st))) : Go p l e R s m args below meth c n0 Q cells slots h (mkF m pc Ls (.long x :: st)) := by
  subst hn
  exact Go.via (fun T locs X _ t q => XS.lstoreN X.here C.x rfl (hb C.by hd) rfl hl q) kk
theorem G.lstoreNZ (C : Cx p s m meth c Z y bytes maxL ret hB) {k : Fin 4} {x : Int64} {l' : Int64 → Array Slot} (hd : decode bytes pc = .ok (.lstore_n k, 1)) (hl : ∀ z, storeLocals Ls k.val (.long z) = some (l' z)) (hn : pc + 1 = n) (kk : ∀ z, z = x → Go p l e R s m args below meth c n0 Q cells slots h (mkF m n (l' z) (st))) : Go p l e R s m args below meth c n0 Q cells slots h (mkF m pc Ls (.long x :: st)) :=
  G.lstoreN C hd (hl x) hn (kk x rfl)
theorem G.astore (C : Cx p s m meth c Z y bytes maxL ret hB) {k : Nat} {x : Value} {l' : Array Slot} (hd : decode bytes pc = .ok (.astore k, 2)) (hv : x.isRef = true) (hl : storeLocals Ls k (x) = some l') (hn : pc + 2 = n) (kk : Go p l e R s m args below meth c n0 Q cells slots h (mkF m n l' (st))) : Go p l e R s m args below meth c n0 Q cells slots h (mkF m pc Ls (x :: st)) := by
  subst hn
  exact Go.via (fun T locs X _ t q => XS.astore X.here C.x rfl (hb C.by hd) rfl hv hl q) kk
theorem G.astoreN (C : Cx p s m meth c Z y bytes maxL ret hB) {k : Fin 4} {x : Value} {l' : Array Slot} (hd : decode bytes pc = .ok (.astore_n k, 1)) (hv : x.isRef = true) (hl : storeLocals Ls k.val (x) = some l') (hn : pc + 1 = n) (kk : Go p l e R s m args below meth c n0 Q cells slots h (mkF m n l' (st))) : Go p l e R s m args below meth c n0 Q cells slots h (mkF m pc Ls (x :: st)) := by
  subst hn
  exact Go.via (fun T locs X _ t q => XS.astoreN X.here C.x rfl (hb C.by hd) rfl hv hl q) kk
theorem G.iinc (C : Cx p s m meth c Z y bytes maxL ret hB) {k : Nat} {cst : Int} (v : Int32) {x : Int32} {l' : Array Slot} (hd : decode bytes pc = .ok (.iinc k cst, 3)) (hv : Int32.ofInt cst = v) (hx : Ls[k]? = some (.val (.int x))) (hl : storeLocals Ls k (.int (x + v)) = some l') (hn : pc + 3 = n) (kk : Go p l e R s m args below meth c n0 Q cells slots h (mkF m n l' (st))) : Go p l e R s m args below meth c n0 Q cells slots h (mkF m pc Ls (st)) := by
  subst hn hv
  exact Go.via (fun T locs X _ t q => XS.iinc X.here C.x rfl (hb C.by hd) hx hl q) kk
theorem G.iincZ (C : Cx p s m meth c Z y bytes maxL ret hB) {k : Nat} {cst : Int} (v : Int32) {x : Int32} {l' : Int32 → Array Slot} (hd : decode bytes pc = .ok (.iinc k cst, 3)) (hv : Int32.ofInt cst = v) (hx : Ls[k]? = some (.val (.int x))) (hl : ∀ z, storeLocals Ls k (.int z) = some (l' z)) (hn : pc + 3 = n) (kk : ∀ z, z = x + v → Go p l e R s m args below meth c n0 Q cells slots h (mkF m n (l' z) (st))) : Go p l e R s m args below meth c n0 Q cells slots h (mkF m pc Ls (st)) :=
  G.iinc C v hd hv hx (hl _) hn (kk _ rfl)
theorem G.iincK (C : Cx p s m meth c Z y bytes maxL ret hB) {k : Nat} {cst : Int} (v : Int32) {x : Int32} (z : Int32) {l' : Array Slot} (hd : decode bytes pc = .ok (.iinc k cst, 3)) (hv : Int32.ofInt cst = v) (hx : Ls[k]? = some (.val (.int x))) (hz : x + v = z) (hl : storeLocals Ls k (.int z) = some l') (hn : pc + 3 = n) (kk : Go p l e R s m args below meth c n0 Q cells slots h (mkF m n l' (st))) : Go p l e R s m args below meth c n0 Q cells slots h (mkF m pc Ls (st)) := by
  subst hz
  exact G.iinc C v hd hv hx hl hn kk
theorem G.name_int {x : Int32} (kk : ∀ z, z = x → Go p l e R s m args below meth c n0 Q cells slots h (mkF m pc Ls (.int z :: st))) : Go p l e R s m args below meth c n0 Q cells slots h (mkF m pc Ls (.int x :: st)) := kk x rfl
theorem G.name_long {x : Int64} (kk : ∀ z, z = x → Go p l e R s m args below meth c n0 Q cells slots h (mkF m pc Ls (.long z :: st))) : Go p l e R s m args below meth c n0 Q cells slots h (mkF m pc Ls (.long x :: st)) := kk x rfl
theorem G.fold_int {x z : Int32} (hz : x = z) (kk : Go p l e R s m args below meth c n0 Q cells slots h (mkF m pc Ls (.int z :: st))) : Go p l e R s m args below meth c n0 Q cells slots h (mkF m pc Ls (.int x :: st)) := hz ▸ kk
theorem G.fold_long {x z : Int64} (hz : x = z) (kk : Go p l e R s m args below meth c n0 Q cells slots h (mkF m pc Ls (.long z :: st))) : Go p l e R s m args below meth c n0 Q cells slots h (mkF m pc Ls (.long x :: st)) := hz ▸ kk
theorem G.dup (C : Cx p s m meth c Z y bytes maxL ret hB) {x : Value} (hd : decode bytes pc = .ok (.dup, 1)) (hc : x.category = 1) (hn : pc + 1 = n) (k : Go p l e R s m args below meth c n0 Q cells slots h (mkF m n Ls (x :: x :: st))) : Go p l e R s m args below meth c n0 Q cells slots h (mkF m pc Ls (x :: st)) := by
  subst hn
  exact Go.via (fun T locs X _ t q => XS.dup X.here C.x rfl (hb C.by hd) rfl hc q) k
theorem G.pop (C : Cx p s m meth c Z y bytes maxL ret hB) {x : Value} (hd : decode bytes pc = .ok (.pop, 1)) (hc : x.category = 1) (hn : pc + 1 = n) (k : Go p l e R s m args below meth c n0 Q cells slots h (mkF m n Ls (st))) : Go p l e R s m args below meth c n0 Q cells slots h (mkF m pc Ls (x :: st)) := by
  subst hn
  exact Go.via (fun T locs X _ t q => XS.pop X.here C.x rfl (hb C.by hd) rfl hc q) k
theorem G.dup_x1 (C : Cx p s m meth c Z y bytes maxL ret hB) {x x2 : Value} (hd : decode bytes pc = .ok (.dup_x1, 1)) (hc : x.category = 1) (hc2 : x2.category = 1) (hn : pc + 1 = n) (k : Go p l e R s m args below meth c n0 Q cells slots h (mkF m n Ls (x :: x2 :: x :: st))) : Go p l e R s m args below meth c n0 Q cells slots h (mkF m pc Ls (x :: x2 :: st)) := by
  subst hn
  exact Go.via (fun T locs X _ t q => XS.dupX1 X.here C.x rfl (hb C.by hd) rfl hc hc2 q) k
theorem G.dup2 (C : Cx p s m meth c Z y bytes maxL ret hB) {x x2 : Value} (hd : decode bytes pc = .ok (.dup2, 1)) (hc : x.category = 1) (hc2 : x2.category = 1) (hn : pc + 1 = n) (k : Go p l e R s m args below meth c n0 Q cells slots h (mkF m n Ls (x :: x2 :: x :: x2 :: st))) : Go p l e R s m args below meth c n0 Q cells slots h (mkF m pc Ls (x :: x2 :: st)) := by
  subst hn
  exact Go.via (fun T locs X _ t q => XT.dup2 X.here C.x rfl (hb C.by hd) rfl hc hc2 q) k
theorem G.dup2L (C : Cx p s m meth c Z y bytes maxL ret hB) {x : Int64} (hd : decode bytes pc = .ok (.dup2, 1)) (hn : pc + 1 = n) (k : Go p l e R s m args below meth c n0 Q cells slots h (mkF m n Ls (.long x :: .long x :: st))) : Go p l e R s m args below meth c n0 Q cells slots h (mkF m pc Ls (.long x :: st)) := by
  subst hn
  exact Go.via (fun T locs X _ t q => XT.dup2L X.here C.x rfl (hb C.by hd) rfl q) k
theorem G.goto (C : Cx p s m meth c Z y bytes maxL ret hB) {o : Int} (hd : decode bytes pc = .ok (.goto o, 3)) (ho : 0 ≤ (pc : Int) + o) (hp : ((pc : Int) + o).toNat = n) (k : Go p l e R s m args below meth c n0 Q cells slots h (mkF m n Ls (st))) : Go p l e R s m args below meth c n0 Q cells slots h (mkF m pc Ls (st)) :=
  Go.via (fun T locs X _ t q => XS.goto X.here C.x rfl rfl (hb C.by hd) ho hp q) k
theorem lt_i {x y : Int32} : x < y ↔ x.toInt < y.toInt := Int32.lt_iff_toInt_lt
theorem lt_l {x y : Int64} : x < y ↔ x.toInt < y.toInt := Int64.lt_iff_toInt_lt
theorem le_i {x y : Int32} : x ≤ y ↔ x.toInt ≤ y.toInt := Int32.le_iff_toInt_le
theorem le_l {x y : Int64} : x ≤ y ↔ x.toInt ≤ y.toInt := Int64.le_iff_toInt_le
theorem ich_lt {x1 x2 : Int32} : (x1.toInt < x2.toInt ∧ if_icmp.holds .lt x1 x2 = true) ∨ (x2.toInt ≤ x1.toInt ∧ if_icmp.holds .lt x1 x2 = false) := by
  by_cases q : x1.toInt < x2.toInt
  · exact Or.inl ⟨q, by simp [if_icmp.holds, lt_i, le_i, Int32.lt_iff_toInt_lt, Int32.le_iff_toInt_le, q]⟩
  · exact Or.inr ⟨by omega, by first | (simp [if_icmp.holds, lt_i, le_i, Int32.lt_iff_toInt_lt, Int32.le_iff_toInt_le, q]; done) | (simp [if_icmp.holds, lt_i, le_i, Int32.lt_iff_toInt_lt, Int32.le_iff_toInt_le]; omega)⟩
theorem G.icmp_lt (C : Cx p s m meth c Z y bytes maxL ret hB) {x1 x2 : Int32} {o : Int} {A B : Int} (hA : x1.toInt = A) (hB : x2.toInt = B) (hd : decode bytes pc = .ok (.if_icmp .lt o, 3)) (ho : 0 ≤ (pc : Int) + o) (hp : ((pc : Int) + o).toNat = n') (hn : pc + 3 = n) (kt : A < B → Go p l e R s m args below meth c n0 Q cells slots h (mkF m n' Ls (st))) (kf : B ≤ A → Go p l e R s m args below meth c n0 Q cells slots h (mkF m n Ls (st))) : Go p l e R s m args below meth c n0 Q cells slots h (mkF m pc Ls (.int x2 :: .int x1 :: st)) := by
  subst hn hA hB
  rcases ich_lt (x1 := x1) (x2 := x2) with ⟨q, r⟩ | ⟨q, r⟩
  · exact Go.via (fun T locs X _ t q => XS.icmpYes X.here C.x rfl rfl (hb C.by hd) rfl r ho hp q) (kt q)
  · exact Go.via (fun T locs X _ t q => XS.icmpNo X.here C.x rfl (hb C.by hd) rfl r q) (kf q)
theorem G.if_lt (C : Cx p s m meth c Z y bytes maxL ret hB) {x1 : Int32} {o : Int} {A : Int} (hA : x1.toInt = A) (hd : decode bytes pc = .ok (.ifCond .lt o, 3)) (ho : 0 ≤ (pc : Int) + o) (hp : ((pc : Int) + o).toNat = n') (hn : pc + 3 = n) (kt : A < 0 → Go p l e R s m args below meth c n0 Q cells slots h (mkF m n' Ls (st))) (kf : 0 ≤ A → Go p l e R s m args below meth c n0 Q cells slots h (mkF m n Ls (st))) : Go p l e R s m args below meth c n0 Q cells slots h (mkF m pc Ls (.int x1 :: st)) := by
  subst hn hA
  rcases ich_lt (x1 := x1) (x2 := 0) with ⟨q, r⟩ | ⟨q, r⟩
  · exact Go.via (fun T locs X _ t q => XS.ifYes X.here C.x rfl rfl (hb C.by hd) rfl ((if0 _ _).trans r) ho hp q) (kt q)
  · exact Go.via (fun T locs X _ t q => XS.ifNo X.here C.x rfl (hb C.by hd) rfl ((if0 _ _).trans r) q) (kf q)
theorem lch_lt (x1 x2 : Int64) : ((lcmpW x1 x2).toInt < 0 → x1.toInt < x2.toInt) ∧ (0 ≤ (lcmpW x1 x2).toInt → x2.toInt ≤ x1.toInt) := by
  have q := c_lcmp x1 x2
  have z : ∀ x : Int32, x = 0 ↔ x.toInt = 0 := fun x => ⟨fun q => by rw [q]; rfl, fun q => Int32.toInt_inj.mp q⟩
  have w : x1 = x2 ↔ x1.toInt = x2.toInt := Int64.toInt_inj.symm
  
  constructor <;> intro r <;> omega
theorem G.lcmp_lt (C : Cx p s m meth c Z y bytes maxL ret hB) {x1 x2 : Int64} {o : Int} {A B : Int} (hA : x1.toInt = A) (hB : x2.toInt = B) (hc : decode bytes pc = .ok (.lcmp, 1)) (hd : decode bytes (pc + 1) = .ok (.ifCond .lt o, 3)) (ho : 0 ≤ ((pc + 1 : Nat) : Int) + o) (hp : (((pc + 1 : Nat) : Int) + o).toNat = n') (hn : pc + 4 = n) (kt : A < B → Go p l e R s m args below meth c n0 Q cells slots h (mkF m n' Ls (st))) (kf : B ≤ A → Go p l e R s m args below meth c n0 Q cells slots h (mkF m n Ls (st))) : Go p l e R s m args below meth c n0 Q cells slots h (mkF m pc Ls (.long x2 :: .long x1 :: st)) := by
  subst hn hA hB
  refine Go.via (fun T locs X _ t q => XS.lcmp X.here C.x rfl (hb C.by hc) rfl q) ?_
  exact G.if_lt C (A := (lcmpW x1 x2).toInt) rfl (pc := pc + 1) hd ho hp (n := pc + 4) rfl (fun q => kt ((lch_lt x1 x2).1 q)) (fun q => kf ((lch_lt x1 x2).2 q))
theorem ich_ge {x1 x2 : Int32} : (x2.toInt ≤ x1.toInt ∧ if_icmp.holds .ge x1 x2 = true) ∨ (x1.toInt < x2.toInt ∧ if_icmp.holds .ge x1 x2 = false) := by
  by_cases q : x2.toInt ≤ x1.toInt
  · exact Or.inl ⟨q, by simp [if_icmp.holds, lt_i, le_i, Int32.lt_iff_toInt_lt, Int32.le_iff_toInt_le, q]⟩
  · exact Or.inr ⟨by omega, by first | (simp [if_icmp.holds, lt_i, le_i, Int32.lt_iff_toInt_lt, Int32.le_iff_toInt_le, q]; done) | (simp [if_icmp.holds, lt_i, le_i, Int32.lt_iff_toInt_lt, Int32.le_iff_toInt_le]; omega)⟩
theorem G.icmp_ge (C : Cx p s m meth c Z y bytes maxL ret hB) {x1 x2 : Int32} {o : Int} {A B : Int} (hA : x1.toInt = A) (hB : x2.toInt = B) (hd : decode bytes pc = .ok (.if_icmp .ge o, 3)) (ho : 0 ≤ (pc : Int) + o) (hp : ((pc : Int) + o).toNat = n') (hn : pc + 3 = n) (kt : B ≤ A → Go p l e R s m args below meth c n0 Q cells slots h (mkF m n' Ls (st))) (kf : A < B → Go p l e R s m args below meth c n0 Q cells slots h (mkF m n Ls (st))) : Go p l e R s m args below meth c n0 Q cells slots h (mkF m pc Ls (.int x2 :: .int x1 :: st)) := by
  subst hn hA hB
  rcases ich_ge (x1 := x1) (x2 := x2) with ⟨q, r⟩ | ⟨q, r⟩
  · exact Go.via (fun T locs X _ t q => XS.icmpYes X.here C.x rfl rfl (hb C.by hd) rfl r ho hp q) (kt q)
  · exact Go.via (fun T locs X _ t q => XS.icmpNo X.here C.x rfl (hb C.by hd) rfl r q) (kf q)
theorem G.if_ge (C : Cx p s m meth c Z y bytes maxL ret hB) {x1 : Int32} {o : Int} {A : Int} (hA : x1.toInt = A) (hd : decode bytes pc = .ok (.ifCond .ge o, 3)) (ho : 0 ≤ (pc : Int) + o) (hp : ((pc : Int) + o).toNat = n') (hn : pc + 3 = n) (kt : 0 ≤ A → Go p l e R s m args below meth c n0 Q cells slots h (mkF m n' Ls (st))) (kf : A < 0 → Go p l e R s m args below meth c n0 Q cells slots h (mkF m n Ls (st))) : Go p l e R s m args below meth c n0 Q cells slots h (mkF m pc Ls (.int x1 :: st)) := by
  subst hn hA
  rcases ich_ge (x1 := x1) (x2 := 0) with ⟨q, r⟩ | ⟨q, r⟩
  · exact Go.via (fun T locs X _ t q => XS.ifYes X.here C.x rfl rfl (hb C.by hd) rfl ((if0 _ _).trans r) ho hp q) (kt q)
  · exact Go.via (fun T locs X _ t q => XS.ifNo X.here C.x rfl (hb C.by hd) rfl ((if0 _ _).trans r) q) (kf q)
theorem lch_ge (x1 x2 : Int64) : (0 ≤ (lcmpW x1 x2).toInt → x2.toInt ≤ x1.toInt) ∧ ((lcmpW x1 x2).toInt < 0 → x1.toInt < x2.toInt) := by
  have q := c_lcmp x1 x2
  have z : ∀ x : Int32, x = 0 ↔ x.toInt = 0 := fun x => ⟨fun q => by rw [q]; rfl, fun q => Int32.toInt_inj.mp q⟩
  have w : x1 = x2 ↔ x1.toInt = x2.toInt := Int64.toInt_inj.symm
  
  constructor <;> intro r <;> omega
theorem G.lcmp_ge (C : Cx p s m meth c Z y bytes maxL ret hB) {x1 x2 : Int64} {o : Int} {A B : Int} (hA : x1.toInt = A) (hB : x2.toInt = B) (hc : decode bytes pc = .ok (.lcmp, 1)) (hd : decode bytes (pc + 1) = .ok (.ifCond .ge o, 3)) (ho : 0 ≤ ((pc + 1 : Nat) : Int) + o) (hp : (((pc + 1 : Nat) : Int) + o).toNat = n') (hn : pc + 4 = n) (kt : B ≤ A → Go p l e R s m args below meth c n0 Q cells slots h (mkF m n' Ls (st))) (kf : A < B → Go p l e R s m args below meth c n0 Q cells slots h (mkF m n Ls (st))) : Go p l e R s m args below meth c n0 Q cells slots h (mkF m pc Ls (.long x2 :: .long x1 :: st)) := by
  subst hn hA hB
  refine Go.via (fun T locs X _ t q => XS.lcmp X.here C.x rfl (hb C.by hc) rfl q) ?_
  exact G.if_ge C (A := (lcmpW x1 x2).toInt) rfl (pc := pc + 1) hd ho hp (n := pc + 4) rfl (fun q => kt ((lch_ge x1 x2).1 q)) (fun q => kf ((lch_ge x1 x2).2 q))
theorem ich_gt {x1 x2 : Int32} : (x2.toInt < x1.toInt ∧ if_icmp.holds .gt x1 x2 = true) ∨ (x1.toInt ≤ x2.toInt ∧ if_icmp.holds .gt x1 x2 = false) := by
  by_cases q : x2.toInt < x1.toInt
  · exact Or.inl ⟨q, by simp [if_icmp.holds, lt_i, le_i, Int32.lt_iff_toInt_lt, Int32.le_iff_toInt_le, q]⟩
  · exact Or.inr ⟨by omega, by first | (simp [if_icmp.holds, lt_i, le_i, Int32.lt_iff_toInt_lt, Int32.le_iff_toInt_le, q]; done) | (simp [if_icmp.holds, lt_i, le_i, Int32.lt_iff_toInt_lt, Int32.le_iff_toInt_le]; omega)⟩
theorem G.icmp_gt (C : Cx p s m meth c Z y bytes maxL ret hB) {x1 x2 : Int32} {o : Int} {A B : Int} (hA : x1.toInt = A) (hB : x2.toInt = B) (hd : decode bytes pc = .ok (.if_icmp .gt o, 3)) (ho : 0 ≤ (pc : Int) + o) (hp : ((pc : Int) + o).toNat = n') (hn : pc + 3 = n) (kt : B < A → Go p l e R s m args below meth c n0 Q cells slots h (mkF m n' Ls (st))) (kf : A ≤ B → Go p l e R s m args below meth c n0 Q cells slots h (mkF m n Ls (st))) : Go p l e R s m args below meth c n0 Q cells slots h (mkF m pc Ls (.int x2 :: .int x1 :: st)) := by
  subst hn hA hB
  rcases ich_gt (x1 := x1) (x2 := x2) with ⟨q, r⟩ | ⟨q, r⟩
  · exact Go.via (fun T locs X _ t q => XS.icmpYes X.here C.x rfl rfl (hb C.by hd) rfl r ho hp q) (kt q)
  · exact Go.via (fun T locs X _ t q => XS.icmpNo X.here C.x rfl (hb C.by hd) rfl r q) (kf q)
theorem G.if_gt (C : Cx p s m meth c Z y bytes maxL ret hB) {x1 : Int32} {o : Int} {A : Int} (hA : x1.toInt = A) (hd : decode bytes pc = .ok (.ifCond .gt o, 3)) (ho : 0 ≤ (pc : Int) + o) (hp : ((pc : Int) + o).toNat = n') (hn : pc + 3 = n) (kt : 0 < A → Go p l e R s m args below meth c n0 Q cells slots h (mkF m n' Ls (st))) (kf : A ≤ 0 → Go p l e R s m args below meth c n0 Q cells slots h (mkF m n Ls (st))) : Go p l e R s m args below meth c n0 Q cells slots h (mkF m pc Ls (.int x1 :: st)) := by
  subst hn hA
  rcases ich_gt (x1 := x1) (x2 := 0) with ⟨q, r⟩ | ⟨q, r⟩
  · exact Go.via (fun T locs X _ t q => XS.ifYes X.here C.x rfl rfl (hb C.by hd) rfl ((if0 _ _).trans r) ho hp q) (kt q)
  · exact Go.via (fun T locs X _ t q => XS.ifNo X.here C.x rfl (hb C.by hd) rfl ((if0 _ _).trans r) q) (kf q)
theorem lch_gt (x1 x2 : Int64) : (0 < (lcmpW x1 x2).toInt → x2.toInt < x1.toInt) ∧ ((lcmpW x1 x2).toInt ≤ 0 → x1.toInt ≤ x2.toInt) := by
  have q := c_lcmp x1 x2
  have z : ∀ x : Int32, x = 0 ↔ x.toInt = 0 := fun x => ⟨fun q => by rw [q]; rfl, fun q => Int32.toInt_inj.mp q⟩
  have w : x1 = x2 ↔ x1.toInt = x2.toInt := Int64.toInt_inj.symm
  
  constructor <;> intro r <;> omega
theorem G.lcmp_gt (C : Cx p s m meth c Z y bytes maxL ret hB) {x1 x2 : Int64} {o : Int} {A B : Int} (hA : x1.toInt = A) (hB : x2.toInt = B) (hc : decode bytes pc = .ok (.lcmp, 1)) (hd : decode bytes (pc + 1) = .ok (.ifCond .gt o, 3)) (ho : 0 ≤ ((pc + 1 : Nat) : Int) + o) (hp : (((pc + 1 : Nat) : Int) + o).toNat = n') (hn : pc + 4 = n) (kt : B < A → Go p l e R s m args below meth c n0 Q cells slots h (mkF m n' Ls (st))) (kf : A ≤ B → Go p l e R s m args below meth c n0 Q cells slots h (mkF m n Ls (st))) : Go p l e R s m args below meth c n0 Q cells slots h (mkF m pc Ls (.long x2 :: .long x1 :: st)) := by
  subst hn hA hB
  refine Go.via (fun T locs X _ t q => XS.lcmp X.here C.x rfl (hb C.by hc) rfl q) ?_
  exact G.if_gt C (A := (lcmpW x1 x2).toInt) rfl (pc := pc + 1) hd ho hp (n := pc + 4) rfl (fun q => kt ((lch_gt x1 x2).1 q)) (fun q => kf ((lch_gt x1 x2).2 q))
theorem ich_le {x1 x2 : Int32} : (x1.toInt ≤ x2.toInt ∧ if_icmp.holds .le x1 x2 = true) ∨ (x2.toInt < x1.toInt ∧ if_icmp.holds .le x1 x2 = false) := by
  by_cases q : x1.toInt ≤ x2.toInt
  · exact Or.inl ⟨q, by simp [if_icmp.holds, lt_i, le_i, Int32.lt_iff_toInt_lt, Int32.le_iff_toInt_le, q]⟩
  · exact Or.inr ⟨by omega, by first | (simp [if_icmp.holds, lt_i, le_i, Int32.lt_iff_toInt_lt, Int32.le_iff_toInt_le, q]; done) | (simp [if_icmp.holds, lt_i, le_i, Int32.lt_iff_toInt_lt, Int32.le_iff_toInt_le]; omega)⟩
theorem G.icmp_le (C : Cx p s m meth c Z y bytes maxL ret hB) {x1 x2 : Int32} {o : Int} {A B : Int} (hA : x1.toInt = A) (hB : x2.toInt = B) (hd : decode bytes pc = .ok (.if_icmp .le o, 3)) (ho : 0 ≤ (pc : Int) + o) (hp : ((pc : Int) + o).toNat = n') (hn : pc + 3 = n) (kt : A ≤ B → Go p l e R s m args below meth c n0 Q cells slots h (mkF m n' Ls (st))) (kf : B < A → Go p l e R s m args below meth c n0 Q cells slots h (mkF m n Ls (st))) : Go p l e R s m args below meth c n0 Q cells slots h (mkF m pc Ls (.int x2 :: .int x1 :: st)) := by
  subst hn hA hB
  rcases ich_le (x1 := x1) (x2 := x2) with ⟨q, r⟩ | ⟨q, r⟩
  · exact Go.via (fun T locs X _ t q => XS.icmpYes X.here C.x rfl rfl (hb C.by hd) rfl r ho hp q) (kt q)
  · exact Go.via (fun T locs X _ t q => XS.icmpNo X.here C.x rfl (hb C.by hd) rfl r q) (kf q)
theorem G.if_le (C : Cx p s m meth c Z y bytes maxL ret hB) {x1 : Int32} {o : Int} {A : Int} (hA : x1.toInt = A) (hd : decode bytes pc = .ok (.ifCond .le o, 3)) (ho : 0 ≤ (pc : Int) + o) (hp : ((pc : Int) + o).toNat = n') (hn : pc + 3 = n) (kt : A ≤ 0 → Go p l e R s m args below meth c n0 Q cells slots h (mkF m n' Ls (st))) (kf : 0 < A → Go p l e R s m args below meth c n0 Q cells slots h (mkF m n Ls (st))) : Go p l e R s m args below meth c n0 Q cells slots h (mkF m pc Ls (.int x1 :: st)) := by
  subst hn hA
  rcases ich_le (x1 := x1) (x2 := 0) with ⟨q, r⟩ | ⟨q, r⟩
  · exact Go.via (fun T locs X _ t q => XS.ifYes X.here C.x rfl rfl (hb C.by hd) rfl ((if0 _ _).trans r) ho hp q) (kt q)
  · exact Go.via (fun T locs X _ t q => XS.ifNo X.here C.x rfl (hb C.by hd) rfl ((if0 _ _).trans r) q) (kf q)
theorem lch_le (x1 x2 : Int64) : ((lcmpW x1 x2).toInt ≤ 0 → x1.toInt ≤ x2.toInt) ∧ (0 < (lcmpW x1 x2).toInt → x2.toInt < x1.toInt) := by
  have q := c_lcmp x1 x2
  have z : ∀ x : Int32, x = 0 ↔ x.toInt = 0 := fun x => ⟨fun q => by rw [q]; rfl, fun q => Int32.toInt_inj.mp q⟩
  have w : x1 = x2 ↔ x1.toInt = x2.toInt := Int64.toInt_inj.symm
  
  constructor <;> intro r <;> omega
theorem G.lcmp_le (C : Cx p s m meth c Z y bytes maxL ret hB) {x1 x2 : Int64} {o : Int} {A B : Int} (hA : x1.toInt = A) (hB : x2.toInt = B) (hc : decode bytes pc = .ok (.lcmp, 1)) (hd : decode bytes (pc + 1) = .ok (.ifCond .le o, 3)) (ho : 0 ≤ ((pc + 1 : Nat) : Int) + o) (hp : (((pc + 1 : Nat) : Int) + o).toNat = n') (hn : pc + 4 = n) (kt : A ≤ B → Go p l e R s m args below meth c n0 Q cells slots h (mkF m n' Ls (st))) (kf : B < A → Go p l e R s m args below meth c n0 Q cells slots h (mkF m n Ls (st))) : Go p l e R s m args below meth c n0 Q cells slots h (mkF m pc Ls (.long x2 :: .long x1 :: st)) := by
  subst hn hA hB
  refine Go.via (fun T locs X _ t q => XS.lcmp X.here C.x rfl (hb C.by hc) rfl q) ?_
  exact G.if_le C (A := (lcmpW x1 x2).toInt) rfl (pc := pc + 1) hd ho hp (n := pc + 4) rfl (fun q => kt ((lch_le x1 x2).1 q)) (fun q => kf ((lch_le x1 x2).2 q))
theorem ich_eq {x1 x2 : Int32} : (x1 = x2 ∧ if_icmp.holds .eq x1 x2 = true) ∨ (x1 ≠ x2 ∧ if_icmp.holds .eq x1 x2 = false) := by
  by_cases q : x1 = x2 <;> simp [if_icmp.holds, q]
theorem G.icmp_eq (C : Cx p s m meth c Z y bytes maxL ret hB) {x1 x2 : Int32} {o : Int} {A B : Int} (hA : x1.toInt = A) (hB : x2.toInt = B) (hd : decode bytes pc = .ok (.if_icmp .eq o, 3)) (ho : 0 ≤ (pc : Int) + o) (hp : ((pc : Int) + o).toNat = n') (hn : pc + 3 = n) (kt : x1 = x2 → A = B → Go p l e R s m args below meth c n0 Q cells slots h (mkF m n' Ls (st))) (kf : x1 ≠ x2 → A ≠ B → Go p l e R s m args below meth c n0 Q cells slots h (mkF m n Ls (st))) : Go p l e R s m args below meth c n0 Q cells slots h (mkF m pc Ls (.int x2 :: .int x1 :: st)) := by
  subst hn hA hB
  rcases ich_eq (x1 := x1) (x2 := x2) with ⟨q, r⟩ | ⟨q, r⟩
  · exact Go.via (fun T locs X _ t q => XS.icmpYes X.here C.x rfl rfl (hb C.by hd) rfl r ho hp q) (kt q (congrArg _ q))
  · exact Go.via (fun T locs X _ t q => XS.icmpNo X.here C.x rfl (hb C.by hd) rfl r q) (kf q (fun r => q (Int32.toInt_inj.mp r)))
theorem G.if_eq (C : Cx p s m meth c Z y bytes maxL ret hB) {x1 : Int32} {o : Int} {A : Int} (hA : x1.toInt = A) (hd : decode bytes pc = .ok (.ifCond .eq o, 3)) (ho : 0 ≤ (pc : Int) + o) (hp : ((pc : Int) + o).toNat = n') (hn : pc + 3 = n) (kt : x1 = 0 → A = 0 → Go p l e R s m args below meth c n0 Q cells slots h (mkF m n' Ls (st))) (kf : x1 ≠ 0 → A ≠ 0 → Go p l e R s m args below meth c n0 Q cells slots h (mkF m n Ls (st))) : Go p l e R s m args below meth c n0 Q cells slots h (mkF m pc Ls (.int x1 :: st)) := by
  subst hn hA
  rcases ich_eq (x1 := x1) (x2 := 0) with ⟨q, r⟩ | ⟨q, r⟩
  · exact Go.via (fun T locs X _ t q => XS.ifYes X.here C.x rfl rfl (hb C.by hd) rfl ((if0 _ _).trans r) ho hp q) (kt q (congrArg Int32.toInt q))
  · exact Go.via (fun T locs X _ t q => XS.ifNo X.here C.x rfl (hb C.by hd) rfl ((if0 _ _).trans r) q) (kf q (fun r => q (Int32.toInt_inj.mp r)))
theorem lch_eq (x1 x2 : Int64) : ((lcmpW x1 x2) = 0 → x1 = x2) ∧ ((lcmpW x1 x2) ≠ 0 → x1 ≠ x2) := by
  have q := c_lcmp x1 x2
  have z : ∀ x : Int32, x = 0 ↔ x.toInt = 0 := fun x => ⟨fun q => by rw [q]; rfl, fun q => Int32.toInt_inj.mp q⟩
  have w : x1 = x2 ↔ x1.toInt = x2.toInt := Int64.toInt_inj.symm
  simp only [ne_eq, z, w]
  constructor <;> intro r <;> omega
theorem G.lcmp_eq (C : Cx p s m meth c Z y bytes maxL ret hB) {x1 x2 : Int64} {o : Int} {A B : Int} (hA : x1.toInt = A) (hB : x2.toInt = B) (hc : decode bytes pc = .ok (.lcmp, 1)) (hd : decode bytes (pc + 1) = .ok (.ifCond .eq o, 3)) (ho : 0 ≤ ((pc + 1 : Nat) : Int) + o) (hp : (((pc + 1 : Nat) : Int) + o).toNat = n') (hn : pc + 4 = n) (kt : x1 = x2 → A = B → Go p l e R s m args below meth c n0 Q cells slots h (mkF m n' Ls (st))) (kf : x1 ≠ x2 → A ≠ B → Go p l e R s m args below meth c n0 Q cells slots h (mkF m n Ls (st))) : Go p l e R s m args below meth c n0 Q cells slots h (mkF m pc Ls (.long x2 :: .long x1 :: st)) := by
  subst hn hA hB
  refine Go.via (fun T locs X _ t q => XS.lcmp X.here C.x rfl (hb C.by hc) rfl q) ?_
  exact G.if_eq C (A := (lcmpW x1 x2).toInt) rfl (pc := pc + 1) hd ho hp (n := pc + 4) rfl (fun q _ => kt ((lch_eq x1 x2).1 q) (congrArg _ ((lch_eq x1 x2).1 q))) (fun q _ => kf ((lch_eq x1 x2).2 q) (fun r => (lch_eq x1 x2).2 q (Int64.toInt_inj.mp r)))
theorem ich_ne {x1 x2 : Int32} : (x1 ≠ x2 ∧ if_icmp.holds .ne x1 x2 = true) ∨ (x1 = x2 ∧ if_icmp.holds .ne x1 x2 = false) := by
  by_cases q : x1 = x2 <;> simp [if_icmp.holds, q]
theorem G.icmp_ne (C : Cx p s m meth c Z y bytes maxL ret hB) {x1 x2 : Int32} {o : Int} {A B : Int} (hA : x1.toInt = A) (hB : x2.toInt = B) (hd : decode bytes pc = .ok (.if_icmp .ne o, 3)) (ho : 0 ≤ (pc : Int) + o) (hp : ((pc : Int) + o).toNat = n') (hn : pc + 3 = n) (kt : x1 ≠ x2 → A ≠ B → Go p l e R s m args below meth c n0 Q cells slots h (mkF m n' Ls (st))) (kf : x1 = x2 → A = B → Go p l e R s m args below meth c n0 Q cells slots h (mkF m n Ls (st))) : Go p l e R s m args below meth c n0 Q cells slots h (mkF m pc Ls (.int x2 :: .int x1 :: st)) := by
  subst hn hA hB
  rcases ich_ne (x1 := x1) (x2 := x2) with ⟨q, r⟩ | ⟨q, r⟩
  · exact Go.via (fun T locs X _ t q => XS.icmpYes X.here C.x rfl rfl (hb C.by hd) rfl r ho hp q) (kt q (fun r => q (Int32.toInt_inj.mp r)))
  · exact Go.via (fun T locs X _ t q => XS.icmpNo X.here C.x rfl (hb C.by hd) rfl r q) (kf q (congrArg _ q))
theorem G.if_ne (C : Cx p s m meth c Z y bytes maxL ret hB) {x1 : Int32} {o : Int} {A : Int} (hA : x1.toInt = A) (hd : decode bytes pc = .ok (.ifCond .ne o, 3)) (ho : 0 ≤ (pc : Int) + o) (hp : ((pc : Int) + o).toNat = n') (hn : pc + 3 = n) (kt : x1 ≠ 0 → A ≠ 0 → Go p l e R s m args below meth c n0 Q cells slots h (mkF m n' Ls (st))) (kf : x1 = 0 → A = 0 → Go p l e R s m args below meth c n0 Q cells slots h (mkF m n Ls (st))) : Go p l e R s m args below meth c n0 Q cells slots h (mkF m pc Ls (.int x1 :: st)) := by
  subst hn hA
  rcases ich_ne (x1 := x1) (x2 := 0) with ⟨q, r⟩ | ⟨q, r⟩
  · exact Go.via (fun T locs X _ t q => XS.ifYes X.here C.x rfl rfl (hb C.by hd) rfl ((if0 _ _).trans r) ho hp q) (kt q (fun r => q (Int32.toInt_inj.mp r)))
  · exact Go.via (fun T locs X _ t q => XS.ifNo X.here C.x rfl (hb C.by hd) rfl ((if0 _ _).trans r) q) (kf q (congrArg Int32.toInt q))
theorem lch_ne (x1 x2 : Int64) : ((lcmpW x1 x2) ≠ 0 → x1 ≠ x2) ∧ ((lcmpW x1 x2) = 0 → x1 = x2) := by
  have q := c_lcmp x1 x2
  have z : ∀ x : Int32, x = 0 ↔ x.toInt = 0 := fun x => ⟨fun q => by rw [q]; rfl, fun q => Int32.toInt_inj.mp q⟩
  have w : x1 = x2 ↔ x1.toInt = x2.toInt := Int64.toInt_inj.symm
  simp only [ne_eq, z, w]
  constructor <;> intro r <;> omega
theorem G.lcmp_ne (C : Cx p s m meth c Z y bytes maxL ret hB) {x1 x2 : Int64} {o : Int} {A B : Int} (hA : x1.toInt = A) (hB : x2.toInt = B) (hc : decode bytes pc = .ok (.lcmp, 1)) (hd : decode bytes (pc + 1) = .ok (.ifCond .ne o, 3)) (ho : 0 ≤ ((pc + 1 : Nat) : Int) + o) (hp : (((pc + 1 : Nat) : Int) + o).toNat = n') (hn : pc + 4 = n) (kt : x1 ≠ x2 → A ≠ B → Go p l e R s m args below meth c n0 Q cells slots h (mkF m n' Ls (st))) (kf : x1 = x2 → A = B → Go p l e R s m args below meth c n0 Q cells slots h (mkF m n Ls (st))) : Go p l e R s m args below meth c n0 Q cells slots h (mkF m pc Ls (.long x2 :: .long x1 :: st)) := by
  subst hn hA hB
  refine Go.via (fun T locs X _ t q => XS.lcmp X.here C.x rfl (hb C.by hc) rfl q) ?_
  exact G.if_ne C (A := (lcmpW x1 x2).toInt) rfl (pc := pc + 1) hd ho hp (n := pc + 4) rfl (fun q _ => kt ((lch_ne x1 x2).1 q) (fun r => (lch_ne x1 x2).1 q (Int64.toInt_inj.mp r))) (fun q _ => kf ((lch_ne x1 x2).2 q) (congrArg _ ((lch_ne x1 x2).2 q)))
theorem G.ifnullN (C : Cx p s m meth c Z y bytes maxL ret hB) {b : Addr} {o : Int} (hd : decode bytes pc = .ok (.ifnull o, 3)) (hn : pc + 3 = n) (k : Go p l e R s m args below meth c n0 Q cells slots h (mkF m n Ls (st))) : Go p l e R s m args below meth c n0 Q cells slots h (mkF m pc Ls (.ref b :: st)) := by
  subst hn
  exact Go.via (fun T locs X _ t q => XS.ifnullNo X.here C.x rfl (hb C.by hd) rfl q) k
theorem G.ifnullY (C : Cx p s m meth c Z y bytes maxL ret hB) {o : Int} (hd : decode bytes pc = .ok (.ifnull o, 3)) (ho : 0 ≤ (pc : Int) + o) (hp : ((pc : Int) + o).toNat = n) (k : Go p l e R s m args below meth c n0 Q cells slots h (mkF m n Ls (st))) : Go p l e R s m args below meth c n0 Q cells slots h (mkF m pc Ls (.null :: st)) :=
  Go.via (fun T locs X _ t q => XS.ifnullYes X.here C.x rfl rfl (hb C.by hd) rfl ho hp q) k
theorem G.ifnonnullY (C : Cx p s m meth c Z y bytes maxL ret hB) {b : Addr} {o : Int} (hd : decode bytes pc = .ok (.ifnonnull o, 3)) (ho : 0 ≤ (pc : Int) + o) (hp : ((pc : Int) + o).toNat = n) (k : Go p l e R s m args below meth c n0 Q cells slots h (mkF m n Ls (st))) : Go p l e R s m args below meth c n0 Q cells slots h (mkF m pc Ls (.ref b :: st)) :=
  Go.via (fun T locs X _ t q => XS.ifnonnullYes X.here C.x rfl rfl (hb C.by hd) rfl ho hp q) k
theorem G.ifnonnullN (C : Cx p s m meth c Z y bytes maxL ret hB) {o : Int} (hd : decode bytes pc = .ok (.ifnonnull o, 3)) (hn : pc + 3 = n) (k : Go p l e R s m args below meth c n0 Q cells slots h (mkF m n Ls (st))) : Go p l e R s m args below meth c n0 Q cells slots h (mkF m pc Ls (.null :: st)) := by
  subst hn
  exact Go.via (fun T locs X _ t q => XS.ifnonnullNo X.here C.x rfl (hb C.by hd) rfl q) k
theorem G.acmp_eq (C : Cx p s m meth c Z y bytes maxL ret hB) {x1 x2 : Value} {o : Int} (h1 : x1.isRef = true) (h2 : x2.isRef = true) (hd : decode bytes pc = .ok (.if_acmp .eq o, 3)) (ho : 0 ≤ (pc : Int) + o) (hp : ((pc : Int) + o).toNat = n') (hn : pc + 3 = n) (kt : x1 = x2 → Go p l e R s m args below meth c n0 Q cells slots h (mkF m n' Ls (st))) (kf : x1 ≠ x2 → Go p l e R s m args below meth c n0 Q cells slots h (mkF m n Ls (st))) : Go p l e R s m args below meth c n0 Q cells slots h (mkF m pc Ls (x2 :: x1 :: st)) := by
  subst hn
  by_cases r : x1 = x2
  · exact Go.via (fun T locs X _ t q => Jvm.RoadKit.acmp (g := mkF m pc Ls (x2 :: x1 :: st)) X C.x rfl h1 h2 (same := true) rfl (hb C.by hd) rfl (decide_eq_true r) ho (hp.symm) q) (kt r)
  · exact Go.via (fun T locs X _ t q => Jvm.RoadKit.acmp (g := mkF m pc Ls (x2 :: x1 :: st)) X C.x rfl h1 h2 (same := false) rfl (hb C.by hd) rfl (decide_eq_false r) ho (rfl) q) (kf r)
theorem G.acmp_ne (C : Cx p s m meth c Z y bytes maxL ret hB) {x1 x2 : Value} {o : Int} (h1 : x1.isRef = true) (h2 : x2.isRef = true) (hd : decode bytes pc = .ok (.if_acmp .ne o, 3)) (ho : 0 ≤ (pc : Int) + o) (hp : ((pc : Int) + o).toNat = n') (hn : pc + 3 = n) (kt : x1 ≠ x2 → Go p l e R s m args below meth c n0 Q cells slots h (mkF m n' Ls (st))) (kf : x1 = x2 → Go p l e R s m args below meth c n0 Q cells slots h (mkF m n Ls (st))) : Go p l e R s m args below meth c n0 Q cells slots h (mkF m pc Ls (x2 :: x1 :: st)) := by
  subst hn
  by_cases r : x1 = x2
  · exact Go.via (fun T locs X _ t q => Jvm.RoadKit.acmp (g := mkF m pc Ls (x2 :: x1 :: st)) X C.x rfl h1 h2 (same := true) rfl (hb C.by hd) rfl (decide_eq_true r) ho (rfl) q) (kf r)
  · exact Go.via (fun T locs X _ t q => Jvm.RoadKit.acmp (g := mkF m pc Ls (x2 :: x1 :: st)) X C.x rfl h1 h2 (same := false) rfl (hb C.by hd) rfl (decide_eq_false r) ho (hp.symm) q) (kt r)
theorem G.ldc (C : Cx p s m meth c Z y bytes maxL ret hB) {index : Nat} {v : Int32} (w : (Jvm.Cond.constant y.cls index v).before a0 Z = true) (hd : decode bytes pc = .ok (.ldc index, 2)) (hn : pc + 2 = n) (k : Go p l e R s m args below meth c n0 Q cells slots h (mkF m n Ls (.int v :: st))) : Go p l e R s m args below meth c n0 Q cells slots h (mkF m pc Ls (st)) := by
  subst hn
  exact Go.via (fun T locs X _ t q => X.ldcInt C.x C.own (mvT C.z w) (g := mkF m pc Ls st) rfl (hb C.by hd) t q) k
theorem G.ldc_w (C : Cx p s m meth c Z y bytes maxL ret hB) {index : Nat} {v : Int32} (w : (Jvm.Cond.constant y.cls index v).before a0 Z = true) (hd : decode bytes pc = .ok (.ldc_w index, 3)) (hn : pc + 3 = n) (k : Go p l e R s m args below meth c n0 Q cells slots h (mkF m n Ls (.int v :: st))) : Go p l e R s m args below meth c n0 Q cells slots h (mkF m pc Ls (st)) := by
  subst hn
  exact Go.via (fun T locs X _ t q => X.ldcwInt C.x C.own (mvT C.z w) (g := mkF m pc Ls st) rfl (hb C.by hd) t q) k
theorem G.ldc2 (C : Cx p s m meth c Z y bytes maxL ret hB) {index : Nat} {v : Int64} (w : (Jvm.Cond.constantLong y.cls index v).before a0 Z = true) (hd : decode bytes pc = .ok (.ldc2_w index, 3)) (hn : pc + 3 = n) (k : Go p l e R s m args below meth c n0 Q cells slots h (mkF m n Ls (.long v :: st))) : Go p l e R s m args below meth c n0 Q cells slots h (mkF m pc Ls (st)) := by
  subst hn
  exact Go.via (fun T locs X _ t q => X.ldc2Long C.x C.own (mvT C.z w) (g := mkF m pc Ls st) rfl (hb C.by hd) t q) k
theorem Go.leave (C : Cx p s m meth c Z y bytes maxL ret hB) {v : Option Value} {f : JFrame} (hv : ret = none → v = none) (hc : cells ≤ R.cells) (hs : slots ≤ R.slots)
    (hret : ∀ T locs, Stand p l e R s m args below meth c T locs cells slots → ∀ fs, (∀ (f : JFrame) (acts : List Action), f.method = m → f.locked = none → f.entered = [] → (doReturn e (T.setTop f) acts v).1 = T.setFrames fs) → Steps p.tables e below (T.setTop f) (T.setFrames fs))
    (q : ∀ vm', s.WarmedH vm' → Q v h vm') : Go p l e R s m args below meth c n0 Q cells slots h f := fun T locs X N e0 => by
  obtain ⟨fs, hr, hrun, hended, hW, hsame⟩ := X.leave (v := v) (fun q => hv (C.rt.symm.trans q)) C.locks
  refine ⟨_, _, hret T locs X fs hr, hrun, hended, v, locs, rfl, ⟨N, ?_⟩, ReturnedEndW.of_narrow ⟨_, rfl⟩ hW (hsame.mono hc hs), Nat.le_of_eq (congrArg Array.size e0.symm)⟩
  show Q v T.heap T.vm
  rw [e0]; exact q _ X.warmed
theorem G.return_ (C : Cx p s m meth c Z y bytes maxL none hB) (hd : decode bytes pc = .ok (.return_, 1)) (hc : cells ≤ R.cells) (hs : slots ≤ R.slots) (q : ∀ vm', s.WarmedH vm' → Q none h vm') : Go p l e R s m args below meth c n0 Q cells slots h (mkF m pc Ls ([])) :=
  Go.leave C (v := none) (fun _ => rfl) hc hs (fun T locs X fs hr => X.returnOut C.x C.rt (hb C.by hd) hr) q
theorem G.ireturn {t : FieldType} (C : Cx p s m meth c Z y bytes maxL (some t) hB) {x : Int32} (hd : decode bytes pc = .ok (.ireturn, 1)) (hnn : narrow t (.int x) = .int x) (ht : t = .int ∨ t = .boolean ∨ t = .byte ∨ t = .char ∨ t = .short) (hc : cells ≤ R.cells) (hs : slots ≤ R.slots) (q : ∀ vm', s.WarmedH vm' → Q (some (.int x)) h vm') : Go p l e R s m args below meth c n0 Q cells slots h (mkF m pc Ls (.int x :: st)) :=
  Go.leave C (v := some (.int x)) (fun q => nomatch q) hc hs (fun T locs X fs hr => retOut X C.x C.rt hnn (Or.inl ⟨rfl, ht, _, rfl⟩) (hb C.by hd) hr) q
theorem G.lreturn (C : Cx p s m meth c Z y bytes maxL (some .long) hB) {x : Int64} (hd : decode bytes pc = .ok (.lreturn, 1)) (hc : cells ≤ R.cells) (hs : slots ≤ R.slots) (q : ∀ vm', s.WarmedH vm' → Q (some (.long x)) h vm') : Go p l e R s m args below meth c n0 Q cells slots h (mkF m pc Ls (.long x :: st)) :=
  Go.leave C (v := some (.long x)) (fun q => nomatch q) hc hs (fun T locs X fs hr => retOut X C.x C.rt rfl (Or.inr (Or.inl ⟨rfl, rfl, _, rfl⟩)) (hb C.by hd) hr) q
theorem G.areturn {t : FieldType} (C : Cx p s m meth c Z y bytes maxL (some t) hB) {x : Value} (hd : decode bytes pc = .ok (.areturn, 1)) (ht : t.isReference = true) (hx : x.isRef = true) (hnn : narrow t x = x) (hc : cells ≤ R.cells) (hs : slots ≤ R.slots) (q : ∀ vm', s.WarmedH vm' → Q (some x) h vm') : Go p l e R s m args below meth c n0 Q cells slots h (mkF m pc Ls (x :: st)) :=
  Go.leave C (v := some x) (fun q => nomatch q) hc hs (fun T locs X fs hr => retOut X C.x C.rt hnn (Or.inr (Or.inr (Or.inr (Or.inr ⟨rfl, ht, hx⟩)))) (hb C.by hd) hr) q
theorem G.getfield (C : Cx p s m meth c Z y bytes maxL ret hB) {R0 O nm d host : String} {index : Nat} (w : (Jvm.Cond.fieldLink y.cls index R0 nm d).before a0 Z = true ∨ (Jvm.Cond.fieldLinkNest y.cls index R0 nm d host).before a0 Z = true) (via : Via Z R0 O nm d) {a : Addr} {v : Value} (F : Fld Z h a O nm d v) (hd : decode bytes pc = .ok (.getfield index, 3)) (hn : pc + 3 = n) (k : Go p l e R s m args below meth c n0 Q cells slots h (mkF m n Ls (v :: st))) : Go p l e R s m args below meth c n0 Q cells slots h (mkF m pc Ls (.ref a :: st)) := fun T locs X N q => by
  subst hn
  obtain ⟨T', X', e', st'⟩ := getF X C.x C.z C.own w via q F (g := mkF m pc Ls (.ref a :: st)) rfl rfl (hb C.by hd)
  obtain ⟨t, o, s1, r⟩ := k T' locs X' N e'
  exact ⟨t, o, st' t s1, r⟩
theorem G.getstatic (C : Cx p s m meth c Z y bytes maxL ret hB) {R0 O nm d host : String} {index : Nat} (w : (Jvm.Cond.fieldLink y.cls index R0 nm d).before a0 Z = true ∨ (Jvm.Cond.fieldLinkNest y.cls index R0 nm d host).before a0 Z = true) (via : Via Z R0 O nm d) {v : Value} (F : Sta Z h O nm d v) (hd : decode bytes pc = .ok (.getstatic index, 3)) (hn : pc + 3 = n) (k : Go p l e R s m args below meth c n0 Q cells slots h (mkF m n Ls (v :: st))) : Go p l e R s m args below meth c n0 Q cells slots h (mkF m pc Ls (st)) := fun T locs X N q => by
  subst hn
  obtain ⟨T', X', e', st'⟩ := getS2 X C.x C.z C.own w via q F (g := mkF m pc Ls st) rfl (hb C.by hd)
  obtain ⟨t, o, s1, r⟩ := k T' locs X' N e'
  exact ⟨t, o, st' t s1, r⟩
theorem G.putfield (C : Cx p s m meth c Z y bytes maxL ret hB) {R0 O nm d host K : String} {index kk : Nat} {ty : FieldType} (w : (Jvm.Cond.fieldLink y.cls index R0 nm d).before a0 Z = true ∨ (Jvm.Cond.fieldLinkNest y.cls index R0 nm d host).before a0 Z = true) (via : Via Z R0 O nm d) {a : Addr} {v old : Value} (F : Fld Z h a O nm d old) (E : Exa Z h a K)
    (L : (Jvm.Cond.lays K O nm d).before a0 Z = true ∨ ((Jvm.Cond.laysFinal K O nm d).before a0 Z = true ∧ y.cls = O ∧ y.name = "<init>")) (wi : (Jvm.Cond.instantiable K kk).before a0 Z = true) (hty : parseFieldDescriptor d = some ty) (hnn : narrow ty v = v) (hf : fits ty v = true) (g : n0 ≤ a)
    (hd : decode bytes pc = .ok (.putfield index, 3)) (hn : pc + 3 = n) (k : ∀ h', Wr h h' a (RoadKit.slotOf Z O nm d) v → Go p l e R s m args below meth c n0 Q cells slots h' (mkF m n Ls (st))) : Go p l e R s m args below meth c n0 Q cells slots h (mkF m pc Ls (v :: .ref a :: st)) := fun T locs X N q => by
  subst hn
  obtain ⟨T', h', X', e', W, st'⟩ := putF X C.x C.z C.own w via q F E (L.imp id fun r => ⟨r.1, r.2.1, C.nm.trans r.2.2⟩) wi hty hnn hf (g := mkF m pc Ls (v :: .ref a :: st)) rfl rfl (hb C.by hd)
  obtain ⟨t, o, s1, r⟩ := k h' W T' _ X' (Fr.snoc X' N g) e'
  exact ⟨t, o, st' t s1, Ende.up (Keep.of_wr W).1 r⟩
theorem G.putfieldN (C : Cx p s m meth c Z y bytes maxL ret hB) {R0 O nm d K : String} {index kk : Nat} {ty : FieldType} (w : (Jvm.Cond.fieldLink y.cls index R0 nm d).before a0 Z = true) (via : Via Z R0 O nm d) {a : Addr} {v v' old : Value} (F : Fld Z h a O nm d old) (E : Exa Z h a K)
    (L : (Jvm.Cond.lays K O nm d).before a0 Z = true ∨ ((Jvm.Cond.laysFinal K O nm d).before a0 Z = true ∧ y.cls = O ∧ y.name = "<init>")) (wi : (Jvm.Cond.instantiable K kk).before a0 Z = true) (hty : parseFieldDescriptor d = some ty) (hnn : narrow ty v = v') (hf : fits ty v' = true) (g : n0 ≤ a)
    (hd : decode bytes pc = .ok (.putfield index, 3)) (hn : pc + 3 = n) (k : ∀ h', Wr h h' a (RoadKit.slotOf Z O nm d) v' → Go p l e R s m args below meth c n0 Q cells slots h' (mkF m n Ls (st))) : Go p l e R s m args below meth c n0 Q cells slots h (mkF m pc Ls (v :: .ref a :: st)) := fun T locs X N q => by
  subst hn
  obtain ⟨T', h', X', e', W, st'⟩ := putFN X C.x C.z C.own w via q F E (L.imp id fun r => ⟨r.1, r.2.1, C.nm.trans r.2.2⟩) wi hty hnn hf (g := mkF m pc Ls (v :: .ref a :: st)) rfl rfl (hb C.by hd)
  obtain ⟨t, o, s1, r⟩ := k h' W T' _ X' (Fr.snoc X' N g) e'
  exact ⟨t, o, st' t s1, Ende.up (Keep.of_wr W).1 r⟩
theorem G.new (C : Cx p s m meth c Z y bytes maxL ret hB) {K : String} {index ns c' s' : Nat} (w : (Jvm.Cond.classLink y.cls index K).before a0 Z = true) (wi : (Jvm.Cond.instantiable K ns).before a0 Z = true) (wz : (Jvm.Cond.initialized K).before a0 Z = true) (hd : decode bytes pc = .ok (.new index, 3)) (hn : pc + 3 = n) (hc' : cells + 1 = c') (hs' : slots + ns = s') (hc : c' ≤ R.cells) (hs : s' ≤ R.slots)
    (k : ∀ h' b, b = h.size → Ext h h' → Exa Z h' b K → (∀ {O nm d : String} {ty : FieldType}, Laid Z a0 K O nm d → parseFieldDescriptor d = some ty → Fld Z h' b O nm d (defaultValue ty)) → Go p l e R s m args below meth c n0 Q c' s' h' (mkF m n Ls (.ref b :: st))) : Go p l e R s m args below meth c n0 Q cells slots h (mkF m pc Ls (st)) := fun T locs X N q => by
  subst hn hc' hs'
  obtain ⟨T', h', X', e', E, A, D, -, st'⟩ := newO X C.x C.z C.own w wi wz q (g := mkF m pc Ls st) rfl (hb C.by hd) hc hs
  obtain ⟨t, o, s1, r⟩ := k h' _ rfl E A D T' _ X' N e'
  exact ⟨t, o, st' t s1, Ende.up E.1 r⟩
theorem G.objinit (C : Cx p s m meth c Z y bytes maxL ret hB) {index W : Nat} (w1 : (Jvm.Cond.methodLink y.cls index Lib.objectInit).before a0 Z = true) (w2 : (Jvm.Cond.instanceMethod Lib.objectInit).before a0 Z = true) (w3 : (Jvm.Cond.code Lib.objectInit ⟨#[0xb1]⟩ 1 none).before a0 Z = true) {a : Addr} (hd : decode bytes pc = .ok (.invokespecial index, 3)) (hsz : Ls.size = maxL) (hf : 1 ≤ R.frames) (hW : (st.map fun v => v.category).sum = W) (hl : W + 12 ≤ R.locals) (hn : pc + 3 = n) (k : Go p l e R s m args below meth c n0 Q cells slots h (mkF m n Ls (st))) : Go p l e R s m args below meth c n0 Q cells slots h (mkF m pc Ls (.ref a :: st)) := fun T locs X N q => by
  subst hn hW
  obtain ⟨T', X', e', st'⟩ := initO X C.x C.z C.own w1 w2 w3 q (g := mkF m pc Ls (.ref a :: st)) rfl (hsz.trans C.ml.symm) rfl (hb C.by hd) hf (W := (st.map fun v => v.category).sum) (by show 2 * 0 + _ ≤ _; omega) hl
  obtain ⟨t, o, s1, r⟩ := k T' locs X' N e'
  exact ⟨t, o, st' t s1, r⟩
theorem G.callS (C : Cx p s m meth c Z y bytes maxL ret hB) {index W : Nat} {yc : MethodName} {bc : ByteArray} {mc : Nat} {rc : Option FieldType} {rm : Room} {c' s' : Nat} {Jc : Vm → Prop} {Qc : Option Value → Heap → Vm → Prop} {ps : List FieldType} {argsL stk : List Value} (w1 : (Jvm.Cond.methodLink y.cls index yc).before a0 Z = true) (w2 : (Jvm.Cond.static yc).before a0 Z = true) (w3 : (Jvm.Cond.initialized yc.cls).before a0 Z = true) (w4 : (Jvm.Cond.code yc bc mc rc).before a0 Z = true) (hy : yc.cls ≠ "java/lang/invoke/MethodHandle" ∧ yc.cls ≠ "java/lang/invoke/VarHandle") (M : Met l Z yc bc mc rc rm argsL.toArray h n0 Jc Qc) (hJ : ∀ vm', s.WarmedH vm' → Jc vm') (hsz : Ls.size = maxL) (hf : rm.frames + 1 ≤ R.frames) (hW : (st.map fun v => v.category).sum = W) (hl : W + (mc + 11) + rm.locals ≤ R.locals) (hc' : cells + rm.cells = c') (hs' : slots + rm.slots = s') (hc : c' ≤ R.cells) (hs : s' ≤ R.slots) (hd : decode bytes pc = .ok (.invokestatic index, 3)) (hn : pc + 3 = n) (hlen : parseMethodDescriptor yc.desc = some ⟨ps, rc⟩) (hal : argsL.length = ps.length) (hst : stk = argsL.reverse ++ st) (k : ∀ sN, Cx p sN m meth c Z y bytes maxL ret hB → ∀ v h', Qc v h' sN.vm → Go p l e R sN m args below meth c n0 Q c' s' h' (mkF m n Ls (v.toList ++ st))) : Go p l e R s m args below meth c n0 Q cells slots h (mkF m pc Ls (stk)) := fun T locs X N q => by
  subst hn hW hc' hs' hst
  obtain ⟨v, _, ⟨T', L', k', n''⟩, -, X', hS, hz, ⟨Lc, hQ, h1, h2, h3⟩, st'⟩ := callSS X C.x (y := yc) C.own (mvT C.z w1) (mvT C.z w2) (mvT C.z w3) (mvT C.z w4) hy (backOfSJ (W := (st.map fun v => v.category).sum) (Qc := fun v h vm L => Fr n0 L ∧ Qc v h vm) (M []) C.z hJ w4 w3 hf hl) (g := mkF m pc Ls (argsL.reverse ++ st)) rfl (hsz.trans C.ml.symm) (argsL := argsL) (rest := st) (lenOf hlen hal) rfl (by show 2 * 0 + _ ≤ _; omega) (hb C.by hd) (fun _ _ => ⟨rfl, q, hc, hs⟩)
  dsimp only [Pt.U, Pt.locs, Pt.cells, Pt.slots] at X' hS hz h1 h2 h3 st' hQ
  subst h1 h2 h3
  obtain ⟨t, o, s1, r⟩ := k _ (C.move hS.1) v _ hQ.2 T' _ X' (Fr.app N hQ.1) rfl
  exact ⟨t, o, st'.trans s1, Ende.back hS (Nat.le_refl _) (by rw [← q]; exact hz) r⟩
theorem G.callC (C : Cx p s m meth c Z y bytes maxL ret hB) {index W : Nat} {yc : MethodName} {bc : ByteArray} {mc : Nat} {rm : Room} {c' s' : Nat} {Jc : Vm → Prop} {Qc : Option Value → Heap → Vm → Prop} {ps : List FieldType} {argsL stk : List Value} {a : Addr} (hy1 : yc.name = "<init>") (w1 : (Jvm.Cond.methodLink y.cls index yc).before a0 Z = true) (w2 : (Jvm.Cond.instanceMethod yc).before a0 Z = true) (w3 : (Jvm.Cond.initialized yc.cls).before a0 Z = true) (w4 : (Jvm.Cond.code yc bc mc none).before a0 Z = true) (hy : yc.cls ≠ "java/lang/invoke/MethodHandle" ∧ yc.cls ≠ "java/lang/invoke/VarHandle") (M : Met l Z yc bc mc none rm (.ref a :: argsL).toArray h n0 Jc Qc) (hJ : ∀ vm', s.WarmedH vm' → Jc vm') (hsz : Ls.size = maxL) (hf : rm.frames + 1 ≤ R.frames) (hW : (st.map fun v => v.category).sum = W) (hl : W + (mc + 11) + rm.locals ≤ R.locals) (hc' : cells + rm.cells = c') (hs' : slots + rm.slots = s') (hc : c' ≤ R.cells) (hs : s' ≤ R.slots) (hd : decode bytes pc = .ok (.invokespecial index, 3)) (hn : pc + 3 = n) (hlen : parseMethodDescriptor yc.desc = some ⟨ps, none⟩) (hal : argsL.length = ps.length) (hst : stk = argsL.reverse ++ .ref a :: st) (k : ∀ sN, Cx p sN m meth c Z y bytes maxL ret hB → ∀ v h', Qc v h' sN.vm → Go p l e R sN m args below meth c n0 Q c' s' h' (mkF m n Ls (v.toList ++ st))) : Go p l e R s m args below meth c n0 Q cells slots h (mkF m pc Ls (stk)) := fun T locs X N q => by
  subst hn hW hc' hs' hst
  obtain ⟨v, _, ⟨T', L', k', n''⟩, -, X', hS, hz, ⟨Lc, hQ, h1, h2, h3⟩, st'⟩ := X.specialBackS C.x (y := yc) hy1 C.own (mvT C.z w1) (mvT C.z w2) (mvT C.z w4) hy (backOfSJ (W := (st.map fun v => v.category).sum) (Qc := fun v h vm L => Fr n0 L ∧ Qc v h vm) (M []) C.z hJ w4 w3 hf hl) (g := mkF m pc Ls (argsL.reverse ++ .ref a :: st)) rfl (hsz.trans C.ml.symm) (Steps.refl _) (a := a) (argsL := argsL) (rest := st) (lenOf hlen hal) rfl (by show 2 * 0 + _ ≤ _; omega) (hb C.by hd) (fun _ _ => ⟨rfl, q, hc, hs⟩)
  dsimp only [Pt.U, Pt.locs, Pt.cells, Pt.slots] at X' hS hz h1 h2 h3 st' hQ
  subst h1 h2 h3
  obtain ⟨t, o, s1, r⟩ := k _ (C.move hS.1) v _ hQ.2 T' _ X' (Fr.app N hQ.1) rfl
  exact ⟨t, o, st'.trans s1, Ende.back hS (Nat.le_refl _) (by rw [← q]; exact hz) r⟩
theorem G.callV (C : Cx p s m meth c Z y bytes maxL ret hB) {index W : Nat} {yc : MethodName} {bc : ByteArray} {mc : Nat} {rc : Option FieldType} {rm : Room} {c' s' : Nat} {Jc : Vm → Prop} {Qc : Option Value → Heap → Vm → Prop} {ps : List FieldType} {K : String} {yr : MethodName} {argsL stk : List Value} {a : Addr} (E : Exa Z h a K) (w1 : (Jvm.Cond.methodLink y.cls index yr).before a0 Z = true) (w5 : (Jvm.Cond.declares yr).before a0 Z = true) (hnf : ∀ s : State, Z.Warmed39 s.vm → NotFace s yr) (w6 : (Jvm.Cond.selects K yr yc).before a0 Z = true) (w2 : (Jvm.Cond.instanceMethod yc).before a0 Z = true) (w3 : (Jvm.Cond.initialized yc.cls).before a0 Z = true) (w4 : (Jvm.Cond.code yc bc mc rc).before a0 Z = true) (hy : yr.cls ≠ "java/lang/invoke/MethodHandle" ∧ yr.cls ≠ "java/lang/invoke/VarHandle") (M : Met l Z yc bc mc rc rm (.ref a :: argsL).toArray h n0 Jc Qc) (hJ : ∀ vm', s.WarmedH vm' → Jc vm') (hsz : Ls.size = maxL) (hf : rm.frames + 1 ≤ R.frames) (hW : (st.map fun v => v.category).sum = W) (hl : W + (mc + 11) + rm.locals ≤ R.locals) (hc' : cells + rm.cells = c') (hs' : slots + rm.slots = s') (hc : c' ≤ R.cells) (hs : s' ≤ R.slots) (hd : decode bytes pc = .ok (.invokevirtual index, 3)) (hn : pc + 3 = n) (hlen : parseMethodDescriptor yr.desc = some ⟨ps, rc⟩) (hal : argsL.length = ps.length) (hst : stk = argsL.reverse ++ .ref a :: st) (k : ∀ sN, Cx p sN m meth c Z y bytes maxL ret hB → ∀ v h', Qc v h' sN.vm → Go p l e R sN m args below meth c n0 Q c' s' h' (mkF m n Ls (v.toList ++ st))) : Go p l e R s m args below meth c n0 Q cells slots h (mkF m pc Ls (stk)) := fun T locs X N q => by
  subst hn hW hc' hs' hst
  obtain ⟨cq, kq, qa, qb, qc⟩ := isOf C.z q E
  obtain ⟨v, _, ⟨T', L', k', n''⟩, -, X', hS, hz, ⟨Lc, hQ, h1, h2, h3⟩, st'⟩ := X.virtualBackS C.x (y := yr) (z := yc) C.own (mvT C.z w1) (mvT C.z w5) (hnf s C.z) (mvT C.z w6) (mvT C.z w2) hy (backOfSJ (W := (st.map fun v => v.category).sum) (Qc := fun v h vm L => Fr n0 L ∧ Qc v h vm) (M []) C.z hJ w4 w3 hf hl) qa qc (g := mkF m pc Ls (argsL.reverse ++ .ref a :: st)) rfl (hsz.trans C.ml.symm) (Steps.refl _) (argsL := argsL) (rest := st) (lenOf hlen hal) rfl (by show 2 * 0 + _ ≤ _; omega) (hb C.by hd) (fun _ _ => ⟨rfl, q, hc, hs⟩)
  dsimp only [Pt.U, Pt.locs, Pt.cells, Pt.slots] at X' hS hz h1 h2 h3 st' hQ
  subst h1 h2 h3
  obtain ⟨t, o, s1, r⟩ := k _ (C.move hS.1) v _ hQ.2 T' _ X' (Fr.app N hQ.1) rfl
  exact ⟨t, o, st'.trans s1, Ende.back hS (Nat.le_refl _) (by rw [← q]; exact hz) r⟩
theorem nfS {yr : MethodName} {K : String} {z : MethodName} (w6 : (Jvm.Cond.selects K yr z).before a0 Z = true) (hz : z = yr) : ∀ s : State, Z.Warmed39 s.vm → NotFace s yr := fun s hZ => by
  subst hz
  exact notFace_of_selects (args := #[]) (mvT hZ w6)
def Ints (Z : State) (h : Heap) (a : Addr) (ty : FieldType) (vs : List Int32) : Prop := ∃ k z, Arv Z h a k ty z (vs.map Value.int) (.int 0) ∧ z.toInt = vs.length
def Longs (Z : State) (h : Heap) (a : Addr) (vs : List Int64) : Prop := ∃ k z, Arv Z h a k .long z (vs.map Value.long) (.long 0) ∧ z.toInt = vs.length
theorem nat_clamp {j : Int32} : j.toNatClampNeg = j.toInt.toNat := rfl
theorem not_neg {j : Int32} (hj : 0 ≤ j.toInt) : ¬ j < 0 := by rw [lt_i]; exact Int.not_lt.mpr hj
theorem of_not_neg {j : Int32} (hj : ¬ j < 0) : 0 ≤ j.toInt := by rw [lt_i] at hj; exact Int.not_lt.mp hj
theorem inb {j z : Int32} {cl : Cell} {len : Nat} (hj : 0 ≤ j.toInt) (S : cl.slots.size = z.toNatClampNeg) (hz : z.toInt = len) (hl : j.toInt.toNat < len) : ¬ (j < 0 ∨ cl.slots.size ≤ j.toNatClampNeg) := by
  rintro (q | q)
  · exact not_neg hj q
  · rw [S, nat_clamp, nat_clamp, hz] at q; omega
theorem getD_map {α : Type} (f : α → Value) (vs : List α) (i : Nat) (d : Value) {x : α} (hx : vs[i]? = some x) : (vs.map f).getD i d = f x := by
  rw [List.getD_eq_getElem?_getD, List.getElem?_map, hx]; rfl
theorem lt_of_some {α : Type} {vs : List α} {i : Nat} {x : α} (hx : vs[i]? = some x) : i < vs.length := (List.getElem?_eq_some_iff.mp hx).1
theorem Ints.lt {a : Addr} {ty : FieldType} {vs : List Int32} (F : Ints Z h a ty vs) : a < h.size := by obtain ⟨k, z, A, -⟩ := F; exact A.lt
theorem Ints.ext {h' : Heap} {a : Addr} {ty : FieldType} {vs : List Int32} (F : Ints Z h a ty vs) (E : Ext h h') : Ints Z h' a ty vs := by obtain ⟨k, z, A, q⟩ := F; exact ⟨k, z, A.ext E, q⟩
theorem Ints.keep {h' : Heap} {ws : List Addr} {a : Addr} {ty : FieldType} {vs : List Int32} (F : Ints Z h a ty vs) (K : Keep h h' ws) (r : a ∉ ws) : Ints Z h' a ty vs := by obtain ⟨k, z, A, q⟩ := F; exact ⟨k, z, A.keep K r, q⟩
theorem Ints.other {h' : Heap} {sl : Nat} {v : Value} {a b : Addr} {ty : FieldType} {vs : List Int32} (F : Ints Z h a ty vs) (W : Wr h h' b sl v) (r : a ≠ b) : Ints Z h' a ty vs := by obtain ⟨k, z, A, q⟩ := F; exact ⟨k, z, A.other W r, q⟩
theorem Ints.len {a : Addr} {ty : FieldType} {vs : List Int32} (F : Ints Z h a ty vs) : (vs.length : Int) < 2147483648 := by obtain ⟨k, z, A, q⟩ := F; rw [← q]; exact (rng32 z).2
theorem Ints.at {a : Addr} {ty : FieldType} {vs : List Int32} (F : Ints Z h a ty vs) {j : Int32} {x : Int32} (hj : 0 ≤ j.toInt) (hx : vs[j.toInt.toNat]? = some x) : ∃ cl, Arr Z h a cl ty ∧ ¬ (j < 0 ∨ cl.slots.size ≤ j.toNatClampNeg) ∧ cl.slots[j.toNatClampNeg]? = some (.int x) ∧ fits ty (.int x) = true := by
  obtain ⟨k, z, ⟨cl, A, q1, S, N, H, G⟩, hz⟩ := F
  have hi := inb hj S hz (lt_of_some hx)
  have hi2 : j.toNatClampNeg < cl.slots.size := Nat.lt_of_not_le fun y => hi (Or.inr y)
  have e1 := H _ hi2
  have e2 := G _ hi2
  rw [nat_clamp, getD_map _ _ _ _ hx] at e1 e2
  exact ⟨cl, A, hi, e1, e2⟩
theorem Ints.put {h' : Heap} {a : Addr} {ty : FieldType} {vs : List Int32} (F : Ints Z h a ty vs) {j : Int32} {x : Int32} (hj : 0 ≤ j.toInt) (hl : j.toInt < vs.length) (hf : fits ty (.int x) = true) : ∃ cl, Arr Z h a cl ty ∧ ¬ (j < 0 ∨ cl.slots.size ≤ j.toNatClampNeg) ∧ (Wr h h' a j.toNatClampNeg (.int x) → Ints Z h' a ty (vs.set j.toInt.toNat x)) := by
  obtain ⟨k, z, ⟨cl, A, q1, S, N, H, G⟩, hz⟩ := F
  have hl2 : j.toInt.toNat < vs.length := by omega
  refine ⟨cl, A, inb hj S hz hl2, fun W => ⟨k, z, ?_, ?_⟩⟩
  · have r := Arv.set A q1 S N H G hf W j.toInt.toNat rfl (by rw [List.length_map]; exact hl2)
    rw [List.map_set]; exact r
  · rw [List.length_set]; exact hz
theorem Longs.lt {a : Addr} {vs : List Int64} (F : Longs Z h a vs) : a < h.size := by obtain ⟨k, z, A, -⟩ := F; exact A.lt
theorem Longs.ext {h' : Heap} {a : Addr} {vs : List Int64} (F : Longs Z h a vs) (E : Ext h h') : Longs Z h' a vs := by obtain ⟨k, z, A, q⟩ := F; exact ⟨k, z, A.ext E, q⟩
theorem Longs.keep {h' : Heap} {ws : List Addr} {a : Addr} {vs : List Int64} (F : Longs Z h a vs) (K : Keep h h' ws) (r : a ∉ ws) : Longs Z h' a vs := by obtain ⟨k, z, A, q⟩ := F; exact ⟨k, z, A.keep K r, q⟩
theorem Longs.other {h' : Heap} {sl : Nat} {v : Value} {a b : Addr} {vs : List Int64} (F : Longs Z h a vs) (W : Wr h h' b sl v) (r : a ≠ b) : Longs Z h' a vs := by obtain ⟨k, z, A, q⟩ := F; exact ⟨k, z, A.other W r, q⟩
theorem Longs.len {a : Addr} {vs : List Int64} (F : Longs Z h a vs) : (vs.length : Int) < 2147483648 := by obtain ⟨k, z, A, q⟩ := F; rw [← q]; exact (rng32 z).2
theorem Longs.at {a : Addr} {vs : List Int64} (F : Longs Z h a vs) {j : Int32} {x : Int64} (hj : 0 ≤ j.toInt) (hx : vs[j.toInt.toNat]? = some x) : ∃ cl, Arr Z h a cl .long ∧ ¬ (j < 0 ∨ cl.slots.size ≤ j.toNatClampNeg) ∧ cl.slots[j.toNatClampNeg]? = some (.long x) ∧ fits .long (.long x) = true := by
  obtain ⟨k, z, ⟨cl, A, q1, S, N, H, G⟩, hz⟩ := F
  have hi := inb hj S hz (lt_of_some hx)
  have hi2 : j.toNatClampNeg < cl.slots.size := Nat.lt_of_not_le fun y => hi (Or.inr y)
  have e1 := H _ hi2
  have e2 := G _ hi2
  rw [nat_clamp, getD_map _ _ _ _ hx] at e1 e2
  exact ⟨cl, A, hi, e1, e2⟩
theorem Longs.put {h' : Heap} {a : Addr} {vs : List Int64} (F : Longs Z h a vs) {j : Int32} {x : Int64} (hj : 0 ≤ j.toInt) (hl : j.toInt < vs.length) (hf : fits .long (.long x) = true) : ∃ cl, Arr Z h a cl .long ∧ ¬ (j < 0 ∨ cl.slots.size ≤ j.toNatClampNeg) ∧ (Wr h h' a j.toNatClampNeg (.long x) → Longs Z h' a (vs.set j.toInt.toNat x)) := by
  obtain ⟨k, z, ⟨cl, A, q1, S, N, H, G⟩, hz⟩ := F
  have hl2 : j.toInt.toNat < vs.length := by omega
  refine ⟨cl, A, inb hj S hz hl2, fun W => ⟨k, z, ?_, ?_⟩⟩
  · have r := Arv.set A q1 S N H G hf W j.toInt.toNat rfl (by rw [List.length_map]; exact hl2)
    rw [List.map_set]; exact r
  · rw [List.length_set]; exact hz
theorem G.iaload (C : Cx p s m meth c Z y bytes maxL ret hB) {a : Addr} {j : Int32} {x : Int32} {vs : List Int32} (F : Ints Z h a .int vs) (hj : 0 ≤ j.toInt) (hx : vs[j.toInt.toNat]? = some x) (hd : decode bytes pc = .ok (.iaload, 1)) (hn : pc + 1 = n) (k : Go p l e R s m args below meth c n0 Q cells slots h (mkF m n Ls (.int x :: st))) : Go p l e R s m args below meth c n0 Q cells slots h (mkF m pc Ls (.int j :: .ref a :: st)) := by
  subst hn
  obtain ⟨cl, A, h1, h2, -⟩ := F.at hj hx
  exact Go.via (fun T locs X q t r => X.iaload C.x (j := j) (v := .int x) (by rw [q]; exact A.1) (State.isArrayOf_alike C.z.alike A.2.1) A.2.2 h1 h2 (g := mkF m pc Ls (.int j :: .ref a :: st)) rfl rfl (hb C.by hd) t r) k
theorem G.laload (C : Cx p s m meth c Z y bytes maxL ret hB) {a : Addr} {j : Int32} {x : Int64} {vs : List Int64} (F : Longs Z h a vs) (hj : 0 ≤ j.toInt) (hx : vs[j.toInt.toNat]? = some x) (hd : decode bytes pc = .ok (.laload, 1)) (hn : pc + 1 = n) (k : Go p l e R s m args below meth c n0 Q cells slots h (mkF m n Ls (.long x :: st))) : Go p l e R s m args below meth c n0 Q cells slots h (mkF m pc Ls (.int j :: .ref a :: st)) := by
  subst hn
  obtain ⟨cl, A, h1, h2, -⟩ := F.at hj hx
  exact Go.via (fun T locs X q t r => X.laload C.x (j := j) (v := .long x) (by rw [q]; exact A.1) (State.isArrayOf_alike C.z.alike A.2.1) A.2.2 h1 h2 (g := mkF m pc Ls (.int j :: .ref a :: st)) rfl rfl (hb C.by hd) t r) k
theorem G.caload (C : Cx p s m meth c Z y bytes maxL ret hB) {a : Addr} {j : Int32} {x : Int32} {vs : List Int32} (F : Ints Z h a .char vs) (hj : 0 ≤ j.toInt) (hx : vs[j.toInt.toNat]? = some x) (hd : decode bytes pc = .ok (.caload, 1)) (hn : pc + 1 = n) (k : Go p l e R s m args below meth c n0 Q cells slots h (mkF m n Ls (.int x :: st))) : Go p l e R s m args below meth c n0 Q cells slots h (mkF m pc Ls (.int j :: .ref a :: st)) := by
  subst hn
  obtain ⟨cl, A, h1, h2, -⟩ := F.at hj hx
  exact Go.via (fun T locs X q t r => X.caload C.x (j := j) (v := .int x) (by rw [q]; exact A.1) (State.isArrayOf_alike C.z.alike A.2.1) A.2.2 h1 h2 (g := mkF m pc Ls (.int j :: .ref a :: st)) rfl rfl (hb C.by hd) t r) k
theorem G.baload (C : Cx p s m meth c Z y bytes maxL ret hB) {a : Addr} {j : Int32} {x : Int32} {vs : List Int32} (F : Ints Z h a .byte vs) (hj : 0 ≤ j.toInt) (hx : vs[j.toInt.toNat]? = some x) (hd : decode bytes pc = .ok (.baload, 1)) (hn : pc + 1 = n) (k : Go p l e R s m args below meth c n0 Q cells slots h (mkF m n Ls (.int x :: st))) : Go p l e R s m args below meth c n0 Q cells slots h (mkF m pc Ls (.int j :: .ref a :: st)) := by
  subst hn
  obtain ⟨cl, A, h1, h2, -⟩ := F.at hj hx
  exact Go.via (fun T locs X q t r => X.baloadBytes C.x (j := j) (v := .int x) (by rw [q]; exact A.1) (State.isArrayOf_alike C.z.alike A.2.1) A.2.2 h1 h2 (g := mkF m pc Ls (.int j :: .ref a :: st)) rfl rfl (hb C.by hd) t r) k
theorem G.baloadZ (C : Cx p s m meth c Z y bytes maxL ret hB) {a : Addr} {j : Int32} {x : Int32} {vs : List Int32} (F : Ints Z h a .boolean vs) (hj : 0 ≤ j.toInt) (hx : vs[j.toInt.toNat]? = some x) (hd : decode bytes pc = .ok (.baload, 1)) (hn : pc + 1 = n) (k : Go p l e R s m args below meth c n0 Q cells slots h (mkF m n Ls (.int x :: st))) : Go p l e R s m args below meth c n0 Q cells slots h (mkF m pc Ls (.int j :: .ref a :: st)) := by
  subst hn
  obtain ⟨cl, A, h1, h2, -⟩ := F.at hj hx
  exact Go.via (fun T locs X q t r => X.baloadBooleans C.x (j := j) (v := .int x) (by rw [q]; exact A.1) (State.isArrayOf_alike C.z.alike A.2.1) A.2.2 h1 h2 (g := mkF m pc Ls (.int j :: .ref a :: st)) rfl rfl (hb C.by hd) t r) k
theorem G.iastore (C : Cx p s m meth c Z y bytes maxL ret hB) {a : Addr} {j : Int32} {x : Int32} {vs : List Int32} (F : Ints Z h a .int vs) (hj : 0 ≤ j.toInt) (hl : j.toInt < vs.length) (g : n0 ≤ a) (hd : decode bytes pc = .ok (.iastore, 1)) (hn : pc + 1 = n) (k : ∀ h', Keep h h' [a] → (∃ w, Wr h h' a j.toNatClampNeg w) → Ints Z h' a .int (vs.set j.toInt.toNat x) → Go p l e R s m args below meth c n0 Q cells slots h' (mkF m n Ls (st))) : Go p l e R s m args below meth c n0 Q cells slots h (mkF m pc Ls (.int x :: .int j :: .ref a :: st)) := fun T locs X N q => by
  subst hn
  obtain ⟨cl, A, h1, -⟩ := F.put (h' := h) hj hl (x := x) rfl
  obtain ⟨T', h', X', e', W, st'⟩ := stI X C.x C.z q A (j := j) h1 (g := mkF m pc Ls (.int x :: .int j :: .ref a :: st)) rfl rfl (hb C.by hd)
  obtain ⟨cl2, A2, -, h3⟩ := F.put (h' := h') hj hl (x := x) rfl
  obtain ⟨t, o, s1, r⟩ := k h' (Keep.of_wr W) ⟨_, W⟩ (h3 W) T' _ X' (Fr.snoc X' N g) e'
  exact ⟨t, o, st' t s1, Ende.up (Keep.of_wr W).1 r⟩
theorem G.lastore (C : Cx p s m meth c Z y bytes maxL ret hB) {a : Addr} {j : Int32} {x : Int64} {vs : List Int64} (F : Longs Z h a vs) (hj : 0 ≤ j.toInt) (hl : j.toInt < vs.length) (g : n0 ≤ a) (hd : decode bytes pc = .ok (.lastore, 1)) (hn : pc + 1 = n) (k : ∀ h', Keep h h' [a] → (∃ w, Wr h h' a j.toNatClampNeg w) → Longs Z h' a (vs.set j.toInt.toNat x) → Go p l e R s m args below meth c n0 Q cells slots h' (mkF m n Ls (st))) : Go p l e R s m args below meth c n0 Q cells slots h (mkF m pc Ls (.long x :: .int j :: .ref a :: st)) := fun T locs X N q => by
  subst hn
  obtain ⟨cl, A, h1, -⟩ := F.put (h' := h) hj hl (x := x) rfl
  obtain ⟨T', h', X', e', W, st'⟩ := stJ X C.x C.z q A (j := j) h1 (g := mkF m pc Ls (.long x :: .int j :: .ref a :: st)) rfl rfl (hb C.by hd)
  obtain ⟨cl2, A2, -, h3⟩ := F.put (h' := h') hj hl (x := x) rfl
  obtain ⟨t, o, s1, r⟩ := k h' (Keep.of_wr W) ⟨_, W⟩ (h3 W) T' _ X' (Fr.snoc X' N g) e'
  exact ⟨t, o, st' t s1, Ende.up (Keep.of_wr W).1 r⟩
theorem G.castore (C : Cx p s m meth c Z y bytes maxL ret hB) {a : Addr} {j : Int32} {x : Int32} {vs : List Int32} (F : Ints Z h a .char vs) (hj : 0 ≤ j.toInt) (hl : j.toInt < vs.length) (g : n0 ≤ a) (hd : decode bytes pc = .ok (.castore, 1)) (hn : pc + 1 = n) (k : ∀ h', Keep h h' [a] → (∃ w, Wr h h' a j.toNatClampNeg w) → Ints Z h' a .char (vs.set j.toInt.toNat (nar .char x)) → Go p l e R s m args below meth c n0 Q cells slots h' (mkF m n Ls (st))) : Go p l e R s m args below meth c n0 Q cells slots h (mkF m pc Ls (.int x :: .int j :: .ref a :: st)) := fun T locs X N q => by
  subst hn
  obtain ⟨cl, A, h1, -⟩ := F.put (h' := h) hj hl (x := (nar .char x)) (fits_nar_char x)
  obtain ⟨T', h', X', e', W, st'⟩ := stC X C.x C.z q A (j := j) h1 (g := mkF m pc Ls (.int x :: .int j :: .ref a :: st)) rfl rfl (hb C.by hd)
  obtain ⟨cl2, A2, -, h3⟩ := F.put (h' := h') hj hl (x := (nar .char x)) (fits_nar_char x)
  obtain ⟨t, o, s1, r⟩ := k h' (Keep.of_wr W) ⟨_, W⟩ (h3 W) T' _ X' (Fr.snoc X' N g) e'
  exact ⟨t, o, st' t s1, Ende.up (Keep.of_wr W).1 r⟩
theorem G.bastore (C : Cx p s m meth c Z y bytes maxL ret hB) {a : Addr} {j : Int32} {x : Int32} {vs : List Int32} (F : Ints Z h a .byte vs) (hj : 0 ≤ j.toInt) (hl : j.toInt < vs.length) (g : n0 ≤ a) (hd : decode bytes pc = .ok (.bastore, 1)) (hn : pc + 1 = n) (k : ∀ h', Keep h h' [a] → (∃ w, Wr h h' a j.toNatClampNeg w) → Ints Z h' a .byte (vs.set j.toInt.toNat (nar .byte x)) → Go p l e R s m args below meth c n0 Q cells slots h' (mkF m n Ls (st))) : Go p l e R s m args below meth c n0 Q cells slots h (mkF m pc Ls (.int x :: .int j :: .ref a :: st)) := fun T locs X N q => by
  subst hn
  obtain ⟨cl, A, h1, -⟩ := F.put (h' := h) hj hl (x := (nar .byte x)) (fits_nar_byte x)
  obtain ⟨T', h', X', e', W, st'⟩ := stB X C.x C.z q A (j := j) h1 (g := mkF m pc Ls (.int x :: .int j :: .ref a :: st)) rfl rfl (hb C.by hd)
  obtain ⟨cl2, A2, -, h3⟩ := F.put (h' := h') hj hl (x := (nar .byte x)) (fits_nar_byte x)
  obtain ⟨t, o, s1, r⟩ := k h' (Keep.of_wr W) ⟨_, W⟩ (h3 W) T' _ X' (Fr.snoc X' N g) e'
  exact ⟨t, o, st' t s1, Ende.up (Keep.of_wr W).1 r⟩
theorem G.bastoreZ (C : Cx p s m meth c Z y bytes maxL ret hB) {a : Addr} {j : Int32} {x : Int32} {vs : List Int32} (F : Ints Z h a .boolean vs) (hj : 0 ≤ j.toInt) (hl : j.toInt < vs.length) (g : n0 ≤ a) (hd : decode bytes pc = .ok (.bastore, 1)) (hn : pc + 1 = n) (k : ∀ h', Keep h h' [a] → (∃ w, Wr h h' a j.toNatClampNeg w) → Ints Z h' a .boolean (vs.set j.toInt.toNat (nar .boolean x)) → Go p l e R s m args below meth c n0 Q cells slots h' (mkF m n Ls (st))) : Go p l e R s m args below meth c n0 Q cells slots h (mkF m pc Ls (.int x :: .int j :: .ref a :: st)) := fun T locs X N q => by
  subst hn
  obtain ⟨cl, A, h1, -⟩ := F.put (h' := h) hj hl (x := (nar .boolean x)) (fits_nar_bool x)
  obtain ⟨T', h', X', e', W, st'⟩ := stZ X C.x C.z q A (j := j) h1 (g := mkF m pc Ls (.int x :: .int j :: .ref a :: st)) rfl rfl (hb C.by hd)
  obtain ⟨cl2, A2, -, h3⟩ := F.put (h' := h') hj hl (x := (nar .boolean x)) (fits_nar_bool x)
  obtain ⟨t, o, s1, r⟩ := k h' (Keep.of_wr W) ⟨_, W⟩ (h3 W) T' _ X' (Fr.snoc X' N g) e'
  exact ⟨t, o, st' t s1, Ende.up (Keep.of_wr W).1 r⟩
theorem len32 {z : Int32} {k : Nat} (hz : z.toInt = k) : z = Int32.ofNat k := by
  have h2 := (rng32 z).2
  exact Int32.toInt_inj.mp (by rw [Int32.toInt_ofNat_of_lt (by omega)]; exact hz)
theorem G.arraylengthI (C : Cx p s m meth c Z y bytes maxL ret hB) {a : Addr} {ty : FieldType} {vs : List Int32} {len : Int32} (F : Ints Z h a ty vs) (hlen : len.toInt = vs.length) (hd : decode bytes pc = .ok (.arraylength, 1)) (hn : pc + 1 = n) (k : Go p l e R s m args below meth c n0 Q cells slots h (mkF m n Ls (.int len :: st))) : Go p l e R s m args below meth c n0 Q cells slots h (mkF m pc Ls (.ref a :: st)) := by
  subst hn
  obtain ⟨k', z, ⟨cl, A, q1, S, N, H, G⟩, hz⟩ := F
  have e1 : cl.slots.size.toInt32 = len := (len_of S N).trans (Int32.toInt_inj.mp (hz.trans hlen.symm))
  exact Go.via (fun T locs X q t r => X.arraylength C.x (by rw [q]; exact A.1) (State.isArrayOf_alike C.z.alike A.2.1) (g := mkF m pc Ls (.ref a :: st)) rfl rfl (hb C.by hd) t (by rw [e1]; exact r)) k
theorem G.arraylengthL (C : Cx p s m meth c Z y bytes maxL ret hB) {a : Addr} {vs : List Int64} {len : Int32} (F : Longs Z h a vs) (hlen : len.toInt = vs.length) (hd : decode bytes pc = .ok (.arraylength, 1)) (hn : pc + 1 = n) (k : Go p l e R s m args below meth c n0 Q cells slots h (mkF m n Ls (.int len :: st))) : Go p l e R s m args below meth c n0 Q cells slots h (mkF m pc Ls (.ref a :: st)) := by
  subst hn
  obtain ⟨k', z, ⟨cl, A, q1, S, N, H, G⟩, hz⟩ := F
  have e1 : cl.slots.size.toInt32 = len := (len_of S N).trans (Int32.toInt_inj.mp (hz.trans hlen.symm))
  exact Go.via (fun T locs X q t r => X.arraylength C.x (by rw [q]; exact A.1) (State.isArrayOf_alike C.z.alike A.2.1) (g := mkF m pc Ls (.ref a :: st)) rfl rfl (hb C.by hd) t (by rw [e1]; exact r)) k
theorem G.newarray (C : Cx p s m meth c Z y bytes maxL ret hB) {aty : ArrayType} {ty : FieldType} {len : Int32} {cap c' s' : Nat} (w : (Jvm.Cond.arrayClass ty).before a0 Z = true) (hty : newarray.typeOf aty = ty) (hdv : defaultValue ty = .int 0) (hlen : 0 ≤ len.toInt) (hcap : len.toInt ≤ cap) (hbig : cap * 8 ≤ 536870912) (hd : decode bytes pc = .ok (.newarray aty, 2)) (hn : pc + 2 = n) (hc' : cells + 1 = c') (hs' : slots + cap = s') (hc : c' ≤ R.cells) (hs : s' ≤ R.slots)
    (k : ∀ h' b, b = h.size → Ext h h' → Ints Z h' b ty (List.replicate len.toInt.toNat 0) → Go p l e R s m args below meth c n0 Q c' s' h' (mkF m n Ls (.ref b :: st))) : Go p l e R s m args below meth c n0 Q cells slots h (mkF m pc Ls (.int len :: st)) := fun T locs X N q => by
  subst hn hc' hs' hty
  obtain ⟨T', h', cA, X', e', E, A, st'⟩ := newP X C.x C.z w q (g := mkF m pc Ls (.int len :: st)) rfl (hb C.by hd) rfl (not_neg hlen) (cap := cap) (by rw [nat_clamp]; omega) hbig hc hs
  have V := (Arv.new A (not_neg hlen))
  rw [hdv] at V
  have V2 := V.pad (pad_rep [] _ len.toInt.toNat)
  rw [List.nil_append, ← List.map_replicate (f := Value.int)] at V2
  obtain ⟨t, o, s1, r⟩ := k h' _ rfl E ⟨cA, len, V2, by rw [List.length_replicate]; omega⟩ T' _ X' N e'
  exact ⟨t, o, st' t s1, Ende.up E.1 r⟩
theorem G.newarrayJ (C : Cx p s m meth c Z y bytes maxL ret hB) {aty : ArrayType} {ty : FieldType} {len : Int32} {cap c' s' : Nat} (w : (Jvm.Cond.arrayClass ty).before a0 Z = true) (hty : newarray.typeOf aty = ty) (hdv : defaultValue ty = .long 0) (hJ : ty = .long) (hlen : 0 ≤ len.toInt) (hcap : len.toInt ≤ cap) (hbig : cap * 8 ≤ 536870912) (hd : decode bytes pc = .ok (.newarray aty, 2)) (hn : pc + 2 = n) (hc' : cells + 1 = c') (hs' : slots + cap = s') (hc : c' ≤ R.cells) (hs : s' ≤ R.slots)
    (k : ∀ h' b, b = h.size → Ext h h' → Longs Z h' b (List.replicate len.toInt.toNat 0) → Go p l e R s m args below meth c n0 Q c' s' h' (mkF m n Ls (.ref b :: st))) : Go p l e R s m args below meth c n0 Q cells slots h (mkF m pc Ls (.int len :: st)) := fun T locs X N q => by
  subst hn hc' hs' hty
  obtain ⟨T', h', cA, X', e', E, A, st'⟩ := newP X C.x C.z w q (g := mkF m pc Ls (.int len :: st)) rfl (hb C.by hd) rfl (not_neg hlen) (cap := cap) (by rw [nat_clamp]; omega) hbig hc hs
  have V := (Arv.new A (not_neg hlen))
  rw [hdv] at V
  have V2 := V.pad (pad_rep [] _ len.toInt.toNat)
  rw [List.nil_append, ← List.map_replicate (f := Value.long), hJ] at V2
  obtain ⟨t, o, s1, r⟩ := k h' _ rfl E ⟨cA, len, V2, by rw [List.length_replicate]; omega⟩ T' _ X' N e'
  exact ⟨t, o, st' t s1, Ende.up E.1 r⟩
theorem getD_at {α : Type} {vs : List α} {i : Nat} {d : α} (h : i < vs.length) : vs[i]? = some (vs.getD i d) := by
  rw [List.getD_eq_getElem?_getD, List.getElem?_eq_getElem h]; rfl
def Refs (Z : State) (h : Heap) (a : Addr) (ty : FieldType) (vs : List Value) : Prop := ∃ k z, Arv Z h a k ty z vs .null ∧ z.toInt = vs.length
theorem Refs.lt {a : Addr} {ty : FieldType} {vs : List Value} (F : Refs Z h a ty vs) : a < h.size := by obtain ⟨k, z, A, -⟩ := F; exact A.lt
theorem Refs.keep {h' : Heap} {ws : List Addr} {a : Addr} {ty : FieldType} {vs : List Value} (F : Refs Z h a ty vs) (K : Keep h h' ws) (r : a ∉ ws) : Refs Z h' a ty vs := by obtain ⟨k, z, A, q⟩ := F; exact ⟨k, z, A.keep K r, q⟩
theorem Refs.at {a : Addr} {ty : FieldType} {vs : List Value} (F : Refs Z h a ty vs) {j : Int32} {x : Value} (hj : 0 ≤ j.toInt) (hx : vs[j.toInt.toNat]? = some x) : ∃ cl, Arr Z h a cl ty ∧ ¬ (j < 0 ∨ cl.slots.size ≤ j.toNatClampNeg) ∧ cl.slots[j.toNatClampNeg]? = some x := by
  obtain ⟨k, z, ⟨cl, A, q1, S, N, H, G⟩, hz⟩ := F
  have hi := inb hj S hz (lt_of_some hx)
  have hi2 : j.toNatClampNeg < cl.slots.size := Nat.lt_of_not_le fun y => hi (Or.inr y)
  have e1 := H _ hi2
  rw [nat_clamp, List.getD_eq_getElem?_getD, hx] at e1
  exact ⟨cl, A, hi, e1⟩
theorem G.aaload (C : Cx p s m meth c Z y bytes maxL ret hB) {a : Addr} {j : Int32} {x : Value} {ty : FieldType} {vs : List Value} (F : Refs Z h a ty vs) (hty : ty.isReference = true) (hj : 0 ≤ j.toInt) (hx : vs[j.toInt.toNat]? = some x) (hd : decode bytes pc = .ok (.aaload, 1)) (hn : pc + 1 = n) (k : Go p l e R s m args below meth c n0 Q cells slots h (mkF m n Ls (x :: st))) : Go p l e R s m args below meth c n0 Q cells slots h (mkF m pc Ls (.int j :: .ref a :: st)) := by
  subst hn
  obtain ⟨cl, A, h1, h2⟩ := F.at hj hx
  exact Go.via (fun T locs X q t r => X.aaload C.x (j := j) (v := x) (by rw [q]; exact A.1) (State.isArrayOf_alike C.z.alike A.2.1) hty A.2.2 h1 h2 (g := mkF m pc Ls (.int j :: .ref a :: st)) rfl rfl (hb C.by hd) t r) k
theorem G.arraylengthR (C : Cx p s m meth c Z y bytes maxL ret hB) {a : Addr} {ty : FieldType} {vs : List Value} {len : Int32} (F : Refs Z h a ty vs) (hlen : len.toInt = vs.length) (hd : decode bytes pc = .ok (.arraylength, 1)) (hn : pc + 1 = n) (k : Go p l e R s m args below meth c n0 Q cells slots h (mkF m n Ls (.int len :: st))) : Go p l e R s m args below meth c n0 Q cells slots h (mkF m pc Ls (.ref a :: st)) := by
  subst hn
  obtain ⟨k', z, ⟨cl, A, q1, S, N, H, G⟩, hz⟩ := F
  have e1 : cl.slots.size.toInt32 = len := (len_of S N).trans (Int32.toInt_inj.mp (hz.trans hlen.symm))
  exact Go.via (fun T locs X q t r => X.arraylength C.x (by rw [q]; exact A.1) (State.isArrayOf_alike C.z.alike A.2.1) (g := mkF m pc Ls (.ref a :: st)) rfl rfl (hb C.by hd) t (by rw [e1]; exact r)) k
theorem eqv_r {Z : State} {args : Array Value} {X F : Term} {idx : List Nat} {y : Addr} (hF : F.eval args Z none idx Z = some (.ref y)) (h : (Jvm.Cond.eq X F).value args Z none Z idx = some true) : X.eval args Z none idx Z = some (.ref y) := by
  obtain ⟨x, y', e1, e2, k1, k2⟩ := cmp_v (Or.inl h)
  cases hF.symm.trans e2
  have hx : x.isRef = true := k2.2
  have := gotT (eq_R e1 hF hx rfl) h
  rw [e1, this]
theorem len_q {Z : State} {args : Array Value} {t : Term} {a : Addr} {cl : Cell} {y : Int32} (ht : t.eval args Z none [] Z = some (.ref a)) (ha : Z.arrayAt? a = some cl) (h : (Term.length t).eval args Z none [] Z = some (.int y)) : cl.slots.size < 2 ^ 31 ∧ cl.slots.size.toInt32 = y := by
  simp [Term.eval, ht, ha] at h
  exact h
theorem Refs.start {s : State} {a : Addr} {cl : Cell} {ty : FieldType} {z : Int32} {vs : List Value} (hf : Fit s) (A : Arr s s.heap a cl ty) (q : cl.slots.size < 2 ^ 31 ∧ cl.slots.size.toInt32 = z) (hz : z.toInt = vs.length) (H : HasL cl 0 vs) : Refs s s.heap a ty vs :=
  ⟨cl.cls, z, Arv.start hf A q.1 q.2 (not_neg (by omega)) (by rw [nat_clamp]; omega) H, hz⟩
theorem Ints.start {s : State} {a : Addr} {cl : Cell} {ty : FieldType} {z : Int32} {vs : List Int32} (hf : Fit s) (A : Arr s s.heap a cl ty) (q : cl.slots.size < 2 ^ 31 ∧ cl.slots.size.toInt32 = z) (hz : z.toInt = vs.length) (H : HasL cl 0 (vs.map Value.int)) : Ints s s.heap a ty vs :=
  ⟨cl.cls, z, Arv.start hf A q.1 q.2 (not_neg (by omega)) (by rw [nat_clamp, List.length_map]; omega) H, hz⟩
theorem us_all (vs : List Int32) : ((List.range vs.length).map fun i => (vs.map Value.int).getD (0 + i) (.int 0)) = vs.map Value.int := by
  apply List.ext_getElem (by simp)
  intro i h1 h2
  simp at h1
  simp [h1]
theorem G.arraycopy0 (C : Cx p s m meth c Z y bytes maxL ret hB) {index W : Nat} {ty : FieldType} {a b : Addr} {vs vd : List Int32} {nn : Int32} (w1 : (Jvm.Cond.methodLink y.cls index Jvm.Stand.acN).before a0 Z = true) (w2 : (Jvm.Cond.native Jvm.Stand.acN).before a0 Z = true) (w3 : (Jvm.Cond.static Jvm.Stand.acN).before a0 Z = true) (w4 : (Jvm.Cond.initialized "java/lang/System").before a0 Z = true) (A : Ints Z h a ty vs) (B : Ints Z h b ty vd) (hp : refKind ty = false) (h3 : nn.toInt = vs.length) (h5 : vs.length ≤ vd.length) (g : n0 ≤ b)
    (hd : decode bytes pc = .ok (.invokestatic index, 3)) (hsz : Ls.size = maxL) (hf : 1 ≤ R.frames) (hW : (st.map fun v => v.category).sum = W) (hlo : W + (nativeFrameWords "java/lang/System" "arraycopy" 5 + 11) ≤ R.locals) (hn : pc + 3 = n) (k : ∀ h', Keep h h' [b] → Ints Z h' b ty (vs ++ vd.drop vs.length) → Go p l e R s m args below meth c n0 Q cells slots h' (mkF m n Ls (st))) : Go p l e R s m args below meth c n0 Q cells slots h (mkF m pc Ls (.int nn :: .int 0 :: .ref b :: .int 0 :: .ref a :: st)) := fun T locs X N q => by
  subst hn hW
  obtain ⟨k1, z1, A1, e1⟩ := A
  obtain ⟨k2, z2, B1, e2⟩ := B
  have hnn : nn.toNatClampNeg = vs.length := by rw [nat_clamp, h3]; rfl
  have z1n : z1.toNatClampNeg = vs.length := by rw [nat_clamp, e1]; rfl
  have z2n : z2.toNatClampNeg = vd.length := by rw [nat_clamp, e2]; rfl
  obtain ⟨T', h', L, X', e', NL, K, V, st'⟩ := cpA X C.x C.z C.own w1 w2 w3 w4 q (us := vs.map Value.int) A1 B1 (Or.inl ⟨rfl, hp⟩) (sp := 0) (dp := 0) (nn := nn) (by decide) (by decide) (not_neg (by omega)) (by rw [hnn, z1n]; show 0 + _ ≤ _; omega) (by rw [hnn, z2n]; show 0 + _ ≤ _; omega) (by rw [hnn]; exact (us_all vs).symm) (by rw [hnn, List.length_map]; show 0 + _ ≤ _; omega) N g (g := mkF m pc Ls (.int nn :: .int 0 :: .ref b :: .int 0 :: .ref a :: st)) rfl (hsz.trans C.ml.symm) rfl (hb C.by hd) hf (W := (st.map fun v => v.category).sum) (by show 2 * 0 + _ ≤ _; omega) hlo
  rw [hnn, show (0 : Int32).toNatClampNeg = 0 from rfl, List.take_zero, List.nil_append, Nat.zero_add, ← List.map_drop, ← List.map_append] at V
  obtain ⟨t, o, s1, r⟩ := k h' K ⟨k2, z2, V, by rw [e2, List.length_append, List.length_drop]; omega⟩ T' L X' NL e'
  exact ⟨t, o, st' t s1, Ende.up K.1 r⟩
theorem kext {h' : Heap} (E : Ext h h') : Keep h h' [] := (Keep.refl h []).ext E
theorem Keep.tr {h' h'' : Heap} {ws ws' : List Addr} (K : Keep h h' ws) (K' : Keep h' h'' ws') (q : ∀ x ∈ ws', x ∈ ws ∨ h.size ≤ x) : Keep h h'' ws := K.trans K' q
theorem G.dconst0 (C : Cx p s m meth c Z y bytes maxL ret hB)  (hd : decode bytes pc = .ok (.dconst 0, 1))  (hn : pc + 1 = n) (k : Go p l e R s m args below meth c n0 Q cells slots h (mkF m n Ls (.double FP.dconst0 :: st))) : Go p l e R s m args below meth c n0 Q cells slots h (mkF m pc Ls (st)) := by
  subst hn
  exact Go.via (fun T locs X _ t q => XS.dconst0 X.here C.x rfl (hb C.by hd) rfl q) k
theorem G.dconst1 (C : Cx p s m meth c Z y bytes maxL ret hB)  (hd : decode bytes pc = .ok (.dconst 1, 1))  (hn : pc + 1 = n) (k : Go p l e R s m args below meth c n0 Q cells slots h (mkF m n Ls (.double FP.dconst1 :: st))) : Go p l e R s m args below meth c n0 Q cells slots h (mkF m pc Ls (st)) := by
  subst hn
  exact Go.via (fun T locs X _ t q => XS.dconst1 X.here C.x rfl (hb C.by hd) rfl q) k
theorem G.dload (C : Cx p s m meth c Z y bytes maxL ret hB) {k : Nat} {v : UInt64} (hd : decode bytes pc = .ok (.dload k, 2)) (hl : Ls[k]? = some (.val (.double v))) (hn : pc + 2 = n) (k : Go p l e R s m args below meth c n0 Q cells slots h (mkF m n Ls (.double v :: st))) : Go p l e R s m args below meth c n0 Q cells slots h (mkF m pc Ls (st)) := by
  subst hn
  exact Go.via (fun T locs X _ t q => XS.dload X.here C.x rfl (hb C.by hd) hl q) k
theorem G.dloadN (C : Cx p s m meth c Z y bytes maxL ret hB) {k : Fin 4} {v : UInt64} (hd : decode bytes pc = .ok (.dload_n k, 1)) (hl : Ls[k.val]? = some (.val (.double v))) (hn : pc + 1 = n) (k : Go p l e R s m args below meth c n0 Q cells slots h (mkF m n Ls (.double v :: st))) : Go p l e R s m args below meth c n0 Q cells slots h (mkF m pc Ls (st)) := by
  subst hn
  exact Go.via (fun T locs X _ t q => XS.dloadN X.here C.x rfl (hb C.by hd) hl q) k
theorem G.ldc2D (C : Cx p s m meth c Z y bytes maxL ret hB) {index : Nat} {v : UInt64} (w : (Jvm.Cond.constantDouble y.cls index v).before a0 Z = true) (hd : decode bytes pc = .ok (.ldc2_w index, 3)) (hn : pc + 3 = n) (k : Go p l e R s m args below meth c n0 Q cells slots h (mkF m n Ls (.double v :: st))) : Go p l e R s m args below meth c n0 Q cells slots h (mkF m pc Ls (st)) := by
  subst hn
  exact Go.via (fun T locs X _ t q => X.ldc2DoubleC C.x C.own (mvT C.z w) (g := mkF m pc Ls st) rfl (hb C.by hd) t q) k
def ArrN (Z : State) (h : Heap) (a : Addr) (ty : FieldType) (k : Nat) : Prop := ∃ cl, Arr Z h a cl ty ∧ cl.slots.size = k
theorem ArrN.lt {a : Addr} {ty : FieldType} {k : Nat} (F : ArrN Z h a ty k) : a < h.size := by obtain ⟨cl, A, -⟩ := F; exact A.lt
theorem ArrN.keep {h' : Heap} {ws : List Addr} {a : Addr} {ty : FieldType} {k : Nat} (F : ArrN Z h a ty k) (K : Keep h h' ws) (r : a ∉ ws) : ArrN Z h' a ty k := by obtain ⟨cl, A, q⟩ := F; exact ⟨cl, ⟨K.2.1 a cl A.1 r, A.2⟩, q⟩
theorem ArrN.wr {h' : Heap} {a : Addr} {ty : FieldType} {k sl : Nat} {v : Value} (F : ArrN Z h a ty k) (W : Wr h h' a sl v) : ArrN Z h' a ty k := by obtain ⟨cl, A, q⟩ := F; exact ⟨_, Arr.same W A, by simp [Cell.setSlot, q]⟩
theorem nob {cl : Cell} {j : Int32} {k : Nat} (hj : 0 ≤ j.toInt) (hl : j.toInt < k) (q : cl.slots.size = k) : ¬ (j < 0 ∨ cl.slots.size ≤ j.toNatClampNeg) := by
  rintro (r | r)
  · exact not_neg hj r
  · rw [q, nat_clamp] at r; omega
theorem G.dastore (C : Cx p s m meth c Z y bytes maxL ret hB) {a : Addr} {j : Int32} {x : UInt64} {kn : Nat} (F : ArrN Z h a .double kn) (hj : 0 ≤ j.toInt) (hl : j.toInt < kn) (g : n0 ≤ a) (hd : decode bytes pc = .ok (.dastore, 1)) (hn : pc + 1 = n) (k : ∀ h', Keep h h' [a] → ArrN Z h' a .double kn → Go p l e R s m args below meth c n0 Q cells slots h' (mkF m n Ls (st))) : Go p l e R s m args below meth c n0 Q cells slots h (mkF m pc Ls (.double x :: .int j :: .ref a :: st)) := fun T locs X N q => by
  subst hn
  obtain ⟨cl, A, q1⟩ := F
  obtain ⟨T', h', X', e', W, st'⟩ := stD X C.x C.z q A (j := j) (nob hj hl q1) (g := mkF m pc Ls (.double x :: .int j :: .ref a :: st)) rfl rfl (hb C.by hd)
  obtain ⟨t, o, s1, r⟩ := k h' (Keep.of_wr W) (ArrN.wr ⟨cl, A, q1⟩ W) T' _ X' (Fr.snoc X' N g) e'
  exact ⟨t, o, st' t s1, Ende.up (Keep.of_wr W).1 r⟩
theorem G.aastoreNull (C : Cx p s m meth c Z y bytes maxL ret hB) {a : Addr} {j : Int32} {ty : FieldType} {kn : Nat} (F : ArrN Z h a ty kn) (hty : ty.isReference = true) (hj : 0 ≤ j.toInt) (hl : j.toInt < kn) (g : n0 ≤ a) (hd : decode bytes pc = .ok (.aastore, 1)) (hn : pc + 1 = n) (k : ∀ h', Keep h h' [a] → ArrN Z h' a ty kn → Go p l e R s m args below meth c n0 Q cells slots h' (mkF m n Ls (st))) : Go p l e R s m args below meth c n0 Q cells slots h (mkF m pc Ls (.null :: .int j :: .ref a :: st)) := fun T locs X N q => by
  subst hn
  obtain ⟨cl, A, q1⟩ := F
  obtain ⟨T', h', X', e', W, st'⟩ := stR X C.x C.z q A (j := j) (v := .null) (nob hj hl q1) hty (Or.inl rfl) (g := mkF m pc Ls (.null :: .int j :: .ref a :: st)) rfl rfl (hb C.by hd)
  obtain ⟨t, o, s1, r⟩ := k h' (Keep.of_wr W) (ArrN.wr ⟨cl, A, q1⟩ W) T' _ X' (Fr.snoc X' N g) e'
  exact ⟨t, o, st' t s1, Ende.up (Keep.of_wr W).1 r⟩
theorem G.arraylengthN (C : Cx p s m meth c Z y bytes maxL ret hB) {a : Addr} {ty : FieldType} {kn : Nat} {len : Int32} (F : ArrN Z h a ty kn) (hlen : len.toInt = kn) (hd : decode bytes pc = .ok (.arraylength, 1)) (hn : pc + 1 = n) (k : Go p l e R s m args below meth c n0 Q cells slots h (mkF m n Ls (.int len :: st))) : Go p l e R s m args below meth c n0 Q cells slots h (mkF m pc Ls (.ref a :: st)) := by
  subst hn
  obtain ⟨cl, A, q1⟩ := F
  have e1 : cl.slots.size.toInt32 = len := by rw [q1]; exact (len32 hlen).symm
  exact Go.via (fun T locs X q t r => X.arraylength C.x (by rw [q]; exact A.1) (State.isArrayOf_alike C.z.alike A.2.1) (g := mkF m pc Ls (.ref a :: st)) rfl rfl (hb C.by hd) t (by rw [e1]; exact r)) k
theorem G.newarrayN (C : Cx p s m meth c Z y bytes maxL ret hB) {aty : ArrayType} {ty : FieldType} {len : Int32} {cap c' s' : Nat} (w : (Jvm.Cond.arrayClass ty).before a0 Z = true) (hty : newarray.typeOf aty = ty) (hlen : len.toInt = cap) (hbig : cap * 8 ≤ 536870912) (hd : decode bytes pc = .ok (.newarray aty, 2)) (hn : pc + 2 = n) (hc' : cells + 1 = c') (hs' : slots + cap = s') (hc : c' ≤ R.cells) (hs : s' ≤ R.slots)
    (k : ∀ h' b, b = h.size → Ext h h' → ArrN Z h' b ty cap → Go p l e R s m args below meth c n0 Q c' s' h' (mkF m n Ls (.ref b :: st))) : Go p l e R s m args below meth c n0 Q cells slots h (mkF m pc Ls (.int len :: st)) := fun T locs X N q => by
  subst hn hc' hs' hty
  obtain ⟨T', h', cA, X', e', E, A, st'⟩ := newP X C.x C.z w q (g := mkF m pc Ls (.int len :: st)) rfl (hb C.by hd) rfl (not_neg (by omega)) (cap := cap) (by rw [nat_clamp]; omega) hbig hc hs
  obtain ⟨t, o, s1, r⟩ := k h' _ rfl E ⟨_, A, by rw [sz_new, nat_clamp]; omega⟩ T' _ X' N e'
  exact ⟨t, o, st' t s1, Ende.up E.1 r⟩
theorem G.anewarrayN (C : Cx p s m meth c Z y bytes maxL ret hB) {K : String} {index : Nat} {len : Int32} {cap c' s' : Nat} (w1 : (Jvm.Cond.classLink y.cls index K).before a0 Z = true) (w2 : (Jvm.Cond.arrayOver (.object K)).before a0 Z = true) (hlen : len.toInt = cap) (hbig : cap * 8 ≤ 536870912) (hd : decode bytes pc = .ok (.anewarray index, 3)) (hn : pc + 3 = n) (hc' : cells + 1 = c') (hs' : slots + cap = s') (hc : c' ≤ R.cells) (hs : s' ≤ R.slots)
    (k : ∀ h' b, b = h.size → Ext h h' → ArrN Z h' b (.object K) cap → Go p l e R s m args below meth c n0 Q c' s' h' (mkF m n Ls (.ref b :: st))) : Go p l e R s m args below meth c n0 Q cells slots h (mkF m pc Ls (.int len :: st)) := fun T locs X N q => by
  subst hn hc' hs'
  obtain ⟨T', h', cA, X', e', E, A, -, st'⟩ := newR X C.x C.z C.own w1 w2 q (g := mkF m pc Ls (.int len :: st)) rfl (hb C.by hd) rfl (not_neg (by omega)) (cap := cap) (by rw [nat_clamp]; omega) hbig hc hs
  obtain ⟨t, o, s1, r⟩ := k h' _ rfl E ⟨_, A, by rw [sz_new, nat_clamp]; omega⟩ T' _ X' N e'
  exact ⟨t, o, st' t s1, Ende.up E.1 r⟩
theorem G.callP (C : Cx p s m meth c Z y bytes maxL ret hB) {index W : Nat} {yc : MethodName} {bc : ByteArray} {mc : Nat} {rc : Option FieldType} {rm : Room} {c' s' : Nat} {Jc : Vm → Prop} {Qc : Option Value → Heap → Vm → Prop} {ps : List FieldType} {K K' : String} {yo : MethodName} {argsL stk : List Value} {a : Addr} (E : Exa Z h a K) (w1 : (Jvm.Cond.methodLink y.cls index yc).before a0 Z = true) (w5 : (Jvm.Cond.selects K' yo yo).before a0 Z = true) (hyo : yo.cls = yc.cls) (w6 : (Jvm.Cond.privateMethod yc).before a0 Z = true) (w2 : (Jvm.Cond.instanceMethod yc).before a0 Z = true) (w3 : (Jvm.Cond.initialized yc.cls).before a0 Z = true) (w4 : (Jvm.Cond.code yc bc mc rc).before a0 Z = true) (hy : yc.cls ≠ "java/lang/invoke/MethodHandle" ∧ yc.cls ≠ "java/lang/invoke/VarHandle") (M : Met l Z yc bc mc rc rm (.ref a :: argsL).toArray h n0 Jc Qc) (hJ : ∀ vm', s.WarmedH vm' → Jc vm') (hsz : Ls.size = maxL) (hf : rm.frames + 1 ≤ R.frames) (hW : (st.map fun v => v.category).sum = W) (hl : W + (mc + 11) + rm.locals ≤ R.locals) (hc' : cells + rm.cells = c') (hs' : slots + rm.slots = s') (hc : c' ≤ R.cells) (hs : s' ≤ R.slots) (hd : decode bytes pc = .ok (.invokevirtual index, 3)) (hn : pc + 3 = n) (hlen : parseMethodDescriptor yc.desc = some ⟨ps, rc⟩) (hal : argsL.length = ps.length) (hst : stk = argsL.reverse ++ .ref a :: st) (k : ∀ sN, Cx p sN m meth c Z y bytes maxL ret hB → ∀ v h', Qc v h' sN.vm → Go p l e R sN m args below meth c n0 Q c' s' h' (mkF m n Ls (v.toList ++ st))) : Go p l e R s m args below meth c n0 Q cells slots h (mkF m pc Ls (stk)) := fun T locs X N q => by
  subst hn hW hc' hs' hst
  obtain ⟨cq, qa, qb⟩ := E.cell
  obtain ⟨c2, r2, m2, -, -, q3, -, kP, hkP, hkPi⟩ := Cond.selects_spec (mvT (args := #[]) C.z w5)
  have hpv := Cond.privateMethod_at (mvP C.z w6 (args := #[]))
  have hsel : (Jvm.Cond.selects yc.cls yc yc).before args s = true := selects_self_of_private (by rw [← hyo]; exact findClass_of_methodNamed q3) hkP hkPi hpv (mvT C.z w2) hy
  obtain ⟨v, _, ⟨T', L', k', n''⟩, -, X', hS, hz, ⟨Lc, hQ, h1, h2, h3⟩, st'⟩ := X.privateBackS C.x (y := yc) C.own (mvT C.z w1) (mvT C.z w2) hsel hpv (mvT C.z w4) hy (backOfSJ (W := (st.map fun v => v.category).sum) (Qc := fun v h vm L => Fr n0 L ∧ Qc v h vm) (M []) C.z hJ w4 w3 hf hl) (g := mkF m pc Ls (argsL.reverse ++ .ref a :: st)) rfl (hsz.trans C.ml.symm) (Steps.refl _) (a := a) (cell := cq) (by rw [q]; exact qa) qb (argsL := argsL) (rest := st) (lenOf hlen hal) rfl (by show 2 * 0 + _ ≤ _; omega) (hb C.by hd) (fun _ _ => ⟨rfl, q, hc, hs⟩)
  dsimp only [Pt.U, Pt.locs, Pt.cells, Pt.slots] at X' hS hz h1 h2 h3 st' hQ
  subst h1 h2 h3
  obtain ⟨t, o, s1, r⟩ := k _ (C.move hS.1) v _ hQ.2 T' _ X' (Fr.app N hQ.1) rfl
  exact ⟨t, o, st'.trans s1, Ende.back hS (Nat.le_refl _) (by rw [← q]; exact hz) r⟩
theorem G.checkcast (C : Cx p s m meth c Z y bytes maxL ret hB) {K : String} {index : Nat} {a : Addr} (w : (Jvm.Cond.classLink y.cls index K).before a0 Z = true) (F : Ins Z h a K true) (hd : decode bytes pc = .ok (.checkcast index, 3)) (hn : pc + 3 = n) (k : Go p l e R s m args below meth c n0 Q cells slots h (mkF m n Ls (.ref a :: st))) : Go p l e R s m args below meth c n0 Q cells slots h (mkF m pc Ls (.ref a :: st)) := fun T locs X N q => by
  subst hn
  obtain ⟨T', X', e', st'⟩ := castY X C.x C.z C.own w q F (g := mkF m pc Ls (.ref a :: st)) rfl rfl (hb C.by hd)
  obtain ⟨t, o, s1, r⟩ := k T' locs X' N e'
  exact ⟨t, o, st' t s1, r⟩
theorem G.instY (C : Cx p s m meth c Z y bytes maxL ret hB) {K : String} {index : Nat} {a : Addr} (w : (Jvm.Cond.classLink y.cls index K).before a0 Z = true) (F : Ins Z h a K true) (hd : decode bytes pc = .ok (.instanceof index, 3)) (hn : pc + 3 = n) (k : Go p l e R s m args below meth c n0 Q cells slots h (mkF m n Ls (.int 1 :: st))) : Go p l e R s m args below meth c n0 Q cells slots h (mkF m pc Ls (.ref a :: st)) := fun T locs X N q => by
  subst hn
  obtain ⟨T', X', e', st'⟩ := instY X C.x C.z C.own w q F (g := mkF m pc Ls (.ref a :: st)) rfl rfl (hb C.by hd)
  obtain ⟨t, o, s1, r⟩ := k T' locs X' N e'
  exact ⟨t, o, st' t s1, r⟩
theorem G.instNo (C : Cx p s m meth c Z y bytes maxL ret hB) {K K' : String} {index : Nat} {a : Addr} (w : (Jvm.Cond.classLink y.cls index K).before a0 Z = true) (E : Exa Z h a K') (F : ∃ c t, Z.vm.findClass K' = some c ∧ Z.vm.findClass K = some t ∧ Z.vm.assignable c t = false) (hd : decode bytes pc = .ok (.instanceof index, 3)) (hn : pc + 3 = n) (k : Go p l e R s m args below meth c n0 Q cells slots h (mkF m n Ls (.int 0 :: st))) : Go p l e R s m args below meth c n0 Q cells slots h (mkF m pc Ls (.ref a :: st)) := fun T locs X N q => by
  subst hn
  obtain ⟨T', X', e', st'⟩ := instNo X C.x C.z C.own w q E F (g := mkF m pc Ls (.ref a :: st)) rfl rfl (hb C.by hd)
  obtain ⟨t, o, s1, r⟩ := k T' locs X' N e'
  exact ⟨t, o, st' t s1, r⟩
theorem G.instNull (C : Cx p s m meth c Z y bytes maxL ret hB) {index : Nat} (hd : decode bytes pc = .ok (.instanceof index, 3)) (hn : pc + 3 = n) (k : Go p l e R s m args below meth c n0 Q cells slots h (mkF m n Ls (.int 0 :: st))) : Go p l e R s m args below meth c n0 Q cells slots h (mkF m pc Ls (.null :: st)) := by
  subst hn
  exact Go.via (fun T locs X _ t q => X.instanceofNull C.x (g := mkF m pc Ls (.null :: st)) rfl rfl (hb C.by hd) t q) k
def RefsO (Z : State) (h : Heap) (a : Addr) (K : String) (vs : List Value) : Prop := ∃ k z, Arv Z h a k (.object K) z vs .null ∧ z.toInt = vs.length ∧ Ovr Z k K
theorem RefsO.lt {a : Addr} {K : String} {vs : List Value} (F : RefsO Z h a K vs) : a < h.size := by obtain ⟨k, z, A, -⟩ := F; exact A.lt
theorem RefsO.keep {h' : Heap} {ws : List Addr} {a : Addr} {K : String} {vs : List Value} (F : RefsO Z h a K vs) (Kp : Keep h h' ws) (r : a ∉ ws) : RefsO Z h' a K vs := by obtain ⟨k, z, A, q⟩ := F; exact ⟨k, z, A.keep Kp r, q⟩
theorem RefsO.refs {a : Addr} {K : String} {vs : List Value} (F : RefsO Z h a K vs) : Refs Z h a (.object K) vs := by obtain ⟨k, z, A, q, -⟩ := F; exact ⟨k, z, A, q⟩
theorem G.anewarrayO (C : Cx p s m meth c Z y bytes maxL ret hB) {K : String} {index : Nat} {len : Int32} {cap c' s' : Nat} (w1 : (Jvm.Cond.classLink y.cls index K).before a0 Z = true) (w2 : (Jvm.Cond.arrayOver (.object K)).before a0 Z = true) (hlen : len.toInt = cap) (hbig : cap * 8 ≤ 536870912) (hd : decode bytes pc = .ok (.anewarray index, 3)) (hn : pc + 3 = n) (hc' : cells + 1 = c') (hs' : slots + cap = s') (hc : c' ≤ R.cells) (hs : s' ≤ R.slots)
    (k : ∀ h' b, b = h.size → Ext h h' → RefsO Z h' b K (List.replicate cap .null) → Go p l e R s m args below meth c n0 Q c' s' h' (mkF m n Ls (.ref b :: st))) : Go p l e R s m args below meth c n0 Q cells slots h (mkF m pc Ls (.int len :: st)) := fun T locs X N q => by
  subst hn hc' hs'
  obtain ⟨T', h', cA, X', e', E, A, O, st'⟩ := newR X C.x C.z C.own w1 w2 q (g := mkF m pc Ls (.int len :: st)) rfl (hb C.by hd) rfl (not_neg (by omega)) (cap := cap) (by rw [nat_clamp]; omega) hbig hc hs
  have V := (Arv.new A (not_neg (by omega)))
  have V2 := V.pad (pad_rep [] _ cap)
  rw [List.nil_append] at V2
  obtain ⟨t, o, s1, r⟩ := k h' _ rfl E ⟨cA, len, V2, by rw [List.length_replicate]; exact hlen, O⟩ T' _ X' N e'
  exact ⟨t, o, st' t s1, Ende.up E.1 r⟩
theorem G.aastoreO (C : Cx p s m meth c Z y bytes maxL ret hB) {a b : Addr} {j : Int32} {K : String} {vs : List Value} (F : RefsO Z h a K vs) (I : Ins Z h b K true) (hj : 0 ≤ j.toInt) (hl : j.toInt < vs.length) (g : n0 ≤ a) (hd : decode bytes pc = .ok (.aastore, 1)) (hn : pc + 1 = n) (k : ∀ h', Keep h h' [a] → RefsO Z h' a K (vs.set j.toInt.toNat (.ref b)) → Go p l e R s m args below meth c n0 Q cells slots h' (mkF m n Ls (st))) : Go p l e R s m args below meth c n0 Q cells slots h (mkF m pc Ls (.ref b :: .int j :: .ref a :: st)) := fun T locs X N q => by
  subst hn
  obtain ⟨kk, z, ⟨cl, A, q1, S, N1, H, G⟩, hz, O⟩ := F
  have hl2 : j.toInt.toNat < vs.length := by omega
  obtain ⟨T', h', X', e', W, st'⟩ := stR X C.x C.z q A (j := j) (v := .ref b) (inb hj S hz hl2) rfl (Sto.of A (q1 ▸ O) I) (g := mkF m pc Ls (.ref b :: .int j :: .ref a :: st)) rfl rfl (hb C.by hd)
  have V := Arv.set A q1 S N1 H G (v := .ref b) rfl W j.toInt.toNat rfl hl2
  obtain ⟨t, o, s1, r⟩ := k h' (Keep.of_wr W) ⟨kk, z, V, by rw [List.length_set]; exact hz, O⟩ T' _ X' (Fr.snoc X' N g) e'
  exact ⟨t, o, st' t s1, Ende.up (Keep.of_wr W).1 r⟩
theorem G.ldcStr (C : Cx p s m meth c Z y bytes maxL ret hB) {index nn c' s' : Nat} {text : String} (w : (Jvm.Cond.stringLink y.cls index text).before a0 Z = true) (wS : ∀ a ∈ Bundle.stringAtoms, a.before a0 Z = true) (hnn : 4 * text.toList.length ≤ nn) (hbig : nn ≤ 536870912) (hd : decode bytes pc = .ok (.ldc index, 2)) (hn : pc + 2 = n) (hc' : cells + 2 = c') (hs' : slots + (nn + 4) = s') (hc : c' ≤ R.cells) (hs : s' ≤ R.slots)
    (k : ∀ s'', Cx p s'' m meth c Z y bytes maxL ret hB → ∀ h' b, Ext h h' → Go p l e R s'' m args below meth c n0 Q c' s' h' (mkF m n Ls (.ref b :: st))) : Go p l e R s m args below meth c n0 Q cells slots h (mkF m pc Ls (st)) := fun T locs X N q => by
  subst hn hc' hs'
  obtain ⟨a, T', X', hS, -, hb', -, st'⟩ := X.ldcStringCold C.x (own := y.cls) C.own (mvS (vm0 := s.vm) (s := s) C.z w) (fun d hd => by
    have q := wS d hd
    simp only [Bundle.stringAtoms, List.mem_cons, List.not_mem_nil, or_false] at hd
    rcases hd with rfl | rfl | rfl | rfl | rfl | rfl | rfl
    · exact mv C.z q
    · exact mv C.z q
    · exact mvA C.z q
    · exact mv C.z q
    · exact mv C.z q
    · exact mv C.z q
    · exact mv C.z q) (g := mkF m pc Ls st) rfl (hb C.by hd) hnn hbig hc hs
  have E : Ext h T'.heap := by rw [← q]; exact ext_of hb'
  obtain ⟨t, o, s1, r⟩ := k _ (C.move hS.1) _ a E T' _ X' N rfl
  exact ⟨t, o, st' t s1, Ende.back hS (Nat.le_refl _) E.1 r⟩
def Stab (J : Vm → Prop) : Prop := ∀ (s : State) (vm' : Vm), s.WarmedH vm' → J s.vm → J vm'
def J0 (Z : State) (vm : Vm) : Prop := IB Z vm []
def J1 (own : String) (index : Nat) (a : Addr) (vm : Vm) : Prop := ∀ s : State, s.vm = vm → Lit s own index a
theorem stab0 : Stab (J0 Z) := fun s vm' hW I => by
  obtain ⟨more, e1, e2⟩ := I
  exact ⟨more, hW.interned_eq.trans e1, e2⟩
theorem stab1 {own : String} {index : Nat} {a : Addr} : Stab (J1 own index a) := fun s vm' hW L s2 e2 => by
  have q : Lit (s.setVm vm') own index a := Lit.stays (vm0 := s.vm) (L s rfl) hW.wide
  unfold Lit State.resolvedAt? at q ⊢
  rw [e2]; exact q
theorem stabT : Stab (fun _ => True) := fun _ _ _ _ => trivial
theorem Cx.same0 {T : State} {locs : List Loc} (C : Cx p s m meth c Z y bytes maxL ret hB) (X : Stand p l e R s m args below meth c T locs cells slots) (q : T.heap = hB) : Stand p l e R s m args below meth c T [] cells slots :=
  have qh : T.heap = s.heap := q.trans C.hp.symm
  ⟨X.admits, X.cas, X.clock, X.frames, X.room, X.hears, X.method, X.code, X.here, X.tail, X.warmed, X.limits, X.bytes, X.same.1, X.same.2.1, X.same.2.2.1, X.same.2.2.2.1, X.same.2.2.2.2.1, fun b cl hcl => by
    obtain ⟨c', h1, h2, h3, h4⟩ := X.same.2.2.2.2.2 b cl hcl
    have e1 : c' = cl := Option.some.inj (h1.symm.trans (by show T.heap[b]? = some cl; rw [qh]; exact hcl))
    subst e1
    exact ⟨c', h1, h2, h3, fun i _ => rfl⟩⟩
theorem G.ldcL0 (C : Cx p s m meth c Z y bytes maxL ret hB) {index c' s' : Nat} (w : (Jvm.Cond.stringLink y.cls index "").before a0 Z = true) (wS : ∀ a ∈ Bundle.stringAtoms, a.before a0 Z = true) (I : J0 Z s.vm) (hk : ∀ (b : Addr) (cl : Cell), Z.heap[b]? = some cl → hB[b]? = some cl) (hh : Jvm.Lit.constHeld Z y.cls index) (hcw : Jvm.Lit.compactW.before a0 Z = true) (hd : decode bytes pc = .ok (.ldc index, 2)) (hn : pc + 2 = n) (hc' : cells + 2 = c') (hs' : slots + 4 = s') (hc : c' ≤ R.cells) (hs : s' ≤ R.slots) (hhB : h = hB)
    (k : ∀ sN, Cx p sN m meth c Z y bytes maxL ret hB → ∀ h' a1 b1, Ext h h' → Exa Z h' a1 "java/lang/String" → Fld Z h' a1 "java/lang/String" "coder" "B" (.int 0) → Fld Z h' a1 "java/lang/String" "value" "[B" (.ref b1) → Ints Z h' b1 .byte [] → J1 y.cls index a1 sN.vm → Go p l e R sN m args below meth c n0 Q c' s' h' (mkF m n Ls (.ref a1 :: st))) : Go p l e R s m args below meth c n0 Q cells slots h (mkF m pc Ls st) := fun T locs X N q => by
  subst hn hc' hs' hhB
  have X0 := C.same0 X q
  obtain ⟨a1, T', h', k1, b1, kk, X', e', E, hS, hk1, -, -, f1, f2, f3, f4, -, -, -, L, st'⟩ := ldcSVL (s := s) (vm0 := s.vm) (Z := Z) (Ts := []) (vs := []) (z := 0) X0 C.x C.z C.own w wS q (k0 := s.heap.size) ((State.WarmedH.refl s).since _) (by rw [C.hp]; exact Nat.le_refl _) (Fr.nil _) (fun b cl hcl => by rw [C.hp]; exact hk b cl hcl) I (by simp) hh hcw ⟨fun c hc => by simp at hc, rfl⟩ (by decide) rfl (g := mkF m pc Ls st) rfl (hb C.by hd) (n := 0) (by decide) (by decide) hc hs
  obtain ⟨t, o, s1, r⟩ := k _ (C.move hS.1) h' a1 b1 E f1 f2 f3 ⟨kk, 0, f4, rfl⟩ (fun s2 e2 => by unfold Lit State.resolvedAt? at L ⊢; rw [e2]; exact L) T' [] X' (Fr.nil n0) e'
  exact ⟨t, o, st' t s1, Ende.back hS hk1 E.1 r⟩
theorem G.ldcL1 (C : Cx p s m meth c Z y bytes maxL ret hB) {index : Nat} {text : String} {a1 : Addr} (w : (Jvm.Cond.stringLink y.cls index text).before a0 Z = true) (L : J1 y.cls index a1 s.vm) (hd : decode bytes pc = .ok (.ldc index, 2)) (hn : pc + 2 = n) (k : Go p l e R s m args below meth c n0 Q cells slots h (mkF m n Ls (.ref a1 :: st))) : Go p l e R s m args below meth c n0 Q cells slots h (mkF m pc Ls st) := by
  subst hn
  exact Go.via (fun T locs X _ t q => ldcAgain (s := s) (vm0 := s.vm) X C.x C.z C.own w (L s rfl) (g := mkF m pc Ls st) rfl (hb C.by hd) t q) k
end
end Jvm.Own
namespace Jvm.Pilot.@@N@@
open Jvm Jvm.ClassFile Sem Op Lib Jvm.Free Jvm.Stand Jvm.LawKit Jvm.RoadKit Jvm.Own Bundle Jvm.Pilot.@@N@@.Jvm.D
theorem wS {a0 : Array Value} {Z : State} (hw : ∀ d ∈ tables_1, d.before a0 Z = true) : ∀ a ∈ Bundle.stringAtoms, a.before a0 Z = true := by
  intro a ha
  simp only [Bundle.stringAtoms, List.mem_cons, List.not_mem_nil, or_false] at ha
  rcases ha with rfl | rfl | rfl | rfl | rfl | rfl | rfl
  · exact wd hw 6 rfl
  · exact wd hw 5 rfl
  · exact wd hw 19 rfl
  · exact wd hw 20 rfl
  · exact wd hw 21 rfl
  · exact wd hw 22 rfl
  · exact wd hw 23 rfl
def Ob_St (Z : State) (h : Heap) (a : Addr) (f_value : Value) (f_coder : Int32) : Prop := Exa Z h a "java/lang/String" ∧ Fld Z h a "java/lang/String" "value" "[B" f_value ∧ Fld Z h a "java/lang/String" "coder" "B" (.int f_coder)
theorem Ob_St.keep {Z : State} {h h' : Heap} {ws : List Addr} {a : Addr} {f_value : Value} {f_coder : Int32} (O : Ob_St Z h a f_value f_coder) (K : Keep h h' ws) (r : a ∉ ws) : Ob_St Z h' a f_value f_coder := ⟨(O.1).keep K, (O.2.1).keep K r, (O.2.2).keep K r⟩
theorem Ob_St.lt {Z : State} {h : Heap} {a : Addr} {f_value : Value} {f_coder : Int32} (O : Ob_St Z h a f_value f_coder) : a < h.size := Exa.lt (O.1)
theorem Ob_St.set_value {Z : State} {a0 : Array Value} (hw : ∀ d ∈ tables_1, d.before a0 Z = true) {h h' : Heap} {a : Addr} {f_value : Value} {f_coder : Int32} {v : Value} (O : Ob_St Z h a f_value f_coder) (W : Wr h h' a (RoadKit.slotOf Z "java/lang/String" "value" "[B") v) : Ob_St Z h' a v f_coder := ⟨(O.1).wr W, (O.2.1).same W, (O.2.2).other W (Or.inr (slot_ne (Or.inr (wd hw 21 rfl)) (Or.inr (wd hw 20 rfl)) (by decide) (t := .byte) (t' := (.array .byte)) (by decide) (by decide)))⟩
theorem Ob_St.set_coder {Z : State} {a0 : Array Value} (hw : ∀ d ∈ tables_1, d.before a0 Z = true) {h h' : Heap} {a : Addr} {f_value : Value} {f_coder : Int32} {v : Int32} (O : Ob_St Z h a f_value f_coder) (W : Wr h h' a (RoadKit.slotOf Z "java/lang/String" "coder" "B") (.int v)) : Ob_St Z h' a f_value v := ⟨(O.1).wr W, (O.2.1).other W (Or.inr (slot_ne (Or.inr (wd hw 20 rfl)) (Or.inr (wd hw 21 rfl)) (by decide) (t := (.array .byte)) (t' := .byte) (by decide) (by decide))), (O.2.2).same W⟩
theorem Ob_St.new {Z : State} {a0 : Array Value} (hw : ∀ d ∈ tables_1, d.before a0 Z = true) {h : Heap} {a : Addr} (E : Exa Z h a "java/lang/String") (D : ∀ {O nm d : String} {ty : FieldType}, Laid Z a0 "java/lang/String" O nm d → parseFieldDescriptor d = some ty → Fld Z h a O nm d (defaultValue ty)) : Ob_St Z h a .null (0 : Int32) := ⟨E, D (Or.inr (wd hw 20 rfl)) (ty := (.array .byte)) (by decide), D (Or.inr (wd hw 21 rfl)) (ty := .byte) (by decide)⟩
def Ob_Pr (Z : State) (h : Heap) (a : Addr) (f_kind : Value) (f_name : Value) : Prop := Exa Z h a "com/example/portcullis/portcullis/Principal" ∧ Fld Z h a "com/example/portcullis/portcullis/Principal" "kind" "Lcom/example/portcullis/portcullis/Principal$Kind;" f_kind ∧ Fld Z h a "com/example/portcullis/portcullis/Principal" "name" "Ljava/lang/String;" f_name
theorem Ob_Pr.keep {Z : State} {h h' : Heap} {ws : List Addr} {a : Addr} {f_kind : Value} {f_name : Value} (O : Ob_Pr Z h a f_kind f_name) (K : Keep h h' ws) (r : a ∉ ws) : Ob_Pr Z h' a f_kind f_name := ⟨(O.1).keep K, (O.2.1).keep K r, (O.2.2).keep K r⟩
theorem Ob_Pr.lt {Z : State} {h : Heap} {a : Addr} {f_kind : Value} {f_name : Value} (O : Ob_Pr Z h a f_kind f_name) : a < h.size := Exa.lt (O.1)
theorem Ob_Pr.set_kind {Z : State} {a0 : Array Value} (hw : ∀ d ∈ tables_1, d.before a0 Z = true) {h h' : Heap} {a : Addr} {f_kind : Value} {f_name : Value} {v : Value} (O : Ob_Pr Z h a f_kind f_name) (W : Wr h h' a (RoadKit.slotOf Z "com/example/portcullis/portcullis/Principal" "kind" "Lcom/example/portcullis/portcullis/Principal$Kind;") v) : Ob_Pr Z h' a v f_name := ⟨(O.1).wr W, (O.2.1).same W, (O.2.2).other W (Or.inr (slot_ne (Or.inr (wd hw 47 rfl)) (Or.inr (wd hw 45 rfl)) (by decide) (t := (.object "java/lang/String")) (t' := (.object "com/example/portcullis/portcullis/Principal$Kind")) (by decide) (by decide)))⟩
theorem Ob_Pr.set_name {Z : State} {a0 : Array Value} (hw : ∀ d ∈ tables_1, d.before a0 Z = true) {h h' : Heap} {a : Addr} {f_kind : Value} {f_name : Value} {v : Value} (O : Ob_Pr Z h a f_kind f_name) (W : Wr h h' a (RoadKit.slotOf Z "com/example/portcullis/portcullis/Principal" "name" "Ljava/lang/String;") v) : Ob_Pr Z h' a f_kind v := ⟨(O.1).wr W, (O.2.1).other W (Or.inr (slot_ne (Or.inr (wd hw 45 rfl)) (Or.inr (wd hw 47 rfl)) (by decide) (t := (.object "com/example/portcullis/portcullis/Principal$Kind")) (t' := (.object "java/lang/String")) (by decide) (by decide))), (O.2.2).same W⟩
theorem Ob_Pr.new {Z : State} {a0 : Array Value} (hw : ∀ d ∈ tables_1, d.before a0 Z = true) {h : Heap} {a : Addr} (E : Exa Z h a "com/example/portcullis/portcullis/Principal") (D : ∀ {O nm d : String} {ty : FieldType}, Laid Z a0 "com/example/portcullis/portcullis/Principal" O nm d → parseFieldDescriptor d = some ty → Fld Z h a O nm d (defaultValue ty)) : Ob_Pr Z h a .null .null := ⟨E, D (Or.inr (wd hw 45 rfl)) (ty := (.object "com/example/portcullis/portcullis/Principal$Kind")) (by decide), D (Or.inr (wd hw 47 rfl)) (ty := (.object "java/lang/String")) (by decide)⟩
def Ob_In (Z : State) (h : Heap) (a : Addr) (f_value : Int32) : Prop := Exa Z h a "java/lang/Integer" ∧ Fld Z h a "java/lang/Integer" "value" "I" (.int f_value)
theorem Ob_In.keep {Z : State} {h h' : Heap} {ws : List Addr} {a : Addr} {f_value : Int32} (O : Ob_In Z h a f_value) (K : Keep h h' ws) (r : a ∉ ws) : Ob_In Z h' a f_value := ⟨(O.1).keep K, (O.2).keep K r⟩
theorem Ob_In.lt {Z : State} {h : Heap} {a : Addr} {f_value : Int32} (O : Ob_In Z h a f_value) : a < h.size := Exa.lt (O.1)
theorem Ob_In.set_value {Z : State} {a0 : Array Value} (hw : ∀ d ∈ tables_1, d.before a0 Z = true) {h h' : Heap} {a : Addr} {f_value : Int32} {v : Int32} (O : Ob_In Z h a f_value) (W : Wr h h' a (RoadKit.slotOf Z "java/lang/Integer" "value" "I") (.int v)) : Ob_In Z h' a v := ⟨(O.1).wr W, (O.2).same W⟩
theorem Ob_In.new {Z : State} {a0 : Array Value} (hw : ∀ d ∈ tables_1, d.before a0 Z = true) {h : Heap} {a : Addr} (E : Exa Z h a "java/lang/Integer") (D : ∀ {O nm d : String} {ty : FieldType}, Laid Z a0 "java/lang/Integer" O nm d → parseFieldDescriptor d = some ty → Fld Z h a O nm d (defaultValue ty)) : Ob_In Z h a (0 : Int32) := ⟨E, D (Or.inr (wd hw 108 rfl)) (ty := .int) (by decide)⟩
theorem refs_ext {Z : State} {h h' : Heap} {a : Addr} {ty : FieldType} {vs : List Value} (F : Refs Z h a ty vs) (E : Ext h h') : Refs Z h' a ty vs := by obtain ⟨k, z, A, q⟩ := F; exact ⟨k, z, A.ext E, q⟩
def by8 (u : Int32) : Int32 := nar .byte u.toInt8.toInt32
def nm (ln c0 c1 : Int32) : List Int32 := if ln = 0 then [] else if ln = 1 then [by8 c0] else [by8 c0, by8 c1]
def kdf (u0 u1 u2 u3 u4 : Addr) (k : Int32) : Addr := if k = 0 then u0 else if k = 1 then u1 else if k = 2 then u2 else if k = 3 then u3 else u4
def Dis (u0 u1 u2 u3 u4 : Addr) : Prop := u0 ≠ u1 ∧ u0 ≠ u2 ∧ u0 ≠ u3 ∧ u0 ≠ u4 ∧ u1 ≠ u2 ∧ u1 ≠ u3 ∧ u1 ≠ u4 ∧ u2 ≠ u3 ∧ u2 ≠ u4 ∧ u3 ≠ u4
theorem of_int {x : Int32} {n : Nat} (hn : n < 1000) (h : x.toInt = n) : x = Int32.ofNat n := Int32.toInt_inj.mp (h.trans (Int32.toInt_ofNat_of_lt (by omega)).symm)
theorem five {x : Int32} (h0 : 0 ≤ x.toInt) (h1 : x.toInt ≤ 4) : x = 0 ∨ x = 1 ∨ x = 2 ∨ x = 3 ∨ x = 4 := by
  have q : x.toInt = 0 ∨ x.toInt = 1 ∨ x.toInt = 2 ∨ x.toInt = 3 ∨ x.toInt = 4 := by omega
  rcases q with q | q | q | q | q
  · exact Or.inl (of_int (n := 0) (by decide) q)
  · exact Or.inr (Or.inl (of_int (n := 1) (by decide) q))
  · exact Or.inr (Or.inr (Or.inl (of_int (n := 2) (by decide) q)))
  · exact Or.inr (Or.inr (Or.inr (Or.inl (of_int (n := 3) (by decide) q))))
  · exact Or.inr (Or.inr (Or.inr (Or.inr (of_int (n := 4) (by decide) q))))
theorem three {x : Int32} (h0 : 0 ≤ x.toInt) (h1 : x.toInt ≤ 2) : x = 0 ∨ x = 1 ∨ x = 2 := by
  have q : x.toInt = 0 ∨ x.toInt = 1 ∨ x.toInt = 2 := by omega
  rcases q with q | q | q
  · exact Or.inl (of_int (n := 0) (by decide) q)
  · exact Or.inr (Or.inl (of_int (n := 1) (by decide) q))
  · exact Or.inr (Or.inr (of_int (n := 2) (by decide) q))
theorem kdf_inj {u0 u1 u2 u3 u4 : Addr} (hd : Dis u0 u1 u2 u3 u4) {ka kb : Int32} (ha : ka = 0 ∨ ka = 1 ∨ ka = 2 ∨ ka = 3 ∨ ka = 4) (hb : kb = 0 ∨ kb = 1 ∨ kb = 2 ∨ kb = 3 ∨ kb = 4) (h : kdf u0 u1 u2 u3 u4 ka = kdf u0 u1 u2 u3 u4 kb) : ka = kb := by
  obtain ⟨d01, d02, d03, d04, d12, d13, d14, d23, d24, d34⟩ := hd
  have e0 : kdf u0 u1 u2 u3 u4 0 = u0 := rfl
  have e1 : kdf u0 u1 u2 u3 u4 1 = u1 := rfl
  have e2 : kdf u0 u1 u2 u3 u4 2 = u2 := rfl
  have e3 : kdf u0 u1 u2 u3 u4 3 = u3 := rfl
  have e4 : kdf u0 u1 u2 u3 u4 4 = u4 := rfl
  rcases ha with rfl | rfl | rfl | rfl | rfl <;> rcases hb with rfl | rfl | rfl | rfl | rfl <;> first | rfl | (exfalso; simp only [e0, e1, e2, e3, e4] at h; first | exact d01 h | exact d02 h | exact d03 h | exact d04 h | exact d12 h | exact d13 h | exact d14 h | exact d23 h | exact d24 h | exact d34 h | exact d01 h.symm | exact d02 h.symm | exact d03 h.symm | exact d04 h.symm | exact d12 h.symm | exact d13 h.symm | exact d14 h.symm | exact d23 h.symm | exact d24 h.symm | exact d34 h.symm)
theorem k8 : ∀ n : Fin 256, (by8 (Int32.ofNat n.val)).toInt % 256 = n.val := by decide +kernel
theorem by8_mod {x : Int32} (h0 : 0 ≤ x.toInt) (h1 : x.toInt ≤ 255) : (by8 x).toInt % 256 = x.toInt := by
  have e := len32 (z := x) (k := x.toInt.toNat) (by omega)
  have q : (by8 (Int32.ofNat x.toInt.toNat)).toInt % 256 = (x.toInt.toNat : Int) := k8 ⟨x.toInt.toNat, by omega⟩
  rw [← e] at q; omega
theorem by8_inj {x y : Int32} (h0 : 0 ≤ x.toInt) (h1 : x.toInt ≤ 255) (g0 : 0 ≤ y.toInt) (g1 : y.toInt ≤ 255) (h : by8 x = by8 y) : x = y := by
  have q1 := by8_mod h0 h1
  have q2 := by8_mod g0 g1
  rw [h] at q1
  exact Int32.toInt_inj.mp (by omega)
theorem kc : ∀ n : Fin 256, nar .char ((Int32.ofNat n.val).toUInt32.toUInt16.toUInt32.toInt32) = Int32.ofNat n.val := by decide +kernel
theorem chid {x : Int32} (h0 : 0 ≤ x.toInt) (h1 : x.toInt ≤ 255) : nar .char (x.toUInt32.toUInt16.toUInt32.toInt32) = x := by
  have e := len32 (z := x) (k := x.toInt.toNat) (by omega)
  have q := kc ⟨x.toInt.toNat, by omega⟩
  rw [← e] at q; exact q
theorem nm0 (c0 c1 : Int32) : nm 0 c0 c1 = [] := rfl
theorem nm1 (c0 c1 : Int32) : nm 1 c0 c1 = [by8 c0] := rfl
theorem nm2 (c0 c1 : Int32) : nm 2 c0 c1 = [by8 c0, by8 c1] := rfl
abbrev EX (ka kb la lb a0 b0 a1 b1 : Int32) : Prop := ka = kb ∧ la = lb ∧ (la.toInt < 1 ∨ a0 = b0) ∧ (la.toInt < 2 ∨ a1 = b1)
abbrev Rg (x : Int32) : Prop := 0 ≤ x.toInt ∧ x.toInt ≤ 255
theorem nm_eq {la lb a0 b0 a1 b1 : Int32} (ha : la = 0 ∨ la = 1 ∨ la = 2) (hb : lb = 0 ∨ lb = 1 ∨ lb = 2) (q1 : Rg a0) (q2 : Rg b0) (q3 : Rg a1) (q4 : Rg b1) : nm la a0 a1 = nm lb b0 b1 ↔ la = lb ∧ (la.toInt < 1 ∨ a0 = b0) ∧ (la.toInt < 2 ∨ a1 = b1) := by
  have t0 : (0 : Int32).toInt = 0 := rfl
  have t1 : (1 : Int32).toInt = 1 := rfl
  have t2 : (2 : Int32).toInt = 2 := rfl
  have i1 : by8 a0 = by8 b0 → a0 = b0 := by8_inj q1.1 q1.2 q2.1 q2.2
  have i2 : by8 a1 = by8 b1 → a1 = b1 := by8_inj q3.1 q3.2 q4.1 q4.2
  rcases ha with rfl | rfl | rfl <;> rcases hb with rfl | rfl | rfl
  · exact ⟨fun _ => ⟨rfl, Or.inl (by omega), Or.inl (by omega)⟩, fun _ => (nm0 _ _).trans (nm0 _ _).symm⟩
  · exact ⟨fun h => absurd (congrArg List.length h) (by rw [nm0, nm1]; simp), fun h => absurd h.1 (by decide)⟩
  · exact ⟨fun h => absurd (congrArg List.length h) (by rw [nm0, nm2]; simp), fun h => absurd h.1 (by decide)⟩
  · exact ⟨fun h => absurd (congrArg List.length h) (by rw [nm0, nm1]; simp), fun h => absurd h.1 (by decide)⟩
  · refine ⟨fun h => ⟨rfl, Or.inr (i1 ?_), Or.inl (by omega)⟩, fun h => ?_⟩
    · rw [nm1, nm1] at h; exact (List.cons.inj h).1
    · rw [nm1, nm1, h.2.1.resolve_left (by omega)]
  · exact ⟨fun h => absurd (congrArg List.length h) (by rw [nm1, nm2]; simp), fun h => absurd h.1 (by decide)⟩
  · exact ⟨fun h => absurd (congrArg List.length h) (by rw [nm0, nm2]; simp), fun h => absurd h.1 (by decide)⟩
  · exact ⟨fun h => absurd (congrArg List.length h) (by rw [nm1, nm2]; simp), fun h => absurd h.1 (by decide)⟩
  · refine ⟨fun h => ⟨rfl, Or.inr (i1 ?_), Or.inr (i2 ?_)⟩, fun h => ?_⟩
    · rw [nm2, nm2] at h; exact (List.cons.inj h).1
    · rw [nm2, nm2] at h; exact (List.cons.inj (List.cons.inj h).2).1
    · rw [nm2, nm2, h.2.1.resolve_left (by omega), h.2.2.resolve_left (by omega)]
theorem res_iff {u0 u1 u2 u3 u4 : Addr} (hd : Dis u0 u1 u2 u3 u4) {ka kb la lb a0 b0 a1 b1 : Int32} (k1 : 0 ≤ ka.toInt ∧ ka.toInt ≤ 4) (k2 : 0 ≤ kb.toInt ∧ kb.toInt ≤ 4) (l1 : 0 ≤ la.toInt ∧ la.toInt ≤ 2) (l2 : 0 ≤ lb.toInt ∧ lb.toInt ≤ 2) (q1 : Rg a0) (q2 : Rg b0) (q3 : Rg a1) (q4 : Rg b1) :
    (kdf u0 u1 u2 u3 u4 ka = kdf u0 u1 u2 u3 u4 kb ∧ nm la a0 a1 = nm lb b0 b1) ↔ EX ka kb la lb a0 b0 a1 b1 := by
  have q := nm_eq (three l1.1 l1.2) (three l2.1 l2.2) q1 q2 q3 q4
  constructor
  · rintro ⟨h1, h2⟩
    exact ⟨kdf_inj hd (five k1.1 k1.2) (five k2.1 k2.2) h1, q.mp h2⟩
  · rintro ⟨rfl, h2⟩
    exact ⟨rfl, q.mpr h2⟩
theorem res1 {r : Int32} {P E : Prop} (hr : (r = 1 ∧ P) ∨ (r = 0 ∧ ¬ P)) (q : P ↔ E) (h : E) : r = 1 := hr.elim (fun z => z.1) (fun z => absurd (q.mpr h) z.2)
theorem res0 {r : Int32} {P E : Prop} (hr : (r = 1 ∧ P) ∨ (r = 0 ∧ ¬ P)) (q : P ↔ E) (h : ¬ E) : r = 0 := hr.elim (fun z => absurd (q.mp z.2) h) (fun z => z.1)
theorem rem_rg {x : Int32} {m d : Int32} {M D : Nat} (hm : m.toInt = M) (hd : d.toInt = D) (hD : 0 < D) : 0 ≤ ((x &&& m) % d).toInt ∧ ((x &&& m) % d).toInt ≤ (D : Int) - 1 := by
  have q := c_and x m (by omega)
  rw [Int32.toInt_mod, hd]
  have h1 := Int.tmod_nonneg (D : Int) q.1
  have h2 := Int.tmod_lt_of_pos (x &&& m).toInt (show (0 : Int) < D by omega)
  omega
theorem rem75 (x : Int32) : 0 ≤ ((x &&& (7 : Int32)) % (5 : Int32)).toInt ∧ ((x &&& (7 : Int32)) % (5 : Int32)).toInt ≤ 4 := rem_rg (M := 7) (D := 5) rfl rfl (by decide)
theorem rem33 (x : Int32) : 0 ≤ ((x &&& (3 : Int32)) % (3 : Int32)).toInt ∧ ((x &&& (3 : Int32)) % (3 : Int32)).toInt ≤ 2 := rem_rg (M := 3) (D := 3) rfl rfl (by decide)
theorem rg255 (x : Int32) : Rg (x &&& 255) := c_and x 255 (by decide)
theorem st_ne {Z : State} {h : Heap} {a b x : Addr} (O : Ob_St Z h a .null 0) (P : Ob_St Z h b (.ref x) 0) : a ≠ b := Fld.ne (O.2.1) (P.2.1) (by simp)
theorem ne_c {Z : State} {a0 : Array Value} (hw : ∀ d ∈ tables_1, d.before a0 Z = true) {h : Heap} {a b : Addr} {ty : FieldType} {vs : List Int32} (O : Ob_St Z h a .null 0) (A : Ints Z h b ty vs) : a ≠ b := by obtain ⟨_, _, A, -⟩ := A; exact Exa.neArv (O.1) A (wd hw 5 rfl)
theorem ns_inst {Z : State} {a0 : Array Value} {A S K : String} {k : Nat} (w : (Jvm.Cond.superclass A S).before a0 Z = true) (wk : (Jvm.Cond.instantiable K k).before a0 Z = true) (n : NS Z A K) (hn : A ≠ K) : ∃ c t, Z.vm.findClass A = some c ∧ Z.vm.findClass K = some t ∧ Z.vm.assignable c t = false := by
  obtain ⟨c, t, h0, g0, n3⟩ := n
  obtain ⟨p, k, kp, h1, h2, h3, h4, h5, -, h7⟩ := Cond.superclass_spec h0 w
  obtain ⟨t2, k', g1, g2, g3, g4, -⟩ := Cond.instantiable_spec wk
  cases g0.symm.trans g1
  have g5 : k'.isInterface = false := by revert g4; cases k'.isInterface <;> simp
  have ne := ids_ne h0 g0 hn
  refine ⟨c, t, h0, g0, ?_⟩
  show Z.vm.assignableAux (255 + 1) c t = false
  simp [Vm.assignableAux, ne, h2, g2, h5, g5, g3, Vm.isSubclass, n3]
theorem ns_root {Z : State} {a0 : Array Value} {O K : String} {k : Nat} (w : (Jvm.Cond.noSuperclass O).before a0 Z = true) (wk : (Jvm.Cond.instantiable K k).before a0 Z = true) (hn : O ≠ K) : NS Z O K := by
  obtain ⟨c, k, h1, h2, h3, -, -⟩ := Cond.noSuperclass_spec w
  obtain ⟨t, k', g1, -⟩ := Cond.instantiable_spec wk
  have ne := ids_ne h1 g1 hn
  refine ⟨c, t, h1, g1, fun fuel => ?_⟩
  cases fuel with
  | zero => rfl
  | succ f => simp [Vm.isSubclassAux, ne, h2, h3]
theorem d12_0 : decode jdk_52_method_21_code 0 = .ok (.iconst 0, 1) := by decide +kernel
theorem d12_1 : decode jdk_52_method_21_code 1 = .ok (.istore 5, 2) := by decide +kernel
theorem d12_3 : decode jdk_52_method_21_code 3 = .ok (.iload 5, 2) := by decide +kernel
theorem d12_5 : decode jdk_52_method_21_code 5 = .ok (.iload 4, 2) := by decide +kernel
theorem d12_7 : decode jdk_52_method_21_code 7 = .ok (.if_icmp .ge 37, 3) := by decide +kernel
theorem d12_10 : decode jdk_52_method_21_code 10 = .ok (.aload_n 0, 1) := by decide +kernel
theorem d12_11 : decode jdk_52_method_21_code 11 = .ok (.iload_n 1, 1) := by decide +kernel
theorem d12_12 : decode jdk_52_method_21_code 12 = .ok (.caload, 1) := by decide +kernel
theorem d12_13 : decode jdk_52_method_21_code 13 = .ok (.istore 6, 2) := by decide +kernel
theorem d12_15 : decode jdk_52_method_21_code 15 = .ok (.iload 6, 2) := by decide +kernel
theorem d12_17 : decode jdk_52_method_21_code 17 = .ok (.sipush 255, 3) := by decide +kernel
theorem d12_20 : decode jdk_52_method_21_code 20 = .ok (.if_icmp .le 6, 3) := by decide +kernel
theorem d12_23 : decode jdk_52_method_21_code 23 = .ok (.iload 5, 2) := by decide +kernel
theorem d12_25 : decode jdk_52_method_21_code 25 = .ok (.ireturn, 1) := by decide +kernel
theorem d12_26 : decode jdk_52_method_21_code 26 = .ok (.aload_n 2, 1) := by decide +kernel
theorem d12_27 : decode jdk_52_method_21_code 27 = .ok (.iload_n 3, 1) := by decide +kernel
theorem d12_28 : decode jdk_52_method_21_code 28 = .ok (.iload 6, 2) := by decide +kernel
theorem d12_30 : decode jdk_52_method_21_code 30 = .ok (.i2b, 1) := by decide +kernel
theorem d12_31 : decode jdk_52_method_21_code 31 = .ok (.bastore, 1) := by decide +kernel
theorem d12_32 : decode jdk_52_method_21_code 32 = .ok (.iinc 1 1, 3) := by decide +kernel
theorem d12_35 : decode jdk_52_method_21_code 35 = .ok (.iinc 3 1, 3) := by decide +kernel
theorem d12_38 : decode jdk_52_method_21_code 38 = .ok (.iinc 5 1, 3) := by decide +kernel
theorem d12_41 : decode jdk_52_method_21_code 41 = .ok (.goto (-38), 3) := by decide +kernel
theorem d12_44 : decode jdk_52_method_21_code 44 = .ok (.iload 4, 2) := by decide +kernel
theorem d12_46 : decode jdk_52_method_21_code 46 = .ok (.ireturn, 1) := by decide +kernel
theorem pn0 : plainName "java/lang/StringUTF16" = true := by first | (simp [plainName, overriddenIn]; done) | decide +kernel
theorem ef1 (m : MethodId) (a : Addr) (b : Addr) : entryFrame m #[(.ref a), (.int (0 : Int32)), (.ref b), (.int (0 : Int32)), (.int (1 : Int32))] 7 = mkF m 0 #[.val (.ref a), .val (.int (0 : Int32)), .val (.ref b), .val (.int (0 : Int32)), .val (.int (1 : Int32)), .unset, .unset] [] := by first | (simp [entryFrame, mkF, argsToLocals, Value.category]; done) | rfl
abbrev Q_cm5_1 (Z : State) (h0 : Heap) (n0 : Nat) (J : Vm → Prop) (a : Addr) (b : Addr) (u0 : Int32) : Option Value → Heap → Vm → Prop := fun v h' vm => (v = some (.int 1) ∧ Keep h0 h' [b] ∧ Ints Z h' b .byte [(nar .byte u0.toInt8.toInt32)]) ∧ J vm
abbrev R_cm5_1 : Room := { frames := 0, cells := 0, slots := 0, locals := 0 }
set_option maxRecDepth 65536 in
set_option maxHeartbeats 40000000 in
theorem m_cm5_1 (l : Launch) (Z : State) (a0 : Array Value) (hw : ∀ d ∈ tables_1, d.before a0 Z = true) (J : Vm → Prop) (SJ : Stab J) (a : Addr) (b : Addr) (u0 : Int32) (h0 : Heap) (n0 : Nat) (Z0 : n0 ≤ h0.size) (O_a : Ints Z h0 a .char [u0]) (O_b : Ints Z h0 b .byte [0]) (ne_ab : a ≠ b) (g_b : n0 ≤ b) (r_u0 : 0 ≤ u0.toInt ∧ u0.toInt ≤ 255) : Met l Z (⟨"java/lang/StringUTF16", "compress", "([CI[BII)I"⟩ : MethodName) jdk_52_method_21_code 7 (some .int) R_cm5_1 #[(.ref a), (.int (0 : Int32)), (.ref b), (.int (0 : Int32)), (.int (1 : Int32))] h0 n0 J (Q_cm5_1 Z h0 n0 J a b u0) := by
  refine Met.of (plainFor_of_name pn0) (fun m => ef1 m a b) ?_
  intro p e s m args below meth c C Js
  refine G.iconst C (v := (0 : Int32)) d12_0 (by decide) (n := 1) rfl ?_
  refine G.istore C d12_1 (l' := #[.val (.ref a), .val (.int (0 : Int32)), .val (.ref b), .val (.int (0 : Int32)), .val (.int (1 : Int32)), .val (.int (0 : Int32)), .unset]) rfl (n := 3) rfl ?_
  refine G.iload C d12_3 rfl (n := 5) rfl ?_
  refine G.iload C d12_5 rfl (n := 7) rfl ?_
  refine G.icmp_ge C (A := 0) (B := 1) (by decide) (by decide) d12_7 (by decide) (by decide) (n := 10) (n' := 44) rfl (fun c7_1 => ?_) (fun c7_1 => ?_)
  · exact absurd c7_1 (by decide)
  refine G.aloadN C d12_10 rfl rfl (n := 11) rfl ?_
  refine G.iloadN C d12_11 rfl (n := 12) rfl ?_
  refine G.caload C (x := u0) O_a (by decide) rfl d12_12 (n := 13) rfl ?_
  refine G.istore C d12_13 (l' := #[.val (.ref a), .val (.int (0 : Int32)), .val (.ref b), .val (.int (0 : Int32)), .val (.int (1 : Int32)), .val (.int (0 : Int32)), .val (.int u0)]) rfl (n := 15) rfl ?_
  refine G.iload C d12_15 rfl (n := 17) rfl ?_
  refine G.sipush C (v := (255 : Int32)) d12_17 (by decide) (n := 20) rfl ?_
  refine G.icmp_le C (A := u0.toInt) (B := 255) rfl (by decide) d12_20 (by decide) (by decide) (n := 23) (n' := 26) rfl (fun c20_2 => ?_) (fun c20_2 => ?_)
  rotate_left
  · exact absurd c20_2 (by omega)
  refine G.aloadN C d12_26 rfl rfl (n := 27) rfl ?_
  refine G.iloadN C d12_27 rfl (n := 28) rfl ?_
  refine G.iload C d12_28 rfl (n := 30) rfl ?_
  refine G.i2b C d12_30 (n := 31) rfl ?_
  refine G.bastore C O_b (by decide) (show (0 : Int32).toInt < ((1 : Nat) : Int) by decide) g_b d12_31 (n := 32) rfl ?_
  intro h3 K4 W5 O6
  have O7 : Ints Z h3 b .byte [(nar .byte (u0.toInt8.toInt32))] := O6
  have O8 := O_a.keep K4 (ninS ne_ab nin0)
  have Z9 : n0 ≤ h3.size := Nat.le_trans Z0 K4.1
  have K10 : Keep h0 h3 [b] := Keep.tr (Keep.refl h0 _) K4 (allS (Or.inl (List.mem_of_getElem? (i := 0) rfl)) all0)
  refine G.iincK C (v := (1 : Int32)) (z := (1 : Int32)) d12_32 (by decide) rfl (by decide) (l' := #[.val (.ref a), .val (.int (1 : Int32)), .val (.ref b), .val (.int (0 : Int32)), .val (.int (1 : Int32)), .val (.int (0 : Int32)), .val (.int u0)]) rfl (n := 35) rfl ?_
  refine G.iincK C (v := (1 : Int32)) (z := (1 : Int32)) d12_35 (by decide) rfl (by decide) (l' := #[.val (.ref a), .val (.int (1 : Int32)), .val (.ref b), .val (.int (1 : Int32)), .val (.int (1 : Int32)), .val (.int (0 : Int32)), .val (.int u0)]) rfl (n := 38) rfl ?_
  refine G.iincK C (v := (1 : Int32)) (z := (1 : Int32)) d12_38 (by decide) rfl (by decide) (l' := #[.val (.ref a), .val (.int (1 : Int32)), .val (.ref b), .val (.int (1 : Int32)), .val (.int (1 : Int32)), .val (.int (1 : Int32)), .val (.int u0)]) rfl (n := 41) rfl ?_
  refine G.goto C d12_41 (by decide) (n := 3) (by decide) ?_
  refine G.iload C d12_3 rfl (n := 5) rfl ?_
  refine G.iload C d12_5 rfl (n := 7) rfl ?_
  refine G.icmp_ge C (A := 1) (B := 1) (by decide) (by decide) d12_7 (by decide) (by decide) (n := 10) (n' := 44) rfl (fun c7_11 => ?_) (fun c7_11 => ?_)
  rotate_left
  · exact absurd c7_11 (by decide)
  refine G.iload C d12_44 rfl (n := 46) rfl ?_
  refine G.ireturn C d12_46 (rfl) (by simp) (by decide) (by decide) ?_
  intro vm' hWm
  refine ⟨?_, SJ s vm' hWm Js⟩
  exact ⟨rfl, K10, O7⟩
theorem ef2 (m : MethodId) (a : Addr) (b : Addr) : entryFrame m #[(.ref a), (.int (0 : Int32)), (.ref b), (.int (0 : Int32)), (.int (2 : Int32))] 7 = mkF m 0 #[.val (.ref a), .val (.int (0 : Int32)), .val (.ref b), .val (.int (0 : Int32)), .val (.int (2 : Int32)), .unset, .unset] [] := by first | (simp [entryFrame, mkF, argsToLocals, Value.category]; done) | rfl
abbrev Q_cm5_2 (Z : State) (h0 : Heap) (n0 : Nat) (J : Vm → Prop) (a : Addr) (b : Addr) (u0 : Int32) (u1 : Int32) : Option Value → Heap → Vm → Prop := fun v h' vm => (v = some (.int 2) ∧ Keep h0 h' [b] ∧ Ints Z h' b .byte [(nar .byte u0.toInt8.toInt32), (nar .byte u1.toInt8.toInt32)]) ∧ J vm
abbrev R_cm5_2 : Room := { frames := 0, cells := 0, slots := 0, locals := 0 }
set_option maxRecDepth 65536 in
set_option maxHeartbeats 40000000 in
theorem m_cm5_2 (l : Launch) (Z : State) (a0 : Array Value) (hw : ∀ d ∈ tables_1, d.before a0 Z = true) (J : Vm → Prop) (SJ : Stab J) (a : Addr) (b : Addr) (u0 : Int32) (u1 : Int32) (h0 : Heap) (n0 : Nat) (Z0 : n0 ≤ h0.size) (O_a : Ints Z h0 a .char [u0, u1]) (O_b : Ints Z h0 b .byte [0, 0]) (ne_ab : a ≠ b) (g_b : n0 ≤ b) (r_u0 : 0 ≤ u0.toInt ∧ u0.toInt ≤ 255) (r_u1 : 0 ≤ u1.toInt ∧ u1.toInt ≤ 255) : Met l Z (⟨"java/lang/StringUTF16", "compress", "([CI[BII)I"⟩ : MethodName) jdk_52_method_21_code 7 (some .int) R_cm5_2 #[(.ref a), (.int (0 : Int32)), (.ref b), (.int (0 : Int32)), (.int (2 : Int32))] h0 n0 J (Q_cm5_2 Z h0 n0 J a b u0 u1) := by
  refine Met.of (plainFor_of_name pn0) (fun m => ef2 m a b) ?_
  intro p e s m args below meth c C Js
  refine G.iconst C (v := (0 : Int32)) d12_0 (by decide) (n := 1) rfl ?_
  refine G.istore C d12_1 (l' := #[.val (.ref a), .val (.int (0 : Int32)), .val (.ref b), .val (.int (0 : Int32)), .val (.int (2 : Int32)), .val (.int (0 : Int32)), .unset]) rfl (n := 3) rfl ?_
  refine G.iload C d12_3 rfl (n := 5) rfl ?_
  refine G.iload C d12_5 rfl (n := 7) rfl ?_
  refine G.icmp_ge C (A := 0) (B := 2) (by decide) (by decide) d12_7 (by decide) (by decide) (n := 10) (n' := 44) rfl (fun c7_1 => ?_) (fun c7_1 => ?_)
  · exact absurd c7_1 (by decide)
  refine G.aloadN C d12_10 rfl rfl (n := 11) rfl ?_
  refine G.iloadN C d12_11 rfl (n := 12) rfl ?_
  refine G.caload C (x := u0) O_a (by decide) rfl d12_12 (n := 13) rfl ?_
  refine G.istore C d12_13 (l' := #[.val (.ref a), .val (.int (0 : Int32)), .val (.ref b), .val (.int (0 : Int32)), .val (.int (2 : Int32)), .val (.int (0 : Int32)), .val (.int u0)]) rfl (n := 15) rfl ?_
  refine G.iload C d12_15 rfl (n := 17) rfl ?_
  refine G.sipush C (v := (255 : Int32)) d12_17 (by decide) (n := 20) rfl ?_
  refine G.icmp_le C (A := u0.toInt) (B := 255) rfl (by decide) d12_20 (by decide) (by decide) (n := 23) (n' := 26) rfl (fun c20_2 => ?_) (fun c20_2 => ?_)
  rotate_left
  · exact absurd c20_2 (by omega)
  refine G.aloadN C d12_26 rfl rfl (n := 27) rfl ?_
  refine G.iloadN C d12_27 rfl (n := 28) rfl ?_
  refine G.iload C d12_28 rfl (n := 30) rfl ?_
  refine G.i2b C d12_30 (n := 31) rfl ?_
  refine G.bastore C O_b (by decide) (show (0 : Int32).toInt < ((2 : Nat) : Int) by decide) g_b d12_31 (n := 32) rfl ?_
  intro h3 K4 W5 O6
  have O7 : Ints Z h3 b .byte [(nar .byte (u0.toInt8.toInt32)), 0] := O6
  have O8 := O_a.keep K4 (ninS ne_ab nin0)
  have Z9 : n0 ≤ h3.size := Nat.le_trans Z0 K4.1
  have K10 : Keep h0 h3 [b] := Keep.tr (Keep.refl h0 _) K4 (allS (Or.inl (List.mem_of_getElem? (i := 0) rfl)) all0)
  refine G.iincK C (v := (1 : Int32)) (z := (1 : Int32)) d12_32 (by decide) rfl (by decide) (l' := #[.val (.ref a), .val (.int (1 : Int32)), .val (.ref b), .val (.int (0 : Int32)), .val (.int (2 : Int32)), .val (.int (0 : Int32)), .val (.int u0)]) rfl (n := 35) rfl ?_
  refine G.iincK C (v := (1 : Int32)) (z := (1 : Int32)) d12_35 (by decide) rfl (by decide) (l' := #[.val (.ref a), .val (.int (1 : Int32)), .val (.ref b), .val (.int (1 : Int32)), .val (.int (2 : Int32)), .val (.int (0 : Int32)), .val (.int u0)]) rfl (n := 38) rfl ?_
  refine G.iincK C (v := (1 : Int32)) (z := (1 : Int32)) d12_38 (by decide) rfl (by decide) (l' := #[.val (.ref a), .val (.int (1 : Int32)), .val (.ref b), .val (.int (1 : Int32)), .val (.int (2 : Int32)), .val (.int (1 : Int32)), .val (.int u0)]) rfl (n := 41) rfl ?_
  refine G.goto C d12_41 (by decide) (n := 3) (by decide) ?_
  refine G.iload C d12_3 rfl (n := 5) rfl ?_
  refine G.iload C d12_5 rfl (n := 7) rfl ?_
  refine G.icmp_ge C (A := 1) (B := 2) (by decide) (by decide) d12_7 (by decide) (by decide) (n := 10) (n' := 44) rfl (fun c7_11 => ?_) (fun c7_11 => ?_)
  · exact absurd c7_11 (by decide)
  refine G.aloadN C d12_10 rfl rfl (n := 11) rfl ?_
  refine G.iloadN C d12_11 rfl (n := 12) rfl ?_
  refine G.caload C (x := u1) O8 (by decide) rfl d12_12 (n := 13) rfl ?_
  refine G.istore C d12_13 (l' := #[.val (.ref a), .val (.int (1 : Int32)), .val (.ref b), .val (.int (1 : Int32)), .val (.int (2 : Int32)), .val (.int (1 : Int32)), .val (.int u1)]) rfl (n := 15) rfl ?_
  refine G.iload C d12_15 rfl (n := 17) rfl ?_
  refine G.sipush C (v := (255 : Int32)) d12_17 (by decide) (n := 20) rfl ?_
  refine G.icmp_le C (A := u1.toInt) (B := 255) rfl (by decide) d12_20 (by decide) (by decide) (n := 23) (n' := 26) rfl (fun c20_12 => ?_) (fun c20_12 => ?_)
  rotate_left
  · exact absurd c20_12 (by omega)
  refine G.aloadN C d12_26 rfl rfl (n := 27) rfl ?_
  refine G.iloadN C d12_27 rfl (n := 28) rfl ?_
  refine G.iload C d12_28 rfl (n := 30) rfl ?_
  refine G.i2b C d12_30 (n := 31) rfl ?_
  refine G.bastore C O7 (by decide) (show (1 : Int32).toInt < ((2 : Nat) : Int) by decide) g_b d12_31 (n := 32) rfl ?_
  intro h13 K14 W15 O16
  have O17 : Ints Z h13 b .byte [(nar .byte (u0.toInt8.toInt32)), (nar .byte (u1.toInt8.toInt32))] := O16
  have O18 := O8.keep K14 (ninS ne_ab nin0)
  have Z19 : n0 ≤ h13.size := Nat.le_trans Z9 K14.1
  have K20 : Keep h0 h13 [b] := Keep.tr K10 K14 (allS (Or.inl (List.mem_of_getElem? (i := 0) rfl)) all0)
  refine G.iincK C (v := (1 : Int32)) (z := (2 : Int32)) d12_32 (by decide) rfl (by decide) (l' := #[.val (.ref a), .val (.int (2 : Int32)), .val (.ref b), .val (.int (1 : Int32)), .val (.int (2 : Int32)), .val (.int (1 : Int32)), .val (.int u1)]) rfl (n := 35) rfl ?_
  refine G.iincK C (v := (1 : Int32)) (z := (2 : Int32)) d12_35 (by decide) rfl (by decide) (l' := #[.val (.ref a), .val (.int (2 : Int32)), .val (.ref b), .val (.int (2 : Int32)), .val (.int (2 : Int32)), .val (.int (1 : Int32)), .val (.int u1)]) rfl (n := 38) rfl ?_
  refine G.iincK C (v := (1 : Int32)) (z := (2 : Int32)) d12_38 (by decide) rfl (by decide) (l' := #[.val (.ref a), .val (.int (2 : Int32)), .val (.ref b), .val (.int (2 : Int32)), .val (.int (2 : Int32)), .val (.int (2 : Int32)), .val (.int u1)]) rfl (n := 41) rfl ?_
  refine G.goto C d12_41 (by decide) (n := 3) (by decide) ?_
  refine G.iload C d12_3 rfl (n := 5) rfl ?_
  refine G.iload C d12_5 rfl (n := 7) rfl ?_
  refine G.icmp_ge C (A := 2) (B := 2) (by decide) (by decide) d12_7 (by decide) (by decide) (n := 10) (n' := 44) rfl (fun c7_21 => ?_) (fun c7_21 => ?_)
  rotate_left
  · exact absurd c7_21 (by decide)
  refine G.iload C d12_44 rfl (n := 46) rfl ?_
  refine G.ireturn C d12_46 (rfl) (by simp) (by decide) (by decide) ?_
  intro vm' hWm
  refine ⟨?_, SJ s vm' hWm Js⟩
  exact ⟨rfl, K20, O17⟩
theorem d11_0 : decode jdk_52_method_16_code 0 = .ok (.iload_n 2, 1) := by decide +kernel
theorem d11_1 : decode jdk_52_method_16_code 1 = .ok (.newarray .byte, 2) := by decide +kernel
theorem d11_3 : decode jdk_52_method_16_code 3 = .ok (.astore_n 3, 1) := by decide +kernel
theorem d11_4 : decode jdk_52_method_16_code 4 = .ok (.aload_n 0, 1) := by decide +kernel
theorem d11_5 : decode jdk_52_method_16_code 5 = .ok (.iload_n 1, 1) := by decide +kernel
theorem d11_6 : decode jdk_52_method_16_code 6 = .ok (.aload_n 3, 1) := by decide +kernel
theorem d11_7 : decode jdk_52_method_16_code 7 = .ok (.iconst 0, 1) := by decide +kernel
theorem d11_8 : decode jdk_52_method_16_code 8 = .ok (.iload_n 2, 1) := by decide +kernel
theorem d11_9 : decode jdk_52_method_16_code 9 = .ok (.invokestatic 115, 3) := by decide +kernel
theorem d11_12 : decode jdk_52_method_16_code 12 = .ok (.istore 4, 2) := by decide +kernel
theorem d11_14 : decode jdk_52_method_16_code 14 = .ok (.iload 4, 2) := by decide +kernel
theorem d11_16 : decode jdk_52_method_16_code 16 = .ok (.iload_n 2, 1) := by decide +kernel
theorem d11_17 : decode jdk_52_method_16_code 17 = .ok (.if_icmp .eq 40, 3) := by decide +kernel
theorem d11_20 : decode jdk_52_method_16_code 20 = .ok (.aload_n 0, 1) := by decide +kernel
theorem d11_21 : decode jdk_52_method_16_code 21 = .ok (.iload_n 1, 1) := by decide +kernel
theorem d11_22 : decode jdk_52_method_16_code 22 = .ok (.iload_n 2, 1) := by decide +kernel
theorem d11_23 : decode jdk_52_method_16_code 23 = .ok (.invokestatic 119, 3) := by decide +kernel
theorem d11_26 : decode jdk_52_method_16_code 26 = .ok (.astore 5, 2) := by decide +kernel
theorem d11_28 : decode jdk_52_method_16_code 28 = .ok (.aload 5, 2) := by decide +kernel
theorem d11_30 : decode jdk_52_method_16_code 30 = .ok (.iload 4, 2) := by decide +kernel
theorem d11_32 : decode jdk_52_method_16_code 32 = .ok (.invokestatic 71, 3) := by decide +kernel
theorem d11_35 : decode jdk_52_method_16_code 35 = .ok (.sipush 255, 3) := by decide +kernel
theorem d11_38 : decode jdk_52_method_16_code 38 = .ok (.if_icmp .gt 16, 3) := by decide +kernel
theorem d11_41 : decode jdk_52_method_16_code 41 = .ok (.aload 5, 2) := by decide +kernel
theorem d11_43 : decode jdk_52_method_16_code 43 = .ok (.iconst 0, 1) := by decide +kernel
theorem d11_44 : decode jdk_52_method_16_code 44 = .ok (.aload_n 3, 1) := by decide +kernel
theorem d11_45 : decode jdk_52_method_16_code 45 = .ok (.iconst 0, 1) := by decide +kernel
theorem d11_46 : decode jdk_52_method_16_code 46 = .ok (.iload_n 2, 1) := by decide +kernel
theorem d11_47 : decode jdk_52_method_16_code 47 = .ok (.invokestatic 123, 3) := by decide +kernel
theorem d11_50 : decode jdk_52_method_16_code 50 = .ok (.iload_n 2, 1) := by decide +kernel
theorem d11_51 : decode jdk_52_method_16_code 51 = .ok (.if_icmp .eq 6, 3) := by decide +kernel
theorem d11_54 : decode jdk_52_method_16_code 54 = .ok (.aload 5, 2) := by decide +kernel
theorem d11_56 : decode jdk_52_method_16_code 56 = .ok (.areturn, 1) := by decide +kernel
theorem d11_57 : decode jdk_52_method_16_code 57 = .ok (.aload_n 3, 1) := by decide +kernel
theorem d11_58 : decode jdk_52_method_16_code 58 = .ok (.areturn, 1) := by decide +kernel
theorem pd0 : parseMethodDescriptor "([CI[BII)I" = some ⟨[(.array .char), .int, (.array .byte), .int, .int], some .int⟩ := by decide +kernel
theorem ef3 (m : MethodId) (a : Addr) : entryFrame m #[(.ref a), (.int (0 : Int32)), (.int (1 : Int32))] 6 = mkF m 0 #[.val (.ref a), .val (.int (0 : Int32)), .val (.int (1 : Int32)), .unset, .unset, .unset] [] := by first | (simp [entryFrame, mkF, argsToLocals, Value.category]; done) | rfl
abbrev Q_cm3_1 (Z : State) (h0 : Heap) (n0 : Nat) (J : Vm → Prop) (a : Addr) (u0 : Int32) : Option Value → Heap → Vm → Prop := fun v h' vm => (∃ b, v = some (.ref b) ∧ Keep h0 h' [] ∧ Ints Z h' b .byte [(nar .byte u0.toInt8.toInt32)] ∧ h0.size ≤ b) ∧ J vm
abbrev R_cm3_1 : Room := { frames := 1, cells := 1, slots := 1, locals := 18 }
set_option maxRecDepth 65536 in
set_option maxHeartbeats 40000000 in
theorem m_cm3_1 (l : Launch) (Z : State) (a0 : Array Value) (hw : ∀ d ∈ tables_1, d.before a0 Z = true) (J : Vm → Prop) (SJ : Stab J) (a : Addr) (u0 : Int32) (h0 : Heap) (n0 : Nat) (Z0 : n0 ≤ h0.size) (O_a : Ints Z h0 a .char [u0]) (r_u0 : 0 ≤ u0.toInt ∧ u0.toInt ≤ 255) : Met l Z (⟨"java/lang/StringUTF16", "compress", "([CII)[B"⟩ : MethodName) jdk_52_method_16_code 6 (some (.array .byte)) R_cm3_1 #[(.ref a), (.int (0 : Int32)), (.int (1 : Int32))] h0 n0 J (Q_cm3_1 Z h0 n0 J a u0) := by
  refine Met.of (plainFor_of_name pn0) (fun m => ef3 m a) ?_
  intro p e s m args below meth c C Js
  refine G.iloadN C d11_0 rfl (n := 1) rfl ?_
  refine G.newarray C (ty := .byte) (cap := 1) (wd hw 19 rfl) rfl rfl (by decide) (by decide) (by decide) d11_1 (n := 3) rfl (c' := 1) (s' := 1) rfl rfl (by decide) (by decide) ?_
  intro h1 b2 q3 E4 O5
  have O6 : Ints Z h1 b2 .byte [0] := O5
  have ne7 : a ≠ b2 := Nat.ne_of_lt (Nat.lt_of_lt_of_le O_a.lt (Nat.le_of_eq q3.symm))
  have g8 : n0 ≤ b2 := Nat.le_trans Z0 (Nat.le_of_eq q3.symm)
  have f9 : h0.size ≤ b2 := Nat.le_trans (Keep.refl h0 []).1 (Nat.le_of_eq q3.symm)
  have K10 := kext E4
  have O11 := O_a.keep K10 nin0
  have Z12 : n0 ≤ h1.size := Nat.le_trans Z0 K10.1
  have K13 : Keep h0 h1 [] := Keep.tr (Keep.refl h0 _) K10 all0
  refine G.astoreN C d11_3 rfl (l' := #[.val (.ref a), .val (.int (0 : Int32)), .val (.int (1 : Int32)), .val (.ref b2), .unset, .unset]) rfl (n := 4) rfl ?_
  refine G.aloadN C d11_4 rfl rfl (n := 5) rfl ?_
  refine G.iloadN C d11_5 rfl (n := 6) rfl ?_
  refine G.aloadN C d11_6 rfl rfl (n := 7) rfl ?_
  refine G.iconst C (v := (0 : Int32)) d11_7 (by decide) (n := 8) rfl ?_
  refine G.iloadN C d11_8 rfl (n := 9) rfl ?_
  refine G.callS C (argsL := [(.ref a), (.int (0 : Int32)), (.ref b2), (.int (0 : Int32)), (.int (1 : Int32))]) (yc := (⟨"java/lang/StringUTF16", "compress", "([CI[BII)I"⟩ : MethodName)) (wd hw 72 rfl) (wd hw 73 rfl) (wd hw 70 rfl) (wd hw 74 rfl) (by decide) (m_cm5_1 l Z a0 hw J SJ a b2 u0 h1 n0 Z12 O11 O6 ne7 g8 r_u0) (fun vm' hW => SJ s vm' hW Js) rfl (by decide) (W := 0) rfl (by decide) (c' := 1) (s' := 1) rfl rfl (by decide) (by decide) d11_9 (n := 12) rfl pd0 rfl rfl ?_
  rintro s C _ h17 ⟨⟨rfl, K14, O15⟩, Js⟩
  have O18 := O11.keep K14 (ninS ne7 nin0)
  have Z19 : n0 ≤ h17.size := Nat.le_trans Z12 K14.1
  have K20 : Keep h0 h17 [] := Keep.tr K13 K14 (allS (Or.inr f9) all0)
  refine G.istore C d11_12 (l' := #[.val (.ref a), .val (.int (0 : Int32)), .val (.int (1 : Int32)), .val (.ref b2), .val (.int (1 : Int32)), .unset]) rfl (n := 14) rfl ?_
  refine G.iload C d11_14 rfl (n := 16) rfl ?_
  refine G.iloadN C d11_16 rfl (n := 17) rfl ?_
  refine G.icmp_eq C (A := 1) (B := 1) (by decide) (by decide) d11_17 (by decide) (by decide) (n := 20) (n' := 57) rfl (fun c17_21 c17_21i => ?_) (fun c17_21 c17_21i => ?_)
  rotate_left
  · exact absurd c17_21 (by decide)
  refine G.aloadN C d11_57 rfl rfl (n := 58) rfl ?_
  refine G.areturn C d11_58 rfl rfl rfl (by decide) (by decide) ?_
  intro vm' hWm
  refine ⟨?_, SJ s vm' hWm Js⟩
  exact ⟨_, rfl, K20, O15, f9⟩
theorem ef4 (m : MethodId) (a : Addr) : entryFrame m #[(.ref a), (.int (0 : Int32)), (.int (2 : Int32))] 6 = mkF m 0 #[.val (.ref a), .val (.int (0 : Int32)), .val (.int (2 : Int32)), .unset, .unset, .unset] [] := by first | (simp [entryFrame, mkF, argsToLocals, Value.category]; done) | rfl
abbrev Q_cm3_2 (Z : State) (h0 : Heap) (n0 : Nat) (J : Vm → Prop) (a : Addr) (u0 : Int32) (u1 : Int32) : Option Value → Heap → Vm → Prop := fun v h' vm => (∃ b, v = some (.ref b) ∧ Keep h0 h' [] ∧ Ints Z h' b .byte [(nar .byte u0.toInt8.toInt32), (nar .byte u1.toInt8.toInt32)] ∧ h0.size ≤ b) ∧ J vm
abbrev R_cm3_2 : Room := { frames := 1, cells := 1, slots := 2, locals := 18 }
set_option maxRecDepth 65536 in
set_option maxHeartbeats 40000000 in
theorem m_cm3_2 (l : Launch) (Z : State) (a0 : Array Value) (hw : ∀ d ∈ tables_1, d.before a0 Z = true) (J : Vm → Prop) (SJ : Stab J) (a : Addr) (u0 : Int32) (u1 : Int32) (h0 : Heap) (n0 : Nat) (Z0 : n0 ≤ h0.size) (O_a : Ints Z h0 a .char [u0, u1]) (r_u0 : 0 ≤ u0.toInt ∧ u0.toInt ≤ 255) (r_u1 : 0 ≤ u1.toInt ∧ u1.toInt ≤ 255) : Met l Z (⟨"java/lang/StringUTF16", "compress", "([CII)[B"⟩ : MethodName) jdk_52_method_16_code 6 (some (.array .byte)) R_cm3_2 #[(.ref a), (.int (0 : Int32)), (.int (2 : Int32))] h0 n0 J (Q_cm3_2 Z h0 n0 J a u0 u1) := by
  refine Met.of (plainFor_of_name pn0) (fun m => ef4 m a) ?_
  intro p e s m args below meth c C Js
  refine G.iloadN C d11_0 rfl (n := 1) rfl ?_
  refine G.newarray C (ty := .byte) (cap := 2) (wd hw 19 rfl) rfl rfl (by decide) (by decide) (by decide) d11_1 (n := 3) rfl (c' := 1) (s' := 2) rfl rfl (by decide) (by decide) ?_
  intro h1 b2 q3 E4 O5
  have O6 : Ints Z h1 b2 .byte [0, 0] := O5
  have ne7 : a ≠ b2 := Nat.ne_of_lt (Nat.lt_of_lt_of_le O_a.lt (Nat.le_of_eq q3.symm))
  have g8 : n0 ≤ b2 := Nat.le_trans Z0 (Nat.le_of_eq q3.symm)
  have f9 : h0.size ≤ b2 := Nat.le_trans (Keep.refl h0 []).1 (Nat.le_of_eq q3.symm)
  have K10 := kext E4
  have O11 := O_a.keep K10 nin0
  have Z12 : n0 ≤ h1.size := Nat.le_trans Z0 K10.1
  have K13 : Keep h0 h1 [] := Keep.tr (Keep.refl h0 _) K10 all0
  refine G.astoreN C d11_3 rfl (l' := #[.val (.ref a), .val (.int (0 : Int32)), .val (.int (2 : Int32)), .val (.ref b2), .unset, .unset]) rfl (n := 4) rfl ?_
  refine G.aloadN C d11_4 rfl rfl (n := 5) rfl ?_
  refine G.iloadN C d11_5 rfl (n := 6) rfl ?_
  refine G.aloadN C d11_6 rfl rfl (n := 7) rfl ?_
  refine G.iconst C (v := (0 : Int32)) d11_7 (by decide) (n := 8) rfl ?_
  refine G.iloadN C d11_8 rfl (n := 9) rfl ?_
  refine G.callS C (argsL := [(.ref a), (.int (0 : Int32)), (.ref b2), (.int (0 : Int32)), (.int (2 : Int32))]) (yc := (⟨"java/lang/StringUTF16", "compress", "([CI[BII)I"⟩ : MethodName)) (wd hw 72 rfl) (wd hw 73 rfl) (wd hw 70 rfl) (wd hw 74 rfl) (by decide) (m_cm5_2 l Z a0 hw J SJ a b2 u0 u1 h1 n0 Z12 O11 O6 ne7 g8 r_u0 r_u1) (fun vm' hW => SJ s vm' hW Js) rfl (by decide) (W := 0) rfl (by decide) (c' := 1) (s' := 2) rfl rfl (by decide) (by decide) d11_9 (n := 12) rfl pd0 rfl rfl ?_
  rintro s C _ h17 ⟨⟨rfl, K14, O15⟩, Js⟩
  have O18 := O11.keep K14 (ninS ne7 nin0)
  have Z19 : n0 ≤ h17.size := Nat.le_trans Z12 K14.1
  have K20 : Keep h0 h17 [] := Keep.tr K13 K14 (allS (Or.inr f9) all0)
  refine G.istore C d11_12 (l' := #[.val (.ref a), .val (.int (0 : Int32)), .val (.int (2 : Int32)), .val (.ref b2), .val (.int (2 : Int32)), .unset]) rfl (n := 14) rfl ?_
  refine G.iload C d11_14 rfl (n := 16) rfl ?_
  refine G.iloadN C d11_16 rfl (n := 17) rfl ?_
  refine G.icmp_eq C (A := 2) (B := 2) (by decide) (by decide) d11_17 (by decide) (by decide) (n := 20) (n' := 57) rfl (fun c17_21 c17_21i => ?_) (fun c17_21 c17_21i => ?_)
  rotate_left
  · exact absurd c17_21 (by decide)
  refine G.aloadN C d11_57 rfl rfl (n := 58) rfl ?_
  refine G.areturn C d11_58 rfl rfl rfl (by decide) (by decide) ?_
  intro vm' hWm
  refine ⟨?_, SJ s vm' hWm Js⟩
  exact ⟨_, rfl, K20, O15, f9⟩
theorem d13_0 : decode jdk_52_method_15_code 0 = .ok (.iload_n 1, 1) := by decide +kernel
theorem d13_1 : decode jdk_52_method_15_code 1 = .ok (.aload_n 0, 1) := by decide +kernel
theorem d13_2 : decode jdk_52_method_15_code 2 = .ok (.arraylength, 1) := by decide +kernel
theorem d13_3 : decode jdk_52_method_15_code 3 = .ok (.isub, 1) := by decide +kernel
theorem d13_4 : decode jdk_52_method_15_code 4 = .ok (.bipush 31, 2) := by decide +kernel
theorem d13_6 : decode jdk_52_method_15_code 6 = .ok (.iushr, 1) := by decide +kernel
theorem d13_7 : decode jdk_52_method_15_code 7 = .ok (.i2b, 1) := by decide +kernel
theorem d13_8 : decode jdk_52_method_15_code 8 = .ok (.ireturn, 1) := by decide +kernel
theorem ef5 (m : MethodId) (b : Addr) : entryFrame m #[(.ref b), (.int (1 : Int32))] 2 = mkF m 0 #[.val (.ref b), .val (.int (1 : Int32))] [] := by first | (simp [entryFrame, mkF, argsToLocals, Value.category]; done) | rfl
abbrev Q_cfa1 (Z : State) (h0 : Heap) (n0 : Nat) (J : Vm → Prop) (b : Addr) (u0 : Int32) : Option Value → Heap → Vm → Prop := fun v h' vm => (v = some (.int 0) ∧ h0 = h') ∧ J vm
abbrev R_cfa1 : Room := { frames := 0, cells := 0, slots := 0, locals := 0 }
set_option maxRecDepth 65536 in
set_option maxHeartbeats 40000000 in
theorem m_cfa1 (l : Launch) (Z : State) (a0 : Array Value) (hw : ∀ d ∈ tables_1, d.before a0 Z = true) (J : Vm → Prop) (SJ : Stab J) (b : Addr) (u0 : Int32) (h0 : Heap) (n0 : Nat) (Z0 : n0 ≤ h0.size) (O_b : Ints Z h0 b .byte [u0]) : Met l Z (⟨"java/lang/StringUTF16", "coderFromArrayLen", "([BI)B"⟩ : MethodName) jdk_52_method_15_code 2 (some .byte) R_cfa1 #[(.ref b), (.int (1 : Int32))] h0 n0 J (Q_cfa1 Z h0 n0 J b u0) := by
  refine Met.of (plainFor_of_name pn0) (fun m => ef5 m b) ?_
  intro p e s m args below meth c C Js
  refine G.iloadN C d13_0 rfl (n := 1) rfl ?_
  refine G.aloadN C d13_1 rfl rfl (n := 2) rfl ?_
  refine G.arraylengthI C (len := (1 : Int32)) O_b rfl d13_2 (n := 3) rfl ?_
  refine G.isub C d13_3 (n := 4) rfl ?_
  refine G.fold_int (z := (0 : Int32)) (by decide) ?_
  refine G.bipush C (v := (31 : Int32)) d13_4 (by decide) (n := 6) rfl ?_
  refine G.iushr C d13_6 (n := 7) rfl ?_
  refine G.fold_int (z := (0 : Int32)) (by decide) ?_
  refine G.i2b C d13_7 (n := 8) rfl ?_
  refine G.fold_int (z := (0 : Int32)) (by decide) ?_
  refine G.ireturn C d13_8 (rfl) (by simp) (by decide) (by decide) ?_
  intro vm' hWm
  refine ⟨?_, SJ s vm' hWm Js⟩
  exact ⟨rfl, rfl⟩
theorem ef6 (m : MethodId) (b : Addr) : entryFrame m #[(.ref b), (.int (2 : Int32))] 2 = mkF m 0 #[.val (.ref b), .val (.int (2 : Int32))] [] := by first | (simp [entryFrame, mkF, argsToLocals, Value.category]; done) | rfl
abbrev Q_cfa2 (Z : State) (h0 : Heap) (n0 : Nat) (J : Vm → Prop) (b : Addr) (u0 : Int32) (u1 : Int32) : Option Value → Heap → Vm → Prop := fun v h' vm => (v = some (.int 0) ∧ h0 = h') ∧ J vm
abbrev R_cfa2 : Room := { frames := 0, cells := 0, slots := 0, locals := 0 }
set_option maxRecDepth 65536 in
set_option maxHeartbeats 40000000 in
theorem m_cfa2 (l : Launch) (Z : State) (a0 : Array Value) (hw : ∀ d ∈ tables_1, d.before a0 Z = true) (J : Vm → Prop) (SJ : Stab J) (b : Addr) (u0 : Int32) (u1 : Int32) (h0 : Heap) (n0 : Nat) (Z0 : n0 ≤ h0.size) (O_b : Ints Z h0 b .byte [u0, u1]) : Met l Z (⟨"java/lang/StringUTF16", "coderFromArrayLen", "([BI)B"⟩ : MethodName) jdk_52_method_15_code 2 (some .byte) R_cfa2 #[(.ref b), (.int (2 : Int32))] h0 n0 J (Q_cfa2 Z h0 n0 J b u0 u1) := by
  refine Met.of (plainFor_of_name pn0) (fun m => ef6 m b) ?_
  intro p e s m args below meth c C Js
  refine G.iloadN C d13_0 rfl (n := 1) rfl ?_
  refine G.aloadN C d13_1 rfl rfl (n := 2) rfl ?_
  refine G.arraylengthI C (len := (2 : Int32)) O_b rfl d13_2 (n := 3) rfl ?_
  refine G.isub C d13_3 (n := 4) rfl ?_
  refine G.fold_int (z := (0 : Int32)) (by decide) ?_
  refine G.bipush C (v := (31 : Int32)) d13_4 (by decide) (n := 6) rfl ?_
  refine G.iushr C d13_6 (n := 7) rfl ?_
  refine G.fold_int (z := (0 : Int32)) (by decide) ?_
  refine G.i2b C d13_7 (n := 8) rfl ?_
  refine G.fold_int (z := (0 : Int32)) (by decide) ?_
  refine G.ireturn C d13_8 (rfl) (by simp) (by decide) (by decide) ?_
  intro vm' hWm
  refine ⟨?_, SJ s vm' hWm Js⟩
  exact ⟨rfl, rfl⟩
theorem d3_0 : decode jdk_42_method_149_code 0 = .ok (.aload_n 0, 1) := by decide +kernel
theorem d3_1 : decode jdk_42_method_149_code 1 = .ok (.invokespecial 1, 3) := by decide +kernel
theorem d3_4 : decode jdk_42_method_149_code 4 = .ok (.iload_n 3, 1) := by decide +kernel
theorem d3_5 : decode jdk_42_method_149_code 5 = .ok (.ifCond .ne 22, 3) := by decide +kernel
theorem d3_8 : decode jdk_42_method_149_code 8 = .ok (.aload_n 0, 1) := by decide +kernel
theorem d3_9 : decode jdk_42_method_149_code 9 = .ok (.ldc 7, 2) := by decide +kernel
theorem d3_11 : decode jdk_42_method_149_code 11 = .ok (.getfield 9, 3) := by decide +kernel
theorem d3_14 : decode jdk_42_method_149_code 14 = .ok (.putfield 9, 3) := by decide +kernel
theorem d3_17 : decode jdk_42_method_149_code 17 = .ok (.aload_n 0, 1) := by decide +kernel
theorem d3_18 : decode jdk_42_method_149_code 18 = .ok (.ldc 7, 2) := by decide +kernel
theorem d3_20 : decode jdk_42_method_149_code 20 = .ok (.getfield 15, 3) := by decide +kernel
theorem d3_23 : decode jdk_42_method_149_code 23 = .ok (.putfield 15, 3) := by decide +kernel
theorem d3_26 : decode jdk_42_method_149_code 26 = .ok (.return_, 1) := by decide +kernel
theorem d3_27 : decode jdk_42_method_149_code 27 = .ok (.getstatic 38, 3) := by decide +kernel
theorem d3_30 : decode jdk_42_method_149_code 30 = .ok (.ifCond .eq 28, 3) := by decide +kernel
theorem d3_33 : decode jdk_42_method_149_code 33 = .ok (.aload_n 1, 1) := by decide +kernel
theorem d3_34 : decode jdk_42_method_149_code 34 = .ok (.iload_n 2, 1) := by decide +kernel
theorem d3_35 : decode jdk_42_method_149_code 35 = .ok (.iload_n 3, 1) := by decide +kernel
theorem d3_36 : decode jdk_42_method_149_code 36 = .ok (.invokestatic 177, 3) := by decide +kernel
theorem d3_39 : decode jdk_42_method_149_code 39 = .ok (.astore 5, 2) := by decide +kernel
theorem d3_41 : decode jdk_42_method_149_code 41 = .ok (.aload_n 0, 1) := by decide +kernel
theorem d3_42 : decode jdk_42_method_149_code 42 = .ok (.aload 5, 2) := by decide +kernel
theorem d3_44 : decode jdk_42_method_149_code 44 = .ok (.iload_n 3, 1) := by decide +kernel
theorem d3_45 : decode jdk_42_method_149_code 45 = .ok (.invokestatic 47, 3) := by decide +kernel
theorem d3_48 : decode jdk_42_method_149_code 48 = .ok (.putfield 15, 3) := by decide +kernel
theorem d3_51 : decode jdk_42_method_149_code 51 = .ok (.aload_n 0, 1) := by decide +kernel
theorem d3_52 : decode jdk_42_method_149_code 52 = .ok (.aload 5, 2) := by decide +kernel
theorem d3_54 : decode jdk_42_method_149_code 54 = .ok (.putfield 9, 3) := by decide +kernel
theorem d3_57 : decode jdk_42_method_149_code 57 = .ok (.return_, 1) := by decide +kernel
theorem d3_58 : decode jdk_42_method_149_code 58 = .ok (.aload_n 0, 1) := by decide +kernel
theorem d3_59 : decode jdk_42_method_149_code 59 = .ok (.iconst 1, 1) := by decide +kernel
theorem d3_60 : decode jdk_42_method_149_code 60 = .ok (.putfield 15, 3) := by decide +kernel
theorem d3_63 : decode jdk_42_method_149_code 63 = .ok (.aload_n 0, 1) := by decide +kernel
theorem d3_64 : decode jdk_42_method_149_code 64 = .ok (.aload_n 1, 1) := by decide +kernel
theorem d3_65 : decode jdk_42_method_149_code 65 = .ok (.iload_n 2, 1) := by decide +kernel
theorem d3_66 : decode jdk_42_method_149_code 66 = .ok (.iload_n 3, 1) := by decide +kernel
theorem d3_67 : decode jdk_42_method_149_code 67 = .ok (.invokestatic 180, 3) := by decide +kernel
theorem d3_70 : decode jdk_42_method_149_code 70 = .ok (.putfield 9, 3) := by decide +kernel
theorem d3_73 : decode jdk_42_method_149_code 73 = .ok (.return_, 1) := by decide +kernel
theorem pd1 : parseMethodDescriptor "([CII)[B" = some ⟨[(.array .char), .int, .int], some (.array .byte)⟩ := by decide +kernel
theorem pd2 : parseMethodDescriptor "([BI)B" = some ⟨[(.array .byte), .int], some .byte⟩ := by decide +kernel
theorem pn1 : plainName "java/lang/String" = true := by first | (simp [plainName, overriddenIn]; done) | decide +kernel
theorem ef7 (m : MethodId) (a : Addr) (c1 : Addr) : entryFrame m #[(.ref a), (.ref c1), (.int (0 : Int32)), (.int (1 : Int32)), .null] 6 = mkF m 0 #[.val (.ref a), .val (.ref c1), .val (.int (0 : Int32)), .val (.int (1 : Int32)), .val .null, .unset] [] := by first | (simp [entryFrame, mkF, argsToLocals, Value.category]; done) | rfl
abbrev Q_s4_1 (Z : State) (h0 : Heap) (n0 : Nat) (J : Vm → Prop) (a : Addr) (c1 : Addr) (cs : Int32) (u0 : Int32) : Option Value → Heap → Vm → Prop := fun v h' vm => (v = none ∧ Keep h0 h' [a] ∧ ∃ b, Ob_St Z h' a (.ref b) 0 ∧ Ints Z h' b .byte [(nar .byte u0.toInt8.toInt32)] ∧ h0.size ≤ b) ∧ J vm
abbrev R_s4_1 : Room := { frames := 2, cells := 1, slots := 1, locals := 35 }
set_option maxRecDepth 65536 in
set_option maxHeartbeats 40000000 in
theorem m_s4_1 (l : Launch) (Z : State) (a0 : Array Value) (hw : ∀ d ∈ tables_1, d.before a0 Z = true) (J : Vm → Prop) (SJ : Stab J) (a : Addr) (c1 : Addr) (cs : Int32) (u0 : Int32) (h0 : Heap) (n0 : Nat) (Z0 : n0 ≤ h0.size) (OLD0 : Old Z n0 h0) (S_c : Sta Z Z.heap "java/lang/String" "COMPACT_STRINGS" "Z" (.int cs)) (q_cs : cs ≠ 0) (O_a : Ob_St Z h0 a .null 0) (g_a : n0 ≤ a) (O_c : Ints Z h0 c1 .char [u0]) (ne_c : a ≠ c1) (r_u0 : 0 ≤ u0.toInt ∧ u0.toInt ≤ 255) : Met l Z (⟨"java/lang/String", "<init>", "([CIILjava/lang/Void;)V"⟩ : MethodName) jdk_42_method_149_code 6 none R_s4_1 #[(.ref a), (.ref c1), (.int (0 : Int32)), (.int (1 : Int32)), .null] h0 n0 J (Q_s4_1 Z h0 n0 J a c1 cs u0) := by
  refine Met.of (plainFor_of_name pn1) (fun m => ef7 m a c1) ?_
  intro p e s m args below meth c C Js
  refine G.aloadN C d3_0 rfl rfl (n := 1) rfl ?_
  refine G.objinit C (wd hw 15 rfl) (wd hw 16 rfl) (wd hw 17 rfl) d3_1 rfl (by decide) (W := 0) rfl (by decide) (n := 4) rfl ?_
  refine G.iloadN C d3_4 rfl (n := 5) rfl ?_
  refine G.if_ne C (A := 1) (by decide) d3_5 (by decide) (by decide) (n := 8) (n' := 27) rfl (fun c5_1 c5_1i => ?_) (fun c5_1 c5_1i => ?_)
  rotate_left
  · exact absurd c5_1 (by decide)
  refine G.getstatic C (host := "") (Or.inl (wd hw 61 rfl)) Via.refl (S_c.ext OLD0.2) d3_27 (n := 30) rfl ?_
  refine G.if_eq C (A := cs.toInt) rfl d3_30 (by decide) (by decide) (n := 33) (n' := 58) rfl (fun c30_2 c30_2i => ?_) (fun c30_2 c30_2i => ?_)
  · exact absurd c30_2 q_cs
  refine G.aloadN C d3_33 rfl rfl (n := 34) rfl ?_
  refine G.iloadN C d3_34 rfl (n := 35) rfl ?_
  refine G.iloadN C d3_35 rfl (n := 36) rfl ?_
  refine G.callS C (argsL := [(.ref c1), (.int (0 : Int32)), (.int (1 : Int32))]) (yc := (⟨"java/lang/StringUTF16", "compress", "([CII)[B"⟩ : MethodName)) (wd hw 68 rfl) (wd hw 69 rfl) (wd hw 70 rfl) (wd hw 71 rfl) (by decide) (m_cm3_1 l Z a0 hw J SJ c1 u0 h0 n0 Z0 O_c r_u0) (fun vm' hW => SJ s vm' hW Js) rfl (by decide) (W := 0) rfl (by decide) (c' := 1) (s' := 1) rfl rfl (by decide) (by decide) d3_36 (n := 39) rfl pd1 rfl rfl ?_
  rintro s C _ h8 ⟨⟨b3, rfl, K4, O5, f6⟩, Js⟩
  have ne9 : a ≠ b3 := Nat.ne_of_lt (Nat.lt_of_lt_of_le O_a.lt f6)
  have ne10 : c1 ≠ b3 := Nat.ne_of_lt (Nat.lt_of_lt_of_le O_c.lt f6)
  have g11 : n0 ≤ b3 := Nat.le_trans Z0 f6
  have f12 : h0.size ≤ b3 := Nat.le_trans (Keep.refl h0 []).1 f6
  have O13 := O_a.keep K4 nin0
  have O14 := O_c.keep K4 nin0
  have OL15 := OLD0.keep K4 all0
  have Z16 : n0 ≤ h8.size := Nat.le_trans Z0 K4.1
  have K17 : Keep h0 h8 [a] := Keep.tr (Keep.refl h0 _) K4 all0
  refine G.astore C d3_39 rfl (l' := #[.val (.ref a), .val (.ref c1), .val (.int (0 : Int32)), .val (.int (1 : Int32)), .val .null, .val (.ref b3)]) rfl (n := 41) rfl ?_
  refine G.aloadN C d3_41 rfl rfl (n := 42) rfl ?_
  refine G.aload C d3_42 rfl rfl (n := 44) rfl ?_
  refine G.iloadN C d3_44 rfl (n := 45) rfl ?_
  refine G.callS C (argsL := [(.ref b3), (.int (1 : Int32))]) (yc := (⟨"java/lang/StringUTF16", "coderFromArrayLen", "([BI)B"⟩ : MethodName)) (wd hw 75 rfl) (wd hw 76 rfl) (wd hw 70 rfl) (wd hw 77 rfl) (by decide) (m_cfa1 l Z a0 hw J SJ b3 (nar .byte u0.toInt8.toInt32) h8 n0 Z16 O5) (fun vm' hW => SJ s vm' hW Js) rfl (by decide) (W := 1) rfl (by decide) (c' := 1) (s' := 1) rfl rfl (by decide) (by decide) d3_45 (n := 48) rfl pd2 rfl rfl ?_
  rintro s C _ _ ⟨⟨rfl, rfl⟩, Js⟩
  refine G.putfield C (host := "") (Or.inl (wd hw 25 rfl)) Via.refl (O13.2.2) (O13.1) (Or.inr ⟨(wd hw 21 rfl), rfl, rfl⟩) (wd hw 5 rfl) (ty := .byte) (by decide) rfl rfl g_a d3_48 (n := 51) rfl ?_
  intro h20 W21
  have O22 := Ob_St.set_coder hw O13 W21
  have K23 := Keep.of_wr W21
  have O24 := O14.keep K23 (ninS (Ne.symm ne_c) nin0)
  have O25 := O5.keep K23 (ninS (Ne.symm ne9) nin0)
  have OL26 := OL15.keep K23 (allS g_a all0)
  have Z27 : n0 ≤ h20.size := Nat.le_trans Z16 K23.1
  have K28 : Keep h0 h20 [a] := Keep.tr K17 K23 (allS (Or.inl (List.mem_of_getElem? (i := 0) rfl)) all0)
  refine G.aloadN C d3_51 rfl rfl (n := 52) rfl ?_
  refine G.aload C d3_52 rfl rfl (n := 54) rfl ?_
  refine G.putfield C (host := "") (Or.inl (wd hw 24 rfl)) Via.refl (O22.2.1) (O22.1) (Or.inr ⟨(wd hw 20 rfl), rfl, rfl⟩) (wd hw 5 rfl) (ty := (.array .byte)) (by decide) rfl rfl g_a d3_54 (n := 57) rfl ?_
  intro h29 W30
  have O31 := Ob_St.set_value hw O22 (v := (.ref b3)) W30
  have K32 := Keep.of_wr W30
  have O33 := O24.keep K32 (ninS (Ne.symm ne_c) nin0)
  have O34 := O25.keep K32 (ninS (Ne.symm ne9) nin0)
  have OL35 := OL26.keep K32 (allS g_a all0)
  have Z36 : n0 ≤ h29.size := Nat.le_trans Z27 K32.1
  have K37 : Keep h0 h29 [a] := Keep.tr K28 K32 (allS (Or.inl (List.mem_of_getElem? (i := 0) rfl)) all0)
  refine G.return_ C d3_57 (by decide) (by decide) ?_
  intro vm' hWm
  refine ⟨?_, SJ s vm' hWm Js⟩
  exact ⟨rfl, K37, _, O31, O34, f12⟩
theorem ef8 (m : MethodId) (a : Addr) (c1 : Addr) : entryFrame m #[(.ref a), (.ref c1), (.int (0 : Int32)), (.int (2 : Int32)), .null] 6 = mkF m 0 #[.val (.ref a), .val (.ref c1), .val (.int (0 : Int32)), .val (.int (2 : Int32)), .val .null, .unset] [] := by first | (simp [entryFrame, mkF, argsToLocals, Value.category]; done) | rfl
abbrev Q_s4_2 (Z : State) (h0 : Heap) (n0 : Nat) (J : Vm → Prop) (a : Addr) (c1 : Addr) (cs : Int32) (u0 : Int32) (u1 : Int32) : Option Value → Heap → Vm → Prop := fun v h' vm => (v = none ∧ Keep h0 h' [a] ∧ ∃ b, Ob_St Z h' a (.ref b) 0 ∧ Ints Z h' b .byte [(nar .byte u0.toInt8.toInt32), (nar .byte u1.toInt8.toInt32)] ∧ h0.size ≤ b) ∧ J vm
abbrev R_s4_2 : Room := { frames := 2, cells := 1, slots := 2, locals := 35 }
set_option maxRecDepth 65536 in
set_option maxHeartbeats 40000000 in
theorem m_s4_2 (l : Launch) (Z : State) (a0 : Array Value) (hw : ∀ d ∈ tables_1, d.before a0 Z = true) (J : Vm → Prop) (SJ : Stab J) (a : Addr) (c1 : Addr) (cs : Int32) (u0 : Int32) (u1 : Int32) (h0 : Heap) (n0 : Nat) (Z0 : n0 ≤ h0.size) (OLD0 : Old Z n0 h0) (S_c : Sta Z Z.heap "java/lang/String" "COMPACT_STRINGS" "Z" (.int cs)) (q_cs : cs ≠ 0) (O_a : Ob_St Z h0 a .null 0) (g_a : n0 ≤ a) (O_c : Ints Z h0 c1 .char [u0, u1]) (ne_c : a ≠ c1) (r_u0 : 0 ≤ u0.toInt ∧ u0.toInt ≤ 255) (r_u1 : 0 ≤ u1.toInt ∧ u1.toInt ≤ 255) : Met l Z (⟨"java/lang/String", "<init>", "([CIILjava/lang/Void;)V"⟩ : MethodName) jdk_42_method_149_code 6 none R_s4_2 #[(.ref a), (.ref c1), (.int (0 : Int32)), (.int (2 : Int32)), .null] h0 n0 J (Q_s4_2 Z h0 n0 J a c1 cs u0 u1) := by
  refine Met.of (plainFor_of_name pn1) (fun m => ef8 m a c1) ?_
  intro p e s m args below meth c C Js
  refine G.aloadN C d3_0 rfl rfl (n := 1) rfl ?_
  refine G.objinit C (wd hw 15 rfl) (wd hw 16 rfl) (wd hw 17 rfl) d3_1 rfl (by decide) (W := 0) rfl (by decide) (n := 4) rfl ?_
  refine G.iloadN C d3_4 rfl (n := 5) rfl ?_
  refine G.if_ne C (A := 2) (by decide) d3_5 (by decide) (by decide) (n := 8) (n' := 27) rfl (fun c5_1 c5_1i => ?_) (fun c5_1 c5_1i => ?_)
  rotate_left
  · exact absurd c5_1 (by decide)
  refine G.getstatic C (host := "") (Or.inl (wd hw 61 rfl)) Via.refl (S_c.ext OLD0.2) d3_27 (n := 30) rfl ?_
  refine G.if_eq C (A := cs.toInt) rfl d3_30 (by decide) (by decide) (n := 33) (n' := 58) rfl (fun c30_2 c30_2i => ?_) (fun c30_2 c30_2i => ?_)
  · exact absurd c30_2 q_cs
  refine G.aloadN C d3_33 rfl rfl (n := 34) rfl ?_
  refine G.iloadN C d3_34 rfl (n := 35) rfl ?_
  refine G.iloadN C d3_35 rfl (n := 36) rfl ?_
  refine G.callS C (argsL := [(.ref c1), (.int (0 : Int32)), (.int (2 : Int32))]) (yc := (⟨"java/lang/StringUTF16", "compress", "([CII)[B"⟩ : MethodName)) (wd hw 68 rfl) (wd hw 69 rfl) (wd hw 70 rfl) (wd hw 71 rfl) (by decide) (m_cm3_2 l Z a0 hw J SJ c1 u0 u1 h0 n0 Z0 O_c r_u0 r_u1) (fun vm' hW => SJ s vm' hW Js) rfl (by decide) (W := 0) rfl (by decide) (c' := 1) (s' := 2) rfl rfl (by decide) (by decide) d3_36 (n := 39) rfl pd1 rfl rfl ?_
  rintro s C _ h8 ⟨⟨b3, rfl, K4, O5, f6⟩, Js⟩
  have ne9 : a ≠ b3 := Nat.ne_of_lt (Nat.lt_of_lt_of_le O_a.lt f6)
  have ne10 : c1 ≠ b3 := Nat.ne_of_lt (Nat.lt_of_lt_of_le O_c.lt f6)
  have g11 : n0 ≤ b3 := Nat.le_trans Z0 f6
  have f12 : h0.size ≤ b3 := Nat.le_trans (Keep.refl h0 []).1 f6
  have O13 := O_a.keep K4 nin0
  have O14 := O_c.keep K4 nin0
  have OL15 := OLD0.keep K4 all0
  have Z16 : n0 ≤ h8.size := Nat.le_trans Z0 K4.1
  have K17 : Keep h0 h8 [a] := Keep.tr (Keep.refl h0 _) K4 all0
  refine G.astore C d3_39 rfl (l' := #[.val (.ref a), .val (.ref c1), .val (.int (0 : Int32)), .val (.int (2 : Int32)), .val .null, .val (.ref b3)]) rfl (n := 41) rfl ?_
  refine G.aloadN C d3_41 rfl rfl (n := 42) rfl ?_
  refine G.aload C d3_42 rfl rfl (n := 44) rfl ?_
  refine G.iloadN C d3_44 rfl (n := 45) rfl ?_
  refine G.callS C (argsL := [(.ref b3), (.int (2 : Int32))]) (yc := (⟨"java/lang/StringUTF16", "coderFromArrayLen", "([BI)B"⟩ : MethodName)) (wd hw 75 rfl) (wd hw 76 rfl) (wd hw 70 rfl) (wd hw 77 rfl) (by decide) (m_cfa2 l Z a0 hw J SJ b3 (nar .byte u0.toInt8.toInt32) (nar .byte u1.toInt8.toInt32) h8 n0 Z16 O5) (fun vm' hW => SJ s vm' hW Js) rfl (by decide) (W := 1) rfl (by decide) (c' := 1) (s' := 2) rfl rfl (by decide) (by decide) d3_45 (n := 48) rfl pd2 rfl rfl ?_
  rintro s C _ _ ⟨⟨rfl, rfl⟩, Js⟩
  refine G.putfield C (host := "") (Or.inl (wd hw 25 rfl)) Via.refl (O13.2.2) (O13.1) (Or.inr ⟨(wd hw 21 rfl), rfl, rfl⟩) (wd hw 5 rfl) (ty := .byte) (by decide) rfl rfl g_a d3_48 (n := 51) rfl ?_
  intro h20 W21
  have O22 := Ob_St.set_coder hw O13 W21
  have K23 := Keep.of_wr W21
  have O24 := O14.keep K23 (ninS (Ne.symm ne_c) nin0)
  have O25 := O5.keep K23 (ninS (Ne.symm ne9) nin0)
  have OL26 := OL15.keep K23 (allS g_a all0)
  have Z27 : n0 ≤ h20.size := Nat.le_trans Z16 K23.1
  have K28 : Keep h0 h20 [a] := Keep.tr K17 K23 (allS (Or.inl (List.mem_of_getElem? (i := 0) rfl)) all0)
  refine G.aloadN C d3_51 rfl rfl (n := 52) rfl ?_
  refine G.aload C d3_52 rfl rfl (n := 54) rfl ?_
  refine G.putfield C (host := "") (Or.inl (wd hw 24 rfl)) Via.refl (O22.2.1) (O22.1) (Or.inr ⟨(wd hw 20 rfl), rfl, rfl⟩) (wd hw 5 rfl) (ty := (.array .byte)) (by decide) rfl rfl g_a d3_54 (n := 57) rfl ?_
  intro h29 W30
  have O31 := Ob_St.set_value hw O22 (v := (.ref b3)) W30
  have K32 := Keep.of_wr W30
  have O33 := O24.keep K32 (ninS (Ne.symm ne_c) nin0)
  have O34 := O25.keep K32 (ninS (Ne.symm ne9) nin0)
  have OL35 := OL26.keep K32 (allS g_a all0)
  have Z36 : n0 ≤ h29.size := Nat.le_trans Z27 K32.1
  have K37 : Keep h0 h29 [a] := Keep.tr K28 K32 (allS (Or.inl (List.mem_of_getElem? (i := 0) rfl)) all0)
  refine G.return_ C d3_57 (by decide) (by decide) ?_
  intro vm' hWm
  refine ⟨?_, SJ s vm' hWm Js⟩
  exact ⟨rfl, K37, _, O31, O34, f12⟩
theorem ef9 (m : MethodId) (a : Addr) (c1 : Addr) : entryFrame m #[(.ref a), (.ref c1), (.int (0 : Int32)), (.int (0 : Int32)), .null] 6 = mkF m 0 #[.val (.ref a), .val (.ref c1), .val (.int (0 : Int32)), .val (.int (0 : Int32)), .val .null, .unset] [] := by first | (simp [entryFrame, mkF, argsToLocals, Value.category]; done) | rfl
abbrev Q_s4e0 (Z : State) (h0 : Heap) (n0 : Nat) (a : Addr) (c1 : Addr) (cs : Int32) : Option Value → Heap → Vm → Prop := fun v h' vm => v = none ∧ Keep h0 h' [a] ∧ ∃ a1 b1, Ob_St Z h' a (.ref b1) 0 ∧ Ints Z h' b1 .byte [] ∧ Ob_St Z h' a1 (.ref b1) 0 ∧ J1 "java/lang/String" 7 a1 vm
abbrev R_s4e0 : Room := { frames := 1, cells := 2, slots := 4, locals := 12 }
set_option maxRecDepth 65536 in
set_option maxHeartbeats 40000000 in
theorem m_s4e0 (l : Launch) (Z : State) (a0 : Array Value) (hw : ∀ d ∈ tables_1, d.before a0 Z = true) (a : Addr) (c1 : Addr) (cs : Int32) (h0 : Heap) (n0 : Nat) (Z0 : n0 ≤ h0.size) (OLD0 : Old Z n0 h0) (S_c : Sta Z Z.heap "java/lang/String" "COMPACT_STRINGS" "Z" (.int cs)) (q_cs : cs ≠ 0) (O_a : Ob_St Z h0 a .null 0) (g_a : n0 ≤ a) (O_c : Ints Z h0 c1 .char []) (hh : Jvm.Lit.constHeld Z "java/lang/String" 7) (hcw : Jvm.Lit.compactW.before a0 Z = true) : Met l Z (⟨"java/lang/String", "<init>", "([CIILjava/lang/Void;)V"⟩ : MethodName) jdk_42_method_149_code 6 none R_s4e0 #[(.ref a), (.ref c1), (.int (0 : Int32)), (.int (0 : Int32)), .null] h0 n0 (J0 Z) (Q_s4e0 Z h0 n0 a c1 cs) := by
  refine Met.of (plainFor_of_name pn1) (fun m => ef9 m a c1) ?_
  intro p e s m args below meth c C Js
  refine G.aloadN C d3_0 rfl rfl (n := 1) rfl ?_
  refine G.objinit C (wd hw 15 rfl) (wd hw 16 rfl) (wd hw 17 rfl) d3_1 rfl (by decide) (W := 0) rfl (by decide) (n := 4) rfl ?_
  refine G.iloadN C d3_4 rfl (n := 5) rfl ?_
  refine G.if_ne C (A := 0) (by decide) d3_5 (by decide) (by decide) (n := 8) (n' := 27) rfl (fun c5_1 c5_1i => ?_) (fun c5_1 c5_1i => ?_)
  · exact absurd c5_1 (by decide)
  refine G.aloadN C d3_8 rfl rfl (n := 9) rfl ?_
  refine G.ldcL0 C (wd hw 18 rfl) (wS hw) Js OLD0.2.2 hh hcw d3_9 (n := 11) rfl (c' := 2) (s' := 4) rfl rfl (by decide) (by decide) rfl ?_
  intro s C h2 al3 bl4 E5 f6 f7 f8 f9 Js
  have K10 := kext E5
  have O12 := O_a.keep K10 nin0
  have OL13 := OLD0.keep K10 all0
  have Z14 : n0 ≤ h2.size := Nat.le_trans Z0 K10.1
  have K15 : Keep h0 h2 [a] := Keep.tr (Keep.refl h0 _) K10 all0
  have O11 : Ob_St Z h2 al3 (.ref bl4) 0 := ⟨f6, f8, f7⟩
  have ne16 : a ≠ al3 := st_ne O12 O11
  have ne17 : a ≠ bl4 := by obtain ⟨_, _, A, -⟩ := f9; exact Exa.neArv (O12.1) A (wd hw 5 rfl)
  refine G.getfield C (host := "") (Or.inl (wd hw 24 rfl)) Via.refl (O11.2.1) d3_11 (n := 14) rfl ?_
  refine G.putfield C (host := "") (Or.inl (wd hw 24 rfl)) Via.refl (O12.2.1) (O12.1) (Or.inr ⟨(wd hw 20 rfl), rfl, rfl⟩) (wd hw 5 rfl) (ty := (.array .byte)) (by decide) rfl rfl g_a d3_14 (n := 17) rfl ?_
  intro h18 W19
  have O20 := Ob_St.set_value hw O12 (v := (.ref bl4)) W19
  have K21 := Keep.of_wr W19
  have O22 := O11.keep K21 (ninS (Ne.symm ne16) nin0)
  have O23 := f9.keep K21 (ninS (Ne.symm ne17) nin0)
  have OL24 := OL13.keep K21 (allS g_a all0)
  have Z25 : n0 ≤ h18.size := Nat.le_trans Z14 K21.1
  have K26 : Keep h0 h18 [a] := Keep.tr K15 K21 (allS (Or.inl (List.mem_of_getElem? (i := 0) rfl)) all0)
  refine G.aloadN C d3_17 rfl rfl (n := 18) rfl ?_
  refine G.ldcL1 C (wd hw 18 rfl) Js d3_18 (n := 20) rfl ?_
  refine G.getfield C (host := "") (Or.inl (wd hw 25 rfl)) Via.refl (O22.2.2) d3_20 (n := 23) rfl ?_
  refine G.putfield C (host := "") (Or.inl (wd hw 25 rfl)) Via.refl (O20.2.2) (O20.1) (Or.inr ⟨(wd hw 21 rfl), rfl, rfl⟩) (wd hw 5 rfl) (ty := .byte) (by decide) rfl rfl g_a d3_23 (n := 26) rfl ?_
  intro h27 W28
  have O29 := Ob_St.set_coder hw O20 W28
  have K30 := Keep.of_wr W28
  have O31 := O22.keep K30 (ninS (Ne.symm ne16) nin0)
  have O32 := O23.keep K30 (ninS (Ne.symm ne17) nin0)
  have OL33 := OL24.keep K30 (allS g_a all0)
  have Z34 : n0 ≤ h27.size := Nat.le_trans Z25 K30.1
  have K35 : Keep h0 h27 [a] := Keep.tr K26 K30 (allS (Or.inl (List.mem_of_getElem? (i := 0) rfl)) all0)
  refine G.return_ C d3_26 (by decide) (by decide) ?_
  intro vm' hWm
  exact ⟨rfl, K35, _, _, O29, O32, O31, stab1 s vm' hWm Js⟩
theorem ef10 (m : MethodId) (a : Addr) (c1 : Addr) : entryFrame m #[(.ref a), (.ref c1), (.int (0 : Int32)), (.int (0 : Int32)), .null] 6 = mkF m 0 #[.val (.ref a), .val (.ref c1), .val (.int (0 : Int32)), .val (.int (0 : Int32)), .val .null, .unset] [] := by first | (simp [entryFrame, mkF, argsToLocals, Value.category]; done) | rfl
abbrev Q_s4e1 (Z : State) (h0 : Heap) (n0 : Nat) (a : Addr) (c1 : Addr) (cs : Int32) (a1 : Addr) (b1 : Addr) : Option Value → Heap → Vm → Prop := fun v h' vm => v = none ∧ Keep h0 h' [a] ∧ Ob_St Z h' a (.ref b1) 0
abbrev R_s4e1 : Room := { frames := 1, cells := 0, slots := 0, locals := 12 }
set_option maxRecDepth 65536 in
set_option maxHeartbeats 40000000 in
theorem m_s4e1 (l : Launch) (Z : State) (a0 : Array Value) (hw : ∀ d ∈ tables_1, d.before a0 Z = true) (a : Addr) (c1 : Addr) (cs : Int32) (a1 : Addr) (b1 : Addr) (h0 : Heap) (n0 : Nat) (Z0 : n0 ≤ h0.size) (OLD0 : Old Z n0 h0) (S_c : Sta Z Z.heap "java/lang/String" "COMPACT_STRINGS" "Z" (.int cs)) (q_cs : cs ≠ 0) (O_a : Ob_St Z h0 a .null 0) (g_a : n0 ≤ a) (O_c : Ints Z h0 c1 .char []) (O_1 : Ob_St Z h0 a1 (.ref b1) 0) (ne_1 : a ≠ a1) : Met l Z (⟨"java/lang/String", "<init>", "([CIILjava/lang/Void;)V"⟩ : MethodName) jdk_42_method_149_code 6 none R_s4e1 #[(.ref a), (.ref c1), (.int (0 : Int32)), (.int (0 : Int32)), .null] h0 n0 (J1 "java/lang/String" 7 a1) (Q_s4e1 Z h0 n0 a c1 cs a1 b1) := by
  refine Met.of (plainFor_of_name pn1) (fun m => ef10 m a c1) ?_
  intro p e s m args below meth c C Js
  refine G.aloadN C d3_0 rfl rfl (n := 1) rfl ?_
  refine G.objinit C (wd hw 15 rfl) (wd hw 16 rfl) (wd hw 17 rfl) d3_1 rfl (by decide) (W := 0) rfl (by decide) (n := 4) rfl ?_
  refine G.iloadN C d3_4 rfl (n := 5) rfl ?_
  refine G.if_ne C (A := 0) (by decide) d3_5 (by decide) (by decide) (n := 8) (n' := 27) rfl (fun c5_1 c5_1i => ?_) (fun c5_1 c5_1i => ?_)
  · exact absurd c5_1 (by decide)
  refine G.aloadN C d3_8 rfl rfl (n := 9) rfl ?_
  refine G.ldcL1 C (wd hw 18 rfl) Js d3_9 (n := 11) rfl ?_
  refine G.getfield C (host := "") (Or.inl (wd hw 24 rfl)) Via.refl (O_1.2.1) d3_11 (n := 14) rfl ?_
  refine G.putfield C (host := "") (Or.inl (wd hw 24 rfl)) Via.refl (O_a.2.1) (O_a.1) (Or.inr ⟨(wd hw 20 rfl), rfl, rfl⟩) (wd hw 5 rfl) (ty := (.array .byte)) (by decide) rfl rfl g_a d3_14 (n := 17) rfl ?_
  intro h2 W3
  have O4 := Ob_St.set_value hw O_a (v := (.ref b1)) W3
  have K5 := Keep.of_wr W3
  have O6 := O_1.keep K5 (ninS (Ne.symm ne_1) nin0)
  have OL7 := OLD0.keep K5 (allS g_a all0)
  have Z8 : n0 ≤ h2.size := Nat.le_trans Z0 K5.1
  have K9 : Keep h0 h2 [a] := Keep.tr (Keep.refl h0 _) K5 (allS (Or.inl (List.mem_of_getElem? (i := 0) rfl)) all0)
  refine G.aloadN C d3_17 rfl rfl (n := 18) rfl ?_
  refine G.ldcL1 C (wd hw 18 rfl) Js d3_18 (n := 20) rfl ?_
  refine G.getfield C (host := "") (Or.inl (wd hw 25 rfl)) Via.refl (O6.2.2) d3_20 (n := 23) rfl ?_
  refine G.putfield C (host := "") (Or.inl (wd hw 25 rfl)) Via.refl (O4.2.2) (O4.1) (Or.inr ⟨(wd hw 21 rfl), rfl, rfl⟩) (wd hw 5 rfl) (ty := .byte) (by decide) rfl rfl g_a d3_23 (n := 26) rfl ?_
  intro h10 W11
  have O12 := Ob_St.set_coder hw O4 W11
  have K13 := Keep.of_wr W11
  have O14 := O6.keep K13 (ninS (Ne.symm ne_1) nin0)
  have OL15 := OL7.keep K13 (allS g_a all0)
  have Z16 : n0 ≤ h10.size := Nat.le_trans Z8 K13.1
  have K17 : Keep h0 h10 [a] := Keep.tr K9 K13 (allS (Or.inl (List.mem_of_getElem? (i := 0) rfl)) all0)
  refine G.return_ C d3_26 (by decide) (by decide) ?_
  intro vm' hWm
  exact ⟨rfl, K17, O12⟩
theorem d2_0 : decode jdk_42_method_3_code 0 = .ok (.aload_n 0, 1) := by decide +kernel
theorem d2_1 : decode jdk_42_method_3_code 1 = .ok (.aload_n 1, 1) := by decide +kernel
theorem d2_2 : decode jdk_42_method_3_code 2 = .ok (.iconst 0, 1) := by decide +kernel
theorem d2_3 : decode jdk_42_method_3_code 3 = .ok (.aload_n 1, 1) := by decide +kernel
theorem d2_4 : decode jdk_42_method_3_code 4 = .ok (.arraylength, 1) := by decide +kernel
theorem d2_5 : decode jdk_42_method_3_code 5 = .ok (.aconst_null, 1) := by decide +kernel
theorem d2_6 : decode jdk_42_method_3_code 6 = .ok (.invokespecial 27, 3) := by decide +kernel
theorem d2_9 : decode jdk_42_method_3_code 9 = .ok (.return_, 1) := by decide +kernel
theorem pd3 : parseMethodDescriptor "([CIILjava/lang/Void;)V" = some ⟨[(.array .char), .int, .int, (.object "java/lang/Void")], none⟩ := by decide +kernel
theorem ef11 (m : MethodId) (a : Addr) (c1 : Addr) : entryFrame m #[(.ref a), (.ref c1)] 2 = mkF m 0 #[.val (.ref a), .val (.ref c1)] [] := by first | (simp [entryFrame, mkF, argsToLocals, Value.category]; done) | rfl
abbrev Q_s1_1 (Z : State) (h0 : Heap) (n0 : Nat) (J : Vm → Prop) (a : Addr) (c1 : Addr) (cs : Int32) (u0 : Int32) : Option Value → Heap → Vm → Prop := fun v h' vm => (v = none ∧ Keep h0 h' [a] ∧ ∃ b, Ob_St Z h' a (.ref b) 0 ∧ Ints Z h' b .byte [(nar .byte u0.toInt8.toInt32)] ∧ h0.size ≤ b) ∧ J vm
abbrev R_s1_1 : Room := { frames := 3, cells := 1, slots := 1, locals := 52 }
set_option maxRecDepth 65536 in
set_option maxHeartbeats 40000000 in
theorem m_s1_1 (l : Launch) (Z : State) (a0 : Array Value) (hw : ∀ d ∈ tables_1, d.before a0 Z = true) (J : Vm → Prop) (SJ : Stab J) (a : Addr) (c1 : Addr) (cs : Int32) (u0 : Int32) (h0 : Heap) (n0 : Nat) (Z0 : n0 ≤ h0.size) (OLD0 : Old Z n0 h0) (S_c : Sta Z Z.heap "java/lang/String" "COMPACT_STRINGS" "Z" (.int cs)) (q_cs : cs ≠ 0) (O_a : Ob_St Z h0 a .null 0) (g_a : n0 ≤ a) (O_c : Ints Z h0 c1 .char [u0]) (ne_c : a ≠ c1) (r_u0 : 0 ≤ u0.toInt ∧ u0.toInt ≤ 255) : Met l Z (⟨"java/lang/String", "<init>", "([C)V"⟩ : MethodName) jdk_42_method_3_code 2 none R_s1_1 #[(.ref a), (.ref c1)] h0 n0 J (Q_s1_1 Z h0 n0 J a c1 cs u0) := by
  refine Met.of (plainFor_of_name pn1) (fun m => ef11 m a c1) ?_
  intro p e s m args below meth c C Js
  refine G.aloadN C d2_0 rfl rfl (n := 1) rfl ?_
  refine G.aloadN C d2_1 rfl rfl (n := 2) rfl ?_
  refine G.iconst C (v := (0 : Int32)) d2_2 (by decide) (n := 3) rfl ?_
  refine G.aloadN C d2_3 rfl rfl (n := 4) rfl ?_
  refine G.arraylengthI C (len := (1 : Int32)) O_c rfl d2_4 (n := 5) rfl ?_
  refine G.aconst_null C d2_5 (n := 6) rfl ?_
  refine G.callC C (argsL := [(.ref c1), (.int (0 : Int32)), (.int (1 : Int32)), .null]) (yc := (⟨"java/lang/String", "<init>", "([CIILjava/lang/Void;)V"⟩ : MethodName)) (a := a) rfl (wd hw 11 rfl) (wd hw 12 rfl) (wd hw 6 rfl) (wd hw 14 rfl) (by decide) (m_s4_1 l Z a0 hw J SJ a c1 cs u0 h0 n0 Z0 OLD0 S_c q_cs O_a g_a O_c ne_c r_u0) (fun vm' hW => SJ s vm' hW Js) rfl (by decide) (W := 0) rfl (by decide) (c' := 1) (s' := 1) rfl rfl (by decide) (by decide) d2_6 (n := 9) rfl pd3 rfl rfl ?_
  rintro s C _ h7 ⟨⟨rfl, K2, b1, O3, O4, f5⟩, Js⟩
  have ne8 : a ≠ b1 := Nat.ne_of_lt (Nat.lt_of_lt_of_le O_a.lt f5)
  have ne9 : c1 ≠ b1 := Nat.ne_of_lt (Nat.lt_of_lt_of_le O_c.lt f5)
  have g10 : n0 ≤ b1 := Nat.le_trans Z0 f5
  have f11 : h0.size ≤ b1 := Nat.le_trans (Keep.refl h0 []).1 f5
  have O12 := O_c.keep K2 (ninS (Ne.symm ne_c) nin0)
  have OL13 := OLD0.keep K2 (allS g_a all0)
  have Z14 : n0 ≤ h7.size := Nat.le_trans Z0 K2.1
  have K15 : Keep h0 h7 [a] := Keep.tr (Keep.refl h0 _) K2 (allS (Or.inl (List.mem_of_getElem? (i := 0) rfl)) all0)
  refine G.return_ C d2_9 (by decide) (by decide) ?_
  intro vm' hWm
  refine ⟨?_, SJ s vm' hWm Js⟩
  exact ⟨rfl, K15, _, O3, O4, f11⟩
theorem ef12 (m : MethodId) (a : Addr) (c1 : Addr) : entryFrame m #[(.ref a), (.ref c1)] 2 = mkF m 0 #[.val (.ref a), .val (.ref c1)] [] := by first | (simp [entryFrame, mkF, argsToLocals, Value.category]; done) | rfl
abbrev Q_s1_2 (Z : State) (h0 : Heap) (n0 : Nat) (J : Vm → Prop) (a : Addr) (c1 : Addr) (cs : Int32) (u0 : Int32) (u1 : Int32) : Option Value → Heap → Vm → Prop := fun v h' vm => (v = none ∧ Keep h0 h' [a] ∧ ∃ b, Ob_St Z h' a (.ref b) 0 ∧ Ints Z h' b .byte [(nar .byte u0.toInt8.toInt32), (nar .byte u1.toInt8.toInt32)] ∧ h0.size ≤ b) ∧ J vm
abbrev R_s1_2 : Room := { frames := 3, cells := 1, slots := 2, locals := 52 }
set_option maxRecDepth 65536 in
set_option maxHeartbeats 40000000 in
theorem m_s1_2 (l : Launch) (Z : State) (a0 : Array Value) (hw : ∀ d ∈ tables_1, d.before a0 Z = true) (J : Vm → Prop) (SJ : Stab J) (a : Addr) (c1 : Addr) (cs : Int32) (u0 : Int32) (u1 : Int32) (h0 : Heap) (n0 : Nat) (Z0 : n0 ≤ h0.size) (OLD0 : Old Z n0 h0) (S_c : Sta Z Z.heap "java/lang/String" "COMPACT_STRINGS" "Z" (.int cs)) (q_cs : cs ≠ 0) (O_a : Ob_St Z h0 a .null 0) (g_a : n0 ≤ a) (O_c : Ints Z h0 c1 .char [u0, u1]) (ne_c : a ≠ c1) (r_u0 : 0 ≤ u0.toInt ∧ u0.toInt ≤ 255) (r_u1 : 0 ≤ u1.toInt ∧ u1.toInt ≤ 255) : Met l Z (⟨"java/lang/String", "<init>", "([C)V"⟩ : MethodName) jdk_42_method_3_code 2 none R_s1_2 #[(.ref a), (.ref c1)] h0 n0 J (Q_s1_2 Z h0 n0 J a c1 cs u0 u1) := by
  refine Met.of (plainFor_of_name pn1) (fun m => ef12 m a c1) ?_
  intro p e s m args below meth c C Js
  refine G.aloadN C d2_0 rfl rfl (n := 1) rfl ?_
  refine G.aloadN C d2_1 rfl rfl (n := 2) rfl ?_
  refine G.iconst C (v := (0 : Int32)) d2_2 (by decide) (n := 3) rfl ?_
  refine G.aloadN C d2_3 rfl rfl (n := 4) rfl ?_
  refine G.arraylengthI C (len := (2 : Int32)) O_c rfl d2_4 (n := 5) rfl ?_
  refine G.aconst_null C d2_5 (n := 6) rfl ?_
  refine G.callC C (argsL := [(.ref c1), (.int (0 : Int32)), (.int (2 : Int32)), .null]) (yc := (⟨"java/lang/String", "<init>", "([CIILjava/lang/Void;)V"⟩ : MethodName)) (a := a) rfl (wd hw 11 rfl) (wd hw 12 rfl) (wd hw 6 rfl) (wd hw 14 rfl) (by decide) (m_s4_2 l Z a0 hw J SJ a c1 cs u0 u1 h0 n0 Z0 OLD0 S_c q_cs O_a g_a O_c ne_c r_u0 r_u1) (fun vm' hW => SJ s vm' hW Js) rfl (by decide) (W := 0) rfl (by decide) (c' := 1) (s' := 2) rfl rfl (by decide) (by decide) d2_6 (n := 9) rfl pd3 rfl rfl ?_
  rintro s C _ h7 ⟨⟨rfl, K2, b1, O3, O4, f5⟩, Js⟩
  have ne8 : a ≠ b1 := Nat.ne_of_lt (Nat.lt_of_lt_of_le O_a.lt f5)
  have ne9 : c1 ≠ b1 := Nat.ne_of_lt (Nat.lt_of_lt_of_le O_c.lt f5)
  have g10 : n0 ≤ b1 := Nat.le_trans Z0 f5
  have f11 : h0.size ≤ b1 := Nat.le_trans (Keep.refl h0 []).1 f5
  have O12 := O_c.keep K2 (ninS (Ne.symm ne_c) nin0)
  have OL13 := OLD0.keep K2 (allS g_a all0)
  have Z14 : n0 ≤ h7.size := Nat.le_trans Z0 K2.1
  have K15 : Keep h0 h7 [a] := Keep.tr (Keep.refl h0 _) K2 (allS (Or.inl (List.mem_of_getElem? (i := 0) rfl)) all0)
  refine G.return_ C d2_9 (by decide) (by decide) ?_
  intro vm' hWm
  refine ⟨?_, SJ s vm' hWm Js⟩
  exact ⟨rfl, K15, _, O3, O4, f11⟩
theorem ef13 (m : MethodId) (a : Addr) (c1 : Addr) : entryFrame m #[(.ref a), (.ref c1)] 2 = mkF m 0 #[.val (.ref a), .val (.ref c1)] [] := by first | (simp [entryFrame, mkF, argsToLocals, Value.category]; done) | rfl
abbrev Q_s1e0 (Z : State) (h0 : Heap) (n0 : Nat) (a : Addr) (c1 : Addr) (cs : Int32) : Option Value → Heap → Vm → Prop := fun v h' vm => v = none ∧ Keep h0 h' [a] ∧ ∃ a1 b1, Ob_St Z h' a (.ref b1) 0 ∧ Ints Z h' b1 .byte [] ∧ Ob_St Z h' a1 (.ref b1) 0 ∧ J1 "java/lang/String" 7 a1 vm
abbrev R_s1e0 : Room := { frames := 2, cells := 2, slots := 4, locals := 29 }
set_option maxRecDepth 65536 in
set_option maxHeartbeats 40000000 in
theorem m_s1e0 (l : Launch) (Z : State) (a0 : Array Value) (hw : ∀ d ∈ tables_1, d.before a0 Z = true) (a : Addr) (c1 : Addr) (cs : Int32) (h0 : Heap) (n0 : Nat) (Z0 : n0 ≤ h0.size) (OLD0 : Old Z n0 h0) (S_c : Sta Z Z.heap "java/lang/String" "COMPACT_STRINGS" "Z" (.int cs)) (q_cs : cs ≠ 0) (O_a : Ob_St Z h0 a .null 0) (g_a : n0 ≤ a) (O_c : Ints Z h0 c1 .char []) (hh : Jvm.Lit.constHeld Z "java/lang/String" 7) (hcw : Jvm.Lit.compactW.before a0 Z = true) : Met l Z (⟨"java/lang/String", "<init>", "([C)V"⟩ : MethodName) jdk_42_method_3_code 2 none R_s1e0 #[(.ref a), (.ref c1)] h0 n0 (J0 Z) (Q_s1e0 Z h0 n0 a c1 cs) := by
  refine Met.of (plainFor_of_name pn1) (fun m => ef13 m a c1) ?_
  intro p e s m args below meth c C Js
  refine G.aloadN C d2_0 rfl rfl (n := 1) rfl ?_
  refine G.aloadN C d2_1 rfl rfl (n := 2) rfl ?_
  refine G.iconst C (v := (0 : Int32)) d2_2 (by decide) (n := 3) rfl ?_
  refine G.aloadN C d2_3 rfl rfl (n := 4) rfl ?_
  refine G.arraylengthI C (len := (0 : Int32)) O_c rfl d2_4 (n := 5) rfl ?_
  refine G.aconst_null C d2_5 (n := 6) rfl ?_
  refine G.callC C (argsL := [(.ref c1), (.int (0 : Int32)), (.int (0 : Int32)), .null]) (yc := (⟨"java/lang/String", "<init>", "([CIILjava/lang/Void;)V"⟩ : MethodName)) (a := a) rfl (wd hw 11 rfl) (wd hw 12 rfl) (wd hw 6 rfl) (wd hw 14 rfl) (by decide) (m_s4e0 l Z a0 hw a c1 cs h0 n0 Z0 OLD0 S_c q_cs O_a g_a O_c hh hcw) (fun vm' hW => stab0 s vm' hW Js) rfl (by decide) (W := 0) rfl (by decide) (c' := 2) (s' := 4) rfl rfl (by decide) (by decide) d2_6 (n := 9) rfl pd3 rfl rfl ?_
  rintro s C _ h8 ⟨rfl, K1, al5, bl6, O2, O3, O4, Js⟩
  have O9 := O_c.keep K1 (ninS (Ne.symm (ne_c hw O_a O_c)) nin0)
  have OL10 := OLD0.keep K1 (allS g_a all0)
  have Z11 : n0 ≤ h8.size := Nat.le_trans Z0 K1.1
  have K12 : Keep h0 h8 [a] := Keep.tr (Keep.refl h0 _) K1 (allS (Or.inl (List.mem_of_getElem? (i := 0) rfl)) all0)
  refine G.return_ C d2_9 (by decide) (by decide) ?_
  intro vm' hWm
  exact ⟨rfl, K12, _, _, O2, O3, O4, stab1 s vm' hWm Js⟩
theorem ef14 (m : MethodId) (a : Addr) (c1 : Addr) : entryFrame m #[(.ref a), (.ref c1)] 2 = mkF m 0 #[.val (.ref a), .val (.ref c1)] [] := by first | (simp [entryFrame, mkF, argsToLocals, Value.category]; done) | rfl
abbrev Q_s1e1 (Z : State) (h0 : Heap) (n0 : Nat) (a : Addr) (c1 : Addr) (cs : Int32) (a1 : Addr) (b1 : Addr) : Option Value → Heap → Vm → Prop := fun v h' vm => v = none ∧ Keep h0 h' [a] ∧ Ob_St Z h' a (.ref b1) 0
abbrev R_s1e1 : Room := { frames := 2, cells := 0, slots := 0, locals := 29 }
set_option maxRecDepth 65536 in
set_option maxHeartbeats 40000000 in
theorem m_s1e1 (l : Launch) (Z : State) (a0 : Array Value) (hw : ∀ d ∈ tables_1, d.before a0 Z = true) (a : Addr) (c1 : Addr) (cs : Int32) (a1 : Addr) (b1 : Addr) (h0 : Heap) (n0 : Nat) (Z0 : n0 ≤ h0.size) (OLD0 : Old Z n0 h0) (S_c : Sta Z Z.heap "java/lang/String" "COMPACT_STRINGS" "Z" (.int cs)) (q_cs : cs ≠ 0) (O_a : Ob_St Z h0 a .null 0) (g_a : n0 ≤ a) (O_c : Ints Z h0 c1 .char []) (O_1 : Ob_St Z h0 a1 (.ref b1) 0) (ne_1 : a ≠ a1) : Met l Z (⟨"java/lang/String", "<init>", "([C)V"⟩ : MethodName) jdk_42_method_3_code 2 none R_s1e1 #[(.ref a), (.ref c1)] h0 n0 (J1 "java/lang/String" 7 a1) (Q_s1e1 Z h0 n0 a c1 cs a1 b1) := by
  refine Met.of (plainFor_of_name pn1) (fun m => ef14 m a c1) ?_
  intro p e s m args below meth c C Js
  refine G.aloadN C d2_0 rfl rfl (n := 1) rfl ?_
  refine G.aloadN C d2_1 rfl rfl (n := 2) rfl ?_
  refine G.iconst C (v := (0 : Int32)) d2_2 (by decide) (n := 3) rfl ?_
  refine G.aloadN C d2_3 rfl rfl (n := 4) rfl ?_
  refine G.arraylengthI C (len := (0 : Int32)) O_c rfl d2_4 (n := 5) rfl ?_
  refine G.aconst_null C d2_5 (n := 6) rfl ?_
  refine G.callC C (argsL := [(.ref c1), (.int (0 : Int32)), (.int (0 : Int32)), .null]) (yc := (⟨"java/lang/String", "<init>", "([CIILjava/lang/Void;)V"⟩ : MethodName)) (a := a) rfl (wd hw 11 rfl) (wd hw 12 rfl) (wd hw 6 rfl) (wd hw 14 rfl) (by decide) (m_s4e1 l Z a0 hw a c1 cs a1 b1 h0 n0 Z0 OLD0 S_c q_cs O_a g_a O_c O_1 ne_1) (fun vm' hW => stab1 s vm' hW Js) rfl (by decide) (W := 0) rfl (by decide) (c' := 0) (s' := 0) rfl rfl (by decide) (by decide) d2_6 (n := 9) rfl pd3 rfl rfl ?_
  rintro s C _ h4 ⟨rfl, K1, O2⟩
  have O5 := O_c.keep K1 (ninS (Ne.symm (ne_c hw O_a O_c)) nin0)
  have O6 := O_1.keep K1 (ninS (Ne.symm ne_1) nin0)
  have OL7 := OLD0.keep K1 (allS g_a all0)
  have Z8 : n0 ≤ h4.size := Nat.le_trans Z0 K1.1
  have K9 : Keep h0 h4 [a] := Keep.tr (Keep.refl h0 _) K1 (allS (Or.inl (List.mem_of_getElem? (i := 0) rfl)) all0)
  have Js : (fun _ => True) s.vm := trivial
  refine G.return_ C d2_9 (by decide) (by decide) ?_
  intro vm' hWm
  exact ⟨rfl, K9, O2⟩
theorem d1_0 : decode method_3_code 0 = .ok (.iload_n 0, 1) := by decide +kernel
theorem d1_1 : decode method_3_code 1 = .ok (.ifCond .ne 14, 3) := by decide +kernel
theorem d1_4 : decode method_3_code 4 = .ok (.new 25, 3) := by decide +kernel
theorem d1_7 : decode method_3_code 7 = .ok (.dup, 1) := by decide +kernel
theorem d1_8 : decode method_3_code 8 = .ok (.iconst 0, 1) := by decide +kernel
theorem d1_9 : decode method_3_code 9 = .ok (.newarray .char, 2) := by decide +kernel
theorem d1_11 : decode method_3_code 11 = .ok (.invokespecial 27, 3) := by decide +kernel
theorem d1_14 : decode method_3_code 14 = .ok (.areturn, 1) := by decide +kernel
theorem d1_15 : decode method_3_code 15 = .ok (.iload_n 0, 1) := by decide +kernel
theorem d1_16 : decode method_3_code 16 = .ok (.iconst 1, 1) := by decide +kernel
theorem d1_17 : decode method_3_code 17 = .ok (.if_icmp .ne 21, 3) := by decide +kernel
theorem d1_20 : decode method_3_code 20 = .ok (.iconst 1, 1) := by decide +kernel
theorem d1_21 : decode method_3_code 21 = .ok (.newarray .char, 2) := by decide +kernel
theorem d1_23 : decode method_3_code 23 = .ok (.astore_n 3, 1) := by decide +kernel
theorem d1_24 : decode method_3_code 24 = .ok (.aload_n 3, 1) := by decide +kernel
theorem d1_25 : decode method_3_code 25 = .ok (.iconst 0, 1) := by decide +kernel
theorem d1_26 : decode method_3_code 26 = .ok (.iload_n 1, 1) := by decide +kernel
theorem d1_27 : decode method_3_code 27 = .ok (.i2c, 1) := by decide +kernel
theorem d1_28 : decode method_3_code 28 = .ok (.castore, 1) := by decide +kernel
theorem d1_29 : decode method_3_code 29 = .ok (.new 25, 3) := by decide +kernel
theorem d1_32 : decode method_3_code 32 = .ok (.dup, 1) := by decide +kernel
theorem d1_33 : decode method_3_code 33 = .ok (.aload_n 3, 1) := by decide +kernel
theorem d1_34 : decode method_3_code 34 = .ok (.invokespecial 27, 3) := by decide +kernel
theorem d1_37 : decode method_3_code 37 = .ok (.areturn, 1) := by decide +kernel
theorem d1_38 : decode method_3_code 38 = .ok (.iconst 2, 1) := by decide +kernel
theorem d1_39 : decode method_3_code 39 = .ok (.newarray .char, 2) := by decide +kernel
theorem d1_41 : decode method_3_code 41 = .ok (.astore_n 3, 1) := by decide +kernel
theorem d1_42 : decode method_3_code 42 = .ok (.aload_n 3, 1) := by decide +kernel
theorem d1_43 : decode method_3_code 43 = .ok (.iconst 0, 1) := by decide +kernel
theorem d1_44 : decode method_3_code 44 = .ok (.iload_n 1, 1) := by decide +kernel
theorem d1_45 : decode method_3_code 45 = .ok (.i2c, 1) := by decide +kernel
theorem d1_46 : decode method_3_code 46 = .ok (.castore, 1) := by decide +kernel
theorem d1_47 : decode method_3_code 47 = .ok (.aload_n 3, 1) := by decide +kernel
theorem d1_48 : decode method_3_code 48 = .ok (.iconst 1, 1) := by decide +kernel
theorem d1_49 : decode method_3_code 49 = .ok (.iload_n 2, 1) := by decide +kernel
theorem d1_50 : decode method_3_code 50 = .ok (.i2c, 1) := by decide +kernel
theorem d1_51 : decode method_3_code 51 = .ok (.castore, 1) := by decide +kernel
theorem d1_52 : decode method_3_code 52 = .ok (.new 25, 3) := by decide +kernel
theorem d1_55 : decode method_3_code 55 = .ok (.dup, 1) := by decide +kernel
theorem d1_56 : decode method_3_code 56 = .ok (.aload_n 3, 1) := by decide +kernel
theorem d1_57 : decode method_3_code 57 = .ok (.invokespecial 27, 3) := by decide +kernel
theorem d1_60 : decode method_3_code 60 = .ok (.areturn, 1) := by decide +kernel
theorem pd4 : parseMethodDescriptor "([C)V" = some ⟨[(.array .char)], none⟩ := by decide +kernel
theorem pn2 : plainName "com/example/portcullis/portcullis/PrincipalEqualsPinLaw" = true := by first | (simp [plainName, overriddenIn]; done) | decide +kernel
theorem ef15 (m : MethodId) (ln : Int32) (c0 : Int32) (c1 : Int32) : entryFrame m #[(.int ln), (.int c0), (.int c1)] 4 = mkF m 0 #[.val (.int ln), .val (.int c0), .val (.int c1), .unset] [] := by first | (simp [entryFrame, mkF, argsToLocals, Value.category]; done) | rfl
abbrev Q_noA (Z : State) (h0 : Heap) (n0 : Nat) (J : Vm → Prop) (ln : Int32) (c0 : Int32) (c1 : Int32) (cs : Int32) : Option Value → Heap → Vm → Prop := fun v h' vm => (∃ x bx, v = some (.ref x) ∧ Keep h0 h' [] ∧ Ob_St Z h' x (.ref bx) 0 ∧ Ints Z h' bx .byte (nm ln c0 c1) ∧ h0.size ≤ x) ∧ J vm
abbrev R_noA : Room := { frames := 4, cells := 3, slots := 8, locals := 66 }
set_option maxRecDepth 65536 in
set_option maxHeartbeats 40000000 in
theorem m_noA (l : Launch) (Z : State) (a0 : Array Value) (hw : ∀ d ∈ tables_1, d.before a0 Z = true) (J : Vm → Prop) (SJ : Stab J) (ln : Int32) (c0 : Int32) (c1 : Int32) (cs : Int32) (h0 : Heap) (n0 : Nat) (Z0 : n0 ≤ h0.size) (OLD0 : Old Z n0 h0) (S_c : Sta Z Z.heap "java/lang/String" "COMPACT_STRINGS" "Z" (.int cs)) (q_cs : cs ≠ 0) (r_c0 : 0 ≤ c0.toInt ∧ c0.toInt ≤ 255) (r_c1 : 0 ≤ c1.toInt ∧ c1.toInt ≤ 255) (q_l : 1 ≤ ln.toInt ∧ ln.toInt ≤ 2) : Met l Z (⟨"com/example/portcullis/portcullis/PrincipalEqualsPinLaw", "nameOf", "(III)Ljava/lang/String;"⟩ : MethodName) method_3_code 4 (some (.object "java/lang/String")) R_noA #[(.int ln), (.int c0), (.int c1)] h0 n0 J (Q_noA Z h0 n0 J ln c0 c1 cs) := by
  refine Met.of (plainFor_of_name pn2) (fun m => ef15 m ln c0 c1) ?_
  intro p e s m args below meth c C Js
  refine G.iloadN C d1_0 rfl (n := 1) rfl ?_
  refine G.if_ne C (A := ln.toInt) rfl d1_1 (by decide) (by decide) (n := 4) (n' := 15) rfl (fun c1_1 c1_1i => ?_) (fun c1_1 c1_1i => ?_)
  rotate_left
  · exact absurd c1_1i (by omega)
  refine G.iloadN C d1_15 rfl (n := 16) rfl ?_
  refine G.iconst C (v := (1 : Int32)) d1_16 (by decide) (n := 17) rfl ?_
  refine G.icmp_ne C (A := ln.toInt) (B := 1) rfl (by decide) d1_17 (by decide) (by decide) (n := 20) (n' := 38) rfl (fun c17_2 c17_2i => ?_) (fun c17_2 c17_2i => ?_)
  · refine G.iconst C (v := (2 : Int32)) d1_38 (by decide) (n := 39) rfl ?_
    refine G.newarray C (ty := .char) (cap := 2) (wd hw 7 rfl) rfl rfl (by decide) (by decide) (by decide) d1_39 (n := 41) rfl (c' := 1) (s' := 2) rfl rfl (by decide) (by decide) ?_
    intro h3 b4 q5 E6 O7
    have O8 : Ints Z h3 b4 .char [0, 0] := O7
    have g9 : n0 ≤ b4 := Nat.le_trans Z0 (Nat.le_of_eq q5.symm)
    have f10 : h0.size ≤ b4 := Nat.le_trans (Keep.refl h0 []).1 (Nat.le_of_eq q5.symm)
    have K11 := kext E6
    have OL12 := OLD0.keep K11 all0
    have Z13 : n0 ≤ h3.size := Nat.le_trans Z0 K11.1
    have K14 : Keep h0 h3 [] := Keep.tr (Keep.refl h0 _) K11 all0
    refine G.astoreN C d1_41 rfl (l' := #[.val (.int ln), .val (.int c0), .val (.int c1), .val (.ref b4)]) rfl (n := 42) rfl ?_
    refine G.aloadN C d1_42 rfl rfl (n := 43) rfl ?_
    refine G.iconst C (v := (0 : Int32)) d1_43 (by decide) (n := 44) rfl ?_
    refine G.iloadN C d1_44 rfl (n := 45) rfl ?_
    refine G.i2c C d1_45 (n := 46) rfl ?_
    refine G.castore C O8 (by decide) (show (0 : Int32).toInt < ((2 : Nat) : Int) by decide) g9 d1_46 (n := 47) rfl ?_
    intro h15 K16 W17 O18
    have O19 : Ints Z h15 b4 .char [c0, 0] := (by have q := O18; rw [chid r_c0.1 r_c0.2] at q; exact q)
    have OL20 := OL12.keep K16 (allS g9 all0)
    have Z21 : n0 ≤ h15.size := Nat.le_trans Z13 K16.1
    have K22 : Keep h0 h15 [] := Keep.tr K14 K16 (allS (Or.inr f10) all0)
    refine G.aloadN C d1_47 rfl rfl (n := 48) rfl ?_
    refine G.iconst C (v := (1 : Int32)) d1_48 (by decide) (n := 49) rfl ?_
    refine G.iloadN C d1_49 rfl (n := 50) rfl ?_
    refine G.i2c C d1_50 (n := 51) rfl ?_
    refine G.castore C O19 (by decide) (show (1 : Int32).toInt < ((2 : Nat) : Int) by decide) g9 d1_51 (n := 52) rfl ?_
    intro h23 K24 W25 O26
    have O27 : Ints Z h23 b4 .char [c0, c1] := (by have q := O26; rw [chid r_c1.1 r_c1.2] at q; exact q)
    have OL28 := OL20.keep K24 (allS g9 all0)
    have Z29 : n0 ≤ h23.size := Nat.le_trans Z21 K24.1
    have K30 : Keep h0 h23 [] := Keep.tr K22 K24 (allS (Or.inr f10) all0)
    refine G.new C (wd hw 4 rfl) (wd hw 5 rfl) (wd hw 6 rfl) d1_52 (n := 55) rfl (c' := 2) (s' := 6) rfl rfl (by decide) (by decide) ?_
    intro h31 b32 q33 E34 A35 D36
    have ne37 : b4 ≠ b32 := Nat.ne_of_lt (Nat.lt_of_lt_of_le O27.lt (Nat.le_of_eq q33.symm))
    have g38 : n0 ≤ b32 := Nat.le_trans Z29 (Nat.le_of_eq q33.symm)
    have f39 : h0.size ≤ b32 := Nat.le_trans K30.1 (Nat.le_of_eq q33.symm)
    have O40 := Ob_St.new hw A35 D36
    have K41 := kext E34
    have O42 := O27.keep K41 nin0
    have OL43 := OL28.keep K41 all0
    have Z44 : n0 ≤ h31.size := Nat.le_trans Z29 K41.1
    have K45 : Keep h0 h31 [] := Keep.tr K30 K41 all0
    refine G.dup C d1_55 rfl (n := 56) rfl ?_
    refine G.aloadN C d1_56 rfl rfl (n := 57) rfl ?_
    refine G.callC C (argsL := [(.ref b4)]) (yc := (⟨"java/lang/String", "<init>", "([C)V"⟩ : MethodName)) (a := b32) rfl (wd hw 8 rfl) (wd hw 9 rfl) (wd hw 6 rfl) (wd hw 10 rfl) (by decide) (m_s1_2 l Z a0 hw J SJ b32 b4 cs c0 c1 h31 n0 Z44 OL43 S_c q_cs O40 g38 O42 (Ne.symm ne37) r_c0 r_c1) (fun vm' hW => SJ s vm' hW Js) rfl (by decide) (W := 1) rfl (by decide) (c' := 3) (s' := 8) rfl rfl (by decide) (by decide) d1_57 (n := 60) rfl pd4 rfl rfl ?_
    rintro s C _ h52 ⟨⟨rfl, K47, b46, O48, O49, f50⟩, Js⟩
    have ne53 : b4 ≠ b46 := Nat.ne_of_lt (Nat.lt_of_lt_of_le O42.lt f50)
    have ne54 : b32 ≠ b46 := Nat.ne_of_lt (Nat.lt_of_lt_of_le O40.lt f50)
    have g55 : n0 ≤ b46 := Nat.le_trans Z44 f50
    have f56 : h0.size ≤ b46 := Nat.le_trans K45.1 f50
    have O57 := O42.keep K47 (ninS ne37 nin0)
    have OL58 := OL43.keep K47 (allS g38 all0)
    have Z59 : n0 ≤ h52.size := Nat.le_trans Z44 K47.1
    have K60 : Keep h0 h52 [] := Keep.tr K45 K47 (allS (Or.inr f39) all0)
    refine G.areturn C d1_60 rfl rfl rfl (by decide) (by decide) ?_
    intro vm' hWm
    refine ⟨?_, SJ s vm' hWm Js⟩
    exact ⟨_, _, rfl, K60, O48, (by rw [show ln = 2 from of_int (n := 2) (by decide) (by omega), nm2]; exact O49), f39⟩
  · refine G.iconst C (v := (1 : Int32)) d1_20 (by decide) (n := 21) rfl ?_
    refine G.newarray C (ty := .char) (cap := 1) (wd hw 7 rfl) rfl rfl (by decide) (by decide) (by decide) d1_21 (n := 23) rfl (c' := 1) (s' := 1) rfl rfl (by decide) (by decide) ?_
    intro h61 b62 q63 E64 O65
    have O66 : Ints Z h61 b62 .char [0] := O65
    have g67 : n0 ≤ b62 := Nat.le_trans Z0 (Nat.le_of_eq q63.symm)
    have f68 : h0.size ≤ b62 := Nat.le_trans (Keep.refl h0 []).1 (Nat.le_of_eq q63.symm)
    have K69 := kext E64
    have OL70 := OLD0.keep K69 all0
    have Z71 : n0 ≤ h61.size := Nat.le_trans Z0 K69.1
    have K72 : Keep h0 h61 [] := Keep.tr (Keep.refl h0 _) K69 all0
    refine G.astoreN C d1_23 rfl (l' := #[.val (.int ln), .val (.int c0), .val (.int c1), .val (.ref b62)]) rfl (n := 24) rfl ?_
    refine G.aloadN C d1_24 rfl rfl (n := 25) rfl ?_
    refine G.iconst C (v := (0 : Int32)) d1_25 (by decide) (n := 26) rfl ?_
    refine G.iloadN C d1_26 rfl (n := 27) rfl ?_
    refine G.i2c C d1_27 (n := 28) rfl ?_
    refine G.castore C O66 (by decide) (show (0 : Int32).toInt < ((1 : Nat) : Int) by decide) g67 d1_28 (n := 29) rfl ?_
    intro h73 K74 W75 O76
    have O77 : Ints Z h73 b62 .char [c0] := (by have q := O76; rw [chid r_c0.1 r_c0.2] at q; exact q)
    have OL78 := OL70.keep K74 (allS g67 all0)
    have Z79 : n0 ≤ h73.size := Nat.le_trans Z71 K74.1
    have K80 : Keep h0 h73 [] := Keep.tr K72 K74 (allS (Or.inr f68) all0)
    refine G.new C (wd hw 4 rfl) (wd hw 5 rfl) (wd hw 6 rfl) d1_29 (n := 32) rfl (c' := 2) (s' := 5) rfl rfl (by decide) (by decide) ?_
    intro h81 b82 q83 E84 A85 D86
    have ne87 : b62 ≠ b82 := Nat.ne_of_lt (Nat.lt_of_lt_of_le O77.lt (Nat.le_of_eq q83.symm))
    have g88 : n0 ≤ b82 := Nat.le_trans Z79 (Nat.le_of_eq q83.symm)
    have f89 : h0.size ≤ b82 := Nat.le_trans K80.1 (Nat.le_of_eq q83.symm)
    have O90 := Ob_St.new hw A85 D86
    have K91 := kext E84
    have O92 := O77.keep K91 nin0
    have OL93 := OL78.keep K91 all0
    have Z94 : n0 ≤ h81.size := Nat.le_trans Z79 K91.1
    have K95 : Keep h0 h81 [] := Keep.tr K80 K91 all0
    refine G.dup C d1_32 rfl (n := 33) rfl ?_
    refine G.aloadN C d1_33 rfl rfl (n := 34) rfl ?_
    refine G.callC C (argsL := [(.ref b62)]) (yc := (⟨"java/lang/String", "<init>", "([C)V"⟩ : MethodName)) (a := b82) rfl (wd hw 8 rfl) (wd hw 9 rfl) (wd hw 6 rfl) (wd hw 10 rfl) (by decide) (m_s1_1 l Z a0 hw J SJ b82 b62 cs c0 h81 n0 Z94 OL93 S_c q_cs O90 g88 O92 (Ne.symm ne87) r_c0) (fun vm' hW => SJ s vm' hW Js) rfl (by decide) (W := 1) rfl (by decide) (c' := 3) (s' := 6) rfl rfl (by decide) (by decide) d1_34 (n := 37) rfl pd4 rfl rfl ?_
    rintro s C _ h102 ⟨⟨rfl, K97, b96, O98, O99, f100⟩, Js⟩
    have ne103 : b62 ≠ b96 := Nat.ne_of_lt (Nat.lt_of_lt_of_le O92.lt f100)
    have ne104 : b82 ≠ b96 := Nat.ne_of_lt (Nat.lt_of_lt_of_le O90.lt f100)
    have g105 : n0 ≤ b96 := Nat.le_trans Z94 f100
    have f106 : h0.size ≤ b96 := Nat.le_trans K95.1 f100
    have O107 := O92.keep K97 (ninS ne87 nin0)
    have OL108 := OL93.keep K97 (allS g88 all0)
    have Z109 : n0 ≤ h102.size := Nat.le_trans Z94 K97.1
    have K110 : Keep h0 h102 [] := Keep.tr K95 K97 (allS (Or.inr f89) all0)
    refine G.areturn C d1_37 rfl rfl rfl (by decide) (by decide) ?_
    intro vm' hWm
    refine ⟨?_, SJ s vm' hWm Js⟩
    exact ⟨_, _, rfl, K110, O98, (by rw [show ln = 1 from c17_2, nm1]; exact O99), f89⟩
theorem ef16 (m : MethodId) (c0 : Int32) (c1 : Int32) : entryFrame m #[(.int (0 : Int32)), (.int c0), (.int c1)] 4 = mkF m 0 #[.val (.int (0 : Int32)), .val (.int c0), .val (.int c1), .unset] [] := by first | (simp [entryFrame, mkF, argsToLocals, Value.category]; done) | rfl
abbrev Q_noB (Z : State) (h0 : Heap) (n0 : Nat) (c0 : Int32) (c1 : Int32) (cs : Int32) : Option Value → Heap → Vm → Prop := fun v h' vm => ∃ x a1 b1, v = some (.ref x) ∧ Keep h0 h' [] ∧ Ob_St Z h' x (.ref b1) 0 ∧ Ints Z h' b1 .byte [] ∧ Ob_St Z h' a1 (.ref b1) 0 ∧ h0.size ≤ x ∧ J1 "java/lang/String" 7 a1 vm
abbrev R_noB : Room := { frames := 3, cells := 4, slots := 8, locals := 43 }
set_option maxRecDepth 65536 in
set_option maxHeartbeats 40000000 in
theorem m_noB (l : Launch) (Z : State) (a0 : Array Value) (hw : ∀ d ∈ tables_1, d.before a0 Z = true) (c0 : Int32) (c1 : Int32) (cs : Int32) (h0 : Heap) (n0 : Nat) (Z0 : n0 ≤ h0.size) (OLD0 : Old Z n0 h0) (S_c : Sta Z Z.heap "java/lang/String" "COMPACT_STRINGS" "Z" (.int cs)) (q_cs : cs ≠ 0) (hh : Jvm.Lit.constHeld Z "java/lang/String" 7) (hcw : Jvm.Lit.compactW.before a0 Z = true) : Met l Z (⟨"com/example/portcullis/portcullis/PrincipalEqualsPinLaw", "nameOf", "(III)Ljava/lang/String;"⟩ : MethodName) method_3_code 4 (some (.object "java/lang/String")) R_noB #[(.int (0 : Int32)), (.int c0), (.int c1)] h0 n0 (J0 Z) (Q_noB Z h0 n0 c0 c1 cs) := by
  refine Met.of (plainFor_of_name pn2) (fun m => ef16 m c0 c1) ?_
  intro p e s m args below meth c C Js
  refine G.iloadN C d1_0 rfl (n := 1) rfl ?_
  refine G.if_ne C (A := 0) (by decide) d1_1 (by decide) (by decide) (n := 4) (n' := 15) rfl (fun c1_1 c1_1i => ?_) (fun c1_1 c1_1i => ?_)
  · exact absurd c1_1 (by decide)
  refine G.new C (wd hw 4 rfl) (wd hw 5 rfl) (wd hw 6 rfl) d1_4 (n := 7) rfl (c' := 1) (s' := 4) rfl rfl (by decide) (by decide) ?_
  intro h2 b3 q4 E5 A6 D7
  have g8 : n0 ≤ b3 := Nat.le_trans Z0 (Nat.le_of_eq q4.symm)
  have f9 : h0.size ≤ b3 := Nat.le_trans (Keep.refl h0 []).1 (Nat.le_of_eq q4.symm)
  have O10 := Ob_St.new hw A6 D7
  have K11 := kext E5
  have OL12 := OLD0.keep K11 all0
  have Z13 : n0 ≤ h2.size := Nat.le_trans Z0 K11.1
  have K14 : Keep h0 h2 [] := Keep.tr (Keep.refl h0 _) K11 all0
  refine G.dup C d1_7 rfl (n := 8) rfl ?_
  refine G.iconst C (v := (0 : Int32)) d1_8 (by decide) (n := 9) rfl ?_
  refine G.newarray C (ty := .char) (cap := 0) (wd hw 7 rfl) rfl rfl (by decide) (by decide) (by decide) d1_9 (n := 11) rfl (c' := 2) (s' := 4) rfl rfl (by decide) (by decide) ?_
  intro h15 b16 q17 E18 O19
  have O20 : Ints Z h15 b16 .char [] := O19
  have ne21 : b3 ≠ b16 := Nat.ne_of_lt (Nat.lt_of_lt_of_le O10.lt (Nat.le_of_eq q17.symm))
  have g22 : n0 ≤ b16 := Nat.le_trans Z13 (Nat.le_of_eq q17.symm)
  have f23 : h0.size ≤ b16 := Nat.le_trans K14.1 (Nat.le_of_eq q17.symm)
  have K24 := kext E18
  have O25 := O10.keep K24 nin0
  have OL26 := OL12.keep K24 all0
  have Z27 : n0 ≤ h15.size := Nat.le_trans Z13 K24.1
  have K28 : Keep h0 h15 [] := Keep.tr K14 K24 all0
  refine G.callC C (argsL := [(.ref b16)]) (yc := (⟨"java/lang/String", "<init>", "([C)V"⟩ : MethodName)) (a := b3) rfl (wd hw 8 rfl) (wd hw 9 rfl) (wd hw 6 rfl) (wd hw 10 rfl) (by decide) (m_s1e0 l Z a0 hw b3 b16 cs h15 n0 Z27 OL26 S_c q_cs O25 g8 O20 hh hcw) (fun vm' hW => stab0 s vm' hW Js) rfl (by decide) (W := 1) rfl (by decide) (c' := 4) (s' := 8) rfl rfl (by decide) (by decide) d1_11 (n := 14) rfl pd4 rfl rfl ?_
  rintro s C _ h36 ⟨rfl, K29, al33, bl34, O30, O31, O32, Js⟩
  have O37 := O20.keep K29 (ninS (Ne.symm ne21) nin0)
  have OL38 := OL26.keep K29 (allS g8 all0)
  have Z39 : n0 ≤ h36.size := Nat.le_trans Z27 K29.1
  have K40 : Keep h0 h36 [] := Keep.tr K28 K29 (allS (Or.inr f9) all0)
  refine G.areturn C d1_14 rfl rfl rfl (by decide) (by decide) ?_
  intro vm' hWm
  exact ⟨_, _, _, rfl, K40, O30, O31, O32, f9, stab1 s vm' hWm Js⟩
theorem ef17 (m : MethodId) (ln : Int32) (c0 : Int32) (c1 : Int32) : entryFrame m #[(.int ln), (.int c0), (.int c1)] 4 = mkF m 0 #[.val (.int ln), .val (.int c0), .val (.int c1), .unset] [] := by first | (simp [entryFrame, mkF, argsToLocals, Value.category]; done) | rfl
abbrev Q_noD0 (Z : State) (h0 : Heap) (n0 : Nat) (ln : Int32) (c0 : Int32) (c1 : Int32) (cs : Int32) : Option Value → Heap → Vm → Prop := fun v h' vm => ∃ x bx, v = some (.ref x) ∧ Keep h0 h' [] ∧ Ob_St Z h' x (.ref bx) 0 ∧ Ints Z h' bx .byte (nm ln c0 c1) ∧ h0.size ≤ x
abbrev R_noD0 : Room := { frames := 4, cells := 4, slots := 8, locals := 66 }
set_option maxRecDepth 65536 in
set_option maxHeartbeats 40000000 in
theorem m_noD0 (l : Launch) (Z : State) (a0 : Array Value) (hw : ∀ d ∈ tables_1, d.before a0 Z = true) (ln : Int32) (c0 : Int32) (c1 : Int32) (cs : Int32) (h0 : Heap) (n0 : Nat) (Z0 : n0 ≤ h0.size) (OLD0 : Old Z n0 h0) (S_c : Sta Z Z.heap "java/lang/String" "COMPACT_STRINGS" "Z" (.int cs)) (q_cs : cs ≠ 0) (r_c0 : 0 ≤ c0.toInt ∧ c0.toInt ≤ 255) (r_c1 : 0 ≤ c1.toInt ∧ c1.toInt ≤ 255) (q_l : 0 ≤ ln.toInt ∧ ln.toInt ≤ 2) (hh : Jvm.Lit.constHeld Z "java/lang/String" 7) (hcw : Jvm.Lit.compactW.before a0 Z = true) : Met l Z (⟨"com/example/portcullis/portcullis/PrincipalEqualsPinLaw", "nameOf", "(III)Ljava/lang/String;"⟩ : MethodName) method_3_code 4 (some (.object "java/lang/String")) R_noD0 #[(.int ln), (.int c0), (.int c1)] h0 n0 (J0 Z) (Q_noD0 Z h0 n0 ln c0 c1 cs) := by
  refine Met.of (plainFor_of_name pn2) (fun m => ef17 m ln c0 c1) ?_
  intro p e s m args below meth c C Js
  refine G.iloadN C d1_0 rfl (n := 1) rfl ?_
  refine G.if_ne C (A := ln.toInt) rfl d1_1 (by decide) (by decide) (n := 4) (n' := 15) rfl (fun c1_1 c1_1i => ?_) (fun c1_1 c1_1i => ?_)
  · refine G.iloadN C d1_15 rfl (n := 16) rfl ?_
    refine G.iconst C (v := (1 : Int32)) d1_16 (by decide) (n := 17) rfl ?_
    refine G.icmp_ne C (A := ln.toInt) (B := 1) rfl (by decide) d1_17 (by decide) (by decide) (n := 20) (n' := 38) rfl (fun c17_2 c17_2i => ?_) (fun c17_2 c17_2i => ?_)
    · refine G.iconst C (v := (2 : Int32)) d1_38 (by decide) (n := 39) rfl ?_
      refine G.newarray C (ty := .char) (cap := 2) (wd hw 7 rfl) rfl rfl (by decide) (by decide) (by decide) d1_39 (n := 41) rfl (c' := 1) (s' := 2) rfl rfl (by decide) (by decide) ?_
      intro h3 b4 q5 E6 O7
      have O8 : Ints Z h3 b4 .char [0, 0] := O7
      have g9 : n0 ≤ b4 := Nat.le_trans Z0 (Nat.le_of_eq q5.symm)
      have f10 : h0.size ≤ b4 := Nat.le_trans (Keep.refl h0 []).1 (Nat.le_of_eq q5.symm)
      have K11 := kext E6
      have OL12 := OLD0.keep K11 all0
      have Z13 : n0 ≤ h3.size := Nat.le_trans Z0 K11.1
      have K14 : Keep h0 h3 [] := Keep.tr (Keep.refl h0 _) K11 all0
      refine G.astoreN C d1_41 rfl (l' := #[.val (.int ln), .val (.int c0), .val (.int c1), .val (.ref b4)]) rfl (n := 42) rfl ?_
      refine G.aloadN C d1_42 rfl rfl (n := 43) rfl ?_
      refine G.iconst C (v := (0 : Int32)) d1_43 (by decide) (n := 44) rfl ?_
      refine G.iloadN C d1_44 rfl (n := 45) rfl ?_
      refine G.i2c C d1_45 (n := 46) rfl ?_
      refine G.castore C O8 (by decide) (show (0 : Int32).toInt < ((2 : Nat) : Int) by decide) g9 d1_46 (n := 47) rfl ?_
      intro h15 K16 W17 O18
      have O19 : Ints Z h15 b4 .char [c0, 0] := (by have q := O18; rw [chid r_c0.1 r_c0.2] at q; exact q)
      have OL20 := OL12.keep K16 (allS g9 all0)
      have Z21 : n0 ≤ h15.size := Nat.le_trans Z13 K16.1
      have K22 : Keep h0 h15 [] := Keep.tr K14 K16 (allS (Or.inr f10) all0)
      refine G.aloadN C d1_47 rfl rfl (n := 48) rfl ?_
      refine G.iconst C (v := (1 : Int32)) d1_48 (by decide) (n := 49) rfl ?_
      refine G.iloadN C d1_49 rfl (n := 50) rfl ?_
      refine G.i2c C d1_50 (n := 51) rfl ?_
      refine G.castore C O19 (by decide) (show (1 : Int32).toInt < ((2 : Nat) : Int) by decide) g9 d1_51 (n := 52) rfl ?_
      intro h23 K24 W25 O26
      have O27 : Ints Z h23 b4 .char [c0, c1] := (by have q := O26; rw [chid r_c1.1 r_c1.2] at q; exact q)
      have OL28 := OL20.keep K24 (allS g9 all0)
      have Z29 : n0 ≤ h23.size := Nat.le_trans Z21 K24.1
      have K30 : Keep h0 h23 [] := Keep.tr K22 K24 (allS (Or.inr f10) all0)
      refine G.new C (wd hw 4 rfl) (wd hw 5 rfl) (wd hw 6 rfl) d1_52 (n := 55) rfl (c' := 2) (s' := 6) rfl rfl (by decide) (by decide) ?_
      intro h31 b32 q33 E34 A35 D36
      have ne37 : b4 ≠ b32 := Nat.ne_of_lt (Nat.lt_of_lt_of_le O27.lt (Nat.le_of_eq q33.symm))
      have g38 : n0 ≤ b32 := Nat.le_trans Z29 (Nat.le_of_eq q33.symm)
      have f39 : h0.size ≤ b32 := Nat.le_trans K30.1 (Nat.le_of_eq q33.symm)
      have O40 := Ob_St.new hw A35 D36
      have K41 := kext E34
      have O42 := O27.keep K41 nin0
      have OL43 := OL28.keep K41 all0
      have Z44 : n0 ≤ h31.size := Nat.le_trans Z29 K41.1
      have K45 : Keep h0 h31 [] := Keep.tr K30 K41 all0
      refine G.dup C d1_55 rfl (n := 56) rfl ?_
      refine G.aloadN C d1_56 rfl rfl (n := 57) rfl ?_
      refine G.callC C (argsL := [(.ref b4)]) (yc := (⟨"java/lang/String", "<init>", "([C)V"⟩ : MethodName)) (a := b32) rfl (wd hw 8 rfl) (wd hw 9 rfl) (wd hw 6 rfl) (wd hw 10 rfl) (by decide) (m_s1_2 l Z a0 hw (J0 Z) stab0 b32 b4 cs c0 c1 h31 n0 Z44 OL43 S_c q_cs O40 g38 O42 (Ne.symm ne37) r_c0 r_c1) (fun vm' hW => stab0 s vm' hW Js) rfl (by decide) (W := 1) rfl (by decide) (c' := 3) (s' := 8) rfl rfl (by decide) (by decide) d1_57 (n := 60) rfl pd4 rfl rfl ?_
      rintro s C _ h52 ⟨⟨rfl, K47, b46, O48, O49, f50⟩, Js⟩
      have ne53 : b4 ≠ b46 := Nat.ne_of_lt (Nat.lt_of_lt_of_le O42.lt f50)
      have ne54 : b32 ≠ b46 := Nat.ne_of_lt (Nat.lt_of_lt_of_le O40.lt f50)
      have g55 : n0 ≤ b46 := Nat.le_trans Z44 f50
      have f56 : h0.size ≤ b46 := Nat.le_trans K45.1 f50
      have O57 := O42.keep K47 (ninS ne37 nin0)
      have OL58 := OL43.keep K47 (allS g38 all0)
      have Z59 : n0 ≤ h52.size := Nat.le_trans Z44 K47.1
      have K60 : Keep h0 h52 [] := Keep.tr K45 K47 (allS (Or.inr f39) all0)
      refine G.areturn C d1_60 rfl rfl rfl (by decide) (by decide) ?_
      intro vm' hWm
      exact ⟨_, _, rfl, K60, O48, (by rw [show ln = 2 from of_int (n := 2) (by decide) (by omega), nm2]; exact O49), f39⟩
    · refine G.iconst C (v := (1 : Int32)) d1_20 (by decide) (n := 21) rfl ?_
      refine G.newarray C (ty := .char) (cap := 1) (wd hw 7 rfl) rfl rfl (by decide) (by decide) (by decide) d1_21 (n := 23) rfl (c' := 1) (s' := 1) rfl rfl (by decide) (by decide) ?_
      intro h61 b62 q63 E64 O65
      have O66 : Ints Z h61 b62 .char [0] := O65
      have g67 : n0 ≤ b62 := Nat.le_trans Z0 (Nat.le_of_eq q63.symm)
      have f68 : h0.size ≤ b62 := Nat.le_trans (Keep.refl h0 []).1 (Nat.le_of_eq q63.symm)
      have K69 := kext E64
      have OL70 := OLD0.keep K69 all0
      have Z71 : n0 ≤ h61.size := Nat.le_trans Z0 K69.1
      have K72 : Keep h0 h61 [] := Keep.tr (Keep.refl h0 _) K69 all0
      refine G.astoreN C d1_23 rfl (l' := #[.val (.int ln), .val (.int c0), .val (.int c1), .val (.ref b62)]) rfl (n := 24) rfl ?_
      refine G.aloadN C d1_24 rfl rfl (n := 25) rfl ?_
      refine G.iconst C (v := (0 : Int32)) d1_25 (by decide) (n := 26) rfl ?_
      refine G.iloadN C d1_26 rfl (n := 27) rfl ?_
      refine G.i2c C d1_27 (n := 28) rfl ?_
      refine G.castore C O66 (by decide) (show (0 : Int32).toInt < ((1 : Nat) : Int) by decide) g67 d1_28 (n := 29) rfl ?_
      intro h73 K74 W75 O76
      have O77 : Ints Z h73 b62 .char [c0] := (by have q := O76; rw [chid r_c0.1 r_c0.2] at q; exact q)
      have OL78 := OL70.keep K74 (allS g67 all0)
      have Z79 : n0 ≤ h73.size := Nat.le_trans Z71 K74.1
      have K80 : Keep h0 h73 [] := Keep.tr K72 K74 (allS (Or.inr f68) all0)
      refine G.new C (wd hw 4 rfl) (wd hw 5 rfl) (wd hw 6 rfl) d1_29 (n := 32) rfl (c' := 2) (s' := 5) rfl rfl (by decide) (by decide) ?_
      intro h81 b82 q83 E84 A85 D86
      have ne87 : b62 ≠ b82 := Nat.ne_of_lt (Nat.lt_of_lt_of_le O77.lt (Nat.le_of_eq q83.symm))
      have g88 : n0 ≤ b82 := Nat.le_trans Z79 (Nat.le_of_eq q83.symm)
      have f89 : h0.size ≤ b82 := Nat.le_trans K80.1 (Nat.le_of_eq q83.symm)
      have O90 := Ob_St.new hw A85 D86
      have K91 := kext E84
      have O92 := O77.keep K91 nin0
      have OL93 := OL78.keep K91 all0
      have Z94 : n0 ≤ h81.size := Nat.le_trans Z79 K91.1
      have K95 : Keep h0 h81 [] := Keep.tr K80 K91 all0
      refine G.dup C d1_32 rfl (n := 33) rfl ?_
      refine G.aloadN C d1_33 rfl rfl (n := 34) rfl ?_
      refine G.callC C (argsL := [(.ref b62)]) (yc := (⟨"java/lang/String", "<init>", "([C)V"⟩ : MethodName)) (a := b82) rfl (wd hw 8 rfl) (wd hw 9 rfl) (wd hw 6 rfl) (wd hw 10 rfl) (by decide) (m_s1_1 l Z a0 hw (J0 Z) stab0 b82 b62 cs c0 h81 n0 Z94 OL93 S_c q_cs O90 g88 O92 (Ne.symm ne87) r_c0) (fun vm' hW => stab0 s vm' hW Js) rfl (by decide) (W := 1) rfl (by decide) (c' := 3) (s' := 6) rfl rfl (by decide) (by decide) d1_34 (n := 37) rfl pd4 rfl rfl ?_
      rintro s C _ h102 ⟨⟨rfl, K97, b96, O98, O99, f100⟩, Js⟩
      have ne103 : b62 ≠ b96 := Nat.ne_of_lt (Nat.lt_of_lt_of_le O92.lt f100)
      have ne104 : b82 ≠ b96 := Nat.ne_of_lt (Nat.lt_of_lt_of_le O90.lt f100)
      have g105 : n0 ≤ b96 := Nat.le_trans Z94 f100
      have f106 : h0.size ≤ b96 := Nat.le_trans K95.1 f100
      have O107 := O92.keep K97 (ninS ne87 nin0)
      have OL108 := OL93.keep K97 (allS g88 all0)
      have Z109 : n0 ≤ h102.size := Nat.le_trans Z94 K97.1
      have K110 : Keep h0 h102 [] := Keep.tr K95 K97 (allS (Or.inr f89) all0)
      refine G.areturn C d1_37 rfl rfl rfl (by decide) (by decide) ?_
      intro vm' hWm
      exact ⟨_, _, rfl, K110, O98, (by rw [show ln = 1 from c17_2, nm1]; exact O99), f89⟩
  · refine G.new C (wd hw 4 rfl) (wd hw 5 rfl) (wd hw 6 rfl) d1_4 (n := 7) rfl (c' := 1) (s' := 4) rfl rfl (by decide) (by decide) ?_
    intro h111 b112 q113 E114 A115 D116
    have g117 : n0 ≤ b112 := Nat.le_trans Z0 (Nat.le_of_eq q113.symm)
    have f118 : h0.size ≤ b112 := Nat.le_trans (Keep.refl h0 []).1 (Nat.le_of_eq q113.symm)
    have O119 := Ob_St.new hw A115 D116
    have K120 := kext E114
    have OL121 := OLD0.keep K120 all0
    have Z122 : n0 ≤ h111.size := Nat.le_trans Z0 K120.1
    have K123 : Keep h0 h111 [] := Keep.tr (Keep.refl h0 _) K120 all0
    refine G.dup C d1_7 rfl (n := 8) rfl ?_
    refine G.iconst C (v := (0 : Int32)) d1_8 (by decide) (n := 9) rfl ?_
    refine G.newarray C (ty := .char) (cap := 0) (wd hw 7 rfl) rfl rfl (by decide) (by decide) (by decide) d1_9 (n := 11) rfl (c' := 2) (s' := 4) rfl rfl (by decide) (by decide) ?_
    intro h124 b125 q126 E127 O128
    have O129 : Ints Z h124 b125 .char [] := O128
    have ne130 : b112 ≠ b125 := Nat.ne_of_lt (Nat.lt_of_lt_of_le O119.lt (Nat.le_of_eq q126.symm))
    have g131 : n0 ≤ b125 := Nat.le_trans Z122 (Nat.le_of_eq q126.symm)
    have f132 : h0.size ≤ b125 := Nat.le_trans K123.1 (Nat.le_of_eq q126.symm)
    have K133 := kext E127
    have O134 := O119.keep K133 nin0
    have OL135 := OL121.keep K133 all0
    have Z136 : n0 ≤ h124.size := Nat.le_trans Z122 K133.1
    have K137 : Keep h0 h124 [] := Keep.tr K123 K133 all0
    refine G.callC C (argsL := [(.ref b125)]) (yc := (⟨"java/lang/String", "<init>", "([C)V"⟩ : MethodName)) (a := b112) rfl (wd hw 8 rfl) (wd hw 9 rfl) (wd hw 6 rfl) (wd hw 10 rfl) (by decide) (m_s1e0 l Z a0 hw b112 b125 cs h124 n0 Z136 OL135 S_c q_cs O134 g117 O129 hh hcw) (fun vm' hW => stab0 s vm' hW Js) rfl (by decide) (W := 1) rfl (by decide) (c' := 4) (s' := 8) rfl rfl (by decide) (by decide) d1_11 (n := 14) rfl pd4 rfl rfl ?_
    rintro s C _ h145 ⟨rfl, K138, al142, bl143, O139, O140, O141, Js⟩
    have O146 := O129.keep K138 (ninS (Ne.symm ne130) nin0)
    have OL147 := OL135.keep K138 (allS g117 all0)
    have Z148 : n0 ≤ h145.size := Nat.le_trans Z136 K138.1
    have K149 : Keep h0 h145 [] := Keep.tr K137 K138 (allS (Or.inr f118) all0)
    refine G.areturn C d1_14 rfl rfl rfl (by decide) (by decide) ?_
    intro vm' hWm
    exact ⟨_, _, rfl, K149, O139, (by rw [show ln = 0 from c1_1, nm0]; exact O140), f118⟩
theorem ef18 (m : MethodId) (ln : Int32) (c0 : Int32) (c1 : Int32) : entryFrame m #[(.int ln), (.int c0), (.int c1)] 4 = mkF m 0 #[.val (.int ln), .val (.int c0), .val (.int c1), .unset] [] := by first | (simp [entryFrame, mkF, argsToLocals, Value.category]; done) | rfl
abbrev Q_noD1 (Z : State) (h0 : Heap) (n0 : Nat) (ln : Int32) (c0 : Int32) (c1 : Int32) (cs : Int32) (a1 : Addr) (b1 : Addr) : Option Value → Heap → Vm → Prop := fun v h' vm => ∃ x bx, v = some (.ref x) ∧ Keep h0 h' [] ∧ Ob_St Z h' x (.ref bx) 0 ∧ Ints Z h' bx .byte (nm ln c0 c1) ∧ h0.size ≤ x
abbrev R_noD1 : Room := { frames := 4, cells := 3, slots := 8, locals := 66 }
set_option maxRecDepth 65536 in
set_option maxHeartbeats 40000000 in
theorem m_noD1 (l : Launch) (Z : State) (a0 : Array Value) (hw : ∀ d ∈ tables_1, d.before a0 Z = true) (ln : Int32) (c0 : Int32) (c1 : Int32) (cs : Int32) (a1 : Addr) (b1 : Addr) (h0 : Heap) (n0 : Nat) (Z0 : n0 ≤ h0.size) (OLD0 : Old Z n0 h0) (S_c : Sta Z Z.heap "java/lang/String" "COMPACT_STRINGS" "Z" (.int cs)) (q_cs : cs ≠ 0) (r_c0 : 0 ≤ c0.toInt ∧ c0.toInt ≤ 255) (r_c1 : 0 ≤ c1.toInt ∧ c1.toInt ≤ 255) (q_l : 0 ≤ ln.toInt ∧ ln.toInt ≤ 2) (O_1 : Ob_St Z h0 a1 (.ref b1) 0) (O_b1 : Ints Z h0 b1 .byte []) : Met l Z (⟨"com/example/portcullis/portcullis/PrincipalEqualsPinLaw", "nameOf", "(III)Ljava/lang/String;"⟩ : MethodName) method_3_code 4 (some (.object "java/lang/String")) R_noD1 #[(.int ln), (.int c0), (.int c1)] h0 n0 (J1 "java/lang/String" 7 a1) (Q_noD1 Z h0 n0 ln c0 c1 cs a1 b1) := by
  refine Met.of (plainFor_of_name pn2) (fun m => ef18 m ln c0 c1) ?_
  intro p e s m args below meth c C Js
  refine G.iloadN C d1_0 rfl (n := 1) rfl ?_
  refine G.if_ne C (A := ln.toInt) rfl d1_1 (by decide) (by decide) (n := 4) (n' := 15) rfl (fun c1_1 c1_1i => ?_) (fun c1_1 c1_1i => ?_)
  · refine G.iloadN C d1_15 rfl (n := 16) rfl ?_
    refine G.iconst C (v := (1 : Int32)) d1_16 (by decide) (n := 17) rfl ?_
    refine G.icmp_ne C (A := ln.toInt) (B := 1) rfl (by decide) d1_17 (by decide) (by decide) (n := 20) (n' := 38) rfl (fun c17_2 c17_2i => ?_) (fun c17_2 c17_2i => ?_)
    · refine G.iconst C (v := (2 : Int32)) d1_38 (by decide) (n := 39) rfl ?_
      refine G.newarray C (ty := .char) (cap := 2) (wd hw 7 rfl) rfl rfl (by decide) (by decide) (by decide) d1_39 (n := 41) rfl (c' := 1) (s' := 2) rfl rfl (by decide) (by decide) ?_
      intro h3 b4 q5 E6 O7
      have O8 : Ints Z h3 b4 .char [0, 0] := O7
      have ne9 : a1 ≠ b4 := Nat.ne_of_lt (Nat.lt_of_lt_of_le O_1.lt (Nat.le_of_eq q5.symm))
      have ne10 : b1 ≠ b4 := Nat.ne_of_lt (Nat.lt_of_lt_of_le O_b1.lt (Nat.le_of_eq q5.symm))
      have g11 : n0 ≤ b4 := Nat.le_trans Z0 (Nat.le_of_eq q5.symm)
      have f12 : h0.size ≤ b4 := Nat.le_trans (Keep.refl h0 []).1 (Nat.le_of_eq q5.symm)
      have K13 := kext E6
      have O14 := O_1.keep K13 nin0
      have O15 := O_b1.keep K13 nin0
      have OL16 := OLD0.keep K13 all0
      have Z17 : n0 ≤ h3.size := Nat.le_trans Z0 K13.1
      have K18 : Keep h0 h3 [] := Keep.tr (Keep.refl h0 _) K13 all0
      refine G.astoreN C d1_41 rfl (l' := #[.val (.int ln), .val (.int c0), .val (.int c1), .val (.ref b4)]) rfl (n := 42) rfl ?_
      refine G.aloadN C d1_42 rfl rfl (n := 43) rfl ?_
      refine G.iconst C (v := (0 : Int32)) d1_43 (by decide) (n := 44) rfl ?_
      refine G.iloadN C d1_44 rfl (n := 45) rfl ?_
      refine G.i2c C d1_45 (n := 46) rfl ?_
      refine G.castore C O8 (by decide) (show (0 : Int32).toInt < ((2 : Nat) : Int) by decide) g11 d1_46 (n := 47) rfl ?_
      intro h19 K20 W21 O22
      have O23 : Ints Z h19 b4 .char [c0, 0] := (by have q := O22; rw [chid r_c0.1 r_c0.2] at q; exact q)
      have O24 := O14.keep K20 (ninS ne9 nin0)
      have O25 := O15.keep K20 (ninS ne10 nin0)
      have OL26 := OL16.keep K20 (allS g11 all0)
      have Z27 : n0 ≤ h19.size := Nat.le_trans Z17 K20.1
      have K28 : Keep h0 h19 [] := Keep.tr K18 K20 (allS (Or.inr f12) all0)
      refine G.aloadN C d1_47 rfl rfl (n := 48) rfl ?_
      refine G.iconst C (v := (1 : Int32)) d1_48 (by decide) (n := 49) rfl ?_
      refine G.iloadN C d1_49 rfl (n := 50) rfl ?_
      refine G.i2c C d1_50 (n := 51) rfl ?_
      refine G.castore C O23 (by decide) (show (1 : Int32).toInt < ((2 : Nat) : Int) by decide) g11 d1_51 (n := 52) rfl ?_
      intro h29 K30 W31 O32
      have O33 : Ints Z h29 b4 .char [c0, c1] := (by have q := O32; rw [chid r_c1.1 r_c1.2] at q; exact q)
      have O34 := O24.keep K30 (ninS ne9 nin0)
      have O35 := O25.keep K30 (ninS ne10 nin0)
      have OL36 := OL26.keep K30 (allS g11 all0)
      have Z37 : n0 ≤ h29.size := Nat.le_trans Z27 K30.1
      have K38 : Keep h0 h29 [] := Keep.tr K28 K30 (allS (Or.inr f12) all0)
      refine G.new C (wd hw 4 rfl) (wd hw 5 rfl) (wd hw 6 rfl) d1_52 (n := 55) rfl (c' := 2) (s' := 6) rfl rfl (by decide) (by decide) ?_
      intro h39 b40 q41 E42 A43 D44
      have ne45 : a1 ≠ b40 := Nat.ne_of_lt (Nat.lt_of_lt_of_le O34.lt (Nat.le_of_eq q41.symm))
      have ne46 : b1 ≠ b40 := Nat.ne_of_lt (Nat.lt_of_lt_of_le O35.lt (Nat.le_of_eq q41.symm))
      have ne47 : b4 ≠ b40 := Nat.ne_of_lt (Nat.lt_of_lt_of_le O33.lt (Nat.le_of_eq q41.symm))
      have g48 : n0 ≤ b40 := Nat.le_trans Z37 (Nat.le_of_eq q41.symm)
      have f49 : h0.size ≤ b40 := Nat.le_trans K38.1 (Nat.le_of_eq q41.symm)
      have O50 := Ob_St.new hw A43 D44
      have K51 := kext E42
      have O52 := O34.keep K51 nin0
      have O53 := O35.keep K51 nin0
      have O54 := O33.keep K51 nin0
      have OL55 := OL36.keep K51 all0
      have Z56 : n0 ≤ h39.size := Nat.le_trans Z37 K51.1
      have K57 : Keep h0 h39 [] := Keep.tr K38 K51 all0
      refine G.dup C d1_55 rfl (n := 56) rfl ?_
      refine G.aloadN C d1_56 rfl rfl (n := 57) rfl ?_
      refine G.callC C (argsL := [(.ref b4)]) (yc := (⟨"java/lang/String", "<init>", "([C)V"⟩ : MethodName)) (a := b40) rfl (wd hw 8 rfl) (wd hw 9 rfl) (wd hw 6 rfl) (wd hw 10 rfl) (by decide) (m_s1_2 l Z a0 hw (J1 "java/lang/String" 7 a1) stab1 b40 b4 cs c0 c1 h39 n0 Z56 OL55 S_c q_cs O50 g48 O54 (Ne.symm ne47) r_c0 r_c1) (fun vm' hW => stab1 s vm' hW Js) rfl (by decide) (W := 1) rfl (by decide) (c' := 3) (s' := 8) rfl rfl (by decide) (by decide) d1_57 (n := 60) rfl pd4 rfl rfl ?_
      rintro s C _ h64 ⟨⟨rfl, K59, b58, O60, O61, f62⟩, Js⟩
      have ne65 : a1 ≠ b58 := Nat.ne_of_lt (Nat.lt_of_lt_of_le O52.lt f62)
      have ne66 : b1 ≠ b58 := Nat.ne_of_lt (Nat.lt_of_lt_of_le O53.lt f62)
      have ne67 : b4 ≠ b58 := Nat.ne_of_lt (Nat.lt_of_lt_of_le O54.lt f62)
      have ne68 : b40 ≠ b58 := Nat.ne_of_lt (Nat.lt_of_lt_of_le O50.lt f62)
      have g69 : n0 ≤ b58 := Nat.le_trans Z56 f62
      have f70 : h0.size ≤ b58 := Nat.le_trans K57.1 f62
      have O71 := O52.keep K59 (ninS ne45 nin0)
      have O72 := O53.keep K59 (ninS ne46 nin0)
      have O73 := O54.keep K59 (ninS ne47 nin0)
      have OL74 := OL55.keep K59 (allS g48 all0)
      have Z75 : n0 ≤ h64.size := Nat.le_trans Z56 K59.1
      have K76 : Keep h0 h64 [] := Keep.tr K57 K59 (allS (Or.inr f49) all0)
      refine G.areturn C d1_60 rfl rfl rfl (by decide) (by decide) ?_
      intro vm' hWm
      exact ⟨_, _, rfl, K76, O60, (by rw [show ln = 2 from of_int (n := 2) (by decide) (by omega), nm2]; exact O61), f49⟩
    · refine G.iconst C (v := (1 : Int32)) d1_20 (by decide) (n := 21) rfl ?_
      refine G.newarray C (ty := .char) (cap := 1) (wd hw 7 rfl) rfl rfl (by decide) (by decide) (by decide) d1_21 (n := 23) rfl (c' := 1) (s' := 1) rfl rfl (by decide) (by decide) ?_
      intro h77 b78 q79 E80 O81
      have O82 : Ints Z h77 b78 .char [0] := O81
      have ne83 : a1 ≠ b78 := Nat.ne_of_lt (Nat.lt_of_lt_of_le O_1.lt (Nat.le_of_eq q79.symm))
      have ne84 : b1 ≠ b78 := Nat.ne_of_lt (Nat.lt_of_lt_of_le O_b1.lt (Nat.le_of_eq q79.symm))
      have g85 : n0 ≤ b78 := Nat.le_trans Z0 (Nat.le_of_eq q79.symm)
      have f86 : h0.size ≤ b78 := Nat.le_trans (Keep.refl h0 []).1 (Nat.le_of_eq q79.symm)
      have K87 := kext E80
      have O88 := O_1.keep K87 nin0
      have O89 := O_b1.keep K87 nin0
      have OL90 := OLD0.keep K87 all0
      have Z91 : n0 ≤ h77.size := Nat.le_trans Z0 K87.1
      have K92 : Keep h0 h77 [] := Keep.tr (Keep.refl h0 _) K87 all0
      refine G.astoreN C d1_23 rfl (l' := #[.val (.int ln), .val (.int c0), .val (.int c1), .val (.ref b78)]) rfl (n := 24) rfl ?_
      refine G.aloadN C d1_24 rfl rfl (n := 25) rfl ?_
      refine G.iconst C (v := (0 : Int32)) d1_25 (by decide) (n := 26) rfl ?_
      refine G.iloadN C d1_26 rfl (n := 27) rfl ?_
      refine G.i2c C d1_27 (n := 28) rfl ?_
      refine G.castore C O82 (by decide) (show (0 : Int32).toInt < ((1 : Nat) : Int) by decide) g85 d1_28 (n := 29) rfl ?_
      intro h93 K94 W95 O96
      have O97 : Ints Z h93 b78 .char [c0] := (by have q := O96; rw [chid r_c0.1 r_c0.2] at q; exact q)
      have O98 := O88.keep K94 (ninS ne83 nin0)
      have O99 := O89.keep K94 (ninS ne84 nin0)
      have OL100 := OL90.keep K94 (allS g85 all0)
      have Z101 : n0 ≤ h93.size := Nat.le_trans Z91 K94.1
      have K102 : Keep h0 h93 [] := Keep.tr K92 K94 (allS (Or.inr f86) all0)
      refine G.new C (wd hw 4 rfl) (wd hw 5 rfl) (wd hw 6 rfl) d1_29 (n := 32) rfl (c' := 2) (s' := 5) rfl rfl (by decide) (by decide) ?_
      intro h103 b104 q105 E106 A107 D108
      have ne109 : a1 ≠ b104 := Nat.ne_of_lt (Nat.lt_of_lt_of_le O98.lt (Nat.le_of_eq q105.symm))
      have ne110 : b1 ≠ b104 := Nat.ne_of_lt (Nat.lt_of_lt_of_le O99.lt (Nat.le_of_eq q105.symm))
      have ne111 : b78 ≠ b104 := Nat.ne_of_lt (Nat.lt_of_lt_of_le O97.lt (Nat.le_of_eq q105.symm))
      have g112 : n0 ≤ b104 := Nat.le_trans Z101 (Nat.le_of_eq q105.symm)
      have f113 : h0.size ≤ b104 := Nat.le_trans K102.1 (Nat.le_of_eq q105.symm)
      have O114 := Ob_St.new hw A107 D108
      have K115 := kext E106
      have O116 := O98.keep K115 nin0
      have O117 := O99.keep K115 nin0
      have O118 := O97.keep K115 nin0
      have OL119 := OL100.keep K115 all0
      have Z120 : n0 ≤ h103.size := Nat.le_trans Z101 K115.1
      have K121 : Keep h0 h103 [] := Keep.tr K102 K115 all0
      refine G.dup C d1_32 rfl (n := 33) rfl ?_
      refine G.aloadN C d1_33 rfl rfl (n := 34) rfl ?_
      refine G.callC C (argsL := [(.ref b78)]) (yc := (⟨"java/lang/String", "<init>", "([C)V"⟩ : MethodName)) (a := b104) rfl (wd hw 8 rfl) (wd hw 9 rfl) (wd hw 6 rfl) (wd hw 10 rfl) (by decide) (m_s1_1 l Z a0 hw (J1 "java/lang/String" 7 a1) stab1 b104 b78 cs c0 h103 n0 Z120 OL119 S_c q_cs O114 g112 O118 (Ne.symm ne111) r_c0) (fun vm' hW => stab1 s vm' hW Js) rfl (by decide) (W := 1) rfl (by decide) (c' := 3) (s' := 6) rfl rfl (by decide) (by decide) d1_34 (n := 37) rfl pd4 rfl rfl ?_
      rintro s C _ h128 ⟨⟨rfl, K123, b122, O124, O125, f126⟩, Js⟩
      have ne129 : a1 ≠ b122 := Nat.ne_of_lt (Nat.lt_of_lt_of_le O116.lt f126)
      have ne130 : b1 ≠ b122 := Nat.ne_of_lt (Nat.lt_of_lt_of_le O117.lt f126)
      have ne131 : b78 ≠ b122 := Nat.ne_of_lt (Nat.lt_of_lt_of_le O118.lt f126)
      have ne132 : b104 ≠ b122 := Nat.ne_of_lt (Nat.lt_of_lt_of_le O114.lt f126)
      have g133 : n0 ≤ b122 := Nat.le_trans Z120 f126
      have f134 : h0.size ≤ b122 := Nat.le_trans K121.1 f126
      have O135 := O116.keep K123 (ninS ne109 nin0)
      have O136 := O117.keep K123 (ninS ne110 nin0)
      have O137 := O118.keep K123 (ninS ne111 nin0)
      have OL138 := OL119.keep K123 (allS g112 all0)
      have Z139 : n0 ≤ h128.size := Nat.le_trans Z120 K123.1
      have K140 : Keep h0 h128 [] := Keep.tr K121 K123 (allS (Or.inr f113) all0)
      refine G.areturn C d1_37 rfl rfl rfl (by decide) (by decide) ?_
      intro vm' hWm
      exact ⟨_, _, rfl, K140, O124, (by rw [show ln = 1 from c17_2, nm1]; exact O125), f113⟩
  · refine G.new C (wd hw 4 rfl) (wd hw 5 rfl) (wd hw 6 rfl) d1_4 (n := 7) rfl (c' := 1) (s' := 4) rfl rfl (by decide) (by decide) ?_
    intro h141 b142 q143 E144 A145 D146
    have ne147 : a1 ≠ b142 := Nat.ne_of_lt (Nat.lt_of_lt_of_le O_1.lt (Nat.le_of_eq q143.symm))
    have ne148 : b1 ≠ b142 := Nat.ne_of_lt (Nat.lt_of_lt_of_le O_b1.lt (Nat.le_of_eq q143.symm))
    have g149 : n0 ≤ b142 := Nat.le_trans Z0 (Nat.le_of_eq q143.symm)
    have f150 : h0.size ≤ b142 := Nat.le_trans (Keep.refl h0 []).1 (Nat.le_of_eq q143.symm)
    have O151 := Ob_St.new hw A145 D146
    have K152 := kext E144
    have O153 := O_1.keep K152 nin0
    have O154 := O_b1.keep K152 nin0
    have OL155 := OLD0.keep K152 all0
    have Z156 : n0 ≤ h141.size := Nat.le_trans Z0 K152.1
    have K157 : Keep h0 h141 [] := Keep.tr (Keep.refl h0 _) K152 all0
    refine G.dup C d1_7 rfl (n := 8) rfl ?_
    refine G.iconst C (v := (0 : Int32)) d1_8 (by decide) (n := 9) rfl ?_
    refine G.newarray C (ty := .char) (cap := 0) (wd hw 7 rfl) rfl rfl (by decide) (by decide) (by decide) d1_9 (n := 11) rfl (c' := 2) (s' := 4) rfl rfl (by decide) (by decide) ?_
    intro h158 b159 q160 E161 O162
    have O163 : Ints Z h158 b159 .char [] := O162
    have ne164 : a1 ≠ b159 := Nat.ne_of_lt (Nat.lt_of_lt_of_le O153.lt (Nat.le_of_eq q160.symm))
    have ne165 : b1 ≠ b159 := Nat.ne_of_lt (Nat.lt_of_lt_of_le O154.lt (Nat.le_of_eq q160.symm))
    have ne166 : b142 ≠ b159 := Nat.ne_of_lt (Nat.lt_of_lt_of_le O151.lt (Nat.le_of_eq q160.symm))
    have g167 : n0 ≤ b159 := Nat.le_trans Z156 (Nat.le_of_eq q160.symm)
    have f168 : h0.size ≤ b159 := Nat.le_trans K157.1 (Nat.le_of_eq q160.symm)
    have K169 := kext E161
    have O170 := O153.keep K169 nin0
    have O171 := O154.keep K169 nin0
    have O172 := O151.keep K169 nin0
    have OL173 := OL155.keep K169 all0
    have Z174 : n0 ≤ h158.size := Nat.le_trans Z156 K169.1
    have K175 : Keep h0 h158 [] := Keep.tr K157 K169 all0
    refine G.callC C (argsL := [(.ref b159)]) (yc := (⟨"java/lang/String", "<init>", "([C)V"⟩ : MethodName)) (a := b142) rfl (wd hw 8 rfl) (wd hw 9 rfl) (wd hw 6 rfl) (wd hw 10 rfl) (by decide) (m_s1e1 l Z a0 hw b142 b159 cs a1 b1 h158 n0 Z174 OL173 S_c q_cs O172 g149 O163 O170 (Ne.symm ne147)) (fun vm' hW => stab1 s vm' hW Js) rfl (by decide) (W := 1) rfl (by decide) (c' := 2) (s' := 4) rfl rfl (by decide) (by decide) d1_11 (n := 14) rfl pd4 rfl rfl ?_
    rintro s C _ h179 ⟨rfl, K176, O177⟩
    have O180 := O170.keep K176 (ninS ne147 nin0)
    have O181 := O171.keep K176 (ninS ne148 nin0)
    have O182 := O163.keep K176 (ninS (Ne.symm ne166) nin0)
    have OL183 := OL173.keep K176 (allS g149 all0)
    have Z184 : n0 ≤ h179.size := Nat.le_trans Z174 K176.1
    have K185 : Keep h0 h179 [] := Keep.tr K175 K176 (allS (Or.inr f150) all0)
    have Js : (fun _ => True) s.vm := trivial
    refine G.areturn C d1_14 rfl rfl rfl (by decide) (by decide) ?_
    intro vm' hWm
    exact ⟨_, _, rfl, K185, O177, (by rw [show ln = 0 from c1_1, nm0]; exact O181), f150⟩
theorem d5_0 : decode method_2_code 0 = .ok (.iload_n 0, 1) := by decide +kernel
theorem d5_1 : decode method_2_code 1 = .ok (.ifCond .ne 7, 3) := by decide +kernel
theorem d5_4 : decode method_2_code 4 = .ok (.getstatic 7, 3) := by decide +kernel
theorem d5_7 : decode method_2_code 7 = .ok (.areturn, 1) := by decide +kernel
theorem d5_8 : decode method_2_code 8 = .ok (.iload_n 0, 1) := by decide +kernel
theorem d5_9 : decode method_2_code 9 = .ok (.iconst 1, 1) := by decide +kernel
theorem d5_10 : decode method_2_code 10 = .ok (.if_icmp .ne 7, 3) := by decide +kernel
theorem d5_13 : decode method_2_code 13 = .ok (.getstatic 13, 3) := by decide +kernel
theorem d5_16 : decode method_2_code 16 = .ok (.areturn, 1) := by decide +kernel
theorem d5_17 : decode method_2_code 17 = .ok (.iload_n 0, 1) := by decide +kernel
theorem d5_18 : decode method_2_code 18 = .ok (.iconst 2, 1) := by decide +kernel
theorem d5_19 : decode method_2_code 19 = .ok (.if_icmp .ne 7, 3) := by decide +kernel
theorem d5_22 : decode method_2_code 22 = .ok (.getstatic 16, 3) := by decide +kernel
theorem d5_25 : decode method_2_code 25 = .ok (.areturn, 1) := by decide +kernel
theorem d5_26 : decode method_2_code 26 = .ok (.iload_n 0, 1) := by decide +kernel
theorem d5_27 : decode method_2_code 27 = .ok (.iconst 3, 1) := by decide +kernel
theorem d5_28 : decode method_2_code 28 = .ok (.if_icmp .ne 7, 3) := by decide +kernel
theorem d5_31 : decode method_2_code 31 = .ok (.getstatic 19, 3) := by decide +kernel
theorem d5_34 : decode method_2_code 34 = .ok (.areturn, 1) := by decide +kernel
theorem d5_35 : decode method_2_code 35 = .ok (.getstatic 22, 3) := by decide +kernel
theorem d5_38 : decode method_2_code 38 = .ok (.areturn, 1) := by decide +kernel
theorem ef19 (m : MethodId) (kk : Int32) : entryFrame m #[(.int kk)] 1 = mkF m 0 #[.val (.int kk)] [] := by first | (simp [entryFrame, mkF, argsToLocals, Value.category]; done) | rfl
abbrev Q_kind (Z : State) (h0 : Heap) (n0 : Nat) (J : Vm → Prop) (kk : Int32) (u0 : Addr) (u1 : Addr) (u2 : Addr) (u3 : Addr) (u4 : Addr) : Option Value → Heap → Vm → Prop := fun v h' vm => (v = some (.ref (kdf u0 u1 u2 u3 u4 kk)) ∧ h0 = h') ∧ J vm
abbrev R_kind : Room := { frames := 0, cells := 0, slots := 0, locals := 0 }
set_option maxRecDepth 65536 in
set_option maxHeartbeats 40000000 in
theorem m_kind (l : Launch) (Z : State) (a0 : Array Value) (hw : ∀ d ∈ tables_1, d.before a0 Z = true) (J : Vm → Prop) (SJ : Stab J) (kk : Int32) (u0 : Addr) (u1 : Addr) (u2 : Addr) (u3 : Addr) (u4 : Addr) (h0 : Heap) (n0 : Nat) (Z0 : n0 ≤ h0.size) (OLD0 : Old Z n0 h0) (S_0 : Sta Z Z.heap "com/example/portcullis/portcullis/Principal$Kind" "USER" "Lcom/example/portcullis/portcullis/Principal$Kind;" (.ref u0)) (S_1 : Sta Z Z.heap "com/example/portcullis/portcullis/Principal$Kind" "GROUP" "Lcom/example/portcullis/portcullis/Principal$Kind;" (.ref u1)) (S_2 : Sta Z Z.heap "com/example/portcullis/portcullis/Principal$Kind" "ROLE" "Lcom/example/portcullis/portcullis/Principal$Kind;" (.ref u2)) (S_3 : Sta Z Z.heap "com/example/portcullis/portcullis/Principal$Kind" "EVERYONE" "Lcom/example/portcullis/portcullis/Principal$Kind;" (.ref u3)) (S_4 : Sta Z Z.heap "com/example/portcullis/portcullis/Principal$Kind" "ANONYMOUS" "Lcom/example/portcullis/portcullis/Principal$Kind;" (.ref u4)) : Met l Z (⟨"com/example/portcullis/portcullis/PrincipalEqualsPinLaw", "kindOf", "(I)Lcom/example/portcullis/portcullis/Principal$Kind;"⟩ : MethodName) method_2_code 1 (some (.object "com/example/portcullis/portcullis/Principal$Kind")) R_kind #[(.int kk)] h0 n0 J (Q_kind Z h0 n0 J kk u0 u1 u2 u3 u4) := by
  refine Met.of (plainFor_of_name pn2) (fun m => ef19 m kk) ?_
  intro p e s m args below meth c C Js
  refine G.iloadN C d5_0 rfl (n := 1) rfl ?_
  refine G.if_ne C (A := kk.toInt) rfl d5_1 (by decide) (by decide) (n := 4) (n' := 8) rfl (fun c1_1 c1_1i => ?_) (fun c1_1 c1_1i => ?_)
  · refine G.iloadN C d5_8 rfl (n := 9) rfl ?_
    refine G.iconst C (v := (1 : Int32)) d5_9 (by decide) (n := 10) rfl ?_
    refine G.icmp_ne C (A := kk.toInt) (B := 1) rfl (by decide) d5_10 (by decide) (by decide) (n := 13) (n' := 17) rfl (fun c10_2 c10_2i => ?_) (fun c10_2 c10_2i => ?_)
    · refine G.iloadN C d5_17 rfl (n := 18) rfl ?_
      refine G.iconst C (v := (2 : Int32)) d5_18 (by decide) (n := 19) rfl ?_
      refine G.icmp_ne C (A := kk.toInt) (B := 2) rfl (by decide) d5_19 (by decide) (by decide) (n := 22) (n' := 26) rfl (fun c19_3 c19_3i => ?_) (fun c19_3 c19_3i => ?_)
      · refine G.iloadN C d5_26 rfl (n := 27) rfl ?_
        refine G.iconst C (v := (3 : Int32)) d5_27 (by decide) (n := 28) rfl ?_
        refine G.icmp_ne C (A := kk.toInt) (B := 3) rfl (by decide) d5_28 (by decide) (by decide) (n := 31) (n' := 35) rfl (fun c28_4 c28_4i => ?_) (fun c28_4 c28_4i => ?_)
        · refine G.getstatic C (host := "") (Or.inl (wd hw 78 rfl)) Via.refl (S_4.ext OLD0.2) d5_35 (n := 38) rfl ?_
          refine G.areturn C d5_38 rfl rfl rfl (by decide) (by decide) ?_
          intro vm' hWm
          refine ⟨?_, SJ s vm' hWm Js⟩
          exact ⟨by unfold kdf; rw [if_neg c1_1, if_neg c10_2, if_neg c19_3, if_neg c28_4], rfl⟩
        · refine G.getstatic C (host := "") (Or.inl (wd hw 92 rfl)) Via.refl (S_3.ext OLD0.2) d5_31 (n := 34) rfl ?_
          refine G.areturn C d5_34 rfl rfl rfl (by decide) (by decide) ?_
          intro vm' hWm
          refine ⟨?_, SJ s vm' hWm Js⟩
          exact ⟨by unfold kdf; rw [if_neg c1_1, if_neg c10_2, if_neg c19_3, if_pos c28_4], rfl⟩
      · refine G.getstatic C (host := "") (Or.inl (wd hw 80 rfl)) Via.refl (S_2.ext OLD0.2) d5_22 (n := 25) rfl ?_
        refine G.areturn C d5_25 rfl rfl rfl (by decide) (by decide) ?_
        intro vm' hWm
        refine ⟨?_, SJ s vm' hWm Js⟩
        exact ⟨by unfold kdf; rw [if_neg c1_1, if_neg c10_2, if_pos c19_3], rfl⟩
    · refine G.getstatic C (host := "") (Or.inl (wd hw 66 rfl)) Via.refl (S_1.ext OLD0.2) d5_13 (n := 16) rfl ?_
      refine G.areturn C d5_16 rfl rfl rfl (by decide) (by decide) ?_
      intro vm' hWm
      refine ⟨?_, SJ s vm' hWm Js⟩
      exact ⟨by unfold kdf; rw [if_neg c1_1, if_pos c10_2], rfl⟩
  · refine G.getstatic C (host := "") (Or.inl (wd hw 32 rfl)) Via.refl (S_0.ext OLD0.2) d5_4 (n := 7) rfl ?_
    refine G.areturn C d5_7 rfl rfl rfl (by decide) (by decide) ?_
    intro vm' hWm
    refine ⟨?_, SJ s vm' hWm Js⟩
    exact ⟨by unfold kdf; rw [if_pos c1_1], rfl⟩
theorem d7_0 : decode jdk_30_method_1_code 0 = .ok (.aload_n 0, 1) := by decide +kernel
theorem d7_1 : decode jdk_30_method_1_code 1 = .ok (.invokespecial 1, 3) := by decide +kernel
theorem d7_4 : decode jdk_30_method_1_code 4 = .ok (.return_, 1) := by decide +kernel
theorem pn3 : plainName "java/lang/Record" = true := by first | (simp [plainName, overriddenIn]; done) | decide +kernel
theorem ef20 (m : MethodId) (a : Addr) : entryFrame m #[(.ref a)] 1 = mkF m 0 #[.val (.ref a)] [] := by first | (simp [entryFrame, mkF, argsToLocals, Value.category]; done) | rfl
abbrev Q_rec (Z : State) (h0 : Heap) (n0 : Nat) (J : Vm → Prop) (a : Addr) : Option Value → Heap → Vm → Prop := fun v h' vm => (v = none ∧ h0 = h') ∧ J vm
abbrev R_rec : Room := { frames := 1, cells := 0, slots := 0, locals := 12 }
set_option maxRecDepth 65536 in
set_option maxHeartbeats 40000000 in
theorem m_rec (l : Launch) (Z : State) (a0 : Array Value) (hw : ∀ d ∈ tables_1, d.before a0 Z = true) (J : Vm → Prop) (SJ : Stab J) (a : Addr) (h0 : Heap) (n0 : Nat) (Z0 : n0 ≤ h0.size)  : Met l Z (⟨"java/lang/Record", "<init>", "()V"⟩ : MethodName) jdk_30_method_1_code 1 none R_rec #[(.ref a)] h0 n0 J (Q_rec Z h0 n0 J a) := by
  refine Met.of (plainFor_of_name pn3) (fun m => ef20 m a) ?_
  intro p e s m args below meth c C Js
  refine G.aloadN C d7_0 rfl rfl (n := 1) rfl ?_
  refine G.objinit C (wd hw 43 rfl) (wd hw 16 rfl) (wd hw 17 rfl) d7_1 rfl (by decide) (W := 0) rfl (by decide) (n := 4) rfl ?_
  refine G.return_ C d7_4 (by decide) (by decide) ?_
  intro vm' hWm
  refine ⟨?_, SJ s vm' hWm Js⟩
  exact ⟨rfl, rfl⟩
theorem d6_0 : decode prog_38_method_1_code 0 = .ok (.aload_n 0, 1) := by decide +kernel
theorem d6_1 : decode prog_38_method_1_code 1 = .ok (.invokespecial 1, 3) := by decide +kernel
theorem d6_4 : decode prog_38_method_1_code 4 = .ok (.aload_n 0, 1) := by decide +kernel
theorem d6_5 : decode prog_38_method_1_code 5 = .ok (.aload_n 1, 1) := by decide +kernel
theorem d6_6 : decode prog_38_method_1_code 6 = .ok (.putfield 7, 3) := by decide +kernel
theorem d6_9 : decode prog_38_method_1_code 9 = .ok (.aload_n 0, 1) := by decide +kernel
theorem d6_10 : decode prog_38_method_1_code 10 = .ok (.aload_n 2, 1) := by decide +kernel
theorem d6_11 : decode prog_38_method_1_code 11 = .ok (.putfield 13, 3) := by decide +kernel
theorem d6_14 : decode prog_38_method_1_code 14 = .ok (.return_, 1) := by decide +kernel
theorem pd5 : parseMethodDescriptor "()V" = some ⟨[], none⟩ := by decide +kernel
theorem pn4 : plainName "com/example/portcullis/portcullis/Principal" = true := by first | (simp [plainName, overriddenIn]; done) | decide +kernel
theorem ef21 (m : MethodId) (a : Addr) (kx : Addr) (sx : Addr) : entryFrame m #[(.ref a), (.ref kx), (.ref sx)] 3 = mkF m 0 #[.val (.ref a), .val (.ref kx), .val (.ref sx)] [] := by first | (simp [entryFrame, mkF, argsToLocals, Value.category]; done) | rfl
abbrev Q_pini (Z : State) (h0 : Heap) (n0 : Nat) (J : Vm → Prop) (a : Addr) (kx : Addr) (sx : Addr) : Option Value → Heap → Vm → Prop := fun v h' vm => (v = none ∧ Keep h0 h' [a] ∧ Ob_Pr Z h' a (.ref kx) (.ref sx)) ∧ J vm
abbrev R_pini : Room := { frames := 2, cells := 0, slots := 0, locals := 24 }
set_option maxRecDepth 65536 in
set_option maxHeartbeats 40000000 in
theorem m_pini (l : Launch) (Z : State) (a0 : Array Value) (hw : ∀ d ∈ tables_1, d.before a0 Z = true) (J : Vm → Prop) (SJ : Stab J) (a : Addr) (kx : Addr) (sx : Addr) (h0 : Heap) (n0 : Nat) (Z0 : n0 ≤ h0.size) (O_a : Ob_Pr Z h0 a .null .null) (g_a : n0 ≤ a) : Met l Z (⟨"com/example/portcullis/portcullis/Principal", "<init>", "(Lcom/example/portcullis/portcullis/Principal$Kind;Ljava/lang/String;)V"⟩ : MethodName) prog_38_method_1_code 3 none R_pini #[(.ref a), (.ref kx), (.ref sx)] h0 n0 J (Q_pini Z h0 n0 J a kx sx) := by
  refine Met.of (plainFor_of_name pn4) (fun m => ef21 m a kx sx) ?_
  intro p e s m args below meth c C Js
  refine G.aloadN C d6_0 rfl rfl (n := 1) rfl ?_
  refine G.callC C (argsL := []) (yc := (⟨"java/lang/Record", "<init>", "()V"⟩ : MethodName)) (a := a) rfl (wd hw 38 rfl) (wd hw 39 rfl) (wd hw 41 rfl) (wd hw 42 rfl) (by decide) (m_rec l Z a0 hw J SJ a h0 n0 Z0) (fun vm' hW => SJ s vm' hW Js) rfl (by decide) (W := 0) rfl (by decide) (c' := 0) (s' := 0) rfl rfl (by decide) (by decide) d6_1 (n := 4) rfl pd5 rfl rfl ?_
  rintro s C _ _ ⟨⟨rfl, rfl⟩, Js⟩
  refine G.aloadN C d6_4 rfl rfl (n := 5) rfl ?_
  refine G.aloadN C d6_5 rfl rfl (n := 6) rfl ?_
  refine G.putfield C (host := "") (Or.inl (wd hw 44 rfl)) Via.refl (O_a.2.1) (O_a.1) (Or.inr ⟨(wd hw 45 rfl), rfl, rfl⟩) (wd hw 27 rfl) (ty := (.object "com/example/portcullis/portcullis/Principal$Kind")) (by decide) rfl rfl g_a d6_6 (n := 9) rfl ?_
  intro h3 W4
  have O5 := Ob_Pr.set_kind hw O_a (v := (.ref kx)) W4
  have K6 := Keep.of_wr W4
  have Z7 : n0 ≤ h3.size := Nat.le_trans Z0 K6.1
  have K8 : Keep h0 h3 [a] := Keep.tr (Keep.refl h0 _) K6 (allS (Or.inl (List.mem_of_getElem? (i := 0) rfl)) all0)
  refine G.aloadN C d6_9 rfl rfl (n := 10) rfl ?_
  refine G.aloadN C d6_10 rfl rfl (n := 11) rfl ?_
  refine G.putfield C (host := "") (Or.inl (wd hw 46 rfl)) Via.refl (O5.2.2) (O5.1) (Or.inr ⟨(wd hw 47 rfl), rfl, rfl⟩) (wd hw 27 rfl) (ty := (.object "java/lang/String")) (by decide) rfl rfl g_a d6_11 (n := 14) rfl ?_
  intro h9 W10
  have O11 := Ob_Pr.set_name hw O5 (v := (.ref sx)) W10
  have K12 := Keep.of_wr W10
  have Z13 : n0 ≤ h9.size := Nat.le_trans Z7 K12.1
  have K14 : Keep h0 h9 [a] := Keep.tr K8 K12 (allS (Or.inl (List.mem_of_getElem? (i := 0) rfl)) all0)
  refine G.return_ C d6_14 (by decide) (by decide) ?_
  intro vm' hWm
  refine ⟨?_, SJ s vm' hWm Js⟩
  exact ⟨rfl, K14, O11⟩
theorem lext {l m : List Int32} (hl : l.length = m.length) (h : ∀ q, q < l.length → l.getD q 0 = m.getD q 0) : l = m := List.ext_getElem hl (fun i h1 h2 => by
  have q := h i h1
  rw [List.getD_eq_getElem?_getD, List.getD_eq_getElem?_getD, List.getElem?_eq_getElem h1, List.getElem?_eq_getElem h2] at q
  exact q)
theorem inc1 {i v : Int32} {u n : Nat} (h : v = i + 1) (hi : i.toInt = (u : Int)) (hn : u < n) (hb : (n : Int) < 2147483648) : v.toInt = ((u + 1 : Nat) : Int) := by
  have q1 := c_iadd i 1
  have q2 := rng32 (i + 1)
  rw [h]
  rw [show (1 : Int32).toInt = 1 from rfl] at q1
  omega
theorem d10_0 : decode jdk_43_method_13_code 0 = .ok (.aload_n 0, 1) := by decide +kernel
theorem d10_1 : decode jdk_43_method_13_code 1 = .ok (.arraylength, 1) := by decide +kernel
theorem d10_2 : decode jdk_43_method_13_code 2 = .ok (.aload_n 1, 1) := by decide +kernel
theorem d10_3 : decode jdk_43_method_13_code 3 = .ok (.arraylength, 1) := by decide +kernel
theorem d10_4 : decode jdk_43_method_13_code 4 = .ok (.if_icmp .ne 30, 3) := by decide +kernel
theorem d10_7 : decode jdk_43_method_13_code 7 = .ok (.iconst 0, 1) := by decide +kernel
theorem d10_8 : decode jdk_43_method_13_code 8 = .ok (.istore_n 2, 1) := by decide +kernel
theorem d10_9 : decode jdk_43_method_13_code 9 = .ok (.iload_n 2, 1) := by decide +kernel
theorem d10_10 : decode jdk_43_method_13_code 10 = .ok (.aload_n 0, 1) := by decide +kernel
theorem d10_11 : decode jdk_43_method_13_code 11 = .ok (.arraylength, 1) := by decide +kernel
theorem d10_12 : decode jdk_43_method_13_code 12 = .ok (.if_icmp .ge 20, 3) := by decide +kernel
theorem d10_15 : decode jdk_43_method_13_code 15 = .ok (.aload_n 0, 1) := by decide +kernel
theorem d10_16 : decode jdk_43_method_13_code 16 = .ok (.iload_n 2, 1) := by decide +kernel
theorem d10_17 : decode jdk_43_method_13_code 17 = .ok (.baload, 1) := by decide +kernel
theorem d10_18 : decode jdk_43_method_13_code 18 = .ok (.aload_n 1, 1) := by decide +kernel
theorem d10_19 : decode jdk_43_method_13_code 19 = .ok (.iload_n 2, 1) := by decide +kernel
theorem d10_20 : decode jdk_43_method_13_code 20 = .ok (.baload, 1) := by decide +kernel
theorem d10_21 : decode jdk_43_method_13_code 21 = .ok (.if_icmp .eq 5, 3) := by decide +kernel
theorem d10_24 : decode jdk_43_method_13_code 24 = .ok (.iconst 0, 1) := by decide +kernel
theorem d10_25 : decode jdk_43_method_13_code 25 = .ok (.ireturn, 1) := by decide +kernel
theorem d10_26 : decode jdk_43_method_13_code 26 = .ok (.iinc 2 1, 3) := by decide +kernel
theorem d10_29 : decode jdk_43_method_13_code 29 = .ok (.goto (-20), 3) := by decide +kernel
theorem d10_32 : decode jdk_43_method_13_code 32 = .ok (.iconst 1, 1) := by decide +kernel
theorem d10_33 : decode jdk_43_method_13_code 33 = .ok (.ireturn, 1) := by decide +kernel
theorem d10_34 : decode jdk_43_method_13_code 34 = .ok (.iconst 0, 1) := by decide +kernel
theorem d10_35 : decode jdk_43_method_13_code 35 = .ok (.ireturn, 1) := by decide +kernel
theorem pn5 : plainName "java/lang/StringLatin1" = true := by first | (simp [plainName, overriddenIn]; done) | decide +kernel
theorem ef22 (m : MethodId) (b : Addr) (d : Addr) : entryFrame m #[(.ref b), (.ref d)] 3 = mkF m 0 #[.val (.ref b), .val (.ref d), .unset] [] := by first | (simp [entryFrame, mkF, argsToLocals, Value.category]; done) | rfl
abbrev Q_leq (Z : State) (h0 : Heap) (n0 : Nat) (J : Vm → Prop) (b : Addr) (d : Addr) (ub : List Int32) (ud : List Int32) (n1 : Int32) (n2 : Int32) : Option Value → Heap → Vm → Prop := fun v h' vm => (∃ r : Int32, v = some (.int r) ∧ ((r = 1 ∧ ub = ud) ∨ (r = 0 ∧ ¬ ub = ud)) ∧ h0 = h') ∧ J vm
abbrev R_leq : Room := { frames := 0, cells := 0, slots := 0, locals := 0 }
set_option maxRecDepth 65536 in
set_option maxHeartbeats 40000000 in
theorem m_leq (l : Launch) (Z : State) (a0 : Array Value) (hw : ∀ d ∈ tables_1, d.before a0 Z = true) (J : Vm → Prop) (SJ : Stab J) (b : Addr) (d : Addr) (ub : List Int32) (ud : List Int32) (n1 : Int32) (n2 : Int32) (h0 : Heap) (n0 : Nat) (Z0 : n0 ≤ h0.size) (O_b : Ints Z h0 b .byte ub) (O_d : Ints Z h0 d .byte ud) (q_1 : n1.toInt = (ub.length : Int)) (q_2 : n2.toInt = (ud.length : Int)) : Met l Z (⟨"java/lang/StringLatin1", "equals", "([B[B)Z"⟩ : MethodName) jdk_43_method_13_code 3 (some .boolean) R_leq #[(.ref b), (.ref d)] h0 n0 J (Q_leq Z h0 n0 J b d ub ud n1 n2) := by
  refine Met.of (plainFor_of_name pn5) (fun m => ef22 m b d) ?_
  intro p e s m args below meth c C Js
  refine G.aloadN C d10_0 rfl rfl (n := 1) rfl ?_
  refine G.arraylengthI C (len := n1) O_b q_1 d10_1 (n := 2) rfl ?_
  refine G.aloadN C d10_2 rfl rfl (n := 3) rfl ?_
  refine G.arraylengthI C (len := n2) O_d q_2 d10_3 (n := 4) rfl ?_
  refine G.icmp_ne C (A := n1.toInt) (B := n2.toInt) rfl rfl d10_4 (by decide) (by decide) (n := 7) (n' := 34) rfl (fun c4_1 c4_1i => ?_) (fun c4_1 c4_1i => ?_)
  · refine G.iconst C (v := (0 : Int32)) d10_34 (by decide) (n := 35) rfl ?_
    refine G.ireturn C d10_35 (rfl) (by simp) (by decide) (by decide) ?_
    intro vm' hWm
    refine ⟨?_, SJ s vm' hWm Js⟩
    exact ⟨_, rfl, Or.inr ⟨rfl, fun e => by rw [e] at q_1; omega⟩, rfl⟩
  · refine G.iconst C (v := (0 : Int32)) d10_7 (by decide) (n := 8) rfl ?_
    refine G.istoreN C d10_8 (l' := #[.val (.ref b), .val (.ref d), .val (.int (0 : Int32))]) rfl (n := 9) rfl ?_
    have loop2 : ∀ k : Nat, ∀ (i : Int32) (u : Nat), (i.toInt = (u : Int)) → (u + k = ub.length) → (∀ q, q < u → ub.getD q 0 = ud.getD q 0) → Go p l e R_leq s m args below meth c n0 (Q_leq Z h0 n0 J b d ub ud n1 n2) 0 0 h0 (mkF m 9 #[.val (.ref b), .val (.ref d), .val (.int i)] []) := by
      intro k
      induction k with
      | zero =>
        intro i u j1 j2 j3
        refine G.iloadN C d10_9 rfl (n := 10) rfl ?_
        refine G.aloadN C d10_10 rfl rfl (n := 11) rfl ?_
        refine G.arraylengthI C (len := n1) O_b q_1 d10_11 (n := 12) rfl ?_
        refine G.icmp_ge C (A := i.toInt) (B := n1.toInt) rfl rfl d10_12 (by decide) (by decide) (n := 15) (n' := 32) rfl (fun c12_3 => ?_) (fun c12_3 => ?_)
        rotate_left
        · exact absurd c12_3 (by omega)
        refine G.iconst C (v := (1 : Int32)) d10_32 (by decide) (n := 33) rfl ?_
        refine G.ireturn C d10_33 (rfl) (by simp) (by decide) (by decide) ?_
        intro vm' hWm
        refine ⟨?_, SJ s vm' hWm Js⟩
        exact ⟨_, rfl, Or.inl ⟨rfl, lext (by omega) (fun q hq => j3 q (by omega))⟩, rfl⟩
      | succ k ih =>
        intro i u j1 j2 j3
        refine G.iloadN C d10_9 rfl (n := 10) rfl ?_
        refine G.aloadN C d10_10 rfl rfl (n := 11) rfl ?_
        refine G.arraylengthI C (len := n1) O_b q_1 d10_11 (n := 12) rfl ?_
        refine G.icmp_ge C (A := i.toInt) (B := n1.toInt) rfl rfl d10_12 (by decide) (by decide) (n := 15) (n' := 32) rfl (fun c12_4 => ?_) (fun c12_4 => ?_)
        · exact absurd c12_4 (by omega)
        refine G.aloadN C d10_15 rfl rfl (n := 16) rfl ?_
        refine G.iloadN C d10_16 rfl (n := 17) rfl ?_
        refine G.baload C (x := (ub.getD i.toInt.toNat 0)) O_b (by omega) (getD_at (by omega)) d10_17 (n := 18) rfl ?_
        refine G.aloadN C d10_18 rfl rfl (n := 19) rfl ?_
        refine G.iloadN C d10_19 rfl (n := 20) rfl ?_
        refine G.baload C (x := (ud.getD i.toInt.toNat 0)) O_d (by omega) (getD_at (by omega)) d10_20 (n := 21) rfl ?_
        refine G.icmp_eq C (A := (ub.getD i.toInt.toNat 0).toInt) (B := (ud.getD i.toInt.toNat 0).toInt) rfl rfl d10_21 (by decide) (by decide) (n := 24) (n' := 26) rfl (fun c21_5 c21_5i => ?_) (fun c21_5 c21_5i => ?_)
        · refine G.iincZ C (v := (1 : Int32)) d10_26 (by decide) rfl (l' := fun z => #[.val (.ref b), .val (.ref d), .val (.int z)]) (fun _ => rfl) (n := 29) rfl ?_
          intro v6 hv6
          refine G.goto C d10_29 (by decide) (n := 9) (by decide) ?_
          exact ih v6 (u + 1)  (inc1 hv6 j1 (n := ub.length) (by omega) O_b.len) (by omega) (fun q hq => by rcases Nat.lt_succ_iff_lt_or_eq.mp hq with r | r; exact j3 q r; rw [r]; have e := c21_5; rw [show i.toInt.toNat = u by omega] at e; exact e)
        · refine G.iconst C (v := (0 : Int32)) d10_24 (by decide) (n := 25) rfl ?_
          refine G.ireturn C d10_25 (rfl) (by simp) (by decide) (by decide) ?_
          intro vm' hWm
          refine ⟨?_, SJ s vm' hWm Js⟩
          exact ⟨_, rfl, Or.inr ⟨rfl, fun e => c21_5 (by rw [e])⟩, rfl⟩
    exact loop2 ub.length (0 : Int32) 0  (by rfl) (by omega) (fun q h => absurd h (Nat.not_lt_zero _))
theorem d9_0 : decode jdk_42_method_66_code 0 = .ok (.aload_n 0, 1) := by decide +kernel
theorem d9_1 : decode jdk_42_method_66_code 1 = .ok (.aload_n 1, 1) := by decide +kernel
theorem d9_2 : decode jdk_42_method_66_code 2 = .ok (.if_acmp .ne 5, 3) := by decide +kernel
theorem d9_5 : decode jdk_42_method_66_code 5 = .ok (.iconst 1, 1) := by decide +kernel
theorem d9_6 : decode jdk_42_method_66_code 6 = .ok (.ireturn, 1) := by decide +kernel
theorem d9_7 : decode jdk_42_method_66_code 7 = .ok (.aload_n 1, 1) := by decide +kernel
theorem d9_8 : decode jdk_42_method_66_code 8 = .ok (.instanceof 10, 3) := by decide +kernel
theorem d9_11 : decode jdk_42_method_66_code 11 = .ok (.ifCond .eq 43, 3) := by decide +kernel
theorem d9_14 : decode jdk_42_method_66_code 14 = .ok (.aload_n 1, 1) := by decide +kernel
theorem d9_15 : decode jdk_42_method_66_code 15 = .ok (.checkcast 10, 3) := by decide +kernel
theorem d9_18 : decode jdk_42_method_66_code 18 = .ok (.astore_n 2, 1) := by decide +kernel
theorem d9_19 : decode jdk_42_method_66_code 19 = .ok (.getstatic 38, 3) := by decide +kernel
theorem d9_22 : decode jdk_42_method_66_code 22 = .ok (.ifCond .eq 14, 3) := by decide +kernel
theorem d9_25 : decode jdk_42_method_66_code 25 = .ok (.aload_n 0, 1) := by decide +kernel
theorem d9_26 : decode jdk_42_method_66_code 26 = .ok (.getfield 15, 3) := by decide +kernel
theorem d9_29 : decode jdk_42_method_66_code 29 = .ok (.aload_n 2, 1) := by decide +kernel
theorem d9_30 : decode jdk_42_method_66_code 30 = .ok (.getfield 15, 3) := by decide +kernel
theorem d9_33 : decode jdk_42_method_66_code 33 = .ok (.if_icmp .ne 21, 3) := by decide +kernel
theorem d9_36 : decode jdk_42_method_66_code 36 = .ok (.aload_n 0, 1) := by decide +kernel
theorem d9_37 : decode jdk_42_method_66_code 37 = .ok (.getfield 9, 3) := by decide +kernel
theorem d9_40 : decode jdk_42_method_66_code 40 = .ok (.aload_n 2, 1) := by decide +kernel
theorem d9_41 : decode jdk_42_method_66_code 41 = .ok (.getfield 9, 3) := by decide +kernel
theorem d9_44 : decode jdk_42_method_66_code 44 = .ok (.invokestatic 541, 3) := by decide +kernel
theorem d9_47 : decode jdk_42_method_66_code 47 = .ok (.ifCond .eq 7, 3) := by decide +kernel
theorem d9_50 : decode jdk_42_method_66_code 50 = .ok (.iconst 1, 1) := by decide +kernel
theorem d9_51 : decode jdk_42_method_66_code 51 = .ok (.goto 4, 3) := by decide +kernel
theorem d9_54 : decode jdk_42_method_66_code 54 = .ok (.iconst 0, 1) := by decide +kernel
theorem d9_55 : decode jdk_42_method_66_code 55 = .ok (.ireturn, 1) := by decide +kernel
theorem ef23 (m : MethodId) (a : Addr) (a : Addr) : entryFrame m #[(.ref a), (.ref a)] 3 = mkF m 0 #[.val (.ref a), .val (.ref a), .unset] [] := by first | (simp [entryFrame, mkF, argsToLocals, Value.category]; done) | rfl
abbrev Q_sxx (Z : State) (h0 : Heap) (n0 : Nat) (J : Vm → Prop) (a : Addr) : Option Value → Heap → Vm → Prop := fun v h' vm => (v = some (.int 1) ∧ h0 = h') ∧ J vm
abbrev R_sxx : Room := { frames := 0, cells := 0, slots := 0, locals := 0 }
set_option maxRecDepth 65536 in
set_option maxHeartbeats 40000000 in
theorem m_sxx (l : Launch) (Z : State) (a0 : Array Value) (hw : ∀ d ∈ tables_1, d.before a0 Z = true) (J : Vm → Prop) (SJ : Stab J) (a : Addr) (h0 : Heap) (n0 : Nat) (Z0 : n0 ≤ h0.size)  : Met l Z (⟨"java/lang/String", "equals", "(Ljava/lang/Object;)Z"⟩ : MethodName) jdk_42_method_66_code 3 (some .boolean) R_sxx #[(.ref a), (.ref a)] h0 n0 J (Q_sxx Z h0 n0 J a) := by
  refine Met.of (plainFor_of_name pn1) (fun m => ef23 m a a) ?_
  intro p e s m args below meth c C Js
  refine G.aloadN C d9_0 rfl rfl (n := 1) rfl ?_
  refine G.aloadN C d9_1 rfl rfl (n := 2) rfl ?_
  refine G.acmp_ne C rfl rfl d9_2 (by decide) (by decide) (n := 5) (n' := 7) rfl (fun c2_1 => ?_) (fun c2_1 => ?_)
  · exact absurd rfl c2_1
  refine G.iconst C (v := (1 : Int32)) d9_5 (by decide) (n := 6) rfl ?_
  refine G.ireturn C d9_6 (rfl) (by simp) (by decide) (by decide) ?_
  intro vm' hWm
  refine ⟨?_, SJ s vm' hWm Js⟩
  exact ⟨rfl, rfl⟩
theorem pd6 : parseMethodDescriptor "([B[B)Z" = some ⟨[(.array .byte), (.array .byte)], some .boolean⟩ := by decide +kernel
theorem ef24 (m : MethodId) (a : Addr) (b : Addr) : entryFrame m #[(.ref a), (.ref b)] 3 = mkF m 0 #[.val (.ref a), .val (.ref b), .unset] [] := by first | (simp [entryFrame, mkF, argsToLocals, Value.category]; done) | rfl
abbrev Q_seq (Z : State) (h0 : Heap) (n0 : Nat) (J : Vm → Prop) (a : Addr) (b : Addr) (p1 : Addr) (q1 : Addr) (ub : List Int32) (ud : List Int32) (cs : Int32) : Option Value → Heap → Vm → Prop := fun v h' vm => (∃ r : Int32, v = some (.int r) ∧ ((r = 1 ∧ ub = ud) ∨ (r = 0 ∧ ¬ ub = ud)) ∧ h0 = h') ∧ J vm
abbrev R_seq : Room := { frames := 1, cells := 0, slots := 0, locals := 14 }
set_option maxRecDepth 65536 in
set_option maxHeartbeats 40000000 in
theorem m_seq (l : Launch) (Z : State) (a0 : Array Value) (hw : ∀ d ∈ tables_1, d.before a0 Z = true) (J : Vm → Prop) (SJ : Stab J) (a : Addr) (b : Addr) (p1 : Addr) (q1 : Addr) (ub : List Int32) (ud : List Int32) (cs : Int32) (h0 : Heap) (n0 : Nat) (Z0 : n0 ≤ h0.size) (OLD0 : Old Z n0 h0) (S_c : Sta Z Z.heap "java/lang/String" "COMPACT_STRINGS" "Z" (.int cs)) (q_cs : cs ≠ 0) (O_a : Ob_St Z h0 a (.ref p1) 0) (O_b : Ob_St Z h0 b (.ref q1) 0) (O_p : Ints Z h0 p1 .byte ub) (O_q : Ints Z h0 q1 .byte ud) (ne_ab : a ≠ b) : Met l Z (⟨"java/lang/String", "equals", "(Ljava/lang/Object;)Z"⟩ : MethodName) jdk_42_method_66_code 3 (some .boolean) R_seq #[(.ref a), (.ref b)] h0 n0 J (Q_seq Z h0 n0 J a b p1 q1 ub ud cs) := by
  refine Met.of (plainFor_of_name pn1) (fun m => ef24 m a b) ?_
  intro p e s m args below meth c C Js
  obtain ⟨_, n1, _, q_1⟩ := id O_p
  obtain ⟨_, n2, _, q_2⟩ := id O_q
  refine G.aloadN C d9_0 rfl rfl (n := 1) rfl ?_
  refine G.aloadN C d9_1 rfl rfl (n := 2) rfl ?_
  refine G.acmp_ne C rfl rfl d9_2 (by decide) (by decide) (n := 5) (n' := 7) rfl (fun c2_1 => ?_) (fun c2_1 => ?_)
  rotate_left
  · exact absurd (Value.ref.inj c2_1) ne_ab
  refine G.aloadN C d9_7 rfl rfl (n := 8) rfl ?_
  refine G.instY C (wd hw 60 rfl) (Ins.self (O_b.1)) d9_8 (n := 11) rfl ?_
  refine G.if_eq C (A := 1) (by decide) d9_11 (by decide) (by decide) (n := 14) (n' := 54) rfl (fun c11_2 c11_2i => ?_) (fun c11_2 c11_2i => ?_)
  · exact absurd c11_2 (by decide)
  refine G.aloadN C d9_14 rfl rfl (n := 15) rfl ?_
  refine G.checkcast C (wd hw 60 rfl) (Ins.self O_b.1) d9_15 (n := 18) rfl ?_
  refine G.astoreN C d9_18 rfl (l' := #[.val (.ref a), .val (.ref b), .val (.ref b)]) rfl (n := 19) rfl ?_
  refine G.getstatic C (host := "") (Or.inl (wd hw 61 rfl)) Via.refl (S_c.ext OLD0.2) d9_19 (n := 22) rfl ?_
  refine G.if_eq C (A := cs.toInt) rfl d9_22 (by decide) (by decide) (n := 25) (n' := 36) rfl (fun c22_3 c22_3i => ?_) (fun c22_3 c22_3i => ?_)
  · exact absurd c22_3 q_cs
  refine G.aloadN C d9_25 rfl rfl (n := 26) rfl ?_
  refine G.getfield C (host := "") (Or.inl (wd hw 25 rfl)) Via.refl (O_a.2.2) d9_26 (n := 29) rfl ?_
  refine G.aloadN C d9_29 rfl rfl (n := 30) rfl ?_
  refine G.getfield C (host := "") (Or.inl (wd hw 25 rfl)) Via.refl (O_b.2.2) d9_30 (n := 33) rfl ?_
  refine G.icmp_ne C (A := 0) (B := 0) (by decide) (by decide) d9_33 (by decide) (by decide) (n := 36) (n' := 54) rfl (fun c33_4 c33_4i => ?_) (fun c33_4 c33_4i => ?_)
  · exact absurd c33_4 (by decide)
  refine G.aloadN C d9_36 rfl rfl (n := 37) rfl ?_
  refine G.getfield C (host := "") (Or.inl (wd hw 24 rfl)) Via.refl (O_a.2.1) d9_37 (n := 40) rfl ?_
  refine G.aloadN C d9_40 rfl rfl (n := 41) rfl ?_
  refine G.getfield C (host := "") (Or.inl (wd hw 24 rfl)) Via.refl (O_b.2.1) d9_41 (n := 44) rfl ?_
  refine G.callS C (argsL := [(.ref p1), (.ref q1)]) (yc := (⟨"java/lang/StringLatin1", "equals", "([B[B)Z"⟩ : MethodName)) (wd hw 62 rfl) (wd hw 63 rfl) (wd hw 64 rfl) (wd hw 65 rfl) (by decide) (m_leq l Z a0 hw J SJ p1 q1 _ _ n1 n2 h0 n0 Z0 O_p O_q q_1 q_2) (fun vm' hW => SJ s vm' hW Js) rfl (by decide) (W := 0) rfl (by decide) (c' := 0) (s' := 0) rfl rfl (by decide) (by decide) d9_44 (n := 47) rfl pd6 rfl rfl ?_
  rintro s C _ _ ⟨⟨r5, rfl, hr6, rfl⟩, Js⟩
  refine G.if_eq C (A := r5.toInt) rfl d9_47 (by decide) (by decide) (n := 50) (n' := 54) rfl (fun c47_9 c47_9i => ?_) (fun c47_9 c47_9i => ?_)
  · refine G.iconst C (v := (0 : Int32)) d9_54 (by decide) (n := 55) rfl ?_
    refine G.ireturn C d9_55 (rfl) (by simp) (by decide) (by decide) ?_
    intro vm' hWm
    refine ⟨?_, SJ s vm' hWm Js⟩
    exact ⟨_, rfl, Or.inr ⟨rfl, (hr6.resolve_left (fun z => absurd (z.1.symm.trans c47_9) (by decide))).2⟩, rfl⟩
  · refine G.iconst C (v := (1 : Int32)) d9_50 (by decide) (n := 51) rfl ?_
    refine G.goto C d9_51 (by decide) (n := 55) (by decide) ?_
    refine G.ireturn C d9_55 (rfl) (by simp) (by decide) (by decide) ?_
    intro vm' hWm
    refine ⟨?_, SJ s vm' hWm Js⟩
    exact ⟨_, rfl, Or.inl ⟨rfl, (hr6.resolve_right (fun z => absurd z.1 c47_9)).2⟩, rfl⟩
theorem d8_0 : decode prog_38_method_2_code 0 = .ok (.aload_n 1, 1) := by decide +kernel
theorem d8_1 : decode prog_38_method_2_code 1 = .ok (.instanceof 8, 3) := by decide +kernel
theorem d8_4 : decode prog_38_method_2_code 4 = .ok (.ifCond .eq 37, 3) := by decide +kernel
theorem d8_7 : decode prog_38_method_2_code 7 = .ok (.aload_n 1, 1) := by decide +kernel
theorem d8_8 : decode prog_38_method_2_code 8 = .ok (.checkcast 8, 3) := by decide +kernel
theorem d8_11 : decode prog_38_method_2_code 11 = .ok (.astore_n 2, 1) := by decide +kernel
theorem d8_12 : decode prog_38_method_2_code 12 = .ok (.aload_n 0, 1) := by decide +kernel
theorem d8_13 : decode prog_38_method_2_code 13 = .ok (.getfield 7, 3) := by decide +kernel
theorem d8_16 : decode prog_38_method_2_code 16 = .ok (.aload_n 2, 1) := by decide +kernel
theorem d8_17 : decode prog_38_method_2_code 17 = .ok (.getfield 7, 3) := by decide +kernel
theorem d8_20 : decode prog_38_method_2_code 20 = .ok (.if_acmp .ne 21, 3) := by decide +kernel
theorem d8_23 : decode prog_38_method_2_code 23 = .ok (.aload_n 0, 1) := by decide +kernel
theorem d8_24 : decode prog_38_method_2_code 24 = .ok (.getfield 13, 3) := by decide +kernel
theorem d8_27 : decode prog_38_method_2_code 27 = .ok (.aload_n 2, 1) := by decide +kernel
theorem d8_28 : decode prog_38_method_2_code 28 = .ok (.getfield 13, 3) := by decide +kernel
theorem d8_31 : decode prog_38_method_2_code 31 = .ok (.invokevirtual 17, 3) := by decide +kernel
theorem d8_34 : decode prog_38_method_2_code 34 = .ok (.ifCond .eq 7, 3) := by decide +kernel
theorem d8_37 : decode prog_38_method_2_code 37 = .ok (.iconst 1, 1) := by decide +kernel
theorem d8_38 : decode prog_38_method_2_code 38 = .ok (.goto 4, 3) := by decide +kernel
theorem d8_41 : decode prog_38_method_2_code 41 = .ok (.iconst 0, 1) := by decide +kernel
theorem d8_42 : decode prog_38_method_2_code 42 = .ok (.ireturn, 1) := by decide +kernel
theorem ef25 (m : MethodId) (x : Addr) : entryFrame m #[(.ref x), .null] 3 = mkF m 0 #[.val (.ref x), .val .null, .unset] [] := by first | (simp [entryFrame, mkF, argsToLocals, Value.category]; done) | rfl
abbrev Q_pnul (Z : State) (h0 : Heap) (n0 : Nat) (J : Vm → Prop) (x : Addr) (kx : Addr) (sx : Addr) : Option Value → Heap → Vm → Prop := fun v h' vm => (v = some (.int 0) ∧ h0 = h') ∧ J vm
abbrev R_pnul : Room := { frames := 0, cells := 0, slots := 0, locals := 0 }
set_option maxRecDepth 65536 in
set_option maxHeartbeats 40000000 in
theorem m_pnul (l : Launch) (Z : State) (a0 : Array Value) (hw : ∀ d ∈ tables_1, d.before a0 Z = true) (J : Vm → Prop) (SJ : Stab J) (x : Addr) (kx : Addr) (sx : Addr) (h0 : Heap) (n0 : Nat) (Z0 : n0 ≤ h0.size) (O_x : Ob_Pr Z h0 x (.ref kx) (.ref sx)) : Met l Z (⟨"com/example/portcullis/portcullis/Principal", "equals", "(Ljava/lang/Object;)Z"⟩ : MethodName) prog_38_method_2_code 3 (some .boolean) R_pnul #[(.ref x), .null] h0 n0 J (Q_pnul Z h0 n0 J x kx sx) := by
  refine Met.of (plainFor_of_name pn4) (fun m => ef25 m x) ?_
  intro p e s m args below meth c C Js
  refine G.aloadN C d8_0 rfl rfl (n := 1) rfl ?_
  refine G.instNull C d8_1 (n := 4) rfl ?_
  refine G.if_eq C (A := 0) (by decide) d8_4 (by decide) (by decide) (n := 7) (n' := 41) rfl (fun c4_1 c4_1i => ?_) (fun c4_1 c4_1i => ?_)
  rotate_left
  · exact absurd c4_1 (by decide)
  refine G.iconst C (v := (0 : Int32)) d8_41 (by decide) (n := 42) rfl ?_
  refine G.ireturn C d8_42 (rfl) (by simp) (by decide) (by decide) ?_
  intro vm' hWm
  refine ⟨?_, SJ s vm' hWm Js⟩
  exact ⟨rfl, rfl⟩
theorem pd7 : parseMethodDescriptor "(Ljava/lang/Object;)Z" = some ⟨[(.object "java/lang/Object")], some .boolean⟩ := by decide +kernel
theorem ef26 (m : MethodId) (x : Addr) (x : Addr) : entryFrame m #[(.ref x), (.ref x)] 3 = mkF m 0 #[.val (.ref x), .val (.ref x), .unset] [] := by first | (simp [entryFrame, mkF, argsToLocals, Value.category]; done) | rfl
abbrev Q_pxx (Z : State) (h0 : Heap) (n0 : Nat) (J : Vm → Prop) (x : Addr) (kx : Addr) (sx : Addr) (p1 : Addr) : Option Value → Heap → Vm → Prop := fun v h' vm => (v = some (.int 1) ∧ h0 = h') ∧ J vm
abbrev R_pxx : Room := { frames := 1, cells := 0, slots := 0, locals := 14 }
set_option maxRecDepth 65536 in
set_option maxHeartbeats 40000000 in
theorem m_pxx (l : Launch) (Z : State) (a0 : Array Value) (hw : ∀ d ∈ tables_1, d.before a0 Z = true) (J : Vm → Prop) (SJ : Stab J) (x : Addr) (kx : Addr) (sx : Addr) (p1 : Addr) (h0 : Heap) (n0 : Nat) (Z0 : n0 ≤ h0.size) (O_x : Ob_Pr Z h0 x (.ref kx) (.ref sx)) (O_s : Ob_St Z h0 sx (.ref p1) 0) : Met l Z (⟨"com/example/portcullis/portcullis/Principal", "equals", "(Ljava/lang/Object;)Z"⟩ : MethodName) prog_38_method_2_code 3 (some .boolean) R_pxx #[(.ref x), (.ref x)] h0 n0 J (Q_pxx Z h0 n0 J x kx sx p1) := by
  refine Met.of (plainFor_of_name pn4) (fun m => ef26 m x x) ?_
  intro p e s m args below meth c C Js
  refine G.aloadN C d8_0 rfl rfl (n := 1) rfl ?_
  refine G.instY C (wd hw 53 rfl) (Ins.self (O_x.1)) d8_1 (n := 4) rfl ?_
  refine G.if_eq C (A := 1) (by decide) d8_4 (by decide) (by decide) (n := 7) (n' := 41) rfl (fun c4_1 c4_1i => ?_) (fun c4_1 c4_1i => ?_)
  · exact absurd c4_1 (by decide)
  refine G.aloadN C d8_7 rfl rfl (n := 8) rfl ?_
  refine G.checkcast C (wd hw 53 rfl) (Ins.self O_x.1) d8_8 (n := 11) rfl ?_
  refine G.astoreN C d8_11 rfl (l' := #[.val (.ref x), .val (.ref x), .val (.ref x)]) rfl (n := 12) rfl ?_
  refine G.aloadN C d8_12 rfl rfl (n := 13) rfl ?_
  refine G.getfield C (host := "") (Or.inl (wd hw 44 rfl)) Via.refl (O_x.2.1) d8_13 (n := 16) rfl ?_
  refine G.aloadN C d8_16 rfl rfl (n := 17) rfl ?_
  refine G.getfield C (host := "") (Or.inl (wd hw 44 rfl)) Via.refl (O_x.2.1) d8_17 (n := 20) rfl ?_
  refine G.acmp_ne C rfl rfl d8_20 (by decide) (by decide) (n := 23) (n' := 41) rfl (fun c20_2 => ?_) (fun c20_2 => ?_)
  · exact absurd rfl c20_2
  refine G.aloadN C d8_23 rfl rfl (n := 24) rfl ?_
  refine G.getfield C (host := "") (Or.inl (wd hw 46 rfl)) Via.refl (O_x.2.2) d8_24 (n := 27) rfl ?_
  refine G.aloadN C d8_27 rfl rfl (n := 28) rfl ?_
  refine G.getfield C (host := "") (Or.inl (wd hw 46 rfl)) Via.refl (O_x.2.2) d8_28 (n := 31) rfl ?_
  refine G.callV C (argsL := [(.ref sx)]) (yr := (⟨"java/lang/String", "equals", "(Ljava/lang/Object;)Z"⟩ : MethodName)) (yc := (⟨"java/lang/String", "equals", "(Ljava/lang/Object;)Z"⟩ : MethodName)) (a := sx) (O_s.1) (wd hw 55 rfl) (wd hw 56 rfl) (nfS (wd hw 58 rfl) rfl) (wd hw 58 rfl) (wd hw 57 rfl) (wd hw 6 rfl) (wd hw 59 rfl) (by decide) (m_sxx l Z a0 hw J SJ sx h0 n0 Z0) (fun vm' hW => SJ s vm' hW Js) rfl (by decide) (W := 0) rfl (by decide) (c' := 0) (s' := 0) rfl rfl (by decide) (by decide) d8_31 (n := 34) rfl pd7 rfl rfl ?_
  rintro s C _ _ ⟨⟨rfl, rfl⟩, Js⟩
  refine G.if_eq C (A := 1) (by decide) d8_34 (by decide) (by decide) (n := 37) (n' := 41) rfl (fun c34_5 c34_5i => ?_) (fun c34_5 c34_5i => ?_)
  · exact absurd c34_5 (by decide)
  refine G.iconst C (v := (1 : Int32)) d8_37 (by decide) (n := 38) rfl ?_
  refine G.goto C d8_38 (by decide) (n := 42) (by decide) ?_
  refine G.ireturn C d8_42 (rfl) (by simp) (by decide) (by decide) ?_
  intro vm' hWm
  refine ⟨?_, SJ s vm' hWm Js⟩
  exact ⟨rfl, rfl⟩
theorem ef27 (m : MethodId) (x : Addr) (y : Addr) : entryFrame m #[(.ref x), (.ref y)] 3 = mkF m 0 #[.val (.ref x), .val (.ref y), .unset] [] := by first | (simp [entryFrame, mkF, argsToLocals, Value.category]; done) | rfl
abbrev Q_pstr (Z : State) (h0 : Heap) (n0 : Nat) (J : Vm → Prop) (x : Addr) (kx : Addr) (sx : Addr) (y : Addr) (p1 : Addr) : Option Value → Heap → Vm → Prop := fun v h' vm => (v = some (.int 0) ∧ h0 = h') ∧ J vm
abbrev R_pstr : Room := { frames := 0, cells := 0, slots := 0, locals := 0 }
set_option maxRecDepth 65536 in
set_option maxHeartbeats 40000000 in
theorem m_pstr (l : Launch) (Z : State) (a0 : Array Value) (hw : ∀ d ∈ tables_1, d.before a0 Z = true) (J : Vm → Prop) (SJ : Stab J) (x : Addr) (kx : Addr) (sx : Addr) (y : Addr) (p1 : Addr) (h0 : Heap) (n0 : Nat) (Z0 : n0 ≤ h0.size) (O_x : Ob_Pr Z h0 x (.ref kx) (.ref sx)) (O_y : Ob_St Z h0 y (.ref p1) 0) : Met l Z (⟨"com/example/portcullis/portcullis/Principal", "equals", "(Ljava/lang/Object;)Z"⟩ : MethodName) prog_38_method_2_code 3 (some .boolean) R_pstr #[(.ref x), (.ref y)] h0 n0 J (Q_pstr Z h0 n0 J x kx sx y p1) := by
  refine Met.of (plainFor_of_name pn4) (fun m => ef27 m x y) ?_
  intro p e s m args below meth c C Js
  refine G.aloadN C d8_0 rfl rfl (n := 1) rfl ?_
  refine G.instNo C (wd hw 53 rfl) (O_y.1) (ns_inst (wd hw 109 rfl) (wd hw 27 rfl) (NS.step (wd hw 109 rfl) (ns_root (wd hw 91 rfl) (wd hw 27 rfl) (by decide)) (by decide)) (by decide)) d8_1 (n := 4) rfl ?_
  refine G.if_eq C (A := 0) (by decide) d8_4 (by decide) (by decide) (n := 7) (n' := 41) rfl (fun c4_1 c4_1i => ?_) (fun c4_1 c4_1i => ?_)
  rotate_left
  · exact absurd c4_1 (by decide)
  refine G.iconst C (v := (0 : Int32)) d8_41 (by decide) (n := 42) rfl ?_
  refine G.ireturn C d8_42 (rfl) (by simp) (by decide) (by decide) ?_
  intro vm' hWm
  refine ⟨?_, SJ s vm' hWm Js⟩
  exact ⟨rfl, rfl⟩
theorem ef28 (m : MethodId) (x : Addr) (y : Addr) : entryFrame m #[(.ref x), (.ref y)] 3 = mkF m 0 #[.val (.ref x), .val (.ref y), .unset] [] := by first | (simp [entryFrame, mkF, argsToLocals, Value.category]; done) | rfl
abbrev Q_pint (Z : State) (h0 : Heap) (n0 : Nat) (J : Vm → Prop) (x : Addr) (kx : Addr) (sx : Addr) (y : Addr) : Option Value → Heap → Vm → Prop := fun v h' vm => (v = some (.int 0) ∧ h0 = h') ∧ J vm
abbrev R_pint : Room := { frames := 0, cells := 0, slots := 0, locals := 0 }
set_option maxRecDepth 65536 in
set_option maxHeartbeats 40000000 in
theorem m_pint (l : Launch) (Z : State) (a0 : Array Value) (hw : ∀ d ∈ tables_1, d.before a0 Z = true) (J : Vm → Prop) (SJ : Stab J) (x : Addr) (kx : Addr) (sx : Addr) (y : Addr) (h0 : Heap) (n0 : Nat) (Z0 : n0 ≤ h0.size) (O_x : Ob_Pr Z h0 x (.ref kx) (.ref sx)) (E_y : Exa Z h0 y "java/lang/Integer") : Met l Z (⟨"com/example/portcullis/portcullis/Principal", "equals", "(Ljava/lang/Object;)Z"⟩ : MethodName) prog_38_method_2_code 3 (some .boolean) R_pint #[(.ref x), (.ref y)] h0 n0 J (Q_pint Z h0 n0 J x kx sx y) := by
  refine Met.of (plainFor_of_name pn4) (fun m => ef28 m x y) ?_
  intro p e s m args below meth c C Js
  refine G.aloadN C d8_0 rfl rfl (n := 1) rfl ?_
  refine G.instNo C (wd hw 53 rfl) E_y (ns_inst (wd hw 89 rfl) (wd hw 27 rfl) (NS.step (wd hw 89 rfl) (NS.step (wd hw 90 rfl) (ns_root (wd hw 91 rfl) (wd hw 27 rfl) (by decide)) (by decide)) (by decide)) (by decide)) d8_1 (n := 4) rfl ?_
  refine G.if_eq C (A := 0) (by decide) d8_4 (by decide) (by decide) (n := 7) (n' := 41) rfl (fun c4_1 c4_1i => ?_) (fun c4_1 c4_1i => ?_)
  rotate_left
  · exact absurd c4_1 (by decide)
  refine G.iconst C (v := (0 : Int32)) d8_41 (by decide) (n := 42) rfl ?_
  refine G.ireturn C d8_42 (rfl) (by simp) (by decide) (by decide) ?_
  intro vm' hWm
  refine ⟨?_, SJ s vm' hWm Js⟩
  exact ⟨rfl, rfl⟩
theorem ef29 (m : MethodId) (x : Addr) (y : Addr) : entryFrame m #[(.ref x), (.ref y)] 3 = mkF m 0 #[.val (.ref x), .val (.ref y), .unset] [] := by first | (simp [entryFrame, mkF, argsToLocals, Value.category]; done) | rfl
abbrev Q_ppq (Z : State) (h0 : Heap) (n0 : Nat) (J : Vm → Prop) (x : Addr) (kx : Addr) (sx : Addr) (y : Addr) (ky : Addr) (sy : Addr) (p1 : Addr) (q1 : Addr) (ub : List Int32) (ud : List Int32) (cs : Int32) : Option Value → Heap → Vm → Prop := fun v h' vm => (∃ r : Int32, v = some (.int r) ∧ ((r = 1 ∧ (kx = ky ∧ ub = ud)) ∨ (r = 0 ∧ ¬ (kx = ky ∧ ub = ud))) ∧ h0 = h') ∧ J vm
abbrev R_ppq : Room := { frames := 2, cells := 0, slots := 0, locals := 28 }
set_option maxRecDepth 65536 in
set_option maxHeartbeats 40000000 in
theorem m_ppq (l : Launch) (Z : State) (a0 : Array Value) (hw : ∀ d ∈ tables_1, d.before a0 Z = true) (J : Vm → Prop) (SJ : Stab J) (x : Addr) (kx : Addr) (sx : Addr) (y : Addr) (ky : Addr) (sy : Addr) (p1 : Addr) (q1 : Addr) (ub : List Int32) (ud : List Int32) (cs : Int32) (h0 : Heap) (n0 : Nat) (Z0 : n0 ≤ h0.size) (OLD0 : Old Z n0 h0) (S_c : Sta Z Z.heap "java/lang/String" "COMPACT_STRINGS" "Z" (.int cs)) (q_cs : cs ≠ 0) (O_x : Ob_Pr Z h0 x (.ref kx) (.ref sx)) (O_y : Ob_Pr Z h0 y (.ref ky) (.ref sy)) (O_a : Ob_St Z h0 sx (.ref p1) 0) (O_b : Ob_St Z h0 sy (.ref q1) 0) (O_p : Ints Z h0 p1 .byte ub) (O_q : Ints Z h0 q1 .byte ud) (ne_s : sx ≠ sy) : Met l Z (⟨"com/example/portcullis/portcullis/Principal", "equals", "(Ljava/lang/Object;)Z"⟩ : MethodName) prog_38_method_2_code 3 (some .boolean) R_ppq #[(.ref x), (.ref y)] h0 n0 J (Q_ppq Z h0 n0 J x kx sx y ky sy p1 q1 ub ud cs) := by
  refine Met.of (plainFor_of_name pn4) (fun m => ef29 m x y) ?_
  intro p e s m args below meth c C Js
  refine G.aloadN C d8_0 rfl rfl (n := 1) rfl ?_
  refine G.instY C (wd hw 53 rfl) (Ins.self (O_y.1)) d8_1 (n := 4) rfl ?_
  refine G.if_eq C (A := 1) (by decide) d8_4 (by decide) (by decide) (n := 7) (n' := 41) rfl (fun c4_1 c4_1i => ?_) (fun c4_1 c4_1i => ?_)
  · exact absurd c4_1 (by decide)
  refine G.aloadN C d8_7 rfl rfl (n := 8) rfl ?_
  refine G.checkcast C (wd hw 53 rfl) (Ins.self O_y.1) d8_8 (n := 11) rfl ?_
  refine G.astoreN C d8_11 rfl (l' := #[.val (.ref x), .val (.ref y), .val (.ref y)]) rfl (n := 12) rfl ?_
  refine G.aloadN C d8_12 rfl rfl (n := 13) rfl ?_
  refine G.getfield C (host := "") (Or.inl (wd hw 44 rfl)) Via.refl (O_x.2.1) d8_13 (n := 16) rfl ?_
  refine G.aloadN C d8_16 rfl rfl (n := 17) rfl ?_
  refine G.getfield C (host := "") (Or.inl (wd hw 44 rfl)) Via.refl (O_y.2.1) d8_17 (n := 20) rfl ?_
  refine G.acmp_ne C rfl rfl d8_20 (by decide) (by decide) (n := 23) (n' := 41) rfl (fun c20_2 => ?_) (fun c20_2 => ?_)
  · refine G.iconst C (v := (0 : Int32)) d8_41 (by decide) (n := 42) rfl ?_
    refine G.ireturn C d8_42 (rfl) (by simp) (by decide) (by decide) ?_
    intro vm' hWm
    refine ⟨?_, SJ s vm' hWm Js⟩
    exact ⟨_, rfl, Or.inr ⟨rfl, fun e => c20_2 (congrArg Value.ref e.1)⟩, rfl⟩
  · refine G.aloadN C d8_23 rfl rfl (n := 24) rfl ?_
    refine G.getfield C (host := "") (Or.inl (wd hw 46 rfl)) Via.refl (O_x.2.2) d8_24 (n := 27) rfl ?_
    refine G.aloadN C d8_27 rfl rfl (n := 28) rfl ?_
    refine G.getfield C (host := "") (Or.inl (wd hw 46 rfl)) Via.refl (O_y.2.2) d8_28 (n := 31) rfl ?_
    refine G.callV C (argsL := [(.ref sy)]) (yr := (⟨"java/lang/String", "equals", "(Ljava/lang/Object;)Z"⟩ : MethodName)) (yc := (⟨"java/lang/String", "equals", "(Ljava/lang/Object;)Z"⟩ : MethodName)) (a := sx) (O_a.1) (wd hw 55 rfl) (wd hw 56 rfl) (nfS (wd hw 58 rfl) rfl) (wd hw 58 rfl) (wd hw 57 rfl) (wd hw 6 rfl) (wd hw 59 rfl) (by decide) (m_seq l Z a0 hw J SJ sx sy p1 q1 _ _ cs h0 n0 Z0 OLD0 S_c q_cs O_a O_b O_p O_q ne_s) (fun vm' hW => SJ s vm' hW Js) rfl (by decide) (W := 0) rfl (by decide) (c' := 0) (s' := 0) rfl rfl (by decide) (by decide) d8_31 (n := 34) rfl pd7 rfl rfl ?_
    rintro s C _ _ ⟨⟨r3, rfl, hr4, rfl⟩, Js⟩
    refine G.if_eq C (A := r3.toInt) rfl d8_34 (by decide) (by decide) (n := 37) (n' := 41) rfl (fun c34_7 c34_7i => ?_) (fun c34_7 c34_7i => ?_)
    · refine G.iconst C (v := (0 : Int32)) d8_41 (by decide) (n := 42) rfl ?_
      refine G.ireturn C d8_42 (rfl) (by simp) (by decide) (by decide) ?_
      intro vm' hWm
      refine ⟨?_, SJ s vm' hWm Js⟩
      exact ⟨_, rfl, Or.inr ⟨rfl, fun e => (hr4.resolve_left (fun z => absurd (z.1.symm.trans c34_7) (by decide))).2 e.2⟩, rfl⟩
    · refine G.iconst C (v := (1 : Int32)) d8_37 (by decide) (n := 38) rfl ?_
      refine G.goto C d8_38 (by decide) (n := 42) (by decide) ?_
      refine G.ireturn C d8_42 (rfl) (by simp) (by decide) (by decide) ?_
      intro vm' hWm
      refine ⟨?_, SJ s vm' hWm Js⟩
      exact ⟨_, rfl, Or.inl ⟨rfl, Value.ref.inj c20_2, (hr4.resolve_right (fun z => absurd z.1 c34_7)).2⟩, rfl⟩
theorem a128 {i : Int32} (h0 : -128 ≤ i.toInt) (h1 : i.toInt ≤ 127) : (i + (128 : Int32)).toInt = i.toInt + 128 := by
  have q1 := c_iadd i 128
  have q2 := rng32 (i + 128)
  rw [show (128 : Int32).toInt = 128 from rfl] at q1
  omega
theorem d16_0 : decode jdk_18_method_1_code 0 = .ok (.aload_n 0, 1) := by decide +kernel
theorem d16_1 : decode jdk_18_method_1_code 1 = .ok (.invokespecial 1, 3) := by decide +kernel
theorem d16_4 : decode jdk_18_method_1_code 4 = .ok (.return_, 1) := by decide +kernel
theorem pn6 : plainName "java/lang/Number" = true := by first | (simp [plainName, overriddenIn]; done) | decide +kernel
theorem ef30 (m : MethodId) (a : Addr) : entryFrame m #[(.ref a)] 1 = mkF m 0 #[.val (.ref a)] [] := by first | (simp [entryFrame, mkF, argsToLocals, Value.category]; done) | rfl
abbrev Q_num (Z : State) (h0 : Heap) (n0 : Nat) (J : Vm → Prop) (a : Addr) : Option Value → Heap → Vm → Prop := fun v h' vm => (v = none ∧ h0 = h') ∧ J vm
abbrev R_num : Room := { frames := 1, cells := 0, slots := 0, locals := 12 }
set_option maxRecDepth 65536 in
set_option maxHeartbeats 40000000 in
theorem m_num (l : Launch) (Z : State) (a0 : Array Value) (hw : ∀ d ∈ tables_1, d.before a0 Z = true) (J : Vm → Prop) (SJ : Stab J) (a : Addr) (h0 : Heap) (n0 : Nat) (Z0 : n0 ≤ h0.size)  : Met l Z (⟨"java/lang/Number", "<init>", "()V"⟩ : MethodName) jdk_18_method_1_code 1 none R_num #[(.ref a)] h0 n0 J (Q_num Z h0 n0 J a) := by
  refine Met.of (plainFor_of_name pn6) (fun m => ef30 m a) ?_
  intro p e s m args below meth c C Js
  refine G.aloadN C d16_0 rfl rfl (n := 1) rfl ?_
  refine G.objinit C (wd hw 106 rfl) (wd hw 16 rfl) (wd hw 17 rfl) d16_1 rfl (by decide) (W := 0) rfl (by decide) (n := 4) rfl ?_
  refine G.return_ C d16_4 (by decide) (by decide) ?_
  intro vm' hWm
  refine ⟨?_, SJ s vm' hWm Js⟩
  exact ⟨rfl, rfl⟩
theorem d15_0 : decode jdk_33_method_23_code 0 = .ok (.aload_n 0, 1) := by decide +kernel
theorem d15_1 : decode jdk_33_method_23_code 1 = .ok (.invokespecial 202, 3) := by decide +kernel
theorem d15_4 : decode jdk_33_method_23_code 4 = .ok (.aload_n 0, 1) := by decide +kernel
theorem d15_5 : decode jdk_33_method_23_code 5 = .ok (.iload_n 1, 1) := by decide +kernel
theorem d15_6 : decode jdk_33_method_23_code 6 = .ok (.putfield 205, 3) := by decide +kernel
theorem d15_9 : decode jdk_33_method_23_code 9 = .ok (.return_, 1) := by decide +kernel
theorem pn7 : plainName "java/lang/Integer" = true := by first | (simp [plainName, overriddenIn]; done) | decide +kernel
theorem ef31 (m : MethodId) (a : Addr) (i : Int32) : entryFrame m #[(.ref a), (.int i)] 2 = mkF m 0 #[.val (.ref a), .val (.int i)] [] := by first | (simp [entryFrame, mkF, argsToLocals, Value.category]; done) | rfl
abbrev Q_ini (Z : State) (h0 : Heap) (n0 : Nat) (J : Vm → Prop) (a : Addr) (i : Int32) : Option Value → Heap → Vm → Prop := fun v h' vm => (v = none ∧ Keep h0 h' [a] ∧ Ob_In Z h' a i) ∧ J vm
abbrev R_ini : Room := { frames := 2, cells := 0, slots := 0, locals := 24 }
set_option maxRecDepth 65536 in
set_option maxHeartbeats 40000000 in
theorem m_ini (l : Launch) (Z : State) (a0 : Array Value) (hw : ∀ d ∈ tables_1, d.before a0 Z = true) (J : Vm → Prop) (SJ : Stab J) (a : Addr) (i : Int32) (h0 : Heap) (n0 : Nat) (Z0 : n0 ≤ h0.size) (O_a : Ob_In Z h0 a 0) (g_a : n0 ≤ a) : Met l Z (⟨"java/lang/Integer", "<init>", "(I)V"⟩ : MethodName) jdk_33_method_23_code 2 none R_ini #[(.ref a), (.int i)] h0 n0 J (Q_ini Z h0 n0 J a i) := by
  refine Met.of (plainFor_of_name pn7) (fun m => ef31 m a i) ?_
  intro p e s m args below meth c C Js
  refine G.aloadN C d15_0 rfl rfl (n := 1) rfl ?_
  refine G.callC C (argsL := []) (yc := (⟨"java/lang/Number", "<init>", "()V"⟩ : MethodName)) (a := a) rfl (wd hw 100 rfl) (wd hw 101 rfl) (wd hw 104 rfl) (wd hw 105 rfl) (by decide) (m_num l Z a0 hw J SJ a h0 n0 Z0) (fun vm' hW => SJ s vm' hW Js) rfl (by decide) (W := 0) rfl (by decide) (c' := 0) (s' := 0) rfl rfl (by decide) (by decide) d15_1 (n := 4) rfl pd5 rfl rfl ?_
  rintro s C _ _ ⟨⟨rfl, rfl⟩, Js⟩
  refine G.aloadN C d15_4 rfl rfl (n := 5) rfl ?_
  refine G.iloadN C d15_5 rfl (n := 6) rfl ?_
  refine G.putfield C (host := "") (Or.inl (wd hw 107 rfl)) Via.refl (O_a.2) (O_a.1) (Or.inr ⟨(wd hw 108 rfl), rfl, rfl⟩) (wd hw 95 rfl) (ty := .int) (by decide) rfl rfl g_a d15_6 (n := 9) rfl ?_
  intro h3 W4
  have O5 := Ob_In.set_value hw O_a W4
  have K6 := Keep.of_wr W4
  have Z7 : n0 ≤ h3.size := Nat.le_trans Z0 K6.1
  have K8 : Keep h0 h3 [a] := Keep.tr (Keep.refl h0 _) K6 (allS (Or.inl (List.mem_of_getElem? (i := 0) rfl)) all0)
  refine G.return_ C d15_9 (by decide) (by decide) ?_
  intro vm' hWm
  refine ⟨?_, SJ s vm' hWm Js⟩
  exact ⟨rfl, K8, O5⟩
theorem d14_0 : decode jdk_33_method_22_code 0 = .ok (.iload_n 0, 1) := by decide +kernel
theorem d14_1 : decode jdk_33_method_22_code 1 = .ok (.bipush (-128), 2) := by decide +kernel
theorem d14_3 : decode jdk_33_method_22_code 3 = .ok (.if_icmp .lt 20, 3) := by decide +kernel
theorem d14_6 : decode jdk_33_method_22_code 6 = .ok (.iload_n 0, 1) := by decide +kernel
theorem d14_7 : decode jdk_33_method_22_code 7 = .ok (.getstatic 191, 3) := by decide +kernel
theorem d14_10 : decode jdk_33_method_22_code 10 = .ok (.if_icmp .gt 13, 3) := by decide +kernel
theorem d14_13 : decode jdk_33_method_22_code 13 = .ok (.getstatic 195, 3) := by decide +kernel
theorem d14_16 : decode jdk_33_method_22_code 16 = .ok (.iload_n 0, 1) := by decide +kernel
theorem d14_17 : decode jdk_33_method_22_code 17 = .ok (.sipush 128, 3) := by decide +kernel
theorem d14_20 : decode jdk_33_method_22_code 20 = .ok (.iadd, 1) := by decide +kernel
theorem d14_21 : decode jdk_33_method_22_code 21 = .ok (.aaload, 1) := by decide +kernel
theorem d14_22 : decode jdk_33_method_22_code 22 = .ok (.areturn, 1) := by decide +kernel
theorem d14_23 : decode jdk_33_method_22_code 23 = .ok (.new 1, 3) := by decide +kernel
theorem d14_26 : decode jdk_33_method_22_code 26 = .ok (.dup, 1) := by decide +kernel
theorem d14_27 : decode jdk_33_method_22_code 27 = .ok (.iload_n 0, 1) := by decide +kernel
theorem d14_28 : decode jdk_33_method_22_code 28 = .ok (.invokespecial 199, 3) := by decide +kernel
theorem d14_31 : decode jdk_33_method_22_code 31 = .ok (.areturn, 1) := by decide +kernel
theorem pd8 : parseMethodDescriptor "(I)V" = some ⟨[.int], none⟩ := by decide +kernel
theorem ef32 (m : MethodId) (i : Int32) : entryFrame m #[(.int i)] 1 = mkF m 0 #[.val (.int i)] [] := by first | (simp [entryFrame, mkF, argsToLocals, Value.category]; done) | rfl
abbrev Q_vof (Z : State) (h0 : Heap) (n0 : Nat) (J : Vm → Prop) (i : Int32) (ic : Addr) (iv : List Value) : Option Value → Heap → Vm → Prop := fun v h' vm => (∃ x, v = some (.ref x) ∧ Keep h0 h' [] ∧ Exa Z h' x "java/lang/Integer") ∧ J vm
abbrev R_vof : Room := { frames := 3, cells := 1, slots := 1, locals := 38 }
set_option maxRecDepth 65536 in
set_option maxHeartbeats 40000000 in
theorem m_vof (l : Launch) (Z : State) (a0 : Array Value) (hw : ∀ d ∈ tables_1, d.before a0 Z = true) (J : Vm → Prop) (SJ : Stab J) (i : Int32) (ic : Addr) (iv : List Value) (h0 : Heap) (n0 : Nat) (Z0 : n0 ≤ h0.size) (OLD0 : Old Z n0 h0) (S_h : Sta Z Z.heap "java/lang/Integer$IntegerCache" "high" "I" (.int 127)) (S_i : Sta Z Z.heap "java/lang/Integer$IntegerCache" "cache" "[Ljava/lang/Integer;" (.ref ic)) (O_ic : Refs Z Z.heap ic (.object "java/lang/Integer") iv) (HC : ∀ k, k < 256 → ∃ x, iv[k]? = some (.ref x) ∧ Exa Z Z.heap x "java/lang/Integer") : Met l Z (⟨"java/lang/Integer", "valueOf", "(I)Ljava/lang/Integer;"⟩ : MethodName) jdk_33_method_22_code 1 (some (.object "java/lang/Integer")) R_vof #[(.int i)] h0 n0 J (Q_vof Z h0 n0 J i ic iv) := by
  refine Met.of (plainFor_of_name pn7) (fun m => ef32 m i) ?_
  intro p e s m args below meth c C Js
  refine G.iloadN C d14_0 rfl (n := 1) rfl ?_
  refine G.bipush C (v := (-128 : Int32)) d14_1 (by decide) (n := 3) rfl ?_
  refine G.icmp_lt C (A := i.toInt) (B := (-128)) rfl (by decide) d14_3 (by decide) (by decide) (n := 6) (n' := 23) rfl (fun c3_1 => ?_) (fun c3_1 => ?_)
  · refine G.new C (wd hw 94 rfl) (wd hw 95 rfl) (wd hw 84 rfl) d14_23 (n := 26) rfl (c' := 1) (s' := 1) rfl rfl (by decide) (by decide) ?_
    intro h2 b3 q4 E5 A6 D7
    have g8 : n0 ≤ b3 := Nat.le_trans Z0 (Nat.le_of_eq q4.symm)
    have f9 : h0.size ≤ b3 := Nat.le_trans (Keep.refl h0 []).1 (Nat.le_of_eq q4.symm)
    have O10 := Ob_In.new hw A6 D7
    have K11 := kext E5
    have OL12 := OLD0.keep K11 all0
    have Z13 : n0 ≤ h2.size := Nat.le_trans Z0 K11.1
    have K14 : Keep h0 h2 [] := Keep.tr (Keep.refl h0 _) K11 all0
    refine G.dup C d14_26 rfl (n := 27) rfl ?_
    refine G.iloadN C d14_27 rfl (n := 28) rfl ?_
    refine G.callC C (argsL := [(.int i)]) (yc := (⟨"java/lang/Integer", "<init>", "(I)V"⟩ : MethodName)) (a := b3) rfl (wd hw 96 rfl) (wd hw 97 rfl) (wd hw 84 rfl) (wd hw 99 rfl) (by decide) (m_ini l Z a0 hw J SJ b3 i h2 n0 Z13 O10 g8) (fun vm' hW => SJ s vm' hW Js) rfl (by decide) (W := 1) rfl (by decide) (c' := 1) (s' := 1) rfl rfl (by decide) (by decide) d14_28 (n := 31) rfl pd8 rfl rfl ?_
    rintro s C _ h18 ⟨⟨rfl, K15, O16⟩, Js⟩
    have OL19 := OL12.keep K15 (allS g8 all0)
    have Z20 : n0 ≤ h18.size := Nat.le_trans Z13 K15.1
    have K21 : Keep h0 h18 [] := Keep.tr K14 K15 (allS (Or.inr f9) all0)
    refine G.areturn C d14_31 rfl rfl rfl (by decide) (by decide) ?_
    intro vm' hWm
    refine ⟨?_, SJ s vm' hWm Js⟩
    exact ⟨_, rfl, K21, O16.1⟩
  · refine G.iloadN C d14_6 rfl (n := 7) rfl ?_
    refine G.getstatic C (host := "") (Or.inl (wd hw 86 rfl)) Via.refl (S_h.ext OLD0.2) d14_7 (n := 10) rfl ?_
    refine G.icmp_gt C (A := i.toInt) (B := 127) rfl (by decide) d14_10 (by decide) (by decide) (n := 13) (n' := 23) rfl (fun c10_22 => ?_) (fun c10_22 => ?_)
    · refine G.new C (wd hw 94 rfl) (wd hw 95 rfl) (wd hw 84 rfl) d14_23 (n := 26) rfl (c' := 1) (s' := 1) rfl rfl (by decide) (by decide) ?_
      intro h23 b24 q25 E26 A27 D28
      have g29 : n0 ≤ b24 := Nat.le_trans Z0 (Nat.le_of_eq q25.symm)
      have f30 : h0.size ≤ b24 := Nat.le_trans (Keep.refl h0 []).1 (Nat.le_of_eq q25.symm)
      have O31 := Ob_In.new hw A27 D28
      have K32 := kext E26
      have OL33 := OLD0.keep K32 all0
      have Z34 : n0 ≤ h23.size := Nat.le_trans Z0 K32.1
      have K35 : Keep h0 h23 [] := Keep.tr (Keep.refl h0 _) K32 all0
      refine G.dup C d14_26 rfl (n := 27) rfl ?_
      refine G.iloadN C d14_27 rfl (n := 28) rfl ?_
      refine G.callC C (argsL := [(.int i)]) (yc := (⟨"java/lang/Integer", "<init>", "(I)V"⟩ : MethodName)) (a := b24) rfl (wd hw 96 rfl) (wd hw 97 rfl) (wd hw 84 rfl) (wd hw 99 rfl) (by decide) (m_ini l Z a0 hw J SJ b24 i h23 n0 Z34 O31 g29) (fun vm' hW => SJ s vm' hW Js) rfl (by decide) (W := 1) rfl (by decide) (c' := 1) (s' := 1) rfl rfl (by decide) (by decide) d14_28 (n := 31) rfl pd8 rfl rfl ?_
      rintro s C _ h39 ⟨⟨rfl, K36, O37⟩, Js⟩
      have OL40 := OL33.keep K36 (allS g29 all0)
      have Z41 : n0 ≤ h39.size := Nat.le_trans Z34 K36.1
      have K42 : Keep h0 h39 [] := Keep.tr K35 K36 (allS (Or.inr f30) all0)
      refine G.areturn C d14_31 rfl rfl rfl (by decide) (by decide) ?_
      intro vm' hWm
      refine ⟨?_, SJ s vm' hWm Js⟩
      exact ⟨_, rfl, K42, O37.1⟩
    · refine G.getstatic C (host := "") (Or.inl (wd hw 88 rfl)) Via.refl (S_i.ext OLD0.2) d14_13 (n := 16) rfl ?_
      refine G.iloadN C d14_16 rfl (n := 17) rfl ?_
      refine G.sipush C (v := (128 : Int32)) d14_17 (by decide) (n := 20) rfl ?_
      refine G.iadd C d14_20 (n := 21) rfl ?_
      have e128 := a128 (i := i) (by omega) (by omega)
      obtain ⟨xi, q_i, E_i⟩ := HC (i + (128 : Int32)).toInt.toNat (by omega)
      refine G.aaload C (x := (.ref xi)) (refs_ext O_ic OLD0.2) rfl (by omega) q_i d14_21 (n := 22) rfl ?_
      refine G.areturn C d14_22 rfl rfl rfl (by decide) (by decide) ?_
      intro vm' hWm
      refine ⟨?_, SJ s vm' hWm Js⟩
      exact ⟨_, rfl, Keep.refl h0 _, (E_i.ext OLD0.2)⟩
theorem pd9 : parseMethodDescriptor "(III)Ljava/lang/String;" = some ⟨[.int, .int, .int], some (.object "java/lang/String")⟩ := by decide +kernel
theorem pd10 : parseMethodDescriptor "(I)Lcom/example/portcullis/portcullis/Principal$Kind;" = some ⟨[.int], some (.object "com/example/portcullis/portcullis/Principal$Kind")⟩ := by decide +kernel
theorem pd11 : parseMethodDescriptor "(Lcom/example/portcullis/portcullis/Principal$Kind;Ljava/lang/String;)V" = some ⟨[(.object "com/example/portcullis/portcullis/Principal$Kind"), (.object "java/lang/String")], none⟩ := by decide +kernel
theorem pd12 : parseMethodDescriptor "(I)Ljava/lang/Integer;" = some ⟨[.int], some (.object "java/lang/Integer")⟩ := by decide +kernel
theorem ef33 (m : MethodId) (i0 : Int32) (i1 : Int32) (i2 : Int32) : entryFrame m #[(.int i0), (.int i1), (.int i2)] 19 = mkF m 0 #[.val (.int i0), .val (.int i1), .val (.int i2), .unset, .unset, .unset, .unset, .unset, .unset, .unset, .unset, .unset, .unset, .unset, .unset, .unset, .unset, .unset, .unset] [] := by first | (simp [entryFrame, mkF, argsToLocals, Value.category]; done) | rfl
abbrev Q_law (Z : State) (h0 : Heap) (n0 : Nat) (i0 : Int32) (i1 : Int32) (i2 : Int32) (u0 : Addr) (u1 : Addr) (u2 : Addr) (u3 : Addr) (u4 : Addr) (cs : Int32) (ic : Addr) (iv : List Value) : Option Value → Heap → Vm → Prop := fun v h' vm => v = some (.int 1)
set_option maxRecDepth 65536 in
set_option maxHeartbeats 40000000 in
theorem m_law (l : Launch) (Z : State) (a0 : Array Value) (hw : ∀ d ∈ tables_1, d.before a0 Z = true) (i0 : Int32) (i1 : Int32) (i2 : Int32) (u0 : Addr) (u1 : Addr) (u2 : Addr) (u3 : Addr) (u4 : Addr) (cs : Int32) (ic : Addr) (iv : List Value) (h0 : Heap) (n0 : Nat) (Z0 : n0 ≤ h0.size) (OLD0 : Old Z n0 h0) (S_c : Sta Z Z.heap "java/lang/String" "COMPACT_STRINGS" "Z" (.int cs)) (q_cs : cs ≠ 0) (S_0 : Sta Z Z.heap "com/example/portcullis/portcullis/Principal$Kind" "USER" "Lcom/example/portcullis/portcullis/Principal$Kind;" (.ref u0)) (S_1 : Sta Z Z.heap "com/example/portcullis/portcullis/Principal$Kind" "GROUP" "Lcom/example/portcullis/portcullis/Principal$Kind;" (.ref u1)) (S_2 : Sta Z Z.heap "com/example/portcullis/portcullis/Principal$Kind" "ROLE" "Lcom/example/portcullis/portcullis/Principal$Kind;" (.ref u2)) (S_3 : Sta Z Z.heap "com/example/portcullis/portcullis/Principal$Kind" "EVERYONE" "Lcom/example/portcullis/portcullis/Principal$Kind;" (.ref u3)) (S_4 : Sta Z Z.heap "com/example/portcullis/portcullis/Principal$Kind" "ANONYMOUS" "Lcom/example/portcullis/portcullis/Principal$Kind;" (.ref u4)) (hdk : Dis u0 u1 u2 u3 u4) (S_h : Sta Z Z.heap "java/lang/Integer$IntegerCache" "high" "I" (.int 127)) (S_i : Sta Z Z.heap "java/lang/Integer$IntegerCache" "cache" "[Ljava/lang/Integer;" (.ref ic)) (O_ic : Refs Z Z.heap ic (.object "java/lang/Integer") iv) (HC : ∀ k, k < 256 → ∃ x, iv[k]? = some (.ref x) ∧ Exa Z Z.heap x "java/lang/Integer") (hh : Jvm.Lit.constHeld Z "java/lang/String" 7) (hcw : Jvm.Lit.compactW.before a0 Z = true) : Met l Z (⟨"com/example/portcullis/portcullis/PrincipalEqualsPinLaw", "law", "(III)Z"⟩ : MethodName) code 19 (some .boolean) room_1 #[(.int i0), (.int i1), (.int i2)] h0 n0 (J0 Z) (Q_law Z h0 n0 i0 i1 i2 u0 u1 u2 u3 u4 cs ic iv) := by
  refine Met.of (plainFor_of_name pn2) (fun m => ef33 m i0 i1 i2) ?_
  intro p e s m args below meth c C Js
  refine G.iloadN C at_0 rfl (n := 1) rfl ?_
  refine G.bipush C (v := (7 : Int32)) at_1 (by decide) (n := 3) rfl ?_
  refine G.iand C at_3 (n := 4) rfl ?_
  refine G.iconst C (v := (5 : Int32)) at_4 (by decide) (n := 5) rfl ?_
  refine G.irem C at_5 (by decide) (n := 6) rfl ?_
  refine G.istoreNZ C at_6 (l' := fun z => #[.val (.int i0), .val (.int i1), .val (.int i2), .val (.int z), .unset, .unset, .unset, .unset, .unset, .unset, .unset, .unset, .unset, .unset, .unset, .unset, .unset, .unset, .unset]) (fun _ => rfl) (n := 7) rfl ?_
  intro v1 hv1
  have K_a : 0 ≤ v1.toInt ∧ v1.toInt ≤ 4 := by rw [hv1]; exact rem75 _
  refine G.iloadN C at_7 rfl (n := 8) rfl ?_
  refine G.iconst C (v := (3 : Int32)) at_8 (by decide) (n := 9) rfl ?_
  refine G.iushr C at_9 (n := 10) rfl ?_
  refine G.bipush C (v := (7 : Int32)) at_10 (by decide) (n := 12) rfl ?_
  refine G.iand C at_12 (n := 13) rfl ?_
  refine G.iconst C (v := (5 : Int32)) at_13 (by decide) (n := 14) rfl ?_
  refine G.irem C at_14 (by decide) (n := 15) rfl ?_
  refine G.istoreZ C at_15 (l' := fun z => #[.val (.int i0), .val (.int i1), .val (.int i2), .val (.int v1), .val (.int z), .unset, .unset, .unset, .unset, .unset, .unset, .unset, .unset, .unset, .unset, .unset, .unset, .unset, .unset]) (fun _ => rfl) (n := 17) rfl ?_
  intro v2 hv2
  have K_b : 0 ≤ v2.toInt ∧ v2.toInt ≤ 4 := by rw [hv2]; exact rem75 _
  refine G.iloadN C at_17 rfl (n := 18) rfl ?_
  refine G.bipush C (v := (6 : Int32)) at_18 (by decide) (n := 20) rfl ?_
  refine G.iushr C at_20 (n := 21) rfl ?_
  refine G.iconst C (v := (3 : Int32)) at_21 (by decide) (n := 22) rfl ?_
  refine G.iand C at_22 (n := 23) rfl ?_
  refine G.iconst C (v := (3 : Int32)) at_23 (by decide) (n := 24) rfl ?_
  refine G.irem C at_24 (by decide) (n := 25) rfl ?_
  refine G.istoreZ C at_25 (l' := fun z => #[.val (.int i0), .val (.int i1), .val (.int i2), .val (.int v1), .val (.int v2), .val (.int z), .unset, .unset, .unset, .unset, .unset, .unset, .unset, .unset, .unset, .unset, .unset, .unset, .unset]) (fun _ => rfl) (n := 27) rfl ?_
  intro v3 hv3
  have L_a : 0 ≤ v3.toInt ∧ v3.toInt ≤ 2 := by rw [hv3]; exact rem33 _
  refine G.iloadN C at_27 rfl (n := 28) rfl ?_
  refine G.bipush C (v := (8 : Int32)) at_28 (by decide) (n := 30) rfl ?_
  refine G.iushr C at_30 (n := 31) rfl ?_
  refine G.iconst C (v := (3 : Int32)) at_31 (by decide) (n := 32) rfl ?_
  refine G.iand C at_32 (n := 33) rfl ?_
  refine G.iconst C (v := (3 : Int32)) at_33 (by decide) (n := 34) rfl ?_
  refine G.irem C at_34 (by decide) (n := 35) rfl ?_
  refine G.istoreZ C at_35 (l' := fun z => #[.val (.int i0), .val (.int i1), .val (.int i2), .val (.int v1), .val (.int v2), .val (.int v3), .val (.int z), .unset, .unset, .unset, .unset, .unset, .unset, .unset, .unset, .unset, .unset, .unset, .unset]) (fun _ => rfl) (n := 37) rfl ?_
  intro v4 hv4
  have L_b : 0 ≤ v4.toInt ∧ v4.toInt ≤ 2 := by rw [hv4]; exact rem33 _
  refine G.iloadN C at_37 rfl (n := 38) rfl ?_
  refine G.bipush C (v := (10 : Int32)) at_38 (by decide) (n := 40) rfl ?_
  refine G.iushr C at_40 (n := 41) rfl ?_
  refine G.iconst C (v := (1 : Int32)) at_41 (by decide) (n := 42) rfl ?_
  refine G.iand C at_42 (n := 43) rfl ?_
  suffices key6 : ∀ (z6_s0 : Int32), (True) → Go p l e room_1 s m args below meth c n0 (Q_law Z h0 n0 i0 i1 i2 u0 u1 u2 u3 u4 cs ic iv) 0 0 h0 (mkF m 51 #[.val (.int i0), .val (.int i1), .val (.int i2), .val (.int v1), .val (.int v2), .val (.int v3), .val (.int v4), .unset, .unset, .unset, .unset, .unset, .unset, .unset, .unset, .unset, .unset, .unset, .unset] [(.int z6_s0)]) by
    refine G.if_eq C (A := (((i0.toUInt32 >>> ((10 : Int32) &&& 31).toUInt32).toInt32) &&& (1 : Int32)).toInt) rfl at_43 (by decide) (by decide) (n := 46) (n' := 50) rfl (fun c43_5 c43_5i => ?_) (fun c43_5 c43_5i => ?_)
    · refine G.iconst C (v := (0 : Int32)) at_50 (by decide) (n := 51) rfl ?_
      exact key6 _ (trivial) 
    · refine G.iconst C (v := (1 : Int32)) at_46 (by decide) (n := 47) rfl ?_
      refine G.goto C at_47 (by decide) (n := 51) (by decide) ?_
      exact key6 _ (trivial) 
  intro z6_s0 j6 
  refine G.istore C at_51 (l' := #[.val (.int i0), .val (.int i1), .val (.int i2), .val (.int v1), .val (.int v2), .val (.int v3), .val (.int v4), .val (.int z6_s0), .unset, .unset, .unset, .unset, .unset, .unset, .unset, .unset, .unset, .unset, .unset]) rfl (n := 53) rfl ?_
  refine G.iloadN C at_53 rfl (n := 54) rfl ?_
  refine G.bipush C (v := (11 : Int32)) at_54 (by decide) (n := 56) rfl ?_
  refine G.iushr C at_56 (n := 57) rfl ?_
  refine G.iconst C (v := (3 : Int32)) at_57 (by decide) (n := 58) rfl ?_
  refine G.iand C at_58 (n := 59) rfl ?_
  refine G.istoreZ C at_59 (l' := fun z => #[.val (.int i0), .val (.int i1), .val (.int i2), .val (.int v1), .val (.int v2), .val (.int v3), .val (.int v4), .val (.int z6_s0), .val (.int z), .unset, .unset, .unset, .unset, .unset, .unset, .unset, .unset, .unset, .unset]) (fun _ => rfl) (n := 61) rfl ?_
  intro v7 hv7
  refine G.iloadN C at_61 rfl (n := 62) rfl ?_
  refine G.sipush C (v := (255 : Int32)) at_62 (by decide) (n := 65) rfl ?_
  refine G.iand C at_65 (n := 66) rfl ?_
  refine G.istoreZ C at_66 (l' := fun z => #[.val (.int i0), .val (.int i1), .val (.int i2), .val (.int v1), .val (.int v2), .val (.int v3), .val (.int v4), .val (.int z6_s0), .val (.int v7), .val (.int z), .unset, .unset, .unset, .unset, .unset, .unset, .unset, .unset, .unset]) (fun _ => rfl) (n := 68) rfl ?_
  intro v8 hv8
  have R_a0 : Rg v8 := by rw [hv8]; exact rg255 _
  refine G.iloadN C at_68 rfl (n := 69) rfl ?_
  refine G.bipush C (v := (8 : Int32)) at_69 (by decide) (n := 71) rfl ?_
  refine G.iushr C at_71 (n := 72) rfl ?_
  refine G.sipush C (v := (255 : Int32)) at_72 (by decide) (n := 75) rfl ?_
  refine G.iand C at_75 (n := 76) rfl ?_
  refine G.istoreZ C at_76 (l' := fun z => #[.val (.int i0), .val (.int i1), .val (.int i2), .val (.int v1), .val (.int v2), .val (.int v3), .val (.int v4), .val (.int z6_s0), .val (.int v7), .val (.int v8), .val (.int z), .unset, .unset, .unset, .unset, .unset, .unset, .unset, .unset]) (fun _ => rfl) (n := 78) rfl ?_
  intro v9 hv9
  have R_a1 : Rg v9 := by rw [hv9]; exact rg255 _
  refine G.iload C at_78 rfl (n := 80) rfl ?_
  suffices key11 : ∀ (z11_s0 : Int32), (Rg z11_s0) → Go p l e room_1 s m args below meth c n0 (Q_law Z h0 n0 i0 i1 i2 u0 u1 u2 u3 u4 cs ic iv) 0 0 h0 (mkF m 93 #[.val (.int i0), .val (.int i1), .val (.int i2), .val (.int v1), .val (.int v2), .val (.int v3), .val (.int v4), .val (.int z6_s0), .val (.int v7), .val (.int v8), .val (.int v9), .unset, .unset, .unset, .unset, .unset, .unset, .unset, .unset] [(.int z11_s0)]) by
    refine G.if_eq C (A := z6_s0.toInt) rfl at_80 (by decide) (by decide) (n := 83) (n' := 88) rfl (fun c80_10 c80_10i => ?_) (fun c80_10 c80_10i => ?_)
    · refine G.iloadN C at_88 rfl (n := 89) rfl ?_
      refine G.sipush C (v := (255 : Int32)) at_89 (by decide) (n := 92) rfl ?_
      refine G.iand C at_92 (n := 93) rfl ?_
      exact key11 _ ((rg255 _)) 
    · refine G.iload C at_83 rfl (n := 85) rfl ?_
      refine G.goto C at_85 (by decide) (n := 93) (by decide) ?_
      exact key11 _ (R_a0) 
  intro z11_s0 j11 
  have R_b0 : Rg z11_s0 := j11
  refine G.istore C at_93 (l' := #[.val (.int i0), .val (.int i1), .val (.int i2), .val (.int v1), .val (.int v2), .val (.int v3), .val (.int v4), .val (.int z6_s0), .val (.int v7), .val (.int v8), .val (.int v9), .val (.int z11_s0), .unset, .unset, .unset, .unset, .unset, .unset, .unset]) rfl (n := 95) rfl ?_
  refine G.iload C at_95 rfl (n := 97) rfl ?_
  suffices key13 : ∀ (z13_s0 : Int32), (Rg z13_s0) → Go p l e room_1 s m args below meth c n0 (Q_law Z h0 n0 i0 i1 i2 u0 u1 u2 u3 u4 cs ic iv) 0 0 h0 (mkF m 113 #[.val (.int i0), .val (.int i1), .val (.int i2), .val (.int v1), .val (.int v2), .val (.int v3), .val (.int v4), .val (.int z6_s0), .val (.int v7), .val (.int v8), .val (.int v9), .val (.int z11_s0), .unset, .unset, .unset, .unset, .unset, .unset, .unset] [(.int z13_s0)]) by
    refine G.if_eq C (A := z6_s0.toInt) rfl at_97 (by decide) (by decide) (n := 100) (n' := 105) rfl (fun c97_12 c97_12i => ?_) (fun c97_12 c97_12i => ?_)
    · refine G.iloadN C at_105 rfl (n := 106) rfl ?_
      refine G.bipush C (v := (8 : Int32)) at_106 (by decide) (n := 108) rfl ?_
      refine G.iushr C at_108 (n := 109) rfl ?_
      refine G.sipush C (v := (255 : Int32)) at_109 (by decide) (n := 112) rfl ?_
      refine G.iand C at_112 (n := 113) rfl ?_
      exact key13 _ ((rg255 _)) 
    · refine G.iload C at_100 rfl (n := 102) rfl ?_
      refine G.goto C at_102 (by decide) (n := 113) (by decide) ?_
      exact key13 _ (R_a1) 
  intro z13_s0 j13 
  have R_b1 : Rg z13_s0 := j13
  refine G.istore C at_113 (l' := #[.val (.int i0), .val (.int i1), .val (.int i2), .val (.int v1), .val (.int v2), .val (.int v3), .val (.int v4), .val (.int z6_s0), .val (.int v7), .val (.int v8), .val (.int v9), .val (.int z11_s0), .val (.int z13_s0), .unset, .unset, .unset, .unset, .unset, .unset]) rfl (n := 115) rfl ?_
  refine G.iload C at_115 rfl (n := 117) rfl ?_
  refine G.iload C at_117 rfl (n := 119) rfl ?_
  refine G.iload C at_119 rfl (n := 121) rfl ?_
  by_cases k0 : v3 = (0 : Int32)
  · subst k0
    refine G.callS C (argsL := [(.int (0 : Int32)), (.int v8), (.int v9)]) (yc := (⟨"com/example/portcullis/portcullis/PrincipalEqualsPinLaw", "nameOf", "(III)Ljava/lang/String;"⟩ : MethodName)) (wd hw 0 rfl) (wd hw 1 rfl) (wd hw 2 rfl) (wd hw 3 rfl) (by decide) (m_noB l Z a0 hw v8 v9 cs h0 n0 Z0 OLD0 S_c q_cs hh hcw) (fun vm' hW => stab0 s vm' hW Js) rfl (by decide) (W := 0) rfl (by decide) (c' := 4) (s' := 8) rfl rfl (by decide) (by decide) at_121 (n := 124) rfl pd9 rfl rfl ?_
    rintro s C _ h23 ⟨x14, al20, bx15, rfl, K16, O17, O18, O21, f19, Js⟩
    have g24 : n0 ≤ x14 := Nat.le_trans Z0 f19
    have O25 : Ints Z h23 bx15 .byte (nm (0 : Int32) v8 v9) := O18
    have OL26 := OLD0.keep K16 all0
    have Z27 : n0 ≤ h23.size := Nat.le_trans Z0 K16.1
    refine G.astore C at_124 rfl (l' := #[.val (.int i0), .val (.int i1), .val (.int i2), .val (.int v1), .val (.int v2), .val (.int (0 : Int32)), .val (.int v4), .val (.int z6_s0), .val (.int v7), .val (.int v8), .val (.int v9), .val (.int z11_s0), .val (.int z13_s0), .val (.ref x14), .unset, .unset, .unset, .unset, .unset]) rfl (n := 126) rfl ?_
    refine G.iload C at_126 rfl (n := 128) rfl ?_
    refine G.iload C at_128 rfl (n := 130) rfl ?_
    refine G.iload C at_130 rfl (n := 132) rfl ?_
    refine G.callS C (argsL := [(.int v4), (.int z11_s0), (.int z13_s0)]) (yc := (⟨"com/example/portcullis/portcullis/PrincipalEqualsPinLaw", "nameOf", "(III)Ljava/lang/String;"⟩ : MethodName)) (wd hw 0 rfl) (wd hw 1 rfl) (wd hw 2 rfl) (wd hw 3 rfl) (by decide) (m_noD1 l Z a0 hw v4 z11_s0 z13_s0 cs al20 bx15 h23 n0 Z27 OL26 S_c q_cs R_b0 R_b1 L_b O21 O25) (fun vm' hW => stab1 s vm' hW Js) rfl (by decide) (W := 0) rfl (by decide) (c' := 7) (s' := 16) rfl rfl (by decide) (by decide) at_132 (n := 135) rfl pd9 rfl rfl ?_
    rintro s C _ h35 ⟨x28, bx29, rfl, K30, O31, O32, f33⟩
    have ne36 : x14 ≠ x28 := Nat.ne_of_lt (Nat.lt_of_lt_of_le O17.lt f33)
    have ne37 : bx15 ≠ x28 := Nat.ne_of_lt (Nat.lt_of_lt_of_le O25.lt f33)
    have ne38 : al20 ≠ x28 := Nat.ne_of_lt (Nat.lt_of_lt_of_le O21.lt f33)
    have g39 : n0 ≤ x28 := Nat.le_trans Z27 f33
    have O40 := O17.keep K30 nin0
    have O41 := O25.keep K30 nin0
    have O42 := O21.keep K30 nin0
    have OL43 := OL26.keep K30 all0
    have Z44 : n0 ≤ h35.size := Nat.le_trans Z27 K30.1
    have Js : (fun _ => True) s.vm := trivial
    refine G.astore C at_135 rfl (l' := #[.val (.int i0), .val (.int i1), .val (.int i2), .val (.int v1), .val (.int v2), .val (.int (0 : Int32)), .val (.int v4), .val (.int z6_s0), .val (.int v7), .val (.int v8), .val (.int v9), .val (.int z11_s0), .val (.int z13_s0), .val (.ref x14), .val (.ref x28), .unset, .unset, .unset, .unset]) rfl (n := 137) rfl ?_
    refine G.new C (wd hw 26 rfl) (wd hw 27 rfl) (wd hw 28 rfl) at_137 (n := 140) rfl (c' := 8) (s' := 18) rfl rfl (by decide) (by decide) ?_
    intro h45 b46 q47 E48 A49 D50
    have ne51 : x14 ≠ b46 := Nat.ne_of_lt (Nat.lt_of_lt_of_le O40.lt (Nat.le_of_eq q47.symm))
    have ne52 : bx15 ≠ b46 := Nat.ne_of_lt (Nat.lt_of_lt_of_le O41.lt (Nat.le_of_eq q47.symm))
    have ne53 : al20 ≠ b46 := Nat.ne_of_lt (Nat.lt_of_lt_of_le O42.lt (Nat.le_of_eq q47.symm))
    have ne54 : x28 ≠ b46 := Nat.ne_of_lt (Nat.lt_of_lt_of_le O31.lt (Nat.le_of_eq q47.symm))
    have ne55 : bx29 ≠ b46 := Nat.ne_of_lt (Nat.lt_of_lt_of_le O32.lt (Nat.le_of_eq q47.symm))
    have g56 : n0 ≤ b46 := Nat.le_trans Z44 (Nat.le_of_eq q47.symm)
    have O57 := Ob_Pr.new hw A49 D50
    have K58 := kext E48
    have O59 := O40.keep K58 nin0
    have O60 := O41.keep K58 nin0
    have O61 := O42.keep K58 nin0
    have O62 := O31.keep K58 nin0
    have O63 := O32.keep K58 nin0
    have OL64 := OL43.keep K58 all0
    have Z65 : n0 ≤ h45.size := Nat.le_trans Z44 K58.1
    refine G.dup C at_140 rfl (n := 141) rfl ?_
    refine G.iloadN C at_141 rfl (n := 142) rfl ?_
    refine G.callS C (argsL := [(.int v1)]) (yc := (⟨"com/example/portcullis/portcullis/PrincipalEqualsPinLaw", "kindOf", "(I)Lcom/example/portcullis/portcullis/Principal$Kind;"⟩ : MethodName)) (wd hw 29 rfl) (wd hw 30 rfl) (wd hw 2 rfl) (wd hw 31 rfl) (by decide) (m_kind l Z a0 hw (fun _ => True) stabT v1 u0 u1 u2 u3 u4 h45 n0 Z65 OL64 S_0 S_1 S_2 S_3 S_4) (fun vm' hW => stabT s vm' hW Js) rfl (by decide) (W := 2) rfl (by decide) (c' := 8) (s' := 18) rfl rfl (by decide) (by decide) at_142 (n := 145) rfl pd10 rfl rfl ?_
    rintro s C _ _ ⟨⟨rfl, rfl⟩, Js⟩
    refine G.aload C at_145 rfl rfl (n := 147) rfl ?_
    refine G.callC C (argsL := [(.ref (kdf u0 u1 u2 u3 u4 v1)), (.ref x14)]) (yc := (⟨"com/example/portcullis/portcullis/Principal", "<init>", "(Lcom/example/portcullis/portcullis/Principal$Kind;Ljava/lang/String;)V"⟩ : MethodName)) (a := b46) rfl (wd hw 35 rfl) (wd hw 36 rfl) (wd hw 28 rfl) (wd hw 37 rfl) (by decide) (m_pini l Z a0 hw (fun _ => True) stabT b46 (kdf u0 u1 u2 u3 u4 v1) x14 h45 n0 Z65 O57 g56) (fun vm' hW => stabT s vm' hW Js) rfl (by decide) (W := 1) rfl (by decide) (c' := 8) (s' := 18) rfl rfl (by decide) (by decide) at_147 (n := 150) rfl pd11 rfl rfl ?_
    rintro s C _ h71 ⟨⟨rfl, K68, O69⟩, Js⟩
    have O72 := O59.keep K68 (ninS ne51 nin0)
    have O73 := O60.keep K68 (ninS ne52 nin0)
    have O74 := O61.keep K68 (ninS ne53 nin0)
    have O75 := O62.keep K68 (ninS ne54 nin0)
    have O76 := O63.keep K68 (ninS ne55 nin0)
    have OL77 := OL64.keep K68 (allS g56 all0)
    have Z78 : n0 ≤ h71.size := Nat.le_trans Z65 K68.1
    refine G.astore C at_150 rfl (l' := #[.val (.int i0), .val (.int i1), .val (.int i2), .val (.int v1), .val (.int v2), .val (.int (0 : Int32)), .val (.int v4), .val (.int z6_s0), .val (.int v7), .val (.int v8), .val (.int v9), .val (.int z11_s0), .val (.int z13_s0), .val (.ref x14), .val (.ref x28), .val (.ref b46), .unset, .unset, .unset]) rfl (n := 152) rfl ?_
    refine G.new C (wd hw 26 rfl) (wd hw 27 rfl) (wd hw 28 rfl) at_152 (n := 155) rfl (c' := 9) (s' := 20) rfl rfl (by decide) (by decide) ?_
    intro h79 b80 q81 E82 A83 D84
    have ne85 : x14 ≠ b80 := Nat.ne_of_lt (Nat.lt_of_lt_of_le O72.lt (Nat.le_of_eq q81.symm))
    have ne86 : bx15 ≠ b80 := Nat.ne_of_lt (Nat.lt_of_lt_of_le O73.lt (Nat.le_of_eq q81.symm))
    have ne87 : al20 ≠ b80 := Nat.ne_of_lt (Nat.lt_of_lt_of_le O74.lt (Nat.le_of_eq q81.symm))
    have ne88 : x28 ≠ b80 := Nat.ne_of_lt (Nat.lt_of_lt_of_le O75.lt (Nat.le_of_eq q81.symm))
    have ne89 : bx29 ≠ b80 := Nat.ne_of_lt (Nat.lt_of_lt_of_le O76.lt (Nat.le_of_eq q81.symm))
    have ne90 : b46 ≠ b80 := Nat.ne_of_lt (Nat.lt_of_lt_of_le O69.lt (Nat.le_of_eq q81.symm))
    have g91 : n0 ≤ b80 := Nat.le_trans Z78 (Nat.le_of_eq q81.symm)
    have O92 := Ob_Pr.new hw A83 D84
    have K93 := kext E82
    have O94 := O72.keep K93 nin0
    have O95 := O73.keep K93 nin0
    have O96 := O74.keep K93 nin0
    have O97 := O75.keep K93 nin0
    have O98 := O76.keep K93 nin0
    have O99 := O69.keep K93 nin0
    have OL100 := OL77.keep K93 all0
    have Z101 : n0 ≤ h79.size := Nat.le_trans Z78 K93.1
    refine G.dup C at_155 rfl (n := 156) rfl ?_
    refine G.iload C at_156 rfl (n := 158) rfl ?_
    refine G.callS C (argsL := [(.int v2)]) (yc := (⟨"com/example/portcullis/portcullis/PrincipalEqualsPinLaw", "kindOf", "(I)Lcom/example/portcullis/portcullis/Principal$Kind;"⟩ : MethodName)) (wd hw 29 rfl) (wd hw 30 rfl) (wd hw 2 rfl) (wd hw 31 rfl) (by decide) (m_kind l Z a0 hw (fun _ => True) stabT v2 u0 u1 u2 u3 u4 h79 n0 Z101 OL100 S_0 S_1 S_2 S_3 S_4) (fun vm' hW => stabT s vm' hW Js) rfl (by decide) (W := 2) rfl (by decide) (c' := 9) (s' := 20) rfl rfl (by decide) (by decide) at_158 (n := 161) rfl pd10 rfl rfl ?_
    rintro s C _ _ ⟨⟨rfl, rfl⟩, Js⟩
    refine G.aload C at_161 rfl rfl (n := 163) rfl ?_
    refine G.callC C (argsL := [(.ref (kdf u0 u1 u2 u3 u4 v2)), (.ref x28)]) (yc := (⟨"com/example/portcullis/portcullis/Principal", "<init>", "(Lcom/example/portcullis/portcullis/Principal$Kind;Ljava/lang/String;)V"⟩ : MethodName)) (a := b80) rfl (wd hw 35 rfl) (wd hw 36 rfl) (wd hw 28 rfl) (wd hw 37 rfl) (by decide) (m_pini l Z a0 hw (fun _ => True) stabT b80 (kdf u0 u1 u2 u3 u4 v2) x28 h79 n0 Z101 O92 g91) (fun vm' hW => stabT s vm' hW Js) rfl (by decide) (W := 1) rfl (by decide) (c' := 9) (s' := 20) rfl rfl (by decide) (by decide) at_163 (n := 166) rfl pd11 rfl rfl ?_
    rintro s C _ h107 ⟨⟨rfl, K104, O105⟩, Js⟩
    have O108 := O94.keep K104 (ninS ne85 nin0)
    have O109 := O95.keep K104 (ninS ne86 nin0)
    have O110 := O96.keep K104 (ninS ne87 nin0)
    have O111 := O97.keep K104 (ninS ne88 nin0)
    have O112 := O98.keep K104 (ninS ne89 nin0)
    have O113 := O99.keep K104 (ninS ne90 nin0)
    have OL114 := OL100.keep K104 (allS g91 all0)
    have Z115 : n0 ≤ h107.size := Nat.le_trans Z101 K104.1
    refine G.astore C at_166 rfl (l' := #[.val (.int i0), .val (.int i1), .val (.int i2), .val (.int v1), .val (.int v2), .val (.int (0 : Int32)), .val (.int v4), .val (.int z6_s0), .val (.int v7), .val (.int v8), .val (.int v9), .val (.int z11_s0), .val (.int z13_s0), .val (.ref x14), .val (.ref x28), .val (.ref b46), .val (.ref b80), .unset, .unset]) rfl (n := 168) rfl ?_
    refine G.iload C at_168 rfl (n := 170) rfl ?_
    refine G.if_ne C (A := v7.toInt) rfl at_170 (by decide) (by decide) (n := 173) (n' := 226) rfl (fun c170_116 c170_116i => ?_) (fun c170_116 c170_116i => ?_)
    · refine G.iload C at_226 rfl (n := 228) rfl ?_
      refine G.iconst C (v := (1 : Int32)) at_228 (by decide) (n := 229) rfl ?_
      refine G.icmp_ne C (A := v7.toInt) (B := 1) rfl (by decide) at_229 (by decide) (by decide) (n := 232) (n' := 241) rfl (fun c229_117 c229_117i => ?_) (fun c229_117 c229_117i => ?_)
      · refine G.iload C at_241 rfl (n := 243) rfl ?_
        refine G.iconst C (v := (2 : Int32)) at_243 (by decide) (n := 244) rfl ?_
        refine G.icmp_ne C (A := v7.toInt) (B := 2) rfl (by decide) at_244 (by decide) (by decide) (n := 247) (n' := 257) rfl (fun c244_118 c244_118i => ?_) (fun c244_118 c244_118i => ?_)
        · refine G.iloadN C at_257 rfl (n := 258) rfl ?_
          refine G.callS C (argsL := [(.int i1)]) (yc := (⟨"java/lang/Integer", "valueOf", "(I)Ljava/lang/Integer;"⟩ : MethodName)) (wd hw 82 rfl) (wd hw 83 rfl) (wd hw 84 rfl) (wd hw 85 rfl) (by decide) (m_vof l Z a0 hw (fun _ => True) stabT i1 ic iv h107 n0 Z115 OL114 S_h S_i O_ic HC) (fun vm' hW => stabT s vm' hW Js) rfl (by decide) (W := 0) rfl (by decide) (c' := 10) (s' := 21) rfl rfl (by decide) (by decide) at_258 (n := 261) rfl pd12 rfl rfl ?_
          rintro s C _ h123 ⟨⟨x119, rfl, K120, E121⟩, Js⟩
          have O124 := O108.keep K120 nin0
          have O125 := O109.keep K120 nin0
          have O126 := O110.keep K120 nin0
          have O127 := O111.keep K120 nin0
          have O128 := O112.keep K120 nin0
          have O129 := O113.keep K120 nin0
          have O130 := O105.keep K120 nin0
          have OL131 := OL114.keep K120 all0
          have Z132 : n0 ≤ h123.size := Nat.le_trans Z115 K120.1
          refine G.astore C at_261 rfl (l' := #[.val (.int i0), .val (.int i1), .val (.int i2), .val (.int v1), .val (.int v2), .val (.int (0 : Int32)), .val (.int v4), .val (.int z6_s0), .val (.int v7), .val (.int v8), .val (.int v9), .val (.int z11_s0), .val (.int z13_s0), .val (.ref x14), .val (.ref x28), .val (.ref b46), .val (.ref b80), .val (.ref x119), .unset]) rfl (n := 263) rfl ?_
          refine G.iconst C (v := (0 : Int32)) at_263 (by decide) (n := 264) rfl ?_
          refine G.istore C at_264 (l' := #[.val (.int i0), .val (.int i1), .val (.int i2), .val (.int v1), .val (.int v2), .val (.int (0 : Int32)), .val (.int v4), .val (.int z6_s0), .val (.int v7), .val (.int v8), .val (.int v9), .val (.int z11_s0), .val (.int z13_s0), .val (.ref x14), .val (.ref x28), .val (.ref b46), .val (.ref b80), .val (.ref x119), .val (.int (0 : Int32))]) rfl (n := 266) rfl ?_
          refine G.aload C at_266 rfl rfl (n := 268) rfl ?_
          refine G.aload C at_268 rfl rfl (n := 270) rfl ?_
          refine G.callV C (argsL := [(.ref x119)]) (yr := (⟨"com/example/portcullis/portcullis/Principal", "equals", "(Ljava/lang/Object;)Z"⟩ : MethodName)) (yc := (⟨"com/example/portcullis/portcullis/Principal", "equals", "(Ljava/lang/Object;)Z"⟩ : MethodName)) (a := b46) (O129.1) (wd hw 48 rfl) (wd hw 49 rfl) (nfS (wd hw 51 rfl) rfl) (wd hw 51 rfl) (wd hw 50 rfl) (wd hw 28 rfl) (wd hw 52 rfl) (by decide) (m_pint l Z a0 hw (fun _ => True) stabT b46 (kdf u0 u1 u2 u3 u4 v1) x14 x119 h123 n0 Z132 O129 E121) (fun vm' hW => stabT s vm' hW Js) rfl (by decide) (W := 0) rfl (by decide) (c' := 10) (s' := 21) rfl rfl (by decide) (by decide) at_270 (n := 273) rfl pd7 rfl rfl ?_
          rintro s C _ _ ⟨⟨rfl, rfl⟩, Js⟩
          refine G.iload C at_273 rfl (n := 275) rfl ?_
          refine G.icmp_ne C (A := 0) (B := 0) (by decide) (by decide) at_275 (by decide) (by decide) (n := 278) (n' := 292) rfl (fun c275_135 c275_135i => ?_) (fun c275_135 c275_135i => ?_)
          · exact absurd c275_135 (by decide)
          refine G.aload C at_278 rfl rfl (n := 280) rfl ?_
          refine G.aload C at_280 rfl rfl (n := 282) rfl ?_
          refine G.callV C (argsL := [(.ref b46)]) (yr := (⟨"com/example/portcullis/portcullis/Principal", "equals", "(Ljava/lang/Object;)Z"⟩ : MethodName)) (yc := (⟨"com/example/portcullis/portcullis/Principal", "equals", "(Ljava/lang/Object;)Z"⟩ : MethodName)) (a := b46) (O129.1) (wd hw 48 rfl) (wd hw 49 rfl) (nfS (wd hw 51 rfl) rfl) (wd hw 51 rfl) (wd hw 50 rfl) (wd hw 28 rfl) (wd hw 52 rfl) (by decide) (m_pxx l Z a0 hw (fun _ => True) stabT b46 (kdf u0 u1 u2 u3 u4 v1) x14 bx15 h123 n0 Z132 O129 O124) (fun vm' hW => stabT s vm' hW Js) rfl (by decide) (W := 0) rfl (by decide) (c' := 10) (s' := 21) rfl rfl (by decide) (by decide) at_282 (n := 285) rfl pd7 rfl rfl ?_
          rintro s C _ _ ⟨⟨rfl, rfl⟩, Js⟩
          refine G.if_eq C (A := 1) (by decide) at_285 (by decide) (by decide) (n := 288) (n' := 292) rfl (fun c285_138 c285_138i => ?_) (fun c285_138 c285_138i => ?_)
          · exact absurd c285_138 (by decide)
          refine G.iconst C (v := (1 : Int32)) at_288 (by decide) (n := 289) rfl ?_
          refine G.goto C at_289 (by decide) (n := 293) (by decide) ?_
          refine G.ireturn C at_293 (rfl) (by simp) (by decide) (by decide) ?_
          intro vm' hWm
          exact rfl
        · refine G.aload C at_247 rfl rfl (n := 249) rfl ?_
          refine G.astore C at_249 rfl (l' := #[.val (.int i0), .val (.int i1), .val (.int i2), .val (.int v1), .val (.int v2), .val (.int (0 : Int32)), .val (.int v4), .val (.int z6_s0), .val (.int v7), .val (.int v8), .val (.int v9), .val (.int z11_s0), .val (.int z13_s0), .val (.ref x14), .val (.ref x28), .val (.ref b46), .val (.ref b80), .val (.ref x28), .unset]) rfl (n := 251) rfl ?_
          refine G.iconst C (v := (0 : Int32)) at_251 (by decide) (n := 252) rfl ?_
          refine G.istore C at_252 (l' := #[.val (.int i0), .val (.int i1), .val (.int i2), .val (.int v1), .val (.int v2), .val (.int (0 : Int32)), .val (.int v4), .val (.int z6_s0), .val (.int v7), .val (.int v8), .val (.int v9), .val (.int z11_s0), .val (.int z13_s0), .val (.ref x14), .val (.ref x28), .val (.ref b46), .val (.ref b80), .val (.ref x28), .val (.int (0 : Int32))]) rfl (n := 254) rfl ?_
          refine G.goto C at_254 (by decide) (n := 266) (by decide) ?_
          refine G.aload C at_266 rfl rfl (n := 268) rfl ?_
          refine G.aload C at_268 rfl rfl (n := 270) rfl ?_
          refine G.callV C (argsL := [(.ref x28)]) (yr := (⟨"com/example/portcullis/portcullis/Principal", "equals", "(Ljava/lang/Object;)Z"⟩ : MethodName)) (yc := (⟨"com/example/portcullis/portcullis/Principal", "equals", "(Ljava/lang/Object;)Z"⟩ : MethodName)) (a := b46) (O113.1) (wd hw 48 rfl) (wd hw 49 rfl) (nfS (wd hw 51 rfl) rfl) (wd hw 51 rfl) (wd hw 50 rfl) (wd hw 28 rfl) (wd hw 52 rfl) (by decide) (m_pstr l Z a0 hw (fun _ => True) stabT b46 (kdf u0 u1 u2 u3 u4 v1) x14 x28 bx29 h107 n0 Z115 O113 O111) (fun vm' hW => stabT s vm' hW Js) rfl (by decide) (W := 0) rfl (by decide) (c' := 9) (s' := 20) rfl rfl (by decide) (by decide) at_270 (n := 273) rfl pd7 rfl rfl ?_
          rintro s C _ _ ⟨⟨rfl, rfl⟩, Js⟩
          refine G.iload C at_273 rfl (n := 275) rfl ?_
          refine G.icmp_ne C (A := 0) (B := 0) (by decide) (by decide) at_275 (by decide) (by decide) (n := 278) (n' := 292) rfl (fun c275_141 c275_141i => ?_) (fun c275_141 c275_141i => ?_)
          · exact absurd c275_141 (by decide)
          refine G.aload C at_278 rfl rfl (n := 280) rfl ?_
          refine G.aload C at_280 rfl rfl (n := 282) rfl ?_
          refine G.callV C (argsL := [(.ref b46)]) (yr := (⟨"com/example/portcullis/portcullis/Principal", "equals", "(Ljava/lang/Object;)Z"⟩ : MethodName)) (yc := (⟨"com/example/portcullis/portcullis/Principal", "equals", "(Ljava/lang/Object;)Z"⟩ : MethodName)) (a := b46) (O113.1) (wd hw 48 rfl) (wd hw 49 rfl) (nfS (wd hw 51 rfl) rfl) (wd hw 51 rfl) (wd hw 50 rfl) (wd hw 28 rfl) (wd hw 52 rfl) (by decide) (m_pxx l Z a0 hw (fun _ => True) stabT b46 (kdf u0 u1 u2 u3 u4 v1) x14 bx15 h107 n0 Z115 O113 O108) (fun vm' hW => stabT s vm' hW Js) rfl (by decide) (W := 0) rfl (by decide) (c' := 9) (s' := 20) rfl rfl (by decide) (by decide) at_282 (n := 285) rfl pd7 rfl rfl ?_
          rintro s C _ _ ⟨⟨rfl, rfl⟩, Js⟩
          refine G.if_eq C (A := 1) (by decide) at_285 (by decide) (by decide) (n := 288) (n' := 292) rfl (fun c285_144 c285_144i => ?_) (fun c285_144 c285_144i => ?_)
          · exact absurd c285_144 (by decide)
          refine G.iconst C (v := (1 : Int32)) at_288 (by decide) (n := 289) rfl ?_
          refine G.goto C at_289 (by decide) (n := 293) (by decide) ?_
          refine G.ireturn C at_293 (rfl) (by simp) (by decide) (by decide) ?_
          intro vm' hWm
          exact rfl
      · refine G.aconst_null C at_232 (n := 233) rfl ?_
        refine G.astore C at_233 rfl (l' := #[.val (.int i0), .val (.int i1), .val (.int i2), .val (.int v1), .val (.int v2), .val (.int (0 : Int32)), .val (.int v4), .val (.int z6_s0), .val (.int v7), .val (.int v8), .val (.int v9), .val (.int z11_s0), .val (.int z13_s0), .val (.ref x14), .val (.ref x28), .val (.ref b46), .val (.ref b80), .val .null, .unset]) rfl (n := 235) rfl ?_
        refine G.iconst C (v := (0 : Int32)) at_235 (by decide) (n := 236) rfl ?_
        refine G.istore C at_236 (l' := #[.val (.int i0), .val (.int i1), .val (.int i2), .val (.int v1), .val (.int v2), .val (.int (0 : Int32)), .val (.int v4), .val (.int z6_s0), .val (.int v7), .val (.int v8), .val (.int v9), .val (.int z11_s0), .val (.int z13_s0), .val (.ref x14), .val (.ref x28), .val (.ref b46), .val (.ref b80), .val .null, .val (.int (0 : Int32))]) rfl (n := 238) rfl ?_
        refine G.goto C at_238 (by decide) (n := 266) (by decide) ?_
        refine G.aload C at_266 rfl rfl (n := 268) rfl ?_
        refine G.aload C at_268 rfl rfl (n := 270) rfl ?_
        refine G.callV C (argsL := [.null]) (yr := (⟨"com/example/portcullis/portcullis/Principal", "equals", "(Ljava/lang/Object;)Z"⟩ : MethodName)) (yc := (⟨"com/example/portcullis/portcullis/Principal", "equals", "(Ljava/lang/Object;)Z"⟩ : MethodName)) (a := b46) (O113.1) (wd hw 48 rfl) (wd hw 49 rfl) (nfS (wd hw 51 rfl) rfl) (wd hw 51 rfl) (wd hw 50 rfl) (wd hw 28 rfl) (wd hw 52 rfl) (by decide) (m_pnul l Z a0 hw (fun _ => True) stabT b46 (kdf u0 u1 u2 u3 u4 v1) x14 h107 n0 Z115 O113) (fun vm' hW => stabT s vm' hW Js) rfl (by decide) (W := 0) rfl (by decide) (c' := 9) (s' := 20) rfl rfl (by decide) (by decide) at_270 (n := 273) rfl pd7 rfl rfl ?_
        rintro s C _ _ ⟨⟨rfl, rfl⟩, Js⟩
        refine G.iload C at_273 rfl (n := 275) rfl ?_
        refine G.icmp_ne C (A := 0) (B := 0) (by decide) (by decide) at_275 (by decide) (by decide) (n := 278) (n' := 292) rfl (fun c275_147 c275_147i => ?_) (fun c275_147 c275_147i => ?_)
        · exact absurd c275_147 (by decide)
        refine G.aload C at_278 rfl rfl (n := 280) rfl ?_
        refine G.aload C at_280 rfl rfl (n := 282) rfl ?_
        refine G.callV C (argsL := [(.ref b46)]) (yr := (⟨"com/example/portcullis/portcullis/Principal", "equals", "(Ljava/lang/Object;)Z"⟩ : MethodName)) (yc := (⟨"com/example/portcullis/portcullis/Principal", "equals", "(Ljava/lang/Object;)Z"⟩ : MethodName)) (a := b46) (O113.1) (wd hw 48 rfl) (wd hw 49 rfl) (nfS (wd hw 51 rfl) rfl) (wd hw 51 rfl) (wd hw 50 rfl) (wd hw 28 rfl) (wd hw 52 rfl) (by decide) (m_pxx l Z a0 hw (fun _ => True) stabT b46 (kdf u0 u1 u2 u3 u4 v1) x14 bx15 h107 n0 Z115 O113 O108) (fun vm' hW => stabT s vm' hW Js) rfl (by decide) (W := 0) rfl (by decide) (c' := 9) (s' := 20) rfl rfl (by decide) (by decide) at_282 (n := 285) rfl pd7 rfl rfl ?_
        rintro s C _ _ ⟨⟨rfl, rfl⟩, Js⟩
        refine G.if_eq C (A := 1) (by decide) at_285 (by decide) (by decide) (n := 288) (n' := 292) rfl (fun c285_150 c285_150i => ?_) (fun c285_150 c285_150i => ?_)
        · exact absurd c285_150 (by decide)
        refine G.iconst C (v := (1 : Int32)) at_288 (by decide) (n := 289) rfl ?_
        refine G.goto C at_289 (by decide) (n := 293) (by decide) ?_
        refine G.ireturn C at_293 (rfl) (by simp) (by decide) (by decide) ?_
        intro vm' hWm
        exact rfl
    · refine G.aload C at_173 rfl rfl (n := 175) rfl ?_
      refine G.astore C at_175 rfl (l' := #[.val (.int i0), .val (.int i1), .val (.int i2), .val (.int v1), .val (.int v2), .val (.int (0 : Int32)), .val (.int v4), .val (.int z6_s0), .val (.int v7), .val (.int v8), .val (.int v9), .val (.int z11_s0), .val (.int z13_s0), .val (.ref x14), .val (.ref x28), .val (.ref b46), .val (.ref b80), .val (.ref b80), .unset]) rfl (n := 177) rfl ?_
      refine G.iloadN C at_177 rfl (n := 178) rfl ?_
      refine G.iload C at_178 rfl (n := 180) rfl ?_
      refine G.icmp_ne C (A := v1.toInt) (B := v2.toInt) rfl rfl at_180 (by decide) (by decide) (n := 183) (n' := 220) rfl (fun c180_151 c180_151i => ?_) (fun c180_151 c180_151i => ?_)
      · refine G.iconst C (v := (0 : Int32)) at_220 (by decide) (n := 221) rfl ?_
        refine G.istore C at_221 (l' := #[.val (.int i0), .val (.int i1), .val (.int i2), .val (.int v1), .val (.int v2), .val (.int (0 : Int32)), .val (.int v4), .val (.int z6_s0), .val (.int v7), .val (.int v8), .val (.int v9), .val (.int z11_s0), .val (.int z13_s0), .val (.ref x14), .val (.ref x28), .val (.ref b46), .val (.ref b80), .val (.ref b80), .val (.int (0 : Int32))]) rfl (n := 223) rfl ?_
        refine G.goto C at_223 (by decide) (n := 266) (by decide) ?_
        refine G.aload C at_266 rfl rfl (n := 268) rfl ?_
        refine G.aload C at_268 rfl rfl (n := 270) rfl ?_
        refine G.callV C (argsL := [(.ref b80)]) (yr := (⟨"com/example/portcullis/portcullis/Principal", "equals", "(Ljava/lang/Object;)Z"⟩ : MethodName)) (yc := (⟨"com/example/portcullis/portcullis/Principal", "equals", "(Ljava/lang/Object;)Z"⟩ : MethodName)) (a := b46) (O113.1) (wd hw 48 rfl) (wd hw 49 rfl) (nfS (wd hw 51 rfl) rfl) (wd hw 51 rfl) (wd hw 50 rfl) (wd hw 28 rfl) (wd hw 52 rfl) (by decide) (m_ppq l Z a0 hw (fun _ => True) stabT b46 (kdf u0 u1 u2 u3 u4 v1) x14 b80 (kdf u0 u1 u2 u3 u4 v2) x28 bx15 bx29 _ _ cs h107 n0 Z115 OL114 S_c q_cs O113 O105 O108 O111 O109 O112 ne36) (fun vm' hW => stabT s vm' hW Js) rfl (by decide) (W := 0) rfl (by decide) (c' := 9) (s' := 20) rfl rfl (by decide) (by decide) at_270 (n := 273) rfl pd7 rfl rfl ?_
        rintro s C _ _ ⟨⟨r152, rfl, hr153, rfl⟩, Js⟩
        refine G.iload C at_273 rfl (n := 275) rfl ?_
        refine G.icmp_ne C (A := r152.toInt) (B := 0) rfl (by decide) at_275 (by decide) (by decide) (n := 278) (n' := 292) rfl (fun c275_156 c275_156i => ?_) (fun c275_156 c275_156i => ?_)
        · exact absurd (res0 hr153 (res_iff hdk K_a K_b L_a L_b R_a0 R_b0 R_a1 R_b1) (by rintro ⟨e1, e2, e3, e4⟩; first | contradiction | (rcases e3 with e3 | e3 <;> first | omega | contradiction) | (rcases e4 with e4 | e4 <;> first | omega | contradiction))) c275_156
        refine G.aload C at_278 rfl rfl (n := 280) rfl ?_
        refine G.aload C at_280 rfl rfl (n := 282) rfl ?_
        refine G.callV C (argsL := [(.ref b46)]) (yr := (⟨"com/example/portcullis/portcullis/Principal", "equals", "(Ljava/lang/Object;)Z"⟩ : MethodName)) (yc := (⟨"com/example/portcullis/portcullis/Principal", "equals", "(Ljava/lang/Object;)Z"⟩ : MethodName)) (a := b46) (O113.1) (wd hw 48 rfl) (wd hw 49 rfl) (nfS (wd hw 51 rfl) rfl) (wd hw 51 rfl) (wd hw 50 rfl) (wd hw 28 rfl) (wd hw 52 rfl) (by decide) (m_pxx l Z a0 hw (fun _ => True) stabT b46 (kdf u0 u1 u2 u3 u4 v1) x14 bx15 h107 n0 Z115 O113 O108) (fun vm' hW => stabT s vm' hW Js) rfl (by decide) (W := 0) rfl (by decide) (c' := 9) (s' := 20) rfl rfl (by decide) (by decide) at_282 (n := 285) rfl pd7 rfl rfl ?_
        rintro s C _ _ ⟨⟨rfl, rfl⟩, Js⟩
        refine G.if_eq C (A := 1) (by decide) at_285 (by decide) (by decide) (n := 288) (n' := 292) rfl (fun c285_159 c285_159i => ?_) (fun c285_159 c285_159i => ?_)
        · exact absurd c285_159 (by decide)
        refine G.iconst C (v := (1 : Int32)) at_288 (by decide) (n := 289) rfl ?_
        refine G.goto C at_289 (by decide) (n := 293) (by decide) ?_
        refine G.ireturn C at_293 (rfl) (by simp) (by decide) (by decide) ?_
        intro vm' hWm
        exact rfl
      · refine G.iload C at_183 rfl (n := 185) rfl ?_
        refine G.iload C at_185 rfl (n := 187) rfl ?_
        refine G.icmp_ne C (A := 0) (B := v4.toInt) (by decide) rfl at_187 (by decide) (by decide) (n := 190) (n' := 220) rfl (fun c187_160 c187_160i => ?_) (fun c187_160 c187_160i => ?_)
        · refine G.iconst C (v := (0 : Int32)) at_220 (by decide) (n := 221) rfl ?_
          refine G.istore C at_221 (l' := #[.val (.int i0), .val (.int i1), .val (.int i2), .val (.int v1), .val (.int v2), .val (.int (0 : Int32)), .val (.int v4), .val (.int z6_s0), .val (.int v7), .val (.int v8), .val (.int v9), .val (.int z11_s0), .val (.int z13_s0), .val (.ref x14), .val (.ref x28), .val (.ref b46), .val (.ref b80), .val (.ref b80), .val (.int (0 : Int32))]) rfl (n := 223) rfl ?_
          refine G.goto C at_223 (by decide) (n := 266) (by decide) ?_
          refine G.aload C at_266 rfl rfl (n := 268) rfl ?_
          refine G.aload C at_268 rfl rfl (n := 270) rfl ?_
          refine G.callV C (argsL := [(.ref b80)]) (yr := (⟨"com/example/portcullis/portcullis/Principal", "equals", "(Ljava/lang/Object;)Z"⟩ : MethodName)) (yc := (⟨"com/example/portcullis/portcullis/Principal", "equals", "(Ljava/lang/Object;)Z"⟩ : MethodName)) (a := b46) (O113.1) (wd hw 48 rfl) (wd hw 49 rfl) (nfS (wd hw 51 rfl) rfl) (wd hw 51 rfl) (wd hw 50 rfl) (wd hw 28 rfl) (wd hw 52 rfl) (by decide) (m_ppq l Z a0 hw (fun _ => True) stabT b46 (kdf u0 u1 u2 u3 u4 v1) x14 b80 (kdf u0 u1 u2 u3 u4 v2) x28 bx15 bx29 _ _ cs h107 n0 Z115 OL114 S_c q_cs O113 O105 O108 O111 O109 O112 ne36) (fun vm' hW => stabT s vm' hW Js) rfl (by decide) (W := 0) rfl (by decide) (c' := 9) (s' := 20) rfl rfl (by decide) (by decide) at_270 (n := 273) rfl pd7 rfl rfl ?_
          rintro s C _ _ ⟨⟨r161, rfl, hr162, rfl⟩, Js⟩
          refine G.iload C at_273 rfl (n := 275) rfl ?_
          refine G.icmp_ne C (A := r161.toInt) (B := 0) rfl (by decide) at_275 (by decide) (by decide) (n := 278) (n' := 292) rfl (fun c275_165 c275_165i => ?_) (fun c275_165 c275_165i => ?_)
          · exact absurd (res0 hr162 (res_iff hdk K_a K_b L_a L_b R_a0 R_b0 R_a1 R_b1) (by rintro ⟨e1, e2, e3, e4⟩; first | contradiction | (rcases e3 with e3 | e3 <;> first | omega | contradiction) | (rcases e4 with e4 | e4 <;> first | omega | contradiction))) c275_165
          refine G.aload C at_278 rfl rfl (n := 280) rfl ?_
          refine G.aload C at_280 rfl rfl (n := 282) rfl ?_
          refine G.callV C (argsL := [(.ref b46)]) (yr := (⟨"com/example/portcullis/portcullis/Principal", "equals", "(Ljava/lang/Object;)Z"⟩ : MethodName)) (yc := (⟨"com/example/portcullis/portcullis/Principal", "equals", "(Ljava/lang/Object;)Z"⟩ : MethodName)) (a := b46) (O113.1) (wd hw 48 rfl) (wd hw 49 rfl) (nfS (wd hw 51 rfl) rfl) (wd hw 51 rfl) (wd hw 50 rfl) (wd hw 28 rfl) (wd hw 52 rfl) (by decide) (m_pxx l Z a0 hw (fun _ => True) stabT b46 (kdf u0 u1 u2 u3 u4 v1) x14 bx15 h107 n0 Z115 O113 O108) (fun vm' hW => stabT s vm' hW Js) rfl (by decide) (W := 0) rfl (by decide) (c' := 9) (s' := 20) rfl rfl (by decide) (by decide) at_282 (n := 285) rfl pd7 rfl rfl ?_
          rintro s C _ _ ⟨⟨rfl, rfl⟩, Js⟩
          refine G.if_eq C (A := 1) (by decide) at_285 (by decide) (by decide) (n := 288) (n' := 292) rfl (fun c285_168 c285_168i => ?_) (fun c285_168 c285_168i => ?_)
          · exact absurd c285_168 (by decide)
          refine G.iconst C (v := (1 : Int32)) at_288 (by decide) (n := 289) rfl ?_
          refine G.goto C at_289 (by decide) (n := 293) (by decide) ?_
          refine G.ireturn C at_293 (rfl) (by simp) (by decide) (by decide) ?_
          intro vm' hWm
          exact rfl
        · refine G.iload C at_190 rfl (n := 192) rfl ?_
          refine G.iconst C (v := (1 : Int32)) at_192 (by decide) (n := 193) rfl ?_
          refine G.icmp_lt C (A := 0) (B := 1) (by decide) (by decide) at_193 (by decide) (by decide) (n := 196) (n' := 203) rfl (fun c193_169 => ?_) (fun c193_169 => ?_)
          rotate_left
          · exact absurd c193_169 (by decide)
          refine G.iload C at_203 rfl (n := 205) rfl ?_
          refine G.iconst C (v := (2 : Int32)) at_205 (by decide) (n := 206) rfl ?_
          refine G.icmp_lt C (A := 0) (B := 2) (by decide) (by decide) at_206 (by decide) (by decide) (n := 209) (n' := 216) rfl (fun c206_170 => ?_) (fun c206_170 => ?_)
          rotate_left
          · exact absurd c206_170 (by decide)
          refine G.iconst C (v := (1 : Int32)) at_216 (by decide) (n := 217) rfl ?_
          refine G.goto C at_217 (by decide) (n := 221) (by decide) ?_
          refine G.istore C at_221 (l' := #[.val (.int i0), .val (.int i1), .val (.int i2), .val (.int v1), .val (.int v2), .val (.int (0 : Int32)), .val (.int v4), .val (.int z6_s0), .val (.int v7), .val (.int v8), .val (.int v9), .val (.int z11_s0), .val (.int z13_s0), .val (.ref x14), .val (.ref x28), .val (.ref b46), .val (.ref b80), .val (.ref b80), .val (.int (1 : Int32))]) rfl (n := 223) rfl ?_
          refine G.goto C at_223 (by decide) (n := 266) (by decide) ?_
          refine G.aload C at_266 rfl rfl (n := 268) rfl ?_
          refine G.aload C at_268 rfl rfl (n := 270) rfl ?_
          refine G.callV C (argsL := [(.ref b80)]) (yr := (⟨"com/example/portcullis/portcullis/Principal", "equals", "(Ljava/lang/Object;)Z"⟩ : MethodName)) (yc := (⟨"com/example/portcullis/portcullis/Principal", "equals", "(Ljava/lang/Object;)Z"⟩ : MethodName)) (a := b46) (O113.1) (wd hw 48 rfl) (wd hw 49 rfl) (nfS (wd hw 51 rfl) rfl) (wd hw 51 rfl) (wd hw 50 rfl) (wd hw 28 rfl) (wd hw 52 rfl) (by decide) (m_ppq l Z a0 hw (fun _ => True) stabT b46 (kdf u0 u1 u2 u3 u4 v1) x14 b80 (kdf u0 u1 u2 u3 u4 v2) x28 bx15 bx29 _ _ cs h107 n0 Z115 OL114 S_c q_cs O113 O105 O108 O111 O109 O112 ne36) (fun vm' hW => stabT s vm' hW Js) rfl (by decide) (W := 0) rfl (by decide) (c' := 9) (s' := 20) rfl rfl (by decide) (by decide) at_270 (n := 273) rfl pd7 rfl rfl ?_
          rintro s C _ _ ⟨⟨r171, rfl, hr172, rfl⟩, Js⟩
          refine G.iload C at_273 rfl (n := 275) rfl ?_
          refine G.icmp_ne C (A := r171.toInt) (B := 1) rfl (by decide) at_275 (by decide) (by decide) (n := 278) (n' := 292) rfl (fun c275_175 c275_175i => ?_) (fun c275_175 c275_175i => ?_)
          · exact absurd (res1 hr172 (res_iff hdk K_a K_b L_a L_b R_a0 R_b0 R_a1 R_b1) (by refine ⟨?_, ?_, ?_, ?_⟩ <;> first | assumption | exact Or.inl (by first | omega | decide) | exact Or.inr (by assumption))) c275_175
          refine G.aload C at_278 rfl rfl (n := 280) rfl ?_
          refine G.aload C at_280 rfl rfl (n := 282) rfl ?_
          refine G.callV C (argsL := [(.ref b46)]) (yr := (⟨"com/example/portcullis/portcullis/Principal", "equals", "(Ljava/lang/Object;)Z"⟩ : MethodName)) (yc := (⟨"com/example/portcullis/portcullis/Principal", "equals", "(Ljava/lang/Object;)Z"⟩ : MethodName)) (a := b46) (O113.1) (wd hw 48 rfl) (wd hw 49 rfl) (nfS (wd hw 51 rfl) rfl) (wd hw 51 rfl) (wd hw 50 rfl) (wd hw 28 rfl) (wd hw 52 rfl) (by decide) (m_pxx l Z a0 hw (fun _ => True) stabT b46 (kdf u0 u1 u2 u3 u4 v1) x14 bx15 h107 n0 Z115 O113 O108) (fun vm' hW => stabT s vm' hW Js) rfl (by decide) (W := 0) rfl (by decide) (c' := 9) (s' := 20) rfl rfl (by decide) (by decide) at_282 (n := 285) rfl pd7 rfl rfl ?_
          rintro s C _ _ ⟨⟨rfl, rfl⟩, Js⟩
          refine G.if_eq C (A := 1) (by decide) at_285 (by decide) (by decide) (n := 288) (n' := 292) rfl (fun c285_178 c285_178i => ?_) (fun c285_178 c285_178i => ?_)
          · exact absurd c285_178 (by decide)
          refine G.iconst C (v := (1 : Int32)) at_288 (by decide) (n := 289) rfl ?_
          refine G.goto C at_289 (by decide) (n := 293) (by decide) ?_
          refine G.ireturn C at_293 (rfl) (by simp) (by decide) (by decide) ?_
          intro vm' hWm
          exact rfl
  · have n_la : 1 ≤ v3.toInt ∧ v3.toInt ≤ 2 := by have q : v3.toInt ≠ 0 := fun q => k0 (Int32.toInt_inj.mp q); omega
    refine G.callS C (argsL := [(.int v3), (.int v8), (.int v9)]) (yc := (⟨"com/example/portcullis/portcullis/PrincipalEqualsPinLaw", "nameOf", "(III)Ljava/lang/String;"⟩ : MethodName)) (wd hw 0 rfl) (wd hw 1 rfl) (wd hw 2 rfl) (wd hw 3 rfl) (by decide) (m_noA l Z a0 hw (J0 Z) stab0 v3 v8 v9 cs h0 n0 Z0 OLD0 S_c q_cs R_a0 R_a1 n_la) (fun vm' hW => stab0 s vm' hW Js) rfl (by decide) (W := 0) rfl (by decide) (c' := 3) (s' := 8) rfl rfl (by decide) (by decide) at_121 (n := 124) rfl pd9 rfl rfl ?_
    rintro s C _ h186 ⟨⟨x179, bx180, rfl, K181, O182, O183, f184⟩, Js⟩
    have g187 : n0 ≤ x179 := Nat.le_trans Z0 f184
    have OL188 := OLD0.keep K181 all0
    have Z189 : n0 ≤ h186.size := Nat.le_trans Z0 K181.1
    refine G.astore C at_124 rfl (l' := #[.val (.int i0), .val (.int i1), .val (.int i2), .val (.int v1), .val (.int v2), .val (.int v3), .val (.int v4), .val (.int z6_s0), .val (.int v7), .val (.int v8), .val (.int v9), .val (.int z11_s0), .val (.int z13_s0), .val (.ref x179), .unset, .unset, .unset, .unset, .unset]) rfl (n := 126) rfl ?_
    refine G.iload C at_126 rfl (n := 128) rfl ?_
    refine G.iload C at_128 rfl (n := 130) rfl ?_
    refine G.iload C at_130 rfl (n := 132) rfl ?_
    refine G.callS C (argsL := [(.int v4), (.int z11_s0), (.int z13_s0)]) (yc := (⟨"com/example/portcullis/portcullis/PrincipalEqualsPinLaw", "nameOf", "(III)Ljava/lang/String;"⟩ : MethodName)) (wd hw 0 rfl) (wd hw 1 rfl) (wd hw 2 rfl) (wd hw 3 rfl) (by decide) (m_noD0 l Z a0 hw v4 z11_s0 z13_s0 cs h186 n0 Z189 OL188 S_c q_cs R_b0 R_b1 L_b hh hcw) (fun vm' hW => stab0 s vm' hW Js) rfl (by decide) (W := 0) rfl (by decide) (c' := 7) (s' := 16) rfl rfl (by decide) (by decide) at_132 (n := 135) rfl pd9 rfl rfl ?_
    rintro s C _ h197 ⟨x190, bx191, rfl, K192, O193, O194, f195⟩
    have ne198 : x179 ≠ x190 := Nat.ne_of_lt (Nat.lt_of_lt_of_le O182.lt f195)
    have ne199 : bx180 ≠ x190 := Nat.ne_of_lt (Nat.lt_of_lt_of_le O183.lt f195)
    have g200 : n0 ≤ x190 := Nat.le_trans Z189 f195
    have O201 := O182.keep K192 nin0
    have O202 := O183.keep K192 nin0
    have OL203 := OL188.keep K192 all0
    have Z204 : n0 ≤ h197.size := Nat.le_trans Z189 K192.1
    have Js : (fun _ => True) s.vm := trivial
    refine G.astore C at_135 rfl (l' := #[.val (.int i0), .val (.int i1), .val (.int i2), .val (.int v1), .val (.int v2), .val (.int v3), .val (.int v4), .val (.int z6_s0), .val (.int v7), .val (.int v8), .val (.int v9), .val (.int z11_s0), .val (.int z13_s0), .val (.ref x179), .val (.ref x190), .unset, .unset, .unset, .unset]) rfl (n := 137) rfl ?_
    refine G.new C (wd hw 26 rfl) (wd hw 27 rfl) (wd hw 28 rfl) at_137 (n := 140) rfl (c' := 8) (s' := 18) rfl rfl (by decide) (by decide) ?_
    intro h205 b206 q207 E208 A209 D210
    have ne211 : x179 ≠ b206 := Nat.ne_of_lt (Nat.lt_of_lt_of_le O201.lt (Nat.le_of_eq q207.symm))
    have ne212 : bx180 ≠ b206 := Nat.ne_of_lt (Nat.lt_of_lt_of_le O202.lt (Nat.le_of_eq q207.symm))
    have ne213 : x190 ≠ b206 := Nat.ne_of_lt (Nat.lt_of_lt_of_le O193.lt (Nat.le_of_eq q207.symm))
    have ne214 : bx191 ≠ b206 := Nat.ne_of_lt (Nat.lt_of_lt_of_le O194.lt (Nat.le_of_eq q207.symm))
    have g215 : n0 ≤ b206 := Nat.le_trans Z204 (Nat.le_of_eq q207.symm)
    have O216 := Ob_Pr.new hw A209 D210
    have K217 := kext E208
    have O218 := O201.keep K217 nin0
    have O219 := O202.keep K217 nin0
    have O220 := O193.keep K217 nin0
    have O221 := O194.keep K217 nin0
    have OL222 := OL203.keep K217 all0
    have Z223 : n0 ≤ h205.size := Nat.le_trans Z204 K217.1
    refine G.dup C at_140 rfl (n := 141) rfl ?_
    refine G.iloadN C at_141 rfl (n := 142) rfl ?_
    refine G.callS C (argsL := [(.int v1)]) (yc := (⟨"com/example/portcullis/portcullis/PrincipalEqualsPinLaw", "kindOf", "(I)Lcom/example/portcullis/portcullis/Principal$Kind;"⟩ : MethodName)) (wd hw 29 rfl) (wd hw 30 rfl) (wd hw 2 rfl) (wd hw 31 rfl) (by decide) (m_kind l Z a0 hw (fun _ => True) stabT v1 u0 u1 u2 u3 u4 h205 n0 Z223 OL222 S_0 S_1 S_2 S_3 S_4) (fun vm' hW => stabT s vm' hW Js) rfl (by decide) (W := 2) rfl (by decide) (c' := 8) (s' := 18) rfl rfl (by decide) (by decide) at_142 (n := 145) rfl pd10 rfl rfl ?_
    rintro s C _ _ ⟨⟨rfl, rfl⟩, Js⟩
    refine G.aload C at_145 rfl rfl (n := 147) rfl ?_
    refine G.callC C (argsL := [(.ref (kdf u0 u1 u2 u3 u4 v1)), (.ref x179)]) (yc := (⟨"com/example/portcullis/portcullis/Principal", "<init>", "(Lcom/example/portcullis/portcullis/Principal$Kind;Ljava/lang/String;)V"⟩ : MethodName)) (a := b206) rfl (wd hw 35 rfl) (wd hw 36 rfl) (wd hw 28 rfl) (wd hw 37 rfl) (by decide) (m_pini l Z a0 hw (fun _ => True) stabT b206 (kdf u0 u1 u2 u3 u4 v1) x179 h205 n0 Z223 O216 g215) (fun vm' hW => stabT s vm' hW Js) rfl (by decide) (W := 1) rfl (by decide) (c' := 8) (s' := 18) rfl rfl (by decide) (by decide) at_147 (n := 150) rfl pd11 rfl rfl ?_
    rintro s C _ h229 ⟨⟨rfl, K226, O227⟩, Js⟩
    have O230 := O218.keep K226 (ninS ne211 nin0)
    have O231 := O219.keep K226 (ninS ne212 nin0)
    have O232 := O220.keep K226 (ninS ne213 nin0)
    have O233 := O221.keep K226 (ninS ne214 nin0)
    have OL234 := OL222.keep K226 (allS g215 all0)
    have Z235 : n0 ≤ h229.size := Nat.le_trans Z223 K226.1
    refine G.astore C at_150 rfl (l' := #[.val (.int i0), .val (.int i1), .val (.int i2), .val (.int v1), .val (.int v2), .val (.int v3), .val (.int v4), .val (.int z6_s0), .val (.int v7), .val (.int v8), .val (.int v9), .val (.int z11_s0), .val (.int z13_s0), .val (.ref x179), .val (.ref x190), .val (.ref b206), .unset, .unset, .unset]) rfl (n := 152) rfl ?_
    refine G.new C (wd hw 26 rfl) (wd hw 27 rfl) (wd hw 28 rfl) at_152 (n := 155) rfl (c' := 9) (s' := 20) rfl rfl (by decide) (by decide) ?_
    intro h236 b237 q238 E239 A240 D241
    have ne242 : x179 ≠ b237 := Nat.ne_of_lt (Nat.lt_of_lt_of_le O230.lt (Nat.le_of_eq q238.symm))
    have ne243 : bx180 ≠ b237 := Nat.ne_of_lt (Nat.lt_of_lt_of_le O231.lt (Nat.le_of_eq q238.symm))
    have ne244 : x190 ≠ b237 := Nat.ne_of_lt (Nat.lt_of_lt_of_le O232.lt (Nat.le_of_eq q238.symm))
    have ne245 : bx191 ≠ b237 := Nat.ne_of_lt (Nat.lt_of_lt_of_le O233.lt (Nat.le_of_eq q238.symm))
    have ne246 : b206 ≠ b237 := Nat.ne_of_lt (Nat.lt_of_lt_of_le O227.lt (Nat.le_of_eq q238.symm))
    have g247 : n0 ≤ b237 := Nat.le_trans Z235 (Nat.le_of_eq q238.symm)
    have O248 := Ob_Pr.new hw A240 D241
    have K249 := kext E239
    have O250 := O230.keep K249 nin0
    have O251 := O231.keep K249 nin0
    have O252 := O232.keep K249 nin0
    have O253 := O233.keep K249 nin0
    have O254 := O227.keep K249 nin0
    have OL255 := OL234.keep K249 all0
    have Z256 : n0 ≤ h236.size := Nat.le_trans Z235 K249.1
    refine G.dup C at_155 rfl (n := 156) rfl ?_
    refine G.iload C at_156 rfl (n := 158) rfl ?_
    refine G.callS C (argsL := [(.int v2)]) (yc := (⟨"com/example/portcullis/portcullis/PrincipalEqualsPinLaw", "kindOf", "(I)Lcom/example/portcullis/portcullis/Principal$Kind;"⟩ : MethodName)) (wd hw 29 rfl) (wd hw 30 rfl) (wd hw 2 rfl) (wd hw 31 rfl) (by decide) (m_kind l Z a0 hw (fun _ => True) stabT v2 u0 u1 u2 u3 u4 h236 n0 Z256 OL255 S_0 S_1 S_2 S_3 S_4) (fun vm' hW => stabT s vm' hW Js) rfl (by decide) (W := 2) rfl (by decide) (c' := 9) (s' := 20) rfl rfl (by decide) (by decide) at_158 (n := 161) rfl pd10 rfl rfl ?_
    rintro s C _ _ ⟨⟨rfl, rfl⟩, Js⟩
    refine G.aload C at_161 rfl rfl (n := 163) rfl ?_
    refine G.callC C (argsL := [(.ref (kdf u0 u1 u2 u3 u4 v2)), (.ref x190)]) (yc := (⟨"com/example/portcullis/portcullis/Principal", "<init>", "(Lcom/example/portcullis/portcullis/Principal$Kind;Ljava/lang/String;)V"⟩ : MethodName)) (a := b237) rfl (wd hw 35 rfl) (wd hw 36 rfl) (wd hw 28 rfl) (wd hw 37 rfl) (by decide) (m_pini l Z a0 hw (fun _ => True) stabT b237 (kdf u0 u1 u2 u3 u4 v2) x190 h236 n0 Z256 O248 g247) (fun vm' hW => stabT s vm' hW Js) rfl (by decide) (W := 1) rfl (by decide) (c' := 9) (s' := 20) rfl rfl (by decide) (by decide) at_163 (n := 166) rfl pd11 rfl rfl ?_
    rintro s C _ h262 ⟨⟨rfl, K259, O260⟩, Js⟩
    have O263 := O250.keep K259 (ninS ne242 nin0)
    have O264 := O251.keep K259 (ninS ne243 nin0)
    have O265 := O252.keep K259 (ninS ne244 nin0)
    have O266 := O253.keep K259 (ninS ne245 nin0)
    have O267 := O254.keep K259 (ninS ne246 nin0)
    have OL268 := OL255.keep K259 (allS g247 all0)
    have Z269 : n0 ≤ h262.size := Nat.le_trans Z256 K259.1
    refine G.astore C at_166 rfl (l' := #[.val (.int i0), .val (.int i1), .val (.int i2), .val (.int v1), .val (.int v2), .val (.int v3), .val (.int v4), .val (.int z6_s0), .val (.int v7), .val (.int v8), .val (.int v9), .val (.int z11_s0), .val (.int z13_s0), .val (.ref x179), .val (.ref x190), .val (.ref b206), .val (.ref b237), .unset, .unset]) rfl (n := 168) rfl ?_
    refine G.iload C at_168 rfl (n := 170) rfl ?_
    refine G.if_ne C (A := v7.toInt) rfl at_170 (by decide) (by decide) (n := 173) (n' := 226) rfl (fun c170_270 c170_270i => ?_) (fun c170_270 c170_270i => ?_)
    · refine G.iload C at_226 rfl (n := 228) rfl ?_
      refine G.iconst C (v := (1 : Int32)) at_228 (by decide) (n := 229) rfl ?_
      refine G.icmp_ne C (A := v7.toInt) (B := 1) rfl (by decide) at_229 (by decide) (by decide) (n := 232) (n' := 241) rfl (fun c229_271 c229_271i => ?_) (fun c229_271 c229_271i => ?_)
      · refine G.iload C at_241 rfl (n := 243) rfl ?_
        refine G.iconst C (v := (2 : Int32)) at_243 (by decide) (n := 244) rfl ?_
        refine G.icmp_ne C (A := v7.toInt) (B := 2) rfl (by decide) at_244 (by decide) (by decide) (n := 247) (n' := 257) rfl (fun c244_272 c244_272i => ?_) (fun c244_272 c244_272i => ?_)
        · refine G.iloadN C at_257 rfl (n := 258) rfl ?_
          refine G.callS C (argsL := [(.int i1)]) (yc := (⟨"java/lang/Integer", "valueOf", "(I)Ljava/lang/Integer;"⟩ : MethodName)) (wd hw 82 rfl) (wd hw 83 rfl) (wd hw 84 rfl) (wd hw 85 rfl) (by decide) (m_vof l Z a0 hw (fun _ => True) stabT i1 ic iv h262 n0 Z269 OL268 S_h S_i O_ic HC) (fun vm' hW => stabT s vm' hW Js) rfl (by decide) (W := 0) rfl (by decide) (c' := 10) (s' := 21) rfl rfl (by decide) (by decide) at_258 (n := 261) rfl pd12 rfl rfl ?_
          rintro s C _ h277 ⟨⟨x273, rfl, K274, E275⟩, Js⟩
          have O278 := O263.keep K274 nin0
          have O279 := O264.keep K274 nin0
          have O280 := O265.keep K274 nin0
          have O281 := O266.keep K274 nin0
          have O282 := O267.keep K274 nin0
          have O283 := O260.keep K274 nin0
          have OL284 := OL268.keep K274 all0
          have Z285 : n0 ≤ h277.size := Nat.le_trans Z269 K274.1
          refine G.astore C at_261 rfl (l' := #[.val (.int i0), .val (.int i1), .val (.int i2), .val (.int v1), .val (.int v2), .val (.int v3), .val (.int v4), .val (.int z6_s0), .val (.int v7), .val (.int v8), .val (.int v9), .val (.int z11_s0), .val (.int z13_s0), .val (.ref x179), .val (.ref x190), .val (.ref b206), .val (.ref b237), .val (.ref x273), .unset]) rfl (n := 263) rfl ?_
          refine G.iconst C (v := (0 : Int32)) at_263 (by decide) (n := 264) rfl ?_
          refine G.istore C at_264 (l' := #[.val (.int i0), .val (.int i1), .val (.int i2), .val (.int v1), .val (.int v2), .val (.int v3), .val (.int v4), .val (.int z6_s0), .val (.int v7), .val (.int v8), .val (.int v9), .val (.int z11_s0), .val (.int z13_s0), .val (.ref x179), .val (.ref x190), .val (.ref b206), .val (.ref b237), .val (.ref x273), .val (.int (0 : Int32))]) rfl (n := 266) rfl ?_
          refine G.aload C at_266 rfl rfl (n := 268) rfl ?_
          refine G.aload C at_268 rfl rfl (n := 270) rfl ?_
          refine G.callV C (argsL := [(.ref x273)]) (yr := (⟨"com/example/portcullis/portcullis/Principal", "equals", "(Ljava/lang/Object;)Z"⟩ : MethodName)) (yc := (⟨"com/example/portcullis/portcullis/Principal", "equals", "(Ljava/lang/Object;)Z"⟩ : MethodName)) (a := b206) (O282.1) (wd hw 48 rfl) (wd hw 49 rfl) (nfS (wd hw 51 rfl) rfl) (wd hw 51 rfl) (wd hw 50 rfl) (wd hw 28 rfl) (wd hw 52 rfl) (by decide) (m_pint l Z a0 hw (fun _ => True) stabT b206 (kdf u0 u1 u2 u3 u4 v1) x179 x273 h277 n0 Z285 O282 E275) (fun vm' hW => stabT s vm' hW Js) rfl (by decide) (W := 0) rfl (by decide) (c' := 10) (s' := 21) rfl rfl (by decide) (by decide) at_270 (n := 273) rfl pd7 rfl rfl ?_
          rintro s C _ _ ⟨⟨rfl, rfl⟩, Js⟩
          refine G.iload C at_273 rfl (n := 275) rfl ?_
          refine G.icmp_ne C (A := 0) (B := 0) (by decide) (by decide) at_275 (by decide) (by decide) (n := 278) (n' := 292) rfl (fun c275_288 c275_288i => ?_) (fun c275_288 c275_288i => ?_)
          · exact absurd c275_288 (by decide)
          refine G.aload C at_278 rfl rfl (n := 280) rfl ?_
          refine G.aload C at_280 rfl rfl (n := 282) rfl ?_
          refine G.callV C (argsL := [(.ref b206)]) (yr := (⟨"com/example/portcullis/portcullis/Principal", "equals", "(Ljava/lang/Object;)Z"⟩ : MethodName)) (yc := (⟨"com/example/portcullis/portcullis/Principal", "equals", "(Ljava/lang/Object;)Z"⟩ : MethodName)) (a := b206) (O282.1) (wd hw 48 rfl) (wd hw 49 rfl) (nfS (wd hw 51 rfl) rfl) (wd hw 51 rfl) (wd hw 50 rfl) (wd hw 28 rfl) (wd hw 52 rfl) (by decide) (m_pxx l Z a0 hw (fun _ => True) stabT b206 (kdf u0 u1 u2 u3 u4 v1) x179 bx180 h277 n0 Z285 O282 O278) (fun vm' hW => stabT s vm' hW Js) rfl (by decide) (W := 0) rfl (by decide) (c' := 10) (s' := 21) rfl rfl (by decide) (by decide) at_282 (n := 285) rfl pd7 rfl rfl ?_
          rintro s C _ _ ⟨⟨rfl, rfl⟩, Js⟩
          refine G.if_eq C (A := 1) (by decide) at_285 (by decide) (by decide) (n := 288) (n' := 292) rfl (fun c285_291 c285_291i => ?_) (fun c285_291 c285_291i => ?_)
          · exact absurd c285_291 (by decide)
          refine G.iconst C (v := (1 : Int32)) at_288 (by decide) (n := 289) rfl ?_
          refine G.goto C at_289 (by decide) (n := 293) (by decide) ?_
          refine G.ireturn C at_293 (rfl) (by simp) (by decide) (by decide) ?_
          intro vm' hWm
          exact rfl
        · refine G.aload C at_247 rfl rfl (n := 249) rfl ?_
          refine G.astore C at_249 rfl (l' := #[.val (.int i0), .val (.int i1), .val (.int i2), .val (.int v1), .val (.int v2), .val (.int v3), .val (.int v4), .val (.int z6_s0), .val (.int v7), .val (.int v8), .val (.int v9), .val (.int z11_s0), .val (.int z13_s0), .val (.ref x179), .val (.ref x190), .val (.ref b206), .val (.ref b237), .val (.ref x190), .unset]) rfl (n := 251) rfl ?_
          refine G.iconst C (v := (0 : Int32)) at_251 (by decide) (n := 252) rfl ?_
          refine G.istore C at_252 (l' := #[.val (.int i0), .val (.int i1), .val (.int i2), .val (.int v1), .val (.int v2), .val (.int v3), .val (.int v4), .val (.int z6_s0), .val (.int v7), .val (.int v8), .val (.int v9), .val (.int z11_s0), .val (.int z13_s0), .val (.ref x179), .val (.ref x190), .val (.ref b206), .val (.ref b237), .val (.ref x190), .val (.int (0 : Int32))]) rfl (n := 254) rfl ?_
          refine G.goto C at_254 (by decide) (n := 266) (by decide) ?_
          refine G.aload C at_266 rfl rfl (n := 268) rfl ?_
          refine G.aload C at_268 rfl rfl (n := 270) rfl ?_
          refine G.callV C (argsL := [(.ref x190)]) (yr := (⟨"com/example/portcullis/portcullis/Principal", "equals", "(Ljava/lang/Object;)Z"⟩ : MethodName)) (yc := (⟨"com/example/portcullis/portcullis/Principal", "equals", "(Ljava/lang/Object;)Z"⟩ : MethodName)) (a := b206) (O267.1) (wd hw 48 rfl) (wd hw 49 rfl) (nfS (wd hw 51 rfl) rfl) (wd hw 51 rfl) (wd hw 50 rfl) (wd hw 28 rfl) (wd hw 52 rfl) (by decide) (m_pstr l Z a0 hw (fun _ => True) stabT b206 (kdf u0 u1 u2 u3 u4 v1) x179 x190 bx191 h262 n0 Z269 O267 O265) (fun vm' hW => stabT s vm' hW Js) rfl (by decide) (W := 0) rfl (by decide) (c' := 9) (s' := 20) rfl rfl (by decide) (by decide) at_270 (n := 273) rfl pd7 rfl rfl ?_
          rintro s C _ _ ⟨⟨rfl, rfl⟩, Js⟩
          refine G.iload C at_273 rfl (n := 275) rfl ?_
          refine G.icmp_ne C (A := 0) (B := 0) (by decide) (by decide) at_275 (by decide) (by decide) (n := 278) (n' := 292) rfl (fun c275_294 c275_294i => ?_) (fun c275_294 c275_294i => ?_)
          · exact absurd c275_294 (by decide)
          refine G.aload C at_278 rfl rfl (n := 280) rfl ?_
          refine G.aload C at_280 rfl rfl (n := 282) rfl ?_
          refine G.callV C (argsL := [(.ref b206)]) (yr := (⟨"com/example/portcullis/portcullis/Principal", "equals", "(Ljava/lang/Object;)Z"⟩ : MethodName)) (yc := (⟨"com/example/portcullis/portcullis/Principal", "equals", "(Ljava/lang/Object;)Z"⟩ : MethodName)) (a := b206) (O267.1) (wd hw 48 rfl) (wd hw 49 rfl) (nfS (wd hw 51 rfl) rfl) (wd hw 51 rfl) (wd hw 50 rfl) (wd hw 28 rfl) (wd hw 52 rfl) (by decide) (m_pxx l Z a0 hw (fun _ => True) stabT b206 (kdf u0 u1 u2 u3 u4 v1) x179 bx180 h262 n0 Z269 O267 O263) (fun vm' hW => stabT s vm' hW Js) rfl (by decide) (W := 0) rfl (by decide) (c' := 9) (s' := 20) rfl rfl (by decide) (by decide) at_282 (n := 285) rfl pd7 rfl rfl ?_
          rintro s C _ _ ⟨⟨rfl, rfl⟩, Js⟩
          refine G.if_eq C (A := 1) (by decide) at_285 (by decide) (by decide) (n := 288) (n' := 292) rfl (fun c285_297 c285_297i => ?_) (fun c285_297 c285_297i => ?_)
          · exact absurd c285_297 (by decide)
          refine G.iconst C (v := (1 : Int32)) at_288 (by decide) (n := 289) rfl ?_
          refine G.goto C at_289 (by decide) (n := 293) (by decide) ?_
          refine G.ireturn C at_293 (rfl) (by simp) (by decide) (by decide) ?_
          intro vm' hWm
          exact rfl
      · refine G.aconst_null C at_232 (n := 233) rfl ?_
        refine G.astore C at_233 rfl (l' := #[.val (.int i0), .val (.int i1), .val (.int i2), .val (.int v1), .val (.int v2), .val (.int v3), .val (.int v4), .val (.int z6_s0), .val (.int v7), .val (.int v8), .val (.int v9), .val (.int z11_s0), .val (.int z13_s0), .val (.ref x179), .val (.ref x190), .val (.ref b206), .val (.ref b237), .val .null, .unset]) rfl (n := 235) rfl ?_
        refine G.iconst C (v := (0 : Int32)) at_235 (by decide) (n := 236) rfl ?_
        refine G.istore C at_236 (l' := #[.val (.int i0), .val (.int i1), .val (.int i2), .val (.int v1), .val (.int v2), .val (.int v3), .val (.int v4), .val (.int z6_s0), .val (.int v7), .val (.int v8), .val (.int v9), .val (.int z11_s0), .val (.int z13_s0), .val (.ref x179), .val (.ref x190), .val (.ref b206), .val (.ref b237), .val .null, .val (.int (0 : Int32))]) rfl (n := 238) rfl ?_
        refine G.goto C at_238 (by decide) (n := 266) (by decide) ?_
        refine G.aload C at_266 rfl rfl (n := 268) rfl ?_
        refine G.aload C at_268 rfl rfl (n := 270) rfl ?_
        refine G.callV C (argsL := [.null]) (yr := (⟨"com/example/portcullis/portcullis/Principal", "equals", "(Ljava/lang/Object;)Z"⟩ : MethodName)) (yc := (⟨"com/example/portcullis/portcullis/Principal", "equals", "(Ljava/lang/Object;)Z"⟩ : MethodName)) (a := b206) (O267.1) (wd hw 48 rfl) (wd hw 49 rfl) (nfS (wd hw 51 rfl) rfl) (wd hw 51 rfl) (wd hw 50 rfl) (wd hw 28 rfl) (wd hw 52 rfl) (by decide) (m_pnul l Z a0 hw (fun _ => True) stabT b206 (kdf u0 u1 u2 u3 u4 v1) x179 h262 n0 Z269 O267) (fun vm' hW => stabT s vm' hW Js) rfl (by decide) (W := 0) rfl (by decide) (c' := 9) (s' := 20) rfl rfl (by decide) (by decide) at_270 (n := 273) rfl pd7 rfl rfl ?_
        rintro s C _ _ ⟨⟨rfl, rfl⟩, Js⟩
        refine G.iload C at_273 rfl (n := 275) rfl ?_
        refine G.icmp_ne C (A := 0) (B := 0) (by decide) (by decide) at_275 (by decide) (by decide) (n := 278) (n' := 292) rfl (fun c275_300 c275_300i => ?_) (fun c275_300 c275_300i => ?_)
        · exact absurd c275_300 (by decide)
        refine G.aload C at_278 rfl rfl (n := 280) rfl ?_
        refine G.aload C at_280 rfl rfl (n := 282) rfl ?_
        refine G.callV C (argsL := [(.ref b206)]) (yr := (⟨"com/example/portcullis/portcullis/Principal", "equals", "(Ljava/lang/Object;)Z"⟩ : MethodName)) (yc := (⟨"com/example/portcullis/portcullis/Principal", "equals", "(Ljava/lang/Object;)Z"⟩ : MethodName)) (a := b206) (O267.1) (wd hw 48 rfl) (wd hw 49 rfl) (nfS (wd hw 51 rfl) rfl) (wd hw 51 rfl) (wd hw 50 rfl) (wd hw 28 rfl) (wd hw 52 rfl) (by decide) (m_pxx l Z a0 hw (fun _ => True) stabT b206 (kdf u0 u1 u2 u3 u4 v1) x179 bx180 h262 n0 Z269 O267 O263) (fun vm' hW => stabT s vm' hW Js) rfl (by decide) (W := 0) rfl (by decide) (c' := 9) (s' := 20) rfl rfl (by decide) (by decide) at_282 (n := 285) rfl pd7 rfl rfl ?_
        rintro s C _ _ ⟨⟨rfl, rfl⟩, Js⟩
        refine G.if_eq C (A := 1) (by decide) at_285 (by decide) (by decide) (n := 288) (n' := 292) rfl (fun c285_303 c285_303i => ?_) (fun c285_303 c285_303i => ?_)
        · exact absurd c285_303 (by decide)
        refine G.iconst C (v := (1 : Int32)) at_288 (by decide) (n := 289) rfl ?_
        refine G.goto C at_289 (by decide) (n := 293) (by decide) ?_
        refine G.ireturn C at_293 (rfl) (by simp) (by decide) (by decide) ?_
        intro vm' hWm
        exact rfl
    · refine G.aload C at_173 rfl rfl (n := 175) rfl ?_
      refine G.astore C at_175 rfl (l' := #[.val (.int i0), .val (.int i1), .val (.int i2), .val (.int v1), .val (.int v2), .val (.int v3), .val (.int v4), .val (.int z6_s0), .val (.int v7), .val (.int v8), .val (.int v9), .val (.int z11_s0), .val (.int z13_s0), .val (.ref x179), .val (.ref x190), .val (.ref b206), .val (.ref b237), .val (.ref b237), .unset]) rfl (n := 177) rfl ?_
      refine G.iloadN C at_177 rfl (n := 178) rfl ?_
      refine G.iload C at_178 rfl (n := 180) rfl ?_
      refine G.icmp_ne C (A := v1.toInt) (B := v2.toInt) rfl rfl at_180 (by decide) (by decide) (n := 183) (n' := 220) rfl (fun c180_304 c180_304i => ?_) (fun c180_304 c180_304i => ?_)
      · refine G.iconst C (v := (0 : Int32)) at_220 (by decide) (n := 221) rfl ?_
        refine G.istore C at_221 (l' := #[.val (.int i0), .val (.int i1), .val (.int i2), .val (.int v1), .val (.int v2), .val (.int v3), .val (.int v4), .val (.int z6_s0), .val (.int v7), .val (.int v8), .val (.int v9), .val (.int z11_s0), .val (.int z13_s0), .val (.ref x179), .val (.ref x190), .val (.ref b206), .val (.ref b237), .val (.ref b237), .val (.int (0 : Int32))]) rfl (n := 223) rfl ?_
        refine G.goto C at_223 (by decide) (n := 266) (by decide) ?_
        refine G.aload C at_266 rfl rfl (n := 268) rfl ?_
        refine G.aload C at_268 rfl rfl (n := 270) rfl ?_
        refine G.callV C (argsL := [(.ref b237)]) (yr := (⟨"com/example/portcullis/portcullis/Principal", "equals", "(Ljava/lang/Object;)Z"⟩ : MethodName)) (yc := (⟨"com/example/portcullis/portcullis/Principal", "equals", "(Ljava/lang/Object;)Z"⟩ : MethodName)) (a := b206) (O267.1) (wd hw 48 rfl) (wd hw 49 rfl) (nfS (wd hw 51 rfl) rfl) (wd hw 51 rfl) (wd hw 50 rfl) (wd hw 28 rfl) (wd hw 52 rfl) (by decide) (m_ppq l Z a0 hw (fun _ => True) stabT b206 (kdf u0 u1 u2 u3 u4 v1) x179 b237 (kdf u0 u1 u2 u3 u4 v2) x190 bx180 bx191 _ _ cs h262 n0 Z269 OL268 S_c q_cs O267 O260 O263 O265 O264 O266 ne198) (fun vm' hW => stabT s vm' hW Js) rfl (by decide) (W := 0) rfl (by decide) (c' := 9) (s' := 20) rfl rfl (by decide) (by decide) at_270 (n := 273) rfl pd7 rfl rfl ?_
        rintro s C _ _ ⟨⟨r305, rfl, hr306, rfl⟩, Js⟩
        refine G.iload C at_273 rfl (n := 275) rfl ?_
        refine G.icmp_ne C (A := r305.toInt) (B := 0) rfl (by decide) at_275 (by decide) (by decide) (n := 278) (n' := 292) rfl (fun c275_309 c275_309i => ?_) (fun c275_309 c275_309i => ?_)
        · exact absurd (res0 hr306 (res_iff hdk K_a K_b L_a L_b R_a0 R_b0 R_a1 R_b1) (by rintro ⟨e1, e2, e3, e4⟩; first | contradiction | (rcases e3 with e3 | e3 <;> first | omega | contradiction) | (rcases e4 with e4 | e4 <;> first | omega | contradiction))) c275_309
        refine G.aload C at_278 rfl rfl (n := 280) rfl ?_
        refine G.aload C at_280 rfl rfl (n := 282) rfl ?_
        refine G.callV C (argsL := [(.ref b206)]) (yr := (⟨"com/example/portcullis/portcullis/Principal", "equals", "(Ljava/lang/Object;)Z"⟩ : MethodName)) (yc := (⟨"com/example/portcullis/portcullis/Principal", "equals", "(Ljava/lang/Object;)Z"⟩ : MethodName)) (a := b206) (O267.1) (wd hw 48 rfl) (wd hw 49 rfl) (nfS (wd hw 51 rfl) rfl) (wd hw 51 rfl) (wd hw 50 rfl) (wd hw 28 rfl) (wd hw 52 rfl) (by decide) (m_pxx l Z a0 hw (fun _ => True) stabT b206 (kdf u0 u1 u2 u3 u4 v1) x179 bx180 h262 n0 Z269 O267 O263) (fun vm' hW => stabT s vm' hW Js) rfl (by decide) (W := 0) rfl (by decide) (c' := 9) (s' := 20) rfl rfl (by decide) (by decide) at_282 (n := 285) rfl pd7 rfl rfl ?_
        rintro s C _ _ ⟨⟨rfl, rfl⟩, Js⟩
        refine G.if_eq C (A := 1) (by decide) at_285 (by decide) (by decide) (n := 288) (n' := 292) rfl (fun c285_312 c285_312i => ?_) (fun c285_312 c285_312i => ?_)
        · exact absurd c285_312 (by decide)
        refine G.iconst C (v := (1 : Int32)) at_288 (by decide) (n := 289) rfl ?_
        refine G.goto C at_289 (by decide) (n := 293) (by decide) ?_
        refine G.ireturn C at_293 (rfl) (by simp) (by decide) (by decide) ?_
        intro vm' hWm
        exact rfl
      · refine G.iload C at_183 rfl (n := 185) rfl ?_
        refine G.iload C at_185 rfl (n := 187) rfl ?_
        refine G.icmp_ne C (A := v3.toInt) (B := v4.toInt) rfl rfl at_187 (by decide) (by decide) (n := 190) (n' := 220) rfl (fun c187_313 c187_313i => ?_) (fun c187_313 c187_313i => ?_)
        · refine G.iconst C (v := (0 : Int32)) at_220 (by decide) (n := 221) rfl ?_
          refine G.istore C at_221 (l' := #[.val (.int i0), .val (.int i1), .val (.int i2), .val (.int v1), .val (.int v2), .val (.int v3), .val (.int v4), .val (.int z6_s0), .val (.int v7), .val (.int v8), .val (.int v9), .val (.int z11_s0), .val (.int z13_s0), .val (.ref x179), .val (.ref x190), .val (.ref b206), .val (.ref b237), .val (.ref b237), .val (.int (0 : Int32))]) rfl (n := 223) rfl ?_
          refine G.goto C at_223 (by decide) (n := 266) (by decide) ?_
          refine G.aload C at_266 rfl rfl (n := 268) rfl ?_
          refine G.aload C at_268 rfl rfl (n := 270) rfl ?_
          refine G.callV C (argsL := [(.ref b237)]) (yr := (⟨"com/example/portcullis/portcullis/Principal", "equals", "(Ljava/lang/Object;)Z"⟩ : MethodName)) (yc := (⟨"com/example/portcullis/portcullis/Principal", "equals", "(Ljava/lang/Object;)Z"⟩ : MethodName)) (a := b206) (O267.1) (wd hw 48 rfl) (wd hw 49 rfl) (nfS (wd hw 51 rfl) rfl) (wd hw 51 rfl) (wd hw 50 rfl) (wd hw 28 rfl) (wd hw 52 rfl) (by decide) (m_ppq l Z a0 hw (fun _ => True) stabT b206 (kdf u0 u1 u2 u3 u4 v1) x179 b237 (kdf u0 u1 u2 u3 u4 v2) x190 bx180 bx191 _ _ cs h262 n0 Z269 OL268 S_c q_cs O267 O260 O263 O265 O264 O266 ne198) (fun vm' hW => stabT s vm' hW Js) rfl (by decide) (W := 0) rfl (by decide) (c' := 9) (s' := 20) rfl rfl (by decide) (by decide) at_270 (n := 273) rfl pd7 rfl rfl ?_
          rintro s C _ _ ⟨⟨r314, rfl, hr315, rfl⟩, Js⟩
          refine G.iload C at_273 rfl (n := 275) rfl ?_
          refine G.icmp_ne C (A := r314.toInt) (B := 0) rfl (by decide) at_275 (by decide) (by decide) (n := 278) (n' := 292) rfl (fun c275_318 c275_318i => ?_) (fun c275_318 c275_318i => ?_)
          · exact absurd (res0 hr315 (res_iff hdk K_a K_b L_a L_b R_a0 R_b0 R_a1 R_b1) (by rintro ⟨e1, e2, e3, e4⟩; first | contradiction | (rcases e3 with e3 | e3 <;> first | omega | contradiction) | (rcases e4 with e4 | e4 <;> first | omega | contradiction))) c275_318
          refine G.aload C at_278 rfl rfl (n := 280) rfl ?_
          refine G.aload C at_280 rfl rfl (n := 282) rfl ?_
          refine G.callV C (argsL := [(.ref b206)]) (yr := (⟨"com/example/portcullis/portcullis/Principal", "equals", "(Ljava/lang/Object;)Z"⟩ : MethodName)) (yc := (⟨"com/example/portcullis/portcullis/Principal", "equals", "(Ljava/lang/Object;)Z"⟩ : MethodName)) (a := b206) (O267.1) (wd hw 48 rfl) (wd hw 49 rfl) (nfS (wd hw 51 rfl) rfl) (wd hw 51 rfl) (wd hw 50 rfl) (wd hw 28 rfl) (wd hw 52 rfl) (by decide) (m_pxx l Z a0 hw (fun _ => True) stabT b206 (kdf u0 u1 u2 u3 u4 v1) x179 bx180 h262 n0 Z269 O267 O263) (fun vm' hW => stabT s vm' hW Js) rfl (by decide) (W := 0) rfl (by decide) (c' := 9) (s' := 20) rfl rfl (by decide) (by decide) at_282 (n := 285) rfl pd7 rfl rfl ?_
          rintro s C _ _ ⟨⟨rfl, rfl⟩, Js⟩
          refine G.if_eq C (A := 1) (by decide) at_285 (by decide) (by decide) (n := 288) (n' := 292) rfl (fun c285_321 c285_321i => ?_) (fun c285_321 c285_321i => ?_)
          · exact absurd c285_321 (by decide)
          refine G.iconst C (v := (1 : Int32)) at_288 (by decide) (n := 289) rfl ?_
          refine G.goto C at_289 (by decide) (n := 293) (by decide) ?_
          refine G.ireturn C at_293 (rfl) (by simp) (by decide) (by decide) ?_
          intro vm' hWm
          exact rfl
        · refine G.iload C at_190 rfl (n := 192) rfl ?_
          refine G.iconst C (v := (1 : Int32)) at_192 (by decide) (n := 193) rfl ?_
          refine G.icmp_lt C (A := v3.toInt) (B := 1) rfl (by decide) at_193 (by decide) (by decide) (n := 196) (n' := 203) rfl (fun c193_322 => ?_) (fun c193_322 => ?_)
          · refine G.iload C at_203 rfl (n := 205) rfl ?_
            refine G.iconst C (v := (2 : Int32)) at_205 (by decide) (n := 206) rfl ?_
            refine G.icmp_lt C (A := v3.toInt) (B := 2) rfl (by decide) at_206 (by decide) (by decide) (n := 209) (n' := 216) rfl (fun c206_323 => ?_) (fun c206_323 => ?_)
            · refine G.iconst C (v := (1 : Int32)) at_216 (by decide) (n := 217) rfl ?_
              refine G.goto C at_217 (by decide) (n := 221) (by decide) ?_
              refine G.istore C at_221 (l' := #[.val (.int i0), .val (.int i1), .val (.int i2), .val (.int v1), .val (.int v2), .val (.int v3), .val (.int v4), .val (.int z6_s0), .val (.int v7), .val (.int v8), .val (.int v9), .val (.int z11_s0), .val (.int z13_s0), .val (.ref x179), .val (.ref x190), .val (.ref b206), .val (.ref b237), .val (.ref b237), .val (.int (1 : Int32))]) rfl (n := 223) rfl ?_
              refine G.goto C at_223 (by decide) (n := 266) (by decide) ?_
              refine G.aload C at_266 rfl rfl (n := 268) rfl ?_
              refine G.aload C at_268 rfl rfl (n := 270) rfl ?_
              refine G.callV C (argsL := [(.ref b237)]) (yr := (⟨"com/example/portcullis/portcullis/Principal", "equals", "(Ljava/lang/Object;)Z"⟩ : MethodName)) (yc := (⟨"com/example/portcullis/portcullis/Principal", "equals", "(Ljava/lang/Object;)Z"⟩ : MethodName)) (a := b206) (O267.1) (wd hw 48 rfl) (wd hw 49 rfl) (nfS (wd hw 51 rfl) rfl) (wd hw 51 rfl) (wd hw 50 rfl) (wd hw 28 rfl) (wd hw 52 rfl) (by decide) (m_ppq l Z a0 hw (fun _ => True) stabT b206 (kdf u0 u1 u2 u3 u4 v1) x179 b237 (kdf u0 u1 u2 u3 u4 v2) x190 bx180 bx191 _ _ cs h262 n0 Z269 OL268 S_c q_cs O267 O260 O263 O265 O264 O266 ne198) (fun vm' hW => stabT s vm' hW Js) rfl (by decide) (W := 0) rfl (by decide) (c' := 9) (s' := 20) rfl rfl (by decide) (by decide) at_270 (n := 273) rfl pd7 rfl rfl ?_
              rintro s C _ _ ⟨⟨r324, rfl, hr325, rfl⟩, Js⟩
              refine G.iload C at_273 rfl (n := 275) rfl ?_
              refine G.icmp_ne C (A := r324.toInt) (B := 1) rfl (by decide) at_275 (by decide) (by decide) (n := 278) (n' := 292) rfl (fun c275_328 c275_328i => ?_) (fun c275_328 c275_328i => ?_)
              · exact absurd (res1 hr325 (res_iff hdk K_a K_b L_a L_b R_a0 R_b0 R_a1 R_b1) (by refine ⟨?_, ?_, ?_, ?_⟩ <;> first | assumption | exact Or.inl (by first | omega | decide) | exact Or.inr (by assumption))) c275_328
              refine G.aload C at_278 rfl rfl (n := 280) rfl ?_
              refine G.aload C at_280 rfl rfl (n := 282) rfl ?_
              refine G.callV C (argsL := [(.ref b206)]) (yr := (⟨"com/example/portcullis/portcullis/Principal", "equals", "(Ljava/lang/Object;)Z"⟩ : MethodName)) (yc := (⟨"com/example/portcullis/portcullis/Principal", "equals", "(Ljava/lang/Object;)Z"⟩ : MethodName)) (a := b206) (O267.1) (wd hw 48 rfl) (wd hw 49 rfl) (nfS (wd hw 51 rfl) rfl) (wd hw 51 rfl) (wd hw 50 rfl) (wd hw 28 rfl) (wd hw 52 rfl) (by decide) (m_pxx l Z a0 hw (fun _ => True) stabT b206 (kdf u0 u1 u2 u3 u4 v1) x179 bx180 h262 n0 Z269 O267 O263) (fun vm' hW => stabT s vm' hW Js) rfl (by decide) (W := 0) rfl (by decide) (c' := 9) (s' := 20) rfl rfl (by decide) (by decide) at_282 (n := 285) rfl pd7 rfl rfl ?_
              rintro s C _ _ ⟨⟨rfl, rfl⟩, Js⟩
              refine G.if_eq C (A := 1) (by decide) at_285 (by decide) (by decide) (n := 288) (n' := 292) rfl (fun c285_331 c285_331i => ?_) (fun c285_331 c285_331i => ?_)
              · exact absurd c285_331 (by decide)
              refine G.iconst C (v := (1 : Int32)) at_288 (by decide) (n := 289) rfl ?_
              refine G.goto C at_289 (by decide) (n := 293) (by decide) ?_
              refine G.ireturn C at_293 (rfl) (by simp) (by decide) (by decide) ?_
              intro vm' hWm
              exact rfl
            · refine G.iload C at_209 rfl (n := 211) rfl ?_
              refine G.iload C at_211 rfl (n := 213) rfl ?_
              refine G.icmp_ne C (A := v9.toInt) (B := z13_s0.toInt) rfl rfl at_213 (by decide) (by decide) (n := 216) (n' := 220) rfl (fun c213_332 c213_332i => ?_) (fun c213_332 c213_332i => ?_)
              · refine G.iconst C (v := (0 : Int32)) at_220 (by decide) (n := 221) rfl ?_
                refine G.istore C at_221 (l' := #[.val (.int i0), .val (.int i1), .val (.int i2), .val (.int v1), .val (.int v2), .val (.int v3), .val (.int v4), .val (.int z6_s0), .val (.int v7), .val (.int v8), .val (.int v9), .val (.int z11_s0), .val (.int z13_s0), .val (.ref x179), .val (.ref x190), .val (.ref b206), .val (.ref b237), .val (.ref b237), .val (.int (0 : Int32))]) rfl (n := 223) rfl ?_
                refine G.goto C at_223 (by decide) (n := 266) (by decide) ?_
                refine G.aload C at_266 rfl rfl (n := 268) rfl ?_
                refine G.aload C at_268 rfl rfl (n := 270) rfl ?_
                refine G.callV C (argsL := [(.ref b237)]) (yr := (⟨"com/example/portcullis/portcullis/Principal", "equals", "(Ljava/lang/Object;)Z"⟩ : MethodName)) (yc := (⟨"com/example/portcullis/portcullis/Principal", "equals", "(Ljava/lang/Object;)Z"⟩ : MethodName)) (a := b206) (O267.1) (wd hw 48 rfl) (wd hw 49 rfl) (nfS (wd hw 51 rfl) rfl) (wd hw 51 rfl) (wd hw 50 rfl) (wd hw 28 rfl) (wd hw 52 rfl) (by decide) (m_ppq l Z a0 hw (fun _ => True) stabT b206 (kdf u0 u1 u2 u3 u4 v1) x179 b237 (kdf u0 u1 u2 u3 u4 v2) x190 bx180 bx191 _ _ cs h262 n0 Z269 OL268 S_c q_cs O267 O260 O263 O265 O264 O266 ne198) (fun vm' hW => stabT s vm' hW Js) rfl (by decide) (W := 0) rfl (by decide) (c' := 9) (s' := 20) rfl rfl (by decide) (by decide) at_270 (n := 273) rfl pd7 rfl rfl ?_
                rintro s C _ _ ⟨⟨r333, rfl, hr334, rfl⟩, Js⟩
                refine G.iload C at_273 rfl (n := 275) rfl ?_
                refine G.icmp_ne C (A := r333.toInt) (B := 0) rfl (by decide) at_275 (by decide) (by decide) (n := 278) (n' := 292) rfl (fun c275_337 c275_337i => ?_) (fun c275_337 c275_337i => ?_)
                · exact absurd (res0 hr334 (res_iff hdk K_a K_b L_a L_b R_a0 R_b0 R_a1 R_b1) (by rintro ⟨e1, e2, e3, e4⟩; first | contradiction | (rcases e3 with e3 | e3 <;> first | omega | contradiction) | (rcases e4 with e4 | e4 <;> first | omega | contradiction))) c275_337
                refine G.aload C at_278 rfl rfl (n := 280) rfl ?_
                refine G.aload C at_280 rfl rfl (n := 282) rfl ?_
                refine G.callV C (argsL := [(.ref b206)]) (yr := (⟨"com/example/portcullis/portcullis/Principal", "equals", "(Ljava/lang/Object;)Z"⟩ : MethodName)) (yc := (⟨"com/example/portcullis/portcullis/Principal", "equals", "(Ljava/lang/Object;)Z"⟩ : MethodName)) (a := b206) (O267.1) (wd hw 48 rfl) (wd hw 49 rfl) (nfS (wd hw 51 rfl) rfl) (wd hw 51 rfl) (wd hw 50 rfl) (wd hw 28 rfl) (wd hw 52 rfl) (by decide) (m_pxx l Z a0 hw (fun _ => True) stabT b206 (kdf u0 u1 u2 u3 u4 v1) x179 bx180 h262 n0 Z269 O267 O263) (fun vm' hW => stabT s vm' hW Js) rfl (by decide) (W := 0) rfl (by decide) (c' := 9) (s' := 20) rfl rfl (by decide) (by decide) at_282 (n := 285) rfl pd7 rfl rfl ?_
                rintro s C _ _ ⟨⟨rfl, rfl⟩, Js⟩
                refine G.if_eq C (A := 1) (by decide) at_285 (by decide) (by decide) (n := 288) (n' := 292) rfl (fun c285_340 c285_340i => ?_) (fun c285_340 c285_340i => ?_)
                · exact absurd c285_340 (by decide)
                refine G.iconst C (v := (1 : Int32)) at_288 (by decide) (n := 289) rfl ?_
                refine G.goto C at_289 (by decide) (n := 293) (by decide) ?_
                refine G.ireturn C at_293 (rfl) (by simp) (by decide) (by decide) ?_
                intro vm' hWm
                exact rfl
              · refine G.iconst C (v := (1 : Int32)) at_216 (by decide) (n := 217) rfl ?_
                refine G.goto C at_217 (by decide) (n := 221) (by decide) ?_
                refine G.istore C at_221 (l' := #[.val (.int i0), .val (.int i1), .val (.int i2), .val (.int v1), .val (.int v2), .val (.int v3), .val (.int v4), .val (.int z6_s0), .val (.int v7), .val (.int v8), .val (.int v9), .val (.int z11_s0), .val (.int z13_s0), .val (.ref x179), .val (.ref x190), .val (.ref b206), .val (.ref b237), .val (.ref b237), .val (.int (1 : Int32))]) rfl (n := 223) rfl ?_
                refine G.goto C at_223 (by decide) (n := 266) (by decide) ?_
                refine G.aload C at_266 rfl rfl (n := 268) rfl ?_
                refine G.aload C at_268 rfl rfl (n := 270) rfl ?_
                refine G.callV C (argsL := [(.ref b237)]) (yr := (⟨"com/example/portcullis/portcullis/Principal", "equals", "(Ljava/lang/Object;)Z"⟩ : MethodName)) (yc := (⟨"com/example/portcullis/portcullis/Principal", "equals", "(Ljava/lang/Object;)Z"⟩ : MethodName)) (a := b206) (O267.1) (wd hw 48 rfl) (wd hw 49 rfl) (nfS (wd hw 51 rfl) rfl) (wd hw 51 rfl) (wd hw 50 rfl) (wd hw 28 rfl) (wd hw 52 rfl) (by decide) (m_ppq l Z a0 hw (fun _ => True) stabT b206 (kdf u0 u1 u2 u3 u4 v1) x179 b237 (kdf u0 u1 u2 u3 u4 v2) x190 bx180 bx191 _ _ cs h262 n0 Z269 OL268 S_c q_cs O267 O260 O263 O265 O264 O266 ne198) (fun vm' hW => stabT s vm' hW Js) rfl (by decide) (W := 0) rfl (by decide) (c' := 9) (s' := 20) rfl rfl (by decide) (by decide) at_270 (n := 273) rfl pd7 rfl rfl ?_
                rintro s C _ _ ⟨⟨r341, rfl, hr342, rfl⟩, Js⟩
                refine G.iload C at_273 rfl (n := 275) rfl ?_
                refine G.icmp_ne C (A := r341.toInt) (B := 1) rfl (by decide) at_275 (by decide) (by decide) (n := 278) (n' := 292) rfl (fun c275_345 c275_345i => ?_) (fun c275_345 c275_345i => ?_)
                · exact absurd (res1 hr342 (res_iff hdk K_a K_b L_a L_b R_a0 R_b0 R_a1 R_b1) (by refine ⟨?_, ?_, ?_, ?_⟩ <;> first | assumption | exact Or.inl (by first | omega | decide) | exact Or.inr (by assumption))) c275_345
                refine G.aload C at_278 rfl rfl (n := 280) rfl ?_
                refine G.aload C at_280 rfl rfl (n := 282) rfl ?_
                refine G.callV C (argsL := [(.ref b206)]) (yr := (⟨"com/example/portcullis/portcullis/Principal", "equals", "(Ljava/lang/Object;)Z"⟩ : MethodName)) (yc := (⟨"com/example/portcullis/portcullis/Principal", "equals", "(Ljava/lang/Object;)Z"⟩ : MethodName)) (a := b206) (O267.1) (wd hw 48 rfl) (wd hw 49 rfl) (nfS (wd hw 51 rfl) rfl) (wd hw 51 rfl) (wd hw 50 rfl) (wd hw 28 rfl) (wd hw 52 rfl) (by decide) (m_pxx l Z a0 hw (fun _ => True) stabT b206 (kdf u0 u1 u2 u3 u4 v1) x179 bx180 h262 n0 Z269 O267 O263) (fun vm' hW => stabT s vm' hW Js) rfl (by decide) (W := 0) rfl (by decide) (c' := 9) (s' := 20) rfl rfl (by decide) (by decide) at_282 (n := 285) rfl pd7 rfl rfl ?_
                rintro s C _ _ ⟨⟨rfl, rfl⟩, Js⟩
                refine G.if_eq C (A := 1) (by decide) at_285 (by decide) (by decide) (n := 288) (n' := 292) rfl (fun c285_348 c285_348i => ?_) (fun c285_348 c285_348i => ?_)
                · exact absurd c285_348 (by decide)
                refine G.iconst C (v := (1 : Int32)) at_288 (by decide) (n := 289) rfl ?_
                refine G.goto C at_289 (by decide) (n := 293) (by decide) ?_
                refine G.ireturn C at_293 (rfl) (by simp) (by decide) (by decide) ?_
                intro vm' hWm
                exact rfl
          · refine G.iload C at_196 rfl (n := 198) rfl ?_
            refine G.iload C at_198 rfl (n := 200) rfl ?_
            refine G.icmp_ne C (A := v8.toInt) (B := z11_s0.toInt) rfl rfl at_200 (by decide) (by decide) (n := 203) (n' := 220) rfl (fun c200_349 c200_349i => ?_) (fun c200_349 c200_349i => ?_)
            · refine G.iconst C (v := (0 : Int32)) at_220 (by decide) (n := 221) rfl ?_
              refine G.istore C at_221 (l' := #[.val (.int i0), .val (.int i1), .val (.int i2), .val (.int v1), .val (.int v2), .val (.int v3), .val (.int v4), .val (.int z6_s0), .val (.int v7), .val (.int v8), .val (.int v9), .val (.int z11_s0), .val (.int z13_s0), .val (.ref x179), .val (.ref x190), .val (.ref b206), .val (.ref b237), .val (.ref b237), .val (.int (0 : Int32))]) rfl (n := 223) rfl ?_
              refine G.goto C at_223 (by decide) (n := 266) (by decide) ?_
              refine G.aload C at_266 rfl rfl (n := 268) rfl ?_
              refine G.aload C at_268 rfl rfl (n := 270) rfl ?_
              refine G.callV C (argsL := [(.ref b237)]) (yr := (⟨"com/example/portcullis/portcullis/Principal", "equals", "(Ljava/lang/Object;)Z"⟩ : MethodName)) (yc := (⟨"com/example/portcullis/portcullis/Principal", "equals", "(Ljava/lang/Object;)Z"⟩ : MethodName)) (a := b206) (O267.1) (wd hw 48 rfl) (wd hw 49 rfl) (nfS (wd hw 51 rfl) rfl) (wd hw 51 rfl) (wd hw 50 rfl) (wd hw 28 rfl) (wd hw 52 rfl) (by decide) (m_ppq l Z a0 hw (fun _ => True) stabT b206 (kdf u0 u1 u2 u3 u4 v1) x179 b237 (kdf u0 u1 u2 u3 u4 v2) x190 bx180 bx191 _ _ cs h262 n0 Z269 OL268 S_c q_cs O267 O260 O263 O265 O264 O266 ne198) (fun vm' hW => stabT s vm' hW Js) rfl (by decide) (W := 0) rfl (by decide) (c' := 9) (s' := 20) rfl rfl (by decide) (by decide) at_270 (n := 273) rfl pd7 rfl rfl ?_
              rintro s C _ _ ⟨⟨r350, rfl, hr351, rfl⟩, Js⟩
              refine G.iload C at_273 rfl (n := 275) rfl ?_
              refine G.icmp_ne C (A := r350.toInt) (B := 0) rfl (by decide) at_275 (by decide) (by decide) (n := 278) (n' := 292) rfl (fun c275_354 c275_354i => ?_) (fun c275_354 c275_354i => ?_)
              · exact absurd (res0 hr351 (res_iff hdk K_a K_b L_a L_b R_a0 R_b0 R_a1 R_b1) (by rintro ⟨e1, e2, e3, e4⟩; first | contradiction | (rcases e3 with e3 | e3 <;> first | omega | contradiction) | (rcases e4 with e4 | e4 <;> first | omega | contradiction))) c275_354
              refine G.aload C at_278 rfl rfl (n := 280) rfl ?_
              refine G.aload C at_280 rfl rfl (n := 282) rfl ?_
              refine G.callV C (argsL := [(.ref b206)]) (yr := (⟨"com/example/portcullis/portcullis/Principal", "equals", "(Ljava/lang/Object;)Z"⟩ : MethodName)) (yc := (⟨"com/example/portcullis/portcullis/Principal", "equals", "(Ljava/lang/Object;)Z"⟩ : MethodName)) (a := b206) (O267.1) (wd hw 48 rfl) (wd hw 49 rfl) (nfS (wd hw 51 rfl) rfl) (wd hw 51 rfl) (wd hw 50 rfl) (wd hw 28 rfl) (wd hw 52 rfl) (by decide) (m_pxx l Z a0 hw (fun _ => True) stabT b206 (kdf u0 u1 u2 u3 u4 v1) x179 bx180 h262 n0 Z269 O267 O263) (fun vm' hW => stabT s vm' hW Js) rfl (by decide) (W := 0) rfl (by decide) (c' := 9) (s' := 20) rfl rfl (by decide) (by decide) at_282 (n := 285) rfl pd7 rfl rfl ?_
              rintro s C _ _ ⟨⟨rfl, rfl⟩, Js⟩
              refine G.if_eq C (A := 1) (by decide) at_285 (by decide) (by decide) (n := 288) (n' := 292) rfl (fun c285_357 c285_357i => ?_) (fun c285_357 c285_357i => ?_)
              · exact absurd c285_357 (by decide)
              refine G.iconst C (v := (1 : Int32)) at_288 (by decide) (n := 289) rfl ?_
              refine G.goto C at_289 (by decide) (n := 293) (by decide) ?_
              refine G.ireturn C at_293 (rfl) (by simp) (by decide) (by decide) ?_
              intro vm' hWm
              exact rfl
            · refine G.iload C at_203 rfl (n := 205) rfl ?_
              refine G.iconst C (v := (2 : Int32)) at_205 (by decide) (n := 206) rfl ?_
              refine G.icmp_lt C (A := v3.toInt) (B := 2) rfl (by decide) at_206 (by decide) (by decide) (n := 209) (n' := 216) rfl (fun c206_358 => ?_) (fun c206_358 => ?_)
              · refine G.iconst C (v := (1 : Int32)) at_216 (by decide) (n := 217) rfl ?_
                refine G.goto C at_217 (by decide) (n := 221) (by decide) ?_
                refine G.istore C at_221 (l' := #[.val (.int i0), .val (.int i1), .val (.int i2), .val (.int v1), .val (.int v2), .val (.int v3), .val (.int v4), .val (.int z6_s0), .val (.int v7), .val (.int v8), .val (.int v9), .val (.int z11_s0), .val (.int z13_s0), .val (.ref x179), .val (.ref x190), .val (.ref b206), .val (.ref b237), .val (.ref b237), .val (.int (1 : Int32))]) rfl (n := 223) rfl ?_
                refine G.goto C at_223 (by decide) (n := 266) (by decide) ?_
                refine G.aload C at_266 rfl rfl (n := 268) rfl ?_
                refine G.aload C at_268 rfl rfl (n := 270) rfl ?_
                refine G.callV C (argsL := [(.ref b237)]) (yr := (⟨"com/example/portcullis/portcullis/Principal", "equals", "(Ljava/lang/Object;)Z"⟩ : MethodName)) (yc := (⟨"com/example/portcullis/portcullis/Principal", "equals", "(Ljava/lang/Object;)Z"⟩ : MethodName)) (a := b206) (O267.1) (wd hw 48 rfl) (wd hw 49 rfl) (nfS (wd hw 51 rfl) rfl) (wd hw 51 rfl) (wd hw 50 rfl) (wd hw 28 rfl) (wd hw 52 rfl) (by decide) (m_ppq l Z a0 hw (fun _ => True) stabT b206 (kdf u0 u1 u2 u3 u4 v1) x179 b237 (kdf u0 u1 u2 u3 u4 v2) x190 bx180 bx191 _ _ cs h262 n0 Z269 OL268 S_c q_cs O267 O260 O263 O265 O264 O266 ne198) (fun vm' hW => stabT s vm' hW Js) rfl (by decide) (W := 0) rfl (by decide) (c' := 9) (s' := 20) rfl rfl (by decide) (by decide) at_270 (n := 273) rfl pd7 rfl rfl ?_
                rintro s C _ _ ⟨⟨r359, rfl, hr360, rfl⟩, Js⟩
                refine G.iload C at_273 rfl (n := 275) rfl ?_
                refine G.icmp_ne C (A := r359.toInt) (B := 1) rfl (by decide) at_275 (by decide) (by decide) (n := 278) (n' := 292) rfl (fun c275_363 c275_363i => ?_) (fun c275_363 c275_363i => ?_)
                · exact absurd (res1 hr360 (res_iff hdk K_a K_b L_a L_b R_a0 R_b0 R_a1 R_b1) (by refine ⟨?_, ?_, ?_, ?_⟩ <;> first | assumption | exact Or.inl (by first | omega | decide) | exact Or.inr (by assumption))) c275_363
                refine G.aload C at_278 rfl rfl (n := 280) rfl ?_
                refine G.aload C at_280 rfl rfl (n := 282) rfl ?_
                refine G.callV C (argsL := [(.ref b206)]) (yr := (⟨"com/example/portcullis/portcullis/Principal", "equals", "(Ljava/lang/Object;)Z"⟩ : MethodName)) (yc := (⟨"com/example/portcullis/portcullis/Principal", "equals", "(Ljava/lang/Object;)Z"⟩ : MethodName)) (a := b206) (O267.1) (wd hw 48 rfl) (wd hw 49 rfl) (nfS (wd hw 51 rfl) rfl) (wd hw 51 rfl) (wd hw 50 rfl) (wd hw 28 rfl) (wd hw 52 rfl) (by decide) (m_pxx l Z a0 hw (fun _ => True) stabT b206 (kdf u0 u1 u2 u3 u4 v1) x179 bx180 h262 n0 Z269 O267 O263) (fun vm' hW => stabT s vm' hW Js) rfl (by decide) (W := 0) rfl (by decide) (c' := 9) (s' := 20) rfl rfl (by decide) (by decide) at_282 (n := 285) rfl pd7 rfl rfl ?_
                rintro s C _ _ ⟨⟨rfl, rfl⟩, Js⟩
                refine G.if_eq C (A := 1) (by decide) at_285 (by decide) (by decide) (n := 288) (n' := 292) rfl (fun c285_366 c285_366i => ?_) (fun c285_366 c285_366i => ?_)
                · exact absurd c285_366 (by decide)
                refine G.iconst C (v := (1 : Int32)) at_288 (by decide) (n := 289) rfl ?_
                refine G.goto C at_289 (by decide) (n := 293) (by decide) ?_
                refine G.ireturn C at_293 (rfl) (by simp) (by decide) (by decide) ?_
                intro vm' hWm
                exact rfl
              · refine G.iload C at_209 rfl (n := 211) rfl ?_
                refine G.iload C at_211 rfl (n := 213) rfl ?_
                refine G.icmp_ne C (A := v9.toInt) (B := z13_s0.toInt) rfl rfl at_213 (by decide) (by decide) (n := 216) (n' := 220) rfl (fun c213_367 c213_367i => ?_) (fun c213_367 c213_367i => ?_)
                · refine G.iconst C (v := (0 : Int32)) at_220 (by decide) (n := 221) rfl ?_
                  refine G.istore C at_221 (l' := #[.val (.int i0), .val (.int i1), .val (.int i2), .val (.int v1), .val (.int v2), .val (.int v3), .val (.int v4), .val (.int z6_s0), .val (.int v7), .val (.int v8), .val (.int v9), .val (.int z11_s0), .val (.int z13_s0), .val (.ref x179), .val (.ref x190), .val (.ref b206), .val (.ref b237), .val (.ref b237), .val (.int (0 : Int32))]) rfl (n := 223) rfl ?_
                  refine G.goto C at_223 (by decide) (n := 266) (by decide) ?_
                  refine G.aload C at_266 rfl rfl (n := 268) rfl ?_
                  refine G.aload C at_268 rfl rfl (n := 270) rfl ?_
                  refine G.callV C (argsL := [(.ref b237)]) (yr := (⟨"com/example/portcullis/portcullis/Principal", "equals", "(Ljava/lang/Object;)Z"⟩ : MethodName)) (yc := (⟨"com/example/portcullis/portcullis/Principal", "equals", "(Ljava/lang/Object;)Z"⟩ : MethodName)) (a := b206) (O267.1) (wd hw 48 rfl) (wd hw 49 rfl) (nfS (wd hw 51 rfl) rfl) (wd hw 51 rfl) (wd hw 50 rfl) (wd hw 28 rfl) (wd hw 52 rfl) (by decide) (m_ppq l Z a0 hw (fun _ => True) stabT b206 (kdf u0 u1 u2 u3 u4 v1) x179 b237 (kdf u0 u1 u2 u3 u4 v2) x190 bx180 bx191 _ _ cs h262 n0 Z269 OL268 S_c q_cs O267 O260 O263 O265 O264 O266 ne198) (fun vm' hW => stabT s vm' hW Js) rfl (by decide) (W := 0) rfl (by decide) (c' := 9) (s' := 20) rfl rfl (by decide) (by decide) at_270 (n := 273) rfl pd7 rfl rfl ?_
                  rintro s C _ _ ⟨⟨r368, rfl, hr369, rfl⟩, Js⟩
                  refine G.iload C at_273 rfl (n := 275) rfl ?_
                  refine G.icmp_ne C (A := r368.toInt) (B := 0) rfl (by decide) at_275 (by decide) (by decide) (n := 278) (n' := 292) rfl (fun c275_372 c275_372i => ?_) (fun c275_372 c275_372i => ?_)
                  · exact absurd (res0 hr369 (res_iff hdk K_a K_b L_a L_b R_a0 R_b0 R_a1 R_b1) (by rintro ⟨e1, e2, e3, e4⟩; first | contradiction | (rcases e3 with e3 | e3 <;> first | omega | contradiction) | (rcases e4 with e4 | e4 <;> first | omega | contradiction))) c275_372
                  refine G.aload C at_278 rfl rfl (n := 280) rfl ?_
                  refine G.aload C at_280 rfl rfl (n := 282) rfl ?_
                  refine G.callV C (argsL := [(.ref b206)]) (yr := (⟨"com/example/portcullis/portcullis/Principal", "equals", "(Ljava/lang/Object;)Z"⟩ : MethodName)) (yc := (⟨"com/example/portcullis/portcullis/Principal", "equals", "(Ljava/lang/Object;)Z"⟩ : MethodName)) (a := b206) (O267.1) (wd hw 48 rfl) (wd hw 49 rfl) (nfS (wd hw 51 rfl) rfl) (wd hw 51 rfl) (wd hw 50 rfl) (wd hw 28 rfl) (wd hw 52 rfl) (by decide) (m_pxx l Z a0 hw (fun _ => True) stabT b206 (kdf u0 u1 u2 u3 u4 v1) x179 bx180 h262 n0 Z269 O267 O263) (fun vm' hW => stabT s vm' hW Js) rfl (by decide) (W := 0) rfl (by decide) (c' := 9) (s' := 20) rfl rfl (by decide) (by decide) at_282 (n := 285) rfl pd7 rfl rfl ?_
                  rintro s C _ _ ⟨⟨rfl, rfl⟩, Js⟩
                  refine G.if_eq C (A := 1) (by decide) at_285 (by decide) (by decide) (n := 288) (n' := 292) rfl (fun c285_375 c285_375i => ?_) (fun c285_375 c285_375i => ?_)
                  · exact absurd c285_375 (by decide)
                  refine G.iconst C (v := (1 : Int32)) at_288 (by decide) (n := 289) rfl ?_
                  refine G.goto C at_289 (by decide) (n := 293) (by decide) ?_
                  refine G.ireturn C at_293 (rfl) (by simp) (by decide) (by decide) ?_
                  intro vm' hWm
                  exact rfl
                · refine G.iconst C (v := (1 : Int32)) at_216 (by decide) (n := 217) rfl ?_
                  refine G.goto C at_217 (by decide) (n := 221) (by decide) ?_
                  refine G.istore C at_221 (l' := #[.val (.int i0), .val (.int i1), .val (.int i2), .val (.int v1), .val (.int v2), .val (.int v3), .val (.int v4), .val (.int z6_s0), .val (.int v7), .val (.int v8), .val (.int v9), .val (.int z11_s0), .val (.int z13_s0), .val (.ref x179), .val (.ref x190), .val (.ref b206), .val (.ref b237), .val (.ref b237), .val (.int (1 : Int32))]) rfl (n := 223) rfl ?_
                  refine G.goto C at_223 (by decide) (n := 266) (by decide) ?_
                  refine G.aload C at_266 rfl rfl (n := 268) rfl ?_
                  refine G.aload C at_268 rfl rfl (n := 270) rfl ?_
                  refine G.callV C (argsL := [(.ref b237)]) (yr := (⟨"com/example/portcullis/portcullis/Principal", "equals", "(Ljava/lang/Object;)Z"⟩ : MethodName)) (yc := (⟨"com/example/portcullis/portcullis/Principal", "equals", "(Ljava/lang/Object;)Z"⟩ : MethodName)) (a := b206) (O267.1) (wd hw 48 rfl) (wd hw 49 rfl) (nfS (wd hw 51 rfl) rfl) (wd hw 51 rfl) (wd hw 50 rfl) (wd hw 28 rfl) (wd hw 52 rfl) (by decide) (m_ppq l Z a0 hw (fun _ => True) stabT b206 (kdf u0 u1 u2 u3 u4 v1) x179 b237 (kdf u0 u1 u2 u3 u4 v2) x190 bx180 bx191 _ _ cs h262 n0 Z269 OL268 S_c q_cs O267 O260 O263 O265 O264 O266 ne198) (fun vm' hW => stabT s vm' hW Js) rfl (by decide) (W := 0) rfl (by decide) (c' := 9) (s' := 20) rfl rfl (by decide) (by decide) at_270 (n := 273) rfl pd7 rfl rfl ?_
                  rintro s C _ _ ⟨⟨r376, rfl, hr377, rfl⟩, Js⟩
                  refine G.iload C at_273 rfl (n := 275) rfl ?_
                  refine G.icmp_ne C (A := r376.toInt) (B := 1) rfl (by decide) at_275 (by decide) (by decide) (n := 278) (n' := 292) rfl (fun c275_380 c275_380i => ?_) (fun c275_380 c275_380i => ?_)
                  · exact absurd (res1 hr377 (res_iff hdk K_a K_b L_a L_b R_a0 R_b0 R_a1 R_b1) (by refine ⟨?_, ?_, ?_, ?_⟩ <;> first | assumption | exact Or.inl (by first | omega | decide) | exact Or.inr (by assumption))) c275_380
                  refine G.aload C at_278 rfl rfl (n := 280) rfl ?_
                  refine G.aload C at_280 rfl rfl (n := 282) rfl ?_
                  refine G.callV C (argsL := [(.ref b206)]) (yr := (⟨"com/example/portcullis/portcullis/Principal", "equals", "(Ljava/lang/Object;)Z"⟩ : MethodName)) (yc := (⟨"com/example/portcullis/portcullis/Principal", "equals", "(Ljava/lang/Object;)Z"⟩ : MethodName)) (a := b206) (O267.1) (wd hw 48 rfl) (wd hw 49 rfl) (nfS (wd hw 51 rfl) rfl) (wd hw 51 rfl) (wd hw 50 rfl) (wd hw 28 rfl) (wd hw 52 rfl) (by decide) (m_pxx l Z a0 hw (fun _ => True) stabT b206 (kdf u0 u1 u2 u3 u4 v1) x179 bx180 h262 n0 Z269 O267 O263) (fun vm' hW => stabT s vm' hW Js) rfl (by decide) (W := 0) rfl (by decide) (c' := 9) (s' := 20) rfl rfl (by decide) (by decide) at_282 (n := 285) rfl pd7 rfl rfl ?_
                  rintro s C _ _ ⟨⟨rfl, rfl⟩, Js⟩
                  refine G.if_eq C (A := 1) (by decide) at_285 (by decide) (by decide) (n := 288) (n' := 292) rfl (fun c285_383 c285_383i => ?_) (fun c285_383 c285_383i => ?_)
                  · exact absurd c285_383 (by decide)
                  refine G.iconst C (v := (1 : Int32)) at_288 (by decide) (n := 289) rfl ?_
                  refine G.goto C at_289 (by decide) (n := 293) (by decide) ?_
                  refine G.ireturn C at_293 (rfl) (by simp) (by decide) (by decide) ?_
                  intro vm' hWm
                  exact rfl
theorem hasL_of {c : Cell} : ∀ (vs : List Value) (i : Nat), (∀ j, j < vs.length → c.slots[i + j]? = vs[j]?) → HasL c i vs
  | [], _, _ => trivial
  | v :: r, i, H => ⟨by have := H 0 (by simp); simpa using this, hasL_of r (i + 1) fun j hj => by
      have := H (j + 1) (by simp only [List.length_cons]; omega)
      rw [show i + 1 + j = i + (j + 1) by omega]; simpa using this⟩
theorem hasL_all (c : Cell) : HasL c 0 c.slots.toList := hasL_of _ 0 fun j hj => by rw [Nat.zero_add, Array.getElem?_toList]
theorem sizeN {cl : Cell} {z : Int32} {n : Nat} (q : cl.slots.size < 2 ^ 31 ∧ cl.slots.size.toInt32 = z) (hz : z.toInt = n) : cl.slots.size = n := by
  have h := congrArg Int32.toInt q.2
  rw [show cl.slots.size.toInt32.toInt = cl.slots.size from Int32.toInt_ofNat_of_lt q.1, hz] at h
  omega
theorem cache_at {s : State} {args : Array Value} {C0 n d K : String} {a : Addr} {cl : Cell} {B : Jvm.Cond} (ea : (Term.static C0 n d).eval args s none [] s = some (.ref a)) (A : Arr s s.heap a cl (.object K)) (hz : cl.slots.size = 256)
    (h : (Jvm.Cond.all (Term.static C0 n d) (Jvm.Cond.and (Jvm.Cond.exactly (Term.elem (Term.static C0 n d) (Term.index 0)) K) B)).value args s none s [] = some true) (k : Nat) (hk : k < 256) : ∃ x, cl.slots.toList[k]? = some (.ref x) ∧ Exa s s.heap x K := by
  have e1 := Cond.all_elim ea (A.fin (Vm.Alike.refl _)) h k (by omega)
  obtain ⟨r1, -⟩ := and_e e1
  obtain ⟨x, hx⟩ := exa_v r1
  have E := exa_at hx r1
  have hj : (Int32.ofNat k).toInt = k := Int32.toInt_ofNat_of_lt (by omega)
  have hjn : (Int32.ofNat k).toNatClampNeg = k := by rw [nat_clamp, hj]; rfl
  have nn : ¬ (Int32.ofNat k) < 0 := not_neg (by omega)
  have i1 : (Term.index 0).eval args s none [k] s = some (.int (Int32.ofNat k)) := by
    have := idx_at (args := args) (s := s) (first := s) (o := none) nn
    rw [hjn] at this; exact this
  rw [elem_f (show (Term.static C0 n d).eval args s none [k] s = some (.ref a) from ea) i1 (A.fin (Vm.Alike.refl _)) nn, hjn] at hx
  exact ⟨x, by rw [Array.getElem?_toList]; exact hx, E⟩
theorem fld_ne {s : State} {args : Array Value} {t u : Term} {a b : Addr} {C0 n d : String} {x y : Int32} (ht : t.eval args s none [] s = some (.ref a)) (hu : u.eval args s none [] s = some (.ref b)) (h1 : (Jvm.Cond.eq (Term.field t C0 n d) (Term.int x)).value args s none s [] = some true) (h2 : (Jvm.Cond.eq (Term.field u C0 n d) (Term.int y)).value args s none s [] = some true) (hn : x ≠ y) : a ≠ b := fun e => by
  subst e
  have q1 := eqv_i (Term.int_eval x) h1
  have q2 := eqv_i (Term.int_eval y) h2
  have q3 : (Term.field t C0 n d).eval args s none [] s = (Term.field u C0 n d).eval args s none [] s := by simp only [Term.eval, ht, hu]
  rw [q1, q2] at q3
  exact hn (by injection q3 with q; injection q)
theorem not_z {s : State} {args : Array Value} {t : Term} {x : Int32} (ht : t.eval args s none [] s = some (.int x)) (h : (Jvm.Cond.not (Jvm.Cond.eq t (Term.int 0))).value args s none s [] = some true) : x ≠ 0 := fun e => by
  subst e
  simp [Cond.value, Term.eval, ht] at h
set_option maxRecDepth 65536 in
set_option maxHeartbeats 40000000 in
theorem comes_1 {Post : Tables → Env → Array Value → State → Outcome → State → Prop} (hpost : ∀ tb e args s v u, (limb_1_1.after args s (.returned v) u = true ∧ limb_1_2.after args s (.returned v) u = true ∧ True) → ReturnedEndW s (.returned v) u (Jvm.fieldLocs frame_1_writes args s ++ Jvm.arrayLocs frame_1_arrays args s ++ Jvm.staticLocs frame_1_statics s) 32 1152 → Post tb e args s (.returned v) u) :
    ArmFor flags0 classFile x code maxLocals ret World_1 tables_1 room_1 Calls_1 rest_1 Pre_1 Post := by
  intro l hfl _ _ p e ha hc hk s m args below hf hA hF happ hP
  obtain ⟨hcalls, hrest, hpre⟩ := hP
  obtain ⟨-, -, -, hnamed, -, -, -, hat⟩ := (Spec.applies_iff hf).mp happ
  obtain ⟨hg, hn⟩ := and_e (Cond.before_iff.mp (show (Jvm.Cond.and given_1 narrow_1).before args s = true from hpre))
  obtain ⟨k1, k2⟩ := and_e hg
  obtain ⟨w0, w1, w2, rfl⟩ : ∃ w0 w1 w2 : Value, args = #[w0, w1, w2] := by
    have hs : args.size = 3 := by simpa [Cond.value, given_1] using k1
    obtain ⟨L⟩ := args
    match L, hs with
    | [w0, w1, w2], _ => exact ⟨w0, w1, w2, rfl⟩
  have hw := fun d (hd : d ∈ tables_1) => atoms_spec (ws := Jvm.Cond.code x code maxLocals ret :: tables_1) hat d (List.mem_cons_of_mem _ hd)
  have hfit : Fit s := fun {y c} hc i hi => by
    obtain ⟨ha, rfl⟩ := Array.getElem?_eq_some_iff.mp hc
    have q := List.all_eq_true.mp ((Array.all_eq_true_iff_forall_mem.mp hF) _ (Array.getElem_mem ha)) i (List.mem_range.mpr hi)
    simpa [Array.getElem?_eq_getElem hi] using q
  obtain ⟨u0, k2⟩ := and_e k2
  obtain ⟨i0, e0⟩ := is_v u0
  obtain rfl : w0 = (.int i0) := Option.some.inj e0
  obtain ⟨u1, k2⟩ := and_e k2
  obtain ⟨i1, e1⟩ := is_v u1
  obtain rfl : w1 = (.int i1) := Option.some.inj e1
  have u2 := k2
  obtain ⟨i2, e2⟩ := is_v u2
  obtain rfl : w2 = (.int i2) := Option.some.inj e2
  have hr := Cond.before_iff.mp (show rest_1_c.before _ s = true from hrest)
  obtain ⟨r_0, hr⟩ := and_e hr
  obtain ⟨r_1, hr⟩ := and_e hr
  obtain ⟨r_2, hr⟩ := and_e hr
  obtain ⟨r_3, hr⟩ := and_e hr
  obtain ⟨r_4, hr⟩ := and_e hr
  obtain ⟨r_5, hr⟩ := and_e hr
  obtain ⟨r_6, hr⟩ := and_e hr
  obtain ⟨r_7, hr⟩ := and_e hr
  obtain ⟨r_8, hr⟩ := and_e hr
  obtain ⟨r_9, hr⟩ := and_e hr
  obtain ⟨r_10, hr⟩ := and_e hr
  obtain ⟨r_11, hr⟩ := and_e hr
  obtain ⟨r_12, hr⟩ := and_e hr
  obtain ⟨r_13, hr⟩ := and_e hr
  obtain ⟨r_14, hr⟩ := and_e hr
  obtain ⟨r_15, hr⟩ := and_e hr
  obtain ⟨r_16, hr⟩ := and_e hr
  obtain ⟨cs, tc⟩ := is_v r_1
  have S_c := Sta.start tc (Or.inl (Cond.before_iff.mpr r_0))
  have q_cs := not_z tc r_2
  have th := eqv_i (Term.int_eval 127) r_12
  have S_h := Sta.start th (Or.inl (Cond.before_iff.mpr r_10))
  obtain ⟨ic, eb⟩ := arr_v r_13
  obtain ⟨cL, AL⟩ := Arr.start eb r_13
  have S_i := Sta.start eb (Or.inr ⟨wd hw 87 rfl, Cond.before_iff.mpr r_11⟩)
  have qL := len_q eb (AL.fin (Vm.Alike.refl _)) (eqv_i (Term.int_eval 256) r_15)
  have zL := sizeN (n := 256) qL rfl
  have O_ic : Refs s s.heap ic (.object "java/lang/Integer") cL.slots.toList := Refs.start hfit AL qL (by rw [Array.length_toList, zL]; rfl) (hasL_all cL)
  have h7 := hcalls.1 ("java/lang/String", 7) (List.mem_singleton.mpr rfl)
  have hh : Jvm.Lit.constHeld s "java/lang/String" 7 := fun c k cf i units a h1 h2 h3 h4 h5 h6 h8 h9 => h7 c k cf i units a h1 h2 h3 h4 h5 h6 h8 h9
  have hcw : Jvm.Lit.compactW.before #[Value.int i0, Value.int i1, Value.int i2] s = true := Cond.before_iff.mpr r_2
  obtain ⟨k_0, hn⟩ := and_e hn
  obtain ⟨k_1, hn⟩ := and_e hn
  obtain ⟨k_2, hn⟩ := and_e hn
  obtain ⟨k_3, hn⟩ := and_e hn
  obtain ⟨k_4, hn⟩ := and_e hn
  obtain ⟨k_5, hn⟩ := and_e hn
  obtain ⟨k_6, hn⟩ := and_e hn
  obtain ⟨k_7, hn⟩ := and_e hn
  obtain ⟨k_8, hn⟩ := and_e hn
  have k_9 := hn
  obtain ⟨u0, t_0⟩ := exa_v k_0
  have S_0 := Sta.start t_0 (Or.inr ⟨wd hw 33 rfl, wd hw 34 rfl⟩)
  obtain ⟨u1, t_1⟩ := exa_v k_1
  have S_1 := Sta.start t_1 (Or.inr ⟨wd hw 33 rfl, wd hw 67 rfl⟩)
  obtain ⟨u2, t_2⟩ := exa_v k_5
  have S_2 := Sta.start t_2 (Or.inr ⟨wd hw 33 rfl, wd hw 81 rfl⟩)
  obtain ⟨u3, t_3⟩ := exa_v k_7
  have S_3 := Sta.start t_3 (Or.inr ⟨wd hw 33 rfl, wd hw 93 rfl⟩)
  obtain ⟨u4, t_4⟩ := exa_v k_4
  have S_4 := Sta.start t_4 (Or.inr ⟨wd hw 33 rfl, wd hw 79 rfl⟩)
  have hdk : Dis u0 u1 u2 u3 u4 := ⟨fld_ne t_0 t_1 k_3 k_2 (by decide), fld_ne t_0 t_2 k_3 k_6 (by decide), fld_ne t_0 t_3 k_3 k_8 (by decide), fld_ne t_0 t_4 k_3 k_9 (by decide), fld_ne t_1 t_2 k_2 k_6 (by decide), fld_ne t_1 t_3 k_2 k_8 (by decide), fld_ne t_1 t_4 k_2 k_9 (by decide), fld_ne t_2 t_3 k_6 k_8 (by decide), fld_ne t_2 t_4 k_6 k_9 (by decide), fld_ne t_3 t_4 k_8 k_9 (by decide)⟩
  obtain ⟨n, o, h1, h2, h3, _, L, rfl, ⟨N, rfl⟩, hq⟩ := m_law l s _ hw i0 i1 i2 u0 u1 u2 u3 u4 cs ic cL.slots.toList s.heap s.heap.size (Nat.le_refl _) (Old.start s) S_c q_cs S_0 S_1 S_2 S_3 S_4 hdk S_h S_i O_ic (cache_at eb AL zL r_16) hh hcw tables_1 p e ha hc hk s m _ below hf ((Spec.applies_iff_loose hf).mp happ).1 ⟨rfl, State.Warmed39.refl s, rfl, IB.start⟩ trivial
  refine ⟨n, _, h1, h2, h3, hpost _ _ _ _ _ _ ⟨Cond.after_iff.mpr rfl, Cond.after_iff.mpr (eq_i res_at (Term.int_eval (1)) rfl), trivial⟩ ⟨hq.1, hq.2.1, hq.2.2.1, (hq.2.2.2.sift fun y hy => Or.inr (N y hy)).mono (by decide) (by decide)⟩⟩
theorem main_1_1 : Claimed_1_1 := comes_1 fun _ _ _ _ _ _ h hF => ⟨h.1, hF⟩
theorem main_1_2 : Claimed_1_2 := comes_1 fun _ _ _ _ _ _ h hF => ⟨h.2.1, hF⟩
end Jvm.Pilot.@@N@@
namespace Jvm.Pilot.@@N@@
open Jvm Jvm.ClassFile Sem Op Lib Jvm.Free Jvm.Stand Jvm.Pilot.@@N@@.Jvm.D
/-! MADE BY PROGRAM (witnessworld.py) out of the Statement's table words and the real class files: 27 classes; the members and pool entries that the words name. The judged class is class 1, her method 3. -/
namespace start1
open Jvm.ClassFile
def u (s : String) : CpInfo := .utf8 (stringToUtf16 s)
/-- a pool by its gaps: so many unusable entries, then the entry; so many at the end -/
def gap : Nat → List CpInfo → List CpInfo
  | 0, r => r
  | n + 1, r => .unusable :: gap n r
def poolList (es : List (Nat × CpInfo)) (last : Nat) : List CpInfo := es.foldr (fun e r => gap e.1 (e.2 :: r)) (gap last [])
def pool (es : List (Nat × CpInfo)) (last : Nat) : Array CpInfo := ⟨poolList es last⟩
def fileOf (pool : Array CpInfo) (this : Nat) (attrs : Array Attribute := #[]) (ms : Array MethodInfo := #[]) (fl : Nat := 33) (sup : Nat := 0) (ifs : Array Nat := #[]) (fds : Array FieldInfo := #[]) : ClassFile where
  minorVersion := 0
  majorVersion := 65
  constantPool := pool
  accessFlags := fl
  thisClass := this
  superClass := sup
  interfaces := ifs
  fields := fds
  methods := ms
  attributes := attrs
def plain (name : String) (sup : Option ClassId) : Class where
  name := name
  kind := .ordinary
  loader := none
  accessFlags := 33
  super := sup
  interfaces := #[]
  cf := none
  fields := #[]
  methods := #[]
  instanceTypes := #[]
  staticTypes := #[]
  resolved := #[]
  callSites := []
  init := .initialized
  statics := none
  mirror := none

def pool0 : Array CpInfo := pool [(5, u "<init>"), (0, u "()V"), (1, .class_ 10), (1, u "java/lang/Object")] 113

def k0c0 : Code := { maxStack := 0, maxLocals := 1, code := object_method_1_code, exceptionTable := #[], attributes := #[] }
def k0m0 : Method := { name := "<init>", desc := "()V", sig := { parameters := [], returnType := none }, accessFlags := 1, code := some k0c0 }
/-- java/lang/Object -/
def k0 : Class := { plain "java/lang/Object" none with
  accessFlags := 33
  interfaces := #[]
  cf := some (fileOf pool0 8 #[] #[{ accessFlags := 1, nameIndex := 5, descriptorIndex := 6, attributes := #[] }] 33 0 #[] #[])
  fields := #[]
  methods := #[k0m0]
  instanceTypes := #[]
  staticTypes := #[]
  resolved := Array.replicate 124 none
  statics := none }

def pool1 : Array CpInfo := pool [(2, .class_ 4), (1, u "java/lang/Object"), (0, u "<init>"), (0, u "()V"), (0, .fieldref 8 9), (0, .class_ 10), (0, .nameAndType 11 12), (0, u "com/example/portcullis/portcullis/Principal$Kind"), (0, u "USER"), (0, u "Lcom/example/portcullis/portcullis/Principal$Kind;"), (0, .fieldref 8 14), (0, .nameAndType 15 12), (0, u "GROUP"), (0, .fieldref 8 17), (0, .nameAndType 18 12), (0, u "ROLE"), (0, .fieldref 8 20), (0, .nameAndType 21 12), (0, u "EVERYONE"), (0, .fieldref 8 23), (0, .nameAndType 24 12), (0, u "ANONYMOUS"), (0, .class_ 26), (0, u "java/lang/String"), (0, .methodref 25 28), (0, .nameAndType 5 29), (0, u "([C)V"), (0, .methodref 31 32), (0, .class_ 33), (0, .nameAndType 34 35), (0, u "com/example/portcullis/portcullis/PrincipalEqualsPinLaw"), (0, u "nameOf"), (0, u "(III)Ljava/lang/String;"), (0, .class_ 37), (0, u "com/example/portcullis/portcullis/Principal"), (0, .methodref 31 39), (0, .nameAndType 40 41), (0, u "kindOf"), (0, u "(I)Lcom/example/portcullis/portcullis/Principal$Kind;"), (0, .methodref 36 43), (0, .nameAndType 5 44), (0, u "(Lcom/example/portcullis/portcullis/Principal$Kind;Ljava/lang/String;)V"), (0, .methodref 46 47), (0, .class_ 48), (0, .nameAndType 49 50), (0, u "java/lang/Integer"), (0, u "valueOf"), (0, u "(I)Ljava/lang/Integer;"), (0, .methodref 36 52), (0, .nameAndType 53 54), (0, u "equals"), (0, u "(Ljava/lang/Object;)Z"), (3, u "law"), (0, u "(III)Z")] 4

def k1m0 : Method := { name := "<init>", desc := "()V", sig := { parameters := [], returnType := none }, accessFlags := 2, code := none }
def k1c1 : Code := { maxStack := 2, maxLocals := 1, code := method_2_code, exceptionTable := #[], attributes := #[] }
def k1m1 : Method := { name := "kindOf", desc := "(I)Lcom/example/portcullis/portcullis/Principal$Kind;", sig := { parameters := [.int], returnType := some (.object "com/example/portcullis/portcullis/Principal$Kind") }, accessFlags := 10, code := some k1c1 }
def k1c2 : Code := { maxStack := 3, maxLocals := 4, code := method_3_code, exceptionTable := #[], attributes := #[] }
def k1m2 : Method := { name := "nameOf", desc := "(III)Ljava/lang/String;", sig := { parameters := [.int, .int, .int], returnType := some (.object "java/lang/String") }, accessFlags := 10, code := some k1c2 }
def k1c3 : Code := { maxStack := 4, maxLocals := 19, code := code, exceptionTable := #[], attributes := #[] }
def k1m3 : Method := { name := "law", desc := "(III)Z", sig := { parameters := [.int, .int, .int], returnType := some .boolean }, accessFlags := 9, code := some k1c3 }
/-- com/example/portcullis/portcullis/PrincipalEqualsPinLaw -/
def k1 : Class := { plain "com/example/portcullis/portcullis/PrincipalEqualsPinLaw" (some 0) with
  accessFlags := 49
  interfaces := #[]
  cf := some (fileOf pool1 31 #[] #[{ accessFlags := 2, nameIndex := 5, descriptorIndex := 6, attributes := #[] }, { accessFlags := 10, nameIndex := 40, descriptorIndex := 41, attributes := #[] }, { accessFlags := 10, nameIndex := 34, descriptorIndex := 35, attributes := #[] }, { accessFlags := 9, nameIndex := 58, descriptorIndex := 59, attributes := #[] }] 49 2 #[] #[])
  fields := #[]
  methods := #[k1m0, k1m1, k1m2, k1m3]
  instanceTypes := #[]
  staticTypes := #[]
  resolved := Array.replicate 64 none
  statics := none }

def pool2 : Array CpInfo := pool [(1, .class_ 2), (0, u "java/io/Serializable"), (0, .class_ 4), (0, u "java/lang/Object")] 2

/-- java/io/Serializable -/
def k2 : Class := { plain "java/io/Serializable" (some 0) with
  accessFlags := 1537
  interfaces := #[]
  cf := some (fileOf pool2 1 #[] #[] 1537 3 #[] #[])
  fields := #[]
  methods := #[]
  instanceTypes := #[]
  staticTypes := #[]
  resolved := Array.replicate 7 none
  statics := none }

def pool3 : Array CpInfo := pool [(1, .class_ 2), (0, u "java/lang/Comparable"), (0, .class_ 4), (0, u "java/lang/Object")] 7

/-- java/lang/Comparable -/
def k3 : Class := { plain "java/lang/Comparable" (some 0) with
  accessFlags := 1537
  interfaces := #[]
  cf := some (fileOf pool3 1 #[] #[] 1537 3 #[] #[])
  fields := #[]
  methods := #[]
  instanceTypes := #[]
  staticTypes := #[]
  resolved := Array.replicate 12 none
  statics := none }

def pool4 : Array CpInfo := pool [(2, .class_ 4), (1, u "java/lang/CharSequence"), (42, .class_ 48), (0, u "java/lang/CharSequence$1CodePointIterator"), (10, .class_ 60), (0, u "java/lang/CharSequence$1CharIterator"), (5, .class_ 67), (0, u "java/lang/Object")] 63

/-- java/lang/CharSequence -/
def k4 : Class := { plain "java/lang/CharSequence" (some 0) with
  accessFlags := 1537
  interfaces := #[]
  cf := some (fileOf pool4 2 #[.nestMembers #[47, 59]] #[] 1537 66 #[] #[])
  fields := #[]
  methods := #[]
  instanceTypes := #[]
  staticTypes := #[]
  resolved := Array.replicate 131 none
  statics := none }

def pool5 : Array CpInfo := pool [(1, .class_ 2), (0, u "java/lang/constant/Constable"), (0, .class_ 4), (0, u "java/lang/Object")] 6

/-- java/lang/constant/Constable -/
def k5 : Class := { plain "java/lang/constant/Constable" (some 0) with
  accessFlags := 1537
  interfaces := #[]
  cf := some (fileOf pool5 1 #[] #[] 1537 3 #[] #[])
  fields := #[]
  methods := #[]
  instanceTypes := #[]
  staticTypes := #[]
  resolved := Array.replicate 11 none
  statics := none }

def pool6 : Array CpInfo := pool [(1, .class_ 2), (0, u "java/lang/constant/ConstantDesc"), (0, .class_ 4), (0, u "java/lang/Object")] 32

/-- java/lang/constant/ConstantDesc -/
def k6 : Class := { plain "java/lang/constant/ConstantDesc" (some 0) with
  accessFlags := 1537
  interfaces := #[]
  cf := some (fileOf pool6 1 #[] #[] 1537 3 #[] #[])
  fields := #[]
  methods := #[]
  instanceTypes := #[]
  staticTypes := #[]
  resolved := Array.replicate 37 none
  statics := none }

def pool7 : Array CpInfo := pool [(1, .methodref 2 3), (0, .class_ 4), (0, .nameAndType 5 6), (0, u "java/lang/Object"), (0, u "<init>"), (0, u "()V"), (0, .string 8), (0, u ""), (0, .fieldref 10 11), (0, .class_ 12), (0, .nameAndType 13 14), (0, u "java/lang/String"), (0, u "value"), (0, u "[B"), (0, .fieldref 10 16), (0, .nameAndType 17 18), (0, u "coder"), (0, u "B"), (2, u "hash"), (0, u "I"), (2, u "hashIsZero"), (0, u "Z"), (0, .methodref 10 28), (0, .nameAndType 5 29), (0, u "([CIILjava/lang/Void;)V"), (8, .fieldref 10 39), (0, .nameAndType 40 26), (0, u "COMPACT_STRINGS"), (1, .class_ 44), (1, u "java/lang/StringUTF16"), (0, u "compress"), (1, .methodref 42 48), (0, .nameAndType 49 50), (0, u "coderFromArrayLen"), (0, u "([BI)B"), (56, .class_ 109), (1, u "java/lang/StringLatin1"), (67, .methodref 42 178), (0, .nameAndType 45 179), (0, u "([CII)[B"), (361, .methodref 107 542), (0, .nameAndType 543 544), (0, u "equals"), (0, u "([B[B)Z"), (28, u "(Ljava/lang/Object;)Z"), (1, .class_ 576), (0, u "java/lang/CharSequence"), (22, u "CASE_INSENSITIVE_ORDER"), (0, u "Ljava/util/Comparator;"), (409, u "([C)V"), (90, u "serialPersistentFields"), (0, u "[Ljava/io/ObjectStreamField;"), (0, .class_ 1104), (0, u "java/lang/String$CaseInsensitiveComparator"), (1, .class_ 1107), (0, u "java/io/Serializable"), (0, .class_ 1109), (0, u "java/lang/Comparable"), (0, .class_ 1111), (0, u "java/lang/constant/Constable"), (0, .class_ 1113), (0, u "java/lang/constant/ConstantDesc"), (2, u "serialVersionUID"), (0, u "J"), (3, u "REPL"), (0, u "C"), (2, u "LATIN1"), (1, u "UTF16")] 323

def k7m0 : Method := { name := "<init>", desc := "()V", sig := { parameters := [], returnType := none }, accessFlags := 1, code := none }
def k7c1 : Code := { maxStack := 5, maxLocals := 2, code := jdk_42_method_3_code, exceptionTable := #[], attributes := #[] }
def k7m1 : Method := { name := "<init>", desc := "([C)V", sig := { parameters := [(.array .char)], returnType := none }, accessFlags := 1, code := some k7c1 }
def k7c2 : Code := { maxStack := 2, maxLocals := 3, code := jdk_42_method_66_code, exceptionTable := #[], attributes := #[] }
def k7m2 : Method := { name := "equals", desc := "(Ljava/lang/Object;)Z", sig := { parameters := [(.object "java/lang/Object")], returnType := some .boolean }, accessFlags := 1, code := some k7c2 }
def k7c3 : Code := { maxStack := 4, maxLocals := 6, code := jdk_42_method_149_code, exceptionTable := #[], attributes := #[] }
def k7m3 : Method := { name := "<init>", desc := "([CIILjava/lang/Void;)V", sig := { parameters := [(.array .char), .int, .int, (.object "java/lang/Void")], returnType := none }, accessFlags := 2, code := some k7c3 }
/-- java/lang/String -/
def k7 : Class := { plain "java/lang/String" (some 0) with
  accessFlags := 49
  interfaces := #[2, 3, 4, 5, 6]
  cf := some (fileOf pool7 10 #[.nestMembers #[1103]] #[{ accessFlags := 1, nameIndex := 5, descriptorIndex := 6, attributes := #[] }, { accessFlags := 1, nameIndex := 5, descriptorIndex := 1010, attributes := #[] }, { accessFlags := 1, nameIndex := 543, descriptorIndex := 573, attributes := #[] }, { accessFlags := 2, nameIndex := 5, descriptorIndex := 29, attributes := #[] }] 49 2 #[1106, 1108, 575, 1110, 1112] #[{ accessFlags := 18, nameIndex := 13, descriptorIndex := 14, attributes := #[] }, { accessFlags := 18, nameIndex := 17, descriptorIndex := 18, attributes := #[] }, { accessFlags := 2, nameIndex := 21, descriptorIndex := 22, attributes := #[] }, { accessFlags := 2, nameIndex := 25, descriptorIndex := 26, attributes := #[] }, { accessFlags := 26, nameIndex := 1116, descriptorIndex := 1117, attributes := #[] }, { accessFlags := 24, nameIndex := 40, descriptorIndex := 26, attributes := #[] }, { accessFlags := 26, nameIndex := 1101, descriptorIndex := 1102, attributes := #[] }, { accessFlags := 26, nameIndex := 1121, descriptorIndex := 1122, attributes := #[] }, { accessFlags := 25, nameIndex := 599, descriptorIndex := 600, attributes := #[] }, { accessFlags := 24, nameIndex := 1125, descriptorIndex := 18, attributes := #[] }, { accessFlags := 24, nameIndex := 1127, descriptorIndex := 18, attributes := #[] }])
  fields := #[{ name := "value", type := (.array .byte), accessFlags := 18, slot := 0, constantValue := 0 }, { name := "coder", type := .byte, accessFlags := 18, slot := 1, constantValue := 0 }, { name := "hash", type := .int, accessFlags := 2, slot := 2, constantValue := 0 }, { name := "hashIsZero", type := .boolean, accessFlags := 2, slot := 3, constantValue := 0 }, { name := "serialVersionUID", type := .long, accessFlags := 26, slot := 0, constantValue := 0 }, { name := "COMPACT_STRINGS", type := .boolean, accessFlags := 24, slot := 1, constantValue := 0 }, { name := "serialPersistentFields", type := (.array (.object "java/io/ObjectStreamField")), accessFlags := 26, slot := 2, constantValue := 0 }, { name := "REPL", type := .char, accessFlags := 26, slot := 3, constantValue := 0 }, { name := "CASE_INSENSITIVE_ORDER", type := (.object "java/util/Comparator"), accessFlags := 25, slot := 4, constantValue := 0 }, { name := "LATIN1", type := .byte, accessFlags := 24, slot := 5, constantValue := 0 }, { name := "UTF16", type := .byte, accessFlags := 24, slot := 6, constantValue := 0 }]
  methods := #[k7m0, k7m1, k7m2, k7m3]
  instanceTypes := #[(.array .byte), .byte, .int, .boolean]
  staticTypes := #[.long, .boolean, (.array (.object "java/io/ObjectStreamField")), .char, (.object "java/util/Comparator"), .byte, .byte]
  resolved := Array.replicate 1451 none
  statics := some 0 }

def pool8 : Array CpInfo := pool [(1, .methodref 2 3), (0, .class_ 4), (0, .nameAndType 5 6), (0, u "java/lang/Object"), (0, u "<init>"), (0, u "()V"), (0, .class_ 8), (0, u "java/lang/Record")] 13

def k8c0 : Code := { maxStack := 1, maxLocals := 1, code := jdk_30_method_1_code, exceptionTable := #[], attributes := #[] }
def k8m0 : Method := { name := "<init>", desc := "()V", sig := { parameters := [], returnType := none }, accessFlags := 4, code := some k8c0 }
/-- java/lang/Record -/
def k8 : Class := { plain "java/lang/Record" (some 0) with
  accessFlags := 1057
  interfaces := #[]
  cf := some (fileOf pool8 7 #[] #[{ accessFlags := 4, nameIndex := 5, descriptorIndex := 6, attributes := #[] }] 1057 2 #[] #[])
  fields := #[]
  methods := #[k8m0]
  instanceTypes := #[]
  staticTypes := #[]
  resolved := Array.replicate 22 none
  statics := none }

def pool9 : Array CpInfo := pool [(1, .methodref 2 3), (0, .class_ 4), (0, .nameAndType 5 6), (0, u "java/lang/Record"), (0, u "<init>"), (0, u "()V"), (0, .fieldref 8 9), (0, .class_ 10), (0, .nameAndType 11 12), (0, u "com/example/portcullis/portcullis/Principal"), (0, u "kind"), (0, u "Lcom/example/portcullis/portcullis/Principal$Kind;"), (0, .fieldref 8 14), (0, .nameAndType 15 16), (0, u "name"), (0, u "Ljava/lang/String;"), (0, .methodref 18 19), (0, .class_ 20), (0, .nameAndType 21 22), (0, u "java/lang/String"), (0, u "equals"), (0, u "(Ljava/lang/Object;)Z"), (1, .class_ 26), (1, u "com/example/portcullis/portcullis/Principal$Kind"), (14, u "(Lcom/example/portcullis/portcullis/Principal$Kind;Ljava/lang/String;)V"), (75, u "EVERYONE"), (2, u "Lcom/example/portcullis/portcullis/Principal;")] 61

def k9c0 : Code := { maxStack := 2, maxLocals := 3, code := prog_38_method_1_code, exceptionTable := #[], attributes := #[] }
def k9m0 : Method := { name := "<init>", desc := "(Lcom/example/portcullis/portcullis/Principal$Kind;Ljava/lang/String;)V", sig := { parameters := [(.object "com/example/portcullis/portcullis/Principal$Kind"), (.object "java/lang/String")], returnType := none }, accessFlags := 0, code := some k9c0 }
def k9c1 : Code := { maxStack := 2, maxLocals := 3, code := prog_38_method_2_code, exceptionTable := #[], attributes := #[] }
def k9m1 : Method := { name := "equals", desc := "(Ljava/lang/Object;)Z", sig := { parameters := [(.object "java/lang/Object")], returnType := some .boolean }, accessFlags := 1, code := some k9c1 }
/-- com/example/portcullis/portcullis/Principal -/
def k9 : Class := { plain "com/example/portcullis/portcullis/Principal" (some 8) with
  accessFlags := 48
  interfaces := #[]
  cf := some (fileOf pool9 8 #[.nestMembers #[24]] #[{ accessFlags := 0, nameIndex := 5, descriptorIndex := 41, attributes := #[] }, { accessFlags := 1, nameIndex := 21, descriptorIndex := 22, attributes := #[] }] 48 2 #[] #[{ accessFlags := 18, nameIndex := 11, descriptorIndex := 12, attributes := #[] }, { accessFlags := 18, nameIndex := 15, descriptorIndex := 16, attributes := #[] }, { accessFlags := 24, nameIndex := 117, descriptorIndex := 120, attributes := #[] }])
  fields := #[{ name := "kind", type := (.object "com/example/portcullis/portcullis/Principal$Kind"), accessFlags := 18, slot := 0, constantValue := 0 }, { name := "name", type := (.object "java/lang/String"), accessFlags := 18, slot := 1, constantValue := 0 }, { name := "EVERYONE", type := (.object "com/example/portcullis/portcullis/Principal"), accessFlags := 24, slot := 0, constantValue := 0 }]
  methods := #[k9m0, k9m1]
  instanceTypes := #[(.object "com/example/portcullis/portcullis/Principal$Kind"), (.object "java/lang/String")]
  staticTypes := #[(.object "com/example/portcullis/portcullis/Principal")]
  resolved := Array.replicate 182 none
  statics := none }

def pool10 : Array CpInfo := pool [(2, .class_ 4), (1, u "java/lang/Enum"), (0, u "name"), (0, u "Ljava/lang/String;"), (2, u "ordinal"), (0, u "I"), (1, .class_ 14), (1, u "java/lang/Object"), (4, u "hash"), (86, .class_ 108), (1, u "java/lang/Enum$EnumDesc"), (2, .class_ 112), (0, u "java/lang/constant/Constable"), (0, .class_ 114), (0, u "java/lang/Comparable"), (0, .class_ 116), (0, u "java/io/Serializable")] 87

/-- java/lang/Enum -/
def k10 : Class := { plain "java/lang/Enum" (some 0) with
  accessFlags := 1057
  interfaces := #[5, 3, 2]
  cf := some (fileOf pool10 2 #[.nestMembers #[106]] #[] 1057 12 #[111, 113, 115] #[{ accessFlags := 18, nameIndex := 5, descriptorIndex := 6, attributes := #[] }, { accessFlags := 18, nameIndex := 9, descriptorIndex := 10, attributes := #[] }, { accessFlags := 2, nameIndex := 19, descriptorIndex := 10, attributes := #[] }])
  fields := #[{ name := "name", type := (.object "java/lang/String"), accessFlags := 18, slot := 0, constantValue := 0 }, { name := "ordinal", type := .int, accessFlags := 18, slot := 1, constantValue := 0 }, { name := "hash", type := .int, accessFlags := 2, slot := 2, constantValue := 0 }]
  methods := #[]
  instanceTypes := #[(.object "java/lang/String"), .int, .int]
  staticTypes := #[]
  resolved := Array.replicate 204 none
  statics := none }

def pool11 : Array CpInfo := pool [(1, .class_ 2), (0, u "com/example/portcullis/portcullis/Principal$Kind"), (2, u "USER"), (0, u "Lcom/example/portcullis/portcullis/Principal$Kind;"), (2, u "GROUP"), (2, u "ROLE"), (2, u "EVERYONE"), (2, u "ANONYMOUS"), (2, u "$VALUES"), (0, u "[Lcom/example/portcullis/portcullis/Principal$Kind;"), (6, .class_ 31), (1, u "java/lang/Enum"), (8, u "word"), (0, u "Ljava/lang/String;"), (2, u "named"), (0, u "Z"), (6, u "prefix"), (41, .class_ 95), (0, u "com/example/portcullis/portcullis/Principal")] 18

/-- com/example/portcullis/portcullis/Principal$Kind -/
def k11 : Class := { plain "com/example/portcullis/portcullis/Principal$Kind" (some 10) with
  accessFlags := 16432
  interfaces := #[]
  cf := some (fileOf pool11 1 #[.nestHost 94] #[] 16432 29 #[] #[{ accessFlags := 16409, nameIndex := 5, descriptorIndex := 6, attributes := #[] }, { accessFlags := 16409, nameIndex := 9, descriptorIndex := 6, attributes := #[] }, { accessFlags := 16409, nameIndex := 12, descriptorIndex := 6, attributes := #[] }, { accessFlags := 16409, nameIndex := 15, descriptorIndex := 6, attributes := #[] }, { accessFlags := 16409, nameIndex := 18, descriptorIndex := 6, attributes := #[] }, { accessFlags := 18, nameIndex := 40, descriptorIndex := 41, attributes := #[] }, { accessFlags := 18, nameIndex := 44, descriptorIndex := 45, attributes := #[] }, { accessFlags := 18, nameIndex := 52, descriptorIndex := 41, attributes := #[] }, { accessFlags := 4122, nameIndex := 21, descriptorIndex := 22, attributes := #[] }])
  fields := #[{ name := "USER", type := (.object "com/example/portcullis/portcullis/Principal$Kind"), accessFlags := 16409, slot := 0, constantValue := 0 }, { name := "GROUP", type := (.object "com/example/portcullis/portcullis/Principal$Kind"), accessFlags := 16409, slot := 1, constantValue := 0 }, { name := "ROLE", type := (.object "com/example/portcullis/portcullis/Principal$Kind"), accessFlags := 16409, slot := 2, constantValue := 0 }, { name := "EVERYONE", type := (.object "com/example/portcullis/portcullis/Principal$Kind"), accessFlags := 16409, slot := 3, constantValue := 0 }, { name := "ANONYMOUS", type := (.object "com/example/portcullis/portcullis/Principal$Kind"), accessFlags := 16409, slot := 4, constantValue := 0 }, { name := "word", type := (.object "java/lang/String"), accessFlags := 18, slot := 3, constantValue := 0 }, { name := "named", type := .boolean, accessFlags := 18, slot := 4, constantValue := 0 }, { name := "prefix", type := (.object "java/lang/String"), accessFlags := 18, slot := 5, constantValue := 0 }, { name := "$VALUES", type := (.array (.object "com/example/portcullis/portcullis/Principal$Kind")), accessFlags := 4122, slot := 5, constantValue := 0 }]
  methods := #[]
  instanceTypes := #[(.object "java/lang/String"), .int, .int, (.object "java/lang/String"), .boolean, (.object "java/lang/String")]
  staticTypes := #[(.object "com/example/portcullis/portcullis/Principal$Kind"), (.object "com/example/portcullis/portcullis/Principal$Kind"), (.object "com/example/portcullis/portcullis/Principal$Kind"), (.object "com/example/portcullis/portcullis/Principal$Kind"), (.object "com/example/portcullis/portcullis/Principal$Kind"), (.array (.object "com/example/portcullis/portcullis/Principal$Kind"))]
  resolved := Array.replicate 114 none
  statics := some 1 }

def pool12 : Array CpInfo := pool [(4, .class_ 6), (1, u "java/lang/Object"), (0, u "<init>"), (0, u "()V"), (5, .class_ 16), (1, u "java/lang/StringLatin1"), (104, u "$assertionsDisabled"), (0, u "Z"), (98, .class_ 223), (1, u "java/lang/StringLatin1$LinesSpliterator"), (57, u "equals"), (0, u "([B[B)Z"), (107, .class_ 391), (0, u "java/lang/StringLatin1$CharsSpliterator")] 3

def k12m0 : Method := { name := "<init>", desc := "()V", sig := { parameters := [], returnType := none }, accessFlags := 0, code := none }
def k12c1 : Code := { maxStack := 3, maxLocals := 3, code := jdk_43_method_13_code, exceptionTable := #[], attributes := #[] }
def k12m1 : Method := { name := "equals", desc := "([B[B)Z", sig := { parameters := [(.array .byte), (.array .byte)], returnType := some .boolean }, accessFlags := 9, code := some k12c1 }
/-- java/lang/StringLatin1 -/
def k12 : Class := { plain "java/lang/StringLatin1" (some 0) with
  accessFlags := 48
  interfaces := #[]
  cf := some (fileOf pool12 14 #[.nestMembers #[390, 221]] #[{ accessFlags := 0, nameIndex := 7, descriptorIndex := 8, attributes := #[] }, { accessFlags := 9, nameIndex := 281, descriptorIndex := 282, attributes := #[] }] 48 4 #[] #[{ accessFlags := 4120, nameIndex := 121, descriptorIndex := 122, attributes := #[] }])
  fields := #[{ name := "$assertionsDisabled", type := .boolean, accessFlags := 4120, slot := 0, constantValue := 0 }]
  methods := #[k12m0, k12m1]
  instanceTypes := #[]
  staticTypes := #[.boolean]
  resolved := Array.replicate 395 none
  statics := none }

def pool13 : Array CpInfo := pool [(6, .class_ 8), (1, u "java/lang/Object"), (0, u "<init>"), (0, u "()V"), (1, .class_ 14), (1, u "java/lang/StringUTF16"), (31, u "$assertionsDisabled"), (0, u "Z"), (13, u "HI_BYTE_SHIFT"), (0, u "I"), (2, u "LO_BYTE_SHIFT"), (49, .methodref 12 116), (0, .nameAndType 117 118), (0, u "compress"), (0, u "([CI[BII)I"), (3, u "([CII)[B"), (138, u "coderFromArrayLen"), (0, u "([BI)B"), (106, .class_ 371), (1, u "java/lang/StringUTF16$LinesSpliterator"), (58, u "MAX_LENGTH"), (196, .class_ 628), (0, u "java/lang/StringUTF16$CodePointsSpliterator"), (0, .class_ 630), (0, u "java/lang/StringUTF16$CharsSpliterator")] 4

def k13m0 : Method := { name := "<init>", desc := "()V", sig := { parameters := [], returnType := none }, accessFlags := 0, code := none }
def k13c1 : Code := { maxStack := 2, maxLocals := 2, code := jdk_52_method_15_code, exceptionTable := #[], attributes := #[] }
def k13m1 : Method := { name := "coderFromArrayLen", desc := "([BI)B", sig := { parameters := [(.array .byte), .int], returnType := some .byte }, accessFlags := 8, code := some k13c1 }
def k13c2 : Code := { maxStack := 5, maxLocals := 6, code := jdk_52_method_16_code, exceptionTable := #[], attributes := #[] }
def k13m2 : Method := { name := "compress", desc := "([CII)[B", sig := { parameters := [(.array .char), .int, .int], returnType := some (.array .byte) }, accessFlags := 9, code := some k13c2 }
def k13c3 : Code := { maxStack := 3, maxLocals := 7, code := jdk_52_method_21_code, exceptionTable := #[], attributes := #[] }
def k13m3 : Method := { name := "compress", desc := "([CI[BII)I", sig := { parameters := [(.array .char), .int, (.array .byte), .int, .int], returnType := some .int }, accessFlags := 9, code := some k13c3 }
/-- java/lang/StringUTF16 -/
def k13 : Class := { plain "java/lang/StringUTF16" (some 0) with
  accessFlags := 48
  interfaces := #[]
  cf := some (fileOf pool13 12 #[.nestMembers #[627, 629, 369]] #[{ accessFlags := 0, nameIndex := 9, descriptorIndex := 10, attributes := #[] }, { accessFlags := 8, nameIndex := 261, descriptorIndex := 262, attributes := #[] }, { accessFlags := 9, nameIndex := 117, descriptorIndex := 122, attributes := #[] }, { accessFlags := 9, nameIndex := 117, descriptorIndex := 118, attributes := #[] }] 48 6 #[] #[{ accessFlags := 26, nameIndex := 61, descriptorIndex := 62, attributes := #[] }, { accessFlags := 26, nameIndex := 65, descriptorIndex := 62, attributes := #[] }, { accessFlags := 24, nameIndex := 430, descriptorIndex := 62, attributes := #[] }, { accessFlags := 4120, nameIndex := 46, descriptorIndex := 47, attributes := #[] }])
  fields := #[{ name := "HI_BYTE_SHIFT", type := .int, accessFlags := 26, slot := 0, constantValue := 0 }, { name := "LO_BYTE_SHIFT", type := .int, accessFlags := 26, slot := 1, constantValue := 0 }, { name := "MAX_LENGTH", type := .int, accessFlags := 24, slot := 2, constantValue := 0 }, { name := "$assertionsDisabled", type := .boolean, accessFlags := 4120, slot := 3, constantValue := 0 }]
  methods := #[k13m0, k13m1, k13m2, k13m3]
  instanceTypes := #[]
  staticTypes := #[.int, .int, .int, .boolean]
  resolved := Array.replicate 635 none
  statics := none }

def pool14 : Array CpInfo := pool [(1, .methodref 2 3), (0, .class_ 4), (0, .nameAndType 5 6), (0, u "java/lang/Object"), (0, u "<init>"), (0, u "()V"), (1, .class_ 10), (1, u "java/lang/Number"), (2, .class_ 14), (0, u "java/io/Serializable"), (0, u "serialVersionUID"), (0, u "J")] 20

def k14c0 : Code := { maxStack := 1, maxLocals := 1, code := jdk_18_method_1_code, exceptionTable := #[], attributes := #[] }
def k14m0 : Method := { name := "<init>", desc := "()V", sig := { parameters := [], returnType := none }, accessFlags := 1, code := some k14c0 }
/-- java/lang/Number -/
def k14 : Class := { plain "java/lang/Number" (some 0) with
  accessFlags := 1057
  interfaces := #[2]
  cf := some (fileOf pool14 8 #[] #[{ accessFlags := 1, nameIndex := 5, descriptorIndex := 6, attributes := #[] }] 1057 2 #[13] #[{ accessFlags := 26, nameIndex := 15, descriptorIndex := 16, attributes := #[] }])
  fields := #[{ name := "serialVersionUID", type := .long, accessFlags := 26, slot := 0, constantValue := 0 }]
  methods := #[k14m0]
  instanceTypes := #[]
  staticTypes := #[.long]
  resolved := Array.replicate 37 none
  statics := none }

def pool15 : Array CpInfo := pool [(1, .class_ 2), (0, u "java/lang/Integer"), (16, u "digits"), (0, u "[C"), (46, u "<init>"), (17, u "DigitOnes"), (0, u "[B"), (2, u "DigitTens"), (10, .nameAndType 67 101), (0, u "()V"), (85, u "valueOf"), (0, u "(I)Ljava/lang/Integer;"), (0, .class_ 190), (0, u "java/lang/Integer$IntegerCache"), (0, .fieldref 189 192), (0, .nameAndType 193 194), (0, u "high"), (0, u "I"), (0, .fieldref 189 196), (0, .nameAndType 197 198), (0, u "cache"), (0, u "[Ljava/lang/Integer;"), (0, .methodref 1 200), (0, .nameAndType 67 201), (0, u "(I)V"), (0, .methodref 203 100), (0, .class_ 204), (0, u "java/lang/Number"), (0, .fieldref 1 206), (0, .nameAndType 207 194), (0, u "value"), (94, u "TYPE"), (0, u "Ljava/lang/Class;"), (0, .class_ 305), (0, u "java/lang/Comparable"), (0, .class_ 307), (0, u "java/lang/constant/Constable"), (0, .class_ 309), (0, u "java/lang/constant/ConstantDesc"), (0, u "MIN_VALUE"), (1, u "MAX_VALUE"), (3, u "SIZE"), (1, u "BYTES"), (1, u "serialVersionUID"), (0, u "J")] 131

def k15c0 : Code := { maxStack := 3, maxLocals := 1, code := jdk_33_method_22_code, exceptionTable := #[], attributes := #[] }
def k15m0 : Method := { name := "valueOf", desc := "(I)Ljava/lang/Integer;", sig := { parameters := [.int], returnType := some (.object "java/lang/Integer") }, accessFlags := 9, code := some k15c0 }
def k15c1 : Code := { maxStack := 2, maxLocals := 2, code := jdk_33_method_23_code, exceptionTable := #[], attributes := #[] }
def k15m1 : Method := { name := "<init>", desc := "(I)V", sig := { parameters := [.int], returnType := none }, accessFlags := 1, code := some k15c1 }
/-- java/lang/Integer -/
def k15 : Class := { plain "java/lang/Integer" (some 14) with
  accessFlags := 49
  interfaces := #[3, 5, 6]
  cf := some (fileOf pool15 1 #[.nestMembers #[189]] #[{ accessFlags := 9, nameIndex := 187, descriptorIndex := 188, attributes := #[] }, { accessFlags := 1, nameIndex := 67, descriptorIndex := 201, attributes := #[] }] 49 203 #[304, 306, 308] #[{ accessFlags := 25, nameIndex := 310, descriptorIndex := 194, attributes := #[] }, { accessFlags := 25, nameIndex := 312, descriptorIndex := 194, attributes := #[] }, { accessFlags := 25, nameIndex := 302, descriptorIndex := 303, attributes := #[] }, { accessFlags := 24, nameIndex := 19, descriptorIndex := 20, attributes := #[] }, { accessFlags := 24, nameIndex := 89, descriptorIndex := 86, attributes := #[] }, { accessFlags := 24, nameIndex := 85, descriptorIndex := 86, attributes := #[] }, { accessFlags := 18, nameIndex := 207, descriptorIndex := 194, attributes := #[] }, { accessFlags := 25, nameIndex := 316, descriptorIndex := 194, attributes := #[] }, { accessFlags := 25, nameIndex := 318, descriptorIndex := 194, attributes := #[] }, { accessFlags := 26, nameIndex := 320, descriptorIndex := 321, attributes := #[] }])
  fields := #[{ name := "MIN_VALUE", type := .int, accessFlags := 25, slot := 0, constantValue := 0 }, { name := "MAX_VALUE", type := .int, accessFlags := 25, slot := 1, constantValue := 0 }, { name := "TYPE", type := (.object "java/lang/Class"), accessFlags := 25, slot := 2, constantValue := 0 }, { name := "digits", type := (.array .char), accessFlags := 24, slot := 3, constantValue := 0 }, { name := "DigitTens", type := (.array .byte), accessFlags := 24, slot := 4, constantValue := 0 }, { name := "DigitOnes", type := (.array .byte), accessFlags := 24, slot := 5, constantValue := 0 }, { name := "value", type := .int, accessFlags := 18, slot := 0, constantValue := 0 }, { name := "SIZE", type := .int, accessFlags := 25, slot := 6, constantValue := 0 }, { name := "BYTES", type := .int, accessFlags := 25, slot := 7, constantValue := 0 }, { name := "serialVersionUID", type := .long, accessFlags := 26, slot := 8, constantValue := 0 }]
  methods := #[k15m0, k15m1]
  instanceTypes := #[.int]
  staticTypes := #[.int, .int, (.object "java/lang/Class"), (.array .char), (.array .byte), (.array .byte), .int, .int, .long]
  resolved := Array.replicate 453 none
  statics := none }

def pool16 : Array CpInfo := pool [(2, .class_ 4), (1, u "java/lang/Object"), (0, u "<init>"), (0, u "()V"), (0, .class_ 8), (0, u "java/lang/Integer"), (7, .class_ 18), (1, u "java/lang/Integer$IntegerCache"), (0, u "$assertionsDisabled"), (0, u "Z"), (26, u "high"), (0, u "I"), (8, u "archivedCache"), (0, u "[Ljava/lang/Integer;"), (12, u "cache"), (0, u "low")] 27

def k16m0 : Method := { name := "<init>", desc := "()V", sig := { parameters := [], returnType := none }, accessFlags := 2, code := none }
/-- java/lang/Integer$IntegerCache -/
def k16 : Class := { plain "java/lang/Integer$IntegerCache" (some 0) with
  accessFlags := 48
  interfaces := #[]
  cf := some (fileOf pool16 16 #[.nestHost 7] #[{ accessFlags := 2, nameIndex := 5, descriptorIndex := 6, attributes := #[] }] 48 2 #[] #[{ accessFlags := 24, nameIndex := 72, descriptorIndex := 48, attributes := #[] }, { accessFlags := 24, nameIndex := 47, descriptorIndex := 48, attributes := #[] }, { accessFlags := 24, nameIndex := 71, descriptorIndex := 58, attributes := #[] }, { accessFlags := 8, nameIndex := 57, descriptorIndex := 58, attributes := #[] }, { accessFlags := 4120, nameIndex := 19, descriptorIndex := 20, attributes := #[] }])
  fields := #[{ name := "low", type := .int, accessFlags := 24, slot := 0, constantValue := 0 }, { name := "high", type := .int, accessFlags := 24, slot := 1, constantValue := 0 }, { name := "cache", type := (.array (.object "java/lang/Integer")), accessFlags := 24, slot := 2, constantValue := 0 }, { name := "archivedCache", type := (.array (.object "java/lang/Integer")), accessFlags := 8, slot := 3, constantValue := 0 }, { name := "$assertionsDisabled", type := .boolean, accessFlags := 4120, slot := 4, constantValue := 0 }]
  methods := #[k16m0]
  instanceTypes := #[]
  staticTypes := #[.int, .int, (.array (.object "java/lang/Integer")), (.array (.object "java/lang/Integer")), .boolean]
  resolved := Array.replicate 100 none
  statics := some 2 }

def pool17 : Array CpInfo := pool [(2, .class_ 4), (1, u "java/lang/Object"), (0, u "<init>"), (0, u "()V"), (17, .class_ 26), (1, u "jdk/internal/util/Preconditions"), (28, .class_ 56), (0, u "jdk/internal/util/Preconditions$4"), (57, .class_ 115), (0, u "jdk/internal/util/Preconditions$1"), (7, u "SIOOBE_FORMATTER"), (0, u "Ljava/util/function/BiFunction;"), (0, .class_ 126), (0, u "jdk/internal/util/Preconditions$2"), (3, u "AIOOBE_FORMATTER"), (0, .class_ 132), (0, u "jdk/internal/util/Preconditions$3"), (3, u "IOOBE_FORMATTER")] 57

def k17m0 : Method := { name := "<init>", desc := "()V", sig := { parameters := [], returnType := none }, accessFlags := 1, code := none }
/-- jdk/internal/util/Preconditions -/
def k17 : Class := { plain "jdk/internal/util/Preconditions" (some 0) with
  accessFlags := 33
  interfaces := #[]
  cf := some (fileOf pool17 24 #[.nestMembers #[55, 131, 125, 114]] #[{ accessFlags := 1, nameIndex := 5, descriptorIndex := 6, attributes := #[] }] 33 2 #[] #[{ accessFlags := 25, nameIndex := 123, descriptorIndex := 124, attributes := #[] }, { accessFlags := 25, nameIndex := 130, descriptorIndex := 124, attributes := #[] }, { accessFlags := 25, nameIndex := 136, descriptorIndex := 124, attributes := #[] }])
  fields := #[{ name := "SIOOBE_FORMATTER", type := (.object "java/util/function/BiFunction"), accessFlags := 25, slot := 0, constantValue := 0 }, { name := "AIOOBE_FORMATTER", type := (.object "java/util/function/BiFunction"), accessFlags := 25, slot := 1, constantValue := 0 }, { name := "IOOBE_FORMATTER", type := (.object "java/util/function/BiFunction"), accessFlags := 25, slot := 2, constantValue := 0 }]
  methods := #[k17m0]
  instanceTypes := #[]
  staticTypes := #[(.object "java/util/function/BiFunction"), (.object "java/util/function/BiFunction"), (.object "java/util/function/BiFunction")]
  resolved := Array.replicate 194 none
  statics := some 3 }

def pool18 : Array CpInfo := pool [(9, u "<init>"), (6, .class_ 18), (1, u "java/lang/Object"), (0, u "()V"), (1, .class_ 23), (1, u "jdk/internal/util/ArraysSupport"), (0, u "LOG2_ARRAY_LONG_INDEX_SCALE"), (0, u "I"), (2, u "U"), (0, u "Ljdk/internal/misc/Unsafe;"), (8, u "BIG_ENDIAN"), (0, u "Z"), (8, u "LOG2_BYTE_BIT_SIZE"), (4, u "LOG2_ARRAY_INT_INDEX_SCALE"), (54, u "JLA"), (0, u "Ljdk/internal/access/JavaLangAccess;"), (11, u "LOG2_ARRAY_BOOLEAN_INDEX_SCALE"), (9, u "LOG2_ARRAY_BYTE_INDEX_SCALE"), (5, u "LOG2_ARRAY_CHAR_INDEX_SCALE"), (5, u "LOG2_ARRAY_SHORT_INDEX_SCALE"), (18, u "LOG2_ARRAY_FLOAT_INDEX_SCALE"), (24, u "LOG2_ARRAY_DOUBLE_INDEX_SCALE"), (89, u "T_BOOLEAN"), (2, u "T_CHAR"), (1, u "T_FLOAT"), (1, u "T_DOUBLE"), (1, u "T_BYTE"), (1, u "T_SHORT"), (1, u "T_INT"), (1, u "T_LONG"), (1, u "SOFT_MAX_ARRAY_LENGTH")] 83

def k18m0 : Method := { name := "<init>", desc := "()V", sig := { parameters := [], returnType := none }, accessFlags := 2, code := none }
/-- jdk/internal/util/ArraysSupport -/
def k18 : Class := { plain "jdk/internal/util/ArraysSupport" (some 0) with
  accessFlags := 33
  interfaces := #[]
  cf := some (fileOf pool18 21 #[] #[{ accessFlags := 2, nameIndex := 9, descriptorIndex := 19, attributes := #[] }] 33 16 #[] #[{ accessFlags := 24, nameIndex := 28, descriptorIndex := 29, attributes := #[] }, { accessFlags := 26, nameIndex := 38, descriptorIndex := 39, attributes := #[] }, { accessFlags := 25, nameIndex := 121, descriptorIndex := 25, attributes := #[] }, { accessFlags := 25, nameIndex := 131, descriptorIndex := 25, attributes := #[] }, { accessFlags := 25, nameIndex := 137, descriptorIndex := 25, attributes := #[] }, { accessFlags := 25, nameIndex := 143, descriptorIndex := 25, attributes := #[] }, { accessFlags := 25, nameIndex := 53, descriptorIndex := 25, attributes := #[] }, { accessFlags := 25, nameIndex := 24, descriptorIndex := 25, attributes := #[] }, { accessFlags := 25, nameIndex := 162, descriptorIndex := 25, attributes := #[] }, { accessFlags := 25, nameIndex := 187, descriptorIndex := 25, attributes := #[] }, { accessFlags := 26, nameIndex := 48, descriptorIndex := 25, attributes := #[] }, { accessFlags := 25, nameIndex := 277, descriptorIndex := 25, attributes := #[] }, { accessFlags := 25, nameIndex := 280, descriptorIndex := 25, attributes := #[] }, { accessFlags := 25, nameIndex := 282, descriptorIndex := 25, attributes := #[] }, { accessFlags := 25, nameIndex := 284, descriptorIndex := 25, attributes := #[] }, { accessFlags := 25, nameIndex := 286, descriptorIndex := 25, attributes := #[] }, { accessFlags := 25, nameIndex := 288, descriptorIndex := 25, attributes := #[] }, { accessFlags := 25, nameIndex := 290, descriptorIndex := 25, attributes := #[] }, { accessFlags := 25, nameIndex := 292, descriptorIndex := 25, attributes := #[] }, { accessFlags := 26, nameIndex := 108, descriptorIndex := 109, attributes := #[] }, { accessFlags := 25, nameIndex := 294, descriptorIndex := 25, attributes := #[] }])
  fields := #[{ name := "U", type := (.object "jdk/internal/misc/Unsafe"), accessFlags := 24, slot := 0, constantValue := 0 }, { name := "BIG_ENDIAN", type := .boolean, accessFlags := 26, slot := 1, constantValue := 0 }, { name := "LOG2_ARRAY_BOOLEAN_INDEX_SCALE", type := .int, accessFlags := 25, slot := 2, constantValue := 0 }, { name := "LOG2_ARRAY_BYTE_INDEX_SCALE", type := .int, accessFlags := 25, slot := 3, constantValue := 0 }, { name := "LOG2_ARRAY_CHAR_INDEX_SCALE", type := .int, accessFlags := 25, slot := 4, constantValue := 0 }, { name := "LOG2_ARRAY_SHORT_INDEX_SCALE", type := .int, accessFlags := 25, slot := 5, constantValue := 0 }, { name := "LOG2_ARRAY_INT_INDEX_SCALE", type := .int, accessFlags := 25, slot := 6, constantValue := 0 }, { name := "LOG2_ARRAY_LONG_INDEX_SCALE", type := .int, accessFlags := 25, slot := 7, constantValue := 0 }, { name := "LOG2_ARRAY_FLOAT_INDEX_SCALE", type := .int, accessFlags := 25, slot := 8, constantValue := 0 }, { name := "LOG2_ARRAY_DOUBLE_INDEX_SCALE", type := .int, accessFlags := 25, slot := 9, constantValue := 0 }, { name := "LOG2_BYTE_BIT_SIZE", type := .int, accessFlags := 26, slot := 10, constantValue := 0 }, { name := "T_BOOLEAN", type := .int, accessFlags := 25, slot := 11, constantValue := 0 }, { name := "T_CHAR", type := .int, accessFlags := 25, slot := 12, constantValue := 0 }, { name := "T_FLOAT", type := .int, accessFlags := 25, slot := 13, constantValue := 0 }, { name := "T_DOUBLE", type := .int, accessFlags := 25, slot := 14, constantValue := 0 }, { name := "T_BYTE", type := .int, accessFlags := 25, slot := 15, constantValue := 0 }, { name := "T_SHORT", type := .int, accessFlags := 25, slot := 16, constantValue := 0 }, { name := "T_INT", type := .int, accessFlags := 25, slot := 17, constantValue := 0 }, { name := "T_LONG", type := .int, accessFlags := 25, slot := 18, constantValue := 0 }, { name := "JLA", type := (.object "jdk/internal/access/JavaLangAccess"), accessFlags := 26, slot := 19, constantValue := 0 }, { name := "SOFT_MAX_ARRAY_LENGTH", type := .int, accessFlags := 25, slot := 20, constantValue := 0 }]
  methods := #[k18m0]
  instanceTypes := #[]
  staticTypes := #[(.object "jdk/internal/misc/Unsafe"), .boolean, .int, .int, .int, .int, .int, .int, .int, .int, .int, .int, .int, .int, .int, .int, .int, .int, .int, (.object "jdk/internal/access/JavaLangAccess"), .int]
  resolved := Array.replicate 378 none
  statics := none }

def pool19 : Array CpInfo := pool [(1, u "java/lang/Cloneable"), (0, .class_ 1), (0, u "java/lang/Object"), (0, .class_ 3)] 3

/-- java/lang/Cloneable -/
def k19 : Class := { plain "java/lang/Cloneable" (some 0) with
  accessFlags := 1537
  interfaces := #[]
  cf := some (fileOf pool19 2 #[] #[] 1537 4 #[] #[])
  fields := #[]
  methods := #[]
  instanceTypes := #[]
  staticTypes := #[]
  resolved := Array.replicate 8 none
  statics := none }

/-- the primitive byte -/
def k20 : Class := { plain "byte" none with kind := .primitive 'B', accessFlags := 0x411 }
/-- [B -/
def k21 : Class := { plain "[B" (some 0) with kind := .array 20 .byte, interfaces := #[19, 2], accessFlags := 1041 }

/-- the primitive char -/
def k22 : Class := { plain "char" none with kind := .primitive 'C', accessFlags := 0x411 }
/-- [C -/
def k23 : Class := { plain "[C" (some 0) with kind := .array 22 .char, interfaces := #[19, 2], accessFlags := 1041 }

/-- the primitive int -/
def k24 : Class := { plain "int" none with kind := .primitive 'I', accessFlags := 0x411 }
/-- [I -/
def k25 : Class := { plain "[I" (some 0) with kind := .array 24 .int, interfaces := #[19, 2], accessFlags := 1041 }

/-- [Ljava/lang/Integer; -/
def k26 : Class := { plain "[Ljava/lang/Integer;" (some 0) with kind := .array 15 (.object "java/lang/Integer"), interfaces := #[19, 2], accessFlags := 1041 }

def heap : Heap := #[{ cls := 7, slots := #[.long 0, .int 1, .null, .int 0, .null, .int 0, .int 0], vm := .statics 7 },
  { cls := 11, slots := #[.ref 261, .ref 262, .ref 263, .ref 264, .ref 265, .null], vm := .statics 11 },
  { cls := 16, slots := #[.int 0, .int 127, .ref 4, .null, .int 0], vm := .statics 16 },
  { cls := 17, slots := #[.null, .null, .null], vm := .statics 17 },
  { cls := 26, slots := #[.ref 5, .ref 6, .ref 7, .ref 8, .ref 9, .ref 10, .ref 11, .ref 12, .ref 13, .ref 14, .ref 15, .ref 16, .ref 17, .ref 18, .ref 19, .ref 20, .ref 21, .ref 22, .ref 23, .ref 24, .ref 25, .ref 26, .ref 27, .ref 28, .ref 29, .ref 30, .ref 31, .ref 32, .ref 33, .ref 34, .ref 35, .ref 36, .ref 37, .ref 38, .ref 39, .ref 40, .ref 41, .ref 42, .ref 43, .ref 44, .ref 45, .ref 46, .ref 47, .ref 48, .ref 49, .ref 50, .ref 51, .ref 52, .ref 53, .ref 54, .ref 55, .ref 56, .ref 57, .ref 58, .ref 59, .ref 60, .ref 61, .ref 62, .ref 63, .ref 64, .ref 65, .ref 66, .ref 67, .ref 68, .ref 69, .ref 70, .ref 71, .ref 72, .ref 73, .ref 74, .ref 75, .ref 76, .ref 77, .ref 78, .ref 79, .ref 80, .ref 81, .ref 82, .ref 83, .ref 84, .ref 85, .ref 86, .ref 87, .ref 88, .ref 89, .ref 90, .ref 91, .ref 92, .ref 93, .ref 94, .ref 95, .ref 96, .ref 97, .ref 98, .ref 99, .ref 100, .ref 101, .ref 102, .ref 103, .ref 104, .ref 105, .ref 106, .ref 107, .ref 108, .ref 109, .ref 110, .ref 111, .ref 112, .ref 113, .ref 114, .ref 115, .ref 116, .ref 117, .ref 118, .ref 119, .ref 120, .ref 121, .ref 122, .ref 123, .ref 124, .ref 125, .ref 126, .ref 127, .ref 128, .ref 129, .ref 130, .ref 131, .ref 132, .ref 133, .ref 134, .ref 135, .ref 136, .ref 137, .ref 138, .ref 139, .ref 140, .ref 141, .ref 142, .ref 143, .ref 144, .ref 145, .ref 146, .ref 147, .ref 148, .ref 149, .ref 150, .ref 151, .ref 152, .ref 153, .ref 154, .ref 155, .ref 156, .ref 157, .ref 158, .ref 159, .ref 160, .ref 161, .ref 162, .ref 163, .ref 164, .ref 165, .ref 166, .ref 167, .ref 168, .ref 169, .ref 170, .ref 171, .ref 172, .ref 173, .ref 174, .ref 175, .ref 176, .ref 177, .ref 178, .ref 179, .ref 180, .ref 181, .ref 182, .ref 183, .ref 184, .ref 185, .ref 186, .ref 187, .ref 188, .ref 189, .ref 190, .ref 191, .ref 192, .ref 193, .ref 194, .ref 195, .ref 196, .ref 197, .ref 198, .ref 199, .ref 200, .ref 201, .ref 202, .ref 203, .ref 204, .ref 205, .ref 206, .ref 207, .ref 208, .ref 209, .ref 210, .ref 211, .ref 212, .ref 213, .ref 214, .ref 215, .ref 216, .ref 217, .ref 218, .ref 219, .ref 220, .ref 221, .ref 222, .ref 223, .ref 224, .ref 225, .ref 226, .ref 227, .ref 228, .ref 229, .ref 230, .ref 231, .ref 232, .ref 233, .ref 234, .ref 235, .ref 236, .ref 237, .ref 238, .ref 239, .ref 240, .ref 241, .ref 242, .ref 243, .ref 244, .ref 245, .ref 246, .ref 247, .ref 248, .ref 249, .ref 250, .ref 251, .ref 252, .ref 253, .ref 254, .ref 255, .ref 256, .ref 257, .ref 258, .ref 259, .ref 260], vm := .none },
  { cls := 15, slots := #[.int (-128)], vm := .none },
  { cls := 15, slots := #[.int (-127)], vm := .none },
  { cls := 15, slots := #[.int (-126)], vm := .none },
  { cls := 15, slots := #[.int (-125)], vm := .none },
  { cls := 15, slots := #[.int (-124)], vm := .none },
  { cls := 15, slots := #[.int (-123)], vm := .none },
  { cls := 15, slots := #[.int (-122)], vm := .none },
  { cls := 15, slots := #[.int (-121)], vm := .none },
  { cls := 15, slots := #[.int (-120)], vm := .none },
  { cls := 15, slots := #[.int (-119)], vm := .none },
  { cls := 15, slots := #[.int (-118)], vm := .none },
  { cls := 15, slots := #[.int (-117)], vm := .none },
  { cls := 15, slots := #[.int (-116)], vm := .none },
  { cls := 15, slots := #[.int (-115)], vm := .none },
  { cls := 15, slots := #[.int (-114)], vm := .none },
  { cls := 15, slots := #[.int (-113)], vm := .none },
  { cls := 15, slots := #[.int (-112)], vm := .none },
  { cls := 15, slots := #[.int (-111)], vm := .none },
  { cls := 15, slots := #[.int (-110)], vm := .none },
  { cls := 15, slots := #[.int (-109)], vm := .none },
  { cls := 15, slots := #[.int (-108)], vm := .none },
  { cls := 15, slots := #[.int (-107)], vm := .none },
  { cls := 15, slots := #[.int (-106)], vm := .none },
  { cls := 15, slots := #[.int (-105)], vm := .none },
  { cls := 15, slots := #[.int (-104)], vm := .none },
  { cls := 15, slots := #[.int (-103)], vm := .none },
  { cls := 15, slots := #[.int (-102)], vm := .none },
  { cls := 15, slots := #[.int (-101)], vm := .none },
  { cls := 15, slots := #[.int (-100)], vm := .none },
  { cls := 15, slots := #[.int (-99)], vm := .none },
  { cls := 15, slots := #[.int (-98)], vm := .none },
  { cls := 15, slots := #[.int (-97)], vm := .none },
  { cls := 15, slots := #[.int (-96)], vm := .none },
  { cls := 15, slots := #[.int (-95)], vm := .none },
  { cls := 15, slots := #[.int (-94)], vm := .none },
  { cls := 15, slots := #[.int (-93)], vm := .none },
  { cls := 15, slots := #[.int (-92)], vm := .none },
  { cls := 15, slots := #[.int (-91)], vm := .none },
  { cls := 15, slots := #[.int (-90)], vm := .none },
  { cls := 15, slots := #[.int (-89)], vm := .none },
  { cls := 15, slots := #[.int (-88)], vm := .none },
  { cls := 15, slots := #[.int (-87)], vm := .none },
  { cls := 15, slots := #[.int (-86)], vm := .none },
  { cls := 15, slots := #[.int (-85)], vm := .none },
  { cls := 15, slots := #[.int (-84)], vm := .none },
  { cls := 15, slots := #[.int (-83)], vm := .none },
  { cls := 15, slots := #[.int (-82)], vm := .none },
  { cls := 15, slots := #[.int (-81)], vm := .none },
  { cls := 15, slots := #[.int (-80)], vm := .none },
  { cls := 15, slots := #[.int (-79)], vm := .none },
  { cls := 15, slots := #[.int (-78)], vm := .none },
  { cls := 15, slots := #[.int (-77)], vm := .none },
  { cls := 15, slots := #[.int (-76)], vm := .none },
  { cls := 15, slots := #[.int (-75)], vm := .none },
  { cls := 15, slots := #[.int (-74)], vm := .none },
  { cls := 15, slots := #[.int (-73)], vm := .none },
  { cls := 15, slots := #[.int (-72)], vm := .none },
  { cls := 15, slots := #[.int (-71)], vm := .none },
  { cls := 15, slots := #[.int (-70)], vm := .none },
  { cls := 15, slots := #[.int (-69)], vm := .none },
  { cls := 15, slots := #[.int (-68)], vm := .none },
  { cls := 15, slots := #[.int (-67)], vm := .none },
  { cls := 15, slots := #[.int (-66)], vm := .none },
  { cls := 15, slots := #[.int (-65)], vm := .none },
  { cls := 15, slots := #[.int (-64)], vm := .none },
  { cls := 15, slots := #[.int (-63)], vm := .none },
  { cls := 15, slots := #[.int (-62)], vm := .none },
  { cls := 15, slots := #[.int (-61)], vm := .none },
  { cls := 15, slots := #[.int (-60)], vm := .none },
  { cls := 15, slots := #[.int (-59)], vm := .none },
  { cls := 15, slots := #[.int (-58)], vm := .none },
  { cls := 15, slots := #[.int (-57)], vm := .none },
  { cls := 15, slots := #[.int (-56)], vm := .none },
  { cls := 15, slots := #[.int (-55)], vm := .none },
  { cls := 15, slots := #[.int (-54)], vm := .none },
  { cls := 15, slots := #[.int (-53)], vm := .none },
  { cls := 15, slots := #[.int (-52)], vm := .none },
  { cls := 15, slots := #[.int (-51)], vm := .none },
  { cls := 15, slots := #[.int (-50)], vm := .none },
  { cls := 15, slots := #[.int (-49)], vm := .none },
  { cls := 15, slots := #[.int (-48)], vm := .none },
  { cls := 15, slots := #[.int (-47)], vm := .none },
  { cls := 15, slots := #[.int (-46)], vm := .none },
  { cls := 15, slots := #[.int (-45)], vm := .none },
  { cls := 15, slots := #[.int (-44)], vm := .none },
  { cls := 15, slots := #[.int (-43)], vm := .none },
  { cls := 15, slots := #[.int (-42)], vm := .none },
  { cls := 15, slots := #[.int (-41)], vm := .none },
  { cls := 15, slots := #[.int (-40)], vm := .none },
  { cls := 15, slots := #[.int (-39)], vm := .none },
  { cls := 15, slots := #[.int (-38)], vm := .none },
  { cls := 15, slots := #[.int (-37)], vm := .none },
  { cls := 15, slots := #[.int (-36)], vm := .none },
  { cls := 15, slots := #[.int (-35)], vm := .none },
  { cls := 15, slots := #[.int (-34)], vm := .none },
  { cls := 15, slots := #[.int (-33)], vm := .none },
  { cls := 15, slots := #[.int (-32)], vm := .none },
  { cls := 15, slots := #[.int (-31)], vm := .none },
  { cls := 15, slots := #[.int (-30)], vm := .none },
  { cls := 15, slots := #[.int (-29)], vm := .none },
  { cls := 15, slots := #[.int (-28)], vm := .none },
  { cls := 15, slots := #[.int (-27)], vm := .none },
  { cls := 15, slots := #[.int (-26)], vm := .none },
  { cls := 15, slots := #[.int (-25)], vm := .none },
  { cls := 15, slots := #[.int (-24)], vm := .none },
  { cls := 15, slots := #[.int (-23)], vm := .none },
  { cls := 15, slots := #[.int (-22)], vm := .none },
  { cls := 15, slots := #[.int (-21)], vm := .none },
  { cls := 15, slots := #[.int (-20)], vm := .none },
  { cls := 15, slots := #[.int (-19)], vm := .none },
  { cls := 15, slots := #[.int (-18)], vm := .none },
  { cls := 15, slots := #[.int (-17)], vm := .none },
  { cls := 15, slots := #[.int (-16)], vm := .none },
  { cls := 15, slots := #[.int (-15)], vm := .none },
  { cls := 15, slots := #[.int (-14)], vm := .none },
  { cls := 15, slots := #[.int (-13)], vm := .none },
  { cls := 15, slots := #[.int (-12)], vm := .none },
  { cls := 15, slots := #[.int (-11)], vm := .none },
  { cls := 15, slots := #[.int (-10)], vm := .none },
  { cls := 15, slots := #[.int (-9)], vm := .none },
  { cls := 15, slots := #[.int (-8)], vm := .none },
  { cls := 15, slots := #[.int (-7)], vm := .none },
  { cls := 15, slots := #[.int (-6)], vm := .none },
  { cls := 15, slots := #[.int (-5)], vm := .none },
  { cls := 15, slots := #[.int (-4)], vm := .none },
  { cls := 15, slots := #[.int (-3)], vm := .none },
  { cls := 15, slots := #[.int (-2)], vm := .none },
  { cls := 15, slots := #[.int (-1)], vm := .none },
  { cls := 15, slots := #[.int 0], vm := .none },
  { cls := 15, slots := #[.int 1], vm := .none },
  { cls := 15, slots := #[.int 2], vm := .none },
  { cls := 15, slots := #[.int 3], vm := .none },
  { cls := 15, slots := #[.int 4], vm := .none },
  { cls := 15, slots := #[.int 5], vm := .none },
  { cls := 15, slots := #[.int 6], vm := .none },
  { cls := 15, slots := #[.int 7], vm := .none },
  { cls := 15, slots := #[.int 8], vm := .none },
  { cls := 15, slots := #[.int 9], vm := .none },
  { cls := 15, slots := #[.int 10], vm := .none },
  { cls := 15, slots := #[.int 11], vm := .none },
  { cls := 15, slots := #[.int 12], vm := .none },
  { cls := 15, slots := #[.int 13], vm := .none },
  { cls := 15, slots := #[.int 14], vm := .none },
  { cls := 15, slots := #[.int 15], vm := .none },
  { cls := 15, slots := #[.int 16], vm := .none },
  { cls := 15, slots := #[.int 17], vm := .none },
  { cls := 15, slots := #[.int 18], vm := .none },
  { cls := 15, slots := #[.int 19], vm := .none },
  { cls := 15, slots := #[.int 20], vm := .none },
  { cls := 15, slots := #[.int 21], vm := .none },
  { cls := 15, slots := #[.int 22], vm := .none },
  { cls := 15, slots := #[.int 23], vm := .none },
  { cls := 15, slots := #[.int 24], vm := .none },
  { cls := 15, slots := #[.int 25], vm := .none },
  { cls := 15, slots := #[.int 26], vm := .none },
  { cls := 15, slots := #[.int 27], vm := .none },
  { cls := 15, slots := #[.int 28], vm := .none },
  { cls := 15, slots := #[.int 29], vm := .none },
  { cls := 15, slots := #[.int 30], vm := .none },
  { cls := 15, slots := #[.int 31], vm := .none },
  { cls := 15, slots := #[.int 32], vm := .none },
  { cls := 15, slots := #[.int 33], vm := .none },
  { cls := 15, slots := #[.int 34], vm := .none },
  { cls := 15, slots := #[.int 35], vm := .none },
  { cls := 15, slots := #[.int 36], vm := .none },
  { cls := 15, slots := #[.int 37], vm := .none },
  { cls := 15, slots := #[.int 38], vm := .none },
  { cls := 15, slots := #[.int 39], vm := .none },
  { cls := 15, slots := #[.int 40], vm := .none },
  { cls := 15, slots := #[.int 41], vm := .none },
  { cls := 15, slots := #[.int 42], vm := .none },
  { cls := 15, slots := #[.int 43], vm := .none },
  { cls := 15, slots := #[.int 44], vm := .none },
  { cls := 15, slots := #[.int 45], vm := .none },
  { cls := 15, slots := #[.int 46], vm := .none },
  { cls := 15, slots := #[.int 47], vm := .none },
  { cls := 15, slots := #[.int 48], vm := .none },
  { cls := 15, slots := #[.int 49], vm := .none },
  { cls := 15, slots := #[.int 50], vm := .none },
  { cls := 15, slots := #[.int 51], vm := .none },
  { cls := 15, slots := #[.int 52], vm := .none },
  { cls := 15, slots := #[.int 53], vm := .none },
  { cls := 15, slots := #[.int 54], vm := .none },
  { cls := 15, slots := #[.int 55], vm := .none },
  { cls := 15, slots := #[.int 56], vm := .none },
  { cls := 15, slots := #[.int 57], vm := .none },
  { cls := 15, slots := #[.int 58], vm := .none },
  { cls := 15, slots := #[.int 59], vm := .none },
  { cls := 15, slots := #[.int 60], vm := .none },
  { cls := 15, slots := #[.int 61], vm := .none },
  { cls := 15, slots := #[.int 62], vm := .none },
  { cls := 15, slots := #[.int 63], vm := .none },
  { cls := 15, slots := #[.int 64], vm := .none },
  { cls := 15, slots := #[.int 65], vm := .none },
  { cls := 15, slots := #[.int 66], vm := .none },
  { cls := 15, slots := #[.int 67], vm := .none },
  { cls := 15, slots := #[.int 68], vm := .none },
  { cls := 15, slots := #[.int 69], vm := .none },
  { cls := 15, slots := #[.int 70], vm := .none },
  { cls := 15, slots := #[.int 71], vm := .none },
  { cls := 15, slots := #[.int 72], vm := .none },
  { cls := 15, slots := #[.int 73], vm := .none },
  { cls := 15, slots := #[.int 74], vm := .none },
  { cls := 15, slots := #[.int 75], vm := .none },
  { cls := 15, slots := #[.int 76], vm := .none },
  { cls := 15, slots := #[.int 77], vm := .none },
  { cls := 15, slots := #[.int 78], vm := .none },
  { cls := 15, slots := #[.int 79], vm := .none },
  { cls := 15, slots := #[.int 80], vm := .none },
  { cls := 15, slots := #[.int 81], vm := .none },
  { cls := 15, slots := #[.int 82], vm := .none },
  { cls := 15, slots := #[.int 83], vm := .none },
  { cls := 15, slots := #[.int 84], vm := .none },
  { cls := 15, slots := #[.int 85], vm := .none },
  { cls := 15, slots := #[.int 86], vm := .none },
  { cls := 15, slots := #[.int 87], vm := .none },
  { cls := 15, slots := #[.int 88], vm := .none },
  { cls := 15, slots := #[.int 89], vm := .none },
  { cls := 15, slots := #[.int 90], vm := .none },
  { cls := 15, slots := #[.int 91], vm := .none },
  { cls := 15, slots := #[.int 92], vm := .none },
  { cls := 15, slots := #[.int 93], vm := .none },
  { cls := 15, slots := #[.int 94], vm := .none },
  { cls := 15, slots := #[.int 95], vm := .none },
  { cls := 15, slots := #[.int 96], vm := .none },
  { cls := 15, slots := #[.int 97], vm := .none },
  { cls := 15, slots := #[.int 98], vm := .none },
  { cls := 15, slots := #[.int 99], vm := .none },
  { cls := 15, slots := #[.int 100], vm := .none },
  { cls := 15, slots := #[.int 101], vm := .none },
  { cls := 15, slots := #[.int 102], vm := .none },
  { cls := 15, slots := #[.int 103], vm := .none },
  { cls := 15, slots := #[.int 104], vm := .none },
  { cls := 15, slots := #[.int 105], vm := .none },
  { cls := 15, slots := #[.int 106], vm := .none },
  { cls := 15, slots := #[.int 107], vm := .none },
  { cls := 15, slots := #[.int 108], vm := .none },
  { cls := 15, slots := #[.int 109], vm := .none },
  { cls := 15, slots := #[.int 110], vm := .none },
  { cls := 15, slots := #[.int 111], vm := .none },
  { cls := 15, slots := #[.int 112], vm := .none },
  { cls := 15, slots := #[.int 113], vm := .none },
  { cls := 15, slots := #[.int 114], vm := .none },
  { cls := 15, slots := #[.int 115], vm := .none },
  { cls := 15, slots := #[.int 116], vm := .none },
  { cls := 15, slots := #[.int 117], vm := .none },
  { cls := 15, slots := #[.int 118], vm := .none },
  { cls := 15, slots := #[.int 119], vm := .none },
  { cls := 15, slots := #[.int 120], vm := .none },
  { cls := 15, slots := #[.int 121], vm := .none },
  { cls := 15, slots := #[.int 122], vm := .none },
  { cls := 15, slots := #[.int 123], vm := .none },
  { cls := 15, slots := #[.int 124], vm := .none },
  { cls := 15, slots := #[.int 125], vm := .none },
  { cls := 15, slots := #[.int 126], vm := .none },
  { cls := 15, slots := #[.int 127], vm := .none },
  { cls := 11, slots := #[.null, .int 0, .int 0, .null, .int 0, .null], vm := .none },
  { cls := 11, slots := #[.null, .int 1, .int 0, .null, .int 0, .null], vm := .none },
  { cls := 11, slots := #[.null, .int 2, .int 0, .null, .int 0, .null], vm := .none },
  { cls := 11, slots := #[.null, .int 3, .int 0, .null, .int 0, .null], vm := .none },
  { cls := 11, slots := #[.null, .int 4, .int 0, .null, .int 0, .null], vm := .none }]
def classes : Array Class := #[k0, k1, k2, k3, k4, k5, k6, k7, k8, k9, k10, k11, k12, k13, k14, k15, k16, k17, k18, k19, k20, k21, k22, k23, k24, k25, k26]
def interned : List (Array UInt16 × Addr) := []
def slotsUsed : Nat := 563
def theMethod : MethodId := ⟨1, 3⟩
def args0 : Array Value := #[.int 3, .int 5, .int 7]
def aboutOver (below : List Frame) : State where
  vm := { classes := classes, interned := interned.toArray }
  heap := heap
  slotsUsed := slotsUsed
  threads := #[{ frames := .invoking theMethod args0 :: below }]
def below0 : List Frame := [.native { method := ⟨0, 0⟩, args := #[] }]
def about1 : State := aboutOver below0
def p0 : Program := .bare "" "" ""
def e0 : Env := launch0.env 0 0 0
theorem w_frames : about1.frames = Frame.invoking theMethod args0 :: below0 := rfl
set_option maxRecDepth 65536 in
theorem w_args : argsFit about1.vm theMethod args0 = true := by decide +kernel
set_option maxRecDepth 65536 in
theorem w_heap : heapFits about1 = true := by decide +kernel
set_option maxRecDepth 65536 in
theorem w_runnable : about1.curStatus? = some .runnable := by decide +kernel
set_option maxRecDepth 65536 in
theorem w_alone : about1.alone = true := by decide +kernel
set_option maxRecDepth 65536 in
theorem w_named : about1.methodNamed? x = some theMethod := by decide +kernel
set_option maxRecDepth 65536 in
theorem w_hears : about1.hears theMethod below0 = true := by decide +kernel
set_option maxRecDepth 65536 in
theorem w_ripe : about1.ripe theMethod args0 below0 = true := by decide +kernel
theorem w_running : about1.status = .running := rfl
set_option maxRecDepth 65536 in
theorem w_room : about1.hasRoom e0.platform room_1 = true :=
  launch0.hasRoom_least _ room_1 (by decide +kernel) (by decide +kernel) (by decide +kernel) (by decide +kernel) (by decide +kernel) (by decide +kernel)
theorem allAtoms_all (ts : List Jvm.Cond) (a : Array Jvm.Value) (st : Jvm.State) : (allAtoms ts).before a st = ts.all (fun c => c.before a st) := by
  induction ts with
  | nil => rfl
  | cons c t ih =>
    show (Jvm.Cond.and c (allAtoms t)).before a st = _
    rw [Jvm.Cond.before_and, ih, List.all_cons]
def words1 : List Jvm.Cond := Jvm.Cond.code x code maxLocals ret :: tables_1
/-- a 'code' word, met by the world's own term for the bytes: nothing is compared byte by byte -/
theorem code_word {y : MethodName} {bytes : ByteArray} {mx : Nat} {rt : Option FieldType} {a : Array Value} {s : State} {m : MethodId} {meth : Method} {c : Code} (h1 : s.methodNamed? y = some m) (h2 : s.vm.method? m = some meth) (h3 : meth.code = some c) (h4 : c.code = bytes)
    (h5 : (c.maxLocals == mx && c.exceptionTable.isEmpty && decide (c.maxStack ≤ mostOperands) && decide (meth.sig.returnType = rt) && !meth.locks && decide (parseMethodDescriptor y.desc = some meth.sig)) = true) : (Jvm.Cond.code y bytes mx rt).before a s = true := by
  simp only [Bool.and_eq_true, beq_iff_eq, Bool.not_eq_true', decide_eq_true_eq] at h5
  obtain ⟨⟨⟨⟨⟨g1, g2⟩, g3⟩, g4⟩, g5⟩, g6⟩ := h5
  simp [Cond.before, Cond.holds, Cond.value, h1, h2, h3, h4, g1, g2, g3, g4, g5, g6]
def isCode : Jvm.Cond → Bool
  | .code _ _ _ _ => true
  | _ => false
theorem all_split {L : List Jvm.Cond} {P : Jvm.Cond → Bool} (h1 : L.all (fun c => isCode c || P c) = true) (h2 : ∀ c ∈ L.filter isCode, P c = true) : L.all P = true := by
  refine List.all_eq_true.mpr fun c hc => ?_
  have h := List.all_eq_true.mp h1 c hc
  rcases Bool.eq_false_or_eq_true (isCode c) with hi | hi
  · exact h2 c (List.mem_filter.mpr ⟨hc, hi⟩)
  · simpa [hi] using h
set_option maxRecDepth 65536 in
theorem w_c0 : (Jvm.Cond.code x code maxLocals ret).before args0 about1 = true := code_word (m := ⟨1, 3⟩) (meth := k1m3) (c := k1c3) (by decide +kernel) rfl rfl rfl (by decide +kernel)
set_option maxRecDepth 65536 in
theorem w_c1 : (Jvm.Cond.code ({ cls := "com/example/portcullis/portcullis/PrincipalEqualsPinLaw", name := "nameOf", desc := "(III)Ljava/lang/String;" } : Jvm.MethodName) method_3_code (4 : Nat) (Option.some (Jvm.ClassFile.FieldType.object "java/lang/String"))).before args0 about1 = true := code_word (m := ⟨1, 2⟩) (meth := k1m2) (c := k1c2) (by decide +kernel) rfl rfl rfl (by decide +kernel)
set_option maxRecDepth 65536 in
theorem w_c2 : (Jvm.Cond.code ({ cls := "java/lang/String", name := "<init>", desc := "([C)V" } : Jvm.MethodName) jdk_42_method_3_code (2 : Nat) (Option.none : Option Jvm.ClassFile.FieldType)).before args0 about1 = true := code_word (m := ⟨7, 1⟩) (meth := k7m1) (c := k7c1) (by decide +kernel) rfl rfl rfl (by decide +kernel)
set_option maxRecDepth 65536 in
theorem w_c3 : (Jvm.Cond.code ({ cls := "java/lang/String", name := "<init>", desc := "([CIILjava/lang/Void;)V" } : Jvm.MethodName) jdk_42_method_149_code (6 : Nat) (Option.none : Option Jvm.ClassFile.FieldType)).before args0 about1 = true := code_word (m := ⟨7, 3⟩) (meth := k7m3) (c := k7c3) (by decide +kernel) rfl rfl rfl (by decide +kernel)
set_option maxRecDepth 65536 in
theorem w_c4 : (Jvm.Cond.code ({ cls := "java/lang/Object", name := "<init>", desc := "()V" } : Jvm.MethodName) object_method_1_code (1 : Nat) (Option.none : Option Jvm.ClassFile.FieldType)).before args0 about1 = true := code_word (m := ⟨0, 0⟩) (meth := k0m0) (c := k0c0) (by decide +kernel) rfl rfl rfl (by decide +kernel)
set_option maxRecDepth 65536 in
theorem w_c5 : (Jvm.Cond.code ({ cls := "com/example/portcullis/portcullis/PrincipalEqualsPinLaw", name := "kindOf", desc := "(I)Lcom/example/portcullis/portcullis/Principal$Kind;" } : Jvm.MethodName) method_2_code (1 : Nat) (Option.some (Jvm.ClassFile.FieldType.object "com/example/portcullis/portcullis/Principal$Kind"))).before args0 about1 = true := code_word (m := ⟨1, 1⟩) (meth := k1m1) (c := k1c1) (by decide +kernel) rfl rfl rfl (by decide +kernel)
set_option maxRecDepth 65536 in
theorem w_c6 : (Jvm.Cond.code ({ cls := "com/example/portcullis/portcullis/Principal", name := "<init>", desc := "(Lcom/example/portcullis/portcullis/Principal$Kind;Ljava/lang/String;)V" } : Jvm.MethodName) prog_38_method_1_code (3 : Nat) (Option.none : Option Jvm.ClassFile.FieldType)).before args0 about1 = true := code_word (m := ⟨9, 0⟩) (meth := k9m0) (c := k9c0) (by decide +kernel) rfl rfl rfl (by decide +kernel)
set_option maxRecDepth 65536 in
theorem w_c7 : (Jvm.Cond.code ({ cls := "java/lang/Record", name := "<init>", desc := "()V" } : Jvm.MethodName) jdk_30_method_1_code (1 : Nat) (Option.none : Option Jvm.ClassFile.FieldType)).before args0 about1 = true := code_word (m := ⟨8, 0⟩) (meth := k8m0) (c := k8c0) (by decide +kernel) rfl rfl rfl (by decide +kernel)
set_option maxRecDepth 65536 in
theorem w_c8 : (Jvm.Cond.code ({ cls := "com/example/portcullis/portcullis/Principal", name := "equals", desc := "(Ljava/lang/Object;)Z" } : Jvm.MethodName) prog_38_method_2_code (3 : Nat) (Option.some Jvm.ClassFile.FieldType.boolean)).before args0 about1 = true := code_word (m := ⟨9, 1⟩) (meth := k9m1) (c := k9c1) (by decide +kernel) rfl rfl rfl (by decide +kernel)
set_option maxRecDepth 65536 in
theorem w_c9 : (Jvm.Cond.code ({ cls := "java/lang/String", name := "equals", desc := "(Ljava/lang/Object;)Z" } : Jvm.MethodName) jdk_42_method_66_code (3 : Nat) (Option.some Jvm.ClassFile.FieldType.boolean)).before args0 about1 = true := code_word (m := ⟨7, 2⟩) (meth := k7m2) (c := k7c2) (by decide +kernel) rfl rfl rfl (by decide +kernel)
set_option maxRecDepth 65536 in
theorem w_c10 : (Jvm.Cond.code ({ cls := "java/lang/StringLatin1", name := "equals", desc := "([B[B)Z" } : Jvm.MethodName) jdk_43_method_13_code (3 : Nat) (Option.some Jvm.ClassFile.FieldType.boolean)).before args0 about1 = true := code_word (m := ⟨12, 1⟩) (meth := k12m1) (c := k12c1) (by decide +kernel) rfl rfl rfl (by decide +kernel)
set_option maxRecDepth 65536 in
theorem w_c11 : (Jvm.Cond.code ({ cls := "java/lang/StringUTF16", name := "compress", desc := "([CII)[B" } : Jvm.MethodName) jdk_52_method_16_code (6 : Nat) (Option.some (Jvm.ClassFile.FieldType.array Jvm.ClassFile.FieldType.byte))).before args0 about1 = true := code_word (m := ⟨13, 2⟩) (meth := k13m2) (c := k13c2) (by decide +kernel) rfl rfl rfl (by decide +kernel)
set_option maxRecDepth 65536 in
theorem w_c12 : (Jvm.Cond.code ({ cls := "java/lang/StringUTF16", name := "compress", desc := "([CI[BII)I" } : Jvm.MethodName) jdk_52_method_21_code (7 : Nat) (Option.some Jvm.ClassFile.FieldType.int)).before args0 about1 = true := code_word (m := ⟨13, 3⟩) (meth := k13m3) (c := k13c3) (by decide +kernel) rfl rfl rfl (by decide +kernel)
set_option maxRecDepth 65536 in
theorem w_c13 : (Jvm.Cond.code ({ cls := "java/lang/StringUTF16", name := "coderFromArrayLen", desc := "([BI)B" } : Jvm.MethodName) jdk_52_method_15_code (2 : Nat) (Option.some Jvm.ClassFile.FieldType.byte)).before args0 about1 = true := code_word (m := ⟨13, 1⟩) (meth := k13m1) (c := k13c1) (by decide +kernel) rfl rfl rfl (by decide +kernel)
set_option maxRecDepth 65536 in
theorem w_c14 : (Jvm.Cond.code ({ cls := "java/lang/Integer", name := "valueOf", desc := "(I)Ljava/lang/Integer;" } : Jvm.MethodName) jdk_33_method_22_code (1 : Nat) (Option.some (Jvm.ClassFile.FieldType.object "java/lang/Integer"))).before args0 about1 = true := code_word (m := ⟨15, 0⟩) (meth := k15m0) (c := k15c0) (by decide +kernel) rfl rfl rfl (by decide +kernel)
set_option maxRecDepth 65536 in
theorem w_c15 : (Jvm.Cond.code ({ cls := "java/lang/Integer", name := "<init>", desc := "(I)V" } : Jvm.MethodName) jdk_33_method_23_code (2 : Nat) (Option.none : Option Jvm.ClassFile.FieldType)).before args0 about1 = true := code_word (m := ⟨15, 1⟩) (meth := k15m1) (c := k15c1) (by decide +kernel) rfl rfl rfl (by decide +kernel)
set_option maxRecDepth 65536 in
theorem w_c16 : (Jvm.Cond.code ({ cls := "java/lang/Number", name := "<init>", desc := "()V" } : Jvm.MethodName) jdk_18_method_1_code (1 : Nat) (Option.none : Option Jvm.ClassFile.FieldType)).before args0 about1 = true := code_word (m := ⟨14, 0⟩) (meth := k14m0) (c := k14c0) (by decide +kernel) rfl rfl rfl (by decide +kernel)
def codes1 : List Jvm.Cond := [Jvm.Cond.code x code maxLocals ret, Jvm.Cond.code ({ cls := "com/example/portcullis/portcullis/PrincipalEqualsPinLaw", name := "nameOf", desc := "(III)Ljava/lang/String;" } : Jvm.MethodName) method_3_code (4 : Nat) (Option.some (Jvm.ClassFile.FieldType.object "java/lang/String")), Jvm.Cond.code ({ cls := "java/lang/String", name := "<init>", desc := "([C)V" } : Jvm.MethodName) jdk_42_method_3_code (2 : Nat) (Option.none : Option Jvm.ClassFile.FieldType), Jvm.Cond.code ({ cls := "java/lang/String", name := "<init>", desc := "([CIILjava/lang/Void;)V" } : Jvm.MethodName) jdk_42_method_149_code (6 : Nat) (Option.none : Option Jvm.ClassFile.FieldType), Jvm.Cond.code ({ cls := "java/lang/Object", name := "<init>", desc := "()V" } : Jvm.MethodName) object_method_1_code (1 : Nat) (Option.none : Option Jvm.ClassFile.FieldType), Jvm.Cond.code ({ cls := "com/example/portcullis/portcullis/PrincipalEqualsPinLaw", name := "kindOf", desc := "(I)Lcom/example/portcullis/portcullis/Principal$Kind;" } : Jvm.MethodName) method_2_code (1 : Nat) (Option.some (Jvm.ClassFile.FieldType.object "com/example/portcullis/portcullis/Principal$Kind")), Jvm.Cond.code ({ cls := "com/example/portcullis/portcullis/Principal", name := "<init>", desc := "(Lcom/example/portcullis/portcullis/Principal$Kind;Ljava/lang/String;)V" } : Jvm.MethodName) prog_38_method_1_code (3 : Nat) (Option.none : Option Jvm.ClassFile.FieldType), Jvm.Cond.code ({ cls := "java/lang/Record", name := "<init>", desc := "()V" } : Jvm.MethodName) jdk_30_method_1_code (1 : Nat) (Option.none : Option Jvm.ClassFile.FieldType), Jvm.Cond.code ({ cls := "com/example/portcullis/portcullis/Principal", name := "equals", desc := "(Ljava/lang/Object;)Z" } : Jvm.MethodName) prog_38_method_2_code (3 : Nat) (Option.some Jvm.ClassFile.FieldType.boolean), Jvm.Cond.code ({ cls := "java/lang/String", name := "equals", desc := "(Ljava/lang/Object;)Z" } : Jvm.MethodName) jdk_42_method_66_code (3 : Nat) (Option.some Jvm.ClassFile.FieldType.boolean), Jvm.Cond.code ({ cls := "java/lang/StringLatin1", name := "equals", desc := "([B[B)Z" } : Jvm.MethodName) jdk_43_method_13_code (3 : Nat) (Option.some Jvm.ClassFile.FieldType.boolean), Jvm.Cond.code ({ cls := "java/lang/StringUTF16", name := "compress", desc := "([CII)[B" } : Jvm.MethodName) jdk_52_method_16_code (6 : Nat) (Option.some (Jvm.ClassFile.FieldType.array Jvm.ClassFile.FieldType.byte)), Jvm.Cond.code ({ cls := "java/lang/StringUTF16", name := "compress", desc := "([CI[BII)I" } : Jvm.MethodName) jdk_52_method_21_code (7 : Nat) (Option.some Jvm.ClassFile.FieldType.int), Jvm.Cond.code ({ cls := "java/lang/StringUTF16", name := "coderFromArrayLen", desc := "([BI)B" } : Jvm.MethodName) jdk_52_method_15_code (2 : Nat) (Option.some Jvm.ClassFile.FieldType.byte), Jvm.Cond.code ({ cls := "java/lang/Integer", name := "valueOf", desc := "(I)Ljava/lang/Integer;" } : Jvm.MethodName) jdk_33_method_22_code (1 : Nat) (Option.some (Jvm.ClassFile.FieldType.object "java/lang/Integer")), Jvm.Cond.code ({ cls := "java/lang/Integer", name := "<init>", desc := "(I)V" } : Jvm.MethodName) jdk_33_method_23_code (2 : Nat) (Option.none : Option Jvm.ClassFile.FieldType), Jvm.Cond.code ({ cls := "java/lang/Number", name := "<init>", desc := "()V" } : Jvm.MethodName) jdk_18_method_1_code (1 : Nat) (Option.none : Option Jvm.ClassFile.FieldType)]
set_option maxRecDepth 65536 in
theorem codes_eq : words1.filter isCode = codes1 := rfl
theorem w_codes : ∀ c ∈ words1.filter isCode, c.before args0 about1 = true := by
  rw [codes_eq]
  intro c hc
  simp only [codes1, List.mem_cons, List.not_mem_nil, or_false] at hc
  rcases hc with rfl | rfl | rfl | rfl | rfl | rfl | rfl | rfl | rfl | rfl | rfl | rfl | rfl | rfl | rfl | rfl | rfl
  · exact w_c0
  · exact w_c1
  · exact w_c2
  · exact w_c3
  · exact w_c4
  · exact w_c5
  · exact w_c6
  · exact w_c7
  · exact w_c8
  · exact w_c9
  · exact w_c10
  · exact w_c11
  · exact w_c12
  · exact w_c13
  · exact w_c14
  · exact w_c15
  · exact w_c16
set_option maxRecDepth 65536 in
theorem w_t1 : (words1.take 24).all (fun c => isCode c || c.before args0 about1) = true := by decide +kernel
set_option maxRecDepth 65536 in
theorem w_t2 : ((words1.drop 24).take 24).all (fun c => isCode c || c.before args0 about1) = true := by decide +kernel
set_option maxRecDepth 65536 in
theorem w_t3 : (((words1.drop 24).drop 24).take 24).all (fun c => isCode c || c.before args0 about1) = true := by decide +kernel
set_option maxRecDepth 65536 in
theorem w_t4 : ((((words1.drop 24).drop 24).drop 24).take 24).all (fun c => isCode c || c.before args0 about1) = true := by decide +kernel
set_option maxRecDepth 65536 in
theorem w_t5 : ((((words1.drop 24).drop 24).drop 24).drop 24).all (fun c => isCode c || c.before args0 about1) = true := by decide +kernel
theorem w_tables : (allAtoms (Jvm.Cond.code x code maxLocals ret :: tables_1)).before args0 about1 = true := by
  rw [allAtoms_all]
  show words1.all (fun c => c.before args0 about1) = true
  refine all_split ?_ w_codes
  rw [← List.take_append_drop 24 words1, List.all_append, w_t1, ← List.take_append_drop 24 (words1.drop 24), List.all_append, w_t2, ← List.take_append_drop 24 ((words1.drop 24).drop 24), List.all_append, w_t3, ← List.take_append_drop 24 (((words1.drop 24).drop 24).drop 24), List.all_append, w_t4, w_t5]
  rfl
set_option maxRecDepth 65536 in
theorem w_rest : rest_1_c.before args0 about1 = true := by decide +kernel
set_option maxRecDepth 65536 in
theorem w_case : (Jvm.Cond.and given_1 narrow_1).before args0 about1 = true := by decide +kernel
set_option maxRecDepth 65536 in
theorem w_consts : constsHeld consts_1 about1 := Jvm.Lit.constsHeldB_iff.mp (by decide +kernel)
theorem w_applies : (headSpec (Jvm.Cond.code x code maxLocals ret :: tables_1) room_1).applies x e0.platform about1 = true :=
  (Spec.applies_iff w_frames).mpr ⟨w_running, w_runnable, w_alone, w_named, w_hears, w_ripe, w_room, w_tables⟩
set_option maxRecDepth 65536 in
theorem atStart : AtStart classFile x code maxLocals ret World_1 tables_1 room_1 Calls_1 rest_1 Pre_1 launch0 p0 e0 about1 theMethod args0 below0 :=
  ⟨lists_1, trivial, launch0.admits_env _ _ _, launch0.least_env, fairChoices_fair.cas, fairChoices_fair.clock, w_frames, w_args, w_heap, w_applies, ⟨w_consts, trivial⟩, w_rest, w_case⟩
end start1
theorem witness_1 : WitnessClaimed_1 := ⟨start1.p0, start1.e0, start1.about1, start1.theMethod, start1.args0, start1.below0, start1.atStart⟩
end Jvm.Pilot.@@N@@
