import JvmDerived
import JvmDerived.Pilot.@@N@@Statement
import JvmDerived.Pilot.@@N@@Code
set_option linter.unusedVariables false
set_option linter.unusedSimpArgs false
namespace Jvm.Own
open Jvm Jvm.ClassFile Sem Op Lib Jvm.Free Jvm.Stand Jvm.LawKit Jvm.RoadKit Bundle
def D1 (b : ByteArray) (pc : Nat) (i : Instr) (len nx : Nat) : Prop := decode b pc = .ok (i, len) ∧ pc + len = nx
def DJ (b : ByteArray) (pc : Nat) (i : Int → Instr) (o : Int) (nx tgt : Nat) : Prop := decode b pc = .ok (i o, 3) ∧ pc + 3 = nx ∧ (pc : Int) + o = (tgt : Int)
/-- private cells: no booked literal lies there -/
def SafeL (Z : State) (EL : List (String × Nat)) (vm : Vm) (h : Heap) (F : List Addr) : Prop := ∀ x ∈ F, x < h.size ∧ Safe Z EL vm h x
/-- where a walk stands -/
def Std (l : Launch) (Z : State) (EL : List (String × Nat)) (n0 : Nat) (R : Room) (y : MethodName) (bytes : ByteArray) (ml : Nat) (ret : Option FieldType)
    (p : Program) (e : Env) (s : State) (m : MethodId) (args : Array Value) (below : List Frame) (meth : Method) (c : Code) (T : State) (vm0 : Vm) (locs : List Loc) (F : List Addr) (h : Heap) (cells slots : Nat) : Prop :=
  Stand p l e R (s.setVm vm0) m args below meth c T locs cells slots ∧ T.heap = h ∧ (∃ k, s.Since vm0 k ∧ k ≤ h.size) ∧ Z.Warmed39 vm0 ∧ vm0.findClass y.cls = some m.cls ∧ CHr Z EL s.vm s.heap vm0 h ∧ SafeL Z EL vm0 h F ∧ Fr n0 locs ∧ Old Z n0 h ∧
    p.tables.exec = Jvm.exec ∧ c.code = bytes ∧ c.maxLocals = ml ∧ meth.sig.returnType = ret ∧ meth.locks = false ∧ meth.name = y.name ∧ ∃ a0, EW Z a0 EL
/-- how a walk ends -/
def Done (l : Launch) (Z : State) (EL : List (String × Nat)) (n0 : Nat) (R : Room) (Q : Option Value → Heap → List Addr → Prop) (p : Program) (e : Env) (s : State) (below : List Frame) (U : State) : Prop :=
  ∃ t o, Steps p.tables e below U t ∧ t.status = .running ∧ Ended t below o ∧ ∃ v L, o = .returned v ∧ ((∃ F, Q v t.heap F ∧ SafeL Z EL t.vm t.heap F) ∧ Fr n0 L ∧ Old Z n0 t.heap) ∧ CHr Z EL s.vm s.heap t.vm t.heap ∧ ReturnedEndW s o t L R.cells R.slots
/-- from a standing walk at this frame the method returns as Q says -/
def WP (l : Launch) (Z : State) (EL : List (String × Nat)) (n0 : Nat) (R : Room) (y : MethodName) (bytes : ByteArray) (ml : Nat) (ret : Option FieldType) (Q : Option Value → Heap → List Addr → Prop)
    (F : List Addr) (h : Heap) (cells slots pc : Nat) (Ls : Array Slot) (S : List Value) : Prop :=
  ∀ p e s m args below meth c T vm0 locs, Std l Z EL n0 R y bytes ml ret p e s m args below meth c T vm0 locs F h cells slots → Done l Z EL n0 R Q p e s below (T.setTop (mkF m pc Ls S))
section Rules
variable {l : Launch} {Z : State} {EL : List (String × Nat)} {n0 : Nat} {R : Room} {y : MethodName} {bytes : ByteArray} {ml : Nat} {ret : Option FieldType} {Q : Option Value → Heap → List Addr → Prop}
  {F : List Addr} {h : Heap} {cells slots pc pc' : Nat} {Ls Ls' : Array Slot} {S S' : List Value} {a0 : Array Value}
theorem Done.step {p : Program} {e : Env} {s : State} {below : List Frame} {U V : State} (st : ∀ t, Steps p.tables e below U t → Steps p.tables e below V t) (D : Done l Z EL n0 R Q p e s below U) : Done l Z EL n0 R Q p e s below V := by
  obtain ⟨t, o, h1, r⟩ := D
  exact ⟨t, o, st t h1, r⟩
theorem WP.lift (st : ∀ (p : Program) (e : Env) (m : MethodId) (c : Code) (below : List Frame) (T t : State), p.tables.exec = Jvm.exec → c.code = bytes → At T m c below → Steps p.tables e below (T.setTop (mkF m pc' Ls' S')) t → Steps p.tables e below (T.setTop (mkF m pc Ls S)) t)
    (k : WP l Z EL n0 R y bytes ml ret Q F h cells slots pc' Ls' S') : WP l Z EL n0 R y bytes ml ret Q F h cells slots pc Ls S :=
  fun p e s m args below meth c T vm0 locs D => (k p e s m args below meth c T vm0 locs D).step fun t q => st p e m c below T t D.2.2.2.2.2.2.2.2.2.1 D.2.2.2.2.2.2.2.2.2.2.1 D.1.here q
/-- a step that leaves the heap -/
theorem WP.same (st : ∀ (p : Program) (e : Env) (s : State) (m : MethodId) (args : Array Value) (below : List Frame) (meth : Method) (c : Code) (T : State) (vm0 : Vm) (locs : List Loc), Std l Z EL n0 R y bytes ml ret p e s m args below meth c T vm0 locs F h cells slots →
      ∃ T', Stand p l e R (s.setVm vm0) m args below meth c T' locs cells slots ∧ T'.heap = h ∧ ∀ t, Steps p.tables e below (T'.setTop (mkF m pc' Ls' S')) t → Steps p.tables e below (T.setTop (mkF m pc Ls S)) t)
    (k : WP l Z EL n0 R y bytes ml ret Q F h cells slots pc' Ls' S') : WP l Z EL n0 R y bytes ml ret Q F h cells slots pc Ls S := by
  intro p e s m args below meth c T vm0 locs D
  obtain ⟨T', X', e', q⟩ := st p e s m args below meth c T vm0 locs D
  obtain ⟨-, -, r⟩ := D
  exact (k p e s m args below meth c T' vm0 locs ⟨X', e', r⟩).step q
/-- a step that makes a cell -/
theorem WP.grow {P : Heap → Prop} {cells' slots' : Nat} {G : List Addr} (hG : ∀ h', Ext h h' → P h' → ∀ x ∈ G, x < h'.size ∧ h.size ≤ x) (st : ∀ (p : Program) (e : Env) (s : State) (m : MethodId) (args : Array Value) (below : List Frame) (meth : Method) (c : Code) (T : State) (vm0 : Vm) (locs : List Loc), Std l Z EL n0 R y bytes ml ret p e s m args below meth c T vm0 locs F h cells slots →
      ∃ T' h', Stand p l e R (s.setVm vm0) m args below meth c T' locs cells' slots' ∧ T'.heap = h' ∧ Ext h h' ∧ P h' ∧ ∀ t, Steps p.tables e below (T'.setTop (mkF m pc' Ls' S')) t → Steps p.tables e below (T.setTop (mkF m pc Ls S)) t)
    (k : ∀ h', Ext h h' → P h' → WP l Z EL n0 R y bytes ml ret Q (G ++ F) h' cells' slots' pc' Ls' S') : WP l Z EL n0 R y bytes ml ret Q F h cells slots pc Ls S := by
  intro p e s m args below meth c T vm0 locs D
  obtain ⟨T', h', X', e', E, hP, q⟩ := st p e s m args below meth c T vm0 locs D
  obtain ⟨-, -, ⟨k0, hS, hk⟩, hZ, hown, hC, hF, hN, hO, r⟩ := D
  refine (k h' E hP p e s m args below meth c T' vm0 locs ⟨X', e', ⟨k0, hS, Nat.le_trans hk E.1⟩, hZ, hown, hC.trans (CHr.ext E hC.1), fun x hx => ?_, hN, hO.ext E, r⟩).step q
  rcases List.mem_append.mp hx with hx | hx
  · obtain ⟨q1, q2⟩ := hG h' E hP x hx
    exact ⟨q1, fun B => Safe.new q2 ((hC.1.step fun _ _ _ q => E.2 _ _ q).2 _ B)⟩
  · exact ⟨Nat.lt_of_lt_of_le (hF x hx).1 E.1, (hF x hx).2.ext E hC.1⟩
/-- how a write is known to hit no literal -/
def SafeBy (Z : State) (EL : List (String × Nat)) (F : List Addr) (h : Heap) (a : Addr) : Prop := a < h.size ∧ ∀ vm, Z.vm.Alike vm → SafeL Z EL vm h F → Safe Z EL vm h a
theorem SafeBy.mem {a : Addr} (hl : a < h.size) (hm : a ∈ F) : SafeBy Z EL F h a := ⟨hl, fun _ _ q => (q a hm).2⟩
theorem SafeBy.exa {a : Addr} {C : String} (E : Exa Z h a C) (h1 : C ≠ "java/lang/String" := by decide) (h2 : C ≠ "[B" := by decide) : SafeBy Z EL F h a := ⟨E.lt, fun _ hal _ => Safe.exa hal E h1 h2⟩
theorem SafeBy.arr {a : Addr} {cl : Cell} {ty : FieldType} (A : Arr Z h a cl ty) (ht : ty ≠ .byte := by decide) : SafeBy Z EL F h a := ⟨A.lt, fun _ hal _ => Safe.arr hal A ht⟩
/-- a step that writes one place -/
theorem WP.write {a : Addr} {sl : Nat} {v : Value} (na : n0 ≤ a) (hs : SafeBy Z EL F h a) (st : ∀ (p : Program) (e : Env) (s : State) (m : MethodId) (args : Array Value) (below : List Frame) (meth : Method) (c : Code) (T : State) (vm0 : Vm) (locs : List Loc), Std l Z EL n0 R y bytes ml ret p e s m args below meth c T vm0 locs F h cells slots →
      ∃ T' h', Stand p l e R (s.setVm vm0) m args below meth c T' (locs ++ [⟨a, sl⟩]) cells slots ∧ T'.heap = h' ∧ Wr h h' a sl v ∧ ∀ t, Steps p.tables e below (T'.setTop (mkF m pc' Ls' S')) t → Steps p.tables e below (T.setTop (mkF m pc Ls S)) t)
    (k : ∀ h', Wr h h' a sl v → WP l Z EL n0 R y bytes ml ret Q F h' cells slots pc' Ls' S') : WP l Z EL n0 R y bytes ml ret Q F h cells slots pc Ls S := by
  intro p e s m args below meth c T vm0 locs D
  obtain ⟨T', h', X', e', W, q⟩ := st p e s m args below meth c T vm0 locs D
  obtain ⟨-, -, ⟨k0, hS, hk⟩, hZ, hown, hC, hF, hN, hO, r⟩ := D
  have sa := hs.2 vm0 hZ.alike hF
  refine (k h' W p e s m args below meth c T' vm0 _ ⟨X', e', ⟨k0, hS, by rw [W.size]; exact hk⟩, hZ, hown, hC.trans (CHr.wr W sa hC.1), fun x hx => ⟨by rw [W.size]; exact (hF x hx).1, Safe.wr W sa hC.1 (hF x hx).2⟩, Fr.snoc X' hN na, hO.wr W na, r⟩).step q
theorem WP.more {cells' slots' : Nat} (hc : cells ≤ cells') (hl : slots ≤ slots') (k : WP l Z EL n0 R y bytes ml ret Q F h cells' slots' pc Ls S) : WP l Z EL n0 R y bytes ml ret Q F h cells slots pc Ls S := by
  intro p e s m args below meth c T vm0 locs D
  obtain ⟨X, r⟩ := D
  exact k p e s m args below meth c T vm0 locs ⟨X.more hc hl, r⟩
theorem WP.less {F' : List Addr} (hF : ∀ x ∈ F', x ∈ F) (k : WP l Z EL n0 R y bytes ml ret Q F' h cells slots pc Ls S) : WP l Z EL n0 R y bytes ml ret Q F h cells slots pc Ls S := by
  intro p e s m args below meth c T vm0 locs D
  obtain ⟨X, e0, hS, hZ, hown, hC, hs, r⟩ := D
  exact k p e s m args below meth c T vm0 locs ⟨X, e0, hS, hZ, hown, hC, fun x hx => hs x (hF x hx), r⟩
/-- the end -/
theorem WP.leave {v : Option Value} (st : ∀ (p : Program) (e : Env) (s : State) (m : MethodId) (args : Array Value) (below : List Frame) (meth : Method) (c : Code) (T : State) (vm0 : Vm) (locs : List Loc) (fs : List Frame), Std l Z EL n0 R y bytes ml ret p e s m args below meth c T vm0 locs F h cells slots →
      (∀ (f : JFrame) (acts : List Action), f.method = m → f.locked = none → f.entered = [] → (doReturn e (T.setTop f) acts v).1 = T.setFrames fs) → Steps p.tables e below (T.setTop (mkF m pc Ls S)) (T.setFrames fs))
    (hv : ret = none → v = none) (hc : cells ≤ R.cells) (hl : slots ≤ R.slots) {G : List Addr} (hG : ∀ x ∈ G, x ∈ F) (hQ : Q v h G) : WP l Z EL n0 R y bytes ml ret Q F h cells slots pc Ls S := by
  intro p e s m args below meth c T vm0 locs D
  have D' := D
  obtain ⟨X, e0, ⟨k0, hS, hk⟩, hZ, hown, hC, hF, hN, hO, hx, hby, hml, hret, hlk, hnm, a0, hEL⟩ := D
  obtain ⟨fs, h1, h2, h3, h4, h5, h6, h7⟩ := X.leaveW hS (by rw [e0]; exact hk) (v := v) (fun q => hv (hret ▸ q)) hlk
  have hhp : (T.setFrames fs).heap = h := by rw [← e0]; rfl
  have B : CHr Z EL vm0 h T.vm h := CHv.at X hZ hEL hC.1
  refine ⟨_, _, st p e s m args below meth c T vm0 locs fs D' h1, h2, h3, v, locs, rfl, ⟨⟨G, by rw [hhp]; exact hQ, fun x hx => ?_⟩, hN, by rw [hhp]; exact hO⟩, by rw [hhp]; exact hC.trans B, h4, h5, h6, h7.mono hc hl⟩
  rw [hhp]
  exact ⟨(hF x (hG x hx)).1, B.safe (hF x (hG x hx)).1 (hF x (hG x hx)).2⟩
end Rules
section Plain
variable {l : Launch} {Z : State} {EL : List (String × Nat)} {n0 : Nat} {R : Room} {y : MethodName} {bytes : ByteArray} {ml : Nat} {ret : Option FieldType} {Q : Option Value → Heap → List Addr → Prop}
  {F : List Addr} {h : Heap} {cells slots pc pc' : Nat} {Ls Ls' : Array Slot} {S S' : List Value} {a0 : Array Value}
theorem WP.iadd {x y' : Int32} (hd : D1 bytes pc .iadd 1 pc') (k : WP l Z EL n0 R y bytes ml ret Q F h cells slots pc' Ls (.int (x + y') :: S)) : WP l Z EL n0 R y bytes ml ret Q F h cells slots pc Ls (.int y' :: .int x :: S) := by
  obtain ⟨hd, rfl⟩ := hd
  exact k.lift fun p e m c below T t hx hby ha q => XS.iadd ha hx rfl (hb hby hd) rfl q
theorem WP.isub {x y' : Int32} (hd : D1 bytes pc .isub 1 pc') (k : WP l Z EL n0 R y bytes ml ret Q F h cells slots pc' Ls (.int (x - y') :: S)) : WP l Z EL n0 R y bytes ml ret Q F h cells slots pc Ls (.int y' :: .int x :: S) := by
  obtain ⟨hd, rfl⟩ := hd
  exact k.lift fun p e m c below T t hx hby ha q => XS.isub ha hx rfl (hb hby hd) rfl q
theorem WP.imul {x y' : Int32} (hd : D1 bytes pc .imul 1 pc') (k : WP l Z EL n0 R y bytes ml ret Q F h cells slots pc' Ls (.int (x * y') :: S)) : WP l Z EL n0 R y bytes ml ret Q F h cells slots pc Ls (.int y' :: .int x :: S) := by
  obtain ⟨hd, rfl⟩ := hd
  exact k.lift fun p e m c below T t hx hby ha q => XS.imul ha hx rfl (hb hby hd) rfl q
theorem WP.iand {x y' : Int32} (hd : D1 bytes pc .iand 1 pc') (k : WP l Z EL n0 R y bytes ml ret Q F h cells slots pc' Ls (.int (x &&& y') :: S)) : WP l Z EL n0 R y bytes ml ret Q F h cells slots pc Ls (.int y' :: .int x :: S) := by
  obtain ⟨hd, rfl⟩ := hd
  exact k.lift fun p e m c below T t hx hby ha q => XS.iand ha hx rfl (hb hby hd) rfl q
theorem WP.ior {x y' : Int32} (hd : D1 bytes pc .ior 1 pc') (k : WP l Z EL n0 R y bytes ml ret Q F h cells slots pc' Ls (.int (x ||| y') :: S)) : WP l Z EL n0 R y bytes ml ret Q F h cells slots pc Ls (.int y' :: .int x :: S) := by
  obtain ⟨hd, rfl⟩ := hd
  exact k.lift fun p e m c below T t hx hby ha q => XS.ior ha hx rfl (hb hby hd) rfl q
theorem WP.ixor {x y' : Int32} (hd : D1 bytes pc .ixor 1 pc') (k : WP l Z EL n0 R y bytes ml ret Q F h cells slots pc' Ls (.int (x ^^^ y') :: S)) : WP l Z EL n0 R y bytes ml ret Q F h cells slots pc Ls (.int y' :: .int x :: S) := by
  obtain ⟨hd, rfl⟩ := hd
  exact k.lift fun p e m c below T t hx hby ha q => XS.ixor ha hx rfl (hb hby hd) rfl q
theorem WP.ishl {x y' : Int32} (hd : D1 bytes pc .ishl 1 pc') (k : WP l Z EL n0 R y bytes ml ret Q F h cells slots pc' Ls (.int (x <<< (y' &&& 31)) :: S)) : WP l Z EL n0 R y bytes ml ret Q F h cells slots pc Ls (.int y' :: .int x :: S) := by
  obtain ⟨hd, rfl⟩ := hd
  exact k.lift fun p e m c below T t hx hby ha q => XS.ishl ha hx rfl (hb hby hd) rfl q
theorem WP.ishr {x y' : Int32} (hd : D1 bytes pc .ishr 1 pc') (k : WP l Z EL n0 R y bytes ml ret Q F h cells slots pc' Ls (.int (x >>> (y' &&& 31)) :: S)) : WP l Z EL n0 R y bytes ml ret Q F h cells slots pc Ls (.int y' :: .int x :: S) := by
  obtain ⟨hd, rfl⟩ := hd
  exact k.lift fun p e m c below T t hx hby ha q => XS.ishr ha hx rfl (hb hby hd) rfl q
theorem WP.iushr {x y' : Int32} (hd : D1 bytes pc .iushr 1 pc') (k : WP l Z EL n0 R y bytes ml ret Q F h cells slots pc' Ls (.int ((x.toUInt32 >>> (y' &&& 31).toUInt32).toInt32) :: S)) : WP l Z EL n0 R y bytes ml ret Q F h cells slots pc Ls (.int y' :: .int x :: S) := by
  obtain ⟨hd, rfl⟩ := hd
  exact k.lift fun p e m c below T t hx hby ha q => XS.iushr ha hx rfl (hb hby hd) rfl q
theorem WP.idiv {x y' : Int32} (hd : D1 bytes pc .idiv 1 pc') (hy : y' ≠ 0) (k : WP l Z EL n0 R y bytes ml ret Q F h cells slots pc' Ls (.int (x / y') :: S)) : WP l Z EL n0 R y bytes ml ret Q F h cells slots pc Ls (.int y' :: .int x :: S) := by
  obtain ⟨hd, rfl⟩ := hd
  exact k.lift fun p e m c below T t hx hby ha q => XS.idiv ha hx rfl (hb hby hd) rfl hy q
theorem WP.irem {x y' : Int32} (hd : D1 bytes pc .irem 1 pc') (hy : y' ≠ 0) (k : WP l Z EL n0 R y bytes ml ret Q F h cells slots pc' Ls (.int (x - (x / y') * y') :: S)) : WP l Z EL n0 R y bytes ml ret Q F h cells slots pc Ls (.int y' :: .int x :: S) := by
  obtain ⟨hd, rfl⟩ := hd
  exact k.lift fun p e m c below T t hx hby ha q => XS.irem ha hx rfl (hb hby hd) rfl hy q
theorem WP.ladd {x y' : Int64} (hd : D1 bytes pc .ladd 1 pc') (k : WP l Z EL n0 R y bytes ml ret Q F h cells slots pc' Ls (.long (x + y') :: S)) : WP l Z EL n0 R y bytes ml ret Q F h cells slots pc Ls (.long y' :: .long x :: S) := by
  obtain ⟨hd, rfl⟩ := hd
  exact k.lift fun p e m c below T t hx hby ha q => XS.ladd ha hx rfl (hb hby hd) rfl q
theorem WP.lsub {x y' : Int64} (hd : D1 bytes pc .lsub 1 pc') (k : WP l Z EL n0 R y bytes ml ret Q F h cells slots pc' Ls (.long (x - y') :: S)) : WP l Z EL n0 R y bytes ml ret Q F h cells slots pc Ls (.long y' :: .long x :: S) := by
  obtain ⟨hd, rfl⟩ := hd
  exact k.lift fun p e m c below T t hx hby ha q => XS.lsub ha hx rfl (hb hby hd) rfl q
theorem WP.lmul {x y' : Int64} (hd : D1 bytes pc .lmul 1 pc') (k : WP l Z EL n0 R y bytes ml ret Q F h cells slots pc' Ls (.long (x * y') :: S)) : WP l Z EL n0 R y bytes ml ret Q F h cells slots pc Ls (.long y' :: .long x :: S) := by
  obtain ⟨hd, rfl⟩ := hd
  exact k.lift fun p e m c below T t hx hby ha q => XS.lmul ha hx rfl (hb hby hd) rfl q
theorem WP.land {x y' : Int64} (hd : D1 bytes pc .land 1 pc') (k : WP l Z EL n0 R y bytes ml ret Q F h cells slots pc' Ls (.long (x &&& y') :: S)) : WP l Z EL n0 R y bytes ml ret Q F h cells slots pc Ls (.long y' :: .long x :: S) := by
  obtain ⟨hd, rfl⟩ := hd
  exact k.lift fun p e m c below T t hx hby ha q => XS.land ha hx rfl (hb hby hd) rfl q
theorem WP.lor {x y' : Int64} (hd : D1 bytes pc .lor 1 pc') (k : WP l Z EL n0 R y bytes ml ret Q F h cells slots pc' Ls (.long (x ||| y') :: S)) : WP l Z EL n0 R y bytes ml ret Q F h cells slots pc Ls (.long y' :: .long x :: S) := by
  obtain ⟨hd, rfl⟩ := hd
  exact k.lift fun p e m c below T t hx hby ha q => XS.lor ha hx rfl (hb hby hd) rfl q
theorem WP.lxor {x y' : Int64} (hd : D1 bytes pc .lxor 1 pc') (k : WP l Z EL n0 R y bytes ml ret Q F h cells slots pc' Ls (.long (x ^^^ y') :: S)) : WP l Z EL n0 R y bytes ml ret Q F h cells slots pc Ls (.long y' :: .long x :: S) := by
  obtain ⟨hd, rfl⟩ := hd
  exact k.lift fun p e m c below T t hx hby ha q => XS.lxor ha hx rfl (hb hby hd) rfl q
theorem WP.ldiv {x y' : Int64} (hd : D1 bytes pc .ldiv 1 pc') (hy : y' ≠ 0) (k : WP l Z EL n0 R y bytes ml ret Q F h cells slots pc' Ls (.long (x / y') :: S)) : WP l Z EL n0 R y bytes ml ret Q F h cells slots pc Ls (.long y' :: .long x :: S) := by
  obtain ⟨hd, rfl⟩ := hd
  exact k.lift fun p e m c below T t hx hby ha q => XS.ldiv ha hx rfl (hb hby hd) rfl hy q
theorem WP.lrem {x y' : Int64} (hd : D1 bytes pc .lrem 1 pc') (hy : y' ≠ 0) (k : WP l Z EL n0 R y bytes ml ret Q F h cells slots pc' Ls (.long (x - (x / y') * y') :: S)) : WP l Z EL n0 R y bytes ml ret Q F h cells slots pc Ls (.long y' :: .long x :: S) := by
  obtain ⟨hd, rfl⟩ := hd
  exact k.lift fun p e m c below T t hx hby ha q => XS.lrem ha hx rfl (hb hby hd) rfl hy q
theorem WP.lshl {x : Int64} {y' : Int32} (hd : D1 bytes pc .lshl 1 pc') (k : WP l Z EL n0 R y bytes ml ret Q F h cells slots pc' Ls (.long (x <<< (y' &&& 0x3f).toInt64) :: S)) : WP l Z EL n0 R y bytes ml ret Q F h cells slots pc Ls (.int y' :: .long x :: S) := by
  obtain ⟨hd, rfl⟩ := hd
  exact k.lift fun p e m c below T t hx hby ha q => XS.lshl ha hx rfl (hb hby hd) rfl q
theorem WP.lshr {x : Int64} {y' : Int32} (hd : D1 bytes pc .lshr 1 pc') (k : WP l Z EL n0 R y bytes ml ret Q F h cells slots pc' Ls (.long (x >>> (y' &&& 0x3f).toInt64) :: S)) : WP l Z EL n0 R y bytes ml ret Q F h cells slots pc Ls (.int y' :: .long x :: S) := by
  obtain ⟨hd, rfl⟩ := hd
  exact k.lift fun p e m c below T t hx hby ha q => XS.lshr ha hx rfl (hb hby hd) rfl q
theorem WP.lushr {x : Int64} {y' : Int32} (hd : D1 bytes pc .lushr 1 pc') (k : WP l Z EL n0 R y bytes ml ret Q F h cells slots pc' Ls (.long ((x.toUInt64 >>> (y' &&& 0x3f).toInt64.toUInt64).toInt64) :: S)) : WP l Z EL n0 R y bytes ml ret Q F h cells slots pc Ls (.int y' :: .long x :: S) := by
  obtain ⟨hd, rfl⟩ := hd
  exact k.lift fun p e m c below T t hx hby ha q => XS.lushr ha hx rfl (hb hby hd) rfl q
theorem WP.lcmp {x y' : Int64} (hd : D1 bytes pc .lcmp 1 pc') (k : WP l Z EL n0 R y bytes ml ret Q F h cells slots pc' Ls (.int (lcmpW x y') :: S)) : WP l Z EL n0 R y bytes ml ret Q F h cells slots pc Ls (.long y' :: .long x :: S) := by
  obtain ⟨hd, rfl⟩ := hd
  exact k.lift fun p e m c below T t hx hby ha q => XS.lcmp ha hx rfl (hb hby hd) rfl q
theorem WP.ineg {x : Int32} (hd : D1 bytes pc .ineg 1 pc') (k : WP l Z EL n0 R y bytes ml ret Q F h cells slots pc' Ls (.int (-x) :: S)) : WP l Z EL n0 R y bytes ml ret Q F h cells slots pc Ls (.int x :: S) := by
  obtain ⟨hd, rfl⟩ := hd
  exact k.lift fun p e m c below T t hx hby ha q => XS.ineg ha hx rfl (hb hby hd) rfl q
theorem WP.lneg {x : Int64} (hd : D1 bytes pc .lneg 1 pc') (k : WP l Z EL n0 R y bytes ml ret Q F h cells slots pc' Ls (.long (-x) :: S)) : WP l Z EL n0 R y bytes ml ret Q F h cells slots pc Ls (.long x :: S) := by
  obtain ⟨hd, rfl⟩ := hd
  exact k.lift fun p e m c below T t hx hby ha q => XS.lneg ha hx rfl (hb hby hd) rfl q
theorem WP.i2l {x : Int32} (hd : D1 bytes pc .i2l 1 pc') (k : WP l Z EL n0 R y bytes ml ret Q F h cells slots pc' Ls (.long (x.toInt64) :: S)) : WP l Z EL n0 R y bytes ml ret Q F h cells slots pc Ls (.int x :: S) := by
  obtain ⟨hd, rfl⟩ := hd
  exact k.lift fun p e m c below T t hx hby ha q => XS.i2l ha hx rfl (hb hby hd) rfl q
theorem WP.l2i {x : Int64} (hd : D1 bytes pc .l2i 1 pc') (k : WP l Z EL n0 R y bytes ml ret Q F h cells slots pc' Ls (.int (x.toInt32) :: S)) : WP l Z EL n0 R y bytes ml ret Q F h cells slots pc Ls (.long x :: S) := by
  obtain ⟨hd, rfl⟩ := hd
  exact k.lift fun p e m c below T t hx hby ha q => XS.l2i ha hx rfl (hb hby hd) rfl q
theorem WP.i2b {x : Int32} (hd : D1 bytes pc .i2b 1 pc') (k : WP l Z EL n0 R y bytes ml ret Q F h cells slots pc' Ls (.int (x.toInt8.toInt32) :: S)) : WP l Z EL n0 R y bytes ml ret Q F h cells slots pc Ls (.int x :: S) := by
  obtain ⟨hd, rfl⟩ := hd
  exact k.lift fun p e m c below T t hx hby ha q => XS.i2b ha hx rfl (hb hby hd) rfl q
theorem WP.i2s {x : Int32} (hd : D1 bytes pc .i2s 1 pc') (k : WP l Z EL n0 R y bytes ml ret Q F h cells slots pc' Ls (.int (x.toInt16.toInt32) :: S)) : WP l Z EL n0 R y bytes ml ret Q F h cells slots pc Ls (.int x :: S) := by
  obtain ⟨hd, rfl⟩ := hd
  exact k.lift fun p e m c below T t hx hby ha q => XS.i2s ha hx rfl (hb hby hd) rfl q
theorem WP.i2c {x : Int32} (hd : D1 bytes pc .i2c 1 pc') (k : WP l Z EL n0 R y bytes ml ret Q F h cells slots pc' Ls (.int (x.toUInt32.toUInt16.toUInt32.toInt32) :: S)) : WP l Z EL n0 R y bytes ml ret Q F h cells slots pc Ls (.int x :: S) := by
  obtain ⟨hd, rfl⟩ := hd
  exact k.lift fun p e m c below T t hx hby ha q => XS.i2c ha hx rfl (hb hby hd) rfl q
theorem WP.iload_n {i : Fin 4} {x : Int32} (hd : D1 bytes pc (.iload_n i) 1 pc') (hl : Ls[i.val]? = some (.val (.int x))) (k : WP l Z EL n0 R y bytes ml ret Q F h cells slots pc' Ls (.int x :: S)) : WP l Z EL n0 R y bytes ml ret Q F h cells slots pc Ls S := by
  obtain ⟨hd, rfl⟩ := hd
  exact k.lift fun p e m c below T t hx hby ha q => XS.iloadN ha hx rfl (hb hby hd) hl q
theorem WP.iload {i : Nat} {x : Int32} (hd : D1 bytes pc (.iload i) 2 pc') (hl : Ls[i]? = some (.val (.int x))) (k : WP l Z EL n0 R y bytes ml ret Q F h cells slots pc' Ls (.int x :: S)) : WP l Z EL n0 R y bytes ml ret Q F h cells slots pc Ls S := by
  obtain ⟨hd, rfl⟩ := hd
  exact k.lift fun p e m c below T t hx hby ha q => XS.iload ha hx rfl (hb hby hd) hl q
theorem WP.lload_n {i : Fin 4} {x : Int64} (hd : D1 bytes pc (.lload_n i) 1 pc') (hl : Ls[i.val]? = some (.val (.long x))) (k : WP l Z EL n0 R y bytes ml ret Q F h cells slots pc' Ls (.long x :: S)) : WP l Z EL n0 R y bytes ml ret Q F h cells slots pc Ls S := by
  obtain ⟨hd, rfl⟩ := hd
  exact k.lift fun p e m c below T t hx hby ha q => XS.lloadN ha hx rfl (hb hby hd) hl q
theorem WP.lload {i : Nat} {x : Int64} (hd : D1 bytes pc (.lload i) 2 pc') (hl : Ls[i]? = some (.val (.long x))) (k : WP l Z EL n0 R y bytes ml ret Q F h cells slots pc' Ls (.long x :: S)) : WP l Z EL n0 R y bytes ml ret Q F h cells slots pc Ls S := by
  obtain ⟨hd, rfl⟩ := hd
  exact k.lift fun p e m c below T t hx hby ha q => XS.lload ha hx rfl (hb hby hd) hl q
theorem WP.aload_n {i : Fin 4} {x : Value} (hd : D1 bytes pc (.aload_n i) 1 pc') (hl : Ls[i.val]? = some (.val x)) (hv : x.isRef = true) (k : WP l Z EL n0 R y bytes ml ret Q F h cells slots pc' Ls (x :: S)) : WP l Z EL n0 R y bytes ml ret Q F h cells slots pc Ls S := by
  obtain ⟨hd, rfl⟩ := hd
  exact k.lift fun p e m c below T t hx hby ha q => XS.aloadN ha hx rfl (hb hby hd) hl hv q
theorem WP.aload {i : Nat} {x : Value} (hd : D1 bytes pc (.aload i) 2 pc') (hl : Ls[i]? = some (.val x)) (hv : x.isRef = true) (k : WP l Z EL n0 R y bytes ml ret Q F h cells slots pc' Ls (x :: S)) : WP l Z EL n0 R y bytes ml ret Q F h cells slots pc Ls S := by
  obtain ⟨hd, rfl⟩ := hd
  exact k.lift fun p e m c below T t hx hby ha q => XS.aload ha hx rfl (hb hby hd) hl hv q
theorem WP.istore_n {i : Fin 4} {x z : Int32} (hd : D1 bytes pc (.istore_n i) 1 pc') (hz : x = z) (hl : storeLocals Ls i.val (.int z) = some Ls') (k : WP l Z EL n0 R y bytes ml ret Q F h cells slots pc' Ls' S) : WP l Z EL n0 R y bytes ml ret Q F h cells slots pc Ls (.int x :: S) := by
  obtain ⟨hd, rfl⟩ := hd
  subst hz
  exact k.lift fun p e m c below T t hx hby ha q => XS.istoreN ha hx rfl (hb hby hd) rfl hl q
theorem WP.istore {i : Nat} {x z : Int32} (hd : D1 bytes pc (.istore i) 2 pc') (hz : x = z) (hl : storeLocals Ls i (.int z) = some Ls') (k : WP l Z EL n0 R y bytes ml ret Q F h cells slots pc' Ls' S) : WP l Z EL n0 R y bytes ml ret Q F h cells slots pc Ls (.int x :: S) := by
  obtain ⟨hd, rfl⟩ := hd
  subst hz
  exact k.lift fun p e m c below T t hx hby ha q => XS.istore ha hx rfl (hb hby hd) rfl hl q
theorem WP.lstore_n {i : Fin 4} {x z : Int64} (hd : D1 bytes pc (.lstore_n i) 1 pc') (hz : x = z) (hl : storeLocals Ls i.val (.long z) = some Ls') (k : WP l Z EL n0 R y bytes ml ret Q F h cells slots pc' Ls' S) : WP l Z EL n0 R y bytes ml ret Q F h cells slots pc Ls (.long x :: S) := by
  obtain ⟨hd, rfl⟩ := hd
  subst hz
  exact k.lift fun p e m c below T t hx hby ha q => XS.lstoreN ha hx rfl (hb hby hd) rfl hl q
theorem WP.lstore {i : Nat} {x z : Int64} (hd : D1 bytes pc (.lstore i) 2 pc') (hz : x = z) (hl : storeLocals Ls i (.long z) = some Ls') (k : WP l Z EL n0 R y bytes ml ret Q F h cells slots pc' Ls' S) : WP l Z EL n0 R y bytes ml ret Q F h cells slots pc Ls (.long x :: S) := by
  obtain ⟨hd, rfl⟩ := hd
  subst hz
  exact k.lift fun p e m c below T t hx hby ha q => XS.lstore ha hx rfl (hb hby hd) rfl hl q
theorem WP.astore_n {i : Fin 4} {x : Value} (hd : D1 bytes pc (.astore_n i) 1 pc') (hl : storeLocals Ls i.val x = some Ls') (hv : x.isRef = true) (k : WP l Z EL n0 R y bytes ml ret Q F h cells slots pc' Ls' S) : WP l Z EL n0 R y bytes ml ret Q F h cells slots pc Ls (x :: S) := by
  obtain ⟨hd, rfl⟩ := hd
  exact k.lift fun p e m c below T t hx hby ha q => XS.astoreN ha hx rfl (hb hby hd) rfl hv hl q
theorem WP.astore {i : Nat} {x : Value} (hd : D1 bytes pc (.astore i) 2 pc') (hl : storeLocals Ls i x = some Ls') (hv : x.isRef = true) (k : WP l Z EL n0 R y bytes ml ret Q F h cells slots pc' Ls' S) : WP l Z EL n0 R y bytes ml ret Q F h cells slots pc Ls (x :: S) := by
  obtain ⟨hd, rfl⟩ := hd
  exact k.lift fun p e m c below T t hx hby ha q => XS.astore ha hx rfl (hb hby hd) rfl hv hl q
theorem WP.iinc {i : Nat} {cst : Int} {x v : Int32} (hd : D1 bytes pc (.iinc i cst) 3 pc') (hl : Ls[i]? = some (.val (.int x))) (hv : x + Int32.ofInt cst = v) (hl' : storeLocals Ls i (.int v) = some Ls') (k : WP l Z EL n0 R y bytes ml ret Q F h cells slots pc' Ls' S) : WP l Z EL n0 R y bytes ml ret Q F h cells slots pc Ls S := by
  obtain ⟨hd, rfl⟩ := hd
  subst hv
  exact k.lift fun p e m c below T t hx hby ha q => XS.iinc ha hx rfl (hb hby hd) hl hl' q
theorem WP.iconst {i : Int} {v : Int32} (hd : D1 bytes pc (.iconst i) 1 pc') (hv : Int32.ofInt i = v) (k : WP l Z EL n0 R y bytes ml ret Q F h cells slots pc' Ls (.int v :: S)) : WP l Z EL n0 R y bytes ml ret Q F h cells slots pc Ls S := by
  obtain ⟨hd, rfl⟩ := hd
  subst hv
  exact k.lift fun p e m c below T t hx hby ha q => XS.iconst ha hx rfl (hb hby hd) q
theorem WP.bipush {i : Int} {v : Int32} (hd : D1 bytes pc (.bipush i) 2 pc') (hv : (Int8.ofInt i).toInt32 = v) (k : WP l Z EL n0 R y bytes ml ret Q F h cells slots pc' Ls (.int v :: S)) : WP l Z EL n0 R y bytes ml ret Q F h cells slots pc Ls S := by
  obtain ⟨hd, rfl⟩ := hd
  subst hv
  exact k.lift fun p e m c below T t hx hby ha q => XS.bipush ha hx rfl (hb hby hd) q
theorem WP.sipush {i : Int} {v : Int32} (hd : D1 bytes pc (.sipush i) 3 pc') (hv : (Int16.ofInt i).toInt32 = v) (k : WP l Z EL n0 R y bytes ml ret Q F h cells slots pc' Ls (.int v :: S)) : WP l Z EL n0 R y bytes ml ret Q F h cells slots pc Ls S := by
  obtain ⟨hd, rfl⟩ := hd
  subst hv
  exact k.lift fun p e m c below T t hx hby ha q => XS.sipush ha hx rfl (hb hby hd) q
theorem WP.lconst {i : Fin 2} {v : Int64} (hd : D1 bytes pc (.lconst i) 1 pc') (hv : Int64.ofNat i = v) (k : WP l Z EL n0 R y bytes ml ret Q F h cells slots pc' Ls (.long v :: S)) : WP l Z EL n0 R y bytes ml ret Q F h cells slots pc Ls S := by
  obtain ⟨hd, rfl⟩ := hd
  subst hv
  exact k.lift fun p e m c below T t hx hby ha q => XS.lconst ha hx rfl (hb hby hd) q
theorem WP.aconst_null (hd : D1 bytes pc .aconst_null 1 pc') (k : WP l Z EL n0 R y bytes ml ret Q F h cells slots pc' Ls (.null :: S)) : WP l Z EL n0 R y bytes ml ret Q F h cells slots pc Ls S := by
  obtain ⟨hd, rfl⟩ := hd
  exact k.lift fun p e m c below T t hx hby ha q => XS.aconstNull ha hx rfl (hb hby hd) q
theorem WP.dup {x : Value} (hd : D1 bytes pc .dup 1 pc') (hc : x.category = 1) (k : WP l Z EL n0 R y bytes ml ret Q F h cells slots pc' Ls (x :: x :: S)) : WP l Z EL n0 R y bytes ml ret Q F h cells slots pc Ls (x :: S) := by
  obtain ⟨hd, rfl⟩ := hd
  exact k.lift fun p e m c below T t hx hby ha q => XS.dup ha hx rfl (hb hby hd) rfl hc q
theorem WP.dup_x1 {x y' : Value} (hd : D1 bytes pc .dup_x1 1 pc') (hc : x.category = 1) (hc' : y'.category = 1) (k : WP l Z EL n0 R y bytes ml ret Q F h cells slots pc' Ls (x :: y' :: x :: S)) : WP l Z EL n0 R y bytes ml ret Q F h cells slots pc Ls (x :: y' :: S) := by
  obtain ⟨hd, rfl⟩ := hd
  exact k.lift fun p e m c below T t hx hby ha q => XS.dupX1 ha hx rfl (hb hby hd) rfl hc hc' q
theorem WP.pop {x : Value} (hd : D1 bytes pc .pop 1 pc') (hc : x.category = 1) (k : WP l Z EL n0 R y bytes ml ret Q F h cells slots pc' Ls S) : WP l Z EL n0 R y bytes ml ret Q F h cells slots pc Ls (x :: S) := by
  obtain ⟨hd, rfl⟩ := hd
  exact k.lift fun p e m c below T t hx hby ha q => XS.pop ha hx rfl (hb hby hd) rfl hc q
theorem tgt_of {o : Int} {tgt : Nat} (q : (pc : Int) + o = (tgt : Int)) : 0 ≤ (pc : Int) + o ∧ ((pc : Int) + o).toNat = tgt := ⟨by omega, by omega⟩
theorem WP.goto {o : Int} {nx tgt : Nat} (hd : DJ bytes pc .goto o nx tgt) (k : WP l Z EL n0 R y bytes ml ret Q F h cells slots tgt Ls S) : WP l Z EL n0 R y bytes ml ret Q F h cells slots pc Ls S := by
  obtain ⟨hd, -, ht⟩ := hd
  exact k.lift fun p e m c below T t hx hby ha q => XS.goto ha hx rfl rfl (hb hby hd) (tgt_of ht).1 (tgt_of ht).2 q
theorem WP.ifC {cd : ClassFile.Cond} {x : Int32} {o : Int} {nx tgt : Nat} (hd : DJ bytes pc (.ifCond cd) o nx tgt) (k1 : ifCond.holds cd x = true → WP l Z EL n0 R y bytes ml ret Q F h cells slots tgt Ls S) (k2 : ifCond.holds cd x = false → WP l Z EL n0 R y bytes ml ret Q F h cells slots nx Ls S) : WP l Z EL n0 R y bytes ml ret Q F h cells slots pc Ls (.int x :: S) := by
  obtain ⟨hd, rfl, ht⟩ := hd
  cases hc : ifCond.holds cd x with
  | true => exact (k1 hc).lift fun p e m c below T t hx hby ha q => XS.ifYes ha hx rfl rfl (hb hby hd) rfl hc (tgt_of ht).1 (tgt_of ht).2 q
  | false => exact (k2 hc).lift fun p e m c below T t hx hby ha q => XS.ifNo ha hx rfl (hb hby hd) rfl hc q
theorem WP.icmpC {cd : ClassFile.Cond} {x y' : Int32} {o : Int} {nx tgt : Nat} (hd : DJ bytes pc (.if_icmp cd) o nx tgt) (k1 : if_icmp.holds cd x y' = true → WP l Z EL n0 R y bytes ml ret Q F h cells slots tgt Ls S) (k2 : if_icmp.holds cd x y' = false → WP l Z EL n0 R y bytes ml ret Q F h cells slots nx Ls S) : WP l Z EL n0 R y bytes ml ret Q F h cells slots pc Ls (.int y' :: .int x :: S) := by
  obtain ⟨hd, rfl, ht⟩ := hd
  cases hc : if_icmp.holds cd x y' with
  | true => exact (k1 hc).lift fun p e m c below T t hx hby ha q => XS.icmpYes ha hx rfl rfl (hb hby hd) rfl hc (tgt_of ht).1 (tgt_of ht).2 q
  | false => exact (k2 hc).lift fun p e m c below T t hx hby ha q => XS.icmpNo ha hx rfl (hb hby hd) rfl hc q
theorem WP.ifnull {x : Value} {o : Int} {nx tgt : Nat} (hd : DJ bytes pc .ifnull o nx tgt) (hr : x.isRef = true) (k1 : x = .null → WP l Z EL n0 R y bytes ml ret Q F h cells slots tgt Ls S) (k2 : ∀ a, x = .ref a → WP l Z EL n0 R y bytes ml ret Q F h cells slots nx Ls S) : WP l Z EL n0 R y bytes ml ret Q F h cells slots pc Ls (x :: S) := by
  obtain ⟨hd, rfl, ht⟩ := hd
  rcases ref_cases hr with rfl | ⟨a, rfl⟩
  · exact (k1 rfl).lift fun p e m c below T t hx hby ha q => XS.ifnullYes ha hx rfl rfl (hb hby hd) rfl (tgt_of ht).1 (tgt_of ht).2 q
  · exact (k2 a rfl).lift fun p e m c below T t hx hby ha q => XS.ifnullNo ha hx rfl (hb hby hd) rfl q
theorem WP.ifnonnull {x : Value} {o : Int} {nx tgt : Nat} (hd : DJ bytes pc .ifnonnull o nx tgt) (hr : x.isRef = true) (k1 : ∀ a, x = .ref a → WP l Z EL n0 R y bytes ml ret Q F h cells slots tgt Ls S) (k2 : x = .null → WP l Z EL n0 R y bytes ml ret Q F h cells slots nx Ls S) : WP l Z EL n0 R y bytes ml ret Q F h cells slots pc Ls (x :: S) := by
  obtain ⟨hd, rfl, ht⟩ := hd
  rcases ref_cases hr with rfl | ⟨a, rfl⟩
  · exact (k2 rfl).lift fun p e m c below T t hx hby ha q => XS.ifnonnullNo ha hx rfl (hb hby hd) rfl q
  · exact (k1 a rfl).lift fun p e m c below T t hx hby ha q => XS.ifnonnullYes ha hx rfl rfl (hb hby hd) rfl (tgt_of ht).1 (tgt_of ht).2 q
theorem WP.acmp_ne {x y' : Value} {o : Int} {nx tgt : Nat} (hd : DJ bytes pc (.if_acmp .ne) o nx tgt) (hr : x.isRef = true) (hr' : y'.isRef = true) (k1 : ¬ x = y' → WP l Z EL n0 R y bytes ml ret Q F h cells slots tgt Ls S) (k2 : x = y' → WP l Z EL n0 R y bytes ml ret Q F h cells slots nx Ls S) : WP l Z EL n0 R y bytes ml ret Q F h cells slots pc Ls (y' :: x :: S) := by
  obtain ⟨hd, rfl, ht⟩ := hd
  by_cases hc : x = y'
  · exact (k2 hc).lift fun p e m c below T t hx hby ha q => XT.acmpNo ha hx rfl (hb hby hd) rfl hr hr' (XT.aa_ne_f hc) q
  · exact (k1 hc).lift fun p e m c below T t hx hby ha q => XT.acmpYes ha hx rfl rfl (hb hby hd) rfl hr hr' (XT.aa_ne_t hc) (tgt_of ht).1 (tgt_of ht).2 q
theorem WP.acmp_eq {x y' : Value} {o : Int} {nx tgt : Nat} (hd : DJ bytes pc (.if_acmp .eq) o nx tgt) (hr : x.isRef = true) (hr' : y'.isRef = true) (k1 : x = y' → WP l Z EL n0 R y bytes ml ret Q F h cells slots tgt Ls S) (k2 : ¬ x = y' → WP l Z EL n0 R y bytes ml ret Q F h cells slots nx Ls S) : WP l Z EL n0 R y bytes ml ret Q F h cells slots pc Ls (y' :: x :: S) := by
  obtain ⟨hd, rfl, ht⟩ := hd
  by_cases hc : x = y'
  · exact (k1 hc).lift fun p e m c below T t hx hby ha q => XT.acmpYes ha hx rfl rfl (hb hby hd) rfl hr hr' (XT.aa_eq_t hc) (tgt_of ht).1 (tgt_of ht).2 q
  · exact (k2 hc).lift fun p e m c below T t hx hby ha q => XT.acmpNo ha hx rfl (hb hby hd) rfl hr hr' (XT.aa_eq_f hc) q
theorem WP.icmp_eq {x y' : Int32} {o : Int} {nx tgt : Nat} (hd : DJ bytes pc (.if_icmp .eq) o nx tgt) (k1 : x = y' → WP l Z EL n0 R y bytes ml ret Q F h cells slots tgt Ls S) (k2 : ¬ x = y' → WP l Z EL n0 R y bytes ml ret Q F h cells slots nx Ls S) : WP l Z EL n0 R y bytes ml ret Q F h cells slots pc Ls (.int y' :: .int x :: S) :=
  WP.icmpC hd (fun q => k1 (Classical.byContradiction fun z => by have := XT.ii_eq_f (x := x) (y := y') (by simpa using z); rw [q] at this; cases this)) (fun q => k2 (Classical.byContradiction fun z => by have := XT.ii_eq_t (x := x) (y := y') (by simpa using z); rw [q] at this; cases this))
theorem WP.if_eq {x : Int32} {o : Int} {nx tgt : Nat} (hd : DJ bytes pc (.ifCond .eq) o nx tgt) (k1 : x = 0 → WP l Z EL n0 R y bytes ml ret Q F h cells slots tgt Ls S) (k2 : ¬ x = 0 → WP l Z EL n0 R y bytes ml ret Q F h cells slots nx Ls S) : WP l Z EL n0 R y bytes ml ret Q F h cells slots pc Ls (.int x :: S) :=
  WP.ifC hd (fun q => k1 (Classical.byContradiction fun z => by have := XT.i0_eq_f (x := x) (by simpa using z); rw [q] at this; cases this)) (fun q => k2 (Classical.byContradiction fun z => by have := XT.i0_eq_t (x := x) (by simpa using z); rw [q] at this; cases this))
theorem WP.icmp_ne {x y' : Int32} {o : Int} {nx tgt : Nat} (hd : DJ bytes pc (.if_icmp .ne) o nx tgt) (k1 : ¬ x = y' → WP l Z EL n0 R y bytes ml ret Q F h cells slots tgt Ls S) (k2 : x = y' → WP l Z EL n0 R y bytes ml ret Q F h cells slots nx Ls S) : WP l Z EL n0 R y bytes ml ret Q F h cells slots pc Ls (.int y' :: .int x :: S) :=
  WP.icmpC hd (fun q => k1 (Classical.byContradiction fun z => by have := XT.ii_ne_f (x := x) (y := y') (by simpa using z); rw [q] at this; cases this)) (fun q => k2 (Classical.byContradiction fun z => by have := XT.ii_ne_t (x := x) (y := y') (by simpa using z); rw [q] at this; cases this))
theorem WP.if_ne {x : Int32} {o : Int} {nx tgt : Nat} (hd : DJ bytes pc (.ifCond .ne) o nx tgt) (k1 : ¬ x = 0 → WP l Z EL n0 R y bytes ml ret Q F h cells slots tgt Ls S) (k2 : x = 0 → WP l Z EL n0 R y bytes ml ret Q F h cells slots nx Ls S) : WP l Z EL n0 R y bytes ml ret Q F h cells slots pc Ls (.int x :: S) :=
  WP.ifC hd (fun q => k1 (Classical.byContradiction fun z => by have := XT.i0_ne_f (x := x) (by simpa using z); rw [q] at this; cases this)) (fun q => k2 (Classical.byContradiction fun z => by have := XT.i0_ne_t (x := x) (by simpa using z); rw [q] at this; cases this))
theorem WP.icmp_lt {x y' : Int32} {o : Int} {nx tgt : Nat} (hd : DJ bytes pc (.if_icmp .lt) o nx tgt) (k1 : x < y' → WP l Z EL n0 R y bytes ml ret Q F h cells slots tgt Ls S) (k2 : ¬ x < y' → WP l Z EL n0 R y bytes ml ret Q F h cells slots nx Ls S) : WP l Z EL n0 R y bytes ml ret Q F h cells slots pc Ls (.int y' :: .int x :: S) :=
  WP.icmpC hd (fun q => k1 (Classical.byContradiction fun z => by have := XT.ii_lt_f (x := x) (y := y') (by simpa using z); rw [q] at this; cases this)) (fun q => k2 (Classical.byContradiction fun z => by have := XT.ii_lt_t (x := x) (y := y') (by simpa using z); rw [q] at this; cases this))
theorem WP.if_lt {x : Int32} {o : Int} {nx tgt : Nat} (hd : DJ bytes pc (.ifCond .lt) o nx tgt) (k1 : x < 0 → WP l Z EL n0 R y bytes ml ret Q F h cells slots tgt Ls S) (k2 : ¬ x < 0 → WP l Z EL n0 R y bytes ml ret Q F h cells slots nx Ls S) : WP l Z EL n0 R y bytes ml ret Q F h cells slots pc Ls (.int x :: S) :=
  WP.ifC hd (fun q => k1 (Classical.byContradiction fun z => by have := XT.i0_lt_f (x := x) (by simpa using z); rw [q] at this; cases this)) (fun q => k2 (Classical.byContradiction fun z => by have := XT.i0_lt_t (x := x) (by simpa using z); rw [q] at this; cases this))
theorem WP.icmp_ge {x y' : Int32} {o : Int} {nx tgt : Nat} (hd : DJ bytes pc (.if_icmp .ge) o nx tgt) (k1 : ¬ x < y' → WP l Z EL n0 R y bytes ml ret Q F h cells slots tgt Ls S) (k2 : x < y' → WP l Z EL n0 R y bytes ml ret Q F h cells slots nx Ls S) : WP l Z EL n0 R y bytes ml ret Q F h cells slots pc Ls (.int y' :: .int x :: S) :=
  WP.icmpC hd (fun q => k1 (Classical.byContradiction fun z => by have := XT.ii_ge_f (x := x) (y := y') (by simpa using z); rw [q] at this; cases this)) (fun q => k2 (Classical.byContradiction fun z => by have := XT.ii_ge_t (x := x) (y := y') (by simpa using z); rw [q] at this; cases this))
theorem WP.if_ge {x : Int32} {o : Int} {nx tgt : Nat} (hd : DJ bytes pc (.ifCond .ge) o nx tgt) (k1 : ¬ x < 0 → WP l Z EL n0 R y bytes ml ret Q F h cells slots tgt Ls S) (k2 : x < 0 → WP l Z EL n0 R y bytes ml ret Q F h cells slots nx Ls S) : WP l Z EL n0 R y bytes ml ret Q F h cells slots pc Ls (.int x :: S) :=
  WP.ifC hd (fun q => k1 (Classical.byContradiction fun z => by have := XT.i0_ge_f (x := x) (by simpa using z); rw [q] at this; cases this)) (fun q => k2 (Classical.byContradiction fun z => by have := XT.i0_ge_t (x := x) (by simpa using z); rw [q] at this; cases this))
theorem WP.icmp_gt {x y' : Int32} {o : Int} {nx tgt : Nat} (hd : DJ bytes pc (.if_icmp .gt) o nx tgt) (k1 : y' < x → WP l Z EL n0 R y bytes ml ret Q F h cells slots tgt Ls S) (k2 : ¬ y' < x → WP l Z EL n0 R y bytes ml ret Q F h cells slots nx Ls S) : WP l Z EL n0 R y bytes ml ret Q F h cells slots pc Ls (.int y' :: .int x :: S) :=
  WP.icmpC hd (fun q => k1 (Classical.byContradiction fun z => by have := XT.ii_gt_f (x := x) (y := y') (by simpa using z); rw [q] at this; cases this)) (fun q => k2 (Classical.byContradiction fun z => by have := XT.ii_gt_t (x := x) (y := y') (by simpa using z); rw [q] at this; cases this))
theorem WP.if_gt {x : Int32} {o : Int} {nx tgt : Nat} (hd : DJ bytes pc (.ifCond .gt) o nx tgt) (k1 : 0 < x → WP l Z EL n0 R y bytes ml ret Q F h cells slots tgt Ls S) (k2 : ¬ 0 < x → WP l Z EL n0 R y bytes ml ret Q F h cells slots nx Ls S) : WP l Z EL n0 R y bytes ml ret Q F h cells slots pc Ls (.int x :: S) :=
  WP.ifC hd (fun q => k1 (Classical.byContradiction fun z => by have := XT.i0_gt_f (x := x) (by simpa using z); rw [q] at this; cases this)) (fun q => k2 (Classical.byContradiction fun z => by have := XT.i0_gt_t (x := x) (by simpa using z); rw [q] at this; cases this))
theorem WP.icmp_le {x y' : Int32} {o : Int} {nx tgt : Nat} (hd : DJ bytes pc (.if_icmp .le) o nx tgt) (k1 : ¬ y' < x → WP l Z EL n0 R y bytes ml ret Q F h cells slots tgt Ls S) (k2 : y' < x → WP l Z EL n0 R y bytes ml ret Q F h cells slots nx Ls S) : WP l Z EL n0 R y bytes ml ret Q F h cells slots pc Ls (.int y' :: .int x :: S) :=
  WP.icmpC hd (fun q => k1 (Classical.byContradiction fun z => by have := XT.ii_le_f (x := x) (y := y') (by simpa using z); rw [q] at this; cases this)) (fun q => k2 (Classical.byContradiction fun z => by have := XT.ii_le_t (x := x) (y := y') (by simpa using z); rw [q] at this; cases this))
theorem WP.if_le {x : Int32} {o : Int} {nx tgt : Nat} (hd : DJ bytes pc (.ifCond .le) o nx tgt) (k1 : ¬ 0 < x → WP l Z EL n0 R y bytes ml ret Q F h cells slots tgt Ls S) (k2 : 0 < x → WP l Z EL n0 R y bytes ml ret Q F h cells slots nx Ls S) : WP l Z EL n0 R y bytes ml ret Q F h cells slots pc Ls (.int x :: S) :=
  WP.ifC hd (fun q => k1 (Classical.byContradiction fun z => by have := XT.i0_le_f (x := x) (by simpa using z); rw [q] at this; cases this)) (fun q => k2 (Classical.byContradiction fun z => by have := XT.i0_le_t (x := x) (by simpa using z); rw [q] at this; cases this))
end Plain
end Jvm.Own
namespace Jvm.Own
open Jvm Jvm.ClassFile Sem Op Lib Jvm.Free Jvm.Stand Jvm.LawKit Jvm.RoadKit Bundle
/-- an array of ints, bytes, chars, shorts or booleans: its components -/
def IA (Z : State) (h : Heap) (a : Addr) (ty : FieldType) (xs : List Int32) : Prop := ∃ c : Cell, Arr Z h a c ty ∧ c.slots = (xs.map Value.int).toArray ∧ xs.length < 2 ^ 31
theorem nle {a b : Nat} (h : Nat.ble a b = true) : a ≤ b := Nat.le_of_ble_eq_true h
theorem nlt {a : Addr} {n : Nat} (h : a < n) : @LT.lt Nat instLTNat a n := h
theorem nea {a b : Addr} (h : @LT.lt Nat instLTNat a b ∨ @LT.lt Nat instLTNat b a) : a ≠ b := fun e => by
  subst e
  exact h.elim (Nat.lt_irrefl _) (Nat.lt_irrefl _)
/-- j is the int of the place i -/
def Ix (j : Int32) (i : Nat) : Prop := j.toInt = (i : Int)
theorem Ix.nn {j : Int32} {i : Nat} (q : Ix j i) : ¬ j < 0 := by
  rw [Int32.lt_iff_toInt_lt, q]; show ¬ (i : Int) < 0; omega
theorem Ix.clamp {j : Int32} {i : Nat} (q : Ix j i) : j.toNatClampNeg = i := by
  unfold Ix at q; simp only [Int32.toNatClampNeg, q]; exact Int.toNat_natCast i
theorem Ix.ofNat {i : Nat} (q : i < 2 ^ 31) : Ix (Int32.ofNat i) i := Int32.toInt_ofNat_of_lt q
section Facts
variable {Z : State} {h h' : Heap} {a b : Addr} {ty : FieldType} {xs : List Int32} {sl : Nat} {v : Value} {ws : List Addr}
theorem IA.lt (A : IA Z h a ty xs) : a < h.size := by obtain ⟨c, A, -⟩ := A; exact A.lt
theorem IA.len (A : IA Z h a ty xs) : xs.length < 2 ^ 31 := by obtain ⟨c, -, -, q⟩ := A; exact q
theorem IA.ext (A : IA Z h a ty xs) (E : Ext h h') : IA Z h' a ty xs := by obtain ⟨c, A, r⟩ := A; exact ⟨c, A.ext E, r⟩
theorem IA.other (A : IA Z h b ty xs) (W : Wr h h' a sl v) (q : b ≠ a) : IA Z h' b ty xs := by obtain ⟨c, A, r⟩ := A; exact ⟨c, A.other W q, r⟩
theorem IA.keep (A : IA Z h a ty xs) (K : Keep h h' ws) (q : a ∉ ws) : IA Z h' a ty xs := by obtain ⟨c, A, r⟩ := A; exact ⟨c, ⟨K.2.1 a c A.1 q, A.2⟩, r⟩
theorem IA.set {i : Nat} {x : Int32} (A : IA Z h a ty xs) (W : Wr h h' a i (.int x)) : IA Z h' a ty (xs.set i x) := by
  obtain ⟨c, A, e, q⟩ := A
  refine ⟨_, A.same W, ?_, by simpa using q⟩
  simp [Cell.setSlot, e, List.map_set]
theorem IA.of_arv {k : ClassId} {z : Int32} {d : Value} (A : Arv Z h a k ty z (xs.map Value.int) d) (hl : z.toNatClampNeg = xs.length) : IA Z h a ty xs := by
  obtain ⟨c, A, -, q1, q2, q3, -⟩ := A
  have hs : c.slots.size = xs.length := q1.trans hl
  refine ⟨c, A, ?_, ?_⟩
  · apply Array.ext_getElem?
    intro i
    by_cases hi : i < xs.length
    · rw [q3 i (by omega)]; simp [hi]
    · rw [Array.getElem?_eq_none (by omega), Array.getElem?_eq_none (by simp; omega)]
  · rw [← hl]
    have := (back32 q2).2
    exact this
theorem IA.size {c : Cell} (e : c.slots = (xs.map Value.int).toArray) : c.slots.size = xs.length := by rw [e]; simp
theorem Exa.neIA {C : String} {n : Nat} {a0 : Array Value} (E : Exa Z h a C) (w : (Cond.instantiable C n).before a0 Z = true) (A : IA Z h b ty xs) : a ≠ b := by
  obtain ⟨c, A, -⟩ := A
  exact ne_arr E w A
end Facts
section Heap
variable {l : Launch} {Z : State} {EL : List (String × Nat)} {n0 : Nat} {R : Room} {y : MethodName} {bytes : ByteArray} {ml : Nat} {ret : Option FieldType} {Q : Option Value → Heap → List Addr → Prop}
  {F : List Addr} {h : Heap} {cells slots pc pc' : Nat} {Ls Ls' : Array Slot} {S S' : List Value} {a0 : Array Value}
theorem WP.new {idx n : Nat} {C : String} (hd : D1 bytes pc (.new idx) 3 pc') (w : (Cond.classLink y.cls idx C).before a0 Z = true) (wi : (Cond.instantiable C n).before a0 Z = true) (wz : (Cond.initialized C).before a0 Z = true) (hc : cells + 1 ≤ R.cells) (hl : slots + n ≤ R.slots)
    (k : ∀ (h' : Heap) (b : Nat), b = h.size → Ext h h' → Exa Z h' b C → (∀ {O nm d : String} {ty : FieldType}, Laid Z a0 C O nm d → parseFieldDescriptor d = some ty → Fld Z h' b O nm d (defaultValue ty)) → Unt h' b → WP l Z EL n0 R y bytes ml ret Q (b :: F) h' (cells + 1) (slots + n) pc' Ls (.ref b :: S)) :
    WP l Z EL n0 R y bytes ml ret Q F h cells slots pc Ls S := by
  obtain ⟨hd, rfl⟩ := hd
  refine WP.grow (G := [h.size]) (P := fun h' => Exa Z h' h.size C ∧ (∀ {O nm d : String} {ty : FieldType}, Laid Z a0 C O nm d → parseFieldDescriptor d = some ty → Fld Z h' h.size O nm d (defaultValue ty)) ∧ Unt h' h.size) (fun h' E hP x hx => ?_) (fun p e s m args below meth c T vm0 locs D => ?_) (fun h' E hP => k h' _ rfl E hP.1 hP.2.1 hP.2.2)
  · cases List.mem_singleton.mp hx; exact ⟨hP.1.lt, Nat.le_refl _⟩
  · obtain ⟨X, e0, -, hZ, hown, -, -, -, -, hx, hby, -⟩ := D
    obtain ⟨T', h', X', e', E, A, D', U, st⟩ := newO X hx hZ hown w wi wz e0 (g := mkF m pc Ls S) rfl (hb hby hd) hc hl
    exact ⟨T', h', X', e', E, ⟨A, D', U⟩, st⟩
theorem WP.newarray {aty : ArrayType} {n : Int32} {cap i : Nat} (hd : D1 bytes pc (.newarray aty) 2 pc') (w : (Cond.arrayClass (newarray.typeOf aty)).before a0 Z = true) (hz : defaultValue (newarray.typeOf aty) = .int 0) (hn : Ix n i) (hcap : i ≤ cap) (hbig : cap * 8 ≤ 536870912) (hc : cells + 1 ≤ R.cells) (hl : slots + cap ≤ R.slots)
    (k : ∀ (h' : Heap) (b : Nat), b = h.size → Ext h h' → IA Z h' b (newarray.typeOf aty) (List.replicate i 0) → WP l Z EL n0 R y bytes ml ret Q (b :: F) h' (cells + 1) (slots + cap) pc' Ls (.ref b :: S)) :
    WP l Z EL n0 R y bytes ml ret Q F h cells slots pc Ls (.int n :: S) := by
  obtain ⟨hd, rfl⟩ := hd
  refine WP.grow (G := [h.size]) (P := fun h' => IA Z h' h.size (newarray.typeOf aty) (List.replicate i 0)) (fun h' E hP x hx => ?_) (fun p e s m args below meth c T vm0 locs D => ?_) (fun h' E hP => k h' _ rfl E hP)
  · cases List.mem_singleton.mp hx; exact ⟨hP.lt, Nat.le_refl _⟩
  · obtain ⟨X, e0, -, hZ, hown, -, -, -, -, hx, hby, -⟩ := D
    obtain ⟨T', h', cA, X', e', E, A, st⟩ := newP X hx hZ w e0 (g := mkF m pc Ls (.int n :: S)) rfl (hb hby hd) rfl hn.nn (cap := cap) (by rw [hn.clamp]; exact hcap) hbig hc hl
    exact ⟨T', h', X', e', E, ⟨_, A, by simp [newA, hn.clamp, hz], by have := hn; have := Int32.toInt_lt n; simp only [Ix] at *; simp; omega⟩, st⟩
theorem WP.castore {a : Addr} {xs : List Int32} {j x : Int32} {i : Nat} (hd : D1 bytes pc .castore 1 pc') (A : IA Z h a .char xs) (hj : Ix j i) (hi : i < xs.length) (na : n0 ≤ a)
    (k : ∀ h', Wr h h' a i (.int (nar .char x)) → WP l Z EL n0 R y bytes ml ret Q F h' cells slots pc' Ls S) : WP l Z EL n0 R y bytes ml ret Q F h cells slots pc Ls (.int x :: .int j :: .ref a :: S) := by
  obtain ⟨hd, rfl⟩ := hd
  obtain ⟨c, A, e, q⟩ := A
  refine WP.write na (SafeBy.arr A) (fun p e1 s m args below meth c' T vm0 locs D => ?_) k
  obtain ⟨X, e0, -, hZ, hown, -, -, -, -, hx, hby, -⟩ := D
  have := stC (x := x) X hx hZ e0 A (j := j) (by rw [IA.size e, hj.clamp]; exact fun z => z.elim hj.nn fun z => by omega) (g := mkF m pc Ls (.int x :: .int j :: .ref a :: S)) rfl rfl (hb hby hd)
  rw [hj.clamp] at this
  exact this
theorem WP.bastore {a : Addr} {xs : List Int32} {j x : Int32} {i : Nat} (hd : D1 bytes pc .bastore 1 pc') (A : IA Z h a .byte xs) (hm : SafeBy Z EL F h a) (hj : Ix j i) (hi : i < xs.length) (na : n0 ≤ a)
    (k : ∀ h', Wr h h' a i (.int (nar .byte x)) → WP l Z EL n0 R y bytes ml ret Q F h' cells slots pc' Ls S) : WP l Z EL n0 R y bytes ml ret Q F h cells slots pc Ls (.int x :: .int j :: .ref a :: S) := by
  obtain ⟨hd, rfl⟩ := hd
  obtain ⟨c, A, e, q⟩ := A
  refine WP.write na hm (fun p e1 s m args below meth c' T vm0 locs D => ?_) k
  obtain ⟨X, e0, -, hZ, hown, -, -, -, -, hx, hby, -⟩ := D
  have := stB (x := x) X hx hZ e0 A (j := j) (by rw [IA.size e, hj.clamp]; exact fun z => z.elim hj.nn fun z => by omega) (g := mkF m pc Ls (.int x :: .int j :: .ref a :: S)) rfl rfl (hb hby hd)
  rw [hj.clamp] at this
  exact this
theorem WP.iastore {a : Addr} {xs : List Int32} {j x : Int32} {i : Nat} (hd : D1 bytes pc .iastore 1 pc') (A : IA Z h a .int xs) (hj : Ix j i) (hi : i < xs.length) (na : n0 ≤ a)
    (k : ∀ h', Wr h h' a i (.int x) → WP l Z EL n0 R y bytes ml ret Q F h' cells slots pc' Ls S) : WP l Z EL n0 R y bytes ml ret Q F h cells slots pc Ls (.int x :: .int j :: .ref a :: S) := by
  obtain ⟨hd, rfl⟩ := hd
  obtain ⟨c, A, e, q⟩ := A
  refine WP.write na (SafeBy.arr A) (fun p e1 s m args below meth c' T vm0 locs D => ?_) k
  obtain ⟨X, e0, -, hZ, hown, -, -, -, -, hx, hby, -⟩ := D
  have := stI (x := x) X hx hZ e0 A (j := j) (by rw [IA.size e, hj.clamp]; exact fun z => z.elim hj.nn fun z => by omega) (g := mkF m pc Ls (.int x :: .int j :: .ref a :: S)) rfl rfl (hb hby hd)
  rw [hj.clamp] at this
  exact this
theorem WP.arraylength {a : Addr} {ty : FieldType} {xs : List Int32} (hd : D1 bytes pc .arraylength 1 pc') (A : IA Z h a ty xs) (k : WP l Z EL n0 R y bytes ml ret Q F h cells slots pc' Ls (.int (Int32.ofNat xs.length) :: S)) : WP l Z EL n0 R y bytes ml ret Q F h cells slots pc Ls (.ref a :: S) := by
  obtain ⟨hd, rfl⟩ := hd
  obtain ⟨c, A, e, q⟩ := A
  refine WP.same (fun p e1 s m args below meth c' T vm0 locs D => ?_) k
  obtain ⟨X, e0, -, hZ, hown, -, -, -, -, hx, hby, -⟩ := D
  refine ⟨T, X, e0, fun t q => X.arraylength hx (by rw [e0]; exact A.1) (State.isArrayOf_alike (T := s.setVm vm0) hZ.alike A.2.1) (g := mkF m pc Ls (.ref a :: S)) rfl rfl (hb hby hd) t ?_⟩
  rw [IA.size e]
  exact q
theorem IA.at {c : Cell} {xs : List Int32} {x : Int32} {i : Nat} (e : c.slots = (xs.map Value.int).toArray) (hx : xs[i]? = some x) : c.slots[i]? = some (.int x) := by rw [e]; simp [hx]
theorem WP.caload {a : Addr} {xs : List Int32} {j x : Int32} {i : Nat} (hd : D1 bytes pc .caload 1 pc') (A : IA Z h a .char xs) (hj : Ix j i) (hx : xs[i]? = some x) (k : WP l Z EL n0 R y bytes ml ret Q F h cells slots pc' Ls (.int x :: S)) : WP l Z EL n0 R y bytes ml ret Q F h cells slots pc Ls (.int j :: .ref a :: S) := by
  obtain ⟨hd, rfl⟩ := hd
  obtain ⟨c, A, e, q⟩ := A
  have hi : i < xs.length := (List.getElem?_eq_some_iff.mp hx).1
  refine WP.same (fun p e1 s m args below meth c' T vm0 locs D => ?_) k
  obtain ⟨X, e0, -, hZ, hown, -, -, -, -, hxx, hby, -⟩ := D
  exact ⟨T, X, e0, fun t q => X.caload hxx (v := .int x) (by rw [e0]; exact A.1) (State.isArrayOf_alike (T := s.setVm vm0) hZ.alike A.2.1) A.2.2 (by rw [IA.size e, hj.clamp]; exact fun z => z.elim hj.nn fun z => by omega) (by rw [hj.clamp]; exact IA.at e hx) (g := mkF m pc Ls (.int j :: .ref a :: S)) rfl rfl (hb hby hd) t q⟩
theorem WP.baload {a : Addr} {xs : List Int32} {j x : Int32} {i : Nat} (hd : D1 bytes pc .baload 1 pc') (A : IA Z h a .byte xs) (hj : Ix j i) (hx : xs[i]? = some x) (k : WP l Z EL n0 R y bytes ml ret Q F h cells slots pc' Ls (.int x :: S)) : WP l Z EL n0 R y bytes ml ret Q F h cells slots pc Ls (.int j :: .ref a :: S) := by
  obtain ⟨hd, rfl⟩ := hd
  obtain ⟨c, A, e, q⟩ := A
  have hi : i < xs.length := (List.getElem?_eq_some_iff.mp hx).1
  refine WP.same (fun p e1 s m args below meth c' T vm0 locs D => ?_) k
  obtain ⟨X, e0, -, hZ, hown, -, -, -, -, hxx, hby, -⟩ := D
  exact ⟨T, X, e0, fun t q => X.baloadBytes hxx (v := .int x) (by rw [e0]; exact A.1) (State.isArrayOf_alike (T := s.setVm vm0) hZ.alike A.2.1) A.2.2 (by rw [IA.size e, hj.clamp]; exact fun z => z.elim hj.nn fun z => by omega) (by rw [hj.clamp]; exact IA.at e hx) (g := mkF m pc Ls (.int j :: .ref a :: S)) rfl rfl (hb hby hd) t q⟩
theorem WP.iaload {a : Addr} {xs : List Int32} {j x : Int32} {i : Nat} (hd : D1 bytes pc .iaload 1 pc') (A : IA Z h a .int xs) (hj : Ix j i) (hx : xs[i]? = some x) (k : WP l Z EL n0 R y bytes ml ret Q F h cells slots pc' Ls (.int x :: S)) : WP l Z EL n0 R y bytes ml ret Q F h cells slots pc Ls (.int j :: .ref a :: S) := by
  obtain ⟨hd, rfl⟩ := hd
  obtain ⟨c, A, e, q⟩ := A
  have hi : i < xs.length := (List.getElem?_eq_some_iff.mp hx).1
  refine WP.same (fun p e1 s m args below meth c' T vm0 locs D => ?_) k
  obtain ⟨X, e0, -, hZ, hown, -, -, -, -, hxx, hby, -⟩ := D
  exact ⟨T, X, e0, fun t q => X.iaload hxx (v := .int x) (by rw [e0]; exact A.1) (State.isArrayOf_alike (T := s.setVm vm0) hZ.alike A.2.1) A.2.2 (by rw [IA.size e, hj.clamp]; exact fun z => z.elim hj.nn fun z => by omega) (by rw [hj.clamp]; exact IA.at e hx) (g := mkF m pc Ls (.int j :: .ref a :: S)) rfl rfl (hb hby hd) t q⟩
theorem WP.getfield {idx : Nat} {R0 O nm d host : String} {a : Addr} {v : Value} (hd : D1 bytes pc (.getfield idx) 3 pc') (w : (Cond.fieldLink y.cls idx R0 nm d).before a0 Z = true ∨ (Cond.fieldLinkNest y.cls idx R0 nm d host).before a0 Z = true) (via : Via Z R0 O nm d) (A : Fld Z h a O nm d v) (k : WP l Z EL n0 R y bytes ml ret Q F h cells slots pc' Ls (v :: S)) : WP l Z EL n0 R y bytes ml ret Q F h cells slots pc Ls (.ref a :: S) := by
  obtain ⟨hd, rfl⟩ := hd
  refine WP.same (fun p e1 s m args below meth c' T vm0 locs D => ?_) k
  obtain ⟨X, e0, -, hZ, hown, -, -, -, -, hxx, hby, -⟩ := D
  exact getF X hxx hZ hown w via e0 A (g := mkF m pc Ls (.ref a :: S)) rfl rfl (hb hby hd)
theorem WP.putfield {idx kk : Nat} {R0 O nm d host C : String} {ty : FieldType} {a : Addr} {v old : Value} (hd : D1 bytes pc (.putfield idx) 3 pc') (w : (Cond.fieldLink y.cls idx R0 nm d).before a0 Z = true ∨ (Cond.fieldLinkNest y.cls idx R0 nm d host).before a0 Z = true) (via : Via Z R0 O nm d) (A : Fld Z h a O nm d old) (E : Exa Z h a C)
    (L : (Cond.lays C O nm d).before a0 Z = true ∨ ((Cond.laysFinal C O nm d).before a0 Z = true ∧ y.cls = O ∧ y.name = "<init>")) (wi : (Cond.instantiable C kk).before a0 Z = true) (hty : parseFieldDescriptor d = some ty) (hn : narrow ty v = v) (hf : fits ty v = true) (na : n0 ≤ a) (hs : SafeBy Z EL F h a)
    (k : ∀ h', Wr h h' a (Jvm.RoadKit.slotOf Z O nm d) v → WP l Z EL n0 R y bytes ml ret Q F h' cells slots pc' Ls S) : WP l Z EL n0 R y bytes ml ret Q F h cells slots pc Ls (v :: .ref a :: S) := by
  obtain ⟨hd, rfl⟩ := hd
  refine WP.write na hs (fun p e1 s m args below meth c' T vm0 locs D => ?_) k
  obtain ⟨X, e0, -, hZ, hown, -, -, -, -, hxx, hby, -, -, -, hnm, -⟩ := D
  exact putF X hxx hZ hown w via e0 A E (L.imp id fun q => ⟨q.1, q.2.1, hnm.trans q.2.2⟩) wi hty hn hf (g := mkF m pc Ls (v :: .ref a :: S)) rfl rfl (hb hby hd)
theorem WP.getstatic {idx : Nat} {R0 O nm d : String} {v : Value} (hd : D1 bytes pc (.getstatic idx) 3 pc') (w : (Cond.fieldLink y.cls idx R0 nm d).before a0 Z = true) (via : Via Z R0 O nm d) (A : Sta Z Z.heap O nm d v) (k : WP l Z EL n0 R y bytes ml ret Q F h cells slots pc' Ls (v :: S)) : WP l Z EL n0 R y bytes ml ret Q F h cells slots pc Ls S := by
  obtain ⟨hd, rfl⟩ := hd
  refine WP.same (fun p e1 s m args below meth c' T vm0 locs D => ?_) k
  obtain ⟨X, e0, -, hZ, hown, -, -, -, hO, hxx, hby, -⟩ := D
  exact getS (host := "") X hxx hZ hown w via e0 (A.ext hO.2) (g := mkF m pc Ls S) rfl (hb hby hd)
theorem WP.checkcast {idx : Nat} {K : String} {a : Addr} (hd : D1 bytes pc (.checkcast idx) 3 pc') (w : (Cond.classLink y.cls idx K).before a0 Z = true) (A : Ins Z h a K true) (k : WP l Z EL n0 R y bytes ml ret Q F h cells slots pc' Ls (.ref a :: S)) : WP l Z EL n0 R y bytes ml ret Q F h cells slots pc Ls (.ref a :: S) := by
  obtain ⟨hd, rfl⟩ := hd
  refine WP.same (fun p e1 s m args below meth c' T vm0 locs D => ?_) k
  obtain ⟨X, e0, -, hZ, hown, -, -, -, hO, hxx, hby, -⟩ := D
  exact castY X hxx hZ hown w e0 A (g := mkF m pc Ls (.ref a :: S)) rfl rfl (hb hby hd)
theorem WP.instanceof {idx : Nat} {K : String} {a : Addr} (hd : D1 bytes pc (.instanceof idx) 3 pc') (w : (Cond.classLink y.cls idx K).before a0 Z = true) (A : Ins Z h a K true) (k : WP l Z EL n0 R y bytes ml ret Q F h cells slots pc' Ls (.int 1 :: S)) : WP l Z EL n0 R y bytes ml ret Q F h cells slots pc Ls (.ref a :: S) := by
  obtain ⟨hd, rfl⟩ := hd
  refine WP.same (fun p e1 s m args below meth c' T vm0 locs D => ?_) k
  obtain ⟨X, e0, -, hZ, hown, -, -, -, hO, hxx, hby, -⟩ := D
  exact instY X hxx hZ hown w e0 A (g := mkF m pc Ls (.ref a :: S)) rfl rfl (hb hby hd)
theorem WP.initObject {idx : Nat} {a : Addr} (hd : D1 bytes pc (.invokespecial idx) 3 pc') (w1 : (Cond.methodLink y.cls idx Lib.objectInit).before a0 Z = true) (w2 : (Cond.instanceMethod Lib.objectInit).before a0 Z = true) (w3 : (Cond.code Lib.objectInit ⟨#[0xb1]⟩ 1 none).before a0 Z = true) (hsz : Ls.size = ml) (hf : 1 ≤ R.frames) (hl : (S.map fun v => v.category).sum + 12 ≤ R.locals)
    (k : WP l Z EL n0 R y bytes ml ret Q F h cells slots pc' Ls S) : WP l Z EL n0 R y bytes ml ret Q F h cells slots pc Ls (.ref a :: S) := by
  obtain ⟨hd, rfl⟩ := hd
  refine WP.same (fun p e1 s m args below meth c' T vm0 locs D => ?_) k
  obtain ⟨X, e0, -, hZ, hown, -, -, -, hO, hxx, hby, hml, -⟩ := D
  exact initO X hxx hZ hown w1 w2 w3 e0 (g := mkF m pc Ls (.ref a :: S)) rfl (by rw [hml]; exact hsz) rfl (hb hby hd) hf (W := (S.map fun v => v.category).sum) (by show 2 * 0 + _ ≤ _; omega) hl
/-- ldc of a String constant, read -/
theorem WP.ldcS {idx n : Nat} {text : String} {bs : List Int32} (hd : D1 bytes pc (.ldc idx) 2 pc') (hEL : EW Z a0 EL) (hmem : (y.cls, idx) ∈ EL) (w : (Cond.stringLink y.cls idx text).before a0 Z = true) (wS : ∀ a ∈ Bundle.stringAtoms, a.before a0 Z = true)
    (ht : (∀ c ∈ text.toList, c.toNat < 256) ∧ text.toList.map (fun c => Jvm.Lit.byteI c.toNat.toUInt16) = bs) (hlen : bs.length < 2 ^ 31) (hn : 4 * text.toList.length ≤ n) (hbig : n ≤ 536870912) (hc : cells + 2 ≤ R.cells) (hl' : slots + (n + 4) ≤ R.slots)
    (k : ∀ h' a b, Ext h h' → Exa Z h' a "java/lang/String" → Fld Z h' a "java/lang/String" "coder" "B" (.int 0) → Fld Z h' a "java/lang/String" "value" "[B" (.ref b) → IA Z h' b .byte bs → WP l Z EL n0 R y bytes ml ret Q F h' (cells + 2) (slots + (n + 4)) pc' Ls (.ref a :: S)) : WP l Z EL n0 R y bytes ml ret Q F h cells slots pc Ls S := by
  obtain ⟨hd, rfl⟩ := hd
  intro p e s m args below meth c T vm0 locs D
  obtain ⟨X, e0, ⟨k0, hS, hk⟩, hZ, hown, hC, hF, hN, hO, hx, hby, r⟩ := D
  have hz : (Int32.ofNat bs.length).toNatClampNeg = (bs.map Value.int).length := by rw [(Ix.ofNat hlen).clamp]; simp
  obtain ⟨a, T', h', k1, b, kb, X', e', E, hS', hk', hZ', hown', hE, hco, hva, hA, -, -, hC', -, -, st⟩ := ldcCH X hx hZ hown w wS e0 hS hk hEL hmem hC.1 (vs := bs.map Value.int) (z := Int32.ofNat bs.length) ⟨ht.1, by rw [← ht.2, List.map_map]; rfl⟩ (Ix.ofNat hlen).nn hz (g := mkF m pc Ls S) rfl (hb hby hd) hn hbig hc hl'
  exact (k h' a b E hE hco hva (IA.of_arv hA (by rw [hz]; simp)) p e s m args below meth c T' T'.vm locs ⟨X', e', ⟨k1, hS', hk'⟩, hZ', hown', hC.trans hC', fun x hx => ⟨Nat.lt_of_lt_of_le (hF x hx).1 E.1, hC'.safe (hF x hx).1 (hF x hx).2⟩, hN, hO.ext E, hx, hby, r⟩).step st
/-- ldc of a String constant, not read -/
theorem WP.ldcO {idx n : Nat} {text : String} (hd : D1 bytes pc (.ldc idx) 2 pc') (hEL : EW Z a0 EL) (w : (Cond.stringLink y.cls idx text).before a0 Z = true) (wS : ∀ a ∈ Bundle.stringAtoms, a.before a0 Z = true)
    (hn : 4 * text.toList.length ≤ n) (hbig : n ≤ 536870912) (hc : cells + 2 ≤ R.cells) (hl' : slots + (n + 4) ≤ R.slots)
    (k : ∀ h' a, Ext h h' → WP l Z EL n0 R y bytes ml ret Q F h' (cells + 2) (slots + (n + 4)) pc' Ls (.ref a :: S)) : WP l Z EL n0 R y bytes ml ret Q F h cells slots pc Ls S := by
  obtain ⟨hd, rfl⟩ := hd
  intro p e s m args below meth c T vm0 locs D
  obtain ⟨X, e0, ⟨k0, hS, hk⟩, hZ, hown, hC, hF, hN, hO, hx, hby, r⟩ := D
  obtain ⟨a, T', h', k1, X', e', E, hS', hk', hZ', hown', hC', -, st⟩ := ldcOH X hx hZ hown w wS e0 hS hk hEL hC.1 (g := mkF m pc Ls S) rfl (hb hby hd) hn hbig hc hl'
  exact (k h' a E p e s m args below meth c T' T'.vm locs ⟨X', e', ⟨k1, hS', hk'⟩, hZ', hown', hC.trans hC', fun x hx => ⟨Nat.lt_of_lt_of_le (hF x hx).1 E.1, hC'.safe (hF x hx).1 (hF x hx).2⟩, hN, hO.ext E, hx, hby, r⟩).step st
/-- return of anything that its type takes as it is -/
theorem WP.retV {w : Value} {i : Instr} {t : FieldType} (hd : D1 bytes pc i 1 pc') (hr : ret = some t) (hn : narrow t w = w)
    (hi : (i = .ireturn ∧ (t = .int ∨ t = .boolean ∨ t = .byte ∨ t = .char ∨ t = .short) ∧ ∃ z, w = .int z) ∨ (i = .lreturn ∧ t = .long ∧ ∃ z, w = .long z) ∨ (i = .dreturn ∧ t = .double ∧ ∃ z, w = .double z) ∨ (i = .freturn ∧ t = .float ∧ ∃ z, w = .float z) ∨ (i = .areturn ∧ t.isReference = true ∧ w.isRef = true))
    (hc : cells ≤ R.cells) (hl : slots ≤ R.slots) {G : List Addr} (hG : ∀ x ∈ G, x ∈ F) (hQ : Q (some w) h G) : WP l Z EL n0 R y bytes ml ret Q F h cells slots pc Ls (w :: S) := by
  obtain ⟨hd, rfl⟩ := hd
  refine WP.leave (v := some w) (fun p e s m args below meth c T vm0 locs fs D hlv => ?_) (fun q => by rw [hr] at q; cases q) hc hl hG hQ
  obtain ⟨X, e0, -, hZ, hown, -, -, -, -, hx, hby, -, hret, -⟩ := D
  exact retOut X hx (hret.trans hr) hn hi (hb hby hd) hlv
theorem WP.ireturn {z : Int32} {t : FieldType} (hd : D1 bytes pc .ireturn 1 pc') (hr : ret = some t) (ht : t = .int ∨ t = .boolean ∨ t = .byte ∨ t = .char ∨ t = .short) (hn : narrow t (.int z) = .int z) (hc : cells ≤ R.cells) (hl : slots ≤ R.slots) {G : List Addr} (hG : ∀ x ∈ G, x ∈ F) (hQ : Q (some (.int z)) h G) : WP l Z EL n0 R y bytes ml ret Q F h cells slots pc Ls (.int z :: S) :=
  WP.retV hd hr hn (Or.inl ⟨rfl, ht, z, rfl⟩) hc hl hG hQ
theorem WP.areturn {w : Value} {t : FieldType} (hd : D1 bytes pc .areturn 1 pc') (hr : ret = some t) (ht : t.isReference = true) (hw : w.isRef = true) (hc : cells ≤ R.cells) (hl : slots ≤ R.slots) {G : List Addr} (hG : ∀ x ∈ G, x ∈ F) (hQ : Q (some w) h G) : WP l Z EL n0 R y bytes ml ret Q F h cells slots pc Ls (w :: S) :=
  WP.retV hd hr (by cases t <;> first | (cases ht; done) | (rcases ref_cases hw with rfl | ⟨a, rfl⟩ <;> rfl)) (Or.inr (Or.inr (Or.inr (Or.inr ⟨rfl, ht, hw⟩)))) hc hl hG hQ
theorem WP.return_ (hd : D1 bytes pc .return_ 1 pc') (hr : ret = none) (hc : cells ≤ R.cells) (hl : slots ≤ R.slots) {G : List Addr} (hG : ∀ x ∈ G, x ∈ F) (hQ : Q none h G) : WP l Z EL n0 R y bytes ml ret Q F h cells slots pc Ls [] := by
  obtain ⟨hd, rfl⟩ := hd
  refine WP.leave (v := none) (fun p e s m args below meth c T vm0 locs fs D hlv => ?_) (fun _ => rfl) hc hl hG hQ
  obtain ⟨X, e0, -, hZ, hown, -, -, -, -, hx, hby, -, hret, -⟩ := D
  exact X.returnOut hx (hret.trans hr) (hb hby hd) hlv
end Heap
end Jvm.Own
namespace Jvm.Own
open Jvm Jvm.ClassFile Sem Op Lib Jvm.Free Jvm.Stand Jvm.LawKit Jvm.RoadKit Bundle
/-- a method's contract: called with these arguments at the heap h0 it returns as Q says -/
def Met (l : Launch) (Z : State) (EL : List (String × Nat)) (n0 : Nat) (ws : List Jvm.Cond) (y : MethodName) (bytes : ByteArray) (ml : Nat) (ret : Option FieldType) (rm : Room) (as : Array Value) (F0 : List Addr) (h0 : Heap) (Q : Option Value → Heap → List Addr → Prop) : Prop :=
  MetFree l y (head1 (Jvm.Cond.code y bytes ml ret :: ws) rm) (fun a U => a = as ∧ Z.Warmed39 U.vm ∧ U.heap = h0 ∧ CHv Z EL U.vm h0 ∧ SafeL Z EL U.vm h0 F0) (fun _ _ _ _ _ => True)
    (fun _ U o U' => ∃ v L, o = .returned v ∧ ((∃ F, Q v U'.heap F ∧ SafeL Z EL U'.vm U'.heap F) ∧ Fr n0 L ∧ Old Z n0 U'.heap) ∧ CHr Z EL U.vm U.heap U'.vm U'.heap ∧ ReturnedEndW U o U' L rm.cells rm.slots)
section Calls
variable {l : Launch} {Z : State} {EL : List (String × Nat)} {n0 : Nat} {R : Room} {y : MethodName} {bytes : ByteArray} {ml : Nat} {ret : Option FieldType} {Q : Option Value → Heap → List Addr → Prop}
  {F : List Addr} {h : Heap} {cells slots pc pc' : Nat} {Ls Ls' : Array Slot} {S S' : List Value} {a0 : Array Value}
theorem Met.of {ws : List Jvm.Cond} {rm : Room} {as : Array Value} {F0 : List Addr} {h0 : Heap} (hpl : plainFor y = true) (hEL : EW Z a0 EL) (hO : Old Z n0 h0) (hef : ∀ m, entryFrame m as ml = mkF m 0 Ls [])
    (body : WP l Z EL n0 rm y bytes ml ret Q F0 h0 0 0 0 Ls []) : Met l Z EL n0 ws y bytes ml ret rm as F0 h0 Q := by
  refine MetFree.of_bodySF hpl hisR ?_
  intro p e s m args below meth c s₁ Bd hml0 hP hK
  obtain ⟨rfl, hZ, hh, hC, hS⟩ := hP
  have e0 : s₁.heap = h0 := by rw [← hh, Bd.state]; rfl
  have ev : s₁.vm = s.vm := by rw [Bd.state]; rfl
  have X : Stand p l e rm s m args below meth c s₁ [] 0 0 := Stand.of_body Bd
  have hsi : s.Since s.vm 0 := ev ▸ X.warmed.since 0
  obtain ⟨t, o, r1, r⟩ := body p e s m args below meth c s₁ s.vm [] ⟨X, e0, ⟨0, hsi, Nat.zero_le _⟩, hZ, findClass_of_methodNamed Bd.named, by rw [hh]; exact CHr.refl hC, hS, Fr.nil n0, hO, Bd.exec, Bd.bytes, hml0, Bd.returns, Bd.notSynchronized, (name_of_methodNamed Bd.named Bd.method).1, a0, hEL⟩
  refine ⟨t, o, ?_, r⟩
  rw [hef]; exact r1
variable {yc : MethodName} {bytesc : ByteArray} {mlc : Nat} {retc : Option FieldType} {rm : Room} {as : Array Value} {F0 : List Addr} {Qc : Option Value → Heap → List Addr → Prop}
theorem backM {p : Program} {e : Env} {below : List Frame} {s : State} {vm0 : Vm} {args : Array Value} {len W : Nat} (M : Met l Z EL n0 [] yc bytesc mlc retc rm as F0 h Qc)
    (hZ : Z.Warmed39 vm0) (wc : (Jvm.Cond.code yc bytesc mlc retc).before a0 Z = true) (wz : (Jvm.Cond.initialized yc.cls).before a0 Z = true) (hf : rm.frames + 1 ≤ R.frames) (hl : W + (mlc + 11) + rm.locals ≤ R.locals) (hEL : ∃ a0, EW Z a0 EL) (H : CHv Z EL vm0 h) (hS : SafeL Z EL vm0 h F0) :
    BackS l R p e below (s.setVm vm0) args yc len W (fun A a => a = as ∧ A.U.heap = h ∧ A.cells + rm.cells ≤ R.cells ∧ A.slots + rm.slots ≤ R.slots)
      (fun A _ v B => ∃ L F', Qc v B.U.heap F' ∧ SafeL Z EL B.U.vm B.U.heap F' ∧ Fr n0 L ∧ Old Z n0 B.U.heap ∧ B.locs = A.locs ++ L ∧ B.cells = A.cells + rm.cells ∧ B.slots = A.slots + rm.slots ∧ CHr Z EL vm0 h B.U.vm B.U.heap) := by
  obtain ⟨a1, hEL⟩ := hEL
  exact BackS.of_freeW (bytes := bytesc) (maxL := mlc) (ret := retc) (E := fun _ first o t L k n => k = rm.cells ∧ n = rm.slots ∧ (∃ v, o = .returned v ∧ (∃ F', Qc v t.heap F' ∧ SafeL Z EL t.vm t.heap F') ∧ Fr n0 L ∧ Old Z n0 t.heap) ∧ CHr Z EL first.vm first.heap t.vm t.heap) M hf hl
    (fun m meth c A a Y hp => have hU : Z.Warmed39 A.U.vm := wtrans (s := s.setVm vm0) hZ Y.warmed
      ⟨by show (Jvm.Cond.and _ .tt).before a A.U = true; rw [Cond.before_and, mv hU wc]; rfl, mv hU wc, mv hU wz, hp.2.2.1, hp.2.2.2⟩)
    (fun m meth c A a g mk Y hp => ⟨hp.1, wtrans (s := s.setVm vm0) hZ Y.warmed, hp.2.1, (CHv.at Y hZ hEL H).1, fun x hx => ⟨(hS x hx).1, (CHv.at Y hZ hEL H).safe (hS x hx).1 (hS x hx).2⟩⟩) (fun _ _ _ _ _ _ _ _ _ => trivial)
    (fun _ _ _ _ ⟨v, L, h1, h2, h3, h4⟩ => ⟨L, _, _, h4, rfl, rfl, ⟨v, h1, h2⟩, h3⟩)
    (fun m meth c A a g mk v t L k n Y hp _ _ ⟨e1, e2, ⟨v', e3, ⟨F', e4, e4'⟩, e5, e6⟩, e7⟩ => by
      cases e3; subst e1 e2
      refine ⟨L, F', e4, e4', e5, e6, rfl, rfl, rfl, (CHv.at Y hZ hEL H).trans ?_⟩
      rw [← hp.2.1]; exact e7)
theorem WP.call {len W : Nat} {rest : List Value} (M : Met l Z EL n0 [] yc bytesc mlc retc rm as F0 h Qc) (wc : (Jvm.Cond.code yc bytesc mlc retc).before a0 Z = true) (wz : (Jvm.Cond.initialized yc.cls).before a0 Z = true) (hf : rm.frames + 1 ≤ R.frames) (hl : W + (mlc + 11) + rm.locals ≤ R.locals)
    (hcl : cells + rm.cells ≤ R.cells) (hsl : slots + rm.slots ≤ R.slots) (hF0 : ∀ x ∈ F0, SafeBy Z EL F h x)
    (st : ∀ (p : Program) (e : Env) (s : State) (m : MethodId) (args : Array Value) (below : List Frame) (meth : Method) (c : Code) (T : State) (vm0 : Vm) (locs : List Loc), Std l Z EL n0 R y bytes ml ret p e s m args below meth c T vm0 locs F h cells slots →
      ∀ (Pre : Pt → Array Value → Prop) (Post : Pt → Array Value → Option Value → Pt → Prop), BackS l R p e below (s.setVm vm0) args yc len W Pre Post → (∀ vm₁, (s.setVm vm0).WarmedH vm₁ → Pre ⟨T.setVm vm₁, locs, cells, slots⟩ as) →
      ∃ (v : Option Value) (vm₁ : Vm) (B : Pt), (s.setVm vm0).WarmedH vm₁ ∧ Stand p l e R ((s.setVm vm0).setVm B.U.vm) m args below meth c B.U B.locs B.cells B.slots ∧ (s.setVm vm0).Since B.U.vm B.U.heap.size ∧ T.heap.size ≤ B.U.heap.size ∧ Post ⟨T.setVm vm₁, locs, cells, slots⟩ as v B ∧
        Steps p.tables e below (T.setTop (mkF m pc Ls S)) (B.U.setTop (mkF m pc' Ls (v.toList ++ rest))))
    (k : ∀ v h' F', Qc v h' F' → h.size ≤ h'.size → WP l Z EL n0 R y bytes ml ret Q (F' ++ F) h' (cells + rm.cells) (slots + rm.slots) pc' Ls (v.toList ++ rest)) : WP l Z EL n0 R y bytes ml ret Q F h cells slots pc Ls S := by
  intro p e s m args below meth c T vm0 locs D
  have D' := D
  obtain ⟨X, e0, ⟨k0, hS, hk⟩, hZ, hown, hC, hF, hN, hO, hx, hby, hml, hret, hlk, hnm, hEL⟩ := D
  have K := backM (p := p) (e := e) (below := below) (s := s) (args := args) (len := len) (W := W) (R := R) M hZ wc wz hf hl hEL hC.1 (fun x hx => ⟨(hF0 x hx).1, (hF0 x hx).2 vm0 hZ.alike hF⟩)
  obtain ⟨v, vm₁, ⟨U, L1, c1, n1⟩, -, X', hS', hle, ⟨L, F', q1, q2, q3, q4, q5, q6, q7, q8⟩, stp⟩ := st p e s m args below meth c T vm0 locs D' _ _ K (fun vm₁ _ => ⟨rfl, e0, hcl, hsl⟩)
  subst q5 q6 q7
  obtain ⟨X2, hS2, hZ2, hown2⟩ := rebS (s := s) hS (show k0 ≤ T.heap.size by rw [e0]; exact hk) X' hS' hle hZ hown
  refine (k v U.heap F' q1 q8.2.1 p e s m args below meth c U U.vm _ ⟨X2, rfl, ⟨_, hS2, Nat.le_refl _⟩, hZ2, hown2, hC.trans q8, fun x hx => ?_, hN.app q3, q4, hx, hby, hml, hret, hlk, hnm, hEL⟩).step fun t q => stp.trans q
  rcases List.mem_append.mp hx with hx | hx
  · exact q2 x hx
  · exact ⟨Nat.lt_of_lt_of_le (hF x hx).1 q8.2.1, q8.safe (hF x hx).1 (hF x hx).2⟩
/-- invokestatic -/
theorem WP.static {idx : Nat} {argsL rest : List Value} {ps : List FieldType} {rt : Option FieldType} (hd : D1 bytes pc (.invokestatic idx) 3 pc') (M : Met l Z EL n0 [] yc bytesc mlc retc rm argsL.toArray F0 h Qc)
    (wl : (Jvm.Cond.methodLink y.cls idx yc).before a0 Z = true) (ws : (Jvm.Cond.static yc).before a0 Z = true) (wz : (Jvm.Cond.initialized yc.cls).before a0 Z = true) (wc : (Jvm.Cond.code yc bytesc mlc retc).before a0 Z = true)
    (hy : yc.cls ≠ "java/lang/invoke/MethodHandle" ∧ yc.cls ≠ "java/lang/invoke/VarHandle") (hpd : parseMethodDescriptor yc.desc = some ⟨ps, rt⟩) (hpl : argsL.length = ps.length) (hstk : S = argsL.reverse ++ rest) (hsz : Ls.size = ml)
    (hf : rm.frames + 1 ≤ R.frames) (hl : (rest.map fun v => v.category).sum + (mlc + 11) + rm.locals ≤ R.locals) (hcl : cells + rm.cells ≤ R.cells) (hsl : slots + rm.slots ≤ R.slots) (hF0 : ∀ x ∈ F0, SafeBy Z EL F h x)
    (k : ∀ v h' F', Qc v h' F' → h.size ≤ h'.size → WP l Z EL n0 R y bytes ml ret Q (F' ++ F) h' (cells + rm.cells) (slots + rm.slots) pc' Ls (v.toList ++ rest)) : WP l Z EL n0 R y bytes ml ret Q F h cells slots pc Ls S := by
  obtain ⟨hd, rfl⟩ := hd
  refine WP.call (len := 3) (rest := rest) M wc wz hf hl hcl hsl hF0 (fun p e s m args below meth c T vm0 locs D Pre Post K hpre => ?_) k
  obtain ⟨X, e0, -, hZ, hown, -, -, -, -, hx, hby, hml, -⟩ := D
  exact callSS X hx hown (mvT (s := s.setVm vm0) hZ wl) (mvT (s := s.setVm vm0) hZ ws) (mvT (s := s.setVm vm0) hZ wz) (mvT (s := s.setVm vm0) hZ wc) hy K (g := mkF m pc Ls S) rfl (by rw [hml]; exact hsz) (lenOf hpd hpl) hstk (by show 2 * 0 + _ ≤ _; omega) (hb hby hd) hpre
/-- invokespecial of a constructor -/
theorem WP.special {idx : Nat} {a : Addr} {argsL rest : List Value} {ps : List FieldType} {rt : Option FieldType} (hd : D1 bytes pc (.invokespecial idx) 3 pc') (M : Met l Z EL n0 [] yc bytesc mlc none rm (.ref a :: argsL).toArray F0 h Qc) (hn : yc.name = "<init>")
    (wl : (Jvm.Cond.methodLink y.cls idx yc).before a0 Z = true) (ws : (Jvm.Cond.instanceMethod yc).before a0 Z = true) (wz : (Jvm.Cond.initialized yc.cls).before a0 Z = true) (wc : (Jvm.Cond.code yc bytesc mlc none).before a0 Z = true)
    (hy : yc.cls ≠ "java/lang/invoke/MethodHandle" ∧ yc.cls ≠ "java/lang/invoke/VarHandle") (hpd : parseMethodDescriptor yc.desc = some ⟨ps, rt⟩) (hpl : argsL.length = ps.length) (hstk : S = argsL.reverse ++ .ref a :: rest) (hsz : Ls.size = ml)
    (hf : rm.frames + 1 ≤ R.frames) (hl : (rest.map fun v => v.category).sum + (mlc + 11) + rm.locals ≤ R.locals) (hcl : cells + rm.cells ≤ R.cells) (hsl : slots + rm.slots ≤ R.slots) (hF0 : ∀ x ∈ F0, SafeBy Z EL F h x)
    (k : ∀ v h' F', Qc v h' F' → h.size ≤ h'.size → WP l Z EL n0 R y bytes ml ret Q (F' ++ F) h' (cells + rm.cells) (slots + rm.slots) pc' Ls (v.toList ++ rest)) : WP l Z EL n0 R y bytes ml ret Q F h cells slots pc Ls S := by
  obtain ⟨hd, rfl⟩ := hd
  refine WP.call (len := 3) (rest := rest) M wc wz hf hl hcl hsl hF0 (fun p e s m args below meth c T vm0 locs D Pre Post K hpre => ?_) k
  obtain ⟨X, e0, -, hZ, hown, -, -, -, -, hx, hby, hml, -⟩ := D
  exact X.specialBackS hx hn hown (mvT (s := s.setVm vm0) hZ wl) (mvT (s := s.setVm vm0) hZ ws) (mvT (s := s.setVm vm0) hZ wc) hy K (g := mkF m pc Ls S) rfl (by rw [hml]; exact hsz) (Steps.refl _) (lenOf hpd hpl) hstk (by show 2 * 0 + _ ≤ _; omega) (hb hby hd) hpre
/-- invokevirtual -/
theorem WP.virtual {idx : Nat} {a : Addr} {C : String} {yr : MethodName} {argsL rest : List Value} {ps : List FieldType} {rt : Option FieldType} (hd : D1 bytes pc (.invokevirtual idx) 3 pc') (M : Met l Z EL n0 [] yc bytesc mlc retc rm (.ref a :: argsL).toArray F0 h Qc) (E : Exa Z h a C)
    (wl : (Jvm.Cond.methodLink y.cls idx yr).before a0 Z = true) (wd : (Jvm.Cond.declares yr).before a0 Z = true) (wi : (Jvm.Cond.instanceMethod yc).before a0 Z = true) (ws : (Jvm.Cond.selects C yr yc).before a0 Z = true) (wz : (Jvm.Cond.initialized yc.cls).before a0 Z = true) (wc : (Jvm.Cond.code yc bytesc mlc retc).before a0 Z = true)
    {C2 : String} (hnf : (Jvm.Cond.selects C2 yr yr).before a0 Z = true)
    (hy : yr.cls ≠ "java/lang/invoke/MethodHandle" ∧ yr.cls ≠ "java/lang/invoke/VarHandle") (hpd : parseMethodDescriptor yr.desc = some ⟨ps, rt⟩) (hpl : argsL.length = ps.length) (hstk : S = argsL.reverse ++ .ref a :: rest) (hsz : Ls.size = ml)
    (hf : rm.frames + 1 ≤ R.frames) (hl : (rest.map fun v => v.category).sum + (mlc + 11) + rm.locals ≤ R.locals) (hcl : cells + rm.cells ≤ R.cells) (hsl : slots + rm.slots ≤ R.slots) (hF0 : ∀ x ∈ F0, SafeBy Z EL F h x)
    (k : ∀ v h' F', Qc v h' F' → h.size ≤ h'.size → WP l Z EL n0 R y bytes ml ret Q (F' ++ F) h' (cells + rm.cells) (slots + rm.slots) pc' Ls (v.toList ++ rest)) : WP l Z EL n0 R y bytes ml ret Q F h cells slots pc Ls S := by
  obtain ⟨hd, rfl⟩ := hd
  refine WP.call (len := 3) (rest := rest) M wc wz hf hl hcl hsl hF0 (fun p e s m args below meth c T vm0 locs D Pre Post K hpre => ?_) k
  obtain ⟨X, e0, -, hZ, hown, -, -, -, -, hx, hby, hml, -⟩ := D
  obtain ⟨cB, kB, o1, o2, o3⟩ := isOf (s := s.setVm vm0) hZ e0 E
  exact X.virtualBackS hx hown (mvT (s := s.setVm vm0) hZ wl) (mvT (s := s.setVm vm0) hZ wd) (notFace_of_selects (args := #[]) (mvT (s := s.setVm vm0) hZ hnf)) (mvT (s := s.setVm vm0) hZ ws) (mvT (s := s.setVm vm0) hZ wi) hy K o1 o3 (g := mkF m pc Ls S) rfl (by rw [hml]; exact hsz) (Steps.refl _) (lenOf hpd hpl) hstk (by show 2 * 0 + _ ≤ _; omega) (hb hby hd) hpre
end Calls
end Jvm.Own
namespace Jvm.Own
open Jvm Jvm.ClassFile Sem Op Lib Jvm.Free Jvm.Stand Jvm.LawKit Jvm.RoadKit Bundle
def Str (Z : State) (h : Heap) (a t : Addr) (bs : List Int32) : Prop := Exa Z h a "java/lang/String" ∧ Fld Z h a "java/lang/String" "coder" "B" (.int 0) ∧ Fld Z h a "java/lang/String" "value" "[B" (.ref t) ∧ IA Z h t .byte bs
/-- chars from 0 to 255 -/
def Lat (cs : List Int32) : Prop := ∀ c ∈ cs, 0 ≤ c.toInt ∧ c.toInt < 256
def lo8 (x : Int32) : Int32 := x.toInt8.toInt32
/-- a char below 256 -/
def B8 (c : Int32) : Prop := 0 ≤ c.toInt ∧ c.toInt < 256
theorem B8.and (x : Int32) : B8 (x &&& 255) := by
  have q := c_and x 255 (by decide)
  have e : (255 : Int32).toInt = 255 := rfl
  rw [e] at q
  exact ⟨q.1, by omega⟩
theorem B8.i2c_eq {x : Int32} (q : B8 x) : x.toUInt32.toUInt16.toUInt32.toInt32 = x := by
  have a := c_i2c x
  obtain ⟨q1, q2⟩ := q
  apply Int32.toInt_inj.mp
  omega
theorem B8.i2c {x : Int32} (q : B8 x) : B8 (x.toUInt32.toUInt16.toUInt32.toInt32) := by rw [q.i2c_eq]; exact q
theorem B8.nar {x : Int32} (q : B8 x) : nar .char x = x := q.i2c_eq
theorem Lat.nil : Lat [] := fun _ q => nomatch q
theorem Lat.cons {c : Int32} {cs : List Int32} (q : B8 c) (r : Lat cs) : Lat (c :: cs) := fun x hx => by
  rcases List.mem_cons.mp hx with rfl | hx
  · exact q
  · exact r x hx
section StrFacts
variable {Z : State} {h h' : Heap} {a b t : Addr} {bs cs : List Int32} {sl : Nat} {v : Value} {ws : List Addr}
theorem Str.lt (A : Str Z h a t bs) : a < h.size := A.1.lt
theorem Str.ltT (A : Str Z h a t bs) : t < h.size := A.2.2.2.lt
theorem Str.ext (A : Str Z h a t bs) (E : Ext h h') : Str Z h' a t bs := ⟨A.1.ext E, A.2.1.ext E, A.2.2.1.ext E, A.2.2.2.ext E⟩
theorem Str.keep (A : Str Z h a t bs) (K : Keep h h' ws) (q1 : a ∉ ws) (q2 : t ∉ ws) : Str Z h' a t bs := ⟨A.1.keep K, A.2.1.keep K q1, A.2.2.1.keep K q1, A.2.2.2.keep K q2⟩
theorem Str.other (A : Str Z h a t bs) (W : Wr h h' b sl v) (q1 : a ≠ b) (q2 : t ≠ b) : Str Z h' a t bs := ⟨A.1.wr W, A.2.1.other W (Or.inl q1), A.2.2.1.other W (Or.inl q1), A.2.2.2.other W q2⟩
theorem IA.inj {ty ty' : FieldType} {xs ys : List Int32} (A : IA Z h a ty xs) (B : IA Z h a ty' ys) : xs = ys := by
  obtain ⟨c, A, e, -⟩ := A
  obtain ⟨c', B, e', -⟩ := B
  cases A.1.symm.trans B.1
  have q := congrArg Array.toList (e.symm.trans e')
  simp only at q
  exact (List.map_inj_right (fun _ _ z => by cases z; rfl)).mp q
theorem Fld.inj {C n d : String} {v w : Value} (F : Fld Z h a C n d v) (G : Fld Z h a C n d w) : v = w := Classical.byContradiction fun q => Fld.ne F G q rfl
theorem Str.inj {t' : Addr} {bs' : List Int32} (A : Str Z h a t bs) (B : Str Z h a t' bs') : t = t' ∧ bs = bs' := by
  have q := Fld.inj A.2.2.1 B.2.2.1
  cases q
  exact ⟨rfl, IA.inj A.2.2.2 B.2.2.2⟩
theorem lo8_inj {x z : Int32} (hx : 0 ≤ x.toInt ∧ x.toInt < 256) (hz : 0 ≤ z.toInt ∧ z.toInt < 256) (q : lo8 x = lo8 z) : x = z := by
  have a1 := (c_i2b x).1
  have a2 := (c_i2b z).1
  have e : x.toInt8.toInt32.toInt = z.toInt8.toInt32.toInt := congrArg Int32.toInt q
  apply Int32.toInt_inj.mp
  omega
theorem lo8_map_inj : ∀ {cs ds : List Int32}, Lat cs → Lat ds → (cs.map lo8 = ds.map lo8 ↔ cs = ds) := by
  intro cs
  induction cs with
  | nil => intro ds _ _; cases ds <;> simp
  | cons c r ih =>
    intro ds h1 h2
    cases ds with
    | nil => simp
    | cons d r' =>
      simp only [List.map_cons, List.cons.injEq]
      have i := ih (ds := r') (fun x hx => h1 x (by simp [hx])) (fun x hx => h2 x (by simp [hx]))
      constructor
      · rintro ⟨p, q⟩
        exact ⟨lo8_inj (h1 c (by simp)) (h2 d (by simp)) p, i.mp q⟩
      · rintro ⟨rfl, q⟩
        exact ⟨rfl, i.mpr q⟩
def chr8 (b : Int32) : Int32 := (b &&& 255).toUInt32.toUInt16.toUInt32.toInt32
theorem chr8_lo8 {c : Int32} (q : B8 c) : chr8 (lo8 c) = c := by
  have e : lo8 c &&& 255 = c := by
    have a1 := c_mask (lo8 c) 255 8 (by decide) (by decide)
    have a2 := (c_i2b c).1
    obtain ⟨q1, q2⟩ := q
    apply Int32.toInt_inj.mp
    rw [a1]
    show c.toInt8.toInt32.toInt % ((2 ^ 8 : Nat) : Int) = _
    have e : ((2 ^ 8 : Nat) : Int) = 256 := rfl
    rw [e]
    omega
  unfold chr8
  rw [e]
  exact q.i2c_eq
theorem shr0 (x : Int32) : x >>> ((0 : Int32) &&& 31) = x := by
  have q := c_ishr x 0 0 (by decide)
  apply Int32.toInt_inj.mp
  rw [q]
  simp
theorem Ix.ltn {j : Int32} {i n : Nat} (q : Ix j i) (hn : n < 2 ^ 31) (hi : i < n) : j < Int32.ofNat n := by
  rw [Int32.lt_iff_toInt_lt, q, Int32.toInt_ofNat_of_lt hn]; omega
/-- a String that 'new' has just made is no literal -/
theorem SafeBy.blank {EL : List (String × Nat)} {F : List Addr} (E : Exa Z h a "java/lang/String") (V : Fld Z h a "java/lang/String" "value" "[B" .null) {n : Nat} {a0 : Array Value} (wi : (Jvm.Cond.instantiable "java/lang/String" n).before a0 Z = true) : SafeBy Z EL F h a := by
  refine ⟨E.lt, fun vm hal _ B => ?_⟩
  obtain ⟨p, hp, u, b, hb, q, hq, F', hy⟩ := B
  obtain ⟨cS, ⟨⟨s1, s2, s3, ⟨cv, kv, iv, s4, s4'⟩, ⟨cc, kc, ic, s5, s5'⟩, s6, s7, s8, s9, s10, s11, s12, s13, s14, s15, s16⟩, hfS, hcS⟩, ⟨kS, k1, k2, k3⟩, hB, hbyt⟩ := F'
  obtain ⟨cell, cf, k, i, f, h1, h2, h3, h4, h5, h6, h7⟩ := V
  rcases hy with rfl | rfl
  · obtain ⟨kv', z4⟩ := ff_back (U := Wst Z vm h) hal s4
    cases h2.symm.trans z4
    cases h1.symm.trans (show h[q.sa]? = some q.sC from s1)
    have := h7.symm.trans s8
    cases this
  · obtain ⟨c1, kk, e1, e2, e3, -⟩ := E
    cases e1.symm.trans (show h[q.sd]? = some q.SA from s10)
    obtain ⟨c2, k2', i1, i2, i3, -⟩ := Cond.instantiable_spec wi
    cases e2.symm.trans i1
    obtain ⟨-, k9, hk9, comp, hkind9⟩ := s11
    obtain ⟨k', hk', ek⟩ := hal.2.2 _ _ i2
    cases (show vm.classes[q.SA.cls]? = some k9 from hk9).symm.trans hk'
    rw [ek] at hkind9
    have hk3 : k2'.kind = _ := hkind9
    rw [i3] at hk3
    cases hk3
end StrFacts
end Jvm.Own
namespace Jvm.Own
open Jvm Jvm.ClassFile Sem Op Lib Jvm.Free Jvm.Stand Jvm.LawKit Jvm.RoadKit Bundle
section Dbl
variable {l : Launch} {Z : State} {EL : List (String × Nat)} {n0 : Nat} {R : Room} {y : MethodName} {bytes : ByteArray} {ml : Nat} {ret : Option FieldType} {Q : Option Value → Heap → List Addr → Prop}
  {F : List Addr} {h : Heap} {cells slots pc pc' : Nat} {Ls Ls' : Array Slot} {S S' : List Value} {a0 : Array Value}
theorem WP.ldcI {idx : Nat} {v : Int32} (hd : D1 bytes pc (.ldc idx) 2 pc') (w : (Jvm.Cond.constant y.cls idx v).before a0 Z = true) (k : WP l Z EL n0 R y bytes ml ret Q F h cells slots pc' Ls (.int v :: S)) : WP l Z EL n0 R y bytes ml ret Q F h cells slots pc Ls S := by
  obtain ⟨hd, rfl⟩ := hd
  refine WP.same (fun p e1 s m args below meth c' T vm0 locs D => ?_) k
  obtain ⟨X, e0, -, hZ, hown, -, -, -, -, hx, hby, -⟩ := D
  exact ⟨T, X, e0, fun t q => X.ldcI hx hown (mvT (s := s.setVm vm0) hZ w) (g := mkF m pc Ls S) rfl (hb hby hd) q⟩
theorem WP.ldc2J {idx : Nat} {v : Int64} (hd : D1 bytes pc (.ldc2_w idx) 3 pc') (w : (Jvm.Cond.constantLong y.cls idx v).before a0 Z = true) (k : WP l Z EL n0 R y bytes ml ret Q F h cells slots pc' Ls (.long v :: S)) : WP l Z EL n0 R y bytes ml ret Q F h cells slots pc Ls S := by
  obtain ⟨hd, rfl⟩ := hd
  refine WP.same (fun p e1 s m args below meth c' T vm0 locs D => ?_) k
  obtain ⟨X, e0, -, hZ, hown, -, -, -, -, hx, hby, -⟩ := D
  exact ⟨T, X, e0, fun t q => X.ldc2J hx hown (mvT (s := s.setVm vm0) hZ w) (g := mkF m pc Ls S) rfl (hb hby hd) q⟩
theorem WP.ldc2D {idx : Nat} {v : UInt64} (hd : D1 bytes pc (.ldc2_w idx) 3 pc') (w : (Jvm.Cond.constantDouble y.cls idx v).before a0 Z = true) (k : WP l Z EL n0 R y bytes ml ret Q F h cells slots pc' Ls (.double v :: S)) : WP l Z EL n0 R y bytes ml ret Q F h cells slots pc Ls S := by
  obtain ⟨hd, rfl⟩ := hd
  refine WP.same (fun p e1 s m args below meth c' T vm0 locs D => ?_) k
  obtain ⟨X, e0, -, hZ, hown, -, -, -, -, hx, hby, -⟩ := D
  exact ⟨T, X, e0, fun t q => X.ldc2DoubleC hx hown (mvT (s := s.setVm vm0) hZ w) (g := mkF m pc Ls S) rfl (hb hby hd) t q⟩
theorem WP.dload_n {i : Fin 4} {x : UInt64} (hd : D1 bytes pc (.dload_n i) 1 pc') (hl : Ls[i.val]? = some (.val (.double x))) (k : WP l Z EL n0 R y bytes ml ret Q F h cells slots pc' Ls (.double x :: S)) : WP l Z EL n0 R y bytes ml ret Q F h cells slots pc Ls S := by
  obtain ⟨hd, rfl⟩ := hd
  exact k.lift fun p e m c below T t hx hby ha q => XS.dloadN ha hx rfl (hb hby hd) hl q
theorem WP.dload {i : Nat} {x : UInt64} (hd : D1 bytes pc (.dload i) 2 pc') (hl : Ls[i]? = some (.val (.double x))) (k : WP l Z EL n0 R y bytes ml ret Q F h cells slots pc' Ls (.double x :: S)) : WP l Z EL n0 R y bytes ml ret Q F h cells slots pc Ls S := by
  obtain ⟨hd, rfl⟩ := hd
  exact k.lift fun p e m c below T t hx hby ha q => XS.dload ha hx rfl (hb hby hd) hl q
theorem WP.dstore_n {i : Fin 4} {x z : UInt64} (hd : D1 bytes pc (.dstore_n i) 1 pc') (hz : x = z) (hl : storeLocals Ls i.val (.double z) = some Ls') (k : WP l Z EL n0 R y bytes ml ret Q F h cells slots pc' Ls' S) : WP l Z EL n0 R y bytes ml ret Q F h cells slots pc Ls (.double x :: S) := by
  obtain ⟨hd, rfl⟩ := hd
  subst hz
  exact k.lift fun p e m c below T t hx hby ha q => XS.dstoreN ha hx rfl (hb hby hd) rfl hl q
theorem WP.dstore {i : Nat} {x z : UInt64} (hd : D1 bytes pc (.dstore i) 2 pc') (hz : x = z) (hl : storeLocals Ls i (.double z) = some Ls') (k : WP l Z EL n0 R y bytes ml ret Q F h cells slots pc' Ls' S) : WP l Z EL n0 R y bytes ml ret Q F h cells slots pc Ls (.double x :: S) := by
  obtain ⟨hd, rfl⟩ := hd
  subst hz
  exact k.lift fun p e m c below T t hx hby ha q => XS.dstore ha hx rfl (hb hby hd) rfl hl q
theorem WP.i2d {x : Int32} (hd : D1 bytes pc .i2d 1 pc') (k : WP l Z EL n0 R y bytes ml ret Q F h cells slots pc' Ls (.double (FP.i2d x) :: S)) : WP l Z EL n0 R y bytes ml ret Q F h cells slots pc Ls (.int x :: S) := by
  obtain ⟨hd, rfl⟩ := hd
  exact k.lift fun p e m c below T t hx hby ha q => XS.i2dS ha hx rfl (hb hby hd) rfl rfl q
theorem WP.dcmp {o : CmpOp} {x z : UInt64} {v : Int32} (hd : D1 bytes pc (.dcmp o) 1 pc') (hv : cmpValue (FP.dcmp x z) o = v) (k : WP l Z EL n0 R y bytes ml ret Q F h cells slots pc' Ls (.int v :: S)) : WP l Z EL n0 R y bytes ml ret Q F h cells slots pc Ls (.double z :: .double x :: S) := by
  obtain ⟨hd, rfl⟩ := hd
  exact k.lift fun p e m c below T t hx hby ha q => XS.dcmpS ha hx rfl (hb hby hd) rfl hv q
/-- Math.abs of a double that is no NaN -/
theorem WP.absD {idx mlc : Nat} {bytesc : ByteArray} {x z : UInt64} (hd : D1 bytes pc (.invokestatic idx) 3 pc') (w1 : (Jvm.Cond.methodLink y.cls idx (⟨"java/lang/Math", "abs", "(D)D"⟩ : MethodName)).before a0 Z = true) (w2 : (Jvm.Cond.static (⟨"java/lang/Math", "abs", "(D)D"⟩ : MethodName)).before a0 Z = true) (w3 : (Jvm.Cond.initialized "java/lang/Math").before a0 Z = true) (w4 : (Jvm.Cond.code (⟨"java/lang/Math", "abs", "(D)D"⟩ : MethodName) bytesc mlc (some .double)).before a0 Z = true)
    (hn : x &&& 0x7fffffffffffffff ≤ 0x7ff0000000000000) (hz : x &&& 0x7fffffffffffffff = z) (hsz : Ls.size = ml) (hf : 1 ≤ R.frames) (hl : (S.map fun v => v.category).sum + (mlc + 11) ≤ R.locals) (hc : cells ≤ R.cells) (hs : slots ≤ R.slots)
    (k : WP l Z EL n0 R y bytes ml ret Q F h cells slots pc' Ls (.double z :: S)) : WP l Z EL n0 R y bytes ml ret Q F h cells slots pc Ls (.double x :: S) := by
  obtain ⟨hd, rfl⟩ := hd
  refine WP.same (fun p e1 s m args below meth c' T vm0 locs D => ?_) k
  obtain ⟨X, e0, -, hZ, hown, -, -, -, -, hx, hby, hml, -⟩ := D
  exact natS (s := s.setVm vm0) (F := fun a => a = #[.double x]) (val := .double (x &&& 0x7fffffffffffffff)) (W := (S.map fun v => v.category).sum) X hx hZ hown w1 w2 w3 w4 (by decide) e0
    (fun hcd m' meth' c2 A g ig mk a X' hg hsz' hdg hW hnm hp => by
      obtain ⟨v, B, X2, ⟨hB, hv⟩, st⟩ := Jvm.Free.NT.Abs64.pays (R := R) (W := (S.map fun v => v.category).sum) (len := 3) hcd (mvT (s := s.setVm vm0) hZ w2) hf hl m' meth' c2 A g ig mk a X' hg hsz' hdg hW hnm ⟨x, hp.2.2, hn⟩
      exact ⟨v, B, X2, ⟨hv x ⟨hp.2.2, hn⟩, hB⟩, st⟩)
    (g := mkF m pc Ls (.double x :: S)) rfl (by rw [hml]; exact hsz) (argsL := [.double x]) (rest := S) (lenOf (ps := [.double]) (r := some .double) (by decide +kernel) rfl) rfl (by show 2 * 0 + _ ≤ _; omega) (hb hby hd) hc hs rfl (by rw [hz])
end Dbl
end Jvm.Own
namespace Jvm.Own
open Jvm Jvm.ClassFile Sem Op Lib Jvm.Free Jvm.Stand Jvm.LawKit Jvm.RoadKit Bundle
/-- an array of references: its components -/
def RA (Z : State) (h : Heap) (a : Addr) (ty : FieldType) (vs : List Value) : Prop := ∃ c : Cell, Arr Z h a c ty ∧ c.slots = vs.toArray ∧ vs.length < 2 ^ 31
section Refs
variable {l : Launch} {Z : State} {EL : List (String × Nat)} {n0 : Nat} {R : Room} {y : MethodName} {bytes : ByteArray} {ml : Nat} {ret : Option FieldType} {Q : Option Value → Heap → List Addr → Prop}
  {F : List Addr} {h h' : Heap} {cells slots pc pc' : Nat} {Ls Ls' : Array Slot} {S S' : List Value} {a0 : Array Value} {ws : List Addr}
theorem RA.lt {a : Addr} {ty : FieldType} {vs : List Value} (A : RA Z h a ty vs) : a < h.size := by obtain ⟨c, A, -⟩ := A; exact A.lt
theorem RA.len {a : Addr} {ty : FieldType} {vs : List Value} (A : RA Z h a ty vs) : vs.length < 2 ^ 31 := by obtain ⟨c, -, -, q⟩ := A; exact q
theorem RA.ext {a : Addr} {ty : FieldType} {vs : List Value} (A : RA Z h a ty vs) (E : Ext h h') : RA Z h' a ty vs := by obtain ⟨c, A, r⟩ := A; exact ⟨c, A.ext E, r⟩
theorem RA.other {a b : Addr} {ty : FieldType} {vs : List Value} {sl : Nat} {v : Value} (A : RA Z h b ty vs) (W : Wr h h' a sl v) (q : b ≠ a) : RA Z h' b ty vs := by obtain ⟨c, A, r⟩ := A; exact ⟨c, A.other W q, r⟩
theorem RA.keep {a : Addr} {ty : FieldType} {vs : List Value} (A : RA Z h a ty vs) (K : Keep h h' ws) (q : a ∉ ws) : RA Z h' a ty vs := by obtain ⟨c, A, r⟩ := A; exact ⟨c, ⟨K.2.1 a c A.1 q, A.2⟩, r⟩
theorem RA.set {a : Addr} {ty : FieldType} {vs : List Value} {i : Nat} {v : Value} (A : RA Z h a ty vs) (W : Wr h h' a i v) : RA Z h' a ty (vs.set i v) := by
  obtain ⟨c, A, e, q⟩ := A
  refine ⟨_, A.same W, ?_, by simpa using q⟩
  simp [Cell.setSlot, e]
theorem RA.sz {vs : List Value} {c : Cell} (e : c.slots = vs.toArray) : c.slots.size = vs.length := by rw [e]; simp
theorem WP.arraylengthR {a : Addr} {ty : FieldType} {vs : List Value} (hd : D1 bytes pc .arraylength 1 pc') (A : RA Z h a ty vs) (k : WP l Z EL n0 R y bytes ml ret Q F h cells slots pc' Ls (.int (Int32.ofNat vs.length) :: S)) : WP l Z EL n0 R y bytes ml ret Q F h cells slots pc Ls (.ref a :: S) := by
  obtain ⟨hd, rfl⟩ := hd
  obtain ⟨c, A, e, q⟩ := A
  refine WP.same (fun p e1 s m args below meth c' T vm0 locs D => ?_) k
  obtain ⟨X, e0, -, hZ, hown, -, -, -, -, hx, hby, -⟩ := D
  refine ⟨T, X, e0, fun t q => X.arraylength hx (by rw [e0]; exact A.1) (State.isArrayOf_alike (T := s.setVm vm0) hZ.alike A.2.1) (g := mkF m pc Ls (.ref a :: S)) rfl rfl (hb hby hd) t ?_⟩
  rw [RA.sz e]
  exact q
theorem WP.aaload {a : Addr} {ty : FieldType} {vs : List Value} {j : Int32} {v : Value} {i : Nat} (hd : D1 bytes pc .aaload 1 pc') (A : RA Z h a ty vs) (hty : ty.isReference = true) (hj : Ix j i) (hx : vs[i]? = some v) (k : WP l Z EL n0 R y bytes ml ret Q F h cells slots pc' Ls (v :: S)) : WP l Z EL n0 R y bytes ml ret Q F h cells slots pc Ls (.int j :: .ref a :: S) := by
  obtain ⟨hd, rfl⟩ := hd
  obtain ⟨c, A, e, q⟩ := A
  have hi : i < vs.length := (List.getElem?_eq_some_iff.mp hx).1
  refine WP.same (fun p e1 s m args below meth c' T vm0 locs D => ?_) k
  obtain ⟨X, e0, -, hZ, hown, -, -, -, -, hxx, hby, -⟩ := D
  exact ⟨T, X, e0, fun t q => X.aaload hxx (v := v) (by rw [e0]; exact A.1) (State.isArrayOf_alike (T := s.setVm vm0) hZ.alike A.2.1) hty A.2.2 (by rw [RA.sz e, hj.clamp]; exact fun z => z.elim hj.nn fun z => by omega) (by rw [hj.clamp, e]; simpa using hx) (g := mkF m pc Ls (.int j :: .ref a :: S)) rfl rfl (hb hby hd) t q⟩
theorem WP.instanceofNull {idx : Nat} (hd : D1 bytes pc (.instanceof idx) 3 pc') (k : WP l Z EL n0 R y bytes ml ret Q F h cells slots pc' Ls (.int 0 :: S)) : WP l Z EL n0 R y bytes ml ret Q F h cells slots pc Ls (.null :: S) := by
  obtain ⟨hd, rfl⟩ := hd
  refine WP.same (fun p e1 s m args below meth c' T vm0 locs D => ?_) k
  obtain ⟨X, e0, -, hZ, hown, -, -, -, -, hxx, hby, -⟩ := D
  exact ⟨T, X, e0, X.instanceofNull hxx (g := mkF m pc Ls (.null :: S)) rfl rfl (hb hby hd)⟩
/-- clone() of an array -/
theorem WP.clone {idx cap : Nat} {ad : String} {a : Addr} {ty : FieldType} {vs : List Value} (hd : D1 bytes pc (.invokevirtual idx) 3 pc') (w1 : (Jvm.Cond.methodLink y.cls idx ⟨ad, "clone", "()Ljava/lang/Object;"⟩).before a0 Z = true) (w2 : (Jvm.Cond.sameMethod ad "java/lang/Object" "clone" "()Ljava/lang/Object;").before a0 Z = true) (w3 : (Jvm.Cond.native ⟨"java/lang/Object", "clone", "()Ljava/lang/Object;"⟩).before a0 Z = true)
    (w4 : (Jvm.Cond.instanceMethod ⟨"java/lang/Object", "clone", "()Ljava/lang/Object;"⟩).before a0 Z = true) (w5 : (Jvm.Cond.selects ad ⟨ad, "clone", "()Ljava/lang/Object;"⟩ ⟨"java/lang/Object", "clone", "()Ljava/lang/Object;"⟩).before a0 Z = true) (w6 : (Jvm.Cond.castable ad "java/lang/Cloneable").before a0 Z = true)
    {cl : Cell} (A : Arr Z h a cl ty) (ev : cl.slots = vs.toArray) (hlen : vs.length < 2 ^ 31) (E : Exa Z h a ad) (Fc : FitC Z cl) (hsz : Ls.size = ml) (hf : 1 ≤ R.frames) (hl : (S.map fun v => v.category).sum + 14 ≤ R.locals) (hcap : vs.length ≤ cap) (hc : cells + 1 ≤ R.cells) (hsl : slots + cap ≤ R.slots)
    (k : ∀ (h' : Heap) (b : Nat), b = h.size → Ext h h' → RA Z h' b ty vs → Exa Z h' b ad → WP l Z EL n0 R y bytes ml ret Q (b :: F) h' (cells + 1) (slots + cap) pc' Ls (.ref b :: S)) : WP l Z EL n0 R y bytes ml ret Q F h cells slots pc Ls (.ref a :: S) := by
  obtain ⟨hd, rfl⟩ := hd
  refine WP.grow (G := [h.size]) (P := fun h' => RA Z h' h.size ty vs ∧ Exa Z h' h.size ad) (fun h' E hP x hx => ?_) (fun p e s m args below meth c T vm0 locs D => ?_) (fun h' E hP => k h' _ rfl E hP.1 hP.2)
  · cases List.mem_singleton.mp hx; exact ⟨hP.1.lt, Nat.le_refl _⟩
  · obtain ⟨X, e0, -, hZ, hown, -, -, -, -, hx, hby, hml, -⟩ := D
    obtain ⟨T', h', X', e', E', A', Ex, st⟩ := cloneA X hx hZ hown w1 w2 w3 w4 w5 w6 e0 A E Fc (g := mkF m pc Ls (.ref a :: S)) rfl (by rw [hml]; exact hsz) rfl (hb hby hd) hf (W := (S.map fun v => v.category).sum) (by show 2 * 0 + _ ≤ _; omega) hl (cap := cap) (by rw [RA.sz ev]; exact hcap) hc hsl
    exact ⟨T', h', X', e', E', ⟨⟨_, A', ev, hlen⟩, Ex⟩, st⟩
end Refs
end Jvm.Own
namespace Jvm.Own
open Jvm Jvm.ClassFile Sem Op Lib Jvm.Free Jvm.Stand Jvm.LawKit Jvm.RoadKit Bundle
section Words
variable {args : Array Value} {s : State} {t : Term} {a : Addr} {ty : FieldType} {c : Cell}
theorem arr_size {n : Nat} (A : Jvm.RoadKit.Arr s s.heap a c ty) (ev : t.eval args s none [] s = some (.ref a)) (hl : (Jvm.Cond.eq (.length t) (.int (Int32.ofNat n))).value args s none s [] = some true) (hn : n < 2 ^ 31) : c.slots.size = n := by
  have h := eqv_i (F := .int (Int32.ofNat n)) rfl hl
  have ha : s.arrayAt? a = some c := A.fin (Vm.Alike.refl _)
  simp only [Term.eval, ev, ha, Option.bind_eq_bind, Option.bind_some, Option.pure_def] at h
  by_cases h1 : c.slots.size < 2 ^ 31
  · have h2 : Value.int c.slots.size.toInt32 = .int (Int32.ofNat n) := by simpa [h1] using h
    have h3 : c.slots.size.toInt32 = Int32.ofNat n := by simpa using h2
    have q := congrArg Int32.toInt h3
    rw [len_toInt h1, Int32.toInt_ofNat_of_lt hn] at q
    omega
  · simp [h1] at h
theorem arr_elem {i : Nat} {v : Value} (A : Jvm.RoadKit.Arr s s.heap a c ty) (ev : t.eval args s none [] s = some (.ref a)) (hi : i < 2 ^ 31) (h : (Term.elem t (.int (Int32.ofNat i))).eval args s none [] s = some v) : c.slots[i]? = some v := by
  obtain ⟨-, q⟩ := elem_in (j := Int32.ofNat i) h ev rfl A.1
  rwa [(Ix.ofNat hi).clamp] at q
/-- an array of ints, its length and components said by words -/
theorem ia_of {xs : List Int32} (ev : t.eval args s none [] s = some (.ref a)) (ha : (Jvm.Cond.arrayOf t ty).value args s none s [] = some true) (hn : xs.length < 2 ^ 31) (hl : (Jvm.Cond.eq (.length t) (.int (Int32.ofNat xs.length))).value args s none s [] = some true)
    (he : ∀ i x, xs[i]? = some x → (Jvm.Cond.eq (.elem t (.int (Int32.ofNat i))) (.int x)).value args s none s [] = some true) : IA s s.heap a ty xs := by
  obtain ⟨c, A⟩ := Jvm.RoadKit.Arr.start ev ha
  have hs := arr_size A ev hl hn
  refine ⟨c, A, Array.ext_getElem? fun i => ?_, hn⟩
  by_cases hi : i < xs.length
  · obtain ⟨x, hx⟩ : ∃ x, xs[i]? = some x := ⟨_, List.getElem?_eq_getElem hi⟩
    rw [arr_elem A ev (by omega) (eqv_i rfl (he i x hx))]
    simp [hx]
  · rw [Array.getElem?_eq_none (by omega), Array.getElem?_eq_none (by simp; omega)]
/-- a reference said equal to another -/
theorem eqv_r {X F : Term} {r : Addr} (hF : F.eval args s none [] s = some (.ref r)) (h : (Jvm.Cond.eq X F).value args s none s [] = some true) : X.eval args s none [] s = some (.ref r) := by
  obtain ⟨x, z, e1, e2, k1, k2⟩ := cmp_v (Or.inl h)
  cases hF.symm.trans e2
  have hx : x.isRef = true := k2.2
  have := gotT (eq_R e1 hF hx rfl) h
  rw [e1, this]
/-- a Latin-1 String said by words -/
theorem str_of {xs : List Int32} (h1 : (Jvm.Cond.exactly t "java/lang/String").value args s none s [] = some true) (h2 : (Jvm.Cond.eq (.field t "java/lang/String" "coder" "B") (.int 0)).value args s none s [] = some true)
    (h3 : (Jvm.Cond.arrayOf (.field t "java/lang/String" "value" "[B") .byte).value args s none s [] = some true) (hn : xs.length < 2 ^ 31) (h4 : (Jvm.Cond.eq (.length (.field t "java/lang/String" "value" "[B")) (.int (Int32.ofNat xs.length))).value args s none s [] = some true)
    (he : ∀ i x, xs[i]? = some x → (Jvm.Cond.eq (.elem (.field t "java/lang/String" "value" "[B") (.int (Int32.ofNat i))) (.int x)).value args s none s [] = some true) (ev : t.eval args s none [] s = some (.ref a)) : ∃ b, Str s s.heap a b xs := by
  obtain ⟨b, eb⟩ := arr_v h3
  refine ⟨b, Exa.start ev h1, Jvm.RoadKit.Fld.start ?_, Jvm.RoadKit.Fld.start ?_, ia_of eb h3 hn h4 he⟩
  · rw [← fld_at ev]; exact eqv_i rfl h2
  · rw [← fld_at ev]; exact eb
end Words
end Jvm.Own
namespace Jvm.Own
open Jvm Jvm.ClassFile Sem Op Lib Jvm.Free Jvm.Stand Jvm.LawKit Jvm.RoadKit Bundle
section Calls2
variable {l : Launch} {Z : State} {EL : List (String × Nat)} {n0 : Nat} {R : Room} {y : MethodName} {bytes : ByteArray} {ml : Nat} {ret : Option FieldType} {Q : Option Value → Heap → List Addr → Prop}
  {F : List Addr} {h : Heap} {cells slots pc pc' : Nat} {Ls Ls' : Array Slot} {S S' : List Value} {a0 : Array Value}
variable {yc : MethodName} {bytesc : ByteArray} {mlc : Nat} {retc : Option FieldType} {rm : Room} {as : Array Value} {F0 : List Addr} {Qc : Option Value → Heap → List Addr → Prop}
/-- invokevirtual of a private method -/
theorem WP.privateV {idx : Nat} {a : Addr} {C : String} {argsL rest : List Value} {ps : List FieldType} {rt : Option FieldType} (hd : D1 bytes pc (.invokevirtual idx) 3 pc') (M : Met l Z EL n0 [] yc bytesc mlc retc rm (.ref a :: argsL).toArray F0 h Qc) (E : Exa Z h a C)
    (wl : (Jvm.Cond.methodLink y.cls idx yc).before a0 Z = true) (wi : (Jvm.Cond.instanceMethod yc).before a0 Z = true) (wp : (Jvm.Cond.privateMethod yc).before a0 Z = true) (ws : (Jvm.Cond.selects yc.cls yc yc).before a0 Z = true) (wz : (Jvm.Cond.initialized yc.cls).before a0 Z = true) (wc : (Jvm.Cond.code yc bytesc mlc retc).before a0 Z = true)
    (hy : yc.cls ≠ "java/lang/invoke/MethodHandle" ∧ yc.cls ≠ "java/lang/invoke/VarHandle") (hpd : parseMethodDescriptor yc.desc = some ⟨ps, rt⟩) (hpl : argsL.length = ps.length) (hstk : S = argsL.reverse ++ .ref a :: rest) (hsz : Ls.size = ml)
    (hf : rm.frames + 1 ≤ R.frames) (hl : (rest.map fun v => v.category).sum + (mlc + 11) + rm.locals ≤ R.locals) (hcl : cells + rm.cells ≤ R.cells) (hsl : slots + rm.slots ≤ R.slots) (hF0 : ∀ x ∈ F0, SafeBy Z EL F h x)
    (k : ∀ v h' F', Qc v h' F' → h.size ≤ h'.size → WP l Z EL n0 R y bytes ml ret Q (F' ++ F) h' (cells + rm.cells) (slots + rm.slots) pc' Ls (v.toList ++ rest)) : WP l Z EL n0 R y bytes ml ret Q F h cells slots pc Ls S := by
  obtain ⟨hd, rfl⟩ := hd
  refine WP.call (len := 3) (rest := rest) M wc wz hf hl hcl hsl hF0 (fun p e s m args below meth c T vm0 locs D Pre Post K hpre => ?_) k
  obtain ⟨X, e0, -, hZ, hown, -, -, -, -, hx, hby, hml, -⟩ := D
  obtain ⟨cell, c1, c2⟩ := Jvm.RoadKit.Exa.cell E
  exact X.privateBackS hx hown (mvT (s := s.setVm vm0) hZ wl) (mvT (s := s.setVm vm0) hZ wi) (mvT (s := s.setVm vm0) hZ ws) (Cond.privateMethod_at (mvP (s := s.setVm vm0) (args := #[]) hZ wp)) (mvT (s := s.setVm vm0) hZ wc) hy K (g := mkF m pc Ls S) rfl (by rw [hml]; exact hsz) (Steps.refl _) (by rw [e0]; exact c1) c2 (lenOf hpd hpl) hstk (by show 2 * 0 + _ ≤ _; omega) (hb hby hd) hpre
/-- invokevirtual where the entry's class inherits the method -/
theorem WP.virtualUp {idx : Nat} {a : Addr} {C owner : String} {yr : MethodName} {argsL rest : List Value} {ps : List FieldType} {rt : Option FieldType} (hd : D1 bytes pc (.invokevirtual idx) 3 pc') (M : Met l Z EL n0 [] yc bytesc mlc retc rm (.ref a :: argsL).toArray F0 h Qc) (E : Exa Z h a C)
    (wl : (Jvm.Cond.methodLink y.cls idx yr).before a0 Z = true) (wm : (Jvm.Cond.sameMethod yr.cls owner yr.name yr.desc).before a0 Z = true) (wd : (Jvm.Cond.declares ⟨owner, yr.name, yr.desc⟩).before a0 Z = true) (wi : (Jvm.Cond.instanceMethod yc).before a0 Z = true) (ws : (Jvm.Cond.selects C yr yc).before a0 Z = true) (wz : (Jvm.Cond.initialized yc.cls).before a0 Z = true) (wc : (Jvm.Cond.code yc bytesc mlc retc).before a0 Z = true)
    (hy : owner ≠ "java/lang/invoke/MethodHandle" ∧ owner ≠ "java/lang/invoke/VarHandle") (hpd : parseMethodDescriptor yr.desc = some ⟨ps, rt⟩) (hpl : argsL.length = ps.length) (hstk : S = argsL.reverse ++ .ref a :: rest) (hsz : Ls.size = ml)
    (hf : rm.frames + 1 ≤ R.frames) (hl : (rest.map fun v => v.category).sum + (mlc + 11) + rm.locals ≤ R.locals) (hcl : cells + rm.cells ≤ R.cells) (hsl : slots + rm.slots ≤ R.slots) (hF0 : ∀ x ∈ F0, SafeBy Z EL F h x)
    (k : ∀ v h' F', Qc v h' F' → h.size ≤ h'.size → WP l Z EL n0 R y bytes ml ret Q (F' ++ F) h' (cells + rm.cells) (slots + rm.slots) pc' Ls (v.toList ++ rest)) : WP l Z EL n0 R y bytes ml ret Q F h cells slots pc Ls S := by
  obtain ⟨hd, rfl⟩ := hd
  refine WP.call (len := 3) (rest := rest) M wc wz hf hl hcl hsl hF0 (fun p e s m args below meth c T vm0 locs D Pre Post K hpre => ?_) k
  obtain ⟨X, e0, -, hZ, hown, -, -, -, -, hx, hby, hml, -⟩ := D
  obtain ⟨cB, kB, o1, o2, o3⟩ := isOf (s := s.setVm vm0) hZ e0 E
  exact X.virtualBackUpS hx hown (mvT (s := s.setVm vm0) hZ wl) (mvT (s := s.setVm vm0) hZ wm) (mvT (s := s.setVm vm0) hZ wd) hy (mvT (s := s.setVm vm0) hZ ws) (mvT (s := s.setVm vm0) hZ wi) K o1 o3 (g := mkF m pc Ls S) rfl (by rw [hml]; exact hsz) (Steps.refl _) (lenOf hpd hpl) hstk (by show 2 * 0 + _ ≤ _; omega) (hb hby hd) hpre
/-- invokeinterface -/
theorem WP.face {idx cnt : Nat} {a : Addr} {C : String} {yr : MethodName} {argsL rest : List Value} {ps : List FieldType} {rt : Option FieldType} (hd : D1 bytes pc (.invokeinterface idx cnt) 5 pc') (hfk : ((Jvm.Cond.interfaceMethod yr.cls yr.cls yr.name yr.desc).onTables && (Jvm.Cond.interfaceMethod yr.cls yr.cls yr.name yr.desc).keepsFace) = true) (M : Met l Z EL n0 [] yc bytesc mlc retc rm (.ref a :: argsL).toArray F0 h Qc) (E : Exa Z h a C)
    (wl : (Jvm.Cond.methodLink y.cls idx yr).before a0 Z = true) (wd : (Jvm.Cond.declares yr).before a0 Z = true) (wf : (Jvm.Cond.interfaceMethod yr.cls yr.cls yr.name yr.desc).before a0 Z = true) (ws : (Jvm.Cond.selects C yr yc).before a0 Z = true) (wi : (Jvm.Cond.instanceMethod yc).before a0 Z = true) (wp : (Jvm.Cond.publicMethod yc).before a0 Z = true) (wu : (Jvm.Cond.unhidden C yr.name yr.desc).before a0 Z = true) (wt : (Jvm.Cond.castable C yr.cls).before a0 Z = true) (wz : (Jvm.Cond.initialized yc.cls).before a0 Z = true) (wc : (Jvm.Cond.code yc bytesc mlc retc).before a0 Z = true)
    (hy : yr.cls ≠ "java/lang/invoke/MethodHandle" ∧ yr.cls ≠ "java/lang/invoke/VarHandle") (hpd : parseMethodDescriptor yr.desc = some ⟨ps, rt⟩) (hpl : argsL.length = ps.length) (hstk : S = argsL.reverse ++ .ref a :: rest) (hsz : Ls.size = ml)
    (hf : rm.frames + 1 ≤ R.frames) (hl : (rest.map fun v => v.category).sum + (mlc + 11) + rm.locals ≤ R.locals) (hcl : cells + rm.cells ≤ R.cells) (hsl : slots + rm.slots ≤ R.slots) (hF0 : ∀ x ∈ F0, SafeBy Z EL F h x)
    (k : ∀ v h' F', Qc v h' F' → h.size ≤ h'.size → WP l Z EL n0 R y bytes ml ret Q (F' ++ F) h' (cells + rm.cells) (slots + rm.slots) pc' Ls (v.toList ++ rest)) : WP l Z EL n0 R y bytes ml ret Q F h cells slots pc Ls S := by
  obtain ⟨hd, rfl⟩ := hd
  refine WP.call (len := 5) (rest := rest) M wc wz hf hl hcl hsl hF0 (fun p e s m args below meth c T vm0 locs D Pre Post K hpre => ?_) k
  obtain ⟨X, e0, -, hZ, hown, -, -, -, -, hx, hby, hml, -⟩ := D
  obtain ⟨cB, kB, o1, o2, o3⟩ := isOf (s := s.setVm vm0) hZ e0 E
  exact X.interfaceBackS hx hown (mvT (s := s.setVm vm0) hZ wl) (mvT (s := s.setVm vm0) hZ wd) (mvT (s := s.setVm vm0) hZ wf hfk) (mvT (s := s.setVm vm0) hZ ws) (mvT (s := s.setVm vm0) hZ wi) (mvT (s := s.setVm vm0) hZ wp) (mvT (s := s.setVm vm0) hZ wu) (mvT (s := s.setVm vm0) hZ wt) hy K o1 o2 o3 (g := mkF m pc Ls S) rfl (by rw [hml]; exact hsz) (Steps.refl _) (lenOf hpd hpl) hstk (by show 2 * 0 + _ ≤ _; omega) (hb hby hd) hpre
end Calls2
end Jvm.Own
namespace Jvm.Pilot.@@N@@
open Jvm Jvm.ClassFile Sem Op Lib Jvm.Free Jvm.Stand Jvm.LawKit Jvm.RoadKit Bundle Jvm.Own Jvm.Pilot.@@N@@.Jvm.D
theorem own_EW {Z : State} {a0 : Array Value} (hw : ∀ d ∈ tables_1, d.before a0 Z = true) : EW Z a0 consts_1 := (EW.cons (hw _ (List.mem_of_getElem? (i := 55) rfl)) (by decide) (EW.cons (hw _ (List.mem_of_getElem? (i := 14) rfl)) (by decide) EW.nil))
theorem own_wS {Z : State} {a0 : Array Value} (hw : ∀ d ∈ tables_1, d.before a0 Z = true) : ∀ a ∈ Bundle.stringAtoms, a.before a0 Z = true := by
  intro d hd
  simp only [Bundle.stringAtoms, List.mem_cons, List.not_mem_nil, or_false] at hd
  rcases hd with rfl | rfl | rfl | rfl | rfl | rfl | rfl
  · exact (hw _ (List.mem_of_getElem? (i := 3) rfl))
  · exact (hw _ (List.mem_of_getElem? (i := 2) rfl))
  · exact (hw _ (List.mem_of_getElem? (i := 15) rfl))
  · exact (hw _ (List.mem_of_getElem? (i := 16) rfl))
  · exact (hw _ (List.mem_of_getElem? (i := 17) rfl))
  · exact (hw _ (List.mem_of_getElem? (i := 18) rfl))
  · exact (hw _ (List.mem_of_getElem? (i := 19) rfl))
theorem pd_0 : parseMethodDescriptor "([C)V" = some ⟨[(.array .char)], none⟩ := by decide +kernel
theorem pd_1 : parseMethodDescriptor "([CIILjava/lang/Void;)V" = some ⟨[(.array .char), .int, .int, (.object "java/lang/Void")], none⟩ := by decide +kernel
theorem pd_2 : parseMethodDescriptor "()V" = some ⟨[], none⟩ := by decide +kernel
theorem pd_3 : parseMethodDescriptor "(C)Ljava/lang/String;" = some ⟨[.char], some (.object "java/lang/String")⟩ := by decide +kernel
theorem pd_4 : parseMethodDescriptor "(C)Z" = some ⟨[.char], some .boolean⟩ := by decide +kernel
theorem pd_5 : parseMethodDescriptor "(C)[B" = some ⟨[.char], some (.array .byte)⟩ := by decide +kernel
theorem pd_6 : parseMethodDescriptor "([BB)V" = some ⟨[(.array .byte), .byte], none⟩ := by decide +kernel
theorem pd_7 : parseMethodDescriptor "([CII)[B" = some ⟨[(.array .char), .int, .int], some (.array .byte)⟩ := by decide +kernel
theorem pd_8 : parseMethodDescriptor "([CI[BII)I" = some ⟨[(.array .char), .int, (.array .byte), .int, .int], some .int⟩ := by decide +kernel
theorem pd_9 : parseMethodDescriptor "([BI)B" = some ⟨[(.array .byte), .int], some .byte⟩ := by decide +kernel
theorem pd_10 : parseMethodDescriptor "(Ljava/lang/String;Ljava/lang/String;)Ljava/lang/String;" = some ⟨[(.object "java/lang/String"), (.object "java/lang/String")], some (.object "java/lang/String")⟩ := by decide +kernel
theorem pd_11 : parseMethodDescriptor "(Ljava/lang/Object;Ljava/lang/String;)Ljava/lang/Object;" = some ⟨[(.object "java/lang/Object"), (.object "java/lang/String")], some (.object "java/lang/Object")⟩ := by decide +kernel
theorem pd_12 : parseMethodDescriptor "()Z" = some ⟨[], some .boolean⟩ := by decide +kernel
theorem pd_13 : parseMethodDescriptor "()I" = some ⟨[], some .int⟩ := by decide +kernel
theorem pd_14 : parseMethodDescriptor "([B)I" = some ⟨[(.array .byte)], some .int⟩ := by decide +kernel
theorem pd_15 : parseMethodDescriptor "([BI)C" = some ⟨[(.array .byte), .int], some .char⟩ := by decide +kernel
theorem pd_16 : parseMethodDescriptor "(I)Z" = some ⟨[.int], some .boolean⟩ := by decide +kernel
theorem pd_17 : parseMethodDescriptor "(I)I" = some ⟨[.int], some .int⟩ := by decide +kernel
theorem pd_18 : parseMethodDescriptor "()B" = some ⟨[], some .byte⟩ := by decide +kernel
theorem pd_19 : parseMethodDescriptor "(Ljava/lang/Object;)Z" = some ⟨[(.object "java/lang/Object")], some .boolean⟩ := by decide +kernel
theorem d0_0 : D1 code 0 (.iload_n 0) 1 1 := ⟨at_0, rfl⟩
theorem d0_1 : D1 code 1 (.iconst 3) 1 2 := ⟨at_1, rfl⟩
theorem d0_2 : D1 code 2 (.iand) 1 3 := ⟨at_2, rfl⟩
theorem d0_3 : D1 code 3 (.istore 5) 2 5 := ⟨at_3, rfl⟩
theorem d0_5 : D1 code 5 (.iload_n 1) 1 6 := ⟨at_5, rfl⟩
theorem d0_6 : D1 code 6 (.sipush 255) 3 9 := ⟨at_6, rfl⟩
theorem d0_9 : D1 code 9 (.iand) 1 10 := ⟨at_9, rfl⟩
theorem d0_10 : D1 code 10 (.i2c) 1 11 := ⟨at_10, rfl⟩
theorem d0_11 : D1 code 11 (.istore 6) 2 13 := ⟨at_11, rfl⟩
theorem d0_13 : D1 code 13 (.iload_n 2) 1 14 := ⟨at_13, rfl⟩
theorem d0_14 : D1 code 14 (.sipush 255) 3 17 := ⟨at_14, rfl⟩
theorem d0_17 : D1 code 17 (.iand) 1 18 := ⟨at_17, rfl⟩
theorem d0_18 : D1 code 18 (.i2c) 1 19 := ⟨at_18, rfl⟩
theorem d0_19 : D1 code 19 (.istore 7) 2 21 := ⟨at_19, rfl⟩
theorem d0_21 : D1 code 21 (.iload_n 3) 1 22 := ⟨at_21, rfl⟩
theorem d0_22 : D1 code 22 (.sipush 255) 3 25 := ⟨at_22, rfl⟩
theorem d0_25 : D1 code 25 (.iand) 1 26 := ⟨at_25, rfl⟩
theorem d0_26 : D1 code 26 (.i2c) 1 27 := ⟨at_26, rfl⟩
theorem d0_27 : D1 code 27 (.istore 8) 2 29 := ⟨at_27, rfl⟩
theorem d0_29 : D1 code 29 (.iconst 0) 1 30 := ⟨at_29, rfl⟩
theorem d0_30 : D1 code 30 (.newarray .char) 2 32 := ⟨at_30, rfl⟩
theorem d0_32 : D1 code 32 (.astore 9) 2 34 := ⟨at_32, rfl⟩
theorem d0_34 : D1 code 34 (.iconst 1) 1 35 := ⟨at_34, rfl⟩
theorem d0_35 : D1 code 35 (.newarray .char) 2 37 := ⟨at_35, rfl⟩
theorem d0_37 : D1 code 37 (.dup) 1 38 := ⟨at_37, rfl⟩
theorem d0_38 : D1 code 38 (.iconst 0) 1 39 := ⟨at_38, rfl⟩
theorem d0_39 : D1 code 39 (.iload 6) 2 41 := ⟨at_39, rfl⟩
theorem d0_41 : D1 code 41 (.castore) 1 42 := ⟨at_41, rfl⟩
theorem d0_42 : D1 code 42 (.astore 10) 2 44 := ⟨at_42, rfl⟩
theorem d0_44 : D1 code 44 (.iconst 2) 1 45 := ⟨at_44, rfl⟩
theorem d0_45 : D1 code 45 (.newarray .char) 2 47 := ⟨at_45, rfl⟩
theorem d0_47 : D1 code 47 (.dup) 1 48 := ⟨at_47, rfl⟩
theorem d0_48 : D1 code 48 (.iconst 0) 1 49 := ⟨at_48, rfl⟩
theorem d0_49 : D1 code 49 (.iload 6) 2 51 := ⟨at_49, rfl⟩
theorem d0_51 : D1 code 51 (.castore) 1 52 := ⟨at_51, rfl⟩
theorem d0_52 : D1 code 52 (.dup) 1 53 := ⟨at_52, rfl⟩
theorem d0_53 : D1 code 53 (.iconst 1) 1 54 := ⟨at_53, rfl⟩
theorem d0_54 : D1 code 54 (.iload 7) 2 56 := ⟨at_54, rfl⟩
theorem d0_56 : D1 code 56 (.castore) 1 57 := ⟨at_56, rfl⟩
theorem d0_57 : D1 code 57 (.astore 11) 2 59 := ⟨at_57, rfl⟩
theorem d0_59 : D1 code 59 (.iconst 3) 1 60 := ⟨at_59, rfl⟩
theorem d0_60 : D1 code 60 (.newarray .char) 2 62 := ⟨at_60, rfl⟩
theorem d0_62 : D1 code 62 (.dup) 1 63 := ⟨at_62, rfl⟩
theorem d0_63 : D1 code 63 (.iconst 0) 1 64 := ⟨at_63, rfl⟩
theorem d0_64 : D1 code 64 (.iload 6) 2 66 := ⟨at_64, rfl⟩
theorem d0_66 : D1 code 66 (.castore) 1 67 := ⟨at_66, rfl⟩
theorem d0_67 : D1 code 67 (.dup) 1 68 := ⟨at_67, rfl⟩
theorem d0_68 : D1 code 68 (.iconst 1) 1 69 := ⟨at_68, rfl⟩
theorem d0_69 : D1 code 69 (.iload 7) 2 71 := ⟨at_69, rfl⟩
theorem d0_71 : D1 code 71 (.castore) 1 72 := ⟨at_71, rfl⟩
theorem d0_72 : D1 code 72 (.dup) 1 73 := ⟨at_72, rfl⟩
theorem d0_73 : D1 code 73 (.iconst 2) 1 74 := ⟨at_73, rfl⟩
theorem d0_74 : D1 code 74 (.iload 8) 2 76 := ⟨at_74, rfl⟩
theorem d0_76 : D1 code 76 (.castore) 1 77 := ⟨at_76, rfl⟩
theorem d0_77 : D1 code 77 (.astore 12) 2 79 := ⟨at_77, rfl⟩
theorem d0_79 : D1 code 79 (.iload 5) 2 81 := ⟨at_79, rfl⟩
theorem d0_81 : DJ code 81 (.ifCond .ne) 17 84 98 := ⟨at_81, rfl, rfl⟩
theorem d0_84 : D1 code 84 (.new 7) 3 87 := ⟨at_84, rfl⟩
theorem d0_87 : D1 code 87 (.dup) 1 88 := ⟨at_87, rfl⟩
theorem d0_88 : D1 code 88 (.aload 9) 2 90 := ⟨at_88, rfl⟩
theorem d0_90 : D1 code 90 (.invokespecial 9) 3 93 := ⟨at_90, rfl⟩
theorem d0_93 : D1 code 93 (.astore 13) 2 95 := ⟨at_93, rfl⟩
theorem d0_95 : DJ code 95 .goto 54 98 149 := ⟨at_95, rfl, rfl⟩
theorem d0_98 : D1 code 98 (.iload 5) 2 100 := ⟨at_98, rfl⟩
theorem d0_100 : D1 code 100 (.iconst 1) 1 101 := ⟨at_100, rfl⟩
theorem d0_101 : DJ code 101 (.if_icmp .ne) 17 104 118 := ⟨at_101, rfl, rfl⟩
theorem d0_104 : D1 code 104 (.new 7) 3 107 := ⟨at_104, rfl⟩
theorem d0_107 : D1 code 107 (.dup) 1 108 := ⟨at_107, rfl⟩
theorem d0_108 : D1 code 108 (.aload 10) 2 110 := ⟨at_108, rfl⟩
theorem d0_110 : D1 code 110 (.invokespecial 9) 3 113 := ⟨at_110, rfl⟩
theorem d0_113 : D1 code 113 (.astore 13) 2 115 := ⟨at_113, rfl⟩
theorem d0_115 : DJ code 115 .goto 34 118 149 := ⟨at_115, rfl, rfl⟩
theorem d0_118 : D1 code 118 (.iload 5) 2 120 := ⟨at_118, rfl⟩
theorem d0_120 : D1 code 120 (.iconst 2) 1 121 := ⟨at_120, rfl⟩
theorem d0_121 : DJ code 121 (.if_icmp .ne) 17 124 138 := ⟨at_121, rfl, rfl⟩
theorem d0_124 : D1 code 124 (.new 7) 3 127 := ⟨at_124, rfl⟩
theorem d0_127 : D1 code 127 (.dup) 1 128 := ⟨at_127, rfl⟩
theorem d0_128 : D1 code 128 (.aload 11) 2 130 := ⟨at_128, rfl⟩
theorem d0_130 : D1 code 130 (.invokespecial 9) 3 133 := ⟨at_130, rfl⟩
theorem d0_133 : D1 code 133 (.astore 13) 2 135 := ⟨at_133, rfl⟩
theorem d0_135 : DJ code 135 .goto 14 138 149 := ⟨at_135, rfl, rfl⟩
theorem d0_138 : D1 code 138 (.new 7) 3 141 := ⟨at_138, rfl⟩
theorem d0_141 : D1 code 141 (.dup) 1 142 := ⟨at_141, rfl⟩
theorem d0_142 : D1 code 142 (.aload 12) 2 144 := ⟨at_142, rfl⟩
theorem d0_144 : D1 code 144 (.invokespecial 9) 3 147 := ⟨at_144, rfl⟩
theorem d0_147 : D1 code 147 (.astore 13) 2 149 := ⟨at_147, rfl⟩
theorem d0_149 : D1 code 149 (.iload 4) 2 151 := ⟨at_149, rfl⟩
theorem d0_151 : D1 code 151 (.sipush 255) 3 154 := ⟨at_151, rfl⟩
theorem d0_154 : D1 code 154 (.iand) 1 155 := ⟨at_154, rfl⟩
theorem d0_155 : D1 code 155 (.i2c) 1 156 := ⟨at_155, rfl⟩
theorem d0_156 : D1 code 156 (.invokestatic 12) 3 159 := ⟨at_156, rfl⟩
theorem d0_159 : D1 code 159 (.astore 14) 2 161 := ⟨at_159, rfl⟩
theorem d0_161 : D1 code 161 (.iload 5) 2 163 := ⟨at_161, rfl⟩
theorem d0_163 : DJ code 163 (.ifCond .eq) 39 166 202 := ⟨at_163, rfl, rfl⟩
theorem d0_166 : D1 code 166 (.iload 6) 2 168 := ⟨at_166, rfl⟩
theorem d0_168 : D1 code 168 (.invokestatic 16) 3 171 := ⟨at_168, rfl⟩
theorem d0_171 : DJ code 171 (.ifCond .eq) 35 174 206 := ⟨at_171, rfl, rfl⟩
theorem d0_174 : D1 code 174 (.iload 5) 2 176 := ⟨at_174, rfl⟩
theorem d0_176 : D1 code 176 (.iconst 2) 1 177 := ⟨at_176, rfl⟩
theorem d0_177 : DJ code 177 (.if_icmp .lt) 11 180 188 := ⟨at_177, rfl, rfl⟩
theorem d0_180 : D1 code 180 (.iload 7) 2 182 := ⟨at_180, rfl⟩
theorem d0_182 : D1 code 182 (.invokestatic 16) 3 185 := ⟨at_182, rfl⟩
theorem d0_185 : DJ code 185 (.ifCond .eq) 21 188 206 := ⟨at_185, rfl, rfl⟩
theorem d0_188 : D1 code 188 (.iload 5) 2 190 := ⟨at_188, rfl⟩
theorem d0_190 : D1 code 190 (.iconst 3) 1 191 := ⟨at_190, rfl⟩
theorem d0_191 : DJ code 191 (.if_icmp .lt) 11 194 202 := ⟨at_191, rfl, rfl⟩
theorem d0_194 : D1 code 194 (.iload 8) 2 196 := ⟨at_194, rfl⟩
theorem d0_196 : D1 code 196 (.invokestatic 16) 3 199 := ⟨at_196, rfl⟩
theorem d0_199 : DJ code 199 (.ifCond .eq) 7 202 206 := ⟨at_199, rfl, rfl⟩
theorem d0_202 : D1 code 202 (.iconst 1) 1 203 := ⟨at_202, rfl⟩
theorem d0_203 : DJ code 203 .goto 4 206 207 := ⟨at_203, rfl, rfl⟩
theorem d0_206 : D1 code 206 (.iconst 0) 1 207 := ⟨at_206, rfl⟩
theorem d0_207 : D1 code 207 (.istore 15) 2 209 := ⟨at_207, rfl⟩
theorem d0_209 : D1 code 209 (.iload 15) 2 211 := ⟨at_209, rfl⟩
theorem d0_211 : DJ code 211 (.ifCond .eq) 5 214 216 := ⟨at_211, rfl, rfl⟩
theorem d0_214 : D1 code 214 (.iconst 1) 1 215 := ⟨at_214, rfl⟩
theorem d0_215 : D1 code 215 (.ireturn) 1 216 := ⟨at_215, rfl⟩
theorem d0_216 : D1 code 216 (.aload 13) 2 218 := ⟨at_216, rfl⟩
theorem d0_218 : D1 code 218 (.aload 14) 2 220 := ⟨at_218, rfl⟩
theorem d0_220 : D1 code 220 (.invokestatic 22) 3 223 := ⟨at_220, rfl⟩
theorem d0_223 : D1 code 223 (.astore 16) 2 225 := ⟨at_223, rfl⟩
theorem d0_225 : D1 code 225 (.aload 16) 2 227 := ⟨at_225, rfl⟩
theorem d0_227 : DJ code 227 .ifnull 17 230 244 := ⟨at_227, rfl, rfl⟩
theorem d0_230 : D1 code 230 (.aload 16) 2 232 := ⟨at_230, rfl⟩
theorem d0_232 : D1 code 232 (.aload 13) 2 234 := ⟨at_232, rfl⟩
theorem d0_234 : D1 code 234 (.invokevirtual 28) 3 237 := ⟨at_234, rfl⟩
theorem d0_237 : DJ code 237 (.ifCond .eq) 7 240 244 := ⟨at_237, rfl, rfl⟩
theorem d0_240 : D1 code 240 (.iconst 1) 1 241 := ⟨at_240, rfl⟩
theorem d0_241 : DJ code 241 .goto 4 244 245 := ⟨at_241, rfl, rfl⟩
theorem d0_244 : D1 code 244 (.iconst 0) 1 245 := ⟨at_244, rfl⟩
theorem d0_245 : D1 code 245 (.ireturn) 1 246 := ⟨at_245, rfl⟩
theorem d1_0 : D1 jdk_42_method_3_code 0 (.aload_n 0) 1 1 := ⟨by decide +kernel, rfl⟩
theorem d1_1 : D1 jdk_42_method_3_code 1 (.aload_n 1) 1 2 := ⟨by decide +kernel, rfl⟩
theorem d1_2 : D1 jdk_42_method_3_code 2 (.iconst 0) 1 3 := ⟨by decide +kernel, rfl⟩
theorem d1_3 : D1 jdk_42_method_3_code 3 (.aload_n 1) 1 4 := ⟨by decide +kernel, rfl⟩
theorem d1_4 : D1 jdk_42_method_3_code 4 (.arraylength) 1 5 := ⟨by decide +kernel, rfl⟩
theorem d1_5 : D1 jdk_42_method_3_code 5 (.aconst_null) 1 6 := ⟨by decide +kernel, rfl⟩
theorem d1_6 : D1 jdk_42_method_3_code 6 (.invokespecial 27) 3 9 := ⟨by decide +kernel, rfl⟩
theorem d1_9 : D1 jdk_42_method_3_code 9 (.return_) 1 10 := ⟨by decide +kernel, rfl⟩
theorem d2_0 : D1 jdk_42_method_149_code 0 (.aload_n 0) 1 1 := ⟨by decide +kernel, rfl⟩
theorem d2_1 : D1 jdk_42_method_149_code 1 (.invokespecial 1) 3 4 := ⟨by decide +kernel, rfl⟩
theorem d2_4 : D1 jdk_42_method_149_code 4 (.iload_n 3) 1 5 := ⟨by decide +kernel, rfl⟩
theorem d2_5 : DJ jdk_42_method_149_code 5 (.ifCond .ne) 22 8 27 := ⟨by decide +kernel, rfl, rfl⟩
theorem d2_8 : D1 jdk_42_method_149_code 8 (.aload_n 0) 1 9 := ⟨by decide +kernel, rfl⟩
theorem d2_9 : D1 jdk_42_method_149_code 9 (.ldc 7) 2 11 := ⟨by decide +kernel, rfl⟩
theorem d2_11 : D1 jdk_42_method_149_code 11 (.getfield 9) 3 14 := ⟨by decide +kernel, rfl⟩
theorem d2_14 : D1 jdk_42_method_149_code 14 (.putfield 9) 3 17 := ⟨by decide +kernel, rfl⟩
theorem d2_17 : D1 jdk_42_method_149_code 17 (.aload_n 0) 1 18 := ⟨by decide +kernel, rfl⟩
theorem d2_18 : D1 jdk_42_method_149_code 18 (.ldc 7) 2 20 := ⟨by decide +kernel, rfl⟩
theorem d2_20 : D1 jdk_42_method_149_code 20 (.getfield 15) 3 23 := ⟨by decide +kernel, rfl⟩
theorem d2_23 : D1 jdk_42_method_149_code 23 (.putfield 15) 3 26 := ⟨by decide +kernel, rfl⟩
theorem d2_26 : D1 jdk_42_method_149_code 26 (.return_) 1 27 := ⟨by decide +kernel, rfl⟩
theorem d2_27 : D1 jdk_42_method_149_code 27 (.getstatic 38) 3 30 := ⟨by decide +kernel, rfl⟩
theorem d2_30 : DJ jdk_42_method_149_code 30 (.ifCond .eq) 28 33 58 := ⟨by decide +kernel, rfl, rfl⟩
theorem d2_33 : D1 jdk_42_method_149_code 33 (.aload_n 1) 1 34 := ⟨by decide +kernel, rfl⟩
theorem d2_34 : D1 jdk_42_method_149_code 34 (.iload_n 2) 1 35 := ⟨by decide +kernel, rfl⟩
theorem d2_35 : D1 jdk_42_method_149_code 35 (.iload_n 3) 1 36 := ⟨by decide +kernel, rfl⟩
theorem d2_36 : D1 jdk_42_method_149_code 36 (.invokestatic 177) 3 39 := ⟨by decide +kernel, rfl⟩
theorem d2_39 : D1 jdk_42_method_149_code 39 (.astore 5) 2 41 := ⟨by decide +kernel, rfl⟩
theorem d2_41 : D1 jdk_42_method_149_code 41 (.aload_n 0) 1 42 := ⟨by decide +kernel, rfl⟩
theorem d2_42 : D1 jdk_42_method_149_code 42 (.aload 5) 2 44 := ⟨by decide +kernel, rfl⟩
theorem d2_44 : D1 jdk_42_method_149_code 44 (.iload_n 3) 1 45 := ⟨by decide +kernel, rfl⟩
theorem d2_45 : D1 jdk_42_method_149_code 45 (.invokestatic 47) 3 48 := ⟨by decide +kernel, rfl⟩
theorem d2_48 : D1 jdk_42_method_149_code 48 (.putfield 15) 3 51 := ⟨by decide +kernel, rfl⟩
theorem d2_51 : D1 jdk_42_method_149_code 51 (.aload_n 0) 1 52 := ⟨by decide +kernel, rfl⟩
theorem d2_52 : D1 jdk_42_method_149_code 52 (.aload 5) 2 54 := ⟨by decide +kernel, rfl⟩
theorem d2_54 : D1 jdk_42_method_149_code 54 (.putfield 9) 3 57 := ⟨by decide +kernel, rfl⟩
theorem d2_57 : D1 jdk_42_method_149_code 57 (.return_) 1 58 := ⟨by decide +kernel, rfl⟩
theorem d2_58 : D1 jdk_42_method_149_code 58 (.aload_n 0) 1 59 := ⟨by decide +kernel, rfl⟩
theorem d2_59 : D1 jdk_42_method_149_code 59 (.iconst 1) 1 60 := ⟨by decide +kernel, rfl⟩
theorem d2_60 : D1 jdk_42_method_149_code 60 (.putfield 15) 3 63 := ⟨by decide +kernel, rfl⟩
theorem d2_63 : D1 jdk_42_method_149_code 63 (.aload_n 0) 1 64 := ⟨by decide +kernel, rfl⟩
theorem d2_64 : D1 jdk_42_method_149_code 64 (.aload_n 1) 1 65 := ⟨by decide +kernel, rfl⟩
theorem d2_65 : D1 jdk_42_method_149_code 65 (.iload_n 2) 1 66 := ⟨by decide +kernel, rfl⟩
theorem d2_66 : D1 jdk_42_method_149_code 66 (.iload_n 3) 1 67 := ⟨by decide +kernel, rfl⟩
theorem d2_67 : D1 jdk_42_method_149_code 67 (.invokestatic 180) 3 70 := ⟨by decide +kernel, rfl⟩
theorem d2_70 : D1 jdk_42_method_149_code 70 (.putfield 9) 3 73 := ⟨by decide +kernel, rfl⟩
theorem d2_73 : D1 jdk_42_method_149_code 73 (.return_) 1 74 := ⟨by decide +kernel, rfl⟩
theorem d3_0 : D1 object_method_1_code 0 (.return_) 1 1 := ⟨by decide +kernel, rfl⟩
theorem d4_0 : D1 jdk_42_method_139_code 0 (.getstatic 38) 3 3 := ⟨by decide +kernel, rfl⟩
theorem d4_3 : DJ jdk_42_method_139_code 3 (.ifCond .eq) 23 6 26 := ⟨by decide +kernel, rfl, rfl⟩
theorem d4_6 : D1 jdk_42_method_139_code 6 (.iload_n 0) 1 7 := ⟨by decide +kernel, rfl⟩
theorem d4_7 : D1 jdk_42_method_139_code 7 (.invokestatic 1015) 3 10 := ⟨by decide +kernel, rfl⟩
theorem d4_10 : DJ jdk_42_method_139_code 10 (.ifCond .eq) 16 13 26 := ⟨by decide +kernel, rfl, rfl⟩
theorem d4_13 : D1 jdk_42_method_139_code 13 (.new 10) 3 16 := ⟨by decide +kernel, rfl⟩
theorem d4_16 : D1 jdk_42_method_139_code 16 (.dup) 1 17 := ⟨by decide +kernel, rfl⟩
theorem d4_17 : D1 jdk_42_method_139_code 17 (.iload_n 0) 1 18 := ⟨by decide +kernel, rfl⟩
theorem d4_18 : D1 jdk_42_method_139_code 18 (.invokestatic 1018) 3 21 := ⟨by decide +kernel, rfl⟩
theorem d4_21 : D1 jdk_42_method_139_code 21 (.iconst 0) 1 22 := ⟨by decide +kernel, rfl⟩
theorem d4_22 : D1 jdk_42_method_139_code 22 (.invokespecial 209) 3 25 := ⟨by decide +kernel, rfl⟩
theorem d4_25 : D1 jdk_42_method_139_code 25 (.areturn) 1 26 := ⟨by decide +kernel, rfl⟩
theorem d4_26 : D1 jdk_42_method_139_code 26 (.new 10) 3 29 := ⟨by decide +kernel, rfl⟩
theorem d4_29 : D1 jdk_42_method_139_code 29 (.dup) 1 30 := ⟨by decide +kernel, rfl⟩
theorem d4_30 : D1 jdk_42_method_139_code 30 (.iload_n 0) 1 31 := ⟨by decide +kernel, rfl⟩
theorem d4_31 : D1 jdk_42_method_139_code 31 (.invokestatic 1021) 3 34 := ⟨by decide +kernel, rfl⟩
theorem d4_34 : D1 jdk_42_method_139_code 34 (.iconst 1) 1 35 := ⟨by decide +kernel, rfl⟩
theorem d4_35 : D1 jdk_42_method_139_code 35 (.invokespecial 209) 3 38 := ⟨by decide +kernel, rfl⟩
theorem d4_38 : D1 jdk_42_method_139_code 38 (.areturn) 1 39 := ⟨by decide +kernel, rfl⟩
theorem d5_0 : D1 jdk_43_method_3_code 0 (.iload_n 0) 1 1 := ⟨by decide +kernel, rfl⟩
theorem d5_1 : D1 jdk_43_method_3_code 1 (.sipush 255) 3 4 := ⟨by decide +kernel, rfl⟩
theorem d5_4 : DJ jdk_43_method_3_code 4 (.if_icmp .gt) 7 7 11 := ⟨by decide +kernel, rfl, rfl⟩
theorem d5_7 : D1 jdk_43_method_3_code 7 (.iconst 1) 1 8 := ⟨by decide +kernel, rfl⟩
theorem d5_8 : DJ jdk_43_method_3_code 8 .goto 4 11 12 := ⟨by decide +kernel, rfl, rfl⟩
theorem d5_11 : D1 jdk_43_method_3_code 11 (.iconst 0) 1 12 := ⟨by decide +kernel, rfl⟩
theorem d5_12 : D1 jdk_43_method_3_code 12 (.ireturn) 1 13 := ⟨by decide +kernel, rfl⟩
theorem d6_0 : D1 jdk_43_method_46_code 0 (.iconst 1) 1 1 := ⟨by decide +kernel, rfl⟩
theorem d6_1 : D1 jdk_43_method_46_code 1 (.newarray .byte) 2 3 := ⟨by decide +kernel, rfl⟩
theorem d6_3 : D1 jdk_43_method_46_code 3 (.dup) 1 4 := ⟨by decide +kernel, rfl⟩
theorem d6_4 : D1 jdk_43_method_46_code 4 (.iconst 0) 1 5 := ⟨by decide +kernel, rfl⟩
theorem d6_5 : D1 jdk_43_method_46_code 5 (.iload_n 0) 1 6 := ⟨by decide +kernel, rfl⟩
theorem d6_6 : D1 jdk_43_method_46_code 6 (.i2b) 1 7 := ⟨by decide +kernel, rfl⟩
theorem d6_7 : D1 jdk_43_method_46_code 7 (.bastore) 1 8 := ⟨by decide +kernel, rfl⟩
theorem d6_8 : D1 jdk_43_method_46_code 8 (.areturn) 1 9 := ⟨by decide +kernel, rfl⟩
theorem d7_0 : D1 jdk_42_method_151_code 0 (.aload_n 0) 1 1 := ⟨by decide +kernel, rfl⟩
theorem d7_1 : D1 jdk_42_method_151_code 1 (.invokespecial 1) 3 4 := ⟨by decide +kernel, rfl⟩
theorem d7_4 : D1 jdk_42_method_151_code 4 (.aload_n 0) 1 5 := ⟨by decide +kernel, rfl⟩
theorem d7_5 : D1 jdk_42_method_151_code 5 (.aload_n 1) 1 6 := ⟨by decide +kernel, rfl⟩
theorem d7_6 : D1 jdk_42_method_151_code 6 (.putfield 9) 3 9 := ⟨by decide +kernel, rfl⟩
theorem d7_9 : D1 jdk_42_method_151_code 9 (.aload_n 0) 1 10 := ⟨by decide +kernel, rfl⟩
theorem d7_10 : D1 jdk_42_method_151_code 10 (.iload_n 2) 1 11 := ⟨by decide +kernel, rfl⟩
theorem d7_11 : D1 jdk_42_method_151_code 11 (.putfield 15) 3 14 := ⟨by decide +kernel, rfl⟩
theorem d7_14 : D1 jdk_42_method_151_code 14 (.return_) 1 15 := ⟨by decide +kernel, rfl⟩
theorem d8_0 : D1 jdk_52_method_16_code 0 (.iload_n 2) 1 1 := ⟨by decide +kernel, rfl⟩
theorem d8_1 : D1 jdk_52_method_16_code 1 (.newarray .byte) 2 3 := ⟨by decide +kernel, rfl⟩
theorem d8_3 : D1 jdk_52_method_16_code 3 (.astore_n 3) 1 4 := ⟨by decide +kernel, rfl⟩
theorem d8_4 : D1 jdk_52_method_16_code 4 (.aload_n 0) 1 5 := ⟨by decide +kernel, rfl⟩
theorem d8_5 : D1 jdk_52_method_16_code 5 (.iload_n 1) 1 6 := ⟨by decide +kernel, rfl⟩
theorem d8_6 : D1 jdk_52_method_16_code 6 (.aload_n 3) 1 7 := ⟨by decide +kernel, rfl⟩
theorem d8_7 : D1 jdk_52_method_16_code 7 (.iconst 0) 1 8 := ⟨by decide +kernel, rfl⟩
theorem d8_8 : D1 jdk_52_method_16_code 8 (.iload_n 2) 1 9 := ⟨by decide +kernel, rfl⟩
theorem d8_9 : D1 jdk_52_method_16_code 9 (.invokestatic 115) 3 12 := ⟨by decide +kernel, rfl⟩
theorem d8_12 : D1 jdk_52_method_16_code 12 (.istore 4) 2 14 := ⟨by decide +kernel, rfl⟩
theorem d8_14 : D1 jdk_52_method_16_code 14 (.iload 4) 2 16 := ⟨by decide +kernel, rfl⟩
theorem d8_16 : D1 jdk_52_method_16_code 16 (.iload_n 2) 1 17 := ⟨by decide +kernel, rfl⟩
theorem d8_17 : DJ jdk_52_method_16_code 17 (.if_icmp .eq) 40 20 57 := ⟨by decide +kernel, rfl, rfl⟩
theorem d8_20 : D1 jdk_52_method_16_code 20 (.aload_n 0) 1 21 := ⟨by decide +kernel, rfl⟩
theorem d8_21 : D1 jdk_52_method_16_code 21 (.iload_n 1) 1 22 := ⟨by decide +kernel, rfl⟩
theorem d8_22 : D1 jdk_52_method_16_code 22 (.iload_n 2) 1 23 := ⟨by decide +kernel, rfl⟩
theorem d8_23 : D1 jdk_52_method_16_code 23 (.invokestatic 119) 3 26 := ⟨by decide +kernel, rfl⟩
theorem d8_26 : D1 jdk_52_method_16_code 26 (.astore 5) 2 28 := ⟨by decide +kernel, rfl⟩
theorem d8_28 : D1 jdk_52_method_16_code 28 (.aload 5) 2 30 := ⟨by decide +kernel, rfl⟩
theorem d8_30 : D1 jdk_52_method_16_code 30 (.iload 4) 2 32 := ⟨by decide +kernel, rfl⟩
theorem d8_32 : D1 jdk_52_method_16_code 32 (.invokestatic 71) 3 35 := ⟨by decide +kernel, rfl⟩
theorem d8_35 : D1 jdk_52_method_16_code 35 (.sipush 255) 3 38 := ⟨by decide +kernel, rfl⟩
theorem d8_38 : DJ jdk_52_method_16_code 38 (.if_icmp .gt) 16 41 54 := ⟨by decide +kernel, rfl, rfl⟩
theorem d8_41 : D1 jdk_52_method_16_code 41 (.aload 5) 2 43 := ⟨by decide +kernel, rfl⟩
theorem d8_43 : D1 jdk_52_method_16_code 43 (.iconst 0) 1 44 := ⟨by decide +kernel, rfl⟩
theorem d8_44 : D1 jdk_52_method_16_code 44 (.aload_n 3) 1 45 := ⟨by decide +kernel, rfl⟩
theorem d8_45 : D1 jdk_52_method_16_code 45 (.iconst 0) 1 46 := ⟨by decide +kernel, rfl⟩
theorem d8_46 : D1 jdk_52_method_16_code 46 (.iload_n 2) 1 47 := ⟨by decide +kernel, rfl⟩
theorem d8_47 : D1 jdk_52_method_16_code 47 (.invokestatic 123) 3 50 := ⟨by decide +kernel, rfl⟩
theorem d8_50 : D1 jdk_52_method_16_code 50 (.iload_n 2) 1 51 := ⟨by decide +kernel, rfl⟩
theorem d8_51 : DJ jdk_52_method_16_code 51 (.if_icmp .eq) 6 54 57 := ⟨by decide +kernel, rfl, rfl⟩
theorem d8_54 : D1 jdk_52_method_16_code 54 (.aload 5) 2 56 := ⟨by decide +kernel, rfl⟩
theorem d8_56 : D1 jdk_52_method_16_code 56 (.areturn) 1 57 := ⟨by decide +kernel, rfl⟩
theorem d8_57 : D1 jdk_52_method_16_code 57 (.aload_n 3) 1 58 := ⟨by decide +kernel, rfl⟩
theorem d8_58 : D1 jdk_52_method_16_code 58 (.areturn) 1 59 := ⟨by decide +kernel, rfl⟩
theorem d9_0 : D1 jdk_52_method_21_code 0 (.iconst 0) 1 1 := ⟨by decide +kernel, rfl⟩
theorem d9_1 : D1 jdk_52_method_21_code 1 (.istore 5) 2 3 := ⟨by decide +kernel, rfl⟩
theorem d9_3 : D1 jdk_52_method_21_code 3 (.iload 5) 2 5 := ⟨by decide +kernel, rfl⟩
theorem d9_5 : D1 jdk_52_method_21_code 5 (.iload 4) 2 7 := ⟨by decide +kernel, rfl⟩
theorem d9_7 : DJ jdk_52_method_21_code 7 (.if_icmp .ge) 37 10 44 := ⟨by decide +kernel, rfl, rfl⟩
theorem d9_10 : D1 jdk_52_method_21_code 10 (.aload_n 0) 1 11 := ⟨by decide +kernel, rfl⟩
theorem d9_11 : D1 jdk_52_method_21_code 11 (.iload_n 1) 1 12 := ⟨by decide +kernel, rfl⟩
theorem d9_12 : D1 jdk_52_method_21_code 12 (.caload) 1 13 := ⟨by decide +kernel, rfl⟩
theorem d9_13 : D1 jdk_52_method_21_code 13 (.istore 6) 2 15 := ⟨by decide +kernel, rfl⟩
theorem d9_15 : D1 jdk_52_method_21_code 15 (.iload 6) 2 17 := ⟨by decide +kernel, rfl⟩
theorem d9_17 : D1 jdk_52_method_21_code 17 (.sipush 255) 3 20 := ⟨by decide +kernel, rfl⟩
theorem d9_20 : DJ jdk_52_method_21_code 20 (.if_icmp .le) 6 23 26 := ⟨by decide +kernel, rfl, rfl⟩
theorem d9_23 : D1 jdk_52_method_21_code 23 (.iload 5) 2 25 := ⟨by decide +kernel, rfl⟩
theorem d9_25 : D1 jdk_52_method_21_code 25 (.ireturn) 1 26 := ⟨by decide +kernel, rfl⟩
theorem d9_26 : D1 jdk_52_method_21_code 26 (.aload_n 2) 1 27 := ⟨by decide +kernel, rfl⟩
theorem d9_27 : D1 jdk_52_method_21_code 27 (.iload_n 3) 1 28 := ⟨by decide +kernel, rfl⟩
theorem d9_28 : D1 jdk_52_method_21_code 28 (.iload 6) 2 30 := ⟨by decide +kernel, rfl⟩
theorem d9_30 : D1 jdk_52_method_21_code 30 (.i2b) 1 31 := ⟨by decide +kernel, rfl⟩
theorem d9_31 : D1 jdk_52_method_21_code 31 (.bastore) 1 32 := ⟨by decide +kernel, rfl⟩
theorem d9_32 : D1 jdk_52_method_21_code 32 (.iinc 1 1) 3 35 := ⟨by decide +kernel, rfl⟩
theorem d9_35 : D1 jdk_52_method_21_code 35 (.iinc 3 1) 3 38 := ⟨by decide +kernel, rfl⟩
theorem d9_38 : D1 jdk_52_method_21_code 38 (.iinc 5 1) 3 41 := ⟨by decide +kernel, rfl⟩
theorem d9_41 : DJ jdk_52_method_21_code 41 .goto (-38) 44 3 := ⟨by decide +kernel, rfl, rfl⟩
theorem d9_44 : D1 jdk_52_method_21_code 44 (.iload 4) 2 46 := ⟨by decide +kernel, rfl⟩
theorem d9_46 : D1 jdk_52_method_21_code 46 (.ireturn) 1 47 := ⟨by decide +kernel, rfl⟩
theorem d10_0 : D1 jdk_52_method_15_code 0 (.iload_n 1) 1 1 := ⟨by decide +kernel, rfl⟩
theorem d10_1 : D1 jdk_52_method_15_code 1 (.aload_n 0) 1 2 := ⟨by decide +kernel, rfl⟩
theorem d10_2 : D1 jdk_52_method_15_code 2 (.arraylength) 1 3 := ⟨by decide +kernel, rfl⟩
theorem d10_3 : D1 jdk_52_method_15_code 3 (.isub) 1 4 := ⟨by decide +kernel, rfl⟩
theorem d10_4 : D1 jdk_52_method_15_code 4 (.bipush 31) 2 6 := ⟨by decide +kernel, rfl⟩
theorem d10_6 : D1 jdk_52_method_15_code 6 (.iushr) 1 7 := ⟨by decide +kernel, rfl⟩
theorem d10_7 : D1 jdk_52_method_15_code 7 (.i2b) 1 8 := ⟨by decide +kernel, rfl⟩
theorem d10_8 : D1 jdk_52_method_15_code 8 (.ireturn) 1 9 := ⟨by decide +kernel, rfl⟩
theorem d11_0 : D1 method_3_code 0 (.iload_n 0) 1 1 := ⟨by decide +kernel, rfl⟩
theorem d11_1 : D1 method_3_code 1 (.bipush 9) 2 3 := ⟨by decide +kernel, rfl⟩
theorem d11_3 : DJ method_3_code 3 (.if_icmp .lt) 9 6 12 := ⟨by decide +kernel, rfl, rfl⟩
theorem d11_6 : D1 method_3_code 6 (.iload_n 0) 1 7 := ⟨by decide +kernel, rfl⟩
theorem d11_7 : D1 method_3_code 7 (.bipush 13) 2 9 := ⟨by decide +kernel, rfl⟩
theorem d11_9 : DJ method_3_code 9 (.if_icmp .le) 15 12 24 := ⟨by decide +kernel, rfl, rfl⟩
theorem d11_12 : D1 method_3_code 12 (.iload_n 0) 1 13 := ⟨by decide +kernel, rfl⟩
theorem d11_13 : D1 method_3_code 13 (.bipush 28) 2 15 := ⟨by decide +kernel, rfl⟩
theorem d11_15 : DJ method_3_code 15 (.if_icmp .lt) 13 18 28 := ⟨by decide +kernel, rfl, rfl⟩
theorem d11_18 : D1 method_3_code 18 (.iload_n 0) 1 19 := ⟨by decide +kernel, rfl⟩
theorem d11_19 : D1 method_3_code 19 (.bipush 32) 2 21 := ⟨by decide +kernel, rfl⟩
theorem d11_21 : DJ method_3_code 21 (.if_icmp .gt) 7 24 28 := ⟨by decide +kernel, rfl, rfl⟩
theorem d11_24 : D1 method_3_code 24 (.iconst 1) 1 25 := ⟨by decide +kernel, rfl⟩
theorem d11_25 : DJ method_3_code 25 .goto 4 28 29 := ⟨by decide +kernel, rfl, rfl⟩
theorem d11_28 : D1 method_3_code 28 (.iconst 0) 1 29 := ⟨by decide +kernel, rfl⟩
theorem d11_29 : D1 method_3_code 29 (.ireturn) 1 30 := ⟨by decide +kernel, rfl⟩
theorem d12_0 : D1 prog_2_method_2_code 0 (.aload_n 0) 1 1 := ⟨by decide +kernel, rfl⟩
theorem d12_1 : D1 prog_2_method_2_code 1 (.ldc 7) 2 3 := ⟨by decide +kernel, rfl⟩
theorem d12_3 : D1 prog_2_method_2_code 3 (.invokestatic 9) 3 6 := ⟨by decide +kernel, rfl⟩
theorem d12_6 : D1 prog_2_method_2_code 6 (.pop) 1 7 := ⟨by decide +kernel, rfl⟩
theorem d12_7 : D1 prog_2_method_2_code 7 (.aload_n 0) 1 8 := ⟨by decide +kernel, rfl⟩
theorem d12_8 : D1 prog_2_method_2_code 8 (.invokevirtual 15) 3 11 := ⟨by decide +kernel, rfl⟩
theorem d12_11 : DJ prog_2_method_2_code 11 (.ifCond .eq) 17 14 28 := ⟨by decide +kernel, rfl, rfl⟩
theorem d12_14 : D1 prog_2_method_2_code 14 (.new 21) 3 17 := ⟨by decide +kernel, rfl⟩
theorem d12_17 : D1 prog_2_method_2_code 17 (.dup) 1 18 := ⟨by decide +kernel, rfl⟩
theorem d12_18 : D1 prog_2_method_2_code 18 (.aload_n 1) 1 19 := ⟨by decide +kernel, rfl⟩
theorem d12_19 : D1 prog_2_method_2_code 19 (.invokedynamic 23) 5 24 := ⟨by decide +kernel, rfl⟩
theorem d12_24 : D1 prog_2_method_2_code 24 (.invokespecial 27) 3 27 := ⟨by decide +kernel, rfl⟩
theorem d12_27 : D1 prog_2_method_2_code 27 (.athrow) 1 28 := ⟨by decide +kernel, rfl⟩
theorem d12_28 : D1 prog_2_method_2_code 28 (.aload_n 0) 1 29 := ⟨by decide +kernel, rfl⟩
theorem d12_29 : D1 prog_2_method_2_code 29 (.areturn) 1 30 := ⟨by decide +kernel, rfl⟩
theorem d13_0 : D1 jdk_31_method_11_code 0 (.aload_n 0) 1 1 := ⟨by decide +kernel, rfl⟩
theorem d13_1 : DJ jdk_31_method_11_code 1 .ifnonnull 12 4 13 := ⟨by decide +kernel, rfl, rfl⟩
theorem d13_4 : D1 jdk_31_method_11_code 4 (.new 84) 3 7 := ⟨by decide +kernel, rfl⟩
theorem d13_7 : D1 jdk_31_method_11_code 7 (.dup) 1 8 := ⟨by decide +kernel, rfl⟩
theorem d13_8 : D1 jdk_31_method_11_code 8 (.aload_n 1) 1 9 := ⟨by decide +kernel, rfl⟩
theorem d13_9 : D1 jdk_31_method_11_code 9 (.invokespecial 87) 3 12 := ⟨by decide +kernel, rfl⟩
theorem d13_12 : D1 jdk_31_method_11_code 12 (.athrow) 1 13 := ⟨by decide +kernel, rfl⟩
theorem d13_13 : D1 jdk_31_method_11_code 13 (.aload_n 0) 1 14 := ⟨by decide +kernel, rfl⟩
theorem d13_14 : D1 jdk_31_method_11_code 14 (.areturn) 1 15 := ⟨by decide +kernel, rfl⟩
theorem d14_0 : D1 jdk_42_method_117_code 0 (.aload_n 0) 1 1 := ⟨by decide +kernel, rfl⟩
theorem d14_1 : D1 jdk_42_method_117_code 1 (.invokevirtual 876) 3 4 := ⟨by decide +kernel, rfl⟩
theorem d14_4 : D1 jdk_42_method_117_code 4 (.aload_n 0) 1 5 := ⟨by decide +kernel, rfl⟩
theorem d14_5 : D1 jdk_42_method_117_code 5 (.invokevirtual 505) 3 8 := ⟨by decide +kernel, rfl⟩
theorem d14_8 : DJ jdk_42_method_117_code 8 (.if_icmp .ne) 7 11 15 := ⟨by decide +kernel, rfl, rfl⟩
theorem d14_11 : D1 jdk_42_method_117_code 11 (.iconst 1) 1 12 := ⟨by decide +kernel, rfl⟩
theorem d14_12 : DJ jdk_42_method_117_code 12 .goto 4 15 16 := ⟨by decide +kernel, rfl, rfl⟩
theorem d14_15 : D1 jdk_42_method_117_code 15 (.iconst 0) 1 16 := ⟨by decide +kernel, rfl⟩
theorem d14_16 : D1 jdk_42_method_117_code 16 (.ireturn) 1 17 := ⟨by decide +kernel, rfl⟩
theorem d15_0 : D1 jdk_42_method_120_code 0 (.aload_n 0) 1 1 := ⟨by decide +kernel, rfl⟩
theorem d15_1 : D1 jdk_42_method_120_code 1 (.invokevirtual 492) 3 4 := ⟨by decide +kernel, rfl⟩
theorem d15_4 : DJ jdk_42_method_120_code 4 (.ifCond .eq) 13 7 17 := ⟨by decide +kernel, rfl, rfl⟩
theorem d15_7 : D1 jdk_42_method_120_code 7 (.aload_n 0) 1 8 := ⟨by decide +kernel, rfl⟩
theorem d15_8 : D1 jdk_42_method_120_code 8 (.getfield 9) 3 11 := ⟨by decide +kernel, rfl⟩
theorem d15_11 : D1 jdk_42_method_120_code 11 (.invokestatic 924) 3 14 := ⟨by decide +kernel, rfl⟩
theorem d15_14 : DJ jdk_42_method_120_code 14 .goto 10 17 24 := ⟨by decide +kernel, rfl, rfl⟩
theorem d15_17 : D1 jdk_42_method_120_code 17 (.aload_n 0) 1 18 := ⟨by decide +kernel, rfl⟩
theorem d15_18 : D1 jdk_42_method_120_code 18 (.getfield 9) 3 21 := ⟨by decide +kernel, rfl⟩
theorem d15_21 : D1 jdk_42_method_120_code 21 (.invokestatic 926) 3 24 := ⟨by decide +kernel, rfl⟩
theorem d15_24 : D1 jdk_42_method_120_code 24 (.ireturn) 1 25 := ⟨by decide +kernel, rfl⟩
theorem d16_0 : D1 jdk_42_method_154_code 0 (.getstatic 38) 3 3 := ⟨by decide +kernel, rfl⟩
theorem d16_3 : DJ jdk_42_method_154_code 3 (.ifCond .eq) 14 6 17 := ⟨by decide +kernel, rfl, rfl⟩
theorem d16_6 : D1 jdk_42_method_154_code 6 (.aload_n 0) 1 7 := ⟨by decide +kernel, rfl⟩
theorem d16_7 : D1 jdk_42_method_154_code 7 (.getfield 15) 3 10 := ⟨by decide +kernel, rfl⟩
theorem d16_10 : DJ jdk_42_method_154_code 10 (.ifCond .ne) 7 13 17 := ⟨by decide +kernel, rfl, rfl⟩
theorem d16_13 : D1 jdk_42_method_154_code 13 (.iconst 1) 1 14 := ⟨by decide +kernel, rfl⟩
theorem d16_14 : DJ jdk_42_method_154_code 14 .goto 4 17 18 := ⟨by decide +kernel, rfl, rfl⟩
theorem d16_17 : D1 jdk_42_method_154_code 17 (.iconst 0) 1 18 := ⟨by decide +kernel, rfl⟩
theorem d16_18 : D1 jdk_42_method_154_code 18 (.ireturn) 1 19 := ⟨by decide +kernel, rfl⟩
theorem d17_0 : D1 jdk_43_method_37_code 0 (.aload_n 0) 1 1 := ⟨by decide +kernel, rfl⟩
theorem d17_1 : D1 jdk_43_method_37_code 1 (.arraylength) 1 2 := ⟨by decide +kernel, rfl⟩
theorem d17_2 : D1 jdk_43_method_37_code 2 (.istore_n 1) 1 3 := ⟨by decide +kernel, rfl⟩
theorem d17_3 : D1 jdk_43_method_37_code 3 (.iconst 0) 1 4 := ⟨by decide +kernel, rfl⟩
theorem d17_4 : D1 jdk_43_method_37_code 4 (.istore_n 2) 1 5 := ⟨by decide +kernel, rfl⟩
theorem d17_5 : D1 jdk_43_method_37_code 5 (.iload_n 2) 1 6 := ⟨by decide +kernel, rfl⟩
theorem d17_6 : D1 jdk_43_method_37_code 6 (.iload_n 1) 1 7 := ⟨by decide +kernel, rfl⟩
theorem d17_7 : DJ jdk_43_method_37_code 7 (.if_icmp .ge) 40 10 47 := ⟨by decide +kernel, rfl, rfl⟩
theorem d17_10 : D1 jdk_43_method_37_code 10 (.aload_n 0) 1 11 := ⟨by decide +kernel, rfl⟩
theorem d17_11 : D1 jdk_43_method_37_code 11 (.iload_n 2) 1 12 := ⟨by decide +kernel, rfl⟩
theorem d17_12 : D1 jdk_43_method_37_code 12 (.invokestatic 50) 3 15 := ⟨by decide +kernel, rfl⟩
theorem d17_15 : D1 jdk_43_method_37_code 15 (.istore_n 3) 1 16 := ⟨by decide +kernel, rfl⟩
theorem d17_16 : D1 jdk_43_method_37_code 16 (.iload_n 3) 1 17 := ⟨by decide +kernel, rfl⟩
theorem d17_17 : D1 jdk_43_method_37_code 17 (.bipush 32) 2 19 := ⟨by decide +kernel, rfl⟩
theorem d17_19 : DJ jdk_43_method_37_code 19 (.if_icmp .eq) 22 22 41 := ⟨by decide +kernel, rfl, rfl⟩
theorem d17_22 : D1 jdk_43_method_37_code 22 (.iload_n 3) 1 23 := ⟨by decide +kernel, rfl⟩
theorem d17_23 : D1 jdk_43_method_37_code 23 (.bipush 9) 2 25 := ⟨by decide +kernel, rfl⟩
theorem d17_25 : DJ jdk_43_method_37_code 25 (.if_icmp .eq) 16 28 41 := ⟨by decide +kernel, rfl, rfl⟩
theorem d17_28 : D1 jdk_43_method_37_code 28 (.getstatic 66) 3 31 := ⟨by decide +kernel, rfl⟩
theorem d17_31 : D1 jdk_43_method_37_code 31 (.iload_n 3) 1 32 := ⟨by decide +kernel, rfl⟩
theorem d17_32 : D1 jdk_43_method_37_code 32 (.invokevirtual 211) 3 35 := ⟨by decide +kernel, rfl⟩
theorem d17_35 : DJ jdk_43_method_37_code 35 (.ifCond .ne) 6 38 41 := ⟨by decide +kernel, rfl, rfl⟩
theorem d17_38 : DJ jdk_43_method_37_code 38 .goto 9 41 47 := ⟨by decide +kernel, rfl, rfl⟩
theorem d17_41 : D1 jdk_43_method_37_code 41 (.iinc 2 1) 3 44 := ⟨by decide +kernel, rfl⟩
theorem d17_44 : DJ jdk_43_method_37_code 44 .goto (-39) 47 5 := ⟨by decide +kernel, rfl, rfl⟩
theorem d17_47 : D1 jdk_43_method_37_code 47 (.iload_n 2) 1 48 := ⟨by decide +kernel, rfl⟩
theorem d17_48 : D1 jdk_43_method_37_code 48 (.ireturn) 1 49 := ⟨by decide +kernel, rfl⟩
theorem d18_0 : D1 jdk_43_method_44_code 0 (.aload_n 0) 1 1 := ⟨by decide +kernel, rfl⟩
theorem d18_1 : D1 jdk_43_method_44_code 1 (.iload_n 1) 1 2 := ⟨by decide +kernel, rfl⟩
theorem d18_2 : D1 jdk_43_method_44_code 2 (.baload) 1 3 := ⟨by decide +kernel, rfl⟩
theorem d18_3 : D1 jdk_43_method_44_code 3 (.sipush 255) 3 6 := ⟨by decide +kernel, rfl⟩
theorem d18_6 : D1 jdk_43_method_44_code 6 (.iand) 1 7 := ⟨by decide +kernel, rfl⟩
theorem d18_7 : D1 jdk_43_method_44_code 7 (.i2c) 1 8 := ⟨by decide +kernel, rfl⟩
theorem d18_8 : D1 jdk_43_method_44_code 8 (.ireturn) 1 9 := ⟨by decide +kernel, rfl⟩
theorem d19_0 : D1 jdk_116_method_26_code 0 (.aload_n 0) 1 1 := ⟨by decide +kernel, rfl⟩
theorem d19_1 : D1 jdk_116_method_26_code 1 (.iload_n 1) 1 2 := ⟨by decide +kernel, rfl⟩
theorem d19_2 : D1 jdk_116_method_26_code 2 (.invokevirtual 15) 3 5 := ⟨by decide +kernel, rfl⟩
theorem d19_5 : D1 jdk_116_method_26_code 5 (.istore_n 2) 1 6 := ⟨by decide +kernel, rfl⟩
theorem d19_6 : D1 jdk_116_method_26_code 6 (.iload_n 2) 1 7 := ⟨by decide +kernel, rfl⟩
theorem d19_7 : D1 jdk_116_method_26_code 7 (.sipush 28672) 3 10 := ⟨by decide +kernel, rfl⟩
theorem d19_10 : D1 jdk_116_method_26_code 10 (.iand) 1 11 := ⟨by decide +kernel, rfl⟩
theorem d19_11 : D1 jdk_116_method_26_code 11 (.sipush 16384) 3 14 := ⟨by decide +kernel, rfl⟩
theorem d19_14 : DJ jdk_116_method_26_code 14 (.if_icmp .ne) 7 17 21 := ⟨by decide +kernel, rfl, rfl⟩
theorem d19_17 : D1 jdk_116_method_26_code 17 (.iconst 1) 1 18 := ⟨by decide +kernel, rfl⟩
theorem d19_18 : DJ jdk_116_method_26_code 18 .goto 4 21 22 := ⟨by decide +kernel, rfl, rfl⟩
theorem d19_21 : D1 jdk_116_method_26_code 21 (.iconst 0) 1 22 := ⟨by decide +kernel, rfl⟩
theorem d19_22 : D1 jdk_116_method_26_code 22 (.ireturn) 1 23 := ⟨by decide +kernel, rfl⟩
theorem d20_0 : D1 jdk_116_method_1_code 0 (.iload_n 1) 1 1 := ⟨by decide +kernel, rfl⟩
theorem d20_1 : D1 jdk_116_method_1_code 1 (.i2c) 1 2 := ⟨by decide +kernel, rfl⟩
theorem d20_2 : D1 jdk_116_method_1_code 2 (.istore_n 2) 1 3 := ⟨by decide +kernel, rfl⟩
theorem d20_3 : D1 jdk_116_method_1_code 3 (.getstatic 1) 3 6 := ⟨by decide +kernel, rfl⟩
theorem d20_6 : D1 jdk_116_method_1_code 6 (.iload_n 2) 1 7 := ⟨by decide +kernel, rfl⟩
theorem d20_7 : D1 jdk_116_method_1_code 7 (.iaload) 1 8 := ⟨by decide +kernel, rfl⟩
theorem d20_8 : D1 jdk_116_method_1_code 8 (.istore_n 3) 1 9 := ⟨by decide +kernel, rfl⟩
theorem d20_9 : D1 jdk_116_method_1_code 9 (.iload_n 3) 1 10 := ⟨by decide +kernel, rfl⟩
theorem d20_10 : D1 jdk_116_method_1_code 10 (.ireturn) 1 11 := ⟨by decide +kernel, rfl⟩
theorem d21_0 : D1 jdk_42_method_54_code 0 (.aload_n 0) 1 1 := ⟨by decide +kernel, rfl⟩
theorem d21_1 : D1 jdk_42_method_54_code 1 (.getfield 9) 3 4 := ⟨by decide +kernel, rfl⟩
theorem d21_4 : D1 jdk_42_method_54_code 4 (.arraylength) 1 5 := ⟨by decide +kernel, rfl⟩
theorem d21_5 : D1 jdk_42_method_54_code 5 (.aload_n 0) 1 6 := ⟨by decide +kernel, rfl⟩
theorem d21_6 : D1 jdk_42_method_54_code 6 (.invokevirtual 335) 3 9 := ⟨by decide +kernel, rfl⟩
theorem d21_9 : D1 jdk_42_method_54_code 9 (.ishr) 1 10 := ⟨by decide +kernel, rfl⟩
theorem d21_10 : D1 jdk_42_method_54_code 10 (.ireturn) 1 11 := ⟨by decide +kernel, rfl⟩
theorem d22_0 : D1 jdk_42_method_152_code 0 (.getstatic 38) 3 3 := ⟨by decide +kernel, rfl⟩
theorem d22_3 : DJ jdk_42_method_152_code 3 (.ifCond .eq) 10 6 13 := ⟨by decide +kernel, rfl, rfl⟩
theorem d22_6 : D1 jdk_42_method_152_code 6 (.aload_n 0) 1 7 := ⟨by decide +kernel, rfl⟩
theorem d22_7 : D1 jdk_42_method_152_code 7 (.getfield 15) 3 10 := ⟨by decide +kernel, rfl⟩
theorem d22_10 : DJ jdk_42_method_152_code 10 .goto 4 13 14 := ⟨by decide +kernel, rfl, rfl⟩
theorem d22_13 : D1 jdk_42_method_152_code 13 (.iconst 1) 1 14 := ⟨by decide +kernel, rfl⟩
theorem d22_14 : D1 jdk_42_method_152_code 14 (.ireturn) 1 15 := ⟨by decide +kernel, rfl⟩
theorem d23_0 : D1 jdk_42_method_66_code 0 (.aload_n 0) 1 1 := ⟨by decide +kernel, rfl⟩
theorem d23_1 : D1 jdk_42_method_66_code 1 (.aload_n 1) 1 2 := ⟨by decide +kernel, rfl⟩
theorem d23_2 : DJ jdk_42_method_66_code 2 (.if_acmp .ne) 5 5 7 := ⟨by decide +kernel, rfl, rfl⟩
theorem d23_5 : D1 jdk_42_method_66_code 5 (.iconst 1) 1 6 := ⟨by decide +kernel, rfl⟩
theorem d23_6 : D1 jdk_42_method_66_code 6 (.ireturn) 1 7 := ⟨by decide +kernel, rfl⟩
theorem d23_7 : D1 jdk_42_method_66_code 7 (.aload_n 1) 1 8 := ⟨by decide +kernel, rfl⟩
theorem d23_8 : D1 jdk_42_method_66_code 8 (.instanceof 10) 3 11 := ⟨by decide +kernel, rfl⟩
theorem d23_11 : DJ jdk_42_method_66_code 11 (.ifCond .eq) 43 14 54 := ⟨by decide +kernel, rfl, rfl⟩
theorem d23_14 : D1 jdk_42_method_66_code 14 (.aload_n 1) 1 15 := ⟨by decide +kernel, rfl⟩
theorem d23_15 : D1 jdk_42_method_66_code 15 (.checkcast 10) 3 18 := ⟨by decide +kernel, rfl⟩
theorem d23_18 : D1 jdk_42_method_66_code 18 (.astore_n 2) 1 19 := ⟨by decide +kernel, rfl⟩
theorem d23_19 : D1 jdk_42_method_66_code 19 (.getstatic 38) 3 22 := ⟨by decide +kernel, rfl⟩
theorem d23_22 : DJ jdk_42_method_66_code 22 (.ifCond .eq) 14 25 36 := ⟨by decide +kernel, rfl, rfl⟩
theorem d23_25 : D1 jdk_42_method_66_code 25 (.aload_n 0) 1 26 := ⟨by decide +kernel, rfl⟩
theorem d23_26 : D1 jdk_42_method_66_code 26 (.getfield 15) 3 29 := ⟨by decide +kernel, rfl⟩
theorem d23_29 : D1 jdk_42_method_66_code 29 (.aload_n 2) 1 30 := ⟨by decide +kernel, rfl⟩
theorem d23_30 : D1 jdk_42_method_66_code 30 (.getfield 15) 3 33 := ⟨by decide +kernel, rfl⟩
theorem d23_33 : DJ jdk_42_method_66_code 33 (.if_icmp .ne) 21 36 54 := ⟨by decide +kernel, rfl, rfl⟩
theorem d23_36 : D1 jdk_42_method_66_code 36 (.aload_n 0) 1 37 := ⟨by decide +kernel, rfl⟩
theorem d23_37 : D1 jdk_42_method_66_code 37 (.getfield 9) 3 40 := ⟨by decide +kernel, rfl⟩
theorem d23_40 : D1 jdk_42_method_66_code 40 (.aload_n 2) 1 41 := ⟨by decide +kernel, rfl⟩
theorem d23_41 : D1 jdk_42_method_66_code 41 (.getfield 9) 3 44 := ⟨by decide +kernel, rfl⟩
theorem d23_44 : D1 jdk_42_method_66_code 44 (.invokestatic 541) 3 47 := ⟨by decide +kernel, rfl⟩
theorem d23_47 : DJ jdk_42_method_66_code 47 (.ifCond .eq) 7 50 54 := ⟨by decide +kernel, rfl, rfl⟩
theorem d23_50 : D1 jdk_42_method_66_code 50 (.iconst 1) 1 51 := ⟨by decide +kernel, rfl⟩
theorem d23_51 : DJ jdk_42_method_66_code 51 .goto 4 54 55 := ⟨by decide +kernel, rfl, rfl⟩
theorem d23_54 : D1 jdk_42_method_66_code 54 (.iconst 0) 1 55 := ⟨by decide +kernel, rfl⟩
theorem d23_55 : D1 jdk_42_method_66_code 55 (.ireturn) 1 56 := ⟨by decide +kernel, rfl⟩

theorem own_set {cs : List Int32} {i : Nat} {c : Int32} (hc : cs[i]? = some c) : ((cs.take i).map lo8 ++ List.replicate (cs.length - i) (0 : Int32)).set i (lo8 c) = (cs.take (i + 1)).map lo8 ++ List.replicate (cs.length - (i + 1)) (0 : Int32) := by
  have hi : i < cs.length := (List.getElem?_eq_some_iff.mp hc).1
  have e : cs.length - i = (cs.length - (i + 1)) + 1 := by omega
  have hl : ((cs.take i).map lo8).length = i := by simp; omega
  rw [e, List.replicate_succ, List.set_append_right _ _ (by omega), hl, Nat.sub_self, List.set_cons_zero, List.take_add_one, hc]
  simp
abbrev QC5 (Z : State) (t : Addr) (cs : List Int32) (h0 : Heap) (v : Option Value) (h : Heap) (F : List Addr) : Prop := v = some (.int (Int32.ofNat cs.length)) ∧ Keep h0 h [t] ∧ IA Z h t .byte (cs.map lo8)
set_option maxRecDepth 65536 in
set_option maxHeartbeats 4000000 in
theorem rm_c5_loop (l : Launch) (Z : State) (a0 : Array Value) (hw : ∀ d ∈ tables_1, d.before a0 Z = true) (n0 : Nat) (h0 : Heap) (b t : Addr) (cs : List Int32) (hlat : Lat cs) (hlen : cs.length < 2 ^ 31) (hne : b ≠ t) (nt : n0 ≤ t) (F : List Addr) (hm : t ∈ F) (k : Nat) :
    ∀ (i : Nat) (h : Heap) (j1 j3 j5 : Int32) (s6 : Slot), One s6 → i + k = cs.length → Ix j1 i → Ix j3 i → Ix j5 i → IA Z h b .char cs → IA Z h t .byte ((cs.take i).map lo8 ++ List.replicate (cs.length - i) 0) → Keep h0 h [t] → SafeBy Z consts_1 F h t →
      WP l Z consts_1 n0 ({ frames := 0, cells := 0, slots := 0, locals := 0 } : Room) (⟨"java/lang/StringUTF16", "compress", "([CI[BII)I"⟩ : MethodName) jdk_52_method_21_code 7 (some .int) (QC5 Z t cs h0) F h 0 0 3 #[.val (.ref b), .val (.int j1), .val (.ref t), .val (.int j3), .val (.int (Int32.ofNat cs.length)), .val (.int j5), s6] [] := by
  induction k with
  | zero =>
    intro i h j1 j3 j5 s6 o6 hi q1 q3 q5 A B K hF
    refine WP.iload d9_3 rfl ?_
    refine WP.iload d9_5 rfl ?_
    refine WP.icmp_ge d9_7 (fun hc => ?_) (fun hc => absurd hc (by rw [Int32.lt_iff_toInt_lt, q5, Int32.toInt_ofNat_of_lt hlen]; omega))
    refine WP.iload d9_44 rfl ?_
    have e : i = cs.length := by omega
    subst e
    exact WP.ireturn d9_46 rfl (t := .int) (by simp) rfl (by decide) (by decide) (G := []) (fun _ q => nomatch q) ⟨rfl, K, by simpa using B⟩
  | succ k ih =>
    intro i h j1 j3 j5 s6 o6 hi q1 q3 q5 A B K hF
    obtain ⟨c, hc⟩ : ∃ c, cs[i]? = some c := ⟨_, List.getElem?_eq_getElem (by omega)⟩
    have hl := hlat c (List.mem_of_getElem? hc)
    have hlt := B.lt
    refine WP.iload d9_3 rfl ?_
    refine WP.iload d9_5 rfl ?_
    refine WP.icmp_ge d9_7 (fun hc7 => ?_) (fun hc7 => ?_)
    · exact absurd hc7 (by rw [Int32.lt_iff_toInt_lt, q5, Int32.toInt_ofNat_of_lt (by omega)]; omega)
    · refine WP.aload_n d9_10 rfl rfl ?_
      refine WP.iload_n d9_11 rfl ?_
      refine WP.caload d9_12 A q1 hc ?_
      refine WP.istore d9_13 rfl (Ls' := #[.val (.ref b), .val (.int j1), .val (.ref t), .val (.int j3), .val (.int (Int32.ofNat cs.length)), .val (.int j5), .val (.int c)]) (XS.store1 (o := s6) rfl o6 rfl) ?_
      refine WP.iload d9_15 rfl ?_
      refine WP.sipush d9_17 (v := (255 : Int32)) rfl ?_
      refine WP.icmp_le d9_20 (fun hc20 => ?_) (fun hc20 => ?_)
      · refine WP.aload_n d9_26 rfl rfl ?_
        refine WP.iload_n d9_27 rfl ?_
        refine WP.iload d9_28 rfl ?_
        refine WP.i2b d9_30 ?_
        refine WP.bastore d9_31 B hF q3 (by simp; omega) nt (fun h1 W2 => ?_)
        have zW2 := W2.size
        rw [show nar .byte c.toInt8.toInt32 = lo8 c from by simp [nar, lo8]] at W2
        have A := A.other W2 hne
        have B := own_set hc ▸ B.set W2
        have K := K.wr W2 (Or.inl (by simp))
        obtain ⟨x3, ex3⟩ : ∃ z, j1 + Int32.ofInt (1) = z := ⟨_, rfl⟩
        refine WP.iinc d9_32 rfl ex3 (Ls' := #[.val (.ref b), .val (.int x3), .val (.ref t), .val (.int j3), .val (.int (Int32.ofNat cs.length)), .val (.int j5), .val (.int c)]) rfl ?_
        obtain ⟨x4, ex4⟩ : ∃ z, j3 + Int32.ofInt (1) = z := ⟨_, rfl⟩
        refine WP.iinc d9_35 rfl ex4 (Ls' := #[.val (.ref b), .val (.int x3), .val (.ref t), .val (.int x4), .val (.int (Int32.ofNat cs.length)), .val (.int j5), .val (.int c)]) rfl ?_
        obtain ⟨x5, ex5⟩ : ∃ z, j5 + Int32.ofInt (1) = z := ⟨_, rfl⟩
        refine WP.iinc d9_38 rfl ex5 (Ls' := #[.val (.ref b), .val (.int x3), .val (.ref t), .val (.int x4), .val (.int (Int32.ofNat cs.length)), .val (.int x5), .val (.int c)]) rfl ?_
        refine WP.goto d9_41 ?_
        exact ih (i + 1) h1 x3 x4 x5 (.val (.int c)) (Or.inr ⟨_, rfl, rfl⟩) (by omega) (by rw [Ix, ← ex3, Int32.toInt_add, q1]; show ((i : Int) + 1).bmod _ = _; rw [Int.bmod_eq_of_le (by omega) (by omega)]; omega) (by rw [Ix, ← ex4, Int32.toInt_add, q3]; show ((i : Int) + 1).bmod _ = _; rw [Int.bmod_eq_of_le (by omega) (by omega)]; omega) (by rw [Ix, ← ex5, Int32.toInt_add, q5]; show ((i : Int) + 1).bmod _ = _; rw [Int.bmod_eq_of_le (by omega) (by omega)]; omega) A B K (SafeBy.mem (B.lt) hm)
      · exact absurd hc20 (by rw [Int32.lt_iff_toInt_lt]; have e : (255 : Int32).toInt = 255 := rfl; omega)
set_option maxRecDepth 65536 in
set_option maxHeartbeats 4000000 in
theorem rm_c5 (l : Launch) (Z : State) (a0 : Array Value) (hw : ∀ d ∈ tables_1, d.before a0 Z = true) (n0 : Nat) (h0 : Heap) (hO : Old Z n0 h0) (b t : Addr) (cs : List Int32) (A : IA Z h0 b .char cs) (B : IA Z h0 t .byte (List.replicate cs.length 0)) (hlat : Lat cs) (hne : b ≠ t) (nt : n0 ≤ t) :
    Met l Z consts_1 n0 [] (⟨"java/lang/StringUTF16", "compress", "([CI[BII)I"⟩ : MethodName) jdk_52_method_21_code 7 (some .int) ({ frames := 0, cells := 0, slots := 0, locals := 0 } : Room) #[.ref b, .int 0, .ref t, .int 0, (.int (Int32.ofNat cs.length))] [t] h0 (QC5 Z t cs h0) := by
  have hEL := own_EW hw
  have hn0 : n0 ≤ h0.size := hO.1 ▸ hO.2.1
  refine Met.of (by decide +kernel) hEL hO (Ls := #[.val (.ref b), .val (.int 0), .val (.ref t), .val (.int 0), .val (.int (Int32.ofNat cs.length)), .unset, .unset]) (fun m => by first | (simp [entryFrame, mkF, argsToLocals, Value.category]; done) | rfl) ?_
  refine WP.iconst d9_0 (v := (0 : Int32)) rfl ?_
  refine WP.istore d9_1 rfl (Ls' := #[.val (.ref b), .val (.int 0), .val (.ref t), .val (.int 0), .val (.int (Int32.ofNat cs.length)), .val (.int 0), .unset]) rfl ?_
  exact rm_c5_loop l Z a0 hw n0 h0 b t cs hlat A.len hne nt [t] (by simp) cs.length 0 h0 0 0 0 .unset One.u (by omega) rfl rfl rfl A (by simpa using B) (Keep.refl _ _) (SafeBy.mem B.lt (by simp))
abbrev QC3 (Z : State) (cs : List Int32) (h0 : Heap) (v : Option Value) (h : Heap) (F : List Addr) : Prop := ∃ t, v = some (.ref t) ∧ h0.size ≤ t ∧ Keep h0 h [] ∧ IA Z h t .byte (cs.map lo8)
set_option maxRecDepth 65536 in
set_option maxHeartbeats 4000000 in
theorem rm_c3 (l : Launch) (Z : State) (a0 : Array Value) (hw : ∀ d ∈ tables_1, d.before a0 Z = true) (n0 : Nat) (h0 : Heap) (hO : Old Z n0 h0) (b : Addr) (cs : List Int32) (A : IA Z h0 b .char cs) (hl : cs.length ≤ 3) (hlat : Lat cs) :
    Met l Z consts_1 n0 [] (⟨"java/lang/StringUTF16", "compress", "([CII)[B"⟩ : MethodName) jdk_52_method_16_code 6 (some (.array .byte)) ({ frames := 1, cells := 1, slots := 3, locals := 18 } : Room) #[.ref b, .int 0, (.int (Int32.ofNat cs.length))] [] h0 (QC3 Z cs h0) := by
  have hEL := own_EW hw
  have hn0 : n0 ≤ h0.size := hO.1 ▸ hO.2.1
  refine Met.of (by decide +kernel) hEL hO (Ls := #[.val (.ref b), .val (.int 0), .val (.int (Int32.ofNat cs.length)), .unset, .unset, .unset]) (fun m => by first | (simp [entryFrame, mkF, argsToLocals, Value.category]; done) | rfl) ?_
  have lb := nlt A.lt
  have K : Keep h0 h0 [] := Keep.refl _ _
  refine WP.iload_n d8_0 rfl ?_
  refine WP.newarray d8_1 (hw _ (List.mem_of_getElem? (i := 15) rfl)) rfl (i := cs.length) (cap := 3) (Ix.ofNat A.len) hl (nle rfl) (nle rfl) (nle rfl) (fun h6 t gt Et At => ?_)
  have A := A.ext Et
  have K := K.ext Et
  have lt := nlt At.lt
  have zt := Et.1
  refine WP.astore_n d8_3 (Ls' := #[.val (.ref b), .val (.int (0 : Int32)), .val (.int (Int32.ofNat cs.length)), .val (.ref t), .unset, .unset]) rfl rfl ?_
  refine WP.aload_n d8_4 rfl rfl ?_
  refine WP.iload_n d8_5 rfl ?_
  refine WP.aload_n d8_6 rfl rfl ?_
  refine WP.iconst d8_7 (v := (0 : Int32)) rfl ?_
  refine WP.iload_n d8_8 rfl ?_
  refine WP.static (argsL := [(.ref b), (.int (0 : Int32)), (.ref t), (.int (0 : Int32)), (.int (Int32.ofNat cs.length))]) (rest := []) d8_9 (rm_c5 l Z a0 hw n0 h6 (hO.ext Et) b t cs A At hlat (nea (by omega)) (by omega)) (hw _ (List.mem_of_getElem? (i := 41) rfl)) (hw _ (List.mem_of_getElem? (i := 42) rfl)) (hw _ (List.mem_of_getElem? (i := 39) rfl)) (hw _ (List.mem_of_getElem? (i := 43) rfl)) (by decide) pd_8 rfl rfl rfl (nle rfl) (nle rfl) (nle rfl) (nle rfl) (allS (SafeBy.mem At.lt (by simp)) all0) (fun v h7 F' hq szh7 => ?_)
  obtain ⟨rfl, K5, B⟩ := hq
  have A := A.keep K5 (ninS (nea (by omega)) nin0)
  have K := K.trans K5 (allS (Or.inr (by omega)) all0)
  obtain ⟨x8, ex8⟩ : ∃ z : Int32, (Int32.ofNat cs.length) = z := ⟨_, rfl⟩
  refine WP.istore d8_12 ex8 (Ls' := #[.val (.ref b), .val (.int (0 : Int32)), .val (.int (Int32.ofNat cs.length)), .val (.ref t), .val (.int x8), .unset]) rfl ?_
  refine WP.iload d8_14 rfl ?_
  refine WP.iload_n d8_16 rfl ?_
  refine WP.icmp_eq d8_17 (fun hc17 => ?_) (fun hc17 => ?_)
  · refine WP.aload_n d8_57 rfl rfl ?_
    exact WP.areturn d8_58 rfl rfl rfl (by decide) (by decide) (G := []) (fun _ q => nomatch q) ⟨t, rfl, by omega, K, B⟩
  · exact absurd (Eq.symm (by assumption)) hc17
abbrev QCd (h0 : Heap) (v : Option Value) (h : Heap) (F : List Addr) : Prop := v = some (.int 0) ∧ h = h0
set_option maxRecDepth 65536 in
set_option maxHeartbeats 4000000 in
theorem rm_cd (l : Launch) (Z : State) (a0 : Array Value) (hw : ∀ d ∈ tables_1, d.before a0 Z = true) (n0 : Nat) (h0 : Heap) (hO : Old Z n0 h0) (t : Addr) (bs : List Int32) (B : IA Z h0 t .byte bs) :
    Met l Z consts_1 n0 [] (⟨"java/lang/StringUTF16", "coderFromArrayLen", "([BI)B"⟩ : MethodName) jdk_52_method_15_code 2 (some .byte) ({ frames := 0, cells := 0, slots := 0, locals := 0 } : Room) #[.ref t, .int (Int32.ofNat bs.length)] [] h0 (QCd h0) := by
  have hEL := own_EW hw
  have hn0 : n0 ≤ h0.size := hO.1 ▸ hO.2.1
  refine Met.of (by decide +kernel) hEL hO (Ls := #[.val (.ref t), .val (.int (Int32.ofNat bs.length))]) (fun m => by first | (simp [entryFrame, mkF, argsToLocals, Value.category]; done) | rfl) ?_
  refine WP.iload_n d10_0 rfl ?_
  refine WP.aload_n d10_1 rfl rfl ?_
  refine WP.arraylength d10_2 B ?_
  refine WP.isub d10_3 ?_
  refine WP.bipush d10_4 (v := (31 : Int32)) rfl ?_
  refine WP.iushr d10_6 ?_
  refine WP.i2b d10_7 ?_
  rw [show (((Int32.ofNat bs.length - Int32.ofNat bs.length).toUInt32 >>> ((31 : Int32) &&& 31).toUInt32).toInt32).toInt8.toInt32 = 0 from by rw [Int32.sub_self]; decide]
  exact WP.ireturn d10_8 rfl (t := .byte) (by simp) rfl (by decide) (by decide) (G := []) (fun _ q => nomatch q) ⟨rfl, rfl⟩
abbrev QIn (Z : State) (a : Addr) (cs : List Int32) (h0 : Heap) (v : Option Value) (h : Heap) (F : List Addr) : Prop := v = none ∧ Keep h0 h [a] ∧ ∃ t, Str Z h a t (cs.map lo8)
set_option maxRecDepth 65536 in
set_option maxHeartbeats 4000000 in
theorem rm_i4 (l : Launch) (Z : State) (a0 : Array Value) (hw : ∀ d ∈ tables_1, d.before a0 Z = true) (n0 : Nat) (h0 : Heap) (hO : Old Z n0 h0) (zc : Int32) (hcs : Sta Z Z.heap "java/lang/String" "COMPACT_STRINGS" "Z" (.int zc)) (hzc : zc ≠ 0) (a b : Addr) (cs : List Int32) (E : Exa Z h0 a "java/lang/String") (Fv : Fld Z h0 a "java/lang/String" "value" "[B" .null) (Fc : Fld Z h0 a "java/lang/String" "coder" "B" (.int 0)) (A : IA Z h0 b .char cs) (hl : cs.length ≤ 3) (hlat : Lat cs) (hba : b ≠ a) (na : n0 ≤ a) :
    Met l Z consts_1 n0 [] (⟨"java/lang/String", "<init>", "([CIILjava/lang/Void;)V"⟩ : MethodName) jdk_42_method_149_code 6 none ({ frames := 2, cells := 4, slots := 8, locals := 35 } : Room) #[.ref a, .ref b, .int 0, (.int (Int32.ofNat cs.length)), .null] [a] h0 (QIn Z a cs h0) := by
  have hEL := own_EW hw
  have hn0 : n0 ≤ h0.size := hO.1 ▸ hO.2.1
  refine Met.of (by decide +kernel) hEL hO (Ls := #[.val (.ref a), .val (.ref b), .val (.int 0), .val (.int (Int32.ofNat cs.length)), .val .null, .unset]) (fun m => by first | (simp [entryFrame, mkF, argsToLocals, Value.category]; done) | rfl) ?_
  have la := nlt E.lt
  have lb := nlt A.lt
  have K : Keep h0 h0 [a] := Keep.refl _ _
  refine WP.aload_n d2_0 rfl rfl ?_
  refine WP.initObject d2_1 (hw _ (List.mem_of_getElem? (i := 11) rfl)) (hw _ (List.mem_of_getElem? (i := 12) rfl)) (hw _ (List.mem_of_getElem? (i := 13) rfl)) rfl (nle rfl) (nle rfl) ?_
  refine WP.iload_n d2_4 rfl ?_
  refine WP.if_ne d2_5 (fun hc5 => ?_) (fun hc5 => ?_)
  · refine WP.getstatic d2_27 (hw _ (List.mem_of_getElem? (i := 25) rfl)) Via.refl hcs ?_
    refine WP.if_eq d2_30 (fun hc30 => ?_) (fun hc30 => ?_)
    · exact absurd hc30 hzc
    · refine WP.aload_n d2_33 rfl rfl ?_
      refine WP.iload_n d2_34 rfl ?_
      refine WP.iload_n d2_35 rfl ?_
      refine WP.static (argsL := [(.ref b), (.int (0 : Int32)), (.int (Int32.ofNat cs.length))]) (rest := []) d2_36 (rm_c3 l Z a0 hw n0 h0 hO b cs A hl hlat) (hw _ (List.mem_of_getElem? (i := 37) rfl)) (hw _ (List.mem_of_getElem? (i := 38) rfl)) (hw _ (List.mem_of_getElem? (i := 39) rfl)) (hw _ (List.mem_of_getElem? (i := 40) rfl)) (by decide) pd_7 rfl rfl rfl (nle rfl) (nle rfl) (nle rfl) (nle rfl) (fun _ q => nomatch q) (fun v h9 F' hq szh9 => ?_)
      obtain ⟨t, rfl, ht, K3, B⟩ := hq
      have E := E.keep K3
      have Fv := Fv.keep K3 nin0
      have Fc := Fc.keep K3 nin0
      have A := A.keep K3 nin0
      have K := K.trans K3 all0
      have lt := nlt B.lt
      have hO3 : Old Z n0 h9 := hO.keep K3 all0
      refine WP.astore d2_39 (Ls' := #[.val (.ref a), .val (.ref b), .val (.int (0 : Int32)), .val (.int (Int32.ofNat cs.length)), .val .null, .val (.ref t)]) rfl rfl ?_
      refine WP.aload_n d2_41 rfl rfl ?_
      refine WP.aload d2_42 rfl rfl ?_
      refine WP.iload_n d2_44 rfl ?_
      have elen : Int32.ofNat cs.length = Int32.ofNat (cs.map lo8).length := by simp
      rw [elen]
      refine WP.static (argsL := [(.ref t), (.int (Int32.ofNat (cs.map lo8).length))]) (rest := [(.ref a)]) d2_45 (rm_cd l Z a0 hw n0 h9 hO3 t _ B) (hw _ (List.mem_of_getElem? (i := 44) rfl)) (hw _ (List.mem_of_getElem? (i := 45) rfl)) (hw _ (List.mem_of_getElem? (i := 39) rfl)) (hw _ (List.mem_of_getElem? (i := 46) rfl)) (by decide) pd_9 rfl rfl rfl (nle rfl) (nle rfl) (nle rfl) (nle rfl) (fun _ q => nomatch q) (fun v h10 F' hq szh10 => ?_)
      obtain ⟨rfl, rfl⟩ := hq
      refine WP.putfield (host := "") d2_48 (Or.inl (hw _ (List.mem_of_getElem? (i := 21) rfl))) Via.refl Fc E (Or.inr ⟨(hw _ (List.mem_of_getElem? (i := 17) rfl)), rfl, rfl⟩) (hw _ (List.mem_of_getElem? (i := 2) rfl)) (ty := .byte) (by decide) rfl rfl (by omega) (SafeBy.mem E.lt (by simp)) (fun h11 W12 => ?_)
      have zW12 := W12.size
      have E := E.wr W12
      have Fv := Fv.other W12 (Or.inr (slot_ne (Or.inr (hw _ (List.mem_of_getElem? (i := 16) rfl))) (Or.inr (hw _ (List.mem_of_getElem? (i := 17) rfl))) (by decide) (t := (.array .byte)) (t' := .byte) (by decide) (by decide)))
      have Fc := Fc.same W12
      have A := A.other W12 hba
      have K := K.wr W12 (Or.inl (by simp))
      have B := B.other W12 (nea (by omega))
      refine WP.aload_n d2_51 rfl rfl ?_
      refine WP.aload d2_52 rfl rfl ?_
      have nt1 : t ≠ a := nea (by omega)
      refine WP.putfield (host := "") d2_54 (Or.inl (hw _ (List.mem_of_getElem? (i := 20) rfl))) Via.refl Fv E (Or.inr ⟨(hw _ (List.mem_of_getElem? (i := 16) rfl)), rfl, rfl⟩) (hw _ (List.mem_of_getElem? (i := 2) rfl)) (ty := (.array .byte)) (by decide) rfl rfl (by omega) (SafeBy.mem E.lt (by simp)) (fun h13 W14 => ?_)
      have zW14 := W14.size
      have E := E.wr W14
      have Fv := Fv.same W14
      have Fc := Fc.other W14 (Or.inr (slot_ne (Or.inr (hw _ (List.mem_of_getElem? (i := 17) rfl))) (Or.inr (hw _ (List.mem_of_getElem? (i := 16) rfl))) (by decide) (t := .byte) (t' := (.array .byte)) (by decide) (by decide)))
      have A := A.other W14 hba
      have K := K.wr W14 (Or.inl (by simp))
      have B := B.other W14 nt1
      exact WP.return_ d2_57 rfl (by decide) (by decide) (G := []) (fun _ q => nomatch q) ⟨rfl, K, _, E, Fc, Fv, B⟩
  · have ecs : cs = [] := by
      have q := congrArg Int32.toInt hc5
      rw [Int32.toInt_ofNat_of_lt A.len] at q
      have q0 : ((cs.length : Nat) : Int) = 0 := q
      exact List.eq_nil_of_length_eq_zero (by omega)
    refine WP.aload_n d2_8 rfl rfl ?_
    refine WP.ldcS (n := 0) (bs := []) d2_9 hEL (by simp [consts_1]) (hw _ (List.mem_of_getElem? (i := 14) rfl)) (own_wS hw) ⟨by decide, by decide⟩ (by decide) (by decide) (by decide) (by decide) (by decide) (fun h15 s16 t17 E1 X1 C1 V1 B1 => ?_)
    have E := E.ext E1
    have Fv := Fv.ext E1
    have Fc := Fc.ext E1
    have A := A.ext E1
    have K := K.ext E1
    have zE1 := E1.1
    refine WP.getfield (host := "") d2_11 (Or.inl (hw _ (List.mem_of_getElem? (i := 20) rfl))) Via.refl V1 ?_
    have nt1 : t17 ≠ a := (Exa.neIA E (hw _ (List.mem_of_getElem? (i := 2) rfl)) B1).symm
    refine WP.putfield (host := "") d2_14 (Or.inl (hw _ (List.mem_of_getElem? (i := 20) rfl))) Via.refl Fv E (Or.inr ⟨(hw _ (List.mem_of_getElem? (i := 16) rfl)), rfl, rfl⟩) (hw _ (List.mem_of_getElem? (i := 2) rfl)) (ty := (.array .byte)) (by decide) rfl rfl (by omega) (SafeBy.mem E.lt (by simp)) (fun h18 W19 => ?_)
    have zW19 := W19.size
    have E := E.wr W19
    have Fv := Fv.same W19
    have Fc := Fc.other W19 (Or.inr (slot_ne (Or.inr (hw _ (List.mem_of_getElem? (i := 17) rfl))) (Or.inr (hw _ (List.mem_of_getElem? (i := 16) rfl))) (by decide) (t := .byte) (t' := (.array .byte)) (by decide) (by decide)))
    have A := A.other W19 hba
    have K := K.wr W19 (Or.inl (by simp))
    have B1 := B1.other W19 nt1
    refine WP.aload_n d2_17 rfl rfl ?_
    refine WP.ldcS (n := 0) (bs := []) d2_18 hEL (by simp [consts_1]) (hw _ (List.mem_of_getElem? (i := 14) rfl)) (own_wS hw) ⟨by decide, by decide⟩ (by decide) (by decide) (by decide) (by decide) (by decide) (fun h20 s21 t22 E2 X2 C2 V2 B2 => ?_)
    have E := E.ext E2
    have Fv := Fv.ext E2
    have Fc := Fc.ext E2
    have A := A.ext E2
    have K := K.ext E2
    have B1 := B1.ext E2
    have zE2 := E2.1
    refine WP.getfield (host := "") d2_20 (Or.inl (hw _ (List.mem_of_getElem? (i := 21) rfl))) Via.refl C2 ?_
    refine WP.putfield (host := "") d2_23 (Or.inl (hw _ (List.mem_of_getElem? (i := 21) rfl))) Via.refl Fc E (Or.inr ⟨(hw _ (List.mem_of_getElem? (i := 17) rfl)), rfl, rfl⟩) (hw _ (List.mem_of_getElem? (i := 2) rfl)) (ty := .byte) (by decide) rfl rfl (by omega) (SafeBy.mem E.lt (by simp)) (fun h23 W24 => ?_)
    have zW24 := W24.size
    have E := E.wr W24
    have Fv := Fv.other W24 (Or.inr (slot_ne (Or.inr (hw _ (List.mem_of_getElem? (i := 16) rfl))) (Or.inr (hw _ (List.mem_of_getElem? (i := 17) rfl))) (by decide) (t := (.array .byte)) (t' := .byte) (by decide) (by decide)))
    have Fc := Fc.same W24
    have A := A.other W24 hba
    have K := K.wr W24 (Or.inl (by simp))
    have B1 := B1.other W24 nt1
    exact WP.return_ d2_26 rfl (by decide) (by decide) (G := []) (fun _ q => nomatch q) ⟨rfl, K, _, E, Fc, Fv, by rw [ecs]; exact B1⟩
set_option maxRecDepth 65536 in
set_option maxHeartbeats 4000000 in
theorem rm_i1 (l : Launch) (Z : State) (a0 : Array Value) (hw : ∀ d ∈ tables_1, d.before a0 Z = true) (n0 : Nat) (h0 : Heap) (hO : Old Z n0 h0) (zc : Int32) (hcs : Sta Z Z.heap "java/lang/String" "COMPACT_STRINGS" "Z" (.int zc)) (hzc : zc ≠ 0) (a b : Addr) (cs : List Int32) (E : Exa Z h0 a "java/lang/String") (Fv : Fld Z h0 a "java/lang/String" "value" "[B" .null) (Fc : Fld Z h0 a "java/lang/String" "coder" "B" (.int 0)) (A : IA Z h0 b .char cs) (hl : cs.length ≤ 3) (hlat : Lat cs) (hba : b ≠ a) (na : n0 ≤ a) :
    Met l Z consts_1 n0 [] (⟨"java/lang/String", "<init>", "([C)V"⟩ : MethodName) jdk_42_method_3_code 2 none ({ frames := 3, cells := 4, slots := 8, locals := 52 } : Room) #[.ref a, .ref b] [a] h0 (QIn Z a cs h0) := by
  have hEL := own_EW hw
  have hn0 : n0 ≤ h0.size := hO.1 ▸ hO.2.1
  refine Met.of (by decide +kernel) hEL hO (Ls := #[.val (.ref a), .val (.ref b)]) (fun m => by first | (simp [entryFrame, mkF, argsToLocals, Value.category]; done) | rfl) ?_
  refine WP.aload_n d1_0 rfl rfl ?_
  refine WP.aload_n d1_1 rfl rfl ?_
  refine WP.iconst d1_2 (v := (0 : Int32)) rfl ?_
  refine WP.aload_n d1_3 rfl rfl ?_
  refine WP.arraylength d1_4 A ?_
  refine WP.aconst_null d1_5 ?_
  refine WP.special (a := a) (argsL := [(.ref b), (.int (0 : Int32)), (.int (Int32.ofNat cs.length)), .null]) (rest := []) d1_6 (rm_i4 l Z a0 hw n0 h0 hO zc hcs hzc a b cs E Fv Fc A hl hlat hba na) rfl (hw _ (List.mem_of_getElem? (i := 7) rfl)) (hw _ (List.mem_of_getElem? (i := 8) rfl)) (hw _ (List.mem_of_getElem? (i := 3) rfl)) (hw _ (List.mem_of_getElem? (i := 10) rfl)) (by decide) pd_1 rfl rfl rfl (nle rfl) (nle rfl) (nle rfl) (nle rfl) (allS (SafeBy.mem E.lt (by simp)) all0) (fun v h25 F' hq szh25 => ?_)
  obtain ⟨rfl, K, t, St⟩ := hq
  exact WP.return_ d1_9 rfl (by decide) (by decide) (G := []) (fun _ q => nomatch q) ⟨rfl, K, t, St⟩

abbrev QPure (r : Option Value) (h0 : Heap) (v : Option Value) (h : Heap) (F : List Addr) : Prop := v = r ∧ h = h0
set_option maxRecDepth 65536 in
set_option maxHeartbeats 4000000 in
theorem rm_coder (l : Launch) (Z : State) (a0 : Array Value) (hw : ∀ d ∈ tables_1, d.before a0 Z = true) (n0 : Nat) (h0 : Heap) (hO : Old Z n0 h0) (zc : Int32) (hcs : Sta Z Z.heap "java/lang/String" "COMPACT_STRINGS" "Z" (.int zc)) (hzc : zc ≠ 0) (a : Addr) (Fc : Fld Z h0 a "java/lang/String" "coder" "B" (.int 0)) :
    Met l Z consts_1 n0 [] (⟨"java/lang/String", "coder", "()B"⟩ : MethodName) jdk_42_method_152_code 1 (some .byte) ({ frames := 0, cells := 0, slots := 0, locals := 0 } : Room) #[.ref a] [] h0 (QPure (some (.int 0)) h0) := by
  have hEL := own_EW hw
  have hn0 : n0 ≤ h0.size := hO.1 ▸ hO.2.1
  refine Met.of (by decide +kernel) hEL hO (Ls := #[.val (.ref a)]) (fun m => by first | (simp [entryFrame, mkF, argsToLocals, Value.category]; done) | rfl) ?_
  refine WP.getstatic d22_0 (hw _ (List.mem_of_getElem? (i := 25) rfl)) Via.refl hcs ?_
  refine WP.if_eq d22_3 (fun hc3 => False.elim (hzc hc3)) (fun hc3 => ?_)
  refine WP.aload_n d22_6 rfl rfl ?_
  refine WP.getfield (host := "") d22_7 (Or.inl (hw _ (List.mem_of_getElem? (i := 21) rfl))) Via.refl Fc ?_
  refine WP.goto d22_10 ?_
  exact WP.ireturn d22_14 rfl (t := .byte) (by simp) rfl (by decide) (by decide) (G := []) (fun _ q => nomatch q) ⟨rfl, rfl⟩
set_option maxRecDepth 65536 in
set_option maxHeartbeats 4000000 in
theorem rm_len (l : Launch) (Z : State) (a0 : Array Value) (hw : ∀ d ∈ tables_1, d.before a0 Z = true) (n0 : Nat) (h0 : Heap) (hO : Old Z n0 h0) (zc : Int32) (hcs : Sta Z Z.heap "java/lang/String" "COMPACT_STRINGS" "Z" (.int zc)) (hzc : zc ≠ 0) (a t : Addr) (bs : List Int32) (D : Str Z h0 a t bs) :
    Met l Z consts_1 n0 [] (⟨"java/lang/String", "length", "()I"⟩ : MethodName) jdk_42_method_54_code 1 (some .int) ({ frames := 1, cells := 0, slots := 0, locals := 13 } : Room) #[.ref a] [] h0 (QPure (some (.int (Int32.ofNat bs.length))) h0) := by
  have hEL := own_EW hw
  have hn0 : n0 ≤ h0.size := hO.1 ▸ hO.2.1
  refine Met.of (by decide +kernel) hEL hO (Ls := #[.val (.ref a)]) (fun m => by first | (simp [entryFrame, mkF, argsToLocals, Value.category]; done) | rfl) ?_
  refine WP.aload_n d21_0 rfl rfl ?_
  refine WP.getfield (host := "") d21_1 (Or.inl (hw _ (List.mem_of_getElem? (i := 20) rfl))) Via.refl D.2.2.1 ?_
  refine WP.arraylength d21_4 D.2.2.2 ?_
  refine WP.aload_n d21_5 rfl rfl ?_
  refine WP.virtual (a := a) (argsL := []) (rest := [(.int (Int32.ofNat bs.length))]) d21_6 (rm_coder l Z a0 hw n0 h0 hO zc hcs hzc a D.2.1) D.1 (hw _ (List.mem_of_getElem? (i := 99) rfl)) (hw _ (List.mem_of_getElem? (i := 100) rfl)) (hw _ (List.mem_of_getElem? (i := 101) rfl)) (hw _ (List.mem_of_getElem? (i := 102) rfl)) (hw _ (List.mem_of_getElem? (i := 3) rfl)) (hw _ (List.mem_of_getElem? (i := 103) rfl)) (hw _ (List.mem_of_getElem? (i := 102) rfl)) (by decide) pd_18 rfl rfl rfl (nle rfl) (nle rfl) (nle rfl) (nle rfl) (fun _ q => nomatch q) (fun v h26 F' hq szh26 => ?_)
  obtain ⟨rfl, rfl⟩ := hq
  refine WP.ishr d21_9 ?_
  rw [shr0]
  exact WP.ireturn d21_10 rfl (t := .int) (by simp) rfl (by decide) (by decide) (G := []) (fun _ q => nomatch q) ⟨rfl, rfl⟩

set_option maxRecDepth 65536 in
set_option maxHeartbeats 4000000 in
theorem rm_il (l : Launch) (Z : State) (a0 : Array Value) (hw : ∀ d ∈ tables_1, d.before a0 Z = true) (n0 : Nat) (h0 : Heap) (hO : Old Z n0 h0) (zc : Int32) (hcs : Sta Z Z.heap "java/lang/String" "COMPACT_STRINGS" "Z" (.int zc)) (hzc : zc ≠ 0) (a : Addr) (Fc : Fld Z h0 a "java/lang/String" "coder" "B" (.int 0)) :
    Met l Z consts_1 n0 [] (⟨"java/lang/String", "isLatin1", "()Z"⟩ : MethodName) jdk_42_method_154_code 1 (some .boolean) ({ frames := 0, cells := 0, slots := 0, locals := 0 } : Room) #[.ref a] [] h0 (QPure (some (.int 1)) h0) := by
  have hEL := own_EW hw
  have hn0 : n0 ≤ h0.size := hO.1 ▸ hO.2.1
  refine Met.of (by decide +kernel) hEL hO (Ls := #[.val (.ref a)]) (fun m => by first | (simp [entryFrame, mkF, argsToLocals, Value.category]; done) | rfl) ?_
  refine WP.getstatic d16_0 (hw _ (List.mem_of_getElem? (i := 25) rfl)) Via.refl hcs ?_
  refine WP.if_eq d16_3 (fun hc3 => False.elim (hzc hc3)) (fun hc3 => ?_)
  refine WP.aload_n d16_6 rfl rfl ?_
  refine WP.getfield (host := "") d16_7 (Or.inl (hw _ (List.mem_of_getElem? (i := 21) rfl))) Via.refl Fc ?_
  refine WP.if_ne d16_10 (fun hc10 => False.elim (hc10 rfl)) (fun hc10 => ?_)
  refine WP.iconst d16_13 (v := (1 : Int32)) rfl ?_
  refine WP.goto d16_14 ?_
  exact WP.ireturn d16_18 rfl (t := .boolean) (by simp) rfl (by decide) (by decide) (G := []) (fun _ q => nomatch q) ⟨rfl, rfl⟩

set_option maxRecDepth 65536 in
set_option maxHeartbeats 4000000 in
theorem rm_ce (l : Launch) (Z : State) (a0 : Array Value) (hw : ∀ d ∈ tables_1, d.before a0 Z = true) (n0 : Nat) (h0 : Heap) (hO : Old Z n0 h0) (c : Int32) (hB : B8 c) :
    Met l Z consts_1 n0 [] (⟨"java/lang/StringLatin1", "canEncode", "(C)Z"⟩ : MethodName) jdk_43_method_3_code 1 (some .boolean) ({ frames := 0, cells := 0, slots := 0, locals := 0 } : Room) #[.int c] [] h0 (QPure (some (.int 1)) h0) := by
  have hEL := own_EW hw
  have hn0 : n0 ≤ h0.size := hO.1 ▸ hO.2.1
  refine Met.of (by decide +kernel) hEL hO (Ls := #[.val (.int c)]) (fun m => by first | (simp [entryFrame, mkF, argsToLocals, Value.category]; done) | rfl) ?_
  refine WP.iload_n d5_0 rfl ?_
  refine WP.sipush d5_1 (v := (255 : Int32)) rfl ?_
  refine WP.icmp_gt d5_4 (fun hc4 => False.elim (by rw [Int32.lt_iff_toInt_lt] at hc4; have e : (255 : Int32).toInt = 255 := rfl; have := hB.2; omega)) (fun hc4 => ?_)
  refine WP.iconst d5_7 (v := (1 : Int32)) rfl ?_
  refine WP.goto d5_8 ?_
  exact WP.ireturn d5_12 rfl (t := .boolean) (by simp) rfl (by decide) (by decide) (G := []) (fun _ q => nomatch q) ⟨rfl, rfl⟩
abbrev QTb (Z : State) (c : Int32) (h0 : Heap) (v : Option Value) (h : Heap) (F : List Addr) : Prop := ∃ t, v = some (.ref t) ∧ h0.size ≤ t ∧ Keep h0 h [] ∧ IA Z h t .byte [lo8 c]
set_option maxRecDepth 65536 in
set_option maxHeartbeats 4000000 in
theorem rm_tb (l : Launch) (Z : State) (a0 : Array Value) (hw : ∀ d ∈ tables_1, d.before a0 Z = true) (n0 : Nat) (h0 : Heap) (hO : Old Z n0 h0) (c : Int32) :
    Met l Z consts_1 n0 [] (⟨"java/lang/StringLatin1", "toBytes", "(C)[B"⟩ : MethodName) jdk_43_method_46_code 1 (some (.array .byte)) ({ frames := 0, cells := 1, slots := 1, locals := 0 } : Room) #[.int c] [] h0 (QTb Z c h0) := by
  have hEL := own_EW hw
  have hn0 : n0 ≤ h0.size := hO.1 ▸ hO.2.1
  refine Met.of (by decide +kernel) hEL hO (Ls := #[.val (.int c)]) (fun m => by first | (simp [entryFrame, mkF, argsToLocals, Value.category]; done) | rfl) ?_
  have K : Keep h0 h0 [] := Keep.refl _ _
  refine WP.iconst d6_0 (v := (1 : Int32)) rfl ?_
  refine WP.newarray d6_1 (hw _ (List.mem_of_getElem? (i := 15) rfl)) rfl (i := 1) (cap := 1) rfl (nle rfl) (nle rfl) (nle rfl) (nle rfl) (fun h27 t gt Et At => ?_)
  have K := K.ext Et
  have lt := nlt At.lt
  have zt := Et.1
  refine WP.dup d6_3 rfl ?_
  refine WP.iconst d6_4 (v := (0 : Int32)) rfl ?_
  refine WP.iload_n d6_5 rfl ?_
  refine WP.i2b d6_6 ?_
  refine WP.bastore d6_7 At (SafeBy.mem At.lt (by simp)) (i := 0) rfl (by simp) (by omega) (fun h28 W29 => ?_)
  rw [show nar .byte c.toInt8.toInt32 = lo8 c from by simp [nar, lo8]] at W29
  have zW29 := W29.size
  have K := K.wr W29 (Or.inr (by omega))
  have At := At.set W29
  exact WP.areturn d6_8 rfl rfl rfl (by decide) (by decide) (G := []) (fun _ q => nomatch q) ⟨t, rfl, by omega, K, At⟩
abbrev QIb (Z : State) (a t : Addr) (bs : List Int32) (h0 : Heap) (v : Option Value) (h : Heap) (F : List Addr) : Prop := v = none ∧ Keep h0 h [a] ∧ Str Z h a t bs
set_option maxRecDepth 65536 in
set_option maxHeartbeats 4000000 in
theorem rm_ib (l : Launch) (Z : State) (a0 : Array Value) (hw : ∀ d ∈ tables_1, d.before a0 Z = true) (n0 : Nat) (h0 : Heap) (hO : Old Z n0 h0) (a t : Addr) (bs : List Int32) (E : Exa Z h0 a "java/lang/String") (Fv : Fld Z h0 a "java/lang/String" "value" "[B" .null) (Fc : Fld Z h0 a "java/lang/String" "coder" "B" (.int 0)) (B : IA Z h0 t .byte bs) (na : n0 ≤ a) :
    Met l Z consts_1 n0 [] (⟨"java/lang/String", "<init>", "([BB)V"⟩ : MethodName) jdk_42_method_151_code 3 none ({ frames := 1, cells := 0, slots := 0, locals := 12 } : Room) #[.ref a, .ref t, .int 0] [a] h0 (QIb Z a t bs h0) := by
  have hEL := own_EW hw
  have hn0 : n0 ≤ h0.size := hO.1 ▸ hO.2.1
  refine Met.of (by decide +kernel) hEL hO (Ls := #[.val (.ref a), .val (.ref t), .val (.int 0)]) (fun m => by first | (simp [entryFrame, mkF, argsToLocals, Value.category]; done) | rfl) ?_
  have K : Keep h0 h0 [a] := Keep.refl _ _
  have nt : t ≠ a := (Exa.neIA E (hw _ (List.mem_of_getElem? (i := 2) rfl)) B).symm
  refine WP.aload_n d7_0 rfl rfl ?_
  refine WP.initObject d7_1 (hw _ (List.mem_of_getElem? (i := 11) rfl)) (hw _ (List.mem_of_getElem? (i := 12) rfl)) (hw _ (List.mem_of_getElem? (i := 13) rfl)) rfl (nle rfl) (nle rfl) ?_
  refine WP.aload_n d7_4 rfl rfl ?_
  refine WP.aload_n d7_5 rfl rfl ?_
  refine WP.putfield (host := "") d7_6 (Or.inl (hw _ (List.mem_of_getElem? (i := 20) rfl))) Via.refl Fv E (Or.inr ⟨(hw _ (List.mem_of_getElem? (i := 16) rfl)), rfl, rfl⟩) (hw _ (List.mem_of_getElem? (i := 2) rfl)) (ty := (.array .byte)) (by decide) rfl rfl (by omega) (SafeBy.mem E.lt (by simp)) (fun h30 W31 => ?_)
  have zW31 := W31.size
  have E := E.wr W31
  have Fv := Fv.same W31
  have Fc := Fc.other W31 (Or.inr (slot_ne (Or.inr (hw _ (List.mem_of_getElem? (i := 17) rfl))) (Or.inr (hw _ (List.mem_of_getElem? (i := 16) rfl))) (by decide) (t := .byte) (t' := (.array .byte)) (by decide) (by decide)))
  have B := B.other W31 nt
  have K := K.wr W31 (Or.inl (by simp))
  refine WP.aload_n d7_9 rfl rfl ?_
  refine WP.iload_n d7_10 rfl ?_
  refine WP.putfield (host := "") d7_11 (Or.inl (hw _ (List.mem_of_getElem? (i := 21) rfl))) Via.refl Fc E (Or.inr ⟨(hw _ (List.mem_of_getElem? (i := 17) rfl)), rfl, rfl⟩) (hw _ (List.mem_of_getElem? (i := 2) rfl)) (ty := .byte) (by decide) rfl rfl (by omega) (SafeBy.mem E.lt (by simp)) (fun h32 W33 => ?_)
  have zW33 := W33.size
  have E := E.wr W33
  have Fv := Fv.other W33 (Or.inr (slot_ne (Or.inr (hw _ (List.mem_of_getElem? (i := 16) rfl))) (Or.inr (hw _ (List.mem_of_getElem? (i := 17) rfl))) (by decide) (t := (.array .byte)) (t' := .byte) (by decide) (by decide)))
  have Fc := Fc.same W33
  have B := B.other W33 nt
  have K := K.wr W33 (Or.inl (by simp))
  exact WP.return_ d7_14 rfl (by decide) (by decide) (G := []) (fun _ q => nomatch q) ⟨rfl, K, E, Fc, Fv, B⟩
abbrev QVo (Z : State) (bs : List Int32) (h0 : Heap) (v : Option Value) (h : Heap) (F : List Addr) : Prop := ∃ a t, v = some (.ref a) ∧ h0.size ≤ a ∧ h0.size ≤ t ∧ Keep h0 h [] ∧ Str Z h a t bs
set_option maxRecDepth 65536 in
set_option maxHeartbeats 4000000 in
theorem rm_vo (l : Launch) (Z : State) (a0 : Array Value) (hw : ∀ d ∈ tables_1, d.before a0 Z = true) (n0 : Nat) (h0 : Heap) (hO : Old Z n0 h0) (zc : Int32) (hcs : Sta Z Z.heap "java/lang/String" "COMPACT_STRINGS" "Z" (.int zc)) (hzc : zc ≠ 0) (c : Int32) (hB : B8 c) :
    Met l Z consts_1 n0 [] (⟨"java/lang/String", "valueOf", "(C)Ljava/lang/String;"⟩ : MethodName) jdk_42_method_139_code 1 (some (.object "java/lang/String")) ({ frames := 2, cells := 2, slots := 5, locals := 28 } : Room) #[.int c] [] h0 (QVo Z [lo8 c] h0) := by
  have hEL := own_EW hw
  have hn0 : n0 ≤ h0.size := hO.1 ▸ hO.2.1
  refine Met.of (by decide +kernel) hEL hO (Ls := #[.val (.int c)]) (fun m => by first | (simp [entryFrame, mkF, argsToLocals, Value.category]; done) | rfl) ?_
  have K : Keep h0 h0 [] := Keep.refl _ _
  refine WP.getstatic d4_0 (hw _ (List.mem_of_getElem? (i := 25) rfl)) Via.refl hcs ?_
  refine WP.if_eq d4_3 (fun hc3 => False.elim (hzc hc3)) (fun hc3 => ?_)
  refine WP.iload_n d4_6 rfl ?_
  refine WP.static (argsL := [(.int c)]) (rest := []) d4_7 (rm_ce l Z a0 hw n0 h0 hO c hB) (hw _ (List.mem_of_getElem? (i := 26) rfl)) (hw _ (List.mem_of_getElem? (i := 27) rfl)) (hw _ (List.mem_of_getElem? (i := 28) rfl)) (hw _ (List.mem_of_getElem? (i := 29) rfl)) (by decide) pd_4 rfl rfl rfl (nle rfl) (nle rfl) (nle rfl) (nle rfl) (fun _ q => nomatch q) (fun v h34 F' hq szh34 => ?_)
  obtain ⟨rfl, rfl⟩ := hq
  refine WP.if_eq d4_10 (fun hc10 => False.elim (absurd hc10 (by decide))) (fun hc10 => ?_)
  refine WP.new d4_13 (hw _ (List.mem_of_getElem? (i := 30) rfl)) (hw _ (List.mem_of_getElem? (i := 2) rfl)) (hw _ (List.mem_of_getElem? (i := 3) rfl)) (nle rfl) (nle rfl) (fun h35 a ga Ea Aa Da Ua => ?_)
  have K := K.ext Ea
  have hO := hO.ext Ea
  have la := nlt Aa.lt
  have za := Ea.1
  have Va := Da (Or.inr (hw _ (List.mem_of_getElem? (i := 16) rfl))) (ty := .array .byte) (by decide)
  have Wa := Da (Or.inr (hw _ (List.mem_of_getElem? (i := 17) rfl))) (ty := .byte) (by decide)
  refine WP.dup d4_16 rfl ?_
  refine WP.iload_n d4_17 rfl ?_
  refine WP.static (argsL := [(.int c)]) (rest := [(.ref a), (.ref a)]) d4_18 (rm_tb l Z a0 hw n0 h35 hO c) (hw _ (List.mem_of_getElem? (i := 31) rfl)) (hw _ (List.mem_of_getElem? (i := 32) rfl)) (hw _ (List.mem_of_getElem? (i := 28) rfl)) (hw _ (List.mem_of_getElem? (i := 33) rfl)) (by decide) pd_5 rfl rfl rfl (nle rfl) (nle rfl) (nle rfl) (nle rfl) (fun _ q => nomatch q) (fun v h36 F' hq szh36 => ?_)
  obtain ⟨t, rfl, ht, K2, B⟩ := hq
  have zt := K2.1
  have K := K.trans K2 all0
  have hO := hO.keep K2 all0
  have Aa := Aa.keep K2
  have Va := Va.keep K2 nin0
  have Wa := Wa.keep K2 nin0
  have lt := nlt B.lt
  refine WP.iconst d4_21 (v := (0 : Int32)) rfl ?_
  refine WP.special (a := a) (argsL := [(.ref t), (.int (0 : Int32))]) (rest := [(.ref a)]) d4_22 (rm_ib l Z a0 hw n0 h36 hO a t _ Aa Va Wa B (by omega)) rfl (hw _ (List.mem_of_getElem? (i := 34) rfl)) (hw _ (List.mem_of_getElem? (i := 35) rfl)) (hw _ (List.mem_of_getElem? (i := 3) rfl)) (hw _ (List.mem_of_getElem? (i := 36) rfl)) (by decide) pd_6 rfl rfl rfl (nle rfl) (nle rfl) (nle rfl) (nle rfl) (allS (SafeBy.mem Aa.lt (by simp)) all0) (fun v h37 F' hq szh37 => ?_)
  obtain ⟨rfl, K3, S⟩ := hq
  have z3 := K3.1
  have K := K.trans K3 (allS (Or.inr (by omega)) all0)
  have hO := hO.keep K3 (allS (by omega) all0)
  have Aa := Aa.keep K3
  have B := B.keep K3 (ninS (nea (by omega)) nin0)
  exact WP.areturn d4_25 rfl rfl rfl (by decide) (by decide) (G := []) (fun _ q => nomatch q) ⟨a, t, rfl, by omega, by omega, K, S⟩

def tabA : List Int32 := [1207963663, 1207963663, 1207963663, 1207963663, 1207963663, 1207963663, 1207963663, 1207963663, 1207963663, 1476411407, 1342193679, 1476411407, 1610629135, 1342193679, 1207963663, 1207963663, 1207963663, 1207963663, 1207963663, 1207963663, 1207963663, 1207963663, 1207963663, 1207963663, 1207963663, 1207963663, 1207963663, 1207963663, 1342193679, 1342193679, 1342193679, 1476411407, 1610629132, 1744830488, 1744830488, 671088664, 671113242, 671088664, 1744830488, 1744830488, -402653163, -402653162, 1744830488, 536870937, 939524120, 536870932, 939524120, 939524120, 402667017, 402667017, 402667017, 402667017, 402667017, 402667017, 402667017, 402667017, 402667017, 402667017, 939524120, 1744830488, -402653159, 1744830489, -402653159, 1744830488, 1744830488, 8552417, 8552417, 8552417, 8552417, 8552417, 8552417, 8552417, 8552417, 8552417, 8552417, 8552417, 8552417, 8552417, 8552417, 8552417, 8552417, 8552417, 8552417, 8552417, 8552417, 8552417, 8552417, 8552417, 8552417, 8552417, 8552417, -402653163, 1744830488, -402653162, 1744830491, 1744850967, 1744830491, 8486882, 8486882, 8486882, 8486882, 8486882, 8486882, 8486882, 8486882, 8486882, 8486882, 8486882, 8486882, 8486882, 8486882, 8486882, 8486882, 8486882, 8486882, 8486882, 8486882, 8486882, 8486882, 8486882, 8486882, 8486882, 8486882, -402653163, 1744830489, -402653162, 1744830489, 1207963663, 1207963663, 1207963663, 1207963663, 1207963663, 1207963663, 1342181391, 1207963663, 1207963663, 1207963663, 1207963663, 1207963663, 1207963663, 1207963663, 1207963663, 1207963663, 1207963663, 1207963663, 1207963663, 1207963663, 1207963663, 1207963663, 1207963663, 1207963663, 1207963663, 1207963663, 1207963663, 1207963663, 1207963663, 1207963663, 1207963663, 1207963663, 1207963663, 939524108, 1744830488, 671113242, 671113242, 671113242, 671113242, 1744830492, 1744830488, 1744830491, 1744830492, 28677, -402653155, 1744830489, 1207963664, 1744830492, 1744830491, 671088668, 671088665, 402654731, 402654731, 1744830491, 134049794, 1744830488, 1744830488, 1744830491, 402654475, 28677, -402653154, 1744832523, 1744832523, 1744832523, 1744830488, 8548353, 8548353, 8548353, 8548353, 8548353, 8548353, 8548353, 8548353, 8548353, 8548353, 8548353, 8548353, 8548353, 8548353, 8548353, 8548353, 8548353, 8548353, 8548353, 8548353, 8548353, 8548353, 8548353, 1744830489, 8548353, 8548353, 8548353, 8548353, 8548353, 8548353, 8548353, 134049794, 8482818, 8482818, 8482818, 8482818, 8482818, 8482818, 8482818, 8482818, 8482818, 8482818, 8482818, 8482818, 8482818, 8482818, 8482818, 8482818, 8482818, 8482818, 8482818, 8482818, 8482818, 8482818, 8482818, 1744830489, 8482818, 8482818, 8482818, 8482818, 8482818, 8482818, 8482818, 102592514]
def wsI (c : Int32) : Prop := (9 ≤ c.toInt ∧ c.toInt ≤ 13) ∨ (28 ≤ c.toInt ∧ c.toInt ≤ 32)
instance (c : Int32) : Decidable (wsI c) := by unfold wsI; infer_instance
set_option maxRecDepth 65536 in
theorem own_tab : ∀ k : Fin 256, (tabA.getD k.val 0 &&& 28672 = 16384) ↔ wsI (Int32.ofNat k.val) := by decide +kernel
set_option maxRecDepth 65536 in
theorem own_sets : jdkStatics_1.drop 17 = (List.range 256).map fun i => Jvm.Cond.eq (.elem (.static "java/lang/CharacterDataLatin1" "A" "[I") (.int (Int32.ofNat i))) (.int (tabA.getD i 0)) := by rfl
set_option maxRecDepth 65536 in
theorem own_tlen : tabA.length = 256 := by decide +kernel
theorem own_b8 {c : Int32} (q : B8 c) : ∃ k : Fin 256, c = Int32.ofNat k.val := by
  refine ⟨⟨c.toInt.toNat, by have := q.1; have := q.2; omega⟩, ?_⟩
  apply Int32.toInt_inj.mp
  have := q.1
  have := q.2
  rw [Int32.toInt_ofNat_of_lt (by show c.toInt.toNat < _; omega)]
  show c.toInt = ((c.toInt.toNat : Nat) : Int)
  omega
theorem own_chr8 (b : Int32) : B8 (chr8 b) := (B8.and b).i2c
set_option maxRecDepth 65536 in
set_option maxHeartbeats 4000000 in
theorem rm_gp (l : Launch) (Z : State) (a0 : Array Value) (hw : ∀ d ∈ tables_1, d.before a0 Z = true) (n0 : Nat) (h0 : Heap) (hO : Old Z n0 h0) (ta ti : Addr) (hta : Sta Z Z.heap "java/lang/CharacterDataLatin1" "A" "[I" (.ref ta)) (hA : IA Z Z.heap ta .int tabA) (hti : Sta Z Z.heap "java/lang/CharacterDataLatin1" "instance" "Ljava/lang/CharacterDataLatin1;" (.ref ti)) (hiE : Exa Z Z.heap ti "java/lang/CharacterDataLatin1") (a : Addr) (c p : Int32) (i : Nat) (hB : B8 c) (hj : Ix c i) (hx : tabA[i]? = some p) :
    Met l Z consts_1 n0 [] (⟨"java/lang/CharacterDataLatin1", "getProperties", "(I)I"⟩ : MethodName) jdk_116_method_1_code 4 (some .int) ({ frames := 0, cells := 0, slots := 0, locals := 0 } : Room) #[.ref a, .int c] [] h0 (QPure (some (.int p)) h0) := by
  have hEL := own_EW hw
  have hn0 : n0 ≤ h0.size := hO.1 ▸ hO.2.1
  refine Met.of (by decide +kernel) hEL hO (Ls := #[.val (.ref a), .val (.int c), .unset, .unset]) (fun m => by first | (simp [entryFrame, mkF, argsToLocals, Value.category]; done) | rfl) ?_
  refine WP.iload_n d20_0 rfl ?_
  refine WP.i2c d20_1 ?_
  refine WP.istore_n d20_2 hB.i2c_eq (Ls' := #[.val (.ref a), .val (.int c), .val (.int c), .unset]) rfl ?_
  refine WP.getstatic d20_3 (hw _ (List.mem_of_getElem? (i := 93) rfl)) Via.refl hta ?_
  refine WP.iload_n d20_6 rfl ?_
  refine WP.iaload d20_7 (hA.ext hO.2) hj hx ?_
  refine WP.istore_n d20_8 rfl (Ls' := #[.val (.ref a), .val (.int c), .val (.int c), .val (.int p)]) rfl ?_
  refine WP.iload_n d20_9 rfl ?_
  exact WP.ireturn d20_10 rfl (t := .int) (by simp) rfl (by decide) (by decide) (G := []) (fun _ q => nomatch q) ⟨rfl, rfl⟩
set_option maxRecDepth 65536 in
set_option maxHeartbeats 4000000 in
theorem rm_iw (l : Launch) (Z : State) (a0 : Array Value) (hw : ∀ d ∈ tables_1, d.before a0 Z = true) (n0 : Nat) (h0 : Heap) (hO : Old Z n0 h0) (ta ti : Addr) (hta : Sta Z Z.heap "java/lang/CharacterDataLatin1" "A" "[I" (.ref ta)) (hA : IA Z Z.heap ta .int tabA) (hti : Sta Z Z.heap "java/lang/CharacterDataLatin1" "instance" "Ljava/lang/CharacterDataLatin1;" (.ref ti)) (hiE : Exa Z Z.heap ti "java/lang/CharacterDataLatin1") (c : Int32) (hB : B8 c) :
    Met l Z consts_1 n0 [] (⟨"java/lang/CharacterDataLatin1", "isWhitespace", "(I)Z"⟩ : MethodName) jdk_116_method_26_code 3 (some .boolean) ({ frames := 1, cells := 0, slots := 0, locals := 16 } : Room) #[.ref ti, .int c] [] h0 (QPure (some (.int (if wsI c then 1 else 0))) h0) := by
  have hEL := own_EW hw
  have hn0 : n0 ≤ h0.size := hO.1 ▸ hO.2.1
  refine Met.of (by decide +kernel) hEL hO (Ls := #[.val (.ref ti), .val (.int c), .unset]) (fun m => by first | (simp [entryFrame, mkF, argsToLocals, Value.category]; done) | rfl) ?_
  obtain ⟨k, rfl⟩ := own_b8 hB
  have hj : Ix (Int32.ofNat k.val) k.val := Ix.ofNat (by have := k.isLt; omega)
  have hx : tabA[k.val]? = some (tabA.getD k.val 0) := by
    have hk : k.val < tabA.length := by rw [own_tlen]; exact k.isLt
    rw [List.getD_eq_getElem?_getD, List.getElem?_eq_getElem hk]; rfl
  refine WP.aload_n d19_0 rfl rfl ?_
  refine WP.iload_n d19_1 rfl ?_
  refine WP.virtual (a := ti) (argsL := [(.int (Int32.ofNat k.val))]) (rest := []) d19_2 (rm_gp l Z a0 hw n0 h0 hO ta ti hta hA hti hiE ti (Int32.ofNat k.val) _ k.val hB hj hx) (hiE.ext hO.2) (hw _ (List.mem_of_getElem? (i := 88) rfl)) (hw _ (List.mem_of_getElem? (i := 89) rfl)) (hw _ (List.mem_of_getElem? (i := 90) rfl)) (hw _ (List.mem_of_getElem? (i := 91) rfl)) (hw _ (List.mem_of_getElem? (i := 82) rfl)) (hw _ (List.mem_of_getElem? (i := 92) rfl)) (hw _ (List.mem_of_getElem? (i := 91) rfl)) (by decide) pd_17 rfl rfl rfl (nle rfl) (nle rfl) (nle rfl) (nle rfl) (fun _ q => nomatch q) (fun v h38 F' hq szh38 => ?_)
  obtain ⟨rfl, rfl⟩ := hq
  obtain ⟨x39, ex39⟩ : ∃ z : Int32, (tabA.getD k.val 0) = z := ⟨_, rfl⟩
  refine WP.istore_n d19_5 ex39 (Ls' := #[.val (.ref ti), .val (.int (Int32.ofNat k.val)), .val (.int x39)]) rfl ?_
  refine WP.iload_n d19_6 rfl ?_
  refine WP.sipush d19_7 (v := (28672 : Int32)) rfl ?_
  refine WP.iand d19_10 ?_
  refine WP.sipush d19_11 (v := (16384 : Int32)) rfl ?_
  refine WP.icmp_ne d19_14 (fun hc14 => ?_) (fun hc14 => ?_)
  · refine WP.iconst d19_21 (v := (0 : Int32)) rfl ?_
    have e : ¬ wsI (Int32.ofNat k.val) := fun q => hc14 (by rw [← ex39]; exact (own_tab k).mpr q)
    exact WP.ireturn d19_22 rfl (t := .boolean) (by simp) rfl (by decide) (by decide) (G := []) (fun _ q => nomatch q) ⟨by rw [if_neg e], rfl⟩
  · refine WP.iconst d19_17 (v := (1 : Int32)) rfl ?_
    refine WP.goto d19_18 ?_
    have e : wsI (Int32.ofNat k.val) := (own_tab k).mp (by rw [ex39]; exact hc14)
    exact WP.ireturn d19_22 rfl (t := .boolean) (by simp) rfl (by decide) (by decide) (G := []) (fun _ q => nomatch q) ⟨by rw [if_pos e], rfl⟩
set_option maxRecDepth 65536 in
set_option maxHeartbeats 4000000 in
theorem rm_gc (l : Launch) (Z : State) (a0 : Array Value) (hw : ∀ d ∈ tables_1, d.before a0 Z = true) (n0 : Nat) (h0 : Heap) (hO : Old Z n0 h0) (t : Addr) (j : Int32) (i : Nat) (bs : List Int32) (b : Int32) (B : IA Z h0 t .byte bs) (hj : Ix j i) (hb : bs[i]? = some b) :
    Met l Z consts_1 n0 [] (⟨"java/lang/StringLatin1", "getChar", "([BI)C"⟩ : MethodName) jdk_43_method_44_code 2 (some .char) ({ frames := 0, cells := 0, slots := 0, locals := 0 } : Room) #[.ref t, .int j] [] h0 (QPure (some (.int (chr8 b))) h0) := by
  have hEL := own_EW hw
  have hn0 : n0 ≤ h0.size := hO.1 ▸ hO.2.1
  refine Met.of (by decide +kernel) hEL hO (Ls := #[.val (.ref t), .val (.int j)]) (fun m => by first | (simp [entryFrame, mkF, argsToLocals, Value.category]; done) | rfl) ?_
  refine WP.aload_n d18_0 rfl rfl ?_
  refine WP.iload_n d18_1 rfl ?_
  refine WP.baload d18_2 B hj hb ?_
  refine WP.sipush d18_3 (v := (255 : Int32)) rfl ?_
  refine WP.iand d18_6 ?_
  refine WP.i2c d18_7 ?_
  exact WP.ireturn d18_8 rfl (t := .char) (by simp) (XT.narrow_c _) (by decide) (by decide) (G := []) (fun _ q => nomatch q) ⟨rfl, rfl⟩
abbrev QNw (bs : List Int32) (h0 : Heap) (v : Option Value) (h : Heap) (F : List Addr) : Prop := ∃ j i, v = some (.int j) ∧ Ix j i ∧ i ≤ bs.length ∧ (i = bs.length ↔ ∀ b ∈ bs, wsI (chr8 b)) ∧ h = h0
set_option maxRecDepth 65536 in
set_option maxHeartbeats 4000000 in
theorem rm_ln_loop (l : Launch) (Z : State) (a0 : Array Value) (hw : ∀ d ∈ tables_1, d.before a0 Z = true) (n0 : Nat) (ta ti : Addr) (hta : Sta Z Z.heap "java/lang/CharacterDataLatin1" "A" "[I" (.ref ta)) (hA : IA Z Z.heap ta .int tabA) (hti : Sta Z Z.heap "java/lang/CharacterDataLatin1" "instance" "Ljava/lang/CharacterDataLatin1;" (.ref ti)) (hiE : Exa Z Z.heap ti "java/lang/CharacterDataLatin1") (t : Addr) (bs : List Int32) (xn : Int32) (hxn : xn.toInt = bs.length) (k : Nat) :
    ∀ (i : Nat) (h0 : Heap) (j : Int32) (s3 : Slot), One s3 → Old Z n0 h0 → IA Z h0 t .byte bs → i + k = bs.length → Ix j i → (∀ m, m < i → ∀ b, bs[m]? = some b → wsI (chr8 b)) →
      WP l Z consts_1 n0 ({ frames := 2, cells := 0, slots := 0, locals := 32 } : Room) (⟨"java/lang/StringLatin1", "indexOfNonWhitespace", "([B)I"⟩ : MethodName) jdk_43_method_37_code 4 (some .int) (QNw bs h0) [] h0 0 0 5 #[.val (.ref t), .val (.int xn), .val (.int j), s3] [] := by
  induction k with
  | zero =>
    intro i h0 j s3 o3 hO B hi qj hp
    refine WP.iload_n d17_5 rfl ?_
    refine WP.iload_n d17_6 rfl ?_
    refine WP.icmp_ge d17_7 (fun hc => ?_) (fun hc => absurd hc (by rw [Int32.lt_iff_toInt_lt, qj, hxn]; omega))
    refine WP.iload_n d17_47 rfl ?_
    exact WP.ireturn d17_48 rfl (t := .int) (by simp) rfl (by decide) (by decide) (G := []) (fun _ q => nomatch q) ⟨j, i, rfl, qj, by omega, ⟨fun _ b hb => by
      obtain ⟨m, hm⟩ := List.getElem?_of_mem hb
      exact hp m (by have := (List.getElem?_eq_some_iff.mp hm).1; omega) b hm, fun _ => by omega⟩, rfl⟩
  | succ k ih =>
    intro i h0 j s3 o3 hO B hi qj hp
    have hlen := B.len
    obtain ⟨b, hb⟩ : ∃ c, bs[i]? = some c := ⟨_, List.getElem?_eq_getElem (by omega)⟩
    refine WP.iload_n d17_5 rfl ?_
    refine WP.iload_n d17_6 rfl ?_
    refine WP.icmp_ge d17_7 (fun hc7 => ?_) (fun hc7 => ?_)
    · exact absurd hc7 (by rw [Int32.lt_iff_toInt_lt, qj, hxn]; omega)
    · refine WP.aload_n d17_10 rfl rfl ?_
      refine WP.iload_n d17_11 rfl ?_
      refine WP.static (argsL := [(.ref t), (.int j)]) (rest := []) d17_12 (rm_gc l Z a0 hw n0 h0 hO t j i bs b B qj hb) (hw _ (List.mem_of_getElem? (i := 78) rfl)) (hw _ (List.mem_of_getElem? (i := 79) rfl)) (hw _ (List.mem_of_getElem? (i := 28) rfl)) (hw _ (List.mem_of_getElem? (i := 80) rfl)) (by decide) pd_15 rfl rfl rfl (nle rfl) (nle rfl) (nle rfl) (nle rfl) (fun _ q => nomatch q) (fun v h40 F' hq szh40 => ?_)
      obtain ⟨rfl, hh⟩ := hq
      subst hh
      obtain ⟨x41, ex41⟩ : ∃ z : Int32, chr8 b = z := ⟨_, rfl⟩
      refine WP.istore_n d17_15 ex41 (Ls' := #[.val (.ref t), .val (.int xn), .val (.int j), .val (.int x41)]) (XS.store1 (o := s3) rfl o3 rfl) ?_
      refine WP.iload_n d17_16 rfl ?_
      refine WP.bipush d17_17 (v := (32 : Int32)) rfl ?_
      refine WP.icmp_eq d17_19 (fun hc19 => ?_) (fun hc19 => ?_)
      · have hws : wsI (chr8 b) := by
          rw [ex41]
          subst hc19; decide
        obtain ⟨x42, ex42⟩ : ∃ z, j + Int32.ofInt (1) = z := ⟨_, rfl⟩
        refine WP.iinc d17_41 rfl ex42 (Ls' := #[.val (.ref t), .val (.int xn), .val (.int x42), .val (.int x41)]) rfl ?_
        refine WP.goto d17_44 ?_
        refine WP.less (F' := []) (fun _ q => nomatch q) ?_
        exact ih (i + 1) h40 x42 (.val (.int x41)) (Or.inr ⟨_, rfl, rfl⟩) hO B (by omega) (by rw [Ix, ← ex42, Int32.toInt_add, qj]; show ((i : Int) + 1).bmod _ = _; rw [Int.bmod_eq_of_le (by omega) (by omega)]; omega) (fun k hk b0 hb0 => by
          rcases Nat.lt_succ_iff_lt_or_eq.mp hk with hk | rfl
          · exact hp k hk b0 hb0
          · cases hb.symm.trans hb0; exact hws)
      · refine WP.iload_n d17_22 rfl ?_
        refine WP.bipush d17_23 (v := (9 : Int32)) rfl ?_
        refine WP.icmp_eq d17_25 (fun hc25 => ?_) (fun hc25 => ?_)
        · have hws : wsI (chr8 b) := by
            rw [ex41]
            subst hc25; decide
          obtain ⟨x43, ex43⟩ : ∃ z, j + Int32.ofInt (1) = z := ⟨_, rfl⟩
          refine WP.iinc d17_41 rfl ex43 (Ls' := #[.val (.ref t), .val (.int xn), .val (.int x43), .val (.int x41)]) rfl ?_
          refine WP.goto d17_44 ?_
          refine WP.less (F' := []) (fun _ q => nomatch q) ?_
          exact ih (i + 1) h40 x43 (.val (.int x41)) (Or.inr ⟨_, rfl, rfl⟩) hO B (by omega) (by rw [Ix, ← ex43, Int32.toInt_add, qj]; show ((i : Int) + 1).bmod _ = _; rw [Int.bmod_eq_of_le (by omega) (by omega)]; omega) (fun k hk b0 hb0 => by
            rcases Nat.lt_succ_iff_lt_or_eq.mp hk with hk | rfl
            · exact hp k hk b0 hb0
            · cases hb.symm.trans hb0; exact hws)
        · refine WP.getstatic d17_28 (hw _ (List.mem_of_getElem? (i := 81) rfl)) Via.refl hti ?_
          refine WP.iload_n d17_31 rfl ?_
          have hB : B8 x41 := ex41 ▸ own_chr8 b
          refine WP.virtual (a := ti) (argsL := [(.int x41)]) (rest := []) d17_32 (rm_iw l Z a0 hw n0 h40 hO ta ti hta hA hti hiE x41 hB) (hiE.ext hO.2) (hw _ (List.mem_of_getElem? (i := 83) rfl)) (hw _ (List.mem_of_getElem? (i := 84) rfl)) (hw _ (List.mem_of_getElem? (i := 85) rfl)) (hw _ (List.mem_of_getElem? (i := 86) rfl)) (hw _ (List.mem_of_getElem? (i := 82) rfl)) (hw _ (List.mem_of_getElem? (i := 87) rfl)) (hw _ (List.mem_of_getElem? (i := 86) rfl)) (by decide) pd_16 rfl rfl rfl (nle rfl) (nle rfl) (nle rfl) (nle rfl) (fun _ q => nomatch q) (fun v h44 F' hq szh44 => ?_)
          obtain ⟨rfl, hh⟩ := hq
          subst hh
          refine WP.if_ne d17_35 (fun hc35 => ?_) (fun hc35 => ?_)
          · have hw35 : wsI x41 := Classical.byContradiction fun q => hc35 (by rw [if_neg q])
            have hws : wsI (chr8 b) := by
              rw [ex41]
              exact hw35
            obtain ⟨x45, ex45⟩ : ∃ z, j + Int32.ofInt (1) = z := ⟨_, rfl⟩
            refine WP.iinc d17_41 rfl ex45 (Ls' := #[.val (.ref t), .val (.int xn), .val (.int x45), .val (.int x41)]) rfl ?_
            refine WP.goto d17_44 ?_
            refine WP.less (F' := []) (fun _ q => nomatch q) ?_
            exact ih (i + 1) h44 x45 (.val (.int x41)) (Or.inr ⟨_, rfl, rfl⟩) hO B (by omega) (by rw [Ix, ← ex45, Int32.toInt_add, qj]; show ((i : Int) + 1).bmod _ = _; rw [Int.bmod_eq_of_le (by omega) (by omega)]; omega) (fun k hk b0 hb0 => by
              rcases Nat.lt_succ_iff_lt_or_eq.mp hk with hk | rfl
              · exact hp k hk b0 hb0
              · cases hb.symm.trans hb0; exact hws)
          · have hw35 : ¬ wsI x41 := fun q => by rw [if_pos q] at hc35; exact absurd hc35 (by decide)
            refine WP.goto d17_38 ?_
            refine WP.iload_n d17_47 rfl ?_
            exact WP.ireturn d17_48 rfl (t := .int) (by simp) rfl (by decide) (by decide) (G := []) (fun _ q => nomatch q) ⟨j, i, rfl, qj, by omega, ⟨fun q => by omega, fun q => absurd (q b (List.mem_of_getElem? hb)) (by rw [ex41]; exact hw35)⟩, rfl⟩
set_option maxRecDepth 65536 in
set_option maxHeartbeats 4000000 in
theorem rm_ln (l : Launch) (Z : State) (a0 : Array Value) (hw : ∀ d ∈ tables_1, d.before a0 Z = true) (n0 : Nat) (h0 : Heap) (hO : Old Z n0 h0) (ta ti : Addr) (hta : Sta Z Z.heap "java/lang/CharacterDataLatin1" "A" "[I" (.ref ta)) (hA : IA Z Z.heap ta .int tabA) (hti : Sta Z Z.heap "java/lang/CharacterDataLatin1" "instance" "Ljava/lang/CharacterDataLatin1;" (.ref ti)) (hiE : Exa Z Z.heap ti "java/lang/CharacterDataLatin1") (t : Addr) (bs : List Int32) (B : IA Z h0 t .byte bs) :
    Met l Z consts_1 n0 [] (⟨"java/lang/StringLatin1", "indexOfNonWhitespace", "([B)I"⟩ : MethodName) jdk_43_method_37_code 4 (some .int) ({ frames := 2, cells := 0, slots := 0, locals := 32 } : Room) #[.ref t] [] h0 (QNw bs h0) := by
  have hEL := own_EW hw
  have hn0 : n0 ≤ h0.size := hO.1 ▸ hO.2.1
  refine Met.of (by decide +kernel) hEL hO (Ls := #[.val (.ref t), .unset, .unset, .unset]) (fun m => by first | (simp [entryFrame, mkF, argsToLocals, Value.category]; done) | rfl) ?_
  refine WP.aload_n d17_0 rfl rfl ?_
  refine WP.arraylength d17_1 B ?_
  obtain ⟨x46, ex46⟩ : ∃ z : Int32, (Int32.ofNat bs.length) = z := ⟨_, rfl⟩
  refine WP.istore_n d17_2 ex46 (Ls' := #[.val (.ref t), .val (.int x46), .unset, .unset]) rfl ?_
  refine WP.iconst d17_3 (v := (0 : Int32)) rfl ?_
  refine WP.istore_n d17_4 rfl (Ls' := #[.val (.ref t), .val (.int x46), .val (.int (0 : Int32)), .unset]) rfl ?_
  exact rm_ln_loop l Z a0 hw n0 ta ti hta hA hti hiE t bs x46 (by rw [← ex46]; exact Int32.toInt_ofNat_of_lt B.len) bs.length 0 h0 0 .unset One.u hO B (by omega) rfl (fun m hm => absurd hm (Nat.not_lt_zero _))
set_option maxRecDepth 65536 in
set_option maxHeartbeats 4000000 in
theorem rm_sn (l : Launch) (Z : State) (a0 : Array Value) (hw : ∀ d ∈ tables_1, d.before a0 Z = true) (n0 : Nat) (h0 : Heap) (hO : Old Z n0 h0) (zc : Int32) (hcs : Sta Z Z.heap "java/lang/String" "COMPACT_STRINGS" "Z" (.int zc)) (hzc : zc ≠ 0) (ta ti : Addr) (hta : Sta Z Z.heap "java/lang/CharacterDataLatin1" "A" "[I" (.ref ta)) (hA : IA Z Z.heap ta .int tabA) (hti : Sta Z Z.heap "java/lang/CharacterDataLatin1" "instance" "Ljava/lang/CharacterDataLatin1;" (.ref ti)) (hiE : Exa Z Z.heap ti "java/lang/CharacterDataLatin1") (a t : Addr) (bs : List Int32) (D : Str Z h0 a t bs) :
    Met l Z consts_1 n0 [] (⟨"java/lang/String", "indexOfNonWhitespace", "()I"⟩ : MethodName) jdk_42_method_120_code 1 (some .int) ({ frames := 3, cells := 0, slots := 0, locals := 47 } : Room) #[.ref a] [] h0 (QNw bs h0) := by
  have hEL := own_EW hw
  have hn0 : n0 ≤ h0.size := hO.1 ▸ hO.2.1
  refine Met.of (by decide +kernel) hEL hO (Ls := #[.val (.ref a)]) (fun m => by first | (simp [entryFrame, mkF, argsToLocals, Value.category]; done) | rfl) ?_
  refine WP.aload_n d15_0 rfl rfl ?_
  refine WP.virtual (a := a) (argsL := []) (rest := []) d15_1 (rm_il l Z a0 hw n0 h0 hO zc hcs hzc a D.2.1) D.1 (hw _ (List.mem_of_getElem? (i := 70) rfl)) (hw _ (List.mem_of_getElem? (i := 71) rfl)) (hw _ (List.mem_of_getElem? (i := 72) rfl)) (hw _ (List.mem_of_getElem? (i := 73) rfl)) (hw _ (List.mem_of_getElem? (i := 3) rfl)) (hw _ (List.mem_of_getElem? (i := 74) rfl)) (hw _ (List.mem_of_getElem? (i := 73) rfl)) (by decide) pd_12 rfl rfl rfl (nle rfl) (nle rfl) (nle rfl) (nle rfl) (fun _ q => nomatch q) (fun v h47 F' hq szh47 => ?_)
  obtain ⟨rfl, hh⟩ := hq
  subst hh
  refine WP.if_eq d15_4 (fun hc4 => False.elim (absurd hc4 (by decide))) (fun hc4 => ?_)
  refine WP.aload_n d15_7 rfl rfl ?_
  refine WP.getfield (host := "") d15_8 (Or.inl (hw _ (List.mem_of_getElem? (i := 20) rfl))) Via.refl D.2.2.1 ?_
  refine WP.static (argsL := [(.ref t)]) (rest := []) d15_11 (rm_ln l Z a0 hw n0 h47 hO ta ti hta hA hti hiE t bs D.2.2.2) (hw _ (List.mem_of_getElem? (i := 75) rfl)) (hw _ (List.mem_of_getElem? (i := 76) rfl)) (hw _ (List.mem_of_getElem? (i := 28) rfl)) (hw _ (List.mem_of_getElem? (i := 77) rfl)) (by decide) pd_14 rfl rfl rfl (nle rfl) (nle rfl) (nle rfl) (nle rfl) (fun _ q => nomatch q) (fun v h48 F' hq szh48 => ?_)
  obtain ⟨j, i, rfl, qj, q1, q2, hh⟩ := hq
  subst hh
  refine WP.goto d15_14 ?_
  exact WP.ireturn d15_24 rfl (t := .int) (by simp) rfl (by decide) (by decide) (G := []) (fun _ q => nomatch q) ⟨j, i, rfl, qj, q1, q2, rfl⟩
set_option maxRecDepth 65536 in
set_option maxHeartbeats 4000000 in
theorem rm_ib2 (l : Launch) (Z : State) (a0 : Array Value) (hw : ∀ d ∈ tables_1, d.before a0 Z = true) (n0 : Nat) (h0 : Heap) (hO : Old Z n0 h0) (zc : Int32) (hcs : Sta Z Z.heap "java/lang/String" "COMPACT_STRINGS" "Z" (.int zc)) (hzc : zc ≠ 0) (ta ti : Addr) (hta : Sta Z Z.heap "java/lang/CharacterDataLatin1" "A" "[I" (.ref ta)) (hA : IA Z Z.heap ta .int tabA) (hti : Sta Z Z.heap "java/lang/CharacterDataLatin1" "instance" "Ljava/lang/CharacterDataLatin1;" (.ref ti)) (hiE : Exa Z Z.heap ti "java/lang/CharacterDataLatin1") (a t : Addr) (bs : List Int32) (D : Str Z h0 a t bs) (hnb : ¬ ∀ b ∈ bs, wsI (chr8 b)) :
    Met l Z consts_1 n0 [] (⟨"java/lang/String", "isBlank", "()Z"⟩ : MethodName) jdk_42_method_117_code 1 (some .boolean) ({ frames := 4, cells := 0, slots := 0, locals := 60 } : Room) #[.ref a] [] h0 (QPure (some (.int 0)) h0) := by
  have hEL := own_EW hw
  have hn0 : n0 ≤ h0.size := hO.1 ▸ hO.2.1
  refine Met.of (by decide +kernel) hEL hO (Ls := #[.val (.ref a)]) (fun m => by first | (simp [entryFrame, mkF, argsToLocals, Value.category]; done) | rfl) ?_
  have hlen := D.2.2.2.len
  refine WP.aload_n d14_0 rfl rfl ?_
  refine WP.privateV (a := a) (argsL := []) (rest := []) d14_1 (rm_sn l Z a0 hw n0 h0 hO zc hcs hzc ta ti hta hA hti hiE a t bs D) D.1 (hw _ (List.mem_of_getElem? (i := 65) rfl)) (hw _ (List.mem_of_getElem? (i := 66) rfl)) (hw _ (List.mem_of_getElem? (i := 67) rfl)) (hw _ (List.mem_of_getElem? (i := 68) rfl)) (hw _ (List.mem_of_getElem? (i := 3) rfl)) (hw _ (List.mem_of_getElem? (i := 69) rfl)) (by decide) pd_13 rfl rfl rfl (nle rfl) (nle rfl) (nle rfl) (nle rfl) (fun _ q => nomatch q) (fun v h49 F' hq szh49 => ?_)
  obtain ⟨j, i, rfl, qj, q1, q2, hh⟩ := hq
  subst hh
  refine WP.aload_n d14_4 rfl rfl ?_
  refine WP.virtual (a := a) (argsL := []) (rest := [(.int j)]) d14_5 (rm_len l Z a0 hw n0 h49 hO zc hcs hzc a t bs D) D.1 (hw _ (List.mem_of_getElem? (i := 94) rfl)) (hw _ (List.mem_of_getElem? (i := 95) rfl)) (hw _ (List.mem_of_getElem? (i := 96) rfl)) (hw _ (List.mem_of_getElem? (i := 97) rfl)) (hw _ (List.mem_of_getElem? (i := 3) rfl)) (hw _ (List.mem_of_getElem? (i := 98) rfl)) (hw _ (List.mem_of_getElem? (i := 97) rfl)) (by decide) pd_13 rfl rfl rfl (nle rfl) (nle rfl) (nle rfl) (nle rfl) (fun _ q => nomatch q) (fun v h50 F' hq szh50 => ?_)
  obtain ⟨rfl, hh⟩ := hq
  subst hh
  refine WP.icmp_ne d14_8 (fun hc8 => ?_) (fun hc8 => False.elim (hnb (q2.mp (by have q := congrArg Int32.toInt hc8; rw [qj, Int32.toInt_ofNat_of_lt hlen] at q; omega))))
  refine WP.iconst d14_15 (v := (0 : Int32)) rfl ?_
  exact WP.ireturn d14_16 rfl (t := .boolean) (by simp) rfl (by decide) (by decide) (G := []) (fun _ q => nomatch q) ⟨rfl, rfl⟩
set_option maxRecDepth 65536 in
set_option maxHeartbeats 4000000 in
theorem rm_rnn (l : Launch) (Z : State) (a0 : Array Value) (hw : ∀ d ∈ tables_1, d.before a0 Z = true) (n0 : Nat) (h0 : Heap) (hO : Old Z n0 h0) (a b : Addr) :
    Met l Z consts_1 n0 [] (⟨"java/util/Objects", "requireNonNull", "(Ljava/lang/Object;Ljava/lang/String;)Ljava/lang/Object;"⟩ : MethodName) jdk_31_method_11_code 2 (some (.object "java/lang/Object")) ({ frames := 0, cells := 0, slots := 0, locals := 0 } : Room) #[.ref a, .ref b] [] h0 (QPure (some (.ref a)) h0) := by
  have hEL := own_EW hw
  have hn0 : n0 ≤ h0.size := hO.1 ▸ hO.2.1
  refine Met.of (by decide +kernel) hEL hO (Ls := #[.val (.ref a), .val (.ref b)]) (fun m => by first | (simp [entryFrame, mkF, argsToLocals, Value.category]; done) | rfl) ?_
  refine WP.aload_n d13_0 rfl rfl ?_
  refine WP.ifnonnull d13_1 rfl (fun _ _ => ?_) (fun q => nomatch q)
  refine WP.aload_n d13_13 rfl rfl ?_
  exact WP.areturn d13_14 rfl rfl rfl (by decide) (by decide) (G := []) (fun _ q => nomatch q) ⟨rfl, rfl⟩
set_option maxRecDepth 65536 in
set_option maxHeartbeats 4000000 in
theorem rm_ws (l : Launch) (Z : State) (a0 : Array Value) (hw : ∀ d ∈ tables_1, d.before a0 Z = true) (n0 : Nat) (h0 : Heap) (hO : Old Z n0 h0) (c : Int32) :
    Met l Z consts_1 n0 [] (⟨"dev/yieldpoint/NamesCheckPinLaw", "ws", "(C)Z"⟩ : MethodName) method_3_code 1 (some .boolean) ({ frames := 0, cells := 0, slots := 0, locals := 0 } : Room) #[.int c] [] h0 (QPure (some (.int (if wsI c then 1 else 0))) h0) := by
  have hEL := own_EW hw
  have hn0 : n0 ≤ h0.size := hO.1 ▸ hO.2.1
  refine Met.of (by decide +kernel) hEL hO (Ls := #[.val (.int c)]) (fun m => by first | (simp [entryFrame, mkF, argsToLocals, Value.category]; done) | rfl) ?_
  have e9 : (9 : Int32).toInt = 9 := rfl
  have e13 : (13 : Int32).toInt = 13 := rfl
  have e28 : (28 : Int32).toInt = 28 := rfl
  have e32 : (32 : Int32).toInt = 32 := rfl
  refine WP.iload_n d11_0 rfl ?_
  refine WP.bipush d11_1 (v := (9 : Int32)) rfl ?_
  refine WP.icmp_lt d11_3 (fun hc3 => ?_) (fun hc3 => ?_)
  · rw [Int32.lt_iff_toInt_lt] at hc3
    refine WP.iload_n d11_12 rfl ?_
    refine WP.bipush d11_13 (v := (28 : Int32)) rfl ?_
    refine WP.icmp_lt d11_15 (fun hc15 => ?_) (fun hc15 => ?_)
    · rw [Int32.lt_iff_toInt_lt] at hc15
      refine WP.iconst d11_28 (v := (0 : Int32)) rfl ?_
      have e : ¬ wsI c := by unfold wsI; omega
      exact WP.ireturn d11_29 rfl (t := .boolean) (by simp) rfl (by decide) (by decide) (G := []) (fun _ q => nomatch q) ⟨by rw [if_neg e], rfl⟩
    · rw [Int32.lt_iff_toInt_lt] at hc15
      refine WP.iload_n d11_18 rfl ?_
      refine WP.bipush d11_19 (v := (32 : Int32)) rfl ?_
      refine WP.icmp_gt d11_21 (fun hc21 => ?_) (fun hc21 => ?_)
      · rw [Int32.lt_iff_toInt_lt] at hc21
        refine WP.iconst d11_28 (v := (0 : Int32)) rfl ?_
        have e : ¬ wsI c := by unfold wsI; omega
        exact WP.ireturn d11_29 rfl (t := .boolean) (by simp) rfl (by decide) (by decide) (G := []) (fun _ q => nomatch q) ⟨by rw [if_neg e], rfl⟩
      · rw [Int32.lt_iff_toInt_lt] at hc21
        refine WP.iconst d11_24 (v := (1 : Int32)) rfl ?_
        refine WP.goto d11_25 ?_
        have e : wsI c := by unfold wsI; omega
        exact WP.ireturn d11_29 rfl (t := .boolean) (by simp) rfl (by decide) (by decide) (G := []) (fun _ q => nomatch q) ⟨by rw [if_pos e], rfl⟩
  · rw [Int32.lt_iff_toInt_lt] at hc3
    refine WP.iload_n d11_6 rfl ?_
    refine WP.bipush d11_7 (v := (13 : Int32)) rfl ?_
    refine WP.icmp_le d11_9 (fun hc9 => ?_) (fun hc9 => ?_)
    · rw [Int32.lt_iff_toInt_lt] at hc9
      refine WP.iconst d11_24 (v := (1 : Int32)) rfl ?_
      refine WP.goto d11_25 ?_
      have e : wsI c := by unfold wsI; omega
      exact WP.ireturn d11_29 rfl (t := .boolean) (by simp) rfl (by decide) (by decide) (G := []) (fun _ q => nomatch q) ⟨by rw [if_pos e], rfl⟩
    · rw [Int32.lt_iff_toInt_lt] at hc9
      refine WP.iload_n d11_12 rfl ?_
      refine WP.bipush d11_13 (v := (28 : Int32)) rfl ?_
      refine WP.icmp_lt d11_15 (fun hc15 => ?_) (fun hc15 => ?_)
      · rw [Int32.lt_iff_toInt_lt] at hc15
        refine WP.iconst d11_28 (v := (0 : Int32)) rfl ?_
        have e : ¬ wsI c := by unfold wsI; omega
        exact WP.ireturn d11_29 rfl (t := .boolean) (by simp) rfl (by decide) (by decide) (G := []) (fun _ q => nomatch q) ⟨by rw [if_neg e], rfl⟩
      · rw [Int32.lt_iff_toInt_lt] at hc15
        refine WP.iload_n d11_18 rfl ?_
        refine WP.bipush d11_19 (v := (32 : Int32)) rfl ?_
        refine WP.icmp_gt d11_21 (fun hc21 => ?_) (fun hc21 => ?_)
        · rw [Int32.lt_iff_toInt_lt] at hc21
          refine WP.iconst d11_28 (v := (0 : Int32)) rfl ?_
          have e : ¬ wsI c := by unfold wsI; omega
          exact WP.ireturn d11_29 rfl (t := .boolean) (by simp) rfl (by decide) (by decide) (G := []) (fun _ q => nomatch q) ⟨by rw [if_neg e], rfl⟩
        · rw [Int32.lt_iff_toInt_lt] at hc21
          refine WP.iconst d11_24 (v := (1 : Int32)) rfl ?_
          refine WP.goto d11_25 ?_
          have e : wsI c := by unfold wsI; omega
          exact WP.ireturn d11_29 rfl (t := .boolean) (by simp) rfl (by decide) (by decide) (G := []) (fun _ q => nomatch q) ⟨by rw [if_pos e], rfl⟩
abbrev QCk (a : Addr) (h0 : Heap) (v : Option Value) (h : Heap) (F : List Addr) : Prop := v = some (.ref a) ∧ Keep h0 h []
set_option maxRecDepth 65536 in
set_option maxHeartbeats 4000000 in
theorem rm_chk (l : Launch) (Z : State) (a0 : Array Value) (hw : ∀ d ∈ tables_1, d.before a0 Z = true) (n0 : Nat) (h0 : Heap) (hO : Old Z n0 h0) (zc : Int32) (hcs : Sta Z Z.heap "java/lang/String" "COMPACT_STRINGS" "Z" (.int zc)) (hzc : zc ≠ 0) (ta ti : Addr) (hta : Sta Z Z.heap "java/lang/CharacterDataLatin1" "A" "[I" (.ref ta)) (hA : IA Z Z.heap ta .int tabA) (hti : Sta Z Z.heap "java/lang/CharacterDataLatin1" "instance" "Ljava/lang/CharacterDataLatin1;" (.ref ti)) (hiE : Exa Z Z.heap ti "java/lang/CharacterDataLatin1") (a b t : Addr) (bs : List Int32) (D : Str Z h0 a t bs) (hnb : ¬ ∀ b ∈ bs, wsI (chr8 b)) :
    Met l Z consts_1 n0 [] (⟨"dev/yieldpoint/Names", "check", "(Ljava/lang/String;Ljava/lang/String;)Ljava/lang/String;"⟩ : MethodName) prog_2_method_2_code 2 (some (.object "java/lang/String")) ({ frames := 5, cells := 2, slots := 20, locals := 72 } : Room) #[.ref a, .ref b] [] h0 (QCk a h0) := by
  have hEL := own_EW hw
  have hn0 : n0 ≤ h0.size := hO.1 ▸ hO.2.1
  refine Met.of (by decide +kernel) hEL hO (Ls := #[.val (.ref a), .val (.ref b)]) (fun m => by first | (simp [entryFrame, mkF, argsToLocals, Value.category]; done) | rfl) ?_
  have K : Keep h0 h0 [] := Keep.refl _ _
  refine WP.aload_n d12_0 rfl rfl ?_
  refine WP.ldcO (n := 16) d12_1 hEL (hw _ (List.mem_of_getElem? (i := 55) rfl)) (own_wS hw) (by decide) (by decide) (by decide) (by decide) (fun h51 s52 Eh51 => ?_)
  have hO := hO.ext Eh51
  have D := D.ext Eh51
  have K := K.ext Eh51
  refine WP.static (argsL := [(.ref a), (.ref s52)]) (rest := []) d12_3 (rm_rnn l Z a0 hw n0 h51 hO a s52) (hw _ (List.mem_of_getElem? (i := 56) rfl)) (hw _ (List.mem_of_getElem? (i := 57) rfl)) (hw _ (List.mem_of_getElem? (i := 58) rfl)) (hw _ (List.mem_of_getElem? (i := 59) rfl)) (by decide) pd_11 rfl rfl rfl (nle rfl) (nle rfl) (nle rfl) (nle rfl) (fun _ q => nomatch q) (fun v h53 F' hq szh53 => ?_)
  obtain ⟨rfl, hh⟩ := hq
  subst hh
  refine WP.pop d12_6 rfl ?_
  refine WP.aload_n d12_7 rfl rfl ?_
  refine WP.virtual (a := a) (argsL := []) (rest := []) d12_8 (rm_ib2 l Z a0 hw n0 h53 hO zc hcs hzc ta ti hta hA hti hiE a t bs D hnb) D.1 (hw _ (List.mem_of_getElem? (i := 60) rfl)) (hw _ (List.mem_of_getElem? (i := 61) rfl)) (hw _ (List.mem_of_getElem? (i := 62) rfl)) (hw _ (List.mem_of_getElem? (i := 63) rfl)) (hw _ (List.mem_of_getElem? (i := 3) rfl)) (hw _ (List.mem_of_getElem? (i := 64) rfl)) (hw _ (List.mem_of_getElem? (i := 63) rfl)) (by decide) pd_12 rfl rfl rfl (nle rfl) (nle rfl) (nle rfl) (nle rfl) (fun _ q => nomatch q) (fun v h54 F' hq szh54 => ?_)
  obtain ⟨rfl, hh⟩ := hq
  subst hh
  refine WP.if_eq d12_11 (fun hc11 => ?_) (fun hc11 => False.elim (hc11 rfl))
  refine WP.aload_n d12_28 rfl rfl ?_
  exact WP.areturn d12_29 rfl rfl rfl (by decide) (by decide) (G := []) (fun _ q => nomatch q) ⟨rfl, K⟩
set_option maxRecDepth 65536 in
set_option maxHeartbeats 4000000 in
theorem rm_ses (l : Launch) (Z : State) (a0 : Array Value) (hw : ∀ d ∈ tables_1, d.before a0 Z = true) (n0 : Nat) (h0 : Heap) (hO : Old Z n0 h0) (a : Addr) :
    Met l Z consts_1 n0 [] (⟨"java/lang/String", "equals", "(Ljava/lang/Object;)Z"⟩ : MethodName) jdk_42_method_66_code 3 (some .boolean) ({ frames := 0, cells := 0, slots := 0, locals := 0 } : Room) #[.ref a, .ref a] [] h0 (QPure (some (.int 1)) h0) := by
  have hEL := own_EW hw
  have hn0 : n0 ≤ h0.size := hO.1 ▸ hO.2.1
  refine Met.of (by decide +kernel) hEL hO (Ls := #[.val (.ref a), .val (.ref a), .unset]) (fun m => by first | (simp [entryFrame, mkF, argsToLocals, Value.category]; done) | rfl) ?_
  refine WP.aload_n d23_0 rfl rfl ?_
  refine WP.aload_n d23_1 rfl rfl ?_
  refine WP.acmp_ne d23_2 rfl rfl (fun hc2 => False.elim (hc2 rfl)) (fun hc2 => ?_)
  refine WP.iconst d23_5 (v := (1 : Int32)) rfl ?_
  exact WP.ireturn d23_6 rfl (t := .boolean) (by simp) rfl (by decide) (by decide) (G := []) (fun _ q => nomatch q) ⟨rfl, rfl⟩
abbrev QLaw (v : Option Value) (h : Heap) (F : List Addr) : Prop := v = some (.int 1)
set_option maxRecDepth 65536 in
set_option maxHeartbeats 4000000 in
theorem tail_216 (l : Launch) (Z : State) (a0 : Array Value) (hw : ∀ d ∈ tables_1, d.before a0 Z = true) (n0 : Nat) (h : Heap) (hO : Old Z n0 h) (zc : Int32) (hcs : Sta Z Z.heap "java/lang/String" "COMPACT_STRINGS" "Z" (.int zc)) (hzc : zc ≠ 0) (ta ti : Addr) (hta : Sta Z Z.heap "java/lang/CharacterDataLatin1" "A" "[I" (.ref ta)) (hA : IA Z Z.heap ta .int tabA) (hti : Sta Z Z.heap "java/lang/CharacterDataLatin1" "instance" "Ljava/lang/CharacterDataLatin1;" (.ref ti)) (hiE : Exa Z Z.heap ti "java/lang/CharacterDataLatin1") (p0 p1 p2 p3 p4 x5 x6 x7 x8 : Int32) (q0 q1 q2 q3 s t : Addr) (wh : Addr) (xb : Int32) (bs : List Int32) (D : Str Z h s t bs) (hnb : ¬ ∀ b ∈ bs, wsI (chr8 b)) :
    WP l Z consts_1 n0 room_1 x code maxLocals ret QLaw [] h 11 40 216 #[.val (.int p0), .val (.int p1), .val (.int p2), .val (.int p3), .val (.int p4), .val (.int x5), .val (.int x6), .val (.int x7), .val (.int x8), .val (.ref q0), .val (.ref q1), .val (.ref q2), .val (.ref q3), .val (.ref s), .val (.ref wh), .val (.int xb), .unset] [] := by
  have hEL := own_EW hw
  refine WP.aload d0_216 rfl rfl ?_
  refine WP.aload d0_218 rfl rfl ?_
  refine WP.static (argsL := [(.ref s), (.ref wh)]) (rest := []) d0_220 (rm_chk l Z a0 hw n0 h hO zc hcs hzc ta ti hta hA hti hiE s wh t bs D hnb) (hw _ (List.mem_of_getElem? (i := 51) rfl)) (hw _ (List.mem_of_getElem? (i := 52) rfl)) (hw _ (List.mem_of_getElem? (i := 53) rfl)) (hw _ (List.mem_of_getElem? (i := 54) rfl)) (by decide) pd_10 rfl rfl rfl (nle rfl) (nle rfl) (nle rfl) (nle rfl) (fun _ q => nomatch q) (fun v h55 F' hq szh55 => ?_)
  obtain ⟨rfl, K⟩ := hq
  have hO := hO.keep K all0
  have D := D.keep K nin0 nin0
  refine WP.astore d0_223 (Ls' := #[.val (.int p0), .val (.int p1), .val (.int p2), .val (.int p3), .val (.int p4), .val (.int x5), .val (.int x6), .val (.int x7), .val (.int x8), .val (.ref q0), .val (.ref q1), .val (.ref q2), .val (.ref q3), .val (.ref s), .val (.ref wh), .val (.int xb), .val (.ref s)]) rfl rfl ?_
  refine WP.aload d0_225 rfl rfl ?_
  refine WP.ifnull d0_227 rfl (fun q => nomatch q) (fun _ _ => ?_)
  refine WP.aload d0_230 rfl rfl ?_
  refine WP.aload d0_232 rfl rfl ?_
  refine WP.virtual (a := s) (argsL := [(.ref s)]) (rest := []) d0_234 (rm_ses l Z a0 hw n0 h55 hO s) D.1 (hw _ (List.mem_of_getElem? (i := 104) rfl)) (hw _ (List.mem_of_getElem? (i := 105) rfl)) (hw _ (List.mem_of_getElem? (i := 106) rfl)) (hw _ (List.mem_of_getElem? (i := 107) rfl)) (hw _ (List.mem_of_getElem? (i := 3) rfl)) (hw _ (List.mem_of_getElem? (i := 108) rfl)) (hw _ (List.mem_of_getElem? (i := 107) rfl)) (by decide) pd_19 rfl rfl rfl (nle rfl) (nle rfl) (nle rfl) (nle rfl) (fun _ q => nomatch q) (fun v h56 F' hq szh56 => ?_)
  obtain ⟨rfl, rfl⟩ := hq
  refine WP.if_eq d0_237 (fun hc237 => False.elim (absurd hc237 (by decide))) (fun hc237 => ?_)
  refine WP.iconst d0_240 (v := (1 : Int32)) rfl ?_
  refine WP.goto d0_241 ?_
  exact WP.ireturn d0_245 rfl (t := .boolean) (by simp) rfl (by decide) (by decide) (G := []) (fun _ q => nomatch q) rfl
theorem own_nb {cs : List Int32} {c : Int32} (h : c ∈ cs) (hB : B8 c) (hc : ¬ wsI c) : ¬ ∀ b ∈ cs.map lo8, wsI (chr8 b) := fun q => hc (by
  have := q (lo8 c) (List.mem_map_of_mem h)
  rwa [chr8_lo8 hB] at this)
theorem own_mem {x z y c : Int32} {n : Nat} (i : Nat) (hi : i < n) (hc : [x, y, z][i]? = some c) : c ∈ [x, y, z].take n := by
  apply List.mem_of_getElem? (i := i)
  rw [List.getElem?_take_of_lt hi]
  exact hc
set_option maxRecDepth 65536 in
set_option maxHeartbeats 4000000 in
theorem tail_149 (l : Launch) (Z : State) (a0 : Array Value) (hw : ∀ d ∈ tables_1, d.before a0 Z = true) (n0 : Nat) (h : Heap) (hO : Old Z n0 h) (zc : Int32) (hcs : Sta Z Z.heap "java/lang/String" "COMPACT_STRINGS" "Z" (.int zc)) (hzc : zc ≠ 0) (ta ti : Addr) (hta : Sta Z Z.heap "java/lang/CharacterDataLatin1" "A" "[I" (.ref ta)) (hA : IA Z Z.heap ta .int tabA) (hti : Sta Z Z.heap "java/lang/CharacterDataLatin1" "instance" "Ljava/lang/CharacterDataLatin1;" (.ref ti)) (hiE : Exa Z Z.heap ti "java/lang/CharacterDataLatin1") (p0 p1 p2 p3 p4 x5 x6 x7 x8 : Int32) (q0 q1 q2 q3 s t : Addr) (n : Nat) (cs : List Int32) (D : Str Z h s t (cs.map lo8)) (hn : x5.toInt = n) (hcs3 : cs = [x6, x7, x8].take n) (b6 : B8 x6) (b7 : B8 x7) (b8 : B8 x8) :
    WP l Z consts_1 n0 room_1 x code maxLocals ret QLaw [] h 9 30 149 #[.val (.int p0), .val (.int p1), .val (.int p2), .val (.int p3), .val (.int p4), .val (.int x5), .val (.int x6), .val (.int x7), .val (.int x8), .val (.ref q0), .val (.ref q1), .val (.ref q2), .val (.ref q3), .val (.ref s), .unset, .unset, .unset] [] := by
  have hEL := own_EW hw
  have hn0 : n0 ≤ h.size := hO.1 ▸ hO.2.1
  have e0 : (0 : Int32).toInt = 0 := rfl
  have e2 : (2 : Int32).toInt = 2 := rfl
  have e3 : (3 : Int32).toInt = 3 := rfl
  refine WP.iload d0_149 rfl ?_
  refine WP.sipush d0_151 (v := (255 : Int32)) rfl ?_
  refine WP.iand d0_154 ?_
  refine WP.i2c d0_155 ?_
  refine WP.static (argsL := [(.int (p4 &&& (255 : Int32)).toUInt32.toUInt16.toUInt32.toInt32)]) (rest := []) d0_156 (rm_vo l Z a0 hw n0 h hO zc hcs hzc _ (B8.and p4).i2c) (hw _ (List.mem_of_getElem? (i := 22) rfl)) (hw _ (List.mem_of_getElem? (i := 23) rfl)) (hw _ (List.mem_of_getElem? (i := 3) rfl)) (hw _ (List.mem_of_getElem? (i := 24) rfl)) (by decide) pd_3 rfl rfl rfl (nle rfl) (nle rfl) (nle rfl) (nle rfl) (fun _ q => nomatch q) (fun v h57 F' hq szh57 => ?_)
  obtain ⟨wh, tw, rfl, u1, u2, K, -⟩ := hq
  have hO := hO.keep K all0
  have D := D.keep K nin0 nin0
  refine WP.astore d0_159 (Ls' := #[.val (.int p0), .val (.int p1), .val (.int p2), .val (.int p3), .val (.int p4), .val (.int x5), .val (.int x6), .val (.int x7), .val (.int x8), .val (.ref q0), .val (.ref q1), .val (.ref q2), .val (.ref q3), .val (.ref s), .val (.ref wh), .unset, .unset]) rfl rfl ?_
  refine WP.iload d0_161 rfl ?_
  refine WP.if_eq d0_163 (fun hc163 => ?_) (fun hc163 => ?_)
  · rw [← Int32.toInt_inj] at hc163
    refine WP.iconst d0_202 (v := (1 : Int32)) rfl ?_
    refine WP.goto d0_203 ?_
    refine WP.istore d0_207 rfl (Ls' := #[.val (.int p0), .val (.int p1), .val (.int p2), .val (.int p3), .val (.int p4), .val (.int x5), .val (.int x6), .val (.int x7), .val (.int x8), .val (.ref q0), .val (.ref q1), .val (.ref q2), .val (.ref q3), .val (.ref s), .val (.ref wh), .val (.int (1 : Int32)), .unset]) rfl ?_
    refine WP.iload d0_209 rfl ?_
    refine WP.if_eq d0_211 (fun hc => absurd hc (by decide)) (fun _ => ?_)
    refine WP.iconst d0_214 (v := (1 : Int32)) rfl ?_
    exact WP.ireturn d0_215 rfl (t := .boolean) (by simp) rfl (by decide) (by decide) (G := []) (fun _ q => nomatch q) rfl
  · rw [← Int32.toInt_inj] at hc163
    refine WP.iload d0_166 rfl ?_
    refine WP.static (argsL := [(.int x6)]) (rest := []) d0_168 (rm_ws l Z a0 hw n0 h57 hO x6) (hw _ (List.mem_of_getElem? (i := 47) rfl)) (hw _ (List.mem_of_getElem? (i := 48) rfl)) (hw _ (List.mem_of_getElem? (i := 49) rfl)) (hw _ (List.mem_of_getElem? (i := 50) rfl)) (by decide) pd_4 rfl rfl rfl (nle rfl) (nle rfl) (nle rfl) (nle rfl) (fun _ q => nomatch q) (fun v h58 F' hq szh58 => ?_)
    obtain ⟨rfl, hh⟩ := hq
    subst hh
    refine WP.if_eq d0_171 (fun hc171 => ?_) (fun hc171 => ?_)
    · have nw : ¬ wsI x6 := fun q => by rw [if_pos q] at hc171; exact absurd hc171 (by decide)
      have hnb := own_nb (cs := cs) (c := x6) (by rw [hcs3]; exact own_mem 0 (by omega) rfl) b6 nw
      refine WP.iconst d0_206 (v := (0 : Int32)) rfl ?_
      refine WP.istore d0_207 rfl (Ls' := #[.val (.int p0), .val (.int p1), .val (.int p2), .val (.int p3), .val (.int p4), .val (.int x5), .val (.int x6), .val (.int x7), .val (.int x8), .val (.ref q0), .val (.ref q1), .val (.ref q2), .val (.ref q3), .val (.ref s), .val (.ref wh), .val (.int (0 : Int32)), .unset]) rfl ?_
      refine WP.iload d0_209 rfl ?_
      refine WP.if_eq d0_211 (fun _ => ?_) (fun hc => absurd rfl hc)
      refine WP.more (cells' := 11) (slots' := 40) (by decide) (by decide) (WP.less (F' := []) (fun _ q => nomatch q) ?_)
      exact tail_216 l Z a0 hw n0 h58 hO zc hcs hzc ta ti hta hA hti hiE p0 p1 p2 p3 p4 x5 x6 x7 x8 q0 q1 q2 q3 s t wh 0 _ D hnb
    · refine WP.iload d0_174 rfl ?_
      refine WP.iconst d0_176 (v := (2 : Int32)) rfl ?_
      refine WP.icmp_lt d0_177 (fun hc177 => ?_) (fun hc177 => ?_)
      · rw [Int32.lt_iff_toInt_lt] at hc177
        refine WP.iload d0_188 rfl ?_
        refine WP.iconst d0_190 (v := (3 : Int32)) rfl ?_
        refine WP.icmp_lt d0_191 (fun hc191 => ?_) (fun hc191 => ?_)
        · rw [Int32.lt_iff_toInt_lt] at hc191
          refine WP.iconst d0_202 (v := (1 : Int32)) rfl ?_
          refine WP.goto d0_203 ?_
          refine WP.istore d0_207 rfl (Ls' := #[.val (.int p0), .val (.int p1), .val (.int p2), .val (.int p3), .val (.int p4), .val (.int x5), .val (.int x6), .val (.int x7), .val (.int x8), .val (.ref q0), .val (.ref q1), .val (.ref q2), .val (.ref q3), .val (.ref s), .val (.ref wh), .val (.int (1 : Int32)), .unset]) rfl ?_
          refine WP.iload d0_209 rfl ?_
          refine WP.if_eq d0_211 (fun hc => absurd hc (by decide)) (fun _ => ?_)
          refine WP.iconst d0_214 (v := (1 : Int32)) rfl ?_
          exact WP.ireturn d0_215 rfl (t := .boolean) (by simp) rfl (by decide) (by decide) (G := []) (fun _ q => nomatch q) rfl
        · rw [Int32.lt_iff_toInt_lt] at hc191
          refine WP.iload d0_194 rfl ?_
          refine WP.static (argsL := [(.int x8)]) (rest := []) d0_196 (rm_ws l Z a0 hw n0 h58 hO x8) (hw _ (List.mem_of_getElem? (i := 47) rfl)) (hw _ (List.mem_of_getElem? (i := 48) rfl)) (hw _ (List.mem_of_getElem? (i := 49) rfl)) (hw _ (List.mem_of_getElem? (i := 50) rfl)) (by decide) pd_4 rfl rfl rfl (nle rfl) (nle rfl) (nle rfl) (nle rfl) (fun _ q => nomatch q) (fun v h59 F' hq szh59 => ?_)
          obtain ⟨rfl, hh⟩ := hq
          subst hh
          refine WP.if_eq d0_199 (fun hc199 => ?_) (fun hc199 => ?_)
          · have nw : ¬ wsI x8 := fun q => by rw [if_pos q] at hc199; exact absurd hc199 (by decide)
            have hnb := own_nb (cs := cs) (c := x8) (by rw [hcs3]; exact own_mem 2 (by omega) rfl) b8 nw
            refine WP.iconst d0_206 (v := (0 : Int32)) rfl ?_
            refine WP.istore d0_207 rfl (Ls' := #[.val (.int p0), .val (.int p1), .val (.int p2), .val (.int p3), .val (.int p4), .val (.int x5), .val (.int x6), .val (.int x7), .val (.int x8), .val (.ref q0), .val (.ref q1), .val (.ref q2), .val (.ref q3), .val (.ref s), .val (.ref wh), .val (.int (0 : Int32)), .unset]) rfl ?_
            refine WP.iload d0_209 rfl ?_
            refine WP.if_eq d0_211 (fun _ => ?_) (fun hc => absurd rfl hc)
            refine WP.more (cells' := 11) (slots' := 40) (by decide) (by decide) (WP.less (F' := []) (fun _ q => nomatch q) ?_)
            exact tail_216 l Z a0 hw n0 h59 hO zc hcs hzc ta ti hta hA hti hiE p0 p1 p2 p3 p4 x5 x6 x7 x8 q0 q1 q2 q3 s t wh 0 _ D hnb
          · refine WP.iconst d0_202 (v := (1 : Int32)) rfl ?_
            refine WP.goto d0_203 ?_
            refine WP.istore d0_207 rfl (Ls' := #[.val (.int p0), .val (.int p1), .val (.int p2), .val (.int p3), .val (.int p4), .val (.int x5), .val (.int x6), .val (.int x7), .val (.int x8), .val (.ref q0), .val (.ref q1), .val (.ref q2), .val (.ref q3), .val (.ref s), .val (.ref wh), .val (.int (1 : Int32)), .unset]) rfl ?_
            refine WP.iload d0_209 rfl ?_
            refine WP.if_eq d0_211 (fun hc => absurd hc (by decide)) (fun _ => ?_)
            refine WP.iconst d0_214 (v := (1 : Int32)) rfl ?_
            exact WP.ireturn d0_215 rfl (t := .boolean) (by simp) rfl (by decide) (by decide) (G := []) (fun _ q => nomatch q) rfl
      · rw [Int32.lt_iff_toInt_lt] at hc177
        refine WP.iload d0_180 rfl ?_
        refine WP.static (argsL := [(.int x7)]) (rest := []) d0_182 (rm_ws l Z a0 hw n0 h58 hO x7) (hw _ (List.mem_of_getElem? (i := 47) rfl)) (hw _ (List.mem_of_getElem? (i := 48) rfl)) (hw _ (List.mem_of_getElem? (i := 49) rfl)) (hw _ (List.mem_of_getElem? (i := 50) rfl)) (by decide) pd_4 rfl rfl rfl (nle rfl) (nle rfl) (nle rfl) (nle rfl) (fun _ q => nomatch q) (fun v h60 F' hq szh60 => ?_)
        obtain ⟨rfl, hh⟩ := hq
        subst hh
        refine WP.if_eq d0_185 (fun hc185 => ?_) (fun hc185 => ?_)
        · have nw : ¬ wsI x7 := fun q => by rw [if_pos q] at hc185; exact absurd hc185 (by decide)
          have hnb := own_nb (cs := cs) (c := x7) (by rw [hcs3]; exact own_mem 1 (by omega) rfl) b7 nw
          refine WP.iconst d0_206 (v := (0 : Int32)) rfl ?_
          refine WP.istore d0_207 rfl (Ls' := #[.val (.int p0), .val (.int p1), .val (.int p2), .val (.int p3), .val (.int p4), .val (.int x5), .val (.int x6), .val (.int x7), .val (.int x8), .val (.ref q0), .val (.ref q1), .val (.ref q2), .val (.ref q3), .val (.ref s), .val (.ref wh), .val (.int (0 : Int32)), .unset]) rfl ?_
          refine WP.iload d0_209 rfl ?_
          refine WP.if_eq d0_211 (fun _ => ?_) (fun hc => absurd rfl hc)
          refine WP.more (cells' := 11) (slots' := 40) (by decide) (by decide) (WP.less (F' := []) (fun _ q => nomatch q) ?_)
          exact tail_216 l Z a0 hw n0 h60 hO zc hcs hzc ta ti hta hA hti hiE p0 p1 p2 p3 p4 x5 x6 x7 x8 q0 q1 q2 q3 s t wh 0 _ D hnb
        · refine WP.iload d0_188 rfl ?_
          refine WP.iconst d0_190 (v := (3 : Int32)) rfl ?_
          refine WP.icmp_lt d0_191 (fun hc191 => ?_) (fun hc191 => ?_)
          · rw [Int32.lt_iff_toInt_lt] at hc191
            refine WP.iconst d0_202 (v := (1 : Int32)) rfl ?_
            refine WP.goto d0_203 ?_
            refine WP.istore d0_207 rfl (Ls' := #[.val (.int p0), .val (.int p1), .val (.int p2), .val (.int p3), .val (.int p4), .val (.int x5), .val (.int x6), .val (.int x7), .val (.int x8), .val (.ref q0), .val (.ref q1), .val (.ref q2), .val (.ref q3), .val (.ref s), .val (.ref wh), .val (.int (1 : Int32)), .unset]) rfl ?_
            refine WP.iload d0_209 rfl ?_
            refine WP.if_eq d0_211 (fun hc => absurd hc (by decide)) (fun _ => ?_)
            refine WP.iconst d0_214 (v := (1 : Int32)) rfl ?_
            exact WP.ireturn d0_215 rfl (t := .boolean) (by simp) rfl (by decide) (by decide) (G := []) (fun _ q => nomatch q) rfl
          · rw [Int32.lt_iff_toInt_lt] at hc191
            refine WP.iload d0_194 rfl ?_
            refine WP.static (argsL := [(.int x8)]) (rest := []) d0_196 (rm_ws l Z a0 hw n0 h60 hO x8) (hw _ (List.mem_of_getElem? (i := 47) rfl)) (hw _ (List.mem_of_getElem? (i := 48) rfl)) (hw _ (List.mem_of_getElem? (i := 49) rfl)) (hw _ (List.mem_of_getElem? (i := 50) rfl)) (by decide) pd_4 rfl rfl rfl (nle rfl) (nle rfl) (nle rfl) (nle rfl) (fun _ q => nomatch q) (fun v h61 F' hq szh61 => ?_)
            obtain ⟨rfl, hh⟩ := hq
            subst hh
            refine WP.if_eq d0_199 (fun hc199 => ?_) (fun hc199 => ?_)
            · have nw : ¬ wsI x8 := fun q => by rw [if_pos q] at hc199; exact absurd hc199 (by decide)
              have hnb := own_nb (cs := cs) (c := x8) (by rw [hcs3]; exact own_mem 2 (by omega) rfl) b8 nw
              refine WP.iconst d0_206 (v := (0 : Int32)) rfl ?_
              refine WP.istore d0_207 rfl (Ls' := #[.val (.int p0), .val (.int p1), .val (.int p2), .val (.int p3), .val (.int p4), .val (.int x5), .val (.int x6), .val (.int x7), .val (.int x8), .val (.ref q0), .val (.ref q1), .val (.ref q2), .val (.ref q3), .val (.ref s), .val (.ref wh), .val (.int (0 : Int32)), .unset]) rfl ?_
              refine WP.iload d0_209 rfl ?_
              refine WP.if_eq d0_211 (fun _ => ?_) (fun hc => absurd rfl hc)
              refine WP.more (cells' := 11) (slots' := 40) (by decide) (by decide) (WP.less (F' := []) (fun _ q => nomatch q) ?_)
              exact tail_216 l Z a0 hw n0 h61 hO zc hcs hzc ta ti hta hA hti hiE p0 p1 p2 p3 p4 x5 x6 x7 x8 q0 q1 q2 q3 s t wh 0 _ D hnb
            · refine WP.iconst d0_202 (v := (1 : Int32)) rfl ?_
              refine WP.goto d0_203 ?_
              refine WP.istore d0_207 rfl (Ls' := #[.val (.int p0), .val (.int p1), .val (.int p2), .val (.int p3), .val (.int p4), .val (.int x5), .val (.int x6), .val (.int x7), .val (.int x8), .val (.ref q0), .val (.ref q1), .val (.ref q2), .val (.ref q3), .val (.ref s), .val (.ref wh), .val (.int (1 : Int32)), .unset]) rfl ?_
              refine WP.iload d0_209 rfl ?_
              refine WP.if_eq d0_211 (fun hc => absurd hc (by decide)) (fun _ => ?_)
              refine WP.iconst d0_214 (v := (1 : Int32)) rfl ?_
              exact WP.ireturn d0_215 rfl (t := .boolean) (by simp) rfl (by decide) (by decide) (G := []) (fun _ q => nomatch q) rfl
set_option maxRecDepth 65536 in
set_option maxHeartbeats 4000000 in
theorem rm_law (l : Launch) (Z : State) (a0 : Array Value) (hw : ∀ d ∈ tables_1, d.before a0 Z = true) (n0 : Nat) (h0 : Heap) (hO : Old Z n0 h0) (ws : List Jvm.Cond) (zc : Int32) (hcs : Sta Z Z.heap "java/lang/String" "COMPACT_STRINGS" "Z" (.int zc)) (hzc : zc ≠ 0) (ta ti : Addr) (hta : Sta Z Z.heap "java/lang/CharacterDataLatin1" "A" "[I" (.ref ta)) (hA : IA Z Z.heap ta .int tabA) (hti : Sta Z Z.heap "java/lang/CharacterDataLatin1" "instance" "Ljava/lang/CharacterDataLatin1;" (.ref ti)) (hiE : Exa Z Z.heap ti "java/lang/CharacterDataLatin1") (p0 p1 p2 p3 p4 : Int32) :
    Met l Z consts_1 n0 ws x code maxLocals ret room_1 #[.int p0, .int p1, .int p2, .int p3, .int p4] [] h0 QLaw := by
  have hEL := own_EW hw
  have hn0 : n0 ≤ h0.size := hO.1 ▸ hO.2.1
  refine Met.of (by decide +kernel) hEL hO (Ls := #[.val (.int p0), .val (.int p1), .val (.int p2), .val (.int p3), .val (.int p4), .unset, .unset, .unset, .unset, .unset, .unset, .unset, .unset, .unset, .unset, .unset, .unset]) (fun m => by first | (simp [entryFrame, mkF, argsToLocals, Value.category, maxLocals]; done) | rfl) ?_
  have e0 : (0 : Int32).toInt = 0 := rfl
  have e1 : (1 : Int32).toInt = 1 := rfl
  have e2 : (2 : Int32).toInt = 2 := rfl
  have e3 : (3 : Int32).toInt = 3 := rfl
  refine WP.iload_n d0_0 rfl ?_
  refine WP.iconst d0_1 (v := (3 : Int32)) rfl ?_
  refine WP.iand d0_2 ?_
  obtain ⟨x62, ex62⟩ : ∃ z : Int32, (p0 &&& (3 : Int32)) = z := ⟨_, rfl⟩
  refine WP.istore d0_3 ex62 (Ls' := #[.val (.int p0), .val (.int p1), .val (.int p2), .val (.int p3), .val (.int p4), .val (.int x62), .unset, .unset, .unset, .unset, .unset, .unset, .unset, .unset, .unset, .unset, .unset]) rfl ?_
  have r5 := c_and p0 3 (by decide)
  rw [ex62] at r5
  refine WP.iload_n d0_5 rfl ?_
  refine WP.sipush d0_6 (v := (255 : Int32)) rfl ?_
  refine WP.iand d0_9 ?_
  refine WP.i2c d0_10 ?_
  obtain ⟨x63, ex63⟩ : ∃ z : Int32, (p1 &&& (255 : Int32)).toUInt32.toUInt16.toUInt32.toInt32 = z := ⟨_, rfl⟩
  refine WP.istore d0_11 ex63 (Ls' := #[.val (.int p0), .val (.int p1), .val (.int p2), .val (.int p3), .val (.int p4), .val (.int x62), .val (.int x63), .unset, .unset, .unset, .unset, .unset, .unset, .unset, .unset, .unset, .unset]) rfl ?_
  have Bx63 : B8 x63 := ex63 ▸ (B8.and _).i2c
  refine WP.iload_n d0_13 rfl ?_
  refine WP.sipush d0_14 (v := (255 : Int32)) rfl ?_
  refine WP.iand d0_17 ?_
  refine WP.i2c d0_18 ?_
  obtain ⟨x64, ex64⟩ : ∃ z : Int32, (p2 &&& (255 : Int32)).toUInt32.toUInt16.toUInt32.toInt32 = z := ⟨_, rfl⟩
  refine WP.istore d0_19 ex64 (Ls' := #[.val (.int p0), .val (.int p1), .val (.int p2), .val (.int p3), .val (.int p4), .val (.int x62), .val (.int x63), .val (.int x64), .unset, .unset, .unset, .unset, .unset, .unset, .unset, .unset, .unset]) rfl ?_
  have Bx64 : B8 x64 := ex64 ▸ (B8.and _).i2c
  refine WP.iload_n d0_21 rfl ?_
  refine WP.sipush d0_22 (v := (255 : Int32)) rfl ?_
  refine WP.iand d0_25 ?_
  refine WP.i2c d0_26 ?_
  obtain ⟨x65, ex65⟩ : ∃ z : Int32, (p3 &&& (255 : Int32)).toUInt32.toUInt16.toUInt32.toInt32 = z := ⟨_, rfl⟩
  refine WP.istore d0_27 ex65 (Ls' := #[.val (.int p0), .val (.int p1), .val (.int p2), .val (.int p3), .val (.int p4), .val (.int x62), .val (.int x63), .val (.int x64), .val (.int x65), .unset, .unset, .unset, .unset, .unset, .unset, .unset, .unset]) rfl ?_
  have Bx65 : B8 x65 := ex65 ▸ (B8.and _).i2c
  refine WP.iconst d0_29 (v := (0 : Int32)) rfl ?_
  refine WP.newarray d0_30 (hw _ (List.mem_of_getElem? (i := 0) rfl)) rfl (i := 0) (cap := 0) rfl (nle rfl) (nle rfl) (nle rfl) (nle rfl) (fun h66 q0 gq0 Eq0 Aq0 => ?_)
  have hO := hO.ext Eq0
  have lq0 := nlt Aq0.lt
  have zq0 := Eq0.1
  refine WP.astore d0_32 (Ls' := #[.val (.int p0), .val (.int p1), .val (.int p2), .val (.int p3), .val (.int p4), .val (.int x62), .val (.int x63), .val (.int x64), .val (.int x65), .val (.ref q0), .unset, .unset, .unset, .unset, .unset, .unset, .unset]) rfl rfl ?_
  refine WP.iconst d0_34 (v := (1 : Int32)) rfl ?_
  refine WP.newarray d0_35 (hw _ (List.mem_of_getElem? (i := 0) rfl)) rfl (i := 1) (cap := 1) rfl (nle rfl) (nle rfl) (nle rfl) (nle rfl) (fun h67 q1 gq1 Eq1 Aq1 => ?_)
  have hO := hO.ext Eq1
  have Aq0 := Aq0.ext Eq1
  have lq1 := nlt Aq1.lt
  have zq1 := Eq1.1
  refine WP.dup d0_37 rfl ?_
  refine WP.iconst d0_38 (v := (0 : Int32)) rfl ?_
  refine WP.iload d0_39 rfl ?_
  refine WP.castore d0_41 Aq1 (i := 0) rfl (by simp) (by omega) (fun h68 W69 => ?_)
  rw [B8.nar Bx63] at W69
  have zW69 := W69.size
  have hO := hO.wr W69 (by omega)
  have Aq0 := Aq0.other W69 (nea (by omega))
  have Aq1 := Aq1.set W69
  refine WP.astore d0_42 (Ls' := #[.val (.int p0), .val (.int p1), .val (.int p2), .val (.int p3), .val (.int p4), .val (.int x62), .val (.int x63), .val (.int x64), .val (.int x65), .val (.ref q0), .val (.ref q1), .unset, .unset, .unset, .unset, .unset, .unset]) rfl rfl ?_
  refine WP.iconst d0_44 (v := (2 : Int32)) rfl ?_
  refine WP.newarray d0_45 (hw _ (List.mem_of_getElem? (i := 0) rfl)) rfl (i := 2) (cap := 2) rfl (nle rfl) (nle rfl) (nle rfl) (nle rfl) (fun h70 q2 gq2 Eq2 Aq2 => ?_)
  have hO := hO.ext Eq2
  have Aq0 := Aq0.ext Eq2
  have Aq1 := Aq1.ext Eq2
  have lq2 := nlt Aq2.lt
  have zq2 := Eq2.1
  refine WP.dup d0_47 rfl ?_
  refine WP.iconst d0_48 (v := (0 : Int32)) rfl ?_
  refine WP.iload d0_49 rfl ?_
  refine WP.castore d0_51 Aq2 (i := 0) rfl (by simp) (by omega) (fun h71 W72 => ?_)
  rw [B8.nar Bx63] at W72
  have zW72 := W72.size
  have hO := hO.wr W72 (by omega)
  have Aq0 := Aq0.other W72 (nea (by omega))
  have Aq1 := Aq1.other W72 (nea (by omega))
  have Aq2 := Aq2.set W72
  refine WP.dup d0_52 rfl ?_
  refine WP.iconst d0_53 (v := (1 : Int32)) rfl ?_
  refine WP.iload d0_54 rfl ?_
  refine WP.castore d0_56 Aq2 (i := 1) rfl (by simp) (by omega) (fun h73 W74 => ?_)
  rw [B8.nar Bx64] at W74
  have zW74 := W74.size
  have hO := hO.wr W74 (by omega)
  have Aq0 := Aq0.other W74 (nea (by omega))
  have Aq1 := Aq1.other W74 (nea (by omega))
  have Aq2 := Aq2.set W74
  refine WP.astore d0_57 (Ls' := #[.val (.int p0), .val (.int p1), .val (.int p2), .val (.int p3), .val (.int p4), .val (.int x62), .val (.int x63), .val (.int x64), .val (.int x65), .val (.ref q0), .val (.ref q1), .val (.ref q2), .unset, .unset, .unset, .unset, .unset]) rfl rfl ?_
  refine WP.iconst d0_59 (v := (3 : Int32)) rfl ?_
  refine WP.newarray d0_60 (hw _ (List.mem_of_getElem? (i := 0) rfl)) rfl (i := 3) (cap := 3) rfl (nle rfl) (nle rfl) (nle rfl) (nle rfl) (fun h75 q3 gq3 Eq3 Aq3 => ?_)
  have hO := hO.ext Eq3
  have Aq0 := Aq0.ext Eq3
  have Aq1 := Aq1.ext Eq3
  have Aq2 := Aq2.ext Eq3
  have lq3 := nlt Aq3.lt
  have zq3 := Eq3.1
  refine WP.dup d0_62 rfl ?_
  refine WP.iconst d0_63 (v := (0 : Int32)) rfl ?_
  refine WP.iload d0_64 rfl ?_
  refine WP.castore d0_66 Aq3 (i := 0) rfl (by simp) (by omega) (fun h76 W77 => ?_)
  rw [B8.nar Bx63] at W77
  have zW77 := W77.size
  have hO := hO.wr W77 (by omega)
  have Aq0 := Aq0.other W77 (nea (by omega))
  have Aq1 := Aq1.other W77 (nea (by omega))
  have Aq2 := Aq2.other W77 (nea (by omega))
  have Aq3 := Aq3.set W77
  refine WP.dup d0_67 rfl ?_
  refine WP.iconst d0_68 (v := (1 : Int32)) rfl ?_
  refine WP.iload d0_69 rfl ?_
  refine WP.castore d0_71 Aq3 (i := 1) rfl (by simp) (by omega) (fun h78 W79 => ?_)
  rw [B8.nar Bx64] at W79
  have zW79 := W79.size
  have hO := hO.wr W79 (by omega)
  have Aq0 := Aq0.other W79 (nea (by omega))
  have Aq1 := Aq1.other W79 (nea (by omega))
  have Aq2 := Aq2.other W79 (nea (by omega))
  have Aq3 := Aq3.set W79
  refine WP.dup d0_72 rfl ?_
  refine WP.iconst d0_73 (v := (2 : Int32)) rfl ?_
  refine WP.iload d0_74 rfl ?_
  refine WP.castore d0_76 Aq3 (i := 2) rfl (by simp) (by omega) (fun h80 W81 => ?_)
  rw [B8.nar Bx65] at W81
  have zW81 := W81.size
  have hO := hO.wr W81 (by omega)
  have Aq0 := Aq0.other W81 (nea (by omega))
  have Aq1 := Aq1.other W81 (nea (by omega))
  have Aq2 := Aq2.other W81 (nea (by omega))
  have Aq3 := Aq3.set W81
  refine WP.astore d0_77 (Ls' := #[.val (.int p0), .val (.int p1), .val (.int p2), .val (.int p3), .val (.int p4), .val (.int x62), .val (.int x63), .val (.int x64), .val (.int x65), .val (.ref q0), .val (.ref q1), .val (.ref q2), .val (.ref q3), .unset, .unset, .unset, .unset]) rfl rfl ?_
  refine WP.iload d0_79 rfl ?_
  refine WP.if_ne d0_81 (fun hc81 => ?_) (fun hc81 => ?_)
  · rw [← Int32.toInt_inj] at hc81
    refine WP.iload d0_98 rfl ?_
    refine WP.iconst d0_100 (v := (1 : Int32)) rfl ?_
    refine WP.icmp_ne d0_101 (fun hc101 => ?_) (fun hc101 => ?_)
    · rw [← Int32.toInt_inj] at hc101
      refine WP.iload d0_118 rfl ?_
      refine WP.iconst d0_120 (v := (2 : Int32)) rfl ?_
      refine WP.icmp_ne d0_121 (fun hc121 => ?_) (fun hc121 => ?_)
      · rw [← Int32.toInt_inj] at hc121
        refine WP.new d0_138 (hw _ (List.mem_of_getElem? (i := 1) rfl)) (hw _ (List.mem_of_getElem? (i := 2) rfl)) (hw _ (List.mem_of_getElem? (i := 3) rfl)) (nle rfl) (nle rfl) (fun h82 ns gns Ens Ans Dns Uns => ?_)
        have hO := hO.ext Ens
        have Aq0 := Aq0.ext Ens
        have Aq1 := Aq1.ext Ens
        have Aq2 := Aq2.ext Ens
        have Aq3 := Aq3.ext Ens
        have lns := nlt Ans.lt
        have zns := Ens.1
        have Vns := Dns (Or.inr (hw _ (List.mem_of_getElem? (i := 16) rfl))) (ty := .array .byte) (by decide)
        have Wns := Dns (Or.inr (hw _ (List.mem_of_getElem? (i := 17) rfl))) (ty := .byte) (by decide)
        refine WP.dup d0_141 rfl ?_
        refine WP.aload d0_142 rfl rfl ?_
        have Aq3 : IA Z h82 q3 .char [x63, x64, x65] := Aq3
        refine WP.special (a := ns) (argsL := [(.ref q3)]) (rest := [(.ref ns)]) d0_144 (rm_i1 l Z a0 hw n0 h82 hO zc hcs hzc ns q3 [x63, x64, x65] Ans Vns Wns Aq3 (by simp) (Lat.cons Bx63 (Lat.cons Bx64 (Lat.cons Bx65 Lat.nil))) (nea (by omega)) (by omega)) rfl (hw _ (List.mem_of_getElem? (i := 4) rfl)) (hw _ (List.mem_of_getElem? (i := 5) rfl)) (hw _ (List.mem_of_getElem? (i := 3) rfl)) (hw _ (List.mem_of_getElem? (i := 6) rfl)) (by decide) pd_0 rfl rfl rfl (nle rfl) (nle rfl) (nle rfl) (nle rfl) (allS (SafeBy.mem Ans.lt (by simp)) all0) (fun v h83 F' hq szh83 => ?_)
        obtain ⟨rfl, Kn, t, Sn⟩ := hq
        have zn := Kn.1
        have hO := hO.keep Kn (allS (by omega) all0)
        have Aq0 := Aq0.keep Kn (ninS (nea (by omega)) nin0)
        have Aq1 := Aq1.keep Kn (ninS (nea (by omega)) nin0)
        have Aq2 := Aq2.keep Kn (ninS (nea (by omega)) nin0)
        have Aq3 := Aq3.keep Kn (ninS (nea (by omega)) nin0)
        have Ans := Ans.keep Kn
        refine WP.astore d0_147 (Ls' := #[.val (.int p0), .val (.int p1), .val (.int p2), .val (.int p3), .val (.int p4), .val (.int x62), .val (.int x63), .val (.int x64), .val (.int x65), .val (.ref q0), .val (.ref q1), .val (.ref q2), .val (.ref q3), .val (.ref ns), .unset, .unset, .unset]) rfl rfl ?_
        refine WP.more (cells' := 9) (slots' := 30) (by decide) (by decide) (WP.less (F' := []) (fun _ q => nomatch q) ?_)
        exact tail_149 l Z a0 hw n0 h83 hO zc hcs hzc ta ti hta hA hti hiE p0 p1 p2 p3 p4 x62 x63 x64 x65 q0 q1 q2 q3 ns t 3 [x63, x64, x65] Sn (by omega) rfl Bx63 Bx64 Bx65
      · rw [← Int32.toInt_inj] at hc121
        refine WP.new d0_124 (hw _ (List.mem_of_getElem? (i := 1) rfl)) (hw _ (List.mem_of_getElem? (i := 2) rfl)) (hw _ (List.mem_of_getElem? (i := 3) rfl)) (nle rfl) (nle rfl) (fun h84 ns gns Ens Ans Dns Uns => ?_)
        have hO := hO.ext Ens
        have Aq0 := Aq0.ext Ens
        have Aq1 := Aq1.ext Ens
        have Aq2 := Aq2.ext Ens
        have Aq3 := Aq3.ext Ens
        have lns := nlt Ans.lt
        have zns := Ens.1
        have Vns := Dns (Or.inr (hw _ (List.mem_of_getElem? (i := 16) rfl))) (ty := .array .byte) (by decide)
        have Wns := Dns (Or.inr (hw _ (List.mem_of_getElem? (i := 17) rfl))) (ty := .byte) (by decide)
        refine WP.dup d0_127 rfl ?_
        refine WP.aload d0_128 rfl rfl ?_
        have Aq2 : IA Z h84 q2 .char [x63, x64] := Aq2
        refine WP.special (a := ns) (argsL := [(.ref q2)]) (rest := [(.ref ns)]) d0_130 (rm_i1 l Z a0 hw n0 h84 hO zc hcs hzc ns q2 [x63, x64] Ans Vns Wns Aq2 (by simp) (Lat.cons Bx63 (Lat.cons Bx64 Lat.nil)) (nea (by omega)) (by omega)) rfl (hw _ (List.mem_of_getElem? (i := 4) rfl)) (hw _ (List.mem_of_getElem? (i := 5) rfl)) (hw _ (List.mem_of_getElem? (i := 3) rfl)) (hw _ (List.mem_of_getElem? (i := 6) rfl)) (by decide) pd_0 rfl rfl rfl (nle rfl) (nle rfl) (nle rfl) (nle rfl) (allS (SafeBy.mem Ans.lt (by simp)) all0) (fun v h85 F' hq szh85 => ?_)
        obtain ⟨rfl, Kn, t, Sn⟩ := hq
        have zn := Kn.1
        have hO := hO.keep Kn (allS (by omega) all0)
        have Aq0 := Aq0.keep Kn (ninS (nea (by omega)) nin0)
        have Aq1 := Aq1.keep Kn (ninS (nea (by omega)) nin0)
        have Aq2 := Aq2.keep Kn (ninS (nea (by omega)) nin0)
        have Aq3 := Aq3.keep Kn (ninS (nea (by omega)) nin0)
        have Ans := Ans.keep Kn
        refine WP.astore d0_133 (Ls' := #[.val (.int p0), .val (.int p1), .val (.int p2), .val (.int p3), .val (.int p4), .val (.int x62), .val (.int x63), .val (.int x64), .val (.int x65), .val (.ref q0), .val (.ref q1), .val (.ref q2), .val (.ref q3), .val (.ref ns), .unset, .unset, .unset]) rfl rfl ?_
        refine WP.goto d0_135 ?_
        refine WP.more (cells' := 9) (slots' := 30) (by decide) (by decide) (WP.less (F' := []) (fun _ q => nomatch q) ?_)
        exact tail_149 l Z a0 hw n0 h85 hO zc hcs hzc ta ti hta hA hti hiE p0 p1 p2 p3 p4 x62 x63 x64 x65 q0 q1 q2 q3 ns t 2 [x63, x64] Sn (by omega) rfl Bx63 Bx64 Bx65
    · rw [← Int32.toInt_inj] at hc101
      refine WP.new d0_104 (hw _ (List.mem_of_getElem? (i := 1) rfl)) (hw _ (List.mem_of_getElem? (i := 2) rfl)) (hw _ (List.mem_of_getElem? (i := 3) rfl)) (nle rfl) (nle rfl) (fun h86 ns gns Ens Ans Dns Uns => ?_)
      have hO := hO.ext Ens
      have Aq0 := Aq0.ext Ens
      have Aq1 := Aq1.ext Ens
      have Aq2 := Aq2.ext Ens
      have Aq3 := Aq3.ext Ens
      have lns := nlt Ans.lt
      have zns := Ens.1
      have Vns := Dns (Or.inr (hw _ (List.mem_of_getElem? (i := 16) rfl))) (ty := .array .byte) (by decide)
      have Wns := Dns (Or.inr (hw _ (List.mem_of_getElem? (i := 17) rfl))) (ty := .byte) (by decide)
      refine WP.dup d0_107 rfl ?_
      refine WP.aload d0_108 rfl rfl ?_
      have Aq1 : IA Z h86 q1 .char [x63] := Aq1
      refine WP.special (a := ns) (argsL := [(.ref q1)]) (rest := [(.ref ns)]) d0_110 (rm_i1 l Z a0 hw n0 h86 hO zc hcs hzc ns q1 [x63] Ans Vns Wns Aq1 (by simp) (Lat.cons Bx63 Lat.nil) (nea (by omega)) (by omega)) rfl (hw _ (List.mem_of_getElem? (i := 4) rfl)) (hw _ (List.mem_of_getElem? (i := 5) rfl)) (hw _ (List.mem_of_getElem? (i := 3) rfl)) (hw _ (List.mem_of_getElem? (i := 6) rfl)) (by decide) pd_0 rfl rfl rfl (nle rfl) (nle rfl) (nle rfl) (nle rfl) (allS (SafeBy.mem Ans.lt (by simp)) all0) (fun v h87 F' hq szh87 => ?_)
      obtain ⟨rfl, Kn, t, Sn⟩ := hq
      have zn := Kn.1
      have hO := hO.keep Kn (allS (by omega) all0)
      have Aq0 := Aq0.keep Kn (ninS (nea (by omega)) nin0)
      have Aq1 := Aq1.keep Kn (ninS (nea (by omega)) nin0)
      have Aq2 := Aq2.keep Kn (ninS (nea (by omega)) nin0)
      have Aq3 := Aq3.keep Kn (ninS (nea (by omega)) nin0)
      have Ans := Ans.keep Kn
      refine WP.astore d0_113 (Ls' := #[.val (.int p0), .val (.int p1), .val (.int p2), .val (.int p3), .val (.int p4), .val (.int x62), .val (.int x63), .val (.int x64), .val (.int x65), .val (.ref q0), .val (.ref q1), .val (.ref q2), .val (.ref q3), .val (.ref ns), .unset, .unset, .unset]) rfl rfl ?_
      refine WP.goto d0_115 ?_
      refine WP.more (cells' := 9) (slots' := 30) (by decide) (by decide) (WP.less (F' := []) (fun _ q => nomatch q) ?_)
      exact tail_149 l Z a0 hw n0 h87 hO zc hcs hzc ta ti hta hA hti hiE p0 p1 p2 p3 p4 x62 x63 x64 x65 q0 q1 q2 q3 ns t 1 [x63] Sn (by omega) rfl Bx63 Bx64 Bx65
  · rw [← Int32.toInt_inj] at hc81
    refine WP.new d0_84 (hw _ (List.mem_of_getElem? (i := 1) rfl)) (hw _ (List.mem_of_getElem? (i := 2) rfl)) (hw _ (List.mem_of_getElem? (i := 3) rfl)) (nle rfl) (nle rfl) (fun h88 ns gns Ens Ans Dns Uns => ?_)
    have hO := hO.ext Ens
    have Aq0 := Aq0.ext Ens
    have Aq1 := Aq1.ext Ens
    have Aq2 := Aq2.ext Ens
    have Aq3 := Aq3.ext Ens
    have lns := nlt Ans.lt
    have zns := Ens.1
    have Vns := Dns (Or.inr (hw _ (List.mem_of_getElem? (i := 16) rfl))) (ty := .array .byte) (by decide)
    have Wns := Dns (Or.inr (hw _ (List.mem_of_getElem? (i := 17) rfl))) (ty := .byte) (by decide)
    refine WP.dup d0_87 rfl ?_
    refine WP.aload d0_88 rfl rfl ?_
    have Aq0 : IA Z h88 q0 .char [] := Aq0
    refine WP.special (a := ns) (argsL := [(.ref q0)]) (rest := [(.ref ns)]) d0_90 (rm_i1 l Z a0 hw n0 h88 hO zc hcs hzc ns q0 [] Ans Vns Wns Aq0 (by simp) Lat.nil (nea (by omega)) (by omega)) rfl (hw _ (List.mem_of_getElem? (i := 4) rfl)) (hw _ (List.mem_of_getElem? (i := 5) rfl)) (hw _ (List.mem_of_getElem? (i := 3) rfl)) (hw _ (List.mem_of_getElem? (i := 6) rfl)) (by decide) pd_0 rfl rfl rfl (nle rfl) (nle rfl) (nle rfl) (nle rfl) (allS (SafeBy.mem Ans.lt (by simp)) all0) (fun v h89 F' hq szh89 => ?_)
    obtain ⟨rfl, Kn, t, Sn⟩ := hq
    have zn := Kn.1
    have hO := hO.keep Kn (allS (by omega) all0)
    have Aq0 := Aq0.keep Kn (ninS (nea (by omega)) nin0)
    have Aq1 := Aq1.keep Kn (ninS (nea (by omega)) nin0)
    have Aq2 := Aq2.keep Kn (ninS (nea (by omega)) nin0)
    have Aq3 := Aq3.keep Kn (ninS (nea (by omega)) nin0)
    have Ans := Ans.keep Kn
    refine WP.astore d0_93 (Ls' := #[.val (.int p0), .val (.int p1), .val (.int p2), .val (.int p3), .val (.int p4), .val (.int x62), .val (.int x63), .val (.int x64), .val (.int x65), .val (.ref q0), .val (.ref q1), .val (.ref q2), .val (.ref q3), .val (.ref ns), .unset, .unset, .unset]) rfl rfl ?_
    refine WP.goto d0_95 ?_
    refine WP.more (cells' := 9) (slots' := 30) (by decide) (by decide) (WP.less (F' := []) (fun _ q => nomatch q) ?_)
    exact tail_149 l Z a0 hw n0 h89 hO zc hcs hzc ta ti hta hA hti hiE p0 p1 p2 p3 p4 x62 x63 x64 x65 q0 q1 q2 q3 ns t 0 [] Sn (by omega) rfl Bx63 Bx64 Bx65
set_option maxRecDepth 65536 in
set_option maxHeartbeats 4000000 in
theorem comes_1 {Post : Tables → Env → Array Value → State → Outcome → State → Prop} (hpost : ∀ tb e args s v u, (limb_1_1.after args s (.returned v) u = true ∧ limb_1_2.after args s (.returned v) u = true ∧ True) → ReturnedEndW s (.returned v) u (Jvm.fieldLocs frame_1_writes args s ++ Jvm.arrayLocs frame_1_arrays args s ++ Jvm.staticLocs frame_1_statics s) 32 2176 → Post tb e args s (.returned v) u) :
    ArmFor flags0 classFile x code maxLocals ret World_1 tables_1 room_1 Calls_1 rest_1 Pre_1 Post := by
  intro l hfl _ _ p e ha hc hk s m args below hf hA hF happ hP
  obtain ⟨hcalls, hrest, hpre⟩ := hP
  obtain ⟨-, -, -, hnamed, -, -, -, hat⟩ := (Spec.applies_iff hf).mp happ
  obtain ⟨hg, hn⟩ := and_e (Cond.before_iff.mp (show (Jvm.Cond.and given_1 narrow_1).before args s = true from hpre))
  obtain ⟨hcount, hg1⟩ := and_e hg
  obtain ⟨ga0, hg2⟩ := and_e hg1
  obtain ⟨ga1, hg3⟩ := and_e hg2
  obtain ⟨ga2, hg4⟩ := and_e hg3
  obtain ⟨ga3, hg5⟩ := and_e hg4
  have ga4 := hg5
  obtain ⟨w0, w1, w2, w3, w4, rfl⟩ : ∃ w0 w1 w2 w3 w4 : Value, args = #[w0, w1, w2, w3, w4] := by
    have hs : args.size = 5 := by simpa [Cond.value, given_1] using hcount
    obtain ⟨L⟩ := args
    match L, hs with
    | [w0, w1, w2, w3, w4], _ => exact ⟨w0, w1, w2, w3, w4, rfl⟩
  have hw := fun d (hd : d ∈ tables_1) => atoms_spec (ws := Jvm.Cond.code x code maxLocals ret :: tables_1) hat d (List.mem_cons_of_mem _ hd)
  have hfit : Fit s := fun {y c} hc i hi => by
    obtain ⟨ha, rfl⟩ := Array.getElem?_eq_some_iff.mp hc
    have q := List.all_eq_true.mp ((Array.all_eq_true_iff_forall_mem.mp hF) _ (Array.getElem_mem ha)) i (List.mem_range.mpr hi)
    simpa [Array.getElem?_eq_getElem hi] using q
  obtain ⟨i0, ei0⟩ := is_v ga0
  obtain rfl : w0 = (.int i0) := Option.some.inj ei0
  obtain ⟨i1, ei1⟩ := is_v ga1
  obtain rfl : w1 = (.int i1) := Option.some.inj ei1
  obtain ⟨i2, ei2⟩ := is_v ga2
  obtain rfl : w2 = (.int i2) := Option.some.inj ei2
  obtain ⟨i3, ei3⟩ := is_v ga3
  obtain rfl : w3 = (.int i3) := Option.some.inj ei3
  obtain ⟨i4, ei4⟩ := is_v ga4
  obtain rfl : w4 = (.int i4) := Option.some.inj ei4
  obtain ⟨hsets, hown0⟩ := atoms_of _ (rest_1_c_eq ▸ (show rest_1_c.before _ s = true from hrest))
  have hcw := hsets _ (List.mem_of_getElem? (i := 2) rfl)
  obtain ⟨zc, ezc⟩ := is_v (Cond.before_iff.mp (hsets _ (List.mem_of_getElem? (i := 1) rfl)))
  have hcs : Sta s s.heap "java/lang/String" "COMPACT_STRINGS" "Z" (.int zc) := Sta.start ezc (Or.inl (hsets _ (List.mem_of_getElem? (i := 0) rfl)))
  have hzc : zc ≠ 0 := by
    intro q
    subst q
    have r := not_v (Cond.before_iff.mp hcw)
    rw [eq_i ezc (Term.int_eval 0) rfl] at r
    cases r
  obtain ⟨ta, eta⟩ := arr_v (Cond.before_iff.mp (hsets _ (List.mem_of_getElem? (i := 14) rfl)))
  have hta := Sta.start eta (Or.inl (hsets _ (List.mem_of_getElem? (i := 13) rfl)))
  have hA : IA s s.heap ta .int tabA := ia_of eta (Cond.before_iff.mp (hsets _ (List.mem_of_getElem? (i := 14) rfl))) (by rw [own_tlen]; decide) (by rw [own_tlen]; exact Cond.before_iff.mp (hsets _ (List.mem_of_getElem? (i := 16) rfl))) (fun i x hx => by
    have hi : i < 256 := by have := (List.getElem?_eq_some_iff.mp hx).1; rwa [own_tlen] at this
    refine Cond.before_iff.mp (hsets _ (List.mem_of_mem_drop (i := 17) ?_))
    rw [own_sets]
    refine List.mem_map.mpr ⟨i, List.mem_range.mpr hi, ?_⟩
    rw [List.getD_eq_getElem?_getD, hx]
    rfl)
  obtain ⟨ti, eti⟩ := exa_v (Cond.before_iff.mp (hsets _ (List.mem_of_getElem? (i := 11) rfl)))
  have hti := Sta.start eti (Or.inl (hsets _ (List.mem_of_getElem? (i := 10) rfl)))
  have hiE := Exa.start eti (Cond.before_iff.mp (hsets _ (List.mem_of_getElem? (i := 11) rfl)))
  have hC : CHv s consts_1 s.vm s.heap := CHv.start (own_EW hw) (fun p hp => hcalls.1 p hp) hcw (hw _ (List.mem_of_getElem? (i := 15) rfl)) (hw _ (List.mem_of_getElem? (i := 2) rfl))
  obtain ⟨n, o, h1, h2, h3, v, L, rfl, ⟨⟨_, hq, _⟩, N, _⟩, _, hend⟩ := rm_law l s _ hw s.heap.size s.heap (Old.start s) tables_1 zc hcs hzc ta ti hta hA hti hiE i0 i1 i2 i3 i4 p e ha hc hk s m _ below hf ((Spec.applies_iff_loose hf).mp happ).1 ⟨rfl, State.Warmed39.refl s, rfl, hC, fun _ q => nomatch q⟩ trivial
  have hq' : v = some (.int 1) := hq
  subst hq'
  exact ⟨n, _, h1, h2, h3, hpost _ _ _ _ _ _ ⟨Cond.after_iff.mpr rfl, Cond.after_iff.mpr (eq_i res_at (Term.int_eval (1)) rfl), trivial⟩ ⟨hend.1, hend.2.1, hend.2.2.1, (hend.2.2.2.sift fun y hy => Or.inr (N y hy)).mono (by decide) (by decide)⟩⟩
theorem main_1_1 : Claimed_1_1 := comes_1 fun _ _ _ _ _ _ h hF => ⟨h.1, hF⟩
theorem main_1_2 : Claimed_1_2 := comes_1 fun _ _ _ _ _ _ h hF => ⟨h.2.1, hF⟩
end Jvm.Pilot.@@N@@
namespace Jvm.Pilot.@@N@@
open Jvm Jvm.ClassFile Sem Op Lib Jvm.Free Jvm.Stand Jvm.Pilot.@@N@@.Jvm.D
/-! MADE BY PROGRAM (witnessworld.py) out of the Statement's table words and the real class files: 23 classes; the members and pool entries that the words name. The judged class is class 1, her method 1. -/
namespace start1
open Jvm.ClassFile
def u (s : String) : CpInfo := .utf8 (stringToUtf16 s)
/-- a pool by its gaps: so many unusable entries, then the entry; so many at the end -/
def gap : Nat → List CpInfo → List CpInfo
  | 0, r => r
  | n + 1, r => .unusable :: gap n r
def poolList (es : List (Nat × CpInfo)) (last : Nat) : List CpInfo := es.foldr (fun e r => gap e.1 (e.2 :: r)) (gap last [])
def pool (es : List (Nat × CpInfo)) (last : Nat) : Array CpInfo := ⟨poolList es last⟩
def fileOf (pool : Array CpInfo) (this : Nat) (attrs : Array Attribute := #[]) (ms : Array MethodInfo := #[]) (fl : Nat := 33) (sup : Nat := 0) (ifs : Array Nat := #[]) (fds : Array FieldInfo := #[]) : ClassFile where
  minorVersion := 0
  majorVersion := 65
  constantPool := pool
  accessFlags := fl
  thisClass := this
  superClass := sup
  interfaces := ifs
  fields := fds
  methods := ms
  attributes := attrs
def plain (name : String) (sup : Option ClassId) : Class where
  name := name
  kind := .ordinary
  loader := none
  accessFlags := 33
  super := sup
  interfaces := #[]
  cf := none
  fields := #[]
  methods := #[]
  instanceTypes := #[]
  staticTypes := #[]
  resolved := #[]
  callSites := []
  init := .initialized
  statics := none
  mirror := none

def pool0 : Array CpInfo := pool [(5, u "<init>"), (0, u "()V"), (1, .class_ 10), (1, u "java/lang/Object")] 113

def k0c0 : Code := { maxStack := 0, maxLocals := 1, code := object_method_1_code, exceptionTable := #[], attributes := #[] }
def k0m0 : Method := { name := "<init>", desc := "()V", sig := { parameters := [], returnType := none }, accessFlags := 1, code := some k0c0 }
/-- java/lang/Object -/
def k0 : Class := { plain "java/lang/Object" none with
  accessFlags := 33
  interfaces := #[]
  cf := some (fileOf pool0 8 #[] #[{ accessFlags := 1, nameIndex := 5, descriptorIndex := 6, attributes := #[] }] 33 0 #[] #[])
  fields := #[]
  methods := #[k0m0]
  instanceTypes := #[]
  staticTypes := #[]
  resolved := Array.replicate 124 none
  statics := none }

def pool1 : Array CpInfo := pool [(2, .class_ 4), (1, u "java/lang/Object"), (0, u "<init>"), (0, u "()V"), (0, .class_ 8), (0, u "java/lang/String"), (0, .methodref 7 10), (0, .nameAndType 5 11), (0, u "([C)V"), (0, .methodref 7 13), (0, .nameAndType 14 15), (0, u "valueOf"), (0, u "(C)Ljava/lang/String;"), (0, .methodref 17 18), (0, .class_ 19), (0, .nameAndType 20 21), (0, u "dev/yieldpoint/NamesCheckPinLaw"), (0, u "ws"), (0, u "(C)Z"), (0, .methodref 23 24), (0, .class_ 25), (0, .nameAndType 26 27), (0, u "dev/yieldpoint/Names"), (0, u "check"), (0, u "(Ljava/lang/String;Ljava/lang/String;)Ljava/lang/String;"), (0, .methodref 7 29), (0, .nameAndType 30 31), (0, u "equals"), (0, u "(Ljava/lang/Object;)Z"), (2, u "law"), (0, u "(IIIII)Z")] 5

def k1m0 : Method := { name := "<init>", desc := "()V", sig := { parameters := [], returnType := none }, accessFlags := 2, code := none }
def k1c1 : Code := { maxStack := 4, maxLocals := 17, code := code, exceptionTable := #[], attributes := #[] }
def k1m1 : Method := { name := "law", desc := "(IIIII)Z", sig := { parameters := [.int, .int, .int, .int, .int], returnType := some .boolean }, accessFlags := 9, code := some k1c1 }
def k1c2 : Code := { maxStack := 2, maxLocals := 1, code := method_3_code, exceptionTable := #[], attributes := #[] }
def k1m2 : Method := { name := "ws", desc := "(C)Z", sig := { parameters := [.char], returnType := some .boolean }, accessFlags := 10, code := some k1c2 }
/-- dev/yieldpoint/NamesCheckPinLaw -/
def k1 : Class := { plain "dev/yieldpoint/NamesCheckPinLaw" (some 0) with
  accessFlags := 49
  interfaces := #[]
  cf := some (fileOf pool1 17 #[] #[{ accessFlags := 2, nameIndex := 5, descriptorIndex := 6, attributes := #[] }, { accessFlags := 9, nameIndex := 34, descriptorIndex := 35, attributes := #[] }, { accessFlags := 10, nameIndex := 20, descriptorIndex := 21, attributes := #[] }] 49 2 #[] #[])
  fields := #[]
  methods := #[k1m0, k1m1, k1m2]
  instanceTypes := #[]
  staticTypes := #[]
  resolved := Array.replicate 41 none
  statics := none }

def pool2 : Array CpInfo := pool [(1, .class_ 2), (0, u "java/io/Serializable"), (0, .class_ 4), (0, u "java/lang/Object")] 2

/-- java/io/Serializable -/
def k2 : Class := { plain "java/io/Serializable" (some 0) with
  accessFlags := 1537
  interfaces := #[]
  cf := some (fileOf pool2 1 #[] #[] 1537 3 #[] #[])
  fields := #[]
  methods := #[]
  instanceTypes := #[]
  staticTypes := #[]
  resolved := Array.replicate 7 none
  statics := none }

def pool3 : Array CpInfo := pool [(1, .class_ 2), (0, u "java/lang/Comparable"), (0, .class_ 4), (0, u "java/lang/Object")] 7

/-- java/lang/Comparable -/
def k3 : Class := { plain "java/lang/Comparable" (some 0) with
  accessFlags := 1537
  interfaces := #[]
  cf := some (fileOf pool3 1 #[] #[] 1537 3 #[] #[])
  fields := #[]
  methods := #[]
  instanceTypes := #[]
  staticTypes := #[]
  resolved := Array.replicate 12 none
  statics := none }

def pool4 : Array CpInfo := pool [(2, .class_ 4), (1, u "java/lang/CharSequence"), (42, .class_ 48), (0, u "java/lang/CharSequence$1CodePointIterator"), (10, .class_ 60), (0, u "java/lang/CharSequence$1CharIterator"), (5, .class_ 67), (0, u "java/lang/Object")] 63

/-- java/lang/CharSequence -/
def k4 : Class := { plain "java/lang/CharSequence" (some 0) with
  accessFlags := 1537
  interfaces := #[]
  cf := some (fileOf pool4 2 #[.nestMembers #[47, 59]] #[] 1537 66 #[] #[])
  fields := #[]
  methods := #[]
  instanceTypes := #[]
  staticTypes := #[]
  resolved := Array.replicate 131 none
  statics := none }

def pool5 : Array CpInfo := pool [(1, .class_ 2), (0, u "java/lang/constant/Constable"), (0, .class_ 4), (0, u "java/lang/Object")] 6

/-- java/lang/constant/Constable -/
def k5 : Class := { plain "java/lang/constant/Constable" (some 0) with
  accessFlags := 1537
  interfaces := #[]
  cf := some (fileOf pool5 1 #[] #[] 1537 3 #[] #[])
  fields := #[]
  methods := #[]
  instanceTypes := #[]
  staticTypes := #[]
  resolved := Array.replicate 11 none
  statics := none }

def pool6 : Array CpInfo := pool [(1, .class_ 2), (0, u "java/lang/constant/ConstantDesc"), (0, .class_ 4), (0, u "java/lang/Object")] 32

/-- java/lang/constant/ConstantDesc -/
def k6 : Class := { plain "java/lang/constant/ConstantDesc" (some 0) with
  accessFlags := 1537
  interfaces := #[]
  cf := some (fileOf pool6 1 #[] #[] 1537 3 #[] #[])
  fields := #[]
  methods := #[]
  instanceTypes := #[]
  staticTypes := #[]
  resolved := Array.replicate 37 none
  statics := none }

def pool7 : Array CpInfo := pool [(1, .methodref 2 3), (0, .class_ 4), (0, .nameAndType 5 6), (0, u "java/lang/Object"), (0, u "<init>"), (0, u "()V"), (0, .string 8), (0, u ""), (0, .fieldref 10 11), (0, .class_ 12), (0, .nameAndType 13 14), (0, u "java/lang/String"), (0, u "value"), (0, u "[B"), (0, .fieldref 10 16), (0, .nameAndType 17 18), (0, u "coder"), (0, u "B"), (2, u "hash"), (0, u "I"), (2, u "hashIsZero"), (0, u "Z"), (0, .methodref 10 28), (0, .nameAndType 5 29), (0, u "([CIILjava/lang/Void;)V"), (8, .fieldref 10 39), (0, .nameAndType 40 26), (0, u "COMPACT_STRINGS"), (1, .class_ 44), (1, u "java/lang/StringUTF16"), (0, u "compress"), (1, .methodref 42 48), (0, .nameAndType 49 50), (0, u "coderFromArrayLen"), (0, u "([BI)B"), (2, u "toBytes"), (53, .class_ 109), (1, u "java/lang/StringLatin1"), (32, u "()Z"), (34, .methodref 42 178), (0, .nameAndType 45 179), (0, u "([CII)[B"), (29, .methodref 10 210), (0, .nameAndType 5 211), (0, u "([BB)V"), (122, u "()I"), (0, .methodref 10 336), (0, .nameAndType 17 337), (0, u "()B"), (31, u "(C)Z"), (122, .methodref 10 493), (0, .nameAndType 494 142), (0, u "isLatin1"), (10, .methodref 10 506), (0, .nameAndType 507 334), (0, u "length"), (35, u "equals"), (29, u "(Ljava/lang/Object;)Z"), (1, .class_ 576), (0, u "java/lang/CharSequence"), (22, u "CASE_INSENSITIVE_ORDER"), (0, u "Ljava/util/Comparator;"), (30, u "([B)I"), (150, u "valueOf"), (0, u "(C)Ljava/lang/String;"), (92, .methodref 10 877), (0, .nameAndType 878 334), (0, u "indexOfNonWhitespace"), (45, .methodref 107 925), (0, .nameAndType 878 631), (26, u "isBlank"), (57, u "([C)V"), (4, .methodref 107 1016), (0, .nameAndType 1017 369), (0, u "canEncode"), (0, .methodref 107 1019), (0, .nameAndType 53 1020), (0, u "(C)[B"), (80, u "serialPersistentFields"), (0, u "[Ljava/io/ObjectStreamField;"), (0, .class_ 1104), (0, u "java/lang/String$CaseInsensitiveComparator"), (1, .class_ 1107), (0, u "java/io/Serializable"), (0, .class_ 1109), (0, u "java/lang/Comparable"), (0, .class_ 1111), (0, u "java/lang/constant/Constable"), (0, .class_ 1113), (0, u "java/lang/constant/ConstantDesc"), (2, u "serialVersionUID"), (0, u "J"), (3, u "REPL"), (0, u "C"), (2, u "LATIN1"), (1, u "UTF16")] 323

def k7m0 : Method := { name := "<init>", desc := "()V", sig := { parameters := [], returnType := none }, accessFlags := 1, code := none }
def k7c1 : Code := { maxStack := 5, maxLocals := 2, code := jdk_42_method_3_code, exceptionTable := #[], attributes := #[] }
def k7m1 : Method := { name := "<init>", desc := "([C)V", sig := { parameters := [(.array .char)], returnType := none }, accessFlags := 1, code := some k7c1 }
def k7c2 : Code := { maxStack := 2, maxLocals := 1, code := jdk_42_method_54_code, exceptionTable := #[], attributes := #[] }
def k7m2 : Method := { name := "length", desc := "()I", sig := { parameters := [], returnType := some .int }, accessFlags := 1, code := some k7c2 }
def k7c3 : Code := { maxStack := 2, maxLocals := 3, code := jdk_42_method_66_code, exceptionTable := #[], attributes := #[] }
def k7m3 : Method := { name := "equals", desc := "(Ljava/lang/Object;)Z", sig := { parameters := [(.object "java/lang/Object")], returnType := some .boolean }, accessFlags := 1, code := some k7c3 }
def k7c4 : Code := { maxStack := 2, maxLocals := 1, code := jdk_42_method_117_code, exceptionTable := #[], attributes := #[] }
def k7m4 : Method := { name := "isBlank", desc := "()Z", sig := { parameters := [], returnType := some .boolean }, accessFlags := 1, code := some k7c4 }
def k7c5 : Code := { maxStack := 1, maxLocals := 1, code := jdk_42_method_120_code, exceptionTable := #[], attributes := #[] }
def k7m5 : Method := { name := "indexOfNonWhitespace", desc := "()I", sig := { parameters := [], returnType := some .int }, accessFlags := 2, code := some k7c5 }
def k7c6 : Code := { maxStack := 4, maxLocals := 1, code := jdk_42_method_139_code, exceptionTable := #[], attributes := #[] }
def k7m6 : Method := { name := "valueOf", desc := "(C)Ljava/lang/String;", sig := { parameters := [.char], returnType := some (.object "java/lang/String") }, accessFlags := 9, code := some k7c6 }
def k7c7 : Code := { maxStack := 4, maxLocals := 6, code := jdk_42_method_149_code, exceptionTable := #[], attributes := #[] }
def k7m7 : Method := { name := "<init>", desc := "([CIILjava/lang/Void;)V", sig := { parameters := [(.array .char), .int, .int, (.object "java/lang/Void")], returnType := none }, accessFlags := 2, code := some k7c7 }
def k7c8 : Code := { maxStack := 2, maxLocals := 3, code := jdk_42_method_151_code, exceptionTable := #[], attributes := #[] }
def k7m8 : Method := { name := "<init>", desc := "([BB)V", sig := { parameters := [(.array .byte), .byte], returnType := none }, accessFlags := 0, code := some k7c8 }
def k7c9 : Code := { maxStack := 1, maxLocals := 1, code := jdk_42_method_152_code, exceptionTable := #[], attributes := #[] }
def k7m9 : Method := { name := "coder", desc := "()B", sig := { parameters := [], returnType := some .byte }, accessFlags := 0, code := some k7c9 }
def k7c10 : Code := { maxStack := 1, maxLocals := 1, code := jdk_42_method_154_code, exceptionTable := #[], attributes := #[] }
def k7m10 : Method := { name := "isLatin1", desc := "()Z", sig := { parameters := [], returnType := some .boolean }, accessFlags := 0, code := some k7c10 }
/-- java/lang/String -/
def k7 : Class := { plain "java/lang/String" (some 0) with
  accessFlags := 49
  interfaces := #[2, 3, 4, 5, 6]
  cf := some (fileOf pool7 10 #[.nestMembers #[1103]] #[{ accessFlags := 1, nameIndex := 5, descriptorIndex := 6, attributes := #[] }, { accessFlags := 1, nameIndex := 5, descriptorIndex := 1010, attributes := #[] }, { accessFlags := 1, nameIndex := 507, descriptorIndex := 334, attributes := #[] }, { accessFlags := 1, nameIndex := 543, descriptorIndex := 573, attributes := #[] }, { accessFlags := 1, nameIndex := 952, descriptorIndex := 142, attributes := #[] }, { accessFlags := 2, nameIndex := 878, descriptorIndex := 334, attributes := #[] }, { accessFlags := 9, nameIndex := 782, descriptorIndex := 783, attributes := #[] }, { accessFlags := 2, nameIndex := 5, descriptorIndex := 29, attributes := #[] }, { accessFlags := 0, nameIndex := 5, descriptorIndex := 211, attributes := #[] }, { accessFlags := 0, nameIndex := 17, descriptorIndex := 337, attributes := #[] }, { accessFlags := 0, nameIndex := 494, descriptorIndex := 142, attributes := #[] }] 49 2 #[1106, 1108, 575, 1110, 1112] #[{ accessFlags := 18, nameIndex := 13, descriptorIndex := 14, attributes := #[] }, { accessFlags := 18, nameIndex := 17, descriptorIndex := 18, attributes := #[] }, { accessFlags := 2, nameIndex := 21, descriptorIndex := 22, attributes := #[] }, { accessFlags := 2, nameIndex := 25, descriptorIndex := 26, attributes := #[] }, { accessFlags := 26, nameIndex := 1116, descriptorIndex := 1117, attributes := #[] }, { accessFlags := 24, nameIndex := 40, descriptorIndex := 26, attributes := #[] }, { accessFlags := 26, nameIndex := 1101, descriptorIndex := 1102, attributes := #[] }, { accessFlags := 26, nameIndex := 1121, descriptorIndex := 1122, attributes := #[] }, { accessFlags := 25, nameIndex := 599, descriptorIndex := 600, attributes := #[] }, { accessFlags := 24, nameIndex := 1125, descriptorIndex := 18, attributes := #[] }, { accessFlags := 24, nameIndex := 1127, descriptorIndex := 18, attributes := #[] }])
  fields := #[{ name := "value", type := (.array .byte), accessFlags := 18, slot := 0, constantValue := 0 }, { name := "coder", type := .byte, accessFlags := 18, slot := 1, constantValue := 0 }, { name := "hash", type := .int, accessFlags := 2, slot := 2, constantValue := 0 }, { name := "hashIsZero", type := .boolean, accessFlags := 2, slot := 3, constantValue := 0 }, { name := "serialVersionUID", type := .long, accessFlags := 26, slot := 0, constantValue := 0 }, { name := "COMPACT_STRINGS", type := .boolean, accessFlags := 24, slot := 1, constantValue := 0 }, { name := "serialPersistentFields", type := (.array (.object "java/io/ObjectStreamField")), accessFlags := 26, slot := 2, constantValue := 0 }, { name := "REPL", type := .char, accessFlags := 26, slot := 3, constantValue := 0 }, { name := "CASE_INSENSITIVE_ORDER", type := (.object "java/util/Comparator"), accessFlags := 25, slot := 4, constantValue := 0 }, { name := "LATIN1", type := .byte, accessFlags := 24, slot := 5, constantValue := 0 }, { name := "UTF16", type := .byte, accessFlags := 24, slot := 6, constantValue := 0 }]
  methods := #[k7m0, k7m1, k7m2, k7m3, k7m4, k7m5, k7m6, k7m7, k7m8, k7m9, k7m10]
  instanceTypes := #[(.array .byte), .byte, .int, .boolean]
  staticTypes := #[.long, .boolean, (.array (.object "java/io/ObjectStreamField")), .char, (.object "java/util/Comparator"), .byte, .byte]
  resolved := Array.replicate 1451 none
  statics := some 0 }

def pool8 : Array CpInfo := pool [(4, .class_ 6), (1, u "java/lang/Object"), (0, u "<init>"), (0, u "()V"), (5, .class_ 16), (1, u "java/lang/StringLatin1"), (33, .methodref 14 51), (0, .nameAndType 52 53), (0, u "getChar"), (0, u "([BI)C"), (3, u "([B)I"), (8, .fieldref 67 68), (0, .class_ 69), (0, .nameAndType 70 71), (0, u "java/lang/CharacterDataLatin1"), (0, u "instance"), (0, u "Ljava/lang/CharacterDataLatin1;"), (18, u "canEncode"), (0, u "(I)Z"), (13, u "(C)Z"), (15, u "$assertionsDisabled"), (0, u "Z"), (88, .methodref 67 212), (0, .nameAndType 213 91), (0, u "isWhitespace"), (2, u "indexOfNonWhitespace"), (4, .class_ 223), (1, u "java/lang/StringLatin1$LinesSpliterator"), (156, u "toBytes"), (1, u "(C)[B"), (7, .class_ 391), (0, u "java/lang/StringLatin1$CharsSpliterator")] 3

def k8m0 : Method := { name := "<init>", desc := "()V", sig := { parameters := [], returnType := none }, accessFlags := 0, code := none }
def k8c1 : Code := { maxStack := 2, maxLocals := 1, code := jdk_43_method_3_code, exceptionTable := #[], attributes := #[] }
def k8m1 : Method := { name := "canEncode", desc := "(C)Z", sig := { parameters := [.char], returnType := some .boolean }, accessFlags := 9, code := some k8c1 }
def k8c2 : Code := { maxStack := 2, maxLocals := 4, code := jdk_43_method_37_code, exceptionTable := #[], attributes := #[] }
def k8m2 : Method := { name := "indexOfNonWhitespace", desc := "([B)I", sig := { parameters := [(.array .byte)], returnType := some .int }, accessFlags := 9, code := some k8c2 }
def k8c3 : Code := { maxStack := 2, maxLocals := 2, code := jdk_43_method_44_code, exceptionTable := #[], attributes := #[] }
def k8m3 : Method := { name := "getChar", desc := "([BI)C", sig := { parameters := [(.array .byte), .int], returnType := some .char }, accessFlags := 9, code := some k8c3 }
def k8c4 : Code := { maxStack := 4, maxLocals := 1, code := jdk_43_method_46_code, exceptionTable := #[], attributes := #[] }
def k8m4 : Method := { name := "toBytes", desc := "(C)[B", sig := { parameters := [.char], returnType := some (.array .byte) }, accessFlags := 9, code := some k8c4 }
/-- java/lang/StringLatin1 -/
def k8 : Class := { plain "java/lang/StringLatin1" (some 0) with
  accessFlags := 48
  interfaces := #[]
  cf := some (fileOf pool8 14 #[.nestMembers #[390, 221]] #[{ accessFlags := 0, nameIndex := 7, descriptorIndex := 8, attributes := #[] }, { accessFlags := 9, nameIndex := 90, descriptorIndex := 105, attributes := #[] }, { accessFlags := 9, nameIndex := 216, descriptorIndex := 57, attributes := #[] }, { accessFlags := 9, nameIndex := 52, descriptorIndex := 53, attributes := #[] }, { accessFlags := 9, nameIndex := 380, descriptorIndex := 382, attributes := #[] }] 48 4 #[] #[{ accessFlags := 4120, nameIndex := 121, descriptorIndex := 122, attributes := #[] }])
  fields := #[{ name := "$assertionsDisabled", type := .boolean, accessFlags := 4120, slot := 0, constantValue := 0 }]
  methods := #[k8m0, k8m1, k8m2, k8m3, k8m4]
  instanceTypes := #[]
  staticTypes := #[.boolean]
  resolved := Array.replicate 395 none
  statics := none }

def pool9 : Array CpInfo := pool [(6, .class_ 8), (1, u "java/lang/Object"), (0, u "<init>"), (0, u "()V"), (1, .class_ 14), (1, u "java/lang/StringUTF16"), (31, u "$assertionsDisabled"), (0, u "Z"), (13, u "HI_BYTE_SHIFT"), (0, u "I"), (2, u "LO_BYTE_SHIFT"), (49, .methodref 12 116), (0, .nameAndType 117 118), (0, u "compress"), (0, u "([CI[BII)I"), (3, u "([CII)[B"), (138, u "coderFromArrayLen"), (0, u "([BI)B"), (106, .class_ 371), (1, u "java/lang/StringUTF16$LinesSpliterator"), (58, u "MAX_LENGTH"), (196, .class_ 628), (0, u "java/lang/StringUTF16$CodePointsSpliterator"), (0, .class_ 630), (0, u "java/lang/StringUTF16$CharsSpliterator")] 4

def k9m0 : Method := { name := "<init>", desc := "()V", sig := { parameters := [], returnType := none }, accessFlags := 0, code := none }
def k9c1 : Code := { maxStack := 2, maxLocals := 2, code := jdk_52_method_15_code, exceptionTable := #[], attributes := #[] }
def k9m1 : Method := { name := "coderFromArrayLen", desc := "([BI)B", sig := { parameters := [(.array .byte), .int], returnType := some .byte }, accessFlags := 8, code := some k9c1 }
def k9c2 : Code := { maxStack := 5, maxLocals := 6, code := jdk_52_method_16_code, exceptionTable := #[], attributes := #[] }
def k9m2 : Method := { name := "compress", desc := "([CII)[B", sig := { parameters := [(.array .char), .int, .int], returnType := some (.array .byte) }, accessFlags := 9, code := some k9c2 }
def k9c3 : Code := { maxStack := 3, maxLocals := 7, code := jdk_52_method_21_code, exceptionTable := #[], attributes := #[] }
def k9m3 : Method := { name := "compress", desc := "([CI[BII)I", sig := { parameters := [(.array .char), .int, (.array .byte), .int, .int], returnType := some .int }, accessFlags := 9, code := some k9c3 }
/-- java/lang/StringUTF16 -/
def k9 : Class := { plain "java/lang/StringUTF16" (some 0) with
  accessFlags := 48
  interfaces := #[]
  cf := some (fileOf pool9 12 #[.nestMembers #[627, 629, 369]] #[{ accessFlags := 0, nameIndex := 9, descriptorIndex := 10, attributes := #[] }, { accessFlags := 8, nameIndex := 261, descriptorIndex := 262, attributes := #[] }, { accessFlags := 9, nameIndex := 117, descriptorIndex := 122, attributes := #[] }, { accessFlags := 9, nameIndex := 117, descriptorIndex := 118, attributes := #[] }] 48 6 #[] #[{ accessFlags := 26, nameIndex := 61, descriptorIndex := 62, attributes := #[] }, { accessFlags := 26, nameIndex := 65, descriptorIndex := 62, attributes := #[] }, { accessFlags := 24, nameIndex := 430, descriptorIndex := 62, attributes := #[] }, { accessFlags := 4120, nameIndex := 46, descriptorIndex := 47, attributes := #[] }])
  fields := #[{ name := "HI_BYTE_SHIFT", type := .int, accessFlags := 26, slot := 0, constantValue := 0 }, { name := "LO_BYTE_SHIFT", type := .int, accessFlags := 26, slot := 1, constantValue := 0 }, { name := "MAX_LENGTH", type := .int, accessFlags := 24, slot := 2, constantValue := 0 }, { name := "$assertionsDisabled", type := .boolean, accessFlags := 4120, slot := 3, constantValue := 0 }]
  methods := #[k9m0, k9m1, k9m2, k9m3]
  instanceTypes := #[]
  staticTypes := #[.int, .int, .int, .boolean]
  resolved := Array.replicate 635 none
  statics := none }

def pool10 : Array CpInfo := pool [(2, .class_ 4), (1, u "java/lang/Object"), (0, u "<init>"), (0, u "()V"), (0, .string 8), (0, u "name"), (0, .methodref 10 11), (0, .class_ 12), (0, .nameAndType 13 14), (0, u "java/util/Objects"), (0, u "requireNonNull"), (0, u "(Ljava/lang/Object;Ljava/lang/String;)Ljava/lang/Object;"), (0, .methodref 16 17), (0, .class_ 18), (0, .nameAndType 19 20), (0, u "java/lang/String"), (0, u "isBlank"), (0, u "()Z"), (9, .class_ 31), (0, u "dev/yieldpoint/Names"), (2, u "check"), (0, u "(Ljava/lang/String;Ljava/lang/String;)Ljava/lang/String;")] 18

def k10m0 : Method := { name := "<init>", desc := "()V", sig := { parameters := [], returnType := none }, accessFlags := 2, code := none }
def k10c1 : Code := { maxStack := 3, maxLocals := 2, code := prog_2_method_2_code, exceptionTable := #[], attributes := #[] }
def k10m1 : Method := { name := "check", desc := "(Ljava/lang/String;Ljava/lang/String;)Ljava/lang/String;", sig := { parameters := [(.object "java/lang/String"), (.object "java/lang/String")], returnType := some (.object "java/lang/String") }, accessFlags := 8, code := some k10c1 }
/-- dev/yieldpoint/Names -/
def k10 : Class := { plain "dev/yieldpoint/Names" (some 0) with
  accessFlags := 48
  interfaces := #[]
  cf := some (fileOf pool10 30 #[] #[{ accessFlags := 2, nameIndex := 5, descriptorIndex := 6, attributes := #[] }, { accessFlags := 8, nameIndex := 34, descriptorIndex := 35, attributes := #[] }] 48 2 #[] #[])
  fields := #[]
  methods := #[k10m0, k10m1]
  instanceTypes := #[]
  staticTypes := #[]
  resolved := Array.replicate 54 none
  statics := none }

def pool11 : Array CpInfo := pool [(2, .class_ 4), (1, u "java/lang/Object"), (0, u "<init>"), (0, u "()V"), (35, .class_ 44), (1, u "java/util/Objects"), (0, u "requireNonNull"), (48, u "(Ljava/lang/Object;Ljava/lang/String;)Ljava/lang/Object;")] 89

def k11m0 : Method := { name := "<init>", desc := "()V", sig := { parameters := [], returnType := none }, accessFlags := 2, code := none }
def k11c1 : Code := { maxStack := 3, maxLocals := 2, code := jdk_31_method_11_code, exceptionTable := #[], attributes := #[] }
def k11m1 : Method := { name := "requireNonNull", desc := "(Ljava/lang/Object;Ljava/lang/String;)Ljava/lang/Object;", sig := { parameters := [(.object "java/lang/Object"), (.object "java/lang/String")], returnType := some (.object "java/lang/Object") }, accessFlags := 9, code := some k11c1 }
/-- java/util/Objects -/
def k11 : Class := { plain "java/util/Objects" (some 0) with
  accessFlags := 49
  interfaces := #[]
  cf := some (fileOf pool11 42 #[] #[{ accessFlags := 2, nameIndex := 5, descriptorIndex := 6, attributes := #[] }, { accessFlags := 9, nameIndex := 45, descriptorIndex := 94, attributes := #[] }] 49 2 #[] #[])
  fields := #[]
  methods := #[k11m0, k11m1]
  instanceTypes := #[]
  staticTypes := #[]
  resolved := Array.replicate 184 none
  statics := none }

def pool12 : Array CpInfo := pool [(2, .class_ 4), (1, u "java/lang/Object"), (0, u "<init>"), (0, u "()V"), (1, .class_ 10), (1, u "java/lang/CharacterData")] 75

def k12m0 : Method := { name := "<init>", desc := "()V", sig := { parameters := [], returnType := none }, accessFlags := 0, code := none }
/-- java/lang/CharacterData -/
def k12 : Class := { plain "java/lang/CharacterData" (some 0) with
  accessFlags := 1056
  interfaces := #[]
  cf := some (fileOf pool12 8 #[] #[{ accessFlags := 0, nameIndex := 5, descriptorIndex := 6, attributes := #[] }] 1056 2 #[] #[])
  fields := #[]
  methods := #[k12m0]
  instanceTypes := #[]
  staticTypes := #[]
  resolved := Array.replicate 86 none
  statics := none }

def pool13 : Array CpInfo := pool [(1, .fieldref 2 3), (0, .class_ 4), (0, .nameAndType 5 6), (0, u "java/lang/CharacterDataLatin1"), (0, u "A"), (0, u "[I"), (2, u "B"), (0, u "[C"), (3, u "(I)I"), (0, .methodref 2 16), (0, .nameAndType 17 14), (0, u "getProperties"), (3, u "(I)Z"), (5, u "DIGITS"), (0, u "[B"), (8, u "sharpsMap"), (1, .class_ 41), (1, u "java/lang/CharacterData"), (0, u "<init>"), (0, u "()V"), (3, u "instance"), (0, u "Ljava/lang/CharacterDataLatin1;"), (78, u "isWhitespace")] 13

def k13c0 : Code := { maxStack := 2, maxLocals := 4, code := jdk_116_method_1_code, exceptionTable := #[], attributes := #[] }
def k13m0 : Method := { name := "getProperties", desc := "(I)I", sig := { parameters := [.int], returnType := some .int }, accessFlags := 0, code := some k13c0 }
def k13c1 : Code := { maxStack := 2, maxLocals := 3, code := jdk_116_method_26_code, exceptionTable := #[], attributes := #[] }
def k13m1 : Method := { name := "isWhitespace", desc := "(I)Z", sig := { parameters := [.int], returnType := some .boolean }, accessFlags := 0, code := some k13c1 }
def k13m2 : Method := { name := "<init>", desc := "()V", sig := { parameters := [], returnType := none }, accessFlags := 2, code := none }
/-- java/lang/CharacterDataLatin1 -/
def k13 : Class := { plain "java/lang/CharacterDataLatin1" (some 12) with
  accessFlags := 32
  interfaces := #[]
  cf := some (fileOf pool13 2 #[] #[{ accessFlags := 0, nameIndex := 17, descriptorIndex := 14, attributes := #[] }, { accessFlags := 0, nameIndex := 127, descriptorIndex := 21, attributes := #[] }, { accessFlags := 2, nameIndex := 42, descriptorIndex := 43, attributes := #[] }] 32 39 #[] #[{ accessFlags := 26, nameIndex := 27, descriptorIndex := 28, attributes := #[] }, { accessFlags := 8, nameIndex := 37, descriptorIndex := 10, attributes := #[] }, { accessFlags := 24, nameIndex := 47, descriptorIndex := 48, attributes := #[] }, { accessFlags := 24, nameIndex := 5, descriptorIndex := 6, attributes := #[] }, { accessFlags := 24, nameIndex := 9, descriptorIndex := 10, attributes := #[] }])
  fields := #[{ name := "DIGITS", type := (.array .byte), accessFlags := 26, slot := 0, constantValue := 0 }, { name := "sharpsMap", type := (.array .char), accessFlags := 8, slot := 1, constantValue := 0 }, { name := "instance", type := (.object "java/lang/CharacterDataLatin1"), accessFlags := 24, slot := 2, constantValue := 0 }, { name := "A", type := (.array .int), accessFlags := 24, slot := 3, constantValue := 0 }, { name := "B", type := (.array .char), accessFlags := 24, slot := 4, constantValue := 0 }]
  methods := #[k13m0, k13m1, k13m2]
  instanceTypes := #[]
  staticTypes := #[(.array .byte), (.array .char), (.object "java/lang/CharacterDataLatin1"), (.array .int), (.array .char)]
  resolved := Array.replicate 141 none
  statics := some 1 }

def pool14 : Array CpInfo := pool [(9, u "<init>"), (6, .class_ 18), (1, u "java/lang/Object"), (0, u "()V"), (1, .class_ 23), (1, u "jdk/internal/util/ArraysSupport"), (0, u "LOG2_ARRAY_LONG_INDEX_SCALE"), (0, u "I"), (2, u "U"), (0, u "Ljdk/internal/misc/Unsafe;"), (8, u "BIG_ENDIAN"), (0, u "Z"), (8, u "LOG2_BYTE_BIT_SIZE"), (4, u "LOG2_ARRAY_INT_INDEX_SCALE"), (54, u "JLA"), (0, u "Ljdk/internal/access/JavaLangAccess;"), (11, u "LOG2_ARRAY_BOOLEAN_INDEX_SCALE"), (9, u "LOG2_ARRAY_BYTE_INDEX_SCALE"), (5, u "LOG2_ARRAY_CHAR_INDEX_SCALE"), (5, u "LOG2_ARRAY_SHORT_INDEX_SCALE"), (18, u "LOG2_ARRAY_FLOAT_INDEX_SCALE"), (24, u "LOG2_ARRAY_DOUBLE_INDEX_SCALE"), (89, u "T_BOOLEAN"), (2, u "T_CHAR"), (1, u "T_FLOAT"), (1, u "T_DOUBLE"), (1, u "T_BYTE"), (1, u "T_SHORT"), (1, u "T_INT"), (1, u "T_LONG"), (1, u "SOFT_MAX_ARRAY_LENGTH")] 83

def k14m0 : Method := { name := "<init>", desc := "()V", sig := { parameters := [], returnType := none }, accessFlags := 2, code := none }
/-- jdk/internal/util/ArraysSupport -/
def k14 : Class := { plain "jdk/internal/util/ArraysSupport" (some 0) with
  accessFlags := 33
  interfaces := #[]
  cf := some (fileOf pool14 21 #[] #[{ accessFlags := 2, nameIndex := 9, descriptorIndex := 19, attributes := #[] }] 33 16 #[] #[{ accessFlags := 24, nameIndex := 28, descriptorIndex := 29, attributes := #[] }, { accessFlags := 26, nameIndex := 38, descriptorIndex := 39, attributes := #[] }, { accessFlags := 25, nameIndex := 121, descriptorIndex := 25, attributes := #[] }, { accessFlags := 25, nameIndex := 131, descriptorIndex := 25, attributes := #[] }, { accessFlags := 25, nameIndex := 137, descriptorIndex := 25, attributes := #[] }, { accessFlags := 25, nameIndex := 143, descriptorIndex := 25, attributes := #[] }, { accessFlags := 25, nameIndex := 53, descriptorIndex := 25, attributes := #[] }, { accessFlags := 25, nameIndex := 24, descriptorIndex := 25, attributes := #[] }, { accessFlags := 25, nameIndex := 162, descriptorIndex := 25, attributes := #[] }, { accessFlags := 25, nameIndex := 187, descriptorIndex := 25, attributes := #[] }, { accessFlags := 26, nameIndex := 48, descriptorIndex := 25, attributes := #[] }, { accessFlags := 25, nameIndex := 277, descriptorIndex := 25, attributes := #[] }, { accessFlags := 25, nameIndex := 280, descriptorIndex := 25, attributes := #[] }, { accessFlags := 25, nameIndex := 282, descriptorIndex := 25, attributes := #[] }, { accessFlags := 25, nameIndex := 284, descriptorIndex := 25, attributes := #[] }, { accessFlags := 25, nameIndex := 286, descriptorIndex := 25, attributes := #[] }, { accessFlags := 25, nameIndex := 288, descriptorIndex := 25, attributes := #[] }, { accessFlags := 25, nameIndex := 290, descriptorIndex := 25, attributes := #[] }, { accessFlags := 25, nameIndex := 292, descriptorIndex := 25, attributes := #[] }, { accessFlags := 26, nameIndex := 108, descriptorIndex := 109, attributes := #[] }, { accessFlags := 25, nameIndex := 294, descriptorIndex := 25, attributes := #[] }])
  fields := #[{ name := "U", type := (.object "jdk/internal/misc/Unsafe"), accessFlags := 24, slot := 0, constantValue := 0 }, { name := "BIG_ENDIAN", type := .boolean, accessFlags := 26, slot := 1, constantValue := 0 }, { name := "LOG2_ARRAY_BOOLEAN_INDEX_SCALE", type := .int, accessFlags := 25, slot := 2, constantValue := 0 }, { name := "LOG2_ARRAY_BYTE_INDEX_SCALE", type := .int, accessFlags := 25, slot := 3, constantValue := 0 }, { name := "LOG2_ARRAY_CHAR_INDEX_SCALE", type := .int, accessFlags := 25, slot := 4, constantValue := 0 }, { name := "LOG2_ARRAY_SHORT_INDEX_SCALE", type := .int, accessFlags := 25, slot := 5, constantValue := 0 }, { name := "LOG2_ARRAY_INT_INDEX_SCALE", type := .int, accessFlags := 25, slot := 6, constantValue := 0 }, { name := "LOG2_ARRAY_LONG_INDEX_SCALE", type := .int, accessFlags := 25, slot := 7, constantValue := 0 }, { name := "LOG2_ARRAY_FLOAT_INDEX_SCALE", type := .int, accessFlags := 25, slot := 8, constantValue := 0 }, { name := "LOG2_ARRAY_DOUBLE_INDEX_SCALE", type := .int, accessFlags := 25, slot := 9, constantValue := 0 }, { name := "LOG2_BYTE_BIT_SIZE", type := .int, accessFlags := 26, slot := 10, constantValue := 0 }, { name := "T_BOOLEAN", type := .int, accessFlags := 25, slot := 11, constantValue := 0 }, { name := "T_CHAR", type := .int, accessFlags := 25, slot := 12, constantValue := 0 }, { name := "T_FLOAT", type := .int, accessFlags := 25, slot := 13, constantValue := 0 }, { name := "T_DOUBLE", type := .int, accessFlags := 25, slot := 14, constantValue := 0 }, { name := "T_BYTE", type := .int, accessFlags := 25, slot := 15, constantValue := 0 }, { name := "T_SHORT", type := .int, accessFlags := 25, slot := 16, constantValue := 0 }, { name := "T_INT", type := .int, accessFlags := 25, slot := 17, constantValue := 0 }, { name := "T_LONG", type := .int, accessFlags := 25, slot := 18, constantValue := 0 }, { name := "JLA", type := (.object "jdk/internal/access/JavaLangAccess"), accessFlags := 26, slot := 19, constantValue := 0 }, { name := "SOFT_MAX_ARRAY_LENGTH", type := .int, accessFlags := 25, slot := 20, constantValue := 0 }]
  methods := #[k14m0]
  instanceTypes := #[]
  staticTypes := #[(.object "jdk/internal/misc/Unsafe"), .boolean, .int, .int, .int, .int, .int, .int, .int, .int, .int, .int, .int, .int, .int, .int, .int, .int, .int, (.object "jdk/internal/access/JavaLangAccess"), .int]
  resolved := Array.replicate 378 none
  statics := some 2 }

def pool15 : Array CpInfo := pool [(2, .class_ 4), (1, u "java/lang/Object"), (0, u "<init>"), (0, u "()V"), (17, .class_ 26), (1, u "jdk/internal/util/Preconditions"), (28, .class_ 56), (0, u "jdk/internal/util/Preconditions$4"), (57, .class_ 115), (0, u "jdk/internal/util/Preconditions$1"), (7, u "SIOOBE_FORMATTER"), (0, u "Ljava/util/function/BiFunction;"), (0, .class_ 126), (0, u "jdk/internal/util/Preconditions$2"), (3, u "AIOOBE_FORMATTER"), (0, .class_ 132), (0, u "jdk/internal/util/Preconditions$3"), (3, u "IOOBE_FORMATTER")] 57

def k15m0 : Method := { name := "<init>", desc := "()V", sig := { parameters := [], returnType := none }, accessFlags := 1, code := none }
/-- jdk/internal/util/Preconditions -/
def k15 : Class := { plain "jdk/internal/util/Preconditions" (some 0) with
  accessFlags := 33
  interfaces := #[]
  cf := some (fileOf pool15 24 #[.nestMembers #[55, 131, 125, 114]] #[{ accessFlags := 1, nameIndex := 5, descriptorIndex := 6, attributes := #[] }] 33 2 #[] #[{ accessFlags := 25, nameIndex := 123, descriptorIndex := 124, attributes := #[] }, { accessFlags := 25, nameIndex := 130, descriptorIndex := 124, attributes := #[] }, { accessFlags := 25, nameIndex := 136, descriptorIndex := 124, attributes := #[] }])
  fields := #[{ name := "SIOOBE_FORMATTER", type := (.object "java/util/function/BiFunction"), accessFlags := 25, slot := 0, constantValue := 0 }, { name := "AIOOBE_FORMATTER", type := (.object "java/util/function/BiFunction"), accessFlags := 25, slot := 1, constantValue := 0 }, { name := "IOOBE_FORMATTER", type := (.object "java/util/function/BiFunction"), accessFlags := 25, slot := 2, constantValue := 0 }]
  methods := #[k15m0]
  instanceTypes := #[]
  staticTypes := #[(.object "java/util/function/BiFunction"), (.object "java/util/function/BiFunction"), (.object "java/util/function/BiFunction")]
  resolved := Array.replicate 194 none
  statics := some 3 }

def pool16 : Array CpInfo := pool [(1, u "java/lang/Cloneable"), (0, .class_ 1), (0, u "java/lang/Object"), (0, .class_ 3)] 3

/-- java/lang/Cloneable -/
def k16 : Class := { plain "java/lang/Cloneable" (some 0) with
  accessFlags := 1537
  interfaces := #[]
  cf := some (fileOf pool16 2 #[] #[] 1537 4 #[] #[])
  fields := #[]
  methods := #[]
  instanceTypes := #[]
  staticTypes := #[]
  resolved := Array.replicate 8 none
  statics := none }

/-- the primitive byte -/
def k17 : Class := { plain "byte" none with kind := .primitive 'B', accessFlags := 0x411 }
/-- [B -/
def k18 : Class := { plain "[B" (some 0) with kind := .array 17 .byte, interfaces := #[16, 2], accessFlags := 1041 }

/-- the primitive char -/
def k19 : Class := { plain "char" none with kind := .primitive 'C', accessFlags := 0x411 }
/-- [C -/
def k20 : Class := { plain "[C" (some 0) with kind := .array 19 .char, interfaces := #[16, 2], accessFlags := 1041 }

/-- the primitive int -/
def k21 : Class := { plain "int" none with kind := .primitive 'I', accessFlags := 0x411 }
/-- [I -/
def k22 : Class := { plain "[I" (some 0) with kind := .array 21 .int, interfaces := #[16, 2], accessFlags := 1041 }

def heap : Heap := #[{ cls := 7, slots := #[.long 0, .int 1, .null, .int 0, .null, .int 0, .int 0], vm := .statics 7 },
  { cls := 13, slots := #[.null, .null, .ref 4, .ref 5, .null], vm := .statics 13 },
  { cls := 14, slots := #[.null, .int 0, .int 0, .int 0, .int 0, .int 0, .int 0, .int 0, .int 0, .int 0, .int 0, .int 0, .int 0, .int 0, .int 0, .int 0, .int 0, .int 0, .int 0, .null, .int 2147483639], vm := .statics 14 },
  { cls := 15, slots := #[.null, .null, .null], vm := .statics 15 },
  { cls := 13, slots := #[], vm := .none },
  { cls := 22, slots := #[.int 1207963663, .int 1207963663, .int 1207963663, .int 1207963663, .int 1207963663, .int 1207963663, .int 1207963663, .int 1207963663, .int 1207963663, .int 1476411407, .int 1342193679, .int 1476411407, .int 1610629135, .int 1342193679, .int 1207963663, .int 1207963663, .int 1207963663, .int 1207963663, .int 1207963663, .int 1207963663, .int 1207963663, .int 1207963663, .int 1207963663, .int 1207963663, .int 1207963663, .int 1207963663, .int 1207963663, .int 1207963663, .int 1342193679, .int 1342193679, .int 1342193679, .int 1476411407, .int 1610629132, .int 1744830488, .int 1744830488, .int 671088664, .int 671113242, .int 671088664, .int 1744830488, .int 1744830488, .int (-402653163), .int (-402653162), .int 1744830488, .int 536870937, .int 939524120, .int 536870932, .int 939524120, .int 939524120, .int 402667017, .int 402667017, .int 402667017, .int 402667017, .int 402667017, .int 402667017, .int 402667017, .int 402667017, .int 402667017, .int 402667017, .int 939524120, .int 1744830488, .int (-402653159), .int 1744830489, .int (-402653159), .int 1744830488, .int 1744830488, .int 8552417, .int 8552417, .int 8552417, .int 8552417, .int 8552417, .int 8552417, .int 8552417, .int 8552417, .int 8552417, .int 8552417, .int 8552417, .int 8552417, .int 8552417, .int 8552417, .int 8552417, .int 8552417, .int 8552417, .int 8552417, .int 8552417, .int 8552417, .int 8552417, .int 8552417, .int 8552417, .int 8552417, .int 8552417, .int 8552417, .int (-402653163), .int 1744830488, .int (-402653162), .int 1744830491, .int 1744850967, .int 1744830491, .int 8486882, .int 8486882, .int 8486882, .int 8486882, .int 8486882, .int 8486882, .int 8486882, .int 8486882, .int 8486882, .int 8486882, .int 8486882, .int 8486882, .int 8486882, .int 8486882, .int 8486882, .int 8486882, .int 8486882, .int 8486882, .int 8486882, .int 8486882, .int 8486882, .int 8486882, .int 8486882, .int 8486882, .int 8486882, .int 8486882, .int (-402653163), .int 1744830489, .int (-402653162), .int 1744830489, .int 1207963663, .int 1207963663, .int 1207963663, .int 1207963663, .int 1207963663, .int 1207963663, .int 1342181391, .int 1207963663, .int 1207963663, .int 1207963663, .int 1207963663, .int 1207963663, .int 1207963663, .int 1207963663, .int 1207963663, .int 1207963663, .int 1207963663, .int 1207963663, .int 1207963663, .int 1207963663, .int 1207963663, .int 1207963663, .int 1207963663, .int 1207963663, .int 1207963663, .int 1207963663, .int 1207963663, .int 1207963663, .int 1207963663, .int 1207963663, .int 1207963663, .int 1207963663, .int 1207963663, .int 939524108, .int 1744830488, .int 671113242, .int 671113242, .int 671113242, .int 671113242, .int 1744830492, .int 1744830488, .int 1744830491, .int 1744830492, .int 28677, .int (-402653155), .int 1744830489, .int 1207963664, .int 1744830492, .int 1744830491, .int 671088668, .int 671088665, .int 402654731, .int 402654731, .int 1744830491, .int 134049794, .int 1744830488, .int 1744830488, .int 1744830491, .int 402654475, .int 28677, .int (-402653154), .int 1744832523, .int 1744832523, .int 1744832523, .int 1744830488, .int 8548353, .int 8548353, .int 8548353, .int 8548353, .int 8548353, .int 8548353, .int 8548353, .int 8548353, .int 8548353, .int 8548353, .int 8548353, .int 8548353, .int 8548353, .int 8548353, .int 8548353, .int 8548353, .int 8548353, .int 8548353, .int 8548353, .int 8548353, .int 8548353, .int 8548353, .int 8548353, .int 1744830489, .int 8548353, .int 8548353, .int 8548353, .int 8548353, .int 8548353, .int 8548353, .int 8548353, .int 134049794, .int 8482818, .int 8482818, .int 8482818, .int 8482818, .int 8482818, .int 8482818, .int 8482818, .int 8482818, .int 8482818, .int 8482818, .int 8482818, .int 8482818, .int 8482818, .int 8482818, .int 8482818, .int 8482818, .int 8482818, .int 8482818, .int 8482818, .int 8482818, .int 8482818, .int 8482818, .int 8482818, .int 1744830489, .int 8482818, .int 8482818, .int 8482818, .int 8482818, .int 8482818, .int 8482818, .int 8482818, .int 102592514], vm := .none }]
def classes : Array Class := #[k0, k1, k2, k3, k4, k5, k6, k7, k8, k9, k10, k11, k12, k13, k14, k15, k16, k17, k18, k19, k20, k21, k22]
def interned : List (Array UInt16 × Addr) := []
def slotsUsed : Nat := 292
def theMethod : MethodId := ⟨1, 1⟩
def args0 : Array Value := #[.int 5, .int 70, .int 9, .int 1, .int 65]
def aboutOver (below : List Frame) : State where
  vm := { classes := classes, interned := interned.toArray }
  heap := heap
  slotsUsed := slotsUsed
  threads := #[{ frames := .invoking theMethod args0 :: below }]
def below0 : List Frame := [.native { method := ⟨0, 0⟩, args := #[] }]
def about1 : State := aboutOver below0
def p0 : Program := .bare "" "" ""
def e0 : Env := launch0.env 0 0 0
theorem w_frames : about1.frames = Frame.invoking theMethod args0 :: below0 := rfl
set_option maxRecDepth 65536 in
theorem w_args : argsFit about1.vm theMethod args0 = true := by decide +kernel
set_option maxRecDepth 65536 in
theorem w_heap : heapFits about1 = true := by decide +kernel
set_option maxRecDepth 65536 in
theorem w_runnable : about1.curStatus? = some .runnable := by decide +kernel
set_option maxRecDepth 65536 in
theorem w_alone : about1.alone = true := by decide +kernel
set_option maxRecDepth 65536 in
theorem w_named : about1.methodNamed? x = some theMethod := by decide +kernel
set_option maxRecDepth 65536 in
theorem w_hears : about1.hears theMethod below0 = true := by decide +kernel
set_option maxRecDepth 65536 in
theorem w_ripe : about1.ripe theMethod args0 below0 = true := by decide +kernel
theorem w_running : about1.status = .running := rfl
set_option maxRecDepth 65536 in
theorem w_room : about1.hasRoom e0.platform room_1 = true :=
  launch0.hasRoom_least _ room_1 (by decide +kernel) (by decide +kernel) (by decide +kernel) (by decide +kernel) (by decide +kernel) (by decide +kernel)
theorem allAtoms_all (ts : List Jvm.Cond) (a : Array Jvm.Value) (st : Jvm.State) : (allAtoms ts).before a st = ts.all (fun c => c.before a st) := by
  induction ts with
  | nil => rfl
  | cons c t ih =>
    show (Jvm.Cond.and c (allAtoms t)).before a st = _
    rw [Jvm.Cond.before_and, ih, List.all_cons]
def words1 : List Jvm.Cond := Jvm.Cond.code x code maxLocals ret :: tables_1
/-- a 'code' word, met by the world's own term for the bytes: nothing is compared byte by byte -/
theorem code_word {y : MethodName} {bytes : ByteArray} {mx : Nat} {rt : Option FieldType} {a : Array Value} {s : State} {m : MethodId} {meth : Method} {c : Code} (h1 : s.methodNamed? y = some m) (h2 : s.vm.method? m = some meth) (h3 : meth.code = some c) (h4 : c.code = bytes)
    (h5 : (c.maxLocals == mx && c.exceptionTable.isEmpty && decide (c.maxStack ≤ mostOperands) && decide (meth.sig.returnType = rt) && !meth.locks && decide (parseMethodDescriptor y.desc = some meth.sig)) = true) : (Jvm.Cond.code y bytes mx rt).before a s = true := by
  simp only [Bool.and_eq_true, beq_iff_eq, Bool.not_eq_true', decide_eq_true_eq] at h5
  obtain ⟨⟨⟨⟨⟨g1, g2⟩, g3⟩, g4⟩, g5⟩, g6⟩ := h5
  simp [Cond.before, Cond.holds, Cond.value, h1, h2, h3, h4, g1, g2, g3, g4, g5, g6]
def isCode : Jvm.Cond → Bool
  | .code _ _ _ _ => true
  | _ => false
theorem all_split {L : List Jvm.Cond} {P : Jvm.Cond → Bool} (h1 : L.all (fun c => isCode c || P c) = true) (h2 : ∀ c ∈ L.filter isCode, P c = true) : L.all P = true := by
  refine List.all_eq_true.mpr fun c hc => ?_
  have h := List.all_eq_true.mp h1 c hc
  rcases Bool.eq_false_or_eq_true (isCode c) with hi | hi
  · exact h2 c (List.mem_filter.mpr ⟨hc, hi⟩)
  · simpa [hi] using h
set_option maxRecDepth 65536 in
theorem w_c0 : (Jvm.Cond.code x code maxLocals ret).before args0 about1 = true := code_word (m := ⟨1, 1⟩) (meth := k1m1) (c := k1c1) (by decide +kernel) rfl rfl rfl (by decide +kernel)
set_option maxRecDepth 65536 in
theorem w_c1 : (Jvm.Cond.code ({ cls := "java/lang/String", name := "<init>", desc := "([C)V" } : Jvm.MethodName) jdk_42_method_3_code (2 : Nat) (Option.none : Option Jvm.ClassFile.FieldType)).before args0 about1 = true := code_word (m := ⟨7, 1⟩) (meth := k7m1) (c := k7c1) (by decide +kernel) rfl rfl rfl (by decide +kernel)
set_option maxRecDepth 65536 in
theorem w_c2 : (Jvm.Cond.code ({ cls := "java/lang/String", name := "<init>", desc := "([CIILjava/lang/Void;)V" } : Jvm.MethodName) jdk_42_method_149_code (6 : Nat) (Option.none : Option Jvm.ClassFile.FieldType)).before args0 about1 = true := code_word (m := ⟨7, 7⟩) (meth := k7m7) (c := k7c7) (by decide +kernel) rfl rfl rfl (by decide +kernel)
set_option maxRecDepth 65536 in
theorem w_c3 : (Jvm.Cond.code ({ cls := "java/lang/Object", name := "<init>", desc := "()V" } : Jvm.MethodName) object_method_1_code (1 : Nat) (Option.none : Option Jvm.ClassFile.FieldType)).before args0 about1 = true := code_word (m := ⟨0, 0⟩) (meth := k0m0) (c := k0c0) (by decide +kernel) rfl rfl rfl (by decide +kernel)
set_option maxRecDepth 65536 in
theorem w_c4 : (Jvm.Cond.code ({ cls := "java/lang/String", name := "valueOf", desc := "(C)Ljava/lang/String;" } : Jvm.MethodName) jdk_42_method_139_code (1 : Nat) (Option.some (Jvm.ClassFile.FieldType.object "java/lang/String"))).before args0 about1 = true := code_word (m := ⟨7, 6⟩) (meth := k7m6) (c := k7c6) (by decide +kernel) rfl rfl rfl (by decide +kernel)
set_option maxRecDepth 65536 in
theorem w_c5 : (Jvm.Cond.code ({ cls := "java/lang/StringLatin1", name := "canEncode", desc := "(C)Z" } : Jvm.MethodName) jdk_43_method_3_code (1 : Nat) (Option.some Jvm.ClassFile.FieldType.boolean)).before args0 about1 = true := code_word (m := ⟨8, 1⟩) (meth := k8m1) (c := k8c1) (by decide +kernel) rfl rfl rfl (by decide +kernel)
set_option maxRecDepth 65536 in
theorem w_c6 : (Jvm.Cond.code ({ cls := "java/lang/StringLatin1", name := "toBytes", desc := "(C)[B" } : Jvm.MethodName) jdk_43_method_46_code (1 : Nat) (Option.some (Jvm.ClassFile.FieldType.array Jvm.ClassFile.FieldType.byte))).before args0 about1 = true := code_word (m := ⟨8, 4⟩) (meth := k8m4) (c := k8c4) (by decide +kernel) rfl rfl rfl (by decide +kernel)
set_option maxRecDepth 65536 in
theorem w_c7 : (Jvm.Cond.code ({ cls := "java/lang/String", name := "<init>", desc := "([BB)V" } : Jvm.MethodName) jdk_42_method_151_code (3 : Nat) (Option.none : Option Jvm.ClassFile.FieldType)).before args0 about1 = true := code_word (m := ⟨7, 8⟩) (meth := k7m8) (c := k7c8) (by decide +kernel) rfl rfl rfl (by decide +kernel)
set_option maxRecDepth 65536 in
theorem w_c8 : (Jvm.Cond.code ({ cls := "java/lang/StringUTF16", name := "compress", desc := "([CII)[B" } : Jvm.MethodName) jdk_52_method_16_code (6 : Nat) (Option.some (Jvm.ClassFile.FieldType.array Jvm.ClassFile.FieldType.byte))).before args0 about1 = true := code_word (m := ⟨9, 2⟩) (meth := k9m2) (c := k9c2) (by decide +kernel) rfl rfl rfl (by decide +kernel)
set_option maxRecDepth 65536 in
theorem w_c9 : (Jvm.Cond.code ({ cls := "java/lang/StringUTF16", name := "compress", desc := "([CI[BII)I" } : Jvm.MethodName) jdk_52_method_21_code (7 : Nat) (Option.some Jvm.ClassFile.FieldType.int)).before args0 about1 = true := code_word (m := ⟨9, 3⟩) (meth := k9m3) (c := k9c3) (by decide +kernel) rfl rfl rfl (by decide +kernel)
set_option maxRecDepth 65536 in
theorem w_c10 : (Jvm.Cond.code ({ cls := "java/lang/StringUTF16", name := "coderFromArrayLen", desc := "([BI)B" } : Jvm.MethodName) jdk_52_method_15_code (2 : Nat) (Option.some Jvm.ClassFile.FieldType.byte)).before args0 about1 = true := code_word (m := ⟨9, 1⟩) (meth := k9m1) (c := k9c1) (by decide +kernel) rfl rfl rfl (by decide +kernel)
set_option maxRecDepth 65536 in
theorem w_c11 : (Jvm.Cond.code ({ cls := "dev/yieldpoint/NamesCheckPinLaw", name := "ws", desc := "(C)Z" } : Jvm.MethodName) method_3_code (1 : Nat) (Option.some Jvm.ClassFile.FieldType.boolean)).before args0 about1 = true := code_word (m := ⟨1, 2⟩) (meth := k1m2) (c := k1c2) (by decide +kernel) rfl rfl rfl (by decide +kernel)
set_option maxRecDepth 65536 in
theorem w_c12 : (Jvm.Cond.code ({ cls := "dev/yieldpoint/Names", name := "check", desc := "(Ljava/lang/String;Ljava/lang/String;)Ljava/lang/String;" } : Jvm.MethodName) prog_2_method_2_code (2 : Nat) (Option.some (Jvm.ClassFile.FieldType.object "java/lang/String"))).before args0 about1 = true := code_word (m := ⟨10, 1⟩) (meth := k10m1) (c := k10c1) (by decide +kernel) rfl rfl rfl (by decide +kernel)
set_option maxRecDepth 65536 in
theorem w_c13 : (Jvm.Cond.code ({ cls := "java/util/Objects", name := "requireNonNull", desc := "(Ljava/lang/Object;Ljava/lang/String;)Ljava/lang/Object;" } : Jvm.MethodName) jdk_31_method_11_code (2 : Nat) (Option.some (Jvm.ClassFile.FieldType.object "java/lang/Object"))).before args0 about1 = true := code_word (m := ⟨11, 1⟩) (meth := k11m1) (c := k11c1) (by decide +kernel) rfl rfl rfl (by decide +kernel)
set_option maxRecDepth 65536 in
theorem w_c14 : (Jvm.Cond.code ({ cls := "java/lang/String", name := "isBlank", desc := "()Z" } : Jvm.MethodName) jdk_42_method_117_code (1 : Nat) (Option.some Jvm.ClassFile.FieldType.boolean)).before args0 about1 = true := code_word (m := ⟨7, 4⟩) (meth := k7m4) (c := k7c4) (by decide +kernel) rfl rfl rfl (by decide +kernel)
set_option maxRecDepth 65536 in
theorem w_c15 : (Jvm.Cond.code ({ cls := "java/lang/String", name := "indexOfNonWhitespace", desc := "()I" } : Jvm.MethodName) jdk_42_method_120_code (1 : Nat) (Option.some Jvm.ClassFile.FieldType.int)).before args0 about1 = true := code_word (m := ⟨7, 5⟩) (meth := k7m5) (c := k7c5) (by decide +kernel) rfl rfl rfl (by decide +kernel)
set_option maxRecDepth 65536 in
theorem w_c16 : (Jvm.Cond.code ({ cls := "java/lang/String", name := "isLatin1", desc := "()Z" } : Jvm.MethodName) jdk_42_method_154_code (1 : Nat) (Option.some Jvm.ClassFile.FieldType.boolean)).before args0 about1 = true := code_word (m := ⟨7, 10⟩) (meth := k7m10) (c := k7c10) (by decide +kernel) rfl rfl rfl (by decide +kernel)
set_option maxRecDepth 65536 in
theorem w_c17 : (Jvm.Cond.code ({ cls := "java/lang/StringLatin1", name := "indexOfNonWhitespace", desc := "([B)I" } : Jvm.MethodName) jdk_43_method_37_code (4 : Nat) (Option.some Jvm.ClassFile.FieldType.int)).before args0 about1 = true := code_word (m := ⟨8, 2⟩) (meth := k8m2) (c := k8c2) (by decide +kernel) rfl rfl rfl (by decide +kernel)
set_option maxRecDepth 65536 in
theorem w_c18 : (Jvm.Cond.code ({ cls := "java/lang/StringLatin1", name := "getChar", desc := "([BI)C" } : Jvm.MethodName) jdk_43_method_44_code (2 : Nat) (Option.some Jvm.ClassFile.FieldType.char)).before args0 about1 = true := code_word (m := ⟨8, 3⟩) (meth := k8m3) (c := k8c3) (by decide +kernel) rfl rfl rfl (by decide +kernel)
set_option maxRecDepth 65536 in
theorem w_c19 : (Jvm.Cond.code ({ cls := "java/lang/CharacterDataLatin1", name := "isWhitespace", desc := "(I)Z" } : Jvm.MethodName) jdk_116_method_26_code (3 : Nat) (Option.some Jvm.ClassFile.FieldType.boolean)).before args0 about1 = true := code_word (m := ⟨13, 1⟩) (meth := k13m1) (c := k13c1) (by decide +kernel) rfl rfl rfl (by decide +kernel)
set_option maxRecDepth 65536 in
theorem w_c20 : (Jvm.Cond.code ({ cls := "java/lang/CharacterDataLatin1", name := "getProperties", desc := "(I)I" } : Jvm.MethodName) jdk_116_method_1_code (4 : Nat) (Option.some Jvm.ClassFile.FieldType.int)).before args0 about1 = true := code_word (m := ⟨13, 0⟩) (meth := k13m0) (c := k13c0) (by decide +kernel) rfl rfl rfl (by decide +kernel)
set_option maxRecDepth 65536 in
theorem w_c21 : (Jvm.Cond.code ({ cls := "java/lang/String", name := "length", desc := "()I" } : Jvm.MethodName) jdk_42_method_54_code (1 : Nat) (Option.some Jvm.ClassFile.FieldType.int)).before args0 about1 = true := code_word (m := ⟨7, 2⟩) (meth := k7m2) (c := k7c2) (by decide +kernel) rfl rfl rfl (by decide +kernel)
set_option maxRecDepth 65536 in
theorem w_c22 : (Jvm.Cond.code ({ cls := "java/lang/String", name := "coder", desc := "()B" } : Jvm.MethodName) jdk_42_method_152_code (1 : Nat) (Option.some Jvm.ClassFile.FieldType.byte)).before args0 about1 = true := code_word (m := ⟨7, 9⟩) (meth := k7m9) (c := k7c9) (by decide +kernel) rfl rfl rfl (by decide +kernel)
set_option maxRecDepth 65536 in
theorem w_c23 : (Jvm.Cond.code ({ cls := "java/lang/String", name := "equals", desc := "(Ljava/lang/Object;)Z" } : Jvm.MethodName) jdk_42_method_66_code (3 : Nat) (Option.some Jvm.ClassFile.FieldType.boolean)).before args0 about1 = true := code_word (m := ⟨7, 3⟩) (meth := k7m3) (c := k7c3) (by decide +kernel) rfl rfl rfl (by decide +kernel)
def codes1 : List Jvm.Cond := [Jvm.Cond.code x code maxLocals ret, Jvm.Cond.code ({ cls := "java/lang/String", name := "<init>", desc := "([C)V" } : Jvm.MethodName) jdk_42_method_3_code (2 : Nat) (Option.none : Option Jvm.ClassFile.FieldType), Jvm.Cond.code ({ cls := "java/lang/String", name := "<init>", desc := "([CIILjava/lang/Void;)V" } : Jvm.MethodName) jdk_42_method_149_code (6 : Nat) (Option.none : Option Jvm.ClassFile.FieldType), Jvm.Cond.code ({ cls := "java/lang/Object", name := "<init>", desc := "()V" } : Jvm.MethodName) object_method_1_code (1 : Nat) (Option.none : Option Jvm.ClassFile.FieldType), Jvm.Cond.code ({ cls := "java/lang/String", name := "valueOf", desc := "(C)Ljava/lang/String;" } : Jvm.MethodName) jdk_42_method_139_code (1 : Nat) (Option.some (Jvm.ClassFile.FieldType.object "java/lang/String")), Jvm.Cond.code ({ cls := "java/lang/StringLatin1", name := "canEncode", desc := "(C)Z" } : Jvm.MethodName) jdk_43_method_3_code (1 : Nat) (Option.some Jvm.ClassFile.FieldType.boolean), Jvm.Cond.code ({ cls := "java/lang/StringLatin1", name := "toBytes", desc := "(C)[B" } : Jvm.MethodName) jdk_43_method_46_code (1 : Nat) (Option.some (Jvm.ClassFile.FieldType.array Jvm.ClassFile.FieldType.byte)), Jvm.Cond.code ({ cls := "java/lang/String", name := "<init>", desc := "([BB)V" } : Jvm.MethodName) jdk_42_method_151_code (3 : Nat) (Option.none : Option Jvm.ClassFile.FieldType), Jvm.Cond.code ({ cls := "java/lang/StringUTF16", name := "compress", desc := "([CII)[B" } : Jvm.MethodName) jdk_52_method_16_code (6 : Nat) (Option.some (Jvm.ClassFile.FieldType.array Jvm.ClassFile.FieldType.byte)), Jvm.Cond.code ({ cls := "java/lang/StringUTF16", name := "compress", desc := "([CI[BII)I" } : Jvm.MethodName) jdk_52_method_21_code (7 : Nat) (Option.some Jvm.ClassFile.FieldType.int), Jvm.Cond.code ({ cls := "java/lang/StringUTF16", name := "coderFromArrayLen", desc := "([BI)B" } : Jvm.MethodName) jdk_52_method_15_code (2 : Nat) (Option.some Jvm.ClassFile.FieldType.byte), Jvm.Cond.code ({ cls := "dev/yieldpoint/NamesCheckPinLaw", name := "ws", desc := "(C)Z" } : Jvm.MethodName) method_3_code (1 : Nat) (Option.some Jvm.ClassFile.FieldType.boolean), Jvm.Cond.code ({ cls := "dev/yieldpoint/Names", name := "check", desc := "(Ljava/lang/String;Ljava/lang/String;)Ljava/lang/String;" } : Jvm.MethodName) prog_2_method_2_code (2 : Nat) (Option.some (Jvm.ClassFile.FieldType.object "java/lang/String")), Jvm.Cond.code ({ cls := "java/util/Objects", name := "requireNonNull", desc := "(Ljava/lang/Object;Ljava/lang/String;)Ljava/lang/Object;" } : Jvm.MethodName) jdk_31_method_11_code (2 : Nat) (Option.some (Jvm.ClassFile.FieldType.object "java/lang/Object")), Jvm.Cond.code ({ cls := "java/lang/String", name := "isBlank", desc := "()Z" } : Jvm.MethodName) jdk_42_method_117_code (1 : Nat) (Option.some Jvm.ClassFile.FieldType.boolean), Jvm.Cond.code ({ cls := "java/lang/String", name := "indexOfNonWhitespace", desc := "()I" } : Jvm.MethodName) jdk_42_method_120_code (1 : Nat) (Option.some Jvm.ClassFile.FieldType.int), Jvm.Cond.code ({ cls := "java/lang/String", name := "isLatin1", desc := "()Z" } : Jvm.MethodName) jdk_42_method_154_code (1 : Nat) (Option.some Jvm.ClassFile.FieldType.boolean), Jvm.Cond.code ({ cls := "java/lang/StringLatin1", name := "indexOfNonWhitespace", desc := "([B)I" } : Jvm.MethodName) jdk_43_method_37_code (4 : Nat) (Option.some Jvm.ClassFile.FieldType.int), Jvm.Cond.code ({ cls := "java/lang/StringLatin1", name := "getChar", desc := "([BI)C" } : Jvm.MethodName) jdk_43_method_44_code (2 : Nat) (Option.some Jvm.ClassFile.FieldType.char), Jvm.Cond.code ({ cls := "java/lang/CharacterDataLatin1", name := "isWhitespace", desc := "(I)Z" } : Jvm.MethodName) jdk_116_method_26_code (3 : Nat) (Option.some Jvm.ClassFile.FieldType.boolean), Jvm.Cond.code ({ cls := "java/lang/CharacterDataLatin1", name := "getProperties", desc := "(I)I" } : Jvm.MethodName) jdk_116_method_1_code (4 : Nat) (Option.some Jvm.ClassFile.FieldType.int), Jvm.Cond.code ({ cls := "java/lang/String", name := "length", desc := "()I" } : Jvm.MethodName) jdk_42_method_54_code (1 : Nat) (Option.some Jvm.ClassFile.FieldType.int), Jvm.Cond.code ({ cls := "java/lang/String", name := "coder", desc := "()B" } : Jvm.MethodName) jdk_42_method_152_code (1 : Nat) (Option.some Jvm.ClassFile.FieldType.byte), Jvm.Cond.code ({ cls := "java/lang/String", name := "equals", desc := "(Ljava/lang/Object;)Z" } : Jvm.MethodName) jdk_42_method_66_code (3 : Nat) (Option.some Jvm.ClassFile.FieldType.boolean)]
set_option maxRecDepth 65536 in
theorem codes_eq : words1.filter isCode = codes1 := rfl
theorem w_codes : ∀ c ∈ words1.filter isCode, c.before args0 about1 = true := by
  rw [codes_eq]
  intro c hc
  simp only [codes1, List.mem_cons, List.not_mem_nil, or_false] at hc
  rcases hc with rfl | rfl | rfl | rfl | rfl | rfl | rfl | rfl | rfl | rfl | rfl | rfl | rfl | rfl | rfl | rfl | rfl | rfl | rfl | rfl | rfl | rfl | rfl | rfl
  · exact w_c0
  · exact w_c1
  · exact w_c2
  · exact w_c3
  · exact w_c4
  · exact w_c5
  · exact w_c6
  · exact w_c7
  · exact w_c8
  · exact w_c9
  · exact w_c10
  · exact w_c11
  · exact w_c12
  · exact w_c13
  · exact w_c14
  · exact w_c15
  · exact w_c16
  · exact w_c17
  · exact w_c18
  · exact w_c19
  · exact w_c20
  · exact w_c21
  · exact w_c22
  · exact w_c23
set_option maxRecDepth 65536 in
theorem w_t1 : (words1.take 24).all (fun c => isCode c || c.before args0 about1) = true := by decide +kernel
set_option maxRecDepth 65536 in
theorem w_t2 : ((words1.drop 24).take 24).all (fun c => isCode c || c.before args0 about1) = true := by decide +kernel
set_option maxRecDepth 65536 in
theorem w_t3 : (((words1.drop 24).drop 24).take 24).all (fun c => isCode c || c.before args0 about1) = true := by decide +kernel
set_option maxRecDepth 65536 in
theorem w_t4 : ((((words1.drop 24).drop 24).drop 24).take 24).all (fun c => isCode c || c.before args0 about1) = true := by decide +kernel
set_option maxRecDepth 65536 in
theorem w_t5 : ((((words1.drop 24).drop 24).drop 24).drop 24).all (fun c => isCode c || c.before args0 about1) = true := by decide +kernel
theorem w_tables : (allAtoms (Jvm.Cond.code x code maxLocals ret :: tables_1)).before args0 about1 = true := by
  rw [allAtoms_all]
  show words1.all (fun c => c.before args0 about1) = true
  refine all_split ?_ w_codes
  rw [← List.take_append_drop 24 words1, List.all_append, w_t1, ← List.take_append_drop 24 (words1.drop 24), List.all_append, w_t2, ← List.take_append_drop 24 ((words1.drop 24).drop 24), List.all_append, w_t3, ← List.take_append_drop 24 (((words1.drop 24).drop 24).drop 24), List.all_append, w_t4, w_t5]
  rfl
set_option maxRecDepth 65536 in
theorem w_rest : rest_1_c.before args0 about1 = true := by decide +kernel
set_option maxRecDepth 65536 in
theorem w_case : (Jvm.Cond.and given_1 narrow_1).before args0 about1 = true := by decide +kernel
set_option maxRecDepth 65536 in
theorem w_consts : constsHeld consts_1 about1 := Jvm.Lit.constsHeldB_iff.mp (by decide +kernel)
theorem w_applies : (headSpec (Jvm.Cond.code x code maxLocals ret :: tables_1) room_1).applies x e0.platform about1 = true :=
  (Spec.applies_iff w_frames).mpr ⟨w_running, w_runnable, w_alone, w_named, w_hears, w_ripe, w_room, w_tables⟩
theorem atStart : AtStart classFile x code maxLocals ret World_1 tables_1 room_1 Calls_1 rest_1 Pre_1 launch0 p0 e0 about1 theMethod args0 below0 :=
  ⟨lists_1, trivial, launch0.admits_env _ _ _, launch0.least_env, fairChoices_fair.cas, fairChoices_fair.clock, w_frames, w_args, w_heap, w_applies, ⟨w_consts, trivial⟩, w_rest, w_case⟩
end start1
theorem witness_1 : WitnessClaimed_1 := ⟨start1.p0, start1.e0, start1.about1, start1.theMethod, start1.args0, start1.below0, start1.atStart⟩
end Jvm.Pilot.@@N@@
