import JvmDerived
import JvmDerived.Pilot.@@N@@Statement
import JvmDerived.Pilot.@@N@@Code
set_option linter.unusedVariables false
set_option linter.unusedSimpArgs false
namespace Jvm.Own
open Jvm Jvm.ClassFile Sem Op Lib Jvm.Free Jvm.Stand Jvm.LawKit Jvm.RoadKit Bundle
def D1 (b : ByteArray) (pc : Nat) (i : Instr) (len nx : Nat) : Prop := decode b pc = .ok (i, len) ∧ pc + len = nx
def DJ (b : ByteArray) (pc : Nat) (i : Int → Instr) (o : Int) (nx tgt : Nat) : Prop := decode b pc = .ok (i o, 3) ∧ pc + 3 = nx ∧ (pc : Int) + o = (tgt : Int)
/-- private cells: no booked literal lies there -/
def SafeL (Z : State) (EL : List (String × Nat)) (vm : Vm) (h : Heap) (F : List Addr) : Prop := ∀ x ∈ F, x < h.size ∧ Safe Z EL vm h x
/-- where a walk stands -/
def Std (l : Launch) (Z : State) (EL : List (String × Nat)) (n0 : Nat) (R : Room) (y : MethodName) (bytes : ByteArray) (ml : Nat) (ret : Option FieldType)
    (p : Program) (e : Env) (s : State) (m : MethodId) (args : Array Value) (below : List Frame) (meth : Method) (c : Code) (T : State) (vm0 : Vm) (locs : List Loc) (F : List Addr) (h : Heap) (cells slots : Nat) : Prop :=
  Stand p l e R (s.setVm vm0) m args below meth c T locs cells slots ∧ T.heap = h ∧ (∃ k, s.Since vm0 k ∧ k ≤ h.size) ∧ Z.Warmed39 vm0 ∧ vm0.findClass y.cls = some m.cls ∧ CHr Z EL s.vm s.heap vm0 h ∧ SafeL Z EL vm0 h F ∧ Fr n0 locs ∧ Old Z n0 h ∧
    p.tables.exec = Jvm.exec ∧ c.code = bytes ∧ c.maxLocals = ml ∧ meth.sig.returnType = ret ∧ meth.locks = false ∧ meth.name = y.name ∧ ∃ a0, EW Z a0 EL
/-- how a walk ends -/
def Done (l : Launch) (Z : State) (EL : List (String × Nat)) (n0 : Nat) (R : Room) (Q : Option Value → Heap → List Addr → Prop) (p : Program) (e : Env) (s : State) (below : List Frame) (U : State) : Prop :=
  ∃ t o, Steps p.tables e below U t ∧ t.status = .running ∧ Ended t below o ∧ ∃ v L, o = .returned v ∧ ((∃ F, Q v t.heap F ∧ SafeL Z EL t.vm t.heap F) ∧ Fr n0 L ∧ Old Z n0 t.heap) ∧ CHr Z EL s.vm s.heap t.vm t.heap ∧ ReturnedEndW s o t L R.cells R.slots
/-- from a standing walk at this frame the method returns as Q says -/
def WP (l : Launch) (Z : State) (EL : List (String × Nat)) (n0 : Nat) (R : Room) (y : MethodName) (bytes : ByteArray) (ml : Nat) (ret : Option FieldType) (Q : Option Value → Heap → List Addr → Prop)
    (F : List Addr) (h : Heap) (cells slots pc : Nat) (Ls : Array Slot) (S : List Value) : Prop :=
  ∀ p e s m args below meth c T vm0 locs, Std l Z EL n0 R y bytes ml ret p e s m args below meth c T vm0 locs F h cells slots → Done l Z EL n0 R Q p e s below (T.setTop (mkF m pc Ls S))
section Rules
variable {l : Launch} {Z : State} {EL : List (String × Nat)} {n0 : Nat} {R : Room} {y : MethodName} {bytes : ByteArray} {ml : Nat} {ret : Option FieldType} {Q : Option Value → Heap → List Addr → Prop}
  {F : List Addr} {h : Heap} {cells slots pc pc' : Nat} {Ls Ls' : Array Slot} {S S' : List Value} {a0 : Array Value}
theorem Done.step {p : Program} {e : Env} {s : State} {below : List Frame} {U V : State} (st : ∀ t, Steps p.tables e below U t → Steps p.tables e below V t) (D : Done l Z EL n0 R Q p e s below U) : Done l Z EL n0 R Q p e s below V := by
  obtain ⟨t, o, h1, r⟩ := D
  exact ⟨t, o, st t h1, r⟩
theorem WP.lift (st : ∀ (p : Program) (e : Env) (m : MethodId) (c : Code) (below : List Frame) (T t : State), p.tables.exec = Jvm.exec → c.code = bytes → At T m c below → Steps p.tables e below (T.setTop (mkF m pc' Ls' S')) t → Steps p.tables e below (T.setTop (mkF m pc Ls S)) t)
    (k : WP l Z EL n0 R y bytes ml ret Q F h cells slots pc' Ls' S') : WP l Z EL n0 R y bytes ml ret Q F h cells slots pc Ls S :=
  fun p e s m args below meth c T vm0 locs D => (k p e s m args below meth c T vm0 locs D).step fun t q => st p e m c below T t D.2.2.2.2.2.2.2.2.2.1 D.2.2.2.2.2.2.2.2.2.2.1 D.1.here q
/-- a step that leaves the heap -/
theorem WP.same (st : ∀ (p : Program) (e : Env) (s : State) (m : MethodId) (args : Array Value) (below : List Frame) (meth : Method) (c : Code) (T : State) (vm0 : Vm) (locs : List Loc), Std l Z EL n0 R y bytes ml ret p e s m args below meth c T vm0 locs F h cells slots →
      ∃ T', Stand p l e R (s.setVm vm0) m args below meth c T' locs cells slots ∧ T'.heap = h ∧ ∀ t, Steps p.tables e below (T'.setTop (mkF m pc' Ls' S')) t → Steps p.tables e below (T.setTop (mkF m pc Ls S)) t)
    (k : WP l Z EL n0 R y bytes ml ret Q F h cells slots pc' Ls' S') : WP l Z EL n0 R y bytes ml ret Q F h cells slots pc Ls S := by
  intro p e s m args below meth c T vm0 locs D
  obtain ⟨T', X', e', q⟩ := st p e s m args below meth c T vm0 locs D
  obtain ⟨-, -, r⟩ := D
  exact (k p e s m args below meth c T' vm0 locs ⟨X', e', r⟩).step q
/-- a step that makes a cell -/
theorem WP.grow {P : Heap → Prop} {cells' slots' : Nat} {G : List Addr} (hG : ∀ h', Ext h h' → P h' → ∀ x ∈ G, x < h'.size ∧ h.size ≤ x) (st : ∀ (p : Program) (e : Env) (s : State) (m : MethodId) (args : Array Value) (below : List Frame) (meth : Method) (c : Code) (T : State) (vm0 : Vm) (locs : List Loc), Std l Z EL n0 R y bytes ml ret p e s m args below meth c T vm0 locs F h cells slots →
      ∃ T' h', Stand p l e R (s.setVm vm0) m args below meth c T' locs cells' slots' ∧ T'.heap = h' ∧ Ext h h' ∧ P h' ∧ ∀ t, Steps p.tables e below (T'.setTop (mkF m pc' Ls' S')) t → Steps p.tables e below (T.setTop (mkF m pc Ls S)) t)
    (k : ∀ h', Ext h h' → P h' → WP l Z EL n0 R y bytes ml ret Q (G ++ F) h' cells' slots' pc' Ls' S') : WP l Z EL n0 R y bytes ml ret Q F h cells slots pc Ls S := by
  intro p e s m args below meth c T vm0 locs D
  obtain ⟨T', h', X', e', E, hP, q⟩ := st p e s m args below meth c T vm0 locs D
  obtain ⟨-, -, ⟨k0, hS, hk⟩, hZ, hown, hC, hF, hN, hO, r⟩ := D
  refine (k h' E hP p e s m args below meth c T' vm0 locs ⟨X', e', ⟨k0, hS, Nat.le_trans hk E.1⟩, hZ, hown, hC.trans (CHr.ext E hC.1), fun x hx => ?_, hN, hO.ext E, r⟩).step q
  rcases List.mem_append.mp hx with hx | hx
  · obtain ⟨q1, q2⟩ := hG h' E hP x hx
    exact ⟨q1, fun B => Safe.new q2 ((hC.1.step fun _ _ _ q => E.2 _ _ q).2 _ B)⟩
  · exact ⟨Nat.lt_of_lt_of_le (hF x hx).1 E.1, (hF x hx).2.ext E hC.1⟩
/-- how a write is known to hit no literal -/
def SafeBy (Z : State) (EL : List (String × Nat)) (F : List Addr) (h : Heap) (a : Addr) : Prop := a < h.size ∧ ∀ vm, Z.vm.Alike vm → SafeL Z EL vm h F → Safe Z EL vm h a
theorem SafeBy.mem {a : Addr} (hl : a < h.size) (hm : a ∈ F) : SafeBy Z EL F h a := ⟨hl, fun _ _ q => (q a hm).2⟩
theorem SafeBy.exa {a : Addr} {C : String} (E : Exa Z h a C) (h1 : C ≠ "java/lang/String" := by decide) (h2 : C ≠ "[B" := by decide) : SafeBy Z EL F h a := ⟨E.lt, fun _ hal _ => Safe.exa hal E h1 h2⟩
theorem SafeBy.arr {a : Addr} {cl : Cell} {ty : FieldType} (A : Arr Z h a cl ty) (ht : ty ≠ .byte := by decide) : SafeBy Z EL F h a := ⟨A.lt, fun _ hal _ => Safe.arr hal A ht⟩
/-- a step that writes one place -/
theorem WP.write {a : Addr} {sl : Nat} {v : Value} (na : n0 ≤ a) (hs : SafeBy Z EL F h a) (st : ∀ (p : Program) (e : Env) (s : State) (m : MethodId) (args : Array Value) (below : List Frame) (meth : Method) (c : Code) (T : State) (vm0 : Vm) (locs : List Loc), Std l Z EL n0 R y bytes ml ret p e s m args below meth c T vm0 locs F h cells slots →
      ∃ T' h', Stand p l e R (s.setVm vm0) m args below meth c T' (locs ++ [⟨a, sl⟩]) cells slots ∧ T'.heap = h' ∧ Wr h h' a sl v ∧ ∀ t, Steps p.tables e below (T'.setTop (mkF m pc' Ls' S')) t → Steps p.tables e below (T.setTop (mkF m pc Ls S)) t)
    (k : ∀ h', Wr h h' a sl v → WP l Z EL n0 R y bytes ml ret Q F h' cells slots pc' Ls' S') : WP l Z EL n0 R y bytes ml ret Q F h cells slots pc Ls S := by
  intro p e s m args below meth c T vm0 locs D
  obtain ⟨T', h', X', e', W, q⟩ := st p e s m args below meth c T vm0 locs D
  obtain ⟨-, -, ⟨k0, hS, hk⟩, hZ, hown, hC, hF, hN, hO, r⟩ := D
  have sa := hs.2 vm0 hZ.alike hF
  refine (k h' W p e s m args below meth c T' vm0 _ ⟨X', e', ⟨k0, hS, by rw [W.size]; exact hk⟩, hZ, hown, hC.trans (CHr.wr W sa hC.1), fun x hx => ⟨by rw [W.size]; exact (hF x hx).1, Safe.wr W sa hC.1 (hF x hx).2⟩, Fr.snoc X' hN na, hO.wr W na, r⟩).step q
theorem WP.more {cells' slots' : Nat} (hc : cells ≤ cells') (hl : slots ≤ slots') (k : WP l Z EL n0 R y bytes ml ret Q F h cells' slots' pc Ls S) : WP l Z EL n0 R y bytes ml ret Q F h cells slots pc Ls S := by
  intro p e s m args below meth c T vm0 locs D
  obtain ⟨X, r⟩ := D
  exact k p e s m args below meth c T vm0 locs ⟨X.more hc hl, r⟩
theorem WP.less {F' : List Addr} (hF : ∀ x ∈ F', x ∈ F) (k : WP l Z EL n0 R y bytes ml ret Q F' h cells slots pc Ls S) : WP l Z EL n0 R y bytes ml ret Q F h cells slots pc Ls S := by
  intro p e s m args below meth c T vm0 locs D
  obtain ⟨X, e0, hS, hZ, hown, hC, hs, r⟩ := D
  exact k p e s m args below meth c T vm0 locs ⟨X, e0, hS, hZ, hown, hC, fun x hx => hs x (hF x hx), r⟩
/-- the end -/
theorem WP.leave {v : Option Value} (st : ∀ (p : Program) (e : Env) (s : State) (m : MethodId) (args : Array Value) (below : List Frame) (meth : Method) (c : Code) (T : State) (vm0 : Vm) (locs : List Loc) (fs : List Frame), Std l Z EL n0 R y bytes ml ret p e s m args below meth c T vm0 locs F h cells slots →
      (∀ (f : JFrame) (acts : List Action), f.method = m → f.locked = none → f.entered = [] → (doReturn e (T.setTop f) acts v).1 = T.setFrames fs) → Steps p.tables e below (T.setTop (mkF m pc Ls S)) (T.setFrames fs))
    (hv : ret = none → v = none) (hc : cells ≤ R.cells) (hl : slots ≤ R.slots) {G : List Addr} (hG : ∀ x ∈ G, x ∈ F) (hQ : Q v h G) : WP l Z EL n0 R y bytes ml ret Q F h cells slots pc Ls S := by
  intro p e s m args below meth c T vm0 locs D
  have D' := D
  obtain ⟨X, e0, ⟨k0, hS, hk⟩, hZ, hown, hC, hF, hN, hO, hx, hby, hml, hret, hlk, hnm, a0, hEL⟩ := D
  obtain ⟨fs, h1, h2, h3, h4, h5, h6, h7⟩ := X.leaveW hS (by rw [e0]; exact hk) (v := v) (fun q => hv (hret ▸ q)) hlk
  have hhp : (T.setFrames fs).heap = h := by rw [← e0]; rfl
  have B : CHr Z EL vm0 h T.vm h := CHv.at X hZ hEL hC.1
  refine ⟨_, _, st p e s m args below meth c T vm0 locs fs D' h1, h2, h3, v, locs, rfl, ⟨⟨G, by rw [hhp]; exact hQ, fun x hx => ?_⟩, hN, by rw [hhp]; exact hO⟩, by rw [hhp]; exact hC.trans B, h4, h5, h6, h7.mono hc hl⟩
  rw [hhp]
  exact ⟨(hF x (hG x hx)).1, B.safe (hF x (hG x hx)).1 (hF x (hG x hx)).2⟩
end Rules
section Plain
variable {l : Launch} {Z : State} {EL : List (String × Nat)} {n0 : Nat} {R : Room} {y : MethodName} {bytes : ByteArray} {ml : Nat} {ret : Option FieldType} {Q : Option Value → Heap → List Addr → Prop}
  {F : List Addr} {h : Heap} {cells slots pc pc' : Nat} {Ls Ls' : Array Slot} {S S' : List Value} {a0 : Array Value}
theorem WP.iadd {x y' : Int32} (hd : D1 bytes pc .iadd 1 pc') (k : WP l Z EL n0 R y bytes ml ret Q F h cells slots pc' Ls (.int (x + y') :: S)) : WP l Z EL n0 R y bytes ml ret Q F h cells slots pc Ls (.int y' :: .int x :: S) := by
  obtain ⟨hd, rfl⟩ := hd
  exact k.lift fun p e m c below T t hx hby ha q => XS.iadd ha hx rfl (hb hby hd) rfl q
theorem WP.isub {x y' : Int32} (hd : D1 bytes pc .isub 1 pc') (k : WP l Z EL n0 R y bytes ml ret Q F h cells slots pc' Ls (.int (x - y') :: S)) : WP l Z EL n0 R y bytes ml ret Q F h cells slots pc Ls (.int y' :: .int x :: S) := by
  obtain ⟨hd, rfl⟩ := hd
  exact k.lift fun p e m c below T t hx hby ha q => XS.isub ha hx rfl (hb hby hd) rfl q
theorem WP.imul {x y' : Int32} (hd : D1 bytes pc .imul 1 pc') (k : WP l Z EL n0 R y bytes ml ret Q F h cells slots pc' Ls (.int (x * y') :: S)) : WP l Z EL n0 R y bytes ml ret Q F h cells slots pc Ls (.int y' :: .int x :: S) := by
  obtain ⟨hd, rfl⟩ := hd
  exact k.lift fun p e m c below T t hx hby ha q => XS.imul ha hx rfl (hb hby hd) rfl q
theorem WP.iand {x y' : Int32} (hd : D1 bytes pc .iand 1 pc') (k : WP l Z EL n0 R y bytes ml ret Q F h cells slots pc' Ls (.int (x &&& y') :: S)) : WP l Z EL n0 R y bytes ml ret Q F h cells slots pc Ls (.int y' :: .int x :: S) := by
  obtain ⟨hd, rfl⟩ := hd
  exact k.lift fun p e m c below T t hx hby ha q => XS.iand ha hx rfl (hb hby hd) rfl q
theorem WP.ior {x y' : Int32} (hd : D1 bytes pc .ior 1 pc') (k : WP l Z EL n0 R y bytes ml ret Q F h cells slots pc' Ls (.int (x ||| y') :: S)) : WP l Z EL n0 R y bytes ml ret Q F h cells slots pc Ls (.int y' :: .int x :: S) := by
  obtain ⟨hd, rfl⟩ := hd
  exact k.lift fun p e m c below T t hx hby ha q => XS.ior ha hx rfl (hb hby hd) rfl q
theorem WP.ixor {x y' : Int32} (hd : D1 bytes pc .ixor 1 pc') (k : WP l Z EL n0 R y bytes ml ret Q F h cells slots pc' Ls (.int (x ^^^ y') :: S)) : WP l Z EL n0 R y bytes ml ret Q F h cells slots pc Ls (.int y' :: .int x :: S) := by
  obtain ⟨hd, rfl⟩ := hd
  exact k.lift fun p e m c below T t hx hby ha q => XS.ixor ha hx rfl (hb hby hd) rfl q
theorem WP.ishl {x y' : Int32} (hd : D1 bytes pc .ishl 1 pc') (k : WP l Z EL n0 R y bytes ml ret Q F h cells slots pc' Ls (.int (x <<< (y' &&& 31)) :: S)) : WP l Z EL n0 R y bytes ml ret Q F h cells slots pc Ls (.int y' :: .int x :: S) := by
  obtain ⟨hd, rfl⟩ := hd
  exact k.lift fun p e m c below T t hx hby ha q => XS.ishl ha hx rfl (hb hby hd) rfl q
theorem WP.ishr {x y' : Int32} (hd : D1 bytes pc .ishr 1 pc') (k : WP l Z EL n0 R y bytes ml ret Q F h cells slots pc' Ls (.int (x >>> (y' &&& 31)) :: S)) : WP l Z EL n0 R y bytes ml ret Q F h cells slots pc Ls (.int y' :: .int x :: S) := by
  obtain ⟨hd, rfl⟩ := hd
  exact k.lift fun p e m c below T t hx hby ha q => XS.ishr ha hx rfl (hb hby hd) rfl q
theorem WP.iushr {x y' : Int32} (hd : D1 bytes pc .iushr 1 pc') (k : WP l Z EL n0 R y bytes ml ret Q F h cells slots pc' Ls (.int ((x.toUInt32 >>> (y' &&& 31).toUInt32).toInt32) :: S)) : WP l Z EL n0 R y bytes ml ret Q F h cells slots pc Ls (.int y' :: .int x :: S) := by
  obtain ⟨hd, rfl⟩ := hd
  exact k.lift fun p e m c below T t hx hby ha q => XS.iushr ha hx rfl (hb hby hd) rfl q
theorem WP.idiv {x y' : Int32} (hd : D1 bytes pc .idiv 1 pc') (hy : y' ≠ 0) (k : WP l Z EL n0 R y bytes ml ret Q F h cells slots pc' Ls (.int (x / y') :: S)) : WP l Z EL n0 R y bytes ml ret Q F h cells slots pc Ls (.int y' :: .int x :: S) := by
  obtain ⟨hd, rfl⟩ := hd
  exact k.lift fun p e m c below T t hx hby ha q => XS.idiv ha hx rfl (hb hby hd) rfl hy q
theorem WP.irem {x y' : Int32} (hd : D1 bytes pc .irem 1 pc') (hy : y' ≠ 0) (k : WP l Z EL n0 R y bytes ml ret Q F h cells slots pc' Ls (.int (x - (x / y') * y') :: S)) : WP l Z EL n0 R y bytes ml ret Q F h cells slots pc Ls (.int y' :: .int x :: S) := by
  obtain ⟨hd, rfl⟩ := hd
  exact k.lift fun p e m c below T t hx hby ha q => XS.irem ha hx rfl (hb hby hd) rfl hy q
theorem WP.ladd {x y' : Int64} (hd : D1 bytes pc .ladd 1 pc') (k : WP l Z EL n0 R y bytes ml ret Q F h cells slots pc' Ls (.long (x + y') :: S)) : WP l Z EL n0 R y bytes ml ret Q F h cells slots pc Ls (.long y' :: .long x :: S) := by
  obtain ⟨hd, rfl⟩ := hd
  exact k.lift fun p e m c below T t hx hby ha q => XS.ladd ha hx rfl (hb hby hd) rfl q
theorem WP.lsub {x y' : Int64} (hd : D1 bytes pc .lsub 1 pc') (k : WP l Z EL n0 R y bytes ml ret Q F h cells slots pc' Ls (.long (x - y') :: S)) : WP l Z EL n0 R y bytes ml ret Q F h cells slots pc Ls (.long y' :: .long x :: S) := by
  obtain ⟨hd, rfl⟩ := hd
  exact k.lift fun p e m c below T t hx hby ha q => XS.lsub ha hx rfl (hb hby hd) rfl q
theorem WP.lmul {x y' : Int64} (hd : D1 bytes pc .lmul 1 pc') (k : WP l Z EL n0 R y bytes ml ret Q F h cells slots pc' Ls (.long (x * y') :: S)) : WP l Z EL n0 R y bytes ml ret Q F h cells slots pc Ls (.long y' :: .long x :: S) := by
  obtain ⟨hd, rfl⟩ := hd
  exact k.lift fun p e m c below T t hx hby ha q => XS.lmul ha hx rfl (hb hby hd) rfl q
theorem WP.land {x y' : Int64} (hd : D1 bytes pc .land 1 pc') (k : WP l Z EL n0 R y bytes ml ret Q F h cells slots pc' Ls (.long (x &&& y') :: S)) : WP l Z EL n0 R y bytes ml ret Q F h cells slots pc Ls (.long y' :: .long x :: S) := by
  obtain ⟨hd, rfl⟩ := hd
  exact k.lift fun p e m c below T t hx hby ha q => XS.land ha hx rfl (hb hby hd) rfl q
theorem WP.lor {x y' : Int64} (hd : D1 bytes pc .lor 1 pc') (k : WP l Z EL n0 R y bytes ml ret Q F h cells slots pc' Ls (.long (x ||| y') :: S)) : WP l Z EL n0 R y bytes ml ret Q F h cells slots pc Ls (.long y' :: .long x :: S) := by
  obtain ⟨hd, rfl⟩ := hd
  exact k.lift fun p e m c below T t hx hby ha q => XS.lor ha hx rfl (hb hby hd) rfl q
theorem WP.lxor {x y' : Int64} (hd : D1 bytes pc .lxor 1 pc') (k : WP l Z EL n0 R y bytes ml ret Q F h cells slots pc' Ls (.long (x ^^^ y') :: S)) : WP l Z EL n0 R y bytes ml ret Q F h cells slots pc Ls (.long y' :: .long x :: S) := by
  obtain ⟨hd, rfl⟩ := hd
  exact k.lift fun p e m c below T t hx hby ha q => XS.lxor ha hx rfl (hb hby hd) rfl q
theorem WP.ldiv {x y' : Int64} (hd : D1 bytes pc .ldiv 1 pc') (hy : y' ≠ 0) (k : WP l Z EL n0 R y bytes ml ret Q F h cells slots pc' Ls (.long (x / y') :: S)) : WP l Z EL n0 R y bytes ml ret Q F h cells slots pc Ls (.long y' :: .long x :: S) := by
  obtain ⟨hd, rfl⟩ := hd
  exact k.lift fun p e m c below T t hx hby ha q => XS.ldiv ha hx rfl (hb hby hd) rfl hy q
theorem WP.lrem {x y' : Int64} (hd : D1 bytes pc .lrem 1 pc') (hy : y' ≠ 0) (k : WP l Z EL n0 R y bytes ml ret Q F h cells slots pc' Ls (.long (x - (x / y') * y') :: S)) : WP l Z EL n0 R y bytes ml ret Q F h cells slots pc Ls (.long y' :: .long x :: S) := by
  obtain ⟨hd, rfl⟩ := hd
  exact k.lift fun p e m c below T t hx hby ha q => XS.lrem ha hx rfl (hb hby hd) rfl hy q
theorem WP.lshl {x : Int64} {y' : Int32} (hd : D1 bytes pc .lshl 1 pc') (k : WP l Z EL n0 R y bytes ml ret Q F h cells slots pc' Ls (.long (x <<< (y' &&& 0x3f).toInt64) :: S)) : WP l Z EL n0 R y bytes ml ret Q F h cells slots pc Ls (.int y' :: .long x :: S) := by
  obtain ⟨hd, rfl⟩ := hd
  exact k.lift fun p e m c below T t hx hby ha q => XS.lshl ha hx rfl (hb hby hd) rfl q
theorem WP.lshr {x : Int64} {y' : Int32} (hd : D1 bytes pc .lshr 1 pc') (k : WP l Z EL n0 R y bytes ml ret Q F h cells slots pc' Ls (.long (x >>> (y' &&& 0x3f).toInt64) :: S)) : WP l Z EL n0 R y bytes ml ret Q F h cells slots pc Ls (.int y' :: .long x :: S) := by
  obtain ⟨hd, rfl⟩ := hd
  exact k.lift fun p e m c below T t hx hby ha q => XS.lshr ha hx rfl (hb hby hd) rfl q
theorem WP.lushr {x : Int64} {y' : Int32} (hd : D1 bytes pc .lushr 1 pc') (k : WP l Z EL n0 R y bytes ml ret Q F h cells slots pc' Ls (.long ((x.toUInt64 >>> (y' &&& 0x3f).toInt64.toUInt64).toInt64) :: S)) : WP l Z EL n0 R y bytes ml ret Q F h cells slots pc Ls (.int y' :: .long x :: S) := by
  obtain ⟨hd, rfl⟩ := hd
  exact k.lift fun p e m c below T t hx hby ha q => XS.lushr ha hx rfl (hb hby hd) rfl q
theorem WP.lcmp {x y' : Int64} (hd : D1 bytes pc .lcmp 1 pc') (k : WP l Z EL n0 R y bytes ml ret Q F h cells slots pc' Ls (.int (lcmpW x y') :: S)) : WP l Z EL n0 R y bytes ml ret Q F h cells slots pc Ls (.long y' :: .long x :: S) := by
  obtain ⟨hd, rfl⟩ := hd
  exact k.lift fun p e m c below T t hx hby ha q => XS.lcmp ha hx rfl (hb hby hd) rfl q
theorem WP.ineg {x : Int32} (hd : D1 bytes pc .ineg 1 pc') (k : WP l Z EL n0 R y bytes ml ret Q F h cells slots pc' Ls (.int (-x) :: S)) : WP l Z EL n0 R y bytes ml ret Q F h cells slots pc Ls (.int x :: S) := by
  obtain ⟨hd, rfl⟩ := hd
  exact k.lift fun p e m c below T t hx hby ha q => XS.ineg ha hx rfl (hb hby hd) rfl q
theorem WP.lneg {x : Int64} (hd : D1 bytes pc .lneg 1 pc') (k : WP l Z EL n0 R y bytes ml ret Q F h cells slots pc' Ls (.long (-x) :: S)) : WP l Z EL n0 R y bytes ml ret Q F h cells slots pc Ls (.long x :: S) := by
  obtain ⟨hd, rfl⟩ := hd
  exact k.lift fun p e m c below T t hx hby ha q => XS.lneg ha hx rfl (hb hby hd) rfl q
theorem WP.i2l {x : Int32} (hd : D1 bytes pc .i2l 1 pc') (k : WP l Z EL n0 R y bytes ml ret Q F h cells slots pc' Ls (.long (x.toInt64) :: S)) : WP l Z EL n0 R y bytes ml ret Q F h cells slots pc Ls (.int x :: S) := by
  obtain ⟨hd, rfl⟩ := hd
  exact k.lift fun p e m c below T t hx hby ha q => XS.i2l ha hx rfl (hb hby hd) rfl q
theorem WP.l2i {x : Int64} (hd : D1 bytes pc .l2i 1 pc') (k : WP l Z EL n0 R y bytes ml ret Q F h cells slots pc' Ls (.int (x.toInt32) :: S)) : WP l Z EL n0 R y bytes ml ret Q F h cells slots pc Ls (.long x :: S) := by
  obtain ⟨hd, rfl⟩ := hd
  exact k.lift fun p e m c below T t hx hby ha q => XS.l2i ha hx rfl (hb hby hd) rfl q
theorem WP.i2b {x : Int32} (hd : D1 bytes pc .i2b 1 pc') (k : WP l Z EL n0 R y bytes ml ret Q F h cells slots pc' Ls (.int (x.toInt8.toInt32) :: S)) : WP l Z EL n0 R y bytes ml ret Q F h cells slots pc Ls (.int x :: S) := by
  obtain ⟨hd, rfl⟩ := hd
  exact k.lift fun p e m c below T t hx hby ha q => XS.i2b ha hx rfl (hb hby hd) rfl q
theorem WP.i2s {x : Int32} (hd : D1 bytes pc .i2s 1 pc') (k : WP l Z EL n0 R y bytes ml ret Q F h cells slots pc' Ls (.int (x.toInt16.toInt32) :: S)) : WP l Z EL n0 R y bytes ml ret Q F h cells slots pc Ls (.int x :: S) := by
  obtain ⟨hd, rfl⟩ := hd
  exact k.lift fun p e m c below T t hx hby ha q => XS.i2s ha hx rfl (hb hby hd) rfl q
theorem WP.i2c {x : Int32} (hd : D1 bytes pc .i2c 1 pc') (k : WP l Z EL n0 R y bytes ml ret Q F h cells slots pc' Ls (.int (x.toUInt32.toUInt16.toUInt32.toInt32) :: S)) : WP l Z EL n0 R y bytes ml ret Q F h cells slots pc Ls (.int x :: S) := by
  obtain ⟨hd, rfl⟩ := hd
  exact k.lift fun p e m c below T t hx hby ha q => XS.i2c ha hx rfl (hb hby hd) rfl q
theorem WP.iload_n {i : Fin 4} {x : Int32} (hd : D1 bytes pc (.iload_n i) 1 pc') (hl : Ls[i.val]? = some (.val (.int x))) (k : WP l Z EL n0 R y bytes ml ret Q F h cells slots pc' Ls (.int x :: S)) : WP l Z EL n0 R y bytes ml ret Q F h cells slots pc Ls S := by
  obtain ⟨hd, rfl⟩ := hd
  exact k.lift fun p e m c below T t hx hby ha q => XS.iloadN ha hx rfl (hb hby hd) hl q
theorem WP.iload {i : Nat} {x : Int32} (hd : D1 bytes pc (.iload i) 2 pc') (hl : Ls[i]? = some (.val (.int x))) (k : WP l Z EL n0 R y bytes ml ret Q F h cells slots pc' Ls (.int x :: S)) : WP l Z EL n0 R y bytes ml ret Q F h cells slots pc Ls S := by
  obtain ⟨hd, rfl⟩ := hd
  exact k.lift fun p e m c below T t hx hby ha q => XS.iload ha hx rfl (hb hby hd) hl q
theorem WP.lload_n {i : Fin 4} {x : Int64} (hd : D1 bytes pc (.lload_n i) 1 pc') (hl : Ls[i.val]? = some (.val (.long x))) (k : WP l Z EL n0 R y bytes ml ret Q F h cells slots pc' Ls (.long x :: S)) : WP l Z EL n0 R y bytes ml ret Q F h cells slots pc Ls S := by
  obtain ⟨hd, rfl⟩ := hd
  exact k.lift fun p e m c below T t hx hby ha q => XS.lloadN ha hx rfl (hb hby hd) hl q
theorem WP.lload {i : Nat} {x : Int64} (hd : D1 bytes pc (.lload i) 2 pc') (hl : Ls[i]? = some (.val (.long x))) (k : WP l Z EL n0 R y bytes ml ret Q F h cells slots pc' Ls (.long x :: S)) : WP l Z EL n0 R y bytes ml ret Q F h cells slots pc Ls S := by
  obtain ⟨hd, rfl⟩ := hd
  exact k.lift fun p e m c below T t hx hby ha q => XS.lload ha hx rfl (hb hby hd) hl q
theorem WP.aload_n {i : Fin 4} {x : Value} (hd : D1 bytes pc (.aload_n i) 1 pc') (hl : Ls[i.val]? = some (.val x)) (hv : x.isRef = true) (k : WP l Z EL n0 R y bytes ml ret Q F h cells slots pc' Ls (x :: S)) : WP l Z EL n0 R y bytes ml ret Q F h cells slots pc Ls S := by
  obtain ⟨hd, rfl⟩ := hd
  exact k.lift fun p e m c below T t hx hby ha q => XS.aloadN ha hx rfl (hb hby hd) hl hv q
theorem WP.aload {i : Nat} {x : Value} (hd : D1 bytes pc (.aload i) 2 pc') (hl : Ls[i]? = some (.val x)) (hv : x.isRef = true) (k : WP l Z EL n0 R y bytes ml ret Q F h cells slots pc' Ls (x :: S)) : WP l Z EL n0 R y bytes ml ret Q F h cells slots pc Ls S := by
  obtain ⟨hd, rfl⟩ := hd
  exact k.lift fun p e m c below T t hx hby ha q => XS.aload ha hx rfl (hb hby hd) hl hv q
theorem WP.istore_n {i : Fin 4} {x z : Int32} (hd : D1 bytes pc (.istore_n i) 1 pc') (hz : x = z) (hl : storeLocals Ls i.val (.int z) = some Ls') (k : WP l Z EL n0 R y bytes ml ret Q F h cells slots pc' Ls' S) : WP l Z EL n0 R y bytes ml ret Q F h cells slots pc Ls (.int x :: S) := by
  obtain ⟨hd, rfl⟩ := hd
  subst hz
  exact k.lift fun p e m c below T t hx hby ha q => XS.istoreN ha hx rfl (hb hby hd) rfl hl q
theorem WP.istore {i : Nat} {x z : Int32} (hd : D1 bytes pc (.istore i) 2 pc') (hz : x = z) (hl : storeLocals Ls i (.int z) = some Ls') (k : WP l Z EL n0 R y bytes ml ret Q F h cells slots pc' Ls' S) : WP l Z EL n0 R y bytes ml ret Q F h cells slots pc Ls (.int x :: S) := by
  obtain ⟨hd, rfl⟩ := hd
  subst hz
  exact k.lift fun p e m c below T t hx hby ha q => XS.istore ha hx rfl (hb hby hd) rfl hl q
theorem WP.lstore_n {i : Fin 4} {x z : Int64} (hd : D1 bytes pc (.lstore_n i) 1 pc') (hz : x = z) (hl : storeLocals Ls i.val (.long z) = some Ls') (k : WP l Z EL n0 R y bytes ml ret Q F h cells slots pc' Ls' S) : WP l Z EL n0 R y bytes ml ret Q F h cells slots pc Ls (.long x :: S) := by
  obtain ⟨hd, rfl⟩ := hd
  subst hz
  exact k.lift fun p e m c below T t hx hby ha q => XS.lstoreN ha hx rfl (hb hby hd) rfl hl q
theorem WP.lstore {i : Nat} {x z : Int64} (hd : D1 bytes pc (.lstore i) 2 pc') (hz : x = z) (hl : storeLocals Ls i (.long z) = some Ls') (k : WP l Z EL n0 R y bytes ml ret Q F h cells slots pc' Ls' S) : WP l Z EL n0 R y bytes ml ret Q F h cells slots pc Ls (.long x :: S) := by
  obtain ⟨hd, rfl⟩ := hd
  subst hz
  exact k.lift fun p e m c below T t hx hby ha q => XS.lstore ha hx rfl (hb hby hd) rfl hl q
theorem WP.astore_n {i : Fin 4} {x : Value} (hd : D1 bytes pc (.astore_n i) 1 pc') (hl : storeLocals Ls i.val x = some Ls') (hv : x.isRef = true) (k : WP l Z EL n0 R y bytes ml ret Q F h cells slots pc' Ls' S) : WP l Z EL n0 R y bytes ml ret Q F h cells slots pc Ls (x :: S) := by
  obtain ⟨hd, rfl⟩ := hd
  exact k.lift fun p e m c below T t hx hby ha q => XS.astoreN ha hx rfl (hb hby hd) rfl hv hl q
theorem WP.astore {i : Nat} {x : Value} (hd : D1 bytes pc (.astore i) 2 pc') (hl : storeLocals Ls i x = some Ls') (hv : x.isRef = true) (k : WP l Z EL n0 R y bytes ml ret Q F h cells slots pc' Ls' S) : WP l Z EL n0 R y bytes ml ret Q F h cells slots pc Ls (x :: S) := by
  obtain ⟨hd, rfl⟩ := hd
  exact k.lift fun p e m c below T t hx hby ha q => XS.astore ha hx rfl (hb hby hd) rfl hv hl q
theorem WP.iinc {i : Nat} {cst : Int} {x v : Int32} (hd : D1 bytes pc (.iinc i cst) 3 pc') (hl : Ls[i]? = some (.val (.int x))) (hv : x + Int32.ofInt cst = v) (hl' : storeLocals Ls i (.int v) = some Ls') (k : WP l Z EL n0 R y bytes ml ret Q F h cells slots pc' Ls' S) : WP l Z EL n0 R y bytes ml ret Q F h cells slots pc Ls S := by
  obtain ⟨hd, rfl⟩ := hd
  subst hv
  exact k.lift fun p e m c below T t hx hby ha q => XS.iinc ha hx rfl (hb hby hd) hl hl' q
theorem WP.iconst {i : Int} {v : Int32} (hd : D1 bytes pc (.iconst i) 1 pc') (hv : Int32.ofInt i = v) (k : WP l Z EL n0 R y bytes ml ret Q F h cells slots pc' Ls (.int v :: S)) : WP l Z EL n0 R y bytes ml ret Q F h cells slots pc Ls S := by
  obtain ⟨hd, rfl⟩ := hd
  subst hv
  exact k.lift fun p e m c below T t hx hby ha q => XS.iconst ha hx rfl (hb hby hd) q
theorem WP.bipush {i : Int} {v : Int32} (hd : D1 bytes pc (.bipush i) 2 pc') (hv : (Int8.ofInt i).toInt32 = v) (k : WP l Z EL n0 R y bytes ml ret Q F h cells slots pc' Ls (.int v :: S)) : WP l Z EL n0 R y bytes ml ret Q F h cells slots pc Ls S := by
  obtain ⟨hd, rfl⟩ := hd
  subst hv
  exact k.lift fun p e m c below T t hx hby ha q => XS.bipush ha hx rfl (hb hby hd) q
theorem WP.sipush {i : Int} {v : Int32} (hd : D1 bytes pc (.sipush i) 3 pc') (hv : (Int16.ofInt i).toInt32 = v) (k : WP l Z EL n0 R y bytes ml ret Q F h cells slots pc' Ls (.int v :: S)) : WP l Z EL n0 R y bytes ml ret Q F h cells slots pc Ls S := by
  obtain ⟨hd, rfl⟩ := hd
  subst hv
  exact k.lift fun p e m c below T t hx hby ha q => XS.sipush ha hx rfl (hb hby hd) q
theorem WP.lconst {i : Fin 2} {v : Int64} (hd : D1 bytes pc (.lconst i) 1 pc') (hv : Int64.ofNat i = v) (k : WP l Z EL n0 R y bytes ml ret Q F h cells slots pc' Ls (.long v :: S)) : WP l Z EL n0 R y bytes ml ret Q F h cells slots pc Ls S := by
  obtain ⟨hd, rfl⟩ := hd
  subst hv
  exact k.lift fun p e m c below T t hx hby ha q => XS.lconst ha hx rfl (hb hby hd) q
theorem WP.aconst_null (hd : D1 bytes pc .aconst_null 1 pc') (k : WP l Z EL n0 R y bytes ml ret Q F h cells slots pc' Ls (.null :: S)) : WP l Z EL n0 R y bytes ml ret Q F h cells slots pc Ls S := by
  obtain ⟨hd, rfl⟩ := hd
  exact k.lift fun p e m c below T t hx hby ha q => XS.aconstNull ha hx rfl (hb hby hd) q
theorem WP.dup {x : Value} (hd : D1 bytes pc .dup 1 pc') (hc : x.category = 1) (k : WP l Z EL n0 R y bytes ml ret Q F h cells slots pc' Ls (x :: x :: S)) : WP l Z EL n0 R y bytes ml ret Q F h cells slots pc Ls (x :: S) := by
  obtain ⟨hd, rfl⟩ := hd
  exact k.lift fun p e m c below T t hx hby ha q => XS.dup ha hx rfl (hb hby hd) rfl hc q
theorem WP.dup_x1 {x y' : Value} (hd : D1 bytes pc .dup_x1 1 pc') (hc : x.category = 1) (hc' : y'.category = 1) (k : WP l Z EL n0 R y bytes ml ret Q F h cells slots pc' Ls (x :: y' :: x :: S)) : WP l Z EL n0 R y bytes ml ret Q F h cells slots pc Ls (x :: y' :: S) := by
  obtain ⟨hd, rfl⟩ := hd
  exact k.lift fun p e m c below T t hx hby ha q => XS.dupX1 ha hx rfl (hb hby hd) rfl hc hc' q
theorem WP.pop {x : Value} (hd : D1 bytes pc .pop 1 pc') (hc : x.category = 1) (k : WP l Z EL n0 R y bytes ml ret Q F h cells slots pc' Ls S) : WP l Z EL n0 R y bytes ml ret Q F h cells slots pc Ls (x :: S) := by
  obtain ⟨hd, rfl⟩ := hd
  exact k.lift fun p e m c below T t hx hby ha q => XS.pop ha hx rfl (hb hby hd) rfl hc q
theorem tgt_of {o : Int} {tgt : Nat} (q : (pc : Int) + o = (tgt : Int)) : 0 ≤ (pc : Int) + o ∧ ((pc : Int) + o).toNat = tgt := ⟨by omega, by omega⟩
theorem WP.goto {o : Int} {nx tgt : Nat} (hd : DJ bytes pc .goto o nx tgt) (k : WP l Z EL n0 R y bytes ml ret Q F h cells slots tgt Ls S) : WP l Z EL n0 R y bytes ml ret Q F h cells slots pc Ls S := by
  obtain ⟨hd, -, ht⟩ := hd
  exact k.lift fun p e m c below T t hx hby ha q => XS.goto ha hx rfl rfl (hb hby hd) (tgt_of ht).1 (tgt_of ht).2 q
theorem WP.ifC {cd : ClassFile.Cond} {x : Int32} {o : Int} {nx tgt : Nat} (hd : DJ bytes pc (.ifCond cd) o nx tgt) (k1 : ifCond.holds cd x = true → WP l Z EL n0 R y bytes ml ret Q F h cells slots tgt Ls S) (k2 : ifCond.holds cd x = false → WP l Z EL n0 R y bytes ml ret Q F h cells slots nx Ls S) : WP l Z EL n0 R y bytes ml ret Q F h cells slots pc Ls (.int x :: S) := by
  obtain ⟨hd, rfl, ht⟩ := hd
  cases hc : ifCond.holds cd x with
  | true => exact (k1 hc).lift fun p e m c below T t hx hby ha q => XS.ifYes ha hx rfl rfl (hb hby hd) rfl hc (tgt_of ht).1 (tgt_of ht).2 q
  | false => exact (k2 hc).lift fun p e m c below T t hx hby ha q => XS.ifNo ha hx rfl (hb hby hd) rfl hc q
theorem WP.icmpC {cd : ClassFile.Cond} {x y' : Int32} {o : Int} {nx tgt : Nat} (hd : DJ bytes pc (.if_icmp cd) o nx tgt) (k1 : if_icmp.holds cd x y' = true → WP l Z EL n0 R y bytes ml ret Q F h cells slots tgt Ls S) (k2 : if_icmp.holds cd x y' = false → WP l Z EL n0 R y bytes ml ret Q F h cells slots nx Ls S) : WP l Z EL n0 R y bytes ml ret Q F h cells slots pc Ls (.int y' :: .int x :: S) := by
  obtain ⟨hd, rfl, ht⟩ := hd
  cases hc : if_icmp.holds cd x y' with
  | true => exact (k1 hc).lift fun p e m c below T t hx hby ha q => XS.icmpYes ha hx rfl rfl (hb hby hd) rfl hc (tgt_of ht).1 (tgt_of ht).2 q
  | false => exact (k2 hc).lift fun p e m c below T t hx hby ha q => XS.icmpNo ha hx rfl (hb hby hd) rfl hc q
theorem WP.ifnull {x : Value} {o : Int} {nx tgt : Nat} (hd : DJ bytes pc .ifnull o nx tgt) (hr : x.isRef = true) (k1 : x = .null → WP l Z EL n0 R y bytes ml ret Q F h cells slots tgt Ls S) (k2 : ∀ a, x = .ref a → WP l Z EL n0 R y bytes ml ret Q F h cells slots nx Ls S) : WP l Z EL n0 R y bytes ml ret Q F h cells slots pc Ls (x :: S) := by
  obtain ⟨hd, rfl, ht⟩ := hd
  rcases ref_cases hr with rfl | ⟨a, rfl⟩
  · exact (k1 rfl).lift fun p e m c below T t hx hby ha q => XS.ifnullYes ha hx rfl rfl (hb hby hd) rfl (tgt_of ht).1 (tgt_of ht).2 q
  · exact (k2 a rfl).lift fun p e m c below T t hx hby ha q => XS.ifnullNo ha hx rfl (hb hby hd) rfl q
theorem WP.ifnonnull {x : Value} {o : Int} {nx tgt : Nat} (hd : DJ bytes pc .ifnonnull o nx tgt) (hr : x.isRef = true) (k1 : ∀ a, x = .ref a → WP l Z EL n0 R y bytes ml ret Q F h cells slots tgt Ls S) (k2 : x = .null → WP l Z EL n0 R y bytes ml ret Q F h cells slots nx Ls S) : WP l Z EL n0 R y bytes ml ret Q F h cells slots pc Ls (x :: S) := by
  obtain ⟨hd, rfl, ht⟩ := hd
  rcases ref_cases hr with rfl | ⟨a, rfl⟩
  · exact (k2 rfl).lift fun p e m c below T t hx hby ha q => XS.ifnonnullNo ha hx rfl (hb hby hd) rfl q
  · exact (k1 a rfl).lift fun p e m c below T t hx hby ha q => XS.ifnonnullYes ha hx rfl rfl (hb hby hd) rfl (tgt_of ht).1 (tgt_of ht).2 q
theorem WP.acmp_ne {x y' : Value} {o : Int} {nx tgt : Nat} (hd : DJ bytes pc (.if_acmp .ne) o nx tgt) (hr : x.isRef = true) (hr' : y'.isRef = true) (k1 : ¬ x = y' → WP l Z EL n0 R y bytes ml ret Q F h cells slots tgt Ls S) (k2 : x = y' → WP l Z EL n0 R y bytes ml ret Q F h cells slots nx Ls S) : WP l Z EL n0 R y bytes ml ret Q F h cells slots pc Ls (y' :: x :: S) := by
  obtain ⟨hd, rfl, ht⟩ := hd
  by_cases hc : x = y'
  · exact (k2 hc).lift fun p e m c below T t hx hby ha q => XT.acmpNo ha hx rfl (hb hby hd) rfl hr hr' (XT.aa_ne_f hc) q
  · exact (k1 hc).lift fun p e m c below T t hx hby ha q => XT.acmpYes ha hx rfl rfl (hb hby hd) rfl hr hr' (XT.aa_ne_t hc) (tgt_of ht).1 (tgt_of ht).2 q
theorem WP.acmp_eq {x y' : Value} {o : Int} {nx tgt : Nat} (hd : DJ bytes pc (.if_acmp .eq) o nx tgt) (hr : x.isRef = true) (hr' : y'.isRef = true) (k1 : x = y' → WP l Z EL n0 R y bytes ml ret Q F h cells slots tgt Ls S) (k2 : ¬ x = y' → WP l Z EL n0 R y bytes ml ret Q F h cells slots nx Ls S) : WP l Z EL n0 R y bytes ml ret Q F h cells slots pc Ls (y' :: x :: S) := by
  obtain ⟨hd, rfl, ht⟩ := hd
  by_cases hc : x = y'
  · exact (k1 hc).lift fun p e m c below T t hx hby ha q => XT.acmpYes ha hx rfl rfl (hb hby hd) rfl hr hr' (XT.aa_eq_t hc) (tgt_of ht).1 (tgt_of ht).2 q
  · exact (k2 hc).lift fun p e m c below T t hx hby ha q => XT.acmpNo ha hx rfl (hb hby hd) rfl hr hr' (XT.aa_eq_f hc) q
theorem WP.icmp_eq {x y' : Int32} {o : Int} {nx tgt : Nat} (hd : DJ bytes pc (.if_icmp .eq) o nx tgt) (k1 : x = y' → WP l Z EL n0 R y bytes ml ret Q F h cells slots tgt Ls S) (k2 : ¬ x = y' → WP l Z EL n0 R y bytes ml ret Q F h cells slots nx Ls S) : WP l Z EL n0 R y bytes ml ret Q F h cells slots pc Ls (.int y' :: .int x :: S) :=
  WP.icmpC hd (fun q => k1 (Classical.byContradiction fun z => by have := XT.ii_eq_f (x := x) (y := y') (by simpa using z); rw [q] at this; cases this)) (fun q => k2 (Classical.byContradiction fun z => by have := XT.ii_eq_t (x := x) (y := y') (by simpa using z); rw [q] at this; cases this))
theorem WP.if_eq {x : Int32} {o : Int} {nx tgt : Nat} (hd : DJ bytes pc (.ifCond .eq) o nx tgt) (k1 : x = 0 → WP l Z EL n0 R y bytes ml ret Q F h cells slots tgt Ls S) (k2 : ¬ x = 0 → WP l Z EL n0 R y bytes ml ret Q F h cells slots nx Ls S) : WP l Z EL n0 R y bytes ml ret Q F h cells slots pc Ls (.int x :: S) :=
  WP.ifC hd (fun q => k1 (Classical.byContradiction fun z => by have := XT.i0_eq_f (x := x) (by simpa using z); rw [q] at this; cases this)) (fun q => k2 (Classical.byContradiction fun z => by have := XT.i0_eq_t (x := x) (by simpa using z); rw [q] at this; cases this))
theorem WP.icmp_ne {x y' : Int32} {o : Int} {nx tgt : Nat} (hd : DJ bytes pc (.if_icmp .ne) o nx tgt) (k1 : ¬ x = y' → WP l Z EL n0 R y bytes ml ret Q F h cells slots tgt Ls S) (k2 : x = y' → WP l Z EL n0 R y bytes ml ret Q F h cells slots nx Ls S) : WP l Z EL n0 R y bytes ml ret Q F h cells slots pc Ls (.int y' :: .int x :: S) :=
  WP.icmpC hd (fun q => k1 (Classical.byContradiction fun z => by have := XT.ii_ne_f (x := x) (y := y') (by simpa using z); rw [q] at this; cases this)) (fun q => k2 (Classical.byContradiction fun z => by have := XT.ii_ne_t (x := x) (y := y') (by simpa using z); rw [q] at this; cases this))
theorem WP.if_ne {x : Int32} {o : Int} {nx tgt : Nat} (hd : DJ bytes pc (.ifCond .ne) o nx tgt) (k1 : ¬ x = 0 → WP l Z EL n0 R y bytes ml ret Q F h cells slots tgt Ls S) (k2 : x = 0 → WP l Z EL n0 R y bytes ml ret Q F h cells slots nx Ls S) : WP l Z EL n0 R y bytes ml ret Q F h cells slots pc Ls (.int x :: S) :=
  WP.ifC hd (fun q => k1 (Classical.byContradiction fun z => by have := XT.i0_ne_f (x := x) (by simpa using z); rw [q] at this; cases this)) (fun q => k2 (Classical.byContradiction fun z => by have := XT.i0_ne_t (x := x) (by simpa using z); rw [q] at this; cases this))
theorem WP.icmp_lt {x y' : Int32} {o : Int} {nx tgt : Nat} (hd : DJ bytes pc (.if_icmp .lt) o nx tgt) (k1 : x < y' → WP l Z EL n0 R y bytes ml ret Q F h cells slots tgt Ls S) (k2 : ¬ x < y' → WP l Z EL n0 R y bytes ml ret Q F h cells slots nx Ls S) : WP l Z EL n0 R y bytes ml ret Q F h cells slots pc Ls (.int y' :: .int x :: S) :=
  WP.icmpC hd (fun q => k1 (Classical.byContradiction fun z => by have := XT.ii_lt_f (x := x) (y := y') (by simpa using z); rw [q] at this; cases this)) (fun q => k2 (Classical.byContradiction fun z => by have := XT.ii_lt_t (x := x) (y := y') (by simpa using z); rw [q] at this; cases this))
theorem WP.if_lt {x : Int32} {o : Int} {nx tgt : Nat} (hd : DJ bytes pc (.ifCond .lt) o nx tgt) (k1 : x < 0 → WP l Z EL n0 R y bytes ml ret Q F h cells slots tgt Ls S) (k2 : ¬ x < 0 → WP l Z EL n0 R y bytes ml ret Q F h cells slots nx Ls S) : WP l Z EL n0 R y bytes ml ret Q F h cells slots pc Ls (.int x :: S) :=
  WP.ifC hd (fun q => k1 (Classical.byContradiction fun z => by have := XT.i0_lt_f (x := x) (by simpa using z); rw [q] at this; cases this)) (fun q => k2 (Classical.byContradiction fun z => by have := XT.i0_lt_t (x := x) (by simpa using z); rw [q] at this; cases this))
theorem WP.icmp_ge {x y' : Int32} {o : Int} {nx tgt : Nat} (hd : DJ bytes pc (.if_icmp .ge) o nx tgt) (k1 : ¬ x < y' → WP l Z EL n0 R y bytes ml ret Q F h cells slots tgt Ls S) (k2 : x < y' → WP l Z EL n0 R y bytes ml ret Q F h cells slots nx Ls S) : WP l Z EL n0 R y bytes ml ret Q F h cells slots pc Ls (.int y' :: .int x :: S) :=
  WP.icmpC hd (fun q => k1 (Classical.byContradiction fun z => by have := XT.ii_ge_f (x := x) (y := y') (by simpa using z); rw [q] at this; cases this)) (fun q => k2 (Classical.byContradiction fun z => by have := XT.ii_ge_t (x := x) (y := y') (by simpa using z); rw [q] at this; cases this))
theorem WP.if_ge {x : Int32} {o : Int} {nx tgt : Nat} (hd : DJ bytes pc (.ifCond .ge) o nx tgt) (k1 : ¬ x < 0 → WP l Z EL n0 R y bytes ml ret Q F h cells slots tgt Ls S) (k2 : x < 0 → WP l Z EL n0 R y bytes ml ret Q F h cells slots nx Ls S) : WP l Z EL n0 R y bytes ml ret Q F h cells slots pc Ls (.int x :: S) :=
  WP.ifC hd (fun q => k1 (Classical.byContradiction fun z => by have := XT.i0_ge_f (x := x) (by simpa using z); rw [q] at this; cases this)) (fun q => k2 (Classical.byContradiction fun z => by have := XT.i0_ge_t (x := x) (by simpa using z); rw [q] at this; cases this))
theorem WP.icmp_gt {x y' : Int32} {o : Int} {nx tgt : Nat} (hd : DJ bytes pc (.if_icmp .gt) o nx tgt) (k1 : y' < x → WP l Z EL n0 R y bytes ml ret Q F h cells slots tgt Ls S) (k2 : ¬ y' < x → WP l Z EL n0 R y bytes ml ret Q F h cells slots nx Ls S) : WP l Z EL n0 R y bytes ml ret Q F h cells slots pc Ls (.int y' :: .int x :: S) :=
  WP.icmpC hd (fun q => k1 (Classical.byContradiction fun z => by have := XT.ii_gt_f (x := x) (y := y') (by simpa using z); rw [q] at this; cases this)) (fun q => k2 (Classical.byContradiction fun z => by have := XT.ii_gt_t (x := x) (y := y') (by simpa using z); rw [q] at this; cases this))
theorem WP.if_gt {x : Int32} {o : Int} {nx tgt : Nat} (hd : DJ bytes pc (.ifCond .gt) o nx tgt) (k1 : 0 < x → WP l Z EL n0 R y bytes ml ret Q F h cells slots tgt Ls S) (k2 : ¬ 0 < x → WP l Z EL n0 R y bytes ml ret Q F h cells slots nx Ls S) : WP l Z EL n0 R y bytes ml ret Q F h cells slots pc Ls (.int x :: S) :=
  WP.ifC hd (fun q => k1 (Classical.byContradiction fun z => by have := XT.i0_gt_f (x := x) (by simpa using z); rw [q] at this; cases this)) (fun q => k2 (Classical.byContradiction fun z => by have := XT.i0_gt_t (x := x) (by simpa using z); rw [q] at this; cases this))
theorem WP.icmp_le {x y' : Int32} {o : Int} {nx tgt : Nat} (hd : DJ bytes pc (.if_icmp .le) o nx tgt) (k1 : ¬ y' < x → WP l Z EL n0 R y bytes ml ret Q F h cells slots tgt Ls S) (k2 : y' < x → WP l Z EL n0 R y bytes ml ret Q F h cells slots nx Ls S) : WP l Z EL n0 R y bytes ml ret Q F h cells slots pc Ls (.int y' :: .int x :: S) :=
  WP.icmpC hd (fun q => k1 (Classical.byContradiction fun z => by have := XT.ii_le_f (x := x) (y := y') (by simpa using z); rw [q] at this; cases this)) (fun q => k2 (Classical.byContradiction fun z => by have := XT.ii_le_t (x := x) (y := y') (by simpa using z); rw [q] at this; cases this))
theorem WP.if_le {x : Int32} {o : Int} {nx tgt : Nat} (hd : DJ bytes pc (.ifCond .le) o nx tgt) (k1 : ¬ 0 < x → WP l Z EL n0 R y bytes ml ret Q F h cells slots tgt Ls S) (k2 : 0 < x → WP l Z EL n0 R y bytes ml ret Q F h cells slots nx Ls S) : WP l Z EL n0 R y bytes ml ret Q F h cells slots pc Ls (.int x :: S) :=
  WP.ifC hd (fun q => k1 (Classical.byContradiction fun z => by have := XT.i0_le_f (x := x) (by simpa using z); rw [q] at this; cases this)) (fun q => k2 (Classical.byContradiction fun z => by have := XT.i0_le_t (x := x) (by simpa using z); rw [q] at this; cases this))
end Plain
end Jvm.Own
namespace Jvm.Own
open Jvm Jvm.ClassFile Sem Op Lib Jvm.Free Jvm.Stand Jvm.LawKit Jvm.RoadKit Bundle
/-- an array of ints, bytes, chars, shorts or booleans: its components -/
def IA (Z : State) (h : Heap) (a : Addr) (ty : FieldType) (xs : List Int32) : Prop := ∃ c : Cell, Arr Z h a c ty ∧ c.slots = (xs.map Value.int).toArray ∧ xs.length < 2 ^ 31
theorem nle {a b : Nat} (h : Nat.ble a b = true) : a ≤ b := Nat.le_of_ble_eq_true h
theorem nlt {a : Addr} {n : Nat} (h : a < n) : @LT.lt Nat instLTNat a n := h
theorem nea {a b : Addr} (h : @LT.lt Nat instLTNat a b ∨ @LT.lt Nat instLTNat b a) : a ≠ b := fun e => by
  subst e
  exact h.elim (Nat.lt_irrefl _) (Nat.lt_irrefl _)
/-- j is the int of the place i -/
def Ix (j : Int32) (i : Nat) : Prop := j.toInt = (i : Int)
theorem Ix.nn {j : Int32} {i : Nat} (q : Ix j i) : ¬ j < 0 := by
  rw [Int32.lt_iff_toInt_lt, q]; show ¬ (i : Int) < 0; omega
theorem Ix.clamp {j : Int32} {i : Nat} (q : Ix j i) : j.toNatClampNeg = i := by
  unfold Ix at q; simp only [Int32.toNatClampNeg, q]; exact Int.toNat_natCast i
theorem Ix.ofNat {i : Nat} (q : i < 2 ^ 31) : Ix (Int32.ofNat i) i := Int32.toInt_ofNat_of_lt q
section Facts
variable {Z : State} {h h' : Heap} {a b : Addr} {ty : FieldType} {xs : List Int32} {sl : Nat} {v : Value} {ws : List Addr}
theorem IA.lt (A : IA Z h a ty xs) : a < h.size := by obtain ⟨c, A, -⟩ := A; exact A.lt
theorem IA.len (A : IA Z h a ty xs) : xs.length < 2 ^ 31 := by obtain ⟨c, -, -, q⟩ := A; exact q
theorem IA.ext (A : IA Z h a ty xs) (E : Ext h h') : IA Z h' a ty xs := by obtain ⟨c, A, r⟩ := A; exact ⟨c, A.ext E, r⟩
theorem IA.other (A : IA Z h b ty xs) (W : Wr h h' a sl v) (q : b ≠ a) : IA Z h' b ty xs := by obtain ⟨c, A, r⟩ := A; exact ⟨c, A.other W q, r⟩
theorem IA.keep (A : IA Z h a ty xs) (K : Keep h h' ws) (q : a ∉ ws) : IA Z h' a ty xs := by obtain ⟨c, A, r⟩ := A; exact ⟨c, ⟨K.2.1 a c A.1 q, A.2⟩, r⟩
theorem IA.set {i : Nat} {x : Int32} (A : IA Z h a ty xs) (W : Wr h h' a i (.int x)) : IA Z h' a ty (xs.set i x) := by
  obtain ⟨c, A, e, q⟩ := A
  refine ⟨_, A.same W, ?_, by simpa using q⟩
  simp [Cell.setSlot, e, List.map_set]
theorem IA.of_arv {k : ClassId} {z : Int32} {d : Value} (A : Arv Z h a k ty z (xs.map Value.int) d) (hl : z.toNatClampNeg = xs.length) : IA Z h a ty xs := by
  obtain ⟨c, A, -, q1, q2, q3, -⟩ := A
  have hs : c.slots.size = xs.length := q1.trans hl
  refine ⟨c, A, ?_, ?_⟩
  · apply Array.ext_getElem?
    intro i
    by_cases hi : i < xs.length
    · rw [q3 i (by omega)]; simp [hi]
    · rw [Array.getElem?_eq_none (by omega), Array.getElem?_eq_none (by simp; omega)]
  · rw [← hl]
    have := (back32 q2).2
    exact this
theorem IA.size {c : Cell} (e : c.slots = (xs.map Value.int).toArray) : c.slots.size = xs.length := by rw [e]; simp
theorem Exa.neIA {C : String} {n : Nat} {a0 : Array Value} (E : Exa Z h a C) (w : (Cond.instantiable C n).before a0 Z = true) (A : IA Z h b ty xs) : a ≠ b := by
  obtain ⟨c, A, -⟩ := A
  exact ne_arr E w A
end Facts
section Heap
variable {l : Launch} {Z : State} {EL : List (String × Nat)} {n0 : Nat} {R : Room} {y : MethodName} {bytes : ByteArray} {ml : Nat} {ret : Option FieldType} {Q : Option Value → Heap → List Addr → Prop}
  {F : List Addr} {h : Heap} {cells slots pc pc' : Nat} {Ls Ls' : Array Slot} {S S' : List Value} {a0 : Array Value}
theorem WP.new {idx n : Nat} {C : String} (hd : D1 bytes pc (.new idx) 3 pc') (w : (Cond.classLink y.cls idx C).before a0 Z = true) (wi : (Cond.instantiable C n).before a0 Z = true) (wz : (Cond.initialized C).before a0 Z = true) (hc : cells + 1 ≤ R.cells) (hl : slots + n ≤ R.slots)
    (k : ∀ (h' : Heap) (b : Nat), b = h.size → Ext h h' → Exa Z h' b C → (∀ {O nm d : String} {ty : FieldType}, Laid Z a0 C O nm d → parseFieldDescriptor d = some ty → Fld Z h' b O nm d (defaultValue ty)) → Unt h' b → WP l Z EL n0 R y bytes ml ret Q (b :: F) h' (cells + 1) (slots + n) pc' Ls (.ref b :: S)) :
    WP l Z EL n0 R y bytes ml ret Q F h cells slots pc Ls S := by
  obtain ⟨hd, rfl⟩ := hd
  refine WP.grow (G := [h.size]) (P := fun h' => Exa Z h' h.size C ∧ (∀ {O nm d : String} {ty : FieldType}, Laid Z a0 C O nm d → parseFieldDescriptor d = some ty → Fld Z h' h.size O nm d (defaultValue ty)) ∧ Unt h' h.size) (fun h' E hP x hx => ?_) (fun p e s m args below meth c T vm0 locs D => ?_) (fun h' E hP => k h' _ rfl E hP.1 hP.2.1 hP.2.2)
  · cases List.mem_singleton.mp hx; exact ⟨hP.1.lt, Nat.le_refl _⟩
  · obtain ⟨X, e0, -, hZ, hown, -, -, -, -, hx, hby, -⟩ := D
    obtain ⟨T', h', X', e', E, A, D', U, st⟩ := newO X hx hZ hown w wi wz e0 (g := mkF m pc Ls S) rfl (hb hby hd) hc hl
    exact ⟨T', h', X', e', E, ⟨A, D', U⟩, st⟩
theorem WP.newarray {aty : ArrayType} {n : Int32} {cap i : Nat} (hd : D1 bytes pc (.newarray aty) 2 pc') (w : (Cond.arrayClass (newarray.typeOf aty)).before a0 Z = true) (hz : defaultValue (newarray.typeOf aty) = .int 0) (hn : Ix n i) (hcap : i ≤ cap) (hbig : cap * 8 ≤ 536870912) (hc : cells + 1 ≤ R.cells) (hl : slots + cap ≤ R.slots)
    (k : ∀ (h' : Heap) (b : Nat), b = h.size → Ext h h' → IA Z h' b (newarray.typeOf aty) (List.replicate i 0) → WP l Z EL n0 R y bytes ml ret Q (b :: F) h' (cells + 1) (slots + cap) pc' Ls (.ref b :: S)) :
    WP l Z EL n0 R y bytes ml ret Q F h cells slots pc Ls (.int n :: S) := by
  obtain ⟨hd, rfl⟩ := hd
  refine WP.grow (G := [h.size]) (P := fun h' => IA Z h' h.size (newarray.typeOf aty) (List.replicate i 0)) (fun h' E hP x hx => ?_) (fun p e s m args below meth c T vm0 locs D => ?_) (fun h' E hP => k h' _ rfl E hP)
  · cases List.mem_singleton.mp hx; exact ⟨hP.lt, Nat.le_refl _⟩
  · obtain ⟨X, e0, -, hZ, hown, -, -, -, -, hx, hby, -⟩ := D
    obtain ⟨T', h', cA, X', e', E, A, st⟩ := newP X hx hZ w e0 (g := mkF m pc Ls (.int n :: S)) rfl (hb hby hd) rfl hn.nn (cap := cap) (by rw [hn.clamp]; exact hcap) hbig hc hl
    exact ⟨T', h', X', e', E, ⟨_, A, by simp [newA, hn.clamp, hz], by have := hn; have := Int32.toInt_lt n; simp only [Ix] at *; simp; omega⟩, st⟩
theorem WP.castore {a : Addr} {xs : List Int32} {j x : Int32} {i : Nat} (hd : D1 bytes pc .castore 1 pc') (A : IA Z h a .char xs) (hj : Ix j i) (hi : i < xs.length) (na : n0 ≤ a)
    (k : ∀ h', Wr h h' a i (.int (nar .char x)) → WP l Z EL n0 R y bytes ml ret Q F h' cells slots pc' Ls S) : WP l Z EL n0 R y bytes ml ret Q F h cells slots pc Ls (.int x :: .int j :: .ref a :: S) := by
  obtain ⟨hd, rfl⟩ := hd
  obtain ⟨c, A, e, q⟩ := A
  refine WP.write na (SafeBy.arr A) (fun p e1 s m args below meth c' T vm0 locs D => ?_) k
  obtain ⟨X, e0, -, hZ, hown, -, -, -, -, hx, hby, -⟩ := D
  have := stC (x := x) X hx hZ e0 A (j := j) (by rw [IA.size e, hj.clamp]; exact fun z => z.elim hj.nn fun z => by omega) (g := mkF m pc Ls (.int x :: .int j :: .ref a :: S)) rfl rfl (hb hby hd)
  rw [hj.clamp] at this
  exact this
theorem WP.bastore {a : Addr} {xs : List Int32} {j x : Int32} {i : Nat} (hd : D1 bytes pc .bastore 1 pc') (A : IA Z h a .byte xs) (hm : SafeBy Z EL F h a) (hj : Ix j i) (hi : i < xs.length) (na : n0 ≤ a)
    (k : ∀ h', Wr h h' a i (.int (nar .byte x)) → WP l Z EL n0 R y bytes ml ret Q F h' cells slots pc' Ls S) : WP l Z EL n0 R y bytes ml ret Q F h cells slots pc Ls (.int x :: .int j :: .ref a :: S) := by
  obtain ⟨hd, rfl⟩ := hd
  obtain ⟨c, A, e, q⟩ := A
  refine WP.write na hm (fun p e1 s m args below meth c' T vm0 locs D => ?_) k
  obtain ⟨X, e0, -, hZ, hown, -, -, -, -, hx, hby, -⟩ := D
  have := stB (x := x) X hx hZ e0 A (j := j) (by rw [IA.size e, hj.clamp]; exact fun z => z.elim hj.nn fun z => by omega) (g := mkF m pc Ls (.int x :: .int j :: .ref a :: S)) rfl rfl (hb hby hd)
  rw [hj.clamp] at this
  exact this
theorem WP.iastore {a : Addr} {xs : List Int32} {j x : Int32} {i : Nat} (hd : D1 bytes pc .iastore 1 pc') (A : IA Z h a .int xs) (hj : Ix j i) (hi : i < xs.length) (na : n0 ≤ a)
    (k : ∀ h', Wr h h' a i (.int x) → WP l Z EL n0 R y bytes ml ret Q F h' cells slots pc' Ls S) : WP l Z EL n0 R y bytes ml ret Q F h cells slots pc Ls (.int x :: .int j :: .ref a :: S) := by
  obtain ⟨hd, rfl⟩ := hd
  obtain ⟨c, A, e, q⟩ := A
  refine WP.write na (SafeBy.arr A) (fun p e1 s m args below meth c' T vm0 locs D => ?_) k
  obtain ⟨X, e0, -, hZ, hown, -, -, -, -, hx, hby, -⟩ := D
  have := stI (x := x) X hx hZ e0 A (j := j) (by rw [IA.size e, hj.clamp]; exact fun z => z.elim hj.nn fun z => by omega) (g := mkF m pc Ls (.int x :: .int j :: .ref a :: S)) rfl rfl (hb hby hd)
  rw [hj.clamp] at this
  exact this
theorem WP.arraylength {a : Addr} {ty : FieldType} {xs : List Int32} (hd : D1 bytes pc .arraylength 1 pc') (A : IA Z h a ty xs) (k : WP l Z EL n0 R y bytes ml ret Q F h cells slots pc' Ls (.int (Int32.ofNat xs.length) :: S)) : WP l Z EL n0 R y bytes ml ret Q F h cells slots pc Ls (.ref a :: S) := by
  obtain ⟨hd, rfl⟩ := hd
  obtain ⟨c, A, e, q⟩ := A
  refine WP.same (fun p e1 s m args below meth c' T vm0 locs D => ?_) k
  obtain ⟨X, e0, -, hZ, hown, -, -, -, -, hx, hby, -⟩ := D
  refine ⟨T, X, e0, fun t q => X.arraylength hx (by rw [e0]; exact A.1) (State.isArrayOf_alike (T := s.setVm vm0) hZ.alike A.2.1) (g := mkF m pc Ls (.ref a :: S)) rfl rfl (hb hby hd) t ?_⟩
  rw [IA.size e]
  exact q
theorem IA.at {c : Cell} {xs : List Int32} {x : Int32} {i : Nat} (e : c.slots = (xs.map Value.int).toArray) (hx : xs[i]? = some x) : c.slots[i]? = some (.int x) := by rw [e]; simp [hx]
theorem WP.caload {a : Addr} {xs : List Int32} {j x : Int32} {i : Nat} (hd : D1 bytes pc .caload 1 pc') (A : IA Z h a .char xs) (hj : Ix j i) (hx : xs[i]? = some x) (k : WP l Z EL n0 R y bytes ml ret Q F h cells slots pc' Ls (.int x :: S)) : WP l Z EL n0 R y bytes ml ret Q F h cells slots pc Ls (.int j :: .ref a :: S) := by
  obtain ⟨hd, rfl⟩ := hd
  obtain ⟨c, A, e, q⟩ := A
  have hi : i < xs.length := (List.getElem?_eq_some_iff.mp hx).1
  refine WP.same (fun p e1 s m args below meth c' T vm0 locs D => ?_) k
  obtain ⟨X, e0, -, hZ, hown, -, -, -, -, hxx, hby, -⟩ := D
  exact ⟨T, X, e0, fun t q => X.caload hxx (v := .int x) (by rw [e0]; exact A.1) (State.isArrayOf_alike (T := s.setVm vm0) hZ.alike A.2.1) A.2.2 (by rw [IA.size e, hj.clamp]; exact fun z => z.elim hj.nn fun z => by omega) (by rw [hj.clamp]; exact IA.at e hx) (g := mkF m pc Ls (.int j :: .ref a :: S)) rfl rfl (hb hby hd) t q⟩
theorem WP.baload {a : Addr} {xs : List Int32} {j x : Int32} {i : Nat} (hd : D1 bytes pc .baload 1 pc') (A : IA Z h a .byte xs) (hj : Ix j i) (hx : xs[i]? = some x) (k : WP l Z EL n0 R y bytes ml ret Q F h cells slots pc' Ls (.int x :: S)) : WP l Z EL n0 R y bytes ml ret Q F h cells slots pc Ls (.int j :: .ref a :: S) := by
  obtain ⟨hd, rfl⟩ := hd
  obtain ⟨c, A, e, q⟩ := A
  have hi : i < xs.length := (List.getElem?_eq_some_iff.mp hx).1
  refine WP.same (fun p e1 s m args below meth c' T vm0 locs D => ?_) k
  obtain ⟨X, e0, -, hZ, hown, -, -, -, -, hxx, hby, -⟩ := D
  exact ⟨T, X, e0, fun t q => X.baloadBytes hxx (v := .int x) (by rw [e0]; exact A.1) (State.isArrayOf_alike (T := s.setVm vm0) hZ.alike A.2.1) A.2.2 (by rw [IA.size e, hj.clamp]; exact fun z => z.elim hj.nn fun z => by omega) (by rw [hj.clamp]; exact IA.at e hx) (g := mkF m pc Ls (.int j :: .ref a :: S)) rfl rfl (hb hby hd) t q⟩
theorem WP.iaload {a : Addr} {xs : List Int32} {j x : Int32} {i : Nat} (hd : D1 bytes pc .iaload 1 pc') (A : IA Z h a .int xs) (hj : Ix j i) (hx : xs[i]? = some x) (k : WP l Z EL n0 R y bytes ml ret Q F h cells slots pc' Ls (.int x :: S)) : WP l Z EL n0 R y bytes ml ret Q F h cells slots pc Ls (.int j :: .ref a :: S) := by
  obtain ⟨hd, rfl⟩ := hd
  obtain ⟨c, A, e, q⟩ := A
  have hi : i < xs.length := (List.getElem?_eq_some_iff.mp hx).1
  refine WP.same (fun p e1 s m args below meth c' T vm0 locs D => ?_) k
  obtain ⟨X, e0, -, hZ, hown, -, -, -, -, hxx, hby, -⟩ := D
  exact ⟨T, X, e0, fun t q => X.iaload hxx (v := .int x) (by rw [e0]; exact A.1) (State.isArrayOf_alike (T := s.setVm vm0) hZ.alike A.2.1) A.2.2 (by rw [IA.size e, hj.clamp]; exact fun z => z.elim hj.nn fun z => by omega) (by rw [hj.clamp]; exact IA.at e hx) (g := mkF m pc Ls (.int j :: .ref a :: S)) rfl rfl (hb hby hd) t q⟩
theorem WP.getfield {idx : Nat} {R0 O nm d host : String} {a : Addr} {v : Value} (hd : D1 bytes pc (.getfield idx) 3 pc') (w : (Cond.fieldLink y.cls idx R0 nm d).before a0 Z = true ∨ (Cond.fieldLinkNest y.cls idx R0 nm d host).before a0 Z = true) (via : Via Z R0 O nm d) (A : Fld Z h a O nm d v) (k : WP l Z EL n0 R y bytes ml ret Q F h cells slots pc' Ls (v :: S)) : WP l Z EL n0 R y bytes ml ret Q F h cells slots pc Ls (.ref a :: S) := by
  obtain ⟨hd, rfl⟩ := hd
  refine WP.same (fun p e1 s m args below meth c' T vm0 locs D => ?_) k
  obtain ⟨X, e0, -, hZ, hown, -, -, -, -, hxx, hby, -⟩ := D
  exact getF X hxx hZ hown w via e0 A (g := mkF m pc Ls (.ref a :: S)) rfl rfl (hb hby hd)
theorem WP.putfield {idx kk : Nat} {R0 O nm d host C : String} {ty : FieldType} {a : Addr} {v old : Value} (hd : D1 bytes pc (.putfield idx) 3 pc') (w : (Cond.fieldLink y.cls idx R0 nm d).before a0 Z = true ∨ (Cond.fieldLinkNest y.cls idx R0 nm d host).before a0 Z = true) (via : Via Z R0 O nm d) (A : Fld Z h a O nm d old) (E : Exa Z h a C)
    (L : (Cond.lays C O nm d).before a0 Z = true ∨ ((Cond.laysFinal C O nm d).before a0 Z = true ∧ y.cls = O ∧ y.name = "<init>")) (wi : (Cond.instantiable C kk).before a0 Z = true) (hty : parseFieldDescriptor d = some ty) (hn : narrow ty v = v) (hf : fits ty v = true) (na : n0 ≤ a) (hs : SafeBy Z EL F h a)
    (k : ∀ h', Wr h h' a (Jvm.RoadKit.slotOf Z O nm d) v → WP l Z EL n0 R y bytes ml ret Q F h' cells slots pc' Ls S) : WP l Z EL n0 R y bytes ml ret Q F h cells slots pc Ls (v :: .ref a :: S) := by
  obtain ⟨hd, rfl⟩ := hd
  refine WP.write na hs (fun p e1 s m args below meth c' T vm0 locs D => ?_) k
  obtain ⟨X, e0, -, hZ, hown, -, -, -, -, hxx, hby, -, -, -, hnm, -⟩ := D
  exact putF X hxx hZ hown w via e0 A E (L.imp id fun q => ⟨q.1, q.2.1, hnm.trans q.2.2⟩) wi hty hn hf (g := mkF m pc Ls (v :: .ref a :: S)) rfl rfl (hb hby hd)
theorem WP.getstatic {idx : Nat} {R0 O nm d : String} {v : Value} (hd : D1 bytes pc (.getstatic idx) 3 pc') (w : (Cond.fieldLink y.cls idx R0 nm d).before a0 Z = true) (via : Via Z R0 O nm d) (A : Sta Z Z.heap O nm d v) (k : WP l Z EL n0 R y bytes ml ret Q F h cells slots pc' Ls (v :: S)) : WP l Z EL n0 R y bytes ml ret Q F h cells slots pc Ls S := by
  obtain ⟨hd, rfl⟩ := hd
  refine WP.same (fun p e1 s m args below meth c' T vm0 locs D => ?_) k
  obtain ⟨X, e0, -, hZ, hown, -, -, -, hO, hxx, hby, -⟩ := D
  exact getS (host := "") X hxx hZ hown w via e0 (A.ext hO.2) (g := mkF m pc Ls S) rfl (hb hby hd)
theorem WP.checkcast {idx : Nat} {K : String} {a : Addr} (hd : D1 bytes pc (.checkcast idx) 3 pc') (w : (Cond.classLink y.cls idx K).before a0 Z = true) (A : Ins Z h a K true) (k : WP l Z EL n0 R y bytes ml ret Q F h cells slots pc' Ls (.ref a :: S)) : WP l Z EL n0 R y bytes ml ret Q F h cells slots pc Ls (.ref a :: S) := by
  obtain ⟨hd, rfl⟩ := hd
  refine WP.same (fun p e1 s m args below meth c' T vm0 locs D => ?_) k
  obtain ⟨X, e0, -, hZ, hown, -, -, -, hO, hxx, hby, -⟩ := D
  exact castY X hxx hZ hown w e0 A (g := mkF m pc Ls (.ref a :: S)) rfl rfl (hb hby hd)
theorem WP.instanceof {idx : Nat} {K : String} {a : Addr} (hd : D1 bytes pc (.instanceof idx) 3 pc') (w : (Cond.classLink y.cls idx K).before a0 Z = true) (A : Ins Z h a K true) (k : WP l Z EL n0 R y bytes ml ret Q F h cells slots pc' Ls (.int 1 :: S)) : WP l Z EL n0 R y bytes ml ret Q F h cells slots pc Ls (.ref a :: S) := by
  obtain ⟨hd, rfl⟩ := hd
  refine WP.same (fun p e1 s m args below meth c' T vm0 locs D => ?_) k
  obtain ⟨X, e0, -, hZ, hown, -, -, -, hO, hxx, hby, -⟩ := D
  exact instY X hxx hZ hown w e0 A (g := mkF m pc Ls (.ref a :: S)) rfl rfl (hb hby hd)
theorem WP.initObject {idx : Nat} {a : Addr} (hd : D1 bytes pc (.invokespecial idx) 3 pc') (w1 : (Cond.methodLink y.cls idx Lib.objectInit).before a0 Z = true) (w2 : (Cond.instanceMethod Lib.objectInit).before a0 Z = true) (w3 : (Cond.code Lib.objectInit ⟨#[0xb1]⟩ 1 none).before a0 Z = true) (hsz : Ls.size = ml) (hf : 1 ≤ R.frames) (hl : (S.map fun v => v.category).sum + 12 ≤ R.locals)
    (k : WP l Z EL n0 R y bytes ml ret Q F h cells slots pc' Ls S) : WP l Z EL n0 R y bytes ml ret Q F h cells slots pc Ls (.ref a :: S) := by
  obtain ⟨hd, rfl⟩ := hd
  refine WP.same (fun p e1 s m args below meth c' T vm0 locs D => ?_) k
  obtain ⟨X, e0, -, hZ, hown, -, -, -, hO, hxx, hby, hml, -⟩ := D
  exact initO X hxx hZ hown w1 w2 w3 e0 (g := mkF m pc Ls (.ref a :: S)) rfl (by rw [hml]; exact hsz) rfl (hb hby hd) hf (W := (S.map fun v => v.category).sum) (by show 2 * 0 + _ ≤ _; omega) hl
/-- ldc of a String constant, read -/
theorem WP.ldcS {idx n : Nat} {text : String} {bs : List Int32} (hd : D1 bytes pc (.ldc idx) 2 pc') (hEL : EW Z a0 EL) (hmem : (y.cls, idx) ∈ EL) (w : (Cond.stringLink y.cls idx text).before a0 Z = true) (wS : ∀ a ∈ Bundle.stringAtoms, a.before a0 Z = true)
    (ht : (∀ c ∈ text.toList, c.toNat < 256) ∧ text.toList.map (fun c => Jvm.Lit.byteI c.toNat.toUInt16) = bs) (hlen : bs.length < 2 ^ 31) (hn : 4 * text.toList.length ≤ n) (hbig : n ≤ 536870912) (hc : cells + 2 ≤ R.cells) (hl' : slots + (n + 4) ≤ R.slots)
    (k : ∀ h' a b, Ext h h' → Exa Z h' a "java/lang/String" → Fld Z h' a "java/lang/String" "coder" "B" (.int 0) → Fld Z h' a "java/lang/String" "value" "[B" (.ref b) → IA Z h' b .byte bs → WP l Z EL n0 R y bytes ml ret Q F h' (cells + 2) (slots + (n + 4)) pc' Ls (.ref a :: S)) : WP l Z EL n0 R y bytes ml ret Q F h cells slots pc Ls S := by
  obtain ⟨hd, rfl⟩ := hd
  intro p e s m args below meth c T vm0 locs D
  obtain ⟨X, e0, ⟨k0, hS, hk⟩, hZ, hown, hC, hF, hN, hO, hx, hby, r⟩ := D
  have hz : (Int32.ofNat bs.length).toNatClampNeg = (bs.map Value.int).length := by rw [(Ix.ofNat hlen).clamp]; simp
  obtain ⟨a, T', h', k1, b, kb, X', e', E, hS', hk', hZ', hown', hE, hco, hva, hA, -, -, hC', -, -, st⟩ := ldcCH X hx hZ hown w wS e0 hS hk hEL hmem hC.1 (vs := bs.map Value.int) (z := Int32.ofNat bs.length) ⟨ht.1, by rw [← ht.2, List.map_map]; rfl⟩ (Ix.ofNat hlen).nn hz (g := mkF m pc Ls S) rfl (hb hby hd) hn hbig hc hl'
  exact (k h' a b E hE hco hva (IA.of_arv hA (by rw [hz]; simp)) p e s m args below meth c T' T'.vm locs ⟨X', e', ⟨k1, hS', hk'⟩, hZ', hown', hC.trans hC', fun x hx => ⟨Nat.lt_of_lt_of_le (hF x hx).1 E.1, hC'.safe (hF x hx).1 (hF x hx).2⟩, hN, hO.ext E, hx, hby, r⟩).step st
/-- ldc of a String constant, not read -/
theorem WP.ldcO {idx n : Nat} {text : String} (hd : D1 bytes pc (.ldc idx) 2 pc') (hEL : EW Z a0 EL) (w : (Cond.stringLink y.cls idx text).before a0 Z = true) (wS : ∀ a ∈ Bundle.stringAtoms, a.before a0 Z = true)
    (hn : 4 * text.toList.length ≤ n) (hbig : n ≤ 536870912) (hc : cells + 2 ≤ R.cells) (hl' : slots + (n + 4) ≤ R.slots)
    (k : ∀ h' a, Ext h h' → WP l Z EL n0 R y bytes ml ret Q F h' (cells + 2) (slots + (n + 4)) pc' Ls (.ref a :: S)) : WP l Z EL n0 R y bytes ml ret Q F h cells slots pc Ls S := by
  obtain ⟨hd, rfl⟩ := hd
  intro p e s m args below meth c T vm0 locs D
  obtain ⟨X, e0, ⟨k0, hS, hk⟩, hZ, hown, hC, hF, hN, hO, hx, hby, r⟩ := D
  obtain ⟨a, T', h', k1, X', e', E, hS', hk', hZ', hown', hC', -, st⟩ := ldcOH X hx hZ hown w wS e0 hS hk hEL hC.1 (g := mkF m pc Ls S) rfl (hb hby hd) hn hbig hc hl'
  exact (k h' a E p e s m args below meth c T' T'.vm locs ⟨X', e', ⟨k1, hS', hk'⟩, hZ', hown', hC.trans hC', fun x hx => ⟨Nat.lt_of_lt_of_le (hF x hx).1 E.1, hC'.safe (hF x hx).1 (hF x hx).2⟩, hN, hO.ext E, hx, hby, r⟩).step st
/-- return of anything that its type takes as it is -/
theorem WP.retV {w : Value} {i : Instr} {t : FieldType} (hd : D1 bytes pc i 1 pc') (hr : ret = some t) (hn : narrow t w = w)
    (hi : (i = .ireturn ∧ (t = .int ∨ t = .boolean ∨ t = .byte ∨ t = .char ∨ t = .short) ∧ ∃ z, w = .int z) ∨ (i = .lreturn ∧ t = .long ∧ ∃ z, w = .long z) ∨ (i = .dreturn ∧ t = .double ∧ ∃ z, w = .double z) ∨ (i = .freturn ∧ t = .float ∧ ∃ z, w = .float z) ∨ (i = .areturn ∧ t.isReference = true ∧ w.isRef = true))
    (hc : cells ≤ R.cells) (hl : slots ≤ R.slots) {G : List Addr} (hG : ∀ x ∈ G, x ∈ F) (hQ : Q (some w) h G) : WP l Z EL n0 R y bytes ml ret Q F h cells slots pc Ls (w :: S) := by
  obtain ⟨hd, rfl⟩ := hd
  refine WP.leave (v := some w) (fun p e s m args below meth c T vm0 locs fs D hlv => ?_) (fun q => by rw [hr] at q; cases q) hc hl hG hQ
  obtain ⟨X, e0, -, hZ, hown, -, -, -, -, hx, hby, -, hret, -⟩ := D
  exact retOut X hx (hret.trans hr) hn hi (hb hby hd) hlv
theorem WP.ireturn {z : Int32} {t : FieldType} (hd : D1 bytes pc .ireturn 1 pc') (hr : ret = some t) (ht : t = .int ∨ t = .boolean ∨ t = .byte ∨ t = .char ∨ t = .short) (hn : narrow t (.int z) = .int z) (hc : cells ≤ R.cells) (hl : slots ≤ R.slots) {G : List Addr} (hG : ∀ x ∈ G, x ∈ F) (hQ : Q (some (.int z)) h G) : WP l Z EL n0 R y bytes ml ret Q F h cells slots pc Ls (.int z :: S) :=
  WP.retV hd hr hn (Or.inl ⟨rfl, ht, z, rfl⟩) hc hl hG hQ
theorem WP.areturn {w : Value} {t : FieldType} (hd : D1 bytes pc .areturn 1 pc') (hr : ret = some t) (ht : t.isReference = true) (hw : w.isRef = true) (hc : cells ≤ R.cells) (hl : slots ≤ R.slots) {G : List Addr} (hG : ∀ x ∈ G, x ∈ F) (hQ : Q (some w) h G) : WP l Z EL n0 R y bytes ml ret Q F h cells slots pc Ls (w :: S) :=
  WP.retV hd hr (by cases t <;> first | (cases ht; done) | (rcases ref_cases hw with rfl | ⟨a, rfl⟩ <;> rfl)) (Or.inr (Or.inr (Or.inr (Or.inr ⟨rfl, ht, hw⟩)))) hc hl hG hQ
theorem WP.return_ (hd : D1 bytes pc .return_ 1 pc') (hr : ret = none) (hc : cells ≤ R.cells) (hl : slots ≤ R.slots) {G : List Addr} (hG : ∀ x ∈ G, x ∈ F) (hQ : Q none h G) : WP l Z EL n0 R y bytes ml ret Q F h cells slots pc Ls [] := by
  obtain ⟨hd, rfl⟩ := hd
  refine WP.leave (v := none) (fun p e s m args below meth c T vm0 locs fs D hlv => ?_) (fun _ => rfl) hc hl hG hQ
  obtain ⟨X, e0, -, hZ, hown, -, -, -, -, hx, hby, -, hret, -⟩ := D
  exact X.returnOut hx (hret.trans hr) (hb hby hd) hlv
end Heap
end Jvm.Own
namespace Jvm.Own
open Jvm Jvm.ClassFile Sem Op Lib Jvm.Free Jvm.Stand Jvm.LawKit Jvm.RoadKit Bundle
/-- a method's contract: called with these arguments at the heap h0 it returns as Q says -/
def Met (l : Launch) (Z : State) (EL : List (String × Nat)) (n0 : Nat) (ws : List Jvm.Cond) (y : MethodName) (bytes : ByteArray) (ml : Nat) (ret : Option FieldType) (rm : Room) (as : Array Value) (F0 : List Addr) (h0 : Heap) (Q : Option Value → Heap → List Addr → Prop) : Prop :=
  MetFree l y (head1 (Jvm.Cond.code y bytes ml ret :: ws) rm) (fun a U => a = as ∧ Z.Warmed39 U.vm ∧ U.heap = h0 ∧ CHv Z EL U.vm h0 ∧ SafeL Z EL U.vm h0 F0) (fun _ _ _ _ _ => True)
    (fun _ U o U' => ∃ v L, o = .returned v ∧ ((∃ F, Q v U'.heap F ∧ SafeL Z EL U'.vm U'.heap F) ∧ Fr n0 L ∧ Old Z n0 U'.heap) ∧ CHr Z EL U.vm U.heap U'.vm U'.heap ∧ ReturnedEndW U o U' L rm.cells rm.slots)
section Calls
variable {l : Launch} {Z : State} {EL : List (String × Nat)} {n0 : Nat} {R : Room} {y : MethodName} {bytes : ByteArray} {ml : Nat} {ret : Option FieldType} {Q : Option Value → Heap → List Addr → Prop}
  {F : List Addr} {h : Heap} {cells slots pc pc' : Nat} {Ls Ls' : Array Slot} {S S' : List Value} {a0 : Array Value}
theorem Met.of {ws : List Jvm.Cond} {rm : Room} {as : Array Value} {F0 : List Addr} {h0 : Heap} (hpl : plainFor y = true) (hEL : EW Z a0 EL) (hO : Old Z n0 h0) (hef : ∀ m, entryFrame m as ml = mkF m 0 Ls [])
    (body : WP l Z EL n0 rm y bytes ml ret Q F0 h0 0 0 0 Ls []) : Met l Z EL n0 ws y bytes ml ret rm as F0 h0 Q := by
  refine MetFree.of_bodySF hpl hisR ?_
  intro p e s m args below meth c s₁ Bd hml0 hP hK
  obtain ⟨rfl, hZ, hh, hC, hS⟩ := hP
  have e0 : s₁.heap = h0 := by rw [← hh, Bd.state]; rfl
  have ev : s₁.vm = s.vm := by rw [Bd.state]; rfl
  have X : Stand p l e rm s m args below meth c s₁ [] 0 0 := Stand.of_body Bd
  have hsi : s.Since s.vm 0 := ev ▸ X.warmed.since 0
  obtain ⟨t, o, r1, r⟩ := body p e s m args below meth c s₁ s.vm [] ⟨X, e0, ⟨0, hsi, Nat.zero_le _⟩, hZ, findClass_of_methodNamed Bd.named, by rw [hh]; exact CHr.refl hC, hS, Fr.nil n0, hO, Bd.exec, Bd.bytes, hml0, Bd.returns, Bd.notSynchronized, (name_of_methodNamed Bd.named Bd.method).1, a0, hEL⟩
  refine ⟨t, o, ?_, r⟩
  rw [hef]; exact r1
variable {yc : MethodName} {bytesc : ByteArray} {mlc : Nat} {retc : Option FieldType} {rm : Room} {as : Array Value} {F0 : List Addr} {Qc : Option Value → Heap → List Addr → Prop}
theorem backM {p : Program} {e : Env} {below : List Frame} {s : State} {vm0 : Vm} {args : Array Value} {len W : Nat} (M : Met l Z EL n0 [] yc bytesc mlc retc rm as F0 h Qc)
    (hZ : Z.Warmed39 vm0) (wc : (Jvm.Cond.code yc bytesc mlc retc).before a0 Z = true) (wz : (Jvm.Cond.initialized yc.cls).before a0 Z = true) (hf : rm.frames + 1 ≤ R.frames) (hl : W + (mlc + 11) + rm.locals ≤ R.locals) (hEL : ∃ a0, EW Z a0 EL) (H : CHv Z EL vm0 h) (hS : SafeL Z EL vm0 h F0) :
    BackS l R p e below (s.setVm vm0) args yc len W (fun A a => a = as ∧ A.U.heap = h ∧ A.cells + rm.cells ≤ R.cells ∧ A.slots + rm.slots ≤ R.slots)
      (fun A _ v B => ∃ L F', Qc v B.U.heap F' ∧ SafeL Z EL B.U.vm B.U.heap F' ∧ Fr n0 L ∧ Old Z n0 B.U.heap ∧ B.locs = A.locs ++ L ∧ B.cells = A.cells + rm.cells ∧ B.slots = A.slots + rm.slots ∧ CHr Z EL vm0 h B.U.vm B.U.heap) := by
  obtain ⟨a1, hEL⟩ := hEL
  exact BackS.of_freeW (bytes := bytesc) (maxL := mlc) (ret := retc) (E := fun _ first o t L k n => k = rm.cells ∧ n = rm.slots ∧ (∃ v, o = .returned v ∧ (∃ F', Qc v t.heap F' ∧ SafeL Z EL t.vm t.heap F') ∧ Fr n0 L ∧ Old Z n0 t.heap) ∧ CHr Z EL first.vm first.heap t.vm t.heap) M hf hl
    (fun m meth c A a Y hp => have hU : Z.Warmed39 A.U.vm := wtrans (s := s.setVm vm0) hZ Y.warmed
      ⟨by show (Jvm.Cond.and _ .tt).before a A.U = true; rw [Cond.before_and, mv hU wc]; rfl, mv hU wc, mv hU wz, hp.2.2.1, hp.2.2.2⟩)
    (fun m meth c A a g mk Y hp => ⟨hp.1, wtrans (s := s.setVm vm0) hZ Y.warmed, hp.2.1, (CHv.at Y hZ hEL H).1, fun x hx => ⟨(hS x hx).1, (CHv.at Y hZ hEL H).safe (hS x hx).1 (hS x hx).2⟩⟩) (fun _ _ _ _ _ _ _ _ _ => trivial)
    (fun _ _ _ _ ⟨v, L, h1, h2, h3, h4⟩ => ⟨L, _, _, h4, rfl, rfl, ⟨v, h1, h2⟩, h3⟩)
    (fun m meth c A a g mk v t L k n Y hp _ _ ⟨e1, e2, ⟨v', e3, ⟨F', e4, e4'⟩, e5, e6⟩, e7⟩ => by
      cases e3; subst e1 e2
      refine ⟨L, F', e4, e4', e5, e6, rfl, rfl, rfl, (CHv.at Y hZ hEL H).trans ?_⟩
      rw [← hp.2.1]; exact e7)
theorem WP.call {len W : Nat} {rest : List Value} (M : Met l Z EL n0 [] yc bytesc mlc retc rm as F0 h Qc) (wc : (Jvm.Cond.code yc bytesc mlc retc).before a0 Z = true) (wz : (Jvm.Cond.initialized yc.cls).before a0 Z = true) (hf : rm.frames + 1 ≤ R.frames) (hl : W + (mlc + 11) + rm.locals ≤ R.locals)
    (hcl : cells + rm.cells ≤ R.cells) (hsl : slots + rm.slots ≤ R.slots) (hF0 : ∀ x ∈ F0, SafeBy Z EL F h x)
    (st : ∀ (p : Program) (e : Env) (s : State) (m : MethodId) (args : Array Value) (below : List Frame) (meth : Method) (c : Code) (T : State) (vm0 : Vm) (locs : List Loc), Std l Z EL n0 R y bytes ml ret p e s m args below meth c T vm0 locs F h cells slots →
      ∀ (Pre : Pt → Array Value → Prop) (Post : Pt → Array Value → Option Value → Pt → Prop), BackS l R p e below (s.setVm vm0) args yc len W Pre Post → (∀ vm₁, (s.setVm vm0).WarmedH vm₁ → Pre ⟨T.setVm vm₁, locs, cells, slots⟩ as) →
      ∃ (v : Option Value) (vm₁ : Vm) (B : Pt), (s.setVm vm0).WarmedH vm₁ ∧ Stand p l e R ((s.setVm vm0).setVm B.U.vm) m args below meth c B.U B.locs B.cells B.slots ∧ (s.setVm vm0).Since B.U.vm B.U.heap.size ∧ T.heap.size ≤ B.U.heap.size ∧ Post ⟨T.setVm vm₁, locs, cells, slots⟩ as v B ∧
        Steps p.tables e below (T.setTop (mkF m pc Ls S)) (B.U.setTop (mkF m pc' Ls (v.toList ++ rest))))
    (k : ∀ v h' F', Qc v h' F' → h.size ≤ h'.size → WP l Z EL n0 R y bytes ml ret Q (F' ++ F) h' (cells + rm.cells) (slots + rm.slots) pc' Ls (v.toList ++ rest)) : WP l Z EL n0 R y bytes ml ret Q F h cells slots pc Ls S := by
  intro p e s m args below meth c T vm0 locs D
  have D' := D
  obtain ⟨X, e0, ⟨k0, hS, hk⟩, hZ, hown, hC, hF, hN, hO, hx, hby, hml, hret, hlk, hnm, hEL⟩ := D
  have K := backM (p := p) (e := e) (below := below) (s := s) (args := args) (len := len) (W := W) (R := R) M hZ wc wz hf hl hEL hC.1 (fun x hx => ⟨(hF0 x hx).1, (hF0 x hx).2 vm0 hZ.alike hF⟩)
  obtain ⟨v, vm₁, ⟨U, L1, c1, n1⟩, -, X', hS', hle, ⟨L, F', q1, q2, q3, q4, q5, q6, q7, q8⟩, stp⟩ := st p e s m args below meth c T vm0 locs D' _ _ K (fun vm₁ _ => ⟨rfl, e0, hcl, hsl⟩)
  subst q5 q6 q7
  obtain ⟨X2, hS2, hZ2, hown2⟩ := rebS (s := s) hS (show k0 ≤ T.heap.size by rw [e0]; exact hk) X' hS' hle hZ hown
  refine (k v U.heap F' q1 q8.2.1 p e s m args below meth c U U.vm _ ⟨X2, rfl, ⟨_, hS2, Nat.le_refl _⟩, hZ2, hown2, hC.trans q8, fun x hx => ?_, hN.app q3, q4, hx, hby, hml, hret, hlk, hnm, hEL⟩).step fun t q => stp.trans q
  rcases List.mem_append.mp hx with hx | hx
  · exact q2 x hx
  · exact ⟨Nat.lt_of_lt_of_le (hF x hx).1 q8.2.1, q8.safe (hF x hx).1 (hF x hx).2⟩
/-- invokestatic -/
theorem WP.static {idx : Nat} {argsL rest : List Value} {ps : List FieldType} {rt : Option FieldType} (hd : D1 bytes pc (.invokestatic idx) 3 pc') (M : Met l Z EL n0 [] yc bytesc mlc retc rm argsL.toArray F0 h Qc)
    (wl : (Jvm.Cond.methodLink y.cls idx yc).before a0 Z = true) (ws : (Jvm.Cond.static yc).before a0 Z = true) (wz : (Jvm.Cond.initialized yc.cls).before a0 Z = true) (wc : (Jvm.Cond.code yc bytesc mlc retc).before a0 Z = true)
    (hy : yc.cls ≠ "java/lang/invoke/MethodHandle" ∧ yc.cls ≠ "java/lang/invoke/VarHandle") (hpd : parseMethodDescriptor yc.desc = some ⟨ps, rt⟩) (hpl : argsL.length = ps.length) (hstk : S = argsL.reverse ++ rest) (hsz : Ls.size = ml)
    (hf : rm.frames + 1 ≤ R.frames) (hl : (rest.map fun v => v.category).sum + (mlc + 11) + rm.locals ≤ R.locals) (hcl : cells + rm.cells ≤ R.cells) (hsl : slots + rm.slots ≤ R.slots) (hF0 : ∀ x ∈ F0, SafeBy Z EL F h x)
    (k : ∀ v h' F', Qc v h' F' → h.size ≤ h'.size → WP l Z EL n0 R y bytes ml ret Q (F' ++ F) h' (cells + rm.cells) (slots + rm.slots) pc' Ls (v.toList ++ rest)) : WP l Z EL n0 R y bytes ml ret Q F h cells slots pc Ls S := by
  obtain ⟨hd, rfl⟩ := hd
  refine WP.call (len := 3) (rest := rest) M wc wz hf hl hcl hsl hF0 (fun p e s m args below meth c T vm0 locs D Pre Post K hpre => ?_) k
  obtain ⟨X, e0, -, hZ, hown, -, -, -, -, hx, hby, hml, -⟩ := D
  exact callSS X hx hown (mvT (s := s.setVm vm0) hZ wl) (mvT (s := s.setVm vm0) hZ ws) (mvT (s := s.setVm vm0) hZ wz) (mvT (s := s.setVm vm0) hZ wc) hy K (g := mkF m pc Ls S) rfl (by rw [hml]; exact hsz) (lenOf hpd hpl) hstk (by show 2 * 0 + _ ≤ _; omega) (hb hby hd) hpre
/-- invokespecial of a constructor -/
theorem WP.special {idx : Nat} {a : Addr} {argsL rest : List Value} {ps : List FieldType} {rt : Option FieldType} (hd : D1 bytes pc (.invokespecial idx) 3 pc') (M : Met l Z EL n0 [] yc bytesc mlc none rm (.ref a :: argsL).toArray F0 h Qc) (hn : yc.name = "<init>")
    (wl : (Jvm.Cond.methodLink y.cls idx yc).before a0 Z = true) (ws : (Jvm.Cond.instanceMethod yc).before a0 Z = true) (wz : (Jvm.Cond.initialized yc.cls).before a0 Z = true) (wc : (Jvm.Cond.code yc bytesc mlc none).before a0 Z = true)
    (hy : yc.cls ≠ "java/lang/invoke/MethodHandle" ∧ yc.cls ≠ "java/lang/invoke/VarHandle") (hpd : parseMethodDescriptor yc.desc = some ⟨ps, rt⟩) (hpl : argsL.length = ps.length) (hstk : S = argsL.reverse ++ .ref a :: rest) (hsz : Ls.size = ml)
    (hf : rm.frames + 1 ≤ R.frames) (hl : (rest.map fun v => v.category).sum + (mlc + 11) + rm.locals ≤ R.locals) (hcl : cells + rm.cells ≤ R.cells) (hsl : slots + rm.slots ≤ R.slots) (hF0 : ∀ x ∈ F0, SafeBy Z EL F h x)
    (k : ∀ v h' F', Qc v h' F' → h.size ≤ h'.size → WP l Z EL n0 R y bytes ml ret Q (F' ++ F) h' (cells + rm.cells) (slots + rm.slots) pc' Ls (v.toList ++ rest)) : WP l Z EL n0 R y bytes ml ret Q F h cells slots pc Ls S := by
  obtain ⟨hd, rfl⟩ := hd
  refine WP.call (len := 3) (rest := rest) M wc wz hf hl hcl hsl hF0 (fun p e s m args below meth c T vm0 locs D Pre Post K hpre => ?_) k
  obtain ⟨X, e0, -, hZ, hown, -, -, -, -, hx, hby, hml, -⟩ := D
  exact X.specialBackS hx hn hown (mvT (s := s.setVm vm0) hZ wl) (mvT (s := s.setVm vm0) hZ ws) (mvT (s := s.setVm vm0) hZ wc) hy K (g := mkF m pc Ls S) rfl (by rw [hml]; exact hsz) (Steps.refl _) (lenOf hpd hpl) hstk (by show 2 * 0 + _ ≤ _; omega) (hb hby hd) hpre
/-- invokevirtual -/
theorem WP.virtual {idx : Nat} {a : Addr} {C : String} {yr : MethodName} {argsL rest : List Value} {ps : List FieldType} {rt : Option FieldType} (hd : D1 bytes pc (.invokevirtual idx) 3 pc') (M : Met l Z EL n0 [] yc bytesc mlc retc rm (.ref a :: argsL).toArray F0 h Qc) (E : Exa Z h a C)
    (wl : (Jvm.Cond.methodLink y.cls idx yr).before a0 Z = true) (wd : (Jvm.Cond.declares yr).before a0 Z = true) (wi : (Jvm.Cond.instanceMethod yc).before a0 Z = true) (ws : (Jvm.Cond.selects C yr yc).before a0 Z = true) (wz : (Jvm.Cond.initialized yc.cls).before a0 Z = true) (wc : (Jvm.Cond.code yc bytesc mlc retc).before a0 Z = true)
    {C2 : String} (hnf : (Jvm.Cond.selects C2 yr yr).before a0 Z = true)
    (hy : yr.cls ≠ "java/lang/invoke/MethodHandle" ∧ yr.cls ≠ "java/lang/invoke/VarHandle") (hpd : parseMethodDescriptor yr.desc = some ⟨ps, rt⟩) (hpl : argsL.length = ps.length) (hstk : S = argsL.reverse ++ .ref a :: rest) (hsz : Ls.size = ml)
    (hf : rm.frames + 1 ≤ R.frames) (hl : (rest.map fun v => v.category).sum + (mlc + 11) + rm.locals ≤ R.locals) (hcl : cells + rm.cells ≤ R.cells) (hsl : slots + rm.slots ≤ R.slots) (hF0 : ∀ x ∈ F0, SafeBy Z EL F h x)
    (k : ∀ v h' F', Qc v h' F' → h.size ≤ h'.size → WP l Z EL n0 R y bytes ml ret Q (F' ++ F) h' (cells + rm.cells) (slots + rm.slots) pc' Ls (v.toList ++ rest)) : WP l Z EL n0 R y bytes ml ret Q F h cells slots pc Ls S := by
  obtain ⟨hd, rfl⟩ := hd
  refine WP.call (len := 3) (rest := rest) M wc wz hf hl hcl hsl hF0 (fun p e s m args below meth c T vm0 locs D Pre Post K hpre => ?_) k
  obtain ⟨X, e0, -, hZ, hown, -, -, -, -, hx, hby, hml, -⟩ := D
  obtain ⟨cB, kB, o1, o2, o3⟩ := isOf (s := s.setVm vm0) hZ e0 E
  exact X.virtualBackS hx hown (mvT (s := s.setVm vm0) hZ wl) (mvT (s := s.setVm vm0) hZ wd) (notFace_of_selects (args := #[]) (mvT (s := s.setVm vm0) hZ hnf)) (mvT (s := s.setVm vm0) hZ ws) (mvT (s := s.setVm vm0) hZ wi) hy K o1 o3 (g := mkF m pc Ls S) rfl (by rw [hml]; exact hsz) (Steps.refl _) (lenOf hpd hpl) hstk (by show 2 * 0 + _ ≤ _; omega) (hb hby hd) hpre
end Calls
end Jvm.Own
namespace Jvm.Own
open Jvm Jvm.ClassFile Sem Op Lib Jvm.Free Jvm.Stand Jvm.LawKit Jvm.RoadKit Bundle
def Str (Z : State) (h : Heap) (a t : Addr) (bs : List Int32) : Prop := Exa Z h a "java/lang/String" ∧ Fld Z h a "java/lang/String" "coder" "B" (.int 0) ∧ Fld Z h a "java/lang/String" "value" "[B" (.ref t) ∧ IA Z h t .byte bs
/-- chars from 0 to 255 -/
def Lat (cs : List Int32) : Prop := ∀ c ∈ cs, 0 ≤ c.toInt ∧ c.toInt < 256
def lo8 (x : Int32) : Int32 := x.toInt8.toInt32
/-- a char below 256 -/
def B8 (c : Int32) : Prop := 0 ≤ c.toInt ∧ c.toInt < 256
theorem B8.and (x : Int32) : B8 (x &&& 255) := by
  have q := c_and x 255 (by decide)
  have e : (255 : Int32).toInt = 255 := rfl
  rw [e] at q
  exact ⟨q.1, by omega⟩
theorem B8.i2c_eq {x : Int32} (q : B8 x) : x.toUInt32.toUInt16.toUInt32.toInt32 = x := by
  have a := c_i2c x
  obtain ⟨q1, q2⟩ := q
  apply Int32.toInt_inj.mp
  omega
theorem B8.i2c {x : Int32} (q : B8 x) : B8 (x.toUInt32.toUInt16.toUInt32.toInt32) := by rw [q.i2c_eq]; exact q
theorem B8.nar {x : Int32} (q : B8 x) : nar .char x = x := q.i2c_eq
theorem Lat.nil : Lat [] := fun _ q => nomatch q
theorem Lat.cons {c : Int32} {cs : List Int32} (q : B8 c) (r : Lat cs) : Lat (c :: cs) := fun x hx => by
  rcases List.mem_cons.mp hx with rfl | hx
  · exact q
  · exact r x hx
section StrFacts
variable {Z : State} {h h' : Heap} {a b t : Addr} {bs cs : List Int32} {sl : Nat} {v : Value} {ws : List Addr}
theorem Str.lt (A : Str Z h a t bs) : a < h.size := A.1.lt
theorem Str.ltT (A : Str Z h a t bs) : t < h.size := A.2.2.2.lt
theorem Str.ext (A : Str Z h a t bs) (E : Ext h h') : Str Z h' a t bs := ⟨A.1.ext E, A.2.1.ext E, A.2.2.1.ext E, A.2.2.2.ext E⟩
theorem Str.keep (A : Str Z h a t bs) (K : Keep h h' ws) (q1 : a ∉ ws) (q2 : t ∉ ws) : Str Z h' a t bs := ⟨A.1.keep K, A.2.1.keep K q1, A.2.2.1.keep K q1, A.2.2.2.keep K q2⟩
theorem Str.other (A : Str Z h a t bs) (W : Wr h h' b sl v) (q1 : a ≠ b) (q2 : t ≠ b) : Str Z h' a t bs := ⟨A.1.wr W, A.2.1.other W (Or.inl q1), A.2.2.1.other W (Or.inl q1), A.2.2.2.other W q2⟩
theorem IA.inj {ty ty' : FieldType} {xs ys : List Int32} (A : IA Z h a ty xs) (B : IA Z h a ty' ys) : xs = ys := by
  obtain ⟨c, A, e, -⟩ := A
  obtain ⟨c', B, e', -⟩ := B
  cases A.1.symm.trans B.1
  have q := congrArg Array.toList (e.symm.trans e')
  simp only at q
  exact (List.map_inj_right (fun _ _ z => by cases z; rfl)).mp q
theorem Fld.inj {C n d : String} {v w : Value} (F : Fld Z h a C n d v) (G : Fld Z h a C n d w) : v = w := Classical.byContradiction fun q => Fld.ne F G q rfl
theorem Str.inj {t' : Addr} {bs' : List Int32} (A : Str Z h a t bs) (B : Str Z h a t' bs') : t = t' ∧ bs = bs' := by
  have q := Fld.inj A.2.2.1 B.2.2.1
  cases q
  exact ⟨rfl, IA.inj A.2.2.2 B.2.2.2⟩
theorem lo8_inj {x z : Int32} (hx : 0 ≤ x.toInt ∧ x.toInt < 256) (hz : 0 ≤ z.toInt ∧ z.toInt < 256) (q : lo8 x = lo8 z) : x = z := by
  have a1 := (c_i2b x).1
  have a2 := (c_i2b z).1
  have e : x.toInt8.toInt32.toInt = z.toInt8.toInt32.toInt := congrArg Int32.toInt q
  apply Int32.toInt_inj.mp
  omega
theorem lo8_map_inj : ∀ {cs ds : List Int32}, Lat cs → Lat ds → (cs.map lo8 = ds.map lo8 ↔ cs = ds) := by
  intro cs
  induction cs with
  | nil => intro ds _ _; cases ds <;> simp
  | cons c r ih =>
    intro ds h1 h2
    cases ds with
    | nil => simp
    | cons d r' =>
      simp only [List.map_cons, List.cons.injEq]
      have i := ih (ds := r') (fun x hx => h1 x (by simp [hx])) (fun x hx => h2 x (by simp [hx]))
      constructor
      · rintro ⟨p, q⟩
        exact ⟨lo8_inj (h1 c (by simp)) (h2 d (by simp)) p, i.mp q⟩
      · rintro ⟨rfl, q⟩
        exact ⟨rfl, i.mpr q⟩
def chr8 (b : Int32) : Int32 := (b &&& 255).toUInt32.toUInt16.toUInt32.toInt32
theorem chr8_lo8 {c : Int32} (q : B8 c) : chr8 (lo8 c) = c := by
  have e : lo8 c &&& 255 = c := by
    have a1 := c_mask (lo8 c) 255 8 (by decide) (by decide)
    have a2 := (c_i2b c).1
    obtain ⟨q1, q2⟩ := q
    apply Int32.toInt_inj.mp
    rw [a1]
    show c.toInt8.toInt32.toInt % ((2 ^ 8 : Nat) : Int) = _
    have e : ((2 ^ 8 : Nat) : Int) = 256 := rfl
    rw [e]
    omega
  unfold chr8
  rw [e]
  exact q.i2c_eq
theorem shr0 (x : Int32) : x >>> ((0 : Int32) &&& 31) = x := by
  have q := c_ishr x 0 0 (by decide)
  apply Int32.toInt_inj.mp
  rw [q]
  simp
theorem Ix.ltn {j : Int32} {i n : Nat} (q : Ix j i) (hn : n < 2 ^ 31) (hi : i < n) : j < Int32.ofNat n := by
  rw [Int32.lt_iff_toInt_lt, q, Int32.toInt_ofNat_of_lt hn]; omega
/-- a String that 'new' has just made is no literal -/
theorem SafeBy.blank {EL : List (String × Nat)} {F : List Addr} (E : Exa Z h a "java/lang/String") (V : Fld Z h a "java/lang/String" "value" "[B" .null) {n : Nat} {a0 : Array Value} (wi : (Jvm.Cond.instantiable "java/lang/String" n).before a0 Z = true) : SafeBy Z EL F h a := by
  refine ⟨E.lt, fun vm hal _ B => ?_⟩
  obtain ⟨p, hp, u, b, hb, q, hq, F', hy⟩ := B
  obtain ⟨cS, ⟨⟨s1, s2, s3, ⟨cv, kv, iv, s4, s4'⟩, ⟨cc, kc, ic, s5, s5'⟩, s6, s7, s8, s9, s10, s11, s12, s13, s14, s15, s16⟩, hfS, hcS⟩, ⟨kS, k1, k2, k3⟩, hB, hbyt⟩ := F'
  obtain ⟨cell, cf, k, i, f, h1, h2, h3, h4, h5, h6, h7⟩ := V
  rcases hy with rfl | rfl
  · obtain ⟨kv', z4⟩ := ff_back (U := Wst Z vm h) hal s4
    cases h2.symm.trans z4
    cases h1.symm.trans (show h[q.sa]? = some q.sC from s1)
    have := h7.symm.trans s8
    cases this
  · obtain ⟨c1, kk, e1, e2, e3, -⟩ := E
    cases e1.symm.trans (show h[q.sd]? = some q.SA from s10)
    obtain ⟨c2, k2', i1, i2, i3, -⟩ := Cond.instantiable_spec wi
    cases e2.symm.trans i1
    obtain ⟨-, k9, hk9, comp, hkind9⟩ := s11
    obtain ⟨k', hk', ek⟩ := hal.2.2 _ _ i2
    cases (show vm.classes[q.SA.cls]? = some k9 from hk9).symm.trans hk'
    rw [ek] at hkind9
    have hk3 : k2'.kind = _ := hkind9
    rw [i3] at hk3
    cases hk3
end StrFacts
end Jvm.Own
namespace Jvm.Own
open Jvm Jvm.ClassFile Sem Op Lib Jvm.Free Jvm.Stand Jvm.LawKit Jvm.RoadKit Bundle
section Dbl
variable {l : Launch} {Z : State} {EL : List (String × Nat)} {n0 : Nat} {R : Room} {y : MethodName} {bytes : ByteArray} {ml : Nat} {ret : Option FieldType} {Q : Option Value → Heap → List Addr → Prop}
  {F : List Addr} {h : Heap} {cells slots pc pc' : Nat} {Ls Ls' : Array Slot} {S S' : List Value} {a0 : Array Value}
theorem WP.ldcI {idx : Nat} {v : Int32} (hd : D1 bytes pc (.ldc idx) 2 pc') (w : (Jvm.Cond.constant y.cls idx v).before a0 Z = true) (k : WP l Z EL n0 R y bytes ml ret Q F h cells slots pc' Ls (.int v :: S)) : WP l Z EL n0 R y bytes ml ret Q F h cells slots pc Ls S := by
  obtain ⟨hd, rfl⟩ := hd
  refine WP.same (fun p e1 s m args below meth c' T vm0 locs D => ?_) k
  obtain ⟨X, e0, -, hZ, hown, -, -, -, -, hx, hby, -⟩ := D
  exact ⟨T, X, e0, fun t q => X.ldcI hx hown (mvT (s := s.setVm vm0) hZ w) (g := mkF m pc Ls S) rfl (hb hby hd) q⟩
theorem WP.ldc2J {idx : Nat} {v : Int64} (hd : D1 bytes pc (.ldc2_w idx) 3 pc') (w : (Jvm.Cond.constantLong y.cls idx v).before a0 Z = true) (k : WP l Z EL n0 R y bytes ml ret Q F h cells slots pc' Ls (.long v :: S)) : WP l Z EL n0 R y bytes ml ret Q F h cells slots pc Ls S := by
  obtain ⟨hd, rfl⟩ := hd
  refine WP.same (fun p e1 s m args below meth c' T vm0 locs D => ?_) k
  obtain ⟨X, e0, -, hZ, hown, -, -, -, -, hx, hby, -⟩ := D
  exact ⟨T, X, e0, fun t q => X.ldc2J hx hown (mvT (s := s.setVm vm0) hZ w) (g := mkF m pc Ls S) rfl (hb hby hd) q⟩
theorem WP.ldc2D {idx : Nat} {v : UInt64} (hd : D1 bytes pc (.ldc2_w idx) 3 pc') (w : (Jvm.Cond.constantDouble y.cls idx v).before a0 Z = true) (k : WP l Z EL n0 R y bytes ml ret Q F h cells slots pc' Ls (.double v :: S)) : WP l Z EL n0 R y bytes ml ret Q F h cells slots pc Ls S := by
  obtain ⟨hd, rfl⟩ := hd
  refine WP.same (fun p e1 s m args below meth c' T vm0 locs D => ?_) k
  obtain ⟨X, e0, -, hZ, hown, -, -, -, -, hx, hby, -⟩ := D
  exact ⟨T, X, e0, fun t q => X.ldc2DoubleC hx hown (mvT (s := s.setVm vm0) hZ w) (g := mkF m pc Ls S) rfl (hb hby hd) t q⟩
theorem WP.dload_n {i : Fin 4} {x : UInt64} (hd : D1 bytes pc (.dload_n i) 1 pc') (hl : Ls[i.val]? = some (.val (.double x))) (k : WP l Z EL n0 R y bytes ml ret Q F h cells slots pc' Ls (.double x :: S)) : WP l Z EL n0 R y bytes ml ret Q F h cells slots pc Ls S := by
  obtain ⟨hd, rfl⟩ := hd
  exact k.lift fun p e m c below T t hx hby ha q => XS.dloadN ha hx rfl (hb hby hd) hl q
theorem WP.dload {i : Nat} {x : UInt64} (hd : D1 bytes pc (.dload i) 2 pc') (hl : Ls[i]? = some (.val (.double x))) (k : WP l Z EL n0 R y bytes ml ret Q F h cells slots pc' Ls (.double x :: S)) : WP l Z EL n0 R y bytes ml ret Q F h cells slots pc Ls S := by
  obtain ⟨hd, rfl⟩ := hd
  exact k.lift fun p e m c below T t hx hby ha q => XS.dload ha hx rfl (hb hby hd) hl q
theorem WP.dstore_n {i : Fin 4} {x z : UInt64} (hd : D1 bytes pc (.dstore_n i) 1 pc') (hz : x = z) (hl : storeLocals Ls i.val (.double z) = some Ls') (k : WP l Z EL n0 R y bytes ml ret Q F h cells slots pc' Ls' S) : WP l Z EL n0 R y bytes ml ret Q F h cells slots pc Ls (.double x :: S) := by
  obtain ⟨hd, rfl⟩ := hd
  subst hz
  exact k.lift fun p e m c below T t hx hby ha q => XS.dstoreN ha hx rfl (hb hby hd) rfl hl q
theorem WP.dstore {i : Nat} {x z : UInt64} (hd : D1 bytes pc (.dstore i) 2 pc') (hz : x = z) (hl : storeLocals Ls i (.double z) = some Ls') (k : WP l Z EL n0 R y bytes ml ret Q F h cells slots pc' Ls' S) : WP l Z EL n0 R y bytes ml ret Q F h cells slots pc Ls (.double x :: S) := by
  obtain ⟨hd, rfl⟩ := hd
  subst hz
  exact k.lift fun p e m c below T t hx hby ha q => XS.dstore ha hx rfl (hb hby hd) rfl hl q
theorem WP.i2d {x : Int32} (hd : D1 bytes pc .i2d 1 pc') (k : WP l Z EL n0 R y bytes ml ret Q F h cells slots pc' Ls (.double (FP.i2d x) :: S)) : WP l Z EL n0 R y bytes ml ret Q F h cells slots pc Ls (.int x :: S) := by
  obtain ⟨hd, rfl⟩ := hd
  exact k.lift fun p e m c below T t hx hby ha q => XS.i2dS ha hx rfl (hb hby hd) rfl rfl q
theorem WP.dcmp {o : CmpOp} {x z : UInt64} {v : Int32} (hd : D1 bytes pc (.dcmp o) 1 pc') (hv : cmpValue (FP.dcmp x z) o = v) (k : WP l Z EL n0 R y bytes ml ret Q F h cells slots pc' Ls (.int v :: S)) : WP l Z EL n0 R y bytes ml ret Q F h cells slots pc Ls (.double z :: .double x :: S) := by
  obtain ⟨hd, rfl⟩ := hd
  exact k.lift fun p e m c below T t hx hby ha q => XS.dcmpS ha hx rfl (hb hby hd) rfl hv q
/-- Math.abs of a double that is no NaN -/
theorem WP.absD {idx mlc : Nat} {bytesc : ByteArray} {x z : UInt64} (hd : D1 bytes pc (.invokestatic idx) 3 pc') (w1 : (Jvm.Cond.methodLink y.cls idx (⟨"java/lang/Math", "abs", "(D)D"⟩ : MethodName)).before a0 Z = true) (w2 : (Jvm.Cond.static (⟨"java/lang/Math", "abs", "(D)D"⟩ : MethodName)).before a0 Z = true) (w3 : (Jvm.Cond.initialized "java/lang/Math").before a0 Z = true) (w4 : (Jvm.Cond.code (⟨"java/lang/Math", "abs", "(D)D"⟩ : MethodName) bytesc mlc (some .double)).before a0 Z = true)
    (hn : x &&& 0x7fffffffffffffff ≤ 0x7ff0000000000000) (hz : x &&& 0x7fffffffffffffff = z) (hsz : Ls.size = ml) (hf : 1 ≤ R.frames) (hl : (S.map fun v => v.category).sum + (mlc + 11) ≤ R.locals) (hc : cells ≤ R.cells) (hs : slots ≤ R.slots)
    (k : WP l Z EL n0 R y bytes ml ret Q F h cells slots pc' Ls (.double z :: S)) : WP l Z EL n0 R y bytes ml ret Q F h cells slots pc Ls (.double x :: S) := by
  obtain ⟨hd, rfl⟩ := hd
  refine WP.same (fun p e1 s m args below meth c' T vm0 locs D => ?_) k
  obtain ⟨X, e0, -, hZ, hown, -, -, -, -, hx, hby, hml, -⟩ := D
  exact natS (s := s.setVm vm0) (F := fun a => a = #[.double x]) (val := .double (x &&& 0x7fffffffffffffff)) (W := (S.map fun v => v.category).sum) X hx hZ hown w1 w2 w3 w4 (by decide) e0
    (fun hcd m' meth' c2 A g ig mk a X' hg hsz' hdg hW hnm hp => by
      obtain ⟨v, B, X2, ⟨hB, hv⟩, st⟩ := Jvm.Free.NT.Abs64.pays (R := R) (W := (S.map fun v => v.category).sum) (len := 3) hcd (mvT (s := s.setVm vm0) hZ w2) hf hl m' meth' c2 A g ig mk a X' hg hsz' hdg hW hnm ⟨x, hp.2.2, hn⟩
      exact ⟨v, B, X2, ⟨hv x ⟨hp.2.2, hn⟩, hB⟩, st⟩)
    (g := mkF m pc Ls (.double x :: S)) rfl (by rw [hml]; exact hsz) (argsL := [.double x]) (rest := S) (lenOf (ps := [.double]) (r := some .double) (by decide +kernel) rfl) rfl (by show 2 * 0 + _ ≤ _; omega) (hb hby hd) hc hs rfl (by rw [hz])
end Dbl
end Jvm.Own
namespace Jvm.Own
open Jvm Jvm.ClassFile Sem Op Lib Jvm.Free Jvm.Stand Jvm.LawKit Jvm.RoadKit Bundle
/-- an array of references: its components -/
def RA (Z : State) (h : Heap) (a : Addr) (ty : FieldType) (vs : List Value) : Prop := ∃ c : Cell, Arr Z h a c ty ∧ c.slots = vs.toArray ∧ vs.length < 2 ^ 31
section Refs
variable {l : Launch} {Z : State} {EL : List (String × Nat)} {n0 : Nat} {R : Room} {y : MethodName} {bytes : ByteArray} {ml : Nat} {ret : Option FieldType} {Q : Option Value → Heap → List Addr → Prop}
  {F : List Addr} {h h' : Heap} {cells slots pc pc' : Nat} {Ls Ls' : Array Slot} {S S' : List Value} {a0 : Array Value} {ws : List Addr}
theorem RA.lt {a : Addr} {ty : FieldType} {vs : List Value} (A : RA Z h a ty vs) : a < h.size := by obtain ⟨c, A, -⟩ := A; exact A.lt
theorem RA.len {a : Addr} {ty : FieldType} {vs : List Value} (A : RA Z h a ty vs) : vs.length < 2 ^ 31 := by obtain ⟨c, -, -, q⟩ := A; exact q
theorem RA.ext {a : Addr} {ty : FieldType} {vs : List Value} (A : RA Z h a ty vs) (E : Ext h h') : RA Z h' a ty vs := by obtain ⟨c, A, r⟩ := A; exact ⟨c, A.ext E, r⟩
theorem RA.other {a b : Addr} {ty : FieldType} {vs : List Value} {sl : Nat} {v : Value} (A : RA Z h b ty vs) (W : Wr h h' a sl v) (q : b ≠ a) : RA Z h' b ty vs := by obtain ⟨c, A, r⟩ := A; exact ⟨c, A.other W q, r⟩
theorem RA.keep {a : Addr} {ty : FieldType} {vs : List Value} (A : RA Z h a ty vs) (K : Keep h h' ws) (q : a ∉ ws) : RA Z h' a ty vs := by obtain ⟨c, A, r⟩ := A; exact ⟨c, ⟨K.2.1 a c A.1 q, A.2⟩, r⟩
theorem RA.set {a : Addr} {ty : FieldType} {vs : List Value} {i : Nat} {v : Value} (A : RA Z h a ty vs) (W : Wr h h' a i v) : RA Z h' a ty (vs.set i v) := by
  obtain ⟨c, A, e, q⟩ := A
  refine ⟨_, A.same W, ?_, by simpa using q⟩
  simp [Cell.setSlot, e]
theorem RA.sz {vs : List Value} {c : Cell} (e : c.slots = vs.toArray) : c.slots.size = vs.length := by rw [e]; simp
theorem WP.arraylengthR {a : Addr} {ty : FieldType} {vs : List Value} (hd : D1 bytes pc .arraylength 1 pc') (A : RA Z h a ty vs) (k : WP l Z EL n0 R y bytes ml ret Q F h cells slots pc' Ls (.int (Int32.ofNat vs.length) :: S)) : WP l Z EL n0 R y bytes ml ret Q F h cells slots pc Ls (.ref a :: S) := by
  obtain ⟨hd, rfl⟩ := hd
  obtain ⟨c, A, e, q⟩ := A
  refine WP.same (fun p e1 s m args below meth c' T vm0 locs D => ?_) k
  obtain ⟨X, e0, -, hZ, hown, -, -, -, -, hx, hby, -⟩ := D
  refine ⟨T, X, e0, fun t q => X.arraylength hx (by rw [e0]; exact A.1) (State.isArrayOf_alike (T := s.setVm vm0) hZ.alike A.2.1) (g := mkF m pc Ls (.ref a :: S)) rfl rfl (hb hby hd) t ?_⟩
  rw [RA.sz e]
  exact q
theorem WP.aaload {a : Addr} {ty : FieldType} {vs : List Value} {j : Int32} {v : Value} {i : Nat} (hd : D1 bytes pc .aaload 1 pc') (A : RA Z h a ty vs) (hty : ty.isReference = true) (hj : Ix j i) (hx : vs[i]? = some v) (k : WP l Z EL n0 R y bytes ml ret Q F h cells slots pc' Ls (v :: S)) : WP l Z EL n0 R y bytes ml ret Q F h cells slots pc Ls (.int j :: .ref a :: S) := by
  obtain ⟨hd, rfl⟩ := hd
  obtain ⟨c, A, e, q⟩ := A
  have hi : i < vs.length := (List.getElem?_eq_some_iff.mp hx).1
  refine WP.same (fun p e1 s m args below meth c' T vm0 locs D => ?_) k
  obtain ⟨X, e0, -, hZ, hown, -, -, -, -, hxx, hby, -⟩ := D
  exact ⟨T, X, e0, fun t q => X.aaload hxx (v := v) (by rw [e0]; exact A.1) (State.isArrayOf_alike (T := s.setVm vm0) hZ.alike A.2.1) hty A.2.2 (by rw [RA.sz e, hj.clamp]; exact fun z => z.elim hj.nn fun z => by omega) (by rw [hj.clamp, e]; simpa using hx) (g := mkF m pc Ls (.int j :: .ref a :: S)) rfl rfl (hb hby hd) t q⟩
theorem WP.instanceofNull {idx : Nat} (hd : D1 bytes pc (.instanceof idx) 3 pc') (k : WP l Z EL n0 R y bytes ml ret Q F h cells slots pc' Ls (.int 0 :: S)) : WP l Z EL n0 R y bytes ml ret Q F h cells slots pc Ls (.null :: S) := by
  obtain ⟨hd, rfl⟩ := hd
  refine WP.same (fun p e1 s m args below meth c' T vm0 locs D => ?_) k
  obtain ⟨X, e0, -, hZ, hown, -, -, -, -, hxx, hby, -⟩ := D
  exact ⟨T, X, e0, X.instanceofNull hxx (g := mkF m pc Ls (.null :: S)) rfl rfl (hb hby hd)⟩
/-- clone() of an array -/
theorem WP.clone {idx cap : Nat} {ad : String} {a : Addr} {ty : FieldType} {vs : List Value} (hd : D1 bytes pc (.invokevirtual idx) 3 pc') (w1 : (Jvm.Cond.methodLink y.cls idx ⟨ad, "clone", "()Ljava/lang/Object;"⟩).before a0 Z = true) (w2 : (Jvm.Cond.sameMethod ad "java/lang/Object" "clone" "()Ljava/lang/Object;").before a0 Z = true) (w3 : (Jvm.Cond.native ⟨"java/lang/Object", "clone", "()Ljava/lang/Object;"⟩).before a0 Z = true)
    (w4 : (Jvm.Cond.instanceMethod ⟨"java/lang/Object", "clone", "()Ljava/lang/Object;"⟩).before a0 Z = true) (w5 : (Jvm.Cond.selects ad ⟨ad, "clone", "()Ljava/lang/Object;"⟩ ⟨"java/lang/Object", "clone", "()Ljava/lang/Object;"⟩).before a0 Z = true) (w6 : (Jvm.Cond.castable ad "java/lang/Cloneable").before a0 Z = true)
    {cl : Cell} (A : Arr Z h a cl ty) (ev : cl.slots = vs.toArray) (hlen : vs.length < 2 ^ 31) (E : Exa Z h a ad) (Fc : FitC Z cl) (hsz : Ls.size = ml) (hf : 1 ≤ R.frames) (hl : (S.map fun v => v.category).sum + 14 ≤ R.locals) (hcap : vs.length ≤ cap) (hc : cells + 1 ≤ R.cells) (hsl : slots + cap ≤ R.slots)
    (k : ∀ (h' : Heap) (b : Nat), b = h.size → Ext h h' → RA Z h' b ty vs → Exa Z h' b ad → WP l Z EL n0 R y bytes ml ret Q (b :: F) h' (cells + 1) (slots + cap) pc' Ls (.ref b :: S)) : WP l Z EL n0 R y bytes ml ret Q F h cells slots pc Ls (.ref a :: S) := by
  obtain ⟨hd, rfl⟩ := hd
  refine WP.grow (G := [h.size]) (P := fun h' => RA Z h' h.size ty vs ∧ Exa Z h' h.size ad) (fun h' E hP x hx => ?_) (fun p e s m args below meth c T vm0 locs D => ?_) (fun h' E hP => k h' _ rfl E hP.1 hP.2)
  · cases List.mem_singleton.mp hx; exact ⟨hP.1.lt, Nat.le_refl _⟩
  · obtain ⟨X, e0, -, hZ, hown, -, -, -, -, hx, hby, hml, -⟩ := D
    obtain ⟨T', h', X', e', E', A', Ex, st⟩ := cloneA X hx hZ hown w1 w2 w3 w4 w5 w6 e0 A E Fc (g := mkF m pc Ls (.ref a :: S)) rfl (by rw [hml]; exact hsz) rfl (hb hby hd) hf (W := (S.map fun v => v.category).sum) (by show 2 * 0 + _ ≤ _; omega) hl (cap := cap) (by rw [RA.sz ev]; exact hcap) hc hsl
    exact ⟨T', h', X', e', E', ⟨⟨_, A', ev, hlen⟩, Ex⟩, st⟩
end Refs
end Jvm.Own
namespace Jvm.Own
open Jvm Jvm.ClassFile Sem Op Lib Jvm.Free Jvm.Stand Jvm.LawKit Jvm.RoadKit Bundle
section Words
variable {args : Array Value} {s : State} {t : Term} {a : Addr} {ty : FieldType} {c : Cell}
theorem arr_size {n : Nat} (A : Jvm.RoadKit.Arr s s.heap a c ty) (ev : t.eval args s none [] s = some (.ref a)) (hl : (Jvm.Cond.eq (.length t) (.int (Int32.ofNat n))).value args s none s [] = some true) (hn : n < 2 ^ 31) : c.slots.size = n := by
  have h := eqv_i (F := .int (Int32.ofNat n)) rfl hl
  have ha : s.arrayAt? a = some c := A.fin (Vm.Alike.refl _)
  simp only [Term.eval, ev, ha, Option.bind_eq_bind, Option.bind_some, Option.pure_def] at h
  by_cases h1 : c.slots.size < 2 ^ 31
  · have h2 : Value.int c.slots.size.toInt32 = .int (Int32.ofNat n) := by simpa [h1] using h
    have h3 : c.slots.size.toInt32 = Int32.ofNat n := by simpa using h2
    have q := congrArg Int32.toInt h3
    rw [len_toInt h1, Int32.toInt_ofNat_of_lt hn] at q
    omega
  · simp [h1] at h
theorem arr_elem {i : Nat} {v : Value} (A : Jvm.RoadKit.Arr s s.heap a c ty) (ev : t.eval args s none [] s = some (.ref a)) (hi : i < 2 ^ 31) (h : (Term.elem t (.int (Int32.ofNat i))).eval args s none [] s = some v) : c.slots[i]? = some v := by
  obtain ⟨-, q⟩ := elem_in (j := Int32.ofNat i) h ev rfl A.1
  rwa [(Ix.ofNat hi).clamp] at q
/-- an array of ints, its length and components said by words -/
theorem ia_of {xs : List Int32} (ev : t.eval args s none [] s = some (.ref a)) (ha : (Jvm.Cond.arrayOf t ty).value args s none s [] = some true) (hn : xs.length < 2 ^ 31) (hl : (Jvm.Cond.eq (.length t) (.int (Int32.ofNat xs.length))).value args s none s [] = some true)
    (he : ∀ i x, xs[i]? = some x → (Jvm.Cond.eq (.elem t (.int (Int32.ofNat i))) (.int x)).value args s none s [] = some true) : IA s s.heap a ty xs := by
  obtain ⟨c, A⟩ := Jvm.RoadKit.Arr.start ev ha
  have hs := arr_size A ev hl hn
  refine ⟨c, A, Array.ext_getElem? fun i => ?_, hn⟩
  by_cases hi : i < xs.length
  · obtain ⟨x, hx⟩ : ∃ x, xs[i]? = some x := ⟨_, List.getElem?_eq_getElem hi⟩
    rw [arr_elem A ev (by omega) (eqv_i rfl (he i x hx))]
    simp [hx]
  · rw [Array.getElem?_eq_none (by omega), Array.getElem?_eq_none (by simp; omega)]
/-- a reference said equal to another -/
theorem eqv_r {X F : Term} {r : Addr} (hF : F.eval args s none [] s = some (.ref r)) (h : (Jvm.Cond.eq X F).value args s none s [] = some true) : X.eval args s none [] s = some (.ref r) := by
  obtain ⟨x, z, e1, e2, k1, k2⟩ := cmp_v (Or.inl h)
  cases hF.symm.trans e2
  have hx : x.isRef = true := k2.2
  have := gotT (eq_R e1 hF hx rfl) h
  rw [e1, this]
/-- a Latin-1 String said by words -/
theorem str_of {xs : List Int32} (h1 : (Jvm.Cond.exactly t "java/lang/String").value args s none s [] = some true) (h2 : (Jvm.Cond.eq (.field t "java/lang/String" "coder" "B") (.int 0)).value args s none s [] = some true)
    (h3 : (Jvm.Cond.arrayOf (.field t "java/lang/String" "value" "[B") .byte).value args s none s [] = some true) (hn : xs.length < 2 ^ 31) (h4 : (Jvm.Cond.eq (.length (.field t "java/lang/String" "value" "[B")) (.int (Int32.ofNat xs.length))).value args s none s [] = some true)
    (he : ∀ i x, xs[i]? = some x → (Jvm.Cond.eq (.elem (.field t "java/lang/String" "value" "[B") (.int (Int32.ofNat i))) (.int x)).value args s none s [] = some true) (ev : t.eval args s none [] s = some (.ref a)) : ∃ b, Str s s.heap a b xs := by
  obtain ⟨b, eb⟩ := arr_v h3
  refine ⟨b, Exa.start ev h1, Jvm.RoadKit.Fld.start ?_, Jvm.RoadKit.Fld.start ?_, ia_of eb h3 hn h4 he⟩
  · rw [← fld_at ev]; exact eqv_i rfl h2
  · rw [← fld_at ev]; exact eb
end Words
end Jvm.Own
namespace Jvm.Pilot.@@N@@
open Jvm Jvm.ClassFile Sem Op Lib Jvm.Free Jvm.Stand Jvm.LawKit Jvm.RoadKit Bundle Jvm.Own Jvm.Pilot.@@N@@.Jvm.D
theorem own_EW {Z : State} {a0 : Array Value} (hw : ∀ d ∈ tables_1, d.before a0 Z = true) : EW Z a0 [] := EW.nil
theorem own_wS {Z : State} {a0 : Array Value} (hw : ∀ d ∈ tables_1, d.before a0 Z = true) : ∀ a ∈ Bundle.stringAtoms, a.before a0 Z = true := by
  intro d hd
  simp only [Bundle.stringAtoms, List.mem_cons, List.not_mem_nil, or_false] at hd
  rcases hd with rfl | rfl | rfl | rfl | rfl | rfl | rfl
  · exact (hw _ (List.mem_of_getElem? (i := 20) rfl))
  · exact (hw _ (List.mem_of_getElem? (i := 21) rfl))
  · exact (hw _ (List.mem_of_getElem? (i := 22) rfl))
  · exact (hw _ (List.mem_of_getElem? (i := 23) rfl))
  · exact (hw _ (List.mem_of_getElem? (i := 24) rfl))
  · exact (hw _ (List.mem_of_getElem? (i := 25) rfl))
  · exact (hw _ (List.mem_of_getElem? (i := 26) rfl))
theorem pd_0 : parseMethodDescriptor "(ILcom/example/nearbid/nearbid/market/Role;DDII)V" = some ⟨[.int, (.object "com/example/nearbid/nearbid/market/Role"), .double, .double, .int, .int], none⟩ := by decide +kernel
theorem pd_1 : parseMethodDescriptor "()V" = some ⟨[], none⟩ := by decide +kernel
theorem pd_2 : parseMethodDescriptor "(Ljava/lang/Object;Ljava/lang/String;)Ljava/lang/Object;" = some ⟨[(.object "java/lang/Object"), (.object "java/lang/String")], some (.object "java/lang/Object")⟩ := by decide +kernel
theorem pd_3 : parseMethodDescriptor "(D)Z" = some ⟨[.double], some .boolean⟩ := by decide +kernel
theorem pd_4 : parseMethodDescriptor "(D)D" = some ⟨[.double], some .double⟩ := by decide +kernel
theorem pd_5 : parseMethodDescriptor "(Lcom/example/nearbid/nearbid/market/Participant;Lcom/example/nearbid/nearbid/market/Participant;)V" = some ⟨[(.object "com/example/nearbid/nearbid/market/Participant"), (.object "com/example/nearbid/nearbid/market/Participant")], none⟩ := by decide +kernel
theorem pd_6 : parseMethodDescriptor "()Lcom/example/nearbid/nearbid/market/Role;" = some ⟨[], some (.object "com/example/nearbid/nearbid/market/Role")⟩ := by decide +kernel
theorem pd_7 : parseMethodDescriptor "()I" = some ⟨[], some .int⟩ := by decide +kernel
theorem d0_0 : D1 code 0 (.iload_n 0) 1 1 := ⟨at_0, rfl⟩
theorem d0_1 : D1 code 1 (.ldc 7) 2 3 := ⟨at_1, rfl⟩
theorem d0_3 : D1 code 3 (.iand) 1 4 := ⟨at_3, rfl⟩
theorem d0_4 : D1 code 4 (.istore 6) 2 6 := ⟨at_4, rfl⟩
theorem d0_6 : D1 code 6 (.iload_n 1) 1 7 := ⟨at_6, rfl⟩
theorem d0_7 : D1 code 7 (.ldc 7) 2 9 := ⟨at_7, rfl⟩
theorem d0_9 : D1 code 9 (.iand) 1 10 := ⟨at_9, rfl⟩
theorem d0_10 : D1 code 10 (.istore 7) 2 12 := ⟨at_10, rfl⟩
theorem d0_12 : D1 code 12 (.iload_n 2) 1 13 := ⟨at_12, rfl⟩
theorem d0_13 : D1 code 13 (.ldc 8) 2 15 := ⟨at_13, rfl⟩
theorem d0_15 : D1 code 15 (.iand) 1 16 := ⟨at_15, rfl⟩
theorem d0_16 : D1 code 16 (.iconst 1) 1 17 := ⟨at_16, rfl⟩
theorem d0_17 : D1 code 17 (.iadd) 1 18 := ⟨at_17, rfl⟩
theorem d0_18 : D1 code 18 (.istore 8) 2 20 := ⟨at_18, rfl⟩
theorem d0_20 : D1 code 20 (.iload_n 3) 1 21 := ⟨at_20, rfl⟩
theorem d0_21 : D1 code 21 (.ldc 8) 2 23 := ⟨at_21, rfl⟩
theorem d0_23 : D1 code 23 (.iand) 1 24 := ⟨at_23, rfl⟩
theorem d0_24 : D1 code 24 (.iconst 1) 1 25 := ⟨at_24, rfl⟩
theorem d0_25 : D1 code 25 (.iadd) 1 26 := ⟨at_25, rfl⟩
theorem d0_26 : D1 code 26 (.istore 9) 2 28 := ⟨at_26, rfl⟩
theorem d0_28 : D1 code 28 (.iload 4) 2 30 := ⟨at_28, rfl⟩
theorem d0_30 : D1 code 30 (.sipush 32767) 3 33 := ⟨at_30, rfl⟩
theorem d0_33 : D1 code 33 (.iand) 1 34 := ⟨at_33, rfl⟩
theorem d0_34 : D1 code 34 (.iconst 1) 1 35 := ⟨at_34, rfl⟩
theorem d0_35 : D1 code 35 (.iadd) 1 36 := ⟨at_35, rfl⟩
theorem d0_36 : D1 code 36 (.istore 10) 2 38 := ⟨at_36, rfl⟩
theorem d0_38 : D1 code 38 (.iload 4) 2 40 := ⟨at_38, rfl⟩
theorem d0_40 : D1 code 40 (.bipush 15) 2 42 := ⟨at_40, rfl⟩
theorem d0_42 : D1 code 42 (.iushr) 1 43 := ⟨at_42, rfl⟩
theorem d0_43 : D1 code 43 (.sipush 32767) 3 46 := ⟨at_43, rfl⟩
theorem d0_46 : D1 code 46 (.iand) 1 47 := ⟨at_46, rfl⟩
theorem d0_47 : D1 code 47 (.iconst 1) 1 48 := ⟨at_47, rfl⟩
theorem d0_48 : D1 code 48 (.iadd) 1 49 := ⟨at_48, rfl⟩
theorem d0_49 : D1 code 49 (.istore 11) 2 51 := ⟨at_49, rfl⟩
theorem d0_51 : D1 code 51 (.iload 5) 2 53 := ⟨at_51, rfl⟩
theorem d0_53 : D1 code 53 (.sipush 255) 3 56 := ⟨at_53, rfl⟩
theorem d0_56 : D1 code 56 (.iand) 1 57 := ⟨at_56, rfl⟩
theorem d0_57 : D1 code 57 (.sipush 128) 3 60 := ⟨at_57, rfl⟩
theorem d0_60 : D1 code 60 (.isub) 1 61 := ⟨at_60, rfl⟩
theorem d0_61 : D1 code 61 (.i2d) 1 62 := ⟨at_61, rfl⟩
theorem d0_62 : D1 code 62 (.dstore 12) 2 64 := ⟨at_62, rfl⟩
theorem d0_64 : D1 code 64 (.iload 5) 2 66 := ⟨at_64, rfl⟩
theorem d0_66 : D1 code 66 (.bipush 8) 2 68 := ⟨at_66, rfl⟩
theorem d0_68 : D1 code 68 (.iushr) 1 69 := ⟨at_68, rfl⟩
theorem d0_69 : D1 code 69 (.sipush 255) 3 72 := ⟨at_69, rfl⟩
theorem d0_72 : D1 code 72 (.iand) 1 73 := ⟨at_72, rfl⟩
theorem d0_73 : D1 code 73 (.sipush 128) 3 76 := ⟨at_73, rfl⟩
theorem d0_76 : D1 code 76 (.isub) 1 77 := ⟨at_76, rfl⟩
theorem d0_77 : D1 code 77 (.i2d) 1 78 := ⟨at_77, rfl⟩
theorem d0_78 : D1 code 78 (.dstore 14) 2 80 := ⟨at_78, rfl⟩
theorem d0_80 : D1 code 80 (.iload 5) 2 82 := ⟨at_80, rfl⟩
theorem d0_82 : D1 code 82 (.bipush 16) 2 84 := ⟨at_82, rfl⟩
theorem d0_84 : D1 code 84 (.iushr) 1 85 := ⟨at_84, rfl⟩
theorem d0_85 : D1 code 85 (.sipush 255) 3 88 := ⟨at_85, rfl⟩
theorem d0_88 : D1 code 88 (.iand) 1 89 := ⟨at_88, rfl⟩
theorem d0_89 : D1 code 89 (.sipush 128) 3 92 := ⟨at_89, rfl⟩
theorem d0_92 : D1 code 92 (.isub) 1 93 := ⟨at_92, rfl⟩
theorem d0_93 : D1 code 93 (.i2d) 1 94 := ⟨at_93, rfl⟩
theorem d0_94 : D1 code 94 (.dstore 16) 2 96 := ⟨at_94, rfl⟩
theorem d0_96 : D1 code 96 (.iload 5) 2 98 := ⟨at_96, rfl⟩
theorem d0_98 : D1 code 98 (.bipush 24) 2 100 := ⟨at_98, rfl⟩
theorem d0_100 : D1 code 100 (.iushr) 1 101 := ⟨at_100, rfl⟩
theorem d0_101 : D1 code 101 (.sipush 255) 3 104 := ⟨at_101, rfl⟩
theorem d0_104 : D1 code 104 (.iand) 1 105 := ⟨at_104, rfl⟩
theorem d0_105 : D1 code 105 (.sipush 128) 3 108 := ⟨at_105, rfl⟩
theorem d0_108 : D1 code 108 (.isub) 1 109 := ⟨at_108, rfl⟩
theorem d0_109 : D1 code 109 (.i2d) 1 110 := ⟨at_109, rfl⟩
theorem d0_110 : D1 code 110 (.dstore 18) 2 112 := ⟨at_110, rfl⟩
theorem d0_112 : D1 code 112 (.new 9) 3 115 := ⟨at_112, rfl⟩
theorem d0_115 : D1 code 115 (.dup) 1 116 := ⟨at_115, rfl⟩
theorem d0_116 : D1 code 116 (.iload 10) 2 118 := ⟨at_116, rfl⟩
theorem d0_118 : D1 code 118 (.getstatic 11) 3 121 := ⟨at_118, rfl⟩
theorem d0_121 : D1 code 121 (.dload 12) 2 123 := ⟨at_121, rfl⟩
theorem d0_123 : D1 code 123 (.dload 14) 2 125 := ⟨at_123, rfl⟩
theorem d0_125 : D1 code 125 (.iload 8) 2 127 := ⟨at_125, rfl⟩
theorem d0_127 : D1 code 127 (.iload 6) 2 129 := ⟨at_127, rfl⟩
theorem d0_129 : D1 code 129 (.invokespecial 17) 3 132 := ⟨at_129, rfl⟩
theorem d0_132 : D1 code 132 (.astore 20) 2 134 := ⟨at_132, rfl⟩
theorem d0_134 : D1 code 134 (.new 9) 3 137 := ⟨at_134, rfl⟩
theorem d0_137 : D1 code 137 (.dup) 1 138 := ⟨at_137, rfl⟩
theorem d0_138 : D1 code 138 (.iload 11) 2 140 := ⟨at_138, rfl⟩
theorem d0_140 : D1 code 140 (.getstatic 20) 3 143 := ⟨at_140, rfl⟩
theorem d0_143 : D1 code 143 (.dload 16) 2 145 := ⟨at_143, rfl⟩
theorem d0_145 : D1 code 145 (.dload 18) 2 147 := ⟨at_145, rfl⟩
theorem d0_147 : D1 code 147 (.iload 9) 2 149 := ⟨at_147, rfl⟩
theorem d0_149 : D1 code 149 (.iload 7) 2 151 := ⟨at_149, rfl⟩
theorem d0_151 : D1 code 151 (.invokespecial 17) 3 154 := ⟨at_151, rfl⟩
theorem d0_154 : D1 code 154 (.astore 21) 2 156 := ⟨at_154, rfl⟩
theorem d0_156 : D1 code 156 (.new 23) 3 159 := ⟨at_156, rfl⟩
theorem d0_159 : D1 code 159 (.dup) 1 160 := ⟨at_159, rfl⟩
theorem d0_160 : D1 code 160 (.aload 20) 2 162 := ⟨at_160, rfl⟩
theorem d0_162 : D1 code 162 (.aload 21) 2 164 := ⟨at_162, rfl⟩
theorem d0_164 : D1 code 164 (.invokespecial 25) 3 167 := ⟨at_164, rfl⟩
theorem d0_167 : D1 code 167 (.invokevirtual 28) 3 170 := ⟨at_167, rfl⟩
theorem d0_170 : D1 code 170 (.istore 22) 2 172 := ⟨at_170, rfl⟩
theorem d0_172 : D1 code 172 (.iload 6) 2 174 := ⟨at_172, rfl⟩
theorem d0_174 : D1 code 174 (.i2l) 1 175 := ⟨at_174, rfl⟩
theorem d0_175 : D1 code 175 (.iload 7) 2 177 := ⟨at_175, rfl⟩
theorem d0_177 : D1 code 177 (.i2l) 1 178 := ⟨at_177, rfl⟩
theorem d0_178 : D1 code 178 (.lsub) 1 179 := ⟨at_178, rfl⟩
theorem d0_179 : D1 code 179 (.lstore 23) 2 181 := ⟨at_179, rfl⟩
theorem d0_181 : D1 code 181 (.iload 22) 2 183 := ⟨at_181, rfl⟩
theorem d0_183 : D1 code 183 (.i2l) 1 184 := ⟨at_183, rfl⟩
theorem d0_184 : D1 code 184 (.lload 23) 2 186 := ⟨at_184, rfl⟩
theorem d0_186 : D1 code 186 (.lcmp) 1 187 := ⟨at_186, rfl⟩
theorem d0_187 : DJ code 187 (.ifCond .ne) 7 190 194 := ⟨at_187, rfl, rfl⟩
theorem d0_190 : D1 code 190 (.iconst 1) 1 191 := ⟨at_190, rfl⟩
theorem d0_191 : DJ code 191 .goto 4 194 195 := ⟨at_191, rfl, rfl⟩
theorem d0_194 : D1 code 194 (.iconst 0) 1 195 := ⟨at_194, rfl⟩
theorem d0_195 : D1 code 195 (.istore 25) 2 197 := ⟨at_195, rfl⟩
theorem d0_197 : D1 code 197 (.iload 22) 2 199 := ⟨at_197, rfl⟩
theorem d0_199 : DJ code 199 (.ifCond .le) 7 202 206 := ⟨at_199, rfl, rfl⟩
theorem d0_202 : D1 code 202 (.iconst 1) 1 203 := ⟨at_202, rfl⟩
theorem d0_203 : DJ code 203 .goto 4 206 207 := ⟨at_203, rfl, rfl⟩
theorem d0_206 : D1 code 206 (.iconst 0) 1 207 := ⟨at_206, rfl⟩
theorem d0_207 : D1 code 207 (.iload 6) 2 209 := ⟨at_207, rfl⟩
theorem d0_209 : D1 code 209 (.iload 7) 2 211 := ⟨at_209, rfl⟩
theorem d0_211 : DJ code 211 (.if_icmp .le) 7 214 218 := ⟨at_211, rfl, rfl⟩
theorem d0_214 : D1 code 214 (.iconst 1) 1 215 := ⟨at_214, rfl⟩
theorem d0_215 : DJ code 215 .goto 4 218 219 := ⟨at_215, rfl, rfl⟩
theorem d0_218 : D1 code 218 (.iconst 0) 1 219 := ⟨at_218, rfl⟩
theorem d0_219 : DJ code 219 (.if_icmp .ne) 32 222 251 := ⟨at_219, rfl, rfl⟩
theorem d0_222 : D1 code 222 (.iload 22) 2 224 := ⟨at_222, rfl⟩
theorem d0_224 : DJ code 224 (.ifCond .ne) 7 227 231 := ⟨at_224, rfl, rfl⟩
theorem d0_227 : D1 code 227 (.iconst 1) 1 228 := ⟨at_227, rfl⟩
theorem d0_228 : DJ code 228 .goto 4 231 232 := ⟨at_228, rfl, rfl⟩
theorem d0_231 : D1 code 231 (.iconst 0) 1 232 := ⟨at_231, rfl⟩
theorem d0_232 : D1 code 232 (.iload 6) 2 234 := ⟨at_232, rfl⟩
theorem d0_234 : D1 code 234 (.iload 7) 2 236 := ⟨at_234, rfl⟩
theorem d0_236 : DJ code 236 (.if_icmp .ne) 7 239 243 := ⟨at_236, rfl, rfl⟩
theorem d0_239 : D1 code 239 (.iconst 1) 1 240 := ⟨at_239, rfl⟩
theorem d0_240 : DJ code 240 .goto 4 243 244 := ⟨at_240, rfl, rfl⟩
theorem d0_243 : D1 code 243 (.iconst 0) 1 244 := ⟨at_243, rfl⟩
theorem d0_244 : DJ code 244 (.if_icmp .ne) 7 247 251 := ⟨at_244, rfl, rfl⟩
theorem d0_247 : D1 code 247 (.iconst 1) 1 248 := ⟨at_247, rfl⟩
theorem d0_248 : DJ code 248 .goto 4 251 252 := ⟨at_248, rfl, rfl⟩
theorem d0_251 : D1 code 251 (.iconst 0) 1 252 := ⟨at_251, rfl⟩
theorem d0_252 : D1 code 252 (.istore 26) 2 254 := ⟨at_252, rfl⟩
theorem d0_254 : D1 code 254 (.iload 25) 2 256 := ⟨at_254, rfl⟩
theorem d0_256 : DJ code 256 (.ifCond .eq) 12 259 268 := ⟨at_256, rfl, rfl⟩
theorem d0_259 : D1 code 259 (.iload 26) 2 261 := ⟨at_259, rfl⟩
theorem d0_261 : DJ code 261 (.ifCond .eq) 7 264 268 := ⟨at_261, rfl, rfl⟩
theorem d0_264 : D1 code 264 (.iconst 1) 1 265 := ⟨at_264, rfl⟩
theorem d0_265 : DJ code 265 .goto 4 268 269 := ⟨at_265, rfl, rfl⟩
theorem d0_268 : D1 code 268 (.iconst 0) 1 269 := ⟨at_268, rfl⟩
theorem d0_269 : D1 code 269 (.ireturn) 1 270 := ⟨at_269, rfl⟩
theorem d1_0 : D1 prog_34_method_1_code 0 (.aload_n 0) 1 1 := ⟨by decide +kernel, rfl⟩
theorem d1_1 : D1 prog_34_method_1_code 1 (.invokespecial 1) 3 4 := ⟨by decide +kernel, rfl⟩
theorem d1_4 : D1 prog_34_method_1_code 4 (.aload_n 2) 1 5 := ⟨by decide +kernel, rfl⟩
theorem d1_5 : D1 prog_34_method_1_code 5 (.ldc 7) 2 7 := ⟨by decide +kernel, rfl⟩
theorem d1_7 : D1 prog_34_method_1_code 7 (.invokestatic 9) 3 10 := ⟨by decide +kernel, rfl⟩
theorem d1_10 : D1 prog_34_method_1_code 10 (.pop) 1 11 := ⟨by decide +kernel, rfl⟩
theorem d1_11 : D1 prog_34_method_1_code 11 (.iload_n 1) 1 12 := ⟨by decide +kernel, rfl⟩
theorem d1_12 : DJ prog_34_method_1_code 12 (.ifCond .gt) 17 15 29 := ⟨by decide +kernel, rfl, rfl⟩
theorem d1_15 : D1 prog_34_method_1_code 15 (.new 15) 3 18 := ⟨by decide +kernel, rfl⟩
theorem d1_18 : D1 prog_34_method_1_code 18 (.dup) 1 19 := ⟨by decide +kernel, rfl⟩
theorem d1_19 : D1 prog_34_method_1_code 19 (.iload_n 1) 1 20 := ⟨by decide +kernel, rfl⟩
theorem d1_20 : D1 prog_34_method_1_code 20 (.invokedynamic 17) 5 25 := ⟨by decide +kernel, rfl⟩
theorem d1_25 : D1 prog_34_method_1_code 25 (.invokespecial 21) 3 28 := ⟨by decide +kernel, rfl⟩
theorem d1_28 : D1 prog_34_method_1_code 28 (.athrow) 1 29 := ⟨by decide +kernel, rfl⟩
theorem d1_29 : D1 prog_34_method_1_code 29 (.dload_n 3) 1 30 := ⟨by decide +kernel, rfl⟩
theorem d1_30 : D1 prog_34_method_1_code 30 (.invokestatic 24) 3 33 := ⟨by decide +kernel, rfl⟩
theorem d1_33 : DJ prog_34_method_1_code 33 (.ifCond .eq) 11 36 44 := ⟨by decide +kernel, rfl, rfl⟩
theorem d1_36 : D1 prog_34_method_1_code 36 (.dload 5) 2 38 := ⟨by decide +kernel, rfl⟩
theorem d1_38 : D1 prog_34_method_1_code 38 (.invokestatic 24) 3 41 := ⟨by decide +kernel, rfl⟩
theorem d1_41 : DJ prog_34_method_1_code 41 (.ifCond .ne) 19 44 60 := ⟨by decide +kernel, rfl, rfl⟩
theorem d1_44 : D1 prog_34_method_1_code 44 (.new 15) 3 47 := ⟨by decide +kernel, rfl⟩
theorem d1_47 : D1 prog_34_method_1_code 47 (.dup) 1 48 := ⟨by decide +kernel, rfl⟩
theorem d1_48 : D1 prog_34_method_1_code 48 (.dload_n 3) 1 49 := ⟨by decide +kernel, rfl⟩
theorem d1_49 : D1 prog_34_method_1_code 49 (.dload 5) 2 51 := ⟨by decide +kernel, rfl⟩
theorem d1_51 : D1 prog_34_method_1_code 51 (.invokedynamic 30) 5 56 := ⟨by decide +kernel, rfl⟩
theorem d1_56 : D1 prog_34_method_1_code 56 (.invokespecial 21) 3 59 := ⟨by decide +kernel, rfl⟩
theorem d1_59 : D1 prog_34_method_1_code 59 (.athrow) 1 60 := ⟨by decide +kernel, rfl⟩
theorem d1_60 : D1 prog_34_method_1_code 60 (.iload 7) 2 62 := ⟨by decide +kernel, rfl⟩
theorem d1_62 : DJ prog_34_method_1_code 62 (.ifCond .gt) 18 65 80 := ⟨by decide +kernel, rfl, rfl⟩
theorem d1_65 : D1 prog_34_method_1_code 65 (.new 15) 3 68 := ⟨by decide +kernel, rfl⟩
theorem d1_68 : D1 prog_34_method_1_code 68 (.dup) 1 69 := ⟨by decide +kernel, rfl⟩
theorem d1_69 : D1 prog_34_method_1_code 69 (.iload 7) 2 71 := ⟨by decide +kernel, rfl⟩
theorem d1_71 : D1 prog_34_method_1_code 71 (.invokedynamic 33) 5 76 := ⟨by decide +kernel, rfl⟩
theorem d1_76 : D1 prog_34_method_1_code 76 (.invokespecial 21) 3 79 := ⟨by decide +kernel, rfl⟩
theorem d1_79 : D1 prog_34_method_1_code 79 (.athrow) 1 80 := ⟨by decide +kernel, rfl⟩
theorem d1_80 : D1 prog_34_method_1_code 80 (.iload 8) 2 82 := ⟨by decide +kernel, rfl⟩
theorem d1_82 : DJ prog_34_method_1_code 82 (.ifCond .ge) 18 85 100 := ⟨by decide +kernel, rfl, rfl⟩
theorem d1_85 : D1 prog_34_method_1_code 85 (.new 15) 3 88 := ⟨by decide +kernel, rfl⟩
theorem d1_88 : D1 prog_34_method_1_code 88 (.dup) 1 89 := ⟨by decide +kernel, rfl⟩
theorem d1_89 : D1 prog_34_method_1_code 89 (.iload 8) 2 91 := ⟨by decide +kernel, rfl⟩
theorem d1_91 : D1 prog_34_method_1_code 91 (.invokedynamic 34) 5 96 := ⟨by decide +kernel, rfl⟩
theorem d1_96 : D1 prog_34_method_1_code 96 (.invokespecial 21) 3 99 := ⟨by decide +kernel, rfl⟩
theorem d1_99 : D1 prog_34_method_1_code 99 (.athrow) 1 100 := ⟨by decide +kernel, rfl⟩
theorem d1_100 : D1 prog_34_method_1_code 100 (.aload_n 0) 1 101 := ⟨by decide +kernel, rfl⟩
theorem d1_101 : D1 prog_34_method_1_code 101 (.iload_n 1) 1 102 := ⟨by decide +kernel, rfl⟩
theorem d1_102 : D1 prog_34_method_1_code 102 (.putfield 35) 3 105 := ⟨by decide +kernel, rfl⟩
theorem d1_105 : D1 prog_34_method_1_code 105 (.aload_n 0) 1 106 := ⟨by decide +kernel, rfl⟩
theorem d1_106 : D1 prog_34_method_1_code 106 (.aload_n 2) 1 107 := ⟨by decide +kernel, rfl⟩
theorem d1_107 : D1 prog_34_method_1_code 107 (.putfield 41) 3 110 := ⟨by decide +kernel, rfl⟩
theorem d1_110 : D1 prog_34_method_1_code 110 (.aload_n 0) 1 111 := ⟨by decide +kernel, rfl⟩
theorem d1_111 : D1 prog_34_method_1_code 111 (.dload_n 3) 1 112 := ⟨by decide +kernel, rfl⟩
theorem d1_112 : D1 prog_34_method_1_code 112 (.putfield 44) 3 115 := ⟨by decide +kernel, rfl⟩
theorem d1_115 : D1 prog_34_method_1_code 115 (.aload_n 0) 1 116 := ⟨by decide +kernel, rfl⟩
theorem d1_116 : D1 prog_34_method_1_code 116 (.dload 5) 2 118 := ⟨by decide +kernel, rfl⟩
theorem d1_118 : D1 prog_34_method_1_code 118 (.putfield 48) 3 121 := ⟨by decide +kernel, rfl⟩
theorem d1_121 : D1 prog_34_method_1_code 121 (.aload_n 0) 1 122 := ⟨by decide +kernel, rfl⟩
theorem d1_122 : D1 prog_34_method_1_code 122 (.iload 7) 2 124 := ⟨by decide +kernel, rfl⟩
theorem d1_124 : D1 prog_34_method_1_code 124 (.putfield 51) 3 127 := ⟨by decide +kernel, rfl⟩
theorem d1_127 : D1 prog_34_method_1_code 127 (.aload_n 0) 1 128 := ⟨by decide +kernel, rfl⟩
theorem d1_128 : D1 prog_34_method_1_code 128 (.iload 8) 2 130 := ⟨by decide +kernel, rfl⟩
theorem d1_130 : D1 prog_34_method_1_code 130 (.putfield 54) 3 133 := ⟨by decide +kernel, rfl⟩
theorem d1_133 : D1 prog_34_method_1_code 133 (.return_) 1 134 := ⟨by decide +kernel, rfl⟩
theorem d2_0 : D1 jdk_30_method_1_code 0 (.aload_n 0) 1 1 := ⟨by decide +kernel, rfl⟩
theorem d2_1 : D1 jdk_30_method_1_code 1 (.invokespecial 1) 3 4 := ⟨by decide +kernel, rfl⟩
theorem d2_4 : D1 jdk_30_method_1_code 4 (.return_) 1 5 := ⟨by decide +kernel, rfl⟩
theorem d3_0 : D1 object_method_1_code 0 (.return_) 1 1 := ⟨by decide +kernel, rfl⟩
theorem d4_0 : D1 jdk_31_method_11_code 0 (.aload_n 0) 1 1 := ⟨by decide +kernel, rfl⟩
theorem d4_1 : DJ jdk_31_method_11_code 1 .ifnonnull 12 4 13 := ⟨by decide +kernel, rfl, rfl⟩
theorem d4_4 : D1 jdk_31_method_11_code 4 (.new 84) 3 7 := ⟨by decide +kernel, rfl⟩
theorem d4_7 : D1 jdk_31_method_11_code 7 (.dup) 1 8 := ⟨by decide +kernel, rfl⟩
theorem d4_8 : D1 jdk_31_method_11_code 8 (.aload_n 1) 1 9 := ⟨by decide +kernel, rfl⟩
theorem d4_9 : D1 jdk_31_method_11_code 9 (.invokespecial 87) 3 12 := ⟨by decide +kernel, rfl⟩
theorem d4_12 : D1 jdk_31_method_11_code 12 (.athrow) 1 13 := ⟨by decide +kernel, rfl⟩
theorem d4_13 : D1 jdk_31_method_11_code 13 (.aload_n 0) 1 14 := ⟨by decide +kernel, rfl⟩
theorem d4_14 : D1 jdk_31_method_11_code 14 (.areturn) 1 15 := ⟨by decide +kernel, rfl⟩
theorem d5_0 : D1 jdk_117_method_8_code 0 (.dload_n 0) 1 1 := ⟨by decide +kernel, rfl⟩
theorem d5_1 : D1 jdk_117_method_8_code 1 (.invokestatic 38) 3 4 := ⟨by decide +kernel, rfl⟩
theorem d5_4 : D1 jdk_117_method_8_code 4 (.ldc2_w 111) 3 7 := ⟨by decide +kernel, rfl⟩
theorem d5_7 : D1 jdk_117_method_8_code 7 (.dcmp .g) 1 8 := ⟨by decide +kernel, rfl⟩
theorem d5_8 : DJ jdk_117_method_8_code 8 (.ifCond .gt) 7 11 15 := ⟨by decide +kernel, rfl, rfl⟩
theorem d5_11 : D1 jdk_117_method_8_code 11 (.iconst 1) 1 12 := ⟨by decide +kernel, rfl⟩
theorem d5_12 : DJ jdk_117_method_8_code 12 .goto 4 15 16 := ⟨by decide +kernel, rfl, rfl⟩
theorem d5_15 : D1 jdk_117_method_8_code 15 (.iconst 0) 1 16 := ⟨by decide +kernel, rfl⟩
theorem d5_16 : D1 jdk_117_method_8_code 16 (.ireturn) 1 17 := ⟨by decide +kernel, rfl⟩
theorem d6_0 : D1 jdk_29_method_64_code 0 (.dload_n 0) 1 1 := ⟨by decide +kernel, rfl⟩
theorem d6_1 : D1 jdk_29_method_64_code 1 (.invokestatic 79) 3 4 := ⟨by decide +kernel, rfl⟩
theorem d6_4 : D1 jdk_29_method_64_code 4 (.ldc2_w 135) 3 7 := ⟨by decide +kernel, rfl⟩
theorem d6_7 : D1 jdk_29_method_64_code 7 (.land) 1 8 := ⟨by decide +kernel, rfl⟩
theorem d6_8 : D1 jdk_29_method_64_code 8 (.invokestatic 166) 3 11 := ⟨by decide +kernel, rfl⟩
theorem d6_11 : D1 jdk_29_method_64_code 11 (.dreturn) 1 12 := ⟨by decide +kernel, rfl⟩
theorem d7_0 : D1 prog_32_method_1_code 0 (.aload_n 0) 1 1 := ⟨by decide +kernel, rfl⟩
theorem d7_1 : D1 prog_32_method_1_code 1 (.invokespecial 1) 3 4 := ⟨by decide +kernel, rfl⟩
theorem d7_4 : D1 prog_32_method_1_code 4 (.aload_n 1) 1 5 := ⟨by decide +kernel, rfl⟩
theorem d7_5 : D1 prog_32_method_1_code 5 (.invokevirtual 7) 3 8 := ⟨by decide +kernel, rfl⟩
theorem d7_8 : D1 prog_32_method_1_code 8 (.getstatic 13) 3 11 := ⟨by decide +kernel, rfl⟩
theorem d7_11 : DJ prog_32_method_1_code 11 (.if_acmp .ne) 13 14 24 := ⟨by decide +kernel, rfl, rfl⟩
theorem d7_14 : D1 prog_32_method_1_code 14 (.aload_n 2) 1 15 := ⟨by decide +kernel, rfl⟩
theorem d7_15 : D1 prog_32_method_1_code 15 (.invokevirtual 7) 3 18 := ⟨by decide +kernel, rfl⟩
theorem d7_18 : D1 prog_32_method_1_code 18 (.getstatic 19) 3 21 := ⟨by decide +kernel, rfl⟩
theorem d7_21 : DJ prog_32_method_1_code 21 (.if_acmp .eq) 38 24 59 := ⟨by decide +kernel, rfl, rfl⟩
theorem d7_24 : D1 prog_32_method_1_code 24 (.new 22) 3 27 := ⟨by decide +kernel, rfl⟩
theorem d7_27 : D1 prog_32_method_1_code 27 (.dup) 1 28 := ⟨by decide +kernel, rfl⟩
theorem d7_28 : D1 prog_32_method_1_code 28 (.aload_n 1) 1 29 := ⟨by decide +kernel, rfl⟩
theorem d7_29 : D1 prog_32_method_1_code 29 (.invokevirtual 7) 3 32 := ⟨by decide +kernel, rfl⟩
theorem d7_32 : D1 prog_32_method_1_code 32 (.invokestatic 24) 3 35 := ⟨by decide +kernel, rfl⟩
theorem d7_35 : D1 prog_32_method_1_code 35 (.aload_n 1) 1 36 := ⟨by decide +kernel, rfl⟩
theorem d7_36 : D1 prog_32_method_1_code 36 (.invokevirtual 30) 3 39 := ⟨by decide +kernel, rfl⟩
theorem d7_39 : D1 prog_32_method_1_code 39 (.aload_n 2) 1 40 := ⟨by decide +kernel, rfl⟩
theorem d7_40 : D1 prog_32_method_1_code 40 (.invokevirtual 7) 3 43 := ⟨by decide +kernel, rfl⟩
theorem d7_43 : D1 prog_32_method_1_code 43 (.invokestatic 24) 3 46 := ⟨by decide +kernel, rfl⟩
theorem d7_46 : D1 prog_32_method_1_code 46 (.aload_n 2) 1 47 := ⟨by decide +kernel, rfl⟩
theorem d7_47 : D1 prog_32_method_1_code 47 (.invokevirtual 30) 3 50 := ⟨by decide +kernel, rfl⟩
theorem d7_50 : D1 prog_32_method_1_code 50 (.invokedynamic 34) 5 55 := ⟨by decide +kernel, rfl⟩
theorem d7_55 : D1 prog_32_method_1_code 55 (.invokespecial 38) 3 58 := ⟨by decide +kernel, rfl⟩
theorem d7_58 : D1 prog_32_method_1_code 58 (.athrow) 1 59 := ⟨by decide +kernel, rfl⟩
theorem d7_59 : D1 prog_32_method_1_code 59 (.aload_n 0) 1 60 := ⟨by decide +kernel, rfl⟩
theorem d7_60 : D1 prog_32_method_1_code 60 (.aload_n 1) 1 61 := ⟨by decide +kernel, rfl⟩
theorem d7_61 : D1 prog_32_method_1_code 61 (.putfield 41) 3 64 := ⟨by decide +kernel, rfl⟩
theorem d7_64 : D1 prog_32_method_1_code 64 (.aload_n 0) 1 65 := ⟨by decide +kernel, rfl⟩
theorem d7_65 : D1 prog_32_method_1_code 65 (.aload_n 2) 1 66 := ⟨by decide +kernel, rfl⟩
theorem d7_66 : D1 prog_32_method_1_code 66 (.putfield 47) 3 69 := ⟨by decide +kernel, rfl⟩
theorem d7_69 : D1 prog_32_method_1_code 69 (.return_) 1 70 := ⟨by decide +kernel, rfl⟩
theorem d8_0 : D1 prog_34_method_7_code 0 (.aload_n 0) 1 1 := ⟨by decide +kernel, rfl⟩
theorem d8_1 : D1 prog_34_method_7_code 1 (.getfield 41) 3 4 := ⟨by decide +kernel, rfl⟩
theorem d8_4 : D1 prog_34_method_7_code 4 (.areturn) 1 5 := ⟨by decide +kernel, rfl⟩
theorem d9_0 : D1 prog_32_method_2_code 0 (.aload_n 0) 1 1 := ⟨by decide +kernel, rfl⟩
theorem d9_1 : D1 prog_32_method_2_code 1 (.getfield 41) 3 4 := ⟨by decide +kernel, rfl⟩
theorem d9_4 : D1 prog_32_method_2_code 4 (.invokevirtual 50) 3 7 := ⟨by decide +kernel, rfl⟩
theorem d9_7 : D1 prog_32_method_2_code 7 (.aload_n 0) 1 8 := ⟨by decide +kernel, rfl⟩
theorem d9_8 : D1 prog_32_method_2_code 8 (.getfield 47) 3 11 := ⟨by decide +kernel, rfl⟩
theorem d9_11 : D1 prog_32_method_2_code 11 (.invokevirtual 50) 3 14 := ⟨by decide +kernel, rfl⟩
theorem d9_14 : D1 prog_32_method_2_code 14 (.isub) 1 15 := ⟨by decide +kernel, rfl⟩
theorem d9_15 : D1 prog_32_method_2_code 15 (.ireturn) 1 16 := ⟨by decide +kernel, rfl⟩
theorem d10_0 : D1 prog_34_method_11_code 0 (.aload_n 0) 1 1 := ⟨by decide +kernel, rfl⟩
theorem d10_1 : D1 prog_34_method_11_code 1 (.getfield 54) 3 4 := ⟨by decide +kernel, rfl⟩
theorem d10_4 : D1 prog_34_method_11_code 4 (.ireturn) 1 5 := ⟨by decide +kernel, rfl⟩

abbrev QPure (r : Option Value) (h0 : Heap) (v : Option Value) (h : Heap) (F : List Addr) : Prop := v = r ∧ h = h0
set_option maxRecDepth 65536 in
set_option maxHeartbeats 4000000 in
theorem rm_rec (l : Launch) (Z : State) (a0 : Array Value) (hw : ∀ d ∈ tables_1, d.before a0 Z = true) (n0 : Nat) (h0 : Heap) (hO : Old Z n0 h0) (a : Addr) :
    Met l Z [] n0 [] (⟨"java/lang/Record", "<init>", "()V"⟩ : MethodName) jdk_30_method_1_code 1 none ({ frames := 1, cells := 0, slots := 0, locals := 12 } : Room) #[.ref a] [] h0 (QPure none h0) := by
  have hEL := own_EW hw
  have hn0 : n0 ≤ h0.size := hO.1 ▸ hO.2.1
  refine Met.of (by decide +kernel) hEL hO (Ls := #[.val (.ref a)]) (fun m => by first | (simp [entryFrame, mkF, argsToLocals, Value.category]; done) | rfl) ?_
  refine WP.aload_n d2_0 rfl rfl ?_
  refine WP.initObject d2_1 (hw _ (List.mem_of_getElem? (i := 16) rfl)) (hw _ (List.mem_of_getElem? (i := 17) rfl)) (hw _ (List.mem_of_getElem? (i := 18) rfl)) rfl (nle rfl) (nle rfl) ?_
  exact WP.return_ d2_4 rfl (by decide) (by decide) (G := []) (fun _ q => nomatch q) ⟨rfl, rfl⟩
set_option maxRecDepth 65536 in
set_option maxHeartbeats 4000000 in
theorem rm_rnn (l : Launch) (Z : State) (a0 : Array Value) (hw : ∀ d ∈ tables_1, d.before a0 Z = true) (n0 : Nat) (h0 : Heap) (hO : Old Z n0 h0) (a b : Addr) :
    Met l Z [] n0 [] (⟨"java/util/Objects", "requireNonNull", "(Ljava/lang/Object;Ljava/lang/String;)Ljava/lang/Object;"⟩ : MethodName) jdk_31_method_11_code 2 (some (.object "java/lang/Object")) ({ frames := 0, cells := 0, slots := 0, locals := 0 } : Room) #[.ref a, .ref b] [] h0 (QPure (some (.ref a)) h0) := by
  have hEL := own_EW hw
  have hn0 : n0 ≤ h0.size := hO.1 ▸ hO.2.1
  refine Met.of (by decide +kernel) hEL hO (Ls := #[.val (.ref a), .val (.ref b)]) (fun m => by first | (simp [entryFrame, mkF, argsToLocals, Value.category]; done) | rfl) ?_
  refine WP.aload_n d4_0 rfl rfl ?_
  refine WP.ifnonnull d4_1 rfl (fun _ _ => ?_) (fun q => nomatch q)
  refine WP.aload_n d4_13 rfl rfl ?_
  exact WP.areturn d4_14 rfl rfl rfl (by decide) (by decide) (G := []) (fun _ q => nomatch q) ⟨rfl, rfl⟩
def FinOK (x : UInt64) : Prop := x &&& 0x7fffffffffffffff ≤ 0x7ff0000000000000 ∧ cmpValue (FP.dcmp (x &&& 0x7fffffffffffffff) 9218868437227405311) .g = -1
set_option maxRecDepth 65536 in
set_option maxHeartbeats 4000000 in
theorem rm_fin (l : Launch) (Z : State) (a0 : Array Value) (hw : ∀ d ∈ tables_1, d.before a0 Z = true) (n0 : Nat) (h0 : Heap) (hO : Old Z n0 h0) (x : UInt64) (hx : FinOK x) :
    Met l Z [] n0 [] (⟨"java/lang/Double", "isFinite", "(D)Z"⟩ : MethodName) jdk_117_method_8_code 2 (some .boolean) ({ frames := 1, cells := 0, slots := 0, locals := 13 } : Room) #[.double x] [] h0 (QPure (some (.int 1)) h0) := by
  have hEL := own_EW hw
  have hn0 : n0 ≤ h0.size := hO.1 ▸ hO.2.1
  refine Met.of (by decide +kernel) hEL hO (Ls := #[.val (.double x), .second]) (fun m => by first | (simp [entryFrame, mkF, argsToLocals, Value.category]; done) | rfl) ?_
  refine WP.dload_n d5_0 rfl ?_
  refine WP.absD d5_1 (hw _ (List.mem_of_getElem? (i := 35) rfl)) (hw _ (List.mem_of_getElem? (i := 36) rfl)) (hw _ (List.mem_of_getElem? (i := 37) rfl)) (hw _ (List.mem_of_getElem? (i := 38) rfl)) hx.1 rfl rfl (by decide) (by decide) (by decide) (by decide) ?_
  refine WP.ldc2D d5_4 (hw _ (List.mem_of_getElem? (i := 39) rfl)) ?_
  refine WP.dcmp d5_7 hx.2 ?_
  refine WP.if_gt d5_8 (fun hc8 => False.elim (absurd hc8 (by decide))) (fun hc8 => ?_)
  refine WP.iconst d5_11 (v := (1 : Int32)) rfl ?_
  refine WP.goto d5_12 ?_
  exact WP.ireturn d5_16 rfl (t := .boolean) (by simp) rfl (by decide) (by decide) (G := []) (fun _ q => nomatch q) ⟨rfl, rfl⟩
abbrev QPa (Z : State) (a r : Addr) (pr : Int32) (h0 : Heap) (v : Option Value) (h : Heap) (F : List Addr) : Prop := v = none ∧ Keep h0 h [a] ∧ Exa Z h a "com/example/nearbid/nearbid/market/Participant" ∧ Fld Z h a "com/example/nearbid/nearbid/market/Participant" "role" "Lcom/example/nearbid/nearbid/market/Role;" (.ref r) ∧ Fld Z h a "com/example/nearbid/nearbid/market/Participant" "price" "I" (.int pr)
set_option maxRecDepth 65536 in
set_option maxHeartbeats 4000000 in
theorem rm_pi (l : Launch) (Z : State) (a0 : Array Value) (hw : ∀ d ∈ tables_1, d.before a0 Z = true) (n0 : Nat) (h0 : Heap) (hO : Old Z n0 h0) (a r : Addr) (id u pr : Int32) (x y : UInt64) (hid : 0 < id) (hu : 0 < u) (hpr : ¬ pr < 0) (hx : FinOK x) (hy : FinOK y) (E : Exa Z h0 a "com/example/nearbid/nearbid/market/Participant") (na : n0 ≤ a) (Fi : Fld Z h0 a "com/example/nearbid/nearbid/market/Participant" "id" "I" (.int 0)) (Fr : Fld Z h0 a "com/example/nearbid/nearbid/market/Participant" "role" "Lcom/example/nearbid/nearbid/market/Role;" .null) (Fx : Fld Z h0 a "com/example/nearbid/nearbid/market/Participant" "x" "D" (.double 0)) (Fy : Fld Z h0 a "com/example/nearbid/nearbid/market/Participant" "y" "D" (.double 0)) (Fu : Fld Z h0 a "com/example/nearbid/nearbid/market/Participant" "units" "I" (.int 0)) (Fp : Fld Z h0 a "com/example/nearbid/nearbid/market/Participant" "price" "I" (.int 0)) :
    Met l Z [] n0 [] (⟨"com/example/nearbid/nearbid/market/Participant", "<init>", "(ILcom/example/nearbid/nearbid/market/Role;DDII)V"⟩ : MethodName) prog_34_method_1_code 9 none ({ frames := 2, cells := 2, slots := 20, locals := 40 } : Room) #[.ref a, .int id, .ref r, .double x, .double y, .int u, .int pr] [] h0 (QPa Z a r pr h0) := by
  have hEL := own_EW hw
  have hn0 : n0 ≤ h0.size := hO.1 ▸ hO.2.1
  refine Met.of (by decide +kernel) hEL hO (Ls := #[.val (.ref a), .val (.int id), .val (.ref r), .val (.double x), .second, .val (.double y), .second, .val (.int u), .val (.int pr)]) (fun m => by first | (simp [entryFrame, mkF, argsToLocals, Value.category]; done) | rfl) ?_
  have K : Keep h0 h0 [a] := Keep.refl _ _
  refine WP.aload_n d1_0 rfl rfl ?_
  refine WP.special (a := a) (argsL := []) (rest := []) d1_1 (rm_rec l Z a0 hw n0 h0 hO a) rfl (hw _ (List.mem_of_getElem? (i := 11) rfl)) (hw _ (List.mem_of_getElem? (i := 12) rfl)) (hw _ (List.mem_of_getElem? (i := 14) rfl)) (hw _ (List.mem_of_getElem? (i := 15) rfl)) (by decide) pd_1 rfl rfl rfl (nle rfl) (nle rfl) (nle rfl) (nle rfl) (fun _ q => nomatch q) (fun v h1 F' hq szh1 => ?_)
  obtain ⟨rfl, rfl⟩ := hq
  refine WP.aload_n d1_4 rfl rfl ?_
  refine WP.ldcO (n := 16) d1_5 hEL (hw _ (List.mem_of_getElem? (i := 19) rfl)) (own_wS hw) (by decide) (by decide) (by decide) (by decide) (fun h2 s3 Eh2 => ?_)
  have E := E.ext Eh2
  have K := K.ext Eh2
  have hO := hO.ext Eh2
  have Fi := Fi.ext Eh2
  have Fr := Fr.ext Eh2
  have Fx := Fx.ext Eh2
  have Fy := Fy.ext Eh2
  have Fu := Fu.ext Eh2
  have Fp := Fp.ext Eh2
  have zEh2 := Eh2.1
  refine WP.static (argsL := [(.ref r), (.ref s3)]) (rest := []) d1_7 (rm_rnn l Z a0 hw n0 h2 hO r s3) (hw _ (List.mem_of_getElem? (i := 27) rfl)) (hw _ (List.mem_of_getElem? (i := 28) rfl)) (hw _ (List.mem_of_getElem? (i := 29) rfl)) (hw _ (List.mem_of_getElem? (i := 30) rfl)) (by decide) pd_2 rfl rfl rfl (nle rfl) (nle rfl) (nle rfl) (nle rfl) (fun _ q => nomatch q) (fun v h4 F' hq szh4 => ?_)
  obtain ⟨rfl, rfl⟩ := hq
  refine WP.pop d1_10 rfl ?_
  refine WP.iload_n d1_11 rfl ?_
  refine WP.if_gt d1_12 (fun hc12 => ?_) (fun hc12 => False.elim (hc12 hid))
  refine WP.dload_n d1_29 rfl ?_
  refine WP.static (argsL := [(.double x)]) (rest := []) d1_30 (rm_fin l Z a0 hw n0 h4 hO x hx) (hw _ (List.mem_of_getElem? (i := 31) rfl)) (hw _ (List.mem_of_getElem? (i := 32) rfl)) (hw _ (List.mem_of_getElem? (i := 33) rfl)) (hw _ (List.mem_of_getElem? (i := 34) rfl)) (by decide) pd_3 rfl rfl rfl (nle rfl) (nle rfl) (nle rfl) (nle rfl) (fun _ q => nomatch q) (fun v h5 F' hq szh5 => ?_)
  obtain ⟨rfl, rfl⟩ := hq
  refine WP.if_eq d1_33 (fun hc33 => False.elim (absurd hc33 (by decide))) (fun hc33 => ?_)
  refine WP.dload d1_36 rfl ?_
  refine WP.static (argsL := [(.double y)]) (rest := []) d1_38 (rm_fin l Z a0 hw n0 h5 hO y hy) (hw _ (List.mem_of_getElem? (i := 31) rfl)) (hw _ (List.mem_of_getElem? (i := 32) rfl)) (hw _ (List.mem_of_getElem? (i := 33) rfl)) (hw _ (List.mem_of_getElem? (i := 34) rfl)) (by decide) pd_3 rfl rfl rfl (nle rfl) (nle rfl) (nle rfl) (nle rfl) (fun _ q => nomatch q) (fun v h6 F' hq szh6 => ?_)
  obtain ⟨rfl, rfl⟩ := hq
  refine WP.if_ne d1_41 (fun hc41 => ?_) (fun hc41 => False.elim (absurd hc41 (by decide)))
  refine WP.iload d1_60 rfl ?_
  refine WP.if_gt d1_62 (fun hc62 => ?_) (fun hc62 => False.elim (hc62 hu))
  refine WP.iload d1_80 rfl ?_
  refine WP.if_ge d1_82 (fun hc82 => ?_) (fun hc82 => False.elim (hpr hc82))
  refine WP.aload_n d1_100 rfl rfl ?_
  refine WP.iload_n d1_101 rfl ?_
  refine WP.putfield (host := "") d1_102 (Or.inl (hw _ (List.mem_of_getElem? (i := 40) rfl))) Via.refl Fi E (Or.inr ⟨(hw _ (List.mem_of_getElem? (i := 41) rfl)), rfl, rfl⟩) (hw _ (List.mem_of_getElem? (i := 3) rfl)) (ty := .int) (by decide) rfl rfl (by omega) (SafeBy.exa E) (fun h7 W8 => ?_)
  have zW8 := W8.size
  have E := E.wr W8
  have K := K.wr W8 (Or.inl (by simp))
  have hO := hO.wr W8 (by omega)
  have Fi := Fi.same W8
  have Fr := Fr.other W8 (Or.inr (slot_ne (Or.inr (hw _ (List.mem_of_getElem? (i := 43) rfl))) (Or.inr (hw _ (List.mem_of_getElem? (i := 41) rfl))) (by decide) (t := (.object "com/example/nearbid/nearbid/market/Role")) (t' := .int) (by decide) (by decide)))
  have Fx := Fx.other W8 (Or.inr (slot_ne (Or.inr (hw _ (List.mem_of_getElem? (i := 45) rfl))) (Or.inr (hw _ (List.mem_of_getElem? (i := 41) rfl))) (by decide) (t := .double) (t' := .int) (by decide) (by decide)))
  have Fy := Fy.other W8 (Or.inr (slot_ne (Or.inr (hw _ (List.mem_of_getElem? (i := 47) rfl))) (Or.inr (hw _ (List.mem_of_getElem? (i := 41) rfl))) (by decide) (t := .double) (t' := .int) (by decide) (by decide)))
  have Fu := Fu.other W8 (Or.inr (slot_ne (Or.inr (hw _ (List.mem_of_getElem? (i := 49) rfl))) (Or.inr (hw _ (List.mem_of_getElem? (i := 41) rfl))) (by decide) (t := .int) (t' := .int) (by decide) (by decide)))
  have Fp := Fp.other W8 (Or.inr (slot_ne (Or.inr (hw _ (List.mem_of_getElem? (i := 51) rfl))) (Or.inr (hw _ (List.mem_of_getElem? (i := 41) rfl))) (by decide) (t := .int) (t' := .int) (by decide) (by decide)))
  refine WP.aload_n d1_105 rfl rfl ?_
  refine WP.aload_n d1_106 rfl rfl ?_
  refine WP.putfield (host := "") d1_107 (Or.inl (hw _ (List.mem_of_getElem? (i := 42) rfl))) Via.refl Fr E (Or.inr ⟨(hw _ (List.mem_of_getElem? (i := 43) rfl)), rfl, rfl⟩) (hw _ (List.mem_of_getElem? (i := 3) rfl)) (ty := (.object "com/example/nearbid/nearbid/market/Role")) (by decide) rfl rfl (by omega) (SafeBy.exa E) (fun h9 W10 => ?_)
  have zW10 := W10.size
  have E := E.wr W10
  have K := K.wr W10 (Or.inl (by simp))
  have hO := hO.wr W10 (by omega)
  have Fi := Fi.other W10 (Or.inr (slot_ne (Or.inr (hw _ (List.mem_of_getElem? (i := 41) rfl))) (Or.inr (hw _ (List.mem_of_getElem? (i := 43) rfl))) (by decide) (t := .int) (t' := (.object "com/example/nearbid/nearbid/market/Role")) (by decide) (by decide)))
  have Fr := Fr.same W10
  have Fx := Fx.other W10 (Or.inr (slot_ne (Or.inr (hw _ (List.mem_of_getElem? (i := 45) rfl))) (Or.inr (hw _ (List.mem_of_getElem? (i := 43) rfl))) (by decide) (t := .double) (t' := (.object "com/example/nearbid/nearbid/market/Role")) (by decide) (by decide)))
  have Fy := Fy.other W10 (Or.inr (slot_ne (Or.inr (hw _ (List.mem_of_getElem? (i := 47) rfl))) (Or.inr (hw _ (List.mem_of_getElem? (i := 43) rfl))) (by decide) (t := .double) (t' := (.object "com/example/nearbid/nearbid/market/Role")) (by decide) (by decide)))
  have Fu := Fu.other W10 (Or.inr (slot_ne (Or.inr (hw _ (List.mem_of_getElem? (i := 49) rfl))) (Or.inr (hw _ (List.mem_of_getElem? (i := 43) rfl))) (by decide) (t := .int) (t' := (.object "com/example/nearbid/nearbid/market/Role")) (by decide) (by decide)))
  have Fp := Fp.other W10 (Or.inr (slot_ne (Or.inr (hw _ (List.mem_of_getElem? (i := 51) rfl))) (Or.inr (hw _ (List.mem_of_getElem? (i := 43) rfl))) (by decide) (t := .int) (t' := (.object "com/example/nearbid/nearbid/market/Role")) (by decide) (by decide)))
  refine WP.aload_n d1_110 rfl rfl ?_
  refine WP.dload_n d1_111 rfl ?_
  refine WP.putfield (host := "") d1_112 (Or.inl (hw _ (List.mem_of_getElem? (i := 44) rfl))) Via.refl Fx E (Or.inr ⟨(hw _ (List.mem_of_getElem? (i := 45) rfl)), rfl, rfl⟩) (hw _ (List.mem_of_getElem? (i := 3) rfl)) (ty := .double) (by decide) rfl rfl (by omega) (SafeBy.exa E) (fun h11 W12 => ?_)
  have zW12 := W12.size
  have E := E.wr W12
  have K := K.wr W12 (Or.inl (by simp))
  have hO := hO.wr W12 (by omega)
  have Fi := Fi.other W12 (Or.inr (slot_ne (Or.inr (hw _ (List.mem_of_getElem? (i := 41) rfl))) (Or.inr (hw _ (List.mem_of_getElem? (i := 45) rfl))) (by decide) (t := .int) (t' := .double) (by decide) (by decide)))
  have Fr := Fr.other W12 (Or.inr (slot_ne (Or.inr (hw _ (List.mem_of_getElem? (i := 43) rfl))) (Or.inr (hw _ (List.mem_of_getElem? (i := 45) rfl))) (by decide) (t := (.object "com/example/nearbid/nearbid/market/Role")) (t' := .double) (by decide) (by decide)))
  have Fx := Fx.same W12
  have Fy := Fy.other W12 (Or.inr (slot_ne (Or.inr (hw _ (List.mem_of_getElem? (i := 47) rfl))) (Or.inr (hw _ (List.mem_of_getElem? (i := 45) rfl))) (by decide) (t := .double) (t' := .double) (by decide) (by decide)))
  have Fu := Fu.other W12 (Or.inr (slot_ne (Or.inr (hw _ (List.mem_of_getElem? (i := 49) rfl))) (Or.inr (hw _ (List.mem_of_getElem? (i := 45) rfl))) (by decide) (t := .int) (t' := .double) (by decide) (by decide)))
  have Fp := Fp.other W12 (Or.inr (slot_ne (Or.inr (hw _ (List.mem_of_getElem? (i := 51) rfl))) (Or.inr (hw _ (List.mem_of_getElem? (i := 45) rfl))) (by decide) (t := .int) (t' := .double) (by decide) (by decide)))
  refine WP.aload_n d1_115 rfl rfl ?_
  refine WP.dload d1_116 rfl ?_
  refine WP.putfield (host := "") d1_118 (Or.inl (hw _ (List.mem_of_getElem? (i := 46) rfl))) Via.refl Fy E (Or.inr ⟨(hw _ (List.mem_of_getElem? (i := 47) rfl)), rfl, rfl⟩) (hw _ (List.mem_of_getElem? (i := 3) rfl)) (ty := .double) (by decide) rfl rfl (by omega) (SafeBy.exa E) (fun h13 W14 => ?_)
  have zW14 := W14.size
  have E := E.wr W14
  have K := K.wr W14 (Or.inl (by simp))
  have hO := hO.wr W14 (by omega)
  have Fi := Fi.other W14 (Or.inr (slot_ne (Or.inr (hw _ (List.mem_of_getElem? (i := 41) rfl))) (Or.inr (hw _ (List.mem_of_getElem? (i := 47) rfl))) (by decide) (t := .int) (t' := .double) (by decide) (by decide)))
  have Fr := Fr.other W14 (Or.inr (slot_ne (Or.inr (hw _ (List.mem_of_getElem? (i := 43) rfl))) (Or.inr (hw _ (List.mem_of_getElem? (i := 47) rfl))) (by decide) (t := (.object "com/example/nearbid/nearbid/market/Role")) (t' := .double) (by decide) (by decide)))
  have Fx := Fx.other W14 (Or.inr (slot_ne (Or.inr (hw _ (List.mem_of_getElem? (i := 45) rfl))) (Or.inr (hw _ (List.mem_of_getElem? (i := 47) rfl))) (by decide) (t := .double) (t' := .double) (by decide) (by decide)))
  have Fy := Fy.same W14
  have Fu := Fu.other W14 (Or.inr (slot_ne (Or.inr (hw _ (List.mem_of_getElem? (i := 49) rfl))) (Or.inr (hw _ (List.mem_of_getElem? (i := 47) rfl))) (by decide) (t := .int) (t' := .double) (by decide) (by decide)))
  have Fp := Fp.other W14 (Or.inr (slot_ne (Or.inr (hw _ (List.mem_of_getElem? (i := 51) rfl))) (Or.inr (hw _ (List.mem_of_getElem? (i := 47) rfl))) (by decide) (t := .int) (t' := .double) (by decide) (by decide)))
  refine WP.aload_n d1_121 rfl rfl ?_
  refine WP.iload d1_122 rfl ?_
  refine WP.putfield (host := "") d1_124 (Or.inl (hw _ (List.mem_of_getElem? (i := 48) rfl))) Via.refl Fu E (Or.inr ⟨(hw _ (List.mem_of_getElem? (i := 49) rfl)), rfl, rfl⟩) (hw _ (List.mem_of_getElem? (i := 3) rfl)) (ty := .int) (by decide) rfl rfl (by omega) (SafeBy.exa E) (fun h15 W16 => ?_)
  have zW16 := W16.size
  have E := E.wr W16
  have K := K.wr W16 (Or.inl (by simp))
  have hO := hO.wr W16 (by omega)
  have Fi := Fi.other W16 (Or.inr (slot_ne (Or.inr (hw _ (List.mem_of_getElem? (i := 41) rfl))) (Or.inr (hw _ (List.mem_of_getElem? (i := 49) rfl))) (by decide) (t := .int) (t' := .int) (by decide) (by decide)))
  have Fr := Fr.other W16 (Or.inr (slot_ne (Or.inr (hw _ (List.mem_of_getElem? (i := 43) rfl))) (Or.inr (hw _ (List.mem_of_getElem? (i := 49) rfl))) (by decide) (t := (.object "com/example/nearbid/nearbid/market/Role")) (t' := .int) (by decide) (by decide)))
  have Fx := Fx.other W16 (Or.inr (slot_ne (Or.inr (hw _ (List.mem_of_getElem? (i := 45) rfl))) (Or.inr (hw _ (List.mem_of_getElem? (i := 49) rfl))) (by decide) (t := .double) (t' := .int) (by decide) (by decide)))
  have Fy := Fy.other W16 (Or.inr (slot_ne (Or.inr (hw _ (List.mem_of_getElem? (i := 47) rfl))) (Or.inr (hw _ (List.mem_of_getElem? (i := 49) rfl))) (by decide) (t := .double) (t' := .int) (by decide) (by decide)))
  have Fu := Fu.same W16
  have Fp := Fp.other W16 (Or.inr (slot_ne (Or.inr (hw _ (List.mem_of_getElem? (i := 51) rfl))) (Or.inr (hw _ (List.mem_of_getElem? (i := 49) rfl))) (by decide) (t := .int) (t' := .int) (by decide) (by decide)))
  refine WP.aload_n d1_127 rfl rfl ?_
  refine WP.iload d1_128 rfl ?_
  refine WP.putfield (host := "") d1_130 (Or.inl (hw _ (List.mem_of_getElem? (i := 50) rfl))) Via.refl Fp E (Or.inr ⟨(hw _ (List.mem_of_getElem? (i := 51) rfl)), rfl, rfl⟩) (hw _ (List.mem_of_getElem? (i := 3) rfl)) (ty := .int) (by decide) rfl rfl (by omega) (SafeBy.exa E) (fun h17 W18 => ?_)
  have zW18 := W18.size
  have E := E.wr W18
  have K := K.wr W18 (Or.inl (by simp))
  have hO := hO.wr W18 (by omega)
  have Fi := Fi.other W18 (Or.inr (slot_ne (Or.inr (hw _ (List.mem_of_getElem? (i := 41) rfl))) (Or.inr (hw _ (List.mem_of_getElem? (i := 51) rfl))) (by decide) (t := .int) (t' := .int) (by decide) (by decide)))
  have Fr := Fr.other W18 (Or.inr (slot_ne (Or.inr (hw _ (List.mem_of_getElem? (i := 43) rfl))) (Or.inr (hw _ (List.mem_of_getElem? (i := 51) rfl))) (by decide) (t := (.object "com/example/nearbid/nearbid/market/Role")) (t' := .int) (by decide) (by decide)))
  have Fx := Fx.other W18 (Or.inr (slot_ne (Or.inr (hw _ (List.mem_of_getElem? (i := 45) rfl))) (Or.inr (hw _ (List.mem_of_getElem? (i := 51) rfl))) (by decide) (t := .double) (t' := .int) (by decide) (by decide)))
  have Fy := Fy.other W18 (Or.inr (slot_ne (Or.inr (hw _ (List.mem_of_getElem? (i := 47) rfl))) (Or.inr (hw _ (List.mem_of_getElem? (i := 51) rfl))) (by decide) (t := .double) (t' := .int) (by decide) (by decide)))
  have Fu := Fu.other W18 (Or.inr (slot_ne (Or.inr (hw _ (List.mem_of_getElem? (i := 49) rfl))) (Or.inr (hw _ (List.mem_of_getElem? (i := 51) rfl))) (by decide) (t := .int) (t' := .int) (by decide) (by decide)))
  have Fp := Fp.same W18
  exact WP.return_ d1_133 rfl (by decide) (by decide) (G := []) (fun _ q => nomatch q) ⟨rfl, K, E, Fr, Fp⟩
set_option maxRecDepth 65536 in
set_option maxHeartbeats 4000000 in
theorem rm_role (l : Launch) (Z : State) (a0 : Array Value) (hw : ∀ d ∈ tables_1, d.before a0 Z = true) (n0 : Nat) (h0 : Heap) (hO : Old Z n0 h0) (a : Addr) (r : Addr) (Fa : Fld Z h0 a "com/example/nearbid/nearbid/market/Participant" "role" "Lcom/example/nearbid/nearbid/market/Role;" (.ref r)) :
    Met l Z [] n0 [] (⟨"com/example/nearbid/nearbid/market/Participant", "role", "()Lcom/example/nearbid/nearbid/market/Role;"⟩ : MethodName) prog_34_method_7_code 1 (some (.object "com/example/nearbid/nearbid/market/Role")) ({ frames := 0, cells := 0, slots := 0, locals := 0 } : Room) #[.ref a] [] h0 (QPure (some (.ref r)) h0) := by
  have hEL := own_EW hw
  have hn0 : n0 ≤ h0.size := hO.1 ▸ hO.2.1
  refine Met.of (by decide +kernel) hEL hO (Ls := #[.val (.ref a)]) (fun m => by first | (simp [entryFrame, mkF, argsToLocals, Value.category]; done) | rfl) ?_
  refine WP.aload_n d8_0 rfl rfl ?_
  refine WP.getfield (host := "") d8_1 (Or.inl (hw _ (List.mem_of_getElem? (i := 42) rfl))) Via.refl Fa ?_
  exact WP.areturn d8_4 rfl rfl rfl (by decide) (by decide) (G := []) (fun _ q => nomatch q) ⟨rfl, rfl⟩
set_option maxRecDepth 65536 in
set_option maxHeartbeats 4000000 in
theorem rm_price (l : Launch) (Z : State) (a0 : Array Value) (hw : ∀ d ∈ tables_1, d.before a0 Z = true) (n0 : Nat) (h0 : Heap) (hO : Old Z n0 h0) (a : Addr) (pr : Int32) (Fa : Fld Z h0 a "com/example/nearbid/nearbid/market/Participant" "price" "I" (.int pr)) :
    Met l Z [] n0 [] (⟨"com/example/nearbid/nearbid/market/Participant", "price", "()I"⟩ : MethodName) prog_34_method_11_code 1 (some .int) ({ frames := 0, cells := 0, slots := 0, locals := 0 } : Room) #[.ref a] [] h0 (QPure (some (.int pr)) h0) := by
  have hEL := own_EW hw
  have hn0 : n0 ≤ h0.size := hO.1 ▸ hO.2.1
  refine Met.of (by decide +kernel) hEL hO (Ls := #[.val (.ref a)]) (fun m => by first | (simp [entryFrame, mkF, argsToLocals, Value.category]; done) | rfl) ?_
  refine WP.aload_n d10_0 rfl rfl ?_
  refine WP.getfield (host := "") d10_1 (Or.inl (hw _ (List.mem_of_getElem? (i := 50) rfl))) Via.refl Fa ?_
  exact WP.ireturn d10_4 rfl (t := .int) (by simp) rfl (by decide) (by decide) (G := []) (fun _ q => nomatch q) ⟨rfl, rfl⟩
abbrev QPi (Z : State) (a b s : Addr) (h0 : Heap) (v : Option Value) (h : Heap) (F : List Addr) : Prop := v = none ∧ Keep h0 h [a] ∧ Exa Z h a "com/example/nearbid/nearbid/market/Pair" ∧ Fld Z h a "com/example/nearbid/nearbid/market/Pair" "buyer" "Lcom/example/nearbid/nearbid/market/Participant;" (.ref b) ∧ Fld Z h a "com/example/nearbid/nearbid/market/Pair" "seller" "Lcom/example/nearbid/nearbid/market/Participant;" (.ref s)
set_option maxRecDepth 65536 in
set_option maxHeartbeats 4000000 in
theorem rm_ci (l : Launch) (Z : State) (a0 : Array Value) (hw : ∀ d ∈ tables_1, d.before a0 Z = true) (n0 : Nat) (h0 : Heap) (hO : Old Z n0 h0) (rb rs : Addr) (hb : Sta Z Z.heap "com/example/nearbid/nearbid/market/Role" "BUYER" "Lcom/example/nearbid/nearbid/market/Role;" (.ref rb)) (hs : Sta Z Z.heap "com/example/nearbid/nearbid/market/Role" "SELLER" "Lcom/example/nearbid/nearbid/market/Role;" (.ref rs)) (a b s : Addr) (E1 : Exa Z h0 b "com/example/nearbid/nearbid/market/Participant") (E2 : Exa Z h0 s "com/example/nearbid/nearbid/market/Participant") (R1 : Fld Z h0 b "com/example/nearbid/nearbid/market/Participant" "role" "Lcom/example/nearbid/nearbid/market/Role;" (.ref rb)) (R2 : Fld Z h0 s "com/example/nearbid/nearbid/market/Participant" "role" "Lcom/example/nearbid/nearbid/market/Role;" (.ref rs)) (E : Exa Z h0 a "com/example/nearbid/nearbid/market/Pair") (na : n0 ≤ a) (F1 : Fld Z h0 a "com/example/nearbid/nearbid/market/Pair" "buyer" "Lcom/example/nearbid/nearbid/market/Participant;" .null) (F2 : Fld Z h0 a "com/example/nearbid/nearbid/market/Pair" "seller" "Lcom/example/nearbid/nearbid/market/Participant;" .null) :
    Met l Z [] n0 [] (⟨"com/example/nearbid/nearbid/market/Pair", "<init>", "(Lcom/example/nearbid/nearbid/market/Participant;Lcom/example/nearbid/nearbid/market/Participant;)V"⟩ : MethodName) prog_32_method_1_code 3 none ({ frames := 2, cells := 0, slots := 0, locals := 40 } : Room) #[.ref a, .ref b, .ref s] [] h0 (QPi Z a b s h0) := by
  have hEL := own_EW hw
  have hn0 : n0 ≤ h0.size := hO.1 ▸ hO.2.1
  refine Met.of (by decide +kernel) hEL hO (Ls := #[.val (.ref a), .val (.ref b), .val (.ref s)]) (fun m => by first | (simp [entryFrame, mkF, argsToLocals, Value.category]; done) | rfl) ?_
  have K : Keep h0 h0 [a] := Keep.refl _ _
  refine WP.aload_n d7_0 rfl rfl ?_
  refine WP.special (a := a) (argsL := []) (rest := []) d7_1 (rm_rec l Z a0 hw n0 h0 hO a) rfl (hw _ (List.mem_of_getElem? (i := 60) rfl)) (hw _ (List.mem_of_getElem? (i := 12) rfl)) (hw _ (List.mem_of_getElem? (i := 14) rfl)) (hw _ (List.mem_of_getElem? (i := 15) rfl)) (by decide) pd_1 rfl rfl rfl (nle rfl) (nle rfl) (nle rfl) (nle rfl) (fun _ q => nomatch q) (fun v h19 F' hq szh19 => ?_)
  obtain ⟨rfl, rfl⟩ := hq
  refine WP.aload_n d7_4 rfl rfl ?_
  refine WP.virtual (a := b) (argsL := []) (rest := []) d7_5 (rm_role l Z a0 hw n0 h19 hO b rb R1) E1 (hw _ (List.mem_of_getElem? (i := 61) rfl)) (hw _ (List.mem_of_getElem? (i := 62) rfl)) (hw _ (List.mem_of_getElem? (i := 63) rfl)) (hw _ (List.mem_of_getElem? (i := 64) rfl)) (hw _ (List.mem_of_getElem? (i := 4) rfl)) (hw _ (List.mem_of_getElem? (i := 65) rfl)) (hw _ (List.mem_of_getElem? (i := 64) rfl)) (by decide) pd_6 rfl rfl rfl (nle rfl) (nle rfl) (nle rfl) (nle rfl) (fun _ q => nomatch q) (fun v h20 F' hq szh20 => ?_)
  obtain ⟨rfl, rfl⟩ := hq
  refine WP.getstatic d7_8 (hw _ (List.mem_of_getElem? (i := 66) rfl)) Via.refl hb ?_
  refine WP.acmp_ne d7_11 rfl rfl (fun hc11 => False.elim (hc11 rfl)) (fun hc11 => ?_)
  refine WP.aload_n d7_14 rfl rfl ?_
  refine WP.virtual (a := s) (argsL := []) (rest := []) d7_15 (rm_role l Z a0 hw n0 h20 hO s rs R2) E2 (hw _ (List.mem_of_getElem? (i := 61) rfl)) (hw _ (List.mem_of_getElem? (i := 62) rfl)) (hw _ (List.mem_of_getElem? (i := 63) rfl)) (hw _ (List.mem_of_getElem? (i := 64) rfl)) (hw _ (List.mem_of_getElem? (i := 4) rfl)) (hw _ (List.mem_of_getElem? (i := 65) rfl)) (hw _ (List.mem_of_getElem? (i := 64) rfl)) (by decide) pd_6 rfl rfl rfl (nle rfl) (nle rfl) (nle rfl) (nle rfl) (fun _ q => nomatch q) (fun v h21 F' hq szh21 => ?_)
  obtain ⟨rfl, rfl⟩ := hq
  refine WP.getstatic d7_18 (hw _ (List.mem_of_getElem? (i := 67) rfl)) Via.refl hs ?_
  refine WP.acmp_eq d7_21 rfl rfl (fun hc21 => ?_) (fun hc21 => False.elim (hc21 rfl))
  refine WP.aload_n d7_59 rfl rfl ?_
  refine WP.aload_n d7_60 rfl rfl ?_
  refine WP.putfield (host := "") d7_61 (Or.inl (hw _ (List.mem_of_getElem? (i := 68) rfl))) Via.refl F1 E (Or.inr ⟨(hw _ (List.mem_of_getElem? (i := 69) rfl)), rfl, rfl⟩) (hw _ (List.mem_of_getElem? (i := 55) rfl)) (ty := (.object "com/example/nearbid/nearbid/market/Participant")) (by decide) rfl rfl (by omega) (SafeBy.exa E) (fun h22 W23 => ?_)
  have zW23 := W23.size
  have E := E.wr W23
  have K := K.wr W23 (Or.inl (by simp))
  have hO := hO.wr W23 (by omega)
  have F1 := F1.same W23
  have F2 := F2.other W23 (Or.inr (slot_ne (Or.inr (hw _ (List.mem_of_getElem? (i := 71) rfl))) (Or.inr (hw _ (List.mem_of_getElem? (i := 69) rfl))) (by decide) (t := (.object "com/example/nearbid/nearbid/market/Participant")) (t' := (.object "com/example/nearbid/nearbid/market/Participant")) (by decide) (by decide)))
  refine WP.aload_n d7_64 rfl rfl ?_
  refine WP.aload_n d7_65 rfl rfl ?_
  refine WP.putfield (host := "") d7_66 (Or.inl (hw _ (List.mem_of_getElem? (i := 70) rfl))) Via.refl F2 E (Or.inr ⟨(hw _ (List.mem_of_getElem? (i := 71) rfl)), rfl, rfl⟩) (hw _ (List.mem_of_getElem? (i := 55) rfl)) (ty := (.object "com/example/nearbid/nearbid/market/Participant")) (by decide) rfl rfl (by omega) (SafeBy.exa E) (fun h24 W25 => ?_)
  have zW25 := W25.size
  have E := E.wr W25
  have K := K.wr W25 (Or.inl (by simp))
  have hO := hO.wr W25 (by omega)
  have F1 := F1.other W25 (Or.inr (slot_ne (Or.inr (hw _ (List.mem_of_getElem? (i := 69) rfl))) (Or.inr (hw _ (List.mem_of_getElem? (i := 71) rfl))) (by decide) (t := (.object "com/example/nearbid/nearbid/market/Participant")) (t' := (.object "com/example/nearbid/nearbid/market/Participant")) (by decide) (by decide)))
  have F2 := F2.same W25
  exact WP.return_ d7_69 rfl (by decide) (by decide) (G := []) (fun _ q => nomatch q) ⟨rfl, K, E, F1, F2⟩
set_option maxRecDepth 65536 in
set_option maxHeartbeats 4000000 in
theorem rm_nb (l : Launch) (Z : State) (a0 : Array Value) (hw : ∀ d ∈ tables_1, d.before a0 Z = true) (n0 : Nat) (h0 : Heap) (hO : Old Z n0 h0) (a b s : Addr) (pb ps : Int32) (E1 : Exa Z h0 b "com/example/nearbid/nearbid/market/Participant") (E2 : Exa Z h0 s "com/example/nearbid/nearbid/market/Participant") (P1 : Fld Z h0 b "com/example/nearbid/nearbid/market/Participant" "price" "I" (.int pb)) (P2 : Fld Z h0 s "com/example/nearbid/nearbid/market/Participant" "price" "I" (.int ps)) (F1 : Fld Z h0 a "com/example/nearbid/nearbid/market/Pair" "buyer" "Lcom/example/nearbid/nearbid/market/Participant;" (.ref b)) (F2 : Fld Z h0 a "com/example/nearbid/nearbid/market/Pair" "seller" "Lcom/example/nearbid/nearbid/market/Participant;" (.ref s)) :
    Met l Z [] n0 [] (⟨"com/example/nearbid/nearbid/market/Pair", "netBenefit", "()I"⟩ : MethodName) prog_32_method_2_code 1 (some .int) ({ frames := 1, cells := 0, slots := 0, locals := 20 } : Room) #[.ref a] [] h0 (QPure (some (.int (pb - ps))) h0) := by
  have hEL := own_EW hw
  have hn0 : n0 ≤ h0.size := hO.1 ▸ hO.2.1
  refine Met.of (by decide +kernel) hEL hO (Ls := #[.val (.ref a)]) (fun m => by first | (simp [entryFrame, mkF, argsToLocals, Value.category]; done) | rfl) ?_
  refine WP.aload_n d9_0 rfl rfl ?_
  refine WP.getfield (host := "") d9_1 (Or.inl (hw _ (List.mem_of_getElem? (i := 68) rfl))) Via.refl F1 ?_
  refine WP.virtual (a := b) (argsL := []) (rest := []) d9_4 (rm_price l Z a0 hw n0 h0 hO b pb P1) E1 (hw _ (List.mem_of_getElem? (i := 77) rfl)) (hw _ (List.mem_of_getElem? (i := 78) rfl)) (hw _ (List.mem_of_getElem? (i := 79) rfl)) (hw _ (List.mem_of_getElem? (i := 80) rfl)) (hw _ (List.mem_of_getElem? (i := 4) rfl)) (hw _ (List.mem_of_getElem? (i := 81) rfl)) (hw _ (List.mem_of_getElem? (i := 80) rfl)) (by decide) pd_7 rfl rfl rfl (nle rfl) (nle rfl) (nle rfl) (nle rfl) (fun _ q => nomatch q) (fun v h26 F' hq szh26 => ?_)
  obtain ⟨rfl, rfl⟩ := hq
  refine WP.aload_n d9_7 rfl rfl ?_
  refine WP.getfield (host := "") d9_8 (Or.inl (hw _ (List.mem_of_getElem? (i := 70) rfl))) Via.refl F2 ?_
  refine WP.virtual (a := s) (argsL := []) (rest := [(.int pb)]) d9_11 (rm_price l Z a0 hw n0 h26 hO s ps P2) E2 (hw _ (List.mem_of_getElem? (i := 77) rfl)) (hw _ (List.mem_of_getElem? (i := 78) rfl)) (hw _ (List.mem_of_getElem? (i := 79) rfl)) (hw _ (List.mem_of_getElem? (i := 80) rfl)) (hw _ (List.mem_of_getElem? (i := 4) rfl)) (hw _ (List.mem_of_getElem? (i := 81) rfl)) (hw _ (List.mem_of_getElem? (i := 80) rfl)) (by decide) pd_7 rfl rfl rfl (nle rfl) (nle rfl) (nle rfl) (nle rfl) (fun _ q => nomatch q) (fun v h27 F' hq szh27 => ?_)
  obtain ⟨rfl, rfl⟩ := hq
  refine WP.isub d9_14 ?_
  exact WP.ireturn d9_15 rfl (t := .int) (by simp) rfl (by decide) (by decide) (G := []) (fun _ q => nomatch q) ⟨rfl, rfl⟩
abbrev QLaw (v : Option Value) (h : Heap) (F : List Addr) : Prop := v = some (.int 1)
set_option maxRecDepth 65536 in
theorem own_fin256 : ∀ k : Fin 256, ((FP.i2d (Int32.ofNat k.val - 128)) &&& 0x7fffffffffffffff ≤ 0x7ff0000000000000) ∧ cmpValue (FP.dcmp ((FP.i2d (Int32.ofNat k.val - 128)) &&& 0x7fffffffffffffff) 9218868437227405311) .g = -1 := by decide +kernel
theorem own_fin (q : Int32) : FinOK (FP.i2d ((q &&& 255) - 128)) := by
  have b := B8.and q
  have e : q &&& 255 = Int32.ofNat (q &&& 255).toInt.toNat := by
    apply Int32.toInt_inj.mp
    rw [Int32.toInt_ofNat_of_lt (by have := b.2; have := b.1; omega)]
    have := b.1
    omega
  have := own_fin256 ⟨(q &&& 255).toInt.toNat, by have := b.2; have := b.1; omega⟩
  rw [e]
  exact this
theorem own_mask (q m : Int32) (hm : 0 ≤ m.toInt) : 0 ≤ (q &&& m).toInt ∧ (q &&& m).toInt ≤ m.toInt := c_and q m hm
set_option maxRecDepth 65536 in
set_option maxHeartbeats 4000000 in
theorem rm_law (l : Launch) (Z : State) (a0 : Array Value) (hw : ∀ d ∈ tables_1, d.before a0 Z = true) (n0 : Nat) (h0 : Heap) (hO : Old Z n0 h0) (ws : List Jvm.Cond) (rb rs : Addr) (hb : Sta Z Z.heap "com/example/nearbid/nearbid/market/Role" "BUYER" "Lcom/example/nearbid/nearbid/market/Role;" (.ref rb)) (hs : Sta Z Z.heap "com/example/nearbid/nearbid/market/Role" "SELLER" "Lcom/example/nearbid/nearbid/market/Role;" (.ref rs)) (p0 p1 p2 p3 p4 p5 : Int32) :
    Met l Z [] n0 ws x code maxLocals ret room_1 #[.int p0, .int p1, .int p2, .int p3, .int p4, .int p5] [] h0 QLaw := by
  have hEL := own_EW hw
  have hn0 : n0 ≤ h0.size := hO.1 ▸ hO.2.1
  refine Met.of (by decide +kernel) hEL hO (Ls := #[.val (.int p0), .val (.int p1), .val (.int p2), .val (.int p3), .val (.int p4), .val (.int p5), .unset, .unset, .unset, .unset, .unset, .unset, .unset, .unset, .unset, .unset, .unset, .unset, .unset, .unset, .unset, .unset, .unset, .unset, .unset, .unset, .unset]) (fun m => by first | (simp [entryFrame, mkF, argsToLocals, Value.category, maxLocals]; done) | rfl) ?_
  refine WP.iload_n d0_0 rfl ?_
  refine WP.ldcI (v := (2147483647 : Int32)) d0_1 (hw _ (List.mem_of_getElem? (i := 0) rfl)) ?_
  refine WP.iand d0_3 ?_
  obtain ⟨x28, ex28⟩ : ∃ z : Int32, (p0 &&& (2147483647 : Int32)) = z := ⟨_, rfl⟩
  refine WP.istore d0_4 ex28 (Ls' := #[.val (.int p0), .val (.int p1), .val (.int p2), .val (.int p3), .val (.int p4), .val (.int p5), .val (.int x28), .unset, .unset, .unset, .unset, .unset, .unset, .unset, .unset, .unset, .unset, .unset, .unset, .unset, .unset, .unset, .unset, .unset, .unset, .unset, .unset]) rfl ?_
  have r_x28 := own_mask p0 2147483647 (by decide)
  rw [ex28] at r_x28
  have nn_x28 : ¬ x28 < 0 := by rw [Int32.lt_iff_toInt_lt]; have e0 : (0 : Int32).toInt = 0 := rfl; omega
  refine WP.iload_n d0_6 rfl ?_
  refine WP.ldcI (v := (2147483647 : Int32)) d0_7 (hw _ (List.mem_of_getElem? (i := 0) rfl)) ?_
  refine WP.iand d0_9 ?_
  obtain ⟨x29, ex29⟩ : ∃ z : Int32, (p1 &&& (2147483647 : Int32)) = z := ⟨_, rfl⟩
  refine WP.istore d0_10 ex29 (Ls' := #[.val (.int p0), .val (.int p1), .val (.int p2), .val (.int p3), .val (.int p4), .val (.int p5), .val (.int x28), .val (.int x29), .unset, .unset, .unset, .unset, .unset, .unset, .unset, .unset, .unset, .unset, .unset, .unset, .unset, .unset, .unset, .unset, .unset, .unset, .unset]) rfl ?_
  have r_x29 := own_mask p1 2147483647 (by decide)
  rw [ex29] at r_x29
  have nn_x29 : ¬ x29 < 0 := by rw [Int32.lt_iff_toInt_lt]; have e0 : (0 : Int32).toInt = 0 := rfl; omega
  refine WP.iload_n d0_12 rfl ?_
  refine WP.ldcI (v := (1073741823 : Int32)) d0_13 (hw _ (List.mem_of_getElem? (i := 1) rfl)) ?_
  refine WP.iand d0_15 ?_
  refine WP.iconst d0_16 (v := (1 : Int32)) rfl ?_
  refine WP.iadd d0_17 ?_
  obtain ⟨x30, ex30⟩ : ∃ z : Int32, ((p2 &&& (1073741823 : Int32)) + (1 : Int32)) = z := ⟨_, rfl⟩
  refine WP.istore d0_18 ex30 (Ls' := #[.val (.int p0), .val (.int p1), .val (.int p2), .val (.int p3), .val (.int p4), .val (.int p5), .val (.int x28), .val (.int x29), .val (.int x30), .unset, .unset, .unset, .unset, .unset, .unset, .unset, .unset, .unset, .unset, .unset, .unset, .unset, .unset, .unset, .unset, .unset, .unset]) rfl ?_
  have pos_x30 : 0 < x30 := by
    have q := own_mask (p2) (1073741823 : Int32) (by decide)
    have em : (1073741823 : Int32).toInt = 1073741823 := rfl
    have q2 := c_iadd ((p2 &&& (1073741823 : Int32))) 1
    rw [← ex30, Int32.lt_iff_toInt_lt]
    have e0 : (0 : Int32).toInt = 0 := rfl
    have e1 : (1 : Int32).toInt = 1 := rfl
    have r := rng32 ((p2 &&& (1073741823 : Int32)) + 1)
    omega
  refine WP.iload_n d0_20 rfl ?_
  refine WP.ldcI (v := (1073741823 : Int32)) d0_21 (hw _ (List.mem_of_getElem? (i := 1) rfl)) ?_
  refine WP.iand d0_23 ?_
  refine WP.iconst d0_24 (v := (1 : Int32)) rfl ?_
  refine WP.iadd d0_25 ?_
  obtain ⟨x31, ex31⟩ : ∃ z : Int32, ((p3 &&& (1073741823 : Int32)) + (1 : Int32)) = z := ⟨_, rfl⟩
  refine WP.istore d0_26 ex31 (Ls' := #[.val (.int p0), .val (.int p1), .val (.int p2), .val (.int p3), .val (.int p4), .val (.int p5), .val (.int x28), .val (.int x29), .val (.int x30), .val (.int x31), .unset, .unset, .unset, .unset, .unset, .unset, .unset, .unset, .unset, .unset, .unset, .unset, .unset, .unset, .unset, .unset, .unset]) rfl ?_
  have pos_x31 : 0 < x31 := by
    have q := own_mask (p3) (1073741823 : Int32) (by decide)
    have em : (1073741823 : Int32).toInt = 1073741823 := rfl
    have q2 := c_iadd ((p3 &&& (1073741823 : Int32))) 1
    rw [← ex31, Int32.lt_iff_toInt_lt]
    have e0 : (0 : Int32).toInt = 0 := rfl
    have e1 : (1 : Int32).toInt = 1 := rfl
    have r := rng32 ((p3 &&& (1073741823 : Int32)) + 1)
    omega
  refine WP.iload d0_28 rfl ?_
  refine WP.sipush d0_30 (v := (32767 : Int32)) rfl ?_
  refine WP.iand d0_33 ?_
  refine WP.iconst d0_34 (v := (1 : Int32)) rfl ?_
  refine WP.iadd d0_35 ?_
  obtain ⟨x32, ex32⟩ : ∃ z : Int32, ((p4 &&& (32767 : Int32)) + (1 : Int32)) = z := ⟨_, rfl⟩
  refine WP.istore d0_36 ex32 (Ls' := #[.val (.int p0), .val (.int p1), .val (.int p2), .val (.int p3), .val (.int p4), .val (.int p5), .val (.int x28), .val (.int x29), .val (.int x30), .val (.int x31), .val (.int x32), .unset, .unset, .unset, .unset, .unset, .unset, .unset, .unset, .unset, .unset, .unset, .unset, .unset, .unset, .unset, .unset]) rfl ?_
  have pos_x32 : 0 < x32 := by
    have q := own_mask (p4) (32767 : Int32) (by decide)
    have em : (32767 : Int32).toInt = 32767 := rfl
    have q2 := c_iadd ((p4 &&& (32767 : Int32))) 1
    rw [← ex32, Int32.lt_iff_toInt_lt]
    have e0 : (0 : Int32).toInt = 0 := rfl
    have e1 : (1 : Int32).toInt = 1 := rfl
    have r := rng32 ((p4 &&& (32767 : Int32)) + 1)
    omega
  refine WP.iload d0_38 rfl ?_
  refine WP.bipush d0_40 (v := (15 : Int32)) rfl ?_
  refine WP.iushr d0_42 ?_
  refine WP.sipush d0_43 (v := (32767 : Int32)) rfl ?_
  refine WP.iand d0_46 ?_
  refine WP.iconst d0_47 (v := (1 : Int32)) rfl ?_
  refine WP.iadd d0_48 ?_
  obtain ⟨x33, ex33⟩ : ∃ z : Int32, ((((p4.toUInt32 >>> ((15 : Int32) &&& 31).toUInt32).toInt32) &&& (32767 : Int32)) + (1 : Int32)) = z := ⟨_, rfl⟩
  refine WP.istore d0_49 ex33 (Ls' := #[.val (.int p0), .val (.int p1), .val (.int p2), .val (.int p3), .val (.int p4), .val (.int p5), .val (.int x28), .val (.int x29), .val (.int x30), .val (.int x31), .val (.int x32), .val (.int x33), .unset, .unset, .unset, .unset, .unset, .unset, .unset, .unset, .unset, .unset, .unset, .unset, .unset, .unset, .unset]) rfl ?_
  have pos_x33 : 0 < x33 := by
    have q := own_mask (((p4.toUInt32 >>> ((15 : Int32) &&& 31).toUInt32).toInt32)) (32767 : Int32) (by decide)
    have em : (32767 : Int32).toInt = 32767 := rfl
    have q2 := c_iadd ((((p4.toUInt32 >>> ((15 : Int32) &&& 31).toUInt32).toInt32) &&& (32767 : Int32))) 1
    rw [← ex33, Int32.lt_iff_toInt_lt]
    have e0 : (0 : Int32).toInt = 0 := rfl
    have e1 : (1 : Int32).toInt = 1 := rfl
    have r := rng32 ((((p4.toUInt32 >>> ((15 : Int32) &&& 31).toUInt32).toInt32) &&& (32767 : Int32)) + 1)
    omega
  refine WP.iload d0_51 rfl ?_
  refine WP.sipush d0_53 (v := (255 : Int32)) rfl ?_
  refine WP.iand d0_56 ?_
  refine WP.sipush d0_57 (v := (128 : Int32)) rfl ?_
  refine WP.isub d0_60 ?_
  refine WP.i2d d0_61 ?_
  obtain ⟨x34, ex34⟩ : ∃ z : UInt64, (FP.i2d ((p5 &&& (255 : Int32)) - (128 : Int32))) = z := ⟨_, rfl⟩
  refine WP.dstore d0_62 ex34 (Ls' := #[.val (.int p0), .val (.int p1), .val (.int p2), .val (.int p3), .val (.int p4), .val (.int p5), .val (.int x28), .val (.int x29), .val (.int x30), .val (.int x31), .val (.int x32), .val (.int x33), .val (.double x34), .second, .unset, .unset, .unset, .unset, .unset, .unset, .unset, .unset, .unset, .unset, .unset, .unset, .unset]) rfl ?_
  have fin_x34 : FinOK x34 := ex34 ▸ own_fin _
  refine WP.iload d0_64 rfl ?_
  refine WP.bipush d0_66 (v := (8 : Int32)) rfl ?_
  refine WP.iushr d0_68 ?_
  refine WP.sipush d0_69 (v := (255 : Int32)) rfl ?_
  refine WP.iand d0_72 ?_
  refine WP.sipush d0_73 (v := (128 : Int32)) rfl ?_
  refine WP.isub d0_76 ?_
  refine WP.i2d d0_77 ?_
  obtain ⟨x35, ex35⟩ : ∃ z : UInt64, (FP.i2d ((((p5.toUInt32 >>> ((8 : Int32) &&& 31).toUInt32).toInt32) &&& (255 : Int32)) - (128 : Int32))) = z := ⟨_, rfl⟩
  refine WP.dstore d0_78 ex35 (Ls' := #[.val (.int p0), .val (.int p1), .val (.int p2), .val (.int p3), .val (.int p4), .val (.int p5), .val (.int x28), .val (.int x29), .val (.int x30), .val (.int x31), .val (.int x32), .val (.int x33), .val (.double x34), .second, .val (.double x35), .second, .unset, .unset, .unset, .unset, .unset, .unset, .unset, .unset, .unset, .unset, .unset]) rfl ?_
  have fin_x35 : FinOK x35 := ex35 ▸ own_fin _
  refine WP.iload d0_80 rfl ?_
  refine WP.bipush d0_82 (v := (16 : Int32)) rfl ?_
  refine WP.iushr d0_84 ?_
  refine WP.sipush d0_85 (v := (255 : Int32)) rfl ?_
  refine WP.iand d0_88 ?_
  refine WP.sipush d0_89 (v := (128 : Int32)) rfl ?_
  refine WP.isub d0_92 ?_
  refine WP.i2d d0_93 ?_
  obtain ⟨x36, ex36⟩ : ∃ z : UInt64, (FP.i2d ((((p5.toUInt32 >>> ((16 : Int32) &&& 31).toUInt32).toInt32) &&& (255 : Int32)) - (128 : Int32))) = z := ⟨_, rfl⟩
  refine WP.dstore d0_94 ex36 (Ls' := #[.val (.int p0), .val (.int p1), .val (.int p2), .val (.int p3), .val (.int p4), .val (.int p5), .val (.int x28), .val (.int x29), .val (.int x30), .val (.int x31), .val (.int x32), .val (.int x33), .val (.double x34), .second, .val (.double x35), .second, .val (.double x36), .second, .unset, .unset, .unset, .unset, .unset, .unset, .unset, .unset, .unset]) rfl ?_
  have fin_x36 : FinOK x36 := ex36 ▸ own_fin _
  refine WP.iload d0_96 rfl ?_
  refine WP.bipush d0_98 (v := (24 : Int32)) rfl ?_
  refine WP.iushr d0_100 ?_
  refine WP.sipush d0_101 (v := (255 : Int32)) rfl ?_
  refine WP.iand d0_104 ?_
  refine WP.sipush d0_105 (v := (128 : Int32)) rfl ?_
  refine WP.isub d0_108 ?_
  refine WP.i2d d0_109 ?_
  obtain ⟨x37, ex37⟩ : ∃ z : UInt64, (FP.i2d ((((p5.toUInt32 >>> ((24 : Int32) &&& 31).toUInt32).toInt32) &&& (255 : Int32)) - (128 : Int32))) = z := ⟨_, rfl⟩
  refine WP.dstore d0_110 ex37 (Ls' := #[.val (.int p0), .val (.int p1), .val (.int p2), .val (.int p3), .val (.int p4), .val (.int p5), .val (.int x28), .val (.int x29), .val (.int x30), .val (.int x31), .val (.int x32), .val (.int x33), .val (.double x34), .second, .val (.double x35), .second, .val (.double x36), .second, .val (.double x37), .second, .unset, .unset, .unset, .unset, .unset, .unset, .unset]) rfl ?_
  have fin_x37 : FinOK x37 := ex37 ▸ own_fin _
  refine WP.new d0_112 (hw _ (List.mem_of_getElem? (i := 2) rfl)) (hw _ (List.mem_of_getElem? (i := 3) rfl)) (hw _ (List.mem_of_getElem? (i := 4) rfl)) (nle rfl) (nle rfl) (fun h38 b1 gb1 Eb1 Ab1 Db1 Ub1 => ?_)
  have hO := hO.ext Eb1
  have lb1 := nlt Ab1.lt
  have zb1 := Eb1.1
  have Fib1 := Db1 (Or.inr (hw _ (List.mem_of_getElem? (i := 41) rfl))) (ty := .int) (by decide)
  have Frb1 := Db1 (Or.inr (hw _ (List.mem_of_getElem? (i := 43) rfl))) (ty := (.object "com/example/nearbid/nearbid/market/Role")) (by decide)
  have Fxb1 := Db1 (Or.inr (hw _ (List.mem_of_getElem? (i := 45) rfl))) (ty := .double) (by decide)
  have Fyb1 := Db1 (Or.inr (hw _ (List.mem_of_getElem? (i := 47) rfl))) (ty := .double) (by decide)
  have Fub1 := Db1 (Or.inr (hw _ (List.mem_of_getElem? (i := 49) rfl))) (ty := .int) (by decide)
  have Fpb1 := Db1 (Or.inr (hw _ (List.mem_of_getElem? (i := 51) rfl))) (ty := .int) (by decide)
  refine WP.dup d0_115 rfl ?_
  refine WP.iload d0_116 rfl ?_
  refine WP.getstatic d0_118 (hw _ (List.mem_of_getElem? (i := 5) rfl)) Via.refl hb ?_
  refine WP.dload d0_121 rfl ?_
  refine WP.dload d0_123 rfl ?_
  refine WP.iload d0_125 rfl ?_
  refine WP.iload d0_127 rfl ?_
  refine WP.special (a := b1) (argsL := [(.int x32), (.ref rb), (.double x34), (.double x35), (.int x30), (.int x28)]) (rest := [(.ref b1)]) d0_129 (rm_pi l Z a0 hw n0 h38 hO b1 rb x32 x30 x28 x34 x35 pos_x32 pos_x30 nn_x28 fin_x34 fin_x35 Ab1 (by omega) Fib1 Frb1 Fxb1 Fyb1 Fub1 Fpb1) rfl (hw _ (List.mem_of_getElem? (i := 8) rfl)) (hw _ (List.mem_of_getElem? (i := 9) rfl)) (hw _ (List.mem_of_getElem? (i := 4) rfl)) (hw _ (List.mem_of_getElem? (i := 10) rfl)) (by decide) pd_0 rfl rfl rfl (nle rfl) (nle rfl) (nle rfl) (nle rfl) (fun _ q => nomatch q) (fun v h39 F' hq szh39 => ?_)
  obtain ⟨rfl, Kb1, -, Rb1, Pb1⟩ := hq
  have zzb1 := Kb1.1
  have hO := hO.keep Kb1 (allS (by omega) all0)
  have Ab1 := Ab1.keep Kb1
  refine WP.astore d0_132 (Ls' := #[.val (.int p0), .val (.int p1), .val (.int p2), .val (.int p3), .val (.int p4), .val (.int p5), .val (.int x28), .val (.int x29), .val (.int x30), .val (.int x31), .val (.int x32), .val (.int x33), .val (.double x34), .second, .val (.double x35), .second, .val (.double x36), .second, .val (.double x37), .second, .val (.ref b1), .unset, .unset, .unset, .unset, .unset, .unset]) rfl rfl ?_
  refine WP.new d0_134 (hw _ (List.mem_of_getElem? (i := 2) rfl)) (hw _ (List.mem_of_getElem? (i := 3) rfl)) (hw _ (List.mem_of_getElem? (i := 4) rfl)) (nle rfl) (nle rfl) (fun h40 b2 gb2 Eb2 Ab2 Db2 Ub2 => ?_)
  have hO := hO.ext Eb2
  have Ab1 := Ab1.ext Eb2
  have Rb1 := Rb1.ext Eb2
  have Pb1 := Pb1.ext Eb2
  have lb2 := nlt Ab2.lt
  have zb2 := Eb2.1
  have Fib2 := Db2 (Or.inr (hw _ (List.mem_of_getElem? (i := 41) rfl))) (ty := .int) (by decide)
  have Frb2 := Db2 (Or.inr (hw _ (List.mem_of_getElem? (i := 43) rfl))) (ty := (.object "com/example/nearbid/nearbid/market/Role")) (by decide)
  have Fxb2 := Db2 (Or.inr (hw _ (List.mem_of_getElem? (i := 45) rfl))) (ty := .double) (by decide)
  have Fyb2 := Db2 (Or.inr (hw _ (List.mem_of_getElem? (i := 47) rfl))) (ty := .double) (by decide)
  have Fub2 := Db2 (Or.inr (hw _ (List.mem_of_getElem? (i := 49) rfl))) (ty := .int) (by decide)
  have Fpb2 := Db2 (Or.inr (hw _ (List.mem_of_getElem? (i := 51) rfl))) (ty := .int) (by decide)
  refine WP.dup d0_137 rfl ?_
  refine WP.iload d0_138 rfl ?_
  refine WP.getstatic d0_140 (hw _ (List.mem_of_getElem? (i := 52) rfl)) Via.refl hs ?_
  refine WP.dload d0_143 rfl ?_
  refine WP.dload d0_145 rfl ?_
  refine WP.iload d0_147 rfl ?_
  refine WP.iload d0_149 rfl ?_
  refine WP.special (a := b2) (argsL := [(.int x33), (.ref rs), (.double x36), (.double x37), (.int x31), (.int x29)]) (rest := [(.ref b2)]) d0_151 (rm_pi l Z a0 hw n0 h40 hO b2 rs x33 x31 x29 x36 x37 pos_x33 pos_x31 nn_x29 fin_x36 fin_x37 Ab2 (by omega) Fib2 Frb2 Fxb2 Fyb2 Fub2 Fpb2) rfl (hw _ (List.mem_of_getElem? (i := 8) rfl)) (hw _ (List.mem_of_getElem? (i := 9) rfl)) (hw _ (List.mem_of_getElem? (i := 4) rfl)) (hw _ (List.mem_of_getElem? (i := 10) rfl)) (by decide) pd_0 rfl rfl rfl (nle rfl) (nle rfl) (nle rfl) (nle rfl) (fun _ q => nomatch q) (fun v h41 F' hq szh41 => ?_)
  obtain ⟨rfl, Kb2, -, Rb2, Pb2⟩ := hq
  have zzb2 := Kb2.1
  have hO := hO.keep Kb2 (allS (by omega) all0)
  have Ab1 := Ab1.keep Kb2
  have Rb1 := Rb1.keep Kb2 (ninS (nea (by omega)) nin0)
  have Pb1 := Pb1.keep Kb2 (ninS (nea (by omega)) nin0)
  have Ab2 := Ab2.keep Kb2
  refine WP.astore d0_154 (Ls' := #[.val (.int p0), .val (.int p1), .val (.int p2), .val (.int p3), .val (.int p4), .val (.int p5), .val (.int x28), .val (.int x29), .val (.int x30), .val (.int x31), .val (.int x32), .val (.int x33), .val (.double x34), .second, .val (.double x35), .second, .val (.double x36), .second, .val (.double x37), .second, .val (.ref b1), .val (.ref b2), .unset, .unset, .unset, .unset, .unset]) rfl rfl ?_
  refine WP.new d0_156 (hw _ (List.mem_of_getElem? (i := 54) rfl)) (hw _ (List.mem_of_getElem? (i := 55) rfl)) (hw _ (List.mem_of_getElem? (i := 56) rfl)) (nle rfl) (nle rfl) (fun h42 b3 gb3 Eb3 Ab3 Db3 Ub3 => ?_)
  have hO := hO.ext Eb3
  have Ab1 := Ab1.ext Eb3
  have Rb1 := Rb1.ext Eb3
  have Pb1 := Pb1.ext Eb3
  have Ab2 := Ab2.ext Eb3
  have Rb2 := Rb2.ext Eb3
  have Pb2 := Pb2.ext Eb3
  have lb3 := nlt Ab3.lt
  have zb3 := Eb3.1
  have F1 := Db3 (Or.inr (hw _ (List.mem_of_getElem? (i := 69) rfl))) (ty := (.object "com/example/nearbid/nearbid/market/Participant")) (by decide)
  have F2 := Db3 (Or.inr (hw _ (List.mem_of_getElem? (i := 71) rfl))) (ty := (.object "com/example/nearbid/nearbid/market/Participant")) (by decide)
  refine WP.dup d0_159 rfl ?_
  refine WP.aload d0_160 rfl rfl ?_
  refine WP.aload d0_162 rfl rfl ?_
  refine WP.special (a := b3) (argsL := [(.ref b1), (.ref b2)]) (rest := [(.ref b3)]) d0_164 (rm_ci l Z a0 hw n0 h42 hO rb rs hb hs b3 b1 b2 Ab1 Ab2 Rb1 Rb2 Ab3 (by omega) F1 F2) rfl (hw _ (List.mem_of_getElem? (i := 57) rfl)) (hw _ (List.mem_of_getElem? (i := 58) rfl)) (hw _ (List.mem_of_getElem? (i := 56) rfl)) (hw _ (List.mem_of_getElem? (i := 59) rfl)) (by decide) pd_5 rfl rfl rfl (nle rfl) (nle rfl) (nle rfl) (nle rfl) (fun _ q => nomatch q) (fun v h43 F' hq szh43 => ?_)
  obtain ⟨rfl, K3, -, F1, F2⟩ := hq
  have zz3 := K3.1
  have hO := hO.keep K3 (allS (by omega) all0)
  have Ab1 := Ab1.keep K3
  have Rb1 := Rb1.keep K3 (ninS (nea (by omega)) nin0)
  have Pb1 := Pb1.keep K3 (ninS (nea (by omega)) nin0)
  have Ab2 := Ab2.keep K3
  have Rb2 := Rb2.keep K3 (ninS (nea (by omega)) nin0)
  have Pb2 := Pb2.keep K3 (ninS (nea (by omega)) nin0)
  have Ab3 := Ab3.keep K3
  refine WP.virtual (a := b3) (argsL := []) (rest := []) d0_167 (rm_nb l Z a0 hw n0 h43 hO b3 b1 b2 x28 x29 Ab1 Ab2 Pb1 Pb2 F1 F2) Ab3 (hw _ (List.mem_of_getElem? (i := 72) rfl)) (hw _ (List.mem_of_getElem? (i := 73) rfl)) (hw _ (List.mem_of_getElem? (i := 74) rfl)) (hw _ (List.mem_of_getElem? (i := 75) rfl)) (hw _ (List.mem_of_getElem? (i := 56) rfl)) (hw _ (List.mem_of_getElem? (i := 76) rfl)) (hw _ (List.mem_of_getElem? (i := 75) rfl)) (by decide) pd_7 rfl rfl rfl (nle rfl) (nle rfl) (nle rfl) (nle rfl) (fun _ q => nomatch q) (fun v h44 F' hq szh44 => ?_)
  obtain ⟨rfl, rfl⟩ := hq
  obtain ⟨x45, ex45⟩ : ∃ z : Int32, (x28 - x29) = z := ⟨_, rfl⟩
  refine WP.istore d0_170 ex45 (Ls' := #[.val (.int p0), .val (.int p1), .val (.int p2), .val (.int p3), .val (.int p4), .val (.int p5), .val (.int x28), .val (.int x29), .val (.int x30), .val (.int x31), .val (.int x32), .val (.int x33), .val (.double x34), .second, .val (.double x35), .second, .val (.double x36), .second, .val (.double x37), .second, .val (.ref b1), .val (.ref b2), .val (.int x45), .unset, .unset, .unset, .unset]) rfl ?_
  have hsub : x45.toInt = x28.toInt - x29.toInt := by
    have q := c_isub x28 x29
    rw [ex45] at q
    have r := rng32 x45
    have em : (2147483647 : Int32).toInt = 2147483647 := rfl
    omega
  have e0 : (0 : Int32).toInt = 0 := rfl
  have e1 : (1 : Int32).toInt = 1 := rfl
  refine WP.iload d0_172 rfl ?_
  refine WP.i2l d0_174 ?_
  refine WP.iload d0_175 rfl ?_
  refine WP.i2l d0_177 ?_
  refine WP.lsub d0_178 ?_
  obtain ⟨x46, ex46⟩ : ∃ z : Int64, (x28.toInt64 - x29.toInt64) = z := ⟨_, rfl⟩
  refine WP.lstore d0_179 ex46 (Ls' := #[.val (.int p0), .val (.int p1), .val (.int p2), .val (.int p3), .val (.int p4), .val (.int p5), .val (.int x28), .val (.int x29), .val (.int x30), .val (.int x31), .val (.int x32), .val (.int x33), .val (.double x34), .second, .val (.double x35), .second, .val (.double x36), .second, .val (.double x37), .second, .val (.ref b1), .val (.ref b2), .val (.int x45), .val (.long x46), .second, .unset, .unset]) rfl ?_
  have hexp : x45.toInt64 = x46 := by
    apply Int64.toInt_inj.mp
    have q := c_lsub x28.toInt64 x29.toInt64
    rw [ex46] at q
    have r := rng64 x46
    have a1 := c_i2l x45
    have a2 := c_i2l x28
    have a3 := c_i2l x29
    have em : (2147483647 : Int32).toInt = 2147483647 := rfl
    omega
  refine WP.iload d0_181 rfl ?_
  refine WP.i2l d0_183 ?_
  refine WP.lload d0_184 rfl ?_
  refine WP.lcmp d0_186 ?_
  refine WP.if_ne d0_187 (fun hc => absurd ((lw_eq _ _).mpr hexp) hc) (fun _ => ?_)
  refine WP.iconst d0_190 (v := (1 : Int32)) rfl ?_
  refine WP.goto d0_191 ?_
  refine WP.istore d0_195 rfl (Ls' := #[.val (.int p0), .val (.int p1), .val (.int p2), .val (.int p3), .val (.int p4), .val (.int p5), .val (.int x28), .val (.int x29), .val (.int x30), .val (.int x31), .val (.int x32), .val (.int x33), .val (.double x34), .second, .val (.double x35), .second, .val (.double x36), .second, .val (.double x37), .second, .val (.ref b1), .val (.ref b2), .val (.int x45), .val (.long x46), .second, .val (.int (1 : Int32)), .unset]) rfl ?_
  rcases (by omega : x28.toInt < x29.toInt ∨ x28.toInt = x29.toInt ∨ x28.toInt > x29.toInt) with hcase | hcase | hcase
  · refine WP.iload d0_197 rfl ?_
    refine WP.if_le d0_199 (fun hc199 => ?_) (fun hc199 => False.elim (by rw [Int32.lt_iff_toInt_lt] at hc199; omega))
    refine WP.iconst d0_206 (v := (0 : Int32)) rfl ?_
    refine WP.iload d0_207 rfl ?_
    refine WP.iload d0_209 rfl ?_
    refine WP.icmp_le d0_211 (fun hc211 => ?_) (fun hc211 => False.elim (by rw [Int32.lt_iff_toInt_lt] at hc211; omega))
    refine WP.iconst d0_218 (v := (0 : Int32)) rfl ?_
    refine WP.icmp_ne d0_219 (fun hc219 => False.elim (by rw [← Int32.toInt_inj] at hc219; omega)) (fun hc219 => ?_)
    refine WP.iload d0_222 rfl ?_
    refine WP.if_ne d0_224 (fun hc224 => ?_) (fun hc224 => False.elim (by rw [← Int32.toInt_inj] at hc224; omega))
    refine WP.iconst d0_231 (v := (0 : Int32)) rfl ?_
    refine WP.iload d0_232 rfl ?_
    refine WP.iload d0_234 rfl ?_
    refine WP.icmp_ne d0_236 (fun hc236 => ?_) (fun hc236 => False.elim (by rw [← Int32.toInt_inj] at hc236; omega))
    refine WP.iconst d0_243 (v := (0 : Int32)) rfl ?_
    refine WP.icmp_ne d0_244 (fun hc244 => False.elim (by rw [← Int32.toInt_inj] at hc244; omega)) (fun hc244 => ?_)
    refine WP.iconst d0_247 (v := (1 : Int32)) rfl ?_
    refine WP.goto d0_248 ?_
    refine WP.istore d0_252 rfl (Ls' := #[.val (.int p0), .val (.int p1), .val (.int p2), .val (.int p3), .val (.int p4), .val (.int p5), .val (.int x28), .val (.int x29), .val (.int x30), .val (.int x31), .val (.int x32), .val (.int x33), .val (.double x34), .second, .val (.double x35), .second, .val (.double x36), .second, .val (.double x37), .second, .val (.ref b1), .val (.ref b2), .val (.int x45), .val (.long x46), .second, .val (.int (1 : Int32)), .val (.int (1 : Int32))]) rfl ?_
    refine WP.iload d0_254 rfl ?_
    refine WP.if_eq d0_256 (fun hc256 => False.elim (by rw [← Int32.toInt_inj] at hc256; omega)) (fun hc256 => ?_)
    refine WP.iload d0_259 rfl ?_
    refine WP.if_eq d0_261 (fun hc261 => False.elim (by rw [← Int32.toInt_inj] at hc261; omega)) (fun hc261 => ?_)
    refine WP.iconst d0_264 (v := (1 : Int32)) rfl ?_
    refine WP.goto d0_265 ?_
    exact WP.ireturn d0_269 rfl (t := .boolean) (by simp) rfl (by decide) (by decide) (G := []) (fun _ q => nomatch q) rfl
  · refine WP.iload d0_197 rfl ?_
    refine WP.if_le d0_199 (fun hc199 => ?_) (fun hc199 => False.elim (by rw [Int32.lt_iff_toInt_lt] at hc199; omega))
    refine WP.iconst d0_206 (v := (0 : Int32)) rfl ?_
    refine WP.iload d0_207 rfl ?_
    refine WP.iload d0_209 rfl ?_
    refine WP.icmp_le d0_211 (fun hc211 => ?_) (fun hc211 => False.elim (by rw [Int32.lt_iff_toInt_lt] at hc211; omega))
    refine WP.iconst d0_218 (v := (0 : Int32)) rfl ?_
    refine WP.icmp_ne d0_219 (fun hc219 => False.elim (by rw [← Int32.toInt_inj] at hc219; omega)) (fun hc219 => ?_)
    refine WP.iload d0_222 rfl ?_
    refine WP.if_ne d0_224 (fun hc224 => False.elim (by rw [← Int32.toInt_inj] at hc224; omega)) (fun hc224 => ?_)
    refine WP.iconst d0_227 (v := (1 : Int32)) rfl ?_
    refine WP.goto d0_228 ?_
    refine WP.iload d0_232 rfl ?_
    refine WP.iload d0_234 rfl ?_
    refine WP.icmp_ne d0_236 (fun hc236 => False.elim (by rw [← Int32.toInt_inj] at hc236; omega)) (fun hc236 => ?_)
    refine WP.iconst d0_239 (v := (1 : Int32)) rfl ?_
    refine WP.goto d0_240 ?_
    refine WP.icmp_ne d0_244 (fun hc244 => False.elim (by rw [← Int32.toInt_inj] at hc244; omega)) (fun hc244 => ?_)
    refine WP.iconst d0_247 (v := (1 : Int32)) rfl ?_
    refine WP.goto d0_248 ?_
    refine WP.istore d0_252 rfl (Ls' := #[.val (.int p0), .val (.int p1), .val (.int p2), .val (.int p3), .val (.int p4), .val (.int p5), .val (.int x28), .val (.int x29), .val (.int x30), .val (.int x31), .val (.int x32), .val (.int x33), .val (.double x34), .second, .val (.double x35), .second, .val (.double x36), .second, .val (.double x37), .second, .val (.ref b1), .val (.ref b2), .val (.int x45), .val (.long x46), .second, .val (.int (1 : Int32)), .val (.int (1 : Int32))]) rfl ?_
    refine WP.iload d0_254 rfl ?_
    refine WP.if_eq d0_256 (fun hc256 => False.elim (by rw [← Int32.toInt_inj] at hc256; omega)) (fun hc256 => ?_)
    refine WP.iload d0_259 rfl ?_
    refine WP.if_eq d0_261 (fun hc261 => False.elim (by rw [← Int32.toInt_inj] at hc261; omega)) (fun hc261 => ?_)
    refine WP.iconst d0_264 (v := (1 : Int32)) rfl ?_
    refine WP.goto d0_265 ?_
    exact WP.ireturn d0_269 rfl (t := .boolean) (by simp) rfl (by decide) (by decide) (G := []) (fun _ q => nomatch q) rfl
  · refine WP.iload d0_197 rfl ?_
    refine WP.if_le d0_199 (fun hc199 => False.elim (by rw [Int32.lt_iff_toInt_lt] at hc199; omega)) (fun hc199 => ?_)
    refine WP.iconst d0_202 (v := (1 : Int32)) rfl ?_
    refine WP.goto d0_203 ?_
    refine WP.iload d0_207 rfl ?_
    refine WP.iload d0_209 rfl ?_
    refine WP.icmp_le d0_211 (fun hc211 => False.elim (by rw [Int32.lt_iff_toInt_lt] at hc211; omega)) (fun hc211 => ?_)
    refine WP.iconst d0_214 (v := (1 : Int32)) rfl ?_
    refine WP.goto d0_215 ?_
    refine WP.icmp_ne d0_219 (fun hc219 => False.elim (by rw [← Int32.toInt_inj] at hc219; omega)) (fun hc219 => ?_)
    refine WP.iload d0_222 rfl ?_
    refine WP.if_ne d0_224 (fun hc224 => ?_) (fun hc224 => False.elim (by rw [← Int32.toInt_inj] at hc224; omega))
    refine WP.iconst d0_231 (v := (0 : Int32)) rfl ?_
    refine WP.iload d0_232 rfl ?_
    refine WP.iload d0_234 rfl ?_
    refine WP.icmp_ne d0_236 (fun hc236 => ?_) (fun hc236 => False.elim (by rw [← Int32.toInt_inj] at hc236; omega))
    refine WP.iconst d0_243 (v := (0 : Int32)) rfl ?_
    refine WP.icmp_ne d0_244 (fun hc244 => False.elim (by rw [← Int32.toInt_inj] at hc244; omega)) (fun hc244 => ?_)
    refine WP.iconst d0_247 (v := (1 : Int32)) rfl ?_
    refine WP.goto d0_248 ?_
    refine WP.istore d0_252 rfl (Ls' := #[.val (.int p0), .val (.int p1), .val (.int p2), .val (.int p3), .val (.int p4), .val (.int p5), .val (.int x28), .val (.int x29), .val (.int x30), .val (.int x31), .val (.int x32), .val (.int x33), .val (.double x34), .second, .val (.double x35), .second, .val (.double x36), .second, .val (.double x37), .second, .val (.ref b1), .val (.ref b2), .val (.int x45), .val (.long x46), .second, .val (.int (1 : Int32)), .val (.int (1 : Int32))]) rfl ?_
    refine WP.iload d0_254 rfl ?_
    refine WP.if_eq d0_256 (fun hc256 => False.elim (by rw [← Int32.toInt_inj] at hc256; omega)) (fun hc256 => ?_)
    refine WP.iload d0_259 rfl ?_
    refine WP.if_eq d0_261 (fun hc261 => False.elim (by rw [← Int32.toInt_inj] at hc261; omega)) (fun hc261 => ?_)
    refine WP.iconst d0_264 (v := (1 : Int32)) rfl ?_
    refine WP.goto d0_265 ?_
    exact WP.ireturn d0_269 rfl (t := .boolean) (by simp) rfl (by decide) (by decide) (G := []) (fun _ q => nomatch q) rfl
set_option maxRecDepth 65536 in
set_option maxHeartbeats 4000000 in
theorem comes_1 {Post : Tables → Env → Array Value → State → Outcome → State → Prop} (hpost : ∀ tb e args s v u, (limb_1_1.after args s (.returned v) u = true ∧ limb_1_2.after args s (.returned v) u = true ∧ True) → ReturnedEndW s (.returned v) u (Jvm.fieldLocs frame_1_writes args s ++ Jvm.arrayLocs frame_1_arrays args s ++ Jvm.staticLocs frame_1_statics s) 16 1152 → Post tb e args s (.returned v) u) :
    ArmFor flags0 classFile x code maxLocals ret World_1 tables_1 room_1 Calls_1 rest_1 Pre_1 Post := by
  intro l hfl _ _ p e ha hc hk s m args below hf hA hF happ hP
  obtain ⟨hcalls, hrest, hpre⟩ := hP
  obtain ⟨-, -, -, hnamed, -, -, -, hat⟩ := (Spec.applies_iff hf).mp happ
  obtain ⟨hg, hn⟩ := and_e (Cond.before_iff.mp (show (Jvm.Cond.and given_1 narrow_1).before args s = true from hpre))
  obtain ⟨hcount, hg1⟩ := and_e hg
  obtain ⟨ga0, hg2⟩ := and_e hg1
  obtain ⟨ga1, hg3⟩ := and_e hg2
  obtain ⟨ga2, hg4⟩ := and_e hg3
  obtain ⟨ga3, hg5⟩ := and_e hg4
  obtain ⟨ga4, hg6⟩ := and_e hg5
  have ga5 := hg6
  obtain ⟨w0, w1, w2, w3, w4, w5, rfl⟩ : ∃ w0 w1 w2 w3 w4 w5 : Value, args = #[w0, w1, w2, w3, w4, w5] := by
    have hs : args.size = 6 := by simpa [Cond.value, given_1] using hcount
    obtain ⟨L⟩ := args
    match L, hs with
    | [w0, w1, w2, w3, w4, w5], _ => exact ⟨w0, w1, w2, w3, w4, w5, rfl⟩
  have hw := fun d (hd : d ∈ tables_1) => atoms_spec (ws := Jvm.Cond.code x code maxLocals ret :: tables_1) hat d (List.mem_cons_of_mem _ hd)
  have hfit : Fit s := fun {y c} hc i hi => by
    obtain ⟨ha, rfl⟩ := Array.getElem?_eq_some_iff.mp hc
    have q := List.all_eq_true.mp ((Array.all_eq_true_iff_forall_mem.mp hF) _ (Array.getElem_mem ha)) i (List.mem_range.mpr hi)
    simpa [Array.getElem?_eq_getElem hi] using q
  obtain ⟨i0, ei0⟩ := is_v ga0
  obtain rfl : w0 = (.int i0) := Option.some.inj ei0
  obtain ⟨i1, ei1⟩ := is_v ga1
  obtain rfl : w1 = (.int i1) := Option.some.inj ei1
  obtain ⟨i2, ei2⟩ := is_v ga2
  obtain rfl : w2 = (.int i2) := Option.some.inj ei2
  obtain ⟨i3, ei3⟩ := is_v ga3
  obtain rfl : w3 = (.int i3) := Option.some.inj ei3
  obtain ⟨i4, ei4⟩ := is_v ga4
  obtain rfl : w4 = (.int i4) := Option.some.inj ei4
  obtain ⟨i5, ei5⟩ := is_v ga5
  obtain rfl : w5 = (.int i5) := Option.some.inj ei5
  obtain ⟨hn1, hn2⟩ := and_e hn
  obtain ⟨rb, erb⟩ := exa_v hn1
  obtain ⟨rs, ers⟩ := exa_v hn2
  have hb := Sta.start erb (Or.inr ⟨(hw _ (List.mem_of_getElem? (i := 6) rfl)), (hw _ (List.mem_of_getElem? (i := 7) rfl))⟩)
  have hs := Sta.start ers (Or.inr ⟨(hw _ (List.mem_of_getElem? (i := 6) rfl)), (hw _ (List.mem_of_getElem? (i := 53) rfl))⟩)
  have hC : CHv s [] s.vm s.heap := fun p hp => nomatch hp
  obtain ⟨n, o, h1, h2, h3, v, L, rfl, ⟨⟨_, hq, _⟩, N, _⟩, _, hend⟩ := rm_law l s _ hw s.heap.size s.heap (Old.start s) tables_1 rb rs hb hs i0 i1 i2 i3 i4 i5 p e ha hc hk s m _ below hf ((Spec.applies_iff_loose hf).mp happ).1 ⟨rfl, State.Warmed39.refl s, rfl, hC, fun _ q => nomatch q⟩ trivial
  have hq' : v = some (.int 1) := hq
  subst hq'
  exact ⟨n, _, h1, h2, h3, hpost _ _ _ _ _ _ ⟨Cond.after_iff.mpr rfl, Cond.after_iff.mpr (eq_i res_at (Term.int_eval (1)) rfl), trivial⟩ ⟨hend.1, hend.2.1, hend.2.2.1, (hend.2.2.2.sift fun y hy => Or.inr (N y hy)).mono (by decide) (by decide)⟩⟩
theorem main_1_1 : Claimed_1_1 := comes_1 fun _ _ _ _ _ _ h hF => ⟨h.1, hF⟩
theorem main_1_2 : Claimed_1_2 := comes_1 fun _ _ _ _ _ _ h hF => ⟨h.2.1, hF⟩
end Jvm.Pilot.@@N@@
namespace Jvm.Pilot.@@N@@
open Jvm Jvm.ClassFile Sem Op Lib Jvm.Free Jvm.Stand Jvm.Pilot.@@N@@.Jvm.D
/-! MADE BY PROGRAM (witnessworld.py) out of the Statement's table words and the real class files: 22 classes; the members and pool entries that the words name. The judged class is class 1, her method 1. -/
namespace start1
open Jvm.ClassFile
def u (s : String) : CpInfo := .utf8 (stringToUtf16 s)
/-- a pool by its gaps: so many unusable entries, then the entry; so many at the end -/
def gap : Nat → List CpInfo → List CpInfo
  | 0, r => r
  | n + 1, r => .unusable :: gap n r
def poolList (es : List (Nat × CpInfo)) (last : Nat) : List CpInfo := es.foldr (fun e r => gap e.1 (e.2 :: r)) (gap last [])
def pool (es : List (Nat × CpInfo)) (last : Nat) : Array CpInfo := ⟨poolList es last⟩
def fileOf (pool : Array CpInfo) (this : Nat) (attrs : Array Attribute := #[]) (ms : Array MethodInfo := #[]) (fl : Nat := 33) (sup : Nat := 0) (ifs : Array Nat := #[]) (fds : Array FieldInfo := #[]) : ClassFile where
  minorVersion := 0
  majorVersion := 65
  constantPool := pool
  accessFlags := fl
  thisClass := this
  superClass := sup
  interfaces := ifs
  fields := fds
  methods := ms
  attributes := attrs
def plain (name : String) (sup : Option ClassId) : Class where
  name := name
  kind := .ordinary
  loader := none
  accessFlags := 33
  super := sup
  interfaces := #[]
  cf := none
  fields := #[]
  methods := #[]
  instanceTypes := #[]
  staticTypes := #[]
  resolved := #[]
  callSites := []
  init := .initialized
  statics := none
  mirror := none

def pool0 : Array CpInfo := pool [(5, u "<init>"), (0, u "()V"), (1, .class_ 10), (1, u "java/lang/Object")] 113

def k0c0 : Code := { maxStack := 0, maxLocals := 1, code := object_method_1_code, exceptionTable := #[], attributes := #[] }
def k0m0 : Method := { name := "<init>", desc := "()V", sig := { parameters := [], returnType := none }, accessFlags := 1, code := some k0c0 }
/-- java/lang/Object -/
def k0 : Class := { plain "java/lang/Object" none with
  accessFlags := 33
  interfaces := #[]
  cf := some (fileOf pool0 8 #[] #[{ accessFlags := 1, nameIndex := 5, descriptorIndex := 6, attributes := #[] }] 33 0 #[] #[])
  fields := #[]
  methods := #[k0m0]
  instanceTypes := #[]
  staticTypes := #[]
  resolved := Array.replicate 124 none
  statics := none }

def pool1 : Array CpInfo := pool [(2, .class_ 4), (1, u "java/lang/Object"), (0, u "<init>"), (0, u "()V"), (0, .integer 2147483647), (0, .integer 1073741823), (0, .class_ 10), (0, u "com/example/nearbid/nearbid/market/Participant"), (0, .fieldref 12 13), (0, .class_ 14), (0, .nameAndType 15 16), (0, u "com/example/nearbid/nearbid/market/Role"), (0, u "BUYER"), (0, u "Lcom/example/nearbid/nearbid/market/Role;"), (0, .methodref 9 18), (0, .nameAndType 5 19), (0, u "(ILcom/example/nearbid/nearbid/market/Role;DDII)V"), (0, .fieldref 12 21), (0, .nameAndType 22 16), (0, u "SELLER"), (0, .class_ 24), (0, u "com/example/nearbid/nearbid/market/Pair"), (0, .methodref 23 26), (0, .nameAndType 5 27), (0, u "(Lcom/example/nearbid/nearbid/market/Participant;Lcom/example/nearbid/nearbid/market/Participant;)V"), (0, .methodref 23 29), (0, .nameAndType 30 31), (0, u "netBenefit"), (0, u "()I"), (0, .class_ 33), (0, u "com/example/nearbid/nearbid/market/PairNetBenefitPinLaw"), (2, u "law"), (0, u "(IIIIII)Z")] 3

def k1m0 : Method := { name := "<init>", desc := "()V", sig := { parameters := [], returnType := none }, accessFlags := 1, code := none }
def k1c1 : Code := { maxStack := 10, maxLocals := 27, code := code, exceptionTable := #[], attributes := #[] }
def k1m1 : Method := { name := "law", desc := "(IIIIII)Z", sig := { parameters := [.int, .int, .int, .int, .int, .int], returnType := some .boolean }, accessFlags := 9, code := some k1c1 }
/-- com/example/nearbid/nearbid/market/PairNetBenefitPinLaw -/
def k1 : Class := { plain "com/example/nearbid/nearbid/market/PairNetBenefitPinLaw" (some 0) with
  accessFlags := 49
  interfaces := #[]
  cf := some (fileOf pool1 32 #[] #[{ accessFlags := 1, nameIndex := 5, descriptorIndex := 6, attributes := #[] }, { accessFlags := 9, nameIndex := 36, descriptorIndex := 37, attributes := #[] }] 49 2 #[] #[])
  fields := #[]
  methods := #[k1m0, k1m1]
  instanceTypes := #[]
  staticTypes := #[]
  resolved := Array.replicate 41 none
  statics := none }

def pool2 : Array CpInfo := pool [(1, .methodref 2 3), (0, .class_ 4), (0, .nameAndType 5 6), (0, u "java/lang/Object"), (0, u "<init>"), (0, u "()V"), (0, .class_ 8), (0, u "java/lang/Record")] 13

def k2c0 : Code := { maxStack := 1, maxLocals := 1, code := jdk_30_method_1_code, exceptionTable := #[], attributes := #[] }
def k2m0 : Method := { name := "<init>", desc := "()V", sig := { parameters := [], returnType := none }, accessFlags := 4, code := some k2c0 }
/-- java/lang/Record -/
def k2 : Class := { plain "java/lang/Record" (some 0) with
  accessFlags := 1057
  interfaces := #[]
  cf := some (fileOf pool2 7 #[] #[{ accessFlags := 4, nameIndex := 5, descriptorIndex := 6, attributes := #[] }] 1057 2 #[] #[])
  fields := #[]
  methods := #[k2m0]
  instanceTypes := #[]
  staticTypes := #[]
  resolved := Array.replicate 22 none
  statics := none }

def pool3 : Array CpInfo := pool [(1, .methodref 2 3), (0, .class_ 4), (0, .nameAndType 5 6), (0, u "java/lang/Record"), (0, u "<init>"), (0, u "()V"), (0, .string 8), (0, u "role"), (0, .methodref 10 11), (0, .class_ 12), (0, .nameAndType 13 14), (0, u "java/util/Objects"), (0, u "requireNonNull"), (0, u "(Ljava/lang/Object;Ljava/lang/String;)Ljava/lang/Object;"), (9, .methodref 25 26), (0, .class_ 27), (0, .nameAndType 28 29), (0, u "java/lang/Double"), (0, u "isFinite"), (0, u "(D)Z"), (5, .fieldref 36 37), (0, .class_ 38), (0, .nameAndType 39 40), (0, u "com/example/nearbid/nearbid/market/Participant"), (0, u "id"), (0, u "I"), (0, .fieldref 36 42), (0, .nameAndType 8 43), (0, u "Lcom/example/nearbid/nearbid/market/Role;"), (0, .fieldref 36 45), (0, .nameAndType 46 47), (0, u "x"), (0, u "D"), (0, .fieldref 36 49), (0, .nameAndType 50 47), (0, u "y"), (0, .fieldref 36 52), (0, .nameAndType 53 40), (0, u "units"), (0, .fieldref 36 55), (0, .nameAndType 56 40), (0, u "price"), (18, u "(ILcom/example/nearbid/nearbid/market/Role;DDII)V"), (9, u "()I"), (1, u "()Lcom/example/nearbid/nearbid/market/Role;")] 40

def k3c0 : Code := { maxStack := 6, maxLocals := 9, code := prog_34_method_1_code, exceptionTable := #[], attributes := #[] }
def k3m0 : Method := { name := "<init>", desc := "(ILcom/example/nearbid/nearbid/market/Role;DDII)V", sig := { parameters := [.int, (.object "com/example/nearbid/nearbid/market/Role"), .double, .double, .int, .int], returnType := none }, accessFlags := 1, code := some k3c0 }
def k3c1 : Code := { maxStack := 1, maxLocals := 1, code := prog_34_method_7_code, exceptionTable := #[], attributes := #[] }
def k3m1 : Method := { name := "role", desc := "()Lcom/example/nearbid/nearbid/market/Role;", sig := { parameters := [], returnType := some (.object "com/example/nearbid/nearbid/market/Role") }, accessFlags := 1, code := some k3c1 }
def k3c2 : Code := { maxStack := 1, maxLocals := 1, code := prog_34_method_11_code, exceptionTable := #[], attributes := #[] }
def k3m2 : Method := { name := "price", desc := "()I", sig := { parameters := [], returnType := some .int }, accessFlags := 1, code := some k3c2 }
/-- com/example/nearbid/nearbid/market/Participant -/
def k3 : Class := { plain "com/example/nearbid/nearbid/market/Participant" (some 2) with
  accessFlags := 49
  interfaces := #[]
  cf := some (fileOf pool3 36 #[] #[{ accessFlags := 1, nameIndex := 5, descriptorIndex := 75, attributes := #[] }, { accessFlags := 1, nameIndex := 8, descriptorIndex := 87, attributes := #[] }, { accessFlags := 1, nameIndex := 56, descriptorIndex := 85, attributes := #[] }] 49 2 #[] #[{ accessFlags := 18, nameIndex := 39, descriptorIndex := 40, attributes := #[] }, { accessFlags := 18, nameIndex := 8, descriptorIndex := 43, attributes := #[] }, { accessFlags := 18, nameIndex := 46, descriptorIndex := 47, attributes := #[] }, { accessFlags := 18, nameIndex := 50, descriptorIndex := 47, attributes := #[] }, { accessFlags := 18, nameIndex := 53, descriptorIndex := 40, attributes := #[] }, { accessFlags := 18, nameIndex := 56, descriptorIndex := 40, attributes := #[] }])
  fields := #[{ name := "id", type := .int, accessFlags := 18, slot := 0, constantValue := 0 }, { name := "role", type := (.object "com/example/nearbid/nearbid/market/Role"), accessFlags := 18, slot := 1, constantValue := 0 }, { name := "x", type := .double, accessFlags := 18, slot := 2, constantValue := 0 }, { name := "y", type := .double, accessFlags := 18, slot := 3, constantValue := 0 }, { name := "units", type := .int, accessFlags := 18, slot := 4, constantValue := 0 }, { name := "price", type := .int, accessFlags := 18, slot := 5, constantValue := 0 }]
  methods := #[k3m0, k3m1, k3m2]
  instanceTypes := #[.int, (.object "com/example/nearbid/nearbid/market/Role"), .double, .double, .int, .int]
  staticTypes := #[]
  resolved := Array.replicate 128 none
  statics := none }

def pool4 : Array CpInfo := pool [(1, .class_ 2), (0, u "java/lang/constant/Constable"), (0, .class_ 4), (0, u "java/lang/Object")] 6

/-- java/lang/constant/Constable -/
def k4 : Class := { plain "java/lang/constant/Constable" (some 0) with
  accessFlags := 1537
  interfaces := #[]
  cf := some (fileOf pool4 1 #[] #[] 1537 3 #[] #[])
  fields := #[]
  methods := #[]
  instanceTypes := #[]
  staticTypes := #[]
  resolved := Array.replicate 11 none
  statics := none }

def pool5 : Array CpInfo := pool [(1, .class_ 2), (0, u "java/lang/Comparable"), (0, .class_ 4), (0, u "java/lang/Object")] 7

/-- java/lang/Comparable -/
def k5 : Class := { plain "java/lang/Comparable" (some 0) with
  accessFlags := 1537
  interfaces := #[]
  cf := some (fileOf pool5 1 #[] #[] 1537 3 #[] #[])
  fields := #[]
  methods := #[]
  instanceTypes := #[]
  staticTypes := #[]
  resolved := Array.replicate 12 none
  statics := none }

def pool6 : Array CpInfo := pool [(1, .class_ 2), (0, u "java/io/Serializable"), (0, .class_ 4), (0, u "java/lang/Object")] 2

/-- java/io/Serializable -/
def k6 : Class := { plain "java/io/Serializable" (some 0) with
  accessFlags := 1537
  interfaces := #[]
  cf := some (fileOf pool6 1 #[] #[] 1537 3 #[] #[])
  fields := #[]
  methods := #[]
  instanceTypes := #[]
  staticTypes := #[]
  resolved := Array.replicate 7 none
  statics := none }

def pool7 : Array CpInfo := pool [(2, .class_ 4), (1, u "java/lang/Enum"), (0, u "name"), (0, u "Ljava/lang/String;"), (2, u "ordinal"), (0, u "I"), (1, .class_ 14), (1, u "java/lang/Object"), (4, u "hash"), (86, .class_ 108), (1, u "java/lang/Enum$EnumDesc"), (2, .class_ 112), (0, u "java/lang/constant/Constable"), (0, .class_ 114), (0, u "java/lang/Comparable"), (0, .class_ 116), (0, u "java/io/Serializable")] 87

/-- java/lang/Enum -/
def k7 : Class := { plain "java/lang/Enum" (some 0) with
  accessFlags := 1057
  interfaces := #[4, 5, 6]
  cf := some (fileOf pool7 2 #[.nestMembers #[106]] #[] 1057 12 #[111, 113, 115] #[{ accessFlags := 18, nameIndex := 5, descriptorIndex := 6, attributes := #[] }, { accessFlags := 18, nameIndex := 9, descriptorIndex := 10, attributes := #[] }, { accessFlags := 2, nameIndex := 19, descriptorIndex := 10, attributes := #[] }])
  fields := #[{ name := "name", type := (.object "java/lang/String"), accessFlags := 18, slot := 0, constantValue := 0 }, { name := "ordinal", type := .int, accessFlags := 18, slot := 1, constantValue := 0 }, { name := "hash", type := .int, accessFlags := 2, slot := 2, constantValue := 0 }]
  methods := #[]
  instanceTypes := #[(.object "java/lang/String"), .int, .int]
  staticTypes := #[]
  resolved := Array.replicate 204 none
  statics := none }

def pool8 : Array CpInfo := pool [(1, .class_ 2), (0, u "com/example/nearbid/nearbid/market/Role"), (2, u "BUYER"), (0, u "Lcom/example/nearbid/nearbid/market/Role;"), (2, u "SELLER"), (2, u "$VALUES"), (0, u "[Lcom/example/nearbid/nearbid/market/Role;"), (6, .class_ 22), (1, u "java/lang/Enum"), (8, u "label"), (0, u "Ljava/lang/String;")] 36

/-- com/example/nearbid/nearbid/market/Role -/
def k8 : Class := { plain "com/example/nearbid/nearbid/market/Role" (some 7) with
  accessFlags := 16433
  interfaces := #[]
  cf := some (fileOf pool8 1 #[] #[] 16433 20 #[] #[{ accessFlags := 16409, nameIndex := 5, descriptorIndex := 6, attributes := #[] }, { accessFlags := 16409, nameIndex := 9, descriptorIndex := 6, attributes := #[] }, { accessFlags := 18, nameIndex := 31, descriptorIndex := 32, attributes := #[] }, { accessFlags := 4122, nameIndex := 12, descriptorIndex := 13, attributes := #[] }])
  fields := #[{ name := "BUYER", type := (.object "com/example/nearbid/nearbid/market/Role"), accessFlags := 16409, slot := 0, constantValue := 0 }, { name := "SELLER", type := (.object "com/example/nearbid/nearbid/market/Role"), accessFlags := 16409, slot := 1, constantValue := 0 }, { name := "label", type := (.object "java/lang/String"), accessFlags := 18, slot := 3, constantValue := 0 }, { name := "$VALUES", type := (.array (.object "com/example/nearbid/nearbid/market/Role")), accessFlags := 4122, slot := 2, constantValue := 0 }]
  methods := #[]
  instanceTypes := #[(.object "java/lang/String"), .int, .int, (.object "java/lang/String")]
  staticTypes := #[(.object "com/example/nearbid/nearbid/market/Role"), (.object "com/example/nearbid/nearbid/market/Role"), (.array (.object "com/example/nearbid/nearbid/market/Role"))]
  resolved := Array.replicate 69 none
  statics := some 0 }

def pool9 : Array CpInfo := pool [(2, .class_ 4), (1, u "java/lang/CharSequence"), (42, .class_ 48), (0, u "java/lang/CharSequence$1CodePointIterator"), (10, .class_ 60), (0, u "java/lang/CharSequence$1CharIterator"), (5, .class_ 67), (0, u "java/lang/Object")] 63

/-- java/lang/CharSequence -/
def k9 : Class := { plain "java/lang/CharSequence" (some 0) with
  accessFlags := 1537
  interfaces := #[]
  cf := some (fileOf pool9 2 #[.nestMembers #[47, 59]] #[] 1537 66 #[] #[])
  fields := #[]
  methods := #[]
  instanceTypes := #[]
  staticTypes := #[]
  resolved := Array.replicate 131 none
  statics := none }

def pool10 : Array CpInfo := pool [(1, .class_ 2), (0, u "java/lang/constant/ConstantDesc"), (0, .class_ 4), (0, u "java/lang/Object")] 32

/-- java/lang/constant/ConstantDesc -/
def k10 : Class := { plain "java/lang/constant/ConstantDesc" (some 0) with
  accessFlags := 1537
  interfaces := #[]
  cf := some (fileOf pool10 1 #[] #[] 1537 3 #[] #[])
  fields := #[]
  methods := #[]
  instanceTypes := #[]
  staticTypes := #[]
  resolved := Array.replicate 37 none
  statics := none }

def pool11 : Array CpInfo := pool [(2, .class_ 4), (1, u "java/lang/Object"), (0, u "<init>"), (0, u "()V"), (3, .class_ 12), (1, u "java/lang/String"), (0, u "value"), (0, u "[B"), (2, u "coder"), (0, u "B"), (2, u "hash"), (0, u "I"), (2, u "hashIsZero"), (0, u "Z"), (13, u "COMPACT_STRINGS"), (534, .class_ 576), (0, u "java/lang/CharSequence"), (22, u "CASE_INSENSITIVE_ORDER"), (0, u "Ljava/util/Comparator;"), (500, u "serialPersistentFields"), (0, u "[Ljava/io/ObjectStreamField;"), (0, .class_ 1104), (0, u "java/lang/String$CaseInsensitiveComparator"), (1, .class_ 1107), (0, u "java/io/Serializable"), (0, .class_ 1109), (0, u "java/lang/Comparable"), (0, .class_ 1111), (0, u "java/lang/constant/Constable"), (0, .class_ 1113), (0, u "java/lang/constant/ConstantDesc"), (2, u "serialVersionUID"), (0, u "J"), (3, u "REPL"), (0, u "C"), (2, u "LATIN1"), (1, u "UTF16")] 323

def k11m0 : Method := { name := "<init>", desc := "()V", sig := { parameters := [], returnType := none }, accessFlags := 1, code := none }
/-- java/lang/String -/
def k11 : Class := { plain "java/lang/String" (some 0) with
  accessFlags := 49
  interfaces := #[6, 5, 9, 4, 10]
  cf := some (fileOf pool11 10 #[.nestMembers #[1103]] #[{ accessFlags := 1, nameIndex := 5, descriptorIndex := 6, attributes := #[] }] 49 2 #[1106, 1108, 575, 1110, 1112] #[{ accessFlags := 18, nameIndex := 13, descriptorIndex := 14, attributes := #[] }, { accessFlags := 18, nameIndex := 17, descriptorIndex := 18, attributes := #[] }, { accessFlags := 2, nameIndex := 21, descriptorIndex := 22, attributes := #[] }, { accessFlags := 2, nameIndex := 25, descriptorIndex := 26, attributes := #[] }, { accessFlags := 26, nameIndex := 1116, descriptorIndex := 1117, attributes := #[] }, { accessFlags := 24, nameIndex := 40, descriptorIndex := 26, attributes := #[] }, { accessFlags := 26, nameIndex := 1101, descriptorIndex := 1102, attributes := #[] }, { accessFlags := 26, nameIndex := 1121, descriptorIndex := 1122, attributes := #[] }, { accessFlags := 25, nameIndex := 599, descriptorIndex := 600, attributes := #[] }, { accessFlags := 24, nameIndex := 1125, descriptorIndex := 18, attributes := #[] }, { accessFlags := 24, nameIndex := 1127, descriptorIndex := 18, attributes := #[] }])
  fields := #[{ name := "value", type := (.array .byte), accessFlags := 18, slot := 0, constantValue := 0 }, { name := "coder", type := .byte, accessFlags := 18, slot := 1, constantValue := 0 }, { name := "hash", type := .int, accessFlags := 2, slot := 2, constantValue := 0 }, { name := "hashIsZero", type := .boolean, accessFlags := 2, slot := 3, constantValue := 0 }, { name := "serialVersionUID", type := .long, accessFlags := 26, slot := 0, constantValue := 0 }, { name := "COMPACT_STRINGS", type := .boolean, accessFlags := 24, slot := 1, constantValue := 0 }, { name := "serialPersistentFields", type := (.array (.object "java/io/ObjectStreamField")), accessFlags := 26, slot := 2, constantValue := 0 }, { name := "REPL", type := .char, accessFlags := 26, slot := 3, constantValue := 0 }, { name := "CASE_INSENSITIVE_ORDER", type := (.object "java/util/Comparator"), accessFlags := 25, slot := 4, constantValue := 0 }, { name := "LATIN1", type := .byte, accessFlags := 24, slot := 5, constantValue := 0 }, { name := "UTF16", type := .byte, accessFlags := 24, slot := 6, constantValue := 0 }]
  methods := #[k11m0]
  instanceTypes := #[(.array .byte), .byte, .int, .boolean]
  staticTypes := #[.long, .boolean, (.array (.object "java/io/ObjectStreamField")), .char, (.object "java/util/Comparator"), .byte, .byte]
  resolved := Array.replicate 1451 none
  statics := none }

def pool12 : Array CpInfo := pool [(2, .class_ 4), (1, u "java/lang/Object"), (0, u "<init>"), (0, u "()V"), (35, .class_ 44), (1, u "java/util/Objects"), (0, u "requireNonNull"), (48, u "(Ljava/lang/Object;Ljava/lang/String;)Ljava/lang/Object;")] 89

def k12m0 : Method := { name := "<init>", desc := "()V", sig := { parameters := [], returnType := none }, accessFlags := 2, code := none }
def k12c1 : Code := { maxStack := 3, maxLocals := 2, code := jdk_31_method_11_code, exceptionTable := #[], attributes := #[] }
def k12m1 : Method := { name := "requireNonNull", desc := "(Ljava/lang/Object;Ljava/lang/String;)Ljava/lang/Object;", sig := { parameters := [(.object "java/lang/Object"), (.object "java/lang/String")], returnType := some (.object "java/lang/Object") }, accessFlags := 9, code := some k12c1 }
/-- java/util/Objects -/
def k12 : Class := { plain "java/util/Objects" (some 0) with
  accessFlags := 49
  interfaces := #[]
  cf := some (fileOf pool12 42 #[] #[{ accessFlags := 2, nameIndex := 5, descriptorIndex := 6, attributes := #[] }, { accessFlags := 9, nameIndex := 45, descriptorIndex := 94, attributes := #[] }] 49 2 #[] #[])
  fields := #[]
  methods := #[k12m0, k12m1]
  instanceTypes := #[]
  staticTypes := #[]
  resolved := Array.replicate 184 none
  statics := none }

def pool13 : Array CpInfo := pool [(2, .class_ 4), (1, u "java/lang/Object"), (0, u "<init>"), (0, u "()V"), (1, .class_ 10), (1, u "java/lang/Number"), (2, .class_ 14), (0, u "java/io/Serializable"), (0, u "serialVersionUID"), (0, u "J")] 20

def k13m0 : Method := { name := "<init>", desc := "()V", sig := { parameters := [], returnType := none }, accessFlags := 1, code := none }
/-- java/lang/Number -/
def k13 : Class := { plain "java/lang/Number" (some 0) with
  accessFlags := 1057
  interfaces := #[6]
  cf := some (fileOf pool13 8 #[] #[{ accessFlags := 1, nameIndex := 5, descriptorIndex := 6, attributes := #[] }] 1057 2 #[13] #[{ accessFlags := 26, nameIndex := 15, descriptorIndex := 16, attributes := #[] }])
  fields := #[{ name := "serialVersionUID", type := .long, accessFlags := 26, slot := 0, constantValue := 0 }]
  methods := #[k13m0]
  instanceTypes := #[]
  staticTypes := #[.long]
  resolved := Array.replicate 37 none
  statics := none }

def pool14 : Array CpInfo := pool [(1, .class_ 2), (0, u "java/lang/Double"), (10, u "isFinite"), (0, u "(D)Z"), (8, .class_ 25), (1, u "java/lang/Math"), (12, .methodref 23 39), (0, .nameAndType 40 41), (0, u "abs"), (0, u "(D)D"), (69, .double 9218868437227405311), (2, .class_ 116), (1, u "java/lang/Number"), (3, u "value"), (0, u "D"), (51, u "TYPE"), (0, u "Ljava/lang/Class;"), (0, .class_ 176), (0, u "java/lang/Comparable"), (0, .class_ 178), (0, u "java/lang/constant/Constable"), (0, .class_ 180), (0, u "java/lang/constant/ConstantDesc"), (0, u "POSITIVE_INFINITY"), (3, u "NEGATIVE_INFINITY"), (2, u "NaN"), (2, u "MAX_VALUE"), (0, u "MIN_NORMAL"), (0, u "MIN_VALUE"), (2, u "SIZE"), (0, u "I"), (1, u "PRECISION"), (1, u "MAX_EXPONENT"), (1, u "MIN_EXPONENT"), (1, u "BYTES"), (3, u "serialVersionUID"), (0, u "J")] 79

def k14c0 : Code := { maxStack := 4, maxLocals := 2, code := jdk_117_method_8_code, exceptionTable := #[], attributes := #[] }
def k14m0 : Method := { name := "isFinite", desc := "(D)Z", sig := { parameters := [.double], returnType := some .boolean }, accessFlags := 9, code := some k14c0 }
/-- java/lang/Double -/
def k14 : Class := { plain "java/lang/Double" (some 13) with
  accessFlags := 49
  interfaces := #[5, 4, 10]
  cf := some (fileOf pool14 1 #[] #[{ accessFlags := 9, nameIndex := 13, descriptorIndex := 14, attributes := #[] }] 49 114 #[175, 177, 179] #[{ accessFlags := 25, nameIndex := 181, descriptorIndex := 121, attributes := #[] }, { accessFlags := 25, nameIndex := 185, descriptorIndex := 121, attributes := #[] }, { accessFlags := 25, nameIndex := 188, descriptorIndex := 121, attributes := #[] }, { accessFlags := 25, nameIndex := 191, descriptorIndex := 121, attributes := #[] }, { accessFlags := 25, nameIndex := 192, descriptorIndex := 121, attributes := #[] }, { accessFlags := 25, nameIndex := 193, descriptorIndex := 121, attributes := #[] }, { accessFlags := 25, nameIndex := 196, descriptorIndex := 197, attributes := #[] }, { accessFlags := 25, nameIndex := 199, descriptorIndex := 197, attributes := #[] }, { accessFlags := 25, nameIndex := 201, descriptorIndex := 197, attributes := #[] }, { accessFlags := 25, nameIndex := 203, descriptorIndex := 197, attributes := #[] }, { accessFlags := 25, nameIndex := 205, descriptorIndex := 197, attributes := #[] }, { accessFlags := 25, nameIndex := 173, descriptorIndex := 174, attributes := #[] }, { accessFlags := 18, nameIndex := 120, descriptorIndex := 121, attributes := #[] }, { accessFlags := 26, nameIndex := 209, descriptorIndex := 210, attributes := #[] }])
  fields := #[{ name := "POSITIVE_INFINITY", type := .double, accessFlags := 25, slot := 0, constantValue := 0 }, { name := "NEGATIVE_INFINITY", type := .double, accessFlags := 25, slot := 1, constantValue := 0 }, { name := "NaN", type := .double, accessFlags := 25, slot := 2, constantValue := 0 }, { name := "MAX_VALUE", type := .double, accessFlags := 25, slot := 3, constantValue := 0 }, { name := "MIN_NORMAL", type := .double, accessFlags := 25, slot := 4, constantValue := 0 }, { name := "MIN_VALUE", type := .double, accessFlags := 25, slot := 5, constantValue := 0 }, { name := "SIZE", type := .int, accessFlags := 25, slot := 6, constantValue := 0 }, { name := "PRECISION", type := .int, accessFlags := 25, slot := 7, constantValue := 0 }, { name := "MAX_EXPONENT", type := .int, accessFlags := 25, slot := 8, constantValue := 0 }, { name := "MIN_EXPONENT", type := .int, accessFlags := 25, slot := 9, constantValue := 0 }, { name := "BYTES", type := .int, accessFlags := 25, slot := 10, constantValue := 0 }, { name := "TYPE", type := (.object "java/lang/Class"), accessFlags := 25, slot := 11, constantValue := 0 }, { name := "value", type := .double, accessFlags := 18, slot := 0, constantValue := 0 }, { name := "serialVersionUID", type := .long, accessFlags := 26, slot := 12, constantValue := 0 }]
  methods := #[k14m0]
  instanceTypes := #[.double]
  staticTypes := #[.double, .double, .double, .double, .double, .double, .int, .int, .int, .int, .int, (.object "java/lang/Class"), .long]
  resolved := Array.replicate 290 none
  statics := none }

def pool15 : Array CpInfo := pool [(1, .class_ 2), (0, u "java/lang/Math"), (1, .class_ 6), (1, u "java/lang/Object"), (0, u "<init>"), (0, u "()V"), (5, u "(D)D"), (83, .class_ 100), (1, u "java/lang/Math$RandomNumberGeneratorHolder"), (23, u "abs"), (47, u "negativeZeroFloatBits"), (0, u "J"), (2, u "negativeZeroDoubleBits"), (68, u "$assertionsDisabled"), (0, u "Z"), (91, u "twoToTheDoubleScaleDown"), (0, u "D"), (4, u "twoToTheDoubleScaleUp"), (9, u "E"), (3, u "PI"), (2, u "TAU"), (2, u "DEGREES_TO_RADIANS"), (0, u "RADIANS_TO_DEGREES")] 94

def k15m0 : Method := { name := "<init>", desc := "()V", sig := { parameters := [], returnType := none }, accessFlags := 2, code := none }
def k15c1 : Code := { maxStack := 4, maxLocals := 2, code := jdk_29_method_64_code, exceptionTable := #[], attributes := #[] }
def k15m1 : Method := { name := "abs", desc := "(D)D", sig := { parameters := [.double], returnType := some .double }, accessFlags := 9, code := some k15c1 }
/-- java/lang/Math -/
def k15 : Class := { plain "java/lang/Math" (some 0) with
  accessFlags := 49
  interfaces := #[]
  cf := some (fileOf pool15 1 #[.nestMembers #[98]] #[{ accessFlags := 2, nameIndex := 7, descriptorIndex := 8, attributes := #[] }, { accessFlags := 9, nameIndex := 124, descriptorIndex := 14, attributes := #[] }] 49 4 #[] #[{ accessFlags := 25, nameIndex := 354, descriptorIndex := 339, attributes := #[] }, { accessFlags := 25, nameIndex := 358, descriptorIndex := 339, attributes := #[] }, { accessFlags := 25, nameIndex := 361, descriptorIndex := 339, attributes := #[] }, { accessFlags := 26, nameIndex := 364, descriptorIndex := 339, attributes := #[] }, { accessFlags := 26, nameIndex := 365, descriptorIndex := 339, attributes := #[] }, { accessFlags := 26, nameIndex := 172, descriptorIndex := 173, attributes := #[] }, { accessFlags := 26, nameIndex := 176, descriptorIndex := 173, attributes := #[] }, { accessFlags := 8, nameIndex := 344, descriptorIndex := 339, attributes := #[] }, { accessFlags := 8, nameIndex := 338, descriptorIndex := 339, attributes := #[] }, { accessFlags := 4120, nameIndex := 245, descriptorIndex := 246, attributes := #[] }])
  fields := #[{ name := "E", type := .double, accessFlags := 25, slot := 0, constantValue := 0 }, { name := "PI", type := .double, accessFlags := 25, slot := 1, constantValue := 0 }, { name := "TAU", type := .double, accessFlags := 25, slot := 2, constantValue := 0 }, { name := "DEGREES_TO_RADIANS", type := .double, accessFlags := 26, slot := 3, constantValue := 0 }, { name := "RADIANS_TO_DEGREES", type := .double, accessFlags := 26, slot := 4, constantValue := 0 }, { name := "negativeZeroFloatBits", type := .long, accessFlags := 26, slot := 5, constantValue := 0 }, { name := "negativeZeroDoubleBits", type := .long, accessFlags := 26, slot := 6, constantValue := 0 }, { name := "twoToTheDoubleScaleUp", type := .double, accessFlags := 8, slot := 7, constantValue := 0 }, { name := "twoToTheDoubleScaleDown", type := .double, accessFlags := 8, slot := 8, constantValue := 0 }, { name := "$assertionsDisabled", type := .boolean, accessFlags := 4120, slot := 9, constantValue := 0 }]
  methods := #[k15m0, k15m1]
  instanceTypes := #[]
  staticTypes := #[.double, .double, .double, .double, .double, .long, .long, .double, .double, .boolean]
  resolved := Array.replicate 460 none
  statics := none }

def pool16 : Array CpInfo := pool [(1, .methodref 2 3), (0, .class_ 4), (0, .nameAndType 5 6), (0, u "java/lang/Record"), (0, u "<init>"), (0, u "()V"), (0, .methodref 8 9), (0, .class_ 10), (0, .nameAndType 11 12), (0, u "com/example/nearbid/nearbid/market/Participant"), (0, u "role"), (0, u "()Lcom/example/nearbid/nearbid/market/Role;"), (0, .fieldref 14 15), (0, .class_ 16), (0, .nameAndType 17 18), (0, u "com/example/nearbid/nearbid/market/Role"), (0, u "BUYER"), (0, u "Lcom/example/nearbid/nearbid/market/Role;"), (0, .fieldref 14 20), (0, .nameAndType 21 18), (0, u "SELLER"), (11, u "()I"), (7, .fieldref 42 43), (0, .class_ 44), (0, .nameAndType 45 46), (0, u "com/example/nearbid/nearbid/market/Pair"), (0, u "buyer"), (0, u "Lcom/example/nearbid/nearbid/market/Participant;"), (0, .fieldref 42 48), (0, .nameAndType 49 46), (0, u "seller"), (0, .methodref 8 51), (0, .nameAndType 52 33), (0, u "price"), (12, u "(Lcom/example/nearbid/nearbid/market/Participant;Lcom/example/nearbid/nearbid/market/Participant;)V"), (4, u "netBenefit")] 32

def k16c0 : Code := { maxStack := 6, maxLocals := 3, code := prog_32_method_1_code, exceptionTable := #[], attributes := #[] }
def k16m0 : Method := { name := "<init>", desc := "(Lcom/example/nearbid/nearbid/market/Participant;Lcom/example/nearbid/nearbid/market/Participant;)V", sig := { parameters := [(.object "com/example/nearbid/nearbid/market/Participant"), (.object "com/example/nearbid/nearbid/market/Participant")], returnType := none }, accessFlags := 1, code := some k16c0 }
def k16c1 : Code := { maxStack := 2, maxLocals := 1, code := prog_32_method_2_code, exceptionTable := #[], attributes := #[] }
def k16m1 : Method := { name := "netBenefit", desc := "()I", sig := { parameters := [], returnType := some .int }, accessFlags := 1, code := some k16c1 }
/-- com/example/nearbid/nearbid/market/Pair -/
def k16 : Class := { plain "com/example/nearbid/nearbid/market/Pair" (some 2) with
  accessFlags := 49
  interfaces := #[]
  cf := some (fileOf pool16 42 #[] #[{ accessFlags := 1, nameIndex := 5, descriptorIndex := 65, attributes := #[] }, { accessFlags := 1, nameIndex := 70, descriptorIndex := 33, attributes := #[] }] 49 2 #[] #[{ accessFlags := 18, nameIndex := 45, descriptorIndex := 46, attributes := #[] }, { accessFlags := 18, nameIndex := 49, descriptorIndex := 46, attributes := #[] }])
  fields := #[{ name := "buyer", type := (.object "com/example/nearbid/nearbid/market/Participant"), accessFlags := 18, slot := 0, constantValue := 0 }, { name := "seller", type := (.object "com/example/nearbid/nearbid/market/Participant"), accessFlags := 18, slot := 1, constantValue := 0 }]
  methods := #[k16m0, k16m1]
  instanceTypes := #[(.object "com/example/nearbid/nearbid/market/Participant"), (.object "com/example/nearbid/nearbid/market/Participant")]
  staticTypes := #[]
  resolved := Array.replicate 103 none
  statics := none }

def pool17 : Array CpInfo := pool [(1, u "java/lang/Cloneable"), (0, .class_ 1), (0, u "java/lang/Object"), (0, .class_ 3)] 3

/-- java/lang/Cloneable -/
def k17 : Class := { plain "java/lang/Cloneable" (some 0) with
  accessFlags := 1537
  interfaces := #[]
  cf := some (fileOf pool17 2 #[] #[] 1537 4 #[] #[])
  fields := #[]
  methods := #[]
  instanceTypes := #[]
  staticTypes := #[]
  resolved := Array.replicate 8 none
  statics := none }

/-- the primitive byte -/
def k18 : Class := { plain "byte" none with kind := .primitive 'B', accessFlags := 0x411 }
/-- [B -/
def k19 : Class := { plain "[B" (some 0) with kind := .array 18 .byte, interfaces := #[17, 6], accessFlags := 1041 }

/-- the primitive int -/
def k20 : Class := { plain "int" none with kind := .primitive 'I', accessFlags := 0x411 }
/-- [I -/
def k21 : Class := { plain "[I" (some 0) with kind := .array 20 .int, interfaces := #[17, 6], accessFlags := 1041 }

def heap : Heap := #[{ cls := 8, slots := #[.ref 1, .ref 2, .null], vm := .statics 8 },
  { cls := 8, slots := #[.null, .int 0, .int 0, .null], vm := .none },
  { cls := 8, slots := #[.null, .int 1, .int 0, .null], vm := .none }]
def classes : Array Class := #[k0, k1, k2, k3, k4, k5, k6, k7, k8, k9, k10, k11, k12, k13, k14, k15, k16, k17, k18, k19, k20, k21]
def interned : List (Array UInt16 × Addr) := []
def slotsUsed : Nat := 11
def theMethod : MethodId := ⟨1, 1⟩
def args0 : Array Value := #[.int 5, .int 7, .int 9, .int 1, .int 3, .int 4]
def aboutOver (below : List Frame) : State where
  vm := { classes := classes, interned := interned.toArray }
  heap := heap
  slotsUsed := slotsUsed
  threads := #[{ frames := .invoking theMethod args0 :: below }]
def below0 : List Frame := [.native { method := ⟨0, 0⟩, args := #[] }]
def about1 : State := aboutOver below0
def p0 : Program := .bare "" "" ""
def e0 : Env := launch0.env 0 0 0
theorem w_frames : about1.frames = Frame.invoking theMethod args0 :: below0 := rfl
set_option maxRecDepth 65536 in
theorem w_args : argsFit about1.vm theMethod args0 = true := by decide +kernel
set_option maxRecDepth 65536 in
theorem w_heap : heapFits about1 = true := by decide +kernel
set_option maxRecDepth 65536 in
theorem w_runnable : about1.curStatus? = some .runnable := by decide +kernel
set_option maxRecDepth 65536 in
theorem w_alone : about1.alone = true := by decide +kernel
set_option maxRecDepth 65536 in
theorem w_named : about1.methodNamed? x = some theMethod := by decide +kernel
set_option maxRecDepth 65536 in
theorem w_hears : about1.hears theMethod below0 = true := by decide +kernel
set_option maxRecDepth 65536 in
theorem w_ripe : about1.ripe theMethod args0 below0 = true := by decide +kernel
theorem w_running : about1.status = .running := rfl
set_option maxRecDepth 65536 in
theorem w_room : about1.hasRoom e0.platform room_1 = true :=
  launch0.hasRoom_least _ room_1 (by decide +kernel) (by decide +kernel) (by decide +kernel) (by decide +kernel) (by decide +kernel) (by decide +kernel)
theorem allAtoms_all (ts : List Jvm.Cond) (a : Array Jvm.Value) (st : Jvm.State) : (allAtoms ts).before a st = ts.all (fun c => c.before a st) := by
  induction ts with
  | nil => rfl
  | cons c t ih =>
    show (Jvm.Cond.and c (allAtoms t)).before a st = _
    rw [Jvm.Cond.before_and, ih, List.all_cons]
def words1 : List Jvm.Cond := Jvm.Cond.code x code maxLocals ret :: tables_1
/-- a 'code' word, met by the world's own term for the bytes: nothing is compared byte by byte -/
theorem code_word {y : MethodName} {bytes : ByteArray} {mx : Nat} {rt : Option FieldType} {a : Array Value} {s : State} {m : MethodId} {meth : Method} {c : Code} (h1 : s.methodNamed? y = some m) (h2 : s.vm.method? m = some meth) (h3 : meth.code = some c) (h4 : c.code = bytes)
    (h5 : (c.maxLocals == mx && c.exceptionTable.isEmpty && decide (c.maxStack ≤ mostOperands) && decide (meth.sig.returnType = rt) && !meth.locks && decide (parseMethodDescriptor y.desc = some meth.sig)) = true) : (Jvm.Cond.code y bytes mx rt).before a s = true := by
  simp only [Bool.and_eq_true, beq_iff_eq, Bool.not_eq_true', decide_eq_true_eq] at h5
  obtain ⟨⟨⟨⟨⟨g1, g2⟩, g3⟩, g4⟩, g5⟩, g6⟩ := h5
  simp [Cond.before, Cond.holds, Cond.value, h1, h2, h3, h4, g1, g2, g3, g4, g5, g6]
def isCode : Jvm.Cond → Bool
  | .code _ _ _ _ => true
  | _ => false
theorem all_split {L : List Jvm.Cond} {P : Jvm.Cond → Bool} (h1 : L.all (fun c => isCode c || P c) = true) (h2 : ∀ c ∈ L.filter isCode, P c = true) : L.all P = true := by
  refine List.all_eq_true.mpr fun c hc => ?_
  have h := List.all_eq_true.mp h1 c hc
  rcases Bool.eq_false_or_eq_true (isCode c) with hi | hi
  · exact h2 c (List.mem_filter.mpr ⟨hc, hi⟩)
  · simpa [hi] using h
set_option maxRecDepth 65536 in
theorem w_c0 : (Jvm.Cond.code x code maxLocals ret).before args0 about1 = true := code_word (m := ⟨1, 1⟩) (meth := k1m1) (c := k1c1) (by decide +kernel) rfl rfl rfl (by decide +kernel)
set_option maxRecDepth 65536 in
theorem w_c1 : (Jvm.Cond.code ({ cls := "com/example/nearbid/nearbid/market/Participant", name := "<init>", desc := "(ILcom/example/nearbid/nearbid/market/Role;DDII)V" } : Jvm.MethodName) prog_34_method_1_code (9 : Nat) (Option.none : Option Jvm.ClassFile.FieldType)).before args0 about1 = true := code_word (m := ⟨3, 0⟩) (meth := k3m0) (c := k3c0) (by decide +kernel) rfl rfl rfl (by decide +kernel)
set_option maxRecDepth 65536 in
theorem w_c2 : (Jvm.Cond.code ({ cls := "java/lang/Record", name := "<init>", desc := "()V" } : Jvm.MethodName) jdk_30_method_1_code (1 : Nat) (Option.none : Option Jvm.ClassFile.FieldType)).before args0 about1 = true := code_word (m := ⟨2, 0⟩) (meth := k2m0) (c := k2c0) (by decide +kernel) rfl rfl rfl (by decide +kernel)
set_option maxRecDepth 65536 in
theorem w_c3 : (Jvm.Cond.code ({ cls := "java/lang/Object", name := "<init>", desc := "()V" } : Jvm.MethodName) object_method_1_code (1 : Nat) (Option.none : Option Jvm.ClassFile.FieldType)).before args0 about1 = true := code_word (m := ⟨0, 0⟩) (meth := k0m0) (c := k0c0) (by decide +kernel) rfl rfl rfl (by decide +kernel)
set_option maxRecDepth 65536 in
theorem w_c4 : (Jvm.Cond.code ({ cls := "java/util/Objects", name := "requireNonNull", desc := "(Ljava/lang/Object;Ljava/lang/String;)Ljava/lang/Object;" } : Jvm.MethodName) jdk_31_method_11_code (2 : Nat) (Option.some (Jvm.ClassFile.FieldType.object "java/lang/Object"))).before args0 about1 = true := code_word (m := ⟨12, 1⟩) (meth := k12m1) (c := k12c1) (by decide +kernel) rfl rfl rfl (by decide +kernel)
set_option maxRecDepth 65536 in
theorem w_c5 : (Jvm.Cond.code ({ cls := "java/lang/Double", name := "isFinite", desc := "(D)Z" } : Jvm.MethodName) jdk_117_method_8_code (2 : Nat) (Option.some Jvm.ClassFile.FieldType.boolean)).before args0 about1 = true := code_word (m := ⟨14, 0⟩) (meth := k14m0) (c := k14c0) (by decide +kernel) rfl rfl rfl (by decide +kernel)
set_option maxRecDepth 65536 in
theorem w_c6 : (Jvm.Cond.code ({ cls := "java/lang/Math", name := "abs", desc := "(D)D" } : Jvm.MethodName) jdk_29_method_64_code (2 : Nat) (Option.some Jvm.ClassFile.FieldType.double)).before args0 about1 = true := code_word (m := ⟨15, 1⟩) (meth := k15m1) (c := k15c1) (by decide +kernel) rfl rfl rfl (by decide +kernel)
set_option maxRecDepth 65536 in
theorem w_c7 : (Jvm.Cond.code ({ cls := "com/example/nearbid/nearbid/market/Pair", name := "<init>", desc := "(Lcom/example/nearbid/nearbid/market/Participant;Lcom/example/nearbid/nearbid/market/Participant;)V" } : Jvm.MethodName) prog_32_method_1_code (3 : Nat) (Option.none : Option Jvm.ClassFile.FieldType)).before args0 about1 = true := code_word (m := ⟨16, 0⟩) (meth := k16m0) (c := k16c0) (by decide +kernel) rfl rfl rfl (by decide +kernel)
set_option maxRecDepth 65536 in
theorem w_c8 : (Jvm.Cond.code ({ cls := "com/example/nearbid/nearbid/market/Participant", name := "role", desc := "()Lcom/example/nearbid/nearbid/market/Role;" } : Jvm.MethodName) prog_34_method_7_code (1 : Nat) (Option.some (Jvm.ClassFile.FieldType.object "com/example/nearbid/nearbid/market/Role"))).before args0 about1 = true := code_word (m := ⟨3, 1⟩) (meth := k3m1) (c := k3c1) (by decide +kernel) rfl rfl rfl (by decide +kernel)
set_option maxRecDepth 65536 in
theorem w_c9 : (Jvm.Cond.code ({ cls := "com/example/nearbid/nearbid/market/Pair", name := "netBenefit", desc := "()I" } : Jvm.MethodName) prog_32_method_2_code (1 : Nat) (Option.some Jvm.ClassFile.FieldType.int)).before args0 about1 = true := code_word (m := ⟨16, 1⟩) (meth := k16m1) (c := k16c1) (by decide +kernel) rfl rfl rfl (by decide +kernel)
set_option maxRecDepth 65536 in
theorem w_c10 : (Jvm.Cond.code ({ cls := "com/example/nearbid/nearbid/market/Participant", name := "price", desc := "()I" } : Jvm.MethodName) prog_34_method_11_code (1 : Nat) (Option.some Jvm.ClassFile.FieldType.int)).before args0 about1 = true := code_word (m := ⟨3, 2⟩) (meth := k3m2) (c := k3c2) (by decide +kernel) rfl rfl rfl (by decide +kernel)
def codes1 : List Jvm.Cond := [Jvm.Cond.code x code maxLocals ret, Jvm.Cond.code ({ cls := "com/example/nearbid/nearbid/market/Participant", name := "<init>", desc := "(ILcom/example/nearbid/nearbid/market/Role;DDII)V" } : Jvm.MethodName) prog_34_method_1_code (9 : Nat) (Option.none : Option Jvm.ClassFile.FieldType), Jvm.Cond.code ({ cls := "java/lang/Record", name := "<init>", desc := "()V" } : Jvm.MethodName) jdk_30_method_1_code (1 : Nat) (Option.none : Option Jvm.ClassFile.FieldType), Jvm.Cond.code ({ cls := "java/lang/Object", name := "<init>", desc := "()V" } : Jvm.MethodName) object_method_1_code (1 : Nat) (Option.none : Option Jvm.ClassFile.FieldType), Jvm.Cond.code ({ cls := "java/util/Objects", name := "requireNonNull", desc := "(Ljava/lang/Object;Ljava/lang/String;)Ljava/lang/Object;" } : Jvm.MethodName) jdk_31_method_11_code (2 : Nat) (Option.some (Jvm.ClassFile.FieldType.object "java/lang/Object")), Jvm.Cond.code ({ cls := "java/lang/Double", name := "isFinite", desc := "(D)Z" } : Jvm.MethodName) jdk_117_method_8_code (2 : Nat) (Option.some Jvm.ClassFile.FieldType.boolean), Jvm.Cond.code ({ cls := "java/lang/Math", name := "abs", desc := "(D)D" } : Jvm.MethodName) jdk_29_method_64_code (2 : Nat) (Option.some Jvm.ClassFile.FieldType.double), Jvm.Cond.code ({ cls := "com/example/nearbid/nearbid/market/Pair", name := "<init>", desc := "(Lcom/example/nearbid/nearbid/market/Participant;Lcom/example/nearbid/nearbid/market/Participant;)V" } : Jvm.MethodName) prog_32_method_1_code (3 : Nat) (Option.none : Option Jvm.ClassFile.FieldType), Jvm.Cond.code ({ cls := "com/example/nearbid/nearbid/market/Participant", name := "role", desc := "()Lcom/example/nearbid/nearbid/market/Role;" } : Jvm.MethodName) prog_34_method_7_code (1 : Nat) (Option.some (Jvm.ClassFile.FieldType.object "com/example/nearbid/nearbid/market/Role")), Jvm.Cond.code ({ cls := "com/example/nearbid/nearbid/market/Pair", name := "netBenefit", desc := "()I" } : Jvm.MethodName) prog_32_method_2_code (1 : Nat) (Option.some Jvm.ClassFile.FieldType.int), Jvm.Cond.code ({ cls := "com/example/nearbid/nearbid/market/Participant", name := "price", desc := "()I" } : Jvm.MethodName) prog_34_method_11_code (1 : Nat) (Option.some Jvm.ClassFile.FieldType.int)]
set_option maxRecDepth 65536 in
theorem codes_eq : words1.filter isCode = codes1 := rfl
theorem w_codes : ∀ c ∈ words1.filter isCode, c.before args0 about1 = true := by
  rw [codes_eq]
  intro c hc
  simp only [codes1, List.mem_cons, List.not_mem_nil, or_false] at hc
  rcases hc with rfl | rfl | rfl | rfl | rfl | rfl | rfl | rfl | rfl | rfl | rfl
  · exact w_c0
  · exact w_c1
  · exact w_c2
  · exact w_c3
  · exact w_c4
  · exact w_c5
  · exact w_c6
  · exact w_c7
  · exact w_c8
  · exact w_c9
  · exact w_c10
set_option maxRecDepth 65536 in
theorem w_t1 : (words1.take 24).all (fun c => isCode c || c.before args0 about1) = true := by decide +kernel
set_option maxRecDepth 65536 in
theorem w_t2 : ((words1.drop 24).take 24).all (fun c => isCode c || c.before args0 about1) = true := by decide +kernel
set_option maxRecDepth 65536 in
theorem w_t3 : (((words1.drop 24).drop 24).take 24).all (fun c => isCode c || c.before args0 about1) = true := by decide +kernel
set_option maxRecDepth 65536 in
theorem w_t4 : (((words1.drop 24).drop 24).drop 24).all (fun c => isCode c || c.before args0 about1) = true := by decide +kernel
theorem w_tables : (allAtoms (Jvm.Cond.code x code maxLocals ret :: tables_1)).before args0 about1 = true := by
  rw [allAtoms_all]
  show words1.all (fun c => c.before args0 about1) = true
  refine all_split ?_ w_codes
  rw [← List.take_append_drop 24 words1, List.all_append, w_t1, ← List.take_append_drop 24 (words1.drop 24), List.all_append, w_t2, ← List.take_append_drop 24 ((words1.drop 24).drop 24), List.all_append, w_t3, w_t4]
  rfl
set_option maxRecDepth 65536 in
theorem w_case : (Jvm.Cond.and given_1 narrow_1).before args0 about1 = true := by decide +kernel
theorem w_applies : (headSpec (Jvm.Cond.code x code maxLocals ret :: tables_1) room_1).applies x e0.platform about1 = true :=
  (Spec.applies_iff w_frames).mpr ⟨w_running, w_runnable, w_alone, w_named, w_hears, w_ripe, w_room, w_tables⟩
theorem atStart : AtStart classFile x code maxLocals ret World_1 tables_1 room_1 Calls_1 rest_1 Pre_1 launch0 p0 e0 about1 theMethod args0 below0 :=
  ⟨lists_1, trivial, launch0.admits_env _ _ _, launch0.least_env, fairChoices_fair.cas, fairChoices_fair.clock, w_frames, w_args, w_heap, w_applies, trivial, trivial, w_case⟩
end start1
theorem witness_1 : WitnessClaimed_1 := ⟨start1.p0, start1.e0, start1.about1, start1.theMethod, start1.args0, start1.below0, start1.atStart⟩
end Jvm.Pilot.@@N@@
