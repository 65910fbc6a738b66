import JvmDerived
import JvmDerived.Pilot.@@N@@Statement
import JvmDerived.Pilot.@@N@@Code
set_option linter.unusedVariables false
set_option linter.unusedSimpArgs false
namespace Jvm.Own
open Jvm Jvm.ClassFile Sem Op Lib Jvm.Free Jvm.Stand Jvm.LawKit Jvm.RoadKit Bundle
def D1 (b : ByteArray) (pc : Nat) (i : Instr) (len nx : Nat) : Prop := decode b pc = .ok (i, len) ∧ pc + len = nx
def DJ (b : ByteArray) (pc : Nat) (i : Int → Instr) (o : Int) (nx tgt : Nat) : Prop := decode b pc = .ok (i o, 3) ∧ pc + 3 = nx ∧ (pc : Int) + o = (tgt : Int)
/-- private cells: no booked literal lies there -/
def SafeL (Z : State) (EL : List (String × Nat)) (vm : Vm) (h : Heap) (F : List Addr) : Prop := ∀ x ∈ F, x < h.size ∧ Safe Z EL vm h x
/-- where a walk stands -/
def Std (l : Launch) (Z : State) (EL : List (String × Nat)) (n0 : Nat) (R : Room) (y : MethodName) (bytes : ByteArray) (ml : Nat) (ret : Option FieldType)
    (p : Program) (e : Env) (s : State) (m : MethodId) (args : Array Value) (below : List Frame) (meth : Method) (c : Code) (T : State) (vm0 : Vm) (locs : List Loc) (F : List Addr) (h : Heap) (cells slots : Nat) : Prop :=
  Stand p l e R (s.setVm vm0) m args below meth c T locs cells slots ∧ T.heap = h ∧ (∃ k, s.Since vm0 k ∧ k ≤ h.size) ∧ Z.Warmed39 vm0 ∧ vm0.findClass y.cls = some m.cls ∧ CHr Z EL s.vm s.heap vm0 h ∧ SafeL Z EL vm0 h F ∧ Fr n0 locs ∧ Old Z n0 h ∧
    p.tables.exec = Jvm.exec ∧ c.code = bytes ∧ c.maxLocals = ml ∧ meth.sig.returnType = ret ∧ meth.locks = false ∧ meth.name = y.name ∧ ∃ a0, EW Z a0 EL
/-- how a walk ends -/
def Done (l : Launch) (Z : State) (EL : List (String × Nat)) (n0 : Nat) (R : Room) (Q : Option Value → Heap → List Addr → Prop) (p : Program) (e : Env) (s : State) (below : List Frame) (U : State) : Prop :=
  ∃ t o, Steps p.tables e below U t ∧ t.status = .running ∧ Ended t below o ∧ ∃ v L, o = .returned v ∧ ((∃ F, Q v t.heap F ∧ SafeL Z EL t.vm t.heap F) ∧ Fr n0 L ∧ Old Z n0 t.heap) ∧ CHr Z EL s.vm s.heap t.vm t.heap ∧ ReturnedEndW s o t L R.cells R.slots
/-- from a standing walk at this frame the method returns as Q says -/
def WP (l : Launch) (Z : State) (EL : List (String × Nat)) (n0 : Nat) (R : Room) (y : MethodName) (bytes : ByteArray) (ml : Nat) (ret : Option FieldType) (Q : Option Value → Heap → List Addr → Prop)
    (F : List Addr) (h : Heap) (cells slots pc : Nat) (Ls : Array Slot) (S : List Value) : Prop :=
  ∀ p e s m args below meth c T vm0 locs, Std l Z EL n0 R y bytes ml ret p e s m args below meth c T vm0 locs F h cells slots → Done l Z EL n0 R Q p e s below (T.setTop (mkF m pc Ls S))
section Rules
variable {l : Launch} {Z : State} {EL : List (String × Nat)} {n0 : Nat} {R : Room} {y : MethodName} {bytes : ByteArray} {ml : Nat} {ret : Option FieldType} {Q : Option Value → Heap → List Addr → Prop}
  {F : List Addr} {h : Heap} {cells slots pc pc' : Nat} {Ls Ls' : Array Slot} {S S' : List Value} {a0 : Array Value}
theorem Done.step {p : Program} {e : Env} {s : State} {below : List Frame} {U V : State} (st : ∀ t, Steps p.tables e below U t → Steps p.tables e below V t) (D : Done l Z EL n0 R Q p e s below U) : Done l Z EL n0 R Q p e s below V := by
  obtain ⟨t, o, h1, r⟩ := D
  exact ⟨t, o, st t h1, r⟩
theorem WP.lift (st : ∀ (p : Program) (e : Env) (m : MethodId) (c : Code) (below : List Frame) (T t : State), p.tables.exec = Jvm.exec → c.code = bytes → At T m c below → Steps p.tables e below (T.setTop (mkF m pc' Ls' S')) t → Steps p.tables e below (T.setTop (mkF m pc Ls S)) t)
    (k : WP l Z EL n0 R y bytes ml ret Q F h cells slots pc' Ls' S') : WP l Z EL n0 R y bytes ml ret Q F h cells slots pc Ls S :=
  fun p e s m args below meth c T vm0 locs D => (k p e s m args below meth c T vm0 locs D).step fun t q => st p e m c below T t D.2.2.2.2.2.2.2.2.2.1 D.2.2.2.2.2.2.2.2.2.2.1 D.1.here q
/-- a step that leaves the heap -/
theorem WP.same (st : ∀ (p : Program) (e : Env) (s : State) (m : MethodId) (args : Array Value) (below : List Frame) (meth : Method) (c : Code) (T : State) (vm0 : Vm) (locs : List Loc), Std l Z EL n0 R y bytes ml ret p e s m args below meth c T vm0 locs F h cells slots →
      ∃ T', Stand p l e R (s.setVm vm0) m args below meth c T' locs cells slots ∧ T'.heap = h ∧ ∀ t, Steps p.tables e below (T'.setTop (mkF m pc' Ls' S')) t → Steps p.tables e below (T.setTop (mkF m pc Ls S)) t)
    (k : WP l Z EL n0 R y bytes ml ret Q F h cells slots pc' Ls' S') : WP l Z EL n0 R y bytes ml ret Q F h cells slots pc Ls S := by
  intro p e s m args below meth c T vm0 locs D
  obtain ⟨T', X', e', q⟩ := st p e s m args below meth c T vm0 locs D
  obtain ⟨-, -, r⟩ := D
  exact (k p e s m args below meth c T' vm0 locs ⟨X', e', r⟩).step q
/-- a step that makes a cell -/
theorem WP.grow {P : Heap → Prop} {cells' slots' : Nat} {G : List Addr} (hG : ∀ h', Ext h h' → P h' → ∀ x ∈ G, x < h'.size ∧ h.size ≤ x) (st : ∀ (p : Program) (e : Env) (s : State) (m : MethodId) (args : Array Value) (below : List Frame) (meth : Method) (c : Code) (T : State) (vm0 : Vm) (locs : List Loc), Std l Z EL n0 R y bytes ml ret p e s m args below meth c T vm0 locs F h cells slots →
      ∃ T' h', Stand p l e R (s.setVm vm0) m args below meth c T' locs cells' slots' ∧ T'.heap = h' ∧ Ext h h' ∧ P h' ∧ ∀ t, Steps p.tables e below (T'.setTop (mkF m pc' Ls' S')) t → Steps p.tables e below (T.setTop (mkF m pc Ls S)) t)
    (k : ∀ h', Ext h h' → P h' → WP l Z EL n0 R y bytes ml ret Q (G ++ F) h' cells' slots' pc' Ls' S') : WP l Z EL n0 R y bytes ml ret Q F h cells slots pc Ls S := by
  intro p e s m args below meth c T vm0 locs D
  obtain ⟨T', h', X', e', E, hP, q⟩ := st p e s m args below meth c T vm0 locs D
  obtain ⟨-, -, ⟨k0, hS, hk⟩, hZ, hown, hC, hF, hN, hO, r⟩ := D
  refine (k h' E hP p e s m args below meth c T' vm0 locs ⟨X', e', ⟨k0, hS, Nat.le_trans hk E.1⟩, hZ, hown, hC.trans (CHr.ext E hC.1), fun x hx => ?_, hN, hO.ext E, r⟩).step q
  rcases List.mem_append.mp hx with hx | hx
  · obtain ⟨q1, q2⟩ := hG h' E hP x hx
    exact ⟨q1, fun B => Safe.new q2 ((hC.1.step fun _ _ _ q => E.2 _ _ q).2 _ B)⟩
  · exact ⟨Nat.lt_of_lt_of_le (hF x hx).1 E.1, (hF x hx).2.ext E hC.1⟩
/-- how a write is known to hit no literal -/
def SafeBy (Z : State) (EL : List (String × Nat)) (F : List Addr) (h : Heap) (a : Addr) : Prop := a < h.size ∧ ∀ vm, Z.vm.Alike vm → SafeL Z EL vm h F → Safe Z EL vm h a
theorem SafeBy.mem {a : Addr} (hl : a < h.size) (hm : a ∈ F) : SafeBy Z EL F h a := ⟨hl, fun _ _ q => (q a hm).2⟩
theorem SafeBy.exa {a : Addr} {C : String} (E : Exa Z h a C) (h1 : C ≠ "java/lang/String" := by decide) (h2 : C ≠ "[B" := by decide) : SafeBy Z EL F h a := ⟨E.lt, fun _ hal _ => Safe.exa hal E h1 h2⟩
theorem SafeBy.arr {a : Addr} {cl : Cell} {ty : FieldType} (A : Arr Z h a cl ty) (ht : ty ≠ .byte := by decide) : SafeBy Z EL F h a := ⟨A.lt, fun _ hal _ => Safe.arr hal A ht⟩
/-- a step that writes one place -/
theorem WP.write {a : Addr} {sl : Nat} {v : Value} (na : n0 ≤ a) (hs : SafeBy Z EL F h a) (st : ∀ (p : Program) (e : Env) (s : State) (m : MethodId) (args : Array Value) (below : List Frame) (meth : Method) (c : Code) (T : State) (vm0 : Vm) (locs : List Loc), Std l Z EL n0 R y bytes ml ret p e s m args below meth c T vm0 locs F h cells slots →
      ∃ T' h', Stand p l e R (s.setVm vm0) m args below meth c T' (locs ++ [⟨a, sl⟩]) cells slots ∧ T'.heap = h' ∧ Wr h h' a sl v ∧ ∀ t, Steps p.tables e below (T'.setTop (mkF m pc' Ls' S')) t → Steps p.tables e below (T.setTop (mkF m pc Ls S)) t)
    (k : ∀ h', Wr h h' a sl v → WP l Z EL n0 R y bytes ml ret Q F h' cells slots pc' Ls' S') : WP l Z EL n0 R y bytes ml ret Q F h cells slots pc Ls S := by
  intro p e s m args below meth c T vm0 locs D
  obtain ⟨T', h', X', e', W, q⟩ := st p e s m args below meth c T vm0 locs D
  obtain ⟨-, -, ⟨k0, hS, hk⟩, hZ, hown, hC, hF, hN, hO, r⟩ := D
  have sa := hs.2 vm0 hZ.alike hF
  refine (k h' W p e s m args below meth c T' vm0 _ ⟨X', e', ⟨k0, hS, by rw [W.size]; exact hk⟩, hZ, hown, hC.trans (CHr.wr W sa hC.1), fun x hx => ⟨by rw [W.size]; exact (hF x hx).1, Safe.wr W sa hC.1 (hF x hx).2⟩, Fr.snoc X' hN na, hO.wr W na, r⟩).step q
theorem WP.more {cells' slots' : Nat} (hc : cells ≤ cells') (hl : slots ≤ slots') (k : WP l Z EL n0 R y bytes ml ret Q F h cells' slots' pc Ls S) : WP l Z EL n0 R y bytes ml ret Q F h cells slots pc Ls S := by
  intro p e s m args below meth c T vm0 locs D
  obtain ⟨X, r⟩ := D
  exact k p e s m args below meth c T vm0 locs ⟨X.more hc hl, r⟩
theorem WP.less {F' : List Addr} (hF : ∀ x ∈ F', x ∈ F) (k : WP l Z EL n0 R y bytes ml ret Q F' h cells slots pc Ls S) : WP l Z EL n0 R y bytes ml ret Q F h cells slots pc Ls S := by
  intro p e s m args below meth c T vm0 locs D
  obtain ⟨X, e0, hS, hZ, hown, hC, hs, r⟩ := D
  exact k p e s m args below meth c T vm0 locs ⟨X, e0, hS, hZ, hown, hC, fun x hx => hs x (hF x hx), r⟩
/-- the end -/
theorem WP.leave {v : Option Value} (st : ∀ (p : Program) (e : Env) (s : State) (m : MethodId) (args : Array Value) (below : List Frame) (meth : Method) (c : Code) (T : State) (vm0 : Vm) (locs : List Loc) (fs : List Frame), Std l Z EL n0 R y bytes ml ret p e s m args below meth c T vm0 locs F h cells slots →
      (∀ (f : JFrame) (acts : List Action), f.method = m → f.locked = none → f.entered = [] → (doReturn e (T.setTop f) acts v).1 = T.setFrames fs) → Steps p.tables e below (T.setTop (mkF m pc Ls S)) (T.setFrames fs))
    (hv : ret = none → v = none) (hc : cells ≤ R.cells) (hl : slots ≤ R.slots) {G : List Addr} (hG : ∀ x ∈ G, x ∈ F) (hQ : Q v h G) : WP l Z EL n0 R y bytes ml ret Q F h cells slots pc Ls S := by
  intro p e s m args below meth c T vm0 locs D
  have D' := D
  obtain ⟨X, e0, ⟨k0, hS, hk⟩, hZ, hown, hC, hF, hN, hO, hx, hby, hml, hret, hlk, hnm, a0, hEL⟩ := D
  obtain ⟨fs, h1, h2, h3, h4, h5, h6, h7⟩ := X.leaveW hS (by rw [e0]; exact hk) (v := v) (fun q => hv (hret ▸ q)) hlk
  have hhp : (T.setFrames fs).heap = h := by rw [← e0]; rfl
  have B : CHr Z EL vm0 h T.vm h := CHv.at X hZ hEL hC.1
  refine ⟨_, _, st p e s m args below meth c T vm0 locs fs D' h1, h2, h3, v, locs, rfl, ⟨⟨G, by rw [hhp]; exact hQ, fun x hx => ?_⟩, hN, by rw [hhp]; exact hO⟩, by rw [hhp]; exact hC.trans B, h4, h5, h6, h7.mono hc hl⟩
  rw [hhp]
  exact ⟨(hF x (hG x hx)).1, B.safe (hF x (hG x hx)).1 (hF x (hG x hx)).2⟩
end Rules
section Plain
variable {l : Launch} {Z : State} {EL : List (String × Nat)} {n0 : Nat} {R : Room} {y : MethodName} {bytes : ByteArray} {ml : Nat} {ret : Option FieldType} {Q : Option Value → Heap → List Addr → Prop}
  {F : List Addr} {h : Heap} {cells slots pc pc' : Nat} {Ls Ls' : Array Slot} {S S' : List Value} {a0 : Array Value}
theorem WP.iadd {x y' : Int32} (hd : D1 bytes pc .iadd 1 pc') (k : WP l Z EL n0 R y bytes ml ret Q F h cells slots pc' Ls (.int (x + y') :: S)) : WP l Z EL n0 R y bytes ml ret Q F h cells slots pc Ls (.int y' :: .int x :: S) := by
  obtain ⟨hd, rfl⟩ := hd
  exact k.lift fun p e m c below T t hx hby ha q => XS.iadd ha hx rfl (hb hby hd) rfl q
theorem WP.isub {x y' : Int32} (hd : D1 bytes pc .isub 1 pc') (k : WP l Z EL n0 R y bytes ml ret Q F h cells slots pc' Ls (.int (x - y') :: S)) : WP l Z EL n0 R y bytes ml ret Q F h cells slots pc Ls (.int y' :: .int x :: S) := by
  obtain ⟨hd, rfl⟩ := hd
  exact k.lift fun p e m c below T t hx hby ha q => XS.isub ha hx rfl (hb hby hd) rfl q
theorem WP.imul {x y' : Int32} (hd : D1 bytes pc .imul 1 pc') (k : WP l Z EL n0 R y bytes ml ret Q F h cells slots pc' Ls (.int (x * y') :: S)) : WP l Z EL n0 R y bytes ml ret Q F h cells slots pc Ls (.int y' :: .int x :: S) := by
  obtain ⟨hd, rfl⟩ := hd
  exact k.lift fun p e m c below T t hx hby ha q => XS.imul ha hx rfl (hb hby hd) rfl q
theorem WP.iand {x y' : Int32} (hd : D1 bytes pc .iand 1 pc') (k : WP l Z EL n0 R y bytes ml ret Q F h cells slots pc' Ls (.int (x &&& y') :: S)) : WP l Z EL n0 R y bytes ml ret Q F h cells slots pc Ls (.int y' :: .int x :: S) := by
  obtain ⟨hd, rfl⟩ := hd
  exact k.lift fun p e m c below T t hx hby ha q => XS.iand ha hx rfl (hb hby hd) rfl q
theorem WP.ior {x y' : Int32} (hd : D1 bytes pc .ior 1 pc') (k : WP l Z EL n0 R y bytes ml ret Q F h cells slots pc' Ls (.int (x ||| y') :: S)) : WP l Z EL n0 R y bytes ml ret Q F h cells slots pc Ls (.int y' :: .int x :: S) := by
  obtain ⟨hd, rfl⟩ := hd
  exact k.lift fun p e m c below T t hx hby ha q => XS.ior ha hx rfl (hb hby hd) rfl q
theorem WP.ixor {x y' : Int32} (hd : D1 bytes pc .ixor 1 pc') (k : WP l Z EL n0 R y bytes ml ret Q F h cells slots pc' Ls (.int (x ^^^ y') :: S)) : WP l Z EL n0 R y bytes ml ret Q F h cells slots pc Ls (.int y' :: .int x :: S) := by
  obtain ⟨hd, rfl⟩ := hd
  exact k.lift fun p e m c below T t hx hby ha q => XS.ixor ha hx rfl (hb hby hd) rfl q
theorem WP.ishl {x y' : Int32} (hd : D1 bytes pc .ishl 1 pc') (k : WP l Z EL n0 R y bytes ml ret Q F h cells slots pc' Ls (.int (x <<< (y' &&& 31)) :: S)) : WP l Z EL n0 R y bytes ml ret Q F h cells slots pc Ls (.int y' :: .int x :: S) := by
  obtain ⟨hd, rfl⟩ := hd
  exact k.lift fun p e m c below T t hx hby ha q => XS.ishl ha hx rfl (hb hby hd) rfl q
theorem WP.ishr {x y' : Int32} (hd : D1 bytes pc .ishr 1 pc') (k : WP l Z EL n0 R y bytes ml ret Q F h cells slots pc' Ls (.int (x >>> (y' &&& 31)) :: S)) : WP l Z EL n0 R y bytes ml ret Q F h cells slots pc Ls (.int y' :: .int x :: S) := by
  obtain ⟨hd, rfl⟩ := hd
  exact k.lift fun p e m c below T t hx hby ha q => XS.ishr ha hx rfl (hb hby hd) rfl q
theorem WP.iushr {x y' : Int32} (hd : D1 bytes pc .iushr 1 pc') (k : WP l Z EL n0 R y bytes ml ret Q F h cells slots pc' Ls (.int ((x.toUInt32 >>> (y' &&& 31).toUInt32).toInt32) :: S)) : WP l Z EL n0 R y bytes ml ret Q F h cells slots pc Ls (.int y' :: .int x :: S) := by
  obtain ⟨hd, rfl⟩ := hd
  exact k.lift fun p e m c below T t hx hby ha q => XS.iushr ha hx rfl (hb hby hd) rfl q
theorem WP.idiv {x y' : Int32} (hd : D1 bytes pc .idiv 1 pc') (hy : y' ≠ 0) (k : WP l Z EL n0 R y bytes ml ret Q F h cells slots pc' Ls (.int (x / y') :: S)) : WP l Z EL n0 R y bytes ml ret Q F h cells slots pc Ls (.int y' :: .int x :: S) := by
  obtain ⟨hd, rfl⟩ := hd
  exact k.lift fun p e m c below T t hx hby ha q => XS.idiv ha hx rfl (hb hby hd) rfl hy q
theorem WP.irem {x y' : Int32} (hd : D1 bytes pc .irem 1 pc') (hy : y' ≠ 0) (k : WP l Z EL n0 R y bytes ml ret Q F h cells slots pc' Ls (.int (x - (x / y') * y') :: S)) : WP l Z EL n0 R y bytes ml ret Q F h cells slots pc Ls (.int y' :: .int x :: S) := by
  obtain ⟨hd, rfl⟩ := hd
  exact k.lift fun p e m c below T t hx hby ha q => XS.irem ha hx rfl (hb hby hd) rfl hy q
theorem WP.ladd {x y' : Int64} (hd : D1 bytes pc .ladd 1 pc') (k : WP l Z EL n0 R y bytes ml ret Q F h cells slots pc' Ls (.long (x + y') :: S)) : WP l Z EL n0 R y bytes ml ret Q F h cells slots pc Ls (.long y' :: .long x :: S) := by
  obtain ⟨hd, rfl⟩ := hd
  exact k.lift fun p e m c below T t hx hby ha q => XS.ladd ha hx rfl (hb hby hd) rfl q
theorem WP.lsub {x y' : Int64} (hd : D1 bytes pc .lsub 1 pc') (k : WP l Z EL n0 R y bytes ml ret Q F h cells slots pc' Ls (.long (x - y') :: S)) : WP l Z EL n0 R y bytes ml ret Q F h cells slots pc Ls (.long y' :: .long x :: S) := by
  obtain ⟨hd, rfl⟩ := hd
  exact k.lift fun p e m c below T t hx hby ha q => XS.lsub ha hx rfl (hb hby hd) rfl q
theorem WP.lmul {x y' : Int64} (hd : D1 bytes pc .lmul 1 pc') (k : WP l Z EL n0 R y bytes ml ret Q F h cells slots pc' Ls (.long (x * y') :: S)) : WP l Z EL n0 R y bytes ml ret Q F h cells slots pc Ls (.long y' :: .long x :: S) := by
  obtain ⟨hd, rfl⟩ := hd
  exact k.lift fun p e m c below T t hx hby ha q => XS.lmul ha hx rfl (hb hby hd) rfl q
theorem WP.land {x y' : Int64} (hd : D1 bytes pc .land 1 pc') (k : WP l Z EL n0 R y bytes ml ret Q F h cells slots pc' Ls (.long (x &&& y') :: S)) : WP l Z EL n0 R y bytes ml ret Q F h cells slots pc Ls (.long y' :: .long x :: S) := by
  obtain ⟨hd, rfl⟩ := hd
  exact k.lift fun p e m c below T t hx hby ha q => XS.land ha hx rfl (hb hby hd) rfl q
theorem WP.lor {x y' : Int64} (hd : D1 bytes pc .lor 1 pc') (k : WP l Z EL n0 R y bytes ml ret Q F h cells slots pc' Ls (.long (x ||| y') :: S)) : WP l Z EL n0 R y bytes ml ret Q F h cells slots pc Ls (.long y' :: .long x :: S) := by
  obtain ⟨hd, rfl⟩ := hd
  exact k.lift fun p e m c below T t hx hby ha q => XS.lor ha hx rfl (hb hby hd) rfl q
theorem WP.lxor {x y' : Int64} (hd : D1 bytes pc .lxor 1 pc') (k : WP l Z EL n0 R y bytes ml ret Q F h cells slots pc' Ls (.long (x ^^^ y') :: S)) : WP l Z EL n0 R y bytes ml ret Q F h cells slots pc Ls (.long y' :: .long x :: S) := by
  obtain ⟨hd, rfl⟩ := hd
  exact k.lift fun p e m c below T t hx hby ha q => XS.lxor ha hx rfl (hb hby hd) rfl q
theorem WP.ldiv {x y' : Int64} (hd : D1 bytes pc .ldiv 1 pc') (hy : y' ≠ 0) (k : WP l Z EL n0 R y bytes ml ret Q F h cells slots pc' Ls (.long (x / y') :: S)) : WP l Z EL n0 R y bytes ml ret Q F h cells slots pc Ls (.long y' :: .long x :: S) := by
  obtain ⟨hd, rfl⟩ := hd
  exact k.lift fun p e m c below T t hx hby ha q => XS.ldiv ha hx rfl (hb hby hd) rfl hy q
theorem WP.lrem {x y' : Int64} (hd : D1 bytes pc .lrem 1 pc') (hy : y' ≠ 0) (k : WP l Z EL n0 R y bytes ml ret Q F h cells slots pc' Ls (.long (x - (x / y') * y') :: S)) : WP l Z EL n0 R y bytes ml ret Q F h cells slots pc Ls (.long y' :: .long x :: S) := by
  obtain ⟨hd, rfl⟩ := hd
  exact k.lift fun p e m c below T t hx hby ha q => XS.lrem ha hx rfl (hb hby hd) rfl hy q
theorem WP.lshl {x : Int64} {y' : Int32} (hd : D1 bytes pc .lshl 1 pc') (k : WP l Z EL n0 R y bytes ml ret Q F h cells slots pc' Ls (.long (x <<< (y' &&& 0x3f).toInt64) :: S)) : WP l Z EL n0 R y bytes ml ret Q F h cells slots pc Ls (.int y' :: .long x :: S) := by
  obtain ⟨hd, rfl⟩ := hd
  exact k.lift fun p e m c below T t hx hby ha q => XS.lshl ha hx rfl (hb hby hd) rfl q
theorem WP.lshr {x : Int64} {y' : Int32} (hd : D1 bytes pc .lshr 1 pc') (k : WP l Z EL n0 R y bytes ml ret Q F h cells slots pc' Ls (.long (x >>> (y' &&& 0x3f).toInt64) :: S)) : WP l Z EL n0 R y bytes ml ret Q F h cells slots pc Ls (.int y' :: .long x :: S) := by
  obtain ⟨hd, rfl⟩ := hd
  exact k.lift fun p e m c below T t hx hby ha q => XS.lshr ha hx rfl (hb hby hd) rfl q
theorem WP.lushr {x : Int64} {y' : Int32} (hd : D1 bytes pc .lushr 1 pc') (k : WP l Z EL n0 R y bytes ml ret Q F h cells slots pc' Ls (.long ((x.toUInt64 >>> (y' &&& 0x3f).toInt64.toUInt64).toInt64) :: S)) : WP l Z EL n0 R y bytes ml ret Q F h cells slots pc Ls (.int y' :: .long x :: S) := by
  obtain ⟨hd, rfl⟩ := hd
  exact k.lift fun p e m c below T t hx hby ha q => XS.lushr ha hx rfl (hb hby hd) rfl q
theorem WP.lcmp {x y' : Int64} (hd : D1 bytes pc .lcmp 1 pc') (k : WP l Z EL n0 R y bytes ml ret Q F h cells slots pc' Ls (.int (lcmpW x y') :: S)) : WP l Z EL n0 R y bytes ml ret Q F h cells slots pc Ls (.long y' :: .long x :: S) := by
  obtain ⟨hd, rfl⟩ := hd
  exact k.lift fun p e m c below T t hx hby ha q => XS.lcmp ha hx rfl (hb hby hd) rfl q
theorem WP.ineg {x : Int32} (hd : D1 bytes pc .ineg 1 pc') (k : WP l Z EL n0 R y bytes ml ret Q F h cells slots pc' Ls (.int (-x) :: S)) : WP l Z EL n0 R y bytes ml ret Q F h cells slots pc Ls (.int x :: S) := by
  obtain ⟨hd, rfl⟩ := hd
  exact k.lift fun p e m c below T t hx hby ha q => XS.ineg ha hx rfl (hb hby hd) rfl q
theorem WP.lneg {x : Int64} (hd : D1 bytes pc .lneg 1 pc') (k : WP l Z EL n0 R y bytes ml ret Q F h cells slots pc' Ls (.long (-x) :: S)) : WP l Z EL n0 R y bytes ml ret Q F h cells slots pc Ls (.long x :: S) := by
  obtain ⟨hd, rfl⟩ := hd
  exact k.lift fun p e m c below T t hx hby ha q => XS.lneg ha hx rfl (hb hby hd) rfl q
theorem WP.i2l {x : Int32} (hd : D1 bytes pc .i2l 1 pc') (k : WP l Z EL n0 R y bytes ml ret Q F h cells slots pc' Ls (.long (x.toInt64) :: S)) : WP l Z EL n0 R y bytes ml ret Q F h cells slots pc Ls (.int x :: S) := by
  obtain ⟨hd, rfl⟩ := hd
  exact k.lift fun p e m c below T t hx hby ha q => XS.i2l ha hx rfl (hb hby hd) rfl q
theorem WP.l2i {x : Int64} (hd : D1 bytes pc .l2i 1 pc') (k : WP l Z EL n0 R y bytes ml ret Q F h cells slots pc' Ls (.int (x.toInt32) :: S)) : WP l Z EL n0 R y bytes ml ret Q F h cells slots pc Ls (.long x :: S) := by
  obtain ⟨hd, rfl⟩ := hd
  exact k.lift fun p e m c below T t hx hby ha q => XS.l2i ha hx rfl (hb hby hd) rfl q
theorem WP.i2b {x : Int32} (hd : D1 bytes pc .i2b 1 pc') (k : WP l Z EL n0 R y bytes ml ret Q F h cells slots pc' Ls (.int (x.toInt8.toInt32) :: S)) : WP l Z EL n0 R y bytes ml ret Q F h cells slots pc Ls (.int x :: S) := by
  obtain ⟨hd, rfl⟩ := hd
  exact k.lift fun p e m c below T t hx hby ha q => XS.i2b ha hx rfl (hb hby hd) rfl q
theorem WP.i2s {x : Int32} (hd : D1 bytes pc .i2s 1 pc') (k : WP l Z EL n0 R y bytes ml ret Q F h cells slots pc' Ls (.int (x.toInt16.toInt32) :: S)) : WP l Z EL n0 R y bytes ml ret Q F h cells slots pc Ls (.int x :: S) := by
  obtain ⟨hd, rfl⟩ := hd
  exact k.lift fun p e m c below T t hx hby ha q => XS.i2s ha hx rfl (hb hby hd) rfl q
theorem WP.i2c {x : Int32} (hd : D1 bytes pc .i2c 1 pc') (k : WP l Z EL n0 R y bytes ml ret Q F h cells slots pc' Ls (.int (x.toUInt32.toUInt16.toUInt32.toInt32) :: S)) : WP l Z EL n0 R y bytes ml ret Q F h cells slots pc Ls (.int x :: S) := by
  obtain ⟨hd, rfl⟩ := hd
  exact k.lift fun p e m c below T t hx hby ha q => XS.i2c ha hx rfl (hb hby hd) rfl q
theorem WP.iload_n {i : Fin 4} {x : Int32} (hd : D1 bytes pc (.iload_n i) 1 pc') (hl : Ls[i.val]? = some (.val (.int x))) (k : WP l Z EL n0 R y bytes ml ret Q F h cells slots pc' Ls (.int x :: S)) : WP l Z EL n0 R y bytes ml ret Q F h cells slots pc Ls S := by
  obtain ⟨hd, rfl⟩ := hd
  exact k.lift fun p e m c below T t hx hby ha q => XS.iloadN ha hx rfl (hb hby hd) hl q
theorem WP.iload {i : Nat} {x : Int32} (hd : D1 bytes pc (.iload i) 2 pc') (hl : Ls[i]? = some (.val (.int x))) (k : WP l Z EL n0 R y bytes ml ret Q F h cells slots pc' Ls (.int x :: S)) : WP l Z EL n0 R y bytes ml ret Q F h cells slots pc Ls S := by
  obtain ⟨hd, rfl⟩ := hd
  exact k.lift fun p e m c below T t hx hby ha q => XS.iload ha hx rfl (hb hby hd) hl q
theorem WP.lload_n {i : Fin 4} {x : Int64} (hd : D1 bytes pc (.lload_n i) 1 pc') (hl : Ls[i.val]? = some (.val (.long x))) (k : WP l Z EL n0 R y bytes ml ret Q F h cells slots pc' Ls (.long x :: S)) : WP l Z EL n0 R y bytes ml ret Q F h cells slots pc Ls S := by
  obtain ⟨hd, rfl⟩ := hd
  exact k.lift fun p e m c below T t hx hby ha q => XS.lloadN ha hx rfl (hb hby hd) hl q
theorem WP.lload {i : Nat} {x : Int64} (hd : D1 bytes pc (.lload i) 2 pc') (hl : Ls[i]? = some (.val (.long x))) (k : WP l Z EL n0 R y bytes ml ret Q F h cells slots pc' Ls (.long x :: S)) : WP l Z EL n0 R y bytes ml ret Q F h cells slots pc Ls S := by
  obtain ⟨hd, rfl⟩ := hd
  exact k.lift fun p e m c below T t hx hby ha q => XS.lload ha hx rfl (hb hby hd) hl q
theorem WP.aload_n {i : Fin 4} {x : Value} (hd : D1 bytes pc (.aload_n i) 1 pc') (hl : Ls[i.val]? = some (.val x)) (hv : x.isRef = true) (k : WP l Z EL n0 R y bytes ml ret Q F h cells slots pc' Ls (x :: S)) : WP l Z EL n0 R y bytes ml ret Q F h cells slots pc Ls S := by
  obtain ⟨hd, rfl⟩ := hd
  exact k.lift fun p e m c below T t hx hby ha q => XS.aloadN ha hx rfl (hb hby hd) hl hv q
theorem WP.aload {i : Nat} {x : Value} (hd : D1 bytes pc (.aload i) 2 pc') (hl : Ls[i]? = some (.val x)) (hv : x.isRef = true) (k : WP l Z EL n0 R y bytes ml ret Q F h cells slots pc' Ls (x :: S)) : WP l Z EL n0 R y bytes ml ret Q F h cells slots pc Ls S := by
  obtain ⟨hd, rfl⟩ := hd
  exact k.lift fun p e m c below T t hx hby ha q => XS.aload ha hx rfl (hb hby hd) hl hv q
theorem WP.istore_n {i : Fin 4} {x z : Int32} (hd : D1 bytes pc (.istore_n i) 1 pc') (hz : x = z) (hl : storeLocals Ls i.val (.int z) = some Ls') (k : WP l Z EL n0 R y bytes ml ret Q F h cells slots pc' Ls' S) : WP l Z EL n0 R y bytes ml ret Q F h cells slots pc Ls (.int x :: S) := by
  obtain ⟨hd, rfl⟩ := hd
  subst hz
  exact k.lift fun p e m c below T t hx hby ha q => XS.istoreN ha hx rfl (hb hby hd) rfl hl q
theorem WP.istore {i : Nat} {x z : Int32} (hd : D1 bytes pc (.istore i) 2 pc') (hz : x = z) (hl : storeLocals Ls i (.int z) = some Ls') (k : WP l Z EL n0 R y bytes ml ret Q F h cells slots pc' Ls' S) : WP l Z EL n0 R y bytes ml ret Q F h cells slots pc Ls (.int x :: S) := by
  obtain ⟨hd, rfl⟩ := hd
  subst hz
  exact k.lift fun p e m c below T t hx hby ha q => XS.istore ha hx rfl (hb hby hd) rfl hl q
theorem WP.lstore_n {i : Fin 4} {x z : Int64} (hd : D1 bytes pc (.lstore_n i) 1 pc') (hz : x = z) (hl : storeLocals Ls i.val (.long z) = some Ls') (k : WP l Z EL n0 R y bytes ml ret Q F h cells slots pc' Ls' S) : WP l Z EL n0 R y bytes ml ret Q F h cells slots pc Ls (.long x :: S) := by
  obtain ⟨hd, rfl⟩ := hd
  subst hz
  exact k.lift fun p e m c below T t hx hby ha q => XS.lstoreN ha hx rfl (hb hby hd) rfl hl q
theorem WP.lstore {i : Nat} {x z : Int64} (hd : D1 bytes pc (.lstore i) 2 pc') (hz : x = z) (hl : storeLocals Ls i (.long z) = some Ls') (k : WP l Z EL n0 R y bytes ml ret Q F h cells slots pc' Ls' S) : WP l Z EL n0 R y bytes ml ret Q F h cells slots pc Ls (.long x :: S) := by
  obtain ⟨hd, rfl⟩ := hd
  subst hz
  exact k.lift fun p e m c below T t hx hby ha q => XS.lstore ha hx rfl (hb hby hd) rfl hl q
theorem WP.astore_n {i : Fin 4} {x : Value} (hd : D1 bytes pc (.astore_n i) 1 pc') (hl : storeLocals Ls i.val x = some Ls') (hv : x.isRef = true) (k : WP l Z EL n0 R y bytes ml ret Q F h cells slots pc' Ls' S) : WP l Z EL n0 R y bytes ml ret Q F h cells slots pc Ls (x :: S) := by
  obtain ⟨hd, rfl⟩ := hd
  exact k.lift fun p e m c below T t hx hby ha q => XS.astoreN ha hx rfl (hb hby hd) rfl hv hl q
theorem WP.astore {i : Nat} {x : Value} (hd : D1 bytes pc (.astore i) 2 pc') (hl : storeLocals Ls i x = some Ls') (hv : x.isRef = true) (k : WP l Z EL n0 R y bytes ml ret Q F h cells slots pc' Ls' S) : WP l Z EL n0 R y bytes ml ret Q F h cells slots pc Ls (x :: S) := by
  obtain ⟨hd, rfl⟩ := hd
  exact k.lift fun p e m c below T t hx hby ha q => XS.astore ha hx rfl (hb hby hd) rfl hv hl q
theorem WP.iinc {i : Nat} {cst : Int} {x v : Int32} (hd : D1 bytes pc (.iinc i cst) 3 pc') (hl : Ls[i]? = some (.val (.int x))) (hv : x + Int32.ofInt cst = v) (hl' : storeLocals Ls i (.int v) = some Ls') (k : WP l Z EL n0 R y bytes ml ret Q F h cells slots pc' Ls' S) : WP l Z EL n0 R y bytes ml ret Q F h cells slots pc Ls S := by
  obtain ⟨hd, rfl⟩ := hd
  subst hv
  exact k.lift fun p e m c below T t hx hby ha q => XS.iinc ha hx rfl (hb hby hd) hl hl' q
theorem WP.iconst {i : Int} {v : Int32} (hd : D1 bytes pc (.iconst i) 1 pc') (hv : Int32.ofInt i = v) (k : WP l Z EL n0 R y bytes ml ret Q F h cells slots pc' Ls (.int v :: S)) : WP l Z EL n0 R y bytes ml ret Q F h cells slots pc Ls S := by
  obtain ⟨hd, rfl⟩ := hd
  subst hv
  exact k.lift fun p e m c below T t hx hby ha q => XS.iconst ha hx rfl (hb hby hd) q
theorem WP.bipush {i : Int} {v : Int32} (hd : D1 bytes pc (.bipush i) 2 pc') (hv : (Int8.ofInt i).toInt32 = v) (k : WP l Z EL n0 R y bytes ml ret Q F h cells slots pc' Ls (.int v :: S)) : WP l Z EL n0 R y bytes ml ret Q F h cells slots pc Ls S := by
  obtain ⟨hd, rfl⟩ := hd
  subst hv
  exact k.lift fun p e m c below T t hx hby ha q => XS.bipush ha hx rfl (hb hby hd) q
theorem WP.sipush {i : Int} {v : Int32} (hd : D1 bytes pc (.sipush i) 3 pc') (hv : (Int16.ofInt i).toInt32 = v) (k : WP l Z EL n0 R y bytes ml ret Q F h cells slots pc' Ls (.int v :: S)) : WP l Z EL n0 R y bytes ml ret Q F h cells slots pc Ls S := by
  obtain ⟨hd, rfl⟩ := hd
  subst hv
  exact k.lift fun p e m c below T t hx hby ha q => XS.sipush ha hx rfl (hb hby hd) q
theorem WP.lconst {i : Fin 2} {v : Int64} (hd : D1 bytes pc (.lconst i) 1 pc') (hv : Int64.ofNat i = v) (k : WP l Z EL n0 R y bytes ml ret Q F h cells slots pc' Ls (.long v :: S)) : WP l Z EL n0 R y bytes ml ret Q F h cells slots pc Ls S := by
  obtain ⟨hd, rfl⟩ := hd
  subst hv
  exact k.lift fun p e m c below T t hx hby ha q => XS.lconst ha hx rfl (hb hby hd) q
theorem WP.aconst_null (hd : D1 bytes pc .aconst_null 1 pc') (k : WP l Z EL n0 R y bytes ml ret Q F h cells slots pc' Ls (.null :: S)) : WP l Z EL n0 R y bytes ml ret Q F h cells slots pc Ls S := by
  obtain ⟨hd, rfl⟩ := hd
  exact k.lift fun p e m c below T t hx hby ha q => XS.aconstNull ha hx rfl (hb hby hd) q
theorem WP.dup {x : Value} (hd : D1 bytes pc .dup 1 pc') (hc : x.category = 1) (k : WP l Z EL n0 R y bytes ml ret Q F h cells slots pc' Ls (x :: x :: S)) : WP l Z EL n0 R y bytes ml ret Q F h cells slots pc Ls (x :: S) := by
  obtain ⟨hd, rfl⟩ := hd
  exact k.lift fun p e m c below T t hx hby ha q => XS.dup ha hx rfl (hb hby hd) rfl hc q
theorem WP.dup_x1 {x y' : Value} (hd : D1 bytes pc .dup_x1 1 pc') (hc : x.category = 1) (hc' : y'.category = 1) (k : WP l Z EL n0 R y bytes ml ret Q F h cells slots pc' Ls (x :: y' :: x :: S)) : WP l Z EL n0 R y bytes ml ret Q F h cells slots pc Ls (x :: y' :: S) := by
  obtain ⟨hd, rfl⟩ := hd
  exact k.lift fun p e m c below T t hx hby ha q => XS.dupX1 ha hx rfl (hb hby hd) rfl hc hc' q
theorem WP.pop {x : Value} (hd : D1 bytes pc .pop 1 pc') (hc : x.category = 1) (k : WP l Z EL n0 R y bytes ml ret Q F h cells slots pc' Ls S) : WP l Z EL n0 R y bytes ml ret Q F h cells slots pc Ls (x :: S) := by
  obtain ⟨hd, rfl⟩ := hd
  exact k.lift fun p e m c below T t hx hby ha q => XS.pop ha hx rfl (hb hby hd) rfl hc q
theorem tgt_of {o : Int} {tgt : Nat} (q : (pc : Int) + o = (tgt : Int)) : 0 ≤ (pc : Int) + o ∧ ((pc : Int) + o).toNat = tgt := ⟨by omega, by omega⟩
theorem WP.goto {o : Int} {nx tgt : Nat} (hd : DJ bytes pc .goto o nx tgt) (k : WP l Z EL n0 R y bytes ml ret Q F h cells slots tgt Ls S) : WP l Z EL n0 R y bytes ml ret Q F h cells slots pc Ls S := by
  obtain ⟨hd, -, ht⟩ := hd
  exact k.lift fun p e m c below T t hx hby ha q => XS.goto ha hx rfl rfl (hb hby hd) (tgt_of ht).1 (tgt_of ht).2 q
theorem WP.ifC {cd : ClassFile.Cond} {x : Int32} {o : Int} {nx tgt : Nat} (hd : DJ bytes pc (.ifCond cd) o nx tgt) (k1 : ifCond.holds cd x = true → WP l Z EL n0 R y bytes ml ret Q F h cells slots tgt Ls S) (k2 : ifCond.holds cd x = false → WP l Z EL n0 R y bytes ml ret Q F h cells slots nx Ls S) : WP l Z EL n0 R y bytes ml ret Q F h cells slots pc Ls (.int x :: S) := by
  obtain ⟨hd, rfl, ht⟩ := hd
  cases hc : ifCond.holds cd x with
  | true => exact (k1 hc).lift fun p e m c below T t hx hby ha q => XS.ifYes ha hx rfl rfl (hb hby hd) rfl hc (tgt_of ht).1 (tgt_of ht).2 q
  | false => exact (k2 hc).lift fun p e m c below T t hx hby ha q => XS.ifNo ha hx rfl (hb hby hd) rfl hc q
theorem WP.icmpC {cd : ClassFile.Cond} {x y' : Int32} {o : Int} {nx tgt : Nat} (hd : DJ bytes pc (.if_icmp cd) o nx tgt) (k1 : if_icmp.holds cd x y' = true → WP l Z EL n0 R y bytes ml ret Q F h cells slots tgt Ls S) (k2 : if_icmp.holds cd x y' = false → WP l Z EL n0 R y bytes ml ret Q F h cells slots nx Ls S) : WP l Z EL n0 R y bytes ml ret Q F h cells slots pc Ls (.int y' :: .int x :: S) := by
  obtain ⟨hd, rfl, ht⟩ := hd
  cases hc : if_icmp.holds cd x y' with
  | true => exact (k1 hc).lift fun p e m c below T t hx hby ha q => XS.icmpYes ha hx rfl rfl (hb hby hd) rfl hc (tgt_of ht).1 (tgt_of ht).2 q
  | false => exact (k2 hc).lift fun p e m c below T t hx hby ha q => XS.icmpNo ha hx rfl (hb hby hd) rfl hc q
theorem WP.ifnull {x : Value} {o : Int} {nx tgt : Nat} (hd : DJ bytes pc .ifnull o nx tgt) (hr : x.isRef = true) (k1 : x = .null → WP l Z EL n0 R y bytes ml ret Q F h cells slots tgt Ls S) (k2 : ∀ a, x = .ref a → WP l Z EL n0 R y bytes ml ret Q F h cells slots nx Ls S) : WP l Z EL n0 R y bytes ml ret Q F h cells slots pc Ls (x :: S) := by
  obtain ⟨hd, rfl, ht⟩ := hd
  rcases ref_cases hr with rfl | ⟨a, rfl⟩
  · exact (k1 rfl).lift fun p e m c below T t hx hby ha q => XS.ifnullYes ha hx rfl rfl (hb hby hd) rfl (tgt_of ht).1 (tgt_of ht).2 q
  · exact (k2 a rfl).lift fun p e m c below T t hx hby ha q => XS.ifnullNo ha hx rfl (hb hby hd) rfl q
theorem WP.ifnonnull {x : Value} {o : Int} {nx tgt : Nat} (hd : DJ bytes pc .ifnonnull o nx tgt) (hr : x.isRef = true) (k1 : ∀ a, x = .ref a → WP l Z EL n0 R y bytes ml ret Q F h cells slots tgt Ls S) (k2 : x = .null → WP l Z EL n0 R y bytes ml ret Q F h cells slots nx Ls S) : WP l Z EL n0 R y bytes ml ret Q F h cells slots pc Ls (x :: S) := by
  obtain ⟨hd, rfl, ht⟩ := hd
  rcases ref_cases hr with rfl | ⟨a, rfl⟩
  · exact (k2 rfl).lift fun p e m c below T t hx hby ha q => XS.ifnonnullNo ha hx rfl (hb hby hd) rfl q
  · exact (k1 a rfl).lift fun p e m c below T t hx hby ha q => XS.ifnonnullYes ha hx rfl rfl (hb hby hd) rfl (tgt_of ht).1 (tgt_of ht).2 q
theorem WP.acmp_ne {x y' : Value} {o : Int} {nx tgt : Nat} (hd : DJ bytes pc (.if_acmp .ne) o nx tgt) (hr : x.isRef = true) (hr' : y'.isRef = true) (k1 : ¬ x = y' → WP l Z EL n0 R y bytes ml ret Q F h cells slots tgt Ls S) (k2 : x = y' → WP l Z EL n0 R y bytes ml ret Q F h cells slots nx Ls S) : WP l Z EL n0 R y bytes ml ret Q F h cells slots pc Ls (y' :: x :: S) := by
  obtain ⟨hd, rfl, ht⟩ := hd
  by_cases hc : x = y'
  · exact (k2 hc).lift fun p e m c below T t hx hby ha q => XT.acmpNo ha hx rfl (hb hby hd) rfl hr hr' (XT.aa_ne_f hc) q
  · exact (k1 hc).lift fun p e m c below T t hx hby ha q => XT.acmpYes ha hx rfl rfl (hb hby hd) rfl hr hr' (XT.aa_ne_t hc) (tgt_of ht).1 (tgt_of ht).2 q
theorem WP.acmp_eq {x y' : Value} {o : Int} {nx tgt : Nat} (hd : DJ bytes pc (.if_acmp .eq) o nx tgt) (hr : x.isRef = true) (hr' : y'.isRef = true) (k1 : x = y' → WP l Z EL n0 R y bytes ml ret Q F h cells slots tgt Ls S) (k2 : ¬ x = y' → WP l Z EL n0 R y bytes ml ret Q F h cells slots nx Ls S) : WP l Z EL n0 R y bytes ml ret Q F h cells slots pc Ls (y' :: x :: S) := by
  obtain ⟨hd, rfl, ht⟩ := hd
  by_cases hc : x = y'
  · exact (k1 hc).lift fun p e m c below T t hx hby ha q => XT.acmpYes ha hx rfl rfl (hb hby hd) rfl hr hr' (XT.aa_eq_t hc) (tgt_of ht).1 (tgt_of ht).2 q
  · exact (k2 hc).lift fun p e m c below T t hx hby ha q => XT.acmpNo ha hx rfl (hb hby hd) rfl hr hr' (XT.aa_eq_f hc) q
theorem WP.icmp_eq {x y' : Int32} {o : Int} {nx tgt : Nat} (hd : DJ bytes pc (.if_icmp .eq) o nx tgt) (k1 : x = y' → WP l Z EL n0 R y bytes ml ret Q F h cells slots tgt Ls S) (k2 : ¬ x = y' → WP l Z EL n0 R y bytes ml ret Q F h cells slots nx Ls S) : WP l Z EL n0 R y bytes ml ret Q F h cells slots pc Ls (.int y' :: .int x :: S) :=
  WP.icmpC hd (fun q => k1 (Classical.byContradiction fun z => by have := XT.ii_eq_f (x := x) (y := y') (by simpa using z); rw [q] at this; cases this)) (fun q => k2 (Classical.byContradiction fun z => by have := XT.ii_eq_t (x := x) (y := y') (by simpa using z); rw [q] at this; cases this))
theorem WP.if_eq {x : Int32} {o : Int} {nx tgt : Nat} (hd : DJ bytes pc (.ifCond .eq) o nx tgt) (k1 : x = 0 → WP l Z EL n0 R y bytes ml ret Q F h cells slots tgt Ls S) (k2 : ¬ x = 0 → WP l Z EL n0 R y bytes ml ret Q F h cells slots nx Ls S) : WP l Z EL n0 R y bytes ml ret Q F h cells slots pc Ls (.int x :: S) :=
  WP.ifC hd (fun q => k1 (Classical.byContradiction fun z => by have := XT.i0_eq_f (x := x) (by simpa using z); rw [q] at this; cases this)) (fun q => k2 (Classical.byContradiction fun z => by have := XT.i0_eq_t (x := x) (by simpa using z); rw [q] at this; cases this))
theorem WP.icmp_ne {x y' : Int32} {o : Int} {nx tgt : Nat} (hd : DJ bytes pc (.if_icmp .ne) o nx tgt) (k1 : ¬ x = y' → WP l Z EL n0 R y bytes ml ret Q F h cells slots tgt Ls S) (k2 : x = y' → WP l Z EL n0 R y bytes ml ret Q F h cells slots nx Ls S) : WP l Z EL n0 R y bytes ml ret Q F h cells slots pc Ls (.int y' :: .int x :: S) :=
  WP.icmpC hd (fun q => k1 (Classical.byContradiction fun z => by have := XT.ii_ne_f (x := x) (y := y') (by simpa using z); rw [q] at this; cases this)) (fun q => k2 (Classical.byContradiction fun z => by have := XT.ii_ne_t (x := x) (y := y') (by simpa using z); rw [q] at this; cases this))
theorem WP.if_ne {x : Int32} {o : Int} {nx tgt : Nat} (hd : DJ bytes pc (.ifCond .ne) o nx tgt) (k1 : ¬ x = 0 → WP l Z EL n0 R y bytes ml ret Q F h cells slots tgt Ls S) (k2 : x = 0 → WP l Z EL n0 R y bytes ml ret Q F h cells slots nx Ls S) : WP l Z EL n0 R y bytes ml ret Q F h cells slots pc Ls (.int x :: S) :=
  WP.ifC hd (fun q => k1 (Classical.byContradiction fun z => by have := XT.i0_ne_f (x := x) (by simpa using z); rw [q] at this; cases this)) (fun q => k2 (Classical.byContradiction fun z => by have := XT.i0_ne_t (x := x) (by simpa using z); rw [q] at this; cases this))
theorem WP.icmp_lt {x y' : Int32} {o : Int} {nx tgt : Nat} (hd : DJ bytes pc (.if_icmp .lt) o nx tgt) (k1 : x < y' → WP l Z EL n0 R y bytes ml ret Q F h cells slots tgt Ls S) (k2 : ¬ x < y' → WP l Z EL n0 R y bytes ml ret Q F h cells slots nx Ls S) : WP l Z EL n0 R y bytes ml ret Q F h cells slots pc Ls (.int y' :: .int x :: S) :=
  WP.icmpC hd (fun q => k1 (Classical.byContradiction fun z => by have := XT.ii_lt_f (x := x) (y := y') (by simpa using z); rw [q] at this; cases this)) (fun q => k2 (Classical.byContradiction fun z => by have := XT.ii_lt_t (x := x) (y := y') (by simpa using z); rw [q] at this; cases this))
theorem WP.if_lt {x : Int32} {o : Int} {nx tgt : Nat} (hd : DJ bytes pc (.ifCond .lt) o nx tgt) (k1 : x < 0 → WP l Z EL n0 R y bytes ml ret Q F h cells slots tgt Ls S) (k2 : ¬ x < 0 → WP l Z EL n0 R y bytes ml ret Q F h cells slots nx Ls S) : WP l Z EL n0 R y bytes ml ret Q F h cells slots pc Ls (.int x :: S) :=
  WP.ifC hd (fun q => k1 (Classical.byContradiction fun z => by have := XT.i0_lt_f (x := x) (by simpa using z); rw [q] at this; cases this)) (fun q => k2 (Classical.byContradiction fun z => by have := XT.i0_lt_t (x := x) (by simpa using z); rw [q] at this; cases this))
theorem WP.icmp_ge {x y' : Int32} {o : Int} {nx tgt : Nat} (hd : DJ bytes pc (.if_icmp .ge) o nx tgt) (k1 : ¬ x < y' → WP l Z EL n0 R y bytes ml ret Q F h cells slots tgt Ls S) (k2 : x < y' → WP l Z EL n0 R y bytes ml ret Q F h cells slots nx Ls S) : WP l Z EL n0 R y bytes ml ret Q F h cells slots pc Ls (.int y' :: .int x :: S) :=
  WP.icmpC hd (fun q => k1 (Classical.byContradiction fun z => by have := XT.ii_ge_f (x := x) (y := y') (by simpa using z); rw [q] at this; cases this)) (fun q => k2 (Classical.byContradiction fun z => by have := XT.ii_ge_t (x := x) (y := y') (by simpa using z); rw [q] at this; cases this))
theorem WP.if_ge {x : Int32} {o : Int} {nx tgt : Nat} (hd : DJ bytes pc (.ifCond .ge) o nx tgt) (k1 : ¬ x < 0 → WP l Z EL n0 R y bytes ml ret Q F h cells slots tgt Ls S) (k2 : x < 0 → WP l Z EL n0 R y bytes ml ret Q F h cells slots nx Ls S) : WP l Z EL n0 R y bytes ml ret Q F h cells slots pc Ls (.int x :: S) :=
  WP.ifC hd (fun q => k1 (Classical.byContradiction fun z => by have := XT.i0_ge_f (x := x) (by simpa using z); rw [q] at this; cases this)) (fun q => k2 (Classical.byContradiction fun z => by have := XT.i0_ge_t (x := x) (by simpa using z); rw [q] at this; cases this))
theorem WP.icmp_gt {x y' : Int32} {o : Int} {nx tgt : Nat} (hd : DJ bytes pc (.if_icmp .gt) o nx tgt) (k1 : y' < x → WP l Z EL n0 R y bytes ml ret Q F h cells slots tgt Ls S) (k2 : ¬ y' < x → WP l Z EL n0 R y bytes ml ret Q F h cells slots nx Ls S) : WP l Z EL n0 R y bytes ml ret Q F h cells slots pc Ls (.int y' :: .int x :: S) :=
  WP.icmpC hd (fun q => k1 (Classical.byContradiction fun z => by have := XT.ii_gt_f (x := x) (y := y') (by simpa using z); rw [q] at this; cases this)) (fun q => k2 (Classical.byContradiction fun z => by have := XT.ii_gt_t (x := x) (y := y') (by simpa using z); rw [q] at this; cases this))
theorem WP.if_gt {x : Int32} {o : Int} {nx tgt : Nat} (hd : DJ bytes pc (.ifCond .gt) o nx tgt) (k1 : 0 < x → WP l Z EL n0 R y bytes ml ret Q F h cells slots tgt Ls S) (k2 : ¬ 0 < x → WP l Z EL n0 R y bytes ml ret Q F h cells slots nx Ls S) : WP l Z EL n0 R y bytes ml ret Q F h cells slots pc Ls (.int x :: S) :=
  WP.ifC hd (fun q => k1 (Classical.byContradiction fun z => by have := XT.i0_gt_f (x := x) (by simpa using z); rw [q] at this; cases this)) (fun q => k2 (Classical.byContradiction fun z => by have := XT.i0_gt_t (x := x) (by simpa using z); rw [q] at this; cases this))
theorem WP.icmp_le {x y' : Int32} {o : Int} {nx tgt : Nat} (hd : DJ bytes pc (.if_icmp .le) o nx tgt) (k1 : ¬ y' < x → WP l Z EL n0 R y bytes ml ret Q F h cells slots tgt Ls S) (k2 : y' < x → WP l Z EL n0 R y bytes ml ret Q F h cells slots nx Ls S) : WP l Z EL n0 R y bytes ml ret Q F h cells slots pc Ls (.int y' :: .int x :: S) :=
  WP.icmpC hd (fun q => k1 (Classical.byContradiction fun z => by have := XT.ii_le_f (x := x) (y := y') (by simpa using z); rw [q] at this; cases this)) (fun q => k2 (Classical.byContradiction fun z => by have := XT.ii_le_t (x := x) (y := y') (by simpa using z); rw [q] at this; cases this))
theorem WP.if_le {x : Int32} {o : Int} {nx tgt : Nat} (hd : DJ bytes pc (.ifCond .le) o nx tgt) (k1 : ¬ 0 < x → WP l Z EL n0 R y bytes ml ret Q F h cells slots tgt Ls S) (k2 : 0 < x → WP l Z EL n0 R y bytes ml ret Q F h cells slots nx Ls S) : WP l Z EL n0 R y bytes ml ret Q F h cells slots pc Ls (.int x :: S) :=
  WP.ifC hd (fun q => k1 (Classical.byContradiction fun z => by have := XT.i0_le_f (x := x) (by simpa using z); rw [q] at this; cases this)) (fun q => k2 (Classical.byContradiction fun z => by have := XT.i0_le_t (x := x) (by simpa using z); rw [q] at this; cases this))
end Plain
end Jvm.Own
namespace Jvm.Own
open Jvm Jvm.ClassFile Sem Op Lib Jvm.Free Jvm.Stand Jvm.LawKit Jvm.RoadKit Bundle
/-- an array of ints, bytes, chars, shorts or booleans: its components -/
def IA (Z : State) (h : Heap) (a : Addr) (ty : FieldType) (xs : List Int32) : Prop := ∃ c : Cell, Arr Z h a c ty ∧ c.slots = (xs.map Value.int).toArray ∧ xs.length < 2 ^ 31
theorem nle {a b : Nat} (h : Nat.ble a b = true) : a ≤ b := Nat.le_of_ble_eq_true h
theorem nlt {a : Addr} {n : Nat} (h : a < n) : @LT.lt Nat instLTNat a n := h
theorem nea {a b : Addr} (h : @LT.lt Nat instLTNat a b ∨ @LT.lt Nat instLTNat b a) : a ≠ b := fun e => by
  subst e
  exact h.elim (Nat.lt_irrefl _) (Nat.lt_irrefl _)
/-- j is the int of the place i -/
def Ix (j : Int32) (i : Nat) : Prop := j.toInt = (i : Int)
theorem Ix.nn {j : Int32} {i : Nat} (q : Ix j i) : ¬ j < 0 := by
  rw [Int32.lt_iff_toInt_lt, q]; show ¬ (i : Int) < 0; omega
theorem Ix.clamp {j : Int32} {i : Nat} (q : Ix j i) : j.toNatClampNeg = i := by
  unfold Ix at q; simp only [Int32.toNatClampNeg, q]; exact Int.toNat_natCast i
theorem Ix.ofNat {i : Nat} (q : i < 2 ^ 31) : Ix (Int32.ofNat i) i := Int32.toInt_ofNat_of_lt q
section Facts
variable {Z : State} {h h' : Heap} {a b : Addr} {ty : FieldType} {xs : List Int32} {sl : Nat} {v : Value} {ws : List Addr}
theorem IA.lt (A : IA Z h a ty xs) : a < h.size := by obtain ⟨c, A, -⟩ := A; exact A.lt
theorem IA.len (A : IA Z h a ty xs) : xs.length < 2 ^ 31 := by obtain ⟨c, -, -, q⟩ := A; exact q
theorem IA.ext (A : IA Z h a ty xs) (E : Ext h h') : IA Z h' a ty xs := by obtain ⟨c, A, r⟩ := A; exact ⟨c, A.ext E, r⟩
theorem IA.other (A : IA Z h b ty xs) (W : Wr h h' a sl v) (q : b ≠ a) : IA Z h' b ty xs := by obtain ⟨c, A, r⟩ := A; exact ⟨c, A.other W q, r⟩
theorem IA.keep (A : IA Z h a ty xs) (K : Keep h h' ws) (q : a ∉ ws) : IA Z h' a ty xs := by obtain ⟨c, A, r⟩ := A; exact ⟨c, ⟨K.2.1 a c A.1 q, A.2⟩, r⟩
theorem IA.set {i : Nat} {x : Int32} (A : IA Z h a ty xs) (W : Wr h h' a i (.int x)) : IA Z h' a ty (xs.set i x) := by
  obtain ⟨c, A, e, q⟩ := A
  refine ⟨_, A.same W, ?_, by simpa using q⟩
  simp [Cell.setSlot, e, List.map_set]
theorem IA.of_arv {k : ClassId} {z : Int32} {d : Value} (A : Arv Z h a k ty z (xs.map Value.int) d) (hl : z.toNatClampNeg = xs.length) : IA Z h a ty xs := by
  obtain ⟨c, A, -, q1, q2, q3, -⟩ := A
  have hs : c.slots.size = xs.length := q1.trans hl
  refine ⟨c, A, ?_, ?_⟩
  · apply Array.ext_getElem?
    intro i
    by_cases hi : i < xs.length
    · rw [q3 i (by omega)]; simp [hi]
    · rw [Array.getElem?_eq_none (by omega), Array.getElem?_eq_none (by simp; omega)]
  · rw [← hl]
    have := (back32 q2).2
    exact this
theorem IA.size {c : Cell} (e : c.slots = (xs.map Value.int).toArray) : c.slots.size = xs.length := by rw [e]; simp
theorem Exa.neIA {C : String} {n : Nat} {a0 : Array Value} (E : Exa Z h a C) (w : (Cond.instantiable C n).before a0 Z = true) (A : IA Z h b ty xs) : a ≠ b := by
  obtain ⟨c, A, -⟩ := A
  exact ne_arr E w A
end Facts
section Heap
variable {l : Launch} {Z : State} {EL : List (String × Nat)} {n0 : Nat} {R : Room} {y : MethodName} {bytes : ByteArray} {ml : Nat} {ret : Option FieldType} {Q : Option Value → Heap → List Addr → Prop}
  {F : List Addr} {h : Heap} {cells slots pc pc' : Nat} {Ls Ls' : Array Slot} {S S' : List Value} {a0 : Array Value}
theorem WP.new {idx n : Nat} {C : String} (hd : D1 bytes pc (.new idx) 3 pc') (w : (Cond.classLink y.cls idx C).before a0 Z = true) (wi : (Cond.instantiable C n).before a0 Z = true) (wz : (Cond.initialized C).before a0 Z = true) (hc : cells + 1 ≤ R.cells) (hl : slots + n ≤ R.slots)
    (k : ∀ (h' : Heap) (b : Nat), b = h.size → Ext h h' → Exa Z h' b C → (∀ {O nm d : String} {ty : FieldType}, Laid Z a0 C O nm d → parseFieldDescriptor d = some ty → Fld Z h' b O nm d (defaultValue ty)) → Unt h' b → WP l Z EL n0 R y bytes ml ret Q (b :: F) h' (cells + 1) (slots + n) pc' Ls (.ref b :: S)) :
    WP l Z EL n0 R y bytes ml ret Q F h cells slots pc Ls S := by
  obtain ⟨hd, rfl⟩ := hd
  refine WP.grow (G := [h.size]) (P := fun h' => Exa Z h' h.size C ∧ (∀ {O nm d : String} {ty : FieldType}, Laid Z a0 C O nm d → parseFieldDescriptor d = some ty → Fld Z h' h.size O nm d (defaultValue ty)) ∧ Unt h' h.size) (fun h' E hP x hx => ?_) (fun p e s m args below meth c T vm0 locs D => ?_) (fun h' E hP => k h' _ rfl E hP.1 hP.2.1 hP.2.2)
  · cases List.mem_singleton.mp hx; exact ⟨hP.1.lt, Nat.le_refl _⟩
  · obtain ⟨X, e0, -, hZ, hown, -, -, -, -, hx, hby, -⟩ := D
    obtain ⟨T', h', X', e', E, A, D', U, st⟩ := newO X hx hZ hown w wi wz e0 (g := mkF m pc Ls S) rfl (hb hby hd) hc hl
    exact ⟨T', h', X', e', E, ⟨A, D', U⟩, st⟩
theorem WP.newarray {aty : ArrayType} {n : Int32} {cap i : Nat} (hd : D1 bytes pc (.newarray aty) 2 pc') (w : (Cond.arrayClass (newarray.typeOf aty)).before a0 Z = true) (hz : defaultValue (newarray.typeOf aty) = .int 0) (hn : Ix n i) (hcap : i ≤ cap) (hbig : cap * 8 ≤ 536870912) (hc : cells + 1 ≤ R.cells) (hl : slots + cap ≤ R.slots)
    (k : ∀ (h' : Heap) (b : Nat), b = h.size → Ext h h' → IA Z h' b (newarray.typeOf aty) (List.replicate i 0) → WP l Z EL n0 R y bytes ml ret Q (b :: F) h' (cells + 1) (slots + cap) pc' Ls (.ref b :: S)) :
    WP l Z EL n0 R y bytes ml ret Q F h cells slots pc Ls (.int n :: S) := by
  obtain ⟨hd, rfl⟩ := hd
  refine WP.grow (G := [h.size]) (P := fun h' => IA Z h' h.size (newarray.typeOf aty) (List.replicate i 0)) (fun h' E hP x hx => ?_) (fun p e s m args below meth c T vm0 locs D => ?_) (fun h' E hP => k h' _ rfl E hP)
  · cases List.mem_singleton.mp hx; exact ⟨hP.lt, Nat.le_refl _⟩
  · obtain ⟨X, e0, -, hZ, hown, -, -, -, -, hx, hby, -⟩ := D
    obtain ⟨T', h', cA, X', e', E, A, st⟩ := newP X hx hZ w e0 (g := mkF m pc Ls (.int n :: S)) rfl (hb hby hd) rfl hn.nn (cap := cap) (by rw [hn.clamp]; exact hcap) hbig hc hl
    exact ⟨T', h', X', e', E, ⟨_, A, by simp [newA, hn.clamp, hz], by have := hn; have := Int32.toInt_lt n; simp only [Ix] at *; simp; omega⟩, st⟩
theorem WP.castore {a : Addr} {xs : List Int32} {j x : Int32} {i : Nat} (hd : D1 bytes pc .castore 1 pc') (A : IA Z h a .char xs) (hj : Ix j i) (hi : i < xs.length) (na : n0 ≤ a)
    (k : ∀ h', Wr h h' a i (.int (nar .char x)) → WP l Z EL n0 R y bytes ml ret Q F h' cells slots pc' Ls S) : WP l Z EL n0 R y bytes ml ret Q F h cells slots pc Ls (.int x :: .int j :: .ref a :: S) := by
  obtain ⟨hd, rfl⟩ := hd
  obtain ⟨c, A, e, q⟩ := A
  refine WP.write na (SafeBy.arr A) (fun p e1 s m args below meth c' T vm0 locs D => ?_) k
  obtain ⟨X, e0, -, hZ, hown, -, -, -, -, hx, hby, -⟩ := D
  have := stC (x := x) X hx hZ e0 A (j := j) (by rw [IA.size e, hj.clamp]; exact fun z => z.elim hj.nn fun z => by omega) (g := mkF m pc Ls (.int x :: .int j :: .ref a :: S)) rfl rfl (hb hby hd)
  rw [hj.clamp] at this
  exact this
theorem WP.bastore {a : Addr} {xs : List Int32} {j x : Int32} {i : Nat} (hd : D1 bytes pc .bastore 1 pc') (A : IA Z h a .byte xs) (hm : SafeBy Z EL F h a) (hj : Ix j i) (hi : i < xs.length) (na : n0 ≤ a)
    (k : ∀ h', Wr h h' a i (.int (nar .byte x)) → WP l Z EL n0 R y bytes ml ret Q F h' cells slots pc' Ls S) : WP l Z EL n0 R y bytes ml ret Q F h cells slots pc Ls (.int x :: .int j :: .ref a :: S) := by
  obtain ⟨hd, rfl⟩ := hd
  obtain ⟨c, A, e, q⟩ := A
  refine WP.write na hm (fun p e1 s m args below meth c' T vm0 locs D => ?_) k
  obtain ⟨X, e0, -, hZ, hown, -, -, -, -, hx, hby, -⟩ := D
  have := stB (x := x) X hx hZ e0 A (j := j) (by rw [IA.size e, hj.clamp]; exact fun z => z.elim hj.nn fun z => by omega) (g := mkF m pc Ls (.int x :: .int j :: .ref a :: S)) rfl rfl (hb hby hd)
  rw [hj.clamp] at this
  exact this
theorem WP.iastore {a : Addr} {xs : List Int32} {j x : Int32} {i : Nat} (hd : D1 bytes pc .iastore 1 pc') (A : IA Z h a .int xs) (hj : Ix j i) (hi : i < xs.length) (na : n0 ≤ a)
    (k : ∀ h', Wr h h' a i (.int x) → WP l Z EL n0 R y bytes ml ret Q F h' cells slots pc' Ls S) : WP l Z EL n0 R y bytes ml ret Q F h cells slots pc Ls (.int x :: .int j :: .ref a :: S) := by
  obtain ⟨hd, rfl⟩ := hd
  obtain ⟨c, A, e, q⟩ := A
  refine WP.write na (SafeBy.arr A) (fun p e1 s m args below meth c' T vm0 locs D => ?_) k
  obtain ⟨X, e0, -, hZ, hown, -, -, -, -, hx, hby, -⟩ := D
  have := stI (x := x) X hx hZ e0 A (j := j) (by rw [IA.size e, hj.clamp]; exact fun z => z.elim hj.nn fun z => by omega) (g := mkF m pc Ls (.int x :: .int j :: .ref a :: S)) rfl rfl (hb hby hd)
  rw [hj.clamp] at this
  exact this
theorem WP.arraylength {a : Addr} {ty : FieldType} {xs : List Int32} (hd : D1 bytes pc .arraylength 1 pc') (A : IA Z h a ty xs) (k : WP l Z EL n0 R y bytes ml ret Q F h cells slots pc' Ls (.int (Int32.ofNat xs.length) :: S)) : WP l Z EL n0 R y bytes ml ret Q F h cells slots pc Ls (.ref a :: S) := by
  obtain ⟨hd, rfl⟩ := hd
  obtain ⟨c, A, e, q⟩ := A
  refine WP.same (fun p e1 s m args below meth c' T vm0 locs D => ?_) k
  obtain ⟨X, e0, -, hZ, hown, -, -, -, -, hx, hby, -⟩ := D
  refine ⟨T, X, e0, fun t q => X.arraylength hx (by rw [e0]; exact A.1) (State.isArrayOf_alike (T := s.setVm vm0) hZ.alike A.2.1) (g := mkF m pc Ls (.ref a :: S)) rfl rfl (hb hby hd) t ?_⟩
  rw [IA.size e]
  exact q
theorem IA.at {c : Cell} {xs : List Int32} {x : Int32} {i : Nat} (e : c.slots = (xs.map Value.int).toArray) (hx : xs[i]? = some x) : c.slots[i]? = some (.int x) := by rw [e]; simp [hx]
theorem WP.caload {a : Addr} {xs : List Int32} {j x : Int32} {i : Nat} (hd : D1 bytes pc .caload 1 pc') (A : IA Z h a .char xs) (hj : Ix j i) (hx : xs[i]? = some x) (k : WP l Z EL n0 R y bytes ml ret Q F h cells slots pc' Ls (.int x :: S)) : WP l Z EL n0 R y bytes ml ret Q F h cells slots pc Ls (.int j :: .ref a :: S) := by
  obtain ⟨hd, rfl⟩ := hd
  obtain ⟨c, A, e, q⟩ := A
  have hi : i < xs.length := (List.getElem?_eq_some_iff.mp hx).1
  refine WP.same (fun p e1 s m args below meth c' T vm0 locs D => ?_) k
  obtain ⟨X, e0, -, hZ, hown, -, -, -, -, hxx, hby, -⟩ := D
  exact ⟨T, X, e0, fun t q => X.caload hxx (v := .int x) (by rw [e0]; exact A.1) (State.isArrayOf_alike (T := s.setVm vm0) hZ.alike A.2.1) A.2.2 (by rw [IA.size e, hj.clamp]; exact fun z => z.elim hj.nn fun z => by omega) (by rw [hj.clamp]; exact IA.at e hx) (g := mkF m pc Ls (.int j :: .ref a :: S)) rfl rfl (hb hby hd) t q⟩
theorem WP.baload {a : Addr} {xs : List Int32} {j x : Int32} {i : Nat} (hd : D1 bytes pc .baload 1 pc') (A : IA Z h a .byte xs) (hj : Ix j i) (hx : xs[i]? = some x) (k : WP l Z EL n0 R y bytes ml ret Q F h cells slots pc' Ls (.int x :: S)) : WP l Z EL n0 R y bytes ml ret Q F h cells slots pc Ls (.int j :: .ref a :: S) := by
  obtain ⟨hd, rfl⟩ := hd
  obtain ⟨c, A, e, q⟩ := A
  have hi : i < xs.length := (List.getElem?_eq_some_iff.mp hx).1
  refine WP.same (fun p e1 s m args below meth c' T vm0 locs D => ?_) k
  obtain ⟨X, e0, -, hZ, hown, -, -, -, -, hxx, hby, -⟩ := D
  exact ⟨T, X, e0, fun t q => X.baloadBytes hxx (v := .int x) (by rw [e0]; exact A.1) (State.isArrayOf_alike (T := s.setVm vm0) hZ.alike A.2.1) A.2.2 (by rw [IA.size e, hj.clamp]; exact fun z => z.elim hj.nn fun z => by omega) (by rw [hj.clamp]; exact IA.at e hx) (g := mkF m pc Ls (.int j :: .ref a :: S)) rfl rfl (hb hby hd) t q⟩
theorem WP.iaload {a : Addr} {xs : List Int32} {j x : Int32} {i : Nat} (hd : D1 bytes pc .iaload 1 pc') (A : IA Z h a .int xs) (hj : Ix j i) (hx : xs[i]? = some x) (k : WP l Z EL n0 R y bytes ml ret Q F h cells slots pc' Ls (.int x :: S)) : WP l Z EL n0 R y bytes ml ret Q F h cells slots pc Ls (.int j :: .ref a :: S) := by
  obtain ⟨hd, rfl⟩ := hd
  obtain ⟨c, A, e, q⟩ := A
  have hi : i < xs.length := (List.getElem?_eq_some_iff.mp hx).1
  refine WP.same (fun p e1 s m args below meth c' T vm0 locs D => ?_) k
  obtain ⟨X, e0, -, hZ, hown, -, -, -, -, hxx, hby, -⟩ := D
  exact ⟨T, X, e0, fun t q => X.iaload hxx (v := .int x) (by rw [e0]; exact A.1) (State.isArrayOf_alike (T := s.setVm vm0) hZ.alike A.2.1) A.2.2 (by rw [IA.size e, hj.clamp]; exact fun z => z.elim hj.nn fun z => by omega) (by rw [hj.clamp]; exact IA.at e hx) (g := mkF m pc Ls (.int j :: .ref a :: S)) rfl rfl (hb hby hd) t q⟩
theorem WP.getfield {idx : Nat} {R0 O nm d host : String} {a : Addr} {v : Value} (hd : D1 bytes pc (.getfield idx) 3 pc') (w : (Cond.fieldLink y.cls idx R0 nm d).before a0 Z = true ∨ (Cond.fieldLinkNest y.cls idx R0 nm d host).before a0 Z = true) (via : Via Z R0 O nm d) (A : Fld Z h a O nm d v) (k : WP l Z EL n0 R y bytes ml ret Q F h cells slots pc' Ls (v :: S)) : WP l Z EL n0 R y bytes ml ret Q F h cells slots pc Ls (.ref a :: S) := by
  obtain ⟨hd, rfl⟩ := hd
  refine WP.same (fun p e1 s m args below meth c' T vm0 locs D => ?_) k
  obtain ⟨X, e0, -, hZ, hown, -, -, -, -, hxx, hby, -⟩ := D
  exact getF X hxx hZ hown w via e0 A (g := mkF m pc Ls (.ref a :: S)) rfl rfl (hb hby hd)
theorem WP.putfield {idx kk : Nat} {R0 O nm d host C : String} {ty : FieldType} {a : Addr} {v old : Value} (hd : D1 bytes pc (.putfield idx) 3 pc') (w : (Cond.fieldLink y.cls idx R0 nm d).before a0 Z = true ∨ (Cond.fieldLinkNest y.cls idx R0 nm d host).before a0 Z = true) (via : Via Z R0 O nm d) (A : Fld Z h a O nm d old) (E : Exa Z h a C)
    (L : (Cond.lays C O nm d).before a0 Z = true ∨ ((Cond.laysFinal C O nm d).before a0 Z = true ∧ y.cls = O ∧ y.name = "<init>")) (wi : (Cond.instantiable C kk).before a0 Z = true) (hty : parseFieldDescriptor d = some ty) (hn : narrow ty v = v) (hf : fits ty v = true) (na : n0 ≤ a) (hs : SafeBy Z EL F h a)
    (k : ∀ h', Wr h h' a (Jvm.RoadKit.slotOf Z O nm d) v → WP l Z EL n0 R y bytes ml ret Q F h' cells slots pc' Ls S) : WP l Z EL n0 R y bytes ml ret Q F h cells slots pc Ls (v :: .ref a :: S) := by
  obtain ⟨hd, rfl⟩ := hd
  refine WP.write na hs (fun p e1 s m args below meth c' T vm0 locs D => ?_) k
  obtain ⟨X, e0, -, hZ, hown, -, -, -, -, hxx, hby, -, -, -, hnm, -⟩ := D
  exact putF X hxx hZ hown w via e0 A E (L.imp id fun q => ⟨q.1, q.2.1, hnm.trans q.2.2⟩) wi hty hn hf (g := mkF m pc Ls (v :: .ref a :: S)) rfl rfl (hb hby hd)
theorem WP.getstatic {idx : Nat} {R0 O nm d : String} {v : Value} (hd : D1 bytes pc (.getstatic idx) 3 pc') (w : (Cond.fieldLink y.cls idx R0 nm d).before a0 Z = true) (via : Via Z R0 O nm d) (A : Sta Z Z.heap O nm d v) (k : WP l Z EL n0 R y bytes ml ret Q F h cells slots pc' Ls (v :: S)) : WP l Z EL n0 R y bytes ml ret Q F h cells slots pc Ls S := by
  obtain ⟨hd, rfl⟩ := hd
  refine WP.same (fun p e1 s m args below meth c' T vm0 locs D => ?_) k
  obtain ⟨X, e0, -, hZ, hown, -, -, -, hO, hxx, hby, -⟩ := D
  exact getS (host := "") X hxx hZ hown w via e0 (A.ext hO.2) (g := mkF m pc Ls S) rfl (hb hby hd)
theorem WP.checkcast {idx : Nat} {K : String} {a : Addr} (hd : D1 bytes pc (.checkcast idx) 3 pc') (w : (Cond.classLink y.cls idx K).before a0 Z = true) (A : Ins Z h a K true) (k : WP l Z EL n0 R y bytes ml ret Q F h cells slots pc' Ls (.ref a :: S)) : WP l Z EL n0 R y bytes ml ret Q F h cells slots pc Ls (.ref a :: S) := by
  obtain ⟨hd, rfl⟩ := hd
  refine WP.same (fun p e1 s m args below meth c' T vm0 locs D => ?_) k
  obtain ⟨X, e0, -, hZ, hown, -, -, -, hO, hxx, hby, -⟩ := D
  exact castY X hxx hZ hown w e0 A (g := mkF m pc Ls (.ref a :: S)) rfl rfl (hb hby hd)
theorem WP.instanceof {idx : Nat} {K : String} {a : Addr} (hd : D1 bytes pc (.instanceof idx) 3 pc') (w : (Cond.classLink y.cls idx K).before a0 Z = true) (A : Ins Z h a K true) (k : WP l Z EL n0 R y bytes ml ret Q F h cells slots pc' Ls (.int 1 :: S)) : WP l Z EL n0 R y bytes ml ret Q F h cells slots pc Ls (.ref a :: S) := by
  obtain ⟨hd, rfl⟩ := hd
  refine WP.same (fun p e1 s m args below meth c' T vm0 locs D => ?_) k
  obtain ⟨X, e0, -, hZ, hown, -, -, -, hO, hxx, hby, -⟩ := D
  exact instY X hxx hZ hown w e0 A (g := mkF m pc Ls (.ref a :: S)) rfl rfl (hb hby hd)
theorem WP.initObject {idx : Nat} {a : Addr} (hd : D1 bytes pc (.invokespecial idx) 3 pc') (w1 : (Cond.methodLink y.cls idx Lib.objectInit).before a0 Z = true) (w2 : (Cond.instanceMethod Lib.objectInit).before a0 Z = true) (w3 : (Cond.code Lib.objectInit ⟨#[0xb1]⟩ 1 none).before a0 Z = true) (hsz : Ls.size = ml) (hf : 1 ≤ R.frames) (hl : (S.map fun v => v.category).sum + 12 ≤ R.locals)
    (k : WP l Z EL n0 R y bytes ml ret Q F h cells slots pc' Ls S) : WP l Z EL n0 R y bytes ml ret Q F h cells slots pc Ls (.ref a :: S) := by
  obtain ⟨hd, rfl⟩ := hd
  refine WP.same (fun p e1 s m args below meth c' T vm0 locs D => ?_) k
  obtain ⟨X, e0, -, hZ, hown, -, -, -, hO, hxx, hby, hml, -⟩ := D
  exact initO X hxx hZ hown w1 w2 w3 e0 (g := mkF m pc Ls (.ref a :: S)) rfl (by rw [hml]; exact hsz) rfl (hb hby hd) hf (W := (S.map fun v => v.category).sum) (by show 2 * 0 + _ ≤ _; omega) hl
/-- ldc of a String constant, read -/
theorem WP.ldcS {idx n : Nat} {text : String} {bs : List Int32} (hd : D1 bytes pc (.ldc idx) 2 pc') (hEL : EW Z a0 EL) (hmem : (y.cls, idx) ∈ EL) (w : (Cond.stringLink y.cls idx text).before a0 Z = true) (wS : ∀ a ∈ Bundle.stringAtoms, a.before a0 Z = true)
    (ht : (∀ c ∈ text.toList, c.toNat < 256) ∧ text.toList.map (fun c => Jvm.Lit.byteI c.toNat.toUInt16) = bs) (hlen : bs.length < 2 ^ 31) (hn : 4 * text.toList.length ≤ n) (hbig : n ≤ 536870912) (hc : cells + 2 ≤ R.cells) (hl' : slots + (n + 4) ≤ R.slots)
    (k : ∀ h' a b, Ext h h' → Exa Z h' a "java/lang/String" → Fld Z h' a "java/lang/String" "coder" "B" (.int 0) → Fld Z h' a "java/lang/String" "value" "[B" (.ref b) → IA Z h' b .byte bs → WP l Z EL n0 R y bytes ml ret Q F h' (cells + 2) (slots + (n + 4)) pc' Ls (.ref a :: S)) : WP l Z EL n0 R y bytes ml ret Q F h cells slots pc Ls S := by
  obtain ⟨hd, rfl⟩ := hd
  intro p e s m args below meth c T vm0 locs D
  obtain ⟨X, e0, ⟨k0, hS, hk⟩, hZ, hown, hC, hF, hN, hO, hx, hby, r⟩ := D
  have hz : (Int32.ofNat bs.length).toNatClampNeg = (bs.map Value.int).length := by rw [(Ix.ofNat hlen).clamp]; simp
  obtain ⟨a, T', h', k1, b, kb, X', e', E, hS', hk', hZ', hown', hE, hco, hva, hA, -, -, hC', -, -, st⟩ := ldcCH X hx hZ hown w wS e0 hS hk hEL hmem hC.1 (vs := bs.map Value.int) (z := Int32.ofNat bs.length) ⟨ht.1, by rw [← ht.2, List.map_map]; rfl⟩ (Ix.ofNat hlen).nn hz (g := mkF m pc Ls S) rfl (hb hby hd) hn hbig hc hl'
  exact (k h' a b E hE hco hva (IA.of_arv hA (by rw [hz]; simp)) p e s m args below meth c T' T'.vm locs ⟨X', e', ⟨k1, hS', hk'⟩, hZ', hown', hC.trans hC', fun x hx => ⟨Nat.lt_of_lt_of_le (hF x hx).1 E.1, hC'.safe (hF x hx).1 (hF x hx).2⟩, hN, hO.ext E, hx, hby, r⟩).step st
/-- ldc of a String constant, not read -/
theorem WP.ldcO {idx n : Nat} {text : String} (hd : D1 bytes pc (.ldc idx) 2 pc') (hEL : EW Z a0 EL) (w : (Cond.stringLink y.cls idx text).before a0 Z = true) (wS : ∀ a ∈ Bundle.stringAtoms, a.before a0 Z = true)
    (hn : 4 * text.toList.length ≤ n) (hbig : n ≤ 536870912) (hc : cells + 2 ≤ R.cells) (hl' : slots + (n + 4) ≤ R.slots)
    (k : ∀ h' a, Ext h h' → WP l Z EL n0 R y bytes ml ret Q F h' (cells + 2) (slots + (n + 4)) pc' Ls (.ref a :: S)) : WP l Z EL n0 R y bytes ml ret Q F h cells slots pc Ls S := by
  obtain ⟨hd, rfl⟩ := hd
  intro p e s m args below meth c T vm0 locs D
  obtain ⟨X, e0, ⟨k0, hS, hk⟩, hZ, hown, hC, hF, hN, hO, hx, hby, r⟩ := D
  obtain ⟨a, T', h', k1, X', e', E, hS', hk', hZ', hown', hC', -, st⟩ := ldcOH X hx hZ hown w wS e0 hS hk hEL hC.1 (g := mkF m pc Ls S) rfl (hb hby hd) hn hbig hc hl'
  exact (k h' a E p e s m args below meth c T' T'.vm locs ⟨X', e', ⟨k1, hS', hk'⟩, hZ', hown', hC.trans hC', fun x hx => ⟨Nat.lt_of_lt_of_le (hF x hx).1 E.1, hC'.safe (hF x hx).1 (hF x hx).2⟩, hN, hO.ext E, hx, hby, r⟩).step st
/-- return of anything that its type takes as it is -/
theorem WP.retV {w : Value} {i : Instr} {t : FieldType} (hd : D1 bytes pc i 1 pc') (hr : ret = some t) (hn : narrow t w = w)
    (hi : (i = .ireturn ∧ (t = .int ∨ t = .boolean ∨ t = .byte ∨ t = .char ∨ t = .short) ∧ ∃ z, w = .int z) ∨ (i = .lreturn ∧ t = .long ∧ ∃ z, w = .long z) ∨ (i = .dreturn ∧ t = .double ∧ ∃ z, w = .double z) ∨ (i = .freturn ∧ t = .float ∧ ∃ z, w = .float z) ∨ (i = .areturn ∧ t.isReference = true ∧ w.isRef = true))
    (hc : cells ≤ R.cells) (hl : slots ≤ R.slots) {G : List Addr} (hG : ∀ x ∈ G, x ∈ F) (hQ : Q (some w) h G) : WP l Z EL n0 R y bytes ml ret Q F h cells slots pc Ls (w :: S) := by
  obtain ⟨hd, rfl⟩ := hd
  refine WP.leave (v := some w) (fun p e s m args below meth c T vm0 locs fs D hlv => ?_) (fun q => by rw [hr] at q; cases q) hc hl hG hQ
  obtain ⟨X, e0, -, hZ, hown, -, -, -, -, hx, hby, -, hret, -⟩ := D
  exact retOut X hx (hret.trans hr) hn hi (hb hby hd) hlv
theorem WP.ireturn {z : Int32} {t : FieldType} (hd : D1 bytes pc .ireturn 1 pc') (hr : ret = some t) (ht : t = .int ∨ t = .boolean ∨ t = .byte ∨ t = .char ∨ t = .short) (hn : narrow t (.int z) = .int z) (hc : cells ≤ R.cells) (hl : slots ≤ R.slots) {G : List Addr} (hG : ∀ x ∈ G, x ∈ F) (hQ : Q (some (.int z)) h G) : WP l Z EL n0 R y bytes ml ret Q F h cells slots pc Ls (.int z :: S) :=
  WP.retV hd hr hn (Or.inl ⟨rfl, ht, z, rfl⟩) hc hl hG hQ
theorem WP.areturn {w : Value} {t : FieldType} (hd : D1 bytes pc .areturn 1 pc') (hr : ret = some t) (ht : t.isReference = true) (hw : w.isRef = true) (hc : cells ≤ R.cells) (hl : slots ≤ R.slots) {G : List Addr} (hG : ∀ x ∈ G, x ∈ F) (hQ : Q (some w) h G) : WP l Z EL n0 R y bytes ml ret Q F h cells slots pc Ls (w :: S) :=
  WP.retV hd hr (by cases t <;> first | (cases ht; done) | (rcases ref_cases hw with rfl | ⟨a, rfl⟩ <;> rfl)) (Or.inr (Or.inr (Or.inr (Or.inr ⟨rfl, ht, hw⟩)))) hc hl hG hQ
theorem WP.return_ (hd : D1 bytes pc .return_ 1 pc') (hr : ret = none) (hc : cells ≤ R.cells) (hl : slots ≤ R.slots) {G : List Addr} (hG : ∀ x ∈ G, x ∈ F) (hQ : Q none h G) : WP l Z EL n0 R y bytes ml ret Q F h cells slots pc Ls [] := by
  obtain ⟨hd, rfl⟩ := hd
  refine WP.leave (v := none) (fun p e s m args below meth c T vm0 locs fs D hlv => ?_) (fun _ => rfl) hc hl hG hQ
  obtain ⟨X, e0, -, hZ, hown, -, -, -, -, hx, hby, -, hret, -⟩ := D
  exact X.returnOut hx (hret.trans hr) (hb hby hd) hlv
end Heap
end Jvm.Own
namespace Jvm.Own
open Jvm Jvm.ClassFile Sem Op Lib Jvm.Free Jvm.Stand Jvm.LawKit Jvm.RoadKit Bundle
/-- a method's contract: called with these arguments at the heap h0 it returns as Q says -/
def Met (l : Launch) (Z : State) (EL : List (String × Nat)) (n0 : Nat) (ws : List Jvm.Cond) (y : MethodName) (bytes : ByteArray) (ml : Nat) (ret : Option FieldType) (rm : Room) (as : Array Value) (F0 : List Addr) (h0 : Heap) (Q : Option Value → Heap → List Addr → Prop) : Prop :=
  MetFree l y (head1 (Jvm.Cond.code y bytes ml ret :: ws) rm) (fun a U => a = as ∧ Z.Warmed39 U.vm ∧ U.heap = h0 ∧ CHv Z EL U.vm h0 ∧ SafeL Z EL U.vm h0 F0) (fun _ _ _ _ _ => True)
    (fun _ U o U' => ∃ v L, o = .returned v ∧ ((∃ F, Q v U'.heap F ∧ SafeL Z EL U'.vm U'.heap F) ∧ Fr n0 L ∧ Old Z n0 U'.heap) ∧ CHr Z EL U.vm U.heap U'.vm U'.heap ∧ ReturnedEndW U o U' L rm.cells rm.slots)
section Calls
variable {l : Launch} {Z : State} {EL : List (String × Nat)} {n0 : Nat} {R : Room} {y : MethodName} {bytes : ByteArray} {ml : Nat} {ret : Option FieldType} {Q : Option Value → Heap → List Addr → Prop}
  {F : List Addr} {h : Heap} {cells slots pc pc' : Nat} {Ls Ls' : Array Slot} {S S' : List Value} {a0 : Array Value}
theorem Met.of {ws : List Jvm.Cond} {rm : Room} {as : Array Value} {F0 : List Addr} {h0 : Heap} (hpl : plainFor y = true) (hEL : EW Z a0 EL) (hO : Old Z n0 h0) (hef : ∀ m, entryFrame m as ml = mkF m 0 Ls [])
    (body : WP l Z EL n0 rm y bytes ml ret Q F0 h0 0 0 0 Ls []) : Met l Z EL n0 ws y bytes ml ret rm as F0 h0 Q := by
  refine MetFree.of_bodySF hpl hisR ?_
  intro p e s m args below meth c s₁ Bd hml0 hP hK
  obtain ⟨rfl, hZ, hh, hC, hS⟩ := hP
  have e0 : s₁.heap = h0 := by rw [← hh, Bd.state]; rfl
  have ev : s₁.vm = s.vm := by rw [Bd.state]; rfl
  have X : Stand p l e rm s m args below meth c s₁ [] 0 0 := Stand.of_body Bd
  have hsi : s.Since s.vm 0 := ev ▸ X.warmed.since 0
  obtain ⟨t, o, r1, r⟩ := body p e s m args below meth c s₁ s.vm [] ⟨X, e0, ⟨0, hsi, Nat.zero_le _⟩, hZ, findClass_of_methodNamed Bd.named, by rw [hh]; exact CHr.refl hC, hS, Fr.nil n0, hO, Bd.exec, Bd.bytes, hml0, Bd.returns, Bd.notSynchronized, (name_of_methodNamed Bd.named Bd.method).1, a0, hEL⟩
  refine ⟨t, o, ?_, r⟩
  rw [hef]; exact r1
variable {yc : MethodName} {bytesc : ByteArray} {mlc : Nat} {retc : Option FieldType} {rm : Room} {as : Array Value} {F0 : List Addr} {Qc : Option Value → Heap → List Addr → Prop}
theorem backM {p : Program} {e : Env} {below : List Frame} {s : State} {vm0 : Vm} {args : Array Value} {len W : Nat} (M : Met l Z EL n0 [] yc bytesc mlc retc rm as F0 h Qc)
    (hZ : Z.Warmed39 vm0) (wc : (Jvm.Cond.code yc bytesc mlc retc).before a0 Z = true) (wz : (Jvm.Cond.initialized yc.cls).before a0 Z = true) (hf : rm.frames + 1 ≤ R.frames) (hl : W + (mlc + 11) + rm.locals ≤ R.locals) (hEL : ∃ a0, EW Z a0 EL) (H : CHv Z EL vm0 h) (hS : SafeL Z EL vm0 h F0) :
    BackS l R p e below (s.setVm vm0) args yc len W (fun A a => a = as ∧ A.U.heap = h ∧ A.cells + rm.cells ≤ R.cells ∧ A.slots + rm.slots ≤ R.slots)
      (fun A _ v B => ∃ L F', Qc v B.U.heap F' ∧ SafeL Z EL B.U.vm B.U.heap F' ∧ Fr n0 L ∧ Old Z n0 B.U.heap ∧ B.locs = A.locs ++ L ∧ B.cells = A.cells + rm.cells ∧ B.slots = A.slots + rm.slots ∧ CHr Z EL vm0 h B.U.vm B.U.heap) := by
  obtain ⟨a1, hEL⟩ := hEL
  exact BackS.of_freeW (bytes := bytesc) (maxL := mlc) (ret := retc) (E := fun _ first o t L k n => k = rm.cells ∧ n = rm.slots ∧ (∃ v, o = .returned v ∧ (∃ F', Qc v t.heap F' ∧ SafeL Z EL t.vm t.heap F') ∧ Fr n0 L ∧ Old Z n0 t.heap) ∧ CHr Z EL first.vm first.heap t.vm t.heap) M hf hl
    (fun m meth c A a Y hp => have hU : Z.Warmed39 A.U.vm := wtrans (s := s.setVm vm0) hZ Y.warmed
      ⟨by show (Jvm.Cond.and _ .tt).before a A.U = true; rw [Cond.before_and, mv hU wc]; rfl, mv hU wc, mv hU wz, hp.2.2.1, hp.2.2.2⟩)
    (fun m meth c A a g mk Y hp => ⟨hp.1, wtrans (s := s.setVm vm0) hZ Y.warmed, hp.2.1, (CHv.at Y hZ hEL H).1, fun x hx => ⟨(hS x hx).1, (CHv.at Y hZ hEL H).safe (hS x hx).1 (hS x hx).2⟩⟩) (fun _ _ _ _ _ _ _ _ _ => trivial)
    (fun _ _ _ _ ⟨v, L, h1, h2, h3, h4⟩ => ⟨L, _, _, h4, rfl, rfl, ⟨v, h1, h2⟩, h3⟩)
    (fun m meth c A a g mk v t L k n Y hp _ _ ⟨e1, e2, ⟨v', e3, ⟨F', e4, e4'⟩, e5, e6⟩, e7⟩ => by
      cases e3; subst e1 e2
      refine ⟨L, F', e4, e4', e5, e6, rfl, rfl, rfl, (CHv.at Y hZ hEL H).trans ?_⟩
      rw [← hp.2.1]; exact e7)
theorem WP.call {len W : Nat} {rest : List Value} (M : Met l Z EL n0 [] yc bytesc mlc retc rm as F0 h Qc) (wc : (Jvm.Cond.code yc bytesc mlc retc).before a0 Z = true) (wz : (Jvm.Cond.initialized yc.cls).before a0 Z = true) (hf : rm.frames + 1 ≤ R.frames) (hl : W + (mlc + 11) + rm.locals ≤ R.locals)
    (hcl : cells + rm.cells ≤ R.cells) (hsl : slots + rm.slots ≤ R.slots) (hF0 : ∀ x ∈ F0, SafeBy Z EL F h x)
    (st : ∀ (p : Program) (e : Env) (s : State) (m : MethodId) (args : Array Value) (below : List Frame) (meth : Method) (c : Code) (T : State) (vm0 : Vm) (locs : List Loc), Std l Z EL n0 R y bytes ml ret p e s m args below meth c T vm0 locs F h cells slots →
      ∀ (Pre : Pt → Array Value → Prop) (Post : Pt → Array Value → Option Value → Pt → Prop), BackS l R p e below (s.setVm vm0) args yc len W Pre Post → (∀ vm₁, (s.setVm vm0).WarmedH vm₁ → Pre ⟨T.setVm vm₁, locs, cells, slots⟩ as) →
      ∃ (v : Option Value) (vm₁ : Vm) (B : Pt), (s.setVm vm0).WarmedH vm₁ ∧ Stand p l e R ((s.setVm vm0).setVm B.U.vm) m args below meth c B.U B.locs B.cells B.slots ∧ (s.setVm vm0).Since B.U.vm B.U.heap.size ∧ T.heap.size ≤ B.U.heap.size ∧ Post ⟨T.setVm vm₁, locs, cells, slots⟩ as v B ∧
        Steps p.tables e below (T.setTop (mkF m pc Ls S)) (B.U.setTop (mkF m pc' Ls (v.toList ++ rest))))
    (k : ∀ v h' F', Qc v h' F' → h.size ≤ h'.size → WP l Z EL n0 R y bytes ml ret Q (F' ++ F) h' (cells + rm.cells) (slots + rm.slots) pc' Ls (v.toList ++ rest)) : WP l Z EL n0 R y bytes ml ret Q F h cells slots pc Ls S := by
  intro p e s m args below meth c T vm0 locs D
  have D' := D
  obtain ⟨X, e0, ⟨k0, hS, hk⟩, hZ, hown, hC, hF, hN, hO, hx, hby, hml, hret, hlk, hnm, hEL⟩ := D
  have K := backM (p := p) (e := e) (below := below) (s := s) (args := args) (len := len) (W := W) (R := R) M hZ wc wz hf hl hEL hC.1 (fun x hx => ⟨(hF0 x hx).1, (hF0 x hx).2 vm0 hZ.alike hF⟩)
  obtain ⟨v, vm₁, ⟨U, L1, c1, n1⟩, -, X', hS', hle, ⟨L, F', q1, q2, q3, q4, q5, q6, q7, q8⟩, stp⟩ := st p e s m args below meth c T vm0 locs D' _ _ K (fun vm₁ _ => ⟨rfl, e0, hcl, hsl⟩)
  subst q5 q6 q7
  obtain ⟨X2, hS2, hZ2, hown2⟩ := rebS (s := s) hS (show k0 ≤ T.heap.size by rw [e0]; exact hk) X' hS' hle hZ hown
  refine (k v U.heap F' q1 q8.2.1 p e s m args below meth c U U.vm _ ⟨X2, rfl, ⟨_, hS2, Nat.le_refl _⟩, hZ2, hown2, hC.trans q8, fun x hx => ?_, hN.app q3, q4, hx, hby, hml, hret, hlk, hnm, hEL⟩).step fun t q => stp.trans q
  rcases List.mem_append.mp hx with hx | hx
  · exact q2 x hx
  · exact ⟨Nat.lt_of_lt_of_le (hF x hx).1 q8.2.1, q8.safe (hF x hx).1 (hF x hx).2⟩
/-- invokestatic -/
theorem WP.static {idx : Nat} {argsL rest : List Value} {ps : List FieldType} {rt : Option FieldType} (hd : D1 bytes pc (.invokestatic idx) 3 pc') (M : Met l Z EL n0 [] yc bytesc mlc retc rm argsL.toArray F0 h Qc)
    (wl : (Jvm.Cond.methodLink y.cls idx yc).before a0 Z = true) (ws : (Jvm.Cond.static yc).before a0 Z = true) (wz : (Jvm.Cond.initialized yc.cls).before a0 Z = true) (wc : (Jvm.Cond.code yc bytesc mlc retc).before a0 Z = true)
    (hy : yc.cls ≠ "java/lang/invoke/MethodHandle" ∧ yc.cls ≠ "java/lang/invoke/VarHandle") (hpd : parseMethodDescriptor yc.desc = some ⟨ps, rt⟩) (hpl : argsL.length = ps.length) (hstk : S = argsL.reverse ++ rest) (hsz : Ls.size = ml)
    (hf : rm.frames + 1 ≤ R.frames) (hl : (rest.map fun v => v.category).sum + (mlc + 11) + rm.locals ≤ R.locals) (hcl : cells + rm.cells ≤ R.cells) (hsl : slots + rm.slots ≤ R.slots) (hF0 : ∀ x ∈ F0, SafeBy Z EL F h x)
    (k : ∀ v h' F', Qc v h' F' → h.size ≤ h'.size → WP l Z EL n0 R y bytes ml ret Q (F' ++ F) h' (cells + rm.cells) (slots + rm.slots) pc' Ls (v.toList ++ rest)) : WP l Z EL n0 R y bytes ml ret Q F h cells slots pc Ls S := by
  obtain ⟨hd, rfl⟩ := hd
  refine WP.call (len := 3) (rest := rest) M wc wz hf hl hcl hsl hF0 (fun p e s m args below meth c T vm0 locs D Pre Post K hpre => ?_) k
  obtain ⟨X, e0, -, hZ, hown, -, -, -, -, hx, hby, hml, -⟩ := D
  exact callSS X hx hown (mvT (s := s.setVm vm0) hZ wl) (mvT (s := s.setVm vm0) hZ ws) (mvT (s := s.setVm vm0) hZ wz) (mvT (s := s.setVm vm0) hZ wc) hy K (g := mkF m pc Ls S) rfl (by rw [hml]; exact hsz) (lenOf hpd hpl) hstk (by show 2 * 0 + _ ≤ _; omega) (hb hby hd) hpre
/-- invokespecial of a constructor -/
theorem WP.special {idx : Nat} {a : Addr} {argsL rest : List Value} {ps : List FieldType} {rt : Option FieldType} (hd : D1 bytes pc (.invokespecial idx) 3 pc') (M : Met l Z EL n0 [] yc bytesc mlc none rm (.ref a :: argsL).toArray F0 h Qc) (hn : yc.name = "<init>")
    (wl : (Jvm.Cond.methodLink y.cls idx yc).before a0 Z = true) (ws : (Jvm.Cond.instanceMethod yc).before a0 Z = true) (wz : (Jvm.Cond.initialized yc.cls).before a0 Z = true) (wc : (Jvm.Cond.code yc bytesc mlc none).before a0 Z = true)
    (hy : yc.cls ≠ "java/lang/invoke/MethodHandle" ∧ yc.cls ≠ "java/lang/invoke/VarHandle") (hpd : parseMethodDescriptor yc.desc = some ⟨ps, rt⟩) (hpl : argsL.length = ps.length) (hstk : S = argsL.reverse ++ .ref a :: rest) (hsz : Ls.size = ml)
    (hf : rm.frames + 1 ≤ R.frames) (hl : (rest.map fun v => v.category).sum + (mlc + 11) + rm.locals ≤ R.locals) (hcl : cells + rm.cells ≤ R.cells) (hsl : slots + rm.slots ≤ R.slots) (hF0 : ∀ x ∈ F0, SafeBy Z EL F h x)
    (k : ∀ v h' F', Qc v h' F' → h.size ≤ h'.size → WP l Z EL n0 R y bytes ml ret Q (F' ++ F) h' (cells + rm.cells) (slots + rm.slots) pc' Ls (v.toList ++ rest)) : WP l Z EL n0 R y bytes ml ret Q F h cells slots pc Ls S := by
  obtain ⟨hd, rfl⟩ := hd
  refine WP.call (len := 3) (rest := rest) M wc wz hf hl hcl hsl hF0 (fun p e s m args below meth c T vm0 locs D Pre Post K hpre => ?_) k
  obtain ⟨X, e0, -, hZ, hown, -, -, -, -, hx, hby, hml, -⟩ := D
  exact X.specialBackS hx hn hown (mvT (s := s.setVm vm0) hZ wl) (mvT (s := s.setVm vm0) hZ ws) (mvT (s := s.setVm vm0) hZ wc) hy K (g := mkF m pc Ls S) rfl (by rw [hml]; exact hsz) (Steps.refl _) (lenOf hpd hpl) hstk (by show 2 * 0 + _ ≤ _; omega) (hb hby hd) hpre
/-- invokevirtual -/
theorem WP.virtual {idx : Nat} {a : Addr} {C : String} {yr : MethodName} {argsL rest : List Value} {ps : List FieldType} {rt : Option FieldType} (hd : D1 bytes pc (.invokevirtual idx) 3 pc') (M : Met l Z EL n0 [] yc bytesc mlc retc rm (.ref a :: argsL).toArray F0 h Qc) (E : Exa Z h a C)
    (wl : (Jvm.Cond.methodLink y.cls idx yr).before a0 Z = true) (wd : (Jvm.Cond.declares yr).before a0 Z = true) (wi : (Jvm.Cond.instanceMethod yc).before a0 Z = true) (ws : (Jvm.Cond.selects C yr yc).before a0 Z = true) (wz : (Jvm.Cond.initialized yc.cls).before a0 Z = true) (wc : (Jvm.Cond.code yc bytesc mlc retc).before a0 Z = true)
    {C2 : String} (hnf : (Jvm.Cond.selects C2 yr yr).before a0 Z = true)
    (hy : yr.cls ≠ "java/lang/invoke/MethodHandle" ∧ yr.cls ≠ "java/lang/invoke/VarHandle") (hpd : parseMethodDescriptor yr.desc = some ⟨ps, rt⟩) (hpl : argsL.length = ps.length) (hstk : S = argsL.reverse ++ .ref a :: rest) (hsz : Ls.size = ml)
    (hf : rm.frames + 1 ≤ R.frames) (hl : (rest.map fun v => v.category).sum + (mlc + 11) + rm.locals ≤ R.locals) (hcl : cells + rm.cells ≤ R.cells) (hsl : slots + rm.slots ≤ R.slots) (hF0 : ∀ x ∈ F0, SafeBy Z EL F h x)
    (k : ∀ v h' F', Qc v h' F' → h.size ≤ h'.size → WP l Z EL n0 R y bytes ml ret Q (F' ++ F) h' (cells + rm.cells) (slots + rm.slots) pc' Ls (v.toList ++ rest)) : WP l Z EL n0 R y bytes ml ret Q F h cells slots pc Ls S := by
  obtain ⟨hd, rfl⟩ := hd
  refine WP.call (len := 3) (rest := rest) M wc wz hf hl hcl hsl hF0 (fun p e s m args below meth c T vm0 locs D Pre Post K hpre => ?_) k
  obtain ⟨X, e0, -, hZ, hown, -, -, -, -, hx, hby, hml, -⟩ := D
  obtain ⟨cB, kB, o1, o2, o3⟩ := isOf (s := s.setVm vm0) hZ e0 E
  exact X.virtualBackS hx hown (mvT (s := s.setVm vm0) hZ wl) (mvT (s := s.setVm vm0) hZ wd) (notFace_of_selects (args := #[]) (mvT (s := s.setVm vm0) hZ hnf)) (mvT (s := s.setVm vm0) hZ ws) (mvT (s := s.setVm vm0) hZ wi) hy K o1 o3 (g := mkF m pc Ls S) rfl (by rw [hml]; exact hsz) (Steps.refl _) (lenOf hpd hpl) hstk (by show 2 * 0 + _ ≤ _; omega) (hb hby hd) hpre
end Calls
end Jvm.Own
namespace Jvm.Own
open Jvm Jvm.ClassFile Sem Op Lib Jvm.Free Jvm.Stand Jvm.LawKit Jvm.RoadKit Bundle
def Str (Z : State) (h : Heap) (a t : Addr) (bs : List Int32) : Prop := Exa Z h a "java/lang/String" ∧ Fld Z h a "java/lang/String" "coder" "B" (.int 0) ∧ Fld Z h a "java/lang/String" "value" "[B" (.ref t) ∧ IA Z h t .byte bs
/-- chars from 0 to 255 -/
def Lat (cs : List Int32) : Prop := ∀ c ∈ cs, 0 ≤ c.toInt ∧ c.toInt < 256
def lo8 (x : Int32) : Int32 := x.toInt8.toInt32
/-- a char below 256 -/
def B8 (c : Int32) : Prop := 0 ≤ c.toInt ∧ c.toInt < 256
theorem B8.and (x : Int32) : B8 (x &&& 255) := by
  have q := c_and x 255 (by decide)
  have e : (255 : Int32).toInt = 255 := rfl
  rw [e] at q
  exact ⟨q.1, by omega⟩
theorem B8.i2c_eq {x : Int32} (q : B8 x) : x.toUInt32.toUInt16.toUInt32.toInt32 = x := by
  have a := c_i2c x
  obtain ⟨q1, q2⟩ := q
  apply Int32.toInt_inj.mp
  omega
theorem B8.i2c {x : Int32} (q : B8 x) : B8 (x.toUInt32.toUInt16.toUInt32.toInt32) := by rw [q.i2c_eq]; exact q
theorem B8.nar {x : Int32} (q : B8 x) : nar .char x = x := q.i2c_eq
theorem Lat.nil : Lat [] := fun _ q => nomatch q
theorem Lat.cons {c : Int32} {cs : List Int32} (q : B8 c) (r : Lat cs) : Lat (c :: cs) := fun x hx => by
  rcases List.mem_cons.mp hx with rfl | hx
  · exact q
  · exact r x hx
section StrFacts
variable {Z : State} {h h' : Heap} {a b t : Addr} {bs cs : List Int32} {sl : Nat} {v : Value} {ws : List Addr}
theorem Str.lt (A : Str Z h a t bs) : a < h.size := A.1.lt
theorem Str.ltT (A : Str Z h a t bs) : t < h.size := A.2.2.2.lt
theorem Str.ext (A : Str Z h a t bs) (E : Ext h h') : Str Z h' a t bs := ⟨A.1.ext E, A.2.1.ext E, A.2.2.1.ext E, A.2.2.2.ext E⟩
theorem Str.keep (A : Str Z h a t bs) (K : Keep h h' ws) (q1 : a ∉ ws) (q2 : t ∉ ws) : Str Z h' a t bs := ⟨A.1.keep K, A.2.1.keep K q1, A.2.2.1.keep K q1, A.2.2.2.keep K q2⟩
theorem Str.other (A : Str Z h a t bs) (W : Wr h h' b sl v) (q1 : a ≠ b) (q2 : t ≠ b) : Str Z h' a t bs := ⟨A.1.wr W, A.2.1.other W (Or.inl q1), A.2.2.1.other W (Or.inl q1), A.2.2.2.other W q2⟩
theorem IA.inj {ty ty' : FieldType} {xs ys : List Int32} (A : IA Z h a ty xs) (B : IA Z h a ty' ys) : xs = ys := by
  obtain ⟨c, A, e, -⟩ := A
  obtain ⟨c', B, e', -⟩ := B
  cases A.1.symm.trans B.1
  have q := congrArg Array.toList (e.symm.trans e')
  simp only at q
  exact (List.map_inj_right (fun _ _ z => by cases z; rfl)).mp q
theorem Fld.inj {C n d : String} {v w : Value} (F : Fld Z h a C n d v) (G : Fld Z h a C n d w) : v = w := Classical.byContradiction fun q => Fld.ne F G q rfl
theorem Str.inj {t' : Addr} {bs' : List Int32} (A : Str Z h a t bs) (B : Str Z h a t' bs') : t = t' ∧ bs = bs' := by
  have q := Fld.inj A.2.2.1 B.2.2.1
  cases q
  exact ⟨rfl, IA.inj A.2.2.2 B.2.2.2⟩
theorem lo8_inj {x z : Int32} (hx : 0 ≤ x.toInt ∧ x.toInt < 256) (hz : 0 ≤ z.toInt ∧ z.toInt < 256) (q : lo8 x = lo8 z) : x = z := by
  have a1 := (c_i2b x).1
  have a2 := (c_i2b z).1
  have e : x.toInt8.toInt32.toInt = z.toInt8.toInt32.toInt := congrArg Int32.toInt q
  apply Int32.toInt_inj.mp
  omega
theorem lo8_map_inj : ∀ {cs ds : List Int32}, Lat cs → Lat ds → (cs.map lo8 = ds.map lo8 ↔ cs = ds) := by
  intro cs
  induction cs with
  | nil => intro ds _ _; cases ds <;> simp
  | cons c r ih =>
    intro ds h1 h2
    cases ds with
    | nil => simp
    | cons d r' =>
      simp only [List.map_cons, List.cons.injEq]
      have i := ih (ds := r') (fun x hx => h1 x (by simp [hx])) (fun x hx => h2 x (by simp [hx]))
      constructor
      · rintro ⟨p, q⟩
        exact ⟨lo8_inj (h1 c (by simp)) (h2 d (by simp)) p, i.mp q⟩
      · rintro ⟨rfl, q⟩
        exact ⟨rfl, i.mpr q⟩
def chr8 (b : Int32) : Int32 := (b &&& 255).toUInt32.toUInt16.toUInt32.toInt32
theorem chr8_lo8 {c : Int32} (q : B8 c) : chr8 (lo8 c) = c := by
  have e : lo8 c &&& 255 = c := by
    have a1 := c_mask (lo8 c) 255 8 (by decide) (by decide)
    have a2 := (c_i2b c).1
    obtain ⟨q1, q2⟩ := q
    apply Int32.toInt_inj.mp
    rw [a1]
    show c.toInt8.toInt32.toInt % ((2 ^ 8 : Nat) : Int) = _
    have e : ((2 ^ 8 : Nat) : Int) = 256 := rfl
    rw [e]
    omega
  unfold chr8
  rw [e]
  exact q.i2c_eq
theorem shr0 (x : Int32) : x >>> ((0 : Int32) &&& 31) = x := by
  have q := c_ishr x 0 0 (by decide)
  apply Int32.toInt_inj.mp
  rw [q]
  simp
theorem Ix.ltn {j : Int32} {i n : Nat} (q : Ix j i) (hn : n < 2 ^ 31) (hi : i < n) : j < Int32.ofNat n := by
  rw [Int32.lt_iff_toInt_lt, q, Int32.toInt_ofNat_of_lt hn]; omega
/-- a String that 'new' has just made is no literal -/
theorem SafeBy.blank {EL : List (String × Nat)} {F : List Addr} (E : Exa Z h a "java/lang/String") (V : Fld Z h a "java/lang/String" "value" "[B" .null) {n : Nat} {a0 : Array Value} (wi : (Jvm.Cond.instantiable "java/lang/String" n).before a0 Z = true) : SafeBy Z EL F h a := by
  refine ⟨E.lt, fun vm hal _ B => ?_⟩
  obtain ⟨p, hp, u, b, hb, q, hq, F', hy⟩ := B
  obtain ⟨cS, ⟨⟨s1, s2, s3, ⟨cv, kv, iv, s4, s4'⟩, ⟨cc, kc, ic, s5, s5'⟩, s6, s7, s8, s9, s10, s11, s12, s13, s14, s15, s16⟩, hfS, hcS⟩, ⟨kS, k1, k2, k3⟩, hB, hbyt⟩ := F'
  obtain ⟨cell, cf, k, i, f, h1, h2, h3, h4, h5, h6, h7⟩ := V
  rcases hy with rfl | rfl
  · obtain ⟨kv', z4⟩ := ff_back (U := Wst Z vm h) hal s4
    cases h2.symm.trans z4
    cases h1.symm.trans (show h[q.sa]? = some q.sC from s1)
    have := h7.symm.trans s8
    cases this
  · obtain ⟨c1, kk, e1, e2, e3, -⟩ := E
    cases e1.symm.trans (show h[q.sd]? = some q.SA from s10)
    obtain ⟨c2, k2', i1, i2, i3, -⟩ := Cond.instantiable_spec wi
    cases e2.symm.trans i1
    obtain ⟨-, k9, hk9, comp, hkind9⟩ := s11
    obtain ⟨k', hk', ek⟩ := hal.2.2 _ _ i2
    cases (show vm.classes[q.SA.cls]? = some k9 from hk9).symm.trans hk'
    rw [ek] at hkind9
    have hk3 : k2'.kind = _ := hkind9
    rw [i3] at hk3
    cases hk3
end StrFacts
end Jvm.Own
namespace Jvm.Own
open Jvm Jvm.ClassFile Sem Op Lib Jvm.Free Jvm.Stand Jvm.LawKit Jvm.RoadKit Bundle
section Dbl
variable {l : Launch} {Z : State} {EL : List (String × Nat)} {n0 : Nat} {R : Room} {y : MethodName} {bytes : ByteArray} {ml : Nat} {ret : Option FieldType} {Q : Option Value → Heap → List Addr → Prop}
  {F : List Addr} {h : Heap} {cells slots pc pc' : Nat} {Ls Ls' : Array Slot} {S S' : List Value} {a0 : Array Value}
theorem WP.ldcI {idx : Nat} {v : Int32} (hd : D1 bytes pc (.ldc idx) 2 pc') (w : (Jvm.Cond.constant y.cls idx v).before a0 Z = true) (k : WP l Z EL n0 R y bytes ml ret Q F h cells slots pc' Ls (.int v :: S)) : WP l Z EL n0 R y bytes ml ret Q F h cells slots pc Ls S := by
  obtain ⟨hd, rfl⟩ := hd
  refine WP.same (fun p e1 s m args below meth c' T vm0 locs D => ?_) k
  obtain ⟨X, e0, -, hZ, hown, -, -, -, -, hx, hby, -⟩ := D
  exact ⟨T, X, e0, fun t q => X.ldcI hx hown (mvT (s := s.setVm vm0) hZ w) (g := mkF m pc Ls S) rfl (hb hby hd) q⟩
theorem WP.ldc2J {idx : Nat} {v : Int64} (hd : D1 bytes pc (.ldc2_w idx) 3 pc') (w : (Jvm.Cond.constantLong y.cls idx v).before a0 Z = true) (k : WP l Z EL n0 R y bytes ml ret Q F h cells slots pc' Ls (.long v :: S)) : WP l Z EL n0 R y bytes ml ret Q F h cells slots pc Ls S := by
  obtain ⟨hd, rfl⟩ := hd
  refine WP.same (fun p e1 s m args below meth c' T vm0 locs D => ?_) k
  obtain ⟨X, e0, -, hZ, hown, -, -, -, -, hx, hby, -⟩ := D
  exact ⟨T, X, e0, fun t q => X.ldc2J hx hown (mvT (s := s.setVm vm0) hZ w) (g := mkF m pc Ls S) rfl (hb hby hd) q⟩
theorem WP.ldc2D {idx : Nat} {v : UInt64} (hd : D1 bytes pc (.ldc2_w idx) 3 pc') (w : (Jvm.Cond.constantDouble y.cls idx v).before a0 Z = true) (k : WP l Z EL n0 R y bytes ml ret Q F h cells slots pc' Ls (.double v :: S)) : WP l Z EL n0 R y bytes ml ret Q F h cells slots pc Ls S := by
  obtain ⟨hd, rfl⟩ := hd
  refine WP.same (fun p e1 s m args below meth c' T vm0 locs D => ?_) k
  obtain ⟨X, e0, -, hZ, hown, -, -, -, -, hx, hby, -⟩ := D
  exact ⟨T, X, e0, fun t q => X.ldc2DoubleC hx hown (mvT (s := s.setVm vm0) hZ w) (g := mkF m pc Ls S) rfl (hb hby hd) t q⟩
theorem WP.dload_n {i : Fin 4} {x : UInt64} (hd : D1 bytes pc (.dload_n i) 1 pc') (hl : Ls[i.val]? = some (.val (.double x))) (k : WP l Z EL n0 R y bytes ml ret Q F h cells slots pc' Ls (.double x :: S)) : WP l Z EL n0 R y bytes ml ret Q F h cells slots pc Ls S := by
  obtain ⟨hd, rfl⟩ := hd
  exact k.lift fun p e m c below T t hx hby ha q => XS.dloadN ha hx rfl (hb hby hd) hl q
theorem WP.dload {i : Nat} {x : UInt64} (hd : D1 bytes pc (.dload i) 2 pc') (hl : Ls[i]? = some (.val (.double x))) (k : WP l Z EL n0 R y bytes ml ret Q F h cells slots pc' Ls (.double x :: S)) : WP l Z EL n0 R y bytes ml ret Q F h cells slots pc Ls S := by
  obtain ⟨hd, rfl⟩ := hd
  exact k.lift fun p e m c below T t hx hby ha q => XS.dload ha hx rfl (hb hby hd) hl q
theorem WP.dstore_n {i : Fin 4} {x z : UInt64} (hd : D1 bytes pc (.dstore_n i) 1 pc') (hz : x = z) (hl : storeLocals Ls i.val (.double z) = some Ls') (k : WP l Z EL n0 R y bytes ml ret Q F h cells slots pc' Ls' S) : WP l Z EL n0 R y bytes ml ret Q F h cells slots pc Ls (.double x :: S) := by
  obtain ⟨hd, rfl⟩ := hd
  subst hz
  exact k.lift fun p e m c below T t hx hby ha q => XS.dstoreN ha hx rfl (hb hby hd) rfl hl q
theorem WP.dstore {i : Nat} {x z : UInt64} (hd : D1 bytes pc (.dstore i) 2 pc') (hz : x = z) (hl : storeLocals Ls i (.double z) = some Ls') (k : WP l Z EL n0 R y bytes ml ret Q F h cells slots pc' Ls' S) : WP l Z EL n0 R y bytes ml ret Q F h cells slots pc Ls (.double x :: S) := by
  obtain ⟨hd, rfl⟩ := hd
  subst hz
  exact k.lift fun p e m c below T t hx hby ha q => XS.dstore ha hx rfl (hb hby hd) rfl hl q
theorem WP.i2d {x : Int32} (hd : D1 bytes pc .i2d 1 pc') (k : WP l Z EL n0 R y bytes ml ret Q F h cells slots pc' Ls (.double (FP.i2d x) :: S)) : WP l Z EL n0 R y bytes ml ret Q F h cells slots pc Ls (.int x :: S) := by
  obtain ⟨hd, rfl⟩ := hd
  exact k.lift fun p e m c below T t hx hby ha q => XS.i2dS ha hx rfl (hb hby hd) rfl rfl q
theorem WP.dcmp {o : CmpOp} {x z : UInt64} {v : Int32} (hd : D1 bytes pc (.dcmp o) 1 pc') (hv : cmpValue (FP.dcmp x z) o = v) (k : WP l Z EL n0 R y bytes ml ret Q F h cells slots pc' Ls (.int v :: S)) : WP l Z EL n0 R y bytes ml ret Q F h cells slots pc Ls (.double z :: .double x :: S) := by
  obtain ⟨hd, rfl⟩ := hd
  exact k.lift fun p e m c below T t hx hby ha q => XS.dcmpS ha hx rfl (hb hby hd) rfl hv q
/-- Math.abs of a double that is no NaN -/
theorem WP.absD {idx mlc : Nat} {bytesc : ByteArray} {x z : UInt64} (hd : D1 bytes pc (.invokestatic idx) 3 pc') (w1 : (Jvm.Cond.methodLink y.cls idx (⟨"java/lang/Math", "abs", "(D)D"⟩ : MethodName)).before a0 Z = true) (w2 : (Jvm.Cond.static (⟨"java/lang/Math", "abs", "(D)D"⟩ : MethodName)).before a0 Z = true) (w3 : (Jvm.Cond.initialized "java/lang/Math").before a0 Z = true) (w4 : (Jvm.Cond.code (⟨"java/lang/Math", "abs", "(D)D"⟩ : MethodName) bytesc mlc (some .double)).before a0 Z = true)
    (hn : x &&& 0x7fffffffffffffff ≤ 0x7ff0000000000000) (hz : x &&& 0x7fffffffffffffff = z) (hsz : Ls.size = ml) (hf : 1 ≤ R.frames) (hl : (S.map fun v => v.category).sum + (mlc + 11) ≤ R.locals) (hc : cells ≤ R.cells) (hs : slots ≤ R.slots)
    (k : WP l Z EL n0 R y bytes ml ret Q F h cells slots pc' Ls (.double z :: S)) : WP l Z EL n0 R y bytes ml ret Q F h cells slots pc Ls (.double x :: S) := by
  obtain ⟨hd, rfl⟩ := hd
  refine WP.same (fun p e1 s m args below meth c' T vm0 locs D => ?_) k
  obtain ⟨X, e0, -, hZ, hown, -, -, -, -, hx, hby, hml, -⟩ := D
  exact natS (s := s.setVm vm0) (F := fun a => a = #[.double x]) (val := .double (x &&& 0x7fffffffffffffff)) (W := (S.map fun v => v.category).sum) X hx hZ hown w1 w2 w3 w4 (by decide) e0
    (fun hcd m' meth' c2 A g ig mk a X' hg hsz' hdg hW hnm hp => by
      obtain ⟨v, B, X2, ⟨hB, hv⟩, st⟩ := Jvm.Free.NT.Abs64.pays (R := R) (W := (S.map fun v => v.category).sum) (len := 3) hcd (mvT (s := s.setVm vm0) hZ w2) hf hl m' meth' c2 A g ig mk a X' hg hsz' hdg hW hnm ⟨x, hp.2.2, hn⟩
      exact ⟨v, B, X2, ⟨hv x ⟨hp.2.2, hn⟩, hB⟩, st⟩)
    (g := mkF m pc Ls (.double x :: S)) rfl (by rw [hml]; exact hsz) (argsL := [.double x]) (rest := S) (lenOf (ps := [.double]) (r := some .double) (by decide +kernel) rfl) rfl (by show 2 * 0 + _ ≤ _; omega) (hb hby hd) hc hs rfl (by rw [hz])
end Dbl
end Jvm.Own
namespace Jvm.Own
open Jvm Jvm.ClassFile Sem Op Lib Jvm.Free Jvm.Stand Jvm.LawKit Jvm.RoadKit Bundle
/-- an array of references: its components -/
def RA (Z : State) (h : Heap) (a : Addr) (ty : FieldType) (vs : List Value) : Prop := ∃ c : Cell, Arr Z h a c ty ∧ c.slots = vs.toArray ∧ vs.length < 2 ^ 31
section Refs
variable {l : Launch} {Z : State} {EL : List (String × Nat)} {n0 : Nat} {R : Room} {y : MethodName} {bytes : ByteArray} {ml : Nat} {ret : Option FieldType} {Q : Option Value → Heap → List Addr → Prop}
  {F : List Addr} {h h' : Heap} {cells slots pc pc' : Nat} {Ls Ls' : Array Slot} {S S' : List Value} {a0 : Array Value} {ws : List Addr}
theorem RA.lt {a : Addr} {ty : FieldType} {vs : List Value} (A : RA Z h a ty vs) : a < h.size := by obtain ⟨c, A, -⟩ := A; exact A.lt
theorem RA.len {a : Addr} {ty : FieldType} {vs : List Value} (A : RA Z h a ty vs) : vs.length < 2 ^ 31 := by obtain ⟨c, -, -, q⟩ := A; exact q
theorem RA.ext {a : Addr} {ty : FieldType} {vs : List Value} (A : RA Z h a ty vs) (E : Ext h h') : RA Z h' a ty vs := by obtain ⟨c, A, r⟩ := A; exact ⟨c, A.ext E, r⟩
theorem RA.other {a b : Addr} {ty : FieldType} {vs : List Value} {sl : Nat} {v : Value} (A : RA Z h b ty vs) (W : Wr h h' a sl v) (q : b ≠ a) : RA Z h' b ty vs := by obtain ⟨c, A, r⟩ := A; exact ⟨c, A.other W q, r⟩
theorem RA.keep {a : Addr} {ty : FieldType} {vs : List Value} (A : RA Z h a ty vs) (K : Keep h h' ws) (q : a ∉ ws) : RA Z h' a ty vs := by obtain ⟨c, A, r⟩ := A; exact ⟨c, ⟨K.2.1 a c A.1 q, A.2⟩, r⟩
theorem RA.set {a : Addr} {ty : FieldType} {vs : List Value} {i : Nat} {v : Value} (A : RA Z h a ty vs) (W : Wr h h' a i v) : RA Z h' a ty (vs.set i v) := by
  obtain ⟨c, A, e, q⟩ := A
  refine ⟨_, A.same W, ?_, by simpa using q⟩
  simp [Cell.setSlot, e]
theorem RA.sz {vs : List Value} {c : Cell} (e : c.slots = vs.toArray) : c.slots.size = vs.length := by rw [e]; simp
theorem WP.arraylengthR {a : Addr} {ty : FieldType} {vs : List Value} (hd : D1 bytes pc .arraylength 1 pc') (A : RA Z h a ty vs) (k : WP l Z EL n0 R y bytes ml ret Q F h cells slots pc' Ls (.int (Int32.ofNat vs.length) :: S)) : WP l Z EL n0 R y bytes ml ret Q F h cells slots pc Ls (.ref a :: S) := by
  obtain ⟨hd, rfl⟩ := hd
  obtain ⟨c, A, e, q⟩ := A
  refine WP.same (fun p e1 s m args below meth c' T vm0 locs D => ?_) k
  obtain ⟨X, e0, -, hZ, hown, -, -, -, -, hx, hby, -⟩ := D
  refine ⟨T, X, e0, fun t q => X.arraylength hx (by rw [e0]; exact A.1) (State.isArrayOf_alike (T := s.setVm vm0) hZ.alike A.2.1) (g := mkF m pc Ls (.ref a :: S)) rfl rfl (hb hby hd) t ?_⟩
  rw [RA.sz e]
  exact q
theorem WP.aaload {a : Addr} {ty : FieldType} {vs : List Value} {j : Int32} {v : Value} {i : Nat} (hd : D1 bytes pc .aaload 1 pc') (A : RA Z h a ty vs) (hty : ty.isReference = true) (hj : Ix j i) (hx : vs[i]? = some v) (k : WP l Z EL n0 R y bytes ml ret Q F h cells slots pc' Ls (v :: S)) : WP l Z EL n0 R y bytes ml ret Q F h cells slots pc Ls (.int j :: .ref a :: S) := by
  obtain ⟨hd, rfl⟩ := hd
  obtain ⟨c, A, e, q⟩ := A
  have hi : i < vs.length := (List.getElem?_eq_some_iff.mp hx).1
  refine WP.same (fun p e1 s m args below meth c' T vm0 locs D => ?_) k
  obtain ⟨X, e0, -, hZ, hown, -, -, -, -, hxx, hby, -⟩ := D
  exact ⟨T, X, e0, fun t q => X.aaload hxx (v := v) (by rw [e0]; exact A.1) (State.isArrayOf_alike (T := s.setVm vm0) hZ.alike A.2.1) hty A.2.2 (by rw [RA.sz e, hj.clamp]; exact fun z => z.elim hj.nn fun z => by omega) (by rw [hj.clamp, e]; simpa using hx) (g := mkF m pc Ls (.int j :: .ref a :: S)) rfl rfl (hb hby hd) t q⟩
theorem WP.instanceofNull {idx : Nat} (hd : D1 bytes pc (.instanceof idx) 3 pc') (k : WP l Z EL n0 R y bytes ml ret Q F h cells slots pc' Ls (.int 0 :: S)) : WP l Z EL n0 R y bytes ml ret Q F h cells slots pc Ls (.null :: S) := by
  obtain ⟨hd, rfl⟩ := hd
  refine WP.same (fun p e1 s m args below meth c' T vm0 locs D => ?_) k
  obtain ⟨X, e0, -, hZ, hown, -, -, -, -, hxx, hby, -⟩ := D
  exact ⟨T, X, e0, X.instanceofNull hxx (g := mkF m pc Ls (.null :: S)) rfl rfl (hb hby hd)⟩
/-- clone() of an array -/
theorem WP.clone {idx cap : Nat} {ad : String} {a : Addr} {ty : FieldType} {vs : List Value} (hd : D1 bytes pc (.invokevirtual idx) 3 pc') (w1 : (Jvm.Cond.methodLink y.cls idx ⟨ad, "clone", "()Ljava/lang/Object;"⟩).before a0 Z = true) (w2 : (Jvm.Cond.sameMethod ad "java/lang/Object" "clone" "()Ljava/lang/Object;").before a0 Z = true) (w3 : (Jvm.Cond.native ⟨"java/lang/Object", "clone", "()Ljava/lang/Object;"⟩).before a0 Z = true)
    (w4 : (Jvm.Cond.instanceMethod ⟨"java/lang/Object", "clone", "()Ljava/lang/Object;"⟩).before a0 Z = true) (w5 : (Jvm.Cond.selects ad ⟨ad, "clone", "()Ljava/lang/Object;"⟩ ⟨"java/lang/Object", "clone", "()Ljava/lang/Object;"⟩).before a0 Z = true) (w6 : (Jvm.Cond.castable ad "java/lang/Cloneable").before a0 Z = true)
    {cl : Cell} (A : Arr Z h a cl ty) (ev : cl.slots = vs.toArray) (hlen : vs.length < 2 ^ 31) (E : Exa Z h a ad) (Fc : FitC Z cl) (hsz : Ls.size = ml) (hf : 1 ≤ R.frames) (hl : (S.map fun v => v.category).sum + 14 ≤ R.locals) (hcap : vs.length ≤ cap) (hc : cells + 1 ≤ R.cells) (hsl : slots + cap ≤ R.slots)
    (k : ∀ (h' : Heap) (b : Nat), b = h.size → Ext h h' → RA Z h' b ty vs → Exa Z h' b ad → WP l Z EL n0 R y bytes ml ret Q (b :: F) h' (cells + 1) (slots + cap) pc' Ls (.ref b :: S)) : WP l Z EL n0 R y bytes ml ret Q F h cells slots pc Ls (.ref a :: S) := by
  obtain ⟨hd, rfl⟩ := hd
  refine WP.grow (G := [h.size]) (P := fun h' => RA Z h' h.size ty vs ∧ Exa Z h' h.size ad) (fun h' E hP x hx => ?_) (fun p e s m args below meth c T vm0 locs D => ?_) (fun h' E hP => k h' _ rfl E hP.1 hP.2)
  · cases List.mem_singleton.mp hx; exact ⟨hP.1.lt, Nat.le_refl _⟩
  · obtain ⟨X, e0, -, hZ, hown, -, -, -, -, hx, hby, hml, -⟩ := D
    obtain ⟨T', h', X', e', E', A', Ex, st⟩ := cloneA X hx hZ hown w1 w2 w3 w4 w5 w6 e0 A E Fc (g := mkF m pc Ls (.ref a :: S)) rfl (by rw [hml]; exact hsz) rfl (hb hby hd) hf (W := (S.map fun v => v.category).sum) (by show 2 * 0 + _ ≤ _; omega) hl (cap := cap) (by rw [RA.sz ev]; exact hcap) hc hsl
    exact ⟨T', h', X', e', E', ⟨⟨_, A', ev, hlen⟩, Ex⟩, st⟩
end Refs
end Jvm.Own
namespace Jvm.Own
open Jvm Jvm.ClassFile Sem Op Lib Jvm.Free Jvm.Stand Jvm.LawKit Jvm.RoadKit Bundle
section Words
variable {args : Array Value} {s : State} {t : Term} {a : Addr} {ty : FieldType} {c : Cell}
theorem arr_size {n : Nat} (A : Jvm.RoadKit.Arr s s.heap a c ty) (ev : t.eval args s none [] s = some (.ref a)) (hl : (Jvm.Cond.eq (.length t) (.int (Int32.ofNat n))).value args s none s [] = some true) (hn : n < 2 ^ 31) : c.slots.size = n := by
  have h := eqv_i (F := .int (Int32.ofNat n)) rfl hl
  have ha : s.arrayAt? a = some c := A.fin (Vm.Alike.refl _)
  simp only [Term.eval, ev, ha, Option.bind_eq_bind, Option.bind_some, Option.pure_def] at h
  by_cases h1 : c.slots.size < 2 ^ 31
  · have h2 : Value.int c.slots.size.toInt32 = .int (Int32.ofNat n) := by simpa [h1] using h
    have h3 : c.slots.size.toInt32 = Int32.ofNat n := by simpa using h2
    have q := congrArg Int32.toInt h3
    rw [len_toInt h1, Int32.toInt_ofNat_of_lt hn] at q
    omega
  · simp [h1] at h
theorem arr_elem {i : Nat} {v : Value} (A : Jvm.RoadKit.Arr s s.heap a c ty) (ev : t.eval args s none [] s = some (.ref a)) (hi : i < 2 ^ 31) (h : (Term.elem t (.int (Int32.ofNat i))).eval args s none [] s = some v) : c.slots[i]? = some v := by
  obtain ⟨-, q⟩ := elem_in (j := Int32.ofNat i) h ev rfl A.1
  rwa [(Ix.ofNat hi).clamp] at q
/-- an array of ints, its length and components said by words -/
theorem ia_of {xs : List Int32} (ev : t.eval args s none [] s = some (.ref a)) (ha : (Jvm.Cond.arrayOf t ty).value args s none s [] = some true) (hn : xs.length < 2 ^ 31) (hl : (Jvm.Cond.eq (.length t) (.int (Int32.ofNat xs.length))).value args s none s [] = some true)
    (he : ∀ i x, xs[i]? = some x → (Jvm.Cond.eq (.elem t (.int (Int32.ofNat i))) (.int x)).value args s none s [] = some true) : IA s s.heap a ty xs := by
  obtain ⟨c, A⟩ := Jvm.RoadKit.Arr.start ev ha
  have hs := arr_size A ev hl hn
  refine ⟨c, A, Array.ext_getElem? fun i => ?_, hn⟩
  by_cases hi : i < xs.length
  · obtain ⟨x, hx⟩ : ∃ x, xs[i]? = some x := ⟨_, List.getElem?_eq_getElem hi⟩
    rw [arr_elem A ev (by omega) (eqv_i rfl (he i x hx))]
    simp [hx]
  · rw [Array.getElem?_eq_none (by omega), Array.getElem?_eq_none (by simp; omega)]
/-- a reference said equal to another -/
theorem eqv_r {X F : Term} {r : Addr} (hF : F.eval args s none [] s = some (.ref r)) (h : (Jvm.Cond.eq X F).value args s none s [] = some true) : X.eval args s none [] s = some (.ref r) := by
  obtain ⟨x, z, e1, e2, k1, k2⟩ := cmp_v (Or.inl h)
  cases hF.symm.trans e2
  have hx : x.isRef = true := k2.2
  have := gotT (eq_R e1 hF hx rfl) h
  rw [e1, this]
/-- a Latin-1 String said by words -/
theorem str_of {xs : List Int32} (h1 : (Jvm.Cond.exactly t "java/lang/String").value args s none s [] = some true) (h2 : (Jvm.Cond.eq (.field t "java/lang/String" "coder" "B") (.int 0)).value args s none s [] = some true)
    (h3 : (Jvm.Cond.arrayOf (.field t "java/lang/String" "value" "[B") .byte).value args s none s [] = some true) (hn : xs.length < 2 ^ 31) (h4 : (Jvm.Cond.eq (.length (.field t "java/lang/String" "value" "[B")) (.int (Int32.ofNat xs.length))).value args s none s [] = some true)
    (he : ∀ i x, xs[i]? = some x → (Jvm.Cond.eq (.elem (.field t "java/lang/String" "value" "[B") (.int (Int32.ofNat i))) (.int x)).value args s none s [] = some true) (ev : t.eval args s none [] s = some (.ref a)) : ∃ b, Str s s.heap a b xs := by
  obtain ⟨b, eb⟩ := arr_v h3
  refine ⟨b, Exa.start ev h1, Jvm.RoadKit.Fld.start ?_, Jvm.RoadKit.Fld.start ?_, ia_of eb h3 hn h4 he⟩
  · rw [← fld_at ev]; exact eqv_i rfl h2
  · rw [← fld_at ev]; exact eb
end Words
end Jvm.Own
namespace Jvm.Pilot.@@N@@
open Jvm Jvm.ClassFile Sem Op Lib Jvm.Free Jvm.Stand Jvm.LawKit Jvm.RoadKit Bundle Jvm.Own Jvm.Pilot.@@N@@.Jvm.D
theorem own_EW {Z : State} {a0 : Array Value} (hw : ∀ d ∈ tables_1, d.before a0 Z = true) : EW Z a0 consts_1 := (EW.cons (hw _ (List.mem_of_getElem? (i := 108) rfl)) (by decide) (EW.cons (hw _ (List.mem_of_getElem? (i := 0) rfl)) (by decide) (EW.cons (hw _ (List.mem_of_getElem? (i := 109) rfl)) (by decide) EW.nil)))
theorem own_wS {Z : State} {a0 : Array Value} (hw : ∀ d ∈ tables_1, d.before a0 Z = true) : ∀ a ∈ Bundle.stringAtoms, a.before a0 Z = true := by
  intro d hd
  simp only [Bundle.stringAtoms, List.mem_cons, List.not_mem_nil, or_false] at hd
  rcases hd with rfl | rfl | rfl | rfl | rfl | rfl | rfl
  · exact (hw _ (List.mem_of_getElem? (i := 1) rfl))
  · exact (hw _ (List.mem_of_getElem? (i := 2) rfl))
  · exact (hw _ (List.mem_of_getElem? (i := 3) rfl))
  · exact (hw _ (List.mem_of_getElem? (i := 4) rfl))
  · exact (hw _ (List.mem_of_getElem? (i := 5) rfl))
  · exact (hw _ (List.mem_of_getElem? (i := 6) rfl))
  · exact (hw _ (List.mem_of_getElem? (i := 7) rfl))
theorem pd_0 : parseMethodDescriptor "()I" = some ⟨[], some .int⟩ := by decide +kernel
theorem pd_1 : parseMethodDescriptor "()B" = some ⟨[], some .byte⟩ := by decide +kernel
theorem pd_2 : parseMethodDescriptor "([CILjava/lang/String;I)V" = some ⟨[(.array .char), .int, (.object "java/lang/String"), .int], none⟩ := by decide +kernel
theorem pd_3 : parseMethodDescriptor "(I)C" = some ⟨[.int], some .char⟩ := by decide +kernel
theorem pd_4 : parseMethodDescriptor "()Z" = some ⟨[], some .boolean⟩ := by decide +kernel
theorem pd_5 : parseMethodDescriptor "([BI)C" = some ⟨[(.array .byte), .int], some .char⟩ := by decide +kernel
theorem pd_6 : parseMethodDescriptor "(II)V" = some ⟨[.int, .int], none⟩ := by decide +kernel
theorem pd_7 : parseMethodDescriptor "(IILjava/util/function/BiFunction;)I" = some ⟨[.int, .int, (.object "java/util/function/BiFunction")], some .int⟩ := by decide +kernel
theorem pd_8 : parseMethodDescriptor "([C)V" = some ⟨[(.array .char)], none⟩ := by decide +kernel
theorem pd_9 : parseMethodDescriptor "([CIILjava/lang/Void;)V" = some ⟨[(.array .char), .int, .int, (.object "java/lang/Void")], none⟩ := by decide +kernel
theorem pd_10 : parseMethodDescriptor "()V" = some ⟨[], none⟩ := by decide +kernel
theorem pd_11 : parseMethodDescriptor "([CII)[B" = some ⟨[(.array .char), .int, .int], some (.array .byte)⟩ := by decide +kernel
theorem pd_12 : parseMethodDescriptor "([CI[BII)I" = some ⟨[(.array .char), .int, (.array .byte), .int, .int], some .int⟩ := by decide +kernel
theorem pd_13 : parseMethodDescriptor "([BI)B" = some ⟨[(.array .byte), .int], some .byte⟩ := by decide +kernel
theorem pd_14 : parseMethodDescriptor "(Ljava/lang/String;)Lcom/example/nearbid/nearbid/market/Role;" = some ⟨[(.object "java/lang/String")], some (.object "com/example/nearbid/nearbid/market/Role")⟩ := by decide +kernel
theorem pd_15 : parseMethodDescriptor "()[Lcom/example/nearbid/nearbid/market/Role;" = some ⟨[], some (.array (.object "com/example/nearbid/nearbid/market/Role"))⟩ := by decide +kernel
theorem pd_16 : parseMethodDescriptor "()Ljava/lang/Object;" = some ⟨[], some (.object "java/lang/Object")⟩ := by decide +kernel
theorem pd_17 : parseMethodDescriptor "(Ljava/lang/Object;)Z" = some ⟨[(.object "java/lang/Object")], some .boolean⟩ := by decide +kernel
theorem pd_18 : parseMethodDescriptor "([B[B)Z" = some ⟨[(.array .byte), (.array .byte)], some .boolean⟩ := by decide +kernel
theorem pd_19 : parseMethodDescriptor "()Ljava/lang/String;" = some ⟨[], some (.object "java/lang/String")⟩ := by decide +kernel
theorem d0_0 : D1 code 0 (.iload_n 0) 1 1 := ⟨at_0, rfl⟩
theorem d0_1 : D1 code 1 (.iconst 1) 1 2 := ⟨at_1, rfl⟩
theorem d0_2 : D1 code 2 (.iand) 1 3 := ⟨at_2, rfl⟩
theorem d0_3 : DJ code 3 (.ifCond .eq) 7 6 10 := ⟨at_3, rfl, rfl⟩
theorem d0_6 : D1 code 6 (.iconst 1) 1 7 := ⟨at_6, rfl⟩
theorem d0_7 : DJ code 7 .goto 4 10 11 := ⟨at_7, rfl, rfl⟩
theorem d0_10 : D1 code 10 (.iconst 0) 1 11 := ⟨at_10, rfl⟩
theorem d0_11 : D1 code 11 (.istore 4) 2 13 := ⟨at_11, rfl⟩
theorem d0_13 : D1 code 13 (.iload 4) 2 15 := ⟨at_13, rfl⟩
theorem d0_15 : DJ code 15 (.ifCond .eq) 8 18 23 := ⟨at_15, rfl, rfl⟩
theorem d0_18 : D1 code 18 (.ldc 17) 2 20 := ⟨at_18, rfl⟩
theorem d0_20 : DJ code 20 .goto 5 23 25 := ⟨at_20, rfl, rfl⟩
theorem d0_23 : D1 code 23 (.ldc 19) 2 25 := ⟨at_23, rfl⟩
theorem d0_25 : D1 code 25 (.astore 5) 2 27 := ⟨at_25, rfl⟩
theorem d0_27 : D1 code 27 (.aload 5) 2 29 := ⟨at_27, rfl⟩
theorem d0_29 : D1 code 29 (.invokevirtual 7) 3 32 := ⟨at_29, rfl⟩
theorem d0_32 : D1 code 32 (.istore 6) 2 34 := ⟨at_32, rfl⟩
theorem d0_34 : D1 code 34 (.iload_n 0) 1 35 := ⟨at_34, rfl⟩
theorem d0_35 : D1 code 35 (.iconst 1) 1 36 := ⟨at_35, rfl⟩
theorem d0_36 : D1 code 36 (.iushr) 1 37 := ⟨at_36, rfl⟩
theorem d0_37 : D1 code 37 (.iconst 3) 1 38 := ⟨at_37, rfl⟩
theorem d0_38 : D1 code 38 (.iand) 1 39 := ⟨at_38, rfl⟩
theorem d0_39 : D1 code 39 (.istore 7) 2 41 := ⟨at_39, rfl⟩
theorem d0_41 : D1 code 41 (.iload 7) 2 43 := ⟨at_41, rfl⟩
theorem d0_43 : D1 code 43 (.iconst 1) 1 44 := ⟨at_43, rfl⟩
theorem d0_44 : DJ code 44 (.if_icmp .ne) 12 47 56 := ⟨at_44, rfl, rfl⟩
theorem d0_47 : D1 code 47 (.iload 6) 2 49 := ⟨at_47, rfl⟩
theorem d0_49 : D1 code 49 (.iconst 1) 1 50 := ⟨at_49, rfl⟩
theorem d0_50 : D1 code 50 (.isub) 1 51 := ⟨at_50, rfl⟩
theorem d0_51 : D1 code 51 (.istore 8) 2 53 := ⟨at_51, rfl⟩
theorem d0_53 : DJ code 53 .goto 39 56 92 := ⟨at_53, rfl, rfl⟩
theorem d0_56 : D1 code 56 (.iload 7) 2 58 := ⟨at_56, rfl⟩
theorem d0_58 : D1 code 58 (.iconst 2) 1 59 := ⟨at_58, rfl⟩
theorem d0_59 : DJ code 59 (.if_icmp .ne) 12 62 71 := ⟨at_59, rfl, rfl⟩
theorem d0_62 : D1 code 62 (.iload 6) 2 64 := ⟨at_62, rfl⟩
theorem d0_64 : D1 code 64 (.iconst 1) 1 65 := ⟨at_64, rfl⟩
theorem d0_65 : D1 code 65 (.iadd) 1 66 := ⟨at_65, rfl⟩
theorem d0_66 : D1 code 66 (.istore 8) 2 68 := ⟨at_66, rfl⟩
theorem d0_68 : DJ code 68 .goto 24 71 92 := ⟨at_68, rfl, rfl⟩
theorem d0_71 : D1 code 71 (.iload 7) 2 73 := ⟨at_71, rfl⟩
theorem d0_73 : D1 code 73 (.iconst 3) 1 74 := ⟨at_73, rfl⟩
theorem d0_74 : DJ code 74 (.if_icmp .ne) 14 77 88 := ⟨at_74, rfl, rfl⟩
theorem d0_77 : D1 code 77 (.iload_n 1) 1 78 := ⟨at_77, rfl⟩
theorem d0_78 : D1 code 78 (.iconst 3) 1 79 := ⟨at_78, rfl⟩
theorem d0_79 : D1 code 79 (.iushr) 1 80 := ⟨at_79, rfl⟩
theorem d0_80 : D1 code 80 (.bipush 7) 2 82 := ⟨at_80, rfl⟩
theorem d0_82 : D1 code 82 (.iand) 1 83 := ⟨at_82, rfl⟩
theorem d0_83 : D1 code 83 (.istore 8) 2 85 := ⟨at_83, rfl⟩
theorem d0_85 : DJ code 85 .goto 7 88 92 := ⟨at_85, rfl, rfl⟩
theorem d0_88 : D1 code 88 (.iload 6) 2 90 := ⟨at_88, rfl⟩
theorem d0_90 : D1 code 90 (.istore 8) 2 92 := ⟨at_90, rfl⟩
theorem d0_92 : D1 code 92 (.iload 8) 2 94 := ⟨at_92, rfl⟩
theorem d0_94 : D1 code 94 (.newarray .char) 2 96 := ⟨at_94, rfl⟩
theorem d0_96 : D1 code 96 (.astore 9) 2 98 := ⟨at_96, rfl⟩
theorem d0_98 : D1 code 98 (.aload 9) 2 100 := ⟨at_98, rfl⟩
theorem d0_100 : D1 code 100 (.iconst 0) 1 101 := ⟨at_100, rfl⟩
theorem d0_101 : D1 code 101 (.aload 5) 2 103 := ⟨at_101, rfl⟩
theorem d0_103 : D1 code 103 (.iload_n 3) 1 104 := ⟨at_103, rfl⟩
theorem d0_104 : D1 code 104 (.invokestatic 21) 3 107 := ⟨at_104, rfl⟩
theorem d0_107 : D1 code 107 (.aload 9) 2 109 := ⟨at_107, rfl⟩
theorem d0_109 : D1 code 109 (.iconst 1) 1 110 := ⟨at_109, rfl⟩
theorem d0_110 : D1 code 110 (.aload 5) 2 112 := ⟨at_110, rfl⟩
theorem d0_112 : D1 code 112 (.iload_n 3) 1 113 := ⟨at_112, rfl⟩
theorem d0_113 : D1 code 113 (.invokestatic 21) 3 116 := ⟨at_113, rfl⟩
theorem d0_116 : D1 code 116 (.aload 9) 2 118 := ⟨at_116, rfl⟩
theorem d0_118 : D1 code 118 (.iconst 2) 1 119 := ⟨at_118, rfl⟩
theorem d0_119 : D1 code 119 (.aload 5) 2 121 := ⟨at_119, rfl⟩
theorem d0_121 : D1 code 121 (.iload_n 3) 1 122 := ⟨at_121, rfl⟩
theorem d0_122 : D1 code 122 (.invokestatic 21) 3 125 := ⟨at_122, rfl⟩
theorem d0_125 : D1 code 125 (.aload 9) 2 127 := ⟨at_125, rfl⟩
theorem d0_127 : D1 code 127 (.iconst 3) 1 128 := ⟨at_127, rfl⟩
theorem d0_128 : D1 code 128 (.aload 5) 2 130 := ⟨at_128, rfl⟩
theorem d0_130 : D1 code 130 (.iload_n 3) 1 131 := ⟨at_130, rfl⟩
theorem d0_131 : D1 code 131 (.invokestatic 21) 3 134 := ⟨at_131, rfl⟩
theorem d0_134 : D1 code 134 (.aload 9) 2 136 := ⟨at_134, rfl⟩
theorem d0_136 : D1 code 136 (.iconst 4) 1 137 := ⟨at_136, rfl⟩
theorem d0_137 : D1 code 137 (.aload 5) 2 139 := ⟨at_137, rfl⟩
theorem d0_139 : D1 code 139 (.iload_n 3) 1 140 := ⟨at_139, rfl⟩
theorem d0_140 : D1 code 140 (.invokestatic 21) 3 143 := ⟨at_140, rfl⟩
theorem d0_143 : D1 code 143 (.aload 9) 2 145 := ⟨at_143, rfl⟩
theorem d0_145 : D1 code 145 (.iconst 5) 1 146 := ⟨at_145, rfl⟩
theorem d0_146 : D1 code 146 (.aload 5) 2 148 := ⟨at_146, rfl⟩
theorem d0_148 : D1 code 148 (.iload_n 3) 1 149 := ⟨at_148, rfl⟩
theorem d0_149 : D1 code 149 (.invokestatic 21) 3 152 := ⟨at_149, rfl⟩
theorem d0_152 : D1 code 152 (.aload 9) 2 154 := ⟨at_152, rfl⟩
theorem d0_154 : D1 code 154 (.bipush 6) 2 156 := ⟨at_154, rfl⟩
theorem d0_156 : D1 code 156 (.aload 5) 2 158 := ⟨at_156, rfl⟩
theorem d0_158 : D1 code 158 (.iload_n 3) 1 159 := ⟨at_158, rfl⟩
theorem d0_159 : D1 code 159 (.invokestatic 21) 3 162 := ⟨at_159, rfl⟩
theorem d0_162 : D1 code 162 (.iload_n 1) 1 163 := ⟨at_162, rfl⟩
theorem d0_163 : D1 code 163 (.bipush 7) 2 165 := ⟨at_163, rfl⟩
theorem d0_165 : D1 code 165 (.iand) 1 166 := ⟨at_165, rfl⟩
theorem d0_166 : D1 code 166 (.istore 10) 2 168 := ⟨at_166, rfl⟩
theorem d0_168 : D1 code 168 (.iload_n 0) 1 169 := ⟨at_168, rfl⟩
theorem d0_169 : D1 code 169 (.bipush 8) 2 171 := ⟨at_169, rfl⟩
theorem d0_171 : D1 code 171 (.iand) 1 172 := ⟨at_171, rfl⟩
theorem d0_172 : DJ code 172 (.ifCond .eq) 21 175 193 := ⟨at_172, rfl, rfl⟩
theorem d0_175 : D1 code 175 (.iload 10) 2 177 := ⟨at_175, rfl⟩
theorem d0_177 : D1 code 177 (.iload 8) 2 179 := ⟨at_177, rfl⟩
theorem d0_179 : DJ code 179 (.if_icmp .ge) 14 182 193 := ⟨at_179, rfl, rfl⟩
theorem d0_182 : D1 code 182 (.aload 9) 2 184 := ⟨at_182, rfl⟩
theorem d0_184 : D1 code 184 (.iload 10) 2 186 := ⟨at_184, rfl⟩
theorem d0_186 : D1 code 186 (.iload_n 2) 1 187 := ⟨at_186, rfl⟩
theorem d0_187 : D1 code 187 (.sipush 255) 3 190 := ⟨at_187, rfl⟩
theorem d0_190 : D1 code 190 (.iand) 1 191 := ⟨at_190, rfl⟩
theorem d0_191 : D1 code 191 (.i2c) 1 192 := ⟨at_191, rfl⟩
theorem d0_192 : D1 code 192 (.castore) 1 193 := ⟨at_192, rfl⟩
theorem d0_193 : D1 code 193 (.new 8) 3 196 := ⟨at_193, rfl⟩
theorem d0_196 : D1 code 196 (.dup) 1 197 := ⟨at_196, rfl⟩
theorem d0_197 : D1 code 197 (.aload 9) 2 199 := ⟨at_197, rfl⟩
theorem d0_199 : D1 code 199 (.invokespecial 27) 3 202 := ⟨at_199, rfl⟩
theorem d0_202 : D1 code 202 (.astore 11) 2 204 := ⟨at_202, rfl⟩
theorem d0_204 : D1 code 204 (.iload_n 0) 1 205 := ⟨at_204, rfl⟩
theorem d0_205 : D1 code 205 (.iconst 4) 1 206 := ⟨at_205, rfl⟩
theorem d0_206 : D1 code 206 (.iushr) 1 207 := ⟨at_206, rfl⟩
theorem d0_207 : D1 code 207 (.bipush 7) 2 209 := ⟨at_207, rfl⟩
theorem d0_209 : D1 code 209 (.iand) 1 210 := ⟨at_209, rfl⟩
theorem d0_210 : D1 code 210 (.bipush 7) 2 212 := ⟨at_210, rfl⟩
theorem d0_212 : DJ code 212 (.if_icmp .ne) 6 215 218 := ⟨at_212, rfl, rfl⟩
theorem d0_215 : D1 code 215 (.aconst_null) 1 216 := ⟨at_215, rfl⟩
theorem d0_216 : D1 code 216 (.astore 11) 2 218 := ⟨at_216, rfl⟩
theorem d0_218 : D1 code 218 (.aload 11) 2 220 := ⟨at_218, rfl⟩
theorem d0_220 : D1 code 220 (.invokestatic 30) 3 223 := ⟨at_220, rfl⟩
theorem d0_223 : D1 code 223 (.astore 12) 2 225 := ⟨at_223, rfl⟩
theorem d0_225 : D1 code 225 (.aload 11) 2 227 := ⟨at_225, rfl⟩
theorem d0_227 : DJ code 227 .ifnonnull 9 230 236 := ⟨at_227, rfl, rfl⟩
theorem d0_230 : D1 code 230 (.aconst_null) 1 231 := ⟨at_230, rfl⟩
theorem d0_231 : D1 code 231 (.astore 13) 2 233 := ⟨at_231, rfl⟩
theorem d0_233 : DJ code 233 .goto 42 236 275 := ⟨at_233, rfl, rfl⟩
theorem d0_236 : D1 code 236 (.aload 11) 2 238 := ⟨at_236, rfl⟩
theorem d0_238 : D1 code 238 (.ldc 19) 2 240 := ⟨at_238, rfl⟩
theorem d0_240 : D1 code 240 (.invokevirtual 36) 3 243 := ⟨at_240, rfl⟩
theorem d0_243 : DJ code 243 (.ifCond .eq) 11 246 254 := ⟨at_243, rfl, rfl⟩
theorem d0_246 : D1 code 246 (.getstatic 40) 3 249 := ⟨at_246, rfl⟩
theorem d0_249 : D1 code 249 (.astore 13) 2 251 := ⟨at_249, rfl⟩
theorem d0_251 : DJ code 251 .goto 24 254 275 := ⟨at_251, rfl, rfl⟩
theorem d0_254 : D1 code 254 (.aload 11) 2 256 := ⟨at_254, rfl⟩
theorem d0_256 : D1 code 256 (.ldc 17) 2 258 := ⟨at_256, rfl⟩
theorem d0_258 : D1 code 258 (.invokevirtual 36) 3 261 := ⟨at_258, rfl⟩
theorem d0_261 : DJ code 261 (.ifCond .eq) 11 264 272 := ⟨at_261, rfl, rfl⟩
theorem d0_264 : D1 code 264 (.getstatic 44) 3 267 := ⟨at_264, rfl⟩
theorem d0_267 : D1 code 267 (.astore 13) 2 269 := ⟨at_267, rfl⟩
theorem d0_269 : DJ code 269 .goto 6 272 275 := ⟨at_269, rfl, rfl⟩
theorem d0_272 : D1 code 272 (.aconst_null) 1 273 := ⟨at_272, rfl⟩
theorem d0_273 : D1 code 273 (.astore 13) 2 275 := ⟨at_273, rfl⟩
theorem d0_275 : D1 code 275 (.aload 12) 2 277 := ⟨at_275, rfl⟩
theorem d0_277 : D1 code 277 (.aload 13) 2 279 := ⟨at_277, rfl⟩
theorem d0_279 : DJ code 279 (.if_acmp .eq) 5 282 284 := ⟨at_279, rfl, rfl⟩
theorem d0_282 : D1 code 282 (.iconst 0) 1 283 := ⟨at_282, rfl⟩
theorem d0_283 : D1 code 283 (.ireturn) 1 284 := ⟨at_283, rfl⟩
theorem d0_284 : D1 code 284 (.aload 12) 2 286 := ⟨at_284, rfl⟩
theorem d0_286 : DJ code 286 .ifnull 18 289 304 := ⟨at_286, rfl, rfl⟩
theorem d0_289 : D1 code 289 (.aload 12) 2 291 := ⟨at_289, rfl⟩
theorem d0_291 : D1 code 291 (.invokevirtual 47) 3 294 := ⟨at_291, rfl⟩
theorem d0_294 : D1 code 294 (.aload 11) 2 296 := ⟨at_294, rfl⟩
theorem d0_296 : D1 code 296 (.invokevirtual 36) 3 299 := ⟨at_296, rfl⟩
theorem d0_299 : DJ code 299 (.ifCond .ne) 5 302 304 := ⟨at_299, rfl, rfl⟩
theorem d0_302 : D1 code 302 (.iconst 0) 1 303 := ⟨at_302, rfl⟩
theorem d0_303 : D1 code 303 (.ireturn) 1 304 := ⟨at_303, rfl⟩
theorem d0_304 : D1 code 304 (.iconst 1) 1 305 := ⟨at_304, rfl⟩
theorem d0_305 : D1 code 305 (.ireturn) 1 306 := ⟨at_305, rfl⟩
theorem d1_0 : D1 jdk_42_method_54_code 0 (.aload_n 0) 1 1 := ⟨by decide +kernel, rfl⟩
theorem d1_1 : D1 jdk_42_method_54_code 1 (.getfield 9) 3 4 := ⟨by decide +kernel, rfl⟩
theorem d1_4 : D1 jdk_42_method_54_code 4 (.arraylength) 1 5 := ⟨by decide +kernel, rfl⟩
theorem d1_5 : D1 jdk_42_method_54_code 5 (.aload_n 0) 1 6 := ⟨by decide +kernel, rfl⟩
theorem d1_6 : D1 jdk_42_method_54_code 6 (.invokevirtual 335) 3 9 := ⟨by decide +kernel, rfl⟩
theorem d1_9 : D1 jdk_42_method_54_code 9 (.ishr) 1 10 := ⟨by decide +kernel, rfl⟩
theorem d1_10 : D1 jdk_42_method_54_code 10 (.ireturn) 1 11 := ⟨by decide +kernel, rfl⟩
theorem d2_0 : D1 jdk_42_method_152_code 0 (.getstatic 38) 3 3 := ⟨by decide +kernel, rfl⟩
theorem d2_3 : DJ jdk_42_method_152_code 3 (.ifCond .eq) 10 6 13 := ⟨by decide +kernel, rfl, rfl⟩
theorem d2_6 : D1 jdk_42_method_152_code 6 (.aload_n 0) 1 7 := ⟨by decide +kernel, rfl⟩
theorem d2_7 : D1 jdk_42_method_152_code 7 (.getfield 15) 3 10 := ⟨by decide +kernel, rfl⟩
theorem d2_10 : DJ jdk_42_method_152_code 10 .goto 4 13 14 := ⟨by decide +kernel, rfl, rfl⟩
theorem d2_13 : D1 jdk_42_method_152_code 13 (.iconst 1) 1 14 := ⟨by decide +kernel, rfl⟩
theorem d2_14 : D1 jdk_42_method_152_code 14 (.ireturn) 1 15 := ⟨by decide +kernel, rfl⟩
theorem d3_0 : D1 method_2_code 0 (.iload_n 1) 1 1 := ⟨by decide +kernel, rfl⟩
theorem d3_1 : D1 method_2_code 1 (.aload_n 0) 1 2 := ⟨by decide +kernel, rfl⟩
theorem d3_2 : D1 method_2_code 2 (.arraylength) 1 3 := ⟨by decide +kernel, rfl⟩
theorem d3_3 : DJ method_2_code 3 (.if_icmp .ge) 31 6 34 := ⟨by decide +kernel, rfl, rfl⟩
theorem d3_6 : D1 method_2_code 6 (.iload_n 1) 1 7 := ⟨by decide +kernel, rfl⟩
theorem d3_7 : D1 method_2_code 7 (.aload_n 2) 1 8 := ⟨by decide +kernel, rfl⟩
theorem d3_8 : D1 method_2_code 8 (.invokevirtual 7) 3 11 := ⟨by decide +kernel, rfl⟩
theorem d3_11 : DJ method_2_code 11 (.if_icmp .ge) 14 14 25 := ⟨by decide +kernel, rfl, rfl⟩
theorem d3_14 : D1 method_2_code 14 (.aload_n 0) 1 15 := ⟨by decide +kernel, rfl⟩
theorem d3_15 : D1 method_2_code 15 (.iload_n 1) 1 16 := ⟨by decide +kernel, rfl⟩
theorem d3_16 : D1 method_2_code 16 (.aload_n 2) 1 17 := ⟨by decide +kernel, rfl⟩
theorem d3_17 : D1 method_2_code 17 (.iload_n 1) 1 18 := ⟨by decide +kernel, rfl⟩
theorem d3_18 : D1 method_2_code 18 (.invokevirtual 13) 3 21 := ⟨by decide +kernel, rfl⟩
theorem d3_21 : D1 method_2_code 21 (.castore) 1 22 := ⟨by decide +kernel, rfl⟩
theorem d3_22 : DJ method_2_code 22 .goto 12 25 34 := ⟨by decide +kernel, rfl, rfl⟩
theorem d3_25 : D1 method_2_code 25 (.aload_n 0) 1 26 := ⟨by decide +kernel, rfl⟩
theorem d3_26 : D1 method_2_code 26 (.iload_n 1) 1 27 := ⟨by decide +kernel, rfl⟩
theorem d3_27 : D1 method_2_code 27 (.iload_n 3) 1 28 := ⟨by decide +kernel, rfl⟩
theorem d3_28 : D1 method_2_code 28 (.sipush 255) 3 31 := ⟨by decide +kernel, rfl⟩
theorem d3_31 : D1 method_2_code 31 (.iand) 1 32 := ⟨by decide +kernel, rfl⟩
theorem d3_32 : D1 method_2_code 32 (.i2c) 1 33 := ⟨by decide +kernel, rfl⟩
theorem d3_33 : D1 method_2_code 33 (.castore) 1 34 := ⟨by decide +kernel, rfl⟩
theorem d3_34 : D1 method_2_code 34 (.return_) 1 35 := ⟨by decide +kernel, rfl⟩
theorem d4_0 : D1 jdk_42_method_56_code 0 (.aload_n 0) 1 1 := ⟨by decide +kernel, rfl⟩
theorem d4_1 : D1 jdk_42_method_56_code 1 (.invokevirtual 492) 3 4 := ⟨by decide +kernel, rfl⟩
theorem d4_4 : DJ jdk_42_method_56_code 4 (.ifCond .eq) 12 7 16 := ⟨by decide +kernel, rfl, rfl⟩
theorem d4_7 : D1 jdk_42_method_56_code 7 (.aload_n 0) 1 8 := ⟨by decide +kernel, rfl⟩
theorem d4_8 : D1 jdk_42_method_56_code 8 (.getfield 9) 3 11 := ⟨by decide +kernel, rfl⟩
theorem d4_11 : D1 jdk_42_method_56_code 11 (.iload_n 1) 1 12 := ⟨by decide +kernel, rfl⟩
theorem d4_12 : D1 jdk_42_method_56_code 12 (.invokestatic 495) 3 15 := ⟨by decide +kernel, rfl⟩
theorem d4_15 : D1 jdk_42_method_56_code 15 (.ireturn) 1 16 := ⟨by decide +kernel, rfl⟩
theorem d4_16 : D1 jdk_42_method_56_code 16 (.aload_n 0) 1 17 := ⟨by decide +kernel, rfl⟩
theorem d4_17 : D1 jdk_42_method_56_code 17 (.getfield 9) 3 20 := ⟨by decide +kernel, rfl⟩
theorem d4_20 : D1 jdk_42_method_56_code 20 (.iload_n 1) 1 21 := ⟨by decide +kernel, rfl⟩
theorem d4_21 : D1 jdk_42_method_56_code 21 (.invokestatic 498) 3 24 := ⟨by decide +kernel, rfl⟩
theorem d4_24 : D1 jdk_42_method_56_code 24 (.ireturn) 1 25 := ⟨by decide +kernel, rfl⟩
theorem d5_0 : D1 jdk_42_method_154_code 0 (.getstatic 38) 3 3 := ⟨by decide +kernel, rfl⟩
theorem d5_3 : DJ jdk_42_method_154_code 3 (.ifCond .eq) 14 6 17 := ⟨by decide +kernel, rfl, rfl⟩
theorem d5_6 : D1 jdk_42_method_154_code 6 (.aload_n 0) 1 7 := ⟨by decide +kernel, rfl⟩
theorem d5_7 : D1 jdk_42_method_154_code 7 (.getfield 15) 3 10 := ⟨by decide +kernel, rfl⟩
theorem d5_10 : DJ jdk_42_method_154_code 10 (.ifCond .ne) 7 13 17 := ⟨by decide +kernel, rfl, rfl⟩
theorem d5_13 : D1 jdk_42_method_154_code 13 (.iconst 1) 1 14 := ⟨by decide +kernel, rfl⟩
theorem d5_14 : DJ jdk_42_method_154_code 14 .goto 4 17 18 := ⟨by decide +kernel, rfl, rfl⟩
theorem d5_17 : D1 jdk_42_method_154_code 17 (.iconst 0) 1 18 := ⟨by decide +kernel, rfl⟩
theorem d5_18 : D1 jdk_42_method_154_code 18 (.ireturn) 1 19 := ⟨by decide +kernel, rfl⟩
theorem d6_0 : D1 jdk_43_method_2_code 0 (.iload_n 1) 1 1 := ⟨by decide +kernel, rfl⟩
theorem d6_1 : D1 jdk_43_method_2_code 1 (.aload_n 0) 1 2 := ⟨by decide +kernel, rfl⟩
theorem d6_2 : D1 jdk_43_method_2_code 2 (.arraylength) 1 3 := ⟨by decide +kernel, rfl⟩
theorem d6_3 : D1 jdk_43_method_2_code 3 (.invokestatic 9) 3 6 := ⟨by decide +kernel, rfl⟩
theorem d6_6 : D1 jdk_43_method_2_code 6 (.aload_n 0) 1 7 := ⟨by decide +kernel, rfl⟩
theorem d6_7 : D1 jdk_43_method_2_code 7 (.iload_n 1) 1 8 := ⟨by decide +kernel, rfl⟩
theorem d6_8 : D1 jdk_43_method_2_code 8 (.baload) 1 9 := ⟨by decide +kernel, rfl⟩
theorem d6_9 : D1 jdk_43_method_2_code 9 (.sipush 255) 3 12 := ⟨by decide +kernel, rfl⟩
theorem d6_12 : D1 jdk_43_method_2_code 12 (.iand) 1 13 := ⟨by decide +kernel, rfl⟩
theorem d6_13 : D1 jdk_43_method_2_code 13 (.i2c) 1 14 := ⟨by decide +kernel, rfl⟩
theorem d6_14 : D1 jdk_43_method_2_code 14 (.ireturn) 1 15 := ⟨by decide +kernel, rfl⟩
theorem d7_0 : D1 jdk_42_method_155_code 0 (.iload_n 0) 1 1 := ⟨by decide +kernel, rfl⟩
theorem d7_1 : D1 jdk_42_method_155_code 1 (.iload_n 1) 1 2 := ⟨by decide +kernel, rfl⟩
theorem d7_2 : D1 jdk_42_method_155_code 2 (.getstatic 1053) 3 5 := ⟨by decide +kernel, rfl⟩
theorem d7_5 : D1 jdk_42_method_155_code 5 (.invokestatic 1059) 3 8 := ⟨by decide +kernel, rfl⟩
theorem d7_8 : D1 jdk_42_method_155_code 8 (.pop) 1 9 := ⟨by decide +kernel, rfl⟩
theorem d7_9 : D1 jdk_42_method_155_code 9 (.return_) 1 10 := ⟨by decide +kernel, rfl⟩
theorem d8_0 : D1 jdk_41_method_11_code 0 (.iload_n 0) 1 1 := ⟨by decide +kernel, rfl⟩
theorem d8_1 : DJ jdk_41_method_11_code 1 (.ifCond .lt) 8 4 9 := ⟨by decide +kernel, rfl, rfl⟩
theorem d8_4 : D1 jdk_41_method_11_code 4 (.iload_n 0) 1 5 := ⟨by decide +kernel, rfl⟩
theorem d8_5 : D1 jdk_41_method_11_code 5 (.iload_n 1) 1 6 := ⟨by decide +kernel, rfl⟩
theorem d8_6 : DJ jdk_41_method_11_code 6 (.if_icmp .lt) 10 9 16 := ⟨by decide +kernel, rfl, rfl⟩
theorem d8_9 : D1 jdk_41_method_11_code 9 (.aload_n 2) 1 10 := ⟨by decide +kernel, rfl⟩
theorem d8_10 : D1 jdk_41_method_11_code 10 (.iload_n 0) 1 11 := ⟨by decide +kernel, rfl⟩
theorem d8_11 : D1 jdk_41_method_11_code 11 (.iload_n 1) 1 12 := ⟨by decide +kernel, rfl⟩
theorem d8_12 : D1 jdk_41_method_11_code 12 (.invokestatic 95) 3 15 := ⟨by decide +kernel, rfl⟩
theorem d8_15 : D1 jdk_41_method_11_code 15 (.athrow) 1 16 := ⟨by decide +kernel, rfl⟩
theorem d8_16 : D1 jdk_41_method_11_code 16 (.iload_n 0) 1 17 := ⟨by decide +kernel, rfl⟩
theorem d8_17 : D1 jdk_41_method_11_code 17 (.ireturn) 1 18 := ⟨by decide +kernel, rfl⟩
theorem d9_0 : D1 jdk_42_method_3_code 0 (.aload_n 0) 1 1 := ⟨by decide +kernel, rfl⟩
theorem d9_1 : D1 jdk_42_method_3_code 1 (.aload_n 1) 1 2 := ⟨by decide +kernel, rfl⟩
theorem d9_2 : D1 jdk_42_method_3_code 2 (.iconst 0) 1 3 := ⟨by decide +kernel, rfl⟩
theorem d9_3 : D1 jdk_42_method_3_code 3 (.aload_n 1) 1 4 := ⟨by decide +kernel, rfl⟩
theorem d9_4 : D1 jdk_42_method_3_code 4 (.arraylength) 1 5 := ⟨by decide +kernel, rfl⟩
theorem d9_5 : D1 jdk_42_method_3_code 5 (.aconst_null) 1 6 := ⟨by decide +kernel, rfl⟩
theorem d9_6 : D1 jdk_42_method_3_code 6 (.invokespecial 27) 3 9 := ⟨by decide +kernel, rfl⟩
theorem d9_9 : D1 jdk_42_method_3_code 9 (.return_) 1 10 := ⟨by decide +kernel, rfl⟩
theorem d10_0 : D1 jdk_42_method_149_code 0 (.aload_n 0) 1 1 := ⟨by decide +kernel, rfl⟩
theorem d10_1 : D1 jdk_42_method_149_code 1 (.invokespecial 1) 3 4 := ⟨by decide +kernel, rfl⟩
theorem d10_4 : D1 jdk_42_method_149_code 4 (.iload_n 3) 1 5 := ⟨by decide +kernel, rfl⟩
theorem d10_5 : DJ jdk_42_method_149_code 5 (.ifCond .ne) 22 8 27 := ⟨by decide +kernel, rfl, rfl⟩
theorem d10_8 : D1 jdk_42_method_149_code 8 (.aload_n 0) 1 9 := ⟨by decide +kernel, rfl⟩
theorem d10_9 : D1 jdk_42_method_149_code 9 (.ldc 7) 2 11 := ⟨by decide +kernel, rfl⟩
theorem d10_11 : D1 jdk_42_method_149_code 11 (.getfield 9) 3 14 := ⟨by decide +kernel, rfl⟩
theorem d10_14 : D1 jdk_42_method_149_code 14 (.putfield 9) 3 17 := ⟨by decide +kernel, rfl⟩
theorem d10_17 : D1 jdk_42_method_149_code 17 (.aload_n 0) 1 18 := ⟨by decide +kernel, rfl⟩
theorem d10_18 : D1 jdk_42_method_149_code 18 (.ldc 7) 2 20 := ⟨by decide +kernel, rfl⟩
theorem d10_20 : D1 jdk_42_method_149_code 20 (.getfield 15) 3 23 := ⟨by decide +kernel, rfl⟩
theorem d10_23 : D1 jdk_42_method_149_code 23 (.putfield 15) 3 26 := ⟨by decide +kernel, rfl⟩
theorem d10_26 : D1 jdk_42_method_149_code 26 (.return_) 1 27 := ⟨by decide +kernel, rfl⟩
theorem d10_27 : D1 jdk_42_method_149_code 27 (.getstatic 38) 3 30 := ⟨by decide +kernel, rfl⟩
theorem d10_30 : DJ jdk_42_method_149_code 30 (.ifCond .eq) 28 33 58 := ⟨by decide +kernel, rfl, rfl⟩
theorem d10_33 : D1 jdk_42_method_149_code 33 (.aload_n 1) 1 34 := ⟨by decide +kernel, rfl⟩
theorem d10_34 : D1 jdk_42_method_149_code 34 (.iload_n 2) 1 35 := ⟨by decide +kernel, rfl⟩
theorem d10_35 : D1 jdk_42_method_149_code 35 (.iload_n 3) 1 36 := ⟨by decide +kernel, rfl⟩
theorem d10_36 : D1 jdk_42_method_149_code 36 (.invokestatic 177) 3 39 := ⟨by decide +kernel, rfl⟩
theorem d10_39 : D1 jdk_42_method_149_code 39 (.astore 5) 2 41 := ⟨by decide +kernel, rfl⟩
theorem d10_41 : D1 jdk_42_method_149_code 41 (.aload_n 0) 1 42 := ⟨by decide +kernel, rfl⟩
theorem d10_42 : D1 jdk_42_method_149_code 42 (.aload 5) 2 44 := ⟨by decide +kernel, rfl⟩
theorem d10_44 : D1 jdk_42_method_149_code 44 (.iload_n 3) 1 45 := ⟨by decide +kernel, rfl⟩
theorem d10_45 : D1 jdk_42_method_149_code 45 (.invokestatic 47) 3 48 := ⟨by decide +kernel, rfl⟩
theorem d10_48 : D1 jdk_42_method_149_code 48 (.putfield 15) 3 51 := ⟨by decide +kernel, rfl⟩
theorem d10_51 : D1 jdk_42_method_149_code 51 (.aload_n 0) 1 52 := ⟨by decide +kernel, rfl⟩
theorem d10_52 : D1 jdk_42_method_149_code 52 (.aload 5) 2 54 := ⟨by decide +kernel, rfl⟩
theorem d10_54 : D1 jdk_42_method_149_code 54 (.putfield 9) 3 57 := ⟨by decide +kernel, rfl⟩
theorem d10_57 : D1 jdk_42_method_149_code 57 (.return_) 1 58 := ⟨by decide +kernel, rfl⟩
theorem d10_58 : D1 jdk_42_method_149_code 58 (.aload_n 0) 1 59 := ⟨by decide +kernel, rfl⟩
theorem d10_59 : D1 jdk_42_method_149_code 59 (.iconst 1) 1 60 := ⟨by decide +kernel, rfl⟩
theorem d10_60 : D1 jdk_42_method_149_code 60 (.putfield 15) 3 63 := ⟨by decide +kernel, rfl⟩
theorem d10_63 : D1 jdk_42_method_149_code 63 (.aload_n 0) 1 64 := ⟨by decide +kernel, rfl⟩
theorem d10_64 : D1 jdk_42_method_149_code 64 (.aload_n 1) 1 65 := ⟨by decide +kernel, rfl⟩
theorem d10_65 : D1 jdk_42_method_149_code 65 (.iload_n 2) 1 66 := ⟨by decide +kernel, rfl⟩
theorem d10_66 : D1 jdk_42_method_149_code 66 (.iload_n 3) 1 67 := ⟨by decide +kernel, rfl⟩
theorem d10_67 : D1 jdk_42_method_149_code 67 (.invokestatic 180) 3 70 := ⟨by decide +kernel, rfl⟩
theorem d10_70 : D1 jdk_42_method_149_code 70 (.putfield 9) 3 73 := ⟨by decide +kernel, rfl⟩
theorem d10_73 : D1 jdk_42_method_149_code 73 (.return_) 1 74 := ⟨by decide +kernel, rfl⟩
theorem d11_0 : D1 object_method_1_code 0 (.return_) 1 1 := ⟨by decide +kernel, rfl⟩
theorem d12_0 : D1 jdk_52_method_16_code 0 (.iload_n 2) 1 1 := ⟨by decide +kernel, rfl⟩
theorem d12_1 : D1 jdk_52_method_16_code 1 (.newarray .byte) 2 3 := ⟨by decide +kernel, rfl⟩
theorem d12_3 : D1 jdk_52_method_16_code 3 (.astore_n 3) 1 4 := ⟨by decide +kernel, rfl⟩
theorem d12_4 : D1 jdk_52_method_16_code 4 (.aload_n 0) 1 5 := ⟨by decide +kernel, rfl⟩
theorem d12_5 : D1 jdk_52_method_16_code 5 (.iload_n 1) 1 6 := ⟨by decide +kernel, rfl⟩
theorem d12_6 : D1 jdk_52_method_16_code 6 (.aload_n 3) 1 7 := ⟨by decide +kernel, rfl⟩
theorem d12_7 : D1 jdk_52_method_16_code 7 (.iconst 0) 1 8 := ⟨by decide +kernel, rfl⟩
theorem d12_8 : D1 jdk_52_method_16_code 8 (.iload_n 2) 1 9 := ⟨by decide +kernel, rfl⟩
theorem d12_9 : D1 jdk_52_method_16_code 9 (.invokestatic 115) 3 12 := ⟨by decide +kernel, rfl⟩
theorem d12_12 : D1 jdk_52_method_16_code 12 (.istore 4) 2 14 := ⟨by decide +kernel, rfl⟩
theorem d12_14 : D1 jdk_52_method_16_code 14 (.iload 4) 2 16 := ⟨by decide +kernel, rfl⟩
theorem d12_16 : D1 jdk_52_method_16_code 16 (.iload_n 2) 1 17 := ⟨by decide +kernel, rfl⟩
theorem d12_17 : DJ jdk_52_method_16_code 17 (.if_icmp .eq) 40 20 57 := ⟨by decide +kernel, rfl, rfl⟩
theorem d12_20 : D1 jdk_52_method_16_code 20 (.aload_n 0) 1 21 := ⟨by decide +kernel, rfl⟩
theorem d12_21 : D1 jdk_52_method_16_code 21 (.iload_n 1) 1 22 := ⟨by decide +kernel, rfl⟩
theorem d12_22 : D1 jdk_52_method_16_code 22 (.iload_n 2) 1 23 := ⟨by decide +kernel, rfl⟩
theorem d12_23 : D1 jdk_52_method_16_code 23 (.invokestatic 119) 3 26 := ⟨by decide +kernel, rfl⟩
theorem d12_26 : D1 jdk_52_method_16_code 26 (.astore 5) 2 28 := ⟨by decide +kernel, rfl⟩
theorem d12_28 : D1 jdk_52_method_16_code 28 (.aload 5) 2 30 := ⟨by decide +kernel, rfl⟩
theorem d12_30 : D1 jdk_52_method_16_code 30 (.iload 4) 2 32 := ⟨by decide +kernel, rfl⟩
theorem d12_32 : D1 jdk_52_method_16_code 32 (.invokestatic 71) 3 35 := ⟨by decide +kernel, rfl⟩
theorem d12_35 : D1 jdk_52_method_16_code 35 (.sipush 255) 3 38 := ⟨by decide +kernel, rfl⟩
theorem d12_38 : DJ jdk_52_method_16_code 38 (.if_icmp .gt) 16 41 54 := ⟨by decide +kernel, rfl, rfl⟩
theorem d12_41 : D1 jdk_52_method_16_code 41 (.aload 5) 2 43 := ⟨by decide +kernel, rfl⟩
theorem d12_43 : D1 jdk_52_method_16_code 43 (.iconst 0) 1 44 := ⟨by decide +kernel, rfl⟩
theorem d12_44 : D1 jdk_52_method_16_code 44 (.aload_n 3) 1 45 := ⟨by decide +kernel, rfl⟩
theorem d12_45 : D1 jdk_52_method_16_code 45 (.iconst 0) 1 46 := ⟨by decide +kernel, rfl⟩
theorem d12_46 : D1 jdk_52_method_16_code 46 (.iload_n 2) 1 47 := ⟨by decide +kernel, rfl⟩
theorem d12_47 : D1 jdk_52_method_16_code 47 (.invokestatic 123) 3 50 := ⟨by decide +kernel, rfl⟩
theorem d12_50 : D1 jdk_52_method_16_code 50 (.iload_n 2) 1 51 := ⟨by decide +kernel, rfl⟩
theorem d12_51 : DJ jdk_52_method_16_code 51 (.if_icmp .eq) 6 54 57 := ⟨by decide +kernel, rfl, rfl⟩
theorem d12_54 : D1 jdk_52_method_16_code 54 (.aload 5) 2 56 := ⟨by decide +kernel, rfl⟩
theorem d12_56 : D1 jdk_52_method_16_code 56 (.areturn) 1 57 := ⟨by decide +kernel, rfl⟩
theorem d12_57 : D1 jdk_52_method_16_code 57 (.aload_n 3) 1 58 := ⟨by decide +kernel, rfl⟩
theorem d12_58 : D1 jdk_52_method_16_code 58 (.areturn) 1 59 := ⟨by decide +kernel, rfl⟩
theorem d13_0 : D1 jdk_52_method_21_code 0 (.iconst 0) 1 1 := ⟨by decide +kernel, rfl⟩
theorem d13_1 : D1 jdk_52_method_21_code 1 (.istore 5) 2 3 := ⟨by decide +kernel, rfl⟩
theorem d13_3 : D1 jdk_52_method_21_code 3 (.iload 5) 2 5 := ⟨by decide +kernel, rfl⟩
theorem d13_5 : D1 jdk_52_method_21_code 5 (.iload 4) 2 7 := ⟨by decide +kernel, rfl⟩
theorem d13_7 : DJ jdk_52_method_21_code 7 (.if_icmp .ge) 37 10 44 := ⟨by decide +kernel, rfl, rfl⟩
theorem d13_10 : D1 jdk_52_method_21_code 10 (.aload_n 0) 1 11 := ⟨by decide +kernel, rfl⟩
theorem d13_11 : D1 jdk_52_method_21_code 11 (.iload_n 1) 1 12 := ⟨by decide +kernel, rfl⟩
theorem d13_12 : D1 jdk_52_method_21_code 12 (.caload) 1 13 := ⟨by decide +kernel, rfl⟩
theorem d13_13 : D1 jdk_52_method_21_code 13 (.istore 6) 2 15 := ⟨by decide +kernel, rfl⟩
theorem d13_15 : D1 jdk_52_method_21_code 15 (.iload 6) 2 17 := ⟨by decide +kernel, rfl⟩
theorem d13_17 : D1 jdk_52_method_21_code 17 (.sipush 255) 3 20 := ⟨by decide +kernel, rfl⟩
theorem d13_20 : DJ jdk_52_method_21_code 20 (.if_icmp .le) 6 23 26 := ⟨by decide +kernel, rfl, rfl⟩
theorem d13_23 : D1 jdk_52_method_21_code 23 (.iload 5) 2 25 := ⟨by decide +kernel, rfl⟩
theorem d13_25 : D1 jdk_52_method_21_code 25 (.ireturn) 1 26 := ⟨by decide +kernel, rfl⟩
theorem d13_26 : D1 jdk_52_method_21_code 26 (.aload_n 2) 1 27 := ⟨by decide +kernel, rfl⟩
theorem d13_27 : D1 jdk_52_method_21_code 27 (.iload_n 3) 1 28 := ⟨by decide +kernel, rfl⟩
theorem d13_28 : D1 jdk_52_method_21_code 28 (.iload 6) 2 30 := ⟨by decide +kernel, rfl⟩
theorem d13_30 : D1 jdk_52_method_21_code 30 (.i2b) 1 31 := ⟨by decide +kernel, rfl⟩
theorem d13_31 : D1 jdk_52_method_21_code 31 (.bastore) 1 32 := ⟨by decide +kernel, rfl⟩
theorem d13_32 : D1 jdk_52_method_21_code 32 (.iinc 1 1) 3 35 := ⟨by decide +kernel, rfl⟩
theorem d13_35 : D1 jdk_52_method_21_code 35 (.iinc 3 1) 3 38 := ⟨by decide +kernel, rfl⟩
theorem d13_38 : D1 jdk_52_method_21_code 38 (.iinc 5 1) 3 41 := ⟨by decide +kernel, rfl⟩
theorem d13_41 : DJ jdk_52_method_21_code 41 .goto (-38) 44 3 := ⟨by decide +kernel, rfl, rfl⟩
theorem d13_44 : D1 jdk_52_method_21_code 44 (.iload 4) 2 46 := ⟨by decide +kernel, rfl⟩
theorem d13_46 : D1 jdk_52_method_21_code 46 (.ireturn) 1 47 := ⟨by decide +kernel, rfl⟩
theorem d14_0 : D1 jdk_52_method_15_code 0 (.iload_n 1) 1 1 := ⟨by decide +kernel, rfl⟩
theorem d14_1 : D1 jdk_52_method_15_code 1 (.aload_n 0) 1 2 := ⟨by decide +kernel, rfl⟩
theorem d14_2 : D1 jdk_52_method_15_code 2 (.arraylength) 1 3 := ⟨by decide +kernel, rfl⟩
theorem d14_3 : D1 jdk_52_method_15_code 3 (.isub) 1 4 := ⟨by decide +kernel, rfl⟩
theorem d14_4 : D1 jdk_52_method_15_code 4 (.bipush 31) 2 6 := ⟨by decide +kernel, rfl⟩
theorem d14_6 : D1 jdk_52_method_15_code 6 (.iushr) 1 7 := ⟨by decide +kernel, rfl⟩
theorem d14_7 : D1 jdk_52_method_15_code 7 (.i2b) 1 8 := ⟨by decide +kernel, rfl⟩
theorem d14_8 : D1 jdk_52_method_15_code 8 (.ireturn) 1 9 := ⟨by decide +kernel, rfl⟩
theorem d15_0 : D1 prog_34_method_5_code 0 (.invokestatic 33) 3 3 := ⟨by decide +kernel, rfl⟩
theorem d15_3 : D1 prog_34_method_5_code 3 (.astore_n 1) 1 4 := ⟨by decide +kernel, rfl⟩
theorem d15_4 : D1 prog_34_method_5_code 4 (.aload_n 1) 1 5 := ⟨by decide +kernel, rfl⟩
theorem d15_5 : D1 prog_34_method_5_code 5 (.arraylength) 1 6 := ⟨by decide +kernel, rfl⟩
theorem d15_6 : D1 prog_34_method_5_code 6 (.istore_n 2) 1 7 := ⟨by decide +kernel, rfl⟩
theorem d15_7 : D1 prog_34_method_5_code 7 (.iconst 0) 1 8 := ⟨by decide +kernel, rfl⟩
theorem d15_8 : D1 prog_34_method_5_code 8 (.istore_n 3) 1 9 := ⟨by decide +kernel, rfl⟩
theorem d15_9 : D1 prog_34_method_5_code 9 (.iload_n 3) 1 10 := ⟨by decide +kernel, rfl⟩
theorem d15_10 : D1 prog_34_method_5_code 10 (.iload_n 2) 1 11 := ⟨by decide +kernel, rfl⟩
theorem d15_11 : DJ prog_34_method_5_code 11 (.if_icmp .ge) 29 14 40 := ⟨by decide +kernel, rfl, rfl⟩
theorem d15_14 : D1 prog_34_method_5_code 14 (.aload_n 1) 1 15 := ⟨by decide +kernel, rfl⟩
theorem d15_15 : D1 prog_34_method_5_code 15 (.iload_n 3) 1 16 := ⟨by decide +kernel, rfl⟩
theorem d15_16 : D1 prog_34_method_5_code 16 (.aaload) 1 17 := ⟨by decide +kernel, rfl⟩
theorem d15_17 : D1 prog_34_method_5_code 17 (.astore 4) 2 19 := ⟨by decide +kernel, rfl⟩
theorem d15_19 : D1 prog_34_method_5_code 19 (.aload 4) 2 21 := ⟨by decide +kernel, rfl⟩
theorem d15_21 : D1 prog_34_method_5_code 21 (.getfield 29) 3 24 := ⟨by decide +kernel, rfl⟩
theorem d15_24 : D1 prog_34_method_5_code 24 (.aload_n 0) 1 25 := ⟨by decide +kernel, rfl⟩
theorem d15_25 : D1 prog_34_method_5_code 25 (.invokevirtual 37) 3 28 := ⟨by decide +kernel, rfl⟩
theorem d15_28 : DJ prog_34_method_5_code 28 (.ifCond .eq) 6 31 34 := ⟨by decide +kernel, rfl, rfl⟩
theorem d15_31 : D1 prog_34_method_5_code 31 (.aload 4) 2 33 := ⟨by decide +kernel, rfl⟩
theorem d15_33 : D1 prog_34_method_5_code 33 (.areturn) 1 34 := ⟨by decide +kernel, rfl⟩
theorem d15_34 : D1 prog_34_method_5_code 34 (.iinc 3 1) 3 37 := ⟨by decide +kernel, rfl⟩
theorem d15_37 : DJ prog_34_method_5_code 37 .goto (-28) 40 9 := ⟨by decide +kernel, rfl, rfl⟩
theorem d15_40 : D1 prog_34_method_5_code 40 (.aconst_null) 1 41 := ⟨by decide +kernel, rfl⟩
theorem d15_41 : D1 prog_34_method_5_code 41 (.areturn) 1 42 := ⟨by decide +kernel, rfl⟩
theorem d16_0 : D1 prog_34_method_1_code 0 (.getstatic 10) 3 3 := ⟨by decide +kernel, rfl⟩
theorem d16_3 : D1 prog_34_method_1_code 3 (.invokevirtual 14) 3 6 := ⟨by decide +kernel, rfl⟩
theorem d16_6 : D1 prog_34_method_1_code 6 (.checkcast 15) 3 9 := ⟨by decide +kernel, rfl⟩
theorem d16_9 : D1 prog_34_method_1_code 9 (.areturn) 1 10 := ⟨by decide +kernel, rfl⟩
theorem d17_0 : D1 jdk_42_method_66_code 0 (.aload_n 0) 1 1 := ⟨by decide +kernel, rfl⟩
theorem d17_1 : D1 jdk_42_method_66_code 1 (.aload_n 1) 1 2 := ⟨by decide +kernel, rfl⟩
theorem d17_2 : DJ jdk_42_method_66_code 2 (.if_acmp .ne) 5 5 7 := ⟨by decide +kernel, rfl, rfl⟩
theorem d17_5 : D1 jdk_42_method_66_code 5 (.iconst 1) 1 6 := ⟨by decide +kernel, rfl⟩
theorem d17_6 : D1 jdk_42_method_66_code 6 (.ireturn) 1 7 := ⟨by decide +kernel, rfl⟩
theorem d17_7 : D1 jdk_42_method_66_code 7 (.aload_n 1) 1 8 := ⟨by decide +kernel, rfl⟩
theorem d17_8 : D1 jdk_42_method_66_code 8 (.instanceof 10) 3 11 := ⟨by decide +kernel, rfl⟩
theorem d17_11 : DJ jdk_42_method_66_code 11 (.ifCond .eq) 43 14 54 := ⟨by decide +kernel, rfl, rfl⟩
theorem d17_14 : D1 jdk_42_method_66_code 14 (.aload_n 1) 1 15 := ⟨by decide +kernel, rfl⟩
theorem d17_15 : D1 jdk_42_method_66_code 15 (.checkcast 10) 3 18 := ⟨by decide +kernel, rfl⟩
theorem d17_18 : D1 jdk_42_method_66_code 18 (.astore_n 2) 1 19 := ⟨by decide +kernel, rfl⟩
theorem d17_19 : D1 jdk_42_method_66_code 19 (.getstatic 38) 3 22 := ⟨by decide +kernel, rfl⟩
theorem d17_22 : DJ jdk_42_method_66_code 22 (.ifCond .eq) 14 25 36 := ⟨by decide +kernel, rfl, rfl⟩
theorem d17_25 : D1 jdk_42_method_66_code 25 (.aload_n 0) 1 26 := ⟨by decide +kernel, rfl⟩
theorem d17_26 : D1 jdk_42_method_66_code 26 (.getfield 15) 3 29 := ⟨by decide +kernel, rfl⟩
theorem d17_29 : D1 jdk_42_method_66_code 29 (.aload_n 2) 1 30 := ⟨by decide +kernel, rfl⟩
theorem d17_30 : D1 jdk_42_method_66_code 30 (.getfield 15) 3 33 := ⟨by decide +kernel, rfl⟩
theorem d17_33 : DJ jdk_42_method_66_code 33 (.if_icmp .ne) 21 36 54 := ⟨by decide +kernel, rfl, rfl⟩
theorem d17_36 : D1 jdk_42_method_66_code 36 (.aload_n 0) 1 37 := ⟨by decide +kernel, rfl⟩
theorem d17_37 : D1 jdk_42_method_66_code 37 (.getfield 9) 3 40 := ⟨by decide +kernel, rfl⟩
theorem d17_40 : D1 jdk_42_method_66_code 40 (.aload_n 2) 1 41 := ⟨by decide +kernel, rfl⟩
theorem d17_41 : D1 jdk_42_method_66_code 41 (.getfield 9) 3 44 := ⟨by decide +kernel, rfl⟩
theorem d17_44 : D1 jdk_42_method_66_code 44 (.invokestatic 541) 3 47 := ⟨by decide +kernel, rfl⟩
theorem d17_47 : DJ jdk_42_method_66_code 47 (.ifCond .eq) 7 50 54 := ⟨by decide +kernel, rfl, rfl⟩
theorem d17_50 : D1 jdk_42_method_66_code 50 (.iconst 1) 1 51 := ⟨by decide +kernel, rfl⟩
theorem d17_51 : DJ jdk_42_method_66_code 51 .goto 4 54 55 := ⟨by decide +kernel, rfl, rfl⟩
theorem d17_54 : D1 jdk_42_method_66_code 54 (.iconst 0) 1 55 := ⟨by decide +kernel, rfl⟩
theorem d17_55 : D1 jdk_42_method_66_code 55 (.ireturn) 1 56 := ⟨by decide +kernel, rfl⟩
theorem d18_0 : D1 jdk_43_method_13_code 0 (.aload_n 0) 1 1 := ⟨by decide +kernel, rfl⟩
theorem d18_1 : D1 jdk_43_method_13_code 1 (.arraylength) 1 2 := ⟨by decide +kernel, rfl⟩
theorem d18_2 : D1 jdk_43_method_13_code 2 (.aload_n 1) 1 3 := ⟨by decide +kernel, rfl⟩
theorem d18_3 : D1 jdk_43_method_13_code 3 (.arraylength) 1 4 := ⟨by decide +kernel, rfl⟩
theorem d18_4 : DJ jdk_43_method_13_code 4 (.if_icmp .ne) 30 7 34 := ⟨by decide +kernel, rfl, rfl⟩
theorem d18_7 : D1 jdk_43_method_13_code 7 (.iconst 0) 1 8 := ⟨by decide +kernel, rfl⟩
theorem d18_8 : D1 jdk_43_method_13_code 8 (.istore_n 2) 1 9 := ⟨by decide +kernel, rfl⟩
theorem d18_9 : D1 jdk_43_method_13_code 9 (.iload_n 2) 1 10 := ⟨by decide +kernel, rfl⟩
theorem d18_10 : D1 jdk_43_method_13_code 10 (.aload_n 0) 1 11 := ⟨by decide +kernel, rfl⟩
theorem d18_11 : D1 jdk_43_method_13_code 11 (.arraylength) 1 12 := ⟨by decide +kernel, rfl⟩
theorem d18_12 : DJ jdk_43_method_13_code 12 (.if_icmp .ge) 20 15 32 := ⟨by decide +kernel, rfl, rfl⟩
theorem d18_15 : D1 jdk_43_method_13_code 15 (.aload_n 0) 1 16 := ⟨by decide +kernel, rfl⟩
theorem d18_16 : D1 jdk_43_method_13_code 16 (.iload_n 2) 1 17 := ⟨by decide +kernel, rfl⟩
theorem d18_17 : D1 jdk_43_method_13_code 17 (.baload) 1 18 := ⟨by decide +kernel, rfl⟩
theorem d18_18 : D1 jdk_43_method_13_code 18 (.aload_n 1) 1 19 := ⟨by decide +kernel, rfl⟩
theorem d18_19 : D1 jdk_43_method_13_code 19 (.iload_n 2) 1 20 := ⟨by decide +kernel, rfl⟩
theorem d18_20 : D1 jdk_43_method_13_code 20 (.baload) 1 21 := ⟨by decide +kernel, rfl⟩
theorem d18_21 : DJ jdk_43_method_13_code 21 (.if_icmp .eq) 5 24 26 := ⟨by decide +kernel, rfl, rfl⟩
theorem d18_24 : D1 jdk_43_method_13_code 24 (.iconst 0) 1 25 := ⟨by decide +kernel, rfl⟩
theorem d18_25 : D1 jdk_43_method_13_code 25 (.ireturn) 1 26 := ⟨by decide +kernel, rfl⟩
theorem d18_26 : D1 jdk_43_method_13_code 26 (.iinc 2 1) 3 29 := ⟨by decide +kernel, rfl⟩
theorem d18_29 : DJ jdk_43_method_13_code 29 .goto (-20) 32 9 := ⟨by decide +kernel, rfl, rfl⟩
theorem d18_32 : D1 jdk_43_method_13_code 32 (.iconst 1) 1 33 := ⟨by decide +kernel, rfl⟩
theorem d18_33 : D1 jdk_43_method_13_code 33 (.ireturn) 1 34 := ⟨by decide +kernel, rfl⟩
theorem d18_34 : D1 jdk_43_method_13_code 34 (.iconst 0) 1 35 := ⟨by decide +kernel, rfl⟩
theorem d18_35 : D1 jdk_43_method_13_code 35 (.ireturn) 1 36 := ⟨by decide +kernel, rfl⟩
theorem d19_0 : D1 prog_34_method_4_code 0 (.aload_n 0) 1 1 := ⟨by decide +kernel, rfl⟩
theorem d19_1 : D1 prog_34_method_4_code 1 (.getfield 29) 3 4 := ⟨by decide +kernel, rfl⟩
theorem d19_4 : D1 prog_34_method_4_code 4 (.areturn) 1 5 := ⟨by decide +kernel, rfl⟩

theorem own_set {cs : List Int32} {i : Nat} {c : Int32} (hc : cs[i]? = some c) : ((cs.take i).map lo8 ++ List.replicate (cs.length - i) (0 : Int32)).set i (lo8 c) = (cs.take (i + 1)).map lo8 ++ List.replicate (cs.length - (i + 1)) (0 : Int32) := by
  have hi : i < cs.length := (List.getElem?_eq_some_iff.mp hc).1
  have e : cs.length - i = (cs.length - (i + 1)) + 1 := by omega
  have hl : ((cs.take i).map lo8).length = i := by simp; omega
  rw [e, List.replicate_succ, List.set_append_right _ _ (by omega), hl, Nat.sub_self, List.set_cons_zero, List.take_add_one, hc]
  simp
abbrev QC5 (Z : State) (t : Addr) (cs : List Int32) (h0 : Heap) (v : Option Value) (h : Heap) (F : List Addr) : Prop := v = some (.int (Int32.ofNat cs.length)) ∧ Keep h0 h [t] ∧ IA Z h t .byte (cs.map lo8)
set_option maxRecDepth 65536 in
set_option maxHeartbeats 4000000 in
theorem rm_c5_loop (l : Launch) (Z : State) (a0 : Array Value) (hw : ∀ d ∈ tables_1, d.before a0 Z = true) (n0 : Nat) (h0 : Heap) (b t : Addr) (cs : List Int32) (hlat : Lat cs) (hlen : cs.length < 2 ^ 31) (hne : b ≠ t) (nt : n0 ≤ t) (F : List Addr) (hm : t ∈ F) (k : Nat) :
    ∀ (i : Nat) (h : Heap) (j1 j3 j5 : Int32) (s6 : Slot), One s6 → i + k = cs.length → Ix j1 i → Ix j3 i → Ix j5 i → IA Z h b .char cs → IA Z h t .byte ((cs.take i).map lo8 ++ List.replicate (cs.length - i) 0) → Keep h0 h [t] → SafeBy Z consts_1 F h t →
      WP l Z consts_1 n0 ({ frames := 0, cells := 0, slots := 0, locals := 0 } : Room) (⟨"java/lang/StringUTF16", "compress", "([CI[BII)I"⟩ : MethodName) jdk_52_method_21_code 7 (some .int) (QC5 Z t cs h0) F h 0 0 3 #[.val (.ref b), .val (.int j1), .val (.ref t), .val (.int j3), .val (.int (Int32.ofNat cs.length)), .val (.int j5), s6] [] := by
  induction k with
  | zero =>
    intro i h j1 j3 j5 s6 o6 hi q1 q3 q5 A B K hF
    refine WP.iload d13_3 rfl ?_
    refine WP.iload d13_5 rfl ?_
    refine WP.icmp_ge d13_7 (fun hc => ?_) (fun hc => absurd hc (by rw [Int32.lt_iff_toInt_lt, q5, Int32.toInt_ofNat_of_lt hlen]; omega))
    refine WP.iload d13_44 rfl ?_
    have e : i = cs.length := by omega
    subst e
    exact WP.ireturn d13_46 rfl (t := .int) (by simp) rfl (by decide) (by decide) (G := []) (fun _ q => nomatch q) ⟨rfl, K, by simpa using B⟩
  | succ k ih =>
    intro i h j1 j3 j5 s6 o6 hi q1 q3 q5 A B K hF
    obtain ⟨c, hc⟩ : ∃ c, cs[i]? = some c := ⟨_, List.getElem?_eq_getElem (by omega)⟩
    have hl := hlat c (List.mem_of_getElem? hc)
    have hlt := B.lt
    refine WP.iload d13_3 rfl ?_
    refine WP.iload d13_5 rfl ?_
    refine WP.icmp_ge d13_7 (fun hc7 => ?_) (fun hc7 => ?_)
    · exact absurd hc7 (by rw [Int32.lt_iff_toInt_lt, q5, Int32.toInt_ofNat_of_lt (by omega)]; omega)
    · refine WP.aload_n d13_10 rfl rfl ?_
      refine WP.iload_n d13_11 rfl ?_
      refine WP.caload d13_12 A q1 hc ?_
      refine WP.istore d13_13 rfl (Ls' := #[.val (.ref b), .val (.int j1), .val (.ref t), .val (.int j3), .val (.int (Int32.ofNat cs.length)), .val (.int j5), .val (.int c)]) (XS.store1 (o := s6) rfl o6 rfl) ?_
      refine WP.iload d13_15 rfl ?_
      refine WP.sipush d13_17 (v := (255 : Int32)) rfl ?_
      refine WP.icmp_le d13_20 (fun hc20 => ?_) (fun hc20 => ?_)
      · refine WP.aload_n d13_26 rfl rfl ?_
        refine WP.iload_n d13_27 rfl ?_
        refine WP.iload d13_28 rfl ?_
        refine WP.i2b d13_30 ?_
        refine WP.bastore d13_31 B hF q3 (by simp; omega) nt (fun h1 W2 => ?_)
        have zW2 := W2.size
        rw [show nar .byte c.toInt8.toInt32 = lo8 c from by simp [nar, lo8]] at W2
        have A := A.other W2 hne
        have B := own_set hc ▸ B.set W2
        have K := K.wr W2 (Or.inl (by simp))
        obtain ⟨x3, ex3⟩ : ∃ z, j1 + Int32.ofInt (1) = z := ⟨_, rfl⟩
        refine WP.iinc d13_32 rfl ex3 (Ls' := #[.val (.ref b), .val (.int x3), .val (.ref t), .val (.int j3), .val (.int (Int32.ofNat cs.length)), .val (.int j5), .val (.int c)]) rfl ?_
        obtain ⟨x4, ex4⟩ : ∃ z, j3 + Int32.ofInt (1) = z := ⟨_, rfl⟩
        refine WP.iinc d13_35 rfl ex4 (Ls' := #[.val (.ref b), .val (.int x3), .val (.ref t), .val (.int x4), .val (.int (Int32.ofNat cs.length)), .val (.int j5), .val (.int c)]) rfl ?_
        obtain ⟨x5, ex5⟩ : ∃ z, j5 + Int32.ofInt (1) = z := ⟨_, rfl⟩
        refine WP.iinc d13_38 rfl ex5 (Ls' := #[.val (.ref b), .val (.int x3), .val (.ref t), .val (.int x4), .val (.int (Int32.ofNat cs.length)), .val (.int x5), .val (.int c)]) rfl ?_
        refine WP.goto d13_41 ?_
        exact ih (i + 1) h1 x3 x4 x5 (.val (.int c)) (Or.inr ⟨_, rfl, rfl⟩) (by omega) (by rw [Ix, ← ex3, Int32.toInt_add, q1]; show ((i : Int) + 1).bmod _ = _; rw [Int.bmod_eq_of_le (by omega) (by omega)]; omega) (by rw [Ix, ← ex4, Int32.toInt_add, q3]; show ((i : Int) + 1).bmod _ = _; rw [Int.bmod_eq_of_le (by omega) (by omega)]; omega) (by rw [Ix, ← ex5, Int32.toInt_add, q5]; show ((i : Int) + 1).bmod _ = _; rw [Int.bmod_eq_of_le (by omega) (by omega)]; omega) A B K (SafeBy.mem (B.lt) hm)
      · exact absurd hc20 (by rw [Int32.lt_iff_toInt_lt]; have e : (255 : Int32).toInt = 255 := rfl; omega)
set_option maxRecDepth 65536 in
set_option maxHeartbeats 4000000 in
theorem rm_c5 (l : Launch) (Z : State) (a0 : Array Value) (hw : ∀ d ∈ tables_1, d.before a0 Z = true) (n0 : Nat) (h0 : Heap) (hO : Old Z n0 h0) (b t : Addr) (cs : List Int32) (A : IA Z h0 b .char cs) (B : IA Z h0 t .byte (List.replicate cs.length 0)) (hlat : Lat cs) (hne : b ≠ t) (nt : n0 ≤ t) :
    Met l Z consts_1 n0 [] (⟨"java/lang/StringUTF16", "compress", "([CI[BII)I"⟩ : MethodName) jdk_52_method_21_code 7 (some .int) ({ frames := 0, cells := 0, slots := 0, locals := 0 } : Room) #[.ref b, .int 0, .ref t, .int 0, (.int (Int32.ofNat cs.length))] [t] h0 (QC5 Z t cs h0) := by
  have hEL := own_EW hw
  have hn0 : n0 ≤ h0.size := hO.1 ▸ hO.2.1
  refine Met.of (by decide +kernel) hEL hO (Ls := #[.val (.ref b), .val (.int 0), .val (.ref t), .val (.int 0), .val (.int (Int32.ofNat cs.length)), .unset, .unset]) (fun m => by first | (simp [entryFrame, mkF, argsToLocals, Value.category]; done) | rfl) ?_
  refine WP.iconst d13_0 (v := (0 : Int32)) rfl ?_
  refine WP.istore d13_1 rfl (Ls' := #[.val (.ref b), .val (.int 0), .val (.ref t), .val (.int 0), .val (.int (Int32.ofNat cs.length)), .val (.int 0), .unset]) rfl ?_
  exact rm_c5_loop l Z a0 hw n0 h0 b t cs hlat A.len hne nt [t] (by simp) cs.length 0 h0 0 0 0 .unset One.u (by omega) rfl rfl rfl A (by simpa using B) (Keep.refl _ _) (SafeBy.mem B.lt (by simp))
abbrev QC3 (Z : State) (cs : List Int32) (h0 : Heap) (v : Option Value) (h : Heap) (F : List Addr) : Prop := ∃ t, v = some (.ref t) ∧ h0.size ≤ t ∧ Keep h0 h [] ∧ IA Z h t .byte (cs.map lo8)
set_option maxRecDepth 65536 in
set_option maxHeartbeats 4000000 in
theorem rm_c3 (l : Launch) (Z : State) (a0 : Array Value) (hw : ∀ d ∈ tables_1, d.before a0 Z = true) (n0 : Nat) (h0 : Heap) (hO : Old Z n0 h0) (b : Addr) (cs : List Int32) (A : IA Z h0 b .char cs) (hl : cs.length ≤ 7) (hlat : Lat cs) :
    Met l Z consts_1 n0 [] (⟨"java/lang/StringUTF16", "compress", "([CII)[B"⟩ : MethodName) jdk_52_method_16_code 6 (some (.array .byte)) ({ frames := 1, cells := 1, slots := 7, locals := 18 } : Room) #[.ref b, .int 0, (.int (Int32.ofNat cs.length))] [] h0 (QC3 Z cs h0) := by
  have hEL := own_EW hw
  have hn0 : n0 ≤ h0.size := hO.1 ▸ hO.2.1
  refine Met.of (by decide +kernel) hEL hO (Ls := #[.val (.ref b), .val (.int 0), .val (.int (Int32.ofNat cs.length)), .unset, .unset, .unset]) (fun m => by first | (simp [entryFrame, mkF, argsToLocals, Value.category]; done) | rfl) ?_
  have lb := nlt A.lt
  have K : Keep h0 h0 [] := Keep.refl _ _
  refine WP.iload_n d12_0 rfl ?_
  refine WP.newarray d12_1 (hw _ (List.mem_of_getElem? (i := 3) rfl)) rfl (i := cs.length) (cap := 7) (Ix.ofNat A.len) hl (nle rfl) (nle rfl) (nle rfl) (fun h6 t gt Et At => ?_)
  have A := A.ext Et
  have K := K.ext Et
  have lt := nlt At.lt
  have zt := Et.1
  refine WP.astore_n d12_3 (Ls' := #[.val (.ref b), .val (.int (0 : Int32)), .val (.int (Int32.ofNat cs.length)), .val (.ref t), .unset, .unset]) rfl rfl ?_
  refine WP.aload_n d12_4 rfl rfl ?_
  refine WP.iload_n d12_5 rfl ?_
  refine WP.aload_n d12_6 rfl rfl ?_
  refine WP.iconst d12_7 (v := (0 : Int32)) rfl ?_
  refine WP.iload_n d12_8 rfl ?_
  refine WP.static (argsL := [(.ref b), (.int (0 : Int32)), (.ref t), (.int (0 : Int32)), (.int (Int32.ofNat cs.length))]) (rest := []) d12_9 (rm_c5 l Z a0 hw n0 h6 (hO.ext Et) b t cs A At hlat (nea (by omega)) (by omega)) (hw _ (List.mem_of_getElem? (i := 63) rfl)) (hw _ (List.mem_of_getElem? (i := 64) rfl)) (hw _ (List.mem_of_getElem? (i := 61) rfl)) (hw _ (List.mem_of_getElem? (i := 65) rfl)) (by decide) pd_12 rfl rfl rfl (nle rfl) (nle rfl) (nle rfl) (nle rfl) (allS (SafeBy.mem At.lt (by simp)) all0) (fun v h7 F' hq szh7 => ?_)
  obtain ⟨rfl, K5, B⟩ := hq
  have A := A.keep K5 (ninS (nea (by omega)) nin0)
  have K := K.trans K5 (allS (Or.inr (by omega)) all0)
  obtain ⟨x8, ex8⟩ : ∃ z : Int32, (Int32.ofNat cs.length) = z := ⟨_, rfl⟩
  refine WP.istore d12_12 ex8 (Ls' := #[.val (.ref b), .val (.int (0 : Int32)), .val (.int (Int32.ofNat cs.length)), .val (.ref t), .val (.int x8), .unset]) rfl ?_
  refine WP.iload d12_14 rfl ?_
  refine WP.iload_n d12_16 rfl ?_
  refine WP.icmp_eq d12_17 (fun hc17 => ?_) (fun hc17 => ?_)
  · refine WP.aload_n d12_57 rfl rfl ?_
    exact WP.areturn d12_58 rfl rfl rfl (by decide) (by decide) (G := []) (fun _ q => nomatch q) ⟨t, rfl, by omega, K, B⟩
  · exact absurd (Eq.symm (by assumption)) hc17
abbrev QCd (h0 : Heap) (v : Option Value) (h : Heap) (F : List Addr) : Prop := v = some (.int 0) ∧ h = h0
set_option maxRecDepth 65536 in
set_option maxHeartbeats 4000000 in
theorem rm_cd (l : Launch) (Z : State) (a0 : Array Value) (hw : ∀ d ∈ tables_1, d.before a0 Z = true) (n0 : Nat) (h0 : Heap) (hO : Old Z n0 h0) (t : Addr) (bs : List Int32) (B : IA Z h0 t .byte bs) :
    Met l Z consts_1 n0 [] (⟨"java/lang/StringUTF16", "coderFromArrayLen", "([BI)B"⟩ : MethodName) jdk_52_method_15_code 2 (some .byte) ({ frames := 0, cells := 0, slots := 0, locals := 0 } : Room) #[.ref t, .int (Int32.ofNat bs.length)] [] h0 (QCd h0) := by
  have hEL := own_EW hw
  have hn0 : n0 ≤ h0.size := hO.1 ▸ hO.2.1
  refine Met.of (by decide +kernel) hEL hO (Ls := #[.val (.ref t), .val (.int (Int32.ofNat bs.length))]) (fun m => by first | (simp [entryFrame, mkF, argsToLocals, Value.category]; done) | rfl) ?_
  refine WP.iload_n d14_0 rfl ?_
  refine WP.aload_n d14_1 rfl rfl ?_
  refine WP.arraylength d14_2 B ?_
  refine WP.isub d14_3 ?_
  refine WP.bipush d14_4 (v := (31 : Int32)) rfl ?_
  refine WP.iushr d14_6 ?_
  refine WP.i2b d14_7 ?_
  rw [show (((Int32.ofNat bs.length - Int32.ofNat bs.length).toUInt32 >>> ((31 : Int32) &&& 31).toUInt32).toInt32).toInt8.toInt32 = 0 from by rw [Int32.sub_self]; decide]
  exact WP.ireturn d14_8 rfl (t := .byte) (by simp) rfl (by decide) (by decide) (G := []) (fun _ q => nomatch q) ⟨rfl, rfl⟩
abbrev QIn (Z : State) (a : Addr) (cs : List Int32) (h0 : Heap) (v : Option Value) (h : Heap) (F : List Addr) : Prop := v = none ∧ Keep h0 h [a] ∧ ∃ t, Str Z h a t (cs.map lo8)
set_option maxRecDepth 65536 in
set_option maxHeartbeats 4000000 in
theorem rm_i4 (l : Launch) (Z : State) (a0 : Array Value) (hw : ∀ d ∈ tables_1, d.before a0 Z = true) (n0 : Nat) (h0 : Heap) (hO : Old Z n0 h0) (zc : Int32) (hcs : Sta Z Z.heap "java/lang/String" "COMPACT_STRINGS" "Z" (.int zc)) (hzc : zc ≠ 0) (a b : Addr) (cs : List Int32) (E : Exa Z h0 a "java/lang/String") (Fv : Fld Z h0 a "java/lang/String" "value" "[B" .null) (Fc : Fld Z h0 a "java/lang/String" "coder" "B" (.int 0)) (A : IA Z h0 b .char cs) (hl : cs.length ≤ 7) (hlat : Lat cs) (hba : b ≠ a) (na : n0 ≤ a) :
    Met l Z consts_1 n0 [] (⟨"java/lang/String", "<init>", "([CIILjava/lang/Void;)V"⟩ : MethodName) jdk_42_method_149_code 6 none ({ frames := 2, cells := 4, slots := 8, locals := 35 } : Room) #[.ref a, .ref b, .int 0, (.int (Int32.ofNat cs.length)), .null] [a] h0 (QIn Z a cs h0) := by
  have hEL := own_EW hw
  have hn0 : n0 ≤ h0.size := hO.1 ▸ hO.2.1
  refine Met.of (by decide +kernel) hEL hO (Ls := #[.val (.ref a), .val (.ref b), .val (.int 0), .val (.int (Int32.ofNat cs.length)), .val .null, .unset]) (fun m => by first | (simp [entryFrame, mkF, argsToLocals, Value.category]; done) | rfl) ?_
  have la := nlt E.lt
  have lb := nlt A.lt
  have K : Keep h0 h0 [a] := Keep.refl _ _
  refine WP.aload_n d10_0 rfl rfl ?_
  refine WP.initObject d10_1 (hw _ (List.mem_of_getElem? (i := 56) rfl)) (hw _ (List.mem_of_getElem? (i := 57) rfl)) (hw _ (List.mem_of_getElem? (i := 58) rfl)) rfl (nle rfl) (nle rfl) ?_
  refine WP.iload_n d10_4 rfl ?_
  refine WP.if_ne d10_5 (fun hc5 => ?_) (fun hc5 => ?_)
  · refine WP.getstatic d10_27 (hw _ (List.mem_of_getElem? (i := 19) rfl)) Via.refl hcs ?_
    refine WP.if_eq d10_30 (fun hc30 => ?_) (fun hc30 => ?_)
    · exact absurd hc30 hzc
    · refine WP.aload_n d10_33 rfl rfl ?_
      refine WP.iload_n d10_34 rfl ?_
      refine WP.iload_n d10_35 rfl ?_
      refine WP.static (argsL := [(.ref b), (.int (0 : Int32)), (.int (Int32.ofNat cs.length))]) (rest := []) d10_36 (rm_c3 l Z a0 hw n0 h0 hO b cs A hl hlat) (hw _ (List.mem_of_getElem? (i := 59) rfl)) (hw _ (List.mem_of_getElem? (i := 60) rfl)) (hw _ (List.mem_of_getElem? (i := 61) rfl)) (hw _ (List.mem_of_getElem? (i := 62) rfl)) (by decide) pd_11 rfl rfl rfl (nle rfl) (nle rfl) (nle rfl) (nle rfl) (fun _ q => nomatch q) (fun v h9 F' hq szh9 => ?_)
      obtain ⟨t, rfl, ht, K3, B⟩ := hq
      have E := E.keep K3
      have Fv := Fv.keep K3 nin0
      have Fc := Fc.keep K3 nin0
      have A := A.keep K3 nin0
      have K := K.trans K3 all0
      have lt := nlt B.lt
      have hO3 : Old Z n0 h9 := hO.keep K3 all0
      refine WP.astore d10_39 (Ls' := #[.val (.ref a), .val (.ref b), .val (.int (0 : Int32)), .val (.int (Int32.ofNat cs.length)), .val .null, .val (.ref t)]) rfl rfl ?_
      refine WP.aload_n d10_41 rfl rfl ?_
      refine WP.aload d10_42 rfl rfl ?_
      refine WP.iload_n d10_44 rfl ?_
      have elen : Int32.ofNat cs.length = Int32.ofNat (cs.map lo8).length := by simp
      rw [elen]
      refine WP.static (argsL := [(.ref t), (.int (Int32.ofNat (cs.map lo8).length))]) (rest := [(.ref a)]) d10_45 (rm_cd l Z a0 hw n0 h9 hO3 t _ B) (hw _ (List.mem_of_getElem? (i := 66) rfl)) (hw _ (List.mem_of_getElem? (i := 67) rfl)) (hw _ (List.mem_of_getElem? (i := 61) rfl)) (hw _ (List.mem_of_getElem? (i := 68) rfl)) (by decide) pd_13 rfl rfl rfl (nle rfl) (nle rfl) (nle rfl) (nle rfl) (fun _ q => nomatch q) (fun v h10 F' hq szh10 => ?_)
      obtain ⟨rfl, rfl⟩ := hq
      refine WP.putfield (host := "") d10_48 (Or.inl (hw _ (List.mem_of_getElem? (i := 20) rfl))) Via.refl Fc E (Or.inr ⟨(hw _ (List.mem_of_getElem? (i := 5) rfl)), rfl, rfl⟩) (hw _ (List.mem_of_getElem? (i := 2) rfl)) (ty := .byte) (by decide) rfl rfl (by omega) (SafeBy.mem E.lt (by simp)) (fun h11 W12 => ?_)
      have zW12 := W12.size
      have E := E.wr W12
      have Fv := Fv.other W12 (Or.inr (slot_ne (Or.inr (hw _ (List.mem_of_getElem? (i := 4) rfl))) (Or.inr (hw _ (List.mem_of_getElem? (i := 5) rfl))) (by decide) (t := (.array .byte)) (t' := .byte) (by decide) (by decide)))
      have Fc := Fc.same W12
      have A := A.other W12 hba
      have K := K.wr W12 (Or.inl (by simp))
      have B := B.other W12 (nea (by omega))
      refine WP.aload_n d10_51 rfl rfl ?_
      refine WP.aload d10_52 rfl rfl ?_
      have nt1 : t ≠ a := nea (by omega)
      refine WP.putfield (host := "") d10_54 (Or.inl (hw _ (List.mem_of_getElem? (i := 13) rfl))) Via.refl Fv E (Or.inr ⟨(hw _ (List.mem_of_getElem? (i := 4) rfl)), rfl, rfl⟩) (hw _ (List.mem_of_getElem? (i := 2) rfl)) (ty := (.array .byte)) (by decide) rfl rfl (by omega) (SafeBy.mem E.lt (by simp)) (fun h13 W14 => ?_)
      have zW14 := W14.size
      have E := E.wr W14
      have Fv := Fv.same W14
      have Fc := Fc.other W14 (Or.inr (slot_ne (Or.inr (hw _ (List.mem_of_getElem? (i := 5) rfl))) (Or.inr (hw _ (List.mem_of_getElem? (i := 4) rfl))) (by decide) (t := .byte) (t' := (.array .byte)) (by decide) (by decide)))
      have A := A.other W14 hba
      have K := K.wr W14 (Or.inl (by simp))
      have B := B.other W14 nt1
      exact WP.return_ d10_57 rfl (by decide) (by decide) (G := []) (fun _ q => nomatch q) ⟨rfl, K, _, E, Fc, Fv, B⟩
  · have ecs : cs = [] := by
      have q := congrArg Int32.toInt hc5
      rw [Int32.toInt_ofNat_of_lt A.len] at q
      have q0 : ((cs.length : Nat) : Int) = 0 := q
      exact List.eq_nil_of_length_eq_zero (by omega)
    refine WP.aload_n d10_8 rfl rfl ?_
    refine WP.ldcS (n := 0) (bs := []) d10_9 hEL (by simp [consts_1]) (hw _ (List.mem_of_getElem? (i := 109) rfl)) (own_wS hw) ⟨by decide, by decide⟩ (by decide) (by decide) (by decide) (by decide) (by decide) (fun h15 s16 t17 E1 X1 C1 V1 B1 => ?_)
    have E := E.ext E1
    have Fv := Fv.ext E1
    have Fc := Fc.ext E1
    have A := A.ext E1
    have K := K.ext E1
    have zE1 := E1.1
    refine WP.getfield (host := "") d10_11 (Or.inl (hw _ (List.mem_of_getElem? (i := 13) rfl))) Via.refl V1 ?_
    have nt1 : t17 ≠ a := (Exa.neIA E (hw _ (List.mem_of_getElem? (i := 2) rfl)) B1).symm
    refine WP.putfield (host := "") d10_14 (Or.inl (hw _ (List.mem_of_getElem? (i := 13) rfl))) Via.refl Fv E (Or.inr ⟨(hw _ (List.mem_of_getElem? (i := 4) rfl)), rfl, rfl⟩) (hw _ (List.mem_of_getElem? (i := 2) rfl)) (ty := (.array .byte)) (by decide) rfl rfl (by omega) (SafeBy.mem E.lt (by simp)) (fun h18 W19 => ?_)
    have zW19 := W19.size
    have E := E.wr W19
    have Fv := Fv.same W19
    have Fc := Fc.other W19 (Or.inr (slot_ne (Or.inr (hw _ (List.mem_of_getElem? (i := 5) rfl))) (Or.inr (hw _ (List.mem_of_getElem? (i := 4) rfl))) (by decide) (t := .byte) (t' := (.array .byte)) (by decide) (by decide)))
    have A := A.other W19 hba
    have K := K.wr W19 (Or.inl (by simp))
    have B1 := B1.other W19 nt1
    refine WP.aload_n d10_17 rfl rfl ?_
    refine WP.ldcS (n := 0) (bs := []) d10_18 hEL (by simp [consts_1]) (hw _ (List.mem_of_getElem? (i := 109) rfl)) (own_wS hw) ⟨by decide, by decide⟩ (by decide) (by decide) (by decide) (by decide) (by decide) (fun h20 s21 t22 E2 X2 C2 V2 B2 => ?_)
    have E := E.ext E2
    have Fv := Fv.ext E2
    have Fc := Fc.ext E2
    have A := A.ext E2
    have K := K.ext E2
    have B1 := B1.ext E2
    have zE2 := E2.1
    refine WP.getfield (host := "") d10_20 (Or.inl (hw _ (List.mem_of_getElem? (i := 20) rfl))) Via.refl C2 ?_
    refine WP.putfield (host := "") d10_23 (Or.inl (hw _ (List.mem_of_getElem? (i := 20) rfl))) Via.refl Fc E (Or.inr ⟨(hw _ (List.mem_of_getElem? (i := 5) rfl)), rfl, rfl⟩) (hw _ (List.mem_of_getElem? (i := 2) rfl)) (ty := .byte) (by decide) rfl rfl (by omega) (SafeBy.mem E.lt (by simp)) (fun h23 W24 => ?_)
    have zW24 := W24.size
    have E := E.wr W24
    have Fv := Fv.other W24 (Or.inr (slot_ne (Or.inr (hw _ (List.mem_of_getElem? (i := 4) rfl))) (Or.inr (hw _ (List.mem_of_getElem? (i := 5) rfl))) (by decide) (t := (.array .byte)) (t' := .byte) (by decide) (by decide)))
    have Fc := Fc.same W24
    have A := A.other W24 hba
    have K := K.wr W24 (Or.inl (by simp))
    have B1 := B1.other W24 nt1
    exact WP.return_ d10_26 rfl (by decide) (by decide) (G := []) (fun _ q => nomatch q) ⟨rfl, K, _, E, Fc, Fv, by rw [ecs]; exact B1⟩
set_option maxRecDepth 65536 in
set_option maxHeartbeats 4000000 in
theorem rm_i1 (l : Launch) (Z : State) (a0 : Array Value) (hw : ∀ d ∈ tables_1, d.before a0 Z = true) (n0 : Nat) (h0 : Heap) (hO : Old Z n0 h0) (zc : Int32) (hcs : Sta Z Z.heap "java/lang/String" "COMPACT_STRINGS" "Z" (.int zc)) (hzc : zc ≠ 0) (a b : Addr) (cs : List Int32) (E : Exa Z h0 a "java/lang/String") (Fv : Fld Z h0 a "java/lang/String" "value" "[B" .null) (Fc : Fld Z h0 a "java/lang/String" "coder" "B" (.int 0)) (A : IA Z h0 b .char cs) (hl : cs.length ≤ 7) (hlat : Lat cs) (hba : b ≠ a) (na : n0 ≤ a) :
    Met l Z consts_1 n0 [] (⟨"java/lang/String", "<init>", "([C)V"⟩ : MethodName) jdk_42_method_3_code 2 none ({ frames := 3, cells := 4, slots := 8, locals := 52 } : Room) #[.ref a, .ref b] [a] h0 (QIn Z a cs h0) := by
  have hEL := own_EW hw
  have hn0 : n0 ≤ h0.size := hO.1 ▸ hO.2.1
  refine Met.of (by decide +kernel) hEL hO (Ls := #[.val (.ref a), .val (.ref b)]) (fun m => by first | (simp [entryFrame, mkF, argsToLocals, Value.category]; done) | rfl) ?_
  refine WP.aload_n d9_0 rfl rfl ?_
  refine WP.aload_n d9_1 rfl rfl ?_
  refine WP.iconst d9_2 (v := (0 : Int32)) rfl ?_
  refine WP.aload_n d9_3 rfl rfl ?_
  refine WP.arraylength d9_4 A ?_
  refine WP.aconst_null d9_5 ?_
  refine WP.special (a := a) (argsL := [(.ref b), (.int (0 : Int32)), (.int (Int32.ofNat cs.length)), .null]) (rest := []) d9_6 (rm_i4 l Z a0 hw n0 h0 hO zc hcs hzc a b cs E Fv Fc A hl hlat hba na) rfl (hw _ (List.mem_of_getElem? (i := 52) rfl)) (hw _ (List.mem_of_getElem? (i := 53) rfl)) (hw _ (List.mem_of_getElem? (i := 1) rfl)) (hw _ (List.mem_of_getElem? (i := 55) rfl)) (by decide) pd_9 rfl rfl rfl (nle rfl) (nle rfl) (nle rfl) (nle rfl) (allS (SafeBy.mem E.lt (by simp)) all0) (fun v h25 F' hq szh25 => ?_)
  obtain ⟨rfl, K, t, St⟩ := hq
  exact WP.return_ d9_9 rfl (by decide) (by decide) (G := []) (fun _ q => nomatch q) ⟨rfl, K, t, St⟩

abbrev QEq (bs ds : List Int32) (h0 : Heap) (v : Option Value) (h : Heap) (F : List Addr) : Prop := v = some (.int (if bs = ds then 1 else 0)) ∧ h = h0
set_option maxRecDepth 65536 in
set_option maxHeartbeats 4000000 in
theorem rm_le_loop (l : Launch) (Z : State) (a0 : Array Value) (hw : ∀ d ∈ tables_1, d.before a0 Z = true) (n0 : Nat) (h0 : Heap) (t1 t2 : Addr) (bs ds : List Int32) (A : IA Z h0 t1 .byte bs) (B : IA Z h0 t2 .byte ds) (hl : bs.length = ds.length) (k : Nat) :
    ∀ (i : Nat) (j : Int32), i + k = bs.length → Ix j i → bs.take i = ds.take i →
      WP l Z consts_1 n0 ({ frames := 0, cells := 0, slots := 0, locals := 0 } : Room) (⟨"java/lang/StringLatin1", "equals", "([B[B)Z"⟩ : MethodName) jdk_43_method_13_code 3 (some .boolean) (QEq bs ds h0) [] h0 0 0 9 #[.val (.ref t1), .val (.ref t2), .val (.int j)] [] := by
  have hb := A.len
  induction k with
  | zero =>
    intro i j hi qj hp
    refine WP.iload_n d18_9 rfl ?_
    refine WP.aload_n d18_10 rfl rfl ?_
    refine WP.arraylength d18_11 A ?_
    refine WP.icmp_ge d18_12 (fun hc => ?_) (fun hc => absurd hc (by rw [Int32.lt_iff_toInt_lt, qj, Int32.toInt_ofNat_of_lt A.len]; omega))
    refine WP.iconst d18_32 (v := (1 : Int32)) rfl ?_
    have e : bs = ds := by rwa [List.take_of_length_le (by omega), List.take_of_length_le (by omega)] at hp
    exact WP.ireturn d18_33 rfl (t := .boolean) (by simp) rfl (by decide) (by decide) (G := []) (fun _ q => nomatch q) ⟨by rw [if_pos e], rfl⟩
  | succ k ih =>
    intro i j hi qj hp
    obtain ⟨u, hu⟩ : ∃ c, bs[i]? = some c := ⟨_, List.getElem?_eq_getElem (by omega)⟩
    obtain ⟨v, hv⟩ : ∃ c, ds[i]? = some c := ⟨_, List.getElem?_eq_getElem (by omega)⟩
    refine WP.iload_n d18_9 rfl ?_
    refine WP.aload_n d18_10 rfl rfl ?_
    refine WP.arraylength d18_11 A ?_
    refine WP.icmp_ge d18_12 (fun hc12 => ?_) (fun hc12 => ?_)
    · exact absurd hc12 (by rw [Int32.lt_iff_toInt_lt, qj, Int32.toInt_ofNat_of_lt A.len]; simp; omega)
    · refine WP.aload_n d18_15 rfl rfl ?_
      refine WP.iload_n d18_16 rfl ?_
      refine WP.baload d18_17 A qj hu ?_
      refine WP.aload_n d18_18 rfl rfl ?_
      refine WP.iload_n d18_19 rfl ?_
      refine WP.baload d18_20 B qj hv ?_
      refine WP.icmp_eq d18_21 (fun hc21 => ?_) (fun hc21 => ?_)
      · obtain ⟨x26, ex26⟩ : ∃ z, j + Int32.ofInt (1) = z := ⟨_, rfl⟩
        refine WP.iinc d18_26 rfl ex26 (Ls' := #[.val (.ref t1), .val (.ref t2), .val (.int x26)]) rfl ?_
        refine WP.goto d18_29 ?_
        exact ih (i + 1) x26 (by omega) (by rw [Ix, ← ex26, Int32.toInt_add, qj]; show ((i : Int) + 1).bmod _ = _; rw [Int.bmod_eq_of_le (by omega) (by omega)]; omega) (by rw [List.take_add_one, List.take_add_one, hp, hu, hv, hc21])
      · refine WP.iconst d18_24 (v := (0 : Int32)) rfl ?_
        have e : ¬ bs = ds := fun q => hc21 (by subst q; exact Option.some.inj (hu.symm.trans hv))
        exact WP.ireturn d18_25 rfl (t := .boolean) (by simp) rfl (by decide) (by decide) (G := []) (fun _ q => nomatch q) ⟨by rw [if_neg e], rfl⟩
set_option maxRecDepth 65536 in
set_option maxHeartbeats 4000000 in
theorem rm_le (l : Launch) (Z : State) (a0 : Array Value) (hw : ∀ d ∈ tables_1, d.before a0 Z = true) (n0 : Nat) (h0 : Heap) (hO : Old Z n0 h0) (t1 t2 : Addr) (bs ds : List Int32) (A : IA Z h0 t1 .byte bs) (B : IA Z h0 t2 .byte ds) :
    Met l Z consts_1 n0 [] (⟨"java/lang/StringLatin1", "equals", "([B[B)Z"⟩ : MethodName) jdk_43_method_13_code 3 (some .boolean) ({ frames := 0, cells := 0, slots := 0, locals := 0 } : Room) #[.ref t1, .ref t2] [] h0 (QEq bs ds h0) := by
  have hEL := own_EW hw
  have hn0 : n0 ≤ h0.size := hO.1 ▸ hO.2.1
  refine Met.of (by decide +kernel) hEL hO (Ls := #[.val (.ref t1), .val (.ref t2), .unset]) (fun m => by first | (simp [entryFrame, mkF, argsToLocals, Value.category]; done) | rfl) ?_
  refine WP.aload_n d18_0 rfl rfl ?_
  refine WP.arraylength d18_1 A ?_
  refine WP.aload_n d18_2 rfl rfl ?_
  refine WP.arraylength d18_3 B ?_
  refine WP.icmp_ne d18_4 (fun hc4 => ?_) (fun hc4 => ?_)
  · refine WP.iconst d18_34 (v := (0 : Int32)) rfl ?_
    exact WP.ireturn d18_35 rfl (t := .boolean) (by simp) rfl (by decide) (by decide) (G := []) (fun _ q => nomatch q) ⟨by rw [if_neg (fun q => hc4 (by rw [q]))], rfl⟩
  · refine WP.iconst d18_7 (v := (0 : Int32)) rfl ?_
    refine WP.istore_n d18_8 rfl (Ls' := #[.val (.ref t1), .val (.ref t2), .val (.int (0 : Int32))]) rfl ?_
    exact rm_le_loop l Z a0 hw n0 h0 t1 t2 bs ds A B (by
      have q := congrArg Int32.toInt hc4
      rw [Int32.toInt_ofNat_of_lt A.len, Int32.toInt_ofNat_of_lt B.len] at q
      omega) bs.length 0 0 (by omega) rfl (by simp)
set_option maxRecDepth 65536 in
set_option maxHeartbeats 4000000 in
theorem rm_se (l : Launch) (Z : State) (a0 : Array Value) (hw : ∀ d ∈ tables_1, d.before a0 Z = true) (n0 : Nat) (h0 : Heap) (hO : Old Z n0 h0) (zc : Int32) (hcs : Sta Z Z.heap "java/lang/String" "COMPACT_STRINGS" "Z" (.int zc)) (hzc : zc ≠ 0) (a1 a2 t1 t2 : Addr) (bs ds : List Int32) (C : Str Z h0 a1 t1 bs) (D : Str Z h0 a2 t2 ds) :
    Met l Z consts_1 n0 [] (⟨"java/lang/String", "equals", "(Ljava/lang/Object;)Z"⟩ : MethodName) jdk_42_method_66_code 3 (some .boolean) ({ frames := 1, cells := 0, slots := 0, locals := 14 } : Room) #[.ref a1, .ref a2] [] h0 (QEq bs ds h0) := by
  have hEL := own_EW hw
  have hn0 : n0 ≤ h0.size := hO.1 ▸ hO.2.1
  refine Met.of (by decide +kernel) hEL hO (Ls := #[.val (.ref a1), .val (.ref a2), .unset]) (fun m => by first | (simp [entryFrame, mkF, argsToLocals, Value.category]; done) | rfl) ?_
  refine WP.aload_n d17_0 rfl rfl ?_
  refine WP.aload_n d17_1 rfl rfl ?_
  refine WP.acmp_ne d17_2 rfl rfl (fun hc2 => ?_) (fun hc2 => ?_)
  · refine WP.aload_n d17_7 rfl rfl ?_
    refine WP.instanceof d17_8 (hw _ (List.mem_of_getElem? (i := 97) rfl)) (Ins.self D.1) ?_
    refine WP.if_eq d17_11 (fun hc11 => ?_) (fun hc11 => ?_)
    · exact absurd hc11 (by decide)
    · refine WP.aload_n d17_14 rfl rfl ?_
      refine WP.checkcast d17_15 (hw _ (List.mem_of_getElem? (i := 97) rfl)) (Ins.self D.1) ?_
      refine WP.astore_n d17_18 (Ls' := #[.val (.ref a1), .val (.ref a2), .val (.ref a2)]) rfl rfl ?_
      refine WP.getstatic d17_19 (hw _ (List.mem_of_getElem? (i := 19) rfl)) Via.refl hcs ?_
      refine WP.if_eq d17_22 (fun hc22 => ?_) (fun hc22 => ?_)
      · exact absurd hc22 hzc
      · refine WP.aload_n d17_25 rfl rfl ?_
        refine WP.getfield (host := "") d17_26 (Or.inl (hw _ (List.mem_of_getElem? (i := 20) rfl))) Via.refl C.2.1 ?_
        refine WP.aload_n d17_29 rfl rfl ?_
        refine WP.getfield (host := "") d17_30 (Or.inl (hw _ (List.mem_of_getElem? (i := 20) rfl))) Via.refl D.2.1 ?_
        refine WP.icmp_ne d17_33 (fun hc33 => ?_) (fun hc33 => ?_)
        · exact absurd rfl hc33
        · refine WP.aload_n d17_36 rfl rfl ?_
          refine WP.getfield (host := "") d17_37 (Or.inl (hw _ (List.mem_of_getElem? (i := 13) rfl))) Via.refl C.2.2.1 ?_
          refine WP.aload_n d17_40 rfl rfl ?_
          refine WP.getfield (host := "") d17_41 (Or.inl (hw _ (List.mem_of_getElem? (i := 13) rfl))) Via.refl D.2.2.1 ?_
          refine WP.static (argsL := [(.ref t1), (.ref t2)]) (rest := []) d17_44 (rm_le l Z a0 hw n0 h0 hO t1 t2 bs ds C.2.2.2 D.2.2.2) (hw _ (List.mem_of_getElem? (i := 98) rfl)) (hw _ (List.mem_of_getElem? (i := 99) rfl)) (hw _ (List.mem_of_getElem? (i := 38) rfl)) (hw _ (List.mem_of_getElem? (i := 100) rfl)) (by decide) pd_18 rfl rfl rfl (nle rfl) (nle rfl) (nle rfl) (nle rfl) (fun _ q => nomatch q) (fun v h27 F' hq szh27 => ?_)
          obtain ⟨rfl, rfl⟩ := hq
          refine WP.if_eq d17_47 (fun hc47 => ?_) (fun hc47 => ?_)
          · refine WP.iconst d17_54 (v := (0 : Int32)) rfl ?_
            have e : ¬ bs = ds := fun q => by rw [if_pos q] at hc47; exact absurd hc47 (by decide)
            exact WP.ireturn d17_55 rfl (t := .boolean) (by simp) rfl (by decide) (by decide) (G := []) (fun _ q => nomatch q) ⟨by rw [if_neg e], rfl⟩
          · refine WP.iconst d17_50 (v := (1 : Int32)) rfl ?_
            refine WP.goto d17_51 ?_
            have e : bs = ds := Classical.byContradiction fun q => hc47 (by rw [if_neg q])
            exact WP.ireturn d17_55 rfl (t := .boolean) (by simp) rfl (by decide) (by decide) (G := []) (fun _ q => nomatch q) ⟨by rw [if_pos e], rfl⟩
  · refine WP.iconst d17_5 (v := (1 : Int32)) rfl ?_
    cases hc2
    obtain ⟨-, e⟩ := Str.inj C D
    exact WP.ireturn d17_6 rfl (t := .boolean) (by simp) rfl (by decide) (by decide) (G := []) (fun _ q => nomatch q) ⟨by rw [if_pos e], rfl⟩

abbrev QPure (r : Option Value) (h0 : Heap) (v : Option Value) (h : Heap) (F : List Addr) : Prop := v = r ∧ h = h0
set_option maxRecDepth 65536 in
set_option maxHeartbeats 4000000 in
theorem rm_coder (l : Launch) (Z : State) (a0 : Array Value) (hw : ∀ d ∈ tables_1, d.before a0 Z = true) (n0 : Nat) (h0 : Heap) (hO : Old Z n0 h0) (zc : Int32) (hcs : Sta Z Z.heap "java/lang/String" "COMPACT_STRINGS" "Z" (.int zc)) (hzc : zc ≠ 0) (a : Addr) (Fc : Fld Z h0 a "java/lang/String" "coder" "B" (.int 0)) :
    Met l Z consts_1 n0 [] (⟨"java/lang/String", "coder", "()B"⟩ : MethodName) jdk_42_method_152_code 1 (some .byte) ({ frames := 0, cells := 0, slots := 0, locals := 0 } : Room) #[.ref a] [] h0 (QPure (some (.int 0)) h0) := by
  have hEL := own_EW hw
  have hn0 : n0 ≤ h0.size := hO.1 ▸ hO.2.1
  refine Met.of (by decide +kernel) hEL hO (Ls := #[.val (.ref a)]) (fun m => by first | (simp [entryFrame, mkF, argsToLocals, Value.category]; done) | rfl) ?_
  refine WP.getstatic d2_0 (hw _ (List.mem_of_getElem? (i := 19) rfl)) Via.refl hcs ?_
  refine WP.if_eq d2_3 (fun hc3 => False.elim (hzc hc3)) (fun hc3 => ?_)
  refine WP.aload_n d2_6 rfl rfl ?_
  refine WP.getfield (host := "") d2_7 (Or.inl (hw _ (List.mem_of_getElem? (i := 20) rfl))) Via.refl Fc ?_
  refine WP.goto d2_10 ?_
  exact WP.ireturn d2_14 rfl (t := .byte) (by simp) rfl (by decide) (by decide) (G := []) (fun _ q => nomatch q) ⟨rfl, rfl⟩
set_option maxRecDepth 65536 in
set_option maxHeartbeats 4000000 in
theorem rm_len (l : Launch) (Z : State) (a0 : Array Value) (hw : ∀ d ∈ tables_1, d.before a0 Z = true) (n0 : Nat) (h0 : Heap) (hO : Old Z n0 h0) (zc : Int32) (hcs : Sta Z Z.heap "java/lang/String" "COMPACT_STRINGS" "Z" (.int zc)) (hzc : zc ≠ 0) (a t : Addr) (bs : List Int32) (D : Str Z h0 a t bs) :
    Met l Z consts_1 n0 [] (⟨"java/lang/String", "length", "()I"⟩ : MethodName) jdk_42_method_54_code 1 (some .int) ({ frames := 1, cells := 0, slots := 0, locals := 13 } : Room) #[.ref a] [] h0 (QPure (some (.int (Int32.ofNat bs.length))) h0) := by
  have hEL := own_EW hw
  have hn0 : n0 ≤ h0.size := hO.1 ▸ hO.2.1
  refine Met.of (by decide +kernel) hEL hO (Ls := #[.val (.ref a)]) (fun m => by first | (simp [entryFrame, mkF, argsToLocals, Value.category]; done) | rfl) ?_
  refine WP.aload_n d1_0 rfl rfl ?_
  refine WP.getfield (host := "") d1_1 (Or.inl (hw _ (List.mem_of_getElem? (i := 13) rfl))) Via.refl D.2.2.1 ?_
  refine WP.arraylength d1_4 D.2.2.2 ?_
  refine WP.aload_n d1_5 rfl rfl ?_
  refine WP.virtual (a := a) (argsL := []) (rest := [(.int (Int32.ofNat bs.length))]) d1_6 (rm_coder l Z a0 hw n0 h0 hO zc hcs hzc a D.2.1) D.1 (hw _ (List.mem_of_getElem? (i := 14) rfl)) (hw _ (List.mem_of_getElem? (i := 15) rfl)) (hw _ (List.mem_of_getElem? (i := 16) rfl)) (hw _ (List.mem_of_getElem? (i := 17) rfl)) (hw _ (List.mem_of_getElem? (i := 1) rfl)) (hw _ (List.mem_of_getElem? (i := 18) rfl)) (hw _ (List.mem_of_getElem? (i := 17) rfl)) (by decide) pd_1 rfl rfl rfl (nle rfl) (nle rfl) (nle rfl) (nle rfl) (fun _ q => nomatch q) (fun v h28 F' hq szh28 => ?_)
  obtain ⟨rfl, rfl⟩ := hq
  refine WP.ishr d1_9 ?_
  rw [shr0]
  exact WP.ireturn d1_10 rfl (t := .int) (by simp) rfl (by decide) (by decide) (G := []) (fun _ q => nomatch q) ⟨rfl, rfl⟩

set_option maxRecDepth 65536 in
set_option maxHeartbeats 4000000 in
theorem rm_il (l : Launch) (Z : State) (a0 : Array Value) (hw : ∀ d ∈ tables_1, d.before a0 Z = true) (n0 : Nat) (h0 : Heap) (hO : Old Z n0 h0) (zc : Int32) (hcs : Sta Z Z.heap "java/lang/String" "COMPACT_STRINGS" "Z" (.int zc)) (hzc : zc ≠ 0) (a : Addr) (Fc : Fld Z h0 a "java/lang/String" "coder" "B" (.int 0)) :
    Met l Z consts_1 n0 [] (⟨"java/lang/String", "isLatin1", "()Z"⟩ : MethodName) jdk_42_method_154_code 1 (some .boolean) ({ frames := 0, cells := 0, slots := 0, locals := 0 } : Room) #[.ref a] [] h0 (QPure (some (.int 1)) h0) := by
  have hEL := own_EW hw
  have hn0 : n0 ≤ h0.size := hO.1 ▸ hO.2.1
  refine Met.of (by decide +kernel) hEL hO (Ls := #[.val (.ref a)]) (fun m => by first | (simp [entryFrame, mkF, argsToLocals, Value.category]; done) | rfl) ?_
  refine WP.getstatic d5_0 (hw _ (List.mem_of_getElem? (i := 19) rfl)) Via.refl hcs ?_
  refine WP.if_eq d5_3 (fun hc3 => False.elim (hzc hc3)) (fun hc3 => ?_)
  refine WP.aload_n d5_6 rfl rfl ?_
  refine WP.getfield (host := "") d5_7 (Or.inl (hw _ (List.mem_of_getElem? (i := 20) rfl))) Via.refl Fc ?_
  refine WP.if_ne d5_10 (fun hc10 => False.elim (hc10 rfl)) (fun hc10 => ?_)
  refine WP.iconst d5_13 (v := (1 : Int32)) rfl ?_
  refine WP.goto d5_14 ?_
  exact WP.ireturn d5_18 rfl (t := .boolean) (by simp) rfl (by decide) (by decide) (G := []) (fun _ q => nomatch q) ⟨rfl, rfl⟩

set_option maxRecDepth 65536 in
set_option maxHeartbeats 4000000 in
theorem rm_pci (l : Launch) (Z : State) (a0 : Array Value) (hw : ∀ d ∈ tables_1, d.before a0 Z = true) (n0 : Nat) (h0 : Heap) (hO : Old Z n0 h0) (i n : Int32) (fm : Value) (hfr : fm.isRef = true) (hi : ¬ i < 0 ∧ i < n) :
    Met l Z consts_1 n0 [] (⟨"jdk/internal/util/Preconditions", "checkIndex", "(IILjava/util/function/BiFunction;)I"⟩ : MethodName) jdk_41_method_11_code 3 (some .int) ({ frames := 0, cells := 0, slots := 0, locals := 0 } : Room) #[.int i, .int n, fm] [] h0 (QPure (some (.int i)) h0) := by
  have hEL := own_EW hw
  have hn0 : n0 ≤ h0.size := hO.1 ▸ hO.2.1
  refine Met.of (by decide +kernel) hEL hO (Ls := #[.val (.int i), .val (.int n), .val fm]) (fun m => by first | (rcases ref_cases hfr with rfl | ⟨_, rfl⟩ <;> rfl) | (simp [entryFrame, mkF, argsToLocals, Value.category]; done) | rfl) ?_
  refine WP.iload_n d8_0 rfl ?_
  refine WP.if_lt d8_1 (fun hc1 => False.elim (hi.1 hc1)) (fun hc1 => ?_)
  refine WP.iload_n d8_4 rfl ?_
  refine WP.iload_n d8_5 rfl ?_
  refine WP.icmp_lt d8_6 (fun hc6 => ?_) (fun hc6 => False.elim (hc6 hi.2))
  refine WP.iload_n d8_16 rfl ?_
  exact WP.ireturn d8_17 rfl (t := .int) (by simp) rfl (by decide) (by decide) (G := []) (fun _ q => nomatch q) ⟨rfl, rfl⟩
set_option maxRecDepth 65536 in
set_option maxHeartbeats 4000000 in
theorem rm_ck (l : Launch) (Z : State) (a0 : Array Value) (hw : ∀ d ∈ tables_1, d.before a0 Z = true) (n0 : Nat) (h0 : Heap) (hO : Old Z n0 h0) (fm : Value) (hfm : Sta Z Z.heap "jdk/internal/util/Preconditions" "SIOOBE_FORMATTER" "Ljava/util/function/BiFunction;" fm) (hfr : fm.isRef = true) (i n : Int32) (hi : ¬ i < 0 ∧ i < n) :
    Met l Z consts_1 n0 [] (⟨"java/lang/String", "checkIndex", "(II)V"⟩ : MethodName) jdk_42_method_155_code 2 none ({ frames := 1, cells := 0, slots := 0, locals := 14 } : Room) #[.int i, .int n] [] h0 (QPure none h0) := by
  have hEL := own_EW hw
  have hn0 : n0 ≤ h0.size := hO.1 ▸ hO.2.1
  refine Met.of (by decide +kernel) hEL hO (Ls := #[.val (.int i), .val (.int n)]) (fun m => by first | (simp [entryFrame, mkF, argsToLocals, Value.category]; done) | rfl) ?_
  refine WP.iload_n d7_0 rfl ?_
  refine WP.iload_n d7_1 rfl ?_
  refine WP.getstatic d7_2 (hw _ (List.mem_of_getElem? (i := 43) rfl)) Via.refl hfm ?_
  refine WP.static (argsL := [(.int i), (.int n), fm]) (rest := []) d7_5 (rm_pci l Z a0 hw n0 h0 hO i n fm hfr hi) (hw _ (List.mem_of_getElem? (i := 45) rfl)) (hw _ (List.mem_of_getElem? (i := 46) rfl)) (hw _ (List.mem_of_getElem? (i := 44) rfl)) (hw _ (List.mem_of_getElem? (i := 47) rfl)) (by decide) pd_7 rfl rfl rfl (nle rfl) (nle rfl) (nle rfl) (nle rfl) (fun _ q => nomatch q) (fun v h29 F' hq szh29 => ?_)
  obtain ⟨rfl, rfl⟩ := hq
  refine WP.pop d7_8 rfl ?_
  exact WP.return_ d7_9 rfl (by decide) (by decide) (G := []) (fun _ q => nomatch q) ⟨rfl, rfl⟩
set_option maxRecDepth 65536 in
set_option maxHeartbeats 4000000 in
theorem rm_lc (l : Launch) (Z : State) (a0 : Array Value) (hw : ∀ d ∈ tables_1, d.before a0 Z = true) (n0 : Nat) (h0 : Heap) (hO : Old Z n0 h0) (fm : Value) (hfm : Sta Z Z.heap "jdk/internal/util/Preconditions" "SIOOBE_FORMATTER" "Ljava/util/function/BiFunction;" fm) (hfr : fm.isRef = true) (t : Addr) (j : Int32) (i : Nat) (bs : List Int32) (b : Int32) (B : IA Z h0 t .byte bs) (hj : Ix j i) (hb : bs[i]? = some b) :
    Met l Z consts_1 n0 [] (⟨"java/lang/StringLatin1", "charAt", "([BI)C"⟩ : MethodName) jdk_43_method_2_code 2 (some .char) ({ frames := 2, cells := 0, slots := 0, locals := 27 } : Room) #[.ref t, .int j] [] h0 (QPure (some (.int (chr8 b))) h0) := by
  have hEL := own_EW hw
  have hn0 : n0 ≤ h0.size := hO.1 ▸ hO.2.1
  refine Met.of (by decide +kernel) hEL hO (Ls := #[.val (.ref t), .val (.int j)]) (fun m => by first | (simp [entryFrame, mkF, argsToLocals, Value.category]; done) | rfl) ?_
  refine WP.iload_n d6_0 rfl ?_
  refine WP.aload_n d6_1 rfl rfl ?_
  refine WP.arraylength d6_2 B ?_
  refine WP.static (argsL := [(.int j), (.int (Int32.ofNat bs.length))]) (rest := []) d6_3 (rm_ck l Z a0 hw n0 h0 hO fm hfm hfr j _ ⟨hj.nn, hj.ltn B.len (List.getElem?_eq_some_iff.mp hb).1⟩) (hw _ (List.mem_of_getElem? (i := 40) rfl)) (hw _ (List.mem_of_getElem? (i := 41) rfl)) (hw _ (List.mem_of_getElem? (i := 1) rfl)) (hw _ (List.mem_of_getElem? (i := 42) rfl)) (by decide) pd_6 rfl rfl rfl (nle rfl) (nle rfl) (nle rfl) (nle rfl) (fun _ q => nomatch q) (fun v h30 F' hq szh30 => ?_)
  obtain ⟨rfl, rfl⟩ := hq
  refine WP.aload_n d6_6 rfl rfl ?_
  refine WP.iload_n d6_7 rfl ?_
  refine WP.baload d6_8 B hj hb ?_
  refine WP.sipush d6_9 (v := (255 : Int32)) rfl ?_
  refine WP.iand d6_12 ?_
  refine WP.i2c d6_13 ?_
  exact WP.ireturn d6_14 rfl (t := .char) (by simp) (XT.narrow_c _) (by decide) (by decide) (G := []) (fun _ q => nomatch q) ⟨rfl, rfl⟩
set_option maxRecDepth 65536 in
set_option maxHeartbeats 4000000 in
theorem rm_ca (l : Launch) (Z : State) (a0 : Array Value) (hw : ∀ d ∈ tables_1, d.before a0 Z = true) (n0 : Nat) (h0 : Heap) (hO : Old Z n0 h0) (zc : Int32) (hcs : Sta Z Z.heap "java/lang/String" "COMPACT_STRINGS" "Z" (.int zc)) (hzc : zc ≠ 0) (fm : Value) (hfm : Sta Z Z.heap "jdk/internal/util/Preconditions" "SIOOBE_FORMATTER" "Ljava/util/function/BiFunction;" fm) (hfr : fm.isRef = true) (a t : Addr) (j : Int32) (i : Nat) (bs : List Int32) (b : Int32) (D : Str Z h0 a t bs) (hj : Ix j i) (hb : bs[i]? = some b) :
    Met l Z consts_1 n0 [] (⟨"java/lang/String", "charAt", "(I)C"⟩ : MethodName) jdk_42_method_56_code 2 (some .char) ({ frames := 3, cells := 0, slots := 0, locals := 40 } : Room) #[.ref a, .int j] [] h0 (QPure (some (.int (chr8 b))) h0) := by
  have hEL := own_EW hw
  have hn0 : n0 ≤ h0.size := hO.1 ▸ hO.2.1
  refine Met.of (by decide +kernel) hEL hO (Ls := #[.val (.ref a), .val (.int j)]) (fun m => by first | (simp [entryFrame, mkF, argsToLocals, Value.category]; done) | rfl) ?_
  refine WP.aload_n d4_0 rfl rfl ?_
  refine WP.virtual (a := a) (argsL := []) (rest := []) d4_1 (rm_il l Z a0 hw n0 h0 hO zc hcs hzc a D.2.1) D.1 (hw _ (List.mem_of_getElem? (i := 31) rfl)) (hw _ (List.mem_of_getElem? (i := 32) rfl)) (hw _ (List.mem_of_getElem? (i := 33) rfl)) (hw _ (List.mem_of_getElem? (i := 34) rfl)) (hw _ (List.mem_of_getElem? (i := 1) rfl)) (hw _ (List.mem_of_getElem? (i := 35) rfl)) (hw _ (List.mem_of_getElem? (i := 34) rfl)) (by decide) pd_4 rfl rfl rfl (nle rfl) (nle rfl) (nle rfl) (nle rfl) (fun _ q => nomatch q) (fun v h31 F' hq szh31 => ?_)
  obtain ⟨rfl, rfl⟩ := hq
  refine WP.if_eq d4_4 (fun hc4 => False.elim (absurd hc4 (by decide))) (fun hc4 => ?_)
  refine WP.aload_n d4_7 rfl rfl ?_
  refine WP.getfield (host := "") d4_8 (Or.inl (hw _ (List.mem_of_getElem? (i := 13) rfl))) Via.refl D.2.2.1 ?_
  refine WP.iload_n d4_11 rfl ?_
  refine WP.static (argsL := [(.ref t), (.int j)]) (rest := []) d4_12 (rm_lc l Z a0 hw n0 h31 hO fm hfm hfr t j i bs b D.2.2.2 hj hb) (hw _ (List.mem_of_getElem? (i := 36) rfl)) (hw _ (List.mem_of_getElem? (i := 37) rfl)) (hw _ (List.mem_of_getElem? (i := 38) rfl)) (hw _ (List.mem_of_getElem? (i := 39) rfl)) (by decide) pd_5 rfl rfl rfl (nle rfl) (nle rfl) (nle rfl) (nle rfl) (fun _ q => nomatch q) (fun v h32 F' hq szh32 => ?_)
  obtain ⟨rfl, rfl⟩ := hq
  exact WP.ireturn d4_15 rfl (t := .char) (by simp) (XT.narrow_c _) (by decide) (by decide) (G := []) (fun _ q => nomatch q) ⟨rfl, rfl⟩

set_option maxRecDepth 65536 in
set_option maxHeartbeats 4000000 in
theorem rm_sen (l : Launch) (Z : State) (a0 : Array Value) (hw : ∀ d ∈ tables_1, d.before a0 Z = true) (n0 : Nat) (h0 : Heap) (hO : Old Z n0 h0) (a1 : Addr) :
    Met l Z consts_1 n0 [] (⟨"java/lang/String", "equals", "(Ljava/lang/Object;)Z"⟩ : MethodName) jdk_42_method_66_code 3 (some .boolean) ({ frames := 0, cells := 0, slots := 0, locals := 0 } : Room) #[.ref a1, .null] [] h0 (QPure (some (.int 0)) h0) := by
  have hEL := own_EW hw
  have hn0 : n0 ≤ h0.size := hO.1 ▸ hO.2.1
  refine Met.of (by decide +kernel) hEL hO (Ls := #[.val (.ref a1), .val .null, .unset]) (fun m => by first | (simp [entryFrame, mkF, argsToLocals, Value.category]; done) | rfl) ?_
  refine WP.aload_n d17_0 rfl rfl ?_
  refine WP.aload_n d17_1 rfl rfl ?_
  refine WP.acmp_ne d17_2 rfl rfl (fun hc2 => ?_) (fun hc2 => False.elim (nomatch hc2))
  refine WP.aload_n d17_7 rfl rfl ?_
  refine WP.instanceofNull d17_8 ?_
  refine WP.if_eq d17_11 (fun hc11 => ?_) (fun hc11 => False.elim (hc11 rfl))
  refine WP.iconst d17_54 (v := (0 : Int32)) rfl ?_
  exact WP.ireturn d17_55 rfl (t := .boolean) (by simp) rfl (by decide) (by decide) (G := []) (fun _ q => nomatch q) ⟨rfl, rfl⟩
theorem own_chr8 (b : Int32) : B8 (chr8 b) := (B8.and b).i2c
theorem own_latset {cs : List Int32} {i : Nat} {c : Int32} (h : Lat cs) (q : B8 c) : Lat (cs.set i c) := fun x hx => by
  rcases List.mem_or_eq_of_mem_set hx with hx | rfl
  · exact h x hx
  · exact q
abbrev QPut (Z : State) (a : Addr) (n : Nat) (h0 : Heap) (v : Option Value) (h : Heap) (F : List Addr) : Prop := v = none ∧ Keep h0 h [a] ∧ ∃ ds, IA Z h a .char ds ∧ ds.length = n ∧ Lat ds
set_option maxRecDepth 65536 in
set_option maxHeartbeats 4000000 in
theorem rm_put (l : Launch) (Z : State) (a0 : Array Value) (hw : ∀ d ∈ tables_1, d.before a0 Z = true) (n0 : Nat) (h0 : Heap) (hO : Old Z n0 h0) (zc : Int32) (hcs : Sta Z Z.heap "java/lang/String" "COMPACT_STRINGS" "Z" (.int zc)) (hzc : zc ≠ 0) (fm : Value) (hfm : Sta Z Z.heap "jdk/internal/util/Preconditions" "SIOOBE_FORMATTER" "Ljava/util/function/BiFunction;" fm) (hfr : fm.isRef = true) (a s t : Addr) (j f : Int32) (i : Nat) (cs bs : List Int32) (A : IA Z h0 a .char cs) (D : Str Z h0 s t bs) (hj : Ix j i) (hlat : Lat cs) (na : n0 ≤ a) :
    Met l Z consts_1 n0 [] (⟨"com/example/nearbid/nearbid/market/RoleOfLabelPinLaw", "put", "([CILjava/lang/String;I)V"⟩ : MethodName) method_2_code 4 none ({ frames := 4, cells := 0, slots := 0, locals := 64 } : Room) #[.ref a, .int j, .ref s, .int f] [] h0 (QPut Z a cs.length h0) := by
  have hEL := own_EW hw
  have hn0 : n0 ≤ h0.size := hO.1 ▸ hO.2.1
  refine Met.of (by decide +kernel) hEL hO (Ls := #[.val (.ref a), .val (.int j), .val (.ref s), .val (.int f)]) (fun m => by first | (simp [entryFrame, mkF, argsToLocals, Value.category]; done) | rfl) ?_
  have K : Keep h0 h0 [a] := Keep.refl _ _
  have eL := Int32.toInt_ofNat_of_lt A.len
  have eM := Int32.toInt_ofNat_of_lt D.2.2.2.len
  have ej : j.toInt = i := hj
  refine WP.iload_n d3_0 rfl ?_
  refine WP.aload_n d3_1 rfl rfl ?_
  refine WP.arraylength d3_2 A ?_
  refine WP.icmp_ge d3_3 (fun hc3 => ?_) (fun hc3 => ?_)
  · rw [Int32.lt_iff_toInt_lt] at hc3
    exact WP.return_ d3_34 rfl (by decide) (by decide) (G := []) (fun _ q => nomatch q) ⟨rfl, K, cs, A, rfl, hlat⟩
  · rw [Int32.lt_iff_toInt_lt] at hc3
    refine WP.iload_n d3_6 rfl ?_
    refine WP.aload_n d3_7 rfl rfl ?_
    refine WP.virtual (a := s) (argsL := []) (rest := [(.int j)]) d3_8 (rm_len l Z a0 hw n0 h0 hO zc hcs hzc s t bs D) D.1 (hw _ (List.mem_of_getElem? (i := 8) rfl)) (hw _ (List.mem_of_getElem? (i := 9) rfl)) (hw _ (List.mem_of_getElem? (i := 10) rfl)) (hw _ (List.mem_of_getElem? (i := 11) rfl)) (hw _ (List.mem_of_getElem? (i := 1) rfl)) (hw _ (List.mem_of_getElem? (i := 12) rfl)) (hw _ (List.mem_of_getElem? (i := 11) rfl)) (by decide) pd_0 rfl rfl rfl (nle rfl) (nle rfl) (nle rfl) (nle rfl) (fun _ q => nomatch q) (fun v h33 F' hq szh33 => ?_)
    obtain ⟨rfl, rfl⟩ := hq
    refine WP.icmp_ge d3_11 (fun hc11 => ?_) (fun hc11 => ?_)
    · rw [Int32.lt_iff_toInt_lt] at hc11
      refine WP.aload_n d3_25 rfl rfl ?_
      refine WP.iload_n d3_26 rfl ?_
      refine WP.iload_n d3_27 rfl ?_
      refine WP.sipush d3_28 (v := (255 : Int32)) rfl ?_
      refine WP.iand d3_31 ?_
      refine WP.i2c d3_32 ?_
      refine WP.castore d3_33 A hj (by omega) na (fun h34 W35 => ?_)
      rw [B8.nar (B8.and f).i2c] at W35
      have A := A.set W35
      have K := K.wr W35 (Or.inl (by simp))
      have L2 := own_latset (i := i) hlat (B8.and f).i2c
      exact WP.return_ d3_34 rfl (by decide) (by decide) (G := []) (fun _ q => nomatch q) ⟨rfl, K, _, A, by simp, L2⟩
    · rw [Int32.lt_iff_toInt_lt] at hc11
      refine WP.aload_n d3_14 rfl rfl ?_
      refine WP.iload_n d3_15 rfl ?_
      refine WP.aload_n d3_16 rfl rfl ?_
      refine WP.iload_n d3_17 rfl ?_
      obtain ⟨b, hb⟩ : ∃ c, bs[i]? = some c := ⟨_, List.getElem?_eq_getElem (by omega)⟩
      refine WP.virtual (a := s) (argsL := [(.int j)]) (rest := [(.int j), (.ref a)]) d3_18 (rm_ca l Z a0 hw n0 h33 hO zc hcs hzc fm hfm hfr s t j i bs b D hj hb) D.1 (hw _ (List.mem_of_getElem? (i := 26) rfl)) (hw _ (List.mem_of_getElem? (i := 27) rfl)) (hw _ (List.mem_of_getElem? (i := 28) rfl)) (hw _ (List.mem_of_getElem? (i := 29) rfl)) (hw _ (List.mem_of_getElem? (i := 1) rfl)) (hw _ (List.mem_of_getElem? (i := 30) rfl)) (hw _ (List.mem_of_getElem? (i := 29) rfl)) (by decide) pd_3 rfl rfl rfl (nle rfl) (nle rfl) (nle rfl) (nle rfl) (fun _ q => nomatch q) (fun v h36 F' hq szh36 => ?_)
      obtain ⟨rfl, rfl⟩ := hq
      refine WP.castore d3_21 A hj (by omega) na (fun h37 W38 => ?_)
      rw [B8.nar (own_chr8 b)] at W38
      have A := A.set W38
      have K := K.wr W38 (Or.inl (by simp))
      have L2 := own_latset (i := i) hlat (own_chr8 b)
      refine WP.goto d3_22 ?_
      exact WP.return_ d3_34 rfl (by decide) (by decide) (G := []) (fun _ q => nomatch q) ⟨rfl, K, _, A, by simp, L2⟩
abbrev QVa (Z : State) (rb rs : Addr) (h0 : Heap) (v : Option Value) (h : Heap) (F : List Addr) : Prop := ∃ b, v = some (.ref b) ∧ Keep h0 h [] ∧ RA Z h b (.object "com/example/nearbid/nearbid/market/Role") [.ref rb, .ref rs]
set_option maxRecDepth 65536 in
set_option maxHeartbeats 4000000 in
theorem rm_va (l : Launch) (Z : State) (a0 : Array Value) (hw : ∀ d ∈ tables_1, d.before a0 Z = true) (n0 : Nat) (h0 : Heap) (hO : Old Z n0 h0) (va rb rs lb ls tb ts : Addr) (cv : Cell) (hva : Sta Z Z.heap "com/example/nearbid/nearbid/market/Role" "$VALUES" "[Lcom/example/nearbid/nearbid/market/Role;" (.ref va)) (hvA : Arr Z Z.heap va cv (.object "com/example/nearbid/nearbid/market/Role")) (hvs : cv.slots = [Value.ref rb, .ref rs].toArray) (hvE : Exa Z Z.heap va "[Lcom/example/nearbid/nearbid/market/Role;") (hvF : FitC Z cv) (hlb : Fld Z Z.heap rb "com/example/nearbid/nearbid/market/Role" "label" "Ljava/lang/String;" (.ref lb)) (hls : Fld Z Z.heap rs "com/example/nearbid/nearbid/market/Role" "label" "Ljava/lang/String;" (.ref ls)) (hSb : Str Z Z.heap lb tb [98, 117, 121, 101, 114]) (hSs : Str Z Z.heap ls ts [115, 101, 108, 108, 101, 114]) :
    Met l Z consts_1 n0 [] (⟨"com/example/nearbid/nearbid/market/Role", "values", "()[Lcom/example/nearbid/nearbid/market/Role;"⟩ : MethodName) prog_34_method_1_code 0 (some (.array (.object "com/example/nearbid/nearbid/market/Role"))) ({ frames := 1, cells := 1, slots := 2, locals := 14 } : Room) #[] [] h0 (QVa Z rb rs h0) := by
  have hEL := own_EW hw
  have hn0 : n0 ≤ h0.size := hO.1 ▸ hO.2.1
  refine Met.of (by decide +kernel) hEL hO (Ls := #[]) (fun m => by first | (simp [entryFrame, mkF, argsToLocals, Value.category]; done) | rfl) ?_
  refine WP.getstatic d16_0 (hw _ (List.mem_of_getElem? (i := 76) rfl)) Via.refl hva ?_
  refine WP.clone (cap := 2) d16_3 (hw _ (List.mem_of_getElem? (i := 78) rfl)) (hw _ (List.mem_of_getElem? (i := 79) rfl)) (hw _ (List.mem_of_getElem? (i := 83) rfl)) (hw _ (List.mem_of_getElem? (i := 81) rfl)) (hw _ (List.mem_of_getElem? (i := 82) rfl)) (hw _ (List.mem_of_getElem? (i := 84) rfl)) (hvA.ext hO.2) hvs (by simp) (hvE.ext hO.2) hvF rfl (nle rfl) (nle rfl) (nle rfl) (nle rfl) (nle rfl) (fun h1 b gb E1 A X => ?_)
  refine WP.checkcast d16_6 (hw _ (List.mem_of_getElem? (i := 88) rfl)) (Ins.self X) ?_
  exact WP.areturn d16_9 rfl rfl rfl (by decide) (by decide) (G := []) (fun _ q => nomatch q) ⟨b, rfl, (Keep.refl _ _).ext E1, A⟩
set_option maxRecDepth 65536 in
set_option maxHeartbeats 4000000 in
theorem rm_lab (l : Launch) (Z : State) (a0 : Array Value) (hw : ∀ d ∈ tables_1, d.before a0 Z = true) (n0 : Nat) (h0 : Heap) (hO : Old Z n0 h0) (a v : Addr) (Fa : Fld Z h0 a "com/example/nearbid/nearbid/market/Role" "label" "Ljava/lang/String;" (.ref v)) :
    Met l Z consts_1 n0 [] (⟨"com/example/nearbid/nearbid/market/Role", "label", "()Ljava/lang/String;"⟩ : MethodName) prog_34_method_4_code 1 (some (.object "java/lang/String")) ({ frames := 0, cells := 0, slots := 0, locals := 0 } : Room) #[.ref a] [] h0 (QPure (some (.ref v)) h0) := by
  have hEL := own_EW hw
  have hn0 : n0 ≤ h0.size := hO.1 ▸ hO.2.1
  refine Met.of (by decide +kernel) hEL hO (Ls := #[.val (.ref a)]) (fun m => by first | (simp [entryFrame, mkF, argsToLocals, Value.category]; done) | rfl) ?_
  refine WP.aload_n d19_0 rfl rfl ?_
  refine WP.getfield (host := "") d19_1 (Or.inl (hw _ (List.mem_of_getElem? (i := 90) rfl))) Via.refl Fa ?_
  exact WP.areturn d19_4 rfl rfl rfl (by decide) (by decide) (G := []) (fun _ q => nomatch q) ⟨rfl, rfl⟩
abbrev QOf (Z : State) (r : Value) (h0 : Heap) (v : Option Value) (h : Heap) (F : List Addr) : Prop := v = some r ∧ Keep h0 h []
set_option maxRecDepth 65536 in
set_option maxHeartbeats 4000000 in
theorem rm_ofn (l : Launch) (Z : State) (a0 : Array Value) (hw : ∀ d ∈ tables_1, d.before a0 Z = true) (n0 : Nat) (h0 : Heap) (hO : Old Z n0 h0) (zc : Int32) (hcs : Sta Z Z.heap "java/lang/String" "COMPACT_STRINGS" "Z" (.int zc)) (hzc : zc ≠ 0) (va rb rs lb ls tb ts : Addr) (cv : Cell) (hva : Sta Z Z.heap "com/example/nearbid/nearbid/market/Role" "$VALUES" "[Lcom/example/nearbid/nearbid/market/Role;" (.ref va)) (hvA : Arr Z Z.heap va cv (.object "com/example/nearbid/nearbid/market/Role")) (hvs : cv.slots = [Value.ref rb, .ref rs].toArray) (hvE : Exa Z Z.heap va "[Lcom/example/nearbid/nearbid/market/Role;") (hvF : FitC Z cv) (hlb : Fld Z Z.heap rb "com/example/nearbid/nearbid/market/Role" "label" "Ljava/lang/String;" (.ref lb)) (hls : Fld Z Z.heap rs "com/example/nearbid/nearbid/market/Role" "label" "Ljava/lang/String;" (.ref ls)) (hSb : Str Z Z.heap lb tb [98, 117, 121, 101, 114]) (hSs : Str Z Z.heap ls ts [115, 101, 108, 108, 101, 114]) :
    Met l Z consts_1 n0 [] (⟨"com/example/nearbid/nearbid/market/Role", "ofLabel", "(Ljava/lang/String;)Lcom/example/nearbid/nearbid/market/Role;"⟩ : MethodName) prog_34_method_5_code 5 (some (.object "com/example/nearbid/nearbid/market/Role")) ({ frames := 3, cells := 1, slots := 2, locals := 56 } : Room) #[.null] [] h0 (QOf Z .null h0) := by
  have hEL := own_EW hw
  have hn0 : n0 ≤ h0.size := hO.1 ▸ hO.2.1
  refine Met.of (by decide +kernel) hEL hO (Ls := #[.val .null, .unset, .unset, .unset, .unset]) (fun m => by first | (simp [entryFrame, mkF, argsToLocals, Value.category]; done) | rfl) ?_
  refine WP.static (argsL := []) (rest := []) d15_0 (rm_va l Z a0 hw n0 h0 hO va rb rs lb ls tb ts cv hva hvA hvs hvE hvF hlb hls hSb hSs) (hw _ (List.mem_of_getElem? (i := 73) rfl)) (hw _ (List.mem_of_getElem? (i := 74) rfl)) (hw _ (List.mem_of_getElem? (i := 71) rfl)) (hw _ (List.mem_of_getElem? (i := 75) rfl)) (by decide) pd_15 rfl rfl rfl (nle rfl) (nle rfl) (nle rfl) (nle rfl) (fun _ q => nomatch q) (fun v h39 F' hq szh39 => ?_)
  obtain ⟨b, rfl, K, A⟩ := hq
  have hO := hO.keep K all0
  refine WP.astore_n d15_3 (Ls' := #[.val .null, .val (.ref b), .unset, .unset, .unset]) rfl rfl ?_
  refine WP.aload_n d15_4 rfl rfl ?_
  refine WP.arraylengthR d15_5 A ?_
  obtain ⟨x40, ex40⟩ : ∃ z : Int32, (Int32.ofNat 2) = z := ⟨_, rfl⟩
  refine WP.istore_n d15_6 ex40 (Ls' := #[.val .null, .val (.ref b), .val (.int x40), .unset, .unset]) rfl ?_
  refine WP.iconst d15_7 (v := (0 : Int32)) rfl ?_
  refine WP.istore_n d15_8 rfl (Ls' := #[.val .null, .val (.ref b), .val (.int x40), .val (.int (0 : Int32)), .unset]) rfl ?_
  refine WP.iload_n d15_9 rfl ?_
  refine WP.iload_n d15_10 rfl ?_
  refine WP.icmp_ge d15_11 (fun hc => absurd (by subst ex40; decide) hc) (fun _ => ?_)
  refine WP.aload_n d15_14 rfl rfl ?_
  refine WP.iload_n d15_15 rfl ?_
  refine WP.aaload d15_16 A rfl (i := 0) rfl rfl ?_
  refine WP.astore d15_17 (Ls' := #[.val .null, .val (.ref b), .val (.int x40), .val (.int (0 : Int32)), .val (.ref rb)]) rfl rfl ?_
  refine WP.aload d15_19 rfl rfl ?_
  refine WP.getfield (host := "") d15_21 (Or.inl (hw _ (List.mem_of_getElem? (i := 90) rfl))) Via.refl (hlb.ext hO.2) ?_
  refine WP.aload_n d15_24 rfl rfl ?_
  refine WP.virtual (a := lb) (argsL := [.null]) (rest := []) d15_25 (rm_sen l Z a0 hw n0 h39 hO lb) (hSb.1.ext hO.2) (hw _ (List.mem_of_getElem? (i := 92) rfl)) (hw _ (List.mem_of_getElem? (i := 93) rfl)) (hw _ (List.mem_of_getElem? (i := 94) rfl)) (hw _ (List.mem_of_getElem? (i := 95) rfl)) (hw _ (List.mem_of_getElem? (i := 1) rfl)) (hw _ (List.mem_of_getElem? (i := 96) rfl)) (hw _ (List.mem_of_getElem? (i := 95) rfl)) (by decide) pd_17 rfl rfl rfl (nle rfl) (nle rfl) (nle rfl) (nle rfl) (fun _ q => nomatch q) (fun v h41 F' hq szh41 => ?_)
  obtain ⟨rfl, rfl⟩ := hq
  refine WP.if_eq d15_28 (fun _ => ?_) (fun hc => absurd rfl hc)
  obtain ⟨x42, ex42⟩ : ∃ z, (0 : Int32) + Int32.ofInt (1) = z := ⟨_, rfl⟩
  refine WP.iinc d15_34 rfl ex42 (Ls' := #[.val .null, .val (.ref b), .val (.int x40), .val (.int x42), .val (.ref rb)]) rfl ?_
  refine WP.goto d15_37 ?_
  refine WP.iload_n d15_9 rfl ?_
  refine WP.iload_n d15_10 rfl ?_
  refine WP.icmp_ge d15_11 (fun hc => absurd (by subst ex40; subst ex42; decide) hc) (fun _ => ?_)
  refine WP.aload_n d15_14 rfl rfl ?_
  refine WP.iload_n d15_15 rfl ?_
  refine WP.aaload d15_16 A rfl (i := 1) (by rw [Ix, ← ex42]; rfl) rfl ?_
  refine WP.astore d15_17 (Ls' := #[.val .null, .val (.ref b), .val (.int x40), .val (.int x42), .val (.ref rs)]) rfl rfl ?_
  refine WP.aload d15_19 rfl rfl ?_
  refine WP.getfield (host := "") d15_21 (Or.inl (hw _ (List.mem_of_getElem? (i := 90) rfl))) Via.refl (hls.ext hO.2) ?_
  refine WP.aload_n d15_24 rfl rfl ?_
  refine WP.virtual (a := ls) (argsL := [.null]) (rest := []) d15_25 (rm_sen l Z a0 hw n0 h41 hO ls) (hSs.1.ext hO.2) (hw _ (List.mem_of_getElem? (i := 92) rfl)) (hw _ (List.mem_of_getElem? (i := 93) rfl)) (hw _ (List.mem_of_getElem? (i := 94) rfl)) (hw _ (List.mem_of_getElem? (i := 95) rfl)) (hw _ (List.mem_of_getElem? (i := 1) rfl)) (hw _ (List.mem_of_getElem? (i := 96) rfl)) (hw _ (List.mem_of_getElem? (i := 95) rfl)) (by decide) pd_17 rfl rfl rfl (nle rfl) (nle rfl) (nle rfl) (nle rfl) (fun _ q => nomatch q) (fun v h43 F' hq szh43 => ?_)
  obtain ⟨rfl, rfl⟩ := hq
  refine WP.if_eq d15_28 (fun _ => ?_) (fun hc => absurd rfl hc)
  obtain ⟨x44, ex44⟩ : ∃ z, x42 + Int32.ofInt (1) = z := ⟨_, rfl⟩
  refine WP.iinc d15_34 rfl ex44 (Ls' := #[.val .null, .val (.ref b), .val (.int x40), .val (.int x44), .val (.ref rs)]) rfl ?_
  refine WP.goto d15_37 ?_
  refine WP.iload_n d15_9 rfl ?_
  refine WP.iload_n d15_10 rfl ?_
  refine WP.icmp_ge d15_11 (fun _ => ?_) (fun hc => absurd hc (by subst ex40; subst ex44; subst ex42; decide))
  refine WP.aconst_null d15_40 ?_
  exact WP.areturn d15_41 rfl rfl rfl (by decide) (by decide) (G := []) (fun _ q => nomatch q) ⟨rfl, K⟩
set_option maxRecDepth 65536 in
set_option maxHeartbeats 4000000 in
theorem rm_ofs (l : Launch) (Z : State) (a0 : Array Value) (hw : ∀ d ∈ tables_1, d.before a0 Z = true) (n0 : Nat) (h0 : Heap) (hO : Old Z n0 h0) (zc : Int32) (hcs : Sta Z Z.heap "java/lang/String" "COMPACT_STRINGS" "Z" (.int zc)) (hzc : zc ≠ 0) (va rb rs lb ls tb ts : Addr) (cv : Cell) (hva : Sta Z Z.heap "com/example/nearbid/nearbid/market/Role" "$VALUES" "[Lcom/example/nearbid/nearbid/market/Role;" (.ref va)) (hvA : Arr Z Z.heap va cv (.object "com/example/nearbid/nearbid/market/Role")) (hvs : cv.slots = [Value.ref rb, .ref rs].toArray) (hvE : Exa Z Z.heap va "[Lcom/example/nearbid/nearbid/market/Role;") (hvF : FitC Z cv) (hlb : Fld Z Z.heap rb "com/example/nearbid/nearbid/market/Role" "label" "Ljava/lang/String;" (.ref lb)) (hls : Fld Z Z.heap rs "com/example/nearbid/nearbid/market/Role" "label" "Ljava/lang/String;" (.ref ls)) (hSb : Str Z Z.heap lb tb [98, 117, 121, 101, 114]) (hSs : Str Z Z.heap ls ts [115, 101, 108, 108, 101, 114]) (s t : Addr) (bs : List Int32) (D : Str Z h0 s t bs) :
    Met l Z consts_1 n0 [] (⟨"com/example/nearbid/nearbid/market/Role", "ofLabel", "(Ljava/lang/String;)Lcom/example/nearbid/nearbid/market/Role;"⟩ : MethodName) prog_34_method_5_code 5 (some (.object "com/example/nearbid/nearbid/market/Role")) ({ frames := 3, cells := 1, slots := 2, locals := 56 } : Room) #[.ref s] [] h0 (QOf Z (if bs = [98, 117, 121, 101, 114] then .ref rb else if bs = [115, 101, 108, 108, 101, 114] then .ref rs else .null) h0) := by
  have hEL := own_EW hw
  have hn0 : n0 ≤ h0.size := hO.1 ▸ hO.2.1
  refine Met.of (by decide +kernel) hEL hO (Ls := #[.val (.ref s), .unset, .unset, .unset, .unset]) (fun m => by first | (simp [entryFrame, mkF, argsToLocals, Value.category]; done) | rfl) ?_
  refine WP.static (argsL := []) (rest := []) d15_0 (rm_va l Z a0 hw n0 h0 hO va rb rs lb ls tb ts cv hva hvA hvs hvE hvF hlb hls hSb hSs) (hw _ (List.mem_of_getElem? (i := 73) rfl)) (hw _ (List.mem_of_getElem? (i := 74) rfl)) (hw _ (List.mem_of_getElem? (i := 71) rfl)) (hw _ (List.mem_of_getElem? (i := 75) rfl)) (by decide) pd_15 rfl rfl rfl (nle rfl) (nle rfl) (nle rfl) (nle rfl) (fun _ q => nomatch q) (fun v h45 F' hq szh45 => ?_)
  obtain ⟨b, rfl, K, A⟩ := hq
  have hO := hO.keep K all0
  have D := D.keep K nin0 nin0
  refine WP.astore_n d15_3 (Ls' := #[.val (.ref s), .val (.ref b), .unset, .unset, .unset]) rfl rfl ?_
  refine WP.aload_n d15_4 rfl rfl ?_
  refine WP.arraylengthR d15_5 A ?_
  obtain ⟨x46, ex46⟩ : ∃ z : Int32, (Int32.ofNat 2) = z := ⟨_, rfl⟩
  refine WP.istore_n d15_6 ex46 (Ls' := #[.val (.ref s), .val (.ref b), .val (.int x46), .unset, .unset]) rfl ?_
  refine WP.iconst d15_7 (v := (0 : Int32)) rfl ?_
  refine WP.istore_n d15_8 rfl (Ls' := #[.val (.ref s), .val (.ref b), .val (.int x46), .val (.int (0 : Int32)), .unset]) rfl ?_
  refine WP.iload_n d15_9 rfl ?_
  refine WP.iload_n d15_10 rfl ?_
  refine WP.icmp_ge d15_11 (fun hc => absurd (by subst ex46; decide) hc) (fun _ => ?_)
  refine WP.aload_n d15_14 rfl rfl ?_
  refine WP.iload_n d15_15 rfl ?_
  refine WP.aaload d15_16 A rfl (i := 0) rfl rfl ?_
  refine WP.astore d15_17 (Ls' := #[.val (.ref s), .val (.ref b), .val (.int x46), .val (.int (0 : Int32)), .val (.ref rb)]) rfl rfl ?_
  refine WP.aload d15_19 rfl rfl ?_
  refine WP.getfield (host := "") d15_21 (Or.inl (hw _ (List.mem_of_getElem? (i := 90) rfl))) Via.refl (hlb.ext hO.2) ?_
  refine WP.aload_n d15_24 rfl rfl ?_
  refine WP.virtual (a := lb) (argsL := [(.ref s)]) (rest := []) d15_25 (rm_se l Z a0 hw n0 h45 hO zc hcs hzc lb s tb t _ bs (hSb.ext hO.2) D) (hSb.1.ext hO.2) (hw _ (List.mem_of_getElem? (i := 92) rfl)) (hw _ (List.mem_of_getElem? (i := 93) rfl)) (hw _ (List.mem_of_getElem? (i := 94) rfl)) (hw _ (List.mem_of_getElem? (i := 95) rfl)) (hw _ (List.mem_of_getElem? (i := 1) rfl)) (hw _ (List.mem_of_getElem? (i := 96) rfl)) (hw _ (List.mem_of_getElem? (i := 95) rfl)) (by decide) pd_17 rfl rfl rfl (nle rfl) (nle rfl) (nle rfl) (nle rfl) (fun _ q => nomatch q) (fun v h47 F' hq szh47 => ?_)
  obtain ⟨rfl, rfl⟩ := hq
  refine WP.if_eq d15_28 (fun hc0 => ?_) (fun hc0 => ?_)
  · obtain ⟨x48, ex48⟩ : ∃ z, (0 : Int32) + Int32.ofInt (1) = z := ⟨_, rfl⟩
    refine WP.iinc d15_34 rfl ex48 (Ls' := #[.val (.ref s), .val (.ref b), .val (.int x46), .val (.int x48), .val (.ref rb)]) rfl ?_
    refine WP.goto d15_37 ?_
    refine WP.iload_n d15_9 rfl ?_
    refine WP.iload_n d15_10 rfl ?_
    refine WP.icmp_ge d15_11 (fun hc => absurd (by subst ex46; subst ex48; decide) hc) (fun _ => ?_)
    refine WP.aload_n d15_14 rfl rfl ?_
    refine WP.iload_n d15_15 rfl ?_
    refine WP.aaload d15_16 A rfl (i := 1) (by rw [Ix, ← ex48]; rfl) rfl ?_
    refine WP.astore d15_17 (Ls' := #[.val (.ref s), .val (.ref b), .val (.int x46), .val (.int x48), .val (.ref rs)]) rfl rfl ?_
    refine WP.aload d15_19 rfl rfl ?_
    refine WP.getfield (host := "") d15_21 (Or.inl (hw _ (List.mem_of_getElem? (i := 90) rfl))) Via.refl (hls.ext hO.2) ?_
    refine WP.aload_n d15_24 rfl rfl ?_
    refine WP.virtual (a := ls) (argsL := [(.ref s)]) (rest := []) d15_25 (rm_se l Z a0 hw n0 h47 hO zc hcs hzc ls s ts t _ bs (hSs.ext hO.2) D) (hSs.1.ext hO.2) (hw _ (List.mem_of_getElem? (i := 92) rfl)) (hw _ (List.mem_of_getElem? (i := 93) rfl)) (hw _ (List.mem_of_getElem? (i := 94) rfl)) (hw _ (List.mem_of_getElem? (i := 95) rfl)) (hw _ (List.mem_of_getElem? (i := 1) rfl)) (hw _ (List.mem_of_getElem? (i := 96) rfl)) (hw _ (List.mem_of_getElem? (i := 95) rfl)) (by decide) pd_17 rfl rfl rfl (nle rfl) (nle rfl) (nle rfl) (nle rfl) (fun _ q => nomatch q) (fun v h49 F' hq szh49 => ?_)
    obtain ⟨rfl, rfl⟩ := hq
    refine WP.if_eq d15_28 (fun hc1 => ?_) (fun hc1 => ?_)
    · obtain ⟨x50, ex50⟩ : ∃ z, x48 + Int32.ofInt (1) = z := ⟨_, rfl⟩
      refine WP.iinc d15_34 rfl ex50 (Ls' := #[.val (.ref s), .val (.ref b), .val (.int x46), .val (.int x50), .val (.ref rs)]) rfl ?_
      refine WP.goto d15_37 ?_
      refine WP.iload_n d15_9 rfl ?_
      refine WP.iload_n d15_10 rfl ?_
      refine WP.icmp_ge d15_11 (fun _ => ?_) (fun hc => absurd hc (by subst ex46; subst ex50; subst ex48; decide))
      refine WP.aconst_null d15_40 ?_
      exact WP.areturn d15_41 rfl rfl rfl (by decide) (by decide) (G := []) (fun _ q => nomatch q) ⟨by rw [if_neg (fun q => by rw [if_pos q.symm] at hc0; exact absurd hc0 (by decide)), if_neg (fun q => by rw [if_pos q.symm] at hc1; exact absurd hc1 (by decide))], K⟩
    · refine WP.aload d15_31 rfl rfl ?_
      have e1 : bs = [115, 101, 108, 108, 101, 114] := (Classical.byContradiction fun q => hc1 (by rw [if_neg q]) : [115, 101, 108, 108, 101, 114] = bs).symm
      exact WP.areturn d15_33 rfl rfl rfl (by decide) (by decide) (G := []) (fun _ q => nomatch q) ⟨by rw [if_neg (fun q => by rw [if_pos q.symm] at hc0; exact absurd hc0 (by decide)), if_pos e1], K⟩
  · refine WP.aload d15_31 rfl rfl ?_
    have e0 : bs = [98, 117, 121, 101, 114] := (Classical.byContradiction fun q => hc0 (by rw [if_neg q]) : [98, 117, 121, 101, 114] = bs).symm
    exact WP.areturn d15_33 rfl rfl rfl (by decide) (by decide) (G := []) (fun _ q => nomatch q) ⟨by rw [if_pos e0], K⟩
abbrev QLaw (v : Option Value) (h : Heap) (F : List Addr) : Prop := v = some (.int 1)
set_option maxRecDepth 65536 in
set_option maxHeartbeats 4000000 in
theorem tail_n (l : Launch) (Z : State) (a0 : Array Value) (hw : ∀ d ∈ tables_1, d.before a0 Z = true) (n0 : Nat) (h : Heap) (hO : Old Z n0 h) (zc : Int32) (hcs : Sta Z Z.heap "java/lang/String" "COMPACT_STRINGS" "Z" (.int zc)) (hzc : zc ≠ 0) (va rb rs lb ls tb ts : Addr) (cv : Cell) (hva : Sta Z Z.heap "com/example/nearbid/nearbid/market/Role" "$VALUES" "[Lcom/example/nearbid/nearbid/market/Role;" (.ref va)) (hvA : Arr Z Z.heap va cv (.object "com/example/nearbid/nearbid/market/Role")) (hvs : cv.slots = [Value.ref rb, .ref rs].toArray) (hvE : Exa Z Z.heap va "[Lcom/example/nearbid/nearbid/market/Role;") (hvF : FitC Z cv) (hlb : Fld Z Z.heap rb "com/example/nearbid/nearbid/market/Role" "label" "Ljava/lang/String;" (.ref lb)) (hls : Fld Z Z.heap rs "com/example/nearbid/nearbid/market/Role" "label" "Ljava/lang/String;" (.ref ls)) (hSb : Str Z Z.heap lb tb [98, 117, 121, 101, 114]) (hSs : Str Z Z.heap ls ts [115, 101, 108, 108, 101, 114]) (hb : Sta Z Z.heap "com/example/nearbid/nearbid/market/Role" "BUYER" "Lcom/example/nearbid/nearbid/market/Role;" (.ref rb)) (hs : Sta Z Z.heap "com/example/nearbid/nearbid/market/Role" "SELLER" "Lcom/example/nearbid/nearbid/market/Role;" (.ref rs)) (hrb : Exa Z Z.heap rb "com/example/nearbid/nearbid/market/Role") (hrs : Exa Z Z.heap rs "com/example/nearbid/nearbid/market/Role") (p0 p1 p2 p3 x4 x6 x7 x8 x10 : Int32) (tt ca : Addr) :
    WP l Z consts_1 n0 room_1 x code maxLocals ret QLaw [] h 12 200 218 #[.val (.int p0), .val (.int p1), .val (.int p2), .val (.int p3), .val (.int x4), .val (.ref tt), .val (.int x6), .val (.int x7), .val (.int x8), .val (.ref ca), .val (.int x10), .val .null, .unset, .unset] [] := by
  have hEL := own_EW hw
  have hn0 : n0 ≤ h.size := hO.1 ▸ hO.2.1
  refine WP.aload d0_218 rfl rfl ?_
  refine WP.static (argsL := [.null]) (rest := []) d0_220 (rm_ofn l Z a0 hw n0 h hO zc hcs hzc va rb rs lb ls tb ts cv hva hvA hvs hvE hvF hlb hls hSb hSs) (hw _ (List.mem_of_getElem? (i := 69) rfl)) (hw _ (List.mem_of_getElem? (i := 70) rfl)) (hw _ (List.mem_of_getElem? (i := 71) rfl)) (hw _ (List.mem_of_getElem? (i := 72) rfl)) (by decide) pd_14 rfl rfl rfl (nle rfl) (nle rfl) (nle rfl) (nle rfl) (fun _ q => nomatch q) (fun v h51 F' hq szh51 => ?_)
  obtain ⟨rfl, K⟩ := hq
  have zK := K.1
  have hO := hO.keep K all0
  refine WP.astore d0_223 (Ls' := #[.val (.int p0), .val (.int p1), .val (.int p2), .val (.int p3), .val (.int x4), .val (.ref tt), .val (.int x6), .val (.int x7), .val (.int x8), .val (.ref ca), .val (.int x10), .val .null, .val .null, .unset]) rfl rfl ?_
  refine WP.aload d0_225 rfl rfl ?_
  refine WP.ifnonnull d0_227 rfl (fun a q => nomatch q) (fun _ => ?_)
  refine WP.aconst_null d0_230 ?_
  refine WP.astore d0_231 (Ls' := #[.val (.int p0), .val (.int p1), .val (.int p2), .val (.int p3), .val (.int x4), .val (.ref tt), .val (.int x6), .val (.int x7), .val (.int x8), .val (.ref ca), .val (.int x10), .val .null, .val .null, .val .null]) rfl rfl ?_
  refine WP.goto d0_233 ?_
  refine WP.aload d0_275 rfl rfl ?_
  refine WP.aload d0_277 rfl rfl ?_
  refine WP.acmp_eq d0_279 rfl rfl (fun hc279 => ?_) (fun hc279 => False.elim (hc279 rfl))
  refine WP.aload d0_284 rfl rfl ?_
  refine WP.ifnull d0_286 rfl (fun _ => ?_) (fun a q => nomatch q)
  refine WP.iconst d0_304 (v := (1 : Int32)) rfl ?_
  exact WP.ireturn d0_305 rfl (t := .boolean) (by simp) rfl (by decide) (by decide) (G := []) (fun _ q => nomatch q) rfl
set_option maxRecDepth 65536 in
set_option maxHeartbeats 4000000 in
theorem tail_b (l : Launch) (Z : State) (a0 : Array Value) (hw : ∀ d ∈ tables_1, d.before a0 Z = true) (n0 : Nat) (h : Heap) (hO : Old Z n0 h) (zc : Int32) (hcs : Sta Z Z.heap "java/lang/String" "COMPACT_STRINGS" "Z" (.int zc)) (hzc : zc ≠ 0) (va rb rs lb ls tb ts : Addr) (cv : Cell) (hva : Sta Z Z.heap "com/example/nearbid/nearbid/market/Role" "$VALUES" "[Lcom/example/nearbid/nearbid/market/Role;" (.ref va)) (hvA : Arr Z Z.heap va cv (.object "com/example/nearbid/nearbid/market/Role")) (hvs : cv.slots = [Value.ref rb, .ref rs].toArray) (hvE : Exa Z Z.heap va "[Lcom/example/nearbid/nearbid/market/Role;") (hvF : FitC Z cv) (hlb : Fld Z Z.heap rb "com/example/nearbid/nearbid/market/Role" "label" "Ljava/lang/String;" (.ref lb)) (hls : Fld Z Z.heap rs "com/example/nearbid/nearbid/market/Role" "label" "Ljava/lang/String;" (.ref ls)) (hSb : Str Z Z.heap lb tb [98, 117, 121, 101, 114]) (hSs : Str Z Z.heap ls ts [115, 101, 108, 108, 101, 114]) (hb : Sta Z Z.heap "com/example/nearbid/nearbid/market/Role" "BUYER" "Lcom/example/nearbid/nearbid/market/Role;" (.ref rb)) (hs : Sta Z Z.heap "com/example/nearbid/nearbid/market/Role" "SELLER" "Lcom/example/nearbid/nearbid/market/Role;" (.ref rs)) (hrb : Exa Z Z.heap rb "com/example/nearbid/nearbid/market/Role") (hrs : Exa Z Z.heap rs "com/example/nearbid/nearbid/market/Role") (p0 p1 p2 p3 x4 x6 x7 x8 x10 : Int32) (tt ca : Addr) (s t : Addr) (bs : List Int32) (D : Str Z h s t bs) (qb : bs = [98, 117, 121, 101, 114]) :
    WP l Z consts_1 n0 room_1 x code maxLocals ret QLaw [] h 12 200 218 #[.val (.int p0), .val (.int p1), .val (.int p2), .val (.int p3), .val (.int x4), .val (.ref tt), .val (.int x6), .val (.int x7), .val (.int x8), .val (.ref ca), .val (.int x10), .val (.ref s), .unset, .unset] [] := by
  have hEL := own_EW hw
  have hn0 : n0 ≤ h.size := hO.1 ▸ hO.2.1
  refine WP.aload d0_218 rfl rfl ?_
  refine WP.static (argsL := [(.ref s)]) (rest := []) d0_220 (rm_ofs l Z a0 hw n0 h hO zc hcs hzc va rb rs lb ls tb ts cv hva hvA hvs hvE hvF hlb hls hSb hSs s t bs D) (hw _ (List.mem_of_getElem? (i := 69) rfl)) (hw _ (List.mem_of_getElem? (i := 70) rfl)) (hw _ (List.mem_of_getElem? (i := 71) rfl)) (hw _ (List.mem_of_getElem? (i := 72) rfl)) (by decide) pd_14 rfl rfl rfl (nle rfl) (nle rfl) (nle rfl) (nle rfl) (fun _ q => nomatch q) (fun v h52 F' hq szh52 => ?_)
  obtain ⟨hv, K⟩ := hq
  rw [if_pos qb] at hv
  subst hv
  have zK := K.1
  have hO := hO.keep K all0
  have D := D.keep K nin0 nin0
  refine WP.astore d0_223 (Ls' := #[.val (.int p0), .val (.int p1), .val (.int p2), .val (.int p3), .val (.int x4), .val (.ref tt), .val (.int x6), .val (.int x7), .val (.int x8), .val (.ref ca), .val (.int x10), .val (.ref s), .val (.ref rb), .unset]) rfl rfl ?_
  refine WP.aload d0_225 rfl rfl ?_
  refine WP.ifnonnull d0_227 rfl (fun _ _ => ?_) (fun q => nomatch q)
  refine WP.aload d0_236 rfl rfl ?_
  refine WP.ldcS (n := 20) (bs := [98, 117, 121, 101, 114]) d0_238 hEL (by simp [consts_1, x]) (hw _ (List.mem_of_getElem? (i := 0) rfl)) (own_wS hw) ⟨by decide, by decide⟩ (by decide) (by decide) (by decide) (by decide) (by decide) (fun h53 s54 t55 Eh53 Xs54 Cs54 Vs54 Bs54 => ?_)
  have hO := hO.ext Eh53
  have D := D.ext Eh53
  have zEh53 := Eh53.1
  have Ls54 : Str Z h53 s54 t55 [98, 117, 121, 101, 114] := ⟨Xs54, Cs54, Vs54, Bs54⟩
  have lts54 := nlt Ls54.ltT
  have las54 := nlt Ls54.lt
  refine WP.virtual (a := s) (argsL := [(.ref s54)]) (rest := []) d0_240 (rm_se l Z a0 hw n0 h53 hO zc hcs hzc s s54 t t55 bs _ D Ls54) D.1 (hw _ (List.mem_of_getElem? (i := 101) rfl)) (hw _ (List.mem_of_getElem? (i := 93) rfl)) (hw _ (List.mem_of_getElem? (i := 94) rfl)) (hw _ (List.mem_of_getElem? (i := 95) rfl)) (hw _ (List.mem_of_getElem? (i := 1) rfl)) (hw _ (List.mem_of_getElem? (i := 96) rfl)) (hw _ (List.mem_of_getElem? (i := 95) rfl)) (by decide) pd_17 rfl rfl rfl (nle rfl) (nle rfl) (nle rfl) (nle rfl) (fun _ q => nomatch q) (fun v h56 F' hq szh56 => ?_)
  obtain ⟨rfl, rfl⟩ := hq
  refine WP.if_eq d0_243 (fun hc243 => False.elim (by rw [if_pos qb] at hc243; exact absurd hc243 (by decide))) (fun hc243 => ?_)
  refine WP.getstatic d0_246 (hw _ (List.mem_of_getElem? (i := 102) rfl)) Via.refl hb ?_
  refine WP.astore d0_249 (Ls' := #[.val (.int p0), .val (.int p1), .val (.int p2), .val (.int p3), .val (.int x4), .val (.ref tt), .val (.int x6), .val (.int x7), .val (.int x8), .val (.ref ca), .val (.int x10), .val (.ref s), .val (.ref rb), .val (.ref rb)]) rfl rfl ?_
  refine WP.goto d0_251 ?_
  refine WP.aload d0_275 rfl rfl ?_
  refine WP.aload d0_277 rfl rfl ?_
  refine WP.acmp_eq d0_279 rfl rfl (fun hc279 => ?_) (fun hc279 => False.elim (hc279 rfl))
  refine WP.aload d0_284 rfl rfl ?_
  refine WP.ifnull d0_286 rfl (fun q => nomatch q) (fun _ _ => ?_)
  refine WP.aload d0_289 rfl rfl ?_
  refine WP.virtual (a := rb) (argsL := []) (rest := []) d0_291 (rm_lab l Z a0 hw n0 h56 hO rb lb (hlb.ext hO.2)) (hrb.ext hO.2) (hw _ (List.mem_of_getElem? (i := 103) rfl)) (hw _ (List.mem_of_getElem? (i := 104) rfl)) (hw _ (List.mem_of_getElem? (i := 105) rfl)) (hw _ (List.mem_of_getElem? (i := 106) rfl)) (hw _ (List.mem_of_getElem? (i := 71) rfl)) (hw _ (List.mem_of_getElem? (i := 107) rfl)) (hw _ (List.mem_of_getElem? (i := 106) rfl)) (by decide) pd_19 rfl rfl rfl (nle rfl) (nle rfl) (nle rfl) (nle rfl) (fun _ q => nomatch q) (fun v h57 F' hq szh57 => ?_)
  obtain ⟨rfl, rfl⟩ := hq
  refine WP.aload d0_294 rfl rfl ?_
  refine WP.virtual (a := lb) (argsL := [(.ref s)]) (rest := []) d0_296 (rm_se l Z a0 hw n0 h57 hO zc hcs hzc lb s tb t _ bs (hSb.ext hO.2) D) (hSb.1.ext hO.2) (hw _ (List.mem_of_getElem? (i := 101) rfl)) (hw _ (List.mem_of_getElem? (i := 93) rfl)) (hw _ (List.mem_of_getElem? (i := 94) rfl)) (hw _ (List.mem_of_getElem? (i := 95) rfl)) (hw _ (List.mem_of_getElem? (i := 1) rfl)) (hw _ (List.mem_of_getElem? (i := 96) rfl)) (hw _ (List.mem_of_getElem? (i := 95) rfl)) (by decide) pd_17 rfl rfl rfl (nle rfl) (nle rfl) (nle rfl) (nle rfl) (fun _ q => nomatch q) (fun v h58 F' hq szh58 => ?_)
  obtain ⟨rfl, rfl⟩ := hq
  refine WP.if_ne d0_299 (fun hc299 => ?_) (fun hc299 => False.elim (by rw [if_pos qb.symm] at hc299; exact absurd hc299 (by decide)))
  refine WP.iconst d0_304 (v := (1 : Int32)) rfl ?_
  exact WP.ireturn d0_305 rfl (t := .boolean) (by simp) rfl (by decide) (by decide) (G := []) (fun _ q => nomatch q) rfl
set_option maxRecDepth 65536 in
set_option maxHeartbeats 4000000 in
theorem tail_s (l : Launch) (Z : State) (a0 : Array Value) (hw : ∀ d ∈ tables_1, d.before a0 Z = true) (n0 : Nat) (h : Heap) (hO : Old Z n0 h) (zc : Int32) (hcs : Sta Z Z.heap "java/lang/String" "COMPACT_STRINGS" "Z" (.int zc)) (hzc : zc ≠ 0) (va rb rs lb ls tb ts : Addr) (cv : Cell) (hva : Sta Z Z.heap "com/example/nearbid/nearbid/market/Role" "$VALUES" "[Lcom/example/nearbid/nearbid/market/Role;" (.ref va)) (hvA : Arr Z Z.heap va cv (.object "com/example/nearbid/nearbid/market/Role")) (hvs : cv.slots = [Value.ref rb, .ref rs].toArray) (hvE : Exa Z Z.heap va "[Lcom/example/nearbid/nearbid/market/Role;") (hvF : FitC Z cv) (hlb : Fld Z Z.heap rb "com/example/nearbid/nearbid/market/Role" "label" "Ljava/lang/String;" (.ref lb)) (hls : Fld Z Z.heap rs "com/example/nearbid/nearbid/market/Role" "label" "Ljava/lang/String;" (.ref ls)) (hSb : Str Z Z.heap lb tb [98, 117, 121, 101, 114]) (hSs : Str Z Z.heap ls ts [115, 101, 108, 108, 101, 114]) (hb : Sta Z Z.heap "com/example/nearbid/nearbid/market/Role" "BUYER" "Lcom/example/nearbid/nearbid/market/Role;" (.ref rb)) (hs : Sta Z Z.heap "com/example/nearbid/nearbid/market/Role" "SELLER" "Lcom/example/nearbid/nearbid/market/Role;" (.ref rs)) (hrb : Exa Z Z.heap rb "com/example/nearbid/nearbid/market/Role") (hrs : Exa Z Z.heap rs "com/example/nearbid/nearbid/market/Role") (p0 p1 p2 p3 x4 x6 x7 x8 x10 : Int32) (tt ca : Addr) (s t : Addr) (bs : List Int32) (D : Str Z h s t bs) (qb : ¬ bs = [98, 117, 121, 101, 114]) (qs : bs = [115, 101, 108, 108, 101, 114]) :
    WP l Z consts_1 n0 room_1 x code maxLocals ret QLaw [] h 12 200 218 #[.val (.int p0), .val (.int p1), .val (.int p2), .val (.int p3), .val (.int x4), .val (.ref tt), .val (.int x6), .val (.int x7), .val (.int x8), .val (.ref ca), .val (.int x10), .val (.ref s), .unset, .unset] [] := by
  have hEL := own_EW hw
  have hn0 : n0 ≤ h.size := hO.1 ▸ hO.2.1
  refine WP.aload d0_218 rfl rfl ?_
  refine WP.static (argsL := [(.ref s)]) (rest := []) d0_220 (rm_ofs l Z a0 hw n0 h hO zc hcs hzc va rb rs lb ls tb ts cv hva hvA hvs hvE hvF hlb hls hSb hSs s t bs D) (hw _ (List.mem_of_getElem? (i := 69) rfl)) (hw _ (List.mem_of_getElem? (i := 70) rfl)) (hw _ (List.mem_of_getElem? (i := 71) rfl)) (hw _ (List.mem_of_getElem? (i := 72) rfl)) (by decide) pd_14 rfl rfl rfl (nle rfl) (nle rfl) (nle rfl) (nle rfl) (fun _ q => nomatch q) (fun v h59 F' hq szh59 => ?_)
  obtain ⟨hv, K⟩ := hq
  rw [if_neg qb, if_pos qs] at hv
  subst hv
  have zK := K.1
  have hO := hO.keep K all0
  have D := D.keep K nin0 nin0
  refine WP.astore d0_223 (Ls' := #[.val (.int p0), .val (.int p1), .val (.int p2), .val (.int p3), .val (.int x4), .val (.ref tt), .val (.int x6), .val (.int x7), .val (.int x8), .val (.ref ca), .val (.int x10), .val (.ref s), .val (.ref rs), .unset]) rfl rfl ?_
  refine WP.aload d0_225 rfl rfl ?_
  refine WP.ifnonnull d0_227 rfl (fun _ _ => ?_) (fun q => nomatch q)
  refine WP.aload d0_236 rfl rfl ?_
  refine WP.ldcS (n := 20) (bs := [98, 117, 121, 101, 114]) d0_238 hEL (by simp [consts_1, x]) (hw _ (List.mem_of_getElem? (i := 0) rfl)) (own_wS hw) ⟨by decide, by decide⟩ (by decide) (by decide) (by decide) (by decide) (by decide) (fun h60 s61 t62 Eh60 Xs61 Cs61 Vs61 Bs61 => ?_)
  have hO := hO.ext Eh60
  have D := D.ext Eh60
  have zEh60 := Eh60.1
  have Ls61 : Str Z h60 s61 t62 [98, 117, 121, 101, 114] := ⟨Xs61, Cs61, Vs61, Bs61⟩
  have lts61 := nlt Ls61.ltT
  have las61 := nlt Ls61.lt
  refine WP.virtual (a := s) (argsL := [(.ref s61)]) (rest := []) d0_240 (rm_se l Z a0 hw n0 h60 hO zc hcs hzc s s61 t t62 bs _ D Ls61) D.1 (hw _ (List.mem_of_getElem? (i := 101) rfl)) (hw _ (List.mem_of_getElem? (i := 93) rfl)) (hw _ (List.mem_of_getElem? (i := 94) rfl)) (hw _ (List.mem_of_getElem? (i := 95) rfl)) (hw _ (List.mem_of_getElem? (i := 1) rfl)) (hw _ (List.mem_of_getElem? (i := 96) rfl)) (hw _ (List.mem_of_getElem? (i := 95) rfl)) (by decide) pd_17 rfl rfl rfl (nle rfl) (nle rfl) (nle rfl) (nle rfl) (fun _ q => nomatch q) (fun v h63 F' hq szh63 => ?_)
  obtain ⟨rfl, rfl⟩ := hq
  refine WP.if_eq d0_243 (fun hc243 => ?_) (fun hc243 => False.elim (hc243 (by rw [if_neg qb])))
  refine WP.aload d0_254 rfl rfl ?_
  refine WP.ldcS (n := 24) (bs := [115, 101, 108, 108, 101, 114]) d0_256 hEL (by simp [consts_1, x]) (hw _ (List.mem_of_getElem? (i := 108) rfl)) (own_wS hw) ⟨by decide, by decide⟩ (by decide) (by decide) (by decide) (by decide) (by decide) (fun h64 s65 t66 Eh64 Xs65 Cs65 Vs65 Bs65 => ?_)
  have hO := hO.ext Eh64
  have D := D.ext Eh64
  have Ls61 := Ls61.ext Eh64
  have zEh64 := Eh64.1
  have Ls65 : Str Z h64 s65 t66 [115, 101, 108, 108, 101, 114] := ⟨Xs65, Cs65, Vs65, Bs65⟩
  have lts65 := nlt Ls65.ltT
  have las65 := nlt Ls65.lt
  refine WP.virtual (a := s) (argsL := [(.ref s65)]) (rest := []) d0_258 (rm_se l Z a0 hw n0 h64 hO zc hcs hzc s s65 t t66 bs _ D Ls65) D.1 (hw _ (List.mem_of_getElem? (i := 101) rfl)) (hw _ (List.mem_of_getElem? (i := 93) rfl)) (hw _ (List.mem_of_getElem? (i := 94) rfl)) (hw _ (List.mem_of_getElem? (i := 95) rfl)) (hw _ (List.mem_of_getElem? (i := 1) rfl)) (hw _ (List.mem_of_getElem? (i := 96) rfl)) (hw _ (List.mem_of_getElem? (i := 95) rfl)) (by decide) pd_17 rfl rfl rfl (nle rfl) (nle rfl) (nle rfl) (nle rfl) (fun _ q => nomatch q) (fun v h67 F' hq szh67 => ?_)
  obtain ⟨rfl, rfl⟩ := hq
  refine WP.if_eq d0_261 (fun hc261 => False.elim (by rw [if_pos qs] at hc261; exact absurd hc261 (by decide))) (fun hc261 => ?_)
  refine WP.getstatic d0_264 (hw _ (List.mem_of_getElem? (i := 110) rfl)) Via.refl hs ?_
  refine WP.astore d0_267 (Ls' := #[.val (.int p0), .val (.int p1), .val (.int p2), .val (.int p3), .val (.int x4), .val (.ref tt), .val (.int x6), .val (.int x7), .val (.int x8), .val (.ref ca), .val (.int x10), .val (.ref s), .val (.ref rs), .val (.ref rs)]) rfl rfl ?_
  refine WP.goto d0_269 ?_
  refine WP.aload d0_275 rfl rfl ?_
  refine WP.aload d0_277 rfl rfl ?_
  refine WP.acmp_eq d0_279 rfl rfl (fun hc279 => ?_) (fun hc279 => False.elim (hc279 rfl))
  refine WP.aload d0_284 rfl rfl ?_
  refine WP.ifnull d0_286 rfl (fun q => nomatch q) (fun _ _ => ?_)
  refine WP.aload d0_289 rfl rfl ?_
  refine WP.virtual (a := rs) (argsL := []) (rest := []) d0_291 (rm_lab l Z a0 hw n0 h67 hO rs ls (hls.ext hO.2)) (hrs.ext hO.2) (hw _ (List.mem_of_getElem? (i := 103) rfl)) (hw _ (List.mem_of_getElem? (i := 104) rfl)) (hw _ (List.mem_of_getElem? (i := 105) rfl)) (hw _ (List.mem_of_getElem? (i := 106) rfl)) (hw _ (List.mem_of_getElem? (i := 71) rfl)) (hw _ (List.mem_of_getElem? (i := 107) rfl)) (hw _ (List.mem_of_getElem? (i := 106) rfl)) (by decide) pd_19 rfl rfl rfl (nle rfl) (nle rfl) (nle rfl) (nle rfl) (fun _ q => nomatch q) (fun v h68 F' hq szh68 => ?_)
  obtain ⟨rfl, rfl⟩ := hq
  refine WP.aload d0_294 rfl rfl ?_
  refine WP.virtual (a := ls) (argsL := [(.ref s)]) (rest := []) d0_296 (rm_se l Z a0 hw n0 h68 hO zc hcs hzc ls s ts t _ bs (hSs.ext hO.2) D) (hSs.1.ext hO.2) (hw _ (List.mem_of_getElem? (i := 101) rfl)) (hw _ (List.mem_of_getElem? (i := 93) rfl)) (hw _ (List.mem_of_getElem? (i := 94) rfl)) (hw _ (List.mem_of_getElem? (i := 95) rfl)) (hw _ (List.mem_of_getElem? (i := 1) rfl)) (hw _ (List.mem_of_getElem? (i := 96) rfl)) (hw _ (List.mem_of_getElem? (i := 95) rfl)) (by decide) pd_17 rfl rfl rfl (nle rfl) (nle rfl) (nle rfl) (nle rfl) (fun _ q => nomatch q) (fun v h69 F' hq szh69 => ?_)
  obtain ⟨rfl, rfl⟩ := hq
  refine WP.if_ne d0_299 (fun hc299 => ?_) (fun hc299 => False.elim (by rw [if_pos qs.symm] at hc299; exact absurd hc299 (by decide)))
  refine WP.iconst d0_304 (v := (1 : Int32)) rfl ?_
  exact WP.ireturn d0_305 rfl (t := .boolean) (by simp) rfl (by decide) (by decide) (G := []) (fun _ q => nomatch q) rfl
set_option maxRecDepth 65536 in
set_option maxHeartbeats 4000000 in
theorem tail_o (l : Launch) (Z : State) (a0 : Array Value) (hw : ∀ d ∈ tables_1, d.before a0 Z = true) (n0 : Nat) (h : Heap) (hO : Old Z n0 h) (zc : Int32) (hcs : Sta Z Z.heap "java/lang/String" "COMPACT_STRINGS" "Z" (.int zc)) (hzc : zc ≠ 0) (va rb rs lb ls tb ts : Addr) (cv : Cell) (hva : Sta Z Z.heap "com/example/nearbid/nearbid/market/Role" "$VALUES" "[Lcom/example/nearbid/nearbid/market/Role;" (.ref va)) (hvA : Arr Z Z.heap va cv (.object "com/example/nearbid/nearbid/market/Role")) (hvs : cv.slots = [Value.ref rb, .ref rs].toArray) (hvE : Exa Z Z.heap va "[Lcom/example/nearbid/nearbid/market/Role;") (hvF : FitC Z cv) (hlb : Fld Z Z.heap rb "com/example/nearbid/nearbid/market/Role" "label" "Ljava/lang/String;" (.ref lb)) (hls : Fld Z Z.heap rs "com/example/nearbid/nearbid/market/Role" "label" "Ljava/lang/String;" (.ref ls)) (hSb : Str Z Z.heap lb tb [98, 117, 121, 101, 114]) (hSs : Str Z Z.heap ls ts [115, 101, 108, 108, 101, 114]) (hb : Sta Z Z.heap "com/example/nearbid/nearbid/market/Role" "BUYER" "Lcom/example/nearbid/nearbid/market/Role;" (.ref rb)) (hs : Sta Z Z.heap "com/example/nearbid/nearbid/market/Role" "SELLER" "Lcom/example/nearbid/nearbid/market/Role;" (.ref rs)) (hrb : Exa Z Z.heap rb "com/example/nearbid/nearbid/market/Role") (hrs : Exa Z Z.heap rs "com/example/nearbid/nearbid/market/Role") (p0 p1 p2 p3 x4 x6 x7 x8 x10 : Int32) (tt ca : Addr) (s t : Addr) (bs : List Int32) (D : Str Z h s t bs) (qb : ¬ bs = [98, 117, 121, 101, 114]) (qs : ¬ bs = [115, 101, 108, 108, 101, 114]) :
    WP l Z consts_1 n0 room_1 x code maxLocals ret QLaw [] h 12 200 218 #[.val (.int p0), .val (.int p1), .val (.int p2), .val (.int p3), .val (.int x4), .val (.ref tt), .val (.int x6), .val (.int x7), .val (.int x8), .val (.ref ca), .val (.int x10), .val (.ref s), .unset, .unset] [] := by
  have hEL := own_EW hw
  have hn0 : n0 ≤ h.size := hO.1 ▸ hO.2.1
  refine WP.aload d0_218 rfl rfl ?_
  refine WP.static (argsL := [(.ref s)]) (rest := []) d0_220 (rm_ofs l Z a0 hw n0 h hO zc hcs hzc va rb rs lb ls tb ts cv hva hvA hvs hvE hvF hlb hls hSb hSs s t bs D) (hw _ (List.mem_of_getElem? (i := 69) rfl)) (hw _ (List.mem_of_getElem? (i := 70) rfl)) (hw _ (List.mem_of_getElem? (i := 71) rfl)) (hw _ (List.mem_of_getElem? (i := 72) rfl)) (by decide) pd_14 rfl rfl rfl (nle rfl) (nle rfl) (nle rfl) (nle rfl) (fun _ q => nomatch q) (fun v h70 F' hq szh70 => ?_)
  obtain ⟨hv, K⟩ := hq
  rw [if_neg qb, if_neg qs] at hv
  subst hv
  have zK := K.1
  have hO := hO.keep K all0
  have D := D.keep K nin0 nin0
  refine WP.astore d0_223 (Ls' := #[.val (.int p0), .val (.int p1), .val (.int p2), .val (.int p3), .val (.int x4), .val (.ref tt), .val (.int x6), .val (.int x7), .val (.int x8), .val (.ref ca), .val (.int x10), .val (.ref s), .val .null, .unset]) rfl rfl ?_
  refine WP.aload d0_225 rfl rfl ?_
  refine WP.ifnonnull d0_227 rfl (fun _ _ => ?_) (fun q => nomatch q)
  refine WP.aload d0_236 rfl rfl ?_
  refine WP.ldcS (n := 20) (bs := [98, 117, 121, 101, 114]) d0_238 hEL (by simp [consts_1, x]) (hw _ (List.mem_of_getElem? (i := 0) rfl)) (own_wS hw) ⟨by decide, by decide⟩ (by decide) (by decide) (by decide) (by decide) (by decide) (fun h71 s72 t73 Eh71 Xs72 Cs72 Vs72 Bs72 => ?_)
  have hO := hO.ext Eh71
  have D := D.ext Eh71
  have zEh71 := Eh71.1
  have Ls72 : Str Z h71 s72 t73 [98, 117, 121, 101, 114] := ⟨Xs72, Cs72, Vs72, Bs72⟩
  have lts72 := nlt Ls72.ltT
  have las72 := nlt Ls72.lt
  refine WP.virtual (a := s) (argsL := [(.ref s72)]) (rest := []) d0_240 (rm_se l Z a0 hw n0 h71 hO zc hcs hzc s s72 t t73 bs _ D Ls72) D.1 (hw _ (List.mem_of_getElem? (i := 101) rfl)) (hw _ (List.mem_of_getElem? (i := 93) rfl)) (hw _ (List.mem_of_getElem? (i := 94) rfl)) (hw _ (List.mem_of_getElem? (i := 95) rfl)) (hw _ (List.mem_of_getElem? (i := 1) rfl)) (hw _ (List.mem_of_getElem? (i := 96) rfl)) (hw _ (List.mem_of_getElem? (i := 95) rfl)) (by decide) pd_17 rfl rfl rfl (nle rfl) (nle rfl) (nle rfl) (nle rfl) (fun _ q => nomatch q) (fun v h74 F' hq szh74 => ?_)
  obtain ⟨rfl, rfl⟩ := hq
  refine WP.if_eq d0_243 (fun hc243 => ?_) (fun hc243 => False.elim (hc243 (by rw [if_neg qb])))
  refine WP.aload d0_254 rfl rfl ?_
  refine WP.ldcS (n := 24) (bs := [115, 101, 108, 108, 101, 114]) d0_256 hEL (by simp [consts_1, x]) (hw _ (List.mem_of_getElem? (i := 108) rfl)) (own_wS hw) ⟨by decide, by decide⟩ (by decide) (by decide) (by decide) (by decide) (by decide) (fun h75 s76 t77 Eh75 Xs76 Cs76 Vs76 Bs76 => ?_)
  have hO := hO.ext Eh75
  have D := D.ext Eh75
  have Ls72 := Ls72.ext Eh75
  have zEh75 := Eh75.1
  have Ls76 : Str Z h75 s76 t77 [115, 101, 108, 108, 101, 114] := ⟨Xs76, Cs76, Vs76, Bs76⟩
  have lts76 := nlt Ls76.ltT
  have las76 := nlt Ls76.lt
  refine WP.virtual (a := s) (argsL := [(.ref s76)]) (rest := []) d0_258 (rm_se l Z a0 hw n0 h75 hO zc hcs hzc s s76 t t77 bs _ D Ls76) D.1 (hw _ (List.mem_of_getElem? (i := 101) rfl)) (hw _ (List.mem_of_getElem? (i := 93) rfl)) (hw _ (List.mem_of_getElem? (i := 94) rfl)) (hw _ (List.mem_of_getElem? (i := 95) rfl)) (hw _ (List.mem_of_getElem? (i := 1) rfl)) (hw _ (List.mem_of_getElem? (i := 96) rfl)) (hw _ (List.mem_of_getElem? (i := 95) rfl)) (by decide) pd_17 rfl rfl rfl (nle rfl) (nle rfl) (nle rfl) (nle rfl) (fun _ q => nomatch q) (fun v h78 F' hq szh78 => ?_)
  obtain ⟨rfl, rfl⟩ := hq
  refine WP.if_eq d0_261 (fun hc261 => ?_) (fun hc261 => False.elim (hc261 (by rw [if_neg qs])))
  refine WP.aconst_null d0_272 ?_
  refine WP.astore d0_273 (Ls' := #[.val (.int p0), .val (.int p1), .val (.int p2), .val (.int p3), .val (.int x4), .val (.ref tt), .val (.int x6), .val (.int x7), .val (.int x8), .val (.ref ca), .val (.int x10), .val (.ref s), .val .null, .val .null]) rfl rfl ?_
  refine WP.aload d0_275 rfl rfl ?_
  refine WP.aload d0_277 rfl rfl ?_
  refine WP.acmp_eq d0_279 rfl rfl (fun hc279 => ?_) (fun hc279 => False.elim (hc279 rfl))
  refine WP.aload d0_284 rfl rfl ?_
  refine WP.ifnull d0_286 rfl (fun _ => ?_) (fun a q => nomatch q)
  refine WP.iconst d0_304 (v := (1 : Int32)) rfl ?_
  exact WP.ireturn d0_305 rfl (t := .boolean) (by simp) rfl (by decide) (by decide) (G := []) (fun _ q => nomatch q) rfl
set_option maxRecDepth 65536 in
set_option maxHeartbeats 4000000 in
theorem tail_193 (l : Launch) (Z : State) (a0 : Array Value) (hw : ∀ d ∈ tables_1, d.before a0 Z = true) (n0 : Nat) (h : Heap) (hO : Old Z n0 h) (zc : Int32) (hcs : Sta Z Z.heap "java/lang/String" "COMPACT_STRINGS" "Z" (.int zc)) (hzc : zc ≠ 0) (va rb rs lb ls tb ts : Addr) (cv : Cell) (hva : Sta Z Z.heap "com/example/nearbid/nearbid/market/Role" "$VALUES" "[Lcom/example/nearbid/nearbid/market/Role;" (.ref va)) (hvA : Arr Z Z.heap va cv (.object "com/example/nearbid/nearbid/market/Role")) (hvs : cv.slots = [Value.ref rb, .ref rs].toArray) (hvE : Exa Z Z.heap va "[Lcom/example/nearbid/nearbid/market/Role;") (hvF : FitC Z cv) (hlb : Fld Z Z.heap rb "com/example/nearbid/nearbid/market/Role" "label" "Ljava/lang/String;" (.ref lb)) (hls : Fld Z Z.heap rs "com/example/nearbid/nearbid/market/Role" "label" "Ljava/lang/String;" (.ref ls)) (hSb : Str Z Z.heap lb tb [98, 117, 121, 101, 114]) (hSs : Str Z Z.heap ls ts [115, 101, 108, 108, 101, 114]) (hb : Sta Z Z.heap "com/example/nearbid/nearbid/market/Role" "BUYER" "Lcom/example/nearbid/nearbid/market/Role;" (.ref rb)) (hs : Sta Z Z.heap "com/example/nearbid/nearbid/market/Role" "SELLER" "Lcom/example/nearbid/nearbid/market/Role;" (.ref rs)) (hrb : Exa Z Z.heap rb "com/example/nearbid/nearbid/market/Role") (hrs : Exa Z Z.heap rs "com/example/nearbid/nearbid/market/Role") (p0 p1 p2 p3 x4 x6 x7 x8 x10 : Int32) (tt ca : Addr) (cs : List Int32) (A : IA Z h ca .char cs) (hl : cs.length ≤ 7) (hlat : Lat cs) :
    WP l Z consts_1 n0 room_1 x code maxLocals ret QLaw [] h 3 40 193 #[.val (.int p0), .val (.int p1), .val (.int p2), .val (.int p3), .val (.int x4), .val (.ref tt), .val (.int x6), .val (.int x7), .val (.int x8), .val (.ref ca), .val (.int x10), .unset, .unset, .unset] [] := by
  have hEL := own_EW hw
  have hn0 : n0 ≤ h.size := hO.1 ▸ hO.2.1
  have la := nlt A.lt
  refine WP.new d0_193 (hw _ (List.mem_of_getElem? (i := 48) rfl)) (hw _ (List.mem_of_getElem? (i := 2) rfl)) (hw _ (List.mem_of_getElem? (i := 1) rfl)) (nle rfl) (nle rfl) (fun h79 nb gnb Enb Anb Dnb Unb => ?_)
  have hO := hO.ext Enb
  have A := A.ext Enb
  have lnb := nlt Anb.lt
  have znb := Enb.1
  have Vnb := Dnb (Or.inr (hw _ (List.mem_of_getElem? (i := 4) rfl))) (ty := .array .byte) (by decide)
  have Wnb := Dnb (Or.inr (hw _ (List.mem_of_getElem? (i := 5) rfl))) (ty := .byte) (by decide)
  refine WP.dup d0_196 rfl ?_
  refine WP.aload d0_197 rfl rfl ?_
  refine WP.special (a := nb) (argsL := [(.ref ca)]) (rest := [(.ref nb)]) d0_199 (rm_i1 l Z a0 hw n0 h79 hO zc hcs hzc nb ca cs Anb Vnb Wnb A hl hlat (nea (by omega)) (by omega)) rfl (hw _ (List.mem_of_getElem? (i := 49) rfl)) (hw _ (List.mem_of_getElem? (i := 50) rfl)) (hw _ (List.mem_of_getElem? (i := 1) rfl)) (hw _ (List.mem_of_getElem? (i := 51) rfl)) (by decide) pd_8 rfl rfl rfl (nle rfl) (nle rfl) (nle rfl) (nle rfl) (allS (SafeBy.mem Anb.lt (by simp)) all0) (fun v h80 F' hq szh80 => ?_)
  obtain ⟨rfl, Kb, t, Sb⟩ := hq
  have zzb := Kb.1
  have hO := hO.keep Kb (allS (by omega) all0)
  have A := A.keep Kb (ninS (nea (by omega)) nin0)
  have Anb := Anb.keep Kb
  refine WP.astore d0_202 (Ls' := #[.val (.int p0), .val (.int p1), .val (.int p2), .val (.int p3), .val (.int x4), .val (.ref tt), .val (.int x6), .val (.int x7), .val (.int x8), .val (.ref ca), .val (.int x10), .val (.ref nb), .unset, .unset]) rfl rfl ?_
  refine WP.iload_n d0_204 rfl ?_
  refine WP.iconst d0_205 (v := (4 : Int32)) rfl ?_
  refine WP.iushr d0_206 ?_
  refine WP.bipush d0_207 (v := (7 : Int32)) rfl ?_
  refine WP.iand d0_209 ?_
  refine WP.bipush d0_210 (v := (7 : Int32)) rfl ?_
  refine WP.icmp_ne d0_212 (fun hc212 => ?_) (fun hc212 => ?_)
  · refine WP.more (cells' := 12) (slots' := 200) (by decide) (by decide) (WP.less (F' := []) (fun _ q => nomatch q) ?_)
    by_cases qb : cs.map lo8 = [98, 117, 121, 101, 114]
    · exact tail_b l Z a0 hw n0 h80 hO zc hcs hzc va rb rs lb ls tb ts cv hva hvA hvs hvE hvF hlb hls hSb hSs hb hs hrb hrs p0 p1 p2 p3 x4 x6 x7 x8 x10 tt ca nb t _ Sb qb
    by_cases qs : cs.map lo8 = [115, 101, 108, 108, 101, 114]
    · exact tail_s l Z a0 hw n0 h80 hO zc hcs hzc va rb rs lb ls tb ts cv hva hvA hvs hvE hvF hlb hls hSb hSs hb hs hrb hrs p0 p1 p2 p3 x4 x6 x7 x8 x10 tt ca nb t _ Sb qb qs
    exact tail_o l Z a0 hw n0 h80 hO zc hcs hzc va rb rs lb ls tb ts cv hva hvA hvs hvE hvF hlb hls hSb hSs hb hs hrb hrs p0 p1 p2 p3 x4 x6 x7 x8 x10 tt ca nb t _ Sb qb qs
  · refine WP.aconst_null d0_215 ?_
    refine WP.astore d0_216 (Ls' := #[.val (.int p0), .val (.int p1), .val (.int p2), .val (.int p3), .val (.int x4), .val (.ref tt), .val (.int x6), .val (.int x7), .val (.int x8), .val (.ref ca), .val (.int x10), .val .null, .unset, .unset]) rfl rfl ?_
    refine WP.more (cells' := 12) (slots' := 200) (by decide) (by decide) (WP.less (F' := []) (fun _ q => nomatch q) ?_)
    exact tail_n l Z a0 hw n0 h80 hO zc hcs hzc va rb rs lb ls tb ts cv hva hvA hvs hvE hvF hlb hls hSb hSs hb hs hrb hrs p0 p1 p2 p3 x4 x6 x7 x8 x10 tt ca
theorem own_b7 (q : Int32) : 0 ≤ (q &&& 7).toInt ∧ (q &&& 7).toInt ≤ 7 := c_and q 7 (by decide)
set_option maxRecDepth 65536 in
set_option maxHeartbeats 4000000 in
theorem tail_92 (l : Launch) (Z : State) (a0 : Array Value) (hw : ∀ d ∈ tables_1, d.before a0 Z = true) (n0 : Nat) (h : Heap) (hO : Old Z n0 h) (zc : Int32) (hcs : Sta Z Z.heap "java/lang/String" "COMPACT_STRINGS" "Z" (.int zc)) (hzc : zc ≠ 0) (va rb rs lb ls tb ts : Addr) (cv : Cell) (hva : Sta Z Z.heap "com/example/nearbid/nearbid/market/Role" "$VALUES" "[Lcom/example/nearbid/nearbid/market/Role;" (.ref va)) (hvA : Arr Z Z.heap va cv (.object "com/example/nearbid/nearbid/market/Role")) (hvs : cv.slots = [Value.ref rb, .ref rs].toArray) (hvE : Exa Z Z.heap va "[Lcom/example/nearbid/nearbid/market/Role;") (hvF : FitC Z cv) (hlb : Fld Z Z.heap rb "com/example/nearbid/nearbid/market/Role" "label" "Ljava/lang/String;" (.ref lb)) (hls : Fld Z Z.heap rs "com/example/nearbid/nearbid/market/Role" "label" "Ljava/lang/String;" (.ref ls)) (hSb : Str Z Z.heap lb tb [98, 117, 121, 101, 114]) (hSs : Str Z Z.heap ls ts [115, 101, 108, 108, 101, 114]) (hb : Sta Z Z.heap "com/example/nearbid/nearbid/market/Role" "BUYER" "Lcom/example/nearbid/nearbid/market/Role;" (.ref rb)) (hs : Sta Z Z.heap "com/example/nearbid/nearbid/market/Role" "SELLER" "Lcom/example/nearbid/nearbid/market/Role;" (.ref rs)) (hrb : Exa Z Z.heap rb "com/example/nearbid/nearbid/market/Role") (hrs : Exa Z Z.heap rs "com/example/nearbid/nearbid/market/Role") (fm : Value) (hfm : Sta Z Z.heap "jdk/internal/util/Preconditions" "SIOOBE_FORMATTER" "Ljava/util/function/BiFunction;" fm) (hfr : fm.isRef = true) (p0 p1 p2 p3 x4 x6 x7 x8 : Int32) (tt tu : Addr) (bs : List Int32) (D : Str Z h tt tu bs) (n : Nat) (hn : Ix x8 n) (hn7 : n ≤ 7) :
    WP l Z consts_1 n0 room_1 x code maxLocals ret QLaw [] h 2 28 92 #[.val (.int p0), .val (.int p1), .val (.int p2), .val (.int p3), .val (.int x4), .val (.ref tt), .val (.int x6), .val (.int x7), .val (.int x8), .unset, .unset, .unset, .unset, .unset] [] := by
  have hEL := own_EW hw
  have hn0 : n0 ≤ h.size := hO.1 ▸ hO.2.1
  have lD := nlt D.lt
  have lDt := nlt D.ltT
  have L0 : Lat (List.replicate n 0) := fun c hc => by rw [List.eq_of_mem_replicate hc]; decide
  have l0 : (List.replicate n (0 : Int32)).length = n := by simp
  have ex8 : x8.toInt = n := hn
  refine WP.iload d0_92 rfl ?_
  refine WP.newarray d0_94 (hw _ (List.mem_of_getElem? (i := 21) rfl)) rfl (i := n) (cap := 7) hn hn7 (nle rfl) (nle rfl) (nle rfl) (fun h81 ca gca Eca Aca => ?_)
  have hO := hO.ext Eca
  have D := D.ext Eca
  have lca := nlt Aca.lt
  have zca := Eca.1
  refine WP.astore d0_96 (Ls' := #[.val (.int p0), .val (.int p1), .val (.int p2), .val (.int p3), .val (.int x4), .val (.ref tt), .val (.int x6), .val (.int x7), .val (.int x8), .val (.ref ca), .unset, .unset, .unset, .unset]) rfl rfl ?_
  refine WP.aload d0_98 rfl rfl ?_
  refine WP.iconst d0_100 (v := (0 : Int32)) rfl ?_
  refine WP.aload d0_101 rfl rfl ?_
  refine WP.iload_n d0_103 rfl ?_
  refine WP.static (argsL := [(.ref ca), (.int (0 : Int32)), (.ref tt), (.int p3)]) (rest := []) d0_104 (rm_put l Z a0 hw n0 h81 hO zc hcs hzc fm hfm hfr ca tt tu (0 : Int32) p3 0 (List.replicate n 0) _ Aca D rfl L0 (by omega)) (hw _ (List.mem_of_getElem? (i := 22) rfl)) (hw _ (List.mem_of_getElem? (i := 23) rfl)) (hw _ (List.mem_of_getElem? (i := 24) rfl)) (hw _ (List.mem_of_getElem? (i := 25) rfl)) (by decide) pd_2 rfl rfl rfl (nle rfl) (nle rfl) (nle rfl) (nle rfl) (fun _ q => nomatch q) (fun v h82 F' hq szh82 => ?_)
  obtain ⟨rfl, Kp0, c0, A0, lp0, L1⟩ := hq
  have zp0 := Kp0.1
  have hO := hO.keep Kp0 (allS (by omega) all0)
  have D := D.keep Kp0 (ninS (nea (by omega)) nin0) (ninS (nea (by omega)) nin0)
  rw [l0] at lp0
  refine WP.aload d0_107 rfl rfl ?_
  refine WP.iconst d0_109 (v := (1 : Int32)) rfl ?_
  refine WP.aload d0_110 rfl rfl ?_
  refine WP.iload_n d0_112 rfl ?_
  refine WP.static (argsL := [(.ref ca), (.int (1 : Int32)), (.ref tt), (.int p3)]) (rest := []) d0_113 (rm_put l Z a0 hw n0 h82 hO zc hcs hzc fm hfm hfr ca tt tu (1 : Int32) p3 1 c0 _ A0 D rfl L1 (by omega)) (hw _ (List.mem_of_getElem? (i := 22) rfl)) (hw _ (List.mem_of_getElem? (i := 23) rfl)) (hw _ (List.mem_of_getElem? (i := 24) rfl)) (hw _ (List.mem_of_getElem? (i := 25) rfl)) (by decide) pd_2 rfl rfl rfl (nle rfl) (nle rfl) (nle rfl) (nle rfl) (fun _ q => nomatch q) (fun v h83 F' hq szh83 => ?_)
  obtain ⟨rfl, Kp1, c1, A1, lp1, L2⟩ := hq
  have zp1 := Kp1.1
  have hO := hO.keep Kp1 (allS (by omega) all0)
  have D := D.keep Kp1 (ninS (nea (by omega)) nin0) (ninS (nea (by omega)) nin0)
  rw [lp0] at lp1
  refine WP.aload d0_116 rfl rfl ?_
  refine WP.iconst d0_118 (v := (2 : Int32)) rfl ?_
  refine WP.aload d0_119 rfl rfl ?_
  refine WP.iload_n d0_121 rfl ?_
  refine WP.static (argsL := [(.ref ca), (.int (2 : Int32)), (.ref tt), (.int p3)]) (rest := []) d0_122 (rm_put l Z a0 hw n0 h83 hO zc hcs hzc fm hfm hfr ca tt tu (2 : Int32) p3 2 c1 _ A1 D rfl L2 (by omega)) (hw _ (List.mem_of_getElem? (i := 22) rfl)) (hw _ (List.mem_of_getElem? (i := 23) rfl)) (hw _ (List.mem_of_getElem? (i := 24) rfl)) (hw _ (List.mem_of_getElem? (i := 25) rfl)) (by decide) pd_2 rfl rfl rfl (nle rfl) (nle rfl) (nle rfl) (nle rfl) (fun _ q => nomatch q) (fun v h84 F' hq szh84 => ?_)
  obtain ⟨rfl, Kp2, c2, A2, lp2, L3⟩ := hq
  have zp2 := Kp2.1
  have hO := hO.keep Kp2 (allS (by omega) all0)
  have D := D.keep Kp2 (ninS (nea (by omega)) nin0) (ninS (nea (by omega)) nin0)
  rw [lp1] at lp2
  refine WP.aload d0_125 rfl rfl ?_
  refine WP.iconst d0_127 (v := (3 : Int32)) rfl ?_
  refine WP.aload d0_128 rfl rfl ?_
  refine WP.iload_n d0_130 rfl ?_
  refine WP.static (argsL := [(.ref ca), (.int (3 : Int32)), (.ref tt), (.int p3)]) (rest := []) d0_131 (rm_put l Z a0 hw n0 h84 hO zc hcs hzc fm hfm hfr ca tt tu (3 : Int32) p3 3 c2 _ A2 D rfl L3 (by omega)) (hw _ (List.mem_of_getElem? (i := 22) rfl)) (hw _ (List.mem_of_getElem? (i := 23) rfl)) (hw _ (List.mem_of_getElem? (i := 24) rfl)) (hw _ (List.mem_of_getElem? (i := 25) rfl)) (by decide) pd_2 rfl rfl rfl (nle rfl) (nle rfl) (nle rfl) (nle rfl) (fun _ q => nomatch q) (fun v h85 F' hq szh85 => ?_)
  obtain ⟨rfl, Kp3, c3, A3, lp3, L4⟩ := hq
  have zp3 := Kp3.1
  have hO := hO.keep Kp3 (allS (by omega) all0)
  have D := D.keep Kp3 (ninS (nea (by omega)) nin0) (ninS (nea (by omega)) nin0)
  rw [lp2] at lp3
  refine WP.aload d0_134 rfl rfl ?_
  refine WP.iconst d0_136 (v := (4 : Int32)) rfl ?_
  refine WP.aload d0_137 rfl rfl ?_
  refine WP.iload_n d0_139 rfl ?_
  refine WP.static (argsL := [(.ref ca), (.int (4 : Int32)), (.ref tt), (.int p3)]) (rest := []) d0_140 (rm_put l Z a0 hw n0 h85 hO zc hcs hzc fm hfm hfr ca tt tu (4 : Int32) p3 4 c3 _ A3 D rfl L4 (by omega)) (hw _ (List.mem_of_getElem? (i := 22) rfl)) (hw _ (List.mem_of_getElem? (i := 23) rfl)) (hw _ (List.mem_of_getElem? (i := 24) rfl)) (hw _ (List.mem_of_getElem? (i := 25) rfl)) (by decide) pd_2 rfl rfl rfl (nle rfl) (nle rfl) (nle rfl) (nle rfl) (fun _ q => nomatch q) (fun v h86 F' hq szh86 => ?_)
  obtain ⟨rfl, Kp4, c4, A4, lp4, L5⟩ := hq
  have zp4 := Kp4.1
  have hO := hO.keep Kp4 (allS (by omega) all0)
  have D := D.keep Kp4 (ninS (nea (by omega)) nin0) (ninS (nea (by omega)) nin0)
  rw [lp3] at lp4
  refine WP.aload d0_143 rfl rfl ?_
  refine WP.iconst d0_145 (v := (5 : Int32)) rfl ?_
  refine WP.aload d0_146 rfl rfl ?_
  refine WP.iload_n d0_148 rfl ?_
  refine WP.static (argsL := [(.ref ca), (.int (5 : Int32)), (.ref tt), (.int p3)]) (rest := []) d0_149 (rm_put l Z a0 hw n0 h86 hO zc hcs hzc fm hfm hfr ca tt tu (5 : Int32) p3 5 c4 _ A4 D rfl L5 (by omega)) (hw _ (List.mem_of_getElem? (i := 22) rfl)) (hw _ (List.mem_of_getElem? (i := 23) rfl)) (hw _ (List.mem_of_getElem? (i := 24) rfl)) (hw _ (List.mem_of_getElem? (i := 25) rfl)) (by decide) pd_2 rfl rfl rfl (nle rfl) (nle rfl) (nle rfl) (nle rfl) (fun _ q => nomatch q) (fun v h87 F' hq szh87 => ?_)
  obtain ⟨rfl, Kp5, c5, A5, lp5, L6⟩ := hq
  have zp5 := Kp5.1
  have hO := hO.keep Kp5 (allS (by omega) all0)
  have D := D.keep Kp5 (ninS (nea (by omega)) nin0) (ninS (nea (by omega)) nin0)
  rw [lp4] at lp5
  refine WP.aload d0_152 rfl rfl ?_
  refine WP.bipush d0_154 (v := (6 : Int32)) rfl ?_
  refine WP.aload d0_156 rfl rfl ?_
  refine WP.iload_n d0_158 rfl ?_
  refine WP.static (argsL := [(.ref ca), (.int (6 : Int32)), (.ref tt), (.int p3)]) (rest := []) d0_159 (rm_put l Z a0 hw n0 h87 hO zc hcs hzc fm hfm hfr ca tt tu (6 : Int32) p3 6 c5 _ A5 D rfl L6 (by omega)) (hw _ (List.mem_of_getElem? (i := 22) rfl)) (hw _ (List.mem_of_getElem? (i := 23) rfl)) (hw _ (List.mem_of_getElem? (i := 24) rfl)) (hw _ (List.mem_of_getElem? (i := 25) rfl)) (by decide) pd_2 rfl rfl rfl (nle rfl) (nle rfl) (nle rfl) (nle rfl) (fun _ q => nomatch q) (fun v h88 F' hq szh88 => ?_)
  obtain ⟨rfl, Kp6, c6, A6, lp6, L7⟩ := hq
  have zp6 := Kp6.1
  have hO := hO.keep Kp6 (allS (by omega) all0)
  have D := D.keep Kp6 (ninS (nea (by omega)) nin0) (ninS (nea (by omega)) nin0)
  rw [lp5] at lp6
  refine WP.iload_n d0_162 rfl ?_
  refine WP.bipush d0_163 (v := (7 : Int32)) rfl ?_
  refine WP.iand d0_165 ?_
  obtain ⟨x89, ex89⟩ : ∃ z : Int32, (p1 &&& (7 : Int32)) = z := ⟨_, rfl⟩
  refine WP.istore d0_166 ex89 (Ls' := #[.val (.int p0), .val (.int p1), .val (.int p2), .val (.int p3), .val (.int x4), .val (.ref tt), .val (.int x6), .val (.int x7), .val (.int x8), .val (.ref ca), .val (.int x89), .unset, .unset, .unset]) rfl ?_
  refine WP.iload_n d0_168 rfl ?_
  refine WP.bipush d0_169 (v := (8 : Int32)) rfl ?_
  refine WP.iand d0_171 ?_
  refine WP.if_eq d0_172 (fun hc172 => ?_) (fun hc172 => ?_)
  · rw [← Int32.toInt_inj] at hc172
    refine WP.more (cells' := 3) (slots' := 40) (by decide) (by decide) (WP.less (F' := []) (fun _ q => nomatch q) ?_)
    exact tail_193 l Z a0 hw n0 h88 hO zc hcs hzc va rb rs lb ls tb ts cv hva hvA hvs hvE hvF hlb hls hSb hSs hb hs hrb hrs p0 p1 p2 p3 x4 x6 x7 x8 x89 tt ca c6 A6 (by omega) L7
  · rw [← Int32.toInt_inj] at hc172
    refine WP.iload d0_175 rfl ?_
    refine WP.iload d0_177 rfl ?_
    refine WP.icmp_ge d0_179 (fun hc179 => ?_) (fun hc179 => ?_)
    · rw [Int32.lt_iff_toInt_lt] at hc179
      refine WP.more (cells' := 3) (slots' := 40) (by decide) (by decide) (WP.less (F' := []) (fun _ q => nomatch q) ?_)
      exact tail_193 l Z a0 hw n0 h88 hO zc hcs hzc va rb rs lb ls tb ts cv hva hvA hvs hvE hvF hlb hls hSb hSs hb hs hrb hrs p0 p1 p2 p3 x4 x6 x7 x8 x89 tt ca c6 A6 (by omega) L7
    · rw [Int32.lt_iff_toInt_lt] at hc179
      refine WP.aload d0_182 rfl rfl ?_
      refine WP.iload d0_184 rfl ?_
      refine WP.iload_n d0_186 rfl ?_
      refine WP.sipush d0_187 (v := (255 : Int32)) rfl ?_
      refine WP.iand d0_190 ?_
      refine WP.i2c d0_191 ?_
      have b10 := own_b7 p1
      rw [ex89] at b10
      obtain ⟨m, hm⟩ : ∃ m : Nat, Ix x89 m := ⟨x89.toInt.toNat, by unfold Ix; omega⟩
      have hm2 : x89.toInt = m := hm
      refine WP.castore d0_192 A6 hm (by omega) (by omega) (fun h90 W91 => ?_)
      rw [B8.nar (B8.and p2).i2c] at W91
      have zW91 := W91.size
      have hO := hO.wr W91 (by omega)
      have D := D.other W91 (nea (by omega)) (nea (by omega))
      have A6 := A6.set W91
      have L7 := own_latset (i := m) L7 (B8.and p2).i2c
      refine WP.more (cells' := 3) (slots' := 40) (by decide) (by decide) (WP.less (F' := []) (fun _ q => nomatch q) ?_)
      exact tail_193 l Z a0 hw n0 h90 hO zc hcs hzc va rb rs lb ls tb ts cv hva hvA hvs hvE hvF hlb hls hSb hSs hb hs hrb hrs p0 p1 p2 p3 x4 x6 x7 x8 x89 tt ca _ A6 (by simp; omega) L7
set_option maxRecDepth 65536 in
set_option maxHeartbeats 4000000 in
theorem rm_law (l : Launch) (Z : State) (a0 : Array Value) (hw : ∀ d ∈ tables_1, d.before a0 Z = true) (n0 : Nat) (h0 : Heap) (hO : Old Z n0 h0) (ws : List Jvm.Cond) (zc : Int32) (hcs : Sta Z Z.heap "java/lang/String" "COMPACT_STRINGS" "Z" (.int zc)) (hzc : zc ≠ 0) (va rb rs lb ls tb ts : Addr) (cv : Cell) (hva : Sta Z Z.heap "com/example/nearbid/nearbid/market/Role" "$VALUES" "[Lcom/example/nearbid/nearbid/market/Role;" (.ref va)) (hvA : Arr Z Z.heap va cv (.object "com/example/nearbid/nearbid/market/Role")) (hvs : cv.slots = [Value.ref rb, .ref rs].toArray) (hvE : Exa Z Z.heap va "[Lcom/example/nearbid/nearbid/market/Role;") (hvF : FitC Z cv) (hlb : Fld Z Z.heap rb "com/example/nearbid/nearbid/market/Role" "label" "Ljava/lang/String;" (.ref lb)) (hls : Fld Z Z.heap rs "com/example/nearbid/nearbid/market/Role" "label" "Ljava/lang/String;" (.ref ls)) (hSb : Str Z Z.heap lb tb [98, 117, 121, 101, 114]) (hSs : Str Z Z.heap ls ts [115, 101, 108, 108, 101, 114]) (hb : Sta Z Z.heap "com/example/nearbid/nearbid/market/Role" "BUYER" "Lcom/example/nearbid/nearbid/market/Role;" (.ref rb)) (hs : Sta Z Z.heap "com/example/nearbid/nearbid/market/Role" "SELLER" "Lcom/example/nearbid/nearbid/market/Role;" (.ref rs)) (hrb : Exa Z Z.heap rb "com/example/nearbid/nearbid/market/Role") (hrs : Exa Z Z.heap rs "com/example/nearbid/nearbid/market/Role") (fm : Value) (hfm : Sta Z Z.heap "jdk/internal/util/Preconditions" "SIOOBE_FORMATTER" "Ljava/util/function/BiFunction;" fm) (hfr : fm.isRef = true) (p0 p1 p2 p3 : Int32) :
    Met l Z consts_1 n0 ws x code maxLocals ret room_1 #[.int p0, .int p1, .int p2, .int p3] [] h0 QLaw := by
  have hEL := own_EW hw
  have hn0 : n0 ≤ h0.size := hO.1 ▸ hO.2.1
  refine Met.of (by decide +kernel) hEL hO (Ls := #[.val (.int p0), .val (.int p1), .val (.int p2), .val (.int p3), .unset, .unset, .unset, .unset, .unset, .unset, .unset, .unset, .unset, .unset]) (fun m => by first | (simp [entryFrame, mkF, argsToLocals, Value.category, maxLocals]; done) | rfl) ?_
  refine WP.iload_n d0_0 rfl ?_
  refine WP.iconst d0_1 (v := (1 : Int32)) rfl ?_
  refine WP.iand d0_2 ?_
  refine WP.if_eq d0_3 (fun hc3 => ?_) (fun hc3 => ?_)
  · refine WP.iconst d0_10 (v := (0 : Int32)) rfl ?_
    refine WP.istore d0_11 rfl (Ls' := #[.val (.int p0), .val (.int p1), .val (.int p2), .val (.int p3), .val (.int (0 : Int32)), .unset, .unset, .unset, .unset, .unset, .unset, .unset, .unset, .unset]) rfl ?_
    refine WP.iload d0_13 rfl ?_
    refine WP.if_eq d0_15 (fun _ => ?_) (fun hc => absurd rfl hc)
    refine WP.ldcS (n := 20) (bs := [98, 117, 121, 101, 114]) d0_23 hEL (by simp [consts_1, x]) (hw _ (List.mem_of_getElem? (i := 0) rfl)) (own_wS hw) ⟨by decide, by decide⟩ (by decide) (by decide) (by decide) (by decide) (by decide) (fun h92 s93 t94 Eh92 Xs93 Cs93 Vs93 Bs93 => ?_)
    have hO := hO.ext Eh92
    have zEh92 := Eh92.1
    have Ls93 : Str Z h92 s93 t94 [98, 117, 121, 101, 114] := ⟨Xs93, Cs93, Vs93, Bs93⟩
    have lts93 := nlt Ls93.ltT
    have las93 := nlt Ls93.lt
    refine WP.astore d0_25 (Ls' := #[.val (.int p0), .val (.int p1), .val (.int p2), .val (.int p3), .val (.int (0 : Int32)), .val (.ref s93), .unset, .unset, .unset, .unset, .unset, .unset, .unset, .unset]) rfl rfl ?_
    refine WP.aload d0_27 rfl rfl ?_
    refine WP.virtual (a := s93) (argsL := []) (rest := []) d0_29 (rm_len l Z a0 hw n0 h92 hO zc hcs hzc s93 t94 _ Ls93) Ls93.1 (hw _ (List.mem_of_getElem? (i := 8) rfl)) (hw _ (List.mem_of_getElem? (i := 9) rfl)) (hw _ (List.mem_of_getElem? (i := 10) rfl)) (hw _ (List.mem_of_getElem? (i := 11) rfl)) (hw _ (List.mem_of_getElem? (i := 1) rfl)) (hw _ (List.mem_of_getElem? (i := 12) rfl)) (hw _ (List.mem_of_getElem? (i := 11) rfl)) (by decide) pd_0 rfl rfl rfl (nle rfl) (nle rfl) (nle rfl) (nle rfl) (fun _ q => nomatch q) (fun v h95 F' hq szh95 => ?_)
    obtain ⟨rfl, rfl⟩ := hq
    obtain ⟨x96, ex96⟩ : ∃ z : Int32, (Int32.ofNat 5) = z := ⟨_, rfl⟩
    refine WP.istore d0_32 ex96 (Ls' := #[.val (.int p0), .val (.int p1), .val (.int p2), .val (.int p3), .val (.int (0 : Int32)), .val (.ref s93), .val (.int x96), .unset, .unset, .unset, .unset, .unset, .unset, .unset]) rfl ?_
    have q6 : x96.toInt = 5 := by subst ex96; rfl
    have k1 : (1 : Int32).toInt = 1 := rfl
    refine WP.iload_n d0_34 rfl ?_
    refine WP.iconst d0_35 (v := (1 : Int32)) rfl ?_
    refine WP.iushr d0_36 ?_
    refine WP.iconst d0_37 (v := (3 : Int32)) rfl ?_
    refine WP.iand d0_38 ?_
    obtain ⟨x97, ex97⟩ : ∃ z : Int32, (((p0.toUInt32 >>> ((1 : Int32) &&& 31).toUInt32).toInt32) &&& (3 : Int32)) = z := ⟨_, rfl⟩
    refine WP.istore d0_39 ex97 (Ls' := #[.val (.int p0), .val (.int p1), .val (.int p2), .val (.int p3), .val (.int (0 : Int32)), .val (.ref s93), .val (.int x96), .val (.int x97), .unset, .unset, .unset, .unset, .unset, .unset]) rfl ?_
    refine WP.iload d0_41 rfl ?_
    refine WP.iconst d0_43 (v := (1 : Int32)) rfl ?_
    refine WP.icmp_ne d0_44 (fun hc44 => ?_) (fun hc44 => ?_)
    · refine WP.iload d0_56 rfl ?_
      refine WP.iconst d0_58 (v := (2 : Int32)) rfl ?_
      refine WP.icmp_ne d0_59 (fun hc59 => ?_) (fun hc59 => ?_)
      · refine WP.iload d0_71 rfl ?_
        refine WP.iconst d0_73 (v := (3 : Int32)) rfl ?_
        refine WP.icmp_ne d0_74 (fun hc74 => ?_) (fun hc74 => ?_)
        · refine WP.iload d0_88 rfl ?_
          refine WP.istore d0_90 rfl (Ls' := #[.val (.int p0), .val (.int p1), .val (.int p2), .val (.int p3), .val (.int (0 : Int32)), .val (.ref s93), .val (.int x96), .val (.int x97), .val (.int x96), .unset, .unset, .unset, .unset, .unset]) rfl ?_
          have q8 : Ix x96 5 := q6
          refine WP.more (cells' := 2) (slots' := 28) (by decide) (by decide) (WP.less (F' := []) (fun _ q => nomatch q) ?_)
          exact tail_92 l Z a0 hw n0 h95 hO zc hcs hzc va rb rs lb ls tb ts cv hva hvA hvs hvE hvF hlb hls hSb hSs hb hs hrb hrs fm hfm hfr p0 p1 p2 p3 (0 : Int32) x96 x97 x96 s93 t94 _ Ls93 _ q8 (by omega)
        · refine WP.iload_n d0_77 rfl ?_
          refine WP.iconst d0_78 (v := (3 : Int32)) rfl ?_
          refine WP.iushr d0_79 ?_
          refine WP.bipush d0_80 (v := (7 : Int32)) rfl ?_
          refine WP.iand d0_82 ?_
          obtain ⟨x98, ex98⟩ : ∃ z : Int32, (((p1.toUInt32 >>> ((3 : Int32) &&& 31).toUInt32).toInt32) &&& (7 : Int32)) = z := ⟨_, rfl⟩
          refine WP.istore d0_83 ex98 (Ls' := #[.val (.int p0), .val (.int p1), .val (.int p2), .val (.int p3), .val (.int (0 : Int32)), .val (.ref s93), .val (.int x96), .val (.int x97), .val (.int x98), .unset, .unset, .unset, .unset, .unset]) rfl ?_
          have b8 := own_b7 ((p1.toUInt32 >>> ((3 : Int32) &&& 31).toUInt32).toInt32)
          rw [ex98] at b8
          have q8 : Ix x98 x98.toInt.toNat := by unfold Ix; omega
          refine WP.goto d0_85 ?_
          refine WP.more (cells' := 2) (slots' := 28) (by decide) (by decide) (WP.less (F' := []) (fun _ q => nomatch q) ?_)
          exact tail_92 l Z a0 hw n0 h95 hO zc hcs hzc va rb rs lb ls tb ts cv hva hvA hvs hvE hvF hlb hls hSb hSs hb hs hrb hrs fm hfm hfr p0 p1 p2 p3 (0 : Int32) x96 x97 x98 s93 t94 _ Ls93 _ q8 (by omega)
      · refine WP.iload d0_62 rfl ?_
        refine WP.iconst d0_64 (v := (1 : Int32)) rfl ?_
        refine WP.iadd d0_65 ?_
        obtain ⟨x99, ex99⟩ : ∃ z : Int32, (x96 + (1 : Int32)) = z := ⟨_, rfl⟩
        refine WP.istore d0_66 ex99 (Ls' := #[.val (.int p0), .val (.int p1), .val (.int p2), .val (.int p3), .val (.int (0 : Int32)), .val (.ref s93), .val (.int x96), .val (.int x97), .val (.int x99), .unset, .unset, .unset, .unset, .unset]) rfl ?_
        have q8 : Ix x99 6 := by
          have q := c_iadd x96 1
          rw [ex99] at q
          have r := rng32 x99
          unfold Ix
          omega
        refine WP.goto d0_68 ?_
        refine WP.more (cells' := 2) (slots' := 28) (by decide) (by decide) (WP.less (F' := []) (fun _ q => nomatch q) ?_)
        exact tail_92 l Z a0 hw n0 h95 hO zc hcs hzc va rb rs lb ls tb ts cv hva hvA hvs hvE hvF hlb hls hSb hSs hb hs hrb hrs fm hfm hfr p0 p1 p2 p3 (0 : Int32) x96 x97 x99 s93 t94 _ Ls93 _ q8 (by omega)
    · refine WP.iload d0_47 rfl ?_
      refine WP.iconst d0_49 (v := (1 : Int32)) rfl ?_
      refine WP.isub d0_50 ?_
      obtain ⟨x100, ex100⟩ : ∃ z : Int32, (x96 - (1 : Int32)) = z := ⟨_, rfl⟩
      refine WP.istore d0_51 ex100 (Ls' := #[.val (.int p0), .val (.int p1), .val (.int p2), .val (.int p3), .val (.int (0 : Int32)), .val (.ref s93), .val (.int x96), .val (.int x97), .val (.int x100), .unset, .unset, .unset, .unset, .unset]) rfl ?_
      have q8 : Ix x100 4 := by
        have q := c_isub x96 1
        rw [ex100] at q
        have r := rng32 x100
        unfold Ix
        omega
      refine WP.goto d0_53 ?_
      refine WP.more (cells' := 2) (slots' := 28) (by decide) (by decide) (WP.less (F' := []) (fun _ q => nomatch q) ?_)
      exact tail_92 l Z a0 hw n0 h95 hO zc hcs hzc va rb rs lb ls tb ts cv hva hvA hvs hvE hvF hlb hls hSb hSs hb hs hrb hrs fm hfm hfr p0 p1 p2 p3 (0 : Int32) x96 x97 x100 s93 t94 _ Ls93 _ q8 (by omega)
  · refine WP.iconst d0_6 (v := (1 : Int32)) rfl ?_
    refine WP.goto d0_7 ?_
    refine WP.istore d0_11 rfl (Ls' := #[.val (.int p0), .val (.int p1), .val (.int p2), .val (.int p3), .val (.int (1 : Int32)), .unset, .unset, .unset, .unset, .unset, .unset, .unset, .unset, .unset]) rfl ?_
    refine WP.iload d0_13 rfl ?_
    refine WP.if_eq d0_15 (fun hc => absurd hc (by decide)) (fun _ => ?_)
    refine WP.ldcS (n := 24) (bs := [115, 101, 108, 108, 101, 114]) d0_18 hEL (by simp [consts_1, x]) (hw _ (List.mem_of_getElem? (i := 108) rfl)) (own_wS hw) ⟨by decide, by decide⟩ (by decide) (by decide) (by decide) (by decide) (by decide) (fun h101 s102 t103 Eh101 Xs102 Cs102 Vs102 Bs102 => ?_)
    have hO := hO.ext Eh101
    have zEh101 := Eh101.1
    have Ls102 : Str Z h101 s102 t103 [115, 101, 108, 108, 101, 114] := ⟨Xs102, Cs102, Vs102, Bs102⟩
    have lts102 := nlt Ls102.ltT
    have las102 := nlt Ls102.lt
    refine WP.goto d0_20 ?_
    refine WP.astore d0_25 (Ls' := #[.val (.int p0), .val (.int p1), .val (.int p2), .val (.int p3), .val (.int (1 : Int32)), .val (.ref s102), .unset, .unset, .unset, .unset, .unset, .unset, .unset, .unset]) rfl rfl ?_
    refine WP.aload d0_27 rfl rfl ?_
    refine WP.virtual (a := s102) (argsL := []) (rest := []) d0_29 (rm_len l Z a0 hw n0 h101 hO zc hcs hzc s102 t103 _ Ls102) Ls102.1 (hw _ (List.mem_of_getElem? (i := 8) rfl)) (hw _ (List.mem_of_getElem? (i := 9) rfl)) (hw _ (List.mem_of_getElem? (i := 10) rfl)) (hw _ (List.mem_of_getElem? (i := 11) rfl)) (hw _ (List.mem_of_getElem? (i := 1) rfl)) (hw _ (List.mem_of_getElem? (i := 12) rfl)) (hw _ (List.mem_of_getElem? (i := 11) rfl)) (by decide) pd_0 rfl rfl rfl (nle rfl) (nle rfl) (nle rfl) (nle rfl) (fun _ q => nomatch q) (fun v h104 F' hq szh104 => ?_)
    obtain ⟨rfl, rfl⟩ := hq
    obtain ⟨x105, ex105⟩ : ∃ z : Int32, (Int32.ofNat 6) = z := ⟨_, rfl⟩
    refine WP.istore d0_32 ex105 (Ls' := #[.val (.int p0), .val (.int p1), .val (.int p2), .val (.int p3), .val (.int (1 : Int32)), .val (.ref s102), .val (.int x105), .unset, .unset, .unset, .unset, .unset, .unset, .unset]) rfl ?_
    have q6 : x105.toInt = 6 := by subst ex105; rfl
    have k1 : (1 : Int32).toInt = 1 := rfl
    refine WP.iload_n d0_34 rfl ?_
    refine WP.iconst d0_35 (v := (1 : Int32)) rfl ?_
    refine WP.iushr d0_36 ?_
    refine WP.iconst d0_37 (v := (3 : Int32)) rfl ?_
    refine WP.iand d0_38 ?_
    obtain ⟨x106, ex106⟩ : ∃ z : Int32, (((p0.toUInt32 >>> ((1 : Int32) &&& 31).toUInt32).toInt32) &&& (3 : Int32)) = z := ⟨_, rfl⟩
    refine WP.istore d0_39 ex106 (Ls' := #[.val (.int p0), .val (.int p1), .val (.int p2), .val (.int p3), .val (.int (1 : Int32)), .val (.ref s102), .val (.int x105), .val (.int x106), .unset, .unset, .unset, .unset, .unset, .unset]) rfl ?_
    refine WP.iload d0_41 rfl ?_
    refine WP.iconst d0_43 (v := (1 : Int32)) rfl ?_
    refine WP.icmp_ne d0_44 (fun hc44 => ?_) (fun hc44 => ?_)
    · refine WP.iload d0_56 rfl ?_
      refine WP.iconst d0_58 (v := (2 : Int32)) rfl ?_
      refine WP.icmp_ne d0_59 (fun hc59 => ?_) (fun hc59 => ?_)
      · refine WP.iload d0_71 rfl ?_
        refine WP.iconst d0_73 (v := (3 : Int32)) rfl ?_
        refine WP.icmp_ne d0_74 (fun hc74 => ?_) (fun hc74 => ?_)
        · refine WP.iload d0_88 rfl ?_
          refine WP.istore d0_90 rfl (Ls' := #[.val (.int p0), .val (.int p1), .val (.int p2), .val (.int p3), .val (.int (1 : Int32)), .val (.ref s102), .val (.int x105), .val (.int x106), .val (.int x105), .unset, .unset, .unset, .unset, .unset]) rfl ?_
          have q8 : Ix x105 6 := q6
          refine WP.more (cells' := 2) (slots' := 28) (by decide) (by decide) (WP.less (F' := []) (fun _ q => nomatch q) ?_)
          exact tail_92 l Z a0 hw n0 h104 hO zc hcs hzc va rb rs lb ls tb ts cv hva hvA hvs hvE hvF hlb hls hSb hSs hb hs hrb hrs fm hfm hfr p0 p1 p2 p3 (1 : Int32) x105 x106 x105 s102 t103 _ Ls102 _ q8 (by omega)
        · refine WP.iload_n d0_77 rfl ?_
          refine WP.iconst d0_78 (v := (3 : Int32)) rfl ?_
          refine WP.iushr d0_79 ?_
          refine WP.bipush d0_80 (v := (7 : Int32)) rfl ?_
          refine WP.iand d0_82 ?_
          obtain ⟨x107, ex107⟩ : ∃ z : Int32, (((p1.toUInt32 >>> ((3 : Int32) &&& 31).toUInt32).toInt32) &&& (7 : Int32)) = z := ⟨_, rfl⟩
          refine WP.istore d0_83 ex107 (Ls' := #[.val (.int p0), .val (.int p1), .val (.int p2), .val (.int p3), .val (.int (1 : Int32)), .val (.ref s102), .val (.int x105), .val (.int x106), .val (.int x107), .unset, .unset, .unset, .unset, .unset]) rfl ?_
          have b8 := own_b7 ((p1.toUInt32 >>> ((3 : Int32) &&& 31).toUInt32).toInt32)
          rw [ex107] at b8
          have q8 : Ix x107 x107.toInt.toNat := by unfold Ix; omega
          refine WP.goto d0_85 ?_
          refine WP.more (cells' := 2) (slots' := 28) (by decide) (by decide) (WP.less (F' := []) (fun _ q => nomatch q) ?_)
          exact tail_92 l Z a0 hw n0 h104 hO zc hcs hzc va rb rs lb ls tb ts cv hva hvA hvs hvE hvF hlb hls hSb hSs hb hs hrb hrs fm hfm hfr p0 p1 p2 p3 (1 : Int32) x105 x106 x107 s102 t103 _ Ls102 _ q8 (by omega)
      · refine WP.iload d0_62 rfl ?_
        refine WP.iconst d0_64 (v := (1 : Int32)) rfl ?_
        refine WP.iadd d0_65 ?_
        obtain ⟨x108, ex108⟩ : ∃ z : Int32, (x105 + (1 : Int32)) = z := ⟨_, rfl⟩
        refine WP.istore d0_66 ex108 (Ls' := #[.val (.int p0), .val (.int p1), .val (.int p2), .val (.int p3), .val (.int (1 : Int32)), .val (.ref s102), .val (.int x105), .val (.int x106), .val (.int x108), .unset, .unset, .unset, .unset, .unset]) rfl ?_
        have q8 : Ix x108 7 := by
          have q := c_iadd x105 1
          rw [ex108] at q
          have r := rng32 x108
          unfold Ix
          omega
        refine WP.goto d0_68 ?_
        refine WP.more (cells' := 2) (slots' := 28) (by decide) (by decide) (WP.less (F' := []) (fun _ q => nomatch q) ?_)
        exact tail_92 l Z a0 hw n0 h104 hO zc hcs hzc va rb rs lb ls tb ts cv hva hvA hvs hvE hvF hlb hls hSb hSs hb hs hrb hrs fm hfm hfr p0 p1 p2 p3 (1 : Int32) x105 x106 x108 s102 t103 _ Ls102 _ q8 (by omega)
    · refine WP.iload d0_47 rfl ?_
      refine WP.iconst d0_49 (v := (1 : Int32)) rfl ?_
      refine WP.isub d0_50 ?_
      obtain ⟨x109, ex109⟩ : ∃ z : Int32, (x105 - (1 : Int32)) = z := ⟨_, rfl⟩
      refine WP.istore d0_51 ex109 (Ls' := #[.val (.int p0), .val (.int p1), .val (.int p2), .val (.int p3), .val (.int (1 : Int32)), .val (.ref s102), .val (.int x105), .val (.int x106), .val (.int x109), .unset, .unset, .unset, .unset, .unset]) rfl ?_
      have q8 : Ix x109 5 := by
        have q := c_isub x105 1
        rw [ex109] at q
        have r := rng32 x109
        unfold Ix
        omega
      refine WP.goto d0_53 ?_
      refine WP.more (cells' := 2) (slots' := 28) (by decide) (by decide) (WP.less (F' := []) (fun _ q => nomatch q) ?_)
      exact tail_92 l Z a0 hw n0 h104 hO zc hcs hzc va rb rs lb ls tb ts cv hva hvA hvs hvE hvF hlb hls hSb hSs hb hs hrb hrs fm hfm hfr p0 p1 p2 p3 (1 : Int32) x105 x106 x109 s102 t103 _ Ls102 _ q8 (by omega)
set_option maxRecDepth 65536 in
set_option maxHeartbeats 4000000 in
theorem comes_1 {Post : Tables → Env → Array Value → State → Outcome → State → Prop} (hpost : ∀ tb e args s v u, (limb_1_1.after args s (.returned v) u = true ∧ limb_1_2.after args s (.returned v) u = true ∧ True) → ReturnedEndW s (.returned v) u (Jvm.fieldLocs frame_1_writes args s ++ Jvm.arrayLocs frame_1_arrays args s ++ Jvm.staticLocs frame_1_statics s) 24 3200 → Post tb e args s (.returned v) u) :
    ArmFor flags0 classFile x code maxLocals ret World_1 tables_1 room_1 Calls_1 rest_1 Pre_1 Post := by
  intro l hfl _ _ p e ha hc hk s m args below hf hA hF happ hP
  obtain ⟨hcalls, hrest, hpre⟩ := hP
  obtain ⟨-, -, -, hnamed, -, -, -, hat⟩ := (Spec.applies_iff hf).mp happ
  obtain ⟨hg, hn⟩ := and_e (Cond.before_iff.mp (show (Jvm.Cond.and given_1 narrow_1).before args s = true from hpre))
  obtain ⟨hcount, hg1⟩ := and_e hg
  obtain ⟨ga0, hg2⟩ := and_e hg1
  obtain ⟨ga1, hg3⟩ := and_e hg2
  obtain ⟨ga2, hg4⟩ := and_e hg3
  have ga3 := hg4
  obtain ⟨w0, w1, w2, w3, rfl⟩ : ∃ w0 w1 w2 w3 : Value, args = #[w0, w1, w2, w3] := by
    have hs : args.size = 4 := by simpa [Cond.value, given_1] using hcount
    obtain ⟨L⟩ := args
    match L, hs with
    | [w0, w1, w2, w3], _ => exact ⟨w0, w1, w2, w3, rfl⟩
  have hw := fun d (hd : d ∈ tables_1) => atoms_spec (ws := Jvm.Cond.code x code maxLocals ret :: tables_1) hat d (List.mem_cons_of_mem _ hd)
  have hfit : Fit s := fun {y c} hc i hi => by
    obtain ⟨ha, rfl⟩ := Array.getElem?_eq_some_iff.mp hc
    have q := List.all_eq_true.mp ((Array.all_eq_true_iff_forall_mem.mp hF) _ (Array.getElem_mem ha)) i (List.mem_range.mpr hi)
    simpa [Array.getElem?_eq_getElem hi] using q
  obtain ⟨i0, ei0⟩ := is_v ga0
  obtain rfl : w0 = (.int i0) := Option.some.inj ei0
  obtain ⟨i1, ei1⟩ := is_v ga1
  obtain rfl : w1 = (.int i1) := Option.some.inj ei1
  obtain ⟨i2, ei2⟩ := is_v ga2
  obtain rfl : w2 = (.int i2) := Option.some.inj ei2
  obtain ⟨i3, ei3⟩ := is_v ga3
  obtain rfl : w3 = (.int i3) := Option.some.inj ei3
  obtain ⟨hsets, hown0⟩ := atoms_of _ (rest_1_c_eq ▸ (show rest_1_c.before _ s = true from hrest))
  have hcw := hsets _ (List.mem_of_getElem? (i := 2) rfl)
  obtain ⟨zc, ezc⟩ := is_v (Cond.before_iff.mp (hsets _ (List.mem_of_getElem? (i := 1) rfl)))
  have hcs : Sta s s.heap "java/lang/String" "COMPACT_STRINGS" "Z" (.int zc) := Sta.start ezc (Or.inl (hsets _ (List.mem_of_getElem? (i := 0) rfl)))
  have hzc : zc ≠ 0 := by
    intro q
    subst q
    have r := not_v (Cond.before_iff.mp hcw)
    rw [eq_i ezc (Term.int_eval 0) rfl] at r
    cases r
  obtain ⟨n0, r0⟩ := and_e hn
  obtain ⟨n1, r1⟩ := and_e r0
  obtain ⟨n2, r2⟩ := and_e r1
  obtain ⟨n3, r3⟩ := and_e r2
  obtain ⟨n4, r4⟩ := and_e r3
  obtain ⟨n5, r5⟩ := and_e r4
  obtain ⟨n6, r6⟩ := and_e r5
  obtain ⟨n7, r7⟩ := and_e r6
  obtain ⟨n8, r8⟩ := and_e r7
  obtain ⟨n9, r9⟩ := and_e r8
  obtain ⟨n10, r10⟩ := and_e r9
  obtain ⟨n11, r11⟩ := and_e r10
  obtain ⟨n12, r12⟩ := and_e r11
  obtain ⟨n13, r13⟩ := and_e r12
  obtain ⟨n14, r14⟩ := and_e r13
  obtain ⟨n15, r15⟩ := and_e r14
  obtain ⟨n16, r16⟩ := and_e r15
  obtain ⟨n17, r17⟩ := and_e r16
  obtain ⟨n18, r18⟩ := and_e r17
  obtain ⟨n19, r19⟩ := and_e r18
  obtain ⟨n20, r20⟩ := and_e r19
  obtain ⟨n21, r21⟩ := and_e r20
  obtain ⟨n22, r22⟩ := and_e r21
  obtain ⟨n23, r23⟩ := and_e r22
  obtain ⟨n24, r24⟩ := and_e r23
  have n25 := r24
  obtain ⟨va, eva⟩ := exa_v n1
  have hva := Sta.start eva (Or.inl (hw _ (List.mem_of_getElem? (i := 87) rfl)))
  obtain ⟨cv, hvA⟩ := Jvm.RoadKit.Arr.start eva n0
  have hvE := Exa.start eva n1
  have hvF : FitC s cv := FitC.start hfit hvA
  obtain ⟨rb, erb⟩ := exa_v n3
  obtain ⟨rs, ers⟩ := exa_v n5
  have hb := Sta.start erb (Or.inr ⟨(hw _ (List.mem_of_getElem? (i := 71) rfl)), (hw _ (List.mem_of_getElem? (i := 85) rfl))⟩)
  have hs := Sta.start ers (Or.inr ⟨(hw _ (List.mem_of_getElem? (i := 71) rfl)), (hw _ (List.mem_of_getElem? (i := 86) rfl))⟩)
  have hrb := Exa.start erb n3
  have hrs := Exa.start ers n5
  have hvs : cv.slots = [Value.ref rb, .ref rs].toArray := by
    have z := arr_size (n := 2) hvA eva n2 (by decide)
    apply Array.ext_getElem?
    intro i
    match i with
    | 0 => exact arr_elem (i := 0) hvA eva (by decide) (eqv_r erb n4)
    | 1 => exact arr_elem (i := 1) hvA eva (by decide) (eqv_r ers n6)
    | i + 2 => rw [Array.getElem?_eq_none (by omega), Array.getElem?_eq_none (by simp)]
  obtain ⟨lb, elb⟩ := exa_v n7
  obtain ⟨ls, els⟩ := exa_v n11
  have hlb := Jvm.RoadKit.Fld.start ((fld_at erb).symm.trans elb)
  have hls := Jvm.RoadKit.Fld.start ((fld_at ers).symm.trans els)
  obtain ⟨tb, hSb⟩ := str_of (xs := [98, 117, 121, 101, 114]) n7 n8 n9 (by decide) n10 (fun i x hx => by
    match i, hx with
    | 0, hx => cases hx; exact n15
    | 1, hx => cases hx; exact n16
    | 2, hx => cases hx; exact n17
    | 3, hx => cases hx; exact n18
    | 4, hx => cases hx; exact n19
    | i + 5, hx => cases hx) elb
  obtain ⟨ts, hSs⟩ := str_of (xs := [115, 101, 108, 108, 101, 114]) n11 n12 n13 (by decide) n14 (fun i x hx => by
    match i, hx with
    | 0, hx => cases hx; exact n20
    | 1, hx => cases hx; exact n21
    | 2, hx => cases hx; exact n22
    | 3, hx => cases hx; exact n23
    | 4, hx => cases hx; exact n24
    | 5, hx => cases hx; exact n25
    | i + 6, hx => cases hx) els
  obtain ⟨fm, efm, hfr⟩ := isR_v (Cond.before_iff.mp (hsets _ (List.mem_of_getElem? (i := 8) rfl)))
  have hfm := Sta.start efm (Or.inl (hsets _ (List.mem_of_getElem? (i := 7) rfl)))
  have hC : CHv s consts_1 s.vm s.heap := CHv.start (own_EW hw) (fun p hp => hcalls.1 p hp) hcw (hw _ (List.mem_of_getElem? (i := 3) rfl)) (hw _ (List.mem_of_getElem? (i := 2) rfl))
  obtain ⟨n, o, h1, h2, h3, v, L, rfl, ⟨⟨_, hq, _⟩, N, _⟩, _, hend⟩ := rm_law l s _ hw s.heap.size s.heap (Old.start s) tables_1 zc hcs hzc va rb rs lb ls tb ts cv hva hvA hvs hvE hvF hlb hls hSb hSs hb hs hrb hrs fm hfm hfr i0 i1 i2 i3 p e ha hc hk s m _ below hf ((Spec.applies_iff_loose hf).mp happ).1 ⟨rfl, State.Warmed39.refl s, rfl, hC, fun _ q => nomatch q⟩ trivial
  have hq' : v = some (.int 1) := hq
  subst hq'
  exact ⟨n, _, h1, h2, h3, hpost _ _ _ _ _ _ ⟨Cond.after_iff.mpr rfl, Cond.after_iff.mpr (eq_i res_at (Term.int_eval (1)) rfl), trivial⟩ ⟨hend.1, hend.2.1, hend.2.2.1, (hend.2.2.2.sift fun y hy => Or.inr (N y hy)).mono (by decide) (by decide)⟩⟩
theorem main_1_1 : Claimed_1_1 := comes_1 fun _ _ _ _ _ _ h hF => ⟨h.1, hF⟩
theorem main_1_2 : Claimed_1_2 := comes_1 fun _ _ _ _ _ _ h hF => ⟨h.2.1, hF⟩
end Jvm.Pilot.@@N@@
namespace Jvm.Pilot.@@N@@
open Jvm Jvm.ClassFile Sem Op Lib Jvm.Free Jvm.Stand Jvm.Pilot.@@N@@.Jvm.D
/-! MADE BY PROGRAM (witnessworld.py) out of the Statement's table words and the real class files: 22 classes; the members and pool entries that the words name. The judged class is class 1, her method 2. -/
namespace start1
open Jvm.ClassFile
def u (s : String) : CpInfo := .utf8 (stringToUtf16 s)
/-- a pool by its gaps: so many unusable entries, then the entry; so many at the end -/
def gap : Nat → List CpInfo → List CpInfo
  | 0, r => r
  | n + 1, r => .unusable :: gap n r
def poolList (es : List (Nat × CpInfo)) (last : Nat) : List CpInfo := es.foldr (fun e r => gap e.1 (e.2 :: r)) (gap last [])
def pool (es : List (Nat × CpInfo)) (last : Nat) : Array CpInfo := ⟨poolList es last⟩
def fileOf (pool : Array CpInfo) (this : Nat) (attrs : Array Attribute := #[]) (ms : Array MethodInfo := #[]) (fl : Nat := 33) (sup : Nat := 0) (ifs : Array Nat := #[]) (fds : Array FieldInfo := #[]) : ClassFile where
  minorVersion := 0
  majorVersion := 65
  constantPool := pool
  accessFlags := fl
  thisClass := this
  superClass := sup
  interfaces := ifs
  fields := fds
  methods := ms
  attributes := attrs
def plain (name : String) (sup : Option ClassId) : Class where
  name := name
  kind := .ordinary
  loader := none
  accessFlags := 33
  super := sup
  interfaces := #[]
  cf := none
  fields := #[]
  methods := #[]
  instanceTypes := #[]
  staticTypes := #[]
  resolved := #[]
  callSites := []
  init := .initialized
  statics := none
  mirror := none

def pool0 : Array CpInfo := pool [(5, u "<init>"), (0, u "()V"), (1, .class_ 10), (1, u "java/lang/Object"), (85, u "clone"), (0, u "()Ljava/lang/Object;")] 26

def k0c0 : Code := { maxStack := 0, maxLocals := 1, code := object_method_1_code, exceptionTable := #[], attributes := #[] }
def k0m0 : Method := { name := "<init>", desc := "()V", sig := { parameters := [], returnType := none }, accessFlags := 1, code := some k0c0 }
def k0m1 : Method := { name := "clone", desc := "()Ljava/lang/Object;", sig := { parameters := [], returnType := some (.object "java/lang/Object") }, accessFlags := 260, code := none }
/-- java/lang/Object -/
def k0 : Class := { plain "java/lang/Object" none with
  accessFlags := 33
  interfaces := #[]
  cf := some (fileOf pool0 8 #[] #[{ accessFlags := 1, nameIndex := 5, descriptorIndex := 6, attributes := #[] }, { accessFlags := 260, nameIndex := 96, descriptorIndex := 97, attributes := #[] }] 33 0 #[] #[])
  fields := #[]
  methods := #[k0m0, k0m1]
  instanceTypes := #[]
  staticTypes := #[]
  resolved := Array.replicate 124 none
  statics := none }

def pool1 : Array CpInfo := pool [(2, .class_ 4), (1, u "java/lang/Object"), (0, u "<init>"), (0, u "()V"), (0, .methodref 8 9), (0, .class_ 10), (0, .nameAndType 11 12), (0, u "java/lang/String"), (0, u "length"), (0, u "()I"), (0, .methodref 8 14), (0, .nameAndType 15 16), (0, u "charAt"), (0, u "(I)C"), (0, .string 18), (0, u "seller"), (0, .string 20), (0, u "buyer"), (0, .methodref 22 23), (0, .class_ 24), (0, .nameAndType 25 26), (0, u "com/example/nearbid/nearbid/market/RoleOfLabelPinLaw"), (0, u "put"), (0, u "([CILjava/lang/String;I)V"), (0, .methodref 8 28), (0, .nameAndType 5 29), (0, u "([C)V"), (0, .methodref 31 32), (0, .class_ 33), (0, .nameAndType 34 35), (0, u "com/example/nearbid/nearbid/market/Role"), (0, u "ofLabel"), (0, u "(Ljava/lang/String;)Lcom/example/nearbid/nearbid/market/Role;"), (0, .methodref 8 37), (0, .nameAndType 38 39), (0, u "equals"), (0, u "(Ljava/lang/Object;)Z"), (0, .fieldref 31 41), (0, .nameAndType 42 43), (0, u "BUYER"), (0, u "Lcom/example/nearbid/nearbid/market/Role;"), (0, .fieldref 31 45), (0, .nameAndType 46 43), (0, u "SELLER"), (0, .methodref 31 48), (0, .nameAndType 49 50), (0, u "label"), (0, u "()Ljava/lang/String;"), (3, u "law"), (0, u "(IIII)Z")] 4

def k1m0 : Method := { name := "<init>", desc := "()V", sig := { parameters := [], returnType := none }, accessFlags := 1, code := none }
def k1c1 : Code := { maxStack := 4, maxLocals := 4, code := method_2_code, exceptionTable := #[], attributes := #[] }
def k1m1 : Method := { name := "put", desc := "([CILjava/lang/String;I)V", sig := { parameters := [(.array .char), .int, (.object "java/lang/String"), .int], returnType := none }, accessFlags := 10, code := some k1c1 }
def k1c2 : Code := { maxStack := 4, maxLocals := 14, code := code, exceptionTable := #[], attributes := #[] }
def k1m2 : Method := { name := "law", desc := "(IIII)Z", sig := { parameters := [.int, .int, .int, .int], returnType := some .boolean }, accessFlags := 9, code := some k1c2 }
/-- com/example/nearbid/nearbid/market/RoleOfLabelPinLaw -/
def k1 : Class := { plain "com/example/nearbid/nearbid/market/RoleOfLabelPinLaw" (some 0) with
  accessFlags := 49
  interfaces := #[]
  cf := some (fileOf pool1 22 #[] #[{ accessFlags := 1, nameIndex := 5, descriptorIndex := 6, attributes := #[] }, { accessFlags := 10, nameIndex := 25, descriptorIndex := 26, attributes := #[] }, { accessFlags := 9, nameIndex := 54, descriptorIndex := 55, attributes := #[] }] 49 2 #[] #[])
  fields := #[]
  methods := #[k1m0, k1m1, k1m2]
  instanceTypes := #[]
  staticTypes := #[]
  resolved := Array.replicate 60 none
  statics := none }

def pool2 : Array CpInfo := pool [(1, .class_ 2), (0, u "java/io/Serializable"), (0, .class_ 4), (0, u "java/lang/Object")] 2

/-- java/io/Serializable -/
def k2 : Class := { plain "java/io/Serializable" (some 0) with
  accessFlags := 1537
  interfaces := #[]
  cf := some (fileOf pool2 1 #[] #[] 1537 3 #[] #[])
  fields := #[]
  methods := #[]
  instanceTypes := #[]
  staticTypes := #[]
  resolved := Array.replicate 7 none
  statics := none }

def pool3 : Array CpInfo := pool [(1, .class_ 2), (0, u "java/lang/Comparable"), (0, .class_ 4), (0, u "java/lang/Object")] 7

/-- java/lang/Comparable -/
def k3 : Class := { plain "java/lang/Comparable" (some 0) with
  accessFlags := 1537
  interfaces := #[]
  cf := some (fileOf pool3 1 #[] #[] 1537 3 #[] #[])
  fields := #[]
  methods := #[]
  instanceTypes := #[]
  staticTypes := #[]
  resolved := Array.replicate 12 none
  statics := none }

def pool4 : Array CpInfo := pool [(2, .class_ 4), (1, u "java/lang/CharSequence"), (42, .class_ 48), (0, u "java/lang/CharSequence$1CodePointIterator"), (10, .class_ 60), (0, u "java/lang/CharSequence$1CharIterator"), (5, .class_ 67), (0, u "java/lang/Object")] 63

/-- java/lang/CharSequence -/
def k4 : Class := { plain "java/lang/CharSequence" (some 0) with
  accessFlags := 1537
  interfaces := #[]
  cf := some (fileOf pool4 2 #[.nestMembers #[47, 59]] #[] 1537 66 #[] #[])
  fields := #[]
  methods := #[]
  instanceTypes := #[]
  staticTypes := #[]
  resolved := Array.replicate 131 none
  statics := none }

def pool5 : Array CpInfo := pool [(1, .class_ 2), (0, u "java/lang/constant/Constable"), (0, .class_ 4), (0, u "java/lang/Object")] 6

/-- java/lang/constant/Constable -/
def k5 : Class := { plain "java/lang/constant/Constable" (some 0) with
  accessFlags := 1537
  interfaces := #[]
  cf := some (fileOf pool5 1 #[] #[] 1537 3 #[] #[])
  fields := #[]
  methods := #[]
  instanceTypes := #[]
  staticTypes := #[]
  resolved := Array.replicate 11 none
  statics := none }

def pool6 : Array CpInfo := pool [(1, .class_ 2), (0, u "java/lang/constant/ConstantDesc"), (0, .class_ 4), (0, u "java/lang/Object")] 32

/-- java/lang/constant/ConstantDesc -/
def k6 : Class := { plain "java/lang/constant/ConstantDesc" (some 0) with
  accessFlags := 1537
  interfaces := #[]
  cf := some (fileOf pool6 1 #[] #[] 1537 3 #[] #[])
  fields := #[]
  methods := #[]
  instanceTypes := #[]
  staticTypes := #[]
  resolved := Array.replicate 37 none
  statics := none }

def pool7 : Array CpInfo := pool [(1, .methodref 2 3), (0, .class_ 4), (0, .nameAndType 5 6), (0, u "java/lang/Object"), (0, u "<init>"), (0, u "()V"), (0, .string 8), (0, u ""), (0, .fieldref 10 11), (0, .class_ 12), (0, .nameAndType 13 14), (0, u "java/lang/String"), (0, u "value"), (0, u "[B"), (0, .fieldref 10 16), (0, .nameAndType 17 18), (0, u "coder"), (0, u "B"), (2, u "hash"), (0, u "I"), (2, u "hashIsZero"), (0, u "Z"), (0, .methodref 10 28), (0, .nameAndType 5 29), (0, u "([CIILjava/lang/Void;)V"), (8, .fieldref 10 39), (0, .nameAndType 40 26), (0, u "COMPACT_STRINGS"), (1, .class_ 44), (1, u "java/lang/StringUTF16"), (0, u "compress"), (1, .methodref 42 48), (0, .nameAndType 49 50), (0, u "coderFromArrayLen"), (0, u "([BI)B"), (56, .class_ 109), (1, u "java/lang/StringLatin1"), (32, u "()Z"), (34, .methodref 42 178), (0, .nameAndType 45 179), (0, u "([CII)[B"), (154, u "()I"), (0, .methodref 10 336), (0, .nameAndType 17 337), (0, u "()B"), (25, u "([BI)C"), (27, u "(II)V"), (35, u "(I)C"), (64, .methodref 10 493), (0, .nameAndType 494 142), (0, u "isLatin1"), (0, .methodref 107 496), (0, .nameAndType 497 363), (0, u "charAt"), (3, u "checkIndex"), (5, u "length"), (33, .methodref 107 542), (0, .nameAndType 543 544), (0, u "equals"), (0, u "([B[B)Z"), (28, u "(Ljava/lang/Object;)Z"), (1, .class_ 576), (0, u "java/lang/CharSequence"), (22, u "CASE_INSENSITIVE_ORDER"), (0, u "Ljava/util/Comparator;"), (409, u "([C)V"), (42, .fieldref 1054 1055), (0, .class_ 1056), (0, .nameAndType 1057 1058), (0, u "jdk/internal/util/Preconditions"), (0, u "SIOOBE_FORMATTER"), (0, u "Ljava/util/function/BiFunction;"), (0, .methodref 1054 1060), (0, .nameAndType 501 1061), (0, u "(IILjava/util/function/BiFunction;)I"), (39, u "serialPersistentFields"), (0, u "[Ljava/io/ObjectStreamField;"), (0, .class_ 1104), (0, u "java/lang/String$CaseInsensitiveComparator"), (1, .class_ 1107), (0, u "java/io/Serializable"), (0, .class_ 1109), (0, u "java/lang/Comparable"), (0, .class_ 1111), (0, u "java/lang/constant/Constable"), (0, .class_ 1113), (0, u "java/lang/constant/ConstantDesc"), (2, u "serialVersionUID"), (0, u "J"), (3, u "REPL"), (0, u "C"), (2, u "LATIN1"), (1, u "UTF16")] 323

def k7m0 : Method := { name := "<init>", desc := "()V", sig := { parameters := [], returnType := none }, accessFlags := 1, code := none }
def k7c1 : Code := { maxStack := 5, maxLocals := 2, code := jdk_42_method_3_code, exceptionTable := #[], attributes := #[] }
def k7m1 : Method := { name := "<init>", desc := "([C)V", sig := { parameters := [(.array .char)], returnType := none }, accessFlags := 1, code := some k7c1 }
def k7c2 : Code := { maxStack := 2, maxLocals := 1, code := jdk_42_method_54_code, exceptionTable := #[], attributes := #[] }
def k7m2 : Method := { name := "length", desc := "()I", sig := { parameters := [], returnType := some .int }, accessFlags := 1, code := some k7c2 }
def k7c3 : Code := { maxStack := 2, maxLocals := 2, code := jdk_42_method_56_code, exceptionTable := #[], attributes := #[] }
def k7m3 : Method := { name := "charAt", desc := "(I)C", sig := { parameters := [.int], returnType := some .char }, accessFlags := 1, code := some k7c3 }
def k7c4 : Code := { maxStack := 2, maxLocals := 3, code := jdk_42_method_66_code, exceptionTable := #[], attributes := #[] }
def k7m4 : Method := { name := "equals", desc := "(Ljava/lang/Object;)Z", sig := { parameters := [(.object "java/lang/Object")], returnType := some .boolean }, accessFlags := 1, code := some k7c4 }
def k7c5 : Code := { maxStack := 4, maxLocals := 6, code := jdk_42_method_149_code, exceptionTable := #[], attributes := #[] }
def k7m5 : Method := { name := "<init>", desc := "([CIILjava/lang/Void;)V", sig := { parameters := [(.array .char), .int, .int, (.object "java/lang/Void")], returnType := none }, accessFlags := 2, code := some k7c5 }
def k7c6 : Code := { maxStack := 1, maxLocals := 1, code := jdk_42_method_152_code, exceptionTable := #[], attributes := #[] }
def k7m6 : Method := { name := "coder", desc := "()B", sig := { parameters := [], returnType := some .byte }, accessFlags := 0, code := some k7c6 }
def k7c7 : Code := { maxStack := 1, maxLocals := 1, code := jdk_42_method_154_code, exceptionTable := #[], attributes := #[] }
def k7m7 : Method := { name := "isLatin1", desc := "()Z", sig := { parameters := [], returnType := some .boolean }, accessFlags := 0, code := some k7c7 }
def k7c8 : Code := { maxStack := 3, maxLocals := 2, code := jdk_42_method_155_code, exceptionTable := #[], attributes := #[] }
def k7m8 : Method := { name := "checkIndex", desc := "(II)V", sig := { parameters := [.int, .int], returnType := none }, accessFlags := 8, code := some k7c8 }
/-- java/lang/String -/
def k7 : Class := { plain "java/lang/String" (some 0) with
  accessFlags := 49
  interfaces := #[2, 3, 4, 5, 6]
  cf := some (fileOf pool7 10 #[.nestMembers #[1103]] #[{ accessFlags := 1, nameIndex := 5, descriptorIndex := 6, attributes := #[] }, { accessFlags := 1, nameIndex := 5, descriptorIndex := 1010, attributes := #[] }, { accessFlags := 1, nameIndex := 507, descriptorIndex := 334, attributes := #[] }, { accessFlags := 1, nameIndex := 497, descriptorIndex := 427, attributes := #[] }, { accessFlags := 1, nameIndex := 543, descriptorIndex := 573, attributes := #[] }, { accessFlags := 2, nameIndex := 5, descriptorIndex := 29, attributes := #[] }, { accessFlags := 0, nameIndex := 17, descriptorIndex := 337, attributes := #[] }, { accessFlags := 0, nameIndex := 494, descriptorIndex := 142, attributes := #[] }, { accessFlags := 8, nameIndex := 501, descriptorIndex := 391, attributes := #[] }] 49 2 #[1106, 1108, 575, 1110, 1112] #[{ accessFlags := 18, nameIndex := 13, descriptorIndex := 14, attributes := #[] }, { accessFlags := 18, nameIndex := 17, descriptorIndex := 18, attributes := #[] }, { accessFlags := 2, nameIndex := 21, descriptorIndex := 22, attributes := #[] }, { accessFlags := 2, nameIndex := 25, descriptorIndex := 26, attributes := #[] }, { accessFlags := 26, nameIndex := 1116, descriptorIndex := 1117, attributes := #[] }, { accessFlags := 24, nameIndex := 40, descriptorIndex := 26, attributes := #[] }, { accessFlags := 26, nameIndex := 1101, descriptorIndex := 1102, attributes := #[] }, { accessFlags := 26, nameIndex := 1121, descriptorIndex := 1122, attributes := #[] }, { accessFlags := 25, nameIndex := 599, descriptorIndex := 600, attributes := #[] }, { accessFlags := 24, nameIndex := 1125, descriptorIndex := 18, attributes := #[] }, { accessFlags := 24, nameIndex := 1127, descriptorIndex := 18, attributes := #[] }])
  fields := #[{ name := "value", type := (.array .byte), accessFlags := 18, slot := 0, constantValue := 0 }, { name := "coder", type := .byte, accessFlags := 18, slot := 1, constantValue := 0 }, { name := "hash", type := .int, accessFlags := 2, slot := 2, constantValue := 0 }, { name := "hashIsZero", type := .boolean, accessFlags := 2, slot := 3, constantValue := 0 }, { name := "serialVersionUID", type := .long, accessFlags := 26, slot := 0, constantValue := 0 }, { name := "COMPACT_STRINGS", type := .boolean, accessFlags := 24, slot := 1, constantValue := 0 }, { name := "serialPersistentFields", type := (.array (.object "java/io/ObjectStreamField")), accessFlags := 26, slot := 2, constantValue := 0 }, { name := "REPL", type := .char, accessFlags := 26, slot := 3, constantValue := 0 }, { name := "CASE_INSENSITIVE_ORDER", type := (.object "java/util/Comparator"), accessFlags := 25, slot := 4, constantValue := 0 }, { name := "LATIN1", type := .byte, accessFlags := 24, slot := 5, constantValue := 0 }, { name := "UTF16", type := .byte, accessFlags := 24, slot := 6, constantValue := 0 }]
  methods := #[k7m0, k7m1, k7m2, k7m3, k7m4, k7m5, k7m6, k7m7, k7m8]
  instanceTypes := #[(.array .byte), .byte, .int, .boolean]
  staticTypes := #[.long, .boolean, (.array (.object "java/io/ObjectStreamField")), .char, (.object "java/util/Comparator"), .byte, .byte]
  resolved := Array.replicate 1451 none
  statics := some 0 }

def pool8 : Array CpInfo := pool [(1, .class_ 2), (0, u "java/lang/String"), (1, .class_ 6), (1, u "java/lang/Object"), (0, u "<init>"), (0, u "()V"), (0, .methodref 1 10), (0, .nameAndType 11 12), (0, u "checkIndex"), (0, u "(II)V"), (1, .class_ 16), (1, u "java/lang/StringLatin1"), (36, u "([BI)C"), (67, u "$assertionsDisabled"), (0, u "Z"), (98, .class_ 223), (1, u "java/lang/StringLatin1$LinesSpliterator"), (28, u "charAt"), (28, u "equals"), (0, u "([B[B)Z"), (107, .class_ 391), (0, u "java/lang/StringLatin1$CharsSpliterator")] 3

def k8m0 : Method := { name := "<init>", desc := "()V", sig := { parameters := [], returnType := none }, accessFlags := 0, code := none }
def k8c1 : Code := { maxStack := 2, maxLocals := 2, code := jdk_43_method_2_code, exceptionTable := #[], attributes := #[] }
def k8m1 : Method := { name := "charAt", desc := "([BI)C", sig := { parameters := [(.array .byte), .int], returnType := some .char }, accessFlags := 9, code := some k8c1 }
def k8c2 : Code := { maxStack := 3, maxLocals := 3, code := jdk_43_method_13_code, exceptionTable := #[], attributes := #[] }
def k8m2 : Method := { name := "equals", desc := "([B[B)Z", sig := { parameters := [(.array .byte), (.array .byte)], returnType := some .boolean }, accessFlags := 9, code := some k8c2 }
/-- java/lang/StringLatin1 -/
def k8 : Class := { plain "java/lang/StringLatin1" (some 0) with
  accessFlags := 48
  interfaces := #[]
  cf := some (fileOf pool8 14 #[.nestMembers #[390, 221]] #[{ accessFlags := 0, nameIndex := 7, descriptorIndex := 8, attributes := #[] }, { accessFlags := 9, nameIndex := 252, descriptorIndex := 53, attributes := #[] }, { accessFlags := 9, nameIndex := 281, descriptorIndex := 282, attributes := #[] }] 48 4 #[] #[{ accessFlags := 4120, nameIndex := 121, descriptorIndex := 122, attributes := #[] }])
  fields := #[{ name := "$assertionsDisabled", type := .boolean, accessFlags := 4120, slot := 0, constantValue := 0 }]
  methods := #[k8m0, k8m1, k8m2]
  instanceTypes := #[]
  staticTypes := #[.boolean]
  resolved := Array.replicate 395 none
  statics := none }

def pool9 : Array CpInfo := pool [(2, .class_ 4), (1, u "java/lang/Object"), (0, u "<init>"), (0, u "()V"), (17, .class_ 26), (1, u "jdk/internal/util/Preconditions"), (6, u "checkIndex"), (21, .class_ 56), (0, u "jdk/internal/util/Preconditions$4"), (57, .class_ 115), (0, u "jdk/internal/util/Preconditions$1"), (7, u "SIOOBE_FORMATTER"), (0, u "Ljava/util/function/BiFunction;"), (0, .class_ 126), (0, u "jdk/internal/util/Preconditions$2"), (3, u "AIOOBE_FORMATTER"), (0, .class_ 132), (0, u "jdk/internal/util/Preconditions$3"), (3, u "IOOBE_FORMATTER"), (41, u "(IILjava/util/function/BiFunction;)I")] 15

def k9m0 : Method := { name := "<init>", desc := "()V", sig := { parameters := [], returnType := none }, accessFlags := 1, code := none }
def k9c1 : Code := { maxStack := 3, maxLocals := 3, code := jdk_41_method_11_code, exceptionTable := #[], attributes := #[] }
def k9m1 : Method := { name := "checkIndex", desc := "(IILjava/util/function/BiFunction;)I", sig := { parameters := [.int, .int, (.object "java/util/function/BiFunction")], returnType := some .int }, accessFlags := 9, code := some k9c1 }
/-- jdk/internal/util/Preconditions -/
def k9 : Class := { plain "jdk/internal/util/Preconditions" (some 0) with
  accessFlags := 33
  interfaces := #[]
  cf := some (fileOf pool9 24 #[.nestMembers #[55, 131, 125, 114]] #[{ accessFlags := 1, nameIndex := 5, descriptorIndex := 6, attributes := #[] }, { accessFlags := 9, nameIndex := 33, descriptorIndex := 178, attributes := #[] }] 33 2 #[] #[{ accessFlags := 25, nameIndex := 123, descriptorIndex := 124, attributes := #[] }, { accessFlags := 25, nameIndex := 130, descriptorIndex := 124, attributes := #[] }, { accessFlags := 25, nameIndex := 136, descriptorIndex := 124, attributes := #[] }])
  fields := #[{ name := "SIOOBE_FORMATTER", type := (.object "java/util/function/BiFunction"), accessFlags := 25, slot := 0, constantValue := 0 }, { name := "AIOOBE_FORMATTER", type := (.object "java/util/function/BiFunction"), accessFlags := 25, slot := 1, constantValue := 0 }, { name := "IOOBE_FORMATTER", type := (.object "java/util/function/BiFunction"), accessFlags := 25, slot := 2, constantValue := 0 }]
  methods := #[k9m0, k9m1]
  instanceTypes := #[]
  staticTypes := #[(.object "java/util/function/BiFunction"), (.object "java/util/function/BiFunction"), (.object "java/util/function/BiFunction")]
  resolved := Array.replicate 194 none
  statics := some 1 }

def pool10 : Array CpInfo := pool [(6, .class_ 8), (1, u "java/lang/Object"), (0, u "<init>"), (0, u "()V"), (1, .class_ 14), (1, u "java/lang/StringUTF16"), (31, u "$assertionsDisabled"), (0, u "Z"), (13, u "HI_BYTE_SHIFT"), (0, u "I"), (2, u "LO_BYTE_SHIFT"), (49, .methodref 12 116), (0, .nameAndType 117 118), (0, u "compress"), (0, u "([CI[BII)I"), (3, u "([CII)[B"), (138, u "coderFromArrayLen"), (0, u "([BI)B"), (106, .class_ 371), (1, u "java/lang/StringUTF16$LinesSpliterator"), (58, u "MAX_LENGTH"), (196, .class_ 628), (0, u "java/lang/StringUTF16$CodePointsSpliterator"), (0, .class_ 630), (0, u "java/lang/StringUTF16$CharsSpliterator")] 4

def k10m0 : Method := { name := "<init>", desc := "()V", sig := { parameters := [], returnType := none }, accessFlags := 0, code := none }
def k10c1 : Code := { maxStack := 2, maxLocals := 2, code := jdk_52_method_15_code, exceptionTable := #[], attributes := #[] }
def k10m1 : Method := { name := "coderFromArrayLen", desc := "([BI)B", sig := { parameters := [(.array .byte), .int], returnType := some .byte }, accessFlags := 8, code := some k10c1 }
def k10c2 : Code := { maxStack := 5, maxLocals := 6, code := jdk_52_method_16_code, exceptionTable := #[], attributes := #[] }
def k10m2 : Method := { name := "compress", desc := "([CII)[B", sig := { parameters := [(.array .char), .int, .int], returnType := some (.array .byte) }, accessFlags := 9, code := some k10c2 }
def k10c3 : Code := { maxStack := 3, maxLocals := 7, code := jdk_52_method_21_code, exceptionTable := #[], attributes := #[] }
def k10m3 : Method := { name := "compress", desc := "([CI[BII)I", sig := { parameters := [(.array .char), .int, (.array .byte), .int, .int], returnType := some .int }, accessFlags := 9, code := some k10c3 }
/-- java/lang/StringUTF16 -/
def k10 : Class := { plain "java/lang/StringUTF16" (some 0) with
  accessFlags := 48
  interfaces := #[]
  cf := some (fileOf pool10 12 #[.nestMembers #[627, 629, 369]] #[{ accessFlags := 0, nameIndex := 9, descriptorIndex := 10, attributes := #[] }, { accessFlags := 8, nameIndex := 261, descriptorIndex := 262, attributes := #[] }, { accessFlags := 9, nameIndex := 117, descriptorIndex := 122, attributes := #[] }, { accessFlags := 9, nameIndex := 117, descriptorIndex := 118, attributes := #[] }] 48 6 #[] #[{ accessFlags := 26, nameIndex := 61, descriptorIndex := 62, attributes := #[] }, { accessFlags := 26, nameIndex := 65, descriptorIndex := 62, attributes := #[] }, { accessFlags := 24, nameIndex := 430, descriptorIndex := 62, attributes := #[] }, { accessFlags := 4120, nameIndex := 46, descriptorIndex := 47, attributes := #[] }])
  fields := #[{ name := "HI_BYTE_SHIFT", type := .int, accessFlags := 26, slot := 0, constantValue := 0 }, { name := "LO_BYTE_SHIFT", type := .int, accessFlags := 26, slot := 1, constantValue := 0 }, { name := "MAX_LENGTH", type := .int, accessFlags := 24, slot := 2, constantValue := 0 }, { name := "$assertionsDisabled", type := .boolean, accessFlags := 4120, slot := 3, constantValue := 0 }]
  methods := #[k10m0, k10m1, k10m2, k10m3]
  instanceTypes := #[]
  staticTypes := #[.int, .int, .int, .boolean]
  resolved := Array.replicate 635 none
  statics := none }

def pool11 : Array CpInfo := pool [(2, .class_ 4), (1, u "java/lang/Enum"), (0, u "name"), (0, u "Ljava/lang/String;"), (2, u "ordinal"), (0, u "I"), (1, .class_ 14), (1, u "java/lang/Object"), (4, u "hash"), (86, .class_ 108), (1, u "java/lang/Enum$EnumDesc"), (2, .class_ 112), (0, u "java/lang/constant/Constable"), (0, .class_ 114), (0, u "java/lang/Comparable"), (0, .class_ 116), (0, u "java/io/Serializable")] 87

/-- java/lang/Enum -/
def k11 : Class := { plain "java/lang/Enum" (some 0) with
  accessFlags := 1057
  interfaces := #[5, 3, 2]
  cf := some (fileOf pool11 2 #[.nestMembers #[106]] #[] 1057 12 #[111, 113, 115] #[{ accessFlags := 18, nameIndex := 5, descriptorIndex := 6, attributes := #[] }, { accessFlags := 18, nameIndex := 9, descriptorIndex := 10, attributes := #[] }, { accessFlags := 2, nameIndex := 19, descriptorIndex := 10, attributes := #[] }])
  fields := #[{ name := "name", type := (.object "java/lang/String"), accessFlags := 18, slot := 0, constantValue := 0 }, { name := "ordinal", type := .int, accessFlags := 18, slot := 1, constantValue := 0 }, { name := "hash", type := .int, accessFlags := 2, slot := 2, constantValue := 0 }]
  methods := #[]
  instanceTypes := #[(.object "java/lang/String"), .int, .int]
  staticTypes := #[]
  resolved := Array.replicate 204 none
  statics := none }

def pool12 : Array CpInfo := pool [(1, .class_ 2), (0, u "com/example/nearbid/nearbid/market/Role"), (2, u "BUYER"), (0, u "Lcom/example/nearbid/nearbid/market/Role;"), (2, u "SELLER"), (0, .fieldref 1 11), (0, .nameAndType 12 13), (0, u "$VALUES"), (0, u "[Lcom/example/nearbid/nearbid/market/Role;"), (0, .methodref 15 16), (0, .class_ 13), (0, .nameAndType 17 18), (0, u "clone"), (0, u "()Ljava/lang/Object;"), (1, .class_ 22), (1, u "java/lang/Enum"), (6, .fieldref 1 30), (0, .nameAndType 31 32), (0, u "label"), (0, u "Ljava/lang/String;"), (0, .methodref 1 34), (0, .nameAndType 35 36), (0, u "values"), (0, u "()[Lcom/example/nearbid/nearbid/market/Role;"), (0, .methodref 38 39), (0, .class_ 40), (0, .nameAndType 41 42), (0, u "java/lang/String"), (0, u "equals"), (0, u "(Ljava/lang/Object;)Z"), (14, u "(Ljava/lang/String;)Lcom/example/nearbid/nearbid/market/Role;"), (3, u "()Ljava/lang/String;"), (0, u "ofLabel")] 6

def k12c0 : Code := { maxStack := 1, maxLocals := 0, code := prog_34_method_1_code, exceptionTable := #[], attributes := #[] }
def k12m0 : Method := { name := "values", desc := "()[Lcom/example/nearbid/nearbid/market/Role;", sig := { parameters := [], returnType := some (.array (.object "com/example/nearbid/nearbid/market/Role")) }, accessFlags := 9, code := some k12c0 }
def k12c1 : Code := { maxStack := 1, maxLocals := 1, code := prog_34_method_4_code, exceptionTable := #[], attributes := #[] }
def k12m1 : Method := { name := "label", desc := "()Ljava/lang/String;", sig := { parameters := [], returnType := some (.object "java/lang/String") }, accessFlags := 1, code := some k12c1 }
def k12c2 : Code := { maxStack := 2, maxLocals := 5, code := prog_34_method_5_code, exceptionTable := #[], attributes := #[] }
def k12m2 : Method := { name := "ofLabel", desc := "(Ljava/lang/String;)Lcom/example/nearbid/nearbid/market/Role;", sig := { parameters := [(.object "java/lang/String")], returnType := some (.object "com/example/nearbid/nearbid/market/Role") }, accessFlags := 9, code := some k12c2 }
/-- com/example/nearbid/nearbid/market/Role -/
def k12 : Class := { plain "com/example/nearbid/nearbid/market/Role" (some 11) with
  accessFlags := 16433
  interfaces := #[]
  cf := some (fileOf pool12 1 #[] #[{ accessFlags := 9, nameIndex := 35, descriptorIndex := 36, attributes := #[] }, { accessFlags := 1, nameIndex := 31, descriptorIndex := 61, attributes := #[] }, { accessFlags := 9, nameIndex := 62, descriptorIndex := 57, attributes := #[] }] 16433 20 #[] #[{ accessFlags := 16409, nameIndex := 5, descriptorIndex := 6, attributes := #[] }, { accessFlags := 16409, nameIndex := 9, descriptorIndex := 6, attributes := #[] }, { accessFlags := 18, nameIndex := 31, descriptorIndex := 32, attributes := #[] }, { accessFlags := 4122, nameIndex := 12, descriptorIndex := 13, attributes := #[] }])
  fields := #[{ name := "BUYER", type := (.object "com/example/nearbid/nearbid/market/Role"), accessFlags := 16409, slot := 0, constantValue := 0 }, { name := "SELLER", type := (.object "com/example/nearbid/nearbid/market/Role"), accessFlags := 16409, slot := 1, constantValue := 0 }, { name := "label", type := (.object "java/lang/String"), accessFlags := 18, slot := 3, constantValue := 0 }, { name := "$VALUES", type := (.array (.object "com/example/nearbid/nearbid/market/Role")), accessFlags := 4122, slot := 2, constantValue := 0 }]
  methods := #[k12m0, k12m1, k12m2]
  instanceTypes := #[(.object "java/lang/String"), .int, .int, (.object "java/lang/String")]
  staticTypes := #[(.object "com/example/nearbid/nearbid/market/Role"), (.object "com/example/nearbid/nearbid/market/Role"), (.array (.object "com/example/nearbid/nearbid/market/Role"))]
  resolved := Array.replicate 69 none
  statics := some 2 }

def pool13 : Array CpInfo := pool [(1, .class_ 2), (0, u "java/lang/Cloneable"), (0, .class_ 4), (0, u "java/lang/Object")] 2

/-- java/lang/Cloneable -/
def k13 : Class := { plain "java/lang/Cloneable" (some 0) with
  accessFlags := 1537
  interfaces := #[]
  cf := some (fileOf pool13 1 #[] #[] 1537 3 #[] #[])
  fields := #[]
  methods := #[]
  instanceTypes := #[]
  staticTypes := #[]
  resolved := Array.replicate 7 none
  statics := none }

def pool14 : Array CpInfo := pool [(9, u "<init>"), (6, .class_ 18), (1, u "java/lang/Object"), (0, u "()V"), (1, .class_ 23), (1, u "jdk/internal/util/ArraysSupport"), (0, u "LOG2_ARRAY_LONG_INDEX_SCALE"), (0, u "I"), (2, u "U"), (0, u "Ljdk/internal/misc/Unsafe;"), (8, u "BIG_ENDIAN"), (0, u "Z"), (8, u "LOG2_BYTE_BIT_SIZE"), (4, u "LOG2_ARRAY_INT_INDEX_SCALE"), (54, u "JLA"), (0, u "Ljdk/internal/access/JavaLangAccess;"), (11, u "LOG2_ARRAY_BOOLEAN_INDEX_SCALE"), (9, u "LOG2_ARRAY_BYTE_INDEX_SCALE"), (5, u "LOG2_ARRAY_CHAR_INDEX_SCALE"), (5, u "LOG2_ARRAY_SHORT_INDEX_SCALE"), (18, u "LOG2_ARRAY_FLOAT_INDEX_SCALE"), (24, u "LOG2_ARRAY_DOUBLE_INDEX_SCALE"), (89, u "T_BOOLEAN"), (2, u "T_CHAR"), (1, u "T_FLOAT"), (1, u "T_DOUBLE"), (1, u "T_BYTE"), (1, u "T_SHORT"), (1, u "T_INT"), (1, u "T_LONG"), (1, u "SOFT_MAX_ARRAY_LENGTH")] 83

def k14m0 : Method := { name := "<init>", desc := "()V", sig := { parameters := [], returnType := none }, accessFlags := 2, code := none }
/-- jdk/internal/util/ArraysSupport -/
def k14 : Class := { plain "jdk/internal/util/ArraysSupport" (some 0) with
  accessFlags := 33
  interfaces := #[]
  cf := some (fileOf pool14 21 #[] #[{ accessFlags := 2, nameIndex := 9, descriptorIndex := 19, attributes := #[] }] 33 16 #[] #[{ accessFlags := 24, nameIndex := 28, descriptorIndex := 29, attributes := #[] }, { accessFlags := 26, nameIndex := 38, descriptorIndex := 39, attributes := #[] }, { accessFlags := 25, nameIndex := 121, descriptorIndex := 25, attributes := #[] }, { accessFlags := 25, nameIndex := 131, descriptorIndex := 25, attributes := #[] }, { accessFlags := 25, nameIndex := 137, descriptorIndex := 25, attributes := #[] }, { accessFlags := 25, nameIndex := 143, descriptorIndex := 25, attributes := #[] }, { accessFlags := 25, nameIndex := 53, descriptorIndex := 25, attributes := #[] }, { accessFlags := 25, nameIndex := 24, descriptorIndex := 25, attributes := #[] }, { accessFlags := 25, nameIndex := 162, descriptorIndex := 25, attributes := #[] }, { accessFlags := 25, nameIndex := 187, descriptorIndex := 25, attributes := #[] }, { accessFlags := 26, nameIndex := 48, descriptorIndex := 25, attributes := #[] }, { accessFlags := 25, nameIndex := 277, descriptorIndex := 25, attributes := #[] }, { accessFlags := 25, nameIndex := 280, descriptorIndex := 25, attributes := #[] }, { accessFlags := 25, nameIndex := 282, descriptorIndex := 25, attributes := #[] }, { accessFlags := 25, nameIndex := 284, descriptorIndex := 25, attributes := #[] }, { accessFlags := 25, nameIndex := 286, descriptorIndex := 25, attributes := #[] }, { accessFlags := 25, nameIndex := 288, descriptorIndex := 25, attributes := #[] }, { accessFlags := 25, nameIndex := 290, descriptorIndex := 25, attributes := #[] }, { accessFlags := 25, nameIndex := 292, descriptorIndex := 25, attributes := #[] }, { accessFlags := 26, nameIndex := 108, descriptorIndex := 109, attributes := #[] }, { accessFlags := 25, nameIndex := 294, descriptorIndex := 25, attributes := #[] }])
  fields := #[{ name := "U", type := (.object "jdk/internal/misc/Unsafe"), accessFlags := 24, slot := 0, constantValue := 0 }, { name := "BIG_ENDIAN", type := .boolean, accessFlags := 26, slot := 1, constantValue := 0 }, { name := "LOG2_ARRAY_BOOLEAN_INDEX_SCALE", type := .int, accessFlags := 25, slot := 2, constantValue := 0 }, { name := "LOG2_ARRAY_BYTE_INDEX_SCALE", type := .int, accessFlags := 25, slot := 3, constantValue := 0 }, { name := "LOG2_ARRAY_CHAR_INDEX_SCALE", type := .int, accessFlags := 25, slot := 4, constantValue := 0 }, { name := "LOG2_ARRAY_SHORT_INDEX_SCALE", type := .int, accessFlags := 25, slot := 5, constantValue := 0 }, { name := "LOG2_ARRAY_INT_INDEX_SCALE", type := .int, accessFlags := 25, slot := 6, constantValue := 0 }, { name := "LOG2_ARRAY_LONG_INDEX_SCALE", type := .int, accessFlags := 25, slot := 7, constantValue := 0 }, { name := "LOG2_ARRAY_FLOAT_INDEX_SCALE", type := .int, accessFlags := 25, slot := 8, constantValue := 0 }, { name := "LOG2_ARRAY_DOUBLE_INDEX_SCALE", type := .int, accessFlags := 25, slot := 9, constantValue := 0 }, { name := "LOG2_BYTE_BIT_SIZE", type := .int, accessFlags := 26, slot := 10, constantValue := 0 }, { name := "T_BOOLEAN", type := .int, accessFlags := 25, slot := 11, constantValue := 0 }, { name := "T_CHAR", type := .int, accessFlags := 25, slot := 12, constantValue := 0 }, { name := "T_FLOAT", type := .int, accessFlags := 25, slot := 13, constantValue := 0 }, { name := "T_DOUBLE", type := .int, accessFlags := 25, slot := 14, constantValue := 0 }, { name := "T_BYTE", type := .int, accessFlags := 25, slot := 15, constantValue := 0 }, { name := "T_SHORT", type := .int, accessFlags := 25, slot := 16, constantValue := 0 }, { name := "T_INT", type := .int, accessFlags := 25, slot := 17, constantValue := 0 }, { name := "T_LONG", type := .int, accessFlags := 25, slot := 18, constantValue := 0 }, { name := "JLA", type := (.object "jdk/internal/access/JavaLangAccess"), accessFlags := 26, slot := 19, constantValue := 0 }, { name := "SOFT_MAX_ARRAY_LENGTH", type := .int, accessFlags := 25, slot := 20, constantValue := 0 }]
  methods := #[k14m0]
  instanceTypes := #[]
  staticTypes := #[(.object "jdk/internal/misc/Unsafe"), .boolean, .int, .int, .int, .int, .int, .int, .int, .int, .int, .int, .int, .int, .int, .int, .int, .int, .int, (.object "jdk/internal/access/JavaLangAccess"), .int]
  resolved := Array.replicate 378 none
  statics := none }

/-- the primitive byte -/
def k15 : Class := { plain "byte" none with kind := .primitive 'B', accessFlags := 0x411 }
/-- [B -/
def k16 : Class := { plain "[B" (some 0) with kind := .array 15 .byte, interfaces := #[13, 2], accessFlags := 1041 }

/-- the primitive char -/
def k17 : Class := { plain "char" none with kind := .primitive 'C', accessFlags := 0x411 }
/-- [C -/
def k18 : Class := { plain "[C" (some 0) with kind := .array 17 .char, interfaces := #[13, 2], accessFlags := 1041 }

/-- the primitive int -/
def k19 : Class := { plain "int" none with kind := .primitive 'I', accessFlags := 0x411 }
/-- [I -/
def k20 : Class := { plain "[I" (some 0) with kind := .array 19 .int, interfaces := #[13, 2], accessFlags := 1041 }

/-- [Lcom/example/nearbid/nearbid/market/Role; -/
def k21 : Class := { plain "[Lcom/example/nearbid/nearbid/market/Role;" (some 0) with kind := .array 12 (.object "com/example/nearbid/nearbid/market/Role"), interfaces := #[13, 2], accessFlags := 1041 }

def heap : Heap := #[{ cls := 7, slots := #[.long 0, .int 1, .null, .int 0, .null, .int 0, .int 0], vm := .statics 7 },
  { cls := 9, slots := #[.null, .null, .null], vm := .statics 9 },
  { cls := 12, slots := #[.ref 4, .ref 5, .ref 3], vm := .statics 12 },
  { cls := 21, slots := #[.ref 4, .ref 5], vm := .none },
  { cls := 12, slots := #[.null, .int 0, .int 0, .ref 6], vm := .none },
  { cls := 12, slots := #[.null, .int 1, .int 0, .ref 7], vm := .none },
  { cls := 7, slots := #[.ref 8, .int 0, .int 0, .int 0], vm := .none },
  { cls := 7, slots := #[.ref 9, .int 0, .int 0, .int 0], vm := .none },
  { cls := 16, slots := #[.int 98, .int 117, .int 121, .int 101, .int 114], vm := .none },
  { cls := 16, slots := #[.int 115, .int 101, .int 108, .int 108, .int 101, .int 114], vm := .none }]
def classes : Array Class := #[k0, k1, k2, k3, k4, k5, k6, k7, k8, k9, k10, k11, k12, k13, k14, k15, k16, k17, k18, k19, k20, k21]
def interned : List (Array UInt16 × Addr) := []
def slotsUsed : Nat := 42
def theMethod : MethodId := ⟨1, 2⟩
def args0 : Array Value := #[.int 5, .int 7, .int 9, .int 1]
def aboutOver (below : List Frame) : State where
  vm := { classes := classes, interned := interned.toArray }
  heap := heap
  slotsUsed := slotsUsed
  threads := #[{ frames := .invoking theMethod args0 :: below }]
def below0 : List Frame := [.native { method := ⟨0, 0⟩, args := #[] }]
def about1 : State := aboutOver below0
def p0 : Program := .bare "" "" ""
def e0 : Env := launch0.env 0 0 0
theorem w_frames : about1.frames = Frame.invoking theMethod args0 :: below0 := rfl
set_option maxRecDepth 65536 in
theorem w_args : argsFit about1.vm theMethod args0 = true := by decide +kernel
set_option maxRecDepth 65536 in
theorem w_heap : heapFits about1 = true := by decide +kernel
set_option maxRecDepth 65536 in
theorem w_runnable : about1.curStatus? = some .runnable := by decide +kernel
set_option maxRecDepth 65536 in
theorem w_alone : about1.alone = true := by decide +kernel
set_option maxRecDepth 65536 in
theorem w_named : about1.methodNamed? x = some theMethod := by decide +kernel
set_option maxRecDepth 65536 in
theorem w_hears : about1.hears theMethod below0 = true := by decide +kernel
set_option maxRecDepth 65536 in
theorem w_ripe : about1.ripe theMethod args0 below0 = true := by decide +kernel
theorem w_running : about1.status = .running := rfl
set_option maxRecDepth 65536 in
theorem w_room : about1.hasRoom e0.platform room_1 = true :=
  launch0.hasRoom_least _ room_1 (by decide +kernel) (by decide +kernel) (by decide +kernel) (by decide +kernel) (by decide +kernel) (by decide +kernel)
theorem allAtoms_all (ts : List Jvm.Cond) (a : Array Jvm.Value) (st : Jvm.State) : (allAtoms ts).before a st = ts.all (fun c => c.before a st) := by
  induction ts with
  | nil => rfl
  | cons c t ih =>
    show (Jvm.Cond.and c (allAtoms t)).before a st = _
    rw [Jvm.Cond.before_and, ih, List.all_cons]
def words1 : List Jvm.Cond := Jvm.Cond.code x code maxLocals ret :: tables_1
/-- a 'code' word, met by the world's own term for the bytes: nothing is compared byte by byte -/
theorem code_word {y : MethodName} {bytes : ByteArray} {mx : Nat} {rt : Option FieldType} {a : Array Value} {s : State} {m : MethodId} {meth : Method} {c : Code} (h1 : s.methodNamed? y = some m) (h2 : s.vm.method? m = some meth) (h3 : meth.code = some c) (h4 : c.code = bytes)
    (h5 : (c.maxLocals == mx && c.exceptionTable.isEmpty && decide (c.maxStack ≤ mostOperands) && decide (meth.sig.returnType = rt) && !meth.locks && decide (parseMethodDescriptor y.desc = some meth.sig)) = true) : (Jvm.Cond.code y bytes mx rt).before a s = true := by
  simp only [Bool.and_eq_true, beq_iff_eq, Bool.not_eq_true', decide_eq_true_eq] at h5
  obtain ⟨⟨⟨⟨⟨g1, g2⟩, g3⟩, g4⟩, g5⟩, g6⟩ := h5
  simp [Cond.before, Cond.holds, Cond.value, h1, h2, h3, h4, g1, g2, g3, g4, g5, g6]
def isCode : Jvm.Cond → Bool
  | .code _ _ _ _ => true
  | _ => false
theorem all_split {L : List Jvm.Cond} {P : Jvm.Cond → Bool} (h1 : L.all (fun c => isCode c || P c) = true) (h2 : ∀ c ∈ L.filter isCode, P c = true) : L.all P = true := by
  refine List.all_eq_true.mpr fun c hc => ?_
  have h := List.all_eq_true.mp h1 c hc
  rcases Bool.eq_false_or_eq_true (isCode c) with hi | hi
  · exact h2 c (List.mem_filter.mpr ⟨hc, hi⟩)
  · simpa [hi] using h
set_option maxRecDepth 65536 in
theorem w_c0 : (Jvm.Cond.code x code maxLocals ret).before args0 about1 = true := code_word (m := ⟨1, 2⟩) (meth := k1m2) (c := k1c2) (by decide +kernel) rfl rfl rfl (by decide +kernel)
set_option maxRecDepth 65536 in
theorem w_c1 : (Jvm.Cond.code ({ cls := "java/lang/String", name := "length", desc := "()I" } : Jvm.MethodName) jdk_42_method_54_code (1 : Nat) (Option.some Jvm.ClassFile.FieldType.int)).before args0 about1 = true := code_word (m := ⟨7, 2⟩) (meth := k7m2) (c := k7c2) (by decide +kernel) rfl rfl rfl (by decide +kernel)
set_option maxRecDepth 65536 in
theorem w_c2 : (Jvm.Cond.code ({ cls := "java/lang/String", name := "coder", desc := "()B" } : Jvm.MethodName) jdk_42_method_152_code (1 : Nat) (Option.some Jvm.ClassFile.FieldType.byte)).before args0 about1 = true := code_word (m := ⟨7, 6⟩) (meth := k7m6) (c := k7c6) (by decide +kernel) rfl rfl rfl (by decide +kernel)
set_option maxRecDepth 65536 in
theorem w_c3 : (Jvm.Cond.code ({ cls := "com/example/nearbid/nearbid/market/RoleOfLabelPinLaw", name := "put", desc := "([CILjava/lang/String;I)V" } : Jvm.MethodName) method_2_code (4 : Nat) (Option.none : Option Jvm.ClassFile.FieldType)).before args0 about1 = true := code_word (m := ⟨1, 1⟩) (meth := k1m1) (c := k1c1) (by decide +kernel) rfl rfl rfl (by decide +kernel)
set_option maxRecDepth 65536 in
theorem w_c4 : (Jvm.Cond.code ({ cls := "java/lang/String", name := "charAt", desc := "(I)C" } : Jvm.MethodName) jdk_42_method_56_code (2 : Nat) (Option.some Jvm.ClassFile.FieldType.char)).before args0 about1 = true := code_word (m := ⟨7, 3⟩) (meth := k7m3) (c := k7c3) (by decide +kernel) rfl rfl rfl (by decide +kernel)
set_option maxRecDepth 65536 in
theorem w_c5 : (Jvm.Cond.code ({ cls := "java/lang/String", name := "isLatin1", desc := "()Z" } : Jvm.MethodName) jdk_42_method_154_code (1 : Nat) (Option.some Jvm.ClassFile.FieldType.boolean)).before args0 about1 = true := code_word (m := ⟨7, 7⟩) (meth := k7m7) (c := k7c7) (by decide +kernel) rfl rfl rfl (by decide +kernel)
set_option maxRecDepth 65536 in
theorem w_c6 : (Jvm.Cond.code ({ cls := "java/lang/StringLatin1", name := "charAt", desc := "([BI)C" } : Jvm.MethodName) jdk_43_method_2_code (2 : Nat) (Option.some Jvm.ClassFile.FieldType.char)).before args0 about1 = true := code_word (m := ⟨8, 1⟩) (meth := k8m1) (c := k8c1) (by decide +kernel) rfl rfl rfl (by decide +kernel)
set_option maxRecDepth 65536 in
theorem w_c7 : (Jvm.Cond.code ({ cls := "java/lang/String", name := "checkIndex", desc := "(II)V" } : Jvm.MethodName) jdk_42_method_155_code (2 : Nat) (Option.none : Option Jvm.ClassFile.FieldType)).before args0 about1 = true := code_word (m := ⟨7, 8⟩) (meth := k7m8) (c := k7c8) (by decide +kernel) rfl rfl rfl (by decide +kernel)
set_option maxRecDepth 65536 in
theorem w_c8 : (Jvm.Cond.code ({ cls := "jdk/internal/util/Preconditions", name := "checkIndex", desc := "(IILjava/util/function/BiFunction;)I" } : Jvm.MethodName) jdk_41_method_11_code (3 : Nat) (Option.some Jvm.ClassFile.FieldType.int)).before args0 about1 = true := code_word (m := ⟨9, 1⟩) (meth := k9m1) (c := k9c1) (by decide +kernel) rfl rfl rfl (by decide +kernel)
set_option maxRecDepth 65536 in
theorem w_c9 : (Jvm.Cond.code ({ cls := "java/lang/String", name := "<init>", desc := "([C)V" } : Jvm.MethodName) jdk_42_method_3_code (2 : Nat) (Option.none : Option Jvm.ClassFile.FieldType)).before args0 about1 = true := code_word (m := ⟨7, 1⟩) (meth := k7m1) (c := k7c1) (by decide +kernel) rfl rfl rfl (by decide +kernel)
set_option maxRecDepth 65536 in
theorem w_c10 : (Jvm.Cond.code ({ cls := "java/lang/String", name := "<init>", desc := "([CIILjava/lang/Void;)V" } : Jvm.MethodName) jdk_42_method_149_code (6 : Nat) (Option.none : Option Jvm.ClassFile.FieldType)).before args0 about1 = true := code_word (m := ⟨7, 5⟩) (meth := k7m5) (c := k7c5) (by decide +kernel) rfl rfl rfl (by decide +kernel)
set_option maxRecDepth 65536 in
theorem w_c11 : (Jvm.Cond.code ({ cls := "java/lang/Object", name := "<init>", desc := "()V" } : Jvm.MethodName) object_method_1_code (1 : Nat) (Option.none : Option Jvm.ClassFile.FieldType)).before args0 about1 = true := code_word (m := ⟨0, 0⟩) (meth := k0m0) (c := k0c0) (by decide +kernel) rfl rfl rfl (by decide +kernel)
set_option maxRecDepth 65536 in
theorem w_c12 : (Jvm.Cond.code ({ cls := "java/lang/StringUTF16", name := "compress", desc := "([CII)[B" } : Jvm.MethodName) jdk_52_method_16_code (6 : Nat) (Option.some (Jvm.ClassFile.FieldType.array Jvm.ClassFile.FieldType.byte))).before args0 about1 = true := code_word (m := ⟨10, 2⟩) (meth := k10m2) (c := k10c2) (by decide +kernel) rfl rfl rfl (by decide +kernel)
set_option maxRecDepth 65536 in
theorem w_c13 : (Jvm.Cond.code ({ cls := "java/lang/StringUTF16", name := "compress", desc := "([CI[BII)I" } : Jvm.MethodName) jdk_52_method_21_code (7 : Nat) (Option.some Jvm.ClassFile.FieldType.int)).before args0 about1 = true := code_word (m := ⟨10, 3⟩) (meth := k10m3) (c := k10c3) (by decide +kernel) rfl rfl rfl (by decide +kernel)
set_option maxRecDepth 65536 in
theorem w_c14 : (Jvm.Cond.code ({ cls := "java/lang/StringUTF16", name := "coderFromArrayLen", desc := "([BI)B" } : Jvm.MethodName) jdk_52_method_15_code (2 : Nat) (Option.some Jvm.ClassFile.FieldType.byte)).before args0 about1 = true := code_word (m := ⟨10, 1⟩) (meth := k10m1) (c := k10c1) (by decide +kernel) rfl rfl rfl (by decide +kernel)
set_option maxRecDepth 65536 in
theorem w_c15 : (Jvm.Cond.code ({ cls := "com/example/nearbid/nearbid/market/Role", name := "ofLabel", desc := "(Ljava/lang/String;)Lcom/example/nearbid/nearbid/market/Role;" } : Jvm.MethodName) prog_34_method_5_code (5 : Nat) (Option.some (Jvm.ClassFile.FieldType.object "com/example/nearbid/nearbid/market/Role"))).before args0 about1 = true := code_word (m := ⟨12, 2⟩) (meth := k12m2) (c := k12c2) (by decide +kernel) rfl rfl rfl (by decide +kernel)
set_option maxRecDepth 65536 in
theorem w_c16 : (Jvm.Cond.code ({ cls := "com/example/nearbid/nearbid/market/Role", name := "values", desc := "()[Lcom/example/nearbid/nearbid/market/Role;" } : Jvm.MethodName) prog_34_method_1_code (0 : Nat) (Option.some (Jvm.ClassFile.FieldType.array (Jvm.ClassFile.FieldType.object "com/example/nearbid/nearbid/market/Role")))).before args0 about1 = true := code_word (m := ⟨12, 0⟩) (meth := k12m0) (c := k12c0) (by decide +kernel) rfl rfl rfl (by decide +kernel)
set_option maxRecDepth 65536 in
theorem w_c17 : (Jvm.Cond.code ({ cls := "java/lang/String", name := "equals", desc := "(Ljava/lang/Object;)Z" } : Jvm.MethodName) jdk_42_method_66_code (3 : Nat) (Option.some Jvm.ClassFile.FieldType.boolean)).before args0 about1 = true := code_word (m := ⟨7, 4⟩) (meth := k7m4) (c := k7c4) (by decide +kernel) rfl rfl rfl (by decide +kernel)
set_option maxRecDepth 65536 in
theorem w_c18 : (Jvm.Cond.code ({ cls := "java/lang/StringLatin1", name := "equals", desc := "([B[B)Z" } : Jvm.MethodName) jdk_43_method_13_code (3 : Nat) (Option.some Jvm.ClassFile.FieldType.boolean)).before args0 about1 = true := code_word (m := ⟨8, 2⟩) (meth := k8m2) (c := k8c2) (by decide +kernel) rfl rfl rfl (by decide +kernel)
set_option maxRecDepth 65536 in
theorem w_c19 : (Jvm.Cond.code ({ cls := "com/example/nearbid/nearbid/market/Role", name := "label", desc := "()Ljava/lang/String;" } : Jvm.MethodName) prog_34_method_4_code (1 : Nat) (Option.some (Jvm.ClassFile.FieldType.object "java/lang/String"))).before args0 about1 = true := code_word (m := ⟨12, 1⟩) (meth := k12m1) (c := k12c1) (by decide +kernel) rfl rfl rfl (by decide +kernel)
def codes1 : List Jvm.Cond := [Jvm.Cond.code x code maxLocals ret, Jvm.Cond.code ({ cls := "java/lang/String", name := "length", desc := "()I" } : Jvm.MethodName) jdk_42_method_54_code (1 : Nat) (Option.some Jvm.ClassFile.FieldType.int), Jvm.Cond.code ({ cls := "java/lang/String", name := "coder", desc := "()B" } : Jvm.MethodName) jdk_42_method_152_code (1 : Nat) (Option.some Jvm.ClassFile.FieldType.byte), Jvm.Cond.code ({ cls := "com/example/nearbid/nearbid/market/RoleOfLabelPinLaw", name := "put", desc := "([CILjava/lang/String;I)V" } : Jvm.MethodName) method_2_code (4 : Nat) (Option.none : Option Jvm.ClassFile.FieldType), Jvm.Cond.code ({ cls := "java/lang/String", name := "charAt", desc := "(I)C" } : Jvm.MethodName) jdk_42_method_56_code (2 : Nat) (Option.some Jvm.ClassFile.FieldType.char), Jvm.Cond.code ({ cls := "java/lang/String", name := "isLatin1", desc := "()Z" } : Jvm.MethodName) jdk_42_method_154_code (1 : Nat) (Option.some Jvm.ClassFile.FieldType.boolean), Jvm.Cond.code ({ cls := "java/lang/StringLatin1", name := "charAt", desc := "([BI)C" } : Jvm.MethodName) jdk_43_method_2_code (2 : Nat) (Option.some Jvm.ClassFile.FieldType.char), Jvm.Cond.code ({ cls := "java/lang/String", name := "checkIndex", desc := "(II)V" } : Jvm.MethodName) jdk_42_method_155_code (2 : Nat) (Option.none : Option Jvm.ClassFile.FieldType), Jvm.Cond.code ({ cls := "jdk/internal/util/Preconditions", name := "checkIndex", desc := "(IILjava/util/function/BiFunction;)I" } : Jvm.MethodName) jdk_41_method_11_code (3 : Nat) (Option.some Jvm.ClassFile.FieldType.int), Jvm.Cond.code ({ cls := "java/lang/String", name := "<init>", desc := "([C)V" } : Jvm.MethodName) jdk_42_method_3_code (2 : Nat) (Option.none : Option Jvm.ClassFile.FieldType), Jvm.Cond.code ({ cls := "java/lang/String", name := "<init>", desc := "([CIILjava/lang/Void;)V" } : Jvm.MethodName) jdk_42_method_149_code (6 : Nat) (Option.none : Option Jvm.ClassFile.FieldType), Jvm.Cond.code ({ cls := "java/lang/Object", name := "<init>", desc := "()V" } : Jvm.MethodName) object_method_1_code (1 : Nat) (Option.none : Option Jvm.ClassFile.FieldType), Jvm.Cond.code ({ cls := "java/lang/StringUTF16", name := "compress", desc := "([CII)[B" } : Jvm.MethodName) jdk_52_method_16_code (6 : Nat) (Option.some (Jvm.ClassFile.FieldType.array Jvm.ClassFile.FieldType.byte)), Jvm.Cond.code ({ cls := "java/lang/StringUTF16", name := "compress", desc := "([CI[BII)I" } : Jvm.MethodName) jdk_52_method_21_code (7 : Nat) (Option.some Jvm.ClassFile.FieldType.int), Jvm.Cond.code ({ cls := "java/lang/StringUTF16", name := "coderFromArrayLen", desc := "([BI)B" } : Jvm.MethodName) jdk_52_method_15_code (2 : Nat) (Option.some Jvm.ClassFile.FieldType.byte), Jvm.Cond.code ({ cls := "com/example/nearbid/nearbid/market/Role", name := "ofLabel", desc := "(Ljava/lang/String;)Lcom/example/nearbid/nearbid/market/Role;" } : Jvm.MethodName) prog_34_method_5_code (5 : Nat) (Option.some (Jvm.ClassFile.FieldType.object "com/example/nearbid/nearbid/market/Role")), Jvm.Cond.code ({ cls := "com/example/nearbid/nearbid/market/Role", name := "values", desc := "()[Lcom/example/nearbid/nearbid/market/Role;" } : Jvm.MethodName) prog_34_method_1_code (0 : Nat) (Option.some (Jvm.ClassFile.FieldType.array (Jvm.ClassFile.FieldType.object "com/example/nearbid/nearbid/market/Role"))), Jvm.Cond.code ({ cls := "java/lang/String", name := "equals", desc := "(Ljava/lang/Object;)Z" } : Jvm.MethodName) jdk_42_method_66_code (3 : Nat) (Option.some Jvm.ClassFile.FieldType.boolean), Jvm.Cond.code ({ cls := "java/lang/StringLatin1", name := "equals", desc := "([B[B)Z" } : Jvm.MethodName) jdk_43_method_13_code (3 : Nat) (Option.some Jvm.ClassFile.FieldType.boolean), Jvm.Cond.code ({ cls := "com/example/nearbid/nearbid/market/Role", name := "label", desc := "()Ljava/lang/String;" } : Jvm.MethodName) prog_34_method_4_code (1 : Nat) (Option.some (Jvm.ClassFile.FieldType.object "java/lang/String"))]
set_option maxRecDepth 65536 in
theorem codes_eq : words1.filter isCode = codes1 := rfl
theorem w_codes : ∀ c ∈ words1.filter isCode, c.before args0 about1 = true := by
  rw [codes_eq]
  intro c hc
  simp only [codes1, List.mem_cons, List.not_mem_nil, or_false] at hc
  rcases hc with rfl | rfl | rfl | rfl | rfl | rfl | rfl | rfl | rfl | rfl | rfl | rfl | rfl | rfl | rfl | rfl | rfl | rfl | rfl | rfl
  · exact w_c0
  · exact w_c1
  · exact w_c2
  · exact w_c3
  · exact w_c4
  · exact w_c5
  · exact w_c6
  · exact w_c7
  · exact w_c8
  · exact w_c9
  · exact w_c10
  · exact w_c11
  · exact w_c12
  · exact w_c13
  · exact w_c14
  · exact w_c15
  · exact w_c16
  · exact w_c17
  · exact w_c18
  · exact w_c19
set_option maxRecDepth 65536 in
theorem w_t1 : (words1.take 24).all (fun c => isCode c || c.before args0 about1) = true := by decide +kernel
set_option maxRecDepth 65536 in
theorem w_t2 : ((words1.drop 24).take 24).all (fun c => isCode c || c.before args0 about1) = true := by decide +kernel
set_option maxRecDepth 65536 in
theorem w_t3 : (((words1.drop 24).drop 24).take 24).all (fun c => isCode c || c.before args0 about1) = true := by decide +kernel
set_option maxRecDepth 65536 in
theorem w_t4 : ((((words1.drop 24).drop 24).drop 24).take 24).all (fun c => isCode c || c.before args0 about1) = true := by decide +kernel
set_option maxRecDepth 65536 in
theorem w_t5 : ((((words1.drop 24).drop 24).drop 24).drop 24).all (fun c => isCode c || c.before args0 about1) = true := by decide +kernel
theorem w_tables : (allAtoms (Jvm.Cond.code x code maxLocals ret :: tables_1)).before args0 about1 = true := by
  rw [allAtoms_all]
  show words1.all (fun c => c.before args0 about1) = true
  refine all_split ?_ w_codes
  rw [← List.take_append_drop 24 words1, List.all_append, w_t1, ← List.take_append_drop 24 (words1.drop 24), List.all_append, w_t2, ← List.take_append_drop 24 ((words1.drop 24).drop 24), List.all_append, w_t3, ← List.take_append_drop 24 (((words1.drop 24).drop 24).drop 24), List.all_append, w_t4, w_t5]
  rfl
set_option maxRecDepth 65536 in
theorem w_rest : rest_1_c.before args0 about1 = true := by decide +kernel
set_option maxRecDepth 65536 in
theorem w_case : (Jvm.Cond.and given_1 narrow_1).before args0 about1 = true := by decide +kernel
set_option maxRecDepth 65536 in
theorem w_consts : constsHeld consts_1 about1 := Jvm.Lit.constsHeldB_iff.mp (by decide +kernel)
theorem w_applies : (headSpec (Jvm.Cond.code x code maxLocals ret :: tables_1) room_1).applies x e0.platform about1 = true :=
  (Spec.applies_iff w_frames).mpr ⟨w_running, w_runnable, w_alone, w_named, w_hears, w_ripe, w_room, w_tables⟩
theorem atStart : AtStart classFile x code maxLocals ret World_1 tables_1 room_1 Calls_1 rest_1 Pre_1 launch0 p0 e0 about1 theMethod args0 below0 :=
  ⟨lists_1, trivial, launch0.admits_env _ _ _, launch0.least_env, fairChoices_fair.cas, fairChoices_fair.clock, w_frames, w_args, w_heap, w_applies, ⟨w_consts, trivial⟩, w_rest, w_case⟩
end start1
theorem witness_1 : WitnessClaimed_1 := ⟨start1.p0, start1.e0, start1.about1, start1.theMethod, start1.args0, start1.below0, start1.atStart⟩
end Jvm.Pilot.@@N@@
