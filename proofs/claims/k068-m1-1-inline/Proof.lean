import JvmDerived
import JvmDerived.Pilot.@@N@@Statement
import JvmDerived.Pilot.@@N@@Code
set_option linter.unusedVariables false
set_option linter.unusedSimpArgs false
namespace Jvm.Own
open Jvm Jvm.ClassFile Sem Op Lib Jvm.Free Jvm.Stand Jvm.LawKit Jvm.RoadKit Bundle
def D1 (b : ByteArray) (pc : Nat) (i : Instr) (len nx : Nat) : Prop := decode b pc = .ok (i, len) ∧ pc + len = nx
def DJ (b : ByteArray) (pc : Nat) (i : Int → Instr) (o : Int) (nx tgt : Nat) : Prop := decode b pc = .ok (i o, 3) ∧ pc + 3 = nx ∧ (pc : Int) + o = (tgt : Int)
/-- private cells: no booked literal lies there -/
def SafeL (Z : State) (EL : List (String × Nat)) (vm : Vm) (h : Heap) (F : List Addr) : Prop := ∀ x ∈ F, x < h.size ∧ Safe Z EL vm h x
/-- the start's two words on known tables and frames -/
def Gn (Z : State) : Prop := Z.vm.MethodsKnown ∧ Z.vm.FramesKnown (Z.frames.drop 1)
/-- what a walk knows of the frames beneath and of the heap at its own start -/
def Kn (Z s : State) (below : List Frame) : Prop := (Gn Z → Z.vm.FramesKnown below) ∧ Ext Z.heap s.heap
/-- where a walk stands -/
def Std (l : Launch) (Z : State) (EL : List (String × Nat)) (n0 : Nat) (R : Room) (y : MethodName) (bytes : ByteArray) (ml : Nat) (ret : Option FieldType)
    (p : Program) (e : Env) (s : State) (m : MethodId) (args : Array Value) (below : List Frame) (meth : Method) (c : Code) (T : State) (vm0 : Vm) (locs : List Loc) (F : List Addr) (h : Heap) (cells slots : Nat) : Prop :=
  Stand p l e R (s.setVm vm0) m args below meth c T locs cells slots ∧ T.heap = h ∧ (∃ k, s.Since vm0 k ∧ k ≤ h.size) ∧ Z.Warmed39 vm0 ∧ vm0.findClass y.cls = some m.cls ∧ CHr Z EL s.vm s.heap vm0 h ∧ SafeL Z EL vm0 h F ∧ Fr n0 locs ∧ Old Z n0 h ∧
    p.tables.exec = Jvm.exec ∧ c.code = bytes ∧ c.maxLocals = ml ∧ meth.sig.returnType = ret ∧ meth.locks = false ∧ meth.name = y.name ∧ (∃ a0, EW Z a0 EL) ∧ Kn Z s below
/-- how a walk ends -/
def Done (l : Launch) (Z : State) (EL : List (String × Nat)) (n0 : Nat) (R : Room) (Q : Option Value → Heap → List Addr → Prop) (p : Program) (e : Env) (s : State) (below : List Frame) (U : State) : Prop :=
  ∃ t o, Steps p.tables e below U t ∧ t.status = .running ∧ Ended t below o ∧ ∃ v L, o = .returned v ∧ ((∃ F, Q v t.heap F ∧ SafeL Z EL t.vm t.heap F) ∧ Fr n0 L ∧ Old Z n0 t.heap) ∧ CHr Z EL s.vm s.heap t.vm t.heap ∧ ReturnedEndW s o t L R.cells R.slots
/-- from a standing walk at this frame the method returns as Q says -/
def WP (l : Launch) (Z : State) (EL : List (String × Nat)) (n0 : Nat) (R : Room) (y : MethodName) (bytes : ByteArray) (ml : Nat) (ret : Option FieldType) (Q : Option Value → Heap → List Addr → Prop)
    (F : List Addr) (h : Heap) (cells slots pc : Nat) (Ls : Array Slot) (S : List Value) : Prop :=
  ∀ p e s m args below meth c T vm0 locs, Std l Z EL n0 R y bytes ml ret p e s m args below meth c T vm0 locs F h cells slots → Done l Z EL n0 R Q p e s below (T.setTop (mkF m pc Ls S))
section Rules
variable {l : Launch} {Z : State} {EL : List (String × Nat)} {n0 : Nat} {R : Room} {y : MethodName} {bytes : ByteArray} {ml : Nat} {ret : Option FieldType} {Q : Option Value → Heap → List Addr → Prop}
  {F : List Addr} {h : Heap} {cells slots pc pc' : Nat} {Ls Ls' : Array Slot} {S S' : List Value} {a0 : Array Value}
theorem Done.step {p : Program} {e : Env} {s : State} {below : List Frame} {U V : State} (st : ∀ t, Steps p.tables e below U t → Steps p.tables e below V t) (D : Done l Z EL n0 R Q p e s below U) : Done l Z EL n0 R Q p e s below V := by
  obtain ⟨t, o, h1, r⟩ := D
  exact ⟨t, o, st t h1, r⟩
theorem WP.lift (st : ∀ (p : Program) (e : Env) (m : MethodId) (c : Code) (below : List Frame) (T t : State), p.tables.exec = Jvm.exec → c.code = bytes → At T m c below → Steps p.tables e below (T.setTop (mkF m pc' Ls' S')) t → Steps p.tables e below (T.setTop (mkF m pc Ls S)) t)
    (k : WP l Z EL n0 R y bytes ml ret Q F h cells slots pc' Ls' S') : WP l Z EL n0 R y bytes ml ret Q F h cells slots pc Ls S :=
  fun p e s m args below meth c T vm0 locs D => (k p e s m args below meth c T vm0 locs D).step fun t q => st p e m c below T t D.2.2.2.2.2.2.2.2.2.1 D.2.2.2.2.2.2.2.2.2.2.1 D.1.here q
/-- a step that leaves the heap -/
theorem WP.same (st : ∀ (p : Program) (e : Env) (s : State) (m : MethodId) (args : Array Value) (below : List Frame) (meth : Method) (c : Code) (T : State) (vm0 : Vm) (locs : List Loc), Std l Z EL n0 R y bytes ml ret p e s m args below meth c T vm0 locs F h cells slots →
      ∃ T', Stand p l e R (s.setVm vm0) m args below meth c T' locs cells slots ∧ T'.heap = h ∧ ∀ t, Steps p.tables e below (T'.setTop (mkF m pc' Ls' S')) t → Steps p.tables e below (T.setTop (mkF m pc Ls S)) t)
    (k : WP l Z EL n0 R y bytes ml ret Q F h cells slots pc' Ls' S') : WP l Z EL n0 R y bytes ml ret Q F h cells slots pc Ls S := by
  intro p e s m args below meth c T vm0 locs D
  obtain ⟨T', X', e', q⟩ := st p e s m args below meth c T vm0 locs D
  obtain ⟨-, -, r⟩ := D
  exact (k p e s m args below meth c T' vm0 locs ⟨X', e', r⟩).step q
/-- a step that makes a cell -/
theorem WP.grow {P : Heap → Prop} {cells' slots' : Nat} {G : List Addr} (hG : ∀ h', Ext h h' → P h' → ∀ x ∈ G, x < h'.size ∧ h.size ≤ x) (st : ∀ (p : Program) (e : Env) (s : State) (m : MethodId) (args : Array Value) (below : List Frame) (meth : Method) (c : Code) (T : State) (vm0 : Vm) (locs : List Loc), Std l Z EL n0 R y bytes ml ret p e s m args below meth c T vm0 locs F h cells slots →
      ∃ T' h', Stand p l e R (s.setVm vm0) m args below meth c T' locs cells' slots' ∧ T'.heap = h' ∧ Ext h h' ∧ P h' ∧ ∀ t, Steps p.tables e below (T'.setTop (mkF m pc' Ls' S')) t → Steps p.tables e below (T.setTop (mkF m pc Ls S)) t)
    (k : ∀ h', Ext h h' → P h' → WP l Z EL n0 R y bytes ml ret Q (G ++ F) h' cells' slots' pc' Ls' S') : WP l Z EL n0 R y bytes ml ret Q F h cells slots pc Ls S := by
  intro p e s m args below meth c T vm0 locs D
  obtain ⟨T', h', X', e', E, hP, q⟩ := st p e s m args below meth c T vm0 locs D
  obtain ⟨-, -, ⟨k0, hS, hk⟩, hZ, hown, hC, hF, hN, hO, r⟩ := D
  refine (k h' E hP p e s m args below meth c T' vm0 locs ⟨X', e', ⟨k0, hS, Nat.le_trans hk E.1⟩, hZ, hown, hC.trans (CHr.ext E hC.1), fun x hx => ?_, hN, hO.ext E, r⟩).step q
  rcases List.mem_append.mp hx with hx | hx
  · obtain ⟨q1, q2⟩ := hG h' E hP x hx
    exact ⟨q1, fun B => Safe.new q2 ((hC.1.step fun _ _ _ q => E.2 _ _ q).2 _ B)⟩
  · exact ⟨Nat.lt_of_lt_of_le (hF x hx).1 E.1, (hF x hx).2.ext E hC.1⟩
/-- how a write is known to hit no literal -/
def SafeBy (Z : State) (EL : List (String × Nat)) (F : List Addr) (h : Heap) (a : Addr) : Prop := a < h.size ∧ ∀ vm, Z.vm.Alike vm → SafeL Z EL vm h F → Safe Z EL vm h a
theorem SafeBy.mem {a : Addr} (hl : a < h.size) (hm : a ∈ F) : SafeBy Z EL F h a := ⟨hl, fun _ _ q => (q a hm).2⟩
theorem SafeBy.exa {a : Addr} {C : String} (E : Exa Z h a C) (h1 : C ≠ "java/lang/String" := by decide) (h2 : C ≠ "[B" := by decide) : SafeBy Z EL F h a := ⟨E.lt, fun _ hal _ => Safe.exa hal E h1 h2⟩
theorem SafeBy.arr {a : Addr} {cl : Cell} {ty : FieldType} (A : Arr Z h a cl ty) (ht : ty ≠ .byte := by decide) : SafeBy Z EL F h a := ⟨A.lt, fun _ hal _ => Safe.arr hal A ht⟩
/-- a step that writes one place -/
theorem WP.write {a : Addr} {sl : Nat} {v : Value} (na : n0 ≤ a) (hs : SafeBy Z EL F h a) (st : ∀ (p : Program) (e : Env) (s : State) (m : MethodId) (args : Array Value) (below : List Frame) (meth : Method) (c : Code) (T : State) (vm0 : Vm) (locs : List Loc), Std l Z EL n0 R y bytes ml ret p e s m args below meth c T vm0 locs F h cells slots →
      ∃ T' h', Stand p l e R (s.setVm vm0) m args below meth c T' (locs ++ [⟨a, sl⟩]) cells slots ∧ T'.heap = h' ∧ Wr h h' a sl v ∧ ∀ t, Steps p.tables e below (T'.setTop (mkF m pc' Ls' S')) t → Steps p.tables e below (T.setTop (mkF m pc Ls S)) t)
    (k : ∀ h', Wr h h' a sl v → WP l Z EL n0 R y bytes ml ret Q F h' cells slots pc' Ls' S') : WP l Z EL n0 R y bytes ml ret Q F h cells slots pc Ls S := by
  intro p e s m args below meth c T vm0 locs D
  obtain ⟨T', h', X', e', W, q⟩ := st p e s m args below meth c T vm0 locs D
  obtain ⟨-, -, ⟨k0, hS, hk⟩, hZ, hown, hC, hF, hN, hO, r⟩ := D
  have sa := hs.2 vm0 hZ.alike hF
  refine (k h' W p e s m args below meth c T' vm0 _ ⟨X', e', ⟨k0, hS, by rw [W.size]; exact hk⟩, hZ, hown, hC.trans (CHr.wr W sa hC.1), fun x hx => ⟨by rw [W.size]; exact (hF x hx).1, Safe.wr W sa hC.1 (hF x hx).2⟩, Fr.snoc X' hN na, hO.wr W na, r⟩).step q
theorem WP.more {cells' slots' : Nat} (hc : cells ≤ cells') (hl : slots ≤ slots') (k : WP l Z EL n0 R y bytes ml ret Q F h cells' slots' pc Ls S) : WP l Z EL n0 R y bytes ml ret Q F h cells slots pc Ls S := by
  intro p e s m args below meth c T vm0 locs D
  obtain ⟨X, r⟩ := D
  exact k p e s m args below meth c T vm0 locs ⟨X.more hc hl, r⟩
theorem WP.less {F' : List Addr} (hF : ∀ x ∈ F', x ∈ F) (k : WP l Z EL n0 R y bytes ml ret Q F' h cells slots pc Ls S) : WP l Z EL n0 R y bytes ml ret Q F h cells slots pc Ls S := by
  intro p e s m args below meth c T vm0 locs D
  obtain ⟨X, e0, hS, hZ, hown, hC, hs, r⟩ := D
  exact k p e s m args below meth c T vm0 locs ⟨X, e0, hS, hZ, hown, hC, fun x hx => hs x (hF x hx), r⟩
/-- the end -/
theorem WP.leave {v : Option Value} (st : ∀ (p : Program) (e : Env) (s : State) (m : MethodId) (args : Array Value) (below : List Frame) (meth : Method) (c : Code) (T : State) (vm0 : Vm) (locs : List Loc) (fs : List Frame), Std l Z EL n0 R y bytes ml ret p e s m args below meth c T vm0 locs F h cells slots →
      (∀ (f : JFrame) (acts : List Action), f.method = m → f.locked = none → f.entered = [] → (doReturn e (T.setTop f) acts v).1 = T.setFrames fs) → Steps p.tables e below (T.setTop (mkF m pc Ls S)) (T.setFrames fs))
    (hv : ret = none → v = none) (hc : cells ≤ R.cells) (hl : slots ≤ R.slots) {G : List Addr} (hG : ∀ x ∈ G, x ∈ F) (hQ : Q v h G) : WP l Z EL n0 R y bytes ml ret Q F h cells slots pc Ls S := by
  intro p e s m args below meth c T vm0 locs D
  have D' := D
  obtain ⟨X, e0, ⟨k0, hS, hk⟩, hZ, hown, hC, hF, hN, hO, hx, hby, hml, hret, hlk, hnm, ⟨a0, hEL⟩, -⟩ := D
  obtain ⟨fs, h1, h2, h3, h4, h5, h6, h7⟩ := X.leaveW hS (by rw [e0]; exact hk) (v := v) (fun q => hv (hret ▸ q)) hlk
  have hhp : (T.setFrames fs).heap = h := by rw [← e0]; rfl
  have B : CHr Z EL vm0 h T.vm h := CHv.at X hZ hEL hC.1
  refine ⟨_, _, st p e s m args below meth c T vm0 locs fs D' h1, h2, h3, v, locs, rfl, ⟨⟨G, by rw [hhp]; exact hQ, fun x hx => ?_⟩, hN, by rw [hhp]; exact hO⟩, by rw [hhp]; exact hC.trans B, h4, h5, h6, h7.mono hc hl⟩
  rw [hhp]
  exact ⟨(hF x (hG x hx)).1, B.safe (hF x (hG x hx)).1 (hF x (hG x hx)).2⟩
end Rules
section Plain
variable {l : Launch} {Z : State} {EL : List (String × Nat)} {n0 : Nat} {R : Room} {y : MethodName} {bytes : ByteArray} {ml : Nat} {ret : Option FieldType} {Q : Option Value → Heap → List Addr → Prop}
  {F : List Addr} {h : Heap} {cells slots pc pc' : Nat} {Ls Ls' : Array Slot} {S S' : List Value} {a0 : Array Value}
theorem WP.iadd {x y' : Int32} (hd : D1 bytes pc .iadd 1 pc') (k : WP l Z EL n0 R y bytes ml ret Q F h cells slots pc' Ls (.int (x + y') :: S)) : WP l Z EL n0 R y bytes ml ret Q F h cells slots pc Ls (.int y' :: .int x :: S) := by
  obtain ⟨hd, rfl⟩ := hd
  exact k.lift fun p e m c below T t hx hby ha q => XS.iadd ha hx rfl (hb hby hd) rfl q
theorem WP.isub {x y' : Int32} (hd : D1 bytes pc .isub 1 pc') (k : WP l Z EL n0 R y bytes ml ret Q F h cells slots pc' Ls (.int (x - y') :: S)) : WP l Z EL n0 R y bytes ml ret Q F h cells slots pc Ls (.int y' :: .int x :: S) := by
  obtain ⟨hd, rfl⟩ := hd
  exact k.lift fun p e m c below T t hx hby ha q => XS.isub ha hx rfl (hb hby hd) rfl q
theorem WP.imul {x y' : Int32} (hd : D1 bytes pc .imul 1 pc') (k : WP l Z EL n0 R y bytes ml ret Q F h cells slots pc' Ls (.int (x * y') :: S)) : WP l Z EL n0 R y bytes ml ret Q F h cells slots pc Ls (.int y' :: .int x :: S) := by
  obtain ⟨hd, rfl⟩ := hd
  exact k.lift fun p e m c below T t hx hby ha q => XS.imul ha hx rfl (hb hby hd) rfl q
theorem WP.iand {x y' : Int32} (hd : D1 bytes pc .iand 1 pc') (k : WP l Z EL n0 R y bytes ml ret Q F h cells slots pc' Ls (.int (x &&& y') :: S)) : WP l Z EL n0 R y bytes ml ret Q F h cells slots pc Ls (.int y' :: .int x :: S) := by
  obtain ⟨hd, rfl⟩ := hd
  exact k.lift fun p e m c below T t hx hby ha q => XS.iand ha hx rfl (hb hby hd) rfl q
theorem WP.ior {x y' : Int32} (hd : D1 bytes pc .ior 1 pc') (k : WP l Z EL n0 R y bytes ml ret Q F h cells slots pc' Ls (.int (x ||| y') :: S)) : WP l Z EL n0 R y bytes ml ret Q F h cells slots pc Ls (.int y' :: .int x :: S) := by
  obtain ⟨hd, rfl⟩ := hd
  exact k.lift fun p e m c below T t hx hby ha q => XS.ior ha hx rfl (hb hby hd) rfl q
theorem WP.ixor {x y' : Int32} (hd : D1 bytes pc .ixor 1 pc') (k : WP l Z EL n0 R y bytes ml ret Q F h cells slots pc' Ls (.int (x ^^^ y') :: S)) : WP l Z EL n0 R y bytes ml ret Q F h cells slots pc Ls (.int y' :: .int x :: S) := by
  obtain ⟨hd, rfl⟩ := hd
  exact k.lift fun p e m c below T t hx hby ha q => XS.ixor ha hx rfl (hb hby hd) rfl q
theorem WP.ishl {x y' : Int32} (hd : D1 bytes pc .ishl 1 pc') (k : WP l Z EL n0 R y bytes ml ret Q F h cells slots pc' Ls (.int (x <<< (y' &&& 31)) :: S)) : WP l Z EL n0 R y bytes ml ret Q F h cells slots pc Ls (.int y' :: .int x :: S) := by
  obtain ⟨hd, rfl⟩ := hd
  exact k.lift fun p e m c below T t hx hby ha q => XS.ishl ha hx rfl (hb hby hd) rfl q
theorem WP.ishr {x y' : Int32} (hd : D1 bytes pc .ishr 1 pc') (k : WP l Z EL n0 R y bytes ml ret Q F h cells slots pc' Ls (.int (x >>> (y' &&& 31)) :: S)) : WP l Z EL n0 R y bytes ml ret Q F h cells slots pc Ls (.int y' :: .int x :: S) := by
  obtain ⟨hd, rfl⟩ := hd
  exact k.lift fun p e m c below T t hx hby ha q => XS.ishr ha hx rfl (hb hby hd) rfl q
theorem WP.iushr {x y' : Int32} (hd : D1 bytes pc .iushr 1 pc') (k : WP l Z EL n0 R y bytes ml ret Q F h cells slots pc' Ls (.int ((x.toUInt32 >>> (y' &&& 31).toUInt32).toInt32) :: S)) : WP l Z EL n0 R y bytes ml ret Q F h cells slots pc Ls (.int y' :: .int x :: S) := by
  obtain ⟨hd, rfl⟩ := hd
  exact k.lift fun p e m c below T t hx hby ha q => XS.iushr ha hx rfl (hb hby hd) rfl q
theorem WP.idiv {x y' : Int32} (hd : D1 bytes pc .idiv 1 pc') (hy : y' ≠ 0) (k : WP l Z EL n0 R y bytes ml ret Q F h cells slots pc' Ls (.int (x / y') :: S)) : WP l Z EL n0 R y bytes ml ret Q F h cells slots pc Ls (.int y' :: .int x :: S) := by
  obtain ⟨hd, rfl⟩ := hd
  exact k.lift fun p e m c below T t hx hby ha q => XS.idiv ha hx rfl (hb hby hd) rfl hy q
theorem WP.irem {x y' : Int32} (hd : D1 bytes pc .irem 1 pc') (hy : y' ≠ 0) (k : WP l Z EL n0 R y bytes ml ret Q F h cells slots pc' Ls (.int (x - (x / y') * y') :: S)) : WP l Z EL n0 R y bytes ml ret Q F h cells slots pc Ls (.int y' :: .int x :: S) := by
  obtain ⟨hd, rfl⟩ := hd
  exact k.lift fun p e m c below T t hx hby ha q => XS.irem ha hx rfl (hb hby hd) rfl hy q
theorem WP.ladd {x y' : Int64} (hd : D1 bytes pc .ladd 1 pc') (k : WP l Z EL n0 R y bytes ml ret Q F h cells slots pc' Ls (.long (x + y') :: S)) : WP l Z EL n0 R y bytes ml ret Q F h cells slots pc Ls (.long y' :: .long x :: S) := by
  obtain ⟨hd, rfl⟩ := hd
  exact k.lift fun p e m c below T t hx hby ha q => XS.ladd ha hx rfl (hb hby hd) rfl q
theorem WP.lsub {x y' : Int64} (hd : D1 bytes pc .lsub 1 pc') (k : WP l Z EL n0 R y bytes ml ret Q F h cells slots pc' Ls (.long (x - y') :: S)) : WP l Z EL n0 R y bytes ml ret Q F h cells slots pc Ls (.long y' :: .long x :: S) := by
  obtain ⟨hd, rfl⟩ := hd
  exact k.lift fun p e m c below T t hx hby ha q => XS.lsub ha hx rfl (hb hby hd) rfl q
theorem WP.lmul {x y' : Int64} (hd : D1 bytes pc .lmul 1 pc') (k : WP l Z EL n0 R y bytes ml ret Q F h cells slots pc' Ls (.long (x * y') :: S)) : WP l Z EL n0 R y bytes ml ret Q F h cells slots pc Ls (.long y' :: .long x :: S) := by
  obtain ⟨hd, rfl⟩ := hd
  exact k.lift fun p e m c below T t hx hby ha q => XS.lmul ha hx rfl (hb hby hd) rfl q
theorem WP.land {x y' : Int64} (hd : D1 bytes pc .land 1 pc') (k : WP l Z EL n0 R y bytes ml ret Q F h cells slots pc' Ls (.long (x &&& y') :: S)) : WP l Z EL n0 R y bytes ml ret Q F h cells slots pc Ls (.long y' :: .long x :: S) := by
  obtain ⟨hd, rfl⟩ := hd
  exact k.lift fun p e m c below T t hx hby ha q => XS.land ha hx rfl (hb hby hd) rfl q
theorem WP.lor {x y' : Int64} (hd : D1 bytes pc .lor 1 pc') (k : WP l Z EL n0 R y bytes ml ret Q F h cells slots pc' Ls (.long (x ||| y') :: S)) : WP l Z EL n0 R y bytes ml ret Q F h cells slots pc Ls (.long y' :: .long x :: S) := by
  obtain ⟨hd, rfl⟩ := hd
  exact k.lift fun p e m c below T t hx hby ha q => XS.lor ha hx rfl (hb hby hd) rfl q
theorem WP.lxor {x y' : Int64} (hd : D1 bytes pc .lxor 1 pc') (k : WP l Z EL n0 R y bytes ml ret Q F h cells slots pc' Ls (.long (x ^^^ y') :: S)) : WP l Z EL n0 R y bytes ml ret Q F h cells slots pc Ls (.long y' :: .long x :: S) := by
  obtain ⟨hd, rfl⟩ := hd
  exact k.lift fun p e m c below T t hx hby ha q => XS.lxor ha hx rfl (hb hby hd) rfl q
theorem WP.ldiv {x y' : Int64} (hd : D1 bytes pc .ldiv 1 pc') (hy : y' ≠ 0) (k : WP l Z EL n0 R y bytes ml ret Q F h cells slots pc' Ls (.long (x / y') :: S)) : WP l Z EL n0 R y bytes ml ret Q F h cells slots pc Ls (.long y' :: .long x :: S) := by
  obtain ⟨hd, rfl⟩ := hd
  exact k.lift fun p e m c below T t hx hby ha q => XS.ldiv ha hx rfl (hb hby hd) rfl hy q
theorem WP.lrem {x y' : Int64} (hd : D1 bytes pc .lrem 1 pc') (hy : y' ≠ 0) (k : WP l Z EL n0 R y bytes ml ret Q F h cells slots pc' Ls (.long (x - (x / y') * y') :: S)) : WP l Z EL n0 R y bytes ml ret Q F h cells slots pc Ls (.long y' :: .long x :: S) := by
  obtain ⟨hd, rfl⟩ := hd
  exact k.lift fun p e m c below T t hx hby ha q => XS.lrem ha hx rfl (hb hby hd) rfl hy q
theorem WP.lshl {x : Int64} {y' : Int32} (hd : D1 bytes pc .lshl 1 pc') (k : WP l Z EL n0 R y bytes ml ret Q F h cells slots pc' Ls (.long (x <<< (y' &&& 0x3f).toInt64) :: S)) : WP l Z EL n0 R y bytes ml ret Q F h cells slots pc Ls (.int y' :: .long x :: S) := by
  obtain ⟨hd, rfl⟩ := hd
  exact k.lift fun p e m c below T t hx hby ha q => XS.lshl ha hx rfl (hb hby hd) rfl q
theorem WP.lshr {x : Int64} {y' : Int32} (hd : D1 bytes pc .lshr 1 pc') (k : WP l Z EL n0 R y bytes ml ret Q F h cells slots pc' Ls (.long (x >>> (y' &&& 0x3f).toInt64) :: S)) : WP l Z EL n0 R y bytes ml ret Q F h cells slots pc Ls (.int y' :: .long x :: S) := by
  obtain ⟨hd, rfl⟩ := hd
  exact k.lift fun p e m c below T t hx hby ha q => XS.lshr ha hx rfl (hb hby hd) rfl q
theorem WP.lushr {x : Int64} {y' : Int32} (hd : D1 bytes pc .lushr 1 pc') (k : WP l Z EL n0 R y bytes ml ret Q F h cells slots pc' Ls (.long ((x.toUInt64 >>> (y' &&& 0x3f).toInt64.toUInt64).toInt64) :: S)) : WP l Z EL n0 R y bytes ml ret Q F h cells slots pc Ls (.int y' :: .long x :: S) := by
  obtain ⟨hd, rfl⟩ := hd
  exact k.lift fun p e m c below T t hx hby ha q => XS.lushr ha hx rfl (hb hby hd) rfl q
theorem WP.lcmp {x y' : Int64} (hd : D1 bytes pc .lcmp 1 pc') (k : WP l Z EL n0 R y bytes ml ret Q F h cells slots pc' Ls (.int (lcmpW x y') :: S)) : WP l Z EL n0 R y bytes ml ret Q F h cells slots pc Ls (.long y' :: .long x :: S) := by
  obtain ⟨hd, rfl⟩ := hd
  exact k.lift fun p e m c below T t hx hby ha q => XS.lcmp ha hx rfl (hb hby hd) rfl q
theorem WP.ineg {x : Int32} (hd : D1 bytes pc .ineg 1 pc') (k : WP l Z EL n0 R y bytes ml ret Q F h cells slots pc' Ls (.int (-x) :: S)) : WP l Z EL n0 R y bytes ml ret Q F h cells slots pc Ls (.int x :: S) := by
  obtain ⟨hd, rfl⟩ := hd
  exact k.lift fun p e m c below T t hx hby ha q => XS.ineg ha hx rfl (hb hby hd) rfl q
theorem WP.lneg {x : Int64} (hd : D1 bytes pc .lneg 1 pc') (k : WP l Z EL n0 R y bytes ml ret Q F h cells slots pc' Ls (.long (-x) :: S)) : WP l Z EL n0 R y bytes ml ret Q F h cells slots pc Ls (.long x :: S) := by
  obtain ⟨hd, rfl⟩ := hd
  exact k.lift fun p e m c below T t hx hby ha q => XS.lneg ha hx rfl (hb hby hd) rfl q
theorem WP.i2l {x : Int32} (hd : D1 bytes pc .i2l 1 pc') (k : WP l Z EL n0 R y bytes ml ret Q F h cells slots pc' Ls (.long (x.toInt64) :: S)) : WP l Z EL n0 R y bytes ml ret Q F h cells slots pc Ls (.int x :: S) := by
  obtain ⟨hd, rfl⟩ := hd
  exact k.lift fun p e m c below T t hx hby ha q => XS.i2l ha hx rfl (hb hby hd) rfl q
theorem WP.l2i {x : Int64} (hd : D1 bytes pc .l2i 1 pc') (k : WP l Z EL n0 R y bytes ml ret Q F h cells slots pc' Ls (.int (x.toInt32) :: S)) : WP l Z EL n0 R y bytes ml ret Q F h cells slots pc Ls (.long x :: S) := by
  obtain ⟨hd, rfl⟩ := hd
  exact k.lift fun p e m c below T t hx hby ha q => XS.l2i ha hx rfl (hb hby hd) rfl q
theorem WP.i2b {x : Int32} (hd : D1 bytes pc .i2b 1 pc') (k : WP l Z EL n0 R y bytes ml ret Q F h cells slots pc' Ls (.int (x.toInt8.toInt32) :: S)) : WP l Z EL n0 R y bytes ml ret Q F h cells slots pc Ls (.int x :: S) := by
  obtain ⟨hd, rfl⟩ := hd
  exact k.lift fun p e m c below T t hx hby ha q => XS.i2b ha hx rfl (hb hby hd) rfl q
theorem WP.i2s {x : Int32} (hd : D1 bytes pc .i2s 1 pc') (k : WP l Z EL n0 R y bytes ml ret Q F h cells slots pc' Ls (.int (x.toInt16.toInt32) :: S)) : WP l Z EL n0 R y bytes ml ret Q F h cells slots pc Ls (.int x :: S) := by
  obtain ⟨hd, rfl⟩ := hd
  exact k.lift fun p e m c below T t hx hby ha q => XS.i2s ha hx rfl (hb hby hd) rfl q
theorem WP.i2c {x : Int32} (hd : D1 bytes pc .i2c 1 pc') (k : WP l Z EL n0 R y bytes ml ret Q F h cells slots pc' Ls (.int (x.toUInt32.toUInt16.toUInt32.toInt32) :: S)) : WP l Z EL n0 R y bytes ml ret Q F h cells slots pc Ls (.int x :: S) := by
  obtain ⟨hd, rfl⟩ := hd
  exact k.lift fun p e m c below T t hx hby ha q => XS.i2c ha hx rfl (hb hby hd) rfl q
theorem WP.iload_n {i : Fin 4} {x : Int32} (hd : D1 bytes pc (.iload_n i) 1 pc') (hl : Ls[i.val]? = some (.val (.int x))) (k : WP l Z EL n0 R y bytes ml ret Q F h cells slots pc' Ls (.int x :: S)) : WP l Z EL n0 R y bytes ml ret Q F h cells slots pc Ls S := by
  obtain ⟨hd, rfl⟩ := hd
  exact k.lift fun p e m c below T t hx hby ha q => XS.iloadN ha hx rfl (hb hby hd) hl q
theorem WP.iload {i : Nat} {x : Int32} (hd : D1 bytes pc (.iload i) 2 pc') (hl : Ls[i]? = some (.val (.int x))) (k : WP l Z EL n0 R y bytes ml ret Q F h cells slots pc' Ls (.int x :: S)) : WP l Z EL n0 R y bytes ml ret Q F h cells slots pc Ls S := by
  obtain ⟨hd, rfl⟩ := hd
  exact k.lift fun p e m c below T t hx hby ha q => XS.iload ha hx rfl (hb hby hd) hl q
theorem WP.lload_n {i : Fin 4} {x : Int64} (hd : D1 bytes pc (.lload_n i) 1 pc') (hl : Ls[i.val]? = some (.val (.long x))) (k : WP l Z EL n0 R y bytes ml ret Q F h cells slots pc' Ls (.long x :: S)) : WP l Z EL n0 R y bytes ml ret Q F h cells slots pc Ls S := by
  obtain ⟨hd, rfl⟩ := hd
  exact k.lift fun p e m c below T t hx hby ha q => XS.lloadN ha hx rfl (hb hby hd) hl q
theorem WP.lload {i : Nat} {x : Int64} (hd : D1 bytes pc (.lload i) 2 pc') (hl : Ls[i]? = some (.val (.long x))) (k : WP l Z EL n0 R y bytes ml ret Q F h cells slots pc' Ls (.long x :: S)) : WP l Z EL n0 R y bytes ml ret Q F h cells slots pc Ls S := by
  obtain ⟨hd, rfl⟩ := hd
  exact k.lift fun p e m c below T t hx hby ha q => XS.lload ha hx rfl (hb hby hd) hl q
theorem WP.aload_n {i : Fin 4} {x : Value} (hd : D1 bytes pc (.aload_n i) 1 pc') (hl : Ls[i.val]? = some (.val x)) (hv : x.isRef = true) (k : WP l Z EL n0 R y bytes ml ret Q F h cells slots pc' Ls (x :: S)) : WP l Z EL n0 R y bytes ml ret Q F h cells slots pc Ls S := by
  obtain ⟨hd, rfl⟩ := hd
  exact k.lift fun p e m c below T t hx hby ha q => XS.aloadN ha hx rfl (hb hby hd) hl hv q
theorem WP.aload {i : Nat} {x : Value} (hd : D1 bytes pc (.aload i) 2 pc') (hl : Ls[i]? = some (.val x)) (hv : x.isRef = true) (k : WP l Z EL n0 R y bytes ml ret Q F h cells slots pc' Ls (x :: S)) : WP l Z EL n0 R y bytes ml ret Q F h cells slots pc Ls S := by
  obtain ⟨hd, rfl⟩ := hd
  exact k.lift fun p e m c below T t hx hby ha q => XS.aload ha hx rfl (hb hby hd) hl hv q
theorem WP.istore_n {i : Fin 4} {x z : Int32} (hd : D1 bytes pc (.istore_n i) 1 pc') (hz : x = z) (hl : storeLocals Ls i.val (.int z) = some Ls') (k : WP l Z EL n0 R y bytes ml ret Q F h cells slots pc' Ls' S) : WP l Z EL n0 R y bytes ml ret Q F h cells slots pc Ls (.int x :: S) := by
  obtain ⟨hd, rfl⟩ := hd
  subst hz
  exact k.lift fun p e m c below T t hx hby ha q => XS.istoreN ha hx rfl (hb hby hd) rfl hl q
theorem WP.istore {i : Nat} {x z : Int32} (hd : D1 bytes pc (.istore i) 2 pc') (hz : x = z) (hl : storeLocals Ls i (.int z) = some Ls') (k : WP l Z EL n0 R y bytes ml ret Q F h cells slots pc' Ls' S) : WP l Z EL n0 R y bytes ml ret Q F h cells slots pc Ls (.int x :: S) := by
  obtain ⟨hd, rfl⟩ := hd
  subst hz
  exact k.lift fun p e m c below T t hx hby ha q => XS.istore ha hx rfl (hb hby hd) rfl hl q
theorem WP.lstore_n {i : Fin 4} {x z : Int64} (hd : D1 bytes pc (.lstore_n i) 1 pc') (hz : x = z) (hl : storeLocals Ls i.val (.long z) = some Ls') (k : WP l Z EL n0 R y bytes ml ret Q F h cells slots pc' Ls' S) : WP l Z EL n0 R y bytes ml ret Q F h cells slots pc Ls (.long x :: S) := by
  obtain ⟨hd, rfl⟩ := hd
  subst hz
  exact k.lift fun p e m c below T t hx hby ha q => XS.lstoreN ha hx rfl (hb hby hd) rfl hl q
theorem WP.lstore {i : Nat} {x z : Int64} (hd : D1 bytes pc (.lstore i) 2 pc') (hz : x = z) (hl : storeLocals Ls i (.long z) = some Ls') (k : WP l Z EL n0 R y bytes ml ret Q F h cells slots pc' Ls' S) : WP l Z EL n0 R y bytes ml ret Q F h cells slots pc Ls (.long x :: S) := by
  obtain ⟨hd, rfl⟩ := hd
  subst hz
  exact k.lift fun p e m c below T t hx hby ha q => XS.lstore ha hx rfl (hb hby hd) rfl hl q
theorem WP.astore_n {i : Fin 4} {x : Value} (hd : D1 bytes pc (.astore_n i) 1 pc') (hl : storeLocals Ls i.val x = some Ls') (hv : x.isRef = true) (k : WP l Z EL n0 R y bytes ml ret Q F h cells slots pc' Ls' S) : WP l Z EL n0 R y bytes ml ret Q F h cells slots pc Ls (x :: S) := by
  obtain ⟨hd, rfl⟩ := hd
  exact k.lift fun p e m c below T t hx hby ha q => XS.astoreN ha hx rfl (hb hby hd) rfl hv hl q
theorem WP.astore {i : Nat} {x : Value} (hd : D1 bytes pc (.astore i) 2 pc') (hl : storeLocals Ls i x = some Ls') (hv : x.isRef = true) (k : WP l Z EL n0 R y bytes ml ret Q F h cells slots pc' Ls' S) : WP l Z EL n0 R y bytes ml ret Q F h cells slots pc Ls (x :: S) := by
  obtain ⟨hd, rfl⟩ := hd
  exact k.lift fun p e m c below T t hx hby ha q => XS.astore ha hx rfl (hb hby hd) rfl hv hl q
theorem WP.iinc {i : Nat} {cst : Int} {x v : Int32} (hd : D1 bytes pc (.iinc i cst) 3 pc') (hl : Ls[i]? = some (.val (.int x))) (hv : x + Int32.ofInt cst = v) (hl' : storeLocals Ls i (.int v) = some Ls') (k : WP l Z EL n0 R y bytes ml ret Q F h cells slots pc' Ls' S) : WP l Z EL n0 R y bytes ml ret Q F h cells slots pc Ls S := by
  obtain ⟨hd, rfl⟩ := hd
  subst hv
  exact k.lift fun p e m c below T t hx hby ha q => XS.iinc ha hx rfl (hb hby hd) hl hl' q
theorem WP.iconst {i : Int} {v : Int32} (hd : D1 bytes pc (.iconst i) 1 pc') (hv : Int32.ofInt i = v) (k : WP l Z EL n0 R y bytes ml ret Q F h cells slots pc' Ls (.int v :: S)) : WP l Z EL n0 R y bytes ml ret Q F h cells slots pc Ls S := by
  obtain ⟨hd, rfl⟩ := hd
  subst hv
  exact k.lift fun p e m c below T t hx hby ha q => XS.iconst ha hx rfl (hb hby hd) q
theorem WP.bipush {i : Int} {v : Int32} (hd : D1 bytes pc (.bipush i) 2 pc') (hv : (Int8.ofInt i).toInt32 = v) (k : WP l Z EL n0 R y bytes ml ret Q F h cells slots pc' Ls (.int v :: S)) : WP l Z EL n0 R y bytes ml ret Q F h cells slots pc Ls S := by
  obtain ⟨hd, rfl⟩ := hd
  subst hv
  exact k.lift fun p e m c below T t hx hby ha q => XS.bipush ha hx rfl (hb hby hd) q
theorem WP.sipush {i : Int} {v : Int32} (hd : D1 bytes pc (.sipush i) 3 pc') (hv : (Int16.ofInt i).toInt32 = v) (k : WP l Z EL n0 R y bytes ml ret Q F h cells slots pc' Ls (.int v :: S)) : WP l Z EL n0 R y bytes ml ret Q F h cells slots pc Ls S := by
  obtain ⟨hd, rfl⟩ := hd
  subst hv
  exact k.lift fun p e m c below T t hx hby ha q => XS.sipush ha hx rfl (hb hby hd) q
theorem WP.lconst {i : Fin 2} {v : Int64} (hd : D1 bytes pc (.lconst i) 1 pc') (hv : Int64.ofNat i = v) (k : WP l Z EL n0 R y bytes ml ret Q F h cells slots pc' Ls (.long v :: S)) : WP l Z EL n0 R y bytes ml ret Q F h cells slots pc Ls S := by
  obtain ⟨hd, rfl⟩ := hd
  subst hv
  exact k.lift fun p e m c below T t hx hby ha q => XS.lconst ha hx rfl (hb hby hd) q
theorem WP.aconst_null (hd : D1 bytes pc .aconst_null 1 pc') (k : WP l Z EL n0 R y bytes ml ret Q F h cells slots pc' Ls (.null :: S)) : WP l Z EL n0 R y bytes ml ret Q F h cells slots pc Ls S := by
  obtain ⟨hd, rfl⟩ := hd
  exact k.lift fun p e m c below T t hx hby ha q => XS.aconstNull ha hx rfl (hb hby hd) q
theorem WP.dup {x : Value} (hd : D1 bytes pc .dup 1 pc') (hc : x.category = 1) (k : WP l Z EL n0 R y bytes ml ret Q F h cells slots pc' Ls (x :: x :: S)) : WP l Z EL n0 R y bytes ml ret Q F h cells slots pc Ls (x :: S) := by
  obtain ⟨hd, rfl⟩ := hd
  exact k.lift fun p e m c below T t hx hby ha q => XS.dup ha hx rfl (hb hby hd) rfl hc q
theorem WP.dup_x1 {x y' : Value} (hd : D1 bytes pc .dup_x1 1 pc') (hc : x.category = 1) (hc' : y'.category = 1) (k : WP l Z EL n0 R y bytes ml ret Q F h cells slots pc' Ls (x :: y' :: x :: S)) : WP l Z EL n0 R y bytes ml ret Q F h cells slots pc Ls (x :: y' :: S) := by
  obtain ⟨hd, rfl⟩ := hd
  exact k.lift fun p e m c below T t hx hby ha q => XS.dupX1 ha hx rfl (hb hby hd) rfl hc hc' q
theorem WP.pop {x : Value} (hd : D1 bytes pc .pop 1 pc') (hc : x.category = 1) (k : WP l Z EL n0 R y bytes ml ret Q F h cells slots pc' Ls S) : WP l Z EL n0 R y bytes ml ret Q F h cells slots pc Ls (x :: S) := by
  obtain ⟨hd, rfl⟩ := hd
  exact k.lift fun p e m c below T t hx hby ha q => XS.pop ha hx rfl (hb hby hd) rfl hc q
theorem tgt_of {o : Int} {tgt : Nat} (q : (pc : Int) + o = (tgt : Int)) : 0 ≤ (pc : Int) + o ∧ ((pc : Int) + o).toNat = tgt := ⟨by omega, by omega⟩
theorem WP.goto {o : Int} {nx tgt : Nat} (hd : DJ bytes pc .goto o nx tgt) (k : WP l Z EL n0 R y bytes ml ret Q F h cells slots tgt Ls S) : WP l Z EL n0 R y bytes ml ret Q F h cells slots pc Ls S := by
  obtain ⟨hd, -, ht⟩ := hd
  exact k.lift fun p e m c below T t hx hby ha q => XS.goto ha hx rfl rfl (hb hby hd) (tgt_of ht).1 (tgt_of ht).2 q
theorem WP.ifC {cd : ClassFile.Cond} {x : Int32} {o : Int} {nx tgt : Nat} (hd : DJ bytes pc (.ifCond cd) o nx tgt) (k1 : ifCond.holds cd x = true → WP l Z EL n0 R y bytes ml ret Q F h cells slots tgt Ls S) (k2 : ifCond.holds cd x = false → WP l Z EL n0 R y bytes ml ret Q F h cells slots nx Ls S) : WP l Z EL n0 R y bytes ml ret Q F h cells slots pc Ls (.int x :: S) := by
  obtain ⟨hd, rfl, ht⟩ := hd
  cases hc : ifCond.holds cd x with
  | true => exact (k1 hc).lift fun p e m c below T t hx hby ha q => XS.ifYes ha hx rfl rfl (hb hby hd) rfl hc (tgt_of ht).1 (tgt_of ht).2 q
  | false => exact (k2 hc).lift fun p e m c below T t hx hby ha q => XS.ifNo ha hx rfl (hb hby hd) rfl hc q
theorem WP.icmpC {cd : ClassFile.Cond} {x y' : Int32} {o : Int} {nx tgt : Nat} (hd : DJ bytes pc (.if_icmp cd) o nx tgt) (k1 : if_icmp.holds cd x y' = true → WP l Z EL n0 R y bytes ml ret Q F h cells slots tgt Ls S) (k2 : if_icmp.holds cd x y' = false → WP l Z EL n0 R y bytes ml ret Q F h cells slots nx Ls S) : WP l Z EL n0 R y bytes ml ret Q F h cells slots pc Ls (.int y' :: .int x :: S) := by
  obtain ⟨hd, rfl, ht⟩ := hd
  cases hc : if_icmp.holds cd x y' with
  | true => exact (k1 hc).lift fun p e m c below T t hx hby ha q => XS.icmpYes ha hx rfl rfl (hb hby hd) rfl hc (tgt_of ht).1 (tgt_of ht).2 q
  | false => exact (k2 hc).lift fun p e m c below T t hx hby ha q => XS.icmpNo ha hx rfl (hb hby hd) rfl hc q
theorem WP.ifnull {x : Value} {o : Int} {nx tgt : Nat} (hd : DJ bytes pc .ifnull o nx tgt) (hr : x.isRef = true) (k1 : x = .null → WP l Z EL n0 R y bytes ml ret Q F h cells slots tgt Ls S) (k2 : ∀ a, x = .ref a → WP l Z EL n0 R y bytes ml ret Q F h cells slots nx Ls S) : WP l Z EL n0 R y bytes ml ret Q F h cells slots pc Ls (x :: S) := by
  obtain ⟨hd, rfl, ht⟩ := hd
  rcases ref_cases hr with rfl | ⟨a, rfl⟩
  · exact (k1 rfl).lift fun p e m c below T t hx hby ha q => XS.ifnullYes ha hx rfl rfl (hb hby hd) rfl (tgt_of ht).1 (tgt_of ht).2 q
  · exact (k2 a rfl).lift fun p e m c below T t hx hby ha q => XS.ifnullNo ha hx rfl (hb hby hd) rfl q
theorem WP.ifnonnull {x : Value} {o : Int} {nx tgt : Nat} (hd : DJ bytes pc .ifnonnull o nx tgt) (hr : x.isRef = true) (k1 : ∀ a, x = .ref a → WP l Z EL n0 R y bytes ml ret Q F h cells slots tgt Ls S) (k2 : x = .null → WP l Z EL n0 R y bytes ml ret Q F h cells slots nx Ls S) : WP l Z EL n0 R y bytes ml ret Q F h cells slots pc Ls (x :: S) := by
  obtain ⟨hd, rfl, ht⟩ := hd
  rcases ref_cases hr with rfl | ⟨a, rfl⟩
  · exact (k2 rfl).lift fun p e m c below T t hx hby ha q => XS.ifnonnullNo ha hx rfl (hb hby hd) rfl q
  · exact (k1 a rfl).lift fun p e m c below T t hx hby ha q => XS.ifnonnullYes ha hx rfl rfl (hb hby hd) rfl (tgt_of ht).1 (tgt_of ht).2 q
theorem WP.acmp_ne {x y' : Value} {o : Int} {nx tgt : Nat} (hd : DJ bytes pc (.if_acmp .ne) o nx tgt) (hr : x.isRef = true) (hr' : y'.isRef = true) (k1 : ¬ x = y' → WP l Z EL n0 R y bytes ml ret Q F h cells slots tgt Ls S) (k2 : x = y' → WP l Z EL n0 R y bytes ml ret Q F h cells slots nx Ls S) : WP l Z EL n0 R y bytes ml ret Q F h cells slots pc Ls (y' :: x :: S) := by
  obtain ⟨hd, rfl, ht⟩ := hd
  by_cases hc : x = y'
  · exact (k2 hc).lift fun p e m c below T t hx hby ha q => XT.acmpNo ha hx rfl (hb hby hd) rfl hr hr' (XT.aa_ne_f hc) q
  · exact (k1 hc).lift fun p e m c below T t hx hby ha q => XT.acmpYes ha hx rfl rfl (hb hby hd) rfl hr hr' (XT.aa_ne_t hc) (tgt_of ht).1 (tgt_of ht).2 q
theorem WP.acmp_eq {x y' : Value} {o : Int} {nx tgt : Nat} (hd : DJ bytes pc (.if_acmp .eq) o nx tgt) (hr : x.isRef = true) (hr' : y'.isRef = true) (k1 : x = y' → WP l Z EL n0 R y bytes ml ret Q F h cells slots tgt Ls S) (k2 : ¬ x = y' → WP l Z EL n0 R y bytes ml ret Q F h cells slots nx Ls S) : WP l Z EL n0 R y bytes ml ret Q F h cells slots pc Ls (y' :: x :: S) := by
  obtain ⟨hd, rfl, ht⟩ := hd
  by_cases hc : x = y'
  · exact (k1 hc).lift fun p e m c below T t hx hby ha q => XT.acmpYes ha hx rfl rfl (hb hby hd) rfl hr hr' (XT.aa_eq_t hc) (tgt_of ht).1 (tgt_of ht).2 q
  · exact (k2 hc).lift fun p e m c below T t hx hby ha q => XT.acmpNo ha hx rfl (hb hby hd) rfl hr hr' (XT.aa_eq_f hc) q
theorem WP.icmp_eq {x y' : Int32} {o : Int} {nx tgt : Nat} (hd : DJ bytes pc (.if_icmp .eq) o nx tgt) (k1 : x = y' → WP l Z EL n0 R y bytes ml ret Q F h cells slots tgt Ls S) (k2 : ¬ x = y' → WP l Z EL n0 R y bytes ml ret Q F h cells slots nx Ls S) : WP l Z EL n0 R y bytes ml ret Q F h cells slots pc Ls (.int y' :: .int x :: S) :=
  WP.icmpC hd (fun q => k1 (Classical.byContradiction fun z => by have := XT.ii_eq_f (x := x) (y := y') (by simpa using z); rw [q] at this; cases this)) (fun q => k2 (Classical.byContradiction fun z => by have := XT.ii_eq_t (x := x) (y := y') (by simpa using z); rw [q] at this; cases this))
theorem WP.if_eq {x : Int32} {o : Int} {nx tgt : Nat} (hd : DJ bytes pc (.ifCond .eq) o nx tgt) (k1 : x = 0 → WP l Z EL n0 R y bytes ml ret Q F h cells slots tgt Ls S) (k2 : ¬ x = 0 → WP l Z EL n0 R y bytes ml ret Q F h cells slots nx Ls S) : WP l Z EL n0 R y bytes ml ret Q F h cells slots pc Ls (.int x :: S) :=
  WP.ifC hd (fun q => k1 (Classical.byContradiction fun z => by have := XT.i0_eq_f (x := x) (by simpa using z); rw [q] at this; cases this)) (fun q => k2 (Classical.byContradiction fun z => by have := XT.i0_eq_t (x := x) (by simpa using z); rw [q] at this; cases this))
theorem WP.icmp_ne {x y' : Int32} {o : Int} {nx tgt : Nat} (hd : DJ bytes pc (.if_icmp .ne) o nx tgt) (k1 : ¬ x = y' → WP l Z EL n0 R y bytes ml ret Q F h cells slots tgt Ls S) (k2 : x = y' → WP l Z EL n0 R y bytes ml ret Q F h cells slots nx Ls S) : WP l Z EL n0 R y bytes ml ret Q F h cells slots pc Ls (.int y' :: .int x :: S) :=
  WP.icmpC hd (fun q => k1 (Classical.byContradiction fun z => by have := XT.ii_ne_f (x := x) (y := y') (by simpa using z); rw [q] at this; cases this)) (fun q => k2 (Classical.byContradiction fun z => by have := XT.ii_ne_t (x := x) (y := y') (by simpa using z); rw [q] at this; cases this))
theorem WP.if_ne {x : Int32} {o : Int} {nx tgt : Nat} (hd : DJ bytes pc (.ifCond .ne) o nx tgt) (k1 : ¬ x = 0 → WP l Z EL n0 R y bytes ml ret Q F h cells slots tgt Ls S) (k2 : x = 0 → WP l Z EL n0 R y bytes ml ret Q F h cells slots nx Ls S) : WP l Z EL n0 R y bytes ml ret Q F h cells slots pc Ls (.int x :: S) :=
  WP.ifC hd (fun q => k1 (Classical.byContradiction fun z => by have := XT.i0_ne_f (x := x) (by simpa using z); rw [q] at this; cases this)) (fun q => k2 (Classical.byContradiction fun z => by have := XT.i0_ne_t (x := x) (by simpa using z); rw [q] at this; cases this))
theorem WP.icmp_lt {x y' : Int32} {o : Int} {nx tgt : Nat} (hd : DJ bytes pc (.if_icmp .lt) o nx tgt) (k1 : x < y' → WP l Z EL n0 R y bytes ml ret Q F h cells slots tgt Ls S) (k2 : ¬ x < y' → WP l Z EL n0 R y bytes ml ret Q F h cells slots nx Ls S) : WP l Z EL n0 R y bytes ml ret Q F h cells slots pc Ls (.int y' :: .int x :: S) :=
  WP.icmpC hd (fun q => k1 (Classical.byContradiction fun z => by have := XT.ii_lt_f (x := x) (y := y') (by simpa using z); rw [q] at this; cases this)) (fun q => k2 (Classical.byContradiction fun z => by have := XT.ii_lt_t (x := x) (y := y') (by simpa using z); rw [q] at this; cases this))
theorem WP.if_lt {x : Int32} {o : Int} {nx tgt : Nat} (hd : DJ bytes pc (.ifCond .lt) o nx tgt) (k1 : x < 0 → WP l Z EL n0 R y bytes ml ret Q F h cells slots tgt Ls S) (k2 : ¬ x < 0 → WP l Z EL n0 R y bytes ml ret Q F h cells slots nx Ls S) : WP l Z EL n0 R y bytes ml ret Q F h cells slots pc Ls (.int x :: S) :=
  WP.ifC hd (fun q => k1 (Classical.byContradiction fun z => by have := XT.i0_lt_f (x := x) (by simpa using z); rw [q] at this; cases this)) (fun q => k2 (Classical.byContradiction fun z => by have := XT.i0_lt_t (x := x) (by simpa using z); rw [q] at this; cases this))
theorem WP.icmp_ge {x y' : Int32} {o : Int} {nx tgt : Nat} (hd : DJ bytes pc (.if_icmp .ge) o nx tgt) (k1 : ¬ x < y' → WP l Z EL n0 R y bytes ml ret Q F h cells slots tgt Ls S) (k2 : x < y' → WP l Z EL n0 R y bytes ml ret Q F h cells slots nx Ls S) : WP l Z EL n0 R y bytes ml ret Q F h cells slots pc Ls (.int y' :: .int x :: S) :=
  WP.icmpC hd (fun q => k1 (Classical.byContradiction fun z => by have := XT.ii_ge_f (x := x) (y := y') (by simpa using z); rw [q] at this; cases this)) (fun q => k2 (Classical.byContradiction fun z => by have := XT.ii_ge_t (x := x) (y := y') (by simpa using z); rw [q] at this; cases this))
theorem WP.if_ge {x : Int32} {o : Int} {nx tgt : Nat} (hd : DJ bytes pc (.ifCond .ge) o nx tgt) (k1 : ¬ x < 0 → WP l Z EL n0 R y bytes ml ret Q F h cells slots tgt Ls S) (k2 : x < 0 → WP l Z EL n0 R y bytes ml ret Q F h cells slots nx Ls S) : WP l Z EL n0 R y bytes ml ret Q F h cells slots pc Ls (.int x :: S) :=
  WP.ifC hd (fun q => k1 (Classical.byContradiction fun z => by have := XT.i0_ge_f (x := x) (by simpa using z); rw [q] at this; cases this)) (fun q => k2 (Classical.byContradiction fun z => by have := XT.i0_ge_t (x := x) (by simpa using z); rw [q] at this; cases this))
theorem WP.icmp_gt {x y' : Int32} {o : Int} {nx tgt : Nat} (hd : DJ bytes pc (.if_icmp .gt) o nx tgt) (k1 : y' < x → WP l Z EL n0 R y bytes ml ret Q F h cells slots tgt Ls S) (k2 : ¬ y' < x → WP l Z EL n0 R y bytes ml ret Q F h cells slots nx Ls S) : WP l Z EL n0 R y bytes ml ret Q F h cells slots pc Ls (.int y' :: .int x :: S) :=
  WP.icmpC hd (fun q => k1 (Classical.byContradiction fun z => by have := XT.ii_gt_f (x := x) (y := y') (by simpa using z); rw [q] at this; cases this)) (fun q => k2 (Classical.byContradiction fun z => by have := XT.ii_gt_t (x := x) (y := y') (by simpa using z); rw [q] at this; cases this))
theorem WP.if_gt {x : Int32} {o : Int} {nx tgt : Nat} (hd : DJ bytes pc (.ifCond .gt) o nx tgt) (k1 : 0 < x → WP l Z EL n0 R y bytes ml ret Q F h cells slots tgt Ls S) (k2 : ¬ 0 < x → WP l Z EL n0 R y bytes ml ret Q F h cells slots nx Ls S) : WP l Z EL n0 R y bytes ml ret Q F h cells slots pc Ls (.int x :: S) :=
  WP.ifC hd (fun q => k1 (Classical.byContradiction fun z => by have := XT.i0_gt_f (x := x) (by simpa using z); rw [q] at this; cases this)) (fun q => k2 (Classical.byContradiction fun z => by have := XT.i0_gt_t (x := x) (by simpa using z); rw [q] at this; cases this))
theorem WP.icmp_le {x y' : Int32} {o : Int} {nx tgt : Nat} (hd : DJ bytes pc (.if_icmp .le) o nx tgt) (k1 : ¬ y' < x → WP l Z EL n0 R y bytes ml ret Q F h cells slots tgt Ls S) (k2 : y' < x → WP l Z EL n0 R y bytes ml ret Q F h cells slots nx Ls S) : WP l Z EL n0 R y bytes ml ret Q F h cells slots pc Ls (.int y' :: .int x :: S) :=
  WP.icmpC hd (fun q => k1 (Classical.byContradiction fun z => by have := XT.ii_le_f (x := x) (y := y') (by simpa using z); rw [q] at this; cases this)) (fun q => k2 (Classical.byContradiction fun z => by have := XT.ii_le_t (x := x) (y := y') (by simpa using z); rw [q] at this; cases this))
theorem WP.if_le {x : Int32} {o : Int} {nx tgt : Nat} (hd : DJ bytes pc (.ifCond .le) o nx tgt) (k1 : ¬ 0 < x → WP l Z EL n0 R y bytes ml ret Q F h cells slots tgt Ls S) (k2 : 0 < x → WP l Z EL n0 R y bytes ml ret Q F h cells slots nx Ls S) : WP l Z EL n0 R y bytes ml ret Q F h cells slots pc Ls (.int x :: S) :=
  WP.ifC hd (fun q => k1 (Classical.byContradiction fun z => by have := XT.i0_le_f (x := x) (by simpa using z); rw [q] at this; cases this)) (fun q => k2 (Classical.byContradiction fun z => by have := XT.i0_le_t (x := x) (by simpa using z); rw [q] at this; cases this))
end Plain
end Jvm.Own
namespace Jvm.Own
open Jvm Jvm.ClassFile Sem Op Lib Jvm.Free Jvm.Stand Jvm.LawKit Jvm.RoadKit Bundle
/-- an array of ints, bytes, chars, shorts or booleans: its components -/
def IA (Z : State) (h : Heap) (a : Addr) (ty : FieldType) (xs : List Int32) : Prop := ∃ c : Cell, Arr Z h a c ty ∧ c.slots = (xs.map Value.int).toArray ∧ xs.length < 2 ^ 31
theorem nle {a b : Nat} (h : Nat.ble a b = true) : a ≤ b := Nat.le_of_ble_eq_true h
theorem nlt {a : Addr} {n : Nat} (h : a < n) : @LT.lt Nat instLTNat a n := h
theorem nea {a b : Addr} (h : @LT.lt Nat instLTNat a b ∨ @LT.lt Nat instLTNat b a) : a ≠ b := fun e => by
  subst e
  exact h.elim (Nat.lt_irrefl _) (Nat.lt_irrefl _)
/-- j is the int of the place i -/
def Ix (j : Int32) (i : Nat) : Prop := j.toInt = (i : Int)
theorem Ix.nn {j : Int32} {i : Nat} (q : Ix j i) : ¬ j < 0 := by
  rw [Int32.lt_iff_toInt_lt, q]; show ¬ (i : Int) < 0; omega
theorem Ix.clamp {j : Int32} {i : Nat} (q : Ix j i) : j.toNatClampNeg = i := by
  unfold Ix at q; simp only [Int32.toNatClampNeg, q]; exact Int.toNat_natCast i
theorem Ix.ofNat {i : Nat} (q : i < 2 ^ 31) : Ix (Int32.ofNat i) i := Int32.toInt_ofNat_of_lt q
section Facts
variable {Z : State} {h h' : Heap} {a b : Addr} {ty : FieldType} {xs : List Int32} {sl : Nat} {v : Value} {ws : List Addr}
theorem IA.lt (A : IA Z h a ty xs) : a < h.size := by obtain ⟨c, A, -⟩ := A; exact A.lt
theorem IA.len (A : IA Z h a ty xs) : xs.length < 2 ^ 31 := by obtain ⟨c, -, -, q⟩ := A; exact q
theorem IA.ext (A : IA Z h a ty xs) (E : Ext h h') : IA Z h' a ty xs := by obtain ⟨c, A, r⟩ := A; exact ⟨c, A.ext E, r⟩
theorem IA.other (A : IA Z h b ty xs) (W : Wr h h' a sl v) (q : b ≠ a) : IA Z h' b ty xs := by obtain ⟨c, A, r⟩ := A; exact ⟨c, A.other W q, r⟩
theorem IA.keep (A : IA Z h a ty xs) (K : Keep h h' ws) (q : a ∉ ws) : IA Z h' a ty xs := by obtain ⟨c, A, r⟩ := A; exact ⟨c, ⟨K.2.1 a c A.1 q, A.2⟩, r⟩
theorem IA.set {i : Nat} {x : Int32} (A : IA Z h a ty xs) (W : Wr h h' a i (.int x)) : IA Z h' a ty (xs.set i x) := by
  obtain ⟨c, A, e, q⟩ := A
  refine ⟨_, A.same W, ?_, by simpa using q⟩
  simp [Cell.setSlot, e, List.map_set]
theorem IA.of_arv {k : ClassId} {z : Int32} {d : Value} (A : Arv Z h a k ty z (xs.map Value.int) d) (hl : z.toNatClampNeg = xs.length) : IA Z h a ty xs := by
  obtain ⟨c, A, -, q1, q2, q3, -⟩ := A
  have hs : c.slots.size = xs.length := q1.trans hl
  refine ⟨c, A, ?_, ?_⟩
  · apply Array.ext_getElem?
    intro i
    by_cases hi : i < xs.length
    · rw [q3 i (by omega)]; simp [hi]
    · rw [Array.getElem?_eq_none (by omega), Array.getElem?_eq_none (by simp; omega)]
  · rw [← hl]
    have := (back32 q2).2
    exact this
theorem IA.size {c : Cell} (e : c.slots = (xs.map Value.int).toArray) : c.slots.size = xs.length := by rw [e]; simp
theorem Exa.neIA {C : String} {n : Nat} {a0 : Array Value} (E : Exa Z h a C) (w : (Cond.instantiable C n).before a0 Z = true) (A : IA Z h b ty xs) : a ≠ b := by
  obtain ⟨c, A, -⟩ := A
  exact ne_arr E w A
end Facts
section Heap
variable {l : Launch} {Z : State} {EL : List (String × Nat)} {n0 : Nat} {R : Room} {y : MethodName} {bytes : ByteArray} {ml : Nat} {ret : Option FieldType} {Q : Option Value → Heap → List Addr → Prop}
  {F : List Addr} {h : Heap} {cells slots pc pc' : Nat} {Ls Ls' : Array Slot} {S S' : List Value} {a0 : Array Value}
theorem WP.new {idx n : Nat} {C : String} (hd : D1 bytes pc (.new idx) 3 pc') (w : (Cond.classLink y.cls idx C).before a0 Z = true) (wi : (Cond.instantiable C n).before a0 Z = true) (wz : (Cond.initialized C).before a0 Z = true) (hc : cells + 1 ≤ R.cells) (hl : slots + n ≤ R.slots)
    (k : ∀ (h' : Heap) (b : Nat), b = h.size → Ext h h' → Exa Z h' b C → (∀ {O nm d : String} {ty : FieldType}, Laid Z a0 C O nm d → parseFieldDescriptor d = some ty → Fld Z h' b O nm d (defaultValue ty)) → Unt h' b → WP l Z EL n0 R y bytes ml ret Q (b :: F) h' (cells + 1) (slots + n) pc' Ls (.ref b :: S)) :
    WP l Z EL n0 R y bytes ml ret Q F h cells slots pc Ls S := by
  obtain ⟨hd, rfl⟩ := hd
  refine WP.grow (G := [h.size]) (P := fun h' => Exa Z h' h.size C ∧ (∀ {O nm d : String} {ty : FieldType}, Laid Z a0 C O nm d → parseFieldDescriptor d = some ty → Fld Z h' h.size O nm d (defaultValue ty)) ∧ Unt h' h.size) (fun h' E hP x hx => ?_) (fun p e s m args below meth c T vm0 locs D => ?_) (fun h' E hP => k h' _ rfl E hP.1 hP.2.1 hP.2.2)
  · cases List.mem_singleton.mp hx; exact ⟨hP.1.lt, Nat.le_refl _⟩
  · obtain ⟨X, e0, -, hZ, hown, -, -, -, -, hx, hby, -⟩ := D
    obtain ⟨T', h', X', e', E, A, D', U, st⟩ := newO X hx hZ hown w wi wz e0 (g := mkF m pc Ls S) rfl (hb hby hd) hc hl
    exact ⟨T', h', X', e', E, ⟨A, D', U⟩, st⟩
theorem WP.newarray {aty : ArrayType} {n : Int32} {cap i : Nat} (hd : D1 bytes pc (.newarray aty) 2 pc') (w : (Cond.arrayClass (newarray.typeOf aty)).before a0 Z = true) (hz : defaultValue (newarray.typeOf aty) = .int 0) (hn : Ix n i) (hcap : i ≤ cap) (hbig : cap * 8 ≤ 536870912) (hc : cells + 1 ≤ R.cells) (hl : slots + cap ≤ R.slots)
    (k : ∀ (h' : Heap) (b : Nat), b = h.size → Ext h h' → IA Z h' b (newarray.typeOf aty) (List.replicate i 0) → WP l Z EL n0 R y bytes ml ret Q (b :: F) h' (cells + 1) (slots + cap) pc' Ls (.ref b :: S)) :
    WP l Z EL n0 R y bytes ml ret Q F h cells slots pc Ls (.int n :: S) := by
  obtain ⟨hd, rfl⟩ := hd
  refine WP.grow (G := [h.size]) (P := fun h' => IA Z h' h.size (newarray.typeOf aty) (List.replicate i 0)) (fun h' E hP x hx => ?_) (fun p e s m args below meth c T vm0 locs D => ?_) (fun h' E hP => k h' _ rfl E hP)
  · cases List.mem_singleton.mp hx; exact ⟨hP.lt, Nat.le_refl _⟩
  · obtain ⟨X, e0, -, hZ, hown, -, -, -, -, hx, hby, -⟩ := D
    obtain ⟨T', h', cA, X', e', E, A, st⟩ := newP X hx hZ w e0 (g := mkF m pc Ls (.int n :: S)) rfl (hb hby hd) rfl hn.nn (cap := cap) (by rw [hn.clamp]; exact hcap) hbig hc hl
    exact ⟨T', h', X', e', E, ⟨_, A, by simp [newA, hn.clamp, hz], by have := hn; have := Int32.toInt_lt n; simp only [Ix] at *; simp; omega⟩, st⟩
theorem WP.castore {a : Addr} {xs : List Int32} {j x : Int32} {i : Nat} (hd : D1 bytes pc .castore 1 pc') (A : IA Z h a .char xs) (hj : Ix j i) (hi : i < xs.length) (na : n0 ≤ a)
    (k : ∀ h', Wr h h' a i (.int (nar .char x)) → WP l Z EL n0 R y bytes ml ret Q F h' cells slots pc' Ls S) : WP l Z EL n0 R y bytes ml ret Q F h cells slots pc Ls (.int x :: .int j :: .ref a :: S) := by
  obtain ⟨hd, rfl⟩ := hd
  obtain ⟨c, A, e, q⟩ := A
  refine WP.write na (SafeBy.arr A) (fun p e1 s m args below meth c' T vm0 locs D => ?_) k
  obtain ⟨X, e0, -, hZ, hown, -, -, -, -, hx, hby, -⟩ := D
  have := stC (x := x) X hx hZ e0 A (j := j) (by rw [IA.size e, hj.clamp]; exact fun z => z.elim hj.nn fun z => by omega) (g := mkF m pc Ls (.int x :: .int j :: .ref a :: S)) rfl rfl (hb hby hd)
  rw [hj.clamp] at this
  exact this
theorem WP.bastore {a : Addr} {xs : List Int32} {j x : Int32} {i : Nat} (hd : D1 bytes pc .bastore 1 pc') (A : IA Z h a .byte xs) (hm : SafeBy Z EL F h a) (hj : Ix j i) (hi : i < xs.length) (na : n0 ≤ a)
    (k : ∀ h', Wr h h' a i (.int (nar .byte x)) → WP l Z EL n0 R y bytes ml ret Q F h' cells slots pc' Ls S) : WP l Z EL n0 R y bytes ml ret Q F h cells slots pc Ls (.int x :: .int j :: .ref a :: S) := by
  obtain ⟨hd, rfl⟩ := hd
  obtain ⟨c, A, e, q⟩ := A
  refine WP.write na hm (fun p e1 s m args below meth c' T vm0 locs D => ?_) k
  obtain ⟨X, e0, -, hZ, hown, -, -, -, -, hx, hby, -⟩ := D
  have := stB (x := x) X hx hZ e0 A (j := j) (by rw [IA.size e, hj.clamp]; exact fun z => z.elim hj.nn fun z => by omega) (g := mkF m pc Ls (.int x :: .int j :: .ref a :: S)) rfl rfl (hb hby hd)
  rw [hj.clamp] at this
  exact this
theorem WP.iastore {a : Addr} {xs : List Int32} {j x : Int32} {i : Nat} (hd : D1 bytes pc .iastore 1 pc') (A : IA Z h a .int xs) (hj : Ix j i) (hi : i < xs.length) (na : n0 ≤ a)
    (k : ∀ h', Wr h h' a i (.int x) → WP l Z EL n0 R y bytes ml ret Q F h' cells slots pc' Ls S) : WP l Z EL n0 R y bytes ml ret Q F h cells slots pc Ls (.int x :: .int j :: .ref a :: S) := by
  obtain ⟨hd, rfl⟩ := hd
  obtain ⟨c, A, e, q⟩ := A
  refine WP.write na (SafeBy.arr A) (fun p e1 s m args below meth c' T vm0 locs D => ?_) k
  obtain ⟨X, e0, -, hZ, hown, -, -, -, -, hx, hby, -⟩ := D
  have := stI (x := x) X hx hZ e0 A (j := j) (by rw [IA.size e, hj.clamp]; exact fun z => z.elim hj.nn fun z => by omega) (g := mkF m pc Ls (.int x :: .int j :: .ref a :: S)) rfl rfl (hb hby hd)
  rw [hj.clamp] at this
  exact this
theorem WP.arraylength {a : Addr} {ty : FieldType} {xs : List Int32} (hd : D1 bytes pc .arraylength 1 pc') (A : IA Z h a ty xs) (k : WP l Z EL n0 R y bytes ml ret Q F h cells slots pc' Ls (.int (Int32.ofNat xs.length) :: S)) : WP l Z EL n0 R y bytes ml ret Q F h cells slots pc Ls (.ref a :: S) := by
  obtain ⟨hd, rfl⟩ := hd
  obtain ⟨c, A, e, q⟩ := A
  refine WP.same (fun p e1 s m args below meth c' T vm0 locs D => ?_) k
  obtain ⟨X, e0, -, hZ, hown, -, -, -, -, hx, hby, -⟩ := D
  refine ⟨T, X, e0, fun t q => X.arraylength hx (by rw [e0]; exact A.1) (State.isArrayOf_alike (T := s.setVm vm0) hZ.alike A.2.1) (g := mkF m pc Ls (.ref a :: S)) rfl rfl (hb hby hd) t ?_⟩
  rw [IA.size e]
  exact q
theorem IA.at {c : Cell} {xs : List Int32} {x : Int32} {i : Nat} (e : c.slots = (xs.map Value.int).toArray) (hx : xs[i]? = some x) : c.slots[i]? = some (.int x) := by rw [e]; simp [hx]
theorem WP.caload {a : Addr} {xs : List Int32} {j x : Int32} {i : Nat} (hd : D1 bytes pc .caload 1 pc') (A : IA Z h a .char xs) (hj : Ix j i) (hx : xs[i]? = some x) (k : WP l Z EL n0 R y bytes ml ret Q F h cells slots pc' Ls (.int x :: S)) : WP l Z EL n0 R y bytes ml ret Q F h cells slots pc Ls (.int j :: .ref a :: S) := by
  obtain ⟨hd, rfl⟩ := hd
  obtain ⟨c, A, e, q⟩ := A
  have hi : i < xs.length := (List.getElem?_eq_some_iff.mp hx).1
  refine WP.same (fun p e1 s m args below meth c' T vm0 locs D => ?_) k
  obtain ⟨X, e0, -, hZ, hown, -, -, -, -, hxx, hby, -⟩ := D
  exact ⟨T, X, e0, fun t q => X.caload hxx (v := .int x) (by rw [e0]; exact A.1) (State.isArrayOf_alike (T := s.setVm vm0) hZ.alike A.2.1) A.2.2 (by rw [IA.size e, hj.clamp]; exact fun z => z.elim hj.nn fun z => by omega) (by rw [hj.clamp]; exact IA.at e hx) (g := mkF m pc Ls (.int j :: .ref a :: S)) rfl rfl (hb hby hd) t q⟩
theorem WP.baload {a : Addr} {xs : List Int32} {j x : Int32} {i : Nat} (hd : D1 bytes pc .baload 1 pc') (A : IA Z h a .byte xs) (hj : Ix j i) (hx : xs[i]? = some x) (k : WP l Z EL n0 R y bytes ml ret Q F h cells slots pc' Ls (.int x :: S)) : WP l Z EL n0 R y bytes ml ret Q F h cells slots pc Ls (.int j :: .ref a :: S) := by
  obtain ⟨hd, rfl⟩ := hd
  obtain ⟨c, A, e, q⟩ := A
  have hi : i < xs.length := (List.getElem?_eq_some_iff.mp hx).1
  refine WP.same (fun p e1 s m args below meth c' T vm0 locs D => ?_) k
  obtain ⟨X, e0, -, hZ, hown, -, -, -, -, hxx, hby, -⟩ := D
  exact ⟨T, X, e0, fun t q => X.baloadBytes hxx (v := .int x) (by rw [e0]; exact A.1) (State.isArrayOf_alike (T := s.setVm vm0) hZ.alike A.2.1) A.2.2 (by rw [IA.size e, hj.clamp]; exact fun z => z.elim hj.nn fun z => by omega) (by rw [hj.clamp]; exact IA.at e hx) (g := mkF m pc Ls (.int j :: .ref a :: S)) rfl rfl (hb hby hd) t q⟩
theorem WP.iaload {a : Addr} {xs : List Int32} {j x : Int32} {i : Nat} (hd : D1 bytes pc .iaload 1 pc') (A : IA Z h a .int xs) (hj : Ix j i) (hx : xs[i]? = some x) (k : WP l Z EL n0 R y bytes ml ret Q F h cells slots pc' Ls (.int x :: S)) : WP l Z EL n0 R y bytes ml ret Q F h cells slots pc Ls (.int j :: .ref a :: S) := by
  obtain ⟨hd, rfl⟩ := hd
  obtain ⟨c, A, e, q⟩ := A
  have hi : i < xs.length := (List.getElem?_eq_some_iff.mp hx).1
  refine WP.same (fun p e1 s m args below meth c' T vm0 locs D => ?_) k
  obtain ⟨X, e0, -, hZ, hown, -, -, -, -, hxx, hby, -⟩ := D
  exact ⟨T, X, e0, fun t q => X.iaload hxx (v := .int x) (by rw [e0]; exact A.1) (State.isArrayOf_alike (T := s.setVm vm0) hZ.alike A.2.1) A.2.2 (by rw [IA.size e, hj.clamp]; exact fun z => z.elim hj.nn fun z => by omega) (by rw [hj.clamp]; exact IA.at e hx) (g := mkF m pc Ls (.int j :: .ref a :: S)) rfl rfl (hb hby hd) t q⟩
theorem WP.getfield {idx : Nat} {R0 O nm d host : String} {a : Addr} {v : Value} (hd : D1 bytes pc (.getfield idx) 3 pc') (w : (Cond.fieldLink y.cls idx R0 nm d).before a0 Z = true ∨ (Cond.fieldLinkNest y.cls idx R0 nm d host).before a0 Z = true) (via : Via Z R0 O nm d) (A : Fld Z h a O nm d v) (k : WP l Z EL n0 R y bytes ml ret Q F h cells slots pc' Ls (v :: S)) : WP l Z EL n0 R y bytes ml ret Q F h cells slots pc Ls (.ref a :: S) := by
  obtain ⟨hd, rfl⟩ := hd
  refine WP.same (fun p e1 s m args below meth c' T vm0 locs D => ?_) k
  obtain ⟨X, e0, -, hZ, hown, -, -, -, -, hxx, hby, -⟩ := D
  exact getF X hxx hZ hown w via e0 A (g := mkF m pc Ls (.ref a :: S)) rfl rfl (hb hby hd)
theorem WP.putfield {idx kk : Nat} {R0 O nm d host C : String} {ty : FieldType} {a : Addr} {v old : Value} (hd : D1 bytes pc (.putfield idx) 3 pc') (w : (Cond.fieldLink y.cls idx R0 nm d).before a0 Z = true ∨ (Cond.fieldLinkNest y.cls idx R0 nm d host).before a0 Z = true) (via : Via Z R0 O nm d) (A : Fld Z h a O nm d old) (E : Exa Z h a C)
    (L : (Cond.lays C O nm d).before a0 Z = true ∨ ((Cond.laysFinal C O nm d).before a0 Z = true ∧ y.cls = O ∧ y.name = "<init>")) (wi : (Cond.instantiable C kk).before a0 Z = true) (hty : parseFieldDescriptor d = some ty) (hn : narrow ty v = v) (hf : fits ty v = true) (na : n0 ≤ a) (hs : SafeBy Z EL F h a)
    (k : ∀ h', Wr h h' a (Jvm.RoadKit.slotOf Z O nm d) v → WP l Z EL n0 R y bytes ml ret Q F h' cells slots pc' Ls S) : WP l Z EL n0 R y bytes ml ret Q F h cells slots pc Ls (v :: .ref a :: S) := by
  obtain ⟨hd, rfl⟩ := hd
  refine WP.write na hs (fun p e1 s m args below meth c' T vm0 locs D => ?_) k
  obtain ⟨X, e0, -, hZ, hown, -, -, -, -, hxx, hby, -, -, -, hnm, -⟩ := D
  exact putF X hxx hZ hown w via e0 A E (L.imp id fun q => ⟨q.1, q.2.1, hnm.trans q.2.2⟩) wi hty hn hf (g := mkF m pc Ls (v :: .ref a :: S)) rfl rfl (hb hby hd)
theorem WP.getstatic {idx : Nat} {R0 O nm d : String} {v : Value} (hd : D1 bytes pc (.getstatic idx) 3 pc') (w : (Cond.fieldLink y.cls idx R0 nm d).before a0 Z = true) (via : Via Z R0 O nm d) (A : Sta Z Z.heap O nm d v) (k : WP l Z EL n0 R y bytes ml ret Q F h cells slots pc' Ls (v :: S)) : WP l Z EL n0 R y bytes ml ret Q F h cells slots pc Ls S := by
  obtain ⟨hd, rfl⟩ := hd
  refine WP.same (fun p e1 s m args below meth c' T vm0 locs D => ?_) k
  obtain ⟨X, e0, -, hZ, hown, -, -, -, hO, hxx, hby, -⟩ := D
  exact getS (host := "") X hxx hZ hown w via e0 (A.ext hO.2) (g := mkF m pc Ls S) rfl (hb hby hd)
theorem WP.checkcast {idx : Nat} {K : String} {a : Addr} (hd : D1 bytes pc (.checkcast idx) 3 pc') (w : (Cond.classLink y.cls idx K).before a0 Z = true) (A : Ins Z h a K true) (k : WP l Z EL n0 R y bytes ml ret Q F h cells slots pc' Ls (.ref a :: S)) : WP l Z EL n0 R y bytes ml ret Q F h cells slots pc Ls (.ref a :: S) := by
  obtain ⟨hd, rfl⟩ := hd
  refine WP.same (fun p e1 s m args below meth c' T vm0 locs D => ?_) k
  obtain ⟨X, e0, -, hZ, hown, -, -, -, hO, hxx, hby, -⟩ := D
  exact castY X hxx hZ hown w e0 A (g := mkF m pc Ls (.ref a :: S)) rfl rfl (hb hby hd)
theorem WP.instanceof {idx : Nat} {K : String} {a : Addr} (hd : D1 bytes pc (.instanceof idx) 3 pc') (w : (Cond.classLink y.cls idx K).before a0 Z = true) (A : Ins Z h a K true) (k : WP l Z EL n0 R y bytes ml ret Q F h cells slots pc' Ls (.int 1 :: S)) : WP l Z EL n0 R y bytes ml ret Q F h cells slots pc Ls (.ref a :: S) := by
  obtain ⟨hd, rfl⟩ := hd
  refine WP.same (fun p e1 s m args below meth c' T vm0 locs D => ?_) k
  obtain ⟨X, e0, -, hZ, hown, -, -, -, hO, hxx, hby, -⟩ := D
  exact instY X hxx hZ hown w e0 A (g := mkF m pc Ls (.ref a :: S)) rfl rfl (hb hby hd)
theorem WP.initObject {idx : Nat} {a : Addr} (hd : D1 bytes pc (.invokespecial idx) 3 pc') (w1 : (Cond.methodLink y.cls idx Lib.objectInit).before a0 Z = true) (w2 : (Cond.instanceMethod Lib.objectInit).before a0 Z = true) (w3 : (Cond.code Lib.objectInit ⟨#[0xb1]⟩ 1 none).before a0 Z = true) (hsz : Ls.size = ml) (hf : 1 ≤ R.frames) (hl : (S.map fun v => v.category).sum + 12 ≤ R.locals)
    (k : WP l Z EL n0 R y bytes ml ret Q F h cells slots pc' Ls S) : WP l Z EL n0 R y bytes ml ret Q F h cells slots pc Ls (.ref a :: S) := by
  obtain ⟨hd, rfl⟩ := hd
  refine WP.same (fun p e1 s m args below meth c' T vm0 locs D => ?_) k
  obtain ⟨X, e0, -, hZ, hown, -, -, -, hO, hxx, hby, hml, -⟩ := D
  exact initO X hxx hZ hown w1 w2 w3 e0 (g := mkF m pc Ls (.ref a :: S)) rfl (by rw [hml]; exact hsz) rfl (hb hby hd) hf (W := (S.map fun v => v.category).sum) (by show 2 * 0 + _ ≤ _; omega) hl
/-- ldc of a String constant, read -/
theorem WP.ldcS {idx n : Nat} {text : String} {bs : List Int32} (hd : D1 bytes pc (.ldc idx) 2 pc') (hEL : EW Z a0 EL) (hmem : (y.cls, idx) ∈ EL) (w : (Cond.stringLink y.cls idx text).before a0 Z = true) (wS : ∀ a ∈ Bundle.stringAtoms, a.before a0 Z = true)
    (ht : (∀ c ∈ text.toList, c.toNat < 256) ∧ text.toList.map (fun c => Jvm.Lit.byteI c.toNat.toUInt16) = bs) (hlen : bs.length < 2 ^ 31) (hn : 4 * text.toList.length ≤ n) (hbig : n ≤ 536870912) (hc : cells + 2 ≤ R.cells) (hl' : slots + (n + 4) ≤ R.slots)
    (k : ∀ h' a b, Ext h h' → Exa Z h' a "java/lang/String" → Fld Z h' a "java/lang/String" "coder" "B" (.int 0) → Fld Z h' a "java/lang/String" "value" "[B" (.ref b) → IA Z h' b .byte bs → WP l Z EL n0 R y bytes ml ret Q F h' (cells + 2) (slots + (n + 4)) pc' Ls (.ref a :: S)) : WP l Z EL n0 R y bytes ml ret Q F h cells slots pc Ls S := by
  obtain ⟨hd, rfl⟩ := hd
  intro p e s m args below meth c T vm0 locs D
  obtain ⟨X, e0, ⟨k0, hS, hk⟩, hZ, hown, hC, hF, hN, hO, hx, hby, r⟩ := D
  have hz : (Int32.ofNat bs.length).toNatClampNeg = (bs.map Value.int).length := by rw [(Ix.ofNat hlen).clamp]; simp
  obtain ⟨a, T', h', k1, b, kb, X', e', E, hS', hk', hZ', hown', hE, hco, hva, hA, -, -, hC', -, -, st⟩ := ldcCH X hx hZ hown w wS e0 hS hk hEL hmem hC.1 (vs := bs.map Value.int) (z := Int32.ofNat bs.length) ⟨ht.1, by rw [← ht.2, List.map_map]; rfl⟩ (Ix.ofNat hlen).nn hz (g := mkF m pc Ls S) rfl (hb hby hd) hn hbig hc hl'
  exact (k h' a b E hE hco hva (IA.of_arv hA (by rw [hz]; simp)) p e s m args below meth c T' T'.vm locs ⟨X', e', ⟨k1, hS', hk'⟩, hZ', hown', hC.trans hC', fun x hx => ⟨Nat.lt_of_lt_of_le (hF x hx).1 E.1, hC'.safe (hF x hx).1 (hF x hx).2⟩, hN, hO.ext E, hx, hby, r⟩).step st
/-- ldc of a String constant, not read -/
theorem WP.ldcO {idx n : Nat} {text : String} (hd : D1 bytes pc (.ldc idx) 2 pc') (hEL : EW Z a0 EL) (w : (Cond.stringLink y.cls idx text).before a0 Z = true) (wS : ∀ a ∈ Bundle.stringAtoms, a.before a0 Z = true)
    (hn : 4 * text.toList.length ≤ n) (hbig : n ≤ 536870912) (hc : cells + 2 ≤ R.cells) (hl' : slots + (n + 4) ≤ R.slots)
    (k : ∀ h' a, Ext h h' → WP l Z EL n0 R y bytes ml ret Q F h' (cells + 2) (slots + (n + 4)) pc' Ls (.ref a :: S)) : WP l Z EL n0 R y bytes ml ret Q F h cells slots pc Ls S := by
  obtain ⟨hd, rfl⟩ := hd
  intro p e s m args below meth c T vm0 locs D
  obtain ⟨X, e0, ⟨k0, hS, hk⟩, hZ, hown, hC, hF, hN, hO, hx, hby, r⟩ := D
  obtain ⟨a, T', h', k1, X', e', E, hS', hk', hZ', hown', hC', -, st⟩ := ldcOH X hx hZ hown w wS e0 hS hk hEL hC.1 (g := mkF m pc Ls S) rfl (hb hby hd) hn hbig hc hl'
  exact (k h' a E p e s m args below meth c T' T'.vm locs ⟨X', e', ⟨k1, hS', hk'⟩, hZ', hown', hC.trans hC', fun x hx => ⟨Nat.lt_of_lt_of_le (hF x hx).1 E.1, hC'.safe (hF x hx).1 (hF x hx).2⟩, hN, hO.ext E, hx, hby, r⟩).step st
/-- return of anything that its type takes as it is -/
theorem WP.retV {w : Value} {i : Instr} {t : FieldType} (hd : D1 bytes pc i 1 pc') (hr : ret = some t) (hn : narrow t w = w)
    (hi : (i = .ireturn ∧ (t = .int ∨ t = .boolean ∨ t = .byte ∨ t = .char ∨ t = .short) ∧ ∃ z, w = .int z) ∨ (i = .lreturn ∧ t = .long ∧ ∃ z, w = .long z) ∨ (i = .dreturn ∧ t = .double ∧ ∃ z, w = .double z) ∨ (i = .freturn ∧ t = .float ∧ ∃ z, w = .float z) ∨ (i = .areturn ∧ t.isReference = true ∧ w.isRef = true))
    (hc : cells ≤ R.cells) (hl : slots ≤ R.slots) {G : List Addr} (hG : ∀ x ∈ G, x ∈ F) (hQ : Q (some w) h G) : WP l Z EL n0 R y bytes ml ret Q F h cells slots pc Ls (w :: S) := by
  obtain ⟨hd, rfl⟩ := hd
  refine WP.leave (v := some w) (fun p e s m args below meth c T vm0 locs fs D hlv => ?_) (fun q => by rw [hr] at q; cases q) hc hl hG hQ
  obtain ⟨X, e0, -, hZ, hown, -, -, -, -, hx, hby, -, hret, -⟩ := D
  exact retOut X hx (hret.trans hr) hn hi (hb hby hd) hlv
theorem WP.ireturn {z : Int32} {t : FieldType} (hd : D1 bytes pc .ireturn 1 pc') (hr : ret = some t) (ht : t = .int ∨ t = .boolean ∨ t = .byte ∨ t = .char ∨ t = .short) (hn : narrow t (.int z) = .int z) (hc : cells ≤ R.cells) (hl : slots ≤ R.slots) {G : List Addr} (hG : ∀ x ∈ G, x ∈ F) (hQ : Q (some (.int z)) h G) : WP l Z EL n0 R y bytes ml ret Q F h cells slots pc Ls (.int z :: S) :=
  WP.retV hd hr hn (Or.inl ⟨rfl, ht, z, rfl⟩) hc hl hG hQ
theorem WP.areturn {w : Value} {t : FieldType} (hd : D1 bytes pc .areturn 1 pc') (hr : ret = some t) (ht : t.isReference = true) (hw : w.isRef = true) (hc : cells ≤ R.cells) (hl : slots ≤ R.slots) {G : List Addr} (hG : ∀ x ∈ G, x ∈ F) (hQ : Q (some w) h G) : WP l Z EL n0 R y bytes ml ret Q F h cells slots pc Ls (w :: S) :=
  WP.retV hd hr (by cases t <;> first | (cases ht; done) | (rcases ref_cases hw with rfl | ⟨a, rfl⟩ <;> rfl)) (Or.inr (Or.inr (Or.inr (Or.inr ⟨rfl, ht, hw⟩)))) hc hl hG hQ
theorem WP.return_ (hd : D1 bytes pc .return_ 1 pc') (hr : ret = none) (hc : cells ≤ R.cells) (hl : slots ≤ R.slots) {G : List Addr} (hG : ∀ x ∈ G, x ∈ F) (hQ : Q none h G) : WP l Z EL n0 R y bytes ml ret Q F h cells slots pc Ls [] := by
  obtain ⟨hd, rfl⟩ := hd
  refine WP.leave (v := none) (fun p e s m args below meth c T vm0 locs fs D hlv => ?_) (fun _ => rfl) hc hl hG hQ
  obtain ⟨X, e0, -, hZ, hown, -, -, -, -, hx, hby, -, hret, -⟩ := D
  exact X.returnOut hx (hret.trans hr) (hb hby hd) hlv
end Heap
end Jvm.Own
namespace Jvm.Own
open Jvm Jvm.ClassFile Sem Op Lib Jvm.Free Jvm.Stand Jvm.LawKit Jvm.RoadKit Bundle
/-- a method's contract: called with these arguments at the heap h0 it returns as Q says -/
def Met (l : Launch) (Z : State) (EL : List (String × Nat)) (n0 : Nat) (ws : List Jvm.Cond) (y : MethodName) (bytes : ByteArray) (ml : Nat) (ret : Option FieldType) (rm : Room) (as : Array Value) (F0 : List Addr) (h0 : Heap) (Q : Option Value → Heap → List Addr → Prop) : Prop :=
  MetFree l y (head1 (Jvm.Cond.code y bytes ml ret :: ws) rm) (fun a U => a = as ∧ Z.Warmed39 U.vm ∧ U.heap = h0 ∧ CHv Z EL U.vm h0 ∧ SafeL Z EL U.vm h0 F0) (fun _ _ bl _ _ => Gn Z → Z.vm.FramesKnown bl)
    (fun _ U o U' => ∃ v L, o = .returned v ∧ ((∃ F, Q v U'.heap F ∧ SafeL Z EL U'.vm U'.heap F) ∧ Fr n0 L ∧ Old Z n0 U'.heap) ∧ CHr Z EL U.vm U.heap U'.vm U'.heap ∧ ReturnedEndW U o U' L rm.cells rm.slots)
section Calls
variable {l : Launch} {Z : State} {EL : List (String × Nat)} {n0 : Nat} {R : Room} {y : MethodName} {bytes : ByteArray} {ml : Nat} {ret : Option FieldType} {Q : Option Value → Heap → List Addr → Prop}
  {F : List Addr} {h : Heap} {cells slots pc pc' : Nat} {Ls Ls' : Array Slot} {S S' : List Value} {a0 : Array Value}
theorem Met.of {ws : List Jvm.Cond} {rm : Room} {as : Array Value} {F0 : List Addr} {h0 : Heap} (hpl : plainFor y = true) (hEL : EW Z a0 EL) (hO : Old Z n0 h0) (hef : ∀ m, entryFrame m as ml = mkF m 0 Ls [])
    (body : WP l Z EL n0 rm y bytes ml ret Q F0 h0 0 0 0 Ls []) : Met l Z EL n0 ws y bytes ml ret rm as F0 h0 Q := by
  refine MetFree.of_bodySF hpl hisR ?_
  intro p e s m args below meth c s₁ Bd hml0 hP hK
  obtain ⟨rfl, hZ, hh, hC, hS⟩ := hP
  have e0 : s₁.heap = h0 := by rw [← hh, Bd.state]; rfl
  have ev : s₁.vm = s.vm := by rw [Bd.state]; rfl
  have X : Stand p l e rm s m args below meth c s₁ [] 0 0 := Stand.of_body Bd
  have hsi : s.Since s.vm 0 := ev ▸ X.warmed.since 0
  obtain ⟨t, o, r1, r⟩ := body p e s m args below meth c s₁ s.vm [] ⟨X, e0, ⟨0, hsi, Nat.zero_le _⟩, hZ, findClass_of_methodNamed Bd.named, by rw [hh]; exact CHr.refl hC, hS, Fr.nil n0, hO, Bd.exec, Bd.bytes, hml0, Bd.returns, Bd.notSynchronized, (name_of_methodNamed Bd.named Bd.method).1, ⟨a0, hEL⟩, hK, by rw [hh]; exact hO.2⟩
  refine ⟨t, o, ?_, r⟩
  rw [hef]; exact r1
variable {yc : MethodName} {bytesc : ByteArray} {mlc : Nat} {retc : Option FieldType} {rm : Room} {as : Array Value} {F0 : List Addr} {Qc : Option Value → Heap → List Addr → Prop}
theorem known_of {p : Program} {e : Env} {m : MethodId} {meth : Method} {c : Code} {T s : State} {vm0 : Vm} {args : Array Value} {below : List Frame} {locs : List Loc} (Y : Stand p l e R (s.setVm vm0) m args below meth c T locs cells slots) {g : JFrame} (hg : g.method = m) (hZ : Z.Warmed39 vm0) (hk : Gn Z → Z.vm.FramesKnown below) : Gn Z → Z.vm.FramesKnown (T.setTop g).frames := fun q =>
  have hA : Z.vm.Alike T.vm := (wtrans (s := s.setVm vm0) hZ Y.warmed).alike
  (Vm.FramesKnown.alikeC hA.symm (known_frames Y hg (Vm.MethodsKnown.alikeC (vm' := (s.setVm vm0).vm) hZ.alike q.1) (Vm.FramesKnown.alikeC (vm' := (s.setVm vm0).vm) hZ.alike (hk q))).2)
theorem backM {p : Program} {e : Env} {below : List Frame} {s : State} {vm0 : Vm} {args : Array Value} {len W : Nat} (M : Met l Z EL n0 [] yc bytesc mlc retc rm as F0 h Qc)
    (hZ : Z.Warmed39 vm0) (wc : (Jvm.Cond.code yc bytesc mlc retc).before a0 Z = true) (wz : (Jvm.Cond.initialized yc.cls).before a0 Z = true) (hf : rm.frames + 1 ≤ R.frames) (hl : W + (mlc + 11) + rm.locals ≤ R.locals) (hEL : ∃ a0, EW Z a0 EL) (hkn : Gn Z → Z.vm.FramesKnown below) (H : CHv Z EL vm0 h) (hS : SafeL Z EL vm0 h F0) :
    BackS l R p e below (s.setVm vm0) args yc len W (fun A a => a = as ∧ A.U.heap = h ∧ A.cells + rm.cells ≤ R.cells ∧ A.slots + rm.slots ≤ R.slots)
      (fun A _ v B => ∃ L F', Qc v B.U.heap F' ∧ SafeL Z EL B.U.vm B.U.heap F' ∧ Fr n0 L ∧ Old Z n0 B.U.heap ∧ B.locs = A.locs ++ L ∧ B.cells = A.cells + rm.cells ∧ B.slots = A.slots + rm.slots ∧ CHr Z EL vm0 h B.U.vm B.U.heap) := by
  obtain ⟨a1, hEL⟩ := hEL
  exact BackS.of_freeWG (bytes := bytesc) (maxL := mlc) (ret := retc) (E := fun _ first o t L k n => k = rm.cells ∧ n = rm.slots ∧ (∃ v, o = .returned v ∧ (∃ F', Qc v t.heap F' ∧ SafeL Z EL t.vm t.heap F') ∧ Fr n0 L ∧ Old Z n0 t.heap) ∧ CHr Z EL first.vm first.heap t.vm t.heap) M hf hl
    (fun m meth c A a Y hp => have hU : Z.Warmed39 A.U.vm := wtrans (s := s.setVm vm0) hZ Y.warmed
      ⟨by show (Jvm.Cond.and _ .tt).before a A.U = true; rw [Cond.before_and, mv hU wc]; rfl, mv hU wc, mv hU wz, hp.2.2.1, hp.2.2.2⟩)
    (fun m meth c A a g mk Y hp => ⟨hp.1, wtrans (s := s.setVm vm0) hZ Y.warmed, hp.2.1, (CHv.at Y hZ hEL H).1, fun x hx => ⟨(hS x hx).1, (CHv.at Y hZ hEL H).safe (hS x hx).1 (hS x hx).2⟩⟩) (fun m meth c A a g mk Y _ hg => known_of Y hg hZ hkn)
    (fun _ _ _ _ ⟨v, L, h1, h2, h3, h4⟩ => ⟨L, _, _, h4, rfl, rfl, ⟨v, h1, h2⟩, h3⟩)
    (fun m meth c A a g mk v t L k n Y hp _ _ ⟨e1, e2, ⟨v', e3, ⟨F', e4, e4'⟩, e5, e6⟩, e7⟩ => by
      cases e3; subst e1 e2
      refine ⟨L, F', e4, e4', e5, e6, rfl, rfl, rfl, (CHv.at Y hZ hEL H).trans ?_⟩
      rw [← hp.2.1]; exact e7)
theorem WP.call {len W : Nat} {rest : List Value} (M : Met l Z EL n0 [] yc bytesc mlc retc rm as F0 h Qc) (wc : (Jvm.Cond.code yc bytesc mlc retc).before a0 Z = true) (wz : (Jvm.Cond.initialized yc.cls).before a0 Z = true) (hf : rm.frames + 1 ≤ R.frames) (hl : W + (mlc + 11) + rm.locals ≤ R.locals)
    (hcl : cells + rm.cells ≤ R.cells) (hsl : slots + rm.slots ≤ R.slots) (hF0 : ∀ x ∈ F0, SafeBy Z EL F h x)
    (st : ∀ (p : Program) (e : Env) (s : State) (m : MethodId) (args : Array Value) (below : List Frame) (meth : Method) (c : Code) (T : State) (vm0 : Vm) (locs : List Loc), Std l Z EL n0 R y bytes ml ret p e s m args below meth c T vm0 locs F h cells slots →
      ∀ (Pre : Pt → Array Value → Prop) (Post : Pt → Array Value → Option Value → Pt → Prop), BackS l R p e below (s.setVm vm0) args yc len W Pre Post → (∀ vm₁, (s.setVm vm0).WarmedH vm₁ → Pre ⟨T.setVm vm₁, locs, cells, slots⟩ as) →
      ∃ (v : Option Value) (vm₁ : Vm) (B : Pt), (s.setVm vm0).WarmedH vm₁ ∧ Stand p l e R ((s.setVm vm0).setVm B.U.vm) m args below meth c B.U B.locs B.cells B.slots ∧ (s.setVm vm0).Since B.U.vm B.U.heap.size ∧ T.heap.size ≤ B.U.heap.size ∧ Post ⟨T.setVm vm₁, locs, cells, slots⟩ as v B ∧
        Steps p.tables e below (T.setTop (mkF m pc Ls S)) (B.U.setTop (mkF m pc' Ls (v.toList ++ rest))))
    (k : ∀ v h' F', Qc v h' F' → h.size ≤ h'.size → WP l Z EL n0 R y bytes ml ret Q (F' ++ F) h' (cells + rm.cells) (slots + rm.slots) pc' Ls (v.toList ++ rest)) : WP l Z EL n0 R y bytes ml ret Q F h cells slots pc Ls S := by
  intro p e s m args below meth c T vm0 locs D
  have D' := D
  obtain ⟨X, e0, ⟨k0, hS, hk⟩, hZ, hown, hC, hF, hN, hO, hx, hby, hml, hret, hlk, hnm, hEL, hkn⟩ := D
  have K := backM (p := p) (e := e) (below := below) (s := s) (args := args) (len := len) (W := W) (R := R) M hZ wc wz hf hl hEL hkn.1 hC.1 (fun x hx => ⟨(hF0 x hx).1, (hF0 x hx).2 vm0 hZ.alike hF⟩)
  obtain ⟨v, vm₁, ⟨U, L1, c1, n1⟩, -, X', hS', hle, ⟨L, F', q1, q2, q3, q4, q5, q6, q7, q8⟩, stp⟩ := st p e s m args below meth c T vm0 locs D' _ _ K (fun vm₁ _ => ⟨rfl, e0, hcl, hsl⟩)
  subst q5 q6 q7
  obtain ⟨X2, hS2, hZ2, hown2⟩ := rebS (s := s) hS (show k0 ≤ T.heap.size by rw [e0]; exact hk) X' hS' hle hZ hown
  refine (k v U.heap F' q1 q8.2.1 p e s m args below meth c U U.vm _ ⟨X2, rfl, ⟨_, hS2, Nat.le_refl _⟩, hZ2, hown2, hC.trans q8, fun x hx => ?_, hN.app q3, q4, hx, hby, hml, hret, hlk, hnm, hEL, hkn⟩).step fun t q => stp.trans q
  rcases List.mem_append.mp hx with hx | hx
  · exact q2 x hx
  · exact ⟨Nat.lt_of_lt_of_le (hF x hx).1 q8.2.1, q8.safe (hF x hx).1 (hF x hx).2⟩
/-- invokestatic -/
theorem WP.static {idx : Nat} {argsL rest : List Value} {ps : List FieldType} {rt : Option FieldType} (hd : D1 bytes pc (.invokestatic idx) 3 pc') (M : Met l Z EL n0 [] yc bytesc mlc retc rm argsL.toArray F0 h Qc)
    (wl : (Jvm.Cond.methodLink y.cls idx yc).before a0 Z = true) (ws : (Jvm.Cond.static yc).before a0 Z = true) (wz : (Jvm.Cond.initialized yc.cls).before a0 Z = true) (wc : (Jvm.Cond.code yc bytesc mlc retc).before a0 Z = true)
    (hy : yc.cls ≠ "java/lang/invoke/MethodHandle" ∧ yc.cls ≠ "java/lang/invoke/VarHandle") (hpd : parseMethodDescriptor yc.desc = some ⟨ps, rt⟩) (hpl : argsL.length = ps.length) (hstk : S = argsL.reverse ++ rest) (hsz : Ls.size = ml)
    (hf : rm.frames + 1 ≤ R.frames) (hl : (rest.map fun v => v.category).sum + (mlc + 11) + rm.locals ≤ R.locals) (hcl : cells + rm.cells ≤ R.cells) (hsl : slots + rm.slots ≤ R.slots) (hF0 : ∀ x ∈ F0, SafeBy Z EL F h x)
    (k : ∀ v h' F', Qc v h' F' → h.size ≤ h'.size → WP l Z EL n0 R y bytes ml ret Q (F' ++ F) h' (cells + rm.cells) (slots + rm.slots) pc' Ls (v.toList ++ rest)) : WP l Z EL n0 R y bytes ml ret Q F h cells slots pc Ls S := by
  obtain ⟨hd, rfl⟩ := hd
  refine WP.call (len := 3) (rest := rest) M wc wz hf hl hcl hsl hF0 (fun p e s m args below meth c T vm0 locs D Pre Post K hpre => ?_) k
  obtain ⟨X, e0, -, hZ, hown, -, -, -, -, hx, hby, hml, -⟩ := D
  exact callSS X hx hown (mvT (s := s.setVm vm0) hZ wl) (mvT (s := s.setVm vm0) hZ ws) (mvT (s := s.setVm vm0) hZ wz) (mvT (s := s.setVm vm0) hZ wc) hy K (g := mkF m pc Ls S) rfl (by rw [hml]; exact hsz) (lenOf hpd hpl) hstk (by show 2 * 0 + _ ≤ _; omega) (hb hby hd) hpre
/-- invokespecial of a constructor -/
theorem WP.special {idx : Nat} {a : Addr} {argsL rest : List Value} {ps : List FieldType} {rt : Option FieldType} (hd : D1 bytes pc (.invokespecial idx) 3 pc') (M : Met l Z EL n0 [] yc bytesc mlc none rm (.ref a :: argsL).toArray F0 h Qc) (hn : yc.name = "<init>")
    (wl : (Jvm.Cond.methodLink y.cls idx yc).before a0 Z = true) (ws : (Jvm.Cond.instanceMethod yc).before a0 Z = true) (wz : (Jvm.Cond.initialized yc.cls).before a0 Z = true) (wc : (Jvm.Cond.code yc bytesc mlc none).before a0 Z = true)
    (hy : yc.cls ≠ "java/lang/invoke/MethodHandle" ∧ yc.cls ≠ "java/lang/invoke/VarHandle") (hpd : parseMethodDescriptor yc.desc = some ⟨ps, rt⟩) (hpl : argsL.length = ps.length) (hstk : S = argsL.reverse ++ .ref a :: rest) (hsz : Ls.size = ml)
    (hf : rm.frames + 1 ≤ R.frames) (hl : (rest.map fun v => v.category).sum + (mlc + 11) + rm.locals ≤ R.locals) (hcl : cells + rm.cells ≤ R.cells) (hsl : slots + rm.slots ≤ R.slots) (hF0 : ∀ x ∈ F0, SafeBy Z EL F h x)
    (k : ∀ v h' F', Qc v h' F' → h.size ≤ h'.size → WP l Z EL n0 R y bytes ml ret Q (F' ++ F) h' (cells + rm.cells) (slots + rm.slots) pc' Ls (v.toList ++ rest)) : WP l Z EL n0 R y bytes ml ret Q F h cells slots pc Ls S := by
  obtain ⟨hd, rfl⟩ := hd
  refine WP.call (len := 3) (rest := rest) M wc wz hf hl hcl hsl hF0 (fun p e s m args below meth c T vm0 locs D Pre Post K hpre => ?_) k
  obtain ⟨X, e0, -, hZ, hown, -, -, -, -, hx, hby, hml, -⟩ := D
  exact X.specialBackS hx hn hown (mvT (s := s.setVm vm0) hZ wl) (mvT (s := s.setVm vm0) hZ ws) (mvT (s := s.setVm vm0) hZ wc) hy K (g := mkF m pc Ls S) rfl (by rw [hml]; exact hsz) (Steps.refl _) (lenOf hpd hpl) hstk (by show 2 * 0 + _ ≤ _; omega) (hb hby hd) hpre
/-- invokevirtual -/
theorem WP.virtual {idx : Nat} {a : Addr} {C : String} {yr : MethodName} {argsL rest : List Value} {ps : List FieldType} {rt : Option FieldType} (hd : D1 bytes pc (.invokevirtual idx) 3 pc') (M : Met l Z EL n0 [] yc bytesc mlc retc rm (.ref a :: argsL).toArray F0 h Qc) (E : Exa Z h a C)
    (wl : (Jvm.Cond.methodLink y.cls idx yr).before a0 Z = true) (wd : (Jvm.Cond.declares yr).before a0 Z = true) (wi : (Jvm.Cond.instanceMethod yc).before a0 Z = true) (ws : (Jvm.Cond.selects C yr yc).before a0 Z = true) (wz : (Jvm.Cond.initialized yc.cls).before a0 Z = true) (wc : (Jvm.Cond.code yc bytesc mlc retc).before a0 Z = true)
    {C2 : String} (hnf : (Jvm.Cond.selects C2 yr yr).before a0 Z = true)
    (hy : yr.cls ≠ "java/lang/invoke/MethodHandle" ∧ yr.cls ≠ "java/lang/invoke/VarHandle") (hpd : parseMethodDescriptor yr.desc = some ⟨ps, rt⟩) (hpl : argsL.length = ps.length) (hstk : S = argsL.reverse ++ .ref a :: rest) (hsz : Ls.size = ml)
    (hf : rm.frames + 1 ≤ R.frames) (hl : (rest.map fun v => v.category).sum + (mlc + 11) + rm.locals ≤ R.locals) (hcl : cells + rm.cells ≤ R.cells) (hsl : slots + rm.slots ≤ R.slots) (hF0 : ∀ x ∈ F0, SafeBy Z EL F h x)
    (k : ∀ v h' F', Qc v h' F' → h.size ≤ h'.size → WP l Z EL n0 R y bytes ml ret Q (F' ++ F) h' (cells + rm.cells) (slots + rm.slots) pc' Ls (v.toList ++ rest)) : WP l Z EL n0 R y bytes ml ret Q F h cells slots pc Ls S := by
  obtain ⟨hd, rfl⟩ := hd
  refine WP.call (len := 3) (rest := rest) M wc wz hf hl hcl hsl hF0 (fun p e s m args below meth c T vm0 locs D Pre Post K hpre => ?_) k
  obtain ⟨X, e0, -, hZ, hown, -, -, -, -, hx, hby, hml, -⟩ := D
  obtain ⟨cB, kB, o1, o2, o3⟩ := isOf (s := s.setVm vm0) hZ e0 E
  exact X.virtualBackS hx hown (mvT (s := s.setVm vm0) hZ wl) (mvT (s := s.setVm vm0) hZ wd) (notFace_of_selects (args := #[]) (mvT (s := s.setVm vm0) hZ hnf)) (mvT (s := s.setVm vm0) hZ ws) (mvT (s := s.setVm vm0) hZ wi) hy K o1 o3 (g := mkF m pc Ls S) rfl (by rw [hml]; exact hsz) (Steps.refl _) (lenOf hpd hpl) hstk (by show 2 * 0 + _ ≤ _; omega) (hb hby hd) hpre
end Calls
end Jvm.Own
namespace Jvm.Own
open Jvm Jvm.ClassFile Sem Op Lib Jvm.Free Jvm.Stand Jvm.LawKit Jvm.RoadKit Bundle
def Str (Z : State) (h : Heap) (a t : Addr) (bs : List Int32) : Prop := Exa Z h a "java/lang/String" ∧ Fld Z h a "java/lang/String" "coder" "B" (.int 0) ∧ Fld Z h a "java/lang/String" "value" "[B" (.ref t) ∧ IA Z h t .byte bs
/-- chars from 0 to 255 -/
def Lat (cs : List Int32) : Prop := ∀ c ∈ cs, 0 ≤ c.toInt ∧ c.toInt < 256
def lo8 (x : Int32) : Int32 := x.toInt8.toInt32
/-- a char below 256 -/
def B8 (c : Int32) : Prop := 0 ≤ c.toInt ∧ c.toInt < 256
theorem B8.and (x : Int32) : B8 (x &&& 255) := by
  have q := c_and x 255 (by decide)
  have e : (255 : Int32).toInt = 255 := rfl
  rw [e] at q
  exact ⟨q.1, by omega⟩
theorem B8.i2c_eq {x : Int32} (q : B8 x) : x.toUInt32.toUInt16.toUInt32.toInt32 = x := by
  have a := c_i2c x
  obtain ⟨q1, q2⟩ := q
  apply Int32.toInt_inj.mp
  omega
theorem B8.i2c {x : Int32} (q : B8 x) : B8 (x.toUInt32.toUInt16.toUInt32.toInt32) := by rw [q.i2c_eq]; exact q
theorem B8.nar {x : Int32} (q : B8 x) : nar .char x = x := q.i2c_eq
theorem Lat.nil : Lat [] := fun _ q => nomatch q
theorem Lat.cons {c : Int32} {cs : List Int32} (q : B8 c) (r : Lat cs) : Lat (c :: cs) := fun x hx => by
  rcases List.mem_cons.mp hx with rfl | hx
  · exact q
  · exact r x hx
section StrFacts
variable {Z : State} {h h' : Heap} {a b t : Addr} {bs cs : List Int32} {sl : Nat} {v : Value} {ws : List Addr}
theorem Str.lt (A : Str Z h a t bs) : a < h.size := A.1.lt
theorem Str.ltT (A : Str Z h a t bs) : t < h.size := A.2.2.2.lt
theorem Str.ext (A : Str Z h a t bs) (E : Ext h h') : Str Z h' a t bs := ⟨A.1.ext E, A.2.1.ext E, A.2.2.1.ext E, A.2.2.2.ext E⟩
theorem Str.keep (A : Str Z h a t bs) (K : Keep h h' ws) (q1 : a ∉ ws) (q2 : t ∉ ws) : Str Z h' a t bs := ⟨A.1.keep K, A.2.1.keep K q1, A.2.2.1.keep K q1, A.2.2.2.keep K q2⟩
theorem Str.other (A : Str Z h a t bs) (W : Wr h h' b sl v) (q1 : a ≠ b) (q2 : t ≠ b) : Str Z h' a t bs := ⟨A.1.wr W, A.2.1.other W (Or.inl q1), A.2.2.1.other W (Or.inl q1), A.2.2.2.other W q2⟩
theorem IA.inj {ty ty' : FieldType} {xs ys : List Int32} (A : IA Z h a ty xs) (B : IA Z h a ty' ys) : xs = ys := by
  obtain ⟨c, A, e, -⟩ := A
  obtain ⟨c', B, e', -⟩ := B
  cases A.1.symm.trans B.1
  have q := congrArg Array.toList (e.symm.trans e')
  simp only at q
  exact (List.map_inj_right (fun _ _ z => by cases z; rfl)).mp q
theorem Fld.inj {C n d : String} {v w : Value} (F : Fld Z h a C n d v) (G : Fld Z h a C n d w) : v = w := Classical.byContradiction fun q => Fld.ne F G q rfl
theorem Str.inj {t' : Addr} {bs' : List Int32} (A : Str Z h a t bs) (B : Str Z h a t' bs') : t = t' ∧ bs = bs' := by
  have q := Fld.inj A.2.2.1 B.2.2.1
  cases q
  exact ⟨rfl, IA.inj A.2.2.2 B.2.2.2⟩
theorem lo8_inj {x z : Int32} (hx : 0 ≤ x.toInt ∧ x.toInt < 256) (hz : 0 ≤ z.toInt ∧ z.toInt < 256) (q : lo8 x = lo8 z) : x = z := by
  have a1 := (c_i2b x).1
  have a2 := (c_i2b z).1
  have e : x.toInt8.toInt32.toInt = z.toInt8.toInt32.toInt := congrArg Int32.toInt q
  apply Int32.toInt_inj.mp
  omega
theorem lo8_map_inj : ∀ {cs ds : List Int32}, Lat cs → Lat ds → (cs.map lo8 = ds.map lo8 ↔ cs = ds) := by
  intro cs
  induction cs with
  | nil => intro ds _ _; cases ds <;> simp
  | cons c r ih =>
    intro ds h1 h2
    cases ds with
    | nil => simp
    | cons d r' =>
      simp only [List.map_cons, List.cons.injEq]
      have i := ih (ds := r') (fun x hx => h1 x (by simp [hx])) (fun x hx => h2 x (by simp [hx]))
      constructor
      · rintro ⟨p, q⟩
        exact ⟨lo8_inj (h1 c (by simp)) (h2 d (by simp)) p, i.mp q⟩
      · rintro ⟨rfl, q⟩
        exact ⟨rfl, i.mpr q⟩
def chr8 (b : Int32) : Int32 := (b &&& 255).toUInt32.toUInt16.toUInt32.toInt32
theorem chr8_lo8 {c : Int32} (q : B8 c) : chr8 (lo8 c) = c := by
  have e : lo8 c &&& 255 = c := by
    have a1 := c_mask (lo8 c) 255 8 (by decide) (by decide)
    have a2 := (c_i2b c).1
    obtain ⟨q1, q2⟩ := q
    apply Int32.toInt_inj.mp
    rw [a1]
    show c.toInt8.toInt32.toInt % ((2 ^ 8 : Nat) : Int) = _
    have e : ((2 ^ 8 : Nat) : Int) = 256 := rfl
    rw [e]
    omega
  unfold chr8
  rw [e]
  exact q.i2c_eq
theorem shr0 (x : Int32) : x >>> ((0 : Int32) &&& 31) = x := by
  have q := c_ishr x 0 0 (by decide)
  apply Int32.toInt_inj.mp
  rw [q]
  simp
theorem Ix.ltn {j : Int32} {i n : Nat} (q : Ix j i) (hn : n < 2 ^ 31) (hi : i < n) : j < Int32.ofNat n := by
  rw [Int32.lt_iff_toInt_lt, q, Int32.toInt_ofNat_of_lt hn]; omega
/-- a String that 'new' has just made is no literal -/
theorem SafeBy.blank {EL : List (String × Nat)} {F : List Addr} (E : Exa Z h a "java/lang/String") (V : Fld Z h a "java/lang/String" "value" "[B" .null) {n : Nat} {a0 : Array Value} (wi : (Jvm.Cond.instantiable "java/lang/String" n).before a0 Z = true) : SafeBy Z EL F h a := by
  refine ⟨E.lt, fun vm hal _ B => ?_⟩
  obtain ⟨p, hp, u, b, hb, q, hq, F', hy⟩ := B
  obtain ⟨cS, ⟨⟨s1, s2, s3, ⟨cv, kv, iv, s4, s4'⟩, ⟨cc, kc, ic, s5, s5'⟩, s6, s7, s8, s9, s10, s11, s12, s13, s14, s15, s16⟩, hfS, hcS⟩, ⟨kS, k1, k2, k3⟩, hB, hbyt⟩ := F'
  obtain ⟨cell, cf, k, i, f, h1, h2, h3, h4, h5, h6, h7⟩ := V
  rcases hy with rfl | rfl
  · obtain ⟨kv', z4⟩ := ff_back (U := Wst Z vm h) hal s4
    cases h2.symm.trans z4
    cases h1.symm.trans (show h[q.sa]? = some q.sC from s1)
    have := h7.symm.trans s8
    cases this
  · obtain ⟨c1, kk, e1, e2, e3, -⟩ := E
    cases e1.symm.trans (show h[q.sd]? = some q.SA from s10)
    obtain ⟨c2, k2', i1, i2, i3, -⟩ := Cond.instantiable_spec wi
    cases e2.symm.trans i1
    obtain ⟨-, k9, hk9, comp, hkind9⟩ := s11
    obtain ⟨k', hk', ek⟩ := hal.2.2 _ _ i2
    cases (show vm.classes[q.SA.cls]? = some k9 from hk9).symm.trans hk'
    rw [ek] at hkind9
    have hk3 : k2'.kind = _ := hkind9
    rw [i3] at hk3
    cases hk3
end StrFacts
end Jvm.Own
namespace Jvm.Own
open Jvm Jvm.ClassFile Sem Op Lib Jvm.Free Jvm.Stand Jvm.LawKit Jvm.RoadKit Bundle
section Dbl
variable {l : Launch} {Z : State} {EL : List (String × Nat)} {n0 : Nat} {R : Room} {y : MethodName} {bytes : ByteArray} {ml : Nat} {ret : Option FieldType} {Q : Option Value → Heap → List Addr → Prop}
  {F : List Addr} {h : Heap} {cells slots pc pc' : Nat} {Ls Ls' : Array Slot} {S S' : List Value} {a0 : Array Value}
theorem WP.ldcI {idx : Nat} {v : Int32} (hd : D1 bytes pc (.ldc idx) 2 pc') (w : (Jvm.Cond.constant y.cls idx v).before a0 Z = true) (k : WP l Z EL n0 R y bytes ml ret Q F h cells slots pc' Ls (.int v :: S)) : WP l Z EL n0 R y bytes ml ret Q F h cells slots pc Ls S := by
  obtain ⟨hd, rfl⟩ := hd
  refine WP.same (fun p e1 s m args below meth c' T vm0 locs D => ?_) k
  obtain ⟨X, e0, -, hZ, hown, -, -, -, -, hx, hby, -⟩ := D
  exact ⟨T, X, e0, fun t q => X.ldcI hx hown (mvT (s := s.setVm vm0) hZ w) (g := mkF m pc Ls S) rfl (hb hby hd) q⟩
theorem WP.ldc2J {idx : Nat} {v : Int64} (hd : D1 bytes pc (.ldc2_w idx) 3 pc') (w : (Jvm.Cond.constantLong y.cls idx v).before a0 Z = true) (k : WP l Z EL n0 R y bytes ml ret Q F h cells slots pc' Ls (.long v :: S)) : WP l Z EL n0 R y bytes ml ret Q F h cells slots pc Ls S := by
  obtain ⟨hd, rfl⟩ := hd
  refine WP.same (fun p e1 s m args below meth c' T vm0 locs D => ?_) k
  obtain ⟨X, e0, -, hZ, hown, -, -, -, -, hx, hby, -⟩ := D
  exact ⟨T, X, e0, fun t q => X.ldc2J hx hown (mvT (s := s.setVm vm0) hZ w) (g := mkF m pc Ls S) rfl (hb hby hd) q⟩
theorem WP.ldc2D {idx : Nat} {v : UInt64} (hd : D1 bytes pc (.ldc2_w idx) 3 pc') (w : (Jvm.Cond.constantDouble y.cls idx v).before a0 Z = true) (k : WP l Z EL n0 R y bytes ml ret Q F h cells slots pc' Ls (.double v :: S)) : WP l Z EL n0 R y bytes ml ret Q F h cells slots pc Ls S := by
  obtain ⟨hd, rfl⟩ := hd
  refine WP.same (fun p e1 s m args below meth c' T vm0 locs D => ?_) k
  obtain ⟨X, e0, -, hZ, hown, -, -, -, -, hx, hby, -⟩ := D
  exact ⟨T, X, e0, fun t q => X.ldc2DoubleC hx hown (mvT (s := s.setVm vm0) hZ w) (g := mkF m pc Ls S) rfl (hb hby hd) t q⟩
theorem WP.dload_n {i : Fin 4} {x : UInt64} (hd : D1 bytes pc (.dload_n i) 1 pc') (hl : Ls[i.val]? = some (.val (.double x))) (k : WP l Z EL n0 R y bytes ml ret Q F h cells slots pc' Ls (.double x :: S)) : WP l Z EL n0 R y bytes ml ret Q F h cells slots pc Ls S := by
  obtain ⟨hd, rfl⟩ := hd
  exact k.lift fun p e m c below T t hx hby ha q => XS.dloadN ha hx rfl (hb hby hd) hl q
theorem WP.dload {i : Nat} {x : UInt64} (hd : D1 bytes pc (.dload i) 2 pc') (hl : Ls[i]? = some (.val (.double x))) (k : WP l Z EL n0 R y bytes ml ret Q F h cells slots pc' Ls (.double x :: S)) : WP l Z EL n0 R y bytes ml ret Q F h cells slots pc Ls S := by
  obtain ⟨hd, rfl⟩ := hd
  exact k.lift fun p e m c below T t hx hby ha q => XS.dload ha hx rfl (hb hby hd) hl q
theorem WP.dstore_n {i : Fin 4} {x z : UInt64} (hd : D1 bytes pc (.dstore_n i) 1 pc') (hz : x = z) (hl : storeLocals Ls i.val (.double z) = some Ls') (k : WP l Z EL n0 R y bytes ml ret Q F h cells slots pc' Ls' S) : WP l Z EL n0 R y bytes ml ret Q F h cells slots pc Ls (.double x :: S) := by
  obtain ⟨hd, rfl⟩ := hd
  subst hz
  exact k.lift fun p e m c below T t hx hby ha q => XS.dstoreN ha hx rfl (hb hby hd) rfl hl q
theorem WP.dstore {i : Nat} {x z : UInt64} (hd : D1 bytes pc (.dstore i) 2 pc') (hz : x = z) (hl : storeLocals Ls i (.double z) = some Ls') (k : WP l Z EL n0 R y bytes ml ret Q F h cells slots pc' Ls' S) : WP l Z EL n0 R y bytes ml ret Q F h cells slots pc Ls (.double x :: S) := by
  obtain ⟨hd, rfl⟩ := hd
  subst hz
  exact k.lift fun p e m c below T t hx hby ha q => XS.dstore ha hx rfl (hb hby hd) rfl hl q
theorem WP.i2d {x : Int32} (hd : D1 bytes pc .i2d 1 pc') (k : WP l Z EL n0 R y bytes ml ret Q F h cells slots pc' Ls (.double (FP.i2d x) :: S)) : WP l Z EL n0 R y bytes ml ret Q F h cells slots pc Ls (.int x :: S) := by
  obtain ⟨hd, rfl⟩ := hd
  exact k.lift fun p e m c below T t hx hby ha q => XS.i2dS ha hx rfl (hb hby hd) rfl rfl q
theorem WP.dcmp {o : CmpOp} {x z : UInt64} {v : Int32} (hd : D1 bytes pc (.dcmp o) 1 pc') (hv : cmpValue (FP.dcmp x z) o = v) (k : WP l Z EL n0 R y bytes ml ret Q F h cells slots pc' Ls (.int v :: S)) : WP l Z EL n0 R y bytes ml ret Q F h cells slots pc Ls (.double z :: .double x :: S) := by
  obtain ⟨hd, rfl⟩ := hd
  exact k.lift fun p e m c below T t hx hby ha q => XS.dcmpS ha hx rfl (hb hby hd) rfl hv q
/-- Math.abs of a double that is no NaN -/
theorem WP.absD {idx mlc : Nat} {bytesc : ByteArray} {x z : UInt64} (hd : D1 bytes pc (.invokestatic idx) 3 pc') (w1 : (Jvm.Cond.methodLink y.cls idx (⟨"java/lang/Math", "abs", "(D)D"⟩ : MethodName)).before a0 Z = true) (w2 : (Jvm.Cond.static (⟨"java/lang/Math", "abs", "(D)D"⟩ : MethodName)).before a0 Z = true) (w3 : (Jvm.Cond.initialized "java/lang/Math").before a0 Z = true) (w4 : (Jvm.Cond.code (⟨"java/lang/Math", "abs", "(D)D"⟩ : MethodName) bytesc mlc (some .double)).before a0 Z = true)
    (hn : x &&& 0x7fffffffffffffff ≤ 0x7ff0000000000000) (hz : x &&& 0x7fffffffffffffff = z) (hsz : Ls.size = ml) (hf : 1 ≤ R.frames) (hl : (S.map fun v => v.category).sum + (mlc + 11) ≤ R.locals) (hc : cells ≤ R.cells) (hs : slots ≤ R.slots)
    (k : WP l Z EL n0 R y bytes ml ret Q F h cells slots pc' Ls (.double z :: S)) : WP l Z EL n0 R y bytes ml ret Q F h cells slots pc Ls (.double x :: S) := by
  obtain ⟨hd, rfl⟩ := hd
  refine WP.same (fun p e1 s m args below meth c' T vm0 locs D => ?_) k
  obtain ⟨X, e0, -, hZ, hown, -, -, -, -, hx, hby, hml, -⟩ := D
  exact natS (s := s.setVm vm0) (F := fun a => a = #[.double x]) (val := .double (x &&& 0x7fffffffffffffff)) (W := (S.map fun v => v.category).sum) X hx hZ hown w1 w2 w3 w4 (by decide) e0
    (fun hcd m' meth' c2 A g ig mk a X' hg hsz' hdg hW hnm hp => by
      obtain ⟨v, B, X2, ⟨hB, hv⟩, st⟩ := Jvm.Free.NT.Abs64.pays (R := R) (W := (S.map fun v => v.category).sum) (len := 3) hcd (mvT (s := s.setVm vm0) hZ w2) hf hl m' meth' c2 A g ig mk a X' hg hsz' hdg hW hnm ⟨x, hp.2.2, hn⟩
      exact ⟨v, B, X2, ⟨hv x ⟨hp.2.2, hn⟩, hB⟩, st⟩)
    (g := mkF m pc Ls (.double x :: S)) rfl (by rw [hml]; exact hsz) (argsL := [.double x]) (rest := S) (lenOf (ps := [.double]) (r := some .double) (by decide +kernel) rfl) rfl (by show 2 * 0 + _ ≤ _; omega) (hb hby hd) hc hs rfl (by rw [hz])
end Dbl
end Jvm.Own
namespace Jvm.Own
open Jvm Jvm.ClassFile Sem Op Lib Jvm.Free Jvm.Stand Jvm.LawKit Jvm.RoadKit Bundle
/-- an array of references: its components -/
def RA (Z : State) (h : Heap) (a : Addr) (ty : FieldType) (vs : List Value) : Prop := ∃ c : Cell, Arr Z h a c ty ∧ c.slots = vs.toArray ∧ vs.length < 2 ^ 31
section Refs
variable {l : Launch} {Z : State} {EL : List (String × Nat)} {n0 : Nat} {R : Room} {y : MethodName} {bytes : ByteArray} {ml : Nat} {ret : Option FieldType} {Q : Option Value → Heap → List Addr → Prop}
  {F : List Addr} {h h' : Heap} {cells slots pc pc' : Nat} {Ls Ls' : Array Slot} {S S' : List Value} {a0 : Array Value} {ws : List Addr}
theorem RA.lt {a : Addr} {ty : FieldType} {vs : List Value} (A : RA Z h a ty vs) : a < h.size := by obtain ⟨c, A, -⟩ := A; exact A.lt
theorem RA.len {a : Addr} {ty : FieldType} {vs : List Value} (A : RA Z h a ty vs) : vs.length < 2 ^ 31 := by obtain ⟨c, -, -, q⟩ := A; exact q
theorem RA.ext {a : Addr} {ty : FieldType} {vs : List Value} (A : RA Z h a ty vs) (E : Ext h h') : RA Z h' a ty vs := by obtain ⟨c, A, r⟩ := A; exact ⟨c, A.ext E, r⟩
theorem RA.other {a b : Addr} {ty : FieldType} {vs : List Value} {sl : Nat} {v : Value} (A : RA Z h b ty vs) (W : Wr h h' a sl v) (q : b ≠ a) : RA Z h' b ty vs := by obtain ⟨c, A, r⟩ := A; exact ⟨c, A.other W q, r⟩
theorem RA.keep {a : Addr} {ty : FieldType} {vs : List Value} (A : RA Z h a ty vs) (K : Keep h h' ws) (q : a ∉ ws) : RA Z h' a ty vs := by obtain ⟨c, A, r⟩ := A; exact ⟨c, ⟨K.2.1 a c A.1 q, A.2⟩, r⟩
theorem RA.set {a : Addr} {ty : FieldType} {vs : List Value} {i : Nat} {v : Value} (A : RA Z h a ty vs) (W : Wr h h' a i v) : RA Z h' a ty (vs.set i v) := by
  obtain ⟨c, A, e, q⟩ := A
  refine ⟨_, A.same W, ?_, by simpa using q⟩
  simp [Cell.setSlot, e]
theorem RA.sz {vs : List Value} {c : Cell} (e : c.slots = vs.toArray) : c.slots.size = vs.length := by rw [e]; simp
theorem WP.arraylengthR {a : Addr} {ty : FieldType} {vs : List Value} (hd : D1 bytes pc .arraylength 1 pc') (A : RA Z h a ty vs) (k : WP l Z EL n0 R y bytes ml ret Q F h cells slots pc' Ls (.int (Int32.ofNat vs.length) :: S)) : WP l Z EL n0 R y bytes ml ret Q F h cells slots pc Ls (.ref a :: S) := by
  obtain ⟨hd, rfl⟩ := hd
  obtain ⟨c, A, e, q⟩ := A
  refine WP.same (fun p e1 s m args below meth c' T vm0 locs D => ?_) k
  obtain ⟨X, e0, -, hZ, hown, -, -, -, -, hx, hby, -⟩ := D
  refine ⟨T, X, e0, fun t q => X.arraylength hx (by rw [e0]; exact A.1) (State.isArrayOf_alike (T := s.setVm vm0) hZ.alike A.2.1) (g := mkF m pc Ls (.ref a :: S)) rfl rfl (hb hby hd) t ?_⟩
  rw [RA.sz e]
  exact q
theorem WP.aaload {a : Addr} {ty : FieldType} {vs : List Value} {j : Int32} {v : Value} {i : Nat} (hd : D1 bytes pc .aaload 1 pc') (A : RA Z h a ty vs) (hty : ty.isReference = true) (hj : Ix j i) (hx : vs[i]? = some v) (k : WP l Z EL n0 R y bytes ml ret Q F h cells slots pc' Ls (v :: S)) : WP l Z EL n0 R y bytes ml ret Q F h cells slots pc Ls (.int j :: .ref a :: S) := by
  obtain ⟨hd, rfl⟩ := hd
  obtain ⟨c, A, e, q⟩ := A
  have hi : i < vs.length := (List.getElem?_eq_some_iff.mp hx).1
  refine WP.same (fun p e1 s m args below meth c' T vm0 locs D => ?_) k
  obtain ⟨X, e0, -, hZ, hown, -, -, -, -, hxx, hby, -⟩ := D
  exact ⟨T, X, e0, fun t q => X.aaload hxx (v := v) (by rw [e0]; exact A.1) (State.isArrayOf_alike (T := s.setVm vm0) hZ.alike A.2.1) hty A.2.2 (by rw [RA.sz e, hj.clamp]; exact fun z => z.elim hj.nn fun z => by omega) (by rw [hj.clamp, e]; simpa using hx) (g := mkF m pc Ls (.int j :: .ref a :: S)) rfl rfl (hb hby hd) t q⟩
theorem WP.instanceofNull {idx : Nat} (hd : D1 bytes pc (.instanceof idx) 3 pc') (k : WP l Z EL n0 R y bytes ml ret Q F h cells slots pc' Ls (.int 0 :: S)) : WP l Z EL n0 R y bytes ml ret Q F h cells slots pc Ls (.null :: S) := by
  obtain ⟨hd, rfl⟩ := hd
  refine WP.same (fun p e1 s m args below meth c' T vm0 locs D => ?_) k
  obtain ⟨X, e0, -, hZ, hown, -, -, -, -, hxx, hby, -⟩ := D
  exact ⟨T, X, e0, X.instanceofNull hxx (g := mkF m pc Ls (.null :: S)) rfl rfl (hb hby hd)⟩
/-- clone() of an array -/
theorem WP.clone {idx cap : Nat} {ad : String} {a : Addr} {ty : FieldType} {vs : List Value} (hd : D1 bytes pc (.invokevirtual idx) 3 pc') (w1 : (Jvm.Cond.methodLink y.cls idx ⟨ad, "clone", "()Ljava/lang/Object;"⟩).before a0 Z = true) (w2 : (Jvm.Cond.sameMethod ad "java/lang/Object" "clone" "()Ljava/lang/Object;").before a0 Z = true) (w3 : (Jvm.Cond.native ⟨"java/lang/Object", "clone", "()Ljava/lang/Object;"⟩).before a0 Z = true)
    (w4 : (Jvm.Cond.instanceMethod ⟨"java/lang/Object", "clone", "()Ljava/lang/Object;"⟩).before a0 Z = true) (w5 : (Jvm.Cond.selects ad ⟨ad, "clone", "()Ljava/lang/Object;"⟩ ⟨"java/lang/Object", "clone", "()Ljava/lang/Object;"⟩).before a0 Z = true) (w6 : (Jvm.Cond.castable ad "java/lang/Cloneable").before a0 Z = true)
    {cl : Cell} (A : Arr Z h a cl ty) (ev : cl.slots = vs.toArray) (hlen : vs.length < 2 ^ 31) (E : Exa Z h a ad) (Fc : FitC Z cl) (hsz : Ls.size = ml) (hf : 1 ≤ R.frames) (hl : (S.map fun v => v.category).sum + 14 ≤ R.locals) (hcap : vs.length ≤ cap) (hc : cells + 1 ≤ R.cells) (hsl : slots + cap ≤ R.slots)
    (k : ∀ (h' : Heap) (b : Nat), b = h.size → Ext h h' → RA Z h' b ty vs → Exa Z h' b ad → WP l Z EL n0 R y bytes ml ret Q (b :: F) h' (cells + 1) (slots + cap) pc' Ls (.ref b :: S)) : WP l Z EL n0 R y bytes ml ret Q F h cells slots pc Ls (.ref a :: S) := by
  obtain ⟨hd, rfl⟩ := hd
  refine WP.grow (G := [h.size]) (P := fun h' => RA Z h' h.size ty vs ∧ Exa Z h' h.size ad) (fun h' E hP x hx => ?_) (fun p e s m args below meth c T vm0 locs D => ?_) (fun h' E hP => k h' _ rfl E hP.1 hP.2)
  · cases List.mem_singleton.mp hx; exact ⟨hP.1.lt, Nat.le_refl _⟩
  · obtain ⟨X, e0, -, hZ, hown, -, -, -, -, hx, hby, hml, -⟩ := D
    obtain ⟨T', h', X', e', E', A', Ex, st⟩ := cloneA X hx hZ hown w1 w2 w3 w4 w5 w6 e0 A E Fc (g := mkF m pc Ls (.ref a :: S)) rfl (by rw [hml]; exact hsz) rfl (hb hby hd) hf (W := (S.map fun v => v.category).sum) (by show 2 * 0 + _ ≤ _; omega) hl (cap := cap) (by rw [RA.sz ev]; exact hcap) hc hsl
    exact ⟨T', h', X', e', E', ⟨⟨_, A', ev, hlen⟩, Ex⟩, st⟩
end Refs
end Jvm.Own
namespace Jvm.Own
open Jvm Jvm.ClassFile Sem Op Lib Jvm.Free Jvm.Stand Jvm.LawKit Jvm.RoadKit Bundle
section Words
variable {args : Array Value} {s : State} {t : Term} {a : Addr} {ty : FieldType} {c : Cell}
theorem arr_size {n : Nat} (A : Jvm.RoadKit.Arr s s.heap a c ty) (ev : t.eval args s none [] s = some (.ref a)) (hl : (Jvm.Cond.eq (.length t) (.int (Int32.ofNat n))).value args s none s [] = some true) (hn : n < 2 ^ 31) : c.slots.size = n := by
  have h := eqv_i (F := .int (Int32.ofNat n)) rfl hl
  have ha : s.arrayAt? a = some c := A.fin (Vm.Alike.refl _)
  simp only [Term.eval, ev, ha, Option.bind_eq_bind, Option.bind_some, Option.pure_def] at h
  by_cases h1 : c.slots.size < 2 ^ 31
  · have h2 : Value.int c.slots.size.toInt32 = .int (Int32.ofNat n) := by simpa [h1] using h
    have h3 : c.slots.size.toInt32 = Int32.ofNat n := by simpa using h2
    have q := congrArg Int32.toInt h3
    rw [len_toInt h1, Int32.toInt_ofNat_of_lt hn] at q
    omega
  · simp [h1] at h
theorem arr_elem {i : Nat} {v : Value} (A : Jvm.RoadKit.Arr s s.heap a c ty) (ev : t.eval args s none [] s = some (.ref a)) (hi : i < 2 ^ 31) (h : (Term.elem t (.int (Int32.ofNat i))).eval args s none [] s = some v) : c.slots[i]? = some v := by
  obtain ⟨-, q⟩ := elem_in (j := Int32.ofNat i) h ev rfl A.1
  rwa [(Ix.ofNat hi).clamp] at q
/-- an array of ints, its length and components said by words -/
theorem ia_of {xs : List Int32} (ev : t.eval args s none [] s = some (.ref a)) (ha : (Jvm.Cond.arrayOf t ty).value args s none s [] = some true) (hn : xs.length < 2 ^ 31) (hl : (Jvm.Cond.eq (.length t) (.int (Int32.ofNat xs.length))).value args s none s [] = some true)
    (he : ∀ i x, xs[i]? = some x → (Jvm.Cond.eq (.elem t (.int (Int32.ofNat i))) (.int x)).value args s none s [] = some true) : IA s s.heap a ty xs := by
  obtain ⟨c, A⟩ := Jvm.RoadKit.Arr.start ev ha
  have hs := arr_size A ev hl hn
  refine ⟨c, A, Array.ext_getElem? fun i => ?_, hn⟩
  by_cases hi : i < xs.length
  · obtain ⟨x, hx⟩ : ∃ x, xs[i]? = some x := ⟨_, List.getElem?_eq_getElem hi⟩
    rw [arr_elem A ev (by omega) (eqv_i rfl (he i x hx))]
    simp [hx]
  · rw [Array.getElem?_eq_none (by omega), Array.getElem?_eq_none (by simp; omega)]
/-- a reference said equal to another -/
theorem eqv_r {X F : Term} {r : Addr} (hF : F.eval args s none [] s = some (.ref r)) (h : (Jvm.Cond.eq X F).value args s none s [] = some true) : X.eval args s none [] s = some (.ref r) := by
  obtain ⟨x, z, e1, e2, k1, k2⟩ := cmp_v (Or.inl h)
  cases hF.symm.trans e2
  have hx : x.isRef = true := k2.2
  have := gotT (eq_R e1 hF hx rfl) h
  rw [e1, this]
/-- a Latin-1 String said by words -/
theorem str_of {xs : List Int32} (h1 : (Jvm.Cond.exactly t "java/lang/String").value args s none s [] = some true) (h2 : (Jvm.Cond.eq (.field t "java/lang/String" "coder" "B") (.int 0)).value args s none s [] = some true)
    (h3 : (Jvm.Cond.arrayOf (.field t "java/lang/String" "value" "[B") .byte).value args s none s [] = some true) (hn : xs.length < 2 ^ 31) (h4 : (Jvm.Cond.eq (.length (.field t "java/lang/String" "value" "[B")) (.int (Int32.ofNat xs.length))).value args s none s [] = some true)
    (he : ∀ i x, xs[i]? = some x → (Jvm.Cond.eq (.elem (.field t "java/lang/String" "value" "[B") (.int (Int32.ofNat i))) (.int x)).value args s none s [] = some true) (ev : t.eval args s none [] s = some (.ref a)) : ∃ b, Str s s.heap a b xs := by
  obtain ⟨b, eb⟩ := arr_v h3
  refine ⟨b, Exa.start ev h1, Jvm.RoadKit.Fld.start ?_, Jvm.RoadKit.Fld.start ?_, ia_of eb h3 hn h4 he⟩
  · rw [← fld_at ev]; exact eqv_i rfl h2
  · rw [← fld_at ev]; exact eb
end Words
end Jvm.Own
namespace Jvm.Own
open Jvm Jvm.ClassFile Sem Op Lib Jvm.Free Jvm.Stand Jvm.LawKit Jvm.RoadKit Bundle
section Calls2
variable {l : Launch} {Z : State} {EL : List (String × Nat)} {n0 : Nat} {R : Room} {y : MethodName} {bytes : ByteArray} {ml : Nat} {ret : Option FieldType} {Q : Option Value → Heap → List Addr → Prop}
  {F : List Addr} {h : Heap} {cells slots pc pc' : Nat} {Ls Ls' : Array Slot} {S S' : List Value} {a0 : Array Value}
variable {yc : MethodName} {bytesc : ByteArray} {mlc : Nat} {retc : Option FieldType} {rm : Room} {as : Array Value} {F0 : List Addr} {Qc : Option Value → Heap → List Addr → Prop}
/-- invokevirtual of a private method -/
theorem WP.privateV {idx : Nat} {a : Addr} {C : String} {argsL rest : List Value} {ps : List FieldType} {rt : Option FieldType} (hd : D1 bytes pc (.invokevirtual idx) 3 pc') (M : Met l Z EL n0 [] yc bytesc mlc retc rm (.ref a :: argsL).toArray F0 h Qc) (E : Exa Z h a C)
    (wl : (Jvm.Cond.methodLink y.cls idx yc).before a0 Z = true) (wi : (Jvm.Cond.instanceMethod yc).before a0 Z = true) (wp : (Jvm.Cond.privateMethod yc).before a0 Z = true) (ws : (Jvm.Cond.selects yc.cls yc yc).before a0 Z = true) (wz : (Jvm.Cond.initialized yc.cls).before a0 Z = true) (wc : (Jvm.Cond.code yc bytesc mlc retc).before a0 Z = true)
    (hy : yc.cls ≠ "java/lang/invoke/MethodHandle" ∧ yc.cls ≠ "java/lang/invoke/VarHandle") (hpd : parseMethodDescriptor yc.desc = some ⟨ps, rt⟩) (hpl : argsL.length = ps.length) (hstk : S = argsL.reverse ++ .ref a :: rest) (hsz : Ls.size = ml)
    (hf : rm.frames + 1 ≤ R.frames) (hl : (rest.map fun v => v.category).sum + (mlc + 11) + rm.locals ≤ R.locals) (hcl : cells + rm.cells ≤ R.cells) (hsl : slots + rm.slots ≤ R.slots) (hF0 : ∀ x ∈ F0, SafeBy Z EL F h x)
    (k : ∀ v h' F', Qc v h' F' → h.size ≤ h'.size → WP l Z EL n0 R y bytes ml ret Q (F' ++ F) h' (cells + rm.cells) (slots + rm.slots) pc' Ls (v.toList ++ rest)) : WP l Z EL n0 R y bytes ml ret Q F h cells slots pc Ls S := by
  obtain ⟨hd, rfl⟩ := hd
  refine WP.call (len := 3) (rest := rest) M wc wz hf hl hcl hsl hF0 (fun p e s m args below meth c T vm0 locs D Pre Post K hpre => ?_) k
  obtain ⟨X, e0, -, hZ, hown, -, -, -, -, hx, hby, hml, -⟩ := D
  obtain ⟨cell, c1, c2⟩ := Jvm.RoadKit.Exa.cell E
  exact X.privateBackS hx hown (mvT (s := s.setVm vm0) hZ wl) (mvT (s := s.setVm vm0) hZ wi) (mvT (s := s.setVm vm0) hZ ws) (Cond.privateMethod_at (mvP (s := s.setVm vm0) (args := #[]) hZ wp)) (mvT (s := s.setVm vm0) hZ wc) hy K (g := mkF m pc Ls S) rfl (by rw [hml]; exact hsz) (Steps.refl _) (by rw [e0]; exact c1) c2 (lenOf hpd hpl) hstk (by show 2 * 0 + _ ≤ _; omega) (hb hby hd) hpre
/-- invokevirtual where the entry's class inherits the method -/
theorem WP.virtualUp {idx : Nat} {a : Addr} {C owner : String} {yr : MethodName} {argsL rest : List Value} {ps : List FieldType} {rt : Option FieldType} (hd : D1 bytes pc (.invokevirtual idx) 3 pc') (M : Met l Z EL n0 [] yc bytesc mlc retc rm (.ref a :: argsL).toArray F0 h Qc) (E : Exa Z h a C)
    (wl : (Jvm.Cond.methodLink y.cls idx yr).before a0 Z = true) (wm : (Jvm.Cond.sameMethod yr.cls owner yr.name yr.desc).before a0 Z = true) (wd : (Jvm.Cond.declares ⟨owner, yr.name, yr.desc⟩).before a0 Z = true) (wi : (Jvm.Cond.instanceMethod yc).before a0 Z = true) (ws : (Jvm.Cond.selects C yr yc).before a0 Z = true) (wz : (Jvm.Cond.initialized yc.cls).before a0 Z = true) (wc : (Jvm.Cond.code yc bytesc mlc retc).before a0 Z = true)
    (hy : owner ≠ "java/lang/invoke/MethodHandle" ∧ owner ≠ "java/lang/invoke/VarHandle") (hpd : parseMethodDescriptor yr.desc = some ⟨ps, rt⟩) (hpl : argsL.length = ps.length) (hstk : S = argsL.reverse ++ .ref a :: rest) (hsz : Ls.size = ml)
    (hf : rm.frames + 1 ≤ R.frames) (hl : (rest.map fun v => v.category).sum + (mlc + 11) + rm.locals ≤ R.locals) (hcl : cells + rm.cells ≤ R.cells) (hsl : slots + rm.slots ≤ R.slots) (hF0 : ∀ x ∈ F0, SafeBy Z EL F h x)
    (k : ∀ v h' F', Qc v h' F' → h.size ≤ h'.size → WP l Z EL n0 R y bytes ml ret Q (F' ++ F) h' (cells + rm.cells) (slots + rm.slots) pc' Ls (v.toList ++ rest)) : WP l Z EL n0 R y bytes ml ret Q F h cells slots pc Ls S := by
  obtain ⟨hd, rfl⟩ := hd
  refine WP.call (len := 3) (rest := rest) M wc wz hf hl hcl hsl hF0 (fun p e s m args below meth c T vm0 locs D Pre Post K hpre => ?_) k
  obtain ⟨X, e0, -, hZ, hown, -, -, -, -, hx, hby, hml, -⟩ := D
  obtain ⟨cB, kB, o1, o2, o3⟩ := isOf (s := s.setVm vm0) hZ e0 E
  exact X.virtualBackUpS hx hown (mvT (s := s.setVm vm0) hZ wl) (mvT (s := s.setVm vm0) hZ wm) (mvT (s := s.setVm vm0) hZ wd) hy (mvT (s := s.setVm vm0) hZ ws) (mvT (s := s.setVm vm0) hZ wi) K o1 o3 (g := mkF m pc Ls S) rfl (by rw [hml]; exact hsz) (Steps.refl _) (lenOf hpd hpl) hstk (by show 2 * 0 + _ ≤ _; omega) (hb hby hd) hpre
/-- invokeinterface -/
theorem WP.face {idx cnt : Nat} {a : Addr} {C : String} {yr : MethodName} {argsL rest : List Value} {ps : List FieldType} {rt : Option FieldType} (hd : D1 bytes pc (.invokeinterface idx cnt) 5 pc') (hfk : ((Jvm.Cond.interfaceMethod yr.cls yr.cls yr.name yr.desc).onTables && (Jvm.Cond.interfaceMethod yr.cls yr.cls yr.name yr.desc).keepsFace) = true) (M : Met l Z EL n0 [] yc bytesc mlc retc rm (.ref a :: argsL).toArray F0 h Qc) (E : Exa Z h a C)
    (wl : (Jvm.Cond.methodLink y.cls idx yr).before a0 Z = true) (wd : (Jvm.Cond.declares yr).before a0 Z = true) (wf : (Jvm.Cond.interfaceMethod yr.cls yr.cls yr.name yr.desc).before a0 Z = true) (ws : (Jvm.Cond.selects C yr yc).before a0 Z = true) (wi : (Jvm.Cond.instanceMethod yc).before a0 Z = true) (wp : (Jvm.Cond.publicMethod yc).before a0 Z = true) (wu : (Jvm.Cond.unhidden C yr.name yr.desc).before a0 Z = true) (wt : (Jvm.Cond.castable C yr.cls).before a0 Z = true) (wz : (Jvm.Cond.initialized yc.cls).before a0 Z = true) (wc : (Jvm.Cond.code yc bytesc mlc retc).before a0 Z = true)
    (hy : yr.cls ≠ "java/lang/invoke/MethodHandle" ∧ yr.cls ≠ "java/lang/invoke/VarHandle") (hpd : parseMethodDescriptor yr.desc = some ⟨ps, rt⟩) (hpl : argsL.length = ps.length) (hstk : S = argsL.reverse ++ .ref a :: rest) (hsz : Ls.size = ml)
    (hf : rm.frames + 1 ≤ R.frames) (hl : (rest.map fun v => v.category).sum + (mlc + 11) + rm.locals ≤ R.locals) (hcl : cells + rm.cells ≤ R.cells) (hsl : slots + rm.slots ≤ R.slots) (hF0 : ∀ x ∈ F0, SafeBy Z EL F h x)
    (k : ∀ v h' F', Qc v h' F' → h.size ≤ h'.size → WP l Z EL n0 R y bytes ml ret Q (F' ++ F) h' (cells + rm.cells) (slots + rm.slots) pc' Ls (v.toList ++ rest)) : WP l Z EL n0 R y bytes ml ret Q F h cells slots pc Ls S := by
  obtain ⟨hd, rfl⟩ := hd
  refine WP.call (len := 5) (rest := rest) M wc wz hf hl hcl hsl hF0 (fun p e s m args below meth c T vm0 locs D Pre Post K hpre => ?_) k
  obtain ⟨X, e0, -, hZ, hown, -, -, -, -, hx, hby, hml, -⟩ := D
  obtain ⟨cB, kB, o1, o2, o3⟩ := isOf (s := s.setVm vm0) hZ e0 E
  exact X.interfaceBackS hx hown (mvT (s := s.setVm vm0) hZ wl) (mvT (s := s.setVm vm0) hZ wd) (mvT (s := s.setVm vm0) hZ wf hfk) (mvT (s := s.setVm vm0) hZ ws) (mvT (s := s.setVm vm0) hZ wi) (mvT (s := s.setVm vm0) hZ wp) (mvT (s := s.setVm vm0) hZ wu) (mvT (s := s.setVm vm0) hZ wt) hy K o1 o2 o3 (g := mkF m pc Ls S) rfl (by rw [hml]; exact hsz) (Steps.refl _) (lenOf hpd hpl) hstk (by show 2 * 0 + _ ≤ _; omega) (hb hby hd) hpre
end Calls2
end Jvm.Own
namespace Jvm.Own
open Jvm Jvm.ClassFile Sem Op Lib Jvm.Free Jvm.Stand Jvm.LawKit Jvm.RoadKit Bundle
/-- each is a byte -/
def FB (xs : List Int32) : Prop := ∀ x ∈ xs, fits .byte (.int x) = true
theorem FB.nil : FB [] := fun _ h => nomatch h
theorem FB.app {xs ys : List Int32} (a : FB xs) (b : FB ys) : FB (xs ++ ys) := fun x h => (List.mem_append.mp h).elim (a x) (b x)
theorem FB.take {xs : List Int32} (n : Nat) (a : FB xs) : FB (xs.take n) := fun x h => a x (List.mem_of_mem_take h)
theorem FB.drop {xs : List Int32} (n : Nat) (a : FB xs) : FB (xs.drop n) := fun x h => a x (List.mem_of_mem_drop h)
theorem FB.zero (n : Nat) : FB (List.replicate n 0) := fun x h => by rw [(List.mem_replicate.mp h).2]; decide
theorem IA.arv {Z : State} {h : Heap} {a : Addr} {xs : List Int32} (A : IA Z h a .byte xs) (f : FB xs) : ∃ k, Arv Z h a k .byte (Int32.ofNat xs.length) (xs.map Value.int) (.int 0) := by
  obtain ⟨c, A, e, hl⟩ := A
  have hsz : c.slots.size = xs.length := IA.size e
  refine ⟨c.cls, c, A, rfl, by rw [hsz, (Ix.ofNat hl).clamp], (Ix.ofNat hl).nn, fun j hj => ?_, fun j hj => ?_⟩
  · rw [hsz] at hj; rw [e]; simp [List.getD_eq_getElem?_getD, hj]
  · rw [hsz] at hj
    have : (xs.map Value.int).getD j (.int 0) = .int xs[j] := by simp [List.getD_eq_getElem?_getD, hj]
    rw [this]; exact f _ (List.getElem_mem hj)
section Cp
variable {l : Launch} {Z : State} {EL : List (String × Nat)} {n0 : Nat} {R : Room} {y : MethodName} {bytes : ByteArray} {ml : Nat} {ret : Option FieldType} {Q : Option Value → Heap → List Addr → Prop}
  {F : List Addr} {h : Heap} {cells slots pc pc' : Nat} {Ls Ls' : Array Slot} {S S' : List Value} {a0 : Array Value}
/-- System.arraycopy on byte arrays -/
theorem WP.arraycopyB {idx : Nat} {a b : Addr} {xs ys : List Int32} {sp dp nn : Int32} {i j n : Nat} {rest : List Value} (hd : D1 bytes pc (.invokestatic idx) 3 pc')
    (wl : (Jvm.Cond.methodLink y.cls idx Jvm.Stand.acN).before a0 Z = true) (wn : (Jvm.Cond.native Jvm.Stand.acN).before a0 Z = true) (ws : (Jvm.Cond.static Jvm.Stand.acN).before a0 Z = true) (wz : (Jvm.Cond.initialized "java/lang/System").before a0 Z = true)
    (A : IA Z h a .byte xs) (B : IA Z h b .byte ys) (fx : FB xs) (fy : FB ys) (hs : SafeBy Z EL F h b) (nb : n0 ≤ b) (h1 : Ix sp i) (h2 : Ix dp j) (h3 : Ix nn n) (h4 : i + n ≤ xs.length) (h5 : j + n ≤ ys.length) (hsz : Ls.size = ml) (hf : 1 ≤ R.frames)
    (hlo : (rest.map fun v => v.category).sum + (nativeFrameWords "java/lang/System" "arraycopy" 5 + 11) ≤ R.locals)
    (k : ∀ h', Keep h h' [b] → IA Z h' b .byte (ys.take j ++ (xs.drop i).take n ++ ys.drop (j + n)) → WP l Z EL n0 R y bytes ml ret Q F h' cells slots pc' Ls rest) : WP l Z EL n0 R y bytes ml ret Q F h cells slots pc Ls (.int nn :: .int dp :: .ref b :: .int sp :: .ref a :: rest) := by
  obtain ⟨hd, rfl⟩ := hd
  intro p e s m args below meth c T vm0 locs D
  obtain ⟨X, e0, ⟨k0, hS, hk⟩, hZ, hown, hC, hF, hN, hO, hx, hby, hml, r⟩ := D
  obtain ⟨ka, Aa⟩ := A.arv fx
  obtain ⟨kb, Bb⟩ := B.arv fy
  have e1 : (Int32.ofNat xs.length).toNatClampNeg = xs.length := (Ix.ofNat A.len).clamp
  have e2 : (Int32.ofNat ys.length).toNatClampNeg = ys.length := (Ix.ofNat B.len).clamp
  have hus : (((xs.drop i).take n).map Value.int) = (List.range nn.toNatClampNeg).map fun q => (xs.map Value.int).getD (sp.toNatClampNeg + q) (.int 0) := by
    rw [h3.clamp, h1.clamp]
    apply List.ext_getElem
    · simp; omega
    · intro q q1 q2
      have : i + q < xs.length := by simp at q2; omega
      simp [List.getD_eq_getElem?_getD, this]
  obtain ⟨T', h', L, X', e', N', K, A', st⟩ := cpA (s := s.setVm vm0) (Z := Z) (a0 := a0) X hx hZ hown wl wn ws wz e0 Aa Bb (us := ((xs.drop i).take n).map Value.int) (Or.inl ⟨rfl, rfl⟩) h1.nn h2.nn h3.nn (by rw [h1.clamp, h3.clamp, e1]; exact h4) (by rw [h2.clamp, h3.clamp, e2]; exact h5) hus (by rw [h2.clamp, h3.clamp]; simpa using h5) hN nb
    (g := mkF m pc Ls (.int nn :: .int dp :: .ref b :: .int sp :: .ref a :: rest)) rfl (by rw [hml]; exact hsz) rfl (hb hby hd) hf (W := (rest.map fun v => v.category).sum) (by show 2 * 0 + _ ≤ _; omega) hlo
  have sa : ∀ x ∈ [b], Safe Z EL vm0 h x := fun x hx => by
    rw [List.mem_singleton.mp hx]; exact hs.2 vm0 hZ.alike hF
  have R' : IA Z h' b .byte (ys.take j ++ (xs.drop i).take n ++ ys.drop (j + n)) := by
    refine IA.of_arv (k := kb) (z := Int32.ofNat ys.length) (d := .int 0) ?_ ?_
    · have : (ys.take j ++ (xs.drop i).take n ++ ys.drop (j + n)).map Value.int = (ys.map Value.int).take j ++ ((xs.drop i).take n).map Value.int ++ (ys.map Value.int).drop (j + n) := by
        simp [List.map_take, List.map_drop]
      rw [this]; rw [h2.clamp, h3.clamp] at A'; exact A'
    · rw [e2]; simp; omega
  exact (k h' K R' p e s m args below meth c T' vm0 L ⟨X', e', ⟨k0, hS, Nat.le_trans hk K.1⟩, hZ, hown, hC.trans (CHr.keep K sa hC.1), fun x hx => ⟨Nat.lt_of_lt_of_le (hF x hx).1 K.1, Safe.keep K sa hC.1 (hF x hx).2⟩, N', hO.keep K (fun x hx => by rw [List.mem_singleton.mp hx]; exact nb), hx, hby, hml, r⟩).step st
end Cp
end Jvm.Own
namespace Jvm.Own
open Jvm Jvm.ClassFile Sem Op Lib Jvm.Free Jvm.Stand Jvm.LawKit Jvm.RoadKit Bundle
section Derived
variable {Z : State} {a0 : Array Value}
/-- a private method's own class selects it -/
theorem selfSelects {C : String} {y : MethodName} (w1 : (Jvm.Cond.selects C y y).before a0 Z = true) (w2 : (Jvm.Cond.privateMethod y).before a0 Z = true) (w3 : (Jvm.Cond.instanceMethod y).before a0 Z = true) (hy : y.cls ≠ "java/lang/invoke/MethodHandle" ∧ y.cls ≠ "java/lang/invoke/VarHandle") : (Jvm.Cond.selects y.cls y y).before a0 Z = true := by
  obtain ⟨mk, meth, hn, hm, -, -⟩ := Cond.instanceMethod_spec w3
  obtain ⟨_, _, m2, -, -, hn2, -, kP, hkP, hkPi⟩ := Cond.selects_spec w1
  cases hn.symm.trans hn2
  have hp := Cond.privateMethod_at w2 mk meth hn hm
  have hs : ∀ c, selectMethod {} Z.vm c mk = .method mk := fun c => selectMethod_private hm hp
  have hc := findClass_of_methodNamed hn
  simp [Cond.before, Cond.holds, Cond.value, hc, State.methodFound?_of_named hn hy, hn, hs, hkP, hkPi]
/-- a declared method is found at its own class -/
theorem selfSame {C : String} {x2 y2 y : MethodName} (w1 : (Jvm.Cond.selects C x2 y2).before a0 Z = true) (e : y2.cls = y.cls) (w3 : (Jvm.Cond.instanceMethod y).before a0 Z = true) (hy : y.cls ≠ "java/lang/invoke/MethodHandle" ∧ y.cls ≠ "java/lang/invoke/VarHandle") : (Jvm.Cond.sameMethod y.cls y.cls y.name y.desc).before a0 Z = true := by
  obtain ⟨mk, meth, hn, hm, -, -⟩ := Cond.instanceMethod_spec w3
  obtain ⟨_, _, m2, -, -, hn2, -, kP, hkP, hkPi⟩ := Cond.selects_spec w1
  have hc := findClass_of_methodNamed hn
  have hc2 := findClass_of_methodNamed hn2
  rw [e] at hc2
  have ec : m2.cls = mk.cls := Option.some.inj (hc2.symm.trans hc)
  rw [ec] at hkP
  simp [Cond.before, Cond.holds, Cond.value, hc, State.methodFound?_of_named hn hy, hn, hkP, hkPi]
theorem notFace2 {C : String} {x2 y2 y : MethodName} (w1 : (Jvm.Cond.selects C x2 y2).before a0 Z = true) (e : y2.cls = y.cls) : NotFace Z y := fun r0 h0 => by
  obtain ⟨_, _, m2, -, -, hn2, -, kP, hkP, hkPi⟩ := Cond.selects_spec w1
  have hc := findClass_of_methodNamed h0
  have hc2 := findClass_of_methodNamed hn2
  rw [e] at hc2
  have ec : m2.cls = r0.cls := Option.some.inj (hc2.symm.trans hc)
  exact ⟨kP, ec ▸ hkP, hkPi⟩
end Derived
section Calls3
variable {l : Launch} {Z : State} {EL : List (String × Nat)} {n0 : Nat} {R : Room} {y : MethodName} {bytes : ByteArray} {ml : Nat} {ret : Option FieldType} {Q : Option Value → Heap → List Addr → Prop}
  {F : List Addr} {h : Heap} {cells slots pc pc' : Nat} {Ls Ls' : Array Slot} {S S' : List Value} {a0 : Array Value}
variable {yc : MethodName} {bytesc : ByteArray} {mlc : Nat} {retc : Option FieldType} {rm : Room} {as : Array Value} {F0 : List Addr} {Qc : Option Value → Heap → List Addr → Prop}
/-- invokespecial of the superclass's method -/
theorem WP.superS {idx : Nat} {a : Addr} {C : String} {argsL rest : List Value} {ps : List FieldType} {rt : Option FieldType} (hd : D1 bytes pc (.invokespecial idx) 3 pc') (M : Met l Z EL n0 [] yc bytesc mlc retc rm (.ref a :: argsL).toArray F0 h Qc) (E : Exa Z h a C)
    (wl : (Jvm.Cond.methodLink y.cls idx yc).before a0 Z = true) (wm : (Jvm.Cond.sameMethod yc.cls yc.cls yc.name yc.desc).before a0 Z = true) (wi : (Jvm.Cond.instanceMethod yc).before a0 Z = true) (wu : (Jvm.Cond.superclass y.cls yc.cls).before a0 Z = true) (hn : yc.name ≠ "<init>") (wz : (Jvm.Cond.initialized yc.cls).before a0 Z = true) (wc : (Jvm.Cond.code yc bytesc mlc retc).before a0 Z = true)
    (hpd : parseMethodDescriptor yc.desc = some ⟨ps, rt⟩) (hpl : argsL.length = ps.length) (hstk : S = argsL.reverse ++ .ref a :: rest) (hsz : Ls.size = ml)
    (hf : rm.frames + 1 ≤ R.frames) (hl : (rest.map fun v => v.category).sum + (mlc + 11) + rm.locals ≤ R.locals) (hcl : cells + rm.cells ≤ R.cells) (hsl : slots + rm.slots ≤ R.slots) (hF0 : ∀ x ∈ F0, SafeBy Z EL F h x)
    (k : ∀ v h' F', Qc v h' F' → h.size ≤ h'.size → WP l Z EL n0 R y bytes ml ret Q (F' ++ F) h' (cells + rm.cells) (slots + rm.slots) pc' Ls (v.toList ++ rest)) : WP l Z EL n0 R y bytes ml ret Q F h cells slots pc Ls S := by
  obtain ⟨hd, rfl⟩ := hd
  refine WP.call (len := 3) (rest := rest) M wc wz hf hl hcl hsl hF0 (fun p e s m args below meth c T vm0 locs D Pre Post K hpre => ?_) k
  obtain ⟨X, e0, -, hZ, hown, -, -, -, -, hx, hby, hml, -⟩ := D
  exact superBackS (s := s.setVm vm0) X hx hZ hown wl wm wi wu hn K e0 (Ins.self E) (g := mkF m pc Ls S) rfl (by rw [hml]; exact hsz) wc (lenOf hpd hpl) hstk (by show 2 * 0 + _ ≤ _; omega) (hb hby hd) hpre
/-- invokevirtual; that the entry's class is no interface comes by another word -/
theorem WP.virtualN {idx : Nat} {a : Addr} {C : String} {yr : MethodName} {argsL rest : List Value} {ps : List FieldType} {rt : Option FieldType} (hd : D1 bytes pc (.invokevirtual idx) 3 pc') (M : Met l Z EL n0 [] yc bytesc mlc retc rm (.ref a :: argsL).toArray F0 h Qc) (E : Exa Z h a C)
    (wl : (Jvm.Cond.methodLink y.cls idx yr).before a0 Z = true) (wd : (Jvm.Cond.declares yr).before a0 Z = true) (wi : (Jvm.Cond.instanceMethod yc).before a0 Z = true) (ws : (Jvm.Cond.selects C yr yc).before a0 Z = true) (wz : (Jvm.Cond.initialized yc.cls).before a0 Z = true) (wc : (Jvm.Cond.code yc bytesc mlc retc).before a0 Z = true)
    {C2 : String} {x2 y2 : MethodName} (hnf : (Jvm.Cond.selects C2 x2 y2).before a0 Z = true) (he : y2.cls = yr.cls)
    (hy : yr.cls ≠ "java/lang/invoke/MethodHandle" ∧ yr.cls ≠ "java/lang/invoke/VarHandle") (hpd : parseMethodDescriptor yr.desc = some ⟨ps, rt⟩) (hpl : argsL.length = ps.length) (hstk : S = argsL.reverse ++ .ref a :: rest) (hsz : Ls.size = ml)
    (hf : rm.frames + 1 ≤ R.frames) (hl : (rest.map fun v => v.category).sum + (mlc + 11) + rm.locals ≤ R.locals) (hcl : cells + rm.cells ≤ R.cells) (hsl : slots + rm.slots ≤ R.slots) (hF0 : ∀ x ∈ F0, SafeBy Z EL F h x)
    (k : ∀ v h' F', Qc v h' F' → h.size ≤ h'.size → WP l Z EL n0 R y bytes ml ret Q (F' ++ F) h' (cells + rm.cells) (slots + rm.slots) pc' Ls (v.toList ++ rest)) : WP l Z EL n0 R y bytes ml ret Q F h cells slots pc Ls S := by
  obtain ⟨hd, rfl⟩ := hd
  refine WP.call (len := 3) (rest := rest) M wc wz hf hl hcl hsl hF0 (fun p e s m args below meth c T vm0 locs D Pre Post K hpre => ?_) k
  obtain ⟨X, e0, -, hZ, hown, -, -, -, -, hx, hby, hml, -⟩ := D
  obtain ⟨cB, kB, o1, o2, o3⟩ := isOf (s := s.setVm vm0) hZ e0 E
  exact X.virtualBackS hx hown (mvT (s := s.setVm vm0) hZ wl) (mvT (s := s.setVm vm0) hZ wd) (notFace2 (a0 := #[]) (mvT (s := s.setVm vm0) hZ hnf) he) (mvT (s := s.setVm vm0) hZ ws) (mvT (s := s.setVm vm0) hZ wi) hy K o1 o3 (g := mkF m pc Ls S) rfl (by rw [hml]; exact hsz) (Steps.refl _) (lenOf hpd hpl) hstk (by show 2 * 0 + _ ≤ _; omega) (hb hby hd) hpre
open Jvm.Free.Exc in
/-- invokespecial of an exception's constructor with a message: the stack trace is filled in beneath -/
theorem WP.exc1 {idx n : Nat} {a : Addr} {rc : String} {links : List Link} {msg : Value} {rest : List Value} (hd : D1 bytes pc (.invokespecial idx) 3 pc') (hst : l.stackTraces = true) (hG : Gn Z) (hok : linksOk 1 links = true)
    (w1 : (Jvm.Cond.methodLink y.cls idx (ctor 1 (headName links))).before a0 Z = true) (w2 : (Jvm.Cond.instanceMethod (ctor 1 (headName links))).before a0 Z = true) (wT : (chainTab 1 rc links).before a0 Z = true) (wi : (Jvm.Cond.instantiable rc n).before a0 Z = true) (r2 : ∀ d ∈ twoRefs, d.before a0 Z = true)
    (E : Exa Z h a rc) (N : Unt h a) (B : Fld Z h a tN "backtrace" obD .null) (B2 : Fld Z h a tN "detailMessage" msgD .null) (hmsg : msg.isRef = true) (na : n0 ≤ a) (hs : SafeBy Z EL F h a) (hsz : Ls.size = ml)
    (hf : 4 + links.length ≤ R.frames) (hlo : (rest.map fun v => v.category).sum + (56 + 14 * links.length) ≤ R.locals) (hc : cells + 1 ≤ R.cells) (hsl : slots + 2752 ≤ R.slots)
    (k : ∀ h', Keep h h' [a] → Exa Z h' a rc → Fld Z h' a tN "detailMessage" msgD msg → WP l Z EL n0 R y bytes ml ret Q F h' (cells + 1) (slots + 2752) pc' Ls rest) : WP l Z EL n0 R y bytes ml ret Q F h cells slots pc Ls (msg :: .ref a :: rest) := by
  obtain ⟨hd, rfl⟩ := hd
  intro p e s m args below meth c T vm0 locs D
  obtain ⟨X, e0, ⟨k0, hS, hk⟩, hZ, hown, hC, hF, hN, hO, hx, hby, hml, hret, hlk, hnm, hEL, hkn⟩ := D
  obtain ⟨T', h', X', e', K', E', -, B', -, -, st⟩ := excL1 (s := s.setVm vm0) (Z := Z) (a0 := a0) X hx hst hZ hown hok w1 w2 wT wi r2 (ThS.ext hkn.2 ThS.start) (ThS.ext hO.2 ThS.start) (Vm.MethodsKnown.alikeC (vm' := (s.setVm vm0).vm) hZ.alike hG.1) (Vm.FramesKnown.alikeC (vm' := (s.setVm vm0).vm) hZ.alike (hkn.1 hG)) e0 E N B B2 hmsg
    (g := mkF m pc Ls (msg :: .ref a :: rest)) rfl (by rw [hml]; exact hsz) rfl (hb hby hd) hf (by show 2 * 0 + _ + _ ≤ _; omega) hc hsl
  have K := keep_of_kp K'
  have sa : ∀ x ∈ [a], Safe Z EL vm0 h x := fun x hx => by
    rw [List.mem_singleton.mp hx]; exact hs.2 vm0 hZ.alike hF
  exact (k h' K E' B' p e s m args below meth c T' vm0 _ ⟨X', e', ⟨k0, hS, Nat.le_trans hk K.1⟩, hZ, hown, hC.trans (CHr.keep K sa hC.1), fun x hx => ⟨Nat.lt_of_lt_of_le (hF x hx).1 K.1, Safe.keep K sa hC.1 (hF x hx).2⟩, Fr.six hN na, hO.keep K (fun x hx => by rw [List.mem_singleton.mp hx]; exact na), hx, hby, hml, hret, hlk, hnm, hEL, hkn⟩).step st
end Calls3
end Jvm.Own
namespace Jvm.Own
open Jvm Jvm.ClassFile Sem Op Lib Jvm.Free Jvm.Stand Jvm.LawKit Jvm.RoadKit Bundle
theorem Ix.add {x z : Int32} {i j : Nat} (a : Ix x i) (b : Ix z j) (q : i + j < 2 ^ 31) : Ix (x + z) (i + j) := by
  unfold Ix at *
  rw [Int32.toInt_add, a, b]
  show ((i : Int) + (j : Int)).bmod (2 ^ 32) = _
  rw [Int.bmod_eq_of_le (by omega) (by omega)]; omega
theorem Ix.sub {x z : Int32} {i j : Nat} (a : Ix x i) (b : Ix z j) (q : j ≤ i) (q2 : i < 2 ^ 31) : Ix (x - z) (i - j) := by
  unfold Ix at *
  rw [Int32.toInt_sub, a, b]
  show ((i : Int) - (j : Int)).bmod (2 ^ 32) = _
  rw [Int.bmod_eq_of_le (by omega) (by omega)]; omega
theorem Ix.uniq {x : Int32} {i : Nat} (a : Ix x i) (q : i < 2 ^ 31) : x = Int32.ofNat i := by
  apply Int32.toInt_inj.mp
  rw [a, Int32.toInt_ofNat_of_lt q]
theorem ofN_add {i j : Nat} (q : i + j < 2 ^ 31) : Int32.ofNat i + Int32.ofNat j = Int32.ofNat (i + j) := (Ix.add (Ix.ofNat (by omega)) (Ix.ofNat (by omega)) q).uniq q
theorem ofN_sub {i j : Nat} (q : j ≤ i) (q2 : i < 2 ^ 31) : Int32.ofNat i - Int32.ofNat j = Int32.ofNat (i - j) := (Ix.sub (Ix.ofNat q2) (Ix.ofNat (by omega)) q q2).uniq (by omega)
theorem ofN_lt {i j : Nat} (q : i < 2 ^ 31) (q2 : j < 2 ^ 31) : Int32.ofNat i < Int32.ofNat j ↔ i < j := by
  rw [Int32.lt_iff_toInt_lt, Int32.toInt_ofNat_of_lt q, Int32.toInt_ofNat_of_lt q2]; omega
theorem ofN_eq {i j : Nat} (q : i < 2 ^ 31) (q2 : j < 2 ^ 31) : Int32.ofNat i = Int32.ofNat j ↔ i = j := by
  rw [← Int32.toInt_inj, Int32.toInt_ofNat_of_lt q, Int32.toInt_ofNat_of_lt q2]; omega
theorem shl0 (x : Int32) : x <<< ((0 : Int32) &&& 31) = x := by
  have e : ((0 : Int32) &&& 31) = 0 := rfl
  rw [e]
  apply Int32.toBitVec_inj.mp
  simp
/-- a StringBuilder that holds bytes -/
def SBd (Z : State) (h : Heap) (b t : Addr) (bs : List Int32) (C : Nat) : Prop :=
  Exa Z h b "java/lang/StringBuilder" ∧ Fld Z h b "java/lang/AbstractStringBuilder" "value" "[B" (.ref t) ∧ Fld Z h b "java/lang/AbstractStringBuilder" "coder" "B" (.int 0) ∧ Fld Z h b "java/lang/AbstractStringBuilder" "count" "I" (.int (Int32.ofNat bs.length)) ∧
    IA Z h t .byte (bs ++ List.replicate (C - bs.length) 0) ∧ bs.length ≤ C ∧ (C = 16 ∨ C = 34) ∧ FB bs
section
variable {Z : State} {h h' : Heap} {a b t : Addr} {bs : List Int32} {C : Nat} {ws : List Addr} {sl : Nat} {v : Value}
theorem SBd.lt (A : SBd Z h b t bs C) : b < h.size := A.1.lt
theorem SBd.ltT (A : SBd Z h b t bs C) : t < h.size := A.2.2.2.2.1.lt
theorem SBd.ext (A : SBd Z h b t bs C) (E : Ext h h') : SBd Z h' b t bs C := ⟨A.1.ext E, A.2.1.ext E, A.2.2.1.ext E, A.2.2.2.1.ext E, A.2.2.2.2.1.ext E, A.2.2.2.2.2⟩
theorem SBd.keep (A : SBd Z h b t bs C) (K : Keep h h' ws) (q1 : b ∉ ws) (q2 : t ∉ ws) : SBd Z h' b t bs C := ⟨A.1.keep K, A.2.1.keep K q1, A.2.2.1.keep K q1, A.2.2.2.1.keep K q1, A.2.2.2.2.1.keep K q2, A.2.2.2.2.2⟩
theorem SBd.other (A : SBd Z h b t bs C) (W : Wr h h' a sl v) (q1 : b ≠ a) (q2 : t ≠ a) : SBd Z h' b t bs C := ⟨A.1.wr W, A.2.1.other W (Or.inl q1), A.2.2.1.other W (Or.inl q1), A.2.2.2.1.other W (Or.inl q1), A.2.2.2.2.1.other W q2, A.2.2.2.2.2⟩
end
theorem fb_lo8 (c : Int32) : fits .byte (.int (lo8 c)) = true := by
  have h1 := Int8.minValue_le_toInt c.toInt8
  have h2 := Int8.toInt_le c.toInt8
  simp only [fits, Bool.and_eq_true, decide_eq_true_eq, Int32.le_iff_toInt_le]
  show (-128 : Int) ≤ (lo8 c).toInt ∧ (lo8 c).toInt ≤ 127
  unfold Own.lo8
  rw [Int8.toInt_toInt32]
  constructor
  · exact h1
  · exact h2
theorem fb_map (cs : List Int32) : FB (cs.map lo8) := fun x hx => by
  obtain ⟨c, -, rfl⟩ := List.mem_map.mp hx
  exact fb_lo8 c
end Jvm.Own
namespace Jvm.Own
open Jvm Jvm.ClassFile Sem Op Lib Jvm.Free Jvm.Stand Jvm.LawKit Jvm.RoadKit Bundle Jvm.Free.Exc
/-- the one word that a sheet may lack: Throwable's own laying of suppressedExceptions (the receiver's class lays it) -/
def badW : Jvm.Cond := .lays tN tN "suppressedExceptions" listD
/-- Throwable's links out of the words that are there -/
theorem own_links {args : Array Value} {s : State} {pl : Platform} {rc : String} (hrc : rc ≠ tN) (howns : pl.frameOwnsMonitors = true) (hfin : pl.finalization = false) (hpl : pl.magicAccessors = ({} : Platform).magicAccessors)
    (W : ∀ c ∈ excAtoms rc, c ≠ badW → c.before args s = true) :
    ∃ T : ThrowableC, T.Links pl s ∧ s.vm.findClass tN = some T.cT ∧ s.methodNamed? tFill = some T.fill ∧ s.methodNamed? tFill0 = some T.fill0 ∧ s.fieldFound? tN "stackTrace" steD = some (T.cT, T.kT, T.i17, T.fStack) ∧
      s.fieldFound? tN "UNASSIGNED_STACK" steD = some (T.cT, T.kT, T.i13, T.fUnassigned) ∧ T.fStack.name = "stackTrace" ∧ T.fStack.type = .array (.object "java/lang/StackTraceElement") := by
  have w : ∀ c, c ∈ excAtoms rc → c ≠ badW → c.holds args s none s [] = true := fun c hc hn => W c hc hn
  have wNat := w (.native tFill0) (by simp [excAtoms, throwableAtoms]) (by decide)
  have wIni := w (.initialized tN) (by simp [excAtoms, throwableAtoms]) (by decide)
  have wSup := w (.superclass tN "java/lang/Object") (by simp [excAtoms, throwableAtoms]) (by decide)
  have wF := w (.instanceMethod tFill) (by simp [excAtoms, throwableAtoms]) (by decide)
  have wFc := w (.codeSync tFill LibCode.Throwable.Fill.code 1 (some (.object tN))) (by simp [excAtoms, throwableAtoms]) (by decide)
  have w0 := w (.instanceMethod tFill0) (by simp [excAtoms, throwableAtoms]) (by decide)
  have wO := w (.instanceMethod oInit) (by simp [excAtoms, throwableAtoms]) (by decide)
  have wOc := w (.code oInit ⟨#[0xb1]⟩ 1 none) (by simp [excAtoms, throwableAtoms]) (by decide)
  have l1 := w (.methodLink tN 1 oInit) (by simp [excAtoms, throwableAtoms]) (by decide)
  have l27 := w (.methodLink tN 27 tFill) (by simp [excAtoms, throwableAtoms]) (by decide)
  have l202 := w (.methodLink tN 202 tFill0) (by simp [excAtoms, throwableAtoms]) (by decide)
  have l7 := w (.fieldLink tN 7 tN "cause" thD) (by simp [excAtoms, throwableAtoms]) (by decide)
  have l13 := w (.fieldLink tN 13 tN "UNASSIGNED_STACK" steD) (by simp [excAtoms, throwableAtoms]) (by decide)
  have l17 := w (.fieldLink tN 17 tN "stackTrace" steD) (by simp [excAtoms, throwableAtoms]) (by decide)
  have l20 := w (.fieldLink tN 20 tN "SUPPRESSED_SENTINEL" listD) (by simp [excAtoms, throwableAtoms]) (by decide)
  have l24 := w (.fieldLink tN 24 tN "suppressedExceptions" listD) (by simp [excAtoms, throwableAtoms]) (by decide)
  have y7 := w (.lays tN tN "cause" thD) (by simp [excAtoms, throwableAtoms]) (by decide)
  have y17 := w (.lays tN tN "stackTrace" steD) (by simp [excAtoms, throwableAtoms]) (by decide)
  have yM := w (.lays tN tN "detailMessage" msgD) (by simp [excAtoms, throwableAtoms]) (by decide)
  have z13 := w (.laysStatic tN "UNASSIGNED_STACK" steD) (by simp [excAtoms, throwableAtoms]) (by decide)
  have z20 := w (.laysStatic tN "SUPPRESSED_SENTINEL" listD) (by simp [excAtoms, throwableAtoms]) (by decide)
  have ne1 : ∀ (n d : String), (Jvm.Cond.lays rc tN n d) ≠ badW := fun n d e => by unfold badW at e; injection e with e1; exact hrc e1
  have x17 := w (.lays rc tN "stackTrace" steD) (by simp [excAtoms]) (ne1 _ _)
  have x24 := w (.lays rc tN "suppressedExceptions" listD) (by simp [excAtoms]) (ne1 _ _)
  obtain ⟨⟨c, i0⟩, m0, hn0, hm0, p1, p2, p3, p4⟩ := Cond.native_spec wNat
  have hc : s.vm.findClass tN = some c := findClass_of_methodNamed hn0
  obtain ⟨k, hk, hname⟩ := Vm.findClass_spec hc
  obtain ⟨_, k', _, _, hk', _, _, -, _, hni⟩ := Cond.superclass_spec hc wSup
  cases hk.symm.trans hk'
  obtain ⟨iF, mF, hnF, hmF, qF1, qF2, qF3, -, -⟩ := Cond.ownMethod (x := tFill) hc hk wF
  obtain ⟨mF', cF, hmF', f1, f2, f3, f4, f5, -, f6⟩ := Cond.codeSync_spec hnF wFc
  cases hmF.symm.trans hmF'
  obtain ⟨i0', m0', hn0', hm0', q01, q02, q03, q04, q05⟩ := Cond.ownMethod (x := tFill0) hc hk w0
  cases hn0.symm.trans hn0'
  cases hm0.symm.trans hm0'
  obtain ⟨mO, meO, hnO, hmO, o1, o2⟩ := Cond.instanceMethod_spec wO
  obtain ⟨meO', cO, hmO', o3, o4, -, -, o5, -, o6⟩ := Cond.code_spec hnO wOc
  cases hmO.symm.trans hmO'
  obtain ⟨kO, hkO, hnameO⟩ := Vm.findClass_spec (findClass_of_methodNamed hnO)
  obtain ⟨o7, o8⟩ := name_of_methodNamed hnO hmO
  obtain ⟨c1, n1, cf, a1, a2, hcf, a3⟩ := Cond.linkedMethod hc hk hnO l1 pl hpl
  obtain ⟨c27, n27, cf', b1, b2, hcf', b3⟩ := Cond.linkedMethod hc hk hnF l27 pl hpl
  cases hcf.symm.trans hcf'
  obtain ⟨c202, n202, cf', d1, d2, hcf', d3⟩ := Cond.linkedMethod hc hk hn0 l202 pl hpl
  cases hcf.symm.trans hcf'
  obtain ⟨c7, i7, f7, e1, e2, e3, e4, e5, -, -, -⟩ := Cond.ownField (t := .object tN) hc hk (by decide +kernel) l7 y7 pl hpl
  obtain ⟨c17, i17, f17, g1, g2, g3, g4, g5, g6, g7, hff17⟩ := Cond.ownField (t := .array (.object "java/lang/StackTraceElement")) hc hk (by decide +kernel) l17 y17 pl hpl
  obtain ⟨c24, i24, f24, r1, r2, r3, r4, r5, r6, -, hff24⟩ := Cond.ownField (t := .object "java/util/List") hc hk (by decide +kernel) l24 x24 pl hpl
  obtain ⟨c13, i13, f13, aS, cellS, s1, s2, s3, s4, -, -, s5, -, -, -, -, hff13⟩ := Cond.ownStatic (t := .array (.object "java/lang/StackTraceElement")) hc hk (by decide +kernel) l13 z13 pl hpl
  obtain ⟨c20, i20, f20, _, _, t1, t2, t3, t4, -, -, -, -, -, -, -, -⟩ := Cond.ownStatic (t := .object "java/util/List") hc hk (by decide +kernel) l20 z20 pl hpl
  obtain ⟨_, _, _, _, _, fM, _, _, _, u1, u2, _⟩ := Cond.lays_spec yM
  have par : ∀ {d : String} {mt : Method} {ps : List FieldType} {rt : Option FieldType}, parseMethodDescriptor d = some mt.sig → parseMethodDescriptor d = some ⟨ps, rt⟩ → mt.sig.parameters = ps := fun z1 z2 => by rw [Option.some.inj (z1.symm.trans z2)]
  have pF : mF.sig.parameters = [] := par f6 (show parseMethodDescriptor tFill.desc = some ⟨[], some (.object tN)⟩ by decide +kernel)
  have p0 : m0.sig.parameters = [.int] := par p4 (show parseMethodDescriptor tFill0.desc = some ⟨[.int], some (.object tN)⟩ by decide +kernel)
  have pO : meO.sig.parameters = [] := par o6 (show parseMethodDescriptor oInit.desc = some ⟨[], none⟩ by decide +kernel)
  refine ⟨{ cT := c, kT := k, cO := c, aS := aS, fillIdx := iF, fill0Idx := i0, initSIdx := iF, obj := mO, kObj := kO, methFill := mF, methFill0 := m0, methInitS := mF, methObj := meO, codeFill := cF, codeInitS := cF, codeObj := cO, fBack := f7, fDepth := f7, fStack := f17, fCause := f7, fSupp := f24, fMsg := fM, fUnassigned := f13, fSentinel := f20, cfT := cf, ci1 := c1, n1 := n1, ci27 := c27, n27 := n27, ci202 := c202, n202 := n202, ci7 := c7, i7 := i7, ci13 := c13, i13 := i13, ci17 := c17, i17 := i17, ci20 := c20, i20 := i20, ci24 := c24, i24 := i24 },
    ⟨howns, hfin, hk, hname, Vm.findClass_boot hc hk, hni, Cond.initialized_spec hc hk wIni, s5, qF1, f1, f2, f3, f5, qF2, qF3, f4, pF, q01, q04, q05, p0, q02, p1, p2, p3, q03, g4, g5, s4, hkO, hnameO, hmO, o7, o1, o2, ?_, ?_, o3, o4, o5, e4, e5, t4, r4, r5, u1, u2, ?_, hcf, a1, a2, a3, b1, b2, b3, d1, d2, d3, e1, e2, e3, s1, s2, s3, g1, g2, g3, t1, t2, t3, r1, r2, r3⟩, hc, hnF, hn0, hff17, hff13, g6, g7⟩
  · rw [o8]; exact lookupSpecial_of_named hnO hmO o1
  · rw [pO]; rfl
  · exact Cond.lays_apart x17 x24 hff17 hff24 (by rw [g6, r6]; decide)
section Fill
variable {l : Launch} {Z : State} {EL : List (String × Nat)} {n0 : Nat} {R : Room} {y : MethodName} {bytes : ByteArray} {ml : Nat} {ret : Option FieldType} {Q : Option Value → Heap → List Addr → Prop}
  {F : List Addr} {h : Heap} {cells slots pc pc' : Nat} {Ls Ls' : Array Slot} {S S' : List Value} {a0 : Array Value}
/-- fillInStackTrace(), called in a constructor of Throwable -/
theorem WP.fill {a u : Addr} {rc : String} {kk : Nat} {v0 : Value} {rest : List Value} (hyc : y.cls = tN) (hd : D1 bytes pc (.invokevirtual 27) 3 pc') (hst : l.stackTraces = true) (hG : Gn Z) (hrc : rc ≠ tN)
    (W : ∀ c ∈ excAtoms rc, c ≠ badW → c.before a0 Z = true) (wi : (Jvm.Cond.instantiable rc kk).before a0 Z = true) (hU : Sta Z Z.heap tN "UNASSIGNED_STACK" steD (.ref u))
    (E : Exa Z h a rc) (N : Unt h a) (FS : Fld Z h a tN "stackTrace" steD (.ref u)) (FB : Fld Z h a tN "backtrace" obD .null) (FM : Fld Z h a tN "detailMessage" msgD v0) (na : n0 ≤ a) (hs : SafeBy Z EL F h a) (hsz : Ls.size = ml)
    (hf : 3 ≤ R.frames) (hlo : (rest.map fun v => v.category).sum + 42 ≤ R.locals) (hc : cells + 1 ≤ R.cells) (hsl : slots + 2752 ≤ R.slots)
    (k : ∀ h', Keep h h' [a] → Exa Z h' a rc → Fld Z h' a tN "detailMessage" msgD v0 → WP l Z EL n0 R y bytes ml ret Q F h' (cells + 1) (slots + 2752) pc' Ls (.ref a :: rest)) : WP l Z EL n0 R y bytes ml ret Q F h cells slots pc Ls (.ref a :: rest) := by
  obtain ⟨hd, rfl⟩ := hd
  intro p e s m args below meth c T vm0 locs D
  obtain ⟨X, e0, ⟨k0, hS, hk⟩, hZ, hown, hC, hF, hN, hO, hx, hby, hml, hret, hlk, hnm, hEL, hkn⟩ := D
  rw [hyc] at hown
  have hal : Z.vm.Alike (s.setVm vm0).vm := hZ.alike
  have W' : ∀ c ∈ excAtoms rc, c ≠ badW → c.before args (s.setVm vm0) = true := fun c hc hn => mvX (s := s.setVm vm0) (ThS.ext hkn.2 ThS.start) hZ (List.all_eq_true.mp exc_ok c hc) (W c hc hn)
  have htr : e.platform.stackTraces = true := by rw [X.admits.platform]; exact hst
  have howns : e.platform.frameOwnsMonitors = true := by rw [X.admits.platform]
  have hfin : e.platform.finalization = false := by rw [X.admits.platform]
  have hpl : e.platform.magicAccessors = ({} : Platform).magicAccessors := by rw [X.admits.platform]
  obtain ⟨TT, L, hT, hnF, hn0, hff17, hff13, nS, tS⟩ := own_links hrc howns hfin hpl W'
  have ne1 : ∀ (n d : String), (Jvm.Cond.lays rc tN n d) ≠ badW := fun n d e => by unfold badW at e; injection e with e1; exact hrc e1
  have hE := E
  obtain ⟨cell, kc, h1, h2, h3, h4, h5⟩ := E
  obtain ⟨c2, u1, hvm, hmon⟩ := N
  cases h1.symm.trans u1
  obtain ⟨c4, k2, i1, i2, i3, -⟩ := Cond.instantiable_spec wi
  cases h2.symm.trans i1
  cases h3.symm.trans i2
  obtain ⟨kX, hkX, qX⟩ := hal.2.2 _ _ h3
  have hord : kX.kind = .ordinary := by rw [qX]; exact i3
  have hszX : cell.slots.size = kX.instanceTypes.size := by rw [qX]; exact h5 i3
  have hfound : (s.setVm vm0).vm.findClass rc = some cell.cls := by rw [hal.findClass]; exact h2
  have hTc : T.heap[a]? = some cell := by rw [e0]; exact h1
  obtain ⟨c3, cf3, kf3, i3', f3, b1, b2, -, -, -, -, b7⟩ := FS
  cases h1.symm.trans b1
  obtain ⟨k4, q3, -⟩ := State.fieldFound?_setVm (s := Z) hal b2
  cases (show (s.setVm vm0).fieldFound? tN "stackTrace" steD = _ from q3).symm.trans hff17
  obtain ⟨c5, cf5, kf5, i5, f5, d1, d2, -, -, -, -, d7⟩ := FB
  cases h1.symm.trans d1
  obtain ⟨k6, q6, -⟩ := State.fieldFound?_setVm (s := Z) hal d2
  obtain ⟨ci198, i198, fB, x1, x2, x3, x4, -, x5, x6, hffB⟩ := Cond.ownField (t := .object "java/lang/Object") hT L.cls (by decide +kernel) (W' (.fieldLink tN 198 tN "backtrace" obD) (by simp [excAtoms]) (by decide)) (W' (.lays tN tN "backtrace" obD) (by simp [excAtoms]) (by decide)) e.platform hpl
  cases (show (s.setVm vm0).fieldFound? tN "backtrace" obD = _ from q6).symm.trans hffB
  obtain ⟨c7, cf7, kf7, i7, fM, m1, m2, m3, m4, m5, m6, m7⟩ := FM
  cases h1.symm.trans m1
  obtain ⟨k8, q8, -⟩ := State.fieldFound?_setVm (s := Z) hal m2
  have hffM : (s.setVm vm0).fieldFound? tN "detailMessage" msgD = _ := q8
  obtain ⟨nM, -⟩ := State.fieldFound?_type hffM (t := .object "java/lang/String") (by decide +kernel)
  obtain ⟨_, _, cD, kD, iD, fD, -, -, hffD, hstD, -, -, -, -⟩ := Cond.lays_spec (W' (.lays rc tN "depth" "I") (by simp [excAtoms]) (ne1 _ _))
  cases Option.some.inj ((Cond.lays_declared (W' (.lays rc tN "depth" "I") (by simp [excAtoms]) (ne1 _ _)) hffD).symm.trans hT)
  obtain ⟨hkD, hatD⟩ := State.fieldFound?_spec hffD
  cases Option.some.inj (hkD.symm.trans L.cls)
  obtain ⟨nD, tD⟩ := State.fieldFound?_type hffD (t := .int) (by decide +kernel)
  have hfb := Cond.soleField_find hT L.cls (W' (.soleField tN "backtrace") (by simp [excAtoms]) (by decide)) x3 x5 x4
  have hfd := Cond.soleField_find hT L.cls (W' (.soleField tN "depth") (by simp [excAtoms]) (by decide)) hatD nD hstD
  obtain ⟨comp, cO, kO, -, -, hkO, hkindO, hOO⟩ := Cond.arrayOver_spec (W' (.arrayOver (.object "java/lang/Object")) (by simp [excAtoms]) (by decide))
  obtain ⟨tyS, dS, hdS, hdnS⟩ := Cond.laysAt hfound hkX hff17 (W' (.lays rc tN "stackTrace" steD) (by simp [excAtoms]) (ne1 _ _))
  obtain ⟨tyM, dM, hdM, hdnM⟩ := Cond.laysAt hfound hkX hffM (W' (.lays rc tN "detailMessage" msgD) (by simp [excAtoms]) (ne1 _ _))
  obtain ⟨tyB, dB, hdB, hdnB⟩ := Cond.laysAt hfound hkX hffB (W' (.lays rc tN "backtrace" obD) (by simp [excAtoms]) (ne1 _ _))
  obtain ⟨tyD, dD, hdD, hdnD⟩ := Cond.laysAt hfound hkX hffD (W' (.lays rc tN "depth" "I") (by simp [excAtoms]) (ne1 _ _))
  have mS := Cond.laysApart hdM hdS hdnM hdnS (by rw [nM, nS]; decide)
  have mB := Cond.laysApart hdM hdB hdnM hdnB (by rw [nM, x5]; decide)
  have mD := Cond.laysApart hdM hdD hdnM hdnD (by rw [nM, nD]; decide)
  have tk : ∀ {f : Field} {v : Value}, kX.instanceTypes[f.slot]? = some f.type → fits f.type v = true → Jvm.Takes (s.setVm vm0) cell f v := fun {f v} z1 z2 => by
    obtain ⟨g1, g2⟩ := Takes.of_laid (v := v) hkX hord z1 z2
    exact ⟨by rw [hszX]; simpa using g1, by rw [hvm]; exact g2⟩
  have hsel0 : selectMethod e.platform (s.setVm vm0).vm cell.cls TT.fill0 = .method TT.fill0 := by
    obtain ⟨_, _, _, g1, g2, g3, g4, -⟩ := Cond.selects_spec (W' (.selects rc tFill0 tFill0) (by simp [excAtoms]) (by simp [badW]))
    cases Option.some.inj (g1.symm.trans hfound)
    cases Option.some.inj (g2.symm.trans (State.methodFound?_of_named hn0 (by decide)))
    cases Option.some.inj (g3.symm.trans hn0)
    rw [Launch.admits_selectMethod X.admits]; exact g4
  obtain ⟨cU, iU, kU, fU, st, cellS, v1, v2, v3, v4, v5, v6, v7⟩ := hU
  obtain ⟨kU', w1, w2⟩ := State.fieldFound?_setVm (s := Z) hal v1
  cases (show (s.setVm vm0).fieldFound? tN "UNASSIGNED_STACK" steD = _ from w1).symm.trans hff13
  have haS : TT.aS = st := by
    have z1 := L.statics
    rw [show TT.kT.statics = kU.statics from by rw [w2]] at z1
    exact Option.some.inj (z1.symm.trans v4)
  have hneS : TT.aS ≠ a := fun q => by
    rw [haS] at q
    have z2 := hO.2.2 _ _ v5
    rw [q] at z2
    cases h1.symm.trans z2
    rw [hvm] at v6; cases v6
  have K := Jvm.Free.Str.fillPays (l := l) (R := R) (p := p) (e := e) (below := below) (s := s.setVm vm0) (sargs := args) (len := 3) (W := (rest.map fun v => v.category).sum) hx htr TT L hnF (u0 := ⟨.ref u, rfl⟩) (by simp) (self := a) (cell := cell) (cellS := cellS)
    (fun q => by rw [hvm]; simp) (by rw [hvm]; simp) (by rw [hmon]) (by rw [hmon]) b7 hsel0 hneS (fun q => by rw [q] at v6; cases v6) v7 (tk tyS (by rw [tS]; rfl)) ⟨⟨ci198, i5, f5⟩, ⟨x1, x2, x3, x4⟩, d7⟩
    (Vm.MethodsKnown.alikeC (vm' := (s.setVm vm0).vm) hZ.alike hG.1) (Vm.FramesKnown.alikeC (vm' := (s.setVm vm0).vm) hZ.alike (hkn.1 hG)) hT hOO hkO hkindO hfb hfd (fun q => tk tyB (by rw [x6]; rfl)) (fun q => tk tyD (by rw [tD]; rfl)) (by omega) hlo
  obtain ⟨cB, kB, o1, o2, o3⟩ := isOf (s := s.setVm vm0) hZ e0 hE
  obtain ⟨v, vm₁, ⟨U, L1, c1, n1⟩, -, X', ⟨hv, vm', lines, hln, -, hUU, hLL, hcc, hnn⟩, stp⟩ := X.virtualBack hx hown (W' (.methodLink tN 27 tFill) (by simp [excAtoms, throwableAtoms]) (by decide)) (W' (.declares tFill) (by simp [excAtoms]) (by decide))
    (notFace2 (a0 := args) (W' (.selects rc tFill tFill) (by simp [excAtoms]) (by simp [badW])) rfl) (W' (.selects rc tFill tFill) (by simp [excAtoms]) (by simp [badW])) (W' (.instanceMethod tFill) (by simp [excAtoms, throwableAtoms]) (by decide)) (by decide) K o1 o3
    (g := mkF m pc Ls (.ref a :: rest)) rfl (by rw [hml]; exact hsz) (Steps.refl _) (argsL := []) (rest := rest) (fun sig hsig => by rw [show parseMethodDescriptor tFill.desc = some ⟨[], some (.object tN)⟩ from by decide +kernel] at hsig; cases hsig; rfl) rfl (by show 2 * 0 + _ ≤ _; omega) (hb hby hd) (fun vm₁ _ => ⟨rfl, hc, hsl, hTc, by show T.heap[TT.aS]? = _; rw [e0, haS]; exact hO.2.2 _ _ v5⟩)
  subst hv
  have hLL' : L1 = locs ++ [⟨a, f5.slot⟩, ⟨a, fD.slot⟩, ⟨a, TT.fStack.slot⟩] := hLL
  have hcc' : c1 = cells + 1 := hcc
  have hnn' : n1 = slots + (traceHolder cO lines).slots.size := hnn
  subst hLL' hcc' hnn'
  have hUU' : U = ((T.setVm vm₁).setVm vm' |>.pushCell (traceHolder cO lines)).setCell a (Jvm.Free.Str.filledOn TT.toThrowableT f5 fD cell ⟨.ref u, rfl⟩ T.heap.size lines.length.toInt32) := hUU
  have hhp : U.heap = (h.push (traceHolder cO lines)).setIfInBounds a (Jvm.Free.Str.filledOn TT.toThrowableT f5 fD cell ⟨.ref u, rfl⟩ T.heap.size lines.length.toInt32) := by rw [hUU', ← e0]; rfl
  have hlt : a < h.size := (Array.getElem?_eq_some_iff.mp h1).1
  generalize hfc : Jvm.Free.Str.filledOn TT.toThrowableT f5 fD cell ⟨.ref u, rfl⟩ T.heap.size lines.length.toInt32 = fc at hhp
  have fc1 : fc.cls = cell.cls := by rw [← hfc]; rfl
  have fc2 : fc.vm = cell.vm := by rw [← hfc]; rfl
  have fc3 : fc.slots.size = cell.slots.size := by rw [← hfc]; simp [Jvm.Free.Str.filledOn, Cell.setSlot]
  have fc4 : ∀ i, i ≠ f5.slot → i ≠ fD.slot → i ≠ TT.fStack.slot → fc.slots[i]? = cell.slots[i]? := fun i z1 z2 z3 => by rw [← hfc]; simp [Jvm.Free.Str.filledOn, Cell.setSlot, Array.getElem?_setIfInBounds, Ne.symm z1, Ne.symm z2, Ne.symm z3]
  have at1 : U.heap[a]? = some fc := by rw [hhp, Array.getElem?_setIfInBounds, if_pos rfl, if_pos (by rw [Array.size_push]; exact Nat.lt_succ_of_lt hlt)]
  have at2 : ∀ x cl, h[x]? = some cl → x ≠ a → U.heap[x]? = some cl := fun x cl q ne => by
    have lx := (Array.getElem?_eq_some_iff.mp q).1
    rw [hhp, Array.getElem?_setIfInBounds, if_neg (Ne.symm ne), Array.getElem?_push_lt lx]
    rw [Array.getElem?_eq_getElem lx] at q; exact q
  have Kp : Keep h U.heap [a] := by
    refine ⟨by rw [hhp]; simp, fun x cl q ne => at2 x cl q (by simpa using ne), fun x cl q => ?_⟩
    by_cases ex : x = a
    · subst ex
      cases h1.symm.trans q
      exact ⟨fc, at1, fc1, fc2, fc3⟩
    · exact ⟨cl, at2 x cl q ex, rfl, rfl, rfl⟩
  have sa : ∀ x ∈ [a], Safe Z EL vm0 h x := fun x hx => by
    rw [List.mem_singleton.mp hx]; exact hs.2 vm0 hZ.alike hF
  have FM' : Fld Z U.heap a tN "detailMessage" msgD v0 := ⟨fc, _, _, _, fM, at1, m2, m3, by rw [fc2]; exact m4, by rw [fc2]; exact m5, by rw [fc1]; exact m6, by rw [fc4 _ mB mD mS]; exact m7⟩
  refine (k U.heap Kp (hE.keep Kp) FM' p e s m args below meth c U vm0 _ ⟨X'.more (Nat.le_refl _) (Nat.add_le_add_left (traceHolder_size_le cO hln) _), rfl, ⟨k0, hS, Nat.le_trans hk Kp.1⟩, hZ, by rw [hyc]; exact hown, hC.trans (CHr.keep Kp sa hC.1), fun x hx => ⟨Nat.lt_of_lt_of_le (hF x hx).1 Kp.1, Safe.keep Kp sa hC.1 (hF x hx).2⟩, hN.app ?_, hO.keep Kp (fun x hx => by rw [List.mem_singleton.mp hx]; exact na), hx, hby, hml, hret, hlk, hnm, hEL, hkn⟩).step fun t q => stp.trans q
  intro z hz
  simp only [List.mem_cons, List.not_mem_nil, or_false] at hz
  rcases hz with rfl | rfl | rfl <;> exact na
end Fill
end Jvm.Own
namespace Jvm.Pilot.@@N@@
open Jvm Jvm.ClassFile Sem Op Lib Jvm.Free Jvm.Stand Jvm.LawKit Jvm.RoadKit Bundle Jvm.Own Jvm.Pilot.@@N@@.Jvm.D
theorem own_EW {Z : State} {a0 : Array Value} (hw : ∀ d ∈ tables_1, d.before a0 Z = true) : EW Z a0 consts_1 := (EW.cons (hw _ (List.mem_of_getElem? (i := 88) rfl)) (by decide) (EW.cons (hw _ (List.mem_of_getElem? (i := 112) rfl)) (by decide) (EW.cons (hw _ (List.mem_of_getElem? (i := 113) rfl)) (by decide) (EW.cons (hw _ (List.mem_of_getElem? (i := 4) rfl)) (by decide) EW.nil))))
theorem own_wS {Z : State} {a0 : Array Value} (hw : ∀ d ∈ tables_1, d.before a0 Z = true) : ∀ a ∈ Bundle.stringAtoms, a.before a0 Z = true := by
  intro d hd
  simp only [Bundle.stringAtoms, List.mem_cons, List.not_mem_nil, or_false] at hd
  rcases hd with rfl | rfl | rfl | rfl | rfl | rfl | rfl
  · exact (hw _ (List.mem_of_getElem? (i := 5) rfl))
  · exact (hw _ (List.mem_of_getElem? (i := 6) rfl))
  · exact (hw _ (List.mem_of_getElem? (i := 7) rfl))
  · exact (hw _ (List.mem_of_getElem? (i := 8) rfl))
  · exact (hw _ (List.mem_of_getElem? (i := 9) rfl))
  · exact (hw _ (List.mem_of_getElem? (i := 10) rfl))
  · exact (hw _ (List.mem_of_getElem? (i := 11) rfl))
theorem pd_0 : parseMethodDescriptor "(I)Ljava/lang/String;" = some ⟨[.int], some (.object "java/lang/String")⟩ := by decide +kernel
theorem pd_1 : parseMethodDescriptor "(Ljava/lang/String;Ljava/lang/String;Ljava/lang/String;)Lcom/example/proviso/proviso/InvalidInputException;" = some ⟨[(.object "java/lang/String"), (.object "java/lang/String"), (.object "java/lang/String")], some (.object "com/example/proviso/proviso/InvalidInputException")⟩ := by decide +kernel
theorem pd_2 : parseMethodDescriptor "()V" = some ⟨[], none⟩ := by decide +kernel
theorem pd_3 : parseMethodDescriptor "(I)V" = some ⟨[.int], none⟩ := by decide +kernel
theorem pd_4 : parseMethodDescriptor "(Ljava/lang/String;)Ljava/lang/StringBuilder;" = some ⟨[(.object "java/lang/String")], some (.object "java/lang/StringBuilder")⟩ := by decide +kernel
theorem pd_5 : parseMethodDescriptor "(Ljava/lang/String;)Ljava/lang/AbstractStringBuilder;" = some ⟨[(.object "java/lang/String")], some (.object "java/lang/AbstractStringBuilder")⟩ := by decide +kernel
theorem pd_6 : parseMethodDescriptor "()I" = some ⟨[], some .int⟩ := by decide +kernel
theorem pd_7 : parseMethodDescriptor "()B" = some ⟨[], some .byte⟩ := by decide +kernel
theorem pd_8 : parseMethodDescriptor "(ILjava/lang/String;)V" = some ⟨[.int, (.object "java/lang/String")], none⟩ := by decide +kernel
theorem pd_9 : parseMethodDescriptor "(Ljava/lang/String;)V" = some ⟨[(.object "java/lang/String")], none⟩ := by decide +kernel
theorem pd_10 : parseMethodDescriptor "([BIB)V" = some ⟨[(.array .byte), .int, .byte], none⟩ := by decide +kernel
theorem pd_11 : parseMethodDescriptor "(Ljava/lang/Object;ILjava/lang/Object;II)V" = some ⟨[(.object "java/lang/Object"), .int, (.object "java/lang/Object"), .int, .int], none⟩ := by decide +kernel
theorem pd_12 : parseMethodDescriptor "(I)I" = some ⟨[.int], some .int⟩ := by decide +kernel
theorem pd_13 : parseMethodDescriptor "(III)I" = some ⟨[.int, .int, .int], some .int⟩ := by decide +kernel
theorem pd_14 : parseMethodDescriptor "(II)I" = some ⟨[.int, .int], some .int⟩ := by decide +kernel
theorem pd_15 : parseMethodDescriptor "([BI)[B" = some ⟨[(.array .byte), .int], some (.array .byte)⟩ := by decide +kernel
theorem pd_16 : parseMethodDescriptor "()Ljava/lang/String;" = some ⟨[], some (.object "java/lang/String")⟩ := by decide +kernel
theorem pd_17 : parseMethodDescriptor "(Ljava/lang/StringBuilder;)V" = some ⟨[(.object "java/lang/StringBuilder")], none⟩ := by decide +kernel
theorem pd_18 : parseMethodDescriptor "(Ljava/lang/AbstractStringBuilder;Ljava/lang/Void;)V" = some ⟨[(.object "java/lang/AbstractStringBuilder"), (.object "java/lang/Void")], none⟩ := by decide +kernel
theorem pd_19 : parseMethodDescriptor "()[B" = some ⟨[], some (.array .byte)⟩ := by decide +kernel
theorem pd_20 : parseMethodDescriptor "()Z" = some ⟨[], some .boolean⟩ := by decide +kernel
theorem pd_21 : parseMethodDescriptor "([BII)[B" = some ⟨[(.array .byte), .int, .int], some (.array .byte)⟩ := by decide +kernel
theorem pd_22 : parseMethodDescriptor "(II)V" = some ⟨[.int, .int], none⟩ := by decide +kernel
theorem pd_23 : parseMethodDescriptor "()Ljava/lang/Throwable;" = some ⟨[], some (.object "java/lang/Throwable")⟩ := by decide +kernel
theorem pd_24 : parseMethodDescriptor "(I)Ljava/lang/Throwable;" = some ⟨[.int], some (.object "java/lang/Throwable")⟩ := by decide +kernel
theorem pd_25 : parseMethodDescriptor "(Ljava/lang/String;ILjava/lang/String;)Z" = some ⟨[(.object "java/lang/String"), .int, (.object "java/lang/String")], some .boolean⟩ := by decide +kernel
theorem pd_26 : parseMethodDescriptor "(Ljava/lang/String;I)Z" = some ⟨[(.object "java/lang/String"), .int], some .boolean⟩ := by decide +kernel
theorem pd_27 : parseMethodDescriptor "(I)C" = some ⟨[.int], some .char⟩ := by decide +kernel
theorem pd_28 : parseMethodDescriptor "([BI)C" = some ⟨[(.array .byte), .int], some .char⟩ := by decide +kernel
theorem pd_29 : parseMethodDescriptor "(IILjava/util/function/BiFunction;)I" = some ⟨[.int, .int, (.object "java/util/function/BiFunction")], some .int⟩ := by decide +kernel
theorem pd_30 : parseMethodDescriptor "(C)Ljava/lang/String;" = some ⟨[.char], some (.object "java/lang/String")⟩ := by decide +kernel
theorem pd_31 : parseMethodDescriptor "(C)Z" = some ⟨[.char], some .boolean⟩ := by decide +kernel
theorem pd_32 : parseMethodDescriptor "(C)[B" = some ⟨[.char], some (.array .byte)⟩ := by decide +kernel
theorem pd_33 : parseMethodDescriptor "([BB)V" = some ⟨[(.array .byte), .byte], none⟩ := by decide +kernel
theorem pd_34 : parseMethodDescriptor "([C)V" = some ⟨[(.array .char)], none⟩ := by decide +kernel
theorem pd_35 : parseMethodDescriptor "([CIILjava/lang/Void;)V" = some ⟨[(.array .char), .int, .int, (.object "java/lang/Void")], none⟩ := by decide +kernel
theorem pd_36 : parseMethodDescriptor "([CII)[B" = some ⟨[(.array .char), .int, .int], some (.array .byte)⟩ := by decide +kernel
theorem pd_37 : parseMethodDescriptor "([CI[BII)I" = some ⟨[(.array .char), .int, (.array .byte), .int, .int], some .int⟩ := by decide +kernel
theorem pd_38 : parseMethodDescriptor "([BI)B" = some ⟨[(.array .byte), .int], some .byte⟩ := by decide +kernel
theorem d0_0 : D1 code 0 (.iload_n 0) 1 1 := ⟨at_0, rfl⟩
theorem d0_1 : D1 code 1 (.invokestatic 7) 3 4 := ⟨at_1, rfl⟩
theorem d0_4 : D1 code 4 (.astore_n 3) 1 5 := ⟨at_4, rfl⟩
theorem d0_5 : D1 code 5 (.iload_n 1) 1 6 := ⟨at_5, rfl⟩
theorem d0_6 : D1 code 6 (.invokestatic 7) 3 9 := ⟨at_6, rfl⟩
theorem d0_9 : D1 code 9 (.astore 4) 2 11 := ⟨at_9, rfl⟩
theorem d0_11 : D1 code 11 (.iload_n 2) 1 12 := ⟨at_11, rfl⟩
theorem d0_12 : D1 code 12 (.invokestatic 7) 3 15 := ⟨at_12, rfl⟩
theorem d0_15 : D1 code 15 (.astore 5) 2 17 := ⟨at_15, rfl⟩
theorem d0_17 : D1 code 17 (.aload_n 3) 1 18 := ⟨at_17, rfl⟩
theorem d0_18 : D1 code 18 (.aload 4) 2 20 := ⟨at_18, rfl⟩
theorem d0_20 : D1 code 20 (.aload 5) 2 22 := ⟨at_20, rfl⟩
theorem d0_22 : D1 code 22 (.invokestatic 13) 3 25 := ⟨at_22, rfl⟩
theorem d0_25 : D1 code 25 (.astore 6) 2 27 := ⟨at_25, rfl⟩
theorem d0_27 : D1 code 27 (.aload 6) 2 29 := ⟨at_27, rfl⟩
theorem d0_29 : DJ code 29 .ifnonnull 5 32 34 := ⟨at_29, rfl, rfl⟩
theorem d0_32 : D1 code 32 (.iconst 0) 1 33 := ⟨at_32, rfl⟩
theorem d0_33 : D1 code 33 (.ireturn) 1 34 := ⟨at_33, rfl⟩
theorem d0_34 : D1 code 34 (.aload 6) 2 36 := ⟨at_34, rfl⟩
theorem d0_36 : D1 code 36 (.invokevirtual 19) 3 39 := ⟨at_36, rfl⟩
theorem d0_39 : D1 code 39 (.astore 7) 2 41 := ⟨at_39, rfl⟩
theorem d0_41 : D1 code 41 (.aload 7) 2 43 := ⟨at_41, rfl⟩
theorem d0_43 : DJ code 43 .ifnonnull 5 46 48 := ⟨at_43, rfl, rfl⟩
theorem d0_46 : D1 code 46 (.iconst 0) 1 47 := ⟨at_46, rfl⟩
theorem d0_47 : D1 code 47 (.ireturn) 1 48 := ⟨at_47, rfl⟩
theorem d0_48 : D1 code 48 (.aload_n 3) 1 49 := ⟨at_48, rfl⟩
theorem d0_49 : D1 code 49 (.invokevirtual 23) 3 52 := ⟨at_49, rfl⟩
theorem d0_52 : D1 code 52 (.istore 8) 2 54 := ⟨at_52, rfl⟩
theorem d0_54 : D1 code 54 (.aload 4) 2 56 := ⟨at_54, rfl⟩
theorem d0_56 : D1 code 56 (.invokevirtual 23) 3 59 := ⟨at_56, rfl⟩
theorem d0_59 : D1 code 59 (.istore 9) 2 61 := ⟨at_59, rfl⟩
theorem d0_61 : D1 code 61 (.aload 5) 2 63 := ⟨at_61, rfl⟩
theorem d0_63 : D1 code 63 (.invokevirtual 23) 3 66 := ⟨at_63, rfl⟩
theorem d0_66 : D1 code 66 (.istore 10) 2 68 := ⟨at_66, rfl⟩
theorem d0_68 : D1 code 68 (.aload 7) 2 70 := ⟨at_68, rfl⟩
theorem d0_70 : D1 code 70 (.invokevirtual 23) 3 73 := ⟨at_70, rfl⟩
theorem d0_73 : D1 code 73 (.iload 8) 2 75 := ⟨at_73, rfl⟩
theorem d0_75 : D1 code 75 (.iload 9) 2 77 := ⟨at_75, rfl⟩
theorem d0_77 : D1 code 77 (.iadd) 1 78 := ⟨at_77, rfl⟩
theorem d0_78 : D1 code 78 (.iload 10) 2 80 := ⟨at_78, rfl⟩
theorem d0_80 : D1 code 80 (.iadd) 1 81 := ⟨at_80, rfl⟩
theorem d0_81 : D1 code 81 (.bipush 25) 2 83 := ⟨at_81, rfl⟩
theorem d0_83 : D1 code 83 (.iadd) 1 84 := ⟨at_83, rfl⟩
theorem d0_84 : DJ code 84 (.if_icmp .eq) 5 87 89 := ⟨at_84, rfl, rfl⟩
theorem d0_87 : D1 code 87 (.iconst 0) 1 88 := ⟨at_87, rfl⟩
theorem d0_88 : D1 code 88 (.ireturn) 1 89 := ⟨at_88, rfl⟩
theorem d0_89 : D1 code 89 (.iconst 0) 1 90 := ⟨at_89, rfl⟩
theorem d0_90 : D1 code 90 (.istore 11) 2 92 := ⟨at_90, rfl⟩
theorem d0_92 : D1 code 92 (.aload 7) 2 94 := ⟨at_92, rfl⟩
theorem d0_94 : D1 code 94 (.iload 11) 2 96 := ⟨at_94, rfl⟩
theorem d0_96 : D1 code 96 (.aload_n 3) 1 97 := ⟨at_96, rfl⟩
theorem d0_97 : D1 code 97 (.invokestatic 29) 3 100 := ⟨at_97, rfl⟩
theorem d0_100 : DJ code 100 (.ifCond .ne) 5 103 105 := ⟨at_100, rfl, rfl⟩
theorem d0_103 : D1 code 103 (.iconst 0) 1 104 := ⟨at_103, rfl⟩
theorem d0_104 : D1 code 104 (.ireturn) 1 105 := ⟨at_104, rfl⟩
theorem d0_105 : D1 code 105 (.iload 11) 2 107 := ⟨at_105, rfl⟩
theorem d0_107 : D1 code 107 (.iload 8) 2 109 := ⟨at_107, rfl⟩
theorem d0_109 : D1 code 109 (.iadd) 1 110 := ⟨at_109, rfl⟩
theorem d0_110 : D1 code 110 (.istore 11) 2 112 := ⟨at_110, rfl⟩
theorem d0_112 : D1 code 112 (.aload 7) 2 114 := ⟨at_112, rfl⟩
theorem d0_114 : D1 code 114 (.iload 11) 2 116 := ⟨at_114, rfl⟩
theorem d0_116 : D1 code 116 (.invokestatic 33) 3 119 := ⟨at_116, rfl⟩
theorem d0_119 : DJ code 119 (.ifCond .ne) 5 122 124 := ⟨at_119, rfl, rfl⟩
theorem d0_122 : D1 code 122 (.iconst 0) 1 123 := ⟨at_122, rfl⟩
theorem d0_123 : D1 code 123 (.ireturn) 1 124 := ⟨at_123, rfl⟩
theorem d0_124 : D1 code 124 (.iload 11) 2 126 := ⟨at_124, rfl⟩
theorem d0_126 : D1 code 126 (.bipush 22) 2 128 := ⟨at_126, rfl⟩
theorem d0_128 : D1 code 128 (.iadd) 1 129 := ⟨at_128, rfl⟩
theorem d0_129 : D1 code 129 (.istore 11) 2 131 := ⟨at_129, rfl⟩
theorem d0_131 : D1 code 131 (.aload 7) 2 133 := ⟨at_131, rfl⟩
theorem d0_133 : D1 code 133 (.iload 11) 2 135 := ⟨at_133, rfl⟩
theorem d0_135 : D1 code 135 (.aload 4) 2 137 := ⟨at_135, rfl⟩
theorem d0_137 : D1 code 137 (.invokestatic 29) 3 140 := ⟨at_137, rfl⟩
theorem d0_140 : DJ code 140 (.ifCond .ne) 5 143 145 := ⟨at_140, rfl, rfl⟩
theorem d0_143 : D1 code 143 (.iconst 0) 1 144 := ⟨at_143, rfl⟩
theorem d0_144 : D1 code 144 (.ireturn) 1 145 := ⟨at_144, rfl⟩
theorem d0_145 : D1 code 145 (.iload 11) 2 147 := ⟨at_145, rfl⟩
theorem d0_147 : D1 code 147 (.iload 9) 2 149 := ⟨at_147, rfl⟩
theorem d0_149 : D1 code 149 (.iadd) 1 150 := ⟨at_149, rfl⟩
theorem d0_150 : D1 code 150 (.istore 11) 2 152 := ⟨at_150, rfl⟩
theorem d0_152 : D1 code 152 (.aload 7) 2 154 := ⟨at_152, rfl⟩
theorem d0_154 : D1 code 154 (.iload 11) 2 156 := ⟨at_154, rfl⟩
theorem d0_156 : D1 code 156 (.invokevirtual 37) 3 159 := ⟨at_156, rfl⟩
theorem d0_159 : D1 code 159 (.bipush 32) 2 161 := ⟨at_159, rfl⟩
theorem d0_161 : DJ code 161 (.if_icmp .ne) 17 164 178 := ⟨at_161, rfl, rfl⟩
theorem d0_164 : D1 code 164 (.aload 7) 2 166 := ⟨at_164, rfl⟩
theorem d0_166 : D1 code 166 (.iload 11) 2 168 := ⟨at_166, rfl⟩
theorem d0_168 : D1 code 168 (.iconst 1) 1 169 := ⟨at_168, rfl⟩
theorem d0_169 : D1 code 169 (.iadd) 1 170 := ⟨at_169, rfl⟩
theorem d0_170 : D1 code 170 (.invokevirtual 37) 3 173 := ⟨at_170, rfl⟩
theorem d0_173 : D1 code 173 (.bipush 34) 2 175 := ⟨at_173, rfl⟩
theorem d0_175 : DJ code 175 (.if_icmp .eq) 5 178 180 := ⟨at_175, rfl, rfl⟩
theorem d0_178 : D1 code 178 (.iconst 0) 1 179 := ⟨at_178, rfl⟩
theorem d0_179 : D1 code 179 (.ireturn) 1 180 := ⟨at_179, rfl⟩
theorem d0_180 : D1 code 180 (.iload 11) 2 182 := ⟨at_180, rfl⟩
theorem d0_182 : D1 code 182 (.iconst 2) 1 183 := ⟨at_182, rfl⟩
theorem d0_183 : D1 code 183 (.iadd) 1 184 := ⟨at_183, rfl⟩
theorem d0_184 : D1 code 184 (.istore 11) 2 186 := ⟨at_184, rfl⟩
theorem d0_186 : D1 code 186 (.aload 7) 2 188 := ⟨at_186, rfl⟩
theorem d0_188 : D1 code 188 (.iload 11) 2 190 := ⟨at_188, rfl⟩
theorem d0_190 : D1 code 190 (.aload 5) 2 192 := ⟨at_190, rfl⟩
theorem d0_192 : D1 code 192 (.invokestatic 29) 3 195 := ⟨at_192, rfl⟩
theorem d0_195 : DJ code 195 (.ifCond .ne) 5 198 200 := ⟨at_195, rfl, rfl⟩
theorem d0_198 : D1 code 198 (.iconst 0) 1 199 := ⟨at_198, rfl⟩
theorem d0_199 : D1 code 199 (.ireturn) 1 200 := ⟨at_199, rfl⟩
theorem d0_200 : D1 code 200 (.iload 11) 2 202 := ⟨at_200, rfl⟩
theorem d0_202 : D1 code 202 (.iload 10) 2 204 := ⟨at_202, rfl⟩
theorem d0_204 : D1 code 204 (.iadd) 1 205 := ⟨at_204, rfl⟩
theorem d0_205 : D1 code 205 (.istore 11) 2 207 := ⟨at_205, rfl⟩
theorem d0_207 : D1 code 207 (.aload 7) 2 209 := ⟨at_207, rfl⟩
theorem d0_209 : D1 code 209 (.iload 11) 2 211 := ⟨at_209, rfl⟩
theorem d0_211 : D1 code 211 (.invokevirtual 37) 3 214 := ⟨at_211, rfl⟩
theorem d0_214 : D1 code 214 (.bipush 34) 2 216 := ⟨at_214, rfl⟩
theorem d0_216 : DJ code 216 (.if_icmp .ne) 7 219 223 := ⟨at_216, rfl, rfl⟩
theorem d0_219 : D1 code 219 (.iconst 1) 1 220 := ⟨at_219, rfl⟩
theorem d0_220 : DJ code 220 .goto 4 223 224 := ⟨at_220, rfl, rfl⟩
theorem d0_223 : D1 code 223 (.iconst 0) 1 224 := ⟨at_223, rfl⟩
theorem d0_224 : D1 code 224 (.ireturn) 1 225 := ⟨at_224, rfl⟩
theorem d1_0 : D1 method_3_code 0 (.iload_n 0) 1 1 := ⟨by decide +kernel, rfl⟩
theorem d1_1 : D1 method_3_code 1 (.bipush 16) 2 3 := ⟨by decide +kernel, rfl⟩
theorem d1_3 : D1 method_3_code 3 (.iushr) 1 4 := ⟨by decide +kernel, rfl⟩
theorem d1_4 : D1 method_3_code 4 (.sipush 255) 3 7 := ⟨by decide +kernel, rfl⟩
theorem d1_7 : D1 method_3_code 7 (.iand) 1 8 := ⟨by decide +kernel, rfl⟩
theorem d1_8 : D1 method_3_code 8 (.iconst 3) 1 9 := ⟨by decide +kernel, rfl⟩
theorem d1_9 : D1 method_3_code 9 (.irem) 1 10 := ⟨by decide +kernel, rfl⟩
theorem d1_10 : D1 method_3_code 10 (.istore_n 1) 1 11 := ⟨by decide +kernel, rfl⟩
theorem d1_11 : D1 method_3_code 11 (.iload_n 0) 1 12 := ⟨by decide +kernel, rfl⟩
theorem d1_12 : D1 method_3_code 12 (.sipush 255) 3 15 := ⟨by decide +kernel, rfl⟩
theorem d1_15 : D1 method_3_code 15 (.iand) 1 16 := ⟨by decide +kernel, rfl⟩
theorem d1_16 : D1 method_3_code 16 (.i2c) 1 17 := ⟨by decide +kernel, rfl⟩
theorem d1_17 : D1 method_3_code 17 (.istore_n 2) 1 18 := ⟨by decide +kernel, rfl⟩
theorem d1_18 : D1 method_3_code 18 (.iload_n 0) 1 19 := ⟨by decide +kernel, rfl⟩
theorem d1_19 : D1 method_3_code 19 (.bipush 8) 2 21 := ⟨by decide +kernel, rfl⟩
theorem d1_21 : D1 method_3_code 21 (.iushr) 1 22 := ⟨by decide +kernel, rfl⟩
theorem d1_22 : D1 method_3_code 22 (.sipush 255) 3 25 := ⟨by decide +kernel, rfl⟩
theorem d1_25 : D1 method_3_code 25 (.iand) 1 26 := ⟨by decide +kernel, rfl⟩
theorem d1_26 : D1 method_3_code 26 (.i2c) 1 27 := ⟨by decide +kernel, rfl⟩
theorem d1_27 : D1 method_3_code 27 (.istore_n 3) 1 28 := ⟨by decide +kernel, rfl⟩
theorem d1_28 : D1 method_3_code 28 (.iload_n 1) 1 29 := ⟨by decide +kernel, rfl⟩
theorem d1_29 : DJ method_3_code 29 (.ifCond .ne) 6 32 35 := ⟨by decide +kernel, rfl, rfl⟩
theorem d1_32 : D1 method_3_code 32 (.ldc 41) 2 34 := ⟨by decide +kernel, rfl⟩
theorem d1_34 : D1 method_3_code 34 (.areturn) 1 35 := ⟨by decide +kernel, rfl⟩
theorem d1_35 : D1 method_3_code 35 (.iload_n 1) 1 36 := ⟨by decide +kernel, rfl⟩
theorem d1_36 : D1 method_3_code 36 (.iconst 1) 1 37 := ⟨by decide +kernel, rfl⟩
theorem d1_37 : DJ method_3_code 37 (.if_icmp .ne) 8 40 45 := ⟨by decide +kernel, rfl, rfl⟩
theorem d1_40 : D1 method_3_code 40 (.iload_n 2) 1 41 := ⟨by decide +kernel, rfl⟩
theorem d1_41 : D1 method_3_code 41 (.invokestatic 43) 3 44 := ⟨by decide +kernel, rfl⟩
theorem d1_44 : D1 method_3_code 44 (.areturn) 1 45 := ⟨by decide +kernel, rfl⟩
theorem d1_45 : D1 method_3_code 45 (.iconst 2) 1 46 := ⟨by decide +kernel, rfl⟩
theorem d1_46 : D1 method_3_code 46 (.newarray .char) 2 48 := ⟨by decide +kernel, rfl⟩
theorem d1_48 : D1 method_3_code 48 (.astore 4) 2 50 := ⟨by decide +kernel, rfl⟩
theorem d1_50 : D1 method_3_code 50 (.aload 4) 2 52 := ⟨by decide +kernel, rfl⟩
theorem d1_52 : D1 method_3_code 52 (.iconst 0) 1 53 := ⟨by decide +kernel, rfl⟩
theorem d1_53 : D1 method_3_code 53 (.iload_n 2) 1 54 := ⟨by decide +kernel, rfl⟩
theorem d1_54 : D1 method_3_code 54 (.castore) 1 55 := ⟨by decide +kernel, rfl⟩
theorem d1_55 : D1 method_3_code 55 (.aload 4) 2 57 := ⟨by decide +kernel, rfl⟩
theorem d1_57 : D1 method_3_code 57 (.iconst 1) 1 58 := ⟨by decide +kernel, rfl⟩
theorem d1_58 : D1 method_3_code 58 (.iload_n 3) 1 59 := ⟨by decide +kernel, rfl⟩
theorem d1_59 : D1 method_3_code 59 (.castore) 1 60 := ⟨by decide +kernel, rfl⟩
theorem d1_60 : D1 method_3_code 60 (.new 24) 3 63 := ⟨by decide +kernel, rfl⟩
theorem d1_63 : D1 method_3_code 63 (.dup) 1 64 := ⟨by decide +kernel, rfl⟩
theorem d1_64 : D1 method_3_code 64 (.aload 4) 2 66 := ⟨by decide +kernel, rfl⟩
theorem d1_66 : D1 method_3_code 66 (.invokespecial 47) 3 69 := ⟨by decide +kernel, rfl⟩
theorem d1_69 : D1 method_3_code 69 (.areturn) 1 70 := ⟨by decide +kernel, rfl⟩
theorem d2_0 : D1 prog_12_method_2_code 0 (.new 7) 3 3 := ⟨by decide +kernel, rfl⟩
theorem d2_3 : D1 prog_12_method_2_code 3 (.dup) 1 4 := ⟨by decide +kernel, rfl⟩
theorem d2_4 : D1 prog_12_method_2_code 4 (.new 9) 3 7 := ⟨by decide +kernel, rfl⟩
theorem d2_7 : D1 prog_12_method_2_code 7 (.dup) 1 8 := ⟨by decide +kernel, rfl⟩
theorem d2_8 : D1 prog_12_method_2_code 8 (.invokespecial 11) 3 11 := ⟨by decide +kernel, rfl⟩
theorem d2_11 : D1 prog_12_method_2_code 11 (.aload_n 0) 1 12 := ⟨by decide +kernel, rfl⟩
theorem d2_12 : D1 prog_12_method_2_code 12 (.invokevirtual 14) 3 15 := ⟨by decide +kernel, rfl⟩
theorem d2_15 : D1 prog_12_method_2_code 15 (.ldc 18) 2 17 := ⟨by decide +kernel, rfl⟩
theorem d2_17 : D1 prog_12_method_2_code 17 (.invokevirtual 14) 3 20 := ⟨by decide +kernel, rfl⟩
theorem d2_20 : D1 prog_12_method_2_code 20 (.aload_n 1) 1 21 := ⟨by decide +kernel, rfl⟩
theorem d2_21 : D1 prog_12_method_2_code 21 (.invokevirtual 14) 3 24 := ⟨by decide +kernel, rfl⟩
theorem d2_24 : D1 prog_12_method_2_code 24 (.ldc 20) 2 26 := ⟨by decide +kernel, rfl⟩
theorem d2_26 : D1 prog_12_method_2_code 26 (.invokevirtual 14) 3 29 := ⟨by decide +kernel, rfl⟩
theorem d2_29 : D1 prog_12_method_2_code 29 (.aload_n 2) 1 30 := ⟨by decide +kernel, rfl⟩
theorem d2_30 : D1 prog_12_method_2_code 30 (.invokevirtual 14) 3 33 := ⟨by decide +kernel, rfl⟩
theorem d2_33 : D1 prog_12_method_2_code 33 (.ldc 22) 2 35 := ⟨by decide +kernel, rfl⟩
theorem d2_35 : D1 prog_12_method_2_code 35 (.invokevirtual 14) 3 38 := ⟨by decide +kernel, rfl⟩
theorem d2_38 : D1 prog_12_method_2_code 38 (.invokevirtual 24) 3 41 := ⟨by decide +kernel, rfl⟩
theorem d2_41 : D1 prog_12_method_2_code 41 (.invokespecial 28) 3 44 := ⟨by decide +kernel, rfl⟩
theorem d2_44 : D1 prog_12_method_2_code 44 (.areturn) 1 45 := ⟨by decide +kernel, rfl⟩
theorem d3_0 : D1 jdk_67_method_1_code 0 (.aload_n 0) 1 1 := ⟨by decide +kernel, rfl⟩
theorem d3_1 : D1 jdk_67_method_1_code 1 (.bipush 16) 2 3 := ⟨by decide +kernel, rfl⟩
theorem d3_3 : D1 jdk_67_method_1_code 3 (.invokespecial 1) 3 6 := ⟨by decide +kernel, rfl⟩
theorem d3_6 : D1 jdk_67_method_1_code 6 (.return_) 1 7 := ⟨by decide +kernel, rfl⟩
theorem d4_0 : D1 jdk_68_method_2_code 0 (.aload_n 0) 1 1 := ⟨by decide +kernel, rfl⟩
theorem d4_1 : D1 jdk_68_method_2_code 1 (.invokespecial 3) 3 4 := ⟨by decide +kernel, rfl⟩
theorem d4_4 : D1 jdk_68_method_2_code 4 (.getstatic 18) 3 7 := ⟨by decide +kernel, rfl⟩
theorem d4_7 : DJ jdk_68_method_2_code 7 (.ifCond .eq) 18 10 25 := ⟨by decide +kernel, rfl, rfl⟩
theorem d4_10 : D1 jdk_68_method_2_code 10 (.aload_n 0) 1 11 := ⟨by decide +kernel, rfl⟩
theorem d4_11 : D1 jdk_68_method_2_code 11 (.iload_n 1) 1 12 := ⟨by decide +kernel, rfl⟩
theorem d4_12 : D1 jdk_68_method_2_code 12 (.newarray .byte) 2 14 := ⟨by decide +kernel, rfl⟩
theorem d4_14 : D1 jdk_68_method_2_code 14 (.putfield 15) 3 17 := ⟨by decide +kernel, rfl⟩
theorem d4_17 : D1 jdk_68_method_2_code 17 (.aload_n 0) 1 18 := ⟨by decide +kernel, rfl⟩
theorem d4_18 : D1 jdk_68_method_2_code 18 (.iconst 0) 1 19 := ⟨by decide +kernel, rfl⟩
theorem d4_19 : D1 jdk_68_method_2_code 19 (.putfield 22) 3 22 := ⟨by decide +kernel, rfl⟩
theorem d4_22 : DJ jdk_68_method_2_code 22 .goto 16 25 38 := ⟨by decide +kernel, rfl, rfl⟩
theorem d4_25 : D1 jdk_68_method_2_code 25 (.aload_n 0) 1 26 := ⟨by decide +kernel, rfl⟩
theorem d4_26 : D1 jdk_68_method_2_code 26 (.iload_n 1) 1 27 := ⟨by decide +kernel, rfl⟩
theorem d4_27 : D1 jdk_68_method_2_code 27 (.invokestatic 26) 3 30 := ⟨by decide +kernel, rfl⟩
theorem d4_30 : D1 jdk_68_method_2_code 30 (.putfield 15) 3 33 := ⟨by decide +kernel, rfl⟩
theorem d4_33 : D1 jdk_68_method_2_code 33 (.aload_n 0) 1 34 := ⟨by decide +kernel, rfl⟩
theorem d4_34 : D1 jdk_68_method_2_code 34 (.iconst 1) 1 35 := ⟨by decide +kernel, rfl⟩
theorem d4_35 : D1 jdk_68_method_2_code 35 (.putfield 22) 3 38 := ⟨by decide +kernel, rfl⟩
theorem d4_38 : D1 jdk_68_method_2_code 38 (.return_) 1 39 := ⟨by decide +kernel, rfl⟩
theorem d5_0 : D1 object_method_1_code 0 (.return_) 1 1 := ⟨by decide +kernel, rfl⟩
theorem d6_0 : D1 jdk_67_method_7_code 0 (.aload_n 0) 1 1 := ⟨by decide +kernel, rfl⟩
theorem d6_1 : D1 jdk_67_method_7_code 1 (.aload_n 1) 1 2 := ⟨by decide +kernel, rfl⟩
theorem d6_2 : D1 jdk_67_method_7_code 2 (.invokespecial 29) 3 5 := ⟨by decide +kernel, rfl⟩
theorem d6_5 : D1 jdk_67_method_7_code 5 (.pop) 1 6 := ⟨by decide +kernel, rfl⟩
theorem d6_6 : D1 jdk_67_method_7_code 6 (.aload_n 0) 1 7 := ⟨by decide +kernel, rfl⟩
theorem d6_7 : D1 jdk_67_method_7_code 7 (.areturn) 1 8 := ⟨by decide +kernel, rfl⟩
theorem d7_0 : D1 jdk_68_method_22_code 0 (.aload_n 1) 1 1 := ⟨by decide +kernel, rfl⟩
theorem d7_1 : DJ jdk_68_method_22_code 1 .ifnonnull 8 4 9 := ⟨by decide +kernel, rfl, rfl⟩
theorem d7_4 : D1 jdk_68_method_22_code 4 (.aload_n 0) 1 5 := ⟨by decide +kernel, rfl⟩
theorem d7_5 : D1 jdk_68_method_22_code 5 (.invokevirtual 204) 3 8 := ⟨by decide +kernel, rfl⟩
theorem d7_8 : D1 jdk_68_method_22_code 8 (.areturn) 1 9 := ⟨by decide +kernel, rfl⟩
theorem d7_9 : D1 jdk_68_method_22_code 9 (.aload_n 1) 1 10 := ⟨by decide +kernel, rfl⟩
theorem d7_10 : D1 jdk_68_method_22_code 10 (.invokevirtual 32) 3 13 := ⟨by decide +kernel, rfl⟩
theorem d7_13 : D1 jdk_68_method_22_code 13 (.istore_n 2) 1 14 := ⟨by decide +kernel, rfl⟩
theorem d7_14 : D1 jdk_68_method_22_code 14 (.aload_n 0) 1 15 := ⟨by decide +kernel, rfl⟩
theorem d7_15 : D1 jdk_68_method_22_code 15 (.aload_n 0) 1 16 := ⟨by decide +kernel, rfl⟩
theorem d7_16 : D1 jdk_68_method_22_code 16 (.getfield 79) 3 19 := ⟨by decide +kernel, rfl⟩
theorem d7_19 : D1 jdk_68_method_22_code 19 (.iload_n 2) 1 20 := ⟨by decide +kernel, rfl⟩
theorem d7_20 : D1 jdk_68_method_22_code 20 (.iadd) 1 21 := ⟨by decide +kernel, rfl⟩
theorem d7_21 : D1 jdk_68_method_22_code 21 (.invokevirtual 100) 3 24 := ⟨by decide +kernel, rfl⟩
theorem d7_24 : D1 jdk_68_method_22_code 24 (.aload_n 0) 1 25 := ⟨by decide +kernel, rfl⟩
theorem d7_25 : D1 jdk_68_method_22_code 25 (.aload_n 0) 1 26 := ⟨by decide +kernel, rfl⟩
theorem d7_26 : D1 jdk_68_method_22_code 26 (.getfield 79) 3 29 := ⟨by decide +kernel, rfl⟩
theorem d7_29 : D1 jdk_68_method_22_code 29 (.aload_n 1) 1 30 := ⟨by decide +kernel, rfl⟩
theorem d7_30 : D1 jdk_68_method_22_code 30 (.invokevirtual 208) 3 33 := ⟨by decide +kernel, rfl⟩
theorem d7_33 : D1 jdk_68_method_22_code 33 (.aload_n 0) 1 34 := ⟨by decide +kernel, rfl⟩
theorem d7_34 : D1 jdk_68_method_22_code 34 (.dup) 1 35 := ⟨by decide +kernel, rfl⟩
theorem d7_35 : D1 jdk_68_method_22_code 35 (.getfield 79) 3 38 := ⟨by decide +kernel, rfl⟩
theorem d7_38 : D1 jdk_68_method_22_code 38 (.iload_n 2) 1 39 := ⟨by decide +kernel, rfl⟩
theorem d7_39 : D1 jdk_68_method_22_code 39 (.iadd) 1 40 := ⟨by decide +kernel, rfl⟩
theorem d7_40 : D1 jdk_68_method_22_code 40 (.putfield 79) 3 43 := ⟨by decide +kernel, rfl⟩
theorem d7_43 : D1 jdk_68_method_22_code 43 (.aload_n 0) 1 44 := ⟨by decide +kernel, rfl⟩
theorem d7_44 : D1 jdk_68_method_22_code 44 (.areturn) 1 45 := ⟨by decide +kernel, rfl⟩
theorem d8_0 : D1 jdk_42_method_54_code 0 (.aload_n 0) 1 1 := ⟨by decide +kernel, rfl⟩
theorem d8_1 : D1 jdk_42_method_54_code 1 (.getfield 9) 3 4 := ⟨by decide +kernel, rfl⟩
theorem d8_4 : D1 jdk_42_method_54_code 4 (.arraylength) 1 5 := ⟨by decide +kernel, rfl⟩
theorem d8_5 : D1 jdk_42_method_54_code 5 (.aload_n 0) 1 6 := ⟨by decide +kernel, rfl⟩
theorem d8_6 : D1 jdk_42_method_54_code 6 (.invokevirtual 335) 3 9 := ⟨by decide +kernel, rfl⟩
theorem d8_9 : D1 jdk_42_method_54_code 9 (.ishr) 1 10 := ⟨by decide +kernel, rfl⟩
theorem d8_10 : D1 jdk_42_method_54_code 10 (.ireturn) 1 11 := ⟨by decide +kernel, rfl⟩
theorem d9_0 : D1 jdk_42_method_152_code 0 (.getstatic 38) 3 3 := ⟨by decide +kernel, rfl⟩
theorem d9_3 : DJ jdk_42_method_152_code 3 (.ifCond .eq) 10 6 13 := ⟨by decide +kernel, rfl, rfl⟩
theorem d9_6 : D1 jdk_42_method_152_code 6 (.aload_n 0) 1 7 := ⟨by decide +kernel, rfl⟩
theorem d9_7 : D1 jdk_42_method_152_code 7 (.getfield 15) 3 10 := ⟨by decide +kernel, rfl⟩
theorem d9_10 : DJ jdk_42_method_152_code 10 .goto 4 13 14 := ⟨by decide +kernel, rfl, rfl⟩
theorem d9_13 : D1 jdk_42_method_152_code 13 (.iconst 1) 1 14 := ⟨by decide +kernel, rfl⟩
theorem d9_14 : D1 jdk_42_method_152_code 14 (.ireturn) 1 15 := ⟨by decide +kernel, rfl⟩
theorem d10_0 : D1 jdk_68_method_9_code 0 (.aload_n 0) 1 1 := ⟨by decide +kernel, rfl⟩
theorem d10_1 : D1 jdk_68_method_9_code 1 (.getfield 15) 3 4 := ⟨by decide +kernel, rfl⟩
theorem d10_4 : D1 jdk_68_method_9_code 4 (.arraylength) 1 5 := ⟨by decide +kernel, rfl⟩
theorem d10_5 : D1 jdk_68_method_9_code 5 (.aload_n 0) 1 6 := ⟨by decide +kernel, rfl⟩
theorem d10_6 : D1 jdk_68_method_9_code 6 (.getfield 22) 3 9 := ⟨by decide +kernel, rfl⟩
theorem d10_9 : D1 jdk_68_method_9_code 9 (.ishr) 1 10 := ⟨by decide +kernel, rfl⟩
theorem d10_10 : D1 jdk_68_method_9_code 10 (.istore_n 2) 1 11 := ⟨by decide +kernel, rfl⟩
theorem d10_11 : D1 jdk_68_method_9_code 11 (.iload_n 1) 1 12 := ⟨by decide +kernel, rfl⟩
theorem d10_12 : D1 jdk_68_method_9_code 12 (.iload_n 2) 1 13 := ⟨by decide +kernel, rfl⟩
theorem d10_13 : D1 jdk_68_method_9_code 13 (.isub) 1 14 := ⟨by decide +kernel, rfl⟩
theorem d10_14 : DJ jdk_68_method_9_code 14 (.ifCond .le) 24 17 38 := ⟨by decide +kernel, rfl, rfl⟩
theorem d10_17 : D1 jdk_68_method_9_code 17 (.aload_n 0) 1 18 := ⟨by decide +kernel, rfl⟩
theorem d10_18 : D1 jdk_68_method_9_code 18 (.aload_n 0) 1 19 := ⟨by decide +kernel, rfl⟩
theorem d10_19 : D1 jdk_68_method_9_code 19 (.getfield 15) 3 22 := ⟨by decide +kernel, rfl⟩
theorem d10_22 : D1 jdk_68_method_9_code 22 (.aload_n 0) 1 23 := ⟨by decide +kernel, rfl⟩
theorem d10_23 : D1 jdk_68_method_9_code 23 (.iload_n 1) 1 24 := ⟨by decide +kernel, rfl⟩
theorem d10_24 : D1 jdk_68_method_9_code 24 (.invokevirtual 104) 3 27 := ⟨by decide +kernel, rfl⟩
theorem d10_27 : D1 jdk_68_method_9_code 27 (.aload_n 0) 1 28 := ⟨by decide +kernel, rfl⟩
theorem d10_28 : D1 jdk_68_method_9_code 28 (.getfield 22) 3 31 := ⟨by decide +kernel, rfl⟩
theorem d10_31 : D1 jdk_68_method_9_code 31 (.ishl) 1 32 := ⟨by decide +kernel, rfl⟩
theorem d10_32 : D1 jdk_68_method_9_code 32 (.invokestatic 108) 3 35 := ⟨by decide +kernel, rfl⟩
theorem d10_35 : D1 jdk_68_method_9_code 35 (.putfield 15) 3 38 := ⟨by decide +kernel, rfl⟩
theorem d10_38 : D1 jdk_68_method_9_code 38 (.return_) 1 39 := ⟨by decide +kernel, rfl⟩
theorem d11_0 : D1 jdk_68_method_73_code 0 (.aload_n 0) 1 1 := ⟨by decide +kernel, rfl⟩
theorem d11_1 : D1 jdk_68_method_73_code 1 (.aload_n 2) 1 2 := ⟨by decide +kernel, rfl⟩
theorem d11_2 : D1 jdk_68_method_73_code 2 (.invokevirtual 397) 3 5 := ⟨by decide +kernel, rfl⟩
theorem d11_5 : D1 jdk_68_method_73_code 5 (.aload_n 2) 1 6 := ⟨by decide +kernel, rfl⟩
theorem d11_6 : D1 jdk_68_method_73_code 6 (.aload_n 0) 1 7 := ⟨by decide +kernel, rfl⟩
theorem d11_7 : D1 jdk_68_method_73_code 7 (.getfield 15) 3 10 := ⟨by decide +kernel, rfl⟩
theorem d11_10 : D1 jdk_68_method_73_code 10 (.iload_n 1) 1 11 := ⟨by decide +kernel, rfl⟩
theorem d11_11 : D1 jdk_68_method_73_code 11 (.aload_n 0) 1 12 := ⟨by decide +kernel, rfl⟩
theorem d11_12 : D1 jdk_68_method_73_code 12 (.getfield 22) 3 15 := ⟨by decide +kernel, rfl⟩
theorem d11_15 : D1 jdk_68_method_73_code 15 (.invokevirtual 399) 3 18 := ⟨by decide +kernel, rfl⟩
theorem d11_18 : D1 jdk_68_method_73_code 18 (.return_) 1 19 := ⟨by decide +kernel, rfl⟩
theorem d12_0 : D1 jdk_68_method_71_code 0 (.getstatic 18) 3 3 := ⟨by decide +kernel, rfl⟩
theorem d12_3 : DJ jdk_68_method_71_code 3 (.ifCond .eq) 18 6 21 := ⟨by decide +kernel, rfl, rfl⟩
theorem d12_6 : D1 jdk_68_method_71_code 6 (.aload_n 0) 1 7 := ⟨by decide +kernel, rfl⟩
theorem d12_7 : D1 jdk_68_method_71_code 7 (.getfield 22) 3 10 := ⟨by decide +kernel, rfl⟩
theorem d12_10 : D1 jdk_68_method_71_code 10 (.aload_n 1) 1 11 := ⟨by decide +kernel, rfl⟩
theorem d12_11 : D1 jdk_68_method_71_code 11 (.invokevirtual 40) 3 14 := ⟨by decide +kernel, rfl⟩
theorem d12_14 : DJ jdk_68_method_71_code 14 (.if_icmp .eq) 7 17 21 := ⟨by decide +kernel, rfl, rfl⟩
theorem d12_17 : D1 jdk_68_method_71_code 17 (.aload_n 0) 1 18 := ⟨by decide +kernel, rfl⟩
theorem d12_18 : D1 jdk_68_method_71_code 18 (.invokevirtual 195) 3 21 := ⟨by decide +kernel, rfl⟩
theorem d12_21 : D1 jdk_68_method_71_code 21 (.return_) 1 22 := ⟨by decide +kernel, rfl⟩
theorem d13_0 : D1 jdk_42_method_147_code 0 (.aload_n 0) 1 1 := ⟨by decide +kernel, rfl⟩
theorem d13_1 : D1 jdk_42_method_147_code 1 (.invokevirtual 335) 3 4 := ⟨by decide +kernel, rfl⟩
theorem d13_4 : D1 jdk_42_method_147_code 4 (.iload_n 3) 1 5 := ⟨by decide +kernel, rfl⟩
theorem d13_5 : DJ jdk_42_method_147_code 5 (.if_icmp .ne) 23 8 28 := ⟨by decide +kernel, rfl, rfl⟩
theorem d13_8 : D1 jdk_42_method_147_code 8 (.aload_n 0) 1 9 := ⟨by decide +kernel, rfl⟩
theorem d13_9 : D1 jdk_42_method_147_code 9 (.getfield 9) 3 12 := ⟨by decide +kernel, rfl⟩
theorem d13_12 : D1 jdk_42_method_147_code 12 (.iconst 0) 1 13 := ⟨by decide +kernel, rfl⟩
theorem d13_13 : D1 jdk_42_method_147_code 13 (.aload_n 1) 1 14 := ⟨by decide +kernel, rfl⟩
theorem d13_14 : D1 jdk_42_method_147_code 14 (.iload_n 2) 1 15 := ⟨by decide +kernel, rfl⟩
theorem d13_15 : D1 jdk_42_method_147_code 15 (.iload_n 3) 1 16 := ⟨by decide +kernel, rfl⟩
theorem d13_16 : D1 jdk_42_method_147_code 16 (.ishl) 1 17 := ⟨by decide +kernel, rfl⟩
theorem d13_17 : D1 jdk_42_method_147_code 17 (.aload_n 0) 1 18 := ⟨by decide +kernel, rfl⟩
theorem d13_18 : D1 jdk_42_method_147_code 18 (.getfield 9) 3 21 := ⟨by decide +kernel, rfl⟩
theorem d13_21 : D1 jdk_42_method_147_code 21 (.arraylength) 1 22 := ⟨by decide +kernel, rfl⟩
theorem d13_22 : D1 jdk_42_method_147_code 22 (.invokestatic 212) 3 25 := ⟨by decide +kernel, rfl⟩
theorem d13_25 : DJ jdk_42_method_147_code 25 .goto 18 28 43 := ⟨by decide +kernel, rfl, rfl⟩
theorem d13_28 : D1 jdk_42_method_147_code 28 (.aload_n 0) 1 29 := ⟨by decide +kernel, rfl⟩
theorem d13_29 : D1 jdk_42_method_147_code 29 (.getfield 9) 3 32 := ⟨by decide +kernel, rfl⟩
theorem d13_32 : D1 jdk_42_method_147_code 32 (.iconst 0) 1 33 := ⟨by decide +kernel, rfl⟩
theorem d13_33 : D1 jdk_42_method_147_code 33 (.aload_n 1) 1 34 := ⟨by decide +kernel, rfl⟩
theorem d13_34 : D1 jdk_42_method_147_code 34 (.iload_n 2) 1 35 := ⟨by decide +kernel, rfl⟩
theorem d13_35 : D1 jdk_42_method_147_code 35 (.aload_n 0) 1 36 := ⟨by decide +kernel, rfl⟩
theorem d13_36 : D1 jdk_42_method_147_code 36 (.getfield 9) 3 39 := ⟨by decide +kernel, rfl⟩
theorem d13_39 : D1 jdk_42_method_147_code 39 (.arraylength) 1 40 := ⟨by decide +kernel, rfl⟩
theorem d13_40 : D1 jdk_42_method_147_code 40 (.invokestatic 106) 3 43 := ⟨by decide +kernel, rfl⟩
theorem d13_43 : D1 jdk_42_method_147_code 43 (.return_) 1 44 := ⟨by decide +kernel, rfl⟩
theorem d14_0 : D1 jdk_68_method_10_code 0 (.aload_n 0) 1 1 := ⟨by decide +kernel, rfl⟩
theorem d14_1 : D1 jdk_68_method_10_code 1 (.getfield 15) 3 4 := ⟨by decide +kernel, rfl⟩
theorem d14_4 : D1 jdk_68_method_10_code 4 (.arraylength) 1 5 := ⟨by decide +kernel, rfl⟩
theorem d14_5 : D1 jdk_68_method_10_code 5 (.istore_n 2) 1 6 := ⟨by decide +kernel, rfl⟩
theorem d14_6 : D1 jdk_68_method_10_code 6 (.iload_n 1) 1 7 := ⟨by decide +kernel, rfl⟩
theorem d14_7 : D1 jdk_68_method_10_code 7 (.aload_n 0) 1 8 := ⟨by decide +kernel, rfl⟩
theorem d14_8 : D1 jdk_68_method_10_code 8 (.getfield 22) 3 11 := ⟨by decide +kernel, rfl⟩
theorem d14_11 : D1 jdk_68_method_10_code 11 (.ishl) 1 12 := ⟨by decide +kernel, rfl⟩
theorem d14_12 : D1 jdk_68_method_10_code 12 (.istore_n 3) 1 13 := ⟨by decide +kernel, rfl⟩
theorem d14_13 : D1 jdk_68_method_10_code 13 (.iload_n 3) 1 14 := ⟨by decide +kernel, rfl⟩
theorem d14_14 : D1 jdk_68_method_10_code 14 (.iload_n 2) 1 15 := ⟨by decide +kernel, rfl⟩
theorem d14_15 : D1 jdk_68_method_10_code 15 (.isub) 1 16 := ⟨by decide +kernel, rfl⟩
theorem d14_16 : D1 jdk_68_method_10_code 16 (.istore 4) 2 18 := ⟨by decide +kernel, rfl⟩
theorem d14_18 : D1 jdk_68_method_10_code 18 (.iload_n 2) 1 19 := ⟨by decide +kernel, rfl⟩
theorem d14_19 : D1 jdk_68_method_10_code 19 (.iload 4) 2 21 := ⟨by decide +kernel, rfl⟩
theorem d14_21 : D1 jdk_68_method_10_code 21 (.iload_n 2) 1 22 := ⟨by decide +kernel, rfl⟩
theorem d14_22 : D1 jdk_68_method_10_code 22 (.iconst 2) 1 23 := ⟨by decide +kernel, rfl⟩
theorem d14_23 : D1 jdk_68_method_10_code 23 (.aload_n 0) 1 24 := ⟨by decide +kernel, rfl⟩
theorem d14_24 : D1 jdk_68_method_10_code 24 (.getfield 22) 3 27 := ⟨by decide +kernel, rfl⟩
theorem d14_27 : D1 jdk_68_method_10_code 27 (.ishl) 1 28 := ⟨by decide +kernel, rfl⟩
theorem d14_28 : D1 jdk_68_method_10_code 28 (.iadd) 1 29 := ⟨by decide +kernel, rfl⟩
theorem d14_29 : D1 jdk_68_method_10_code 29 (.invokestatic 114) 3 32 := ⟨by decide +kernel, rfl⟩
theorem d14_32 : D1 jdk_68_method_10_code 32 (.istore 5) 2 34 := ⟨by decide +kernel, rfl⟩
theorem d14_34 : D1 jdk_68_method_10_code 34 (.iload 5) 2 36 := ⟨by decide +kernel, rfl⟩
theorem d14_36 : D1 jdk_68_method_10_code 36 (.ldc 39) 2 38 := ⟨by decide +kernel, rfl⟩
theorem d14_38 : DJ jdk_68_method_10_code 38 (.if_icmp .ne) 13 41 51 := ⟨by decide +kernel, rfl, rfl⟩
theorem d14_41 : D1 jdk_68_method_10_code 41 (.new 120) 3 44 := ⟨by decide +kernel, rfl⟩
theorem d14_44 : D1 jdk_68_method_10_code 44 (.dup) 1 45 := ⟨by decide +kernel, rfl⟩
theorem d14_45 : D1 jdk_68_method_10_code 45 (.ldc 122) 2 47 := ⟨by decide +kernel, rfl⟩
theorem d14_47 : D1 jdk_68_method_10_code 47 (.invokespecial 124) 3 50 := ⟨by decide +kernel, rfl⟩
theorem d14_50 : D1 jdk_68_method_10_code 50 (.athrow) 1 51 := ⟨by decide +kernel, rfl⟩
theorem d14_51 : D1 jdk_68_method_10_code 51 (.iload 5) 2 53 := ⟨by decide +kernel, rfl⟩
theorem d14_53 : D1 jdk_68_method_10_code 53 (.aload_n 0) 1 54 := ⟨by decide +kernel, rfl⟩
theorem d14_54 : D1 jdk_68_method_10_code 54 (.getfield 22) 3 57 := ⟨by decide +kernel, rfl⟩
theorem d14_57 : D1 jdk_68_method_10_code 57 (.ishr) 1 58 := ⟨by decide +kernel, rfl⟩
theorem d14_58 : D1 jdk_68_method_10_code 58 (.ireturn) 1 59 := ⟨by decide +kernel, rfl⟩
theorem d15_0 : D1 jdk_48_method_27_code 0 (.iload_n 0) 1 1 := ⟨by decide +kernel, rfl⟩
theorem d15_1 : D1 jdk_48_method_27_code 1 (.iload_n 1) 1 2 := ⟨by decide +kernel, rfl⟩
theorem d15_2 : D1 jdk_48_method_27_code 2 (.iload_n 2) 1 3 := ⟨by decide +kernel, rfl⟩
theorem d15_3 : D1 jdk_48_method_27_code 3 (.invokestatic 194) 3 6 := ⟨by decide +kernel, rfl⟩
theorem d15_6 : D1 jdk_48_method_27_code 6 (.iadd) 1 7 := ⟨by decide +kernel, rfl⟩
theorem d15_7 : D1 jdk_48_method_27_code 7 (.istore_n 3) 1 8 := ⟨by decide +kernel, rfl⟩
theorem d15_8 : D1 jdk_48_method_27_code 8 (.iconst 0) 1 9 := ⟨by decide +kernel, rfl⟩
theorem d15_9 : D1 jdk_48_method_27_code 9 (.iload_n 3) 1 10 := ⟨by decide +kernel, rfl⟩
theorem d15_10 : DJ jdk_48_method_27_code 10 (.if_icmp .ge) 11 13 21 := ⟨by decide +kernel, rfl, rfl⟩
theorem d15_13 : D1 jdk_48_method_27_code 13 (.iload_n 3) 1 14 := ⟨by decide +kernel, rfl⟩
theorem d15_14 : D1 jdk_48_method_27_code 14 (.ldc 200) 2 16 := ⟨by decide +kernel, rfl⟩
theorem d15_16 : DJ jdk_48_method_27_code 16 (.if_icmp .gt) 5 19 21 := ⟨by decide +kernel, rfl, rfl⟩
theorem d15_19 : D1 jdk_48_method_27_code 19 (.iload_n 3) 1 20 := ⟨by decide +kernel, rfl⟩
theorem d15_20 : D1 jdk_48_method_27_code 20 (.ireturn) 1 21 := ⟨by decide +kernel, rfl⟩
theorem d15_21 : D1 jdk_48_method_27_code 21 (.iload_n 0) 1 22 := ⟨by decide +kernel, rfl⟩
theorem d15_22 : D1 jdk_48_method_27_code 22 (.iload_n 1) 1 23 := ⟨by decide +kernel, rfl⟩
theorem d15_23 : D1 jdk_48_method_27_code 23 (.invokestatic 201) 3 26 := ⟨by decide +kernel, rfl⟩
theorem d15_26 : D1 jdk_48_method_27_code 26 (.ireturn) 1 27 := ⟨by decide +kernel, rfl⟩
theorem d16_0 : D1 jdk_29_method_65_code 0 (.iload_n 0) 1 1 := ⟨by decide +kernel, rfl⟩
theorem d16_1 : D1 jdk_29_method_65_code 1 (.iload_n 1) 1 2 := ⟨by decide +kernel, rfl⟩
theorem d16_2 : DJ jdk_29_method_65_code 2 (.if_icmp .lt) 7 5 9 := ⟨by decide +kernel, rfl, rfl⟩
theorem d16_5 : D1 jdk_29_method_65_code 5 (.iload_n 0) 1 6 := ⟨by decide +kernel, rfl⟩
theorem d16_6 : DJ jdk_29_method_65_code 6 .goto 4 9 10 := ⟨by decide +kernel, rfl, rfl⟩
theorem d16_9 : D1 jdk_29_method_65_code 9 (.iload_n 1) 1 10 := ⟨by decide +kernel, rfl⟩
theorem d16_10 : D1 jdk_29_method_65_code 10 (.ireturn) 1 11 := ⟨by decide +kernel, rfl⟩
theorem d17_0 : D1 jdk_65_method_121_code 0 (.iload_n 1) 1 1 := ⟨by decide +kernel, rfl⟩
theorem d17_1 : D1 jdk_65_method_121_code 1 (.aload_n 0) 1 2 := ⟨by decide +kernel, rfl⟩
theorem d17_2 : D1 jdk_65_method_121_code 2 (.arraylength) 1 3 := ⟨by decide +kernel, rfl⟩
theorem d17_3 : DJ jdk_65_method_121_code 3 (.if_icmp .ne) 11 6 14 := ⟨by decide +kernel, rfl, rfl⟩
theorem d17_6 : D1 jdk_65_method_121_code 6 (.aload_n 0) 1 7 := ⟨by decide +kernel, rfl⟩
theorem d17_7 : D1 jdk_65_method_121_code 7 (.invokevirtual 310) 3 10 := ⟨by decide +kernel, rfl⟩
theorem d17_10 : D1 jdk_65_method_121_code 10 (.checkcast 311) 3 13 := ⟨by decide +kernel, rfl⟩
theorem d17_13 : D1 jdk_65_method_121_code 13 (.areturn) 1 14 := ⟨by decide +kernel, rfl⟩
theorem d17_14 : D1 jdk_65_method_121_code 14 (.iload_n 1) 1 15 := ⟨by decide +kernel, rfl⟩
theorem d17_15 : D1 jdk_65_method_121_code 15 (.newarray .byte) 2 17 := ⟨by decide +kernel, rfl⟩
theorem d17_17 : D1 jdk_65_method_121_code 17 (.astore_n 2) 1 18 := ⟨by decide +kernel, rfl⟩
theorem d17_18 : D1 jdk_65_method_121_code 18 (.aload_n 0) 1 19 := ⟨by decide +kernel, rfl⟩
theorem d17_19 : D1 jdk_65_method_121_code 19 (.iconst 0) 1 20 := ⟨by decide +kernel, rfl⟩
theorem d17_20 : D1 jdk_65_method_121_code 20 (.aload_n 2) 1 21 := ⟨by decide +kernel, rfl⟩
theorem d17_21 : D1 jdk_65_method_121_code 21 (.iconst 0) 1 22 := ⟨by decide +kernel, rfl⟩
theorem d17_22 : D1 jdk_65_method_121_code 22 (.aload_n 0) 1 23 := ⟨by decide +kernel, rfl⟩
theorem d17_23 : D1 jdk_65_method_121_code 23 (.arraylength) 1 24 := ⟨by decide +kernel, rfl⟩
theorem d17_24 : D1 jdk_65_method_121_code 24 (.iload_n 1) 1 25 := ⟨by decide +kernel, rfl⟩
theorem d17_25 : D1 jdk_65_method_121_code 25 (.invokestatic 304) 3 28 := ⟨by decide +kernel, rfl⟩
theorem d17_28 : D1 jdk_65_method_121_code 28 (.invokestatic 150) 3 31 := ⟨by decide +kernel, rfl⟩
theorem d17_31 : D1 jdk_65_method_121_code 31 (.aload_n 2) 1 32 := ⟨by decide +kernel, rfl⟩
theorem d17_32 : D1 jdk_65_method_121_code 32 (.areturn) 1 33 := ⟨by decide +kernel, rfl⟩
theorem d18_0 : D1 jdk_29_method_69_code 0 (.iload_n 0) 1 1 := ⟨by decide +kernel, rfl⟩
theorem d18_1 : D1 jdk_29_method_69_code 1 (.iload_n 1) 1 2 := ⟨by decide +kernel, rfl⟩
theorem d18_2 : DJ jdk_29_method_69_code 2 (.if_icmp .gt) 7 5 9 := ⟨by decide +kernel, rfl, rfl⟩
theorem d18_5 : D1 jdk_29_method_69_code 5 (.iload_n 0) 1 6 := ⟨by decide +kernel, rfl⟩
theorem d18_6 : DJ jdk_29_method_69_code 6 .goto 4 9 10 := ⟨by decide +kernel, rfl, rfl⟩
theorem d18_9 : D1 jdk_29_method_69_code 9 (.iload_n 1) 1 10 := ⟨by decide +kernel, rfl⟩
theorem d18_10 : D1 jdk_29_method_69_code 10 (.ireturn) 1 11 := ⟨by decide +kernel, rfl⟩
theorem d19_0 : D1 jdk_67_method_42_code 0 (.new 18) 3 3 := ⟨by decide +kernel, rfl⟩
theorem d19_3 : D1 jdk_67_method_42_code 3 (.dup) 1 4 := ⟨by decide +kernel, rfl⟩
theorem d19_4 : D1 jdk_67_method_42_code 4 (.aload_n 0) 1 5 := ⟨by decide +kernel, rfl⟩
theorem d19_5 : D1 jdk_67_method_42_code 5 (.invokespecial 137) 3 8 := ⟨by decide +kernel, rfl⟩
theorem d19_8 : D1 jdk_67_method_42_code 8 (.areturn) 1 9 := ⟨by decide +kernel, rfl⟩
theorem d20_0 : D1 jdk_42_method_53_code 0 (.aload_n 0) 1 1 := ⟨by decide +kernel, rfl⟩
theorem d20_1 : D1 jdk_42_method_53_code 1 (.aload_n 1) 1 2 := ⟨by decide +kernel, rfl⟩
theorem d20_2 : D1 jdk_42_method_53_code 2 (.aconst_null) 1 3 := ⟨by decide +kernel, rfl⟩
theorem d20_3 : D1 jdk_42_method_53_code 3 (.invokespecial 489) 3 6 := ⟨by decide +kernel, rfl⟩
theorem d20_6 : D1 jdk_42_method_53_code 6 (.return_) 1 7 := ⟨by decide +kernel, rfl⟩
theorem d21_0 : D1 jdk_42_method_150_code 0 (.aload_n 0) 1 1 := ⟨by decide +kernel, rfl⟩
theorem d21_1 : D1 jdk_42_method_150_code 1 (.invokespecial 1) 3 4 := ⟨by decide +kernel, rfl⟩
theorem d21_4 : D1 jdk_42_method_150_code 4 (.aload_n 1) 1 5 := ⟨by decide +kernel, rfl⟩
theorem d21_5 : D1 jdk_42_method_150_code 5 (.invokevirtual 552) 3 8 := ⟨by decide +kernel, rfl⟩
theorem d21_8 : D1 jdk_42_method_150_code 8 (.astore_n 3) 1 9 := ⟨by decide +kernel, rfl⟩
theorem d21_9 : D1 jdk_42_method_150_code 9 (.aload_n 1) 1 10 := ⟨by decide +kernel, rfl⟩
theorem d21_10 : D1 jdk_42_method_150_code 10 (.invokevirtual 549) 3 13 := ⟨by decide +kernel, rfl⟩
theorem d21_13 : D1 jdk_42_method_150_code 13 (.istore 4) 2 15 := ⟨by decide +kernel, rfl⟩
theorem d21_15 : D1 jdk_42_method_150_code 15 (.aload_n 1) 1 16 := ⟨by decide +kernel, rfl⟩
theorem d21_16 : D1 jdk_42_method_150_code 16 (.invokevirtual 1047) 3 19 := ⟨by decide +kernel, rfl⟩
theorem d21_19 : DJ jdk_42_method_150_code 19 (.ifCond .eq) 22 22 41 := ⟨by decide +kernel, rfl, rfl⟩
theorem d21_22 : D1 jdk_42_method_150_code 22 (.aload_n 0) 1 23 := ⟨by decide +kernel, rfl⟩
theorem d21_23 : D1 jdk_42_method_150_code 23 (.iconst 0) 1 24 := ⟨by decide +kernel, rfl⟩
theorem d21_24 : D1 jdk_42_method_150_code 24 (.putfield 15) 3 27 := ⟨by decide +kernel, rfl⟩
theorem d21_27 : D1 jdk_42_method_150_code 27 (.aload_n 0) 1 28 := ⟨by decide +kernel, rfl⟩
theorem d21_28 : D1 jdk_42_method_150_code 28 (.aload_n 3) 1 29 := ⟨by decide +kernel, rfl⟩
theorem d21_29 : D1 jdk_42_method_150_code 29 (.iconst 0) 1 30 := ⟨by decide +kernel, rfl⟩
theorem d21_30 : D1 jdk_42_method_150_code 30 (.iload 4) 2 32 := ⟨by decide +kernel, rfl⟩
theorem d21_32 : D1 jdk_42_method_150_code 32 (.invokestatic 54) 3 35 := ⟨by decide +kernel, rfl⟩
theorem d21_35 : D1 jdk_42_method_150_code 35 (.putfield 9) 3 38 := ⟨by decide +kernel, rfl⟩
theorem d21_38 : DJ jdk_42_method_150_code 38 .goto 59 41 97 := ⟨by decide +kernel, rfl, rfl⟩
theorem d21_41 : D1 jdk_42_method_150_code 41 (.getstatic 38) 3 44 := ⟨by decide +kernel, rfl⟩
theorem d21_44 : DJ jdk_42_method_150_code 44 (.ifCond .eq) 35 47 79 := ⟨by decide +kernel, rfl, rfl⟩
theorem d21_47 : D1 jdk_42_method_150_code 47 (.aload_n 1) 1 48 := ⟨by decide +kernel, rfl⟩
theorem d21_48 : D1 jdk_42_method_150_code 48 (.getfield 1048) 3 51 := ⟨by decide +kernel, rfl⟩
theorem d21_51 : DJ jdk_42_method_150_code 51 (.ifCond .eq) 28 54 79 := ⟨by decide +kernel, rfl, rfl⟩
theorem d21_54 : D1 jdk_42_method_150_code 54 (.aload_n 0) 1 55 := ⟨by decide +kernel, rfl⟩
theorem d21_55 : D1 jdk_42_method_150_code 55 (.aload_n 3) 1 56 := ⟨by decide +kernel, rfl⟩
theorem d21_56 : D1 jdk_42_method_150_code 56 (.iconst 0) 1 57 := ⟨by decide +kernel, rfl⟩
theorem d21_57 : D1 jdk_42_method_150_code 57 (.iload 4) 2 59 := ⟨by decide +kernel, rfl⟩
theorem d21_59 : D1 jdk_42_method_150_code 59 (.invokestatic 1051) 3 62 := ⟨by decide +kernel, rfl⟩
theorem d21_62 : D1 jdk_42_method_150_code 62 (.putfield 9) 3 65 := ⟨by decide +kernel, rfl⟩
theorem d21_65 : D1 jdk_42_method_150_code 65 (.aload_n 0) 1 66 := ⟨by decide +kernel, rfl⟩
theorem d21_66 : D1 jdk_42_method_150_code 66 (.aload_n 0) 1 67 := ⟨by decide +kernel, rfl⟩
theorem d21_67 : D1 jdk_42_method_150_code 67 (.getfield 9) 3 70 := ⟨by decide +kernel, rfl⟩
theorem d21_70 : D1 jdk_42_method_150_code 70 (.iload 4) 2 72 := ⟨by decide +kernel, rfl⟩
theorem d21_72 : D1 jdk_42_method_150_code 72 (.invokestatic 47) 3 75 := ⟨by decide +kernel, rfl⟩
theorem d21_75 : D1 jdk_42_method_150_code 75 (.putfield 15) 3 78 := ⟨by decide +kernel, rfl⟩
theorem d21_78 : D1 jdk_42_method_150_code 78 (.return_) 1 79 := ⟨by decide +kernel, rfl⟩
theorem d21_79 : D1 jdk_42_method_150_code 79 (.aload_n 0) 1 80 := ⟨by decide +kernel, rfl⟩
theorem d21_80 : D1 jdk_42_method_150_code 80 (.iconst 1) 1 81 := ⟨by decide +kernel, rfl⟩
theorem d21_81 : D1 jdk_42_method_150_code 81 (.putfield 15) 3 84 := ⟨by decide +kernel, rfl⟩
theorem d21_84 : D1 jdk_42_method_150_code 84 (.aload_n 0) 1 85 := ⟨by decide +kernel, rfl⟩
theorem d21_85 : D1 jdk_42_method_150_code 85 (.aload_n 3) 1 86 := ⟨by decide +kernel, rfl⟩
theorem d21_86 : D1 jdk_42_method_150_code 86 (.iconst 0) 1 87 := ⟨by decide +kernel, rfl⟩
theorem d21_87 : D1 jdk_42_method_150_code 87 (.iload 4) 2 89 := ⟨by decide +kernel, rfl⟩
theorem d21_89 : D1 jdk_42_method_150_code 89 (.iconst 1) 1 90 := ⟨by decide +kernel, rfl⟩
theorem d21_90 : D1 jdk_42_method_150_code 90 (.ishl) 1 91 := ⟨by decide +kernel, rfl⟩
theorem d21_91 : D1 jdk_42_method_150_code 91 (.invokestatic 54) 3 94 := ⟨by decide +kernel, rfl⟩
theorem d21_94 : D1 jdk_42_method_150_code 94 (.putfield 9) 3 97 := ⟨by decide +kernel, rfl⟩
theorem d21_97 : D1 jdk_42_method_150_code 97 (.return_) 1 98 := ⟨by decide +kernel, rfl⟩
theorem d22_0 : D1 jdk_68_method_64_code 0 (.aload_n 0) 1 1 := ⟨by decide +kernel, rfl⟩
theorem d22_1 : D1 jdk_68_method_64_code 1 (.getfield 15) 3 4 := ⟨by decide +kernel, rfl⟩
theorem d22_4 : D1 jdk_68_method_64_code 4 (.areturn) 1 5 := ⟨by decide +kernel, rfl⟩
theorem d23_0 : D1 jdk_67_method_93_code 0 (.aload_n 0) 1 1 := ⟨by decide +kernel, rfl⟩
theorem d23_1 : D1 jdk_67_method_93_code 1 (.invokespecial 343) 3 4 := ⟨by decide +kernel, rfl⟩
theorem d23_4 : D1 jdk_67_method_93_code 4 (.ireturn) 1 5 := ⟨by decide +kernel, rfl⟩
theorem d24_0 : D1 jdk_68_method_6_code 0 (.aload_n 0) 1 1 := ⟨by decide +kernel, rfl⟩
theorem d24_1 : D1 jdk_68_method_6_code 1 (.getfield 79) 3 4 := ⟨by decide +kernel, rfl⟩
theorem d24_4 : D1 jdk_68_method_6_code 4 (.ireturn) 1 5 := ⟨by decide +kernel, rfl⟩
theorem d25_0 : D1 jdk_68_method_68_code 0 (.getstatic 18) 3 3 := ⟨by decide +kernel, rfl⟩
theorem d25_3 : DJ jdk_68_method_68_code 3 (.ifCond .eq) 14 6 17 := ⟨by decide +kernel, rfl, rfl⟩
theorem d25_6 : D1 jdk_68_method_68_code 6 (.aload_n 0) 1 7 := ⟨by decide +kernel, rfl⟩
theorem d25_7 : D1 jdk_68_method_68_code 7 (.getfield 22) 3 10 := ⟨by decide +kernel, rfl⟩
theorem d25_10 : DJ jdk_68_method_68_code 10 (.ifCond .ne) 7 13 17 := ⟨by decide +kernel, rfl, rfl⟩
theorem d25_13 : D1 jdk_68_method_68_code 13 (.iconst 1) 1 14 := ⟨by decide +kernel, rfl⟩
theorem d25_14 : DJ jdk_68_method_68_code 14 .goto 4 17 18 := ⟨by decide +kernel, rfl, rfl⟩
theorem d25_17 : D1 jdk_68_method_68_code 17 (.iconst 0) 1 18 := ⟨by decide +kernel, rfl⟩
theorem d25_18 : D1 jdk_68_method_68_code 18 (.ireturn) 1 19 := ⟨by decide +kernel, rfl⟩
theorem d26_0 : D1 jdk_65_method_132_code 0 (.iload_n 1) 1 1 := ⟨by decide +kernel, rfl⟩
theorem d26_1 : DJ jdk_65_method_132_code 1 (.ifCond .ne) 9 4 10 := ⟨by decide +kernel, rfl, rfl⟩
theorem d26_4 : D1 jdk_65_method_132_code 4 (.iload_n 2) 1 5 := ⟨by decide +kernel, rfl⟩
theorem d26_5 : D1 jdk_65_method_132_code 5 (.aload_n 0) 1 6 := ⟨by decide +kernel, rfl⟩
theorem d26_6 : D1 jdk_65_method_132_code 6 (.arraylength) 1 7 := ⟨by decide +kernel, rfl⟩
theorem d26_7 : DJ jdk_65_method_132_code 7 (.if_icmp .eq) 10 10 17 := ⟨by decide +kernel, rfl, rfl⟩
theorem d26_10 : D1 jdk_65_method_132_code 10 (.aload_n 0) 1 11 := ⟨by decide +kernel, rfl⟩
theorem d26_11 : D1 jdk_65_method_132_code 11 (.iload_n 1) 1 12 := ⟨by decide +kernel, rfl⟩
theorem d26_12 : D1 jdk_65_method_132_code 12 (.iload_n 2) 1 13 := ⟨by decide +kernel, rfl⟩
theorem d26_13 : D1 jdk_65_method_132_code 13 (.invokestatic 339) 3 16 := ⟨by decide +kernel, rfl⟩
theorem d26_16 : D1 jdk_65_method_132_code 16 (.areturn) 1 17 := ⟨by decide +kernel, rfl⟩
theorem d26_17 : D1 jdk_65_method_132_code 17 (.aload_n 0) 1 18 := ⟨by decide +kernel, rfl⟩
theorem d26_18 : D1 jdk_65_method_132_code 18 (.invokevirtual 310) 3 21 := ⟨by decide +kernel, rfl⟩
theorem d26_21 : D1 jdk_65_method_132_code 21 (.checkcast 311) 3 24 := ⟨by decide +kernel, rfl⟩
theorem d26_24 : D1 jdk_65_method_132_code 24 (.areturn) 1 25 := ⟨by decide +kernel, rfl⟩
theorem d27_0 : D1 jdk_65_method_133_code 0 (.iload_n 1) 1 1 := ⟨by decide +kernel, rfl⟩
theorem d27_1 : D1 jdk_65_method_133_code 1 (.iload_n 2) 1 2 := ⟨by decide +kernel, rfl⟩
theorem d27_2 : D1 jdk_65_method_133_code 2 (.invokestatic 343) 3 5 := ⟨by decide +kernel, rfl⟩
theorem d27_5 : D1 jdk_65_method_133_code 5 (.iload_n 2) 1 6 := ⟨by decide +kernel, rfl⟩
theorem d27_6 : D1 jdk_65_method_133_code 6 (.iload_n 1) 1 7 := ⟨by decide +kernel, rfl⟩
theorem d27_7 : D1 jdk_65_method_133_code 7 (.isub) 1 8 := ⟨by decide +kernel, rfl⟩
theorem d27_8 : D1 jdk_65_method_133_code 8 (.istore_n 3) 1 9 := ⟨by decide +kernel, rfl⟩
theorem d27_9 : D1 jdk_65_method_133_code 9 (.iload_n 3) 1 10 := ⟨by decide +kernel, rfl⟩
theorem d27_10 : D1 jdk_65_method_133_code 10 (.newarray .byte) 2 12 := ⟨by decide +kernel, rfl⟩
theorem d27_12 : D1 jdk_65_method_133_code 12 (.astore 4) 2 14 := ⟨by decide +kernel, rfl⟩
theorem d27_14 : D1 jdk_65_method_133_code 14 (.aload_n 0) 1 15 := ⟨by decide +kernel, rfl⟩
theorem d27_15 : D1 jdk_65_method_133_code 15 (.iload_n 1) 1 16 := ⟨by decide +kernel, rfl⟩
theorem d27_16 : D1 jdk_65_method_133_code 16 (.aload 4) 2 18 := ⟨by decide +kernel, rfl⟩
theorem d27_18 : D1 jdk_65_method_133_code 18 (.iconst 0) 1 19 := ⟨by decide +kernel, rfl⟩
theorem d27_19 : D1 jdk_65_method_133_code 19 (.aload_n 0) 1 20 := ⟨by decide +kernel, rfl⟩
theorem d27_20 : D1 jdk_65_method_133_code 20 (.arraylength) 1 21 := ⟨by decide +kernel, rfl⟩
theorem d27_21 : D1 jdk_65_method_133_code 21 (.iload_n 1) 1 22 := ⟨by decide +kernel, rfl⟩
theorem d27_22 : D1 jdk_65_method_133_code 22 (.isub) 1 23 := ⟨by decide +kernel, rfl⟩
theorem d27_23 : D1 jdk_65_method_133_code 23 (.iload_n 3) 1 24 := ⟨by decide +kernel, rfl⟩
theorem d27_24 : D1 jdk_65_method_133_code 24 (.invokestatic 304) 3 27 := ⟨by decide +kernel, rfl⟩
theorem d27_27 : D1 jdk_65_method_133_code 27 (.invokestatic 150) 3 30 := ⟨by decide +kernel, rfl⟩
theorem d27_30 : D1 jdk_65_method_133_code 30 (.aload 4) 2 32 := ⟨by decide +kernel, rfl⟩
theorem d27_32 : D1 jdk_65_method_133_code 32 (.areturn) 1 33 := ⟨by decide +kernel, rfl⟩
theorem d28_0 : D1 jdk_65_method_131_code 0 (.iload_n 1) 1 1 := ⟨by decide +kernel, rfl⟩
theorem d28_1 : D1 jdk_65_method_131_code 1 (.iload_n 0) 1 2 := ⟨by decide +kernel, rfl⟩
theorem d28_2 : DJ jdk_65_method_131_code 2 (.if_icmp .ge) 35 5 37 := ⟨by decide +kernel, rfl, rfl⟩
theorem d28_5 : D1 jdk_65_method_131_code 5 (.new 43) 3 8 := ⟨by decide +kernel, rfl⟩
theorem d28_8 : D1 jdk_65_method_131_code 8 (.dup) 1 9 := ⟨by decide +kernel, rfl⟩
theorem d28_9 : D1 jdk_65_method_131_code 9 (.new 45) 3 12 := ⟨by decide +kernel, rfl⟩
theorem d28_12 : D1 jdk_65_method_131_code 12 (.dup) 1 13 := ⟨by decide +kernel, rfl⟩
theorem d28_13 : D1 jdk_65_method_131_code 13 (.invokespecial 47) 3 16 := ⟨by decide +kernel, rfl⟩
theorem d28_16 : D1 jdk_65_method_131_code 16 (.iload_n 0) 1 17 := ⟨by decide +kernel, rfl⟩
theorem d28_17 : D1 jdk_65_method_131_code 17 (.invokevirtual 54) 3 20 := ⟨by decide +kernel, rfl⟩
theorem d28_20 : D1 jdk_65_method_131_code 20 (.ldc_w 337) 3 23 := ⟨by decide +kernel, rfl⟩
theorem d28_23 : D1 jdk_65_method_131_code 23 (.invokevirtual 50) 3 26 := ⟨by decide +kernel, rfl⟩
theorem d28_26 : D1 jdk_65_method_131_code 26 (.iload_n 1) 1 27 := ⟨by decide +kernel, rfl⟩
theorem d28_27 : D1 jdk_65_method_131_code 27 (.invokevirtual 54) 3 30 := ⟨by decide +kernel, rfl⟩
theorem d28_30 : D1 jdk_65_method_131_code 30 (.invokevirtual 61) 3 33 := ⟨by decide +kernel, rfl⟩
theorem d28_33 : D1 jdk_65_method_131_code 33 (.invokespecial 65) 3 36 := ⟨by decide +kernel, rfl⟩
theorem d28_36 : D1 jdk_65_method_131_code 36 (.athrow) 1 37 := ⟨by decide +kernel, rfl⟩
theorem d28_37 : D1 jdk_65_method_131_code 37 (.return_) 1 38 := ⟨by decide +kernel, rfl⟩
theorem d29_0 : D1 prog_12_method_1_code 0 (.aload_n 0) 1 1 := ⟨by decide +kernel, rfl⟩
theorem d29_1 : D1 prog_12_method_1_code 1 (.aload_n 1) 1 2 := ⟨by decide +kernel, rfl⟩
theorem d29_2 : D1 prog_12_method_1_code 2 (.invokespecial 1) 3 5 := ⟨by decide +kernel, rfl⟩
theorem d29_5 : D1 prog_12_method_1_code 5 (.return_) 1 6 := ⟨by decide +kernel, rfl⟩
theorem d30_0 : D1 jdk_59_method_2_code 0 (.aload_n 0) 1 1 := ⟨by decide +kernel, rfl⟩
theorem d30_1 : D1 jdk_59_method_2_code 1 (.aload_n 1) 1 2 := ⟨by decide +kernel, rfl⟩
theorem d30_2 : D1 jdk_59_method_2_code 2 (.invokespecial 7) 3 5 := ⟨by decide +kernel, rfl⟩
theorem d30_5 : D1 jdk_59_method_2_code 5 (.return_) 1 6 := ⟨by decide +kernel, rfl⟩
theorem d31_0 : D1 jdk_78_method_2_code 0 (.aload_n 0) 1 1 := ⟨by decide +kernel, rfl⟩
theorem d31_1 : D1 jdk_78_method_2_code 1 (.invokespecial 1) 3 4 := ⟨by decide +kernel, rfl⟩
theorem d31_4 : D1 jdk_78_method_2_code 4 (.aload_n 0) 1 5 := ⟨by decide +kernel, rfl⟩
theorem d31_5 : D1 jdk_78_method_2_code 5 (.aload_n 0) 1 6 := ⟨by decide +kernel, rfl⟩
theorem d31_6 : D1 jdk_78_method_2_code 6 (.putfield 7) 3 9 := ⟨by decide +kernel, rfl⟩
theorem d31_9 : D1 jdk_78_method_2_code 9 (.aload_n 0) 1 10 := ⟨by decide +kernel, rfl⟩
theorem d31_10 : D1 jdk_78_method_2_code 10 (.getstatic 13) 3 13 := ⟨by decide +kernel, rfl⟩
theorem d31_13 : D1 jdk_78_method_2_code 13 (.putfield 17) 3 16 := ⟨by decide +kernel, rfl⟩
theorem d31_16 : D1 jdk_78_method_2_code 16 (.aload_n 0) 1 17 := ⟨by decide +kernel, rfl⟩
theorem d31_17 : D1 jdk_78_method_2_code 17 (.getstatic 20) 3 20 := ⟨by decide +kernel, rfl⟩
theorem d31_20 : D1 jdk_78_method_2_code 20 (.putfield 24) 3 23 := ⟨by decide +kernel, rfl⟩
theorem d31_23 : D1 jdk_78_method_2_code 23 (.aload_n 0) 1 24 := ⟨by decide +kernel, rfl⟩
theorem d31_24 : D1 jdk_78_method_2_code 24 (.invokevirtual 27) 3 27 := ⟨by decide +kernel, rfl⟩
theorem d31_27 : D1 jdk_78_method_2_code 27 (.pop) 1 28 := ⟨by decide +kernel, rfl⟩
theorem d31_28 : D1 jdk_78_method_2_code 28 (.aload_n 0) 1 29 := ⟨by decide +kernel, rfl⟩
theorem d31_29 : D1 jdk_78_method_2_code 29 (.aload_n 1) 1 30 := ⟨by decide +kernel, rfl⟩
theorem d31_30 : D1 jdk_78_method_2_code 30 (.putfield 31) 3 33 := ⟨by decide +kernel, rfl⟩
theorem d31_33 : D1 jdk_78_method_2_code 33 (.return_) 1 34 := ⟨by decide +kernel, rfl⟩
theorem d32_0 : D1 jdk_78_method_1_code 0 (.aload_n 0) 1 1 := ⟨by decide +kernel, rfl⟩
theorem d32_1 : D1 jdk_78_method_1_code 1 (.invokespecial 1) 3 4 := ⟨by decide +kernel, rfl⟩
theorem d32_4 : D1 jdk_78_method_1_code 4 (.aload_n 0) 1 5 := ⟨by decide +kernel, rfl⟩
theorem d32_5 : D1 jdk_78_method_1_code 5 (.aload_n 0) 1 6 := ⟨by decide +kernel, rfl⟩
theorem d32_6 : D1 jdk_78_method_1_code 6 (.putfield 7) 3 9 := ⟨by decide +kernel, rfl⟩
theorem d32_9 : D1 jdk_78_method_1_code 9 (.aload_n 0) 1 10 := ⟨by decide +kernel, rfl⟩
theorem d32_10 : D1 jdk_78_method_1_code 10 (.getstatic 13) 3 13 := ⟨by decide +kernel, rfl⟩
theorem d32_13 : D1 jdk_78_method_1_code 13 (.putfield 17) 3 16 := ⟨by decide +kernel, rfl⟩
theorem d32_16 : D1 jdk_78_method_1_code 16 (.aload_n 0) 1 17 := ⟨by decide +kernel, rfl⟩
theorem d32_17 : D1 jdk_78_method_1_code 17 (.getstatic 20) 3 20 := ⟨by decide +kernel, rfl⟩
theorem d32_20 : D1 jdk_78_method_1_code 20 (.putfield 24) 3 23 := ⟨by decide +kernel, rfl⟩
theorem d32_23 : D1 jdk_78_method_1_code 23 (.aload_n 0) 1 24 := ⟨by decide +kernel, rfl⟩
theorem d32_24 : D1 jdk_78_method_1_code 24 (.invokevirtual 27) 3 27 := ⟨by decide +kernel, rfl⟩
theorem d32_27 : D1 jdk_78_method_1_code 27 (.pop) 1 28 := ⟨by decide +kernel, rfl⟩
theorem d32_28 : D1 jdk_78_method_1_code 28 (.return_) 1 29 := ⟨by decide +kernel, rfl⟩
theorem d33_0 : D1 jdk_78_method_6_code 0 (.aload_n 0) 1 1 := ⟨by decide +kernel, rfl⟩
theorem d33_1 : D1 jdk_78_method_6_code 1 (.getfield 31) 3 4 := ⟨by decide +kernel, rfl⟩
theorem d33_4 : D1 jdk_78_method_6_code 4 (.areturn) 1 5 := ⟨by decide +kernel, rfl⟩
theorem d34_0 : D1 method_4_code 0 (.aload_n 2) 1 1 := ⟨by decide +kernel, rfl⟩
theorem d34_1 : D1 method_4_code 1 (.invokevirtual 23) 3 4 := ⟨by decide +kernel, rfl⟩
theorem d34_4 : D1 method_4_code 4 (.istore_n 3) 1 5 := ⟨by decide +kernel, rfl⟩
theorem d34_5 : D1 method_4_code 5 (.iload_n 3) 1 6 := ⟨by decide +kernel, rfl⟩
theorem d34_6 : DJ method_4_code 6 (.ifCond .le) 18 9 24 := ⟨by decide +kernel, rfl, rfl⟩
theorem d34_9 : D1 method_4_code 9 (.aload_n 0) 1 10 := ⟨by decide +kernel, rfl⟩
theorem d34_10 : D1 method_4_code 10 (.iload_n 1) 1 11 := ⟨by decide +kernel, rfl⟩
theorem d34_11 : D1 method_4_code 11 (.invokevirtual 37) 3 14 := ⟨by decide +kernel, rfl⟩
theorem d34_14 : D1 method_4_code 14 (.aload_n 2) 1 15 := ⟨by decide +kernel, rfl⟩
theorem d34_15 : D1 method_4_code 15 (.iconst 0) 1 16 := ⟨by decide +kernel, rfl⟩
theorem d34_16 : D1 method_4_code 16 (.invokevirtual 37) 3 19 := ⟨by decide +kernel, rfl⟩
theorem d34_19 : DJ method_4_code 19 (.if_icmp .eq) 5 22 24 := ⟨by decide +kernel, rfl, rfl⟩
theorem d34_22 : D1 method_4_code 22 (.iconst 0) 1 23 := ⟨by decide +kernel, rfl⟩
theorem d34_23 : D1 method_4_code 23 (.ireturn) 1 24 := ⟨by decide +kernel, rfl⟩
theorem d34_24 : D1 method_4_code 24 (.iload_n 3) 1 25 := ⟨by decide +kernel, rfl⟩
theorem d34_25 : D1 method_4_code 25 (.iconst 1) 1 26 := ⟨by decide +kernel, rfl⟩
theorem d34_26 : DJ method_4_code 26 (.if_icmp .le) 20 29 46 := ⟨by decide +kernel, rfl, rfl⟩
theorem d34_29 : D1 method_4_code 29 (.aload_n 0) 1 30 := ⟨by decide +kernel, rfl⟩
theorem d34_30 : D1 method_4_code 30 (.iload_n 1) 1 31 := ⟨by decide +kernel, rfl⟩
theorem d34_31 : D1 method_4_code 31 (.iconst 1) 1 32 := ⟨by decide +kernel, rfl⟩
theorem d34_32 : D1 method_4_code 32 (.iadd) 1 33 := ⟨by decide +kernel, rfl⟩
theorem d34_33 : D1 method_4_code 33 (.invokevirtual 37) 3 36 := ⟨by decide +kernel, rfl⟩
theorem d34_36 : D1 method_4_code 36 (.aload_n 2) 1 37 := ⟨by decide +kernel, rfl⟩
theorem d34_37 : D1 method_4_code 37 (.iconst 1) 1 38 := ⟨by decide +kernel, rfl⟩
theorem d34_38 : D1 method_4_code 38 (.invokevirtual 37) 3 41 := ⟨by decide +kernel, rfl⟩
theorem d34_41 : DJ method_4_code 41 (.if_icmp .eq) 5 44 46 := ⟨by decide +kernel, rfl, rfl⟩
theorem d34_44 : D1 method_4_code 44 (.iconst 0) 1 45 := ⟨by decide +kernel, rfl⟩
theorem d34_45 : D1 method_4_code 45 (.ireturn) 1 46 := ⟨by decide +kernel, rfl⟩
theorem d34_46 : D1 method_4_code 46 (.iconst 1) 1 47 := ⟨by decide +kernel, rfl⟩
theorem d34_47 : D1 method_4_code 47 (.ireturn) 1 48 := ⟨by decide +kernel, rfl⟩
theorem d35_0 : D1 method_5_code 0 (.aload_n 0) 1 1 := ⟨by decide +kernel, rfl⟩
theorem d35_1 : D1 method_5_code 1 (.iload_n 1) 1 2 := ⟨by decide +kernel, rfl⟩
theorem d35_2 : D1 method_5_code 2 (.invokevirtual 37) 3 5 := ⟨by decide +kernel, rfl⟩
theorem d35_5 : D1 method_5_code 5 (.bipush 32) 2 7 := ⟨by decide +kernel, rfl⟩
theorem d35_7 : DJ method_5_code 7 (.if_icmp .ne) 275 10 282 := ⟨by decide +kernel, rfl, rfl⟩
theorem d35_10 : D1 method_5_code 10 (.aload_n 0) 1 11 := ⟨by decide +kernel, rfl⟩
theorem d35_11 : D1 method_5_code 11 (.iload_n 1) 1 12 := ⟨by decide +kernel, rfl⟩
theorem d35_12 : D1 method_5_code 12 (.iconst 1) 1 13 := ⟨by decide +kernel, rfl⟩
theorem d35_13 : D1 method_5_code 13 (.iadd) 1 14 := ⟨by decide +kernel, rfl⟩
theorem d35_14 : D1 method_5_code 14 (.invokevirtual 37) 3 17 := ⟨by decide +kernel, rfl⟩
theorem d35_17 : D1 method_5_code 17 (.bipush 110) 2 19 := ⟨by decide +kernel, rfl⟩
theorem d35_19 : DJ method_5_code 19 (.if_icmp .ne) 263 22 282 := ⟨by decide +kernel, rfl, rfl⟩
theorem d35_22 : D1 method_5_code 22 (.aload_n 0) 1 23 := ⟨by decide +kernel, rfl⟩
theorem d35_23 : D1 method_5_code 23 (.iload_n 1) 1 24 := ⟨by decide +kernel, rfl⟩
theorem d35_24 : D1 method_5_code 24 (.iconst 2) 1 25 := ⟨by decide +kernel, rfl⟩
theorem d35_25 : D1 method_5_code 25 (.iadd) 1 26 := ⟨by decide +kernel, rfl⟩
theorem d35_26 : D1 method_5_code 26 (.invokevirtual 37) 3 29 := ⟨by decide +kernel, rfl⟩
theorem d35_29 : D1 method_5_code 29 (.bipush 97) 2 31 := ⟨by decide +kernel, rfl⟩
theorem d35_31 : DJ method_5_code 31 (.if_icmp .ne) 251 34 282 := ⟨by decide +kernel, rfl, rfl⟩
theorem d35_34 : D1 method_5_code 34 (.aload_n 0) 1 35 := ⟨by decide +kernel, rfl⟩
theorem d35_35 : D1 method_5_code 35 (.iload_n 1) 1 36 := ⟨by decide +kernel, rfl⟩
theorem d35_36 : D1 method_5_code 36 (.iconst 3) 1 37 := ⟨by decide +kernel, rfl⟩
theorem d35_37 : D1 method_5_code 37 (.iadd) 1 38 := ⟨by decide +kernel, rfl⟩
theorem d35_38 : D1 method_5_code 38 (.invokevirtual 37) 3 41 := ⟨by decide +kernel, rfl⟩
theorem d35_41 : D1 method_5_code 41 (.bipush 109) 2 43 := ⟨by decide +kernel, rfl⟩
theorem d35_43 : DJ method_5_code 43 (.if_icmp .ne) 239 46 282 := ⟨by decide +kernel, rfl, rfl⟩
theorem d35_46 : D1 method_5_code 46 (.aload_n 0) 1 47 := ⟨by decide +kernel, rfl⟩
theorem d35_47 : D1 method_5_code 47 (.iload_n 1) 1 48 := ⟨by decide +kernel, rfl⟩
theorem d35_48 : D1 method_5_code 48 (.iconst 4) 1 49 := ⟨by decide +kernel, rfl⟩
theorem d35_49 : D1 method_5_code 49 (.iadd) 1 50 := ⟨by decide +kernel, rfl⟩
theorem d35_50 : D1 method_5_code 50 (.invokevirtual 37) 3 53 := ⟨by decide +kernel, rfl⟩
theorem d35_53 : D1 method_5_code 53 (.bipush 101) 2 55 := ⟨by decide +kernel, rfl⟩
theorem d35_55 : DJ method_5_code 55 (.if_icmp .ne) 227 58 282 := ⟨by decide +kernel, rfl, rfl⟩
theorem d35_58 : D1 method_5_code 58 (.aload_n 0) 1 59 := ⟨by decide +kernel, rfl⟩
theorem d35_59 : D1 method_5_code 59 (.iload_n 1) 1 60 := ⟨by decide +kernel, rfl⟩
theorem d35_60 : D1 method_5_code 60 (.iconst 5) 1 61 := ⟨by decide +kernel, rfl⟩
theorem d35_61 : D1 method_5_code 61 (.iadd) 1 62 := ⟨by decide +kernel, rfl⟩
theorem d35_62 : D1 method_5_code 62 (.invokevirtual 37) 3 65 := ⟨by decide +kernel, rfl⟩
theorem d35_65 : D1 method_5_code 65 (.bipush 115) 2 67 := ⟨by decide +kernel, rfl⟩
theorem d35_67 : DJ method_5_code 67 (.if_icmp .ne) 215 70 282 := ⟨by decide +kernel, rfl, rfl⟩
theorem d35_70 : D1 method_5_code 70 (.aload_n 0) 1 71 := ⟨by decide +kernel, rfl⟩
theorem d35_71 : D1 method_5_code 71 (.iload_n 1) 1 72 := ⟨by decide +kernel, rfl⟩
theorem d35_72 : D1 method_5_code 72 (.bipush 6) 2 74 := ⟨by decide +kernel, rfl⟩
theorem d35_74 : D1 method_5_code 74 (.iadd) 1 75 := ⟨by decide +kernel, rfl⟩
theorem d35_75 : D1 method_5_code 75 (.invokevirtual 37) 3 78 := ⟨by decide +kernel, rfl⟩
theorem d35_78 : D1 method_5_code 78 (.bipush 32) 2 80 := ⟨by decide +kernel, rfl⟩
theorem d35_80 : DJ method_5_code 80 (.if_icmp .ne) 202 83 282 := ⟨by decide +kernel, rfl, rfl⟩
theorem d35_83 : D1 method_5_code 83 (.aload_n 0) 1 84 := ⟨by decide +kernel, rfl⟩
theorem d35_84 : D1 method_5_code 84 (.iload_n 1) 1 85 := ⟨by decide +kernel, rfl⟩
theorem d35_85 : D1 method_5_code 85 (.bipush 7) 2 87 := ⟨by decide +kernel, rfl⟩
theorem d35_87 : D1 method_5_code 87 (.iadd) 1 88 := ⟨by decide +kernel, rfl⟩
theorem d35_88 : D1 method_5_code 88 (.invokevirtual 37) 3 91 := ⟨by decide +kernel, rfl⟩
theorem d35_91 : D1 method_5_code 91 (.bipush 116) 2 93 := ⟨by decide +kernel, rfl⟩
theorem d35_93 : DJ method_5_code 93 (.if_icmp .ne) 189 96 282 := ⟨by decide +kernel, rfl, rfl⟩
theorem d35_96 : D1 method_5_code 96 (.aload_n 0) 1 97 := ⟨by decide +kernel, rfl⟩
theorem d35_97 : D1 method_5_code 97 (.iload_n 1) 1 98 := ⟨by decide +kernel, rfl⟩
theorem d35_98 : D1 method_5_code 98 (.bipush 8) 2 100 := ⟨by decide +kernel, rfl⟩
theorem d35_100 : D1 method_5_code 100 (.iadd) 1 101 := ⟨by decide +kernel, rfl⟩
theorem d35_101 : D1 method_5_code 101 (.invokevirtual 37) 3 104 := ⟨by decide +kernel, rfl⟩
theorem d35_104 : D1 method_5_code 104 (.bipush 104) 2 106 := ⟨by decide +kernel, rfl⟩
theorem d35_106 : DJ method_5_code 106 (.if_icmp .ne) 176 109 282 := ⟨by decide +kernel, rfl, rfl⟩
theorem d35_109 : D1 method_5_code 109 (.aload_n 0) 1 110 := ⟨by decide +kernel, rfl⟩
theorem d35_110 : D1 method_5_code 110 (.iload_n 1) 1 111 := ⟨by decide +kernel, rfl⟩
theorem d35_111 : D1 method_5_code 111 (.bipush 9) 2 113 := ⟨by decide +kernel, rfl⟩
theorem d35_113 : D1 method_5_code 113 (.iadd) 1 114 := ⟨by decide +kernel, rfl⟩
theorem d35_114 : D1 method_5_code 114 (.invokevirtual 37) 3 117 := ⟨by decide +kernel, rfl⟩
theorem d35_117 : D1 method_5_code 117 (.bipush 101) 2 119 := ⟨by decide +kernel, rfl⟩
theorem d35_119 : DJ method_5_code 119 (.if_icmp .ne) 163 122 282 := ⟨by decide +kernel, rfl, rfl⟩
theorem d35_122 : D1 method_5_code 122 (.aload_n 0) 1 123 := ⟨by decide +kernel, rfl⟩
theorem d35_123 : D1 method_5_code 123 (.iload_n 1) 1 124 := ⟨by decide +kernel, rfl⟩
theorem d35_124 : D1 method_5_code 124 (.bipush 10) 2 126 := ⟨by decide +kernel, rfl⟩
theorem d35_126 : D1 method_5_code 126 (.iadd) 1 127 := ⟨by decide +kernel, rfl⟩
theorem d35_127 : D1 method_5_code 127 (.invokevirtual 37) 3 130 := ⟨by decide +kernel, rfl⟩
theorem d35_130 : D1 method_5_code 130 (.bipush 32) 2 132 := ⟨by decide +kernel, rfl⟩
theorem d35_132 : DJ method_5_code 132 (.if_icmp .ne) 150 135 282 := ⟨by decide +kernel, rfl, rfl⟩
theorem d35_135 : D1 method_5_code 135 (.aload_n 0) 1 136 := ⟨by decide +kernel, rfl⟩
theorem d35_136 : D1 method_5_code 136 (.iload_n 1) 1 137 := ⟨by decide +kernel, rfl⟩
theorem d35_137 : D1 method_5_code 137 (.bipush 11) 2 139 := ⟨by decide +kernel, rfl⟩
theorem d35_139 : D1 method_5_code 139 (.iadd) 1 140 := ⟨by decide +kernel, rfl⟩
theorem d35_140 : D1 method_5_code 140 (.invokevirtual 37) 3 143 := ⟨by decide +kernel, rfl⟩
theorem d35_143 : D1 method_5_code 143 (.bipush 117) 2 145 := ⟨by decide +kernel, rfl⟩
theorem d35_145 : DJ method_5_code 145 (.if_icmp .ne) 137 148 282 := ⟨by decide +kernel, rfl, rfl⟩
theorem d35_148 : D1 method_5_code 148 (.aload_n 0) 1 149 := ⟨by decide +kernel, rfl⟩
theorem d35_149 : D1 method_5_code 149 (.iload_n 1) 1 150 := ⟨by decide +kernel, rfl⟩
theorem d35_150 : D1 method_5_code 150 (.bipush 12) 2 152 := ⟨by decide +kernel, rfl⟩
theorem d35_152 : D1 method_5_code 152 (.iadd) 1 153 := ⟨by decide +kernel, rfl⟩
theorem d35_153 : D1 method_5_code 153 (.invokevirtual 37) 3 156 := ⟨by decide +kernel, rfl⟩
theorem d35_156 : D1 method_5_code 156 (.bipush 110) 2 158 := ⟨by decide +kernel, rfl⟩
theorem d35_158 : DJ method_5_code 158 (.if_icmp .ne) 124 161 282 := ⟨by decide +kernel, rfl, rfl⟩
theorem d35_161 : D1 method_5_code 161 (.aload_n 0) 1 162 := ⟨by decide +kernel, rfl⟩
theorem d35_162 : D1 method_5_code 162 (.iload_n 1) 1 163 := ⟨by decide +kernel, rfl⟩
theorem d35_163 : D1 method_5_code 163 (.bipush 13) 2 165 := ⟨by decide +kernel, rfl⟩
theorem d35_165 : D1 method_5_code 165 (.iadd) 1 166 := ⟨by decide +kernel, rfl⟩
theorem d35_166 : D1 method_5_code 166 (.invokevirtual 37) 3 169 := ⟨by decide +kernel, rfl⟩
theorem d35_169 : D1 method_5_code 169 (.bipush 100) 2 171 := ⟨by decide +kernel, rfl⟩
theorem d35_171 : DJ method_5_code 171 (.if_icmp .ne) 111 174 282 := ⟨by decide +kernel, rfl, rfl⟩
theorem d35_174 : D1 method_5_code 174 (.aload_n 0) 1 175 := ⟨by decide +kernel, rfl⟩
theorem d35_175 : D1 method_5_code 175 (.iload_n 1) 1 176 := ⟨by decide +kernel, rfl⟩
theorem d35_176 : D1 method_5_code 176 (.bipush 14) 2 178 := ⟨by decide +kernel, rfl⟩
theorem d35_178 : D1 method_5_code 178 (.iadd) 1 179 := ⟨by decide +kernel, rfl⟩
theorem d35_179 : D1 method_5_code 179 (.invokevirtual 37) 3 182 := ⟨by decide +kernel, rfl⟩
theorem d35_182 : D1 method_5_code 182 (.bipush 101) 2 184 := ⟨by decide +kernel, rfl⟩
theorem d35_184 : DJ method_5_code 184 (.if_icmp .ne) 98 187 282 := ⟨by decide +kernel, rfl, rfl⟩
theorem d35_187 : D1 method_5_code 187 (.aload_n 0) 1 188 := ⟨by decide +kernel, rfl⟩
theorem d35_188 : D1 method_5_code 188 (.iload_n 1) 1 189 := ⟨by decide +kernel, rfl⟩
theorem d35_189 : D1 method_5_code 189 (.bipush 15) 2 191 := ⟨by decide +kernel, rfl⟩
theorem d35_191 : D1 method_5_code 191 (.iadd) 1 192 := ⟨by decide +kernel, rfl⟩
theorem d35_192 : D1 method_5_code 192 (.invokevirtual 37) 3 195 := ⟨by decide +kernel, rfl⟩
theorem d35_195 : D1 method_5_code 195 (.bipush 99) 2 197 := ⟨by decide +kernel, rfl⟩
theorem d35_197 : DJ method_5_code 197 (.if_icmp .ne) 85 200 282 := ⟨by decide +kernel, rfl, rfl⟩
theorem d35_200 : D1 method_5_code 200 (.aload_n 0) 1 201 := ⟨by decide +kernel, rfl⟩
theorem d35_201 : D1 method_5_code 201 (.iload_n 1) 1 202 := ⟨by decide +kernel, rfl⟩
theorem d35_202 : D1 method_5_code 202 (.bipush 16) 2 204 := ⟨by decide +kernel, rfl⟩
theorem d35_204 : D1 method_5_code 204 (.iadd) 1 205 := ⟨by decide +kernel, rfl⟩
theorem d35_205 : D1 method_5_code 205 (.invokevirtual 37) 3 208 := ⟨by decide +kernel, rfl⟩
theorem d35_208 : D1 method_5_code 208 (.bipush 108) 2 210 := ⟨by decide +kernel, rfl⟩
theorem d35_210 : DJ method_5_code 210 (.if_icmp .ne) 72 213 282 := ⟨by decide +kernel, rfl, rfl⟩
theorem d35_213 : D1 method_5_code 213 (.aload_n 0) 1 214 := ⟨by decide +kernel, rfl⟩
theorem d35_214 : D1 method_5_code 214 (.iload_n 1) 1 215 := ⟨by decide +kernel, rfl⟩
theorem d35_215 : D1 method_5_code 215 (.bipush 17) 2 217 := ⟨by decide +kernel, rfl⟩
theorem d35_217 : D1 method_5_code 217 (.iadd) 1 218 := ⟨by decide +kernel, rfl⟩
theorem d35_218 : D1 method_5_code 218 (.invokevirtual 37) 3 221 := ⟨by decide +kernel, rfl⟩
theorem d35_221 : D1 method_5_code 221 (.bipush 97) 2 223 := ⟨by decide +kernel, rfl⟩
theorem d35_223 : DJ method_5_code 223 (.if_icmp .ne) 59 226 282 := ⟨by decide +kernel, rfl, rfl⟩
theorem d35_226 : D1 method_5_code 226 (.aload_n 0) 1 227 := ⟨by decide +kernel, rfl⟩
theorem d35_227 : D1 method_5_code 227 (.iload_n 1) 1 228 := ⟨by decide +kernel, rfl⟩
theorem d35_228 : D1 method_5_code 228 (.bipush 18) 2 230 := ⟨by decide +kernel, rfl⟩
theorem d35_230 : D1 method_5_code 230 (.iadd) 1 231 := ⟨by decide +kernel, rfl⟩
theorem d35_231 : D1 method_5_code 231 (.invokevirtual 37) 3 234 := ⟨by decide +kernel, rfl⟩
theorem d35_234 : D1 method_5_code 234 (.bipush 114) 2 236 := ⟨by decide +kernel, rfl⟩
theorem d35_236 : DJ method_5_code 236 (.if_icmp .ne) 46 239 282 := ⟨by decide +kernel, rfl, rfl⟩
theorem d35_239 : D1 method_5_code 239 (.aload_n 0) 1 240 := ⟨by decide +kernel, rfl⟩
theorem d35_240 : D1 method_5_code 240 (.iload_n 1) 1 241 := ⟨by decide +kernel, rfl⟩
theorem d35_241 : D1 method_5_code 241 (.bipush 19) 2 243 := ⟨by decide +kernel, rfl⟩
theorem d35_243 : D1 method_5_code 243 (.iadd) 1 244 := ⟨by decide +kernel, rfl⟩
theorem d35_244 : D1 method_5_code 244 (.invokevirtual 37) 3 247 := ⟨by decide +kernel, rfl⟩
theorem d35_247 : D1 method_5_code 247 (.bipush 101) 2 249 := ⟨by decide +kernel, rfl⟩
theorem d35_249 : DJ method_5_code 249 (.if_icmp .ne) 33 252 282 := ⟨by decide +kernel, rfl, rfl⟩
theorem d35_252 : D1 method_5_code 252 (.aload_n 0) 1 253 := ⟨by decide +kernel, rfl⟩
theorem d35_253 : D1 method_5_code 253 (.iload_n 1) 1 254 := ⟨by decide +kernel, rfl⟩
theorem d35_254 : D1 method_5_code 254 (.bipush 20) 2 256 := ⟨by decide +kernel, rfl⟩
theorem d35_256 : D1 method_5_code 256 (.iadd) 1 257 := ⟨by decide +kernel, rfl⟩
theorem d35_257 : D1 method_5_code 257 (.invokevirtual 37) 3 260 := ⟨by decide +kernel, rfl⟩
theorem d35_260 : D1 method_5_code 260 (.bipush 100) 2 262 := ⟨by decide +kernel, rfl⟩
theorem d35_262 : DJ method_5_code 262 (.if_icmp .ne) 20 265 282 := ⟨by decide +kernel, rfl, rfl⟩
theorem d35_265 : D1 method_5_code 265 (.aload_n 0) 1 266 := ⟨by decide +kernel, rfl⟩
theorem d35_266 : D1 method_5_code 266 (.iload_n 1) 1 267 := ⟨by decide +kernel, rfl⟩
theorem d35_267 : D1 method_5_code 267 (.bipush 21) 2 269 := ⟨by decide +kernel, rfl⟩
theorem d35_269 : D1 method_5_code 269 (.iadd) 1 270 := ⟨by decide +kernel, rfl⟩
theorem d35_270 : D1 method_5_code 270 (.invokevirtual 37) 3 273 := ⟨by decide +kernel, rfl⟩
theorem d35_273 : D1 method_5_code 273 (.bipush 32) 2 275 := ⟨by decide +kernel, rfl⟩
theorem d35_275 : DJ method_5_code 275 (.if_icmp .ne) 7 278 282 := ⟨by decide +kernel, rfl, rfl⟩
theorem d35_278 : D1 method_5_code 278 (.iconst 1) 1 279 := ⟨by decide +kernel, rfl⟩
theorem d35_279 : DJ method_5_code 279 .goto 4 282 283 := ⟨by decide +kernel, rfl, rfl⟩
theorem d35_282 : D1 method_5_code 282 (.iconst 0) 1 283 := ⟨by decide +kernel, rfl⟩
theorem d35_283 : D1 method_5_code 283 (.ireturn) 1 284 := ⟨by decide +kernel, rfl⟩
theorem d36_0 : D1 jdk_42_method_56_code 0 (.aload_n 0) 1 1 := ⟨by decide +kernel, rfl⟩
theorem d36_1 : D1 jdk_42_method_56_code 1 (.invokevirtual 492) 3 4 := ⟨by decide +kernel, rfl⟩
theorem d36_4 : DJ jdk_42_method_56_code 4 (.ifCond .eq) 12 7 16 := ⟨by decide +kernel, rfl, rfl⟩
theorem d36_7 : D1 jdk_42_method_56_code 7 (.aload_n 0) 1 8 := ⟨by decide +kernel, rfl⟩
theorem d36_8 : D1 jdk_42_method_56_code 8 (.getfield 9) 3 11 := ⟨by decide +kernel, rfl⟩
theorem d36_11 : D1 jdk_42_method_56_code 11 (.iload_n 1) 1 12 := ⟨by decide +kernel, rfl⟩
theorem d36_12 : D1 jdk_42_method_56_code 12 (.invokestatic 495) 3 15 := ⟨by decide +kernel, rfl⟩
theorem d36_15 : D1 jdk_42_method_56_code 15 (.ireturn) 1 16 := ⟨by decide +kernel, rfl⟩
theorem d36_16 : D1 jdk_42_method_56_code 16 (.aload_n 0) 1 17 := ⟨by decide +kernel, rfl⟩
theorem d36_17 : D1 jdk_42_method_56_code 17 (.getfield 9) 3 20 := ⟨by decide +kernel, rfl⟩
theorem d36_20 : D1 jdk_42_method_56_code 20 (.iload_n 1) 1 21 := ⟨by decide +kernel, rfl⟩
theorem d36_21 : D1 jdk_42_method_56_code 21 (.invokestatic 498) 3 24 := ⟨by decide +kernel, rfl⟩
theorem d36_24 : D1 jdk_42_method_56_code 24 (.ireturn) 1 25 := ⟨by decide +kernel, rfl⟩
theorem d37_0 : D1 jdk_42_method_154_code 0 (.getstatic 38) 3 3 := ⟨by decide +kernel, rfl⟩
theorem d37_3 : DJ jdk_42_method_154_code 3 (.ifCond .eq) 14 6 17 := ⟨by decide +kernel, rfl, rfl⟩
theorem d37_6 : D1 jdk_42_method_154_code 6 (.aload_n 0) 1 7 := ⟨by decide +kernel, rfl⟩
theorem d37_7 : D1 jdk_42_method_154_code 7 (.getfield 15) 3 10 := ⟨by decide +kernel, rfl⟩
theorem d37_10 : DJ jdk_42_method_154_code 10 (.ifCond .ne) 7 13 17 := ⟨by decide +kernel, rfl, rfl⟩
theorem d37_13 : D1 jdk_42_method_154_code 13 (.iconst 1) 1 14 := ⟨by decide +kernel, rfl⟩
theorem d37_14 : DJ jdk_42_method_154_code 14 .goto 4 17 18 := ⟨by decide +kernel, rfl, rfl⟩
theorem d37_17 : D1 jdk_42_method_154_code 17 (.iconst 0) 1 18 := ⟨by decide +kernel, rfl⟩
theorem d37_18 : D1 jdk_42_method_154_code 18 (.ireturn) 1 19 := ⟨by decide +kernel, rfl⟩
theorem d38_0 : D1 jdk_43_method_2_code 0 (.iload_n 1) 1 1 := ⟨by decide +kernel, rfl⟩
theorem d38_1 : D1 jdk_43_method_2_code 1 (.aload_n 0) 1 2 := ⟨by decide +kernel, rfl⟩
theorem d38_2 : D1 jdk_43_method_2_code 2 (.arraylength) 1 3 := ⟨by decide +kernel, rfl⟩
theorem d38_3 : D1 jdk_43_method_2_code 3 (.invokestatic 9) 3 6 := ⟨by decide +kernel, rfl⟩
theorem d38_6 : D1 jdk_43_method_2_code 6 (.aload_n 0) 1 7 := ⟨by decide +kernel, rfl⟩
theorem d38_7 : D1 jdk_43_method_2_code 7 (.iload_n 1) 1 8 := ⟨by decide +kernel, rfl⟩
theorem d38_8 : D1 jdk_43_method_2_code 8 (.baload) 1 9 := ⟨by decide +kernel, rfl⟩
theorem d38_9 : D1 jdk_43_method_2_code 9 (.sipush 255) 3 12 := ⟨by decide +kernel, rfl⟩
theorem d38_12 : D1 jdk_43_method_2_code 12 (.iand) 1 13 := ⟨by decide +kernel, rfl⟩
theorem d38_13 : D1 jdk_43_method_2_code 13 (.i2c) 1 14 := ⟨by decide +kernel, rfl⟩
theorem d38_14 : D1 jdk_43_method_2_code 14 (.ireturn) 1 15 := ⟨by decide +kernel, rfl⟩
theorem d39_0 : D1 jdk_42_method_155_code 0 (.iload_n 0) 1 1 := ⟨by decide +kernel, rfl⟩
theorem d39_1 : D1 jdk_42_method_155_code 1 (.iload_n 1) 1 2 := ⟨by decide +kernel, rfl⟩
theorem d39_2 : D1 jdk_42_method_155_code 2 (.getstatic 1053) 3 5 := ⟨by decide +kernel, rfl⟩
theorem d39_5 : D1 jdk_42_method_155_code 5 (.invokestatic 1059) 3 8 := ⟨by decide +kernel, rfl⟩
theorem d39_8 : D1 jdk_42_method_155_code 8 (.pop) 1 9 := ⟨by decide +kernel, rfl⟩
theorem d39_9 : D1 jdk_42_method_155_code 9 (.return_) 1 10 := ⟨by decide +kernel, rfl⟩
theorem d40_0 : D1 jdk_41_method_11_code 0 (.iload_n 0) 1 1 := ⟨by decide +kernel, rfl⟩
theorem d40_1 : DJ jdk_41_method_11_code 1 (.ifCond .lt) 8 4 9 := ⟨by decide +kernel, rfl, rfl⟩
theorem d40_4 : D1 jdk_41_method_11_code 4 (.iload_n 0) 1 5 := ⟨by decide +kernel, rfl⟩
theorem d40_5 : D1 jdk_41_method_11_code 5 (.iload_n 1) 1 6 := ⟨by decide +kernel, rfl⟩
theorem d40_6 : DJ jdk_41_method_11_code 6 (.if_icmp .lt) 10 9 16 := ⟨by decide +kernel, rfl, rfl⟩
theorem d40_9 : D1 jdk_41_method_11_code 9 (.aload_n 2) 1 10 := ⟨by decide +kernel, rfl⟩
theorem d40_10 : D1 jdk_41_method_11_code 10 (.iload_n 0) 1 11 := ⟨by decide +kernel, rfl⟩
theorem d40_11 : D1 jdk_41_method_11_code 11 (.iload_n 1) 1 12 := ⟨by decide +kernel, rfl⟩
theorem d40_12 : D1 jdk_41_method_11_code 12 (.invokestatic 95) 3 15 := ⟨by decide +kernel, rfl⟩
theorem d40_15 : D1 jdk_41_method_11_code 15 (.athrow) 1 16 := ⟨by decide +kernel, rfl⟩
theorem d40_16 : D1 jdk_41_method_11_code 16 (.iload_n 0) 1 17 := ⟨by decide +kernel, rfl⟩
theorem d40_17 : D1 jdk_41_method_11_code 17 (.ireturn) 1 18 := ⟨by decide +kernel, rfl⟩
theorem d41_0 : D1 jdk_42_method_139_code 0 (.getstatic 38) 3 3 := ⟨by decide +kernel, rfl⟩
theorem d41_3 : DJ jdk_42_method_139_code 3 (.ifCond .eq) 23 6 26 := ⟨by decide +kernel, rfl, rfl⟩
theorem d41_6 : D1 jdk_42_method_139_code 6 (.iload_n 0) 1 7 := ⟨by decide +kernel, rfl⟩
theorem d41_7 : D1 jdk_42_method_139_code 7 (.invokestatic 1015) 3 10 := ⟨by decide +kernel, rfl⟩
theorem d41_10 : DJ jdk_42_method_139_code 10 (.ifCond .eq) 16 13 26 := ⟨by decide +kernel, rfl, rfl⟩
theorem d41_13 : D1 jdk_42_method_139_code 13 (.new 10) 3 16 := ⟨by decide +kernel, rfl⟩
theorem d41_16 : D1 jdk_42_method_139_code 16 (.dup) 1 17 := ⟨by decide +kernel, rfl⟩
theorem d41_17 : D1 jdk_42_method_139_code 17 (.iload_n 0) 1 18 := ⟨by decide +kernel, rfl⟩
theorem d41_18 : D1 jdk_42_method_139_code 18 (.invokestatic 1018) 3 21 := ⟨by decide +kernel, rfl⟩
theorem d41_21 : D1 jdk_42_method_139_code 21 (.iconst 0) 1 22 := ⟨by decide +kernel, rfl⟩
theorem d41_22 : D1 jdk_42_method_139_code 22 (.invokespecial 209) 3 25 := ⟨by decide +kernel, rfl⟩
theorem d41_25 : D1 jdk_42_method_139_code 25 (.areturn) 1 26 := ⟨by decide +kernel, rfl⟩
theorem d41_26 : D1 jdk_42_method_139_code 26 (.new 10) 3 29 := ⟨by decide +kernel, rfl⟩
theorem d41_29 : D1 jdk_42_method_139_code 29 (.dup) 1 30 := ⟨by decide +kernel, rfl⟩
theorem d41_30 : D1 jdk_42_method_139_code 30 (.iload_n 0) 1 31 := ⟨by decide +kernel, rfl⟩
theorem d41_31 : D1 jdk_42_method_139_code 31 (.invokestatic 1021) 3 34 := ⟨by decide +kernel, rfl⟩
theorem d41_34 : D1 jdk_42_method_139_code 34 (.iconst 1) 1 35 := ⟨by decide +kernel, rfl⟩
theorem d41_35 : D1 jdk_42_method_139_code 35 (.invokespecial 209) 3 38 := ⟨by decide +kernel, rfl⟩
theorem d41_38 : D1 jdk_42_method_139_code 38 (.areturn) 1 39 := ⟨by decide +kernel, rfl⟩
theorem d42_0 : D1 jdk_43_method_3_code 0 (.iload_n 0) 1 1 := ⟨by decide +kernel, rfl⟩
theorem d42_1 : D1 jdk_43_method_3_code 1 (.sipush 255) 3 4 := ⟨by decide +kernel, rfl⟩
theorem d42_4 : DJ jdk_43_method_3_code 4 (.if_icmp .gt) 7 7 11 := ⟨by decide +kernel, rfl, rfl⟩
theorem d42_7 : D1 jdk_43_method_3_code 7 (.iconst 1) 1 8 := ⟨by decide +kernel, rfl⟩
theorem d42_8 : DJ jdk_43_method_3_code 8 .goto 4 11 12 := ⟨by decide +kernel, rfl, rfl⟩
theorem d42_11 : D1 jdk_43_method_3_code 11 (.iconst 0) 1 12 := ⟨by decide +kernel, rfl⟩
theorem d42_12 : D1 jdk_43_method_3_code 12 (.ireturn) 1 13 := ⟨by decide +kernel, rfl⟩
theorem d43_0 : D1 jdk_43_method_46_code 0 (.iconst 1) 1 1 := ⟨by decide +kernel, rfl⟩
theorem d43_1 : D1 jdk_43_method_46_code 1 (.newarray .byte) 2 3 := ⟨by decide +kernel, rfl⟩
theorem d43_3 : D1 jdk_43_method_46_code 3 (.dup) 1 4 := ⟨by decide +kernel, rfl⟩
theorem d43_4 : D1 jdk_43_method_46_code 4 (.iconst 0) 1 5 := ⟨by decide +kernel, rfl⟩
theorem d43_5 : D1 jdk_43_method_46_code 5 (.iload_n 0) 1 6 := ⟨by decide +kernel, rfl⟩
theorem d43_6 : D1 jdk_43_method_46_code 6 (.i2b) 1 7 := ⟨by decide +kernel, rfl⟩
theorem d43_7 : D1 jdk_43_method_46_code 7 (.bastore) 1 8 := ⟨by decide +kernel, rfl⟩
theorem d43_8 : D1 jdk_43_method_46_code 8 (.areturn) 1 9 := ⟨by decide +kernel, rfl⟩
theorem d44_0 : D1 jdk_42_method_151_code 0 (.aload_n 0) 1 1 := ⟨by decide +kernel, rfl⟩
theorem d44_1 : D1 jdk_42_method_151_code 1 (.invokespecial 1) 3 4 := ⟨by decide +kernel, rfl⟩
theorem d44_4 : D1 jdk_42_method_151_code 4 (.aload_n 0) 1 5 := ⟨by decide +kernel, rfl⟩
theorem d44_5 : D1 jdk_42_method_151_code 5 (.aload_n 1) 1 6 := ⟨by decide +kernel, rfl⟩
theorem d44_6 : D1 jdk_42_method_151_code 6 (.putfield 9) 3 9 := ⟨by decide +kernel, rfl⟩
theorem d44_9 : D1 jdk_42_method_151_code 9 (.aload_n 0) 1 10 := ⟨by decide +kernel, rfl⟩
theorem d44_10 : D1 jdk_42_method_151_code 10 (.iload_n 2) 1 11 := ⟨by decide +kernel, rfl⟩
theorem d44_11 : D1 jdk_42_method_151_code 11 (.putfield 15) 3 14 := ⟨by decide +kernel, rfl⟩
theorem d44_14 : D1 jdk_42_method_151_code 14 (.return_) 1 15 := ⟨by decide +kernel, rfl⟩
theorem d45_0 : D1 jdk_42_method_3_code 0 (.aload_n 0) 1 1 := ⟨by decide +kernel, rfl⟩
theorem d45_1 : D1 jdk_42_method_3_code 1 (.aload_n 1) 1 2 := ⟨by decide +kernel, rfl⟩
theorem d45_2 : D1 jdk_42_method_3_code 2 (.iconst 0) 1 3 := ⟨by decide +kernel, rfl⟩
theorem d45_3 : D1 jdk_42_method_3_code 3 (.aload_n 1) 1 4 := ⟨by decide +kernel, rfl⟩
theorem d45_4 : D1 jdk_42_method_3_code 4 (.arraylength) 1 5 := ⟨by decide +kernel, rfl⟩
theorem d45_5 : D1 jdk_42_method_3_code 5 (.aconst_null) 1 6 := ⟨by decide +kernel, rfl⟩
theorem d45_6 : D1 jdk_42_method_3_code 6 (.invokespecial 27) 3 9 := ⟨by decide +kernel, rfl⟩
theorem d45_9 : D1 jdk_42_method_3_code 9 (.return_) 1 10 := ⟨by decide +kernel, rfl⟩
theorem d46_0 : D1 jdk_42_method_149_code 0 (.aload_n 0) 1 1 := ⟨by decide +kernel, rfl⟩
theorem d46_1 : D1 jdk_42_method_149_code 1 (.invokespecial 1) 3 4 := ⟨by decide +kernel, rfl⟩
theorem d46_4 : D1 jdk_42_method_149_code 4 (.iload_n 3) 1 5 := ⟨by decide +kernel, rfl⟩
theorem d46_5 : DJ jdk_42_method_149_code 5 (.ifCond .ne) 22 8 27 := ⟨by decide +kernel, rfl, rfl⟩
theorem d46_8 : D1 jdk_42_method_149_code 8 (.aload_n 0) 1 9 := ⟨by decide +kernel, rfl⟩
theorem d46_9 : D1 jdk_42_method_149_code 9 (.ldc 7) 2 11 := ⟨by decide +kernel, rfl⟩
theorem d46_11 : D1 jdk_42_method_149_code 11 (.getfield 9) 3 14 := ⟨by decide +kernel, rfl⟩
theorem d46_14 : D1 jdk_42_method_149_code 14 (.putfield 9) 3 17 := ⟨by decide +kernel, rfl⟩
theorem d46_17 : D1 jdk_42_method_149_code 17 (.aload_n 0) 1 18 := ⟨by decide +kernel, rfl⟩
theorem d46_18 : D1 jdk_42_method_149_code 18 (.ldc 7) 2 20 := ⟨by decide +kernel, rfl⟩
theorem d46_20 : D1 jdk_42_method_149_code 20 (.getfield 15) 3 23 := ⟨by decide +kernel, rfl⟩
theorem d46_23 : D1 jdk_42_method_149_code 23 (.putfield 15) 3 26 := ⟨by decide +kernel, rfl⟩
theorem d46_26 : D1 jdk_42_method_149_code 26 (.return_) 1 27 := ⟨by decide +kernel, rfl⟩
theorem d46_27 : D1 jdk_42_method_149_code 27 (.getstatic 38) 3 30 := ⟨by decide +kernel, rfl⟩
theorem d46_30 : DJ jdk_42_method_149_code 30 (.ifCond .eq) 28 33 58 := ⟨by decide +kernel, rfl, rfl⟩
theorem d46_33 : D1 jdk_42_method_149_code 33 (.aload_n 1) 1 34 := ⟨by decide +kernel, rfl⟩
theorem d46_34 : D1 jdk_42_method_149_code 34 (.iload_n 2) 1 35 := ⟨by decide +kernel, rfl⟩
theorem d46_35 : D1 jdk_42_method_149_code 35 (.iload_n 3) 1 36 := ⟨by decide +kernel, rfl⟩
theorem d46_36 : D1 jdk_42_method_149_code 36 (.invokestatic 177) 3 39 := ⟨by decide +kernel, rfl⟩
theorem d46_39 : D1 jdk_42_method_149_code 39 (.astore 5) 2 41 := ⟨by decide +kernel, rfl⟩
theorem d46_41 : D1 jdk_42_method_149_code 41 (.aload_n 0) 1 42 := ⟨by decide +kernel, rfl⟩
theorem d46_42 : D1 jdk_42_method_149_code 42 (.aload 5) 2 44 := ⟨by decide +kernel, rfl⟩
theorem d46_44 : D1 jdk_42_method_149_code 44 (.iload_n 3) 1 45 := ⟨by decide +kernel, rfl⟩
theorem d46_45 : D1 jdk_42_method_149_code 45 (.invokestatic 47) 3 48 := ⟨by decide +kernel, rfl⟩
theorem d46_48 : D1 jdk_42_method_149_code 48 (.putfield 15) 3 51 := ⟨by decide +kernel, rfl⟩
theorem d46_51 : D1 jdk_42_method_149_code 51 (.aload_n 0) 1 52 := ⟨by decide +kernel, rfl⟩
theorem d46_52 : D1 jdk_42_method_149_code 52 (.aload 5) 2 54 := ⟨by decide +kernel, rfl⟩
theorem d46_54 : D1 jdk_42_method_149_code 54 (.putfield 9) 3 57 := ⟨by decide +kernel, rfl⟩
theorem d46_57 : D1 jdk_42_method_149_code 57 (.return_) 1 58 := ⟨by decide +kernel, rfl⟩
theorem d46_58 : D1 jdk_42_method_149_code 58 (.aload_n 0) 1 59 := ⟨by decide +kernel, rfl⟩
theorem d46_59 : D1 jdk_42_method_149_code 59 (.iconst 1) 1 60 := ⟨by decide +kernel, rfl⟩
theorem d46_60 : D1 jdk_42_method_149_code 60 (.putfield 15) 3 63 := ⟨by decide +kernel, rfl⟩
theorem d46_63 : D1 jdk_42_method_149_code 63 (.aload_n 0) 1 64 := ⟨by decide +kernel, rfl⟩
theorem d46_64 : D1 jdk_42_method_149_code 64 (.aload_n 1) 1 65 := ⟨by decide +kernel, rfl⟩
theorem d46_65 : D1 jdk_42_method_149_code 65 (.iload_n 2) 1 66 := ⟨by decide +kernel, rfl⟩
theorem d46_66 : D1 jdk_42_method_149_code 66 (.iload_n 3) 1 67 := ⟨by decide +kernel, rfl⟩
theorem d46_67 : D1 jdk_42_method_149_code 67 (.invokestatic 180) 3 70 := ⟨by decide +kernel, rfl⟩
theorem d46_70 : D1 jdk_42_method_149_code 70 (.putfield 9) 3 73 := ⟨by decide +kernel, rfl⟩
theorem d46_73 : D1 jdk_42_method_149_code 73 (.return_) 1 74 := ⟨by decide +kernel, rfl⟩
theorem d47_0 : D1 jdk_52_method_16_code 0 (.iload_n 2) 1 1 := ⟨by decide +kernel, rfl⟩
theorem d47_1 : D1 jdk_52_method_16_code 1 (.newarray .byte) 2 3 := ⟨by decide +kernel, rfl⟩
theorem d47_3 : D1 jdk_52_method_16_code 3 (.astore_n 3) 1 4 := ⟨by decide +kernel, rfl⟩
theorem d47_4 : D1 jdk_52_method_16_code 4 (.aload_n 0) 1 5 := ⟨by decide +kernel, rfl⟩
theorem d47_5 : D1 jdk_52_method_16_code 5 (.iload_n 1) 1 6 := ⟨by decide +kernel, rfl⟩
theorem d47_6 : D1 jdk_52_method_16_code 6 (.aload_n 3) 1 7 := ⟨by decide +kernel, rfl⟩
theorem d47_7 : D1 jdk_52_method_16_code 7 (.iconst 0) 1 8 := ⟨by decide +kernel, rfl⟩
theorem d47_8 : D1 jdk_52_method_16_code 8 (.iload_n 2) 1 9 := ⟨by decide +kernel, rfl⟩
theorem d47_9 : D1 jdk_52_method_16_code 9 (.invokestatic 115) 3 12 := ⟨by decide +kernel, rfl⟩
theorem d47_12 : D1 jdk_52_method_16_code 12 (.istore 4) 2 14 := ⟨by decide +kernel, rfl⟩
theorem d47_14 : D1 jdk_52_method_16_code 14 (.iload 4) 2 16 := ⟨by decide +kernel, rfl⟩
theorem d47_16 : D1 jdk_52_method_16_code 16 (.iload_n 2) 1 17 := ⟨by decide +kernel, rfl⟩
theorem d47_17 : DJ jdk_52_method_16_code 17 (.if_icmp .eq) 40 20 57 := ⟨by decide +kernel, rfl, rfl⟩
theorem d47_20 : D1 jdk_52_method_16_code 20 (.aload_n 0) 1 21 := ⟨by decide +kernel, rfl⟩
theorem d47_21 : D1 jdk_52_method_16_code 21 (.iload_n 1) 1 22 := ⟨by decide +kernel, rfl⟩
theorem d47_22 : D1 jdk_52_method_16_code 22 (.iload_n 2) 1 23 := ⟨by decide +kernel, rfl⟩
theorem d47_23 : D1 jdk_52_method_16_code 23 (.invokestatic 119) 3 26 := ⟨by decide +kernel, rfl⟩
theorem d47_26 : D1 jdk_52_method_16_code 26 (.astore 5) 2 28 := ⟨by decide +kernel, rfl⟩
theorem d47_28 : D1 jdk_52_method_16_code 28 (.aload 5) 2 30 := ⟨by decide +kernel, rfl⟩
theorem d47_30 : D1 jdk_52_method_16_code 30 (.iload 4) 2 32 := ⟨by decide +kernel, rfl⟩
theorem d47_32 : D1 jdk_52_method_16_code 32 (.invokestatic 71) 3 35 := ⟨by decide +kernel, rfl⟩
theorem d47_35 : D1 jdk_52_method_16_code 35 (.sipush 255) 3 38 := ⟨by decide +kernel, rfl⟩
theorem d47_38 : DJ jdk_52_method_16_code 38 (.if_icmp .gt) 16 41 54 := ⟨by decide +kernel, rfl, rfl⟩
theorem d47_41 : D1 jdk_52_method_16_code 41 (.aload 5) 2 43 := ⟨by decide +kernel, rfl⟩
theorem d47_43 : D1 jdk_52_method_16_code 43 (.iconst 0) 1 44 := ⟨by decide +kernel, rfl⟩
theorem d47_44 : D1 jdk_52_method_16_code 44 (.aload_n 3) 1 45 := ⟨by decide +kernel, rfl⟩
theorem d47_45 : D1 jdk_52_method_16_code 45 (.iconst 0) 1 46 := ⟨by decide +kernel, rfl⟩
theorem d47_46 : D1 jdk_52_method_16_code 46 (.iload_n 2) 1 47 := ⟨by decide +kernel, rfl⟩
theorem d47_47 : D1 jdk_52_method_16_code 47 (.invokestatic 123) 3 50 := ⟨by decide +kernel, rfl⟩
theorem d47_50 : D1 jdk_52_method_16_code 50 (.iload_n 2) 1 51 := ⟨by decide +kernel, rfl⟩
theorem d47_51 : DJ jdk_52_method_16_code 51 (.if_icmp .eq) 6 54 57 := ⟨by decide +kernel, rfl, rfl⟩
theorem d47_54 : D1 jdk_52_method_16_code 54 (.aload 5) 2 56 := ⟨by decide +kernel, rfl⟩
theorem d47_56 : D1 jdk_52_method_16_code 56 (.areturn) 1 57 := ⟨by decide +kernel, rfl⟩
theorem d47_57 : D1 jdk_52_method_16_code 57 (.aload_n 3) 1 58 := ⟨by decide +kernel, rfl⟩
theorem d47_58 : D1 jdk_52_method_16_code 58 (.areturn) 1 59 := ⟨by decide +kernel, rfl⟩
theorem d48_0 : D1 jdk_52_method_21_code 0 (.iconst 0) 1 1 := ⟨by decide +kernel, rfl⟩
theorem d48_1 : D1 jdk_52_method_21_code 1 (.istore 5) 2 3 := ⟨by decide +kernel, rfl⟩
theorem d48_3 : D1 jdk_52_method_21_code 3 (.iload 5) 2 5 := ⟨by decide +kernel, rfl⟩
theorem d48_5 : D1 jdk_52_method_21_code 5 (.iload 4) 2 7 := ⟨by decide +kernel, rfl⟩
theorem d48_7 : DJ jdk_52_method_21_code 7 (.if_icmp .ge) 37 10 44 := ⟨by decide +kernel, rfl, rfl⟩
theorem d48_10 : D1 jdk_52_method_21_code 10 (.aload_n 0) 1 11 := ⟨by decide +kernel, rfl⟩
theorem d48_11 : D1 jdk_52_method_21_code 11 (.iload_n 1) 1 12 := ⟨by decide +kernel, rfl⟩
theorem d48_12 : D1 jdk_52_method_21_code 12 (.caload) 1 13 := ⟨by decide +kernel, rfl⟩
theorem d48_13 : D1 jdk_52_method_21_code 13 (.istore 6) 2 15 := ⟨by decide +kernel, rfl⟩
theorem d48_15 : D1 jdk_52_method_21_code 15 (.iload 6) 2 17 := ⟨by decide +kernel, rfl⟩
theorem d48_17 : D1 jdk_52_method_21_code 17 (.sipush 255) 3 20 := ⟨by decide +kernel, rfl⟩
theorem d48_20 : DJ jdk_52_method_21_code 20 (.if_icmp .le) 6 23 26 := ⟨by decide +kernel, rfl, rfl⟩
theorem d48_23 : D1 jdk_52_method_21_code 23 (.iload 5) 2 25 := ⟨by decide +kernel, rfl⟩
theorem d48_25 : D1 jdk_52_method_21_code 25 (.ireturn) 1 26 := ⟨by decide +kernel, rfl⟩
theorem d48_26 : D1 jdk_52_method_21_code 26 (.aload_n 2) 1 27 := ⟨by decide +kernel, rfl⟩
theorem d48_27 : D1 jdk_52_method_21_code 27 (.iload_n 3) 1 28 := ⟨by decide +kernel, rfl⟩
theorem d48_28 : D1 jdk_52_method_21_code 28 (.iload 6) 2 30 := ⟨by decide +kernel, rfl⟩
theorem d48_30 : D1 jdk_52_method_21_code 30 (.i2b) 1 31 := ⟨by decide +kernel, rfl⟩
theorem d48_31 : D1 jdk_52_method_21_code 31 (.bastore) 1 32 := ⟨by decide +kernel, rfl⟩
theorem d48_32 : D1 jdk_52_method_21_code 32 (.iinc 1 1) 3 35 := ⟨by decide +kernel, rfl⟩
theorem d48_35 : D1 jdk_52_method_21_code 35 (.iinc 3 1) 3 38 := ⟨by decide +kernel, rfl⟩
theorem d48_38 : D1 jdk_52_method_21_code 38 (.iinc 5 1) 3 41 := ⟨by decide +kernel, rfl⟩
theorem d48_41 : DJ jdk_52_method_21_code 41 .goto (-38) 44 3 := ⟨by decide +kernel, rfl, rfl⟩
theorem d48_44 : D1 jdk_52_method_21_code 44 (.iload 4) 2 46 := ⟨by decide +kernel, rfl⟩
theorem d48_46 : D1 jdk_52_method_21_code 46 (.ireturn) 1 47 := ⟨by decide +kernel, rfl⟩
theorem d49_0 : D1 jdk_52_method_15_code 0 (.iload_n 1) 1 1 := ⟨by decide +kernel, rfl⟩
theorem d49_1 : D1 jdk_52_method_15_code 1 (.aload_n 0) 1 2 := ⟨by decide +kernel, rfl⟩
theorem d49_2 : D1 jdk_52_method_15_code 2 (.arraylength) 1 3 := ⟨by decide +kernel, rfl⟩
theorem d49_3 : D1 jdk_52_method_15_code 3 (.isub) 1 4 := ⟨by decide +kernel, rfl⟩
theorem d49_4 : D1 jdk_52_method_15_code 4 (.bipush 31) 2 6 := ⟨by decide +kernel, rfl⟩
theorem d49_6 : D1 jdk_52_method_15_code 6 (.iushr) 1 7 := ⟨by decide +kernel, rfl⟩
theorem d49_7 : D1 jdk_52_method_15_code 7 (.i2b) 1 8 := ⟨by decide +kernel, rfl⟩
theorem d49_8 : D1 jdk_52_method_15_code 8 (.ireturn) 1 9 := ⟨by decide +kernel, rfl⟩

abbrev QPure (r : Option Value) (h0 : Heap) (v : Option Value) (h : Heap) (F : List Addr) : Prop := v = r ∧ h = h0

set_option maxRecDepth 65536 in
set_option maxHeartbeats 4000000 in
theorem rm_max (l : Launch) (Z : State) (a0 : Array Value) (hw : ∀ d ∈ tables_1, d.before a0 Z = true) (n0 : Nat) (h0 : Heap) (hO : Old Z n0 h0) (x y : Int32) :
    Met l Z consts_1 n0 [] (⟨"java/lang/Math", "max", "(II)I"⟩ : MethodName) jdk_29_method_65_code 2 (some .int) ({ frames := 0, cells := 0, slots := 0, locals := 0 } : Room) #[.int x, .int y] [] h0 (QPure (some (.int (if x < y then y else x))) h0) := by
  have hEL := own_EW hw
  have hn0 : n0 ≤ h0.size := hO.1 ▸ hO.2.1
  refine Met.of (Jvm.Free.JP.mathPlain rfl (by decide +kernel)) hEL hO (Ls := #[.val (.int x), .val (.int y)]) (fun m => by first | (simp [entryFrame, mkF, argsToLocals, Value.category]; done) | rfl) ?_
  refine WP.iload_n d16_0 rfl ?_
  refine WP.iload_n d16_1 rfl ?_
  refine WP.icmp_lt d16_2 (fun hc2 => ?_) (fun hc2 => ?_)
  · refine WP.iload_n d16_9 rfl ?_
    exact WP.ireturn d16_10 rfl (t := .int) (by simp) rfl (by decide) (by decide) (G := []) (fun _ q => nomatch q) ⟨by rw [if_pos hc2], rfl⟩
  · refine WP.iload_n d16_5 rfl ?_
    refine WP.goto d16_6 ?_
    exact WP.ireturn d16_10 rfl (t := .int) (by simp) rfl (by decide) (by decide) (G := []) (fun _ q => nomatch q) ⟨by rw [if_neg hc2], rfl⟩
set_option maxRecDepth 65536 in
set_option maxHeartbeats 4000000 in
theorem rm_min (l : Launch) (Z : State) (a0 : Array Value) (hw : ∀ d ∈ tables_1, d.before a0 Z = true) (n0 : Nat) (h0 : Heap) (hO : Old Z n0 h0) (x y : Int32) :
    Met l Z consts_1 n0 [] (⟨"java/lang/Math", "min", "(II)I"⟩ : MethodName) jdk_29_method_69_code 2 (some .int) ({ frames := 0, cells := 0, slots := 0, locals := 0 } : Room) #[.int x, .int y] [] h0 (QPure (some (.int (if y < x then y else x))) h0) := by
  have hEL := own_EW hw
  have hn0 : n0 ≤ h0.size := hO.1 ▸ hO.2.1
  refine Met.of (Jvm.Free.JP.mathPlain rfl (by decide +kernel)) hEL hO (Ls := #[.val (.int x), .val (.int y)]) (fun m => by first | (simp [entryFrame, mkF, argsToLocals, Value.category]; done) | rfl) ?_
  refine WP.iload_n d18_0 rfl ?_
  refine WP.iload_n d18_1 rfl ?_
  refine WP.icmp_gt d18_2 (fun hc2 => ?_) (fun hc2 => ?_)
  · refine WP.iload_n d18_9 rfl ?_
    exact WP.ireturn d18_10 rfl (t := .int) (by simp) rfl (by decide) (by decide) (G := []) (fun _ q => nomatch q) ⟨by rw [if_pos hc2], rfl⟩
  · refine WP.iload_n d18_5 rfl ?_
    refine WP.goto d18_6 ?_
    exact WP.ireturn d18_10 rfl (t := .int) (by simp) rfl (by decide) (by decide) (G := []) (fun _ q => nomatch q) ⟨by rw [if_neg hc2], rfl⟩

abbrev QCo (Z : State) (xs : List Int32) (n : Nat) (h0 : Heap) (v : Option Value) (h : Heap) (F : List Addr) : Prop := ∃ t, F = [t] ∧ v = some (.ref t) ∧ h0.size ≤ t ∧ Keep h0 h [] ∧ IA Z h t .byte (xs ++ List.replicate (n - xs.length) 0)
set_option maxRecDepth 65536 in
set_option maxHeartbeats 4000000 in
theorem rm_co (l : Launch) (Z : State) (a0 : Array Value) (hw : ∀ d ∈ tables_1, d.before a0 Z = true) (n0 : Nat) (h0 : Heap) (hO : Old Z n0 h0) (t0 : Addr) (xs : List Int32) (n : Nat) (A : IA Z h0 t0 .byte xs) (fx : FB xs) (hx : xs.length < n) (hn : n ≤ 34) :
    Met l Z consts_1 n0 [] (⟨"java/util/Arrays", "copyOf", "([BI)[B"⟩ : MethodName) jdk_65_method_121_code 3 (some (.array .byte)) ({ frames := 1, cells := 1, slots := 34, locals := 40 } : Room) #[.ref t0, .int (Int32.ofNat n)] [] h0 (QCo Z xs n h0) := by
  have hEL := own_EW hw
  have hn0 : n0 ≤ h0.size := hO.1 ▸ hO.2.1
  refine Met.of (by decide +kernel) hEL hO (Ls := #[.val (.ref t0), .val (.int (Int32.ofNat n)), .unset]) (fun m => by first | (simp [entryFrame, mkF, argsToLocals, Value.category]; done) | rfl) ?_
  have K : Keep h0 h0 [] := Keep.refl _ _
  have lt0 := nlt A.lt
  have hA := A.len
  refine WP.iload_n d17_0 rfl ?_
  refine WP.aload_n d17_1 rfl rfl ?_
  refine WP.arraylength d17_2 A ?_
  refine WP.icmp_ne d17_3 (fun hc3 => ?_) (fun hc3 => False.elim (by rw [ofN_eq (by omega) hA] at hc3; omega))
  refine WP.iload_n d17_14 rfl ?_
  refine WP.newarray d17_15 (hw _ (List.mem_of_getElem? (i := 7) rfl)) rfl (i := n) (cap := 34) (Ix.ofNat (by omega)) hn (nle rfl) (nle rfl) (nle rfl) (fun h1 t gt Et At => ?_)
  have A := A.ext Et
  have K := K.ext Et
  have lt := nlt At.lt
  have zt := Et.1
  refine WP.astore_n d17_17 (Ls' := #[.val (.ref t0), .val (.int (Int32.ofNat n)), .val (.ref t)]) rfl rfl ?_
  refine WP.aload_n d17_18 rfl rfl ?_
  refine WP.iconst d17_19 (v := (0 : Int32)) rfl ?_
  refine WP.aload_n d17_20 rfl rfl ?_
  refine WP.iconst d17_21 (v := (0 : Int32)) rfl ?_
  refine WP.aload_n d17_22 rfl rfl ?_
  refine WP.arraylength d17_23 A ?_
  refine WP.iload_n d17_24 rfl ?_
  refine WP.static (argsL := [(.int (Int32.ofNat xs.length)), (.int (Int32.ofNat n))]) (rest := [(.int (0 : Int32)), (.ref t), (.int (0 : Int32)), (.ref t0)]) d17_25 (rm_min l Z a0 hw n0 h1 (hO.ext Et) (Int32.ofNat xs.length) (Int32.ofNat n)) (hw _ (List.mem_of_getElem? (i := 108) rfl)) (hw _ (List.mem_of_getElem? (i := 109) rfl)) (hw _ (List.mem_of_getElem? (i := 100) rfl)) (hw _ (List.mem_of_getElem? (i := 110) rfl)) (by decide) pd_14 rfl rfl rfl (nle rfl) (nle rfl) (nle rfl) (nle rfl) (fun _ q => nomatch q) (fun v h2 F' hq szh2 => ?_)
  obtain ⟨rfl, rfl⟩ := hq
  rw [show (if Int32.ofNat n < Int32.ofNat xs.length then Int32.ofNat n else Int32.ofNat xs.length) = (Int32.ofNat xs.length) from if_neg (by rw [ofN_lt (by omega) hA]; omega)]
  refine WP.arraycopyB (rest := []) d17_28 (hw _ (List.mem_of_getElem? (i := 111) rfl)) (hw _ (List.mem_of_getElem? (i := 87) rfl)) (hw _ (List.mem_of_getElem? (i := 85) rfl)) (hw _ (List.mem_of_getElem? (i := 86) rfl)) A At fx (FB.zero _) (SafeBy.mem At.lt (by simp)) (by omega) (i := 0) (j := 0) (n := xs.length) rfl rfl (Ix.ofNat hA) (by omega) (by simp; omega) rfl (nle rfl) (nle rfl) (fun h3 K2 B => ?_)
  have A := A.keep K2 (ninS (nea (by omega)) nin0)
  have K := K.trans K2 (allS (Or.inr (by omega)) all0)
  have e : (List.replicate n (0 : Int32)).take 0 ++ (xs.drop 0).take xs.length ++ (List.replicate n (0 : Int32)).drop (0 + xs.length) = xs ++ List.replicate (n - xs.length) 0 := by simp
  rw [e] at B
  refine WP.aload_n d17_31 rfl rfl ?_
  exact WP.areturn d17_32 rfl rfl rfl (by decide) (by decide) (G := [t]) (by simp) ⟨t, rfl, rfl, by omega, K, B⟩


set_option maxRecDepth 65536 in
set_option maxHeartbeats 4000000 in
theorem rm_ckl (l : Launch) (Z : State) (a0 : Array Value) (hw : ∀ d ∈ tables_1, d.before a0 Z = true) (n0 : Nat) (h0 : Heap) (hO : Old Z n0 h0) (i j : Nat) (hi : i ≤ j) (hj : j < 2 ^ 31) :
    Met l Z consts_1 n0 [] (⟨"java/util/Arrays", "checkLength", "(II)V"⟩ : MethodName) jdk_65_method_131_code 2 none ({ frames := 0, cells := 0, slots := 0, locals := 0 } : Room) #[.int (Int32.ofNat i), .int (Int32.ofNat j)] [] h0 (QPure none h0) := by
  have hEL := own_EW hw
  have hn0 : n0 ≤ h0.size := hO.1 ▸ hO.2.1
  refine Met.of (by decide +kernel) hEL hO (Ls := #[.val (.int (Int32.ofNat i)), .val (.int (Int32.ofNat j))]) (fun m => by first | (simp [entryFrame, mkF, argsToLocals, Value.category]; done) | rfl) ?_
  refine WP.iload_n d28_0 rfl ?_
  refine WP.iload_n d28_1 rfl ?_
  refine WP.icmp_ge d28_2 (fun hc2 => ?_) (fun hc2 => False.elim (by rw [ofN_lt hj (by omega)] at hc2; omega))
  exact WP.return_ d28_37 rfl (by decide) (by decide) (G := []) (fun _ q => nomatch q) ⟨rfl, rfl⟩
abbrev QCr (Z : State) (xs : List Int32) (h0 : Heap) (v : Option Value) (h : Heap) (F : List Addr) : Prop := ∃ t, F = [t] ∧ v = some (.ref t) ∧ h0.size ≤ t ∧ Keep h0 h [] ∧ IA Z h t .byte xs
set_option maxRecDepth 65536 in
set_option maxHeartbeats 4000000 in
theorem rm_cb (l : Launch) (Z : State) (a0 : Array Value) (hw : ∀ d ∈ tables_1, d.before a0 Z = true) (n0 : Nat) (h0 : Heap) (hO : Old Z n0 h0) (t0 : Addr) (xs : List Int32) (i j : Nat) (A : IA Z h0 t0 .byte xs) (fx : FB xs) (hi : i ≤ j) (hj : j ≤ xs.length) (hn : j - i ≤ 34) :
    Met l Z consts_1 n0 [] (⟨"java/util/Arrays", "copyOfRangeByte", "([BII)[B"⟩ : MethodName) jdk_65_method_133_code 5 (some (.array .byte)) ({ frames := 1, cells := 1, slots := 34, locals := 40 } : Room) #[.ref t0, .int (Int32.ofNat i), .int (Int32.ofNat j)] [] h0 (QCr Z ((xs.drop i).take (j - i)) h0) := by
  have hEL := own_EW hw
  have hn0 : n0 ≤ h0.size := hO.1 ▸ hO.2.1
  refine Met.of (by decide +kernel) hEL hO (Ls := #[.val (.ref t0), .val (.int (Int32.ofNat i)), .val (.int (Int32.ofNat j)), .unset, .unset]) (fun m => by first | (simp [entryFrame, mkF, argsToLocals, Value.category]; done) | rfl) ?_
  have K : Keep h0 h0 [] := Keep.refl _ _
  have lt0 := nlt A.lt
  have hA := A.len
  refine WP.iload_n d27_0 rfl ?_
  refine WP.iload_n d27_1 rfl ?_
  refine WP.static (argsL := [(.int (Int32.ofNat i)), (.int (Int32.ofNat j))]) (rest := []) d27_2 (rm_ckl l Z a0 hw n0 h0 hO i j hi (by omega)) (hw _ (List.mem_of_getElem? (i := 152) rfl)) (hw _ (List.mem_of_getElem? (i := 153) rfl)) (hw _ (List.mem_of_getElem? (i := 106) rfl)) (hw _ (List.mem_of_getElem? (i := 154) rfl)) (by decide) pd_22 rfl rfl rfl (nle rfl) (nle rfl) (nle rfl) (nle rfl) (fun _ q => nomatch q) (fun v h4 F' hq szh4 => ?_)
  obtain ⟨rfl, rfl⟩ := hq
  refine WP.iload_n d27_5 rfl ?_
  refine WP.iload_n d27_6 rfl ?_
  refine WP.isub d27_7 ?_
  rw [show ((Int32.ofNat j) - (Int32.ofNat i)) = (Int32.ofNat (j - i)) from ofN_sub hi (by omega)]
  refine WP.istore_n d27_8 rfl (Ls' := #[.val (.ref t0), .val (.int (Int32.ofNat i)), .val (.int (Int32.ofNat j)), .val (.int (Int32.ofNat (j - i))), .unset]) rfl ?_
  refine WP.iload_n d27_9 rfl ?_
  refine WP.newarray d27_10 (hw _ (List.mem_of_getElem? (i := 7) rfl)) rfl (i := (j - i)) (cap := 34) (Ix.ofNat (by omega)) hn (nle rfl) (nle rfl) (nle rfl) (fun h5 t gt Et At => ?_)
  have A := A.ext Et
  have K := K.ext Et
  have hO := hO.ext Et
  have lt := nlt At.lt
  have zt := Et.1
  refine WP.astore d27_12 (Ls' := #[.val (.ref t0), .val (.int (Int32.ofNat i)), .val (.int (Int32.ofNat j)), .val (.int (Int32.ofNat (j - i))), .val (.ref t)]) rfl rfl ?_
  refine WP.aload_n d27_14 rfl rfl ?_
  refine WP.iload_n d27_15 rfl ?_
  refine WP.aload d27_16 rfl rfl ?_
  refine WP.iconst d27_18 (v := (0 : Int32)) rfl ?_
  refine WP.aload_n d27_19 rfl rfl ?_
  refine WP.arraylength d27_20 A ?_
  refine WP.iload_n d27_21 rfl ?_
  refine WP.isub d27_22 ?_
  rw [show ((Int32.ofNat xs.length) - (Int32.ofNat i)) = (Int32.ofNat (xs.length - i)) from ofN_sub (by omega) hA]
  refine WP.iload_n d27_23 rfl ?_
  refine WP.static (argsL := [(.int (Int32.ofNat (xs.length - i))), (.int (Int32.ofNat (j - i)))]) (rest := [(.int (0 : Int32)), (.ref t), (.int (Int32.ofNat i)), (.ref t0)]) d27_24 (rm_min l Z a0 hw n0 h5 hO (Int32.ofNat (xs.length - i)) (Int32.ofNat (j - i))) (hw _ (List.mem_of_getElem? (i := 108) rfl)) (hw _ (List.mem_of_getElem? (i := 109) rfl)) (hw _ (List.mem_of_getElem? (i := 100) rfl)) (hw _ (List.mem_of_getElem? (i := 110) rfl)) (by decide) pd_14 rfl rfl rfl (nle rfl) (nle rfl) (nle rfl) (nle rfl) (fun _ q => nomatch q) (fun v h6 F' hq szh6 => ?_)
  obtain ⟨rfl, rfl⟩ := hq
  rw [show (if Int32.ofNat (j - i) < Int32.ofNat (xs.length - i) then Int32.ofNat (j - i) else Int32.ofNat (xs.length - i)) = (Int32.ofNat (j - i)) from by
    by_cases q : j - i < xs.length - i
    · rw [if_pos ((ofN_lt (by omega) (by omega)).mpr q)]
    · rw [if_neg (by rw [ofN_lt (by omega) (by omega)]; exact q), show xs.length - i = j - i from by omega]]
  refine WP.arraycopyB (rest := []) d27_27 (hw _ (List.mem_of_getElem? (i := 111) rfl)) (hw _ (List.mem_of_getElem? (i := 87) rfl)) (hw _ (List.mem_of_getElem? (i := 85) rfl)) (hw _ (List.mem_of_getElem? (i := 86) rfl)) A At fx (FB.zero _) (SafeBy.mem At.lt (by simp)) (by omega) (i := i) (j := 0) (n := j - i) (Ix.ofNat (by omega)) rfl (Ix.ofNat (by omega)) (by omega) (by simp) rfl (nle rfl) (nle rfl) (fun h7 K2 B => ?_)
  have A := A.keep K2 (ninS (nea (by omega)) nin0)
  have K := K.trans K2 (allS (Or.inr (by omega)) all0)
  have hO := hO.keep K2 (allS (by omega) all0)
  have e : (List.replicate (j - i) (0 : Int32)).take 0 ++ (xs.drop i).take (j - i) ++ (List.replicate (j - i) (0 : Int32)).drop (0 + (j - i)) = (xs.drop i).take (j - i) := by simp
  rw [e] at B
  refine WP.aload d27_30 rfl rfl ?_
  exact WP.areturn d27_32 rfl rfl rfl (by decide) (by decide) (G := [t]) (by simp) ⟨t, rfl, rfl, by omega, K, B⟩
set_option maxRecDepth 65536 in
set_option maxHeartbeats 4000000 in
theorem rm_cr (l : Launch) (Z : State) (a0 : Array Value) (hw : ∀ d ∈ tables_1, d.before a0 Z = true) (n0 : Nat) (h0 : Heap) (hO : Old Z n0 h0) (t0 : Addr) (xs : List Int32) (i j : Nat) (A : IA Z h0 t0 .byte xs) (fx : FB xs) (hi : i ≤ j) (hj : j ≤ xs.length) (hn : j - i ≤ 34) (hw0 : i = 0 → j ≠ xs.length) :
    Met l Z consts_1 n0 [] (⟨"java/util/Arrays", "copyOfRange", "([BII)[B"⟩ : MethodName) jdk_65_method_132_code 3 (some (.array .byte)) ({ frames := 2, cells := 1, slots := 34, locals := 56 } : Room) #[.ref t0, .int (Int32.ofNat i), .int (Int32.ofNat j)] [] h0 (QCr Z ((xs.drop i).take (j - i)) h0) := by
  have hEL := own_EW hw
  have hn0 : n0 ≤ h0.size := hO.1 ▸ hO.2.1
  refine Met.of (by decide +kernel) hEL hO (Ls := #[.val (.ref t0), .val (.int (Int32.ofNat i)), .val (.int (Int32.ofNat j))]) (fun m => by first | (simp [entryFrame, mkF, argsToLocals, Value.category]; done) | rfl) ?_
  have hA := A.len
  refine WP.iload_n d26_0 rfl ?_
  refine WP.if_ne d26_1 (fun hc1 => ?_) (fun hc1 => ?_)
  · refine WP.aload_n d26_10 rfl rfl ?_
    refine WP.iload_n d26_11 rfl ?_
    refine WP.iload_n d26_12 rfl ?_
    refine WP.static (argsL := [(.ref t0), (.int (Int32.ofNat i)), (.int (Int32.ofNat j))]) (rest := []) d26_13 (rm_cb l Z a0 hw n0 h0 hO t0 xs i j A fx hi hj hn) (hw _ (List.mem_of_getElem? (i := 149) rfl)) (hw _ (List.mem_of_getElem? (i := 150) rfl)) (hw _ (List.mem_of_getElem? (i := 106) rfl)) (hw _ (List.mem_of_getElem? (i := 151) rfl)) (by decide) pd_21 rfl rfl rfl (nle rfl) (nle rfl) (nle rfl) (nle rfl) (fun _ q => nomatch q) (fun v h8 F' hq szh8 => ?_)
    obtain ⟨t, hF, rfl, r⟩ := hq
    exact WP.areturn d26_16 rfl rfl rfl (by decide) (by decide) (G := [t]) (by simp [hF]) ⟨t, rfl, rfl, r⟩
  · have hi0 : i = 0 := (ofN_eq (j := 0) (by omega) (by omega)).mp hc1
    refine WP.iload_n d26_4 rfl ?_
    refine WP.aload_n d26_5 rfl rfl ?_
    refine WP.arraylength d26_6 A ?_
    refine WP.icmp_eq d26_7 (fun hc7 => False.elim (by rw [ofN_eq (by omega) hA] at hc7; omega)) (fun hc7 => ?_)
    refine WP.aload_n d26_10 rfl rfl ?_
    refine WP.iload_n d26_11 rfl ?_
    refine WP.iload_n d26_12 rfl ?_
    refine WP.static (argsL := [(.ref t0), (.int (Int32.ofNat i)), (.int (Int32.ofNat j))]) (rest := []) d26_13 (rm_cb l Z a0 hw n0 h0 hO t0 xs i j A fx hi hj hn) (hw _ (List.mem_of_getElem? (i := 149) rfl)) (hw _ (List.mem_of_getElem? (i := 150) rfl)) (hw _ (List.mem_of_getElem? (i := 106) rfl)) (hw _ (List.mem_of_getElem? (i := 151) rfl)) (by decide) pd_21 rfl rfl rfl (nle rfl) (nle rfl) (nle rfl) (nle rfl) (fun _ q => nomatch q) (fun v h9 F' hq szh9 => ?_)
    obtain ⟨t, hF, rfl, r⟩ := hq
    exact WP.areturn d26_16 rfl rfl rfl (by decide) (by decide) (G := [t]) (by simp [hF]) ⟨t, rfl, rfl, r⟩

set_option maxRecDepth 65536 in
set_option maxHeartbeats 4000000 in
theorem rm_coder (l : Launch) (Z : State) (a0 : Array Value) (hw : ∀ d ∈ tables_1, d.before a0 Z = true) (n0 : Nat) (h0 : Heap) (hO : Old Z n0 h0) (zc : Int32) (hcs : Sta Z Z.heap "java/lang/String" "COMPACT_STRINGS" "Z" (.int zc)) (hzc : zc ≠ 0) (a : Addr) (Fc : Fld Z h0 a "java/lang/String" "coder" "B" (.int 0)) :
    Met l Z consts_1 n0 [] (⟨"java/lang/String", "coder", "()B"⟩ : MethodName) jdk_42_method_152_code 1 (some .byte) ({ frames := 0, cells := 0, slots := 0, locals := 0 } : Room) #[.ref a] [] h0 (QPure (some (.int 0)) h0) := by
  have hEL := own_EW hw
  have hn0 : n0 ≤ h0.size := hO.1 ▸ hO.2.1
  refine Met.of (by decide +kernel) hEL hO (Ls := #[.val (.ref a)]) (fun m => by first | (simp [entryFrame, mkF, argsToLocals, Value.category]; done) | rfl) ?_
  refine WP.getstatic d9_0 (hw _ (List.mem_of_getElem? (i := 59) rfl)) Via.refl hcs ?_
  refine WP.if_eq d9_3 (fun hc3 => False.elim (hzc hc3)) (fun hc3 => ?_)
  refine WP.aload_n d9_6 rfl rfl ?_
  refine WP.getfield (host := "") d9_7 (Or.inl (hw _ (List.mem_of_getElem? (i := 60) rfl))) Via.refl Fc ?_
  refine WP.goto d9_10 ?_
  exact WP.ireturn d9_14 rfl (t := .byte) (by simp) rfl (by decide) (by decide) (G := []) (fun _ q => nomatch q) ⟨rfl, rfl⟩
set_option maxRecDepth 65536 in
set_option maxHeartbeats 4000000 in
theorem rm_len (l : Launch) (Z : State) (a0 : Array Value) (hw : ∀ d ∈ tables_1, d.before a0 Z = true) (n0 : Nat) (h0 : Heap) (hO : Old Z n0 h0) (zc : Int32) (hcs : Sta Z Z.heap "java/lang/String" "COMPACT_STRINGS" "Z" (.int zc)) (hzc : zc ≠ 0) (a t : Addr) (bs : List Int32) (D : Str Z h0 a t bs) :
    Met l Z consts_1 n0 [] (⟨"java/lang/String", "length", "()I"⟩ : MethodName) jdk_42_method_54_code 1 (some .int) ({ frames := 1, cells := 0, slots := 0, locals := 13 } : Room) #[.ref a] [] h0 (QPure (some (.int (Int32.ofNat bs.length))) h0) := by
  have hEL := own_EW hw
  have hn0 : n0 ≤ h0.size := hO.1 ▸ hO.2.1
  refine Met.of (by decide +kernel) hEL hO (Ls := #[.val (.ref a)]) (fun m => by first | (simp [entryFrame, mkF, argsToLocals, Value.category]; done) | rfl) ?_
  refine WP.aload_n d8_0 rfl rfl ?_
  refine WP.getfield (host := "") d8_1 (Or.inl (hw _ (List.mem_of_getElem? (i := 53) rfl))) Via.refl D.2.2.1 ?_
  refine WP.arraylength d8_4 D.2.2.2 ?_
  refine WP.aload_n d8_5 rfl rfl ?_
  refine WP.virtual (a := a) (argsL := []) (rest := [(.int (Int32.ofNat bs.length))]) d8_6 (rm_coder l Z a0 hw n0 h0 hO zc hcs hzc a D.2.1) D.1 (hw _ (List.mem_of_getElem? (i := 54) rfl)) (hw _ (List.mem_of_getElem? (i := 55) rfl)) (hw _ (List.mem_of_getElem? (i := 56) rfl)) (hw _ (List.mem_of_getElem? (i := 57) rfl)) (hw _ (List.mem_of_getElem? (i := 5) rfl)) (hw _ (List.mem_of_getElem? (i := 58) rfl)) (hw _ (List.mem_of_getElem? (i := 57) rfl)) (by decide) pd_7 rfl rfl rfl (nle rfl) (nle rfl) (nle rfl) (nle rfl) (fun _ q => nomatch q) (fun v h10 F' hq szh10 => ?_)
  obtain ⟨rfl, rfl⟩ := hq
  refine WP.ishr d8_9 ?_
  rw [shr0]
  exact WP.ireturn d8_10 rfl (t := .int) (by simp) rfl (by decide) (by decide) (G := []) (fun _ q => nomatch q) ⟨rfl, rfl⟩


set_option maxRecDepth 65536 in
set_option maxHeartbeats 4000000 in
theorem rm_nl (l : Launch) (Z : State) (a0 : Array Value) (hw : ∀ d ∈ tables_1, d.before a0 Z = true) (n0 : Nat) (h0 : Heap) (hO : Old Z n0 h0) (g : Nat) (hg : g < 18) :
    Met l Z consts_1 n0 [] (⟨"jdk/internal/util/ArraysSupport", "newLength", "(III)I"⟩ : MethodName) jdk_48_method_27_code 4 (some .int) ({ frames := 1, cells := 0, slots := 0, locals := 14 } : Room) #[.int (Int32.ofNat 16), .int (Int32.ofNat g), .int (Int32.ofNat 18)] [] h0 (QPure (some (.int (Int32.ofNat 34))) h0) := by
  have hEL := own_EW hw
  have hn0 : n0 ≤ h0.size := hO.1 ▸ hO.2.1
  refine Met.of (by decide +kernel) hEL hO (Ls := #[.val (.int (Int32.ofNat 16)), .val (.int (Int32.ofNat g)), .val (.int (Int32.ofNat 18)), .unset]) (fun m => by first | (simp [entryFrame, mkF, argsToLocals, Value.category]; done) | rfl) ?_
  refine WP.iload_n d15_0 rfl ?_
  refine WP.iload_n d15_1 rfl ?_
  refine WP.iload_n d15_2 rfl ?_
  refine WP.static (argsL := [(.int (Int32.ofNat g)), (.int (Int32.ofNat 18))]) (rest := [(.int (Int32.ofNat 16))]) d15_3 (rm_max l Z a0 hw n0 h0 hO (Int32.ofNat g) (Int32.ofNat 18)) (hw _ (List.mem_of_getElem? (i := 98) rfl)) (hw _ (List.mem_of_getElem? (i := 99) rfl)) (hw _ (List.mem_of_getElem? (i := 100) rfl)) (hw _ (List.mem_of_getElem? (i := 101) rfl)) (by decide) pd_14 rfl rfl rfl (nle rfl) (nle rfl) (nle rfl) (nle rfl) (fun _ q => nomatch q) (fun v h11 F' hq szh11 => ?_)
  obtain ⟨rfl, rfl⟩ := hq
  rw [show (if Int32.ofNat g < Int32.ofNat 18 then Int32.ofNat 18 else Int32.ofNat g) = (Int32.ofNat 18) from if_pos ((ofN_lt (by omega) (by omega)).mpr hg)]
  refine WP.iadd d15_6 ?_
  rw [show ((Int32.ofNat 16) + (Int32.ofNat 18)) = (Int32.ofNat 34) from ofN_add (by omega)]
  refine WP.istore_n d15_7 rfl (Ls' := #[.val (.int (Int32.ofNat 16)), .val (.int (Int32.ofNat g)), .val (.int (Int32.ofNat 18)), .val (.int (Int32.ofNat 34))]) rfl ?_
  refine WP.iconst d15_8 (v := (0 : Int32)) rfl ?_
  refine WP.iload_n d15_9 rfl ?_
  refine WP.icmp_ge d15_10 (fun hc10 => False.elim (hc10 (by decide))) (fun hc10 => ?_)
  refine WP.iload_n d15_13 rfl ?_
  refine WP.ldcI (v := (2147483639 : Int32)) d15_14 (hw _ (List.mem_of_getElem? (i := 102) rfl)) ?_
  refine WP.icmp_gt d15_16 (fun hc16 => False.elim (absurd hc16 (by decide))) (fun hc16 => ?_)
  refine WP.iload_n d15_19 rfl ?_
  exact WP.ireturn d15_20 rfl (t := .int) (by simp) rfl (by decide) (by decide) (G := []) (fun _ q => nomatch q) ⟨rfl, rfl⟩
set_option maxRecDepth 65536 in
set_option maxHeartbeats 4000000 in
theorem rm_nc (l : Launch) (Z : State) (a0 : Array Value) (hw : ∀ d ∈ tables_1, d.before a0 Z = true) (n0 : Nat) (h0 : Heap) (hO : Old Z n0 h0) (b t : Addr) (xs : List Int32) (m : Nat) (Fv : Fld Z h0 b "java/lang/AbstractStringBuilder" "value" "[B" (.ref t)) (Fc : Fld Z h0 b "java/lang/AbstractStringBuilder" "coder" "B" (.int 0)) (A : IA Z h0 t .byte xs) (h16 : xs.length = 16) (hm : 16 < m) (hm2 : m < 34) :
    Met l Z consts_1 n0 [] (⟨"java/lang/AbstractStringBuilder", "newCapacity", "(I)I"⟩ : MethodName) jdk_68_method_10_code 6 (some .int) ({ frames := 2, cells := 0, slots := 0, locals := 30 } : Room) #[.ref b, .int (Int32.ofNat m)] [] h0 (QPure (some (.int (Int32.ofNat 34))) h0) := by
  have hEL := own_EW hw
  have hn0 : n0 ≤ h0.size := hO.1 ▸ hO.2.1
  refine Met.of (by decide +kernel) hEL hO (Ls := #[.val (.ref b), .val (.int (Int32.ofNat m)), .unset, .unset, .unset, .unset]) (fun m => by first | (simp [entryFrame, mkF, argsToLocals, Value.category]; done) | rfl) ?_
  refine WP.aload_n d14_0 rfl rfl ?_
  refine WP.getfield (host := "") d14_1 (Or.inl (hw _ (List.mem_of_getElem? (i := 34) rfl))) Via.refl Fv ?_
  refine WP.arraylength d14_4 A ?_
  rw [show (Int32.ofNat xs.length) = (Int32.ofNat 16) from by rw [h16]]
  refine WP.istore_n d14_5 rfl (Ls' := #[.val (.ref b), .val (.int (Int32.ofNat m)), .val (.int (Int32.ofNat 16)), .unset, .unset, .unset]) rfl ?_
  refine WP.iload_n d14_6 rfl ?_
  refine WP.aload_n d14_7 rfl rfl ?_
  refine WP.getfield (host := "") d14_8 (Or.inl (hw _ (List.mem_of_getElem? (i := 36) rfl))) Via.refl Fc ?_
  refine WP.ishl d14_11 ?_
  rw [show ((Int32.ofNat m) <<< ((0 : Int32) &&& 31)) = (Int32.ofNat m) from shl0 _]
  refine WP.istore_n d14_12 rfl (Ls' := #[.val (.ref b), .val (.int (Int32.ofNat m)), .val (.int (Int32.ofNat 16)), .val (.int (Int32.ofNat m)), .unset, .unset]) rfl ?_
  refine WP.iload_n d14_13 rfl ?_
  refine WP.iload_n d14_14 rfl ?_
  refine WP.isub d14_15 ?_
  rw [show ((Int32.ofNat m) - (Int32.ofNat 16)) = (Int32.ofNat (m - 16)) from ofN_sub (by omega) (by omega)]
  refine WP.istore d14_16 rfl (Ls' := #[.val (.ref b), .val (.int (Int32.ofNat m)), .val (.int (Int32.ofNat 16)), .val (.int (Int32.ofNat m)), .val (.int (Int32.ofNat (m - 16))), .unset]) rfl ?_
  refine WP.iload_n d14_18 rfl ?_
  refine WP.iload d14_19 rfl ?_
  refine WP.iload_n d14_21 rfl ?_
  refine WP.iconst d14_22 (v := (2 : Int32)) rfl ?_
  refine WP.aload_n d14_23 rfl rfl ?_
  refine WP.getfield (host := "") d14_24 (Or.inl (hw _ (List.mem_of_getElem? (i := 36) rfl))) Via.refl Fc ?_
  refine WP.ishl d14_27 ?_
  rw [show ((2 : Int32) <<< ((0 : Int32) &&& 31)) = (Int32.ofNat 2) from shl0 _]
  refine WP.iadd d14_28 ?_
  rw [show ((Int32.ofNat 16) + (Int32.ofNat 2)) = (Int32.ofNat 18) from rfl]
  refine WP.static (argsL := [(.int (Int32.ofNat 16)), (.int (Int32.ofNat (m - 16))), (.int (Int32.ofNat 18))]) (rest := []) d14_29 (rm_nl l Z a0 hw n0 h0 hO (m - 16) (by omega)) (hw _ (List.mem_of_getElem? (i := 94) rfl)) (hw _ (List.mem_of_getElem? (i := 95) rfl)) (hw _ (List.mem_of_getElem? (i := 96) rfl)) (hw _ (List.mem_of_getElem? (i := 97) rfl)) (by decide) pd_13 rfl rfl rfl (nle rfl) (nle rfl) (nle rfl) (nle rfl) (fun _ q => nomatch q) (fun v h12 F' hq szh12 => ?_)
  obtain ⟨rfl, rfl⟩ := hq
  refine WP.istore d14_32 rfl (Ls' := #[.val (.ref b), .val (.int (Int32.ofNat m)), .val (.int (Int32.ofNat 16)), .val (.int (Int32.ofNat m)), .val (.int (Int32.ofNat (m - 16))), .val (.int (Int32.ofNat 34))]) rfl ?_
  refine WP.iload d14_34 rfl ?_
  refine WP.ldcI (v := (2147483647 : Int32)) d14_36 (hw _ (List.mem_of_getElem? (i := 103) rfl)) ?_
  refine WP.icmp_ne d14_38 (fun hc38 => ?_) (fun hc38 => False.elim (absurd hc38 (by decide)))
  refine WP.iload d14_51 rfl ?_
  refine WP.aload_n d14_53 rfl rfl ?_
  refine WP.getfield (host := "") d14_54 (Or.inl (hw _ (List.mem_of_getElem? (i := 36) rfl))) Via.refl Fc ?_
  refine WP.ishr d14_57 ?_
  rw [show ((Int32.ofNat 34) >>> ((0 : Int32) &&& 31)) = (Int32.ofNat 34) from shr0 _]
  exact WP.ireturn d14_58 rfl (t := .int) (by simp) rfl (by decide) (by decide) (G := []) (fun _ q => nomatch q) ⟨rfl, rfl⟩
abbrev QEc (Z : State) (b t : Addr) (bs : List Int32) (m : Nat) (h0 : Heap) (v : Option Value) (h : Heap) (F : List Addr) : Prop := ∃ t' C', F = [t'] ∧ v = none ∧ Keep h0 h [b] ∧ SBd Z h b t' bs C' ∧ m ≤ C' ∧ (t' = t ∨ h0.size ≤ t')
set_option maxRecDepth 65536 in
set_option maxHeartbeats 4000000 in
theorem rm_ec (l : Launch) (Z : State) (a0 : Array Value) (hw : ∀ d ∈ tables_1, d.before a0 Z = true) (n0 : Nat) (h0 : Heap) (hO : Old Z n0 h0) (b t : Addr) (bs : List Int32) (C m : Nat) (D : SBd Z h0 b t bs C) (hm : m < 34) (nb : n0 ≤ b) :
    Met l Z consts_1 n0 [] (⟨"java/lang/AbstractStringBuilder", "ensureCapacityInternal", "(I)V"⟩ : MethodName) jdk_68_method_9_code 3 none ({ frames := 3, cells := 1, slots := 34, locals := 56 } : Room) #[.ref b, .int (Int32.ofNat m)] [t] h0 (QEc Z b t bs m h0) := by
  have hEL := own_EW hw
  have hn0 : n0 ≤ h0.size := hO.1 ▸ hO.2.1
  refine Met.of (by decide +kernel) hEL hO (Ls := #[.val (.ref b), .val (.int (Int32.ofNat m)), .unset]) (fun m => by first | (simp [entryFrame, mkF, argsToLocals, Value.category]; done) | rfl) ?_
  obtain ⟨Eb, Fv, Fc, Fn, A, hC, hC2, fb⟩ := D
  have K : Keep h0 h0 [b] := Keep.refl _ _
  have lb := nlt Eb.lt
  have lt := nlt A.lt
  have nt : t ≠ b := (Exa.neIA Eb (hw _ (List.mem_of_getElem? (i := 19) rfl)) A).symm
  have hlen : (bs ++ List.replicate (C - bs.length) (0 : Int32)).length = C := by simp; omega
  refine WP.aload_n d10_0 rfl rfl ?_
  refine WP.getfield (host := "") d10_1 (Or.inl (hw _ (List.mem_of_getElem? (i := 34) rfl))) Via.refl Fv ?_
  refine WP.arraylength d10_4 A ?_
  rw [show (Int32.ofNat (bs ++ List.replicate (C - bs.length) (0 : Int32)).length) = (Int32.ofNat C) from by rw [hlen]]
  refine WP.aload_n d10_5 rfl rfl ?_
  refine WP.getfield (host := "") d10_6 (Or.inl (hw _ (List.mem_of_getElem? (i := 36) rfl))) Via.refl Fc ?_
  refine WP.ishr d10_9 ?_
  rw [show ((Int32.ofNat C) >>> ((0 : Int32) &&& 31)) = (Int32.ofNat C) from shr0 _]
  refine WP.istore_n d10_10 rfl (Ls' := #[.val (.ref b), .val (.int (Int32.ofNat m)), .val (.int (Int32.ofNat C))]) rfl ?_
  refine WP.iload_n d10_11 rfl ?_
  refine WP.iload_n d10_12 rfl ?_
  refine WP.isub d10_13 ?_
  refine WP.if_le d10_14 (fun hc14 => ?_) (fun hc14 => ?_)
  · have hle : m ≤ C := by
      refine Classical.byContradiction fun q => hc14 ?_
      rw [ofN_sub (by omega) (by omega)]
      exact (ofN_lt (i := 0) (by omega) (by omega)).mpr (by omega)
    exact WP.return_ d10_38 rfl (by decide) (by decide) (G := [t]) (by simp) ⟨t, C, rfl, rfl, K, ⟨Eb, Fv, Fc, Fn, A, hC, hC2, fb⟩, hle, Or.inl rfl⟩
  · have hgt : C < m := by
      refine Classical.byContradiction fun q => ?_
      have e : Int32.ofNat m - Int32.ofNat C = -(Int32.ofNat (C - m)) := by
        rw [← ofN_sub (by omega) (by omega)]; exact Int32.neg_sub.symm
      rw [e, Int32.lt_iff_toInt_lt, Int32.toInt_neg, Int32.toInt_ofNat_of_lt (by omega)] at hc14
      have : (0 : Int32).toInt = 0 := rfl
      rw [this] at hc14
      have q2 : (-((C - m : Nat) : Int)).bmod (2 ^ 32) = -((C - m : Nat) : Int) := Int.bmod_eq_of_le (by omega) (by omega)
      rw [q2] at hc14
      omega
    have h16 : C = 16 := by omega
    refine WP.aload_n d10_17 rfl rfl ?_
    refine WP.aload_n d10_18 rfl rfl ?_
    refine WP.getfield (host := "") d10_19 (Or.inl (hw _ (List.mem_of_getElem? (i := 34) rfl))) Via.refl Fv ?_
    refine WP.aload_n d10_22 rfl rfl ?_
    refine WP.iload_n d10_23 rfl ?_
    refine WP.privateV (a := b) (argsL := [(.int (Int32.ofNat m))]) (rest := [(.ref t), (.ref b)]) d10_24 (rm_nc l Z a0 hw n0 h0 hO b t _ m Fv Fc A (by rw [hlen]; exact h16) (by omega) hm) Eb (hw _ (List.mem_of_getElem? (i := 89) rfl)) (hw _ (List.mem_of_getElem? (i := 90) rfl)) (hw _ (List.mem_of_getElem? (i := 91) rfl)) (selfSelects (hw _ (List.mem_of_getElem? (i := 92) rfl)) (hw _ (List.mem_of_getElem? (i := 91) rfl)) (hw _ (List.mem_of_getElem? (i := 90) rfl)) (by decide)) (hw _ (List.mem_of_getElem? (i := 28) rfl)) (hw _ (List.mem_of_getElem? (i := 93) rfl)) (by decide) pd_12 rfl rfl rfl (nle rfl) (nle rfl) (nle rfl) (nle rfl) (fun _ q => nomatch q) (fun v h13 F' hq szh13 => ?_)
    obtain ⟨rfl, rfl⟩ := hq
    refine WP.aload_n d10_27 rfl rfl ?_
    refine WP.getfield (host := "") d10_28 (Or.inl (hw _ (List.mem_of_getElem? (i := 36) rfl))) Via.refl Fc ?_
    refine WP.ishl d10_31 ?_
    rw [show ((Int32.ofNat 34) <<< ((0 : Int32) &&& 31)) = (Int32.ofNat 34) from shl0 _]
    refine WP.static (argsL := [(.ref t), (.int (Int32.ofNat 34))]) (rest := [(.ref b)]) d10_32 (rm_co l Z a0 hw n0 h13 hO t _ 34 A (fb.app (FB.zero _)) (by rw [hlen]; omega) (by omega)) (hw _ (List.mem_of_getElem? (i := 104) rfl)) (hw _ (List.mem_of_getElem? (i := 105) rfl)) (hw _ (List.mem_of_getElem? (i := 106) rfl)) (hw _ (List.mem_of_getElem? (i := 107) rfl)) (by decide) pd_15 rfl rfl rfl (nle rfl) (nle rfl) (nle rfl) (nle rfl) (fun _ q => nomatch q) (fun v h14 F' hq szh14 => ?_)
    obtain ⟨t', hF, rfl, ht, K2, A'⟩ := hq
    subst hF
    have zt := K2.1
    have Eb := Eb.keep K2
    have Fv := Fv.keep K2 nin0
    have Fc := Fc.keep K2 nin0
    have Fn := Fn.keep K2 nin0
    have A := A.keep K2 nin0
    have K := K.trans K2 all0
    have hO := hO.keep K2 all0
    have lt' := nlt A'.lt
    have e : bs ++ List.replicate (C - bs.length) 0 ++ List.replicate (34 - (bs ++ List.replicate (C - bs.length) (0 : Int32)).length) 0 = bs ++ List.replicate (34 - bs.length) 0 := by
      rw [hlen, List.append_assoc, List.replicate_append_replicate, show C - bs.length + (34 - C) = 34 - bs.length from by omega]
    rw [e] at A'
    refine WP.putfield (host := "") d10_35 (Or.inl (hw _ (List.mem_of_getElem? (i := 34) rfl))) Via.refl Fv Eb (Or.inl (hw _ (List.mem_of_getElem? (i := 35) rfl))) (hw _ (List.mem_of_getElem? (i := 19) rfl)) (ty := (.array .byte)) (by decide) rfl rfl (by omega) (SafeBy.exa Eb) (fun h15 W16 => ?_)
    have zW16 := W16.size
    have Eb := Eb.wr W16
    have Fv := Fv.same W16
    have Fc := Fc.other W16 (Or.inr (slot_ne (Or.inl (hw _ (List.mem_of_getElem? (i := 37) rfl))) (Or.inl (hw _ (List.mem_of_getElem? (i := 35) rfl))) (by decide) (t := .byte) (t' := (.array .byte)) (by decide) (by decide)))
    have Fn := Fn.other W16 (Or.inr (slot_ne (Or.inl (hw _ (List.mem_of_getElem? (i := 62) rfl))) (Or.inl (hw _ (List.mem_of_getElem? (i := 35) rfl))) (by decide) (t := .int) (t' := (.array .byte)) (by decide) (by decide)))
    have A := A.other W16 nt
    have K := K.wr W16 (Or.inl (by simp))
    have hO := hO.wr W16 (by omega)
    have A' := A'.other W16 (nea (by omega))
    exact WP.return_ d10_38 rfl (by decide) (by decide) (G := [t']) (by simp) ⟨t', 34, rfl, rfl, K, ⟨Eb, Fv, Fc, Fn, A', by omega, Or.inr rfl, fb⟩, by omega, Or.inr (by omega)⟩

set_option maxRecDepth 65536 in
set_option maxHeartbeats 4000000 in
theorem rm_inf (l : Launch) (Z : State) (a0 : Array Value) (hw : ∀ d ∈ tables_1, d.before a0 Z = true) (n0 : Nat) (h0 : Heap) (hO : Old Z n0 h0) (zc : Int32) (hcs : Sta Z Z.heap "java/lang/String" "COMPACT_STRINGS" "Z" (.int zc)) (hzc : zc ≠ 0) (b : Addr) (Fc : Fld Z h0 b "java/lang/AbstractStringBuilder" "coder" "B" (.int 0)) (s ts : Addr) (cs : List Int32) (D : Str Z h0 s ts cs) :
    Met l Z consts_1 n0 [] (⟨"java/lang/AbstractStringBuilder", "inflateIfNeededFor", "(Ljava/lang/String;)V"⟩ : MethodName) jdk_68_method_71_code 2 none ({ frames := 1, cells := 0, slots := 0, locals := 13 } : Room) #[.ref b, .ref s] [] h0 (QPure none h0) := by
  have hEL := own_EW hw
  have hn0 : n0 ≤ h0.size := hO.1 ▸ hO.2.1
  refine Met.of (by decide +kernel) hEL hO (Ls := #[.val (.ref b), .val (.ref s)]) (fun m => by first | (simp [entryFrame, mkF, argsToLocals, Value.category]; done) | rfl) ?_
  refine WP.getstatic d12_0 (hw _ (List.mem_of_getElem? (i := 33) rfl)) Via.refl hcs ?_
  refine WP.if_eq d12_3 (fun hc3 => False.elim (hzc hc3)) (fun hc3 => ?_)
  refine WP.aload_n d12_6 rfl rfl ?_
  refine WP.getfield (host := "") d12_7 (Or.inl (hw _ (List.mem_of_getElem? (i := 36) rfl))) Via.refl Fc ?_
  refine WP.aload_n d12_10 rfl rfl ?_
  refine WP.virtual (a := s) (argsL := []) (rest := [(.int (0 : Int32))]) d12_11 (rm_coder l Z a0 hw n0 h0 hO zc hcs hzc s D.2.1) D.1 (hw _ (List.mem_of_getElem? (i := 78) rfl)) (hw _ (List.mem_of_getElem? (i := 55) rfl)) (hw _ (List.mem_of_getElem? (i := 56) rfl)) (hw _ (List.mem_of_getElem? (i := 57) rfl)) (hw _ (List.mem_of_getElem? (i := 5) rfl)) (hw _ (List.mem_of_getElem? (i := 58) rfl)) (hw _ (List.mem_of_getElem? (i := 57) rfl)) (by decide) pd_7 rfl rfl rfl (nle rfl) (nle rfl) (nle rfl) (nle rfl) (fun _ q => nomatch q) (fun v h17 F' hq szh17 => ?_)
  obtain ⟨rfl, rfl⟩ := hq
  refine WP.icmp_eq d12_14 (fun hc14 => ?_) (fun hc14 => False.elim (hc14 rfl))
  exact WP.return_ d12_21 rfl (by decide) (by decide) (G := []) (fun _ q => nomatch q) ⟨rfl, rfl⟩
abbrev QGb (Z : State) (t : Addr) (zs : List Int32) (h0 : Heap) (v : Option Value) (h : Heap) (F : List Addr) : Prop := v = none ∧ Keep h0 h [t] ∧ IA Z h t .byte zs
set_option maxRecDepth 65536 in
set_option maxHeartbeats 4000000 in
theorem rm_gb (l : Launch) (Z : State) (a0 : Array Value) (hw : ∀ d ∈ tables_1, d.before a0 Z = true) (n0 : Nat) (h0 : Heap) (hO : Old Z n0 h0) (zc : Int32) (hcs : Sta Z Z.heap "java/lang/String" "COMPACT_STRINGS" "Z" (.int zc)) (hzc : zc ≠ 0) (s ts : Addr) (cs : List Int32) (D : Str Z h0 s ts cs) (t : Addr) (ys : List Int32) (j : Nat) (A : IA Z h0 t .byte ys) (fc : FB cs) (fy : FB ys) (hj : j + cs.length ≤ ys.length) (nt : n0 ≤ t) :
    Met l Z consts_1 n0 [] (⟨"java/lang/String", "getBytes", "([BIB)V"⟩ : MethodName) jdk_42_method_147_code 4 none ({ frames := 1, cells := 0, slots := 0, locals := 40 } : Room) #[.ref s, .ref t, .int (Int32.ofNat j), .int 0] [t] h0 (QGb Z t (ys.take j ++ cs ++ ys.drop (j + cs.length)) h0) := by
  have hEL := own_EW hw
  have hn0 : n0 ≤ h0.size := hO.1 ▸ hO.2.1
  refine Met.of (by decide +kernel) hEL hO (Ls := #[.val (.ref s), .val (.ref t), .val (.int (Int32.ofNat j)), .val (.int 0)]) (fun m => by first | (simp [entryFrame, mkF, argsToLocals, Value.category]; done) | rfl) ?_
  refine WP.aload_n d13_0 rfl rfl ?_
  refine WP.virtual (a := s) (argsL := []) (rest := []) d13_1 (rm_coder l Z a0 hw n0 h0 hO zc hcs hzc s D.2.1) D.1 (hw _ (List.mem_of_getElem? (i := 54) rfl)) (hw _ (List.mem_of_getElem? (i := 55) rfl)) (hw _ (List.mem_of_getElem? (i := 56) rfl)) (hw _ (List.mem_of_getElem? (i := 57) rfl)) (hw _ (List.mem_of_getElem? (i := 5) rfl)) (hw _ (List.mem_of_getElem? (i := 58) rfl)) (hw _ (List.mem_of_getElem? (i := 57) rfl)) (by decide) pd_7 rfl rfl rfl (nle rfl) (nle rfl) (nle rfl) (nle rfl) (fun _ q => nomatch q) (fun v h18 F' hq szh18 => ?_)
  obtain ⟨rfl, rfl⟩ := hq
  refine WP.iload_n d13_4 rfl ?_
  refine WP.icmp_ne d13_5 (fun hc5 => False.elim (hc5 rfl)) (fun hc5 => ?_)
  refine WP.aload_n d13_8 rfl rfl ?_
  refine WP.getfield (host := "") d13_9 (Or.inl (hw _ (List.mem_of_getElem? (i := 53) rfl))) Via.refl D.2.2.1 ?_
  refine WP.iconst d13_12 (v := (0 : Int32)) rfl ?_
  refine WP.aload_n d13_13 rfl rfl ?_
  refine WP.iload_n d13_14 rfl ?_
  refine WP.iload_n d13_15 rfl ?_
  refine WP.ishl d13_16 ?_
  rw [show ((Int32.ofNat j) <<< ((0 : Int32) &&& 31)) = (Int32.ofNat j) from shl0 _]
  refine WP.aload_n d13_17 rfl rfl ?_
  refine WP.getfield (host := "") d13_18 (Or.inl (hw _ (List.mem_of_getElem? (i := 53) rfl))) Via.refl D.2.2.1 ?_
  refine WP.arraylength d13_21 D.2.2.2 ?_
  refine WP.arraycopyB (rest := []) d13_22 (hw _ (List.mem_of_getElem? (i := 84) rfl)) (hw _ (List.mem_of_getElem? (i := 87) rfl)) (hw _ (List.mem_of_getElem? (i := 85) rfl)) (hw _ (List.mem_of_getElem? (i := 86) rfl)) D.2.2.2 A fc fy (SafeBy.mem A.lt (by simp)) nt (i := 0) (j := j) (n := cs.length) rfl (Ix.ofNat (by have := A.len; omega)) (Ix.ofNat D.2.2.2.len) (by omega) hj rfl (nle rfl) (nle rfl) (fun h19 K2 B2 => ?_)
  have e : (cs.drop 0).take cs.length = cs := by simp
  rw [e] at B2
  refine WP.goto d13_25 ?_
  exact WP.return_ d13_43 rfl (by decide) (by decide) (G := []) (fun _ q => nomatch q) ⟨rfl, K2, B2⟩
set_option maxRecDepth 65536 in
set_option maxHeartbeats 4000000 in
theorem rm_ps (l : Launch) (Z : State) (a0 : Array Value) (hw : ∀ d ∈ tables_1, d.before a0 Z = true) (n0 : Nat) (h0 : Heap) (hO : Old Z n0 h0) (zc : Int32) (hcs : Sta Z Z.heap "java/lang/String" "COMPACT_STRINGS" "Z" (.int zc)) (hzc : zc ≠ 0) (b : Addr) (Eb : Exa Z h0 b "java/lang/StringBuilder") (s ts : Addr) (cs : List Int32) (D : Str Z h0 s ts cs) (t : Addr) (Fv : Fld Z h0 b "java/lang/AbstractStringBuilder" "value" "[B" (.ref t)) (Fc : Fld Z h0 b "java/lang/AbstractStringBuilder" "coder" "B" (.int 0)) (ys : List Int32) (j : Nat) (A : IA Z h0 t .byte ys) (fc : FB cs) (fy : FB ys) (hj : j + cs.length ≤ ys.length) (nt : n0 ≤ t) :
    Met l Z consts_1 n0 [] (⟨"java/lang/AbstractStringBuilder", "putStringAt", "(ILjava/lang/String;)V"⟩ : MethodName) jdk_68_method_73_code 3 none ({ frames := 2, cells := 0, slots := 0, locals := 55 } : Room) #[.ref b, .int (Int32.ofNat j), .ref s] [t] h0 (QGb Z t (ys.take j ++ cs ++ ys.drop (j + cs.length)) h0) := by
  have hEL := own_EW hw
  have hn0 : n0 ≤ h0.size := hO.1 ▸ hO.2.1
  refine Met.of (by decide +kernel) hEL hO (Ls := #[.val (.ref b), .val (.int (Int32.ofNat j)), .val (.ref s)]) (fun m => by first | (simp [entryFrame, mkF, argsToLocals, Value.category]; done) | rfl) ?_
  refine WP.aload_n d11_0 rfl rfl ?_
  refine WP.aload_n d11_1 rfl rfl ?_
  refine WP.privateV (a := b) (argsL := [(.ref s)]) (rest := []) d11_2 (rm_inf l Z a0 hw n0 h0 hO zc hcs hzc b Fc s ts cs D) Eb (hw _ (List.mem_of_getElem? (i := 73) rfl)) (hw _ (List.mem_of_getElem? (i := 74) rfl)) (hw _ (List.mem_of_getElem? (i := 75) rfl)) (selfSelects (hw _ (List.mem_of_getElem? (i := 76) rfl)) (hw _ (List.mem_of_getElem? (i := 75) rfl)) (hw _ (List.mem_of_getElem? (i := 74) rfl)) (by decide)) (hw _ (List.mem_of_getElem? (i := 28) rfl)) (hw _ (List.mem_of_getElem? (i := 77) rfl)) (by decide) pd_9 rfl rfl rfl (nle rfl) (nle rfl) (nle rfl) (nle rfl) (fun _ q => nomatch q) (fun v h20 F' hq szh20 => ?_)
  obtain ⟨rfl, rfl⟩ := hq
  refine WP.aload_n d11_5 rfl rfl ?_
  refine WP.aload_n d11_6 rfl rfl ?_
  refine WP.getfield (host := "") d11_7 (Or.inl (hw _ (List.mem_of_getElem? (i := 34) rfl))) Via.refl Fv ?_
  refine WP.iload_n d11_10 rfl ?_
  refine WP.aload_n d11_11 rfl rfl ?_
  refine WP.getfield (host := "") d11_12 (Or.inl (hw _ (List.mem_of_getElem? (i := 36) rfl))) Via.refl Fc ?_
  refine WP.virtual (a := s) (argsL := [(.ref t), (.int (Int32.ofNat j)), (.int (0 : Int32))]) (rest := []) d11_15 (rm_gb l Z a0 hw n0 h20 hO zc hcs hzc s ts cs D t ys j A fc fy hj nt) D.1 (hw _ (List.mem_of_getElem? (i := 79) rfl)) (hw _ (List.mem_of_getElem? (i := 80) rfl)) (hw _ (List.mem_of_getElem? (i := 81) rfl)) (hw _ (List.mem_of_getElem? (i := 82) rfl)) (hw _ (List.mem_of_getElem? (i := 5) rfl)) (hw _ (List.mem_of_getElem? (i := 83) rfl)) (hw _ (List.mem_of_getElem? (i := 82) rfl)) (by decide) pd_10 rfl rfl rfl (nle rfl) (nle rfl) (nle rfl) (nle rfl) (allS (SafeBy.mem A.lt (by simp)) all0) (fun v h21 F' hq szh21 => ?_)
  obtain ⟨rfl, K2, B2⟩ := hq
  exact WP.return_ d11_18 rfl (by decide) (by decide) (G := []) (fun _ q => nomatch q) ⟨rfl, K2, B2⟩
abbrev QAp (Z : State) (b t : Addr) (zs : List Int32) (h0 : Heap) (v : Option Value) (h : Heap) (F : List Addr) : Prop := ∃ t' C', F = [t'] ∧ v = some (.ref b) ∧ Keep h0 h [b, t] ∧ SBd Z h b t' zs C' ∧ (t' = t ∨ h0.size ≤ t')
set_option maxRecDepth 65536 in
set_option maxHeartbeats 4000000 in
theorem rm_ap (l : Launch) (Z : State) (a0 : Array Value) (hw : ∀ d ∈ tables_1, d.before a0 Z = true) (n0 : Nat) (h0 : Heap) (hO : Old Z n0 h0) (zc : Int32) (hcs : Sta Z Z.heap "java/lang/String" "COMPACT_STRINGS" "Z" (.int zc)) (hzc : zc ≠ 0) (b t : Addr) (bs : List Int32) (C : Nat) (B : SBd Z h0 b t bs C) (s ts : Addr) (cs : List Int32) (D : Str Z h0 s ts cs) (fc : FB cs) (hm : bs.length + cs.length < 34) (nb : n0 ≤ b) (nt : n0 ≤ t) :
    Met l Z consts_1 n0 [] (⟨"java/lang/AbstractStringBuilder", "append", "(Ljava/lang/String;)Ljava/lang/AbstractStringBuilder;"⟩ : MethodName) jdk_68_method_22_code 3 (some (.object "java/lang/AbstractStringBuilder")) ({ frames := 4, cells := 1, slots := 34, locals := 70 } : Room) #[.ref b, .ref s] [t] h0 (QAp Z b t (bs ++ cs) h0) := by
  have hEL := own_EW hw
  have hn0 : n0 ≤ h0.size := hO.1 ▸ hO.2.1
  refine Met.of (by decide +kernel) hEL hO (Ls := #[.val (.ref b), .val (.ref s), .unset]) (fun m => by first | (simp [entryFrame, mkF, argsToLocals, Value.category]; done) | rfl) ?_
  have hb0 := nlt B.lt
  have ht0 := nlt B.ltT
  have nsb : s ≠ b := Jvm.RoadKit.Exa.ne D.1 B.1 (by decide)
  have ntb : ts ≠ b := (Exa.neIA B.1 (hw _ (List.mem_of_getElem? (i := 19) rfl)) D.2.2.2).symm
  have hDl := D.2.2.2.len
  refine WP.aload_n d7_0 rfl rfl ?_
  refine WP.ifnonnull d7_1 rfl (fun _ _ => ?_) (fun q => nomatch q)
  refine WP.aload_n d7_9 rfl rfl ?_
  refine WP.virtual (a := s) (argsL := []) (rest := []) d7_10 (rm_len l Z a0 hw n0 h0 hO zc hcs hzc s ts cs D) D.1 (hw _ (List.mem_of_getElem? (i := 48) rfl)) (hw _ (List.mem_of_getElem? (i := 49) rfl)) (hw _ (List.mem_of_getElem? (i := 50) rfl)) (hw _ (List.mem_of_getElem? (i := 51) rfl)) (hw _ (List.mem_of_getElem? (i := 5) rfl)) (hw _ (List.mem_of_getElem? (i := 52) rfl)) (hw _ (List.mem_of_getElem? (i := 51) rfl)) (by decide) pd_6 rfl rfl rfl (nle rfl) (nle rfl) (nle rfl) (nle rfl) (fun _ q => nomatch q) (fun v h22 F' hq szh22 => ?_)
  obtain ⟨rfl, hh⟩ := hq
  subst h22
  refine WP.istore_n d7_13 rfl (Ls' := #[.val (.ref b), .val (.ref s), .val (.int (Int32.ofNat cs.length))]) rfl ?_
  refine WP.aload_n d7_14 rfl rfl ?_
  refine WP.aload_n d7_15 rfl rfl ?_
  refine WP.getfield (host := "") d7_16 (Or.inl (hw _ (List.mem_of_getElem? (i := 61) rfl))) Via.refl B.2.2.2.1 ?_
  refine WP.iload_n d7_19 rfl ?_
  refine WP.iadd d7_20 ?_
  rw [show ((Int32.ofNat bs.length) + (Int32.ofNat cs.length)) = (Int32.ofNat (bs.length + cs.length)) from ofN_add (by omega)]
  refine WP.privateV (a := b) (argsL := [(.int (Int32.ofNat (bs.length + cs.length)))]) (rest := []) d7_21 (rm_ec l Z a0 hw n0 h0 hO b t bs C (bs.length + cs.length) B hm nb) B.1 (hw _ (List.mem_of_getElem? (i := 63) rfl)) (hw _ (List.mem_of_getElem? (i := 64) rfl)) (hw _ (List.mem_of_getElem? (i := 65) rfl)) (selfSelects (hw _ (List.mem_of_getElem? (i := 66) rfl)) (hw _ (List.mem_of_getElem? (i := 65) rfl)) (hw _ (List.mem_of_getElem? (i := 64) rfl)) (by decide)) (hw _ (List.mem_of_getElem? (i := 28) rfl)) (hw _ (List.mem_of_getElem? (i := 67) rfl)) (by decide) pd_3 rfl rfl rfl (nle rfl) (nle rfl) (nle rfl) (nle rfl) (allS (SafeBy.mem B.ltT (by simp)) all0) (fun v h23 F' hq szh23 => ?_)
  obtain ⟨t', C', hF, rfl, K1, B', hmC, ho⟩ := hq
  subst hF
  have D := D.keep K1 (by simpa using nsb) (by simpa using ntb)
  have hO1 := hO.keep K1 (allS nb all0)
  have hz1 := K1.1
  have lt1 := nlt B'.ltT
  have nt1 : t' ≠ b := (Exa.neIA B'.1 (hw _ (List.mem_of_getElem? (i := 19) rfl)) B'.2.2.2.2.1).symm
  have n1 : n0 ≤ t' := by
    rcases ho with rfl | ho
    · exact nt
    · omega
  obtain ⟨Eb, Fv, Fc, Fn, A, hC, hC2, fb⟩ := B'
  have hlen : (bs ++ List.replicate (C' - bs.length) (0 : Int32)).length = C' := by simp; omega
  refine WP.aload_n d7_24 rfl rfl ?_
  refine WP.aload_n d7_25 rfl rfl ?_
  refine WP.getfield (host := "") d7_26 (Or.inl (hw _ (List.mem_of_getElem? (i := 61) rfl))) Via.refl Fn ?_
  refine WP.aload_n d7_29 rfl rfl ?_
  refine WP.privateV (a := b) (argsL := [(.int (Int32.ofNat bs.length)), (.ref s)]) (rest := []) d7_30 (rm_ps l Z a0 hw n0 h23 hO1 zc hcs hzc b Eb s ts cs D t' Fv Fc _ bs.length A fc (fb.app (FB.zero _)) (by rw [hlen]; omega) n1) Eb (hw _ (List.mem_of_getElem? (i := 68) rfl)) (hw _ (List.mem_of_getElem? (i := 69) rfl)) (hw _ (List.mem_of_getElem? (i := 70) rfl)) (selfSelects (hw _ (List.mem_of_getElem? (i := 71) rfl)) (hw _ (List.mem_of_getElem? (i := 70) rfl)) (hw _ (List.mem_of_getElem? (i := 69) rfl)) (by decide)) (hw _ (List.mem_of_getElem? (i := 28) rfl)) (hw _ (List.mem_of_getElem? (i := 72) rfl)) (by decide) pd_8 rfl rfl rfl (nle rfl) (nle rfl) (nle rfl) (nle rfl) (allS (SafeBy.mem A.lt (by simp)) all0) (fun v h24 F' hq szh24 => ?_)
  obtain ⟨rfl, K2, B2⟩ := hq
  have hz2 := K2.1
  have Eb := Eb.keep K2
  have Fv := Fv.keep K2 (ninS nt1.symm nin0)
  have Fc := Fc.keep K2 (ninS nt1.symm nin0)
  have Fn := Fn.keep K2 (ninS nt1.symm nin0)
  have e : (bs ++ List.replicate (C' - bs.length) (0 : Int32)).take bs.length ++ cs ++ (bs ++ List.replicate (C' - bs.length) (0 : Int32)).drop (bs.length + cs.length) = (bs ++ cs) ++ List.replicate (C' - (bs ++ cs).length) 0 := by
    simp [Nat.sub_sub]
  rw [e] at B2
  refine WP.aload_n d7_33 rfl rfl ?_
  refine WP.dup d7_34 rfl ?_
  refine WP.getfield (host := "") d7_35 (Or.inl (hw _ (List.mem_of_getElem? (i := 61) rfl))) Via.refl Fn ?_
  refine WP.iload_n d7_38 rfl ?_
  refine WP.iadd d7_39 ?_
  rw [show ((Int32.ofNat bs.length) + (Int32.ofNat cs.length)) = (Int32.ofNat (bs.length + cs.length)) from ofN_add (by omega)]
  refine WP.putfield (host := "") d7_40 (Or.inl (hw _ (List.mem_of_getElem? (i := 61) rfl))) Via.refl Fn Eb (Or.inl (hw _ (List.mem_of_getElem? (i := 62) rfl))) (hw _ (List.mem_of_getElem? (i := 19) rfl)) (ty := .int) (by decide) rfl rfl nb (SafeBy.exa Eb) (fun h25 W26 => ?_)
  have zW26 := W26.size
  have Eb := Eb.wr W26
  have Fv := Fv.other W26 (Or.inr (slot_ne (Or.inl (hw _ (List.mem_of_getElem? (i := 35) rfl))) (Or.inl (hw _ (List.mem_of_getElem? (i := 62) rfl))) (by decide) (t := (.array .byte)) (t' := .int) (by decide) (by decide)))
  have Fc := Fc.other W26 (Or.inr (slot_ne (Or.inl (hw _ (List.mem_of_getElem? (i := 37) rfl))) (Or.inl (hw _ (List.mem_of_getElem? (i := 62) rfl))) (by decide) (t := .byte) (t' := .int) (by decide) (by decide)))
  have Fn := Fn.same W26
  have B2 := B2.other W26 nt1
  refine WP.aload_n d7_43 rfl rfl ?_
  have K : Keep h0 h25 [b, t] := by
    refine ((((Keep.refl h0 [b, t]).trans K1 (allS (Or.inl (by simp)) all0)).trans K2 (allS ?_ all0)).wr W26 (Or.inl (by simp)))
    rcases ho with rfl | ho
    · exact Or.inl (by simp)
    · exact Or.inr ho
  have hn : bs.length + cs.length = (bs ++ cs).length := by simp
  rw [hn] at Fn
  exact WP.areturn d7_44 rfl rfl rfl (by decide) (by decide) (G := [t']) (by simp) ⟨t', C', rfl, rfl, K, ⟨Eb, Fv, Fc, Fn, B2, by rw [← hn]; exact hmC, hC2, fb.app fc⟩, ho⟩
set_option maxRecDepth 65536 in
set_option maxHeartbeats 4000000 in
theorem rm_sap (l : Launch) (Z : State) (a0 : Array Value) (hw : ∀ d ∈ tables_1, d.before a0 Z = true) (n0 : Nat) (h0 : Heap) (hO : Old Z n0 h0) (zc : Int32) (hcs : Sta Z Z.heap "java/lang/String" "COMPACT_STRINGS" "Z" (.int zc)) (hzc : zc ≠ 0) (b t : Addr) (bs : List Int32) (C : Nat) (B : SBd Z h0 b t bs C) (s ts : Addr) (cs : List Int32) (D : Str Z h0 s ts cs) (fc : FB cs) (hm : bs.length + cs.length < 34) (nb : n0 ≤ b) (nt : n0 ≤ t) :
    Met l Z consts_1 n0 [] (⟨"java/lang/StringBuilder", "append", "(Ljava/lang/String;)Ljava/lang/StringBuilder;"⟩ : MethodName) jdk_67_method_7_code 2 (some (.object "java/lang/StringBuilder")) ({ frames := 5, cells := 1, slots := 34, locals := 84 } : Room) #[.ref b, .ref s] [t] h0 (QAp Z b t (bs ++ cs) h0) := by
  have hEL := own_EW hw
  have hn0 : n0 ≤ h0.size := hO.1 ▸ hO.2.1
  refine Met.of (by decide +kernel) hEL hO (Ls := #[.val (.ref b), .val (.ref s)]) (fun m => by first | (simp [entryFrame, mkF, argsToLocals, Value.category]; done) | rfl) ?_
  refine WP.aload_n d6_0 rfl rfl ?_
  refine WP.aload_n d6_1 rfl rfl ?_
  refine WP.superS (a := b) (argsL := [(.ref s)]) (rest := []) d6_2 (rm_ap l Z a0 hw n0 h0 hO zc hcs hzc b t bs C B s ts cs D fc hm nb nt) B.1 (hw _ (List.mem_of_getElem? (i := 43) rfl)) (selfSame (hw _ (List.mem_of_getElem? (i := 66) rfl)) rfl (hw _ (List.mem_of_getElem? (i := 44) rfl)) (by decide)) (hw _ (List.mem_of_getElem? (i := 44) rfl)) (hw _ (List.mem_of_getElem? (i := 45) rfl)) (by decide) (hw _ (List.mem_of_getElem? (i := 28) rfl)) (hw _ (List.mem_of_getElem? (i := 47) rfl)) pd_5 rfl rfl rfl (nle rfl) (nle rfl) (nle rfl) (nle rfl) (allS (SafeBy.mem B.ltT (by simp)) all0) (fun v h27 F' hq szh27 => ?_)
  obtain ⟨t', C', hF, rfl, K, r⟩ := hq
  subst hF
  refine WP.pop d6_5 rfl ?_
  refine WP.aload_n d6_6 rfl rfl ?_
  exact WP.areturn d6_7 rfl rfl rfl (by decide) (by decide) (G := [t']) (by simp) ⟨t', C', rfl, rfl, K, r⟩

abbrev QSi (Z : State) (b : Addr) (h0 : Heap) (v : Option Value) (h : Heap) (F : List Addr) : Prop := ∃ t, F = [t] ∧ v = none ∧ h0.size ≤ t ∧ Keep h0 h [b] ∧ SBd Z h b t [] 16
set_option maxRecDepth 65536 in
set_option maxHeartbeats 4000000 in
theorem rm_ai (l : Launch) (Z : State) (a0 : Array Value) (hw : ∀ d ∈ tables_1, d.before a0 Z = true) (n0 : Nat) (h0 : Heap) (hO : Old Z n0 h0) (zc : Int32) (hcs : Sta Z Z.heap "java/lang/String" "COMPACT_STRINGS" "Z" (.int zc)) (hzc : zc ≠ 0) (b : Addr) (Eb : Exa Z h0 b "java/lang/StringBuilder") (Fv : Fld Z h0 b "java/lang/AbstractStringBuilder" "value" "[B" .null) (Fc : Fld Z h0 b "java/lang/AbstractStringBuilder" "coder" "B" (.int 0)) (Fn : Fld Z h0 b "java/lang/AbstractStringBuilder" "count" "I" (.int 0)) (nb : n0 ≤ b) :
    Met l Z consts_1 n0 [] (⟨"java/lang/AbstractStringBuilder", "<init>", "(I)V"⟩ : MethodName) jdk_68_method_2_code 2 none ({ frames := 1, cells := 1, slots := 16, locals := 12 } : Room) #[.ref b, .int 16] [] h0 (QSi Z b h0) := by
  have hEL := own_EW hw
  have hn0 : n0 ≤ h0.size := hO.1 ▸ hO.2.1
  refine Met.of (by decide +kernel) hEL hO (Ls := #[.val (.ref b), .val (.int 16)]) (fun m => by first | (simp [entryFrame, mkF, argsToLocals, Value.category]; done) | rfl) ?_
  have K : Keep h0 h0 [b] := Keep.refl _ _
  have lb := nlt Eb.lt
  refine WP.aload_n d4_0 rfl rfl ?_
  refine WP.initObject d4_1 (hw _ (List.mem_of_getElem? (i := 30) rfl)) (hw _ (List.mem_of_getElem? (i := 31) rfl)) (hw _ (List.mem_of_getElem? (i := 32) rfl)) rfl (nle rfl) (nle rfl) ?_
  refine WP.getstatic d4_4 (hw _ (List.mem_of_getElem? (i := 33) rfl)) Via.refl hcs ?_
  refine WP.if_eq d4_7 (fun hc7 => False.elim (hzc hc7)) (fun hc7 => ?_)
  refine WP.aload_n d4_10 rfl rfl ?_
  refine WP.iload_n d4_11 rfl ?_
  refine WP.newarray d4_12 (hw _ (List.mem_of_getElem? (i := 7) rfl)) rfl (i := 16) (cap := 16) rfl (nle rfl) (nle rfl) (nle rfl) (nle rfl) (fun h28 t gt Et At => ?_)
  have Eb := Eb.ext Et
  have Fv := Fv.ext Et
  have Fc := Fc.ext Et
  have Fn := Fn.ext Et
  have K := K.ext Et
  have lt := nlt At.lt
  have zt := Et.1
  refine WP.putfield (host := "") d4_14 (Or.inl (hw _ (List.mem_of_getElem? (i := 34) rfl))) Via.refl Fv Eb (Or.inl (hw _ (List.mem_of_getElem? (i := 35) rfl))) (hw _ (List.mem_of_getElem? (i := 19) rfl)) (ty := (.array .byte)) (by decide) rfl rfl (by omega) (SafeBy.exa Eb) (fun h29 W30 => ?_)
  have zW30 := W30.size
  have Eb := Eb.wr W30
  have Fv := Fv.same W30
  have Fc := Fc.other W30 (Or.inr (slot_ne (Or.inl (hw _ (List.mem_of_getElem? (i := 37) rfl))) (Or.inl (hw _ (List.mem_of_getElem? (i := 35) rfl))) (by decide) (t := .byte) (t' := (.array .byte)) (by decide) (by decide)))
  have Fn := Fn.other W30 (Or.inr (slot_ne (Or.inl (hw _ (List.mem_of_getElem? (i := 62) rfl))) (Or.inl (hw _ (List.mem_of_getElem? (i := 35) rfl))) (by decide) (t := .int) (t' := (.array .byte)) (by decide) (by decide)))
  have K := K.wr W30 (Or.inl (by simp))
  have At := At.other W30 (nea (by omega))
  refine WP.aload_n d4_17 rfl rfl ?_
  refine WP.iconst d4_18 (v := (0 : Int32)) rfl ?_
  refine WP.putfield (host := "") d4_19 (Or.inl (hw _ (List.mem_of_getElem? (i := 36) rfl))) Via.refl Fc Eb (Or.inl (hw _ (List.mem_of_getElem? (i := 37) rfl))) (hw _ (List.mem_of_getElem? (i := 19) rfl)) (ty := .byte) (by decide) rfl rfl (by omega) (SafeBy.exa Eb) (fun h31 W32 => ?_)
  have zW32 := W32.size
  have Eb := Eb.wr W32
  have Fv := Fv.other W32 (Or.inr (slot_ne (Or.inl (hw _ (List.mem_of_getElem? (i := 35) rfl))) (Or.inl (hw _ (List.mem_of_getElem? (i := 37) rfl))) (by decide) (t := (.array .byte)) (t' := .byte) (by decide) (by decide)))
  have Fc := Fc.same W32
  have Fn := Fn.other W32 (Or.inr (slot_ne (Or.inl (hw _ (List.mem_of_getElem? (i := 62) rfl))) (Or.inl (hw _ (List.mem_of_getElem? (i := 37) rfl))) (by decide) (t := .int) (t' := .byte) (by decide) (by decide)))
  have K := K.wr W32 (Or.inl (by simp))
  have At := At.other W32 (nea (by omega))
  refine WP.goto d4_22 ?_
  exact WP.return_ d4_38 rfl (by decide) (by decide) (G := [t]) (by simp) ⟨t, rfl, rfl, by omega, K, Eb, Fv, Fc, Fn, At, by simp, Or.inl rfl, FB.nil⟩
set_option maxRecDepth 65536 in
set_option maxHeartbeats 4000000 in
theorem rm_si (l : Launch) (Z : State) (a0 : Array Value) (hw : ∀ d ∈ tables_1, d.before a0 Z = true) (n0 : Nat) (h0 : Heap) (hO : Old Z n0 h0) (zc : Int32) (hcs : Sta Z Z.heap "java/lang/String" "COMPACT_STRINGS" "Z" (.int zc)) (hzc : zc ≠ 0) (b : Addr) (Eb : Exa Z h0 b "java/lang/StringBuilder") (Fv : Fld Z h0 b "java/lang/AbstractStringBuilder" "value" "[B" .null) (Fc : Fld Z h0 b "java/lang/AbstractStringBuilder" "coder" "B" (.int 0)) (Fn : Fld Z h0 b "java/lang/AbstractStringBuilder" "count" "I" (.int 0)) (nb : n0 ≤ b) :
    Met l Z consts_1 n0 [] (⟨"java/lang/StringBuilder", "<init>", "()V"⟩ : MethodName) jdk_67_method_1_code 1 none ({ frames := 2, cells := 1, slots := 16, locals := 25 } : Room) #[.ref b] [] h0 (QSi Z b h0) := by
  have hEL := own_EW hw
  have hn0 : n0 ≤ h0.size := hO.1 ▸ hO.2.1
  refine Met.of (by decide +kernel) hEL hO (Ls := #[.val (.ref b)]) (fun m => by first | (simp [entryFrame, mkF, argsToLocals, Value.category]; done) | rfl) ?_
  refine WP.aload_n d3_0 rfl rfl ?_
  refine WP.bipush d3_1 (v := (16 : Int32)) rfl ?_
  refine WP.special (a := b) (argsL := [(.int (16 : Int32))]) (rest := []) d3_3 (rm_ai l Z a0 hw n0 h0 hO zc hcs hzc b Eb Fv Fc Fn nb) rfl (hw _ (List.mem_of_getElem? (i := 24) rfl)) (hw _ (List.mem_of_getElem? (i := 25) rfl)) (hw _ (List.mem_of_getElem? (i := 28) rfl)) (hw _ (List.mem_of_getElem? (i := 29) rfl)) (by decide) pd_3 rfl rfl rfl (nle rfl) (nle rfl) (nle rfl) (nle rfl) (fun _ q => nomatch q) (fun v h33 F' hq szh33 => ?_)
  obtain ⟨t, hF, rfl, r⟩ := hq
  subst hF
  exact WP.return_ d3_6 rfl (by decide) (by decide) (G := [t]) (by simp) ⟨t, rfl, rfl, r⟩
set_option maxRecDepth 65536 in
set_option maxHeartbeats 4000000 in
theorem rm_gvm (l : Launch) (Z : State) (a0 : Array Value) (hw : ∀ d ∈ tables_1, d.before a0 Z = true) (n0 : Nat) (h0 : Heap) (hO : Old Z n0 h0) (b t : Addr) (bs : List Int32) (C : Nat) (D : SBd Z h0 b t bs C) :
    Met l Z consts_1 n0 [] (⟨"java/lang/AbstractStringBuilder", "getValue", "()[B"⟩ : MethodName) jdk_68_method_64_code 1 (some (.array .byte)) ({ frames := 0, cells := 0, slots := 0, locals := 0 } : Room) #[.ref b] [] h0 (QPure (some (.ref t)) h0) := by
  have hEL := own_EW hw
  have hn0 : n0 ≤ h0.size := hO.1 ▸ hO.2.1
  refine Met.of (by decide +kernel) hEL hO (Ls := #[.val (.ref b)]) (fun m => by first | (simp [entryFrame, mkF, argsToLocals, Value.category]; done) | rfl) ?_
  refine WP.aload_n d22_0 rfl rfl ?_
  refine WP.getfield (host := "") d22_1 (Or.inl (hw _ (List.mem_of_getElem? (i := 34) rfl))) Via.refl D.2.1 ?_
  exact WP.areturn d22_4 rfl rfl rfl (by decide) (by decide) (G := []) (fun _ q => nomatch q) ⟨rfl, rfl⟩
set_option maxRecDepth 65536 in
set_option maxHeartbeats 4000000 in
theorem rm_ale (l : Launch) (Z : State) (a0 : Array Value) (hw : ∀ d ∈ tables_1, d.before a0 Z = true) (n0 : Nat) (h0 : Heap) (hO : Old Z n0 h0) (b t : Addr) (bs : List Int32) (C : Nat) (D : SBd Z h0 b t bs C) :
    Met l Z consts_1 n0 [] (⟨"java/lang/AbstractStringBuilder", "length", "()I"⟩ : MethodName) jdk_68_method_6_code 1 (some .int) ({ frames := 0, cells := 0, slots := 0, locals := 0 } : Room) #[.ref b] [] h0 (QPure (some (.int (Int32.ofNat bs.length))) h0) := by
  have hEL := own_EW hw
  have hn0 : n0 ≤ h0.size := hO.1 ▸ hO.2.1
  refine Met.of (by decide +kernel) hEL hO (Ls := #[.val (.ref b)]) (fun m => by first | (simp [entryFrame, mkF, argsToLocals, Value.category]; done) | rfl) ?_
  refine WP.aload_n d24_0 rfl rfl ?_
  refine WP.getfield (host := "") d24_1 (Or.inl (hw _ (List.mem_of_getElem? (i := 61) rfl))) Via.refl D.2.2.2.1 ?_
  exact WP.ireturn d24_4 rfl (t := .int) (by simp) rfl (by decide) (by decide) (G := []) (fun _ q => nomatch q) ⟨rfl, rfl⟩
set_option maxRecDepth 65536 in
set_option maxHeartbeats 4000000 in
theorem rm_sle (l : Launch) (Z : State) (a0 : Array Value) (hw : ∀ d ∈ tables_1, d.before a0 Z = true) (n0 : Nat) (h0 : Heap) (hO : Old Z n0 h0) (b t : Addr) (bs : List Int32) (C : Nat) (D : SBd Z h0 b t bs C) :
    Met l Z consts_1 n0 [] (⟨"java/lang/StringBuilder", "length", "()I"⟩ : MethodName) jdk_67_method_93_code 1 (some .int) ({ frames := 1, cells := 0, slots := 0, locals := 12 } : Room) #[.ref b] [] h0 (QPure (some (.int (Int32.ofNat bs.length))) h0) := by
  have hEL := own_EW hw
  have hn0 : n0 ≤ h0.size := hO.1 ▸ hO.2.1
  refine Met.of (by decide +kernel) hEL hO (Ls := #[.val (.ref b)]) (fun m => by first | (simp [entryFrame, mkF, argsToLocals, Value.category]; done) | rfl) ?_
  refine WP.aload_n d23_0 rfl rfl ?_
  refine WP.superS (a := b) (argsL := []) (rest := []) d23_1 (rm_ale l Z a0 hw n0 h0 hO b t bs C D) D.1 (hw _ (List.mem_of_getElem? (i := 139) rfl)) (selfSame (hw _ (List.mem_of_getElem? (i := 66) rfl)) rfl (hw _ (List.mem_of_getElem? (i := 135) rfl)) (by decide)) (hw _ (List.mem_of_getElem? (i := 135) rfl)) (hw _ (List.mem_of_getElem? (i := 45) rfl)) (by decide) (hw _ (List.mem_of_getElem? (i := 28) rfl)) (hw _ (List.mem_of_getElem? (i := 140) rfl)) pd_6 rfl rfl rfl (nle rfl) (nle rfl) (nle rfl) (nle rfl) (fun _ q => nomatch q) (fun v h34 F' hq szh34 => ?_)
  obtain ⟨rfl, rfl⟩ := hq
  exact WP.ireturn d23_4 rfl (t := .int) (by simp) rfl (by decide) (by decide) (G := []) (fun _ q => nomatch q) ⟨rfl, rfl⟩
set_option maxRecDepth 65536 in
set_option maxHeartbeats 4000000 in
theorem rm_ail (l : Launch) (Z : State) (a0 : Array Value) (hw : ∀ d ∈ tables_1, d.before a0 Z = true) (n0 : Nat) (h0 : Heap) (hO : Old Z n0 h0) (zc : Int32) (hcs : Sta Z Z.heap "java/lang/String" "COMPACT_STRINGS" "Z" (.int zc)) (hzc : zc ≠ 0) (b t : Addr) (bs : List Int32) (C : Nat) (D : SBd Z h0 b t bs C) :
    Met l Z consts_1 n0 [] (⟨"java/lang/AbstractStringBuilder", "isLatin1", "()Z"⟩ : MethodName) jdk_68_method_68_code 1 (some .boolean) ({ frames := 0, cells := 0, slots := 0, locals := 0 } : Room) #[.ref b] [] h0 (QPure (some (.int 1)) h0) := by
  have hEL := own_EW hw
  have hn0 : n0 ≤ h0.size := hO.1 ▸ hO.2.1
  refine Met.of (by decide +kernel) hEL hO (Ls := #[.val (.ref b)]) (fun m => by first | (simp [entryFrame, mkF, argsToLocals, Value.category]; done) | rfl) ?_
  refine WP.getstatic d25_0 (hw _ (List.mem_of_getElem? (i := 33) rfl)) Via.refl hcs ?_
  refine WP.if_eq d25_3 (fun hc3 => False.elim (hzc hc3)) (fun hc3 => ?_)
  refine WP.aload_n d25_6 rfl rfl ?_
  refine WP.getfield (host := "") d25_7 (Or.inl (hw _ (List.mem_of_getElem? (i := 36) rfl))) Via.refl D.2.2.1 ?_
  refine WP.if_ne d25_10 (fun hc10 => False.elim (hc10 rfl)) (fun hc10 => ?_)
  refine WP.iconst d25_13 (v := (1 : Int32)) rfl ?_
  refine WP.goto d25_14 ?_
  exact WP.ireturn d25_18 rfl (t := .boolean) (by simp) rfl (by decide) (by decide) (G := []) (fun _ q => nomatch q) ⟨rfl, rfl⟩
abbrev QI5 (Z : State) (a : Addr) (bs : List Int32) (h0 : Heap) (v : Option Value) (h : Heap) (F : List Addr) : Prop := v = none ∧ Keep h0 h [a] ∧ ∃ t, h0.size ≤ t ∧ Str Z h a t bs
set_option maxRecDepth 65536 in
set_option maxHeartbeats 4000000 in
theorem rm_i5 (l : Launch) (Z : State) (a0 : Array Value) (hw : ∀ d ∈ tables_1, d.before a0 Z = true) (n0 : Nat) (h0 : Heap) (hO : Old Z n0 h0) (zc : Int32) (hcs : Sta Z Z.heap "java/lang/String" "COMPACT_STRINGS" "Z" (.int zc)) (hzc : zc ≠ 0) (a b t : Addr) (bs : List Int32) (C : Nat) (E : Exa Z h0 a "java/lang/String") (Fv : Fld Z h0 a "java/lang/String" "value" "[B" .null) (Fc : Fld Z h0 a "java/lang/String" "coder" "B" (.int 0)) (D : SBd Z h0 b t bs C) (hC : bs.length < C) (hC34 : C ≤ 34) (na : n0 ≤ a) :
    Met l Z consts_1 n0 [] (⟨"java/lang/String", "<init>", "(Ljava/lang/AbstractStringBuilder;Ljava/lang/Void;)V"⟩ : MethodName) jdk_42_method_150_code 5 none ({ frames := 3, cells := 1, slots := 34, locals := 72 } : Room) #[.ref a, .ref b, .null] [a] h0 (QI5 Z a bs h0) := by
  have hEL := own_EW hw
  have hn0 : n0 ≤ h0.size := hO.1 ▸ hO.2.1
  refine Met.of (by decide +kernel) hEL hO (Ls := #[.val (.ref a), .val (.ref b), .val .null, .unset, .unset]) (fun m => by first | (simp [entryFrame, mkF, argsToLocals, Value.category]; done) | rfl) ?_
  have la := nlt E.lt
  have lb := nlt D.lt
  have ltt := nlt D.ltT
  have K : Keep h0 h0 [a] := Keep.refl _ _
  have nab : b ≠ a := Jvm.RoadKit.Exa.ne D.1 E (by decide)
  have nat_ : t ≠ a := (Exa.neIA E (hw _ (List.mem_of_getElem? (i := 6) rfl)) D.2.2.2.2.1).symm
  refine WP.aload_n d21_0 rfl rfl ?_
  refine WP.initObject d21_1 (hw _ (List.mem_of_getElem? (i := 127) rfl)) (hw _ (List.mem_of_getElem? (i := 31) rfl)) (hw _ (List.mem_of_getElem? (i := 32) rfl)) rfl (nle rfl) (nle rfl) ?_
  refine WP.aload_n d21_4 rfl rfl ?_
  refine WP.virtual (a := b) (argsL := []) (rest := []) d21_5 (rm_gvm l Z a0 hw n0 h0 hO b t bs C D) D.1 (hw _ (List.mem_of_getElem? (i := 128) rfl)) (hw _ (List.mem_of_getElem? (i := 129) rfl)) (hw _ (List.mem_of_getElem? (i := 130) rfl)) (hw _ (List.mem_of_getElem? (i := 131) rfl)) (hw _ (List.mem_of_getElem? (i := 28) rfl)) (hw _ (List.mem_of_getElem? (i := 132) rfl)) (hw _ (List.mem_of_getElem? (i := 131) rfl)) (by decide) pd_19 rfl rfl rfl (nle rfl) (nle rfl) (nle rfl) (nle rfl) (fun _ q => nomatch q) (fun v h35 F' hq szh35 => ?_)
  obtain ⟨rfl, hh⟩ := hq
  subst h35
  refine WP.astore_n d21_8 (Ls' := #[.val (.ref a), .val (.ref b), .val .null, .val (.ref t), .unset]) rfl rfl ?_
  refine WP.aload_n d21_9 rfl rfl ?_
  refine WP.virtualN (a := b) (argsL := []) (rest := []) d21_10 (rm_sle l Z a0 hw n0 h0 hO b t bs C D) D.1 (hw _ (List.mem_of_getElem? (i := 133) rfl)) (hw _ (List.mem_of_getElem? (i := 134) rfl)) (hw _ (List.mem_of_getElem? (i := 137) rfl)) (hw _ (List.mem_of_getElem? (i := 136) rfl)) (hw _ (List.mem_of_getElem? (i := 20) rfl)) (hw _ (List.mem_of_getElem? (i := 138) rfl)) (hw _ (List.mem_of_getElem? (i := 131) rfl)) rfl (by decide) pd_6 rfl rfl rfl (nle rfl) (nle rfl) (nle rfl) (nle rfl) (fun _ q => nomatch q) (fun v h36 F' hq szh36 => ?_)
  obtain ⟨rfl, hh⟩ := hq
  subst h36
  refine WP.istore d21_13 rfl (Ls' := #[.val (.ref a), .val (.ref b), .val .null, .val (.ref t), .val (.int (Int32.ofNat bs.length))]) rfl ?_
  refine WP.aload_n d21_15 rfl rfl ?_
  refine WP.virtual (a := b) (argsL := []) (rest := []) d21_16 (rm_ail l Z a0 hw n0 h0 hO zc hcs hzc b t bs C D) D.1 (hw _ (List.mem_of_getElem? (i := 141) rfl)) (hw _ (List.mem_of_getElem? (i := 142) rfl)) (hw _ (List.mem_of_getElem? (i := 143) rfl)) (hw _ (List.mem_of_getElem? (i := 144) rfl)) (hw _ (List.mem_of_getElem? (i := 28) rfl)) (hw _ (List.mem_of_getElem? (i := 145) rfl)) (hw _ (List.mem_of_getElem? (i := 144) rfl)) (by decide) pd_20 rfl rfl rfl (nle rfl) (nle rfl) (nle rfl) (nle rfl) (fun _ q => nomatch q) (fun v h37 F' hq szh37 => ?_)
  obtain ⟨rfl, hh⟩ := hq
  subst h37
  refine WP.if_eq d21_19 (fun hc19 => False.elim (absurd hc19 (by decide))) (fun hc19 => ?_)
  refine WP.aload_n d21_22 rfl rfl ?_
  refine WP.iconst d21_23 (v := (0 : Int32)) rfl ?_
  refine WP.putfield (host := "") d21_24 (Or.inl (hw _ (List.mem_of_getElem? (i := 60) rfl))) Via.refl Fc E (Or.inr ⟨(hw _ (List.mem_of_getElem? (i := 9) rfl)), rfl, rfl⟩) (hw _ (List.mem_of_getElem? (i := 6) rfl)) (ty := .byte) (by decide) rfl rfl na (SafeBy.mem E.lt (by simp)) (fun h38 W39 => ?_)
  have zW39 := W39.size
  have E := E.wr W39
  have Fv := Fv.other W39 (Or.inr (slot_ne (Or.inr (hw _ (List.mem_of_getElem? (i := 8) rfl))) (Or.inr (hw _ (List.mem_of_getElem? (i := 9) rfl))) (by decide) (t := (.array .byte)) (t' := .byte) (by decide) (by decide)))
  have Fc := Fc.same W39
  have D := D.other W39 nab nat_
  have K := K.wr W39 (Or.inl (by simp))
  have hO := hO.wr W39 (by omega)
  refine WP.aload_n d21_27 rfl rfl ?_
  refine WP.aload_n d21_28 rfl rfl ?_
  refine WP.iconst d21_29 (v := (0 : Int32)) rfl ?_
  refine WP.iload d21_30 rfl ?_
  have hlen : (bs ++ List.replicate (C - bs.length) (0 : Int32)).length = C := by have := D.2.2.2.2.2.1; simp; omega
  refine WP.static (argsL := [(.ref t), (.int (0 : Int32)), (.int (Int32.ofNat bs.length))]) (rest := [(.ref a)]) d21_32 (rm_cr l Z a0 hw n0 h38 hO t _ 0 bs.length D.2.2.2.2.1 (D.2.2.2.2.2.2.2.app (FB.zero _)) (by omega) (by rw [hlen]; omega) (by omega) (fun _ => by rw [hlen]; omega)) (hw _ (List.mem_of_getElem? (i := 146) rfl)) (hw _ (List.mem_of_getElem? (i := 147) rfl)) (hw _ (List.mem_of_getElem? (i := 106) rfl)) (hw _ (List.mem_of_getElem? (i := 148) rfl)) (by decide) pd_21 rfl rfl rfl (nle rfl) (nle rfl) (nle rfl) (nle rfl) (fun _ q => nomatch q) (fun v h40 F' hq szh40 => ?_)
  obtain ⟨t2, hF, rfl, ht2, K2, T⟩ := hq
  have z2 := K2.1
  have E := E.keep K2
  have Fv := Fv.keep K2 nin0
  have Fc := Fc.keep K2 nin0
  have D := D.keep K2 nin0 nin0
  have K := K.trans K2 all0
  have hO := hO.keep K2 all0
  have lt2 := nlt T.lt
  have e : ((bs ++ List.replicate (C - bs.length) (0 : Int32)).drop 0).take (bs.length - 0) = bs := by simp
  rw [e] at T
  refine WP.putfield (host := "") d21_35 (Or.inl (hw _ (List.mem_of_getElem? (i := 53) rfl))) Via.refl Fv E (Or.inr ⟨(hw _ (List.mem_of_getElem? (i := 8) rfl)), rfl, rfl⟩) (hw _ (List.mem_of_getElem? (i := 6) rfl)) (ty := (.array .byte)) (by decide) rfl rfl na (SafeBy.mem E.lt (by simp)) (fun h41 W42 => ?_)
  have zW42 := W42.size
  have E := E.wr W42
  have Fv := Fv.same W42
  have Fc := Fc.other W42 (Or.inr (slot_ne (Or.inr (hw _ (List.mem_of_getElem? (i := 9) rfl))) (Or.inr (hw _ (List.mem_of_getElem? (i := 8) rfl))) (by decide) (t := .byte) (t' := (.array .byte)) (by decide) (by decide)))
  have D := D.other W42 nab nat_
  have K := K.wr W42 (Or.inl (by simp))
  have hO := hO.wr W42 (by omega)
  have T := T.other W42 (nea (by omega))
  refine WP.goto d21_38 ?_
  exact WP.return_ d21_97 rfl (by decide) (by decide) (G := []) (fun _ q => nomatch q) ⟨rfl, K, t2, by omega, E, Fc, Fv, T⟩
set_option maxRecDepth 65536 in
set_option maxHeartbeats 4000000 in
theorem rm_i2 (l : Launch) (Z : State) (a0 : Array Value) (hw : ∀ d ∈ tables_1, d.before a0 Z = true) (n0 : Nat) (h0 : Heap) (hO : Old Z n0 h0) (zc : Int32) (hcs : Sta Z Z.heap "java/lang/String" "COMPACT_STRINGS" "Z" (.int zc)) (hzc : zc ≠ 0) (a b t : Addr) (bs : List Int32) (C : Nat) (E : Exa Z h0 a "java/lang/String") (Fv : Fld Z h0 a "java/lang/String" "value" "[B" .null) (Fc : Fld Z h0 a "java/lang/String" "coder" "B" (.int 0)) (D : SBd Z h0 b t bs C) (hC : bs.length < C) (hC34 : C ≤ 34) (na : n0 ≤ a) :
    Met l Z consts_1 n0 [] (⟨"java/lang/String", "<init>", "(Ljava/lang/StringBuilder;)V"⟩ : MethodName) jdk_42_method_53_code 2 none ({ frames := 4, cells := 1, slots := 34, locals := 88 } : Room) #[.ref a, .ref b] [a] h0 (QI5 Z a bs h0) := by
  have hEL := own_EW hw
  have hn0 : n0 ≤ h0.size := hO.1 ▸ hO.2.1
  refine Met.of (by decide +kernel) hEL hO (Ls := #[.val (.ref a), .val (.ref b)]) (fun m => by first | (simp [entryFrame, mkF, argsToLocals, Value.category]; done) | rfl) ?_
  refine WP.aload_n d20_0 rfl rfl ?_
  refine WP.aload_n d20_1 rfl rfl ?_
  refine WP.aconst_null d20_2 ?_
  refine WP.special (a := a) (argsL := [(.ref b), .null]) (rest := []) d20_3 (rm_i5 l Z a0 hw n0 h0 hO zc hcs hzc a b t bs C E Fv Fc D hC hC34 na) rfl (hw _ (List.mem_of_getElem? (i := 124) rfl)) (hw _ (List.mem_of_getElem? (i := 125) rfl)) (hw _ (List.mem_of_getElem? (i := 5) rfl)) (hw _ (List.mem_of_getElem? (i := 126) rfl)) (by decide) pd_18 rfl rfl rfl (nle rfl) (nle rfl) (nle rfl) (nle rfl) (allS (SafeBy.mem E.lt (by simp)) all0) (fun v h43 F' hq szh43 => ?_)
  obtain ⟨rfl, r⟩ := hq
  exact WP.return_ d20_6 rfl (by decide) (by decide) (G := []) (fun _ q => nomatch q) ⟨rfl, r⟩
abbrev QTs (Z : State) (bs : List Int32) (h0 : Heap) (v : Option Value) (h : Heap) (F : List Addr) : Prop := ∃ a t, v = some (.ref a) ∧ h0.size ≤ a ∧ h0.size ≤ t ∧ Keep h0 h [] ∧ Str Z h a t bs
set_option maxRecDepth 65536 in
set_option maxHeartbeats 4000000 in
theorem rm_ts (l : Launch) (Z : State) (a0 : Array Value) (hw : ∀ d ∈ tables_1, d.before a0 Z = true) (n0 : Nat) (h0 : Heap) (hO : Old Z n0 h0) (zc : Int32) (hcs : Sta Z Z.heap "java/lang/String" "COMPACT_STRINGS" "Z" (.int zc)) (hzc : zc ≠ 0) (b t : Addr) (bs : List Int32) (C : Nat) (D : SBd Z h0 b t bs C) (hC : bs.length < C) (hC34 : C ≤ 34) :
    Met l Z consts_1 n0 [] (⟨"java/lang/StringBuilder", "toString", "()Ljava/lang/String;"⟩ : MethodName) jdk_67_method_42_code 1 (some (.object "java/lang/String")) ({ frames := 5, cells := 2, slots := 38, locals := 102 } : Room) #[.ref b] [] h0 (QTs Z bs h0) := by
  have hEL := own_EW hw
  have hn0 : n0 ≤ h0.size := hO.1 ▸ hO.2.1
  refine Met.of (by decide +kernel) hEL hO (Ls := #[.val (.ref b)]) (fun m => by first | (simp [entryFrame, mkF, argsToLocals, Value.category]; done) | rfl) ?_
  have K : Keep h0 h0 [] := Keep.refl _ _
  have lb := nlt D.lt
  have ltt := nlt D.ltT
  refine WP.new d19_0 (hw _ (List.mem_of_getElem? (i := 119) rfl)) (hw _ (List.mem_of_getElem? (i := 6) rfl)) (hw _ (List.mem_of_getElem? (i := 5) rfl)) (nle rfl) (nle rfl) (fun h44 a ga Ea Aa Da Ua => ?_)
  have D := D.ext Ea
  have K := K.ext Ea
  have hO := hO.ext Ea
  have la := nlt Aa.lt
  have za := Ea.1
  have Va := Da (Or.inr (hw _ (List.mem_of_getElem? (i := 8) rfl))) (ty := .array .byte) (by decide)
  have Wa := Da (Or.inr (hw _ (List.mem_of_getElem? (i := 9) rfl))) (ty := .byte) (by decide)
  refine WP.dup d19_3 rfl ?_
  refine WP.aload_n d19_4 rfl rfl ?_
  refine WP.special (a := a) (argsL := [(.ref b)]) (rest := [(.ref a)]) d19_5 (rm_i2 l Z a0 hw n0 h44 hO zc hcs hzc a b t bs C Aa Va Wa D hC hC34 (by omega)) rfl (hw _ (List.mem_of_getElem? (i := 120) rfl)) (hw _ (List.mem_of_getElem? (i := 121) rfl)) (hw _ (List.mem_of_getElem? (i := 5) rfl)) (hw _ (List.mem_of_getElem? (i := 123) rfl)) (by decide) pd_17 rfl rfl rfl (nle rfl) (nle rfl) (nle rfl) (nle rfl) (allS (SafeBy.mem Aa.lt (by simp)) all0) (fun v h45 F' hq szh45 => ?_)
  obtain ⟨rfl, K2, t2, ht2, St⟩ := hq
  have z2 := K2.1
  have D := D.keep K2 (ninS (nea (by omega)) nin0) (ninS (nea (by omega)) nin0)
  have K := K.trans K2 (allS (Or.inr (by omega)) all0)
  have hO := hO.keep K2 (allS (by omega) all0)
  have Aa := Aa.keep K2
  exact WP.areturn d19_8 rfl rfl rfl (by decide) (by decide) (G := []) (fun _ q => nomatch q) ⟨a, t2, rfl, by omega, by omega, K, St⟩

theorem own_set {cs : List Int32} {i : Nat} {c : Int32} (hc : cs[i]? = some c) : ((cs.take i).map lo8 ++ List.replicate (cs.length - i) (0 : Int32)).set i (lo8 c) = (cs.take (i + 1)).map lo8 ++ List.replicate (cs.length - (i + 1)) (0 : Int32) := by
  have hi : i < cs.length := (List.getElem?_eq_some_iff.mp hc).1
  have e : cs.length - i = (cs.length - (i + 1)) + 1 := by omega
  have hl : ((cs.take i).map lo8).length = i := by simp; omega
  rw [e, List.replicate_succ, List.set_append_right _ _ (by omega), hl, Nat.sub_self, List.set_cons_zero, List.take_add_one, hc]
  simp
abbrev QC5 (Z : State) (t : Addr) (cs : List Int32) (h0 : Heap) (v : Option Value) (h : Heap) (F : List Addr) : Prop := v = some (.int (Int32.ofNat cs.length)) ∧ Keep h0 h [t] ∧ IA Z h t .byte (cs.map lo8)
set_option maxRecDepth 65536 in
set_option maxHeartbeats 4000000 in
theorem rm_c5_loop (l : Launch) (Z : State) (a0 : Array Value) (hw : ∀ d ∈ tables_1, d.before a0 Z = true) (n0 : Nat) (h0 : Heap) (b t : Addr) (cs : List Int32) (hlat : Lat cs) (hlen : cs.length < 2 ^ 31) (hne : b ≠ t) (nt : n0 ≤ t) (F : List Addr) (hm : t ∈ F) (k : Nat) :
    ∀ (i : Nat) (h : Heap) (j1 j3 j5 : Int32) (s6 : Slot), One s6 → i + k = cs.length → Ix j1 i → Ix j3 i → Ix j5 i → IA Z h b .char cs → IA Z h t .byte ((cs.take i).map lo8 ++ List.replicate (cs.length - i) 0) → Keep h0 h [t] → SafeBy Z consts_1 F h t →
      WP l Z consts_1 n0 ({ frames := 0, cells := 0, slots := 0, locals := 0 } : Room) (⟨"java/lang/StringUTF16", "compress", "([CI[BII)I"⟩ : MethodName) jdk_52_method_21_code 7 (some .int) (QC5 Z t cs h0) F h 0 0 3 #[.val (.ref b), .val (.int j1), .val (.ref t), .val (.int j3), .val (.int (Int32.ofNat cs.length)), .val (.int j5), s6] [] := by
  induction k with
  | zero =>
    intro i h j1 j3 j5 s6 o6 hi q1 q3 q5 A B K hF
    refine WP.iload d48_3 rfl ?_
    refine WP.iload d48_5 rfl ?_
    refine WP.icmp_ge d48_7 (fun hc => ?_) (fun hc => absurd hc (by rw [Int32.lt_iff_toInt_lt, q5, Int32.toInt_ofNat_of_lt hlen]; omega))
    refine WP.iload d48_44 rfl ?_
    have e : i = cs.length := by omega
    subst e
    exact WP.ireturn d48_46 rfl (t := .int) (by simp) rfl (by decide) (by decide) (G := []) (fun _ q => nomatch q) ⟨rfl, K, by simpa using B⟩
  | succ k ih =>
    intro i h j1 j3 j5 s6 o6 hi q1 q3 q5 A B K hF
    obtain ⟨c, hc⟩ : ∃ c, cs[i]? = some c := ⟨_, List.getElem?_eq_getElem (by omega)⟩
    have hl := hlat c (List.mem_of_getElem? hc)
    have hlt := B.lt
    refine WP.iload d48_3 rfl ?_
    refine WP.iload d48_5 rfl ?_
    refine WP.icmp_ge d48_7 (fun hc7 => ?_) (fun hc7 => ?_)
    · exact absurd hc7 (by rw [Int32.lt_iff_toInt_lt, q5, Int32.toInt_ofNat_of_lt (by omega)]; omega)
    · refine WP.aload_n d48_10 rfl rfl ?_
      refine WP.iload_n d48_11 rfl ?_
      refine WP.caload d48_12 A q1 hc ?_
      refine WP.istore d48_13 rfl (Ls' := #[.val (.ref b), .val (.int j1), .val (.ref t), .val (.int j3), .val (.int (Int32.ofNat cs.length)), .val (.int j5), .val (.int c)]) (XS.store1 (o := s6) rfl o6 rfl) ?_
      refine WP.iload d48_15 rfl ?_
      refine WP.sipush d48_17 (v := (255 : Int32)) rfl ?_
      refine WP.icmp_le d48_20 (fun hc20 => ?_) (fun hc20 => ?_)
      · refine WP.aload_n d48_26 rfl rfl ?_
        refine WP.iload_n d48_27 rfl ?_
        refine WP.iload d48_28 rfl ?_
        refine WP.i2b d48_30 ?_
        refine WP.bastore d48_31 B hF q3 (by simp; omega) nt (fun h46 W47 => ?_)
        have zW47 := W47.size
        rw [show nar .byte c.toInt8.toInt32 = lo8 c from by simp [nar, lo8]] at W47
        have A := A.other W47 hne
        have B := own_set hc ▸ B.set W47
        have K := K.wr W47 (Or.inl (by simp))
        obtain ⟨x48, ex48⟩ : ∃ z, j1 + Int32.ofInt (1) = z := ⟨_, rfl⟩
        refine WP.iinc d48_32 rfl ex48 (Ls' := #[.val (.ref b), .val (.int x48), .val (.ref t), .val (.int j3), .val (.int (Int32.ofNat cs.length)), .val (.int j5), .val (.int c)]) rfl ?_
        obtain ⟨x49, ex49⟩ : ∃ z, j3 + Int32.ofInt (1) = z := ⟨_, rfl⟩
        refine WP.iinc d48_35 rfl ex49 (Ls' := #[.val (.ref b), .val (.int x48), .val (.ref t), .val (.int x49), .val (.int (Int32.ofNat cs.length)), .val (.int j5), .val (.int c)]) rfl ?_
        obtain ⟨x50, ex50⟩ : ∃ z, j5 + Int32.ofInt (1) = z := ⟨_, rfl⟩
        refine WP.iinc d48_38 rfl ex50 (Ls' := #[.val (.ref b), .val (.int x48), .val (.ref t), .val (.int x49), .val (.int (Int32.ofNat cs.length)), .val (.int x50), .val (.int c)]) rfl ?_
        refine WP.goto d48_41 ?_
        exact ih (i + 1) h46 x48 x49 x50 (.val (.int c)) (Or.inr ⟨_, rfl, rfl⟩) (by omega) (by rw [Ix, ← ex48, Int32.toInt_add, q1]; show ((i : Int) + 1).bmod _ = _; rw [Int.bmod_eq_of_le (by omega) (by omega)]; omega) (by rw [Ix, ← ex49, Int32.toInt_add, q3]; show ((i : Int) + 1).bmod _ = _; rw [Int.bmod_eq_of_le (by omega) (by omega)]; omega) (by rw [Ix, ← ex50, Int32.toInt_add, q5]; show ((i : Int) + 1).bmod _ = _; rw [Int.bmod_eq_of_le (by omega) (by omega)]; omega) A B K (SafeBy.mem (B.lt) hm)
      · exact absurd hc20 (by rw [Int32.lt_iff_toInt_lt]; have e : (255 : Int32).toInt = 255 := rfl; omega)
set_option maxRecDepth 65536 in
set_option maxHeartbeats 4000000 in
theorem rm_c5 (l : Launch) (Z : State) (a0 : Array Value) (hw : ∀ d ∈ tables_1, d.before a0 Z = true) (n0 : Nat) (h0 : Heap) (hO : Old Z n0 h0) (b t : Addr) (cs : List Int32) (A : IA Z h0 b .char cs) (B : IA Z h0 t .byte (List.replicate cs.length 0)) (hlat : Lat cs) (hne : b ≠ t) (nt : n0 ≤ t) :
    Met l Z consts_1 n0 [] (⟨"java/lang/StringUTF16", "compress", "([CI[BII)I"⟩ : MethodName) jdk_52_method_21_code 7 (some .int) ({ frames := 0, cells := 0, slots := 0, locals := 0 } : Room) #[.ref b, .int 0, .ref t, .int 0, (.int (Int32.ofNat cs.length))] [t] h0 (QC5 Z t cs h0) := by
  have hEL := own_EW hw
  have hn0 : n0 ≤ h0.size := hO.1 ▸ hO.2.1
  refine Met.of (by decide +kernel) hEL hO (Ls := #[.val (.ref b), .val (.int 0), .val (.ref t), .val (.int 0), .val (.int (Int32.ofNat cs.length)), .unset, .unset]) (fun m => by first | (simp [entryFrame, mkF, argsToLocals, Value.category]; done) | rfl) ?_
  refine WP.iconst d48_0 (v := (0 : Int32)) rfl ?_
  refine WP.istore d48_1 rfl (Ls' := #[.val (.ref b), .val (.int 0), .val (.ref t), .val (.int 0), .val (.int (Int32.ofNat cs.length)), .val (.int 0), .unset]) rfl ?_
  exact rm_c5_loop l Z a0 hw n0 h0 b t cs hlat A.len hne nt [t] (by simp) cs.length 0 h0 0 0 0 .unset One.u (by omega) rfl rfl rfl A (by simpa using B) (Keep.refl _ _) (SafeBy.mem B.lt (by simp))
abbrev QC3 (Z : State) (cs : List Int32) (h0 : Heap) (v : Option Value) (h : Heap) (F : List Addr) : Prop := ∃ t, v = some (.ref t) ∧ h0.size ≤ t ∧ Keep h0 h [] ∧ IA Z h t .byte (cs.map lo8)
set_option maxRecDepth 65536 in
set_option maxHeartbeats 4000000 in
theorem rm_c3 (l : Launch) (Z : State) (a0 : Array Value) (hw : ∀ d ∈ tables_1, d.before a0 Z = true) (n0 : Nat) (h0 : Heap) (hO : Old Z n0 h0) (b : Addr) (cs : List Int32) (A : IA Z h0 b .char cs) (hl : cs.length ≤ 2) (hlat : Lat cs) :
    Met l Z consts_1 n0 [] (⟨"java/lang/StringUTF16", "compress", "([CII)[B"⟩ : MethodName) jdk_52_method_16_code 6 (some (.array .byte)) ({ frames := 1, cells := 1, slots := 2, locals := 18 } : Room) #[.ref b, .int 0, (.int (Int32.ofNat cs.length))] [] h0 (QC3 Z cs h0) := by
  have hEL := own_EW hw
  have hn0 : n0 ≤ h0.size := hO.1 ▸ hO.2.1
  refine Met.of (by decide +kernel) hEL hO (Ls := #[.val (.ref b), .val (.int 0), .val (.int (Int32.ofNat cs.length)), .unset, .unset, .unset]) (fun m => by first | (simp [entryFrame, mkF, argsToLocals, Value.category]; done) | rfl) ?_
  have lb := nlt A.lt
  have K : Keep h0 h0 [] := Keep.refl _ _
  refine WP.iload_n d47_0 rfl ?_
  refine WP.newarray d47_1 (hw _ (List.mem_of_getElem? (i := 7) rfl)) rfl (i := cs.length) (cap := 2) (Ix.ofNat A.len) hl (nle rfl) (nle rfl) (nle rfl) (fun h51 t gt Et At => ?_)
  have A := A.ext Et
  have K := K.ext Et
  have lt := nlt At.lt
  have zt := Et.1
  refine WP.astore_n d47_3 (Ls' := #[.val (.ref b), .val (.int (0 : Int32)), .val (.int (Int32.ofNat cs.length)), .val (.ref t), .unset, .unset]) rfl rfl ?_
  refine WP.aload_n d47_4 rfl rfl ?_
  refine WP.iload_n d47_5 rfl ?_
  refine WP.aload_n d47_6 rfl rfl ?_
  refine WP.iconst d47_7 (v := (0 : Int32)) rfl ?_
  refine WP.iload_n d47_8 rfl ?_
  refine WP.static (argsL := [(.ref b), (.int (0 : Int32)), (.ref t), (.int (0 : Int32)), (.int (Int32.ofNat cs.length))]) (rest := []) d47_9 (rm_c5 l Z a0 hw n0 h51 (hO.ext Et) b t cs A At hlat (nea (by omega)) (by omega)) (hw _ (List.mem_of_getElem? (i := 266) rfl)) (hw _ (List.mem_of_getElem? (i := 267) rfl)) (hw _ (List.mem_of_getElem? (i := 264) rfl)) (hw _ (List.mem_of_getElem? (i := 268) rfl)) (by decide) pd_37 rfl rfl rfl (nle rfl) (nle rfl) (nle rfl) (nle rfl) (allS (SafeBy.mem At.lt (by simp)) all0) (fun v h52 F' hq szh52 => ?_)
  obtain ⟨rfl, K5, B⟩ := hq
  have A := A.keep K5 (ninS (nea (by omega)) nin0)
  have K := K.trans K5 (allS (Or.inr (by omega)) all0)
  obtain ⟨x53, ex53⟩ : ∃ z : Int32, (Int32.ofNat cs.length) = z := ⟨_, rfl⟩
  refine WP.istore d47_12 ex53 (Ls' := #[.val (.ref b), .val (.int (0 : Int32)), .val (.int (Int32.ofNat cs.length)), .val (.ref t), .val (.int x53), .unset]) rfl ?_
  refine WP.iload d47_14 rfl ?_
  refine WP.iload_n d47_16 rfl ?_
  refine WP.icmp_eq d47_17 (fun hc17 => ?_) (fun hc17 => ?_)
  · refine WP.aload_n d47_57 rfl rfl ?_
    exact WP.areturn d47_58 rfl rfl rfl (by decide) (by decide) (G := []) (fun _ q => nomatch q) ⟨t, rfl, by omega, K, B⟩
  · exact absurd (Eq.symm (by assumption)) hc17
abbrev QCd (h0 : Heap) (v : Option Value) (h : Heap) (F : List Addr) : Prop := v = some (.int 0) ∧ h = h0
set_option maxRecDepth 65536 in
set_option maxHeartbeats 4000000 in
theorem rm_cd (l : Launch) (Z : State) (a0 : Array Value) (hw : ∀ d ∈ tables_1, d.before a0 Z = true) (n0 : Nat) (h0 : Heap) (hO : Old Z n0 h0) (t : Addr) (bs : List Int32) (B : IA Z h0 t .byte bs) :
    Met l Z consts_1 n0 [] (⟨"java/lang/StringUTF16", "coderFromArrayLen", "([BI)B"⟩ : MethodName) jdk_52_method_15_code 2 (some .byte) ({ frames := 0, cells := 0, slots := 0, locals := 0 } : Room) #[.ref t, .int (Int32.ofNat bs.length)] [] h0 (QCd h0) := by
  have hEL := own_EW hw
  have hn0 : n0 ≤ h0.size := hO.1 ▸ hO.2.1
  refine Met.of (by decide +kernel) hEL hO (Ls := #[.val (.ref t), .val (.int (Int32.ofNat bs.length))]) (fun m => by first | (simp [entryFrame, mkF, argsToLocals, Value.category]; done) | rfl) ?_
  refine WP.iload_n d49_0 rfl ?_
  refine WP.aload_n d49_1 rfl rfl ?_
  refine WP.arraylength d49_2 B ?_
  refine WP.isub d49_3 ?_
  refine WP.bipush d49_4 (v := (31 : Int32)) rfl ?_
  refine WP.iushr d49_6 ?_
  refine WP.i2b d49_7 ?_
  rw [show (((Int32.ofNat bs.length - Int32.ofNat bs.length).toUInt32 >>> ((31 : Int32) &&& 31).toUInt32).toInt32).toInt8.toInt32 = 0 from by rw [Int32.sub_self]; decide]
  exact WP.ireturn d49_8 rfl (t := .byte) (by simp) rfl (by decide) (by decide) (G := []) (fun _ q => nomatch q) ⟨rfl, rfl⟩
abbrev QIn (Z : State) (a : Addr) (cs : List Int32) (h0 : Heap) (v : Option Value) (h : Heap) (F : List Addr) : Prop := v = none ∧ Keep h0 h [a] ∧ ∃ t, Str Z h a t (cs.map lo8)
set_option maxRecDepth 65536 in
set_option maxHeartbeats 4000000 in
theorem rm_i4 (l : Launch) (Z : State) (a0 : Array Value) (hw : ∀ d ∈ tables_1, d.before a0 Z = true) (n0 : Nat) (h0 : Heap) (hO : Old Z n0 h0) (zc : Int32) (hcs : Sta Z Z.heap "java/lang/String" "COMPACT_STRINGS" "Z" (.int zc)) (hzc : zc ≠ 0) (a b : Addr) (cs : List Int32) (E : Exa Z h0 a "java/lang/String") (Fv : Fld Z h0 a "java/lang/String" "value" "[B" .null) (Fc : Fld Z h0 a "java/lang/String" "coder" "B" (.int 0)) (A : IA Z h0 b .char cs) (hl : cs.length ≤ 2) (hlat : Lat cs) (hba : b ≠ a) (na : n0 ≤ a) (hnz : cs ≠ []) :
    Met l Z consts_1 n0 [] (⟨"java/lang/String", "<init>", "([CIILjava/lang/Void;)V"⟩ : MethodName) jdk_42_method_149_code 6 none ({ frames := 2, cells := 4, slots := 8, locals := 35 } : Room) #[.ref a, .ref b, .int 0, (.int (Int32.ofNat cs.length)), .null] [a] h0 (QIn Z a cs h0) := by
  have hEL := own_EW hw
  have hn0 : n0 ≤ h0.size := hO.1 ▸ hO.2.1
  refine Met.of (by decide +kernel) hEL hO (Ls := #[.val (.ref a), .val (.ref b), .val (.int 0), .val (.int (Int32.ofNat cs.length)), .val .null, .unset]) (fun m => by first | (simp [entryFrame, mkF, argsToLocals, Value.category]; done) | rfl) ?_
  have la := nlt E.lt
  have lb := nlt A.lt
  have K : Keep h0 h0 [a] := Keep.refl _ _
  refine WP.aload_n d46_0 rfl rfl ?_
  refine WP.initObject d46_1 (hw _ (List.mem_of_getElem? (i := 127) rfl)) (hw _ (List.mem_of_getElem? (i := 31) rfl)) (hw _ (List.mem_of_getElem? (i := 32) rfl)) rfl (nle rfl) (nle rfl) ?_
  refine WP.iload_n d46_4 rfl ?_
  refine WP.if_ne d46_5 (fun hc5 => ?_) (fun hc5 => ?_)
  · refine WP.getstatic d46_27 (hw _ (List.mem_of_getElem? (i := 59) rfl)) Via.refl hcs ?_
    refine WP.if_eq d46_30 (fun hc30 => ?_) (fun hc30 => ?_)
    · exact absurd hc30 hzc
    · refine WP.aload_n d46_33 rfl rfl ?_
      refine WP.iload_n d46_34 rfl ?_
      refine WP.iload_n d46_35 rfl ?_
      refine WP.static (argsL := [(.ref b), (.int (0 : Int32)), (.int (Int32.ofNat cs.length))]) (rest := []) d46_36 (rm_c3 l Z a0 hw n0 h0 hO b cs A hl hlat) (hw _ (List.mem_of_getElem? (i := 262) rfl)) (hw _ (List.mem_of_getElem? (i := 263) rfl)) (hw _ (List.mem_of_getElem? (i := 264) rfl)) (hw _ (List.mem_of_getElem? (i := 265) rfl)) (by decide) pd_36 rfl rfl rfl (nle rfl) (nle rfl) (nle rfl) (nle rfl) (fun _ q => nomatch q) (fun v h54 F' hq szh54 => ?_)
      obtain ⟨t, rfl, ht, K3, B⟩ := hq
      have E := E.keep K3
      have Fv := Fv.keep K3 nin0
      have Fc := Fc.keep K3 nin0
      have A := A.keep K3 nin0
      have K := K.trans K3 all0
      have lt := nlt B.lt
      have hO3 : Old Z n0 h54 := hO.keep K3 all0
      refine WP.astore d46_39 (Ls' := #[.val (.ref a), .val (.ref b), .val (.int (0 : Int32)), .val (.int (Int32.ofNat cs.length)), .val .null, .val (.ref t)]) rfl rfl ?_
      refine WP.aload_n d46_41 rfl rfl ?_
      refine WP.aload d46_42 rfl rfl ?_
      refine WP.iload_n d46_44 rfl ?_
      have elen : Int32.ofNat cs.length = Int32.ofNat (cs.map lo8).length := by simp
      rw [elen]
      refine WP.static (argsL := [(.ref t), (.int (Int32.ofNat (cs.map lo8).length))]) (rest := [(.ref a)]) d46_45 (rm_cd l Z a0 hw n0 h54 hO3 t _ B) (hw _ (List.mem_of_getElem? (i := 269) rfl)) (hw _ (List.mem_of_getElem? (i := 270) rfl)) (hw _ (List.mem_of_getElem? (i := 264) rfl)) (hw _ (List.mem_of_getElem? (i := 271) rfl)) (by decide) pd_38 rfl rfl rfl (nle rfl) (nle rfl) (nle rfl) (nle rfl) (fun _ q => nomatch q) (fun v h55 F' hq szh55 => ?_)
      obtain ⟨rfl, rfl⟩ := hq
      refine WP.putfield (host := "") d46_48 (Or.inl (hw _ (List.mem_of_getElem? (i := 60) rfl))) Via.refl Fc E (Or.inr ⟨(hw _ (List.mem_of_getElem? (i := 9) rfl)), rfl, rfl⟩) (hw _ (List.mem_of_getElem? (i := 6) rfl)) (ty := .byte) (by decide) rfl rfl (by omega) (SafeBy.mem E.lt (by simp)) (fun h56 W57 => ?_)
      have zW57 := W57.size
      have E := E.wr W57
      have Fv := Fv.other W57 (Or.inr (slot_ne (Or.inr (hw _ (List.mem_of_getElem? (i := 8) rfl))) (Or.inr (hw _ (List.mem_of_getElem? (i := 9) rfl))) (by decide) (t := (.array .byte)) (t' := .byte) (by decide) (by decide)))
      have Fc := Fc.same W57
      have A := A.other W57 hba
      have K := K.wr W57 (Or.inl (by simp))
      have B := B.other W57 (nea (by omega))
      refine WP.aload_n d46_51 rfl rfl ?_
      refine WP.aload d46_52 rfl rfl ?_
      have nt1 : t ≠ a := nea (by omega)
      refine WP.putfield (host := "") d46_54 (Or.inl (hw _ (List.mem_of_getElem? (i := 53) rfl))) Via.refl Fv E (Or.inr ⟨(hw _ (List.mem_of_getElem? (i := 8) rfl)), rfl, rfl⟩) (hw _ (List.mem_of_getElem? (i := 6) rfl)) (ty := (.array .byte)) (by decide) rfl rfl (by omega) (SafeBy.mem E.lt (by simp)) (fun h58 W59 => ?_)
      have zW59 := W59.size
      have E := E.wr W59
      have Fv := Fv.same W59
      have Fc := Fc.other W59 (Or.inr (slot_ne (Or.inr (hw _ (List.mem_of_getElem? (i := 9) rfl))) (Or.inr (hw _ (List.mem_of_getElem? (i := 8) rfl))) (by decide) (t := .byte) (t' := (.array .byte)) (by decide) (by decide)))
      have A := A.other W59 hba
      have K := K.wr W59 (Or.inl (by simp))
      have B := B.other W59 nt1
      exact WP.return_ d46_57 rfl (by decide) (by decide) (G := []) (fun _ q => nomatch q) ⟨rfl, K, _, E, Fc, Fv, B⟩
  · have ecs : cs = [] := by
      have q := congrArg Int32.toInt hc5
      rw [Int32.toInt_ofNat_of_lt A.len] at q
      have q0 : ((cs.length : Nat) : Int) = 0 := q
      exact List.eq_nil_of_length_eq_zero (by omega)
    exact absurd ecs hnz
set_option maxRecDepth 65536 in
set_option maxHeartbeats 4000000 in
theorem rm_i1 (l : Launch) (Z : State) (a0 : Array Value) (hw : ∀ d ∈ tables_1, d.before a0 Z = true) (n0 : Nat) (h0 : Heap) (hO : Old Z n0 h0) (zc : Int32) (hcs : Sta Z Z.heap "java/lang/String" "COMPACT_STRINGS" "Z" (.int zc)) (hzc : zc ≠ 0) (a b : Addr) (cs : List Int32) (E : Exa Z h0 a "java/lang/String") (Fv : Fld Z h0 a "java/lang/String" "value" "[B" .null) (Fc : Fld Z h0 a "java/lang/String" "coder" "B" (.int 0)) (A : IA Z h0 b .char cs) (hl : cs.length ≤ 2) (hlat : Lat cs) (hba : b ≠ a) (na : n0 ≤ a) (hnz : cs ≠ []) :
    Met l Z consts_1 n0 [] (⟨"java/lang/String", "<init>", "([C)V"⟩ : MethodName) jdk_42_method_3_code 2 none ({ frames := 3, cells := 4, slots := 8, locals := 52 } : Room) #[.ref a, .ref b] [a] h0 (QIn Z a cs h0) := by
  have hEL := own_EW hw
  have hn0 : n0 ≤ h0.size := hO.1 ▸ hO.2.1
  refine Met.of (by decide +kernel) hEL hO (Ls := #[.val (.ref a), .val (.ref b)]) (fun m => by first | (simp [entryFrame, mkF, argsToLocals, Value.category]; done) | rfl) ?_
  refine WP.aload_n d45_0 rfl rfl ?_
  refine WP.aload_n d45_1 rfl rfl ?_
  refine WP.iconst d45_2 (v := (0 : Int32)) rfl ?_
  refine WP.aload_n d45_3 rfl rfl ?_
  refine WP.arraylength d45_4 A ?_
  refine WP.aconst_null d45_5 ?_
  refine WP.special (a := a) (argsL := [(.ref b), (.int (0 : Int32)), (.int (Int32.ofNat cs.length)), .null]) (rest := []) d45_6 (rm_i4 l Z a0 hw n0 h0 hO zc hcs hzc a b cs E Fv Fc A hl hlat hba na hnz) rfl (hw _ (List.mem_of_getElem? (i := 259) rfl)) (hw _ (List.mem_of_getElem? (i := 260) rfl)) (hw _ (List.mem_of_getElem? (i := 5) rfl)) (hw _ (List.mem_of_getElem? (i := 261) rfl)) (by decide) pd_35 rfl rfl rfl (nle rfl) (nle rfl) (nle rfl) (nle rfl) (allS (SafeBy.mem E.lt (by simp)) all0) (fun v h60 F' hq szh60 => ?_)
  obtain ⟨rfl, K, t, St⟩ := hq
  exact WP.return_ d45_9 rfl (by decide) (by decide) (G := []) (fun _ q => nomatch q) ⟨rfl, K, t, St⟩

set_option maxRecDepth 65536 in
set_option maxHeartbeats 4000000 in
theorem rm_il (l : Launch) (Z : State) (a0 : Array Value) (hw : ∀ d ∈ tables_1, d.before a0 Z = true) (n0 : Nat) (h0 : Heap) (hO : Old Z n0 h0) (zc : Int32) (hcs : Sta Z Z.heap "java/lang/String" "COMPACT_STRINGS" "Z" (.int zc)) (hzc : zc ≠ 0) (a : Addr) (Fc : Fld Z h0 a "java/lang/String" "coder" "B" (.int 0)) :
    Met l Z consts_1 n0 [] (⟨"java/lang/String", "isLatin1", "()Z"⟩ : MethodName) jdk_42_method_154_code 1 (some .boolean) ({ frames := 0, cells := 0, slots := 0, locals := 0 } : Room) #[.ref a] [] h0 (QPure (some (.int 1)) h0) := by
  have hEL := own_EW hw
  have hn0 : n0 ≤ h0.size := hO.1 ▸ hO.2.1
  refine Met.of (by decide +kernel) hEL hO (Ls := #[.val (.ref a)]) (fun m => by first | (simp [entryFrame, mkF, argsToLocals, Value.category]; done) | rfl) ?_
  refine WP.getstatic d37_0 (hw _ (List.mem_of_getElem? (i := 59) rfl)) Via.refl hcs ?_
  refine WP.if_eq d37_3 (fun hc3 => False.elim (hzc hc3)) (fun hc3 => ?_)
  refine WP.aload_n d37_6 rfl rfl ?_
  refine WP.getfield (host := "") d37_7 (Or.inl (hw _ (List.mem_of_getElem? (i := 60) rfl))) Via.refl Fc ?_
  refine WP.if_ne d37_10 (fun hc10 => False.elim (hc10 rfl)) (fun hc10 => ?_)
  refine WP.iconst d37_13 (v := (1 : Int32)) rfl ?_
  refine WP.goto d37_14 ?_
  exact WP.ireturn d37_18 rfl (t := .boolean) (by simp) rfl (by decide) (by decide) (G := []) (fun _ q => nomatch q) ⟨rfl, rfl⟩

set_option maxRecDepth 65536 in
set_option maxHeartbeats 4000000 in
theorem rm_ce (l : Launch) (Z : State) (a0 : Array Value) (hw : ∀ d ∈ tables_1, d.before a0 Z = true) (n0 : Nat) (h0 : Heap) (hO : Old Z n0 h0) (c : Int32) (hB : B8 c) :
    Met l Z consts_1 n0 [] (⟨"java/lang/StringLatin1", "canEncode", "(C)Z"⟩ : MethodName) jdk_43_method_3_code 1 (some .boolean) ({ frames := 0, cells := 0, slots := 0, locals := 0 } : Room) #[.int c] [] h0 (QPure (some (.int 1)) h0) := by
  have hEL := own_EW hw
  have hn0 : n0 ≤ h0.size := hO.1 ▸ hO.2.1
  refine Met.of (by decide +kernel) hEL hO (Ls := #[.val (.int c)]) (fun m => by first | (simp [entryFrame, mkF, argsToLocals, Value.category]; done) | rfl) ?_
  refine WP.iload_n d42_0 rfl ?_
  refine WP.sipush d42_1 (v := (255 : Int32)) rfl ?_
  refine WP.icmp_gt d42_4 (fun hc4 => False.elim (by rw [Int32.lt_iff_toInt_lt] at hc4; have e : (255 : Int32).toInt = 255 := rfl; have := hB.2; omega)) (fun hc4 => ?_)
  refine WP.iconst d42_7 (v := (1 : Int32)) rfl ?_
  refine WP.goto d42_8 ?_
  exact WP.ireturn d42_12 rfl (t := .boolean) (by simp) rfl (by decide) (by decide) (G := []) (fun _ q => nomatch q) ⟨rfl, rfl⟩
abbrev QTb (Z : State) (c : Int32) (h0 : Heap) (v : Option Value) (h : Heap) (F : List Addr) : Prop := ∃ t, v = some (.ref t) ∧ h0.size ≤ t ∧ Keep h0 h [] ∧ IA Z h t .byte [lo8 c]
set_option maxRecDepth 65536 in
set_option maxHeartbeats 4000000 in
theorem rm_tb (l : Launch) (Z : State) (a0 : Array Value) (hw : ∀ d ∈ tables_1, d.before a0 Z = true) (n0 : Nat) (h0 : Heap) (hO : Old Z n0 h0) (c : Int32) :
    Met l Z consts_1 n0 [] (⟨"java/lang/StringLatin1", "toBytes", "(C)[B"⟩ : MethodName) jdk_43_method_46_code 1 (some (.array .byte)) ({ frames := 0, cells := 1, slots := 1, locals := 0 } : Room) #[.int c] [] h0 (QTb Z c h0) := by
  have hEL := own_EW hw
  have hn0 : n0 ≤ h0.size := hO.1 ▸ hO.2.1
  refine Met.of (by decide +kernel) hEL hO (Ls := #[.val (.int c)]) (fun m => by first | (simp [entryFrame, mkF, argsToLocals, Value.category]; done) | rfl) ?_
  have K : Keep h0 h0 [] := Keep.refl _ _
  refine WP.iconst d43_0 (v := (1 : Int32)) rfl ?_
  refine WP.newarray d43_1 (hw _ (List.mem_of_getElem? (i := 7) rfl)) rfl (i := 1) (cap := 1) rfl (nle rfl) (nle rfl) (nle rfl) (nle rfl) (fun h61 t gt Et At => ?_)
  have K := K.ext Et
  have lt := nlt At.lt
  have zt := Et.1
  refine WP.dup d43_3 rfl ?_
  refine WP.iconst d43_4 (v := (0 : Int32)) rfl ?_
  refine WP.iload_n d43_5 rfl ?_
  refine WP.i2b d43_6 ?_
  refine WP.bastore d43_7 At (SafeBy.mem At.lt (by simp)) (i := 0) rfl (by simp) (by omega) (fun h62 W63 => ?_)
  rw [show nar .byte c.toInt8.toInt32 = lo8 c from by simp [nar, lo8]] at W63
  have zW63 := W63.size
  have K := K.wr W63 (Or.inr (by omega))
  have At := At.set W63
  exact WP.areturn d43_8 rfl rfl rfl (by decide) (by decide) (G := []) (fun _ q => nomatch q) ⟨t, rfl, by omega, K, At⟩
abbrev QIb (Z : State) (a t : Addr) (bs : List Int32) (h0 : Heap) (v : Option Value) (h : Heap) (F : List Addr) : Prop := v = none ∧ Keep h0 h [a] ∧ Str Z h a t bs
set_option maxRecDepth 65536 in
set_option maxHeartbeats 4000000 in
theorem rm_ib (l : Launch) (Z : State) (a0 : Array Value) (hw : ∀ d ∈ tables_1, d.before a0 Z = true) (n0 : Nat) (h0 : Heap) (hO : Old Z n0 h0) (a t : Addr) (bs : List Int32) (E : Exa Z h0 a "java/lang/String") (Fv : Fld Z h0 a "java/lang/String" "value" "[B" .null) (Fc : Fld Z h0 a "java/lang/String" "coder" "B" (.int 0)) (B : IA Z h0 t .byte bs) (na : n0 ≤ a) :
    Met l Z consts_1 n0 [] (⟨"java/lang/String", "<init>", "([BB)V"⟩ : MethodName) jdk_42_method_151_code 3 none ({ frames := 1, cells := 0, slots := 0, locals := 12 } : Room) #[.ref a, .ref t, .int 0] [a] h0 (QIb Z a t bs h0) := by
  have hEL := own_EW hw
  have hn0 : n0 ≤ h0.size := hO.1 ▸ hO.2.1
  refine Met.of (by decide +kernel) hEL hO (Ls := #[.val (.ref a), .val (.ref t), .val (.int 0)]) (fun m => by first | (simp [entryFrame, mkF, argsToLocals, Value.category]; done) | rfl) ?_
  have K : Keep h0 h0 [a] := Keep.refl _ _
  have nt : t ≠ a := (Exa.neIA E (hw _ (List.mem_of_getElem? (i := 6) rfl)) B).symm
  refine WP.aload_n d44_0 rfl rfl ?_
  refine WP.initObject d44_1 (hw _ (List.mem_of_getElem? (i := 127) rfl)) (hw _ (List.mem_of_getElem? (i := 31) rfl)) (hw _ (List.mem_of_getElem? (i := 32) rfl)) rfl (nle rfl) (nle rfl) ?_
  refine WP.aload_n d44_4 rfl rfl ?_
  refine WP.aload_n d44_5 rfl rfl ?_
  refine WP.putfield (host := "") d44_6 (Or.inl (hw _ (List.mem_of_getElem? (i := 53) rfl))) Via.refl Fv E (Or.inr ⟨(hw _ (List.mem_of_getElem? (i := 8) rfl)), rfl, rfl⟩) (hw _ (List.mem_of_getElem? (i := 6) rfl)) (ty := (.array .byte)) (by decide) rfl rfl (by omega) (SafeBy.mem E.lt (by simp)) (fun h64 W65 => ?_)
  have zW65 := W65.size
  have E := E.wr W65
  have Fv := Fv.same W65
  have Fc := Fc.other W65 (Or.inr (slot_ne (Or.inr (hw _ (List.mem_of_getElem? (i := 9) rfl))) (Or.inr (hw _ (List.mem_of_getElem? (i := 8) rfl))) (by decide) (t := .byte) (t' := (.array .byte)) (by decide) (by decide)))
  have B := B.other W65 nt
  have K := K.wr W65 (Or.inl (by simp))
  refine WP.aload_n d44_9 rfl rfl ?_
  refine WP.iload_n d44_10 rfl ?_
  refine WP.putfield (host := "") d44_11 (Or.inl (hw _ (List.mem_of_getElem? (i := 60) rfl))) Via.refl Fc E (Or.inr ⟨(hw _ (List.mem_of_getElem? (i := 9) rfl)), rfl, rfl⟩) (hw _ (List.mem_of_getElem? (i := 6) rfl)) (ty := .byte) (by decide) rfl rfl (by omega) (SafeBy.mem E.lt (by simp)) (fun h66 W67 => ?_)
  have zW67 := W67.size
  have E := E.wr W67
  have Fv := Fv.other W67 (Or.inr (slot_ne (Or.inr (hw _ (List.mem_of_getElem? (i := 8) rfl))) (Or.inr (hw _ (List.mem_of_getElem? (i := 9) rfl))) (by decide) (t := (.array .byte)) (t' := .byte) (by decide) (by decide)))
  have Fc := Fc.same W67
  have B := B.other W67 nt
  have K := K.wr W67 (Or.inl (by simp))
  exact WP.return_ d44_14 rfl (by decide) (by decide) (G := []) (fun _ q => nomatch q) ⟨rfl, K, E, Fc, Fv, B⟩
abbrev QVo (Z : State) (bs : List Int32) (h0 : Heap) (v : Option Value) (h : Heap) (F : List Addr) : Prop := ∃ a t, v = some (.ref a) ∧ h0.size ≤ a ∧ h0.size ≤ t ∧ Keep h0 h [] ∧ Str Z h a t bs
set_option maxRecDepth 65536 in
set_option maxHeartbeats 4000000 in
theorem rm_vo (l : Launch) (Z : State) (a0 : Array Value) (hw : ∀ d ∈ tables_1, d.before a0 Z = true) (n0 : Nat) (h0 : Heap) (hO : Old Z n0 h0) (zc : Int32) (hcs : Sta Z Z.heap "java/lang/String" "COMPACT_STRINGS" "Z" (.int zc)) (hzc : zc ≠ 0) (c : Int32) (hB : B8 c) :
    Met l Z consts_1 n0 [] (⟨"java/lang/String", "valueOf", "(C)Ljava/lang/String;"⟩ : MethodName) jdk_42_method_139_code 1 (some (.object "java/lang/String")) ({ frames := 2, cells := 2, slots := 5, locals := 28 } : Room) #[.int c] [] h0 (QVo Z [lo8 c] h0) := by
  have hEL := own_EW hw
  have hn0 : n0 ≤ h0.size := hO.1 ▸ hO.2.1
  refine Met.of (by decide +kernel) hEL hO (Ls := #[.val (.int c)]) (fun m => by first | (simp [entryFrame, mkF, argsToLocals, Value.category]; done) | rfl) ?_
  have K : Keep h0 h0 [] := Keep.refl _ _
  refine WP.getstatic d41_0 (hw _ (List.mem_of_getElem? (i := 59) rfl)) Via.refl hcs ?_
  refine WP.if_eq d41_3 (fun hc3 => False.elim (hzc hc3)) (fun hc3 => ?_)
  refine WP.iload_n d41_6 rfl ?_
  refine WP.static (argsL := [(.int c)]) (rest := []) d41_7 (rm_ce l Z a0 hw n0 h0 hO c hB) (hw _ (List.mem_of_getElem? (i := 244) rfl)) (hw _ (List.mem_of_getElem? (i := 245) rfl)) (hw _ (List.mem_of_getElem? (i := 231) rfl)) (hw _ (List.mem_of_getElem? (i := 246) rfl)) (by decide) pd_31 rfl rfl rfl (nle rfl) (nle rfl) (nle rfl) (nle rfl) (fun _ q => nomatch q) (fun v h68 F' hq szh68 => ?_)
  obtain ⟨rfl, rfl⟩ := hq
  refine WP.if_eq d41_10 (fun hc10 => False.elim (absurd hc10 (by decide))) (fun hc10 => ?_)
  refine WP.new d41_13 (hw _ (List.mem_of_getElem? (i := 247) rfl)) (hw _ (List.mem_of_getElem? (i := 6) rfl)) (hw _ (List.mem_of_getElem? (i := 5) rfl)) (nle rfl) (nle rfl) (fun h69 a ga Ea Aa Da Ua => ?_)
  have K := K.ext Ea
  have hO := hO.ext Ea
  have la := nlt Aa.lt
  have za := Ea.1
  have Va := Da (Or.inr (hw _ (List.mem_of_getElem? (i := 8) rfl))) (ty := .array .byte) (by decide)
  have Wa := Da (Or.inr (hw _ (List.mem_of_getElem? (i := 9) rfl))) (ty := .byte) (by decide)
  refine WP.dup d41_16 rfl ?_
  refine WP.iload_n d41_17 rfl ?_
  refine WP.static (argsL := [(.int c)]) (rest := [(.ref a), (.ref a)]) d41_18 (rm_tb l Z a0 hw n0 h69 hO c) (hw _ (List.mem_of_getElem? (i := 248) rfl)) (hw _ (List.mem_of_getElem? (i := 249) rfl)) (hw _ (List.mem_of_getElem? (i := 231) rfl)) (hw _ (List.mem_of_getElem? (i := 250) rfl)) (by decide) pd_32 rfl rfl rfl (nle rfl) (nle rfl) (nle rfl) (nle rfl) (fun _ q => nomatch q) (fun v h70 F' hq szh70 => ?_)
  obtain ⟨t, rfl, ht, K2, B⟩ := hq
  have zt := K2.1
  have K := K.trans K2 all0
  have hO := hO.keep K2 all0
  have Aa := Aa.keep K2
  have Va := Va.keep K2 nin0
  have Wa := Wa.keep K2 nin0
  have lt := nlt B.lt
  refine WP.iconst d41_21 (v := (0 : Int32)) rfl ?_
  refine WP.special (a := a) (argsL := [(.ref t), (.int (0 : Int32))]) (rest := [(.ref a)]) d41_22 (rm_ib l Z a0 hw n0 h70 hO a t _ Aa Va Wa B (by omega)) rfl (hw _ (List.mem_of_getElem? (i := 251) rfl)) (hw _ (List.mem_of_getElem? (i := 252) rfl)) (hw _ (List.mem_of_getElem? (i := 5) rfl)) (hw _ (List.mem_of_getElem? (i := 253) rfl)) (by decide) pd_33 rfl rfl rfl (nle rfl) (nle rfl) (nle rfl) (nle rfl) (allS (SafeBy.mem Aa.lt (by simp)) all0) (fun v h71 F' hq szh71 => ?_)
  obtain ⟨rfl, K3, S⟩ := hq
  have z3 := K3.1
  have K := K.trans K3 (allS (Or.inr (by omega)) all0)
  have hO := hO.keep K3 (allS (by omega) all0)
  have Aa := Aa.keep K3
  have B := B.keep K3 (ninS (nea (by omega)) nin0)
  exact WP.areturn d41_25 rfl rfl rfl (by decide) (by decide) (G := []) (fun _ q => nomatch q) ⟨a, t, rfl, by omega, by omega, K, S⟩

set_option maxRecDepth 65536 in
set_option maxHeartbeats 4000000 in
theorem rm_pci (l : Launch) (Z : State) (a0 : Array Value) (hw : ∀ d ∈ tables_1, d.before a0 Z = true) (n0 : Nat) (h0 : Heap) (hO : Old Z n0 h0) (i n : Int32) (fm : Value) (hfr : fm.isRef = true) (hi : ¬ i < 0 ∧ i < n) :
    Met l Z consts_1 n0 [] (⟨"jdk/internal/util/Preconditions", "checkIndex", "(IILjava/util/function/BiFunction;)I"⟩ : MethodName) jdk_41_method_11_code 3 (some .int) ({ frames := 0, cells := 0, slots := 0, locals := 0 } : Room) #[.int i, .int n, fm] [] h0 (QPure (some (.int i)) h0) := by
  have hEL := own_EW hw
  have hn0 : n0 ≤ h0.size := hO.1 ▸ hO.2.1
  refine Met.of (by decide +kernel) hEL hO (Ls := #[.val (.int i), .val (.int n), .val fm]) (fun m => by first | (rcases ref_cases hfr with rfl | ⟨_, rfl⟩ <;> rfl) | (simp [entryFrame, mkF, argsToLocals, Value.category]; done) | rfl) ?_
  refine WP.iload_n d40_0 rfl ?_
  refine WP.if_lt d40_1 (fun hc1 => False.elim (hi.1 hc1)) (fun hc1 => ?_)
  refine WP.iload_n d40_4 rfl ?_
  refine WP.iload_n d40_5 rfl ?_
  refine WP.icmp_lt d40_6 (fun hc6 => ?_) (fun hc6 => False.elim (hc6 hi.2))
  refine WP.iload_n d40_16 rfl ?_
  exact WP.ireturn d40_17 rfl (t := .int) (by simp) rfl (by decide) (by decide) (G := []) (fun _ q => nomatch q) ⟨rfl, rfl⟩
set_option maxRecDepth 65536 in
set_option maxHeartbeats 4000000 in
theorem rm_ck (l : Launch) (Z : State) (a0 : Array Value) (hw : ∀ d ∈ tables_1, d.before a0 Z = true) (n0 : Nat) (h0 : Heap) (hO : Old Z n0 h0) (fm : Value) (hfm : Sta Z Z.heap "jdk/internal/util/Preconditions" "SIOOBE_FORMATTER" "Ljava/util/function/BiFunction;" fm) (hfr : fm.isRef = true) (i n : Int32) (hi : ¬ i < 0 ∧ i < n) :
    Met l Z consts_1 n0 [] (⟨"java/lang/String", "checkIndex", "(II)V"⟩ : MethodName) jdk_42_method_155_code 2 none ({ frames := 1, cells := 0, slots := 0, locals := 14 } : Room) #[.int i, .int n] [] h0 (QPure none h0) := by
  have hEL := own_EW hw
  have hn0 : n0 ≤ h0.size := hO.1 ▸ hO.2.1
  refine Met.of (by decide +kernel) hEL hO (Ls := #[.val (.int i), .val (.int n)]) (fun m => by first | (simp [entryFrame, mkF, argsToLocals, Value.category]; done) | rfl) ?_
  refine WP.iload_n d39_0 rfl ?_
  refine WP.iload_n d39_1 rfl ?_
  refine WP.getstatic d39_2 (hw _ (List.mem_of_getElem? (i := 236) rfl)) Via.refl hfm ?_
  refine WP.static (argsL := [(.int i), (.int n), fm]) (rest := []) d39_5 (rm_pci l Z a0 hw n0 h0 hO i n fm hfr hi) (hw _ (List.mem_of_getElem? (i := 238) rfl)) (hw _ (List.mem_of_getElem? (i := 239) rfl)) (hw _ (List.mem_of_getElem? (i := 237) rfl)) (hw _ (List.mem_of_getElem? (i := 240) rfl)) (by decide) pd_29 rfl rfl rfl (nle rfl) (nle rfl) (nle rfl) (nle rfl) (fun _ q => nomatch q) (fun v h72 F' hq szh72 => ?_)
  obtain ⟨rfl, rfl⟩ := hq
  refine WP.pop d39_8 rfl ?_
  exact WP.return_ d39_9 rfl (by decide) (by decide) (G := []) (fun _ q => nomatch q) ⟨rfl, rfl⟩
set_option maxRecDepth 65536 in
set_option maxHeartbeats 4000000 in
theorem rm_lc (l : Launch) (Z : State) (a0 : Array Value) (hw : ∀ d ∈ tables_1, d.before a0 Z = true) (n0 : Nat) (h0 : Heap) (hO : Old Z n0 h0) (fm : Value) (hfm : Sta Z Z.heap "jdk/internal/util/Preconditions" "SIOOBE_FORMATTER" "Ljava/util/function/BiFunction;" fm) (hfr : fm.isRef = true) (t : Addr) (j : Int32) (i : Nat) (bs : List Int32) (b : Int32) (B : IA Z h0 t .byte bs) (hj : Ix j i) (hb : bs[i]? = some b) :
    Met l Z consts_1 n0 [] (⟨"java/lang/StringLatin1", "charAt", "([BI)C"⟩ : MethodName) jdk_43_method_2_code 2 (some .char) ({ frames := 2, cells := 0, slots := 0, locals := 27 } : Room) #[.ref t, .int j] [] h0 (QPure (some (.int (chr8 b))) h0) := by
  have hEL := own_EW hw
  have hn0 : n0 ≤ h0.size := hO.1 ▸ hO.2.1
  refine Met.of (by decide +kernel) hEL hO (Ls := #[.val (.ref t), .val (.int j)]) (fun m => by first | (simp [entryFrame, mkF, argsToLocals, Value.category]; done) | rfl) ?_
  refine WP.iload_n d38_0 rfl ?_
  refine WP.aload_n d38_1 rfl rfl ?_
  refine WP.arraylength d38_2 B ?_
  refine WP.static (argsL := [(.int j), (.int (Int32.ofNat bs.length))]) (rest := []) d38_3 (rm_ck l Z a0 hw n0 h0 hO fm hfm hfr j _ ⟨hj.nn, hj.ltn B.len (List.getElem?_eq_some_iff.mp hb).1⟩) (hw _ (List.mem_of_getElem? (i := 233) rfl)) (hw _ (List.mem_of_getElem? (i := 234) rfl)) (hw _ (List.mem_of_getElem? (i := 5) rfl)) (hw _ (List.mem_of_getElem? (i := 235) rfl)) (by decide) pd_22 rfl rfl rfl (nle rfl) (nle rfl) (nle rfl) (nle rfl) (fun _ q => nomatch q) (fun v h73 F' hq szh73 => ?_)
  obtain ⟨rfl, rfl⟩ := hq
  refine WP.aload_n d38_6 rfl rfl ?_
  refine WP.iload_n d38_7 rfl ?_
  refine WP.baload d38_8 B hj hb ?_
  refine WP.sipush d38_9 (v := (255 : Int32)) rfl ?_
  refine WP.iand d38_12 ?_
  refine WP.i2c d38_13 ?_
  exact WP.ireturn d38_14 rfl (t := .char) (by simp) (XT.narrow_c _) (by decide) (by decide) (G := []) (fun _ q => nomatch q) ⟨rfl, rfl⟩
set_option maxRecDepth 65536 in
set_option maxHeartbeats 4000000 in
theorem rm_ca (l : Launch) (Z : State) (a0 : Array Value) (hw : ∀ d ∈ tables_1, d.before a0 Z = true) (n0 : Nat) (h0 : Heap) (hO : Old Z n0 h0) (zc : Int32) (hcs : Sta Z Z.heap "java/lang/String" "COMPACT_STRINGS" "Z" (.int zc)) (hzc : zc ≠ 0) (fm : Value) (hfm : Sta Z Z.heap "jdk/internal/util/Preconditions" "SIOOBE_FORMATTER" "Ljava/util/function/BiFunction;" fm) (hfr : fm.isRef = true) (a t : Addr) (j : Int32) (i : Nat) (bs : List Int32) (b : Int32) (D : Str Z h0 a t bs) (hj : Ix j i) (hb : bs[i]? = some b) :
    Met l Z consts_1 n0 [] (⟨"java/lang/String", "charAt", "(I)C"⟩ : MethodName) jdk_42_method_56_code 2 (some .char) ({ frames := 3, cells := 0, slots := 0, locals := 40 } : Room) #[.ref a, .int j] [] h0 (QPure (some (.int (chr8 b))) h0) := by
  have hEL := own_EW hw
  have hn0 : n0 ≤ h0.size := hO.1 ▸ hO.2.1
  refine Met.of (by decide +kernel) hEL hO (Ls := #[.val (.ref a), .val (.int j)]) (fun m => by first | (simp [entryFrame, mkF, argsToLocals, Value.category]; done) | rfl) ?_
  refine WP.aload_n d36_0 rfl rfl ?_
  refine WP.virtual (a := a) (argsL := []) (rest := []) d36_1 (rm_il l Z a0 hw n0 h0 hO zc hcs hzc a D.2.1) D.1 (hw _ (List.mem_of_getElem? (i := 224) rfl)) (hw _ (List.mem_of_getElem? (i := 225) rfl)) (hw _ (List.mem_of_getElem? (i := 226) rfl)) (hw _ (List.mem_of_getElem? (i := 227) rfl)) (hw _ (List.mem_of_getElem? (i := 5) rfl)) (hw _ (List.mem_of_getElem? (i := 228) rfl)) (hw _ (List.mem_of_getElem? (i := 227) rfl)) (by decide) pd_20 rfl rfl rfl (nle rfl) (nle rfl) (nle rfl) (nle rfl) (fun _ q => nomatch q) (fun v h74 F' hq szh74 => ?_)
  obtain ⟨rfl, rfl⟩ := hq
  refine WP.if_eq d36_4 (fun hc4 => False.elim (absurd hc4 (by decide))) (fun hc4 => ?_)
  refine WP.aload_n d36_7 rfl rfl ?_
  refine WP.getfield (host := "") d36_8 (Or.inl (hw _ (List.mem_of_getElem? (i := 53) rfl))) Via.refl D.2.2.1 ?_
  refine WP.iload_n d36_11 rfl ?_
  refine WP.static (argsL := [(.ref t), (.int j)]) (rest := []) d36_12 (rm_lc l Z a0 hw n0 h74 hO fm hfm hfr t j i bs b D.2.2.2 hj hb) (hw _ (List.mem_of_getElem? (i := 229) rfl)) (hw _ (List.mem_of_getElem? (i := 230) rfl)) (hw _ (List.mem_of_getElem? (i := 231) rfl)) (hw _ (List.mem_of_getElem? (i := 232) rfl)) (by decide) pd_28 rfl rfl rfl (nle rfl) (nle rfl) (nle rfl) (nle rfl) (fun _ q => nomatch q) (fun v h75 F' hq szh75 => ?_)
  obtain ⟨rfl, rfl⟩ := hq
  exact WP.ireturn d36_15 rfl (t := .char) (by simp) (XT.narrow_c _) (by decide) (by decide) (G := []) (fun _ q => nomatch q) ⟨rfl, rfl⟩

abbrev QMk (Z : State) (h0 : Heap) (v : Option Value) (h : Heap) (F : List Addr) : Prop := ∃ a t bs, v = some (.ref a) ∧ Keep h0 h [] ∧ Str Z h a t bs ∧ FB bs ∧ bs.length ≤ 2
set_option maxRecDepth 65536 in
set_option maxHeartbeats 4000000 in
theorem rm_mk (l : Launch) (Z : State) (a0 : Array Value) (hw : ∀ d ∈ tables_1, d.before a0 Z = true) (n0 : Nat) (h0 : Heap) (hO : Old Z n0 h0) (zc : Int32) (hcs : Sta Z Z.heap "java/lang/String" "COMPACT_STRINGS" "Z" (.int zc)) (hzc : zc ≠ 0) (v : Int32) :
    Met l Z consts_1 n0 [] (⟨"com/example/proviso/proviso/InvalidInputExceptionUndeclaredPinLaw", "mk", "(I)Ljava/lang/String;"⟩ : MethodName) method_3_code 5 (some (.object "java/lang/String")) ({ frames := 4, cells := 6, slots := 20, locals := 66 } : Room) #[.int v] [] h0 (QMk Z h0) := by
  have hEL := own_EW hw
  have hn0 : n0 ≤ h0.size := hO.1 ▸ hO.2.1
  refine Met.of (by decide +kernel) hEL hO (Ls := #[.val (.int v), .unset, .unset, .unset, .unset]) (fun m => by first | (simp [entryFrame, mkF, argsToLocals, Value.category]; done) | rfl) ?_
  have K : Keep h0 h0 [] := Keep.refl _ _
  refine WP.iload_n d1_0 rfl ?_
  refine WP.bipush d1_1 (v := (16 : Int32)) rfl ?_
  refine WP.iushr d1_3 ?_
  refine WP.sipush d1_4 (v := (255 : Int32)) rfl ?_
  refine WP.iand d1_7 ?_
  refine WP.iconst d1_8 (v := (3 : Int32)) rfl ?_
  refine WP.irem d1_9 (by decide) ?_
  obtain ⟨x76, ex76⟩ : ∃ z : Int32, ((((v.toUInt32 >>> ((16 : Int32) &&& 31).toUInt32).toInt32) &&& (255 : Int32)) - ((((v.toUInt32 >>> ((16 : Int32) &&& 31).toUInt32).toInt32) &&& (255 : Int32)) / (3 : Int32)) * (3 : Int32)) = z := ⟨_, rfl⟩
  refine WP.istore_n d1_10 ex76 (Ls' := #[.val (.int v), .val (.int x76), .unset, .unset, .unset]) rfl ?_
  refine WP.iload_n d1_11 rfl ?_
  refine WP.sipush d1_12 (v := (255 : Int32)) rfl ?_
  refine WP.iand d1_15 ?_
  refine WP.i2c d1_16 ?_
  obtain ⟨x77, ex77⟩ : ∃ z : Int32, (v &&& (255 : Int32)).toUInt32.toUInt16.toUInt32.toInt32 = z := ⟨_, rfl⟩
  refine WP.istore_n d1_17 ex77 (Ls' := #[.val (.int v), .val (.int x76), .val (.int x77), .unset, .unset]) rfl ?_
  have Bx77 : B8 x77 := ex77 ▸ (B8.and _).i2c
  refine WP.iload_n d1_18 rfl ?_
  refine WP.bipush d1_19 (v := (8 : Int32)) rfl ?_
  refine WP.iushr d1_21 ?_
  refine WP.sipush d1_22 (v := (255 : Int32)) rfl ?_
  refine WP.iand d1_25 ?_
  refine WP.i2c d1_26 ?_
  obtain ⟨x78, ex78⟩ : ∃ z : Int32, (((v.toUInt32 >>> ((8 : Int32) &&& 31).toUInt32).toInt32) &&& (255 : Int32)).toUInt32.toUInt16.toUInt32.toInt32 = z := ⟨_, rfl⟩
  refine WP.istore_n d1_27 ex78 (Ls' := #[.val (.int v), .val (.int x76), .val (.int x77), .val (.int x78), .unset]) rfl ?_
  have Bx78 : B8 x78 := ex78 ▸ (B8.and _).i2c
  refine WP.iload_n d1_28 rfl ?_
  refine WP.if_ne d1_29 (fun hc29 => ?_) (fun hc29 => ?_)
  · refine WP.iload_n d1_35 rfl ?_
    refine WP.iconst d1_36 (v := (1 : Int32)) rfl ?_
    refine WP.icmp_ne d1_37 (fun hc37 => ?_) (fun hc37 => ?_)
    · refine WP.iconst d1_45 (v := (2 : Int32)) rfl ?_
      refine WP.newarray d1_46 (hw _ (List.mem_of_getElem? (i := 254) rfl)) rfl (i := 2) (cap := 2) rfl (nle rfl) (nle rfl) (nle rfl) (nle rfl) (fun h79 q gq Eq Aq => ?_)
      have hO := hO.ext Eq
      have K := K.ext Eq
      have lq := nlt Aq.lt
      have zq := Eq.1
      refine WP.astore d1_48 (Ls' := #[.val (.int v), .val (.int x76), .val (.int x77), .val (.int x78), .val (.ref q)]) rfl rfl ?_
      refine WP.aload d1_50 rfl rfl ?_
      refine WP.iconst d1_52 (v := (0 : Int32)) rfl ?_
      refine WP.iload_n d1_53 rfl ?_
      refine WP.castore d1_54 Aq (i := 0) rfl (by simp) (by omega) (fun h80 W81 => ?_)
      rw [B8.nar Bx77] at W81
      have zW81 := W81.size
      have hO := hO.wr W81 (by omega)
      have K := K.wr W81 (Or.inr (by omega))
      have Aq := Aq.set W81
      refine WP.aload d1_55 rfl rfl ?_
      refine WP.iconst d1_57 (v := (1 : Int32)) rfl ?_
      refine WP.iload_n d1_58 rfl ?_
      refine WP.castore d1_59 Aq (i := 1) rfl (by simp) (by omega) (fun h82 W83 => ?_)
      rw [B8.nar Bx78] at W83
      have zW83 := W83.size
      have hO := hO.wr W83 (by omega)
      have K := K.wr W83 (Or.inr (by omega))
      have Aq := Aq.set W83
      refine WP.new d1_60 (hw _ (List.mem_of_getElem? (i := 255) rfl)) (hw _ (List.mem_of_getElem? (i := 6) rfl)) (hw _ (List.mem_of_getElem? (i := 5) rfl)) (nle rfl) (nle rfl) (fun h84 ns gns Ens Ans Dns Uns => ?_)
      have hO := hO.ext Ens
      have K := K.ext Ens
      have Aq := Aq.ext Ens
      have lns := nlt Ans.lt
      have zns := Ens.1
      have Vns := Dns (Or.inr (hw _ (List.mem_of_getElem? (i := 8) rfl))) (ty := .array .byte) (by decide)
      have Wns := Dns (Or.inr (hw _ (List.mem_of_getElem? (i := 9) rfl))) (ty := .byte) (by decide)
      refine WP.dup d1_63 rfl ?_
      refine WP.aload d1_64 rfl rfl ?_
      have Aq : IA Z h84 q .char [x77, x78] := Aq
      refine WP.special (a := ns) (argsL := [(.ref q)]) (rest := [(.ref ns)]) d1_66 (rm_i1 l Z a0 hw n0 h84 hO zc hcs hzc ns q [x77, x78] Ans Vns Wns Aq (by simp) (Lat.cons Bx77 (Lat.cons Bx78 Lat.nil)) (nea (by omega)) (by omega) (by simp)) rfl (hw _ (List.mem_of_getElem? (i := 256) rfl)) (hw _ (List.mem_of_getElem? (i := 257) rfl)) (hw _ (List.mem_of_getElem? (i := 5) rfl)) (hw _ (List.mem_of_getElem? (i := 258) rfl)) (by decide) pd_34 rfl rfl rfl (nle rfl) (nle rfl) (nle rfl) (nle rfl) (allS (SafeBy.mem Ans.lt (by simp)) all0) (fun v h85 F' hq szh85 => ?_)
      obtain ⟨rfl, K2, t, St⟩ := hq
      have z2 := K2.1
      have hO := hO.keep K2 (allS (by omega) all0)
      have K := K.trans K2 (allS (Or.inr (by omega)) all0)
      have Aq := Aq.keep K2 (ninS (nea (by omega)) nin0)
      have Ans := Ans.keep K2
      exact WP.areturn d1_69 rfl rfl rfl (by decide) (by decide) (G := []) (fun _ q => nomatch q) ⟨ns, t, _, rfl, K, St, fb_map [x77, x78], by simp⟩
    · refine WP.iload_n d1_40 rfl ?_
      refine WP.static (argsL := [(.int x77)]) (rest := []) d1_41 (rm_vo l Z a0 hw n0 h0 hO zc hcs hzc x77 Bx77) (hw _ (List.mem_of_getElem? (i := 241) rfl)) (hw _ (List.mem_of_getElem? (i := 242) rfl)) (hw _ (List.mem_of_getElem? (i := 5) rfl)) (hw _ (List.mem_of_getElem? (i := 243) rfl)) (by decide) pd_30 rfl rfl rfl (nle rfl) (nle rfl) (nle rfl) (nle rfl) (fun _ q => nomatch q) (fun v h86 F' hq szh86 => ?_)
      obtain ⟨a, t, rfl, ha, ht, K2, St⟩ := hq
      have hO := hO.keep K2 all0
      have K := K.trans K2 all0
      exact WP.areturn d1_44 rfl rfl rfl (by decide) (by decide) (G := []) (fun _ q => nomatch q) ⟨a, t, _, rfl, K, St, fb_map [x77], by simp⟩
  · refine WP.ldcS (n := 0) (bs := []) d1_32 hEL (by simp [consts_1, x]) (hw _ (List.mem_of_getElem? (i := 4) rfl)) (own_wS hw) ⟨by decide, by decide⟩ (by decide) (by decide) (by decide) (by decide) (by decide) (fun h87 s88 t89 Eh87 Xs88 Cs88 Vs88 Bs88 => ?_)
    have hO := hO.ext Eh87
    have K := K.ext Eh87
    have zEh87 := Eh87.1
    have Ls88 : Str Z h87 s88 t89 [] := ⟨Xs88, Cs88, Vs88, Bs88⟩
    exact WP.areturn d1_34 rfl rfl rfl (by decide) (by decide) (G := []) (fun _ q => nomatch q) ⟨s88, t89, [], rfl, K, Ls88, FB.nil, by simp⟩
theorem own_exc : ∀ d ∈ Jvm.Free.Exc.excAtoms "com/example/proviso/proviso/InvalidInputException", d ≠ badW → d ∈ tables_1 := by decide +kernel
abbrev QTh (Z : State) (a m : Addr) (h0 : Heap) (v : Option Value) (h : Heap) (F : List Addr) : Prop := v = none ∧ Keep h0 h [a] ∧ Exa Z h a "com/example/proviso/proviso/InvalidInputException" ∧ Fld Z h a "java/lang/Throwable" "detailMessage" "Ljava/lang/String;" (.ref m)
set_option maxRecDepth 65536 in
set_option maxHeartbeats 4000000 in
theorem rm_th (l : Launch) (Z : State) (a0 : Array Value) (hw : ∀ d ∈ tables_1, d.before a0 Z = true) (n0 : Nat) (h0 : Heap) (hO : Old Z n0 h0) (hst : l.stackTraces = true) (hG : Gn Z) (u sn : Addr) (hU : Sta Z Z.heap "java/lang/Throwable" "UNASSIGNED_STACK" "[Ljava/lang/StackTraceElement;" (.ref u)) (hSN : Sta Z Z.heap "java/lang/Throwable" "SUPPRESSED_SENTINEL" "Ljava/util/List;" (.ref sn)) (a m : Addr) (E : Exa Z h0 a "com/example/proviso/proviso/InvalidInputException") (N : Unt h0 a) {vFc : Value} (Fc : Fld Z h0 a "java/lang/Throwable" "cause" "Ljava/lang/Throwable;" vFc) {vFs : Value} (Fs : Fld Z h0 a "java/lang/Throwable" "stackTrace" "[Ljava/lang/StackTraceElement;" vFs) {vFp : Value} (Fp : Fld Z h0 a "java/lang/Throwable" "suppressedExceptions" "Ljava/util/List;" vFp) (Fb : Fld Z h0 a "java/lang/Throwable" "backtrace" "Ljava/lang/Object;" .null) (Fm : Fld Z h0 a "java/lang/Throwable" "detailMessage" "Ljava/lang/String;" .null) (na : n0 ≤ a) :
    Met l Z consts_1 n0 [] (⟨"java/lang/Throwable", "<init>", "(Ljava/lang/String;)V"⟩ : MethodName) jdk_78_method_2_code 2 none ({ frames := 3, cells := 1, slots := 2752, locals := 42 } : Room) #[.ref a, .ref m] [] h0 (QTh Z a m h0) := by
  have hEL := own_EW hw
  have hn0 : n0 ≤ h0.size := hO.1 ▸ hO.2.1
  refine Met.of (by decide +kernel) hEL hO (Ls := #[.val (.ref a), .val (.ref m)]) (fun m => by first | (simp [entryFrame, mkF, argsToLocals, Value.category]; done) | rfl) ?_
  have K : Keep h0 h0 [a] := Keep.refl _ _
  have la := nlt E.lt
  refine WP.aload_n d31_0 rfl rfl ?_
  refine WP.initObject d31_1 (hw _ (List.mem_of_getElem? (i := 169) rfl)) (hw _ (List.mem_of_getElem? (i := 31) rfl)) (hw _ (List.mem_of_getElem? (i := 32) rfl)) rfl (nle rfl) (nle rfl) ?_
  refine WP.aload_n d31_4 rfl rfl ?_
  refine WP.aload_n d31_5 rfl rfl ?_
  refine WP.putfield (host := "") d31_6 (Or.inl (hw _ (List.mem_of_getElem? (i := 170) rfl))) Via.refl Fc E (Or.inl (hw _ (List.mem_of_getElem? (i := 171) rfl))) (hw _ (List.mem_of_getElem? (i := 17) rfl)) (ty := (.object "java/lang/Throwable")) (by decide) rfl rfl na (SafeBy.exa E) (fun h90 W91 => ?_)
  have zW91 := W91.size
  have E := E.wr W91
  have N := Jvm.RoadKit.Unt.wr W91 N
  have Fc := Fc.same W91
  have Fs := Fs.other W91 (Or.inr (slot_ne (Or.inl (hw _ (List.mem_of_getElem? (i := 174) rfl))) (Or.inl (hw _ (List.mem_of_getElem? (i := 171) rfl))) (by decide) (t := (.array (.object "java/lang/StackTraceElement"))) (t' := (.object "java/lang/Throwable")) (by decide) (by decide)))
  have Fp := Fp.other W91 (Or.inr (slot_ne (Or.inl (hw _ (List.mem_of_getElem? (i := 177) rfl))) (Or.inl (hw _ (List.mem_of_getElem? (i := 171) rfl))) (by decide) (t := (.object "java/util/List")) (t' := (.object "java/lang/Throwable")) (by decide) (by decide)))
  have Fb := Fb.other W91 (Or.inr (slot_ne (Or.inl (hw _ (List.mem_of_getElem? (i := 202) rfl))) (Or.inl (hw _ (List.mem_of_getElem? (i := 171) rfl))) (by decide) (t := (.object "java/lang/Object")) (t' := (.object "java/lang/Throwable")) (by decide) (by decide)))
  have Fm := Fm.other W91 (Or.inr (slot_ne (Or.inl (hw _ (List.mem_of_getElem? (i := 201) rfl))) (Or.inl (hw _ (List.mem_of_getElem? (i := 171) rfl))) (by decide) (t := (.object "java/lang/String")) (t' := (.object "java/lang/Throwable")) (by decide) (by decide)))
  have K := K.wr W91 (Or.inl (by simp))
  refine WP.aload_n d31_9 rfl rfl ?_
  refine WP.getstatic d31_10 (hw _ (List.mem_of_getElem? (i := 172) rfl)) Via.refl hU ?_
  refine WP.putfield (host := "") d31_13 (Or.inl (hw _ (List.mem_of_getElem? (i := 173) rfl))) Via.refl Fs E (Or.inl (hw _ (List.mem_of_getElem? (i := 174) rfl))) (hw _ (List.mem_of_getElem? (i := 17) rfl)) (ty := (.array (.object "java/lang/StackTraceElement"))) (by decide) rfl rfl na (SafeBy.exa E) (fun h92 W93 => ?_)
  have zW93 := W93.size
  have E := E.wr W93
  have N := Jvm.RoadKit.Unt.wr W93 N
  have Fc := Fc.other W93 (Or.inr (slot_ne (Or.inl (hw _ (List.mem_of_getElem? (i := 171) rfl))) (Or.inl (hw _ (List.mem_of_getElem? (i := 174) rfl))) (by decide) (t := (.object "java/lang/Throwable")) (t' := (.array (.object "java/lang/StackTraceElement"))) (by decide) (by decide)))
  have Fs := Fs.same W93
  have Fp := Fp.other W93 (Or.inr (slot_ne (Or.inl (hw _ (List.mem_of_getElem? (i := 177) rfl))) (Or.inl (hw _ (List.mem_of_getElem? (i := 174) rfl))) (by decide) (t := (.object "java/util/List")) (t' := (.array (.object "java/lang/StackTraceElement"))) (by decide) (by decide)))
  have Fb := Fb.other W93 (Or.inr (slot_ne (Or.inl (hw _ (List.mem_of_getElem? (i := 202) rfl))) (Or.inl (hw _ (List.mem_of_getElem? (i := 174) rfl))) (by decide) (t := (.object "java/lang/Object")) (t' := (.array (.object "java/lang/StackTraceElement"))) (by decide) (by decide)))
  have Fm := Fm.other W93 (Or.inr (slot_ne (Or.inl (hw _ (List.mem_of_getElem? (i := 201) rfl))) (Or.inl (hw _ (List.mem_of_getElem? (i := 174) rfl))) (by decide) (t := (.object "java/lang/String")) (t' := (.array (.object "java/lang/StackTraceElement"))) (by decide) (by decide)))
  have K := K.wr W93 (Or.inl (by simp))
  refine WP.aload_n d31_16 rfl rfl ?_
  refine WP.getstatic d31_17 (hw _ (List.mem_of_getElem? (i := 175) rfl)) Via.refl hSN ?_
  refine WP.putfield (host := "") d31_20 (Or.inl (hw _ (List.mem_of_getElem? (i := 176) rfl))) Via.refl Fp E (Or.inl (hw _ (List.mem_of_getElem? (i := 177) rfl))) (hw _ (List.mem_of_getElem? (i := 17) rfl)) (ty := (.object "java/util/List")) (by decide) rfl rfl na (SafeBy.exa E) (fun h94 W95 => ?_)
  have zW95 := W95.size
  have E := E.wr W95
  have N := Jvm.RoadKit.Unt.wr W95 N
  have Fc := Fc.other W95 (Or.inr (slot_ne (Or.inl (hw _ (List.mem_of_getElem? (i := 171) rfl))) (Or.inl (hw _ (List.mem_of_getElem? (i := 177) rfl))) (by decide) (t := (.object "java/lang/Throwable")) (t' := (.object "java/util/List")) (by decide) (by decide)))
  have Fs := Fs.other W95 (Or.inr (slot_ne (Or.inl (hw _ (List.mem_of_getElem? (i := 174) rfl))) (Or.inl (hw _ (List.mem_of_getElem? (i := 177) rfl))) (by decide) (t := (.array (.object "java/lang/StackTraceElement"))) (t' := (.object "java/util/List")) (by decide) (by decide)))
  have Fp := Fp.same W95
  have Fb := Fb.other W95 (Or.inr (slot_ne (Or.inl (hw _ (List.mem_of_getElem? (i := 202) rfl))) (Or.inl (hw _ (List.mem_of_getElem? (i := 177) rfl))) (by decide) (t := (.object "java/lang/Object")) (t' := (.object "java/util/List")) (by decide) (by decide)))
  have Fm := Fm.other W95 (Or.inr (slot_ne (Or.inl (hw _ (List.mem_of_getElem? (i := 201) rfl))) (Or.inl (hw _ (List.mem_of_getElem? (i := 177) rfl))) (by decide) (t := (.object "java/lang/String")) (t' := (.object "java/util/List")) (by decide) (by decide)))
  have K := K.wr W95 (Or.inl (by simp))
  refine WP.aload_n d31_23 rfl rfl ?_
  refine WP.fill (rc := "com/example/proviso/proviso/InvalidInputException") (rest := []) rfl d31_24 hst hG (by decide) (fun c hc hn => hw c (own_exc c hc hn)) (hw _ (List.mem_of_getElem? (i := 17) rfl)) hU E N Fs Fb Fm na (SafeBy.exa E) rfl (nle rfl) (nle rfl) (nle rfl) (nle rfl) (fun h96 K2 E Fm => ?_)
  have K := K.trans K2 (allS (Or.inl (by simp)) all0)
  refine WP.pop d31_27 rfl ?_
  refine WP.aload_n d31_28 rfl rfl ?_
  refine WP.aload_n d31_29 rfl rfl ?_
  refine WP.putfield (host := "") d31_30 (Or.inl (hw _ (List.mem_of_getElem? (i := 205) rfl))) Via.refl Fm E (Or.inl (hw _ (List.mem_of_getElem? (i := 201) rfl))) (hw _ (List.mem_of_getElem? (i := 17) rfl)) (ty := (.object "java/lang/String")) (by decide) rfl rfl na (SafeBy.exa E) (fun h97 W98 => ?_)
  have zW98 := W98.size
  have E := E.wr W98
  have Fm := Fm.same W98
  have K := K.wr W98 (Or.inl (by simp))
  exact WP.return_ d31_33 rfl (by decide) (by decide) (G := []) (fun _ q => nomatch q) ⟨rfl, K, E, Fm⟩
set_option maxRecDepth 65536 in
set_option maxHeartbeats 4000000 in
theorem rm_exi (l : Launch) (Z : State) (a0 : Array Value) (hw : ∀ d ∈ tables_1, d.before a0 Z = true) (n0 : Nat) (h0 : Heap) (hO : Old Z n0 h0) (hst : l.stackTraces = true) (hG : Gn Z) (u sn : Addr) (hU : Sta Z Z.heap "java/lang/Throwable" "UNASSIGNED_STACK" "[Ljava/lang/StackTraceElement;" (.ref u)) (hSN : Sta Z Z.heap "java/lang/Throwable" "SUPPRESSED_SENTINEL" "Ljava/util/List;" (.ref sn)) (a m : Addr) (E : Exa Z h0 a "com/example/proviso/proviso/InvalidInputException") (N : Unt h0 a) {vFc : Value} (Fc : Fld Z h0 a "java/lang/Throwable" "cause" "Ljava/lang/Throwable;" vFc) {vFs : Value} (Fs : Fld Z h0 a "java/lang/Throwable" "stackTrace" "[Ljava/lang/StackTraceElement;" vFs) {vFp : Value} (Fp : Fld Z h0 a "java/lang/Throwable" "suppressedExceptions" "Ljava/util/List;" vFp) (Fb : Fld Z h0 a "java/lang/Throwable" "backtrace" "Ljava/lang/Object;" .null) (Fm : Fld Z h0 a "java/lang/Throwable" "detailMessage" "Ljava/lang/String;" .null) (na : n0 ≤ a) :
    Met l Z consts_1 n0 [] (⟨"java/lang/Exception", "<init>", "(Ljava/lang/String;)V"⟩ : MethodName) jdk_59_method_2_code 2 none ({ frames := 4, cells := 1, slots := 2752, locals := 55 } : Room) #[.ref a, .ref m] [] h0 (QTh Z a m h0) := by
  have hEL := own_EW hw
  have hn0 : n0 ≤ h0.size := hO.1 ▸ hO.2.1
  refine Met.of (by decide +kernel) hEL hO (Ls := #[.val (.ref a), .val (.ref m)]) (fun m => by first | (simp [entryFrame, mkF, argsToLocals, Value.category]; done) | rfl) ?_
  refine WP.aload_n d30_0 rfl rfl ?_
  refine WP.aload_n d30_1 rfl rfl ?_
  refine WP.special (a := a) (argsL := [(.ref m)]) (rest := []) d30_2 (rm_th l Z a0 hw n0 h0 hO hst hG u sn hU hSN a m E N Fc Fs Fp Fb Fm na) rfl (hw _ (List.mem_of_getElem? (i := 163) rfl)) (hw _ (List.mem_of_getElem? (i := 164) rfl)) (hw _ (List.mem_of_getElem? (i := 167) rfl)) (hw _ (List.mem_of_getElem? (i := 168) rfl)) (by decide) pd_9 rfl rfl rfl (nle rfl) (nle rfl) (nle rfl) (nle rfl) (fun _ q => nomatch q) (fun v h99 F' hq szh99 => ?_)
  obtain ⟨rfl, r⟩ := hq
  exact WP.return_ d30_5 rfl (by decide) (by decide) (G := []) (fun _ q => nomatch q) ⟨rfl, r⟩
set_option maxRecDepth 65536 in
set_option maxHeartbeats 4000000 in
theorem rm_ie (l : Launch) (Z : State) (a0 : Array Value) (hw : ∀ d ∈ tables_1, d.before a0 Z = true) (n0 : Nat) (h0 : Heap) (hO : Old Z n0 h0) (hst : l.stackTraces = true) (hG : Gn Z) (u sn : Addr) (hU : Sta Z Z.heap "java/lang/Throwable" "UNASSIGNED_STACK" "[Ljava/lang/StackTraceElement;" (.ref u)) (hSN : Sta Z Z.heap "java/lang/Throwable" "SUPPRESSED_SENTINEL" "Ljava/util/List;" (.ref sn)) (a m : Addr) (E : Exa Z h0 a "com/example/proviso/proviso/InvalidInputException") (N : Unt h0 a) {vFc : Value} (Fc : Fld Z h0 a "java/lang/Throwable" "cause" "Ljava/lang/Throwable;" vFc) {vFs : Value} (Fs : Fld Z h0 a "java/lang/Throwable" "stackTrace" "[Ljava/lang/StackTraceElement;" vFs) {vFp : Value} (Fp : Fld Z h0 a "java/lang/Throwable" "suppressedExceptions" "Ljava/util/List;" vFp) (Fb : Fld Z h0 a "java/lang/Throwable" "backtrace" "Ljava/lang/Object;" .null) (Fm : Fld Z h0 a "java/lang/Throwable" "detailMessage" "Ljava/lang/String;" .null) (na : n0 ≤ a) :
    Met l Z consts_1 n0 [] (⟨"com/example/proviso/proviso/InvalidInputException", "<init>", "(Ljava/lang/String;)V"⟩ : MethodName) prog_12_method_1_code 2 none ({ frames := 5, cells := 1, slots := 2752, locals := 68 } : Room) #[.ref a, .ref m] [] h0 (QTh Z a m h0) := by
  have hEL := own_EW hw
  have hn0 : n0 ≤ h0.size := hO.1 ▸ hO.2.1
  refine Met.of (by decide +kernel) hEL hO (Ls := #[.val (.ref a), .val (.ref m)]) (fun m => by first | (simp [entryFrame, mkF, argsToLocals, Value.category]; done) | rfl) ?_
  refine WP.aload_n d29_0 rfl rfl ?_
  refine WP.aload_n d29_1 rfl rfl ?_
  refine WP.special (a := a) (argsL := [(.ref m)]) (rest := []) d29_2 (rm_exi l Z a0 hw n0 h0 hO hst hG u sn hU hSN a m E N Fc Fs Fp Fb Fm na) rfl (hw _ (List.mem_of_getElem? (i := 158) rfl)) (hw _ (List.mem_of_getElem? (i := 159) rfl)) (hw _ (List.mem_of_getElem? (i := 161) rfl)) (hw _ (List.mem_of_getElem? (i := 162) rfl)) (by decide) pd_9 rfl rfl rfl (nle rfl) (nle rfl) (nle rfl) (nle rfl) (fun _ q => nomatch q) (fun v h100 F' hq szh100 => ?_)
  obtain ⟨rfl, r⟩ := hq
  exact WP.return_ d29_5 rfl (by decide) (by decide) (G := []) (fun _ q => nomatch q) ⟨rfl, r⟩
abbrev LB1 : List Int32 := [32, 110, 97, 109, 101, 115, 32, 116, 104, 101, 32, 117, 110, 100, 101, 99, 108, 97, 114, 101, 100, 32]
abbrev LB2 : List Int32 := [32, 34]
abbrev LB3 : List Int32 := [34]
abbrev msgB (os ks ns : List Int32) : List Int32 := [] ++ os ++ LB1 ++ ks ++ LB2 ++ ns ++ LB3
abbrev QUn (Z : State) (os ks ns : List Int32) (h0 : Heap) (v : Option Value) (h : Heap) (F : List Addr) : Prop := ∃ e m tm, v = some (.ref e) ∧ Keep h0 h [] ∧ Exa Z h e "com/example/proviso/proviso/InvalidInputException" ∧ Fld Z h e "java/lang/Throwable" "detailMessage" "Ljava/lang/String;" (.ref m) ∧ Str Z h m tm (msgB os ks ns)
set_option maxRecDepth 65536 in
set_option maxHeartbeats 4000000 in
theorem rm_un (l : Launch) (Z : State) (a0 : Array Value) (hw : ∀ d ∈ tables_1, d.before a0 Z = true) (n0 : Nat) (h0 : Heap) (hO : Old Z n0 h0) (zc : Int32) (hcs : Sta Z Z.heap "java/lang/String" "COMPACT_STRINGS" "Z" (.int zc)) (hzc : zc ≠ 0) (hst : l.stackTraces = true) (hG : Gn Z) (u sn : Addr) (hU : Sta Z Z.heap "java/lang/Throwable" "UNASSIGNED_STACK" "[Ljava/lang/StackTraceElement;" (.ref u)) (hSN : Sta Z Z.heap "java/lang/Throwable" "SUPPRESSED_SENTINEL" "Ljava/util/List;" (.ref sn)) (o to : Addr) (os : List Int32) (Do : Str Z h0 o to os) (fo : FB os) (qo : os.length ≤ 2) (k tk : Addr) (ks : List Int32) (Dk : Str Z h0 k tk ks) (fk : FB ks) (qk : ks.length ≤ 2) (n tn : Addr) (ns : List Int32) (Dn : Str Z h0 n tn ns) (fn : FB ns) (qn : ns.length ≤ 2) :
    Met l Z consts_1 n0 [] (⟨"com/example/proviso/proviso/InvalidInputException", "undeclared", "(Ljava/lang/String;Ljava/lang/String;Ljava/lang/String;)Lcom/example/proviso/proviso/InvalidInputException;"⟩ : MethodName) prog_12_method_2_code 3 (some (.object "com/example/proviso/proviso/InvalidInputException")) ({ frames := 6, cells := 20, slots := 3200, locals := 120 } : Room) #[.ref o, .ref k, .ref n] [] h0 (QUn Z os ks ns h0) := by
  have hEL := own_EW hw
  have hn0 : n0 ≤ h0.size := hO.1 ▸ hO.2.1
  refine Met.of (by decide +kernel) hEL hO (Ls := #[.val (.ref o), .val (.ref k), .val (.ref n)]) (fun m => by first | (simp [entryFrame, mkF, argsToLocals, Value.category]; done) | rfl) ?_
  have K : Keep h0 h0 [] := Keep.refl _ _
  have lo := nlt Do.lt
  have lto := nlt Do.ltT
  have lk := nlt Dk.lt
  have ltk := nlt Dk.ltT
  have ln := nlt Dn.lt
  have ltn := nlt Dn.ltT
  refine WP.new d2_0 (hw _ (List.mem_of_getElem? (i := 16) rfl)) (hw _ (List.mem_of_getElem? (i := 17) rfl)) (hw _ (List.mem_of_getElem? (i := 14) rfl)) (nle rfl) (nle rfl) (fun h101 e ge Ee Ae De Ue => ?_)
  have hO := hO.ext Ee
  have K := K.ext Ee
  have Do := Do.ext Ee
  have Dk := Dk.ext Ee
  have Dn := Dn.ext Ee
  have le := nlt Ae.lt
  have ze := Ee.1
  have Fb := De (Or.inl (hw _ (List.mem_of_getElem? (i := 202) rfl))) (ty := .object "java/lang/Object") (by decide)
  have Fm := De (Or.inl (hw _ (List.mem_of_getElem? (i := 201) rfl))) (ty := .object "java/lang/String") (by decide)
  have Fc := De (Or.inl (hw _ (List.mem_of_getElem? (i := 171) rfl))) (ty := .object "java/lang/Throwable") (by decide)
  have Fs := De (Or.inl (hw _ (List.mem_of_getElem? (i := 174) rfl))) (ty := .array (.object "java/lang/StackTraceElement")) (by decide)
  have Fp := De (Or.inl (hw _ (List.mem_of_getElem? (i := 177) rfl))) (ty := .object "java/util/List") (by decide)
  refine WP.dup d2_3 rfl ?_
  refine WP.new d2_4 (hw _ (List.mem_of_getElem? (i := 18) rfl)) (hw _ (List.mem_of_getElem? (i := 19) rfl)) (hw _ (List.mem_of_getElem? (i := 20) rfl)) (nle rfl) (nle rfl) (fun h102 b gb Eb Ab Db Ub => ?_)
  have hO := hO.ext Eb
  have K := K.ext Eb
  have Do := Do.ext Eb
  have Dk := Dk.ext Eb
  have Dn := Dn.ext Eb
  have Ae := Ae.ext Eb
  have Fb := Fb.ext Eb
  have Fm := Fm.ext Eb
  have Fc := Fc.ext Eb
  have Fs := Fs.ext Eb
  have Fp := Fp.ext Eb
  have Ue := Ue.ext Eb
  have lb := nlt Ab.lt
  have zb := Eb.1
  have Vb := Db (Or.inl (hw _ (List.mem_of_getElem? (i := 35) rfl))) (ty := .array .byte) (by decide)
  have Wb := Db (Or.inl (hw _ (List.mem_of_getElem? (i := 37) rfl))) (ty := .byte) (by decide)
  have Nb := Db (Or.inl (hw _ (List.mem_of_getElem? (i := 62) rfl))) (ty := .int) (by decide)
  refine WP.dup d2_7 rfl ?_
  refine WP.special (a := b) (argsL := []) (rest := [(.ref b), (.ref e), (.ref e)]) d2_8 (rm_si l Z a0 hw n0 h102 hO zc hcs hzc b Ab Vb Wb Nb (by omega)) rfl (hw _ (List.mem_of_getElem? (i := 21) rfl)) (hw _ (List.mem_of_getElem? (i := 22) rfl)) (hw _ (List.mem_of_getElem? (i := 20) rfl)) (hw _ (List.mem_of_getElem? (i := 23) rfl)) (by decide) pd_2 rfl rfl rfl (nle rfl) (nle rfl) (nle rfl) (nle rfl) (fun _ q => nomatch q) (fun v h103 F' hq szh103 => ?_)
  obtain ⟨t0, hF, rfl, ht0, K1, B⟩ := hq
  subst hF
  have z1 := K1.1
  have hO := hO.keep K1 (allS (by omega) all0)
  have K := K.trans K1 (allS (Or.inr (by omega)) all0)
  have Do := Do.keep K1 (ninS (nea (by omega)) nin0) (ninS (nea (by omega)) nin0)
  have Dk := Dk.keep K1 (ninS (nea (by omega)) nin0) (ninS (nea (by omega)) nin0)
  have Dn := Dn.keep K1 (ninS (nea (by omega)) nin0) (ninS (nea (by omega)) nin0)
  have Ae := Ae.keep K1
  have Fb := Fb.keep K1 (ninS (nea (by omega)) nin0)
  have Fm := Fm.keep K1 (ninS (nea (by omega)) nin0)
  have Fc := Fc.keep K1 (ninS (nea (by omega)) nin0)
  have Fs := Fs.keep K1 (ninS (nea (by omega)) nin0)
  have Fp := Fp.keep K1 (ninS (nea (by omega)) nin0)
  have Ue := Ue.keep K1 (ninS (nea (by omega)) nin0)
  have lb0 := nlt B.lt
  have lt0 := nlt B.ltT
  have g0 : b ≤ t0 := by omega
  refine WP.aload_n d2_11 rfl rfl ?_
  refine WP.virtual (a := b) (argsL := [(.ref o)]) (rest := [(.ref e), (.ref e)]) d2_12 (rm_sap l Z a0 hw n0 h103 hO zc hcs hzc b t0 _ 16 B o to _ Do fo (by simp; omega) (by omega) (by omega)) B.1 (hw _ (List.mem_of_getElem? (i := 38) rfl)) (hw _ (List.mem_of_getElem? (i := 39) rfl)) (hw _ (List.mem_of_getElem? (i := 40) rfl)) (hw _ (List.mem_of_getElem? (i := 41) rfl)) (hw _ (List.mem_of_getElem? (i := 20) rfl)) (hw _ (List.mem_of_getElem? (i := 42) rfl)) (hw _ (List.mem_of_getElem? (i := 41) rfl)) (by decide) pd_4 rfl rfl rfl (nle rfl) (nle rfl) (nle rfl) (nle rfl) (allS (SafeBy.mem B.ltT (by simp)) all0) (fun v h104 F' hq szh104 => ?_)
  obtain ⟨t1, C1, hF, rfl, Kk1, B, ho1⟩ := hq
  subst hF
  have zk1 := Kk1.1
  have hO := hO.keep Kk1 (allS (by omega) (allS (by omega) all0))
  have K := K.trans Kk1 (allS (Or.inr (by omega)) (allS (Or.inr (by omega)) all0))
  have Do := Do.keep Kk1 (ninS (nea (by omega)) (ninS (nea (by omega)) nin0)) (ninS (nea (by omega)) (ninS (nea (by omega)) nin0))
  have Dk := Dk.keep Kk1 (ninS (nea (by omega)) (ninS (nea (by omega)) nin0)) (ninS (nea (by omega)) (ninS (nea (by omega)) nin0))
  have Dn := Dn.keep Kk1 (ninS (nea (by omega)) (ninS (nea (by omega)) nin0)) (ninS (nea (by omega)) (ninS (nea (by omega)) nin0))
  have Ae := Ae.keep Kk1
  have Fb := Fb.keep Kk1 (ninS (nea (by omega)) (ninS (nea (by omega)) nin0))
  have Fm := Fm.keep Kk1 (ninS (nea (by omega)) (ninS (nea (by omega)) nin0))
  have Fc := Fc.keep Kk1 (ninS (nea (by omega)) (ninS (nea (by omega)) nin0))
  have Fs := Fs.keep Kk1 (ninS (nea (by omega)) (ninS (nea (by omega)) nin0))
  have Fp := Fp.keep Kk1 (ninS (nea (by omega)) (ninS (nea (by omega)) nin0))
  have Ue := Ue.keep Kk1 (ninS (nea (by omega)) (ninS (nea (by omega)) nin0))
  have ltt1 := nlt B.ltT
  have g1 : b ≤ t1 := by
    rcases ho1 with ho | ho
    · rw [ho]; exact g0
    · omega
  refine WP.ldcS (n := 88) (bs := LB1) d2_15 hEL (by simp [consts_1, x]) (hw _ (List.mem_of_getElem? (i := 88) rfl)) (own_wS hw) ⟨by decide, by decide⟩ (by decide) (by decide) (by decide) (by decide) (by decide) (fun h105 s106 t107 Eh105 Xs106 Cs106 Vs106 Bs106 => ?_)
  have hO := hO.ext Eh105
  have K := K.ext Eh105
  have Do := Do.ext Eh105
  have Dk := Dk.ext Eh105
  have Dn := Dn.ext Eh105
  have Ae := Ae.ext Eh105
  have Fb := Fb.ext Eh105
  have Fm := Fm.ext Eh105
  have Fc := Fc.ext Eh105
  have Fs := Fs.ext Eh105
  have Fp := Fp.ext Eh105
  have Ue := Ue.ext Eh105
  have B := B.ext Eh105
  have zEh105 := Eh105.1
  have Ls106 : Str Z h105 s106 t107 LB1 := ⟨Xs106, Cs106, Vs106, Bs106⟩
  refine WP.virtual (a := b) (argsL := [(.ref s106)]) (rest := [(.ref e), (.ref e)]) d2_17 (rm_sap l Z a0 hw n0 h105 hO zc hcs hzc b t1 _ C1 B s106 t107 _ Ls106 (by unfold FB; decide) (by simp; omega) (by omega) (by omega)) B.1 (hw _ (List.mem_of_getElem? (i := 38) rfl)) (hw _ (List.mem_of_getElem? (i := 39) rfl)) (hw _ (List.mem_of_getElem? (i := 40) rfl)) (hw _ (List.mem_of_getElem? (i := 41) rfl)) (hw _ (List.mem_of_getElem? (i := 20) rfl)) (hw _ (List.mem_of_getElem? (i := 42) rfl)) (hw _ (List.mem_of_getElem? (i := 41) rfl)) (by decide) pd_4 rfl rfl rfl (nle rfl) (nle rfl) (nle rfl) (nle rfl) (allS (SafeBy.mem B.ltT (by simp)) all0) (fun v h108 F' hq szh108 => ?_)
  obtain ⟨t2, C2, hF, rfl, Kk2, B, ho2⟩ := hq
  subst hF
  have zk2 := Kk2.1
  have hO := hO.keep Kk2 (allS (by omega) (allS (by omega) all0))
  have K := K.trans Kk2 (allS (Or.inr (by omega)) (allS (Or.inr (by omega)) all0))
  have Do := Do.keep Kk2 (ninS (nea (by omega)) (ninS (nea (by omega)) nin0)) (ninS (nea (by omega)) (ninS (nea (by omega)) nin0))
  have Dk := Dk.keep Kk2 (ninS (nea (by omega)) (ninS (nea (by omega)) nin0)) (ninS (nea (by omega)) (ninS (nea (by omega)) nin0))
  have Dn := Dn.keep Kk2 (ninS (nea (by omega)) (ninS (nea (by omega)) nin0)) (ninS (nea (by omega)) (ninS (nea (by omega)) nin0))
  have Ae := Ae.keep Kk2
  have Fb := Fb.keep Kk2 (ninS (nea (by omega)) (ninS (nea (by omega)) nin0))
  have Fm := Fm.keep Kk2 (ninS (nea (by omega)) (ninS (nea (by omega)) nin0))
  have Fc := Fc.keep Kk2 (ninS (nea (by omega)) (ninS (nea (by omega)) nin0))
  have Fs := Fs.keep Kk2 (ninS (nea (by omega)) (ninS (nea (by omega)) nin0))
  have Fp := Fp.keep Kk2 (ninS (nea (by omega)) (ninS (nea (by omega)) nin0))
  have Ue := Ue.keep Kk2 (ninS (nea (by omega)) (ninS (nea (by omega)) nin0))
  have ltt2 := nlt B.ltT
  have g2 : b ≤ t2 := by
    rcases ho2 with ho | ho
    · rw [ho]; exact g1
    · omega
  refine WP.aload_n d2_20 rfl rfl ?_
  refine WP.virtual (a := b) (argsL := [(.ref k)]) (rest := [(.ref e), (.ref e)]) d2_21 (rm_sap l Z a0 hw n0 h108 hO zc hcs hzc b t2 _ C2 B k tk _ Dk fk (by simp; omega) (by omega) (by omega)) B.1 (hw _ (List.mem_of_getElem? (i := 38) rfl)) (hw _ (List.mem_of_getElem? (i := 39) rfl)) (hw _ (List.mem_of_getElem? (i := 40) rfl)) (hw _ (List.mem_of_getElem? (i := 41) rfl)) (hw _ (List.mem_of_getElem? (i := 20) rfl)) (hw _ (List.mem_of_getElem? (i := 42) rfl)) (hw _ (List.mem_of_getElem? (i := 41) rfl)) (by decide) pd_4 rfl rfl rfl (nle rfl) (nle rfl) (nle rfl) (nle rfl) (allS (SafeBy.mem B.ltT (by simp)) all0) (fun v h109 F' hq szh109 => ?_)
  obtain ⟨t3, C3, hF, rfl, Kk3, B, ho3⟩ := hq
  subst hF
  have zk3 := Kk3.1
  have hO := hO.keep Kk3 (allS (by omega) (allS (by omega) all0))
  have K := K.trans Kk3 (allS (Or.inr (by omega)) (allS (Or.inr (by omega)) all0))
  have Do := Do.keep Kk3 (ninS (nea (by omega)) (ninS (nea (by omega)) nin0)) (ninS (nea (by omega)) (ninS (nea (by omega)) nin0))
  have Dk := Dk.keep Kk3 (ninS (nea (by omega)) (ninS (nea (by omega)) nin0)) (ninS (nea (by omega)) (ninS (nea (by omega)) nin0))
  have Dn := Dn.keep Kk3 (ninS (nea (by omega)) (ninS (nea (by omega)) nin0)) (ninS (nea (by omega)) (ninS (nea (by omega)) nin0))
  have Ae := Ae.keep Kk3
  have Fb := Fb.keep Kk3 (ninS (nea (by omega)) (ninS (nea (by omega)) nin0))
  have Fm := Fm.keep Kk3 (ninS (nea (by omega)) (ninS (nea (by omega)) nin0))
  have Fc := Fc.keep Kk3 (ninS (nea (by omega)) (ninS (nea (by omega)) nin0))
  have Fs := Fs.keep Kk3 (ninS (nea (by omega)) (ninS (nea (by omega)) nin0))
  have Fp := Fp.keep Kk3 (ninS (nea (by omega)) (ninS (nea (by omega)) nin0))
  have Ue := Ue.keep Kk3 (ninS (nea (by omega)) (ninS (nea (by omega)) nin0))
  have ltt3 := nlt B.ltT
  have g3 : b ≤ t3 := by
    rcases ho3 with ho | ho
    · rw [ho]; exact g2
    · omega
  refine WP.ldcS (n := 8) (bs := LB2) d2_24 hEL (by simp [consts_1, x]) (hw _ (List.mem_of_getElem? (i := 112) rfl)) (own_wS hw) ⟨by decide, by decide⟩ (by decide) (by decide) (by decide) (by decide) (by decide) (fun h110 s111 t112 Eh110 Xs111 Cs111 Vs111 Bs111 => ?_)
  have hO := hO.ext Eh110
  have K := K.ext Eh110
  have Do := Do.ext Eh110
  have Dk := Dk.ext Eh110
  have Dn := Dn.ext Eh110
  have Ae := Ae.ext Eh110
  have Fb := Fb.ext Eh110
  have Fm := Fm.ext Eh110
  have Fc := Fc.ext Eh110
  have Fs := Fs.ext Eh110
  have Fp := Fp.ext Eh110
  have Ue := Ue.ext Eh110
  have B := B.ext Eh110
  have zEh110 := Eh110.1
  have Ls111 : Str Z h110 s111 t112 LB2 := ⟨Xs111, Cs111, Vs111, Bs111⟩
  refine WP.virtual (a := b) (argsL := [(.ref s111)]) (rest := [(.ref e), (.ref e)]) d2_26 (rm_sap l Z a0 hw n0 h110 hO zc hcs hzc b t3 _ C3 B s111 t112 _ Ls111 (by unfold FB; decide) (by simp; omega) (by omega) (by omega)) B.1 (hw _ (List.mem_of_getElem? (i := 38) rfl)) (hw _ (List.mem_of_getElem? (i := 39) rfl)) (hw _ (List.mem_of_getElem? (i := 40) rfl)) (hw _ (List.mem_of_getElem? (i := 41) rfl)) (hw _ (List.mem_of_getElem? (i := 20) rfl)) (hw _ (List.mem_of_getElem? (i := 42) rfl)) (hw _ (List.mem_of_getElem? (i := 41) rfl)) (by decide) pd_4 rfl rfl rfl (nle rfl) (nle rfl) (nle rfl) (nle rfl) (allS (SafeBy.mem B.ltT (by simp)) all0) (fun v h113 F' hq szh113 => ?_)
  obtain ⟨t4, C4, hF, rfl, Kk4, B, ho4⟩ := hq
  subst hF
  have zk4 := Kk4.1
  have hO := hO.keep Kk4 (allS (by omega) (allS (by omega) all0))
  have K := K.trans Kk4 (allS (Or.inr (by omega)) (allS (Or.inr (by omega)) all0))
  have Do := Do.keep Kk4 (ninS (nea (by omega)) (ninS (nea (by omega)) nin0)) (ninS (nea (by omega)) (ninS (nea (by omega)) nin0))
  have Dk := Dk.keep Kk4 (ninS (nea (by omega)) (ninS (nea (by omega)) nin0)) (ninS (nea (by omega)) (ninS (nea (by omega)) nin0))
  have Dn := Dn.keep Kk4 (ninS (nea (by omega)) (ninS (nea (by omega)) nin0)) (ninS (nea (by omega)) (ninS (nea (by omega)) nin0))
  have Ae := Ae.keep Kk4
  have Fb := Fb.keep Kk4 (ninS (nea (by omega)) (ninS (nea (by omega)) nin0))
  have Fm := Fm.keep Kk4 (ninS (nea (by omega)) (ninS (nea (by omega)) nin0))
  have Fc := Fc.keep Kk4 (ninS (nea (by omega)) (ninS (nea (by omega)) nin0))
  have Fs := Fs.keep Kk4 (ninS (nea (by omega)) (ninS (nea (by omega)) nin0))
  have Fp := Fp.keep Kk4 (ninS (nea (by omega)) (ninS (nea (by omega)) nin0))
  have Ue := Ue.keep Kk4 (ninS (nea (by omega)) (ninS (nea (by omega)) nin0))
  have ltt4 := nlt B.ltT
  have g4 : b ≤ t4 := by
    rcases ho4 with ho | ho
    · rw [ho]; exact g3
    · omega
  refine WP.aload_n d2_29 rfl rfl ?_
  refine WP.virtual (a := b) (argsL := [(.ref n)]) (rest := [(.ref e), (.ref e)]) d2_30 (rm_sap l Z a0 hw n0 h113 hO zc hcs hzc b t4 _ C4 B n tn _ Dn fn (by simp; omega) (by omega) (by omega)) B.1 (hw _ (List.mem_of_getElem? (i := 38) rfl)) (hw _ (List.mem_of_getElem? (i := 39) rfl)) (hw _ (List.mem_of_getElem? (i := 40) rfl)) (hw _ (List.mem_of_getElem? (i := 41) rfl)) (hw _ (List.mem_of_getElem? (i := 20) rfl)) (hw _ (List.mem_of_getElem? (i := 42) rfl)) (hw _ (List.mem_of_getElem? (i := 41) rfl)) (by decide) pd_4 rfl rfl rfl (nle rfl) (nle rfl) (nle rfl) (nle rfl) (allS (SafeBy.mem B.ltT (by simp)) all0) (fun v h114 F' hq szh114 => ?_)
  obtain ⟨t5, C5, hF, rfl, Kk5, B, ho5⟩ := hq
  subst hF
  have zk5 := Kk5.1
  have hO := hO.keep Kk5 (allS (by omega) (allS (by omega) all0))
  have K := K.trans Kk5 (allS (Or.inr (by omega)) (allS (Or.inr (by omega)) all0))
  have Do := Do.keep Kk5 (ninS (nea (by omega)) (ninS (nea (by omega)) nin0)) (ninS (nea (by omega)) (ninS (nea (by omega)) nin0))
  have Dk := Dk.keep Kk5 (ninS (nea (by omega)) (ninS (nea (by omega)) nin0)) (ninS (nea (by omega)) (ninS (nea (by omega)) nin0))
  have Dn := Dn.keep Kk5 (ninS (nea (by omega)) (ninS (nea (by omega)) nin0)) (ninS (nea (by omega)) (ninS (nea (by omega)) nin0))
  have Ae := Ae.keep Kk5
  have Fb := Fb.keep Kk5 (ninS (nea (by omega)) (ninS (nea (by omega)) nin0))
  have Fm := Fm.keep Kk5 (ninS (nea (by omega)) (ninS (nea (by omega)) nin0))
  have Fc := Fc.keep Kk5 (ninS (nea (by omega)) (ninS (nea (by omega)) nin0))
  have Fs := Fs.keep Kk5 (ninS (nea (by omega)) (ninS (nea (by omega)) nin0))
  have Fp := Fp.keep Kk5 (ninS (nea (by omega)) (ninS (nea (by omega)) nin0))
  have Ue := Ue.keep Kk5 (ninS (nea (by omega)) (ninS (nea (by omega)) nin0))
  have ltt5 := nlt B.ltT
  have g5 : b ≤ t5 := by
    rcases ho5 with ho | ho
    · rw [ho]; exact g4
    · omega
  refine WP.ldcS (n := 4) (bs := LB3) d2_33 hEL (by simp [consts_1, x]) (hw _ (List.mem_of_getElem? (i := 113) rfl)) (own_wS hw) ⟨by decide, by decide⟩ (by decide) (by decide) (by decide) (by decide) (by decide) (fun h115 s116 t117 Eh115 Xs116 Cs116 Vs116 Bs116 => ?_)
  have hO := hO.ext Eh115
  have K := K.ext Eh115
  have Do := Do.ext Eh115
  have Dk := Dk.ext Eh115
  have Dn := Dn.ext Eh115
  have Ae := Ae.ext Eh115
  have Fb := Fb.ext Eh115
  have Fm := Fm.ext Eh115
  have Fc := Fc.ext Eh115
  have Fs := Fs.ext Eh115
  have Fp := Fp.ext Eh115
  have Ue := Ue.ext Eh115
  have B := B.ext Eh115
  have zEh115 := Eh115.1
  have Ls116 : Str Z h115 s116 t117 LB3 := ⟨Xs116, Cs116, Vs116, Bs116⟩
  refine WP.virtual (a := b) (argsL := [(.ref s116)]) (rest := [(.ref e), (.ref e)]) d2_35 (rm_sap l Z a0 hw n0 h115 hO zc hcs hzc b t5 _ C5 B s116 t117 _ Ls116 (by unfold FB; decide) (by simp; omega) (by omega) (by omega)) B.1 (hw _ (List.mem_of_getElem? (i := 38) rfl)) (hw _ (List.mem_of_getElem? (i := 39) rfl)) (hw _ (List.mem_of_getElem? (i := 40) rfl)) (hw _ (List.mem_of_getElem? (i := 41) rfl)) (hw _ (List.mem_of_getElem? (i := 20) rfl)) (hw _ (List.mem_of_getElem? (i := 42) rfl)) (hw _ (List.mem_of_getElem? (i := 41) rfl)) (by decide) pd_4 rfl rfl rfl (nle rfl) (nle rfl) (nle rfl) (nle rfl) (allS (SafeBy.mem B.ltT (by simp)) all0) (fun v h118 F' hq szh118 => ?_)
  obtain ⟨t6, C6, hF, rfl, Kk6, B, ho6⟩ := hq
  subst hF
  have zk6 := Kk6.1
  have hO := hO.keep Kk6 (allS (by omega) (allS (by omega) all0))
  have K := K.trans Kk6 (allS (Or.inr (by omega)) (allS (Or.inr (by omega)) all0))
  have Do := Do.keep Kk6 (ninS (nea (by omega)) (ninS (nea (by omega)) nin0)) (ninS (nea (by omega)) (ninS (nea (by omega)) nin0))
  have Dk := Dk.keep Kk6 (ninS (nea (by omega)) (ninS (nea (by omega)) nin0)) (ninS (nea (by omega)) (ninS (nea (by omega)) nin0))
  have Dn := Dn.keep Kk6 (ninS (nea (by omega)) (ninS (nea (by omega)) nin0)) (ninS (nea (by omega)) (ninS (nea (by omega)) nin0))
  have Ae := Ae.keep Kk6
  have Fb := Fb.keep Kk6 (ninS (nea (by omega)) (ninS (nea (by omega)) nin0))
  have Fm := Fm.keep Kk6 (ninS (nea (by omega)) (ninS (nea (by omega)) nin0))
  have Fc := Fc.keep Kk6 (ninS (nea (by omega)) (ninS (nea (by omega)) nin0))
  have Fs := Fs.keep Kk6 (ninS (nea (by omega)) (ninS (nea (by omega)) nin0))
  have Fp := Fp.keep Kk6 (ninS (nea (by omega)) (ninS (nea (by omega)) nin0))
  have Ue := Ue.keep Kk6 (ninS (nea (by omega)) (ninS (nea (by omega)) nin0))
  have ltt6 := nlt B.ltT
  have g6 : b ≤ t6 := by
    rcases ho6 with ho | ho
    · rw [ho]; exact g5
    · omega
  have hC : C6 = 34 ∧ (msgB os ks ns).length < 34 := by
    have q1 := B.2.2.2.2.2.1
    have q2 := B.2.2.2.2.2.2.1
    simp at q1 ⊢
    omega
  refine WP.virtual (a := b) (argsL := []) (rest := [(.ref e), (.ref e)]) d2_38 (rm_ts l Z a0 hw n0 h118 hO zc hcs hzc b t6 (msgB os ks ns) C6 B (by rw [hC.1]; exact hC.2) (by omega)) B.1 (hw _ (List.mem_of_getElem? (i := 114) rfl)) (hw _ (List.mem_of_getElem? (i := 115) rfl)) (hw _ (List.mem_of_getElem? (i := 116) rfl)) (hw _ (List.mem_of_getElem? (i := 117) rfl)) (hw _ (List.mem_of_getElem? (i := 20) rfl)) (hw _ (List.mem_of_getElem? (i := 118) rfl)) (hw _ (List.mem_of_getElem? (i := 117) rfl)) (by decide) pd_16 rfl rfl rfl (nle rfl) (nle rfl) (nle rfl) (nle rfl) (fun _ q => nomatch q) (fun v h119 F' hq szh119 => ?_)
  obtain ⟨m, tm, rfl, hm, htm, Kt, M⟩ := hq
  have zt := Kt.1
  have hO := hO.keep Kt all0
  have K := K.trans Kt all0
  have Do := Do.keep Kt nin0 nin0
  have Dk := Dk.keep Kt nin0 nin0
  have Dn := Dn.keep Kt nin0 nin0
  have Ae := Ae.keep Kt
  have Fb := Fb.keep Kt nin0
  have Fm := Fm.keep Kt nin0
  have Fc := Fc.keep Kt nin0
  have Fs := Fs.keep Kt nin0
  have Fp := Fp.keep Kt nin0
  have Ue := Ue.keep Kt nin0
  have B := B.keep Kt nin0 nin0
  have lm := nlt M.lt
  have ltm := nlt M.ltT
  refine WP.special (a := e) (argsL := [(.ref m)]) (rest := [(.ref e)]) d2_41 (rm_ie l Z a0 hw n0 h119 hO hst hG u sn hU hSN e m Ae Ue Fc Fs Fp Fb Fm (by omega)) rfl (hw _ (List.mem_of_getElem? (i := 155) rfl)) (hw _ (List.mem_of_getElem? (i := 156) rfl)) (hw _ (List.mem_of_getElem? (i := 14) rfl)) (hw _ (List.mem_of_getElem? (i := 157) rfl)) (by decide) pd_9 rfl rfl rfl (nle rfl) (nle rfl) (nle rfl) (nle rfl) (fun _ q => nomatch q) (fun v h120 F' hq szh120 => ?_)
  obtain ⟨rfl, Ke, E2, Fmm⟩ := hq
  have ze := Ke.1
  have hO := hO.keep Ke (allS (by omega) all0)
  have K := K.trans Ke (allS (Or.inr (by omega)) all0)
  have Do := Do.keep Ke (ninS (nea (by omega)) nin0) (ninS (nea (by omega)) nin0)
  have Dk := Dk.keep Ke (ninS (nea (by omega)) nin0) (ninS (nea (by omega)) nin0)
  have Dn := Dn.keep Ke (ninS (nea (by omega)) nin0) (ninS (nea (by omega)) nin0)
  have B := B.keep Ke (ninS (nea (by omega)) nin0) (ninS (nea (by omega)) nin0)
  have M := M.keep Ke (ninS (nea (by omega)) nin0) (ninS (nea (by omega)) nin0)
  exact WP.areturn d2_44 rfl rfl rfl (by decide) (by decide) (G := []) (fun _ q => nomatch q) ⟨e, m, tm, rfl, K, E2, Fmm, M⟩
set_option maxRecDepth 65536 in
set_option maxHeartbeats 4000000 in
theorem rm_gm (l : Launch) (Z : State) (a0 : Array Value) (hw : ∀ d ∈ tables_1, d.before a0 Z = true) (n0 : Nat) (h0 : Heap) (hO : Old Z n0 h0) (e m : Addr) (Fm : Fld Z h0 e "java/lang/Throwable" "detailMessage" "Ljava/lang/String;" (.ref m)) :
    Met l Z consts_1 n0 [] (⟨"java/lang/Throwable", "getMessage", "()Ljava/lang/String;"⟩ : MethodName) jdk_78_method_6_code 1 (some (.object "java/lang/String")) ({ frames := 0, cells := 0, slots := 0, locals := 0 } : Room) #[.ref e] [] h0 (QPure (some (.ref m)) h0) := by
  have hEL := own_EW hw
  have hn0 : n0 ≤ h0.size := hO.1 ▸ hO.2.1
  refine Met.of (by decide +kernel) hEL hO (Ls := #[.val (.ref e)]) (fun m => by first | (simp [entryFrame, mkF, argsToLocals, Value.category]; done) | rfl) ?_
  refine WP.aload_n d33_0 rfl rfl ?_
  refine WP.getfield (host := "") d33_1 (Or.inl (hw _ (List.mem_of_getElem? (i := 205) rfl))) Via.refl Fm ?_
  exact WP.areturn d33_4 rfl rfl rfl (by decide) (by decide) (G := []) (fun _ q => nomatch q) ⟨rfl, rfl⟩
set_option maxRecDepth 65536 in
set_option maxHeartbeats 4000000 in
theorem rm_same (l : Launch) (Z : State) (a0 : Array Value) (hw : ∀ d ∈ tables_1, d.before a0 Z = true) (n0 : Nat) (h0 : Heap) (hO : Old Z n0 h0) (zc : Int32) (hcs : Sta Z Z.heap "java/lang/String" "COMPACT_STRINGS" "Z" (.int zc)) (hzc : zc ≠ 0) (fm : Value) (hfm : Sta Z Z.heap "jdk/internal/util/Preconditions" "SIOOBE_FORMATTER" "Ljava/util/function/BiFunction;" fm) (hfr : fm.isRef = true) (m tm : Addr) (zs : List Int32) (M : Str Z h0 m tm zs) (p : Nat) (hpm : p < 2 ^ 31) (s ts : Addr) (cs : List Int32) (D : Str Z h0 s ts cs) (hp : ∀ i, i < cs.length → zs[p + i]? = cs[i]?) :
    Met l Z consts_1 n0 [] (⟨"com/example/proviso/proviso/InvalidInputExceptionUndeclaredPinLaw", "same", "(Ljava/lang/String;ILjava/lang/String;)Z"⟩ : MethodName) method_4_code 4 (some .boolean) ({ frames := 4, cells := 0, slots := 0, locals := 60 } : Room) #[.ref m, .int (Int32.ofNat p), .ref s] [] h0 (QPure (some (.int 1)) h0) := by
  have hEL := own_EW hw
  have hn0 : n0 ≤ h0.size := hO.1 ▸ hO.2.1
  refine Met.of (by decide +kernel) hEL hO (Ls := #[.val (.ref m), .val (.int (Int32.ofNat p)), .val (.ref s), .unset]) (fun m => by first | (simp [entryFrame, mkF, argsToLocals, Value.category]; done) | rfl) ?_
  have hM := M.2.2.2.len
  have hcl : cs.length < 2 ^ 31 := D.2.2.2.len
  refine WP.aload_n d34_0 rfl rfl ?_
  refine WP.virtual (a := s) (argsL := []) (rest := []) d34_1 (rm_len l Z a0 hw n0 h0 hO zc hcs hzc s ts cs D) D.1 (hw _ (List.mem_of_getElem? (i := 212) rfl)) (hw _ (List.mem_of_getElem? (i := 49) rfl)) (hw _ (List.mem_of_getElem? (i := 50) rfl)) (hw _ (List.mem_of_getElem? (i := 51) rfl)) (hw _ (List.mem_of_getElem? (i := 5) rfl)) (hw _ (List.mem_of_getElem? (i := 52) rfl)) (hw _ (List.mem_of_getElem? (i := 51) rfl)) (by decide) pd_6 rfl rfl rfl (nle rfl) (nle rfl) (nle rfl) (nle rfl) (fun _ q => nomatch q) (fun v h121 F' hq szh121 => ?_)
  obtain ⟨rfl, hh⟩ := hq
  subst h121
  refine WP.istore_n d34_4 rfl (Ls' := #[.val (.ref m), .val (.int (Int32.ofNat p)), .val (.ref s), .val (.int (Int32.ofNat cs.length))]) rfl ?_
  refine WP.iload_n d34_5 rfl ?_
  refine WP.if_le d34_6 (fun hc6 => ?_) (fun hc6 => ?_)
  · refine WP.iload_n d34_24 rfl ?_
    refine WP.iconst d34_25 (v := (1 : Int32)) rfl ?_
    refine WP.icmp_le d34_26 (fun hc26 => ?_) (fun hc26 => ?_)
    · refine WP.iconst d34_46 (v := (1 : Int32)) rfl ?_
      exact WP.ireturn d34_47 rfl (t := .boolean) (by simp) rfl (by decide) (by decide) (G := []) (fun _ q => nomatch q) ⟨rfl, rfl⟩
    · have h2 : 1 < cs.length := (ofN_lt (i := 1) (by omega) (by omega)).mp hc26
      have hpl := (List.getElem?_eq_some_iff.mp ((hp 1 h2).trans (List.getElem?_eq_getElem h2))).1
      obtain ⟨b1, hb1⟩ : ∃ b, cs[1]? = some b := ⟨_, List.getElem?_eq_getElem h2⟩
      have hz1 : zs[p + 1]? = some b1 := by rw [hp 1 h2]; exact hb1
      refine WP.aload_n d34_29 rfl rfl ?_
      refine WP.iload_n d34_30 rfl ?_
      refine WP.iconst d34_31 (v := (1 : Int32)) rfl ?_
      refine WP.iadd d34_32 ?_
      rw [show ((Int32.ofNat p) + (1 : Int32)) = (Int32.ofNat (p + 1)) from ofN_add (i := p) (j := 1) (by omega)]
      refine WP.virtual (a := m) (argsL := [(.int (Int32.ofNat (p + 1)))]) (rest := []) d34_33 (rm_ca l Z a0 hw n0 h0 hO zc hcs hzc fm hfm hfr m tm (Int32.ofNat (p + 1)) (p + 1) zs b1 M (Ix.ofNat (by omega)) hz1) M.1 (hw _ (List.mem_of_getElem? (i := 219) rfl)) (hw _ (List.mem_of_getElem? (i := 220) rfl)) (hw _ (List.mem_of_getElem? (i := 221) rfl)) (hw _ (List.mem_of_getElem? (i := 222) rfl)) (hw _ (List.mem_of_getElem? (i := 5) rfl)) (hw _ (List.mem_of_getElem? (i := 223) rfl)) (hw _ (List.mem_of_getElem? (i := 222) rfl)) (by decide) pd_27 rfl rfl rfl (nle rfl) (nle rfl) (nle rfl) (nle rfl) (fun _ q => nomatch q) (fun v h122 F' hq szh122 => ?_)
      obtain ⟨rfl, hh⟩ := hq
      subst h122
      refine WP.aload_n d34_36 rfl rfl ?_
      refine WP.iconst d34_37 (v := (1 : Int32)) rfl ?_
      refine WP.virtual (a := s) (argsL := [(.int (1 : Int32))]) (rest := [(.int (chr8 b1))]) d34_38 (rm_ca l Z a0 hw n0 h0 hO zc hcs hzc fm hfm hfr s ts 1 1 cs b1 D rfl hb1) D.1 (hw _ (List.mem_of_getElem? (i := 219) rfl)) (hw _ (List.mem_of_getElem? (i := 220) rfl)) (hw _ (List.mem_of_getElem? (i := 221) rfl)) (hw _ (List.mem_of_getElem? (i := 222) rfl)) (hw _ (List.mem_of_getElem? (i := 5) rfl)) (hw _ (List.mem_of_getElem? (i := 223) rfl)) (hw _ (List.mem_of_getElem? (i := 222) rfl)) (by decide) pd_27 rfl rfl rfl (nle rfl) (nle rfl) (nle rfl) (nle rfl) (fun _ q => nomatch q) (fun v h123 F' hq szh123 => ?_)
      obtain ⟨rfl, hh⟩ := hq
      subst h123
      refine WP.icmp_eq d34_41 (fun hc41 => ?_) (fun hc41 => False.elim (hc41 rfl))
      refine WP.iconst d34_46 (v := (1 : Int32)) rfl ?_
      exact WP.ireturn d34_47 rfl (t := .boolean) (by simp) rfl (by decide) (by decide) (G := []) (fun _ q => nomatch q) ⟨rfl, rfl⟩
  · have h1 : 0 < cs.length := (ofN_lt (i := 0) (by omega) (by omega)).mp hc6
    obtain ⟨b0, hb0⟩ : ∃ b, cs[0]? = some b := ⟨_, List.getElem?_eq_getElem h1⟩
    have hz0 : zs[p + 0]? = some b0 := by rw [hp 0 h1]; exact hb0
    refine WP.aload_n d34_9 rfl rfl ?_
    refine WP.iload_n d34_10 rfl ?_
    refine WP.virtual (a := m) (argsL := [(.int (Int32.ofNat p))]) (rest := []) d34_11 (rm_ca l Z a0 hw n0 h0 hO zc hcs hzc fm hfm hfr m tm (Int32.ofNat p) p zs b0 M (Ix.ofNat hpm) hz0) M.1 (hw _ (List.mem_of_getElem? (i := 219) rfl)) (hw _ (List.mem_of_getElem? (i := 220) rfl)) (hw _ (List.mem_of_getElem? (i := 221) rfl)) (hw _ (List.mem_of_getElem? (i := 222) rfl)) (hw _ (List.mem_of_getElem? (i := 5) rfl)) (hw _ (List.mem_of_getElem? (i := 223) rfl)) (hw _ (List.mem_of_getElem? (i := 222) rfl)) (by decide) pd_27 rfl rfl rfl (nle rfl) (nle rfl) (nle rfl) (nle rfl) (fun _ q => nomatch q) (fun v h124 F' hq szh124 => ?_)
    obtain ⟨rfl, hh⟩ := hq
    subst h124
    refine WP.aload_n d34_14 rfl rfl ?_
    refine WP.iconst d34_15 (v := (0 : Int32)) rfl ?_
    refine WP.virtual (a := s) (argsL := [(.int (0 : Int32))]) (rest := [(.int (chr8 b0))]) d34_16 (rm_ca l Z a0 hw n0 h0 hO zc hcs hzc fm hfm hfr s ts 0 0 cs b0 D rfl hb0) D.1 (hw _ (List.mem_of_getElem? (i := 219) rfl)) (hw _ (List.mem_of_getElem? (i := 220) rfl)) (hw _ (List.mem_of_getElem? (i := 221) rfl)) (hw _ (List.mem_of_getElem? (i := 222) rfl)) (hw _ (List.mem_of_getElem? (i := 5) rfl)) (hw _ (List.mem_of_getElem? (i := 223) rfl)) (hw _ (List.mem_of_getElem? (i := 222) rfl)) (by decide) pd_27 rfl rfl rfl (nle rfl) (nle rfl) (nle rfl) (nle rfl) (fun _ q => nomatch q) (fun v h125 F' hq szh125 => ?_)
    obtain ⟨rfl, hh⟩ := hq
    subst h125
    refine WP.icmp_eq d34_19 (fun hc19 => ?_) (fun hc19 => False.elim (hc19 rfl))
    refine WP.iload_n d34_24 rfl ?_
    refine WP.iconst d34_25 (v := (1 : Int32)) rfl ?_
    refine WP.icmp_le d34_26 (fun hc26 => ?_) (fun hc26 => ?_)
    · refine WP.iconst d34_46 (v := (1 : Int32)) rfl ?_
      exact WP.ireturn d34_47 rfl (t := .boolean) (by simp) rfl (by decide) (by decide) (G := []) (fun _ q => nomatch q) ⟨rfl, rfl⟩
    · have h2 : 1 < cs.length := (ofN_lt (i := 1) (by omega) (by omega)).mp hc26
      have hpl := (List.getElem?_eq_some_iff.mp ((hp 1 h2).trans (List.getElem?_eq_getElem h2))).1
      obtain ⟨b1, hb1⟩ : ∃ b, cs[1]? = some b := ⟨_, List.getElem?_eq_getElem h2⟩
      have hz1 : zs[p + 1]? = some b1 := by rw [hp 1 h2]; exact hb1
      refine WP.aload_n d34_29 rfl rfl ?_
      refine WP.iload_n d34_30 rfl ?_
      refine WP.iconst d34_31 (v := (1 : Int32)) rfl ?_
      refine WP.iadd d34_32 ?_
      rw [show ((Int32.ofNat p) + (1 : Int32)) = (Int32.ofNat (p + 1)) from ofN_add (i := p) (j := 1) (by omega)]
      refine WP.virtual (a := m) (argsL := [(.int (Int32.ofNat (p + 1)))]) (rest := []) d34_33 (rm_ca l Z a0 hw n0 h0 hO zc hcs hzc fm hfm hfr m tm (Int32.ofNat (p + 1)) (p + 1) zs b1 M (Ix.ofNat (by omega)) hz1) M.1 (hw _ (List.mem_of_getElem? (i := 219) rfl)) (hw _ (List.mem_of_getElem? (i := 220) rfl)) (hw _ (List.mem_of_getElem? (i := 221) rfl)) (hw _ (List.mem_of_getElem? (i := 222) rfl)) (hw _ (List.mem_of_getElem? (i := 5) rfl)) (hw _ (List.mem_of_getElem? (i := 223) rfl)) (hw _ (List.mem_of_getElem? (i := 222) rfl)) (by decide) pd_27 rfl rfl rfl (nle rfl) (nle rfl) (nle rfl) (nle rfl) (fun _ q => nomatch q) (fun v h126 F' hq szh126 => ?_)
      obtain ⟨rfl, hh⟩ := hq
      subst h126
      refine WP.aload_n d34_36 rfl rfl ?_
      refine WP.iconst d34_37 (v := (1 : Int32)) rfl ?_
      refine WP.virtual (a := s) (argsL := [(.int (1 : Int32))]) (rest := [(.int (chr8 b1))]) d34_38 (rm_ca l Z a0 hw n0 h0 hO zc hcs hzc fm hfm hfr s ts 1 1 cs b1 D rfl hb1) D.1 (hw _ (List.mem_of_getElem? (i := 219) rfl)) (hw _ (List.mem_of_getElem? (i := 220) rfl)) (hw _ (List.mem_of_getElem? (i := 221) rfl)) (hw _ (List.mem_of_getElem? (i := 222) rfl)) (hw _ (List.mem_of_getElem? (i := 5) rfl)) (hw _ (List.mem_of_getElem? (i := 223) rfl)) (hw _ (List.mem_of_getElem? (i := 222) rfl)) (by decide) pd_27 rfl rfl rfl (nle rfl) (nle rfl) (nle rfl) (nle rfl) (fun _ q => nomatch q) (fun v h127 F' hq szh127 => ?_)
      obtain ⟨rfl, hh⟩ := hq
      subst h127
      refine WP.icmp_eq d34_41 (fun hc41 => ?_) (fun hc41 => False.elim (hc41 rfl))
      refine WP.iconst d34_46 (v := (1 : Int32)) rfl ?_
      exact WP.ireturn d34_47 rfl (t := .boolean) (by simp) rfl (by decide) (by decide) (G := []) (fun _ q => nomatch q) ⟨rfl, rfl⟩
set_option maxRecDepth 65536 in
set_option maxHeartbeats 4000000 in
theorem rm_names (l : Launch) (Z : State) (a0 : Array Value) (hw : ∀ d ∈ tables_1, d.before a0 Z = true) (n0 : Nat) (h0 : Heap) (hO : Old Z n0 h0) (zc : Int32) (hcs : Sta Z Z.heap "java/lang/String" "COMPACT_STRINGS" "Z" (.int zc)) (hzc : zc ≠ 0) (fm : Value) (hfm : Sta Z Z.heap "jdk/internal/util/Preconditions" "SIOOBE_FORMATTER" "Ljava/util/function/BiFunction;" fm) (hfr : fm.isRef = true) (m tm : Addr) (zs : List Int32) (M : Str Z h0 m tm zs) (p : Nat) (hpm : p + 22 < 2 ^ 31) (hp : ∀ i, i < 22 → zs[p + i]? = LB1[i]?) :
    Met l Z consts_1 n0 [] (⟨"com/example/proviso/proviso/InvalidInputExceptionUndeclaredPinLaw", "names", "(Ljava/lang/String;I)Z"⟩ : MethodName) method_5_code 2 (some .boolean) ({ frames := 4, cells := 0, slots := 0, locals := 60 } : Room) #[.ref m, .int (Int32.ofNat p)] [] h0 (QPure (some (.int 1)) h0) := by
  have hEL := own_EW hw
  have hn0 : n0 ≤ h0.size := hO.1 ▸ hO.2.1
  refine Met.of (by decide +kernel) hEL hO (Ls := #[.val (.ref m), .val (.int (Int32.ofNat p))]) (fun m => by first | (simp [entryFrame, mkF, argsToLocals, Value.category]; done) | rfl) ?_
  refine WP.aload_n d35_0 rfl rfl ?_
  refine WP.iload_n d35_1 rfl ?_
  refine WP.virtual (a := m) (argsL := [(.int (Int32.ofNat p))]) (rest := []) d35_2 (rm_ca l Z a0 hw n0 h0 hO zc hcs hzc fm hfm hfr m tm (Int32.ofNat p) p zs (32 : Int32) M (Ix.ofNat (by omega)) (hp 0 (by decide))) M.1 (hw _ (List.mem_of_getElem? (i := 219) rfl)) (hw _ (List.mem_of_getElem? (i := 220) rfl)) (hw _ (List.mem_of_getElem? (i := 221) rfl)) (hw _ (List.mem_of_getElem? (i := 222) rfl)) (hw _ (List.mem_of_getElem? (i := 5) rfl)) (hw _ (List.mem_of_getElem? (i := 223) rfl)) (hw _ (List.mem_of_getElem? (i := 222) rfl)) (by decide) pd_27 rfl rfl rfl (nle rfl) (nle rfl) (nle rfl) (nle rfl) (fun _ q => nomatch q) (fun v h128 F' hq szh128 => ?_)
  obtain ⟨rfl, hh⟩ := hq
  subst h128
  refine WP.bipush d35_5 (v := (32 : Int32)) rfl ?_
  refine WP.icmp_ne d35_7 (fun hc7 => False.elim (hc7 (by decide))) (fun hc7 => ?_)
  refine WP.aload_n d35_10 rfl rfl ?_
  refine WP.iload_n d35_11 rfl ?_
  refine WP.iconst d35_12 (v := (1 : Int32)) rfl ?_
  refine WP.iadd d35_13 ?_
  rw [show ((Int32.ofNat p) + (1 : Int32)) = (Int32.ofNat (p + 1)) from ofN_add (i := p) (j := 1) (by omega)]
  refine WP.virtual (a := m) (argsL := [(.int (Int32.ofNat (p + 1)))]) (rest := []) d35_14 (rm_ca l Z a0 hw n0 h0 hO zc hcs hzc fm hfm hfr m tm (Int32.ofNat (p + 1)) (p + 1) zs (110 : Int32) M (Ix.ofNat (by omega)) (hp 1 (by decide))) M.1 (hw _ (List.mem_of_getElem? (i := 219) rfl)) (hw _ (List.mem_of_getElem? (i := 220) rfl)) (hw _ (List.mem_of_getElem? (i := 221) rfl)) (hw _ (List.mem_of_getElem? (i := 222) rfl)) (hw _ (List.mem_of_getElem? (i := 5) rfl)) (hw _ (List.mem_of_getElem? (i := 223) rfl)) (hw _ (List.mem_of_getElem? (i := 222) rfl)) (by decide) pd_27 rfl rfl rfl (nle rfl) (nle rfl) (nle rfl) (nle rfl) (fun _ q => nomatch q) (fun v h129 F' hq szh129 => ?_)
  obtain ⟨rfl, hh⟩ := hq
  subst h129
  refine WP.bipush d35_17 (v := (110 : Int32)) rfl ?_
  refine WP.icmp_ne d35_19 (fun hc19 => False.elim (hc19 (by decide))) (fun hc19 => ?_)
  refine WP.aload_n d35_22 rfl rfl ?_
  refine WP.iload_n d35_23 rfl ?_
  refine WP.iconst d35_24 (v := (2 : Int32)) rfl ?_
  refine WP.iadd d35_25 ?_
  rw [show ((Int32.ofNat p) + (2 : Int32)) = (Int32.ofNat (p + 2)) from ofN_add (i := p) (j := 2) (by omega)]
  refine WP.virtual (a := m) (argsL := [(.int (Int32.ofNat (p + 2)))]) (rest := []) d35_26 (rm_ca l Z a0 hw n0 h0 hO zc hcs hzc fm hfm hfr m tm (Int32.ofNat (p + 2)) (p + 2) zs (97 : Int32) M (Ix.ofNat (by omega)) (hp 2 (by decide))) M.1 (hw _ (List.mem_of_getElem? (i := 219) rfl)) (hw _ (List.mem_of_getElem? (i := 220) rfl)) (hw _ (List.mem_of_getElem? (i := 221) rfl)) (hw _ (List.mem_of_getElem? (i := 222) rfl)) (hw _ (List.mem_of_getElem? (i := 5) rfl)) (hw _ (List.mem_of_getElem? (i := 223) rfl)) (hw _ (List.mem_of_getElem? (i := 222) rfl)) (by decide) pd_27 rfl rfl rfl (nle rfl) (nle rfl) (nle rfl) (nle rfl) (fun _ q => nomatch q) (fun v h130 F' hq szh130 => ?_)
  obtain ⟨rfl, hh⟩ := hq
  subst h130
  refine WP.bipush d35_29 (v := (97 : Int32)) rfl ?_
  refine WP.icmp_ne d35_31 (fun hc31 => False.elim (hc31 (by decide))) (fun hc31 => ?_)
  refine WP.aload_n d35_34 rfl rfl ?_
  refine WP.iload_n d35_35 rfl ?_
  refine WP.iconst d35_36 (v := (3 : Int32)) rfl ?_
  refine WP.iadd d35_37 ?_
  rw [show ((Int32.ofNat p) + (3 : Int32)) = (Int32.ofNat (p + 3)) from ofN_add (i := p) (j := 3) (by omega)]
  refine WP.virtual (a := m) (argsL := [(.int (Int32.ofNat (p + 3)))]) (rest := []) d35_38 (rm_ca l Z a0 hw n0 h0 hO zc hcs hzc fm hfm hfr m tm (Int32.ofNat (p + 3)) (p + 3) zs (109 : Int32) M (Ix.ofNat (by omega)) (hp 3 (by decide))) M.1 (hw _ (List.mem_of_getElem? (i := 219) rfl)) (hw _ (List.mem_of_getElem? (i := 220) rfl)) (hw _ (List.mem_of_getElem? (i := 221) rfl)) (hw _ (List.mem_of_getElem? (i := 222) rfl)) (hw _ (List.mem_of_getElem? (i := 5) rfl)) (hw _ (List.mem_of_getElem? (i := 223) rfl)) (hw _ (List.mem_of_getElem? (i := 222) rfl)) (by decide) pd_27 rfl rfl rfl (nle rfl) (nle rfl) (nle rfl) (nle rfl) (fun _ q => nomatch q) (fun v h131 F' hq szh131 => ?_)
  obtain ⟨rfl, hh⟩ := hq
  subst h131
  refine WP.bipush d35_41 (v := (109 : Int32)) rfl ?_
  refine WP.icmp_ne d35_43 (fun hc43 => False.elim (hc43 (by decide))) (fun hc43 => ?_)
  refine WP.aload_n d35_46 rfl rfl ?_
  refine WP.iload_n d35_47 rfl ?_
  refine WP.iconst d35_48 (v := (4 : Int32)) rfl ?_
  refine WP.iadd d35_49 ?_
  rw [show ((Int32.ofNat p) + (4 : Int32)) = (Int32.ofNat (p + 4)) from ofN_add (i := p) (j := 4) (by omega)]
  refine WP.virtual (a := m) (argsL := [(.int (Int32.ofNat (p + 4)))]) (rest := []) d35_50 (rm_ca l Z a0 hw n0 h0 hO zc hcs hzc fm hfm hfr m tm (Int32.ofNat (p + 4)) (p + 4) zs (101 : Int32) M (Ix.ofNat (by omega)) (hp 4 (by decide))) M.1 (hw _ (List.mem_of_getElem? (i := 219) rfl)) (hw _ (List.mem_of_getElem? (i := 220) rfl)) (hw _ (List.mem_of_getElem? (i := 221) rfl)) (hw _ (List.mem_of_getElem? (i := 222) rfl)) (hw _ (List.mem_of_getElem? (i := 5) rfl)) (hw _ (List.mem_of_getElem? (i := 223) rfl)) (hw _ (List.mem_of_getElem? (i := 222) rfl)) (by decide) pd_27 rfl rfl rfl (nle rfl) (nle rfl) (nle rfl) (nle rfl) (fun _ q => nomatch q) (fun v h132 F' hq szh132 => ?_)
  obtain ⟨rfl, hh⟩ := hq
  subst h132
  refine WP.bipush d35_53 (v := (101 : Int32)) rfl ?_
  refine WP.icmp_ne d35_55 (fun hc55 => False.elim (hc55 (by decide))) (fun hc55 => ?_)
  refine WP.aload_n d35_58 rfl rfl ?_
  refine WP.iload_n d35_59 rfl ?_
  refine WP.iconst d35_60 (v := (5 : Int32)) rfl ?_
  refine WP.iadd d35_61 ?_
  rw [show ((Int32.ofNat p) + (5 : Int32)) = (Int32.ofNat (p + 5)) from ofN_add (i := p) (j := 5) (by omega)]
  refine WP.virtual (a := m) (argsL := [(.int (Int32.ofNat (p + 5)))]) (rest := []) d35_62 (rm_ca l Z a0 hw n0 h0 hO zc hcs hzc fm hfm hfr m tm (Int32.ofNat (p + 5)) (p + 5) zs (115 : Int32) M (Ix.ofNat (by omega)) (hp 5 (by decide))) M.1 (hw _ (List.mem_of_getElem? (i := 219) rfl)) (hw _ (List.mem_of_getElem? (i := 220) rfl)) (hw _ (List.mem_of_getElem? (i := 221) rfl)) (hw _ (List.mem_of_getElem? (i := 222) rfl)) (hw _ (List.mem_of_getElem? (i := 5) rfl)) (hw _ (List.mem_of_getElem? (i := 223) rfl)) (hw _ (List.mem_of_getElem? (i := 222) rfl)) (by decide) pd_27 rfl rfl rfl (nle rfl) (nle rfl) (nle rfl) (nle rfl) (fun _ q => nomatch q) (fun v h133 F' hq szh133 => ?_)
  obtain ⟨rfl, hh⟩ := hq
  subst h133
  refine WP.bipush d35_65 (v := (115 : Int32)) rfl ?_
  refine WP.icmp_ne d35_67 (fun hc67 => False.elim (hc67 (by decide))) (fun hc67 => ?_)
  refine WP.aload_n d35_70 rfl rfl ?_
  refine WP.iload_n d35_71 rfl ?_
  refine WP.bipush d35_72 (v := (6 : Int32)) rfl ?_
  refine WP.iadd d35_74 ?_
  rw [show ((Int32.ofNat p) + (6 : Int32)) = (Int32.ofNat (p + 6)) from ofN_add (i := p) (j := 6) (by omega)]
  refine WP.virtual (a := m) (argsL := [(.int (Int32.ofNat (p + 6)))]) (rest := []) d35_75 (rm_ca l Z a0 hw n0 h0 hO zc hcs hzc fm hfm hfr m tm (Int32.ofNat (p + 6)) (p + 6) zs (32 : Int32) M (Ix.ofNat (by omega)) (hp 6 (by decide))) M.1 (hw _ (List.mem_of_getElem? (i := 219) rfl)) (hw _ (List.mem_of_getElem? (i := 220) rfl)) (hw _ (List.mem_of_getElem? (i := 221) rfl)) (hw _ (List.mem_of_getElem? (i := 222) rfl)) (hw _ (List.mem_of_getElem? (i := 5) rfl)) (hw _ (List.mem_of_getElem? (i := 223) rfl)) (hw _ (List.mem_of_getElem? (i := 222) rfl)) (by decide) pd_27 rfl rfl rfl (nle rfl) (nle rfl) (nle rfl) (nle rfl) (fun _ q => nomatch q) (fun v h134 F' hq szh134 => ?_)
  obtain ⟨rfl, hh⟩ := hq
  subst h134
  refine WP.bipush d35_78 (v := (32 : Int32)) rfl ?_
  refine WP.icmp_ne d35_80 (fun hc80 => False.elim (hc80 (by decide))) (fun hc80 => ?_)
  refine WP.aload_n d35_83 rfl rfl ?_
  refine WP.iload_n d35_84 rfl ?_
  refine WP.bipush d35_85 (v := (7 : Int32)) rfl ?_
  refine WP.iadd d35_87 ?_
  rw [show ((Int32.ofNat p) + (7 : Int32)) = (Int32.ofNat (p + 7)) from ofN_add (i := p) (j := 7) (by omega)]
  refine WP.virtual (a := m) (argsL := [(.int (Int32.ofNat (p + 7)))]) (rest := []) d35_88 (rm_ca l Z a0 hw n0 h0 hO zc hcs hzc fm hfm hfr m tm (Int32.ofNat (p + 7)) (p + 7) zs (116 : Int32) M (Ix.ofNat (by omega)) (hp 7 (by decide))) M.1 (hw _ (List.mem_of_getElem? (i := 219) rfl)) (hw _ (List.mem_of_getElem? (i := 220) rfl)) (hw _ (List.mem_of_getElem? (i := 221) rfl)) (hw _ (List.mem_of_getElem? (i := 222) rfl)) (hw _ (List.mem_of_getElem? (i := 5) rfl)) (hw _ (List.mem_of_getElem? (i := 223) rfl)) (hw _ (List.mem_of_getElem? (i := 222) rfl)) (by decide) pd_27 rfl rfl rfl (nle rfl) (nle rfl) (nle rfl) (nle rfl) (fun _ q => nomatch q) (fun v h135 F' hq szh135 => ?_)
  obtain ⟨rfl, hh⟩ := hq
  subst h135
  refine WP.bipush d35_91 (v := (116 : Int32)) rfl ?_
  refine WP.icmp_ne d35_93 (fun hc93 => False.elim (hc93 (by decide))) (fun hc93 => ?_)
  refine WP.aload_n d35_96 rfl rfl ?_
  refine WP.iload_n d35_97 rfl ?_
  refine WP.bipush d35_98 (v := (8 : Int32)) rfl ?_
  refine WP.iadd d35_100 ?_
  rw [show ((Int32.ofNat p) + (8 : Int32)) = (Int32.ofNat (p + 8)) from ofN_add (i := p) (j := 8) (by omega)]
  refine WP.virtual (a := m) (argsL := [(.int (Int32.ofNat (p + 8)))]) (rest := []) d35_101 (rm_ca l Z a0 hw n0 h0 hO zc hcs hzc fm hfm hfr m tm (Int32.ofNat (p + 8)) (p + 8) zs (104 : Int32) M (Ix.ofNat (by omega)) (hp 8 (by decide))) M.1 (hw _ (List.mem_of_getElem? (i := 219) rfl)) (hw _ (List.mem_of_getElem? (i := 220) rfl)) (hw _ (List.mem_of_getElem? (i := 221) rfl)) (hw _ (List.mem_of_getElem? (i := 222) rfl)) (hw _ (List.mem_of_getElem? (i := 5) rfl)) (hw _ (List.mem_of_getElem? (i := 223) rfl)) (hw _ (List.mem_of_getElem? (i := 222) rfl)) (by decide) pd_27 rfl rfl rfl (nle rfl) (nle rfl) (nle rfl) (nle rfl) (fun _ q => nomatch q) (fun v h136 F' hq szh136 => ?_)
  obtain ⟨rfl, hh⟩ := hq
  subst h136
  refine WP.bipush d35_104 (v := (104 : Int32)) rfl ?_
  refine WP.icmp_ne d35_106 (fun hc106 => False.elim (hc106 (by decide))) (fun hc106 => ?_)
  refine WP.aload_n d35_109 rfl rfl ?_
  refine WP.iload_n d35_110 rfl ?_
  refine WP.bipush d35_111 (v := (9 : Int32)) rfl ?_
  refine WP.iadd d35_113 ?_
  rw [show ((Int32.ofNat p) + (9 : Int32)) = (Int32.ofNat (p + 9)) from ofN_add (i := p) (j := 9) (by omega)]
  refine WP.virtual (a := m) (argsL := [(.int (Int32.ofNat (p + 9)))]) (rest := []) d35_114 (rm_ca l Z a0 hw n0 h0 hO zc hcs hzc fm hfm hfr m tm (Int32.ofNat (p + 9)) (p + 9) zs (101 : Int32) M (Ix.ofNat (by omega)) (hp 9 (by decide))) M.1 (hw _ (List.mem_of_getElem? (i := 219) rfl)) (hw _ (List.mem_of_getElem? (i := 220) rfl)) (hw _ (List.mem_of_getElem? (i := 221) rfl)) (hw _ (List.mem_of_getElem? (i := 222) rfl)) (hw _ (List.mem_of_getElem? (i := 5) rfl)) (hw _ (List.mem_of_getElem? (i := 223) rfl)) (hw _ (List.mem_of_getElem? (i := 222) rfl)) (by decide) pd_27 rfl rfl rfl (nle rfl) (nle rfl) (nle rfl) (nle rfl) (fun _ q => nomatch q) (fun v h137 F' hq szh137 => ?_)
  obtain ⟨rfl, hh⟩ := hq
  subst h137
  refine WP.bipush d35_117 (v := (101 : Int32)) rfl ?_
  refine WP.icmp_ne d35_119 (fun hc119 => False.elim (hc119 (by decide))) (fun hc119 => ?_)
  refine WP.aload_n d35_122 rfl rfl ?_
  refine WP.iload_n d35_123 rfl ?_
  refine WP.bipush d35_124 (v := (10 : Int32)) rfl ?_
  refine WP.iadd d35_126 ?_
  rw [show ((Int32.ofNat p) + (10 : Int32)) = (Int32.ofNat (p + 10)) from ofN_add (i := p) (j := 10) (by omega)]
  refine WP.virtual (a := m) (argsL := [(.int (Int32.ofNat (p + 10)))]) (rest := []) d35_127 (rm_ca l Z a0 hw n0 h0 hO zc hcs hzc fm hfm hfr m tm (Int32.ofNat (p + 10)) (p + 10) zs (32 : Int32) M (Ix.ofNat (by omega)) (hp 10 (by decide))) M.1 (hw _ (List.mem_of_getElem? (i := 219) rfl)) (hw _ (List.mem_of_getElem? (i := 220) rfl)) (hw _ (List.mem_of_getElem? (i := 221) rfl)) (hw _ (List.mem_of_getElem? (i := 222) rfl)) (hw _ (List.mem_of_getElem? (i := 5) rfl)) (hw _ (List.mem_of_getElem? (i := 223) rfl)) (hw _ (List.mem_of_getElem? (i := 222) rfl)) (by decide) pd_27 rfl rfl rfl (nle rfl) (nle rfl) (nle rfl) (nle rfl) (fun _ q => nomatch q) (fun v h138 F' hq szh138 => ?_)
  obtain ⟨rfl, hh⟩ := hq
  subst h138
  refine WP.bipush d35_130 (v := (32 : Int32)) rfl ?_
  refine WP.icmp_ne d35_132 (fun hc132 => False.elim (hc132 (by decide))) (fun hc132 => ?_)
  refine WP.aload_n d35_135 rfl rfl ?_
  refine WP.iload_n d35_136 rfl ?_
  refine WP.bipush d35_137 (v := (11 : Int32)) rfl ?_
  refine WP.iadd d35_139 ?_
  rw [show ((Int32.ofNat p) + (11 : Int32)) = (Int32.ofNat (p + 11)) from ofN_add (i := p) (j := 11) (by omega)]
  refine WP.virtual (a := m) (argsL := [(.int (Int32.ofNat (p + 11)))]) (rest := []) d35_140 (rm_ca l Z a0 hw n0 h0 hO zc hcs hzc fm hfm hfr m tm (Int32.ofNat (p + 11)) (p + 11) zs (117 : Int32) M (Ix.ofNat (by omega)) (hp 11 (by decide))) M.1 (hw _ (List.mem_of_getElem? (i := 219) rfl)) (hw _ (List.mem_of_getElem? (i := 220) rfl)) (hw _ (List.mem_of_getElem? (i := 221) rfl)) (hw _ (List.mem_of_getElem? (i := 222) rfl)) (hw _ (List.mem_of_getElem? (i := 5) rfl)) (hw _ (List.mem_of_getElem? (i := 223) rfl)) (hw _ (List.mem_of_getElem? (i := 222) rfl)) (by decide) pd_27 rfl rfl rfl (nle rfl) (nle rfl) (nle rfl) (nle rfl) (fun _ q => nomatch q) (fun v h139 F' hq szh139 => ?_)
  obtain ⟨rfl, hh⟩ := hq
  subst h139
  refine WP.bipush d35_143 (v := (117 : Int32)) rfl ?_
  refine WP.icmp_ne d35_145 (fun hc145 => False.elim (hc145 (by decide))) (fun hc145 => ?_)
  refine WP.aload_n d35_148 rfl rfl ?_
  refine WP.iload_n d35_149 rfl ?_
  refine WP.bipush d35_150 (v := (12 : Int32)) rfl ?_
  refine WP.iadd d35_152 ?_
  rw [show ((Int32.ofNat p) + (12 : Int32)) = (Int32.ofNat (p + 12)) from ofN_add (i := p) (j := 12) (by omega)]
  refine WP.virtual (a := m) (argsL := [(.int (Int32.ofNat (p + 12)))]) (rest := []) d35_153 (rm_ca l Z a0 hw n0 h0 hO zc hcs hzc fm hfm hfr m tm (Int32.ofNat (p + 12)) (p + 12) zs (110 : Int32) M (Ix.ofNat (by omega)) (hp 12 (by decide))) M.1 (hw _ (List.mem_of_getElem? (i := 219) rfl)) (hw _ (List.mem_of_getElem? (i := 220) rfl)) (hw _ (List.mem_of_getElem? (i := 221) rfl)) (hw _ (List.mem_of_getElem? (i := 222) rfl)) (hw _ (List.mem_of_getElem? (i := 5) rfl)) (hw _ (List.mem_of_getElem? (i := 223) rfl)) (hw _ (List.mem_of_getElem? (i := 222) rfl)) (by decide) pd_27 rfl rfl rfl (nle rfl) (nle rfl) (nle rfl) (nle rfl) (fun _ q => nomatch q) (fun v h140 F' hq szh140 => ?_)
  obtain ⟨rfl, hh⟩ := hq
  subst h140
  refine WP.bipush d35_156 (v := (110 : Int32)) rfl ?_
  refine WP.icmp_ne d35_158 (fun hc158 => False.elim (hc158 (by decide))) (fun hc158 => ?_)
  refine WP.aload_n d35_161 rfl rfl ?_
  refine WP.iload_n d35_162 rfl ?_
  refine WP.bipush d35_163 (v := (13 : Int32)) rfl ?_
  refine WP.iadd d35_165 ?_
  rw [show ((Int32.ofNat p) + (13 : Int32)) = (Int32.ofNat (p + 13)) from ofN_add (i := p) (j := 13) (by omega)]
  refine WP.virtual (a := m) (argsL := [(.int (Int32.ofNat (p + 13)))]) (rest := []) d35_166 (rm_ca l Z a0 hw n0 h0 hO zc hcs hzc fm hfm hfr m tm (Int32.ofNat (p + 13)) (p + 13) zs (100 : Int32) M (Ix.ofNat (by omega)) (hp 13 (by decide))) M.1 (hw _ (List.mem_of_getElem? (i := 219) rfl)) (hw _ (List.mem_of_getElem? (i := 220) rfl)) (hw _ (List.mem_of_getElem? (i := 221) rfl)) (hw _ (List.mem_of_getElem? (i := 222) rfl)) (hw _ (List.mem_of_getElem? (i := 5) rfl)) (hw _ (List.mem_of_getElem? (i := 223) rfl)) (hw _ (List.mem_of_getElem? (i := 222) rfl)) (by decide) pd_27 rfl rfl rfl (nle rfl) (nle rfl) (nle rfl) (nle rfl) (fun _ q => nomatch q) (fun v h141 F' hq szh141 => ?_)
  obtain ⟨rfl, hh⟩ := hq
  subst h141
  refine WP.bipush d35_169 (v := (100 : Int32)) rfl ?_
  refine WP.icmp_ne d35_171 (fun hc171 => False.elim (hc171 (by decide))) (fun hc171 => ?_)
  refine WP.aload_n d35_174 rfl rfl ?_
  refine WP.iload_n d35_175 rfl ?_
  refine WP.bipush d35_176 (v := (14 : Int32)) rfl ?_
  refine WP.iadd d35_178 ?_
  rw [show ((Int32.ofNat p) + (14 : Int32)) = (Int32.ofNat (p + 14)) from ofN_add (i := p) (j := 14) (by omega)]
  refine WP.virtual (a := m) (argsL := [(.int (Int32.ofNat (p + 14)))]) (rest := []) d35_179 (rm_ca l Z a0 hw n0 h0 hO zc hcs hzc fm hfm hfr m tm (Int32.ofNat (p + 14)) (p + 14) zs (101 : Int32) M (Ix.ofNat (by omega)) (hp 14 (by decide))) M.1 (hw _ (List.mem_of_getElem? (i := 219) rfl)) (hw _ (List.mem_of_getElem? (i := 220) rfl)) (hw _ (List.mem_of_getElem? (i := 221) rfl)) (hw _ (List.mem_of_getElem? (i := 222) rfl)) (hw _ (List.mem_of_getElem? (i := 5) rfl)) (hw _ (List.mem_of_getElem? (i := 223) rfl)) (hw _ (List.mem_of_getElem? (i := 222) rfl)) (by decide) pd_27 rfl rfl rfl (nle rfl) (nle rfl) (nle rfl) (nle rfl) (fun _ q => nomatch q) (fun v h142 F' hq szh142 => ?_)
  obtain ⟨rfl, hh⟩ := hq
  subst h142
  refine WP.bipush d35_182 (v := (101 : Int32)) rfl ?_
  refine WP.icmp_ne d35_184 (fun hc184 => False.elim (hc184 (by decide))) (fun hc184 => ?_)
  refine WP.aload_n d35_187 rfl rfl ?_
  refine WP.iload_n d35_188 rfl ?_
  refine WP.bipush d35_189 (v := (15 : Int32)) rfl ?_
  refine WP.iadd d35_191 ?_
  rw [show ((Int32.ofNat p) + (15 : Int32)) = (Int32.ofNat (p + 15)) from ofN_add (i := p) (j := 15) (by omega)]
  refine WP.virtual (a := m) (argsL := [(.int (Int32.ofNat (p + 15)))]) (rest := []) d35_192 (rm_ca l Z a0 hw n0 h0 hO zc hcs hzc fm hfm hfr m tm (Int32.ofNat (p + 15)) (p + 15) zs (99 : Int32) M (Ix.ofNat (by omega)) (hp 15 (by decide))) M.1 (hw _ (List.mem_of_getElem? (i := 219) rfl)) (hw _ (List.mem_of_getElem? (i := 220) rfl)) (hw _ (List.mem_of_getElem? (i := 221) rfl)) (hw _ (List.mem_of_getElem? (i := 222) rfl)) (hw _ (List.mem_of_getElem? (i := 5) rfl)) (hw _ (List.mem_of_getElem? (i := 223) rfl)) (hw _ (List.mem_of_getElem? (i := 222) rfl)) (by decide) pd_27 rfl rfl rfl (nle rfl) (nle rfl) (nle rfl) (nle rfl) (fun _ q => nomatch q) (fun v h143 F' hq szh143 => ?_)
  obtain ⟨rfl, hh⟩ := hq
  subst h143
  refine WP.bipush d35_195 (v := (99 : Int32)) rfl ?_
  refine WP.icmp_ne d35_197 (fun hc197 => False.elim (hc197 (by decide))) (fun hc197 => ?_)
  refine WP.aload_n d35_200 rfl rfl ?_
  refine WP.iload_n d35_201 rfl ?_
  refine WP.bipush d35_202 (v := (16 : Int32)) rfl ?_
  refine WP.iadd d35_204 ?_
  rw [show ((Int32.ofNat p) + (16 : Int32)) = (Int32.ofNat (p + 16)) from ofN_add (i := p) (j := 16) (by omega)]
  refine WP.virtual (a := m) (argsL := [(.int (Int32.ofNat (p + 16)))]) (rest := []) d35_205 (rm_ca l Z a0 hw n0 h0 hO zc hcs hzc fm hfm hfr m tm (Int32.ofNat (p + 16)) (p + 16) zs (108 : Int32) M (Ix.ofNat (by omega)) (hp 16 (by decide))) M.1 (hw _ (List.mem_of_getElem? (i := 219) rfl)) (hw _ (List.mem_of_getElem? (i := 220) rfl)) (hw _ (List.mem_of_getElem? (i := 221) rfl)) (hw _ (List.mem_of_getElem? (i := 222) rfl)) (hw _ (List.mem_of_getElem? (i := 5) rfl)) (hw _ (List.mem_of_getElem? (i := 223) rfl)) (hw _ (List.mem_of_getElem? (i := 222) rfl)) (by decide) pd_27 rfl rfl rfl (nle rfl) (nle rfl) (nle rfl) (nle rfl) (fun _ q => nomatch q) (fun v h144 F' hq szh144 => ?_)
  obtain ⟨rfl, hh⟩ := hq
  subst h144
  refine WP.bipush d35_208 (v := (108 : Int32)) rfl ?_
  refine WP.icmp_ne d35_210 (fun hc210 => False.elim (hc210 (by decide))) (fun hc210 => ?_)
  refine WP.aload_n d35_213 rfl rfl ?_
  refine WP.iload_n d35_214 rfl ?_
  refine WP.bipush d35_215 (v := (17 : Int32)) rfl ?_
  refine WP.iadd d35_217 ?_
  rw [show ((Int32.ofNat p) + (17 : Int32)) = (Int32.ofNat (p + 17)) from ofN_add (i := p) (j := 17) (by omega)]
  refine WP.virtual (a := m) (argsL := [(.int (Int32.ofNat (p + 17)))]) (rest := []) d35_218 (rm_ca l Z a0 hw n0 h0 hO zc hcs hzc fm hfm hfr m tm (Int32.ofNat (p + 17)) (p + 17) zs (97 : Int32) M (Ix.ofNat (by omega)) (hp 17 (by decide))) M.1 (hw _ (List.mem_of_getElem? (i := 219) rfl)) (hw _ (List.mem_of_getElem? (i := 220) rfl)) (hw _ (List.mem_of_getElem? (i := 221) rfl)) (hw _ (List.mem_of_getElem? (i := 222) rfl)) (hw _ (List.mem_of_getElem? (i := 5) rfl)) (hw _ (List.mem_of_getElem? (i := 223) rfl)) (hw _ (List.mem_of_getElem? (i := 222) rfl)) (by decide) pd_27 rfl rfl rfl (nle rfl) (nle rfl) (nle rfl) (nle rfl) (fun _ q => nomatch q) (fun v h145 F' hq szh145 => ?_)
  obtain ⟨rfl, hh⟩ := hq
  subst h145
  refine WP.bipush d35_221 (v := (97 : Int32)) rfl ?_
  refine WP.icmp_ne d35_223 (fun hc223 => False.elim (hc223 (by decide))) (fun hc223 => ?_)
  refine WP.aload_n d35_226 rfl rfl ?_
  refine WP.iload_n d35_227 rfl ?_
  refine WP.bipush d35_228 (v := (18 : Int32)) rfl ?_
  refine WP.iadd d35_230 ?_
  rw [show ((Int32.ofNat p) + (18 : Int32)) = (Int32.ofNat (p + 18)) from ofN_add (i := p) (j := 18) (by omega)]
  refine WP.virtual (a := m) (argsL := [(.int (Int32.ofNat (p + 18)))]) (rest := []) d35_231 (rm_ca l Z a0 hw n0 h0 hO zc hcs hzc fm hfm hfr m tm (Int32.ofNat (p + 18)) (p + 18) zs (114 : Int32) M (Ix.ofNat (by omega)) (hp 18 (by decide))) M.1 (hw _ (List.mem_of_getElem? (i := 219) rfl)) (hw _ (List.mem_of_getElem? (i := 220) rfl)) (hw _ (List.mem_of_getElem? (i := 221) rfl)) (hw _ (List.mem_of_getElem? (i := 222) rfl)) (hw _ (List.mem_of_getElem? (i := 5) rfl)) (hw _ (List.mem_of_getElem? (i := 223) rfl)) (hw _ (List.mem_of_getElem? (i := 222) rfl)) (by decide) pd_27 rfl rfl rfl (nle rfl) (nle rfl) (nle rfl) (nle rfl) (fun _ q => nomatch q) (fun v h146 F' hq szh146 => ?_)
  obtain ⟨rfl, hh⟩ := hq
  subst h146
  refine WP.bipush d35_234 (v := (114 : Int32)) rfl ?_
  refine WP.icmp_ne d35_236 (fun hc236 => False.elim (hc236 (by decide))) (fun hc236 => ?_)
  refine WP.aload_n d35_239 rfl rfl ?_
  refine WP.iload_n d35_240 rfl ?_
  refine WP.bipush d35_241 (v := (19 : Int32)) rfl ?_
  refine WP.iadd d35_243 ?_
  rw [show ((Int32.ofNat p) + (19 : Int32)) = (Int32.ofNat (p + 19)) from ofN_add (i := p) (j := 19) (by omega)]
  refine WP.virtual (a := m) (argsL := [(.int (Int32.ofNat (p + 19)))]) (rest := []) d35_244 (rm_ca l Z a0 hw n0 h0 hO zc hcs hzc fm hfm hfr m tm (Int32.ofNat (p + 19)) (p + 19) zs (101 : Int32) M (Ix.ofNat (by omega)) (hp 19 (by decide))) M.1 (hw _ (List.mem_of_getElem? (i := 219) rfl)) (hw _ (List.mem_of_getElem? (i := 220) rfl)) (hw _ (List.mem_of_getElem? (i := 221) rfl)) (hw _ (List.mem_of_getElem? (i := 222) rfl)) (hw _ (List.mem_of_getElem? (i := 5) rfl)) (hw _ (List.mem_of_getElem? (i := 223) rfl)) (hw _ (List.mem_of_getElem? (i := 222) rfl)) (by decide) pd_27 rfl rfl rfl (nle rfl) (nle rfl) (nle rfl) (nle rfl) (fun _ q => nomatch q) (fun v h147 F' hq szh147 => ?_)
  obtain ⟨rfl, hh⟩ := hq
  subst h147
  refine WP.bipush d35_247 (v := (101 : Int32)) rfl ?_
  refine WP.icmp_ne d35_249 (fun hc249 => False.elim (hc249 (by decide))) (fun hc249 => ?_)
  refine WP.aload_n d35_252 rfl rfl ?_
  refine WP.iload_n d35_253 rfl ?_
  refine WP.bipush d35_254 (v := (20 : Int32)) rfl ?_
  refine WP.iadd d35_256 ?_
  rw [show ((Int32.ofNat p) + (20 : Int32)) = (Int32.ofNat (p + 20)) from ofN_add (i := p) (j := 20) (by omega)]
  refine WP.virtual (a := m) (argsL := [(.int (Int32.ofNat (p + 20)))]) (rest := []) d35_257 (rm_ca l Z a0 hw n0 h0 hO zc hcs hzc fm hfm hfr m tm (Int32.ofNat (p + 20)) (p + 20) zs (100 : Int32) M (Ix.ofNat (by omega)) (hp 20 (by decide))) M.1 (hw _ (List.mem_of_getElem? (i := 219) rfl)) (hw _ (List.mem_of_getElem? (i := 220) rfl)) (hw _ (List.mem_of_getElem? (i := 221) rfl)) (hw _ (List.mem_of_getElem? (i := 222) rfl)) (hw _ (List.mem_of_getElem? (i := 5) rfl)) (hw _ (List.mem_of_getElem? (i := 223) rfl)) (hw _ (List.mem_of_getElem? (i := 222) rfl)) (by decide) pd_27 rfl rfl rfl (nle rfl) (nle rfl) (nle rfl) (nle rfl) (fun _ q => nomatch q) (fun v h148 F' hq szh148 => ?_)
  obtain ⟨rfl, hh⟩ := hq
  subst h148
  refine WP.bipush d35_260 (v := (100 : Int32)) rfl ?_
  refine WP.icmp_ne d35_262 (fun hc262 => False.elim (hc262 (by decide))) (fun hc262 => ?_)
  refine WP.aload_n d35_265 rfl rfl ?_
  refine WP.iload_n d35_266 rfl ?_
  refine WP.bipush d35_267 (v := (21 : Int32)) rfl ?_
  refine WP.iadd d35_269 ?_
  rw [show ((Int32.ofNat p) + (21 : Int32)) = (Int32.ofNat (p + 21)) from ofN_add (i := p) (j := 21) (by omega)]
  refine WP.virtual (a := m) (argsL := [(.int (Int32.ofNat (p + 21)))]) (rest := []) d35_270 (rm_ca l Z a0 hw n0 h0 hO zc hcs hzc fm hfm hfr m tm (Int32.ofNat (p + 21)) (p + 21) zs (32 : Int32) M (Ix.ofNat (by omega)) (hp 21 (by decide))) M.1 (hw _ (List.mem_of_getElem? (i := 219) rfl)) (hw _ (List.mem_of_getElem? (i := 220) rfl)) (hw _ (List.mem_of_getElem? (i := 221) rfl)) (hw _ (List.mem_of_getElem? (i := 222) rfl)) (hw _ (List.mem_of_getElem? (i := 5) rfl)) (hw _ (List.mem_of_getElem? (i := 223) rfl)) (hw _ (List.mem_of_getElem? (i := 222) rfl)) (by decide) pd_27 rfl rfl rfl (nle rfl) (nle rfl) (nle rfl) (nle rfl) (fun _ q => nomatch q) (fun v h149 F' hq szh149 => ?_)
  obtain ⟨rfl, hh⟩ := hq
  subst h149
  refine WP.bipush d35_273 (v := (32 : Int32)) rfl ?_
  refine WP.icmp_ne d35_275 (fun hc275 => False.elim (hc275 (by decide))) (fun hc275 => ?_)
  refine WP.iconst d35_278 (v := (1 : Int32)) rfl ?_
  refine WP.goto d35_279 ?_
  exact WP.ireturn d35_283 rfl (t := .boolean) (by simp) rfl (by decide) (by decide) (G := []) (fun _ q => nomatch q) ⟨rfl, rfl⟩
theorem own_gn {s : State} (hT : tablesKnown s = true) (hF : framesKnown s = true) : Gn s := by
  constructor
  · intro m x hm
    unfold Vm.method? at hm
    cases hk : s.vm.classes[m.cls]? with
    | none => simp [hk] at hm
    | some k =>
      refine ⟨k, hk, fun cf hcf => ?_⟩
      obtain ⟨hi, ek⟩ := Array.getElem?_eq_some_iff.mp hk
      have q := (Array.all_eq_true_iff_forall_mem.mp hT) k (ek ▸ Array.getElem_mem hi)
      simp only [hcf] at q
      have q' : k.methods.size = cf.methods.size := by simpa using q
      have hm' : k.methods[m.idx]? = some x := by simpa [hk] using hm
      obtain ⟨hj, -⟩ := Array.getElem?_eq_some_iff.mp hm'
      rw [Array.getElem?_eq_getElem (by rw [← q']; exact hj)]; rfl
  · intro f hf m' hm'
    have q := (List.all_eq_true.mp hF) f (List.mem_of_mem_drop hf)
    have r : methodKnown s.vm m' = true := by
      cases f <;> simp [frameMethod?] at hm' <;> (subst hm'; exact q)
    unfold methodKnown at r
    cases hk : s.vm.classes[m'.cls]? with
    | none => rw [hk] at r; cases r
    | some k =>
      refine ⟨k, hk, fun cf hcf => ?_⟩
      rw [hk] at r; simp only [hcf] at r; exact r

theorem own_mid {A B C : List Int32} {i n : Nat} (hi : i < B.length) (hn : n = A.length + i) : (A ++ (B ++ C))[n]? = B[i]? := by
  subst hn
  rw [List.getElem?_append_right (by omega), Nat.add_sub_cancel_left, List.getElem?_append_left hi]
theorem own_cat (a b c d e f : List Int32) : [] ++ a ++ b ++ c ++ d ++ e ++ f = a ++ (b ++ (c ++ (d ++ (e ++ f)))) := by simp [List.append_assoc]
theorem own_a1 (os ks ns : List Int32) (i : Nat) (hi : i < os.length) : (msgB os ks ns)[0 + i]? = os[i]? := by
  have := own_mid (A := []) (B := os) (C := LB1 ++ (ks ++ (LB2 ++ (ns ++ LB3)))) hi (n := 0 + i) (by simp)
  rw [← this]; exact congrArg (fun z : List Int32 => z[0 + i]?) (own_cat _ _ _ _ _ _)
theorem own_a2 (os ks ns : List Int32) (i : Nat) (hi : i < 22) : (msgB os ks ns)[os.length + i]? = LB1[i]? := by
  have := own_mid (A := os) (B := LB1) (C := ks ++ (LB2 ++ (ns ++ LB3))) (show i < LB1.length from hi) (n := os.length + i) rfl
  rw [← this]; exact congrArg (fun z : List Int32 => z[os.length + i]?) (own_cat _ _ _ _ _ _)
theorem own_a3 (os ks ns : List Int32) (i : Nat) (hi : i < ks.length) : (msgB os ks ns)[os.length + 22 + i]? = ks[i]? := by
  have := own_mid (A := os ++ LB1) (B := ks) (C := LB2 ++ (ns ++ LB3)) hi (n := os.length + 22 + i) (by rw [List.length_append]; rfl)
  rw [← this, List.append_assoc]; exact congrArg (fun z : List Int32 => z[os.length + 22 + i]?) (own_cat _ _ _ _ _ _)
theorem own_a4 (os ks ns : List Int32) (i : Nat) (hi : i < 2) : (msgB os ks ns)[os.length + 22 + ks.length + i]? = LB2[i]? := by
  have := own_mid (A := os ++ (LB1 ++ ks)) (B := LB2) (C := ns ++ LB3) (show i < LB2.length from hi) (n := os.length + 22 + ks.length + i) (by rw [List.length_append, List.length_append]; show _ = os.length + (22 + ks.length) + i; omega)
  rw [← this, List.append_assoc, List.append_assoc]; exact congrArg (fun z : List Int32 => z[os.length + 22 + ks.length + i]?) (own_cat _ _ _ _ _ _)
theorem own_a5 (os ks ns : List Int32) (i : Nat) (hi : i < ns.length) : (msgB os ks ns)[os.length + 22 + ks.length + 2 + i]? = ns[i]? := by
  have := own_mid (A := os ++ (LB1 ++ (ks ++ LB2))) (B := ns) (C := LB3) hi (n := os.length + 22 + ks.length + 2 + i) (by rw [List.length_append, List.length_append, List.length_append]; show _ = os.length + (22 + (ks.length + 2)) + i; omega)
  rw [← this, List.append_assoc, List.append_assoc, List.append_assoc]; exact congrArg (fun z : List Int32 => z[os.length + 22 + ks.length + 2 + i]?) (own_cat _ _ _ _ _ _)
theorem own_a6 (os ks ns : List Int32) : (msgB os ks ns)[os.length + 22 + ks.length + 2 + ns.length]? = some 34 := by
  have := own_mid (A := os ++ (LB1 ++ (ks ++ (LB2 ++ ns)))) (B := LB3) (C := []) (i := 0) (by decide) (n := os.length + 22 + ks.length + 2 + ns.length) (by rw [List.length_append, List.length_append, List.length_append, List.length_append]; show _ = os.length + (22 + (ks.length + (2 + ns.length))) + 0; omega)
  rw [List.append_nil, List.append_assoc, List.append_assoc, List.append_assoc, List.append_assoc] at this
  exact (congrArg (fun z : List Int32 => z[os.length + 22 + ks.length + 2 + ns.length]?) (own_cat _ _ _ _ _ _)).trans this
theorem own_len (os ks ns : List Int32) : (msgB os ks ns).length = os.length + ks.length + ns.length + 25 := by
  simp only [List.length_append]
  show 0 + os.length + 22 + ks.length + 2 + ns.length + 1 = _
  omega
abbrev QLaw (v : Option Value) (h : Heap) (F : List Addr) : Prop := v = some (.int 1)
set_option maxRecDepth 65536 in
set_option maxHeartbeats 4000000 in
theorem rm_law (l : Launch) (Z : State) (a0 : Array Value) (hw : ∀ d ∈ tables_1, d.before a0 Z = true) (n0 : Nat) (h0 : Heap) (hO : Old Z n0 h0) (ws : List Jvm.Cond) (zc : Int32) (hcs : Sta Z Z.heap "java/lang/String" "COMPACT_STRINGS" "Z" (.int zc)) (hzc : zc ≠ 0) (fm : Value) (hfm : Sta Z Z.heap "jdk/internal/util/Preconditions" "SIOOBE_FORMATTER" "Ljava/util/function/BiFunction;" fm) (hfr : fm.isRef = true) (hst : l.stackTraces = true) (hG : Gn Z) (u sn : Addr) (hU : Sta Z Z.heap "java/lang/Throwable" "UNASSIGNED_STACK" "[Ljava/lang/StackTraceElement;" (.ref u)) (hSN : Sta Z Z.heap "java/lang/Throwable" "SUPPRESSED_SENTINEL" "Ljava/util/List;" (.ref sn)) (p0 p1 p2 : Int32) :
    Met l Z consts_1 n0 ws x code maxLocals ret room_1 #[.int p0, .int p1, .int p2] [] h0 QLaw := by
  have hEL := own_EW hw
  have hn0 : n0 ≤ h0.size := hO.1 ▸ hO.2.1
  refine Met.of (by decide +kernel) hEL hO (Ls := #[.val (.int p0), .val (.int p1), .val (.int p2), .unset, .unset, .unset, .unset, .unset, .unset, .unset, .unset, .unset]) (fun m => by first | (simp [entryFrame, mkF, argsToLocals, Value.category, maxLocals]; done) | rfl) ?_
  refine WP.iload_n d0_0 rfl ?_
  refine WP.static (argsL := [(.int p0)]) (rest := []) d0_1 (rm_mk l Z a0 hw n0 h0 hO zc hcs hzc p0) (hw _ (List.mem_of_getElem? (i := 0) rfl)) (hw _ (List.mem_of_getElem? (i := 1) rfl)) (hw _ (List.mem_of_getElem? (i := 2) rfl)) (hw _ (List.mem_of_getElem? (i := 3) rfl)) (by decide) pd_0 rfl rfl rfl (nle rfl) (nle rfl) (nle rfl) (nle rfl) (fun _ q => nomatch q) (fun v h150 F' hq szh150 => ?_)
  obtain ⟨o, to, os, rfl, Ko, Do, fo, qo⟩ := hq
  have hO := hO.keep Ko all0
  refine WP.astore_n d0_4 (Ls' := #[.val (.int p0), .val (.int p1), .val (.int p2), .val (.ref o), .unset, .unset, .unset, .unset, .unset, .unset, .unset, .unset]) rfl rfl ?_
  refine WP.iload_n d0_5 rfl ?_
  refine WP.static (argsL := [(.int p1)]) (rest := []) d0_6 (rm_mk l Z a0 hw n0 h150 hO zc hcs hzc p1) (hw _ (List.mem_of_getElem? (i := 0) rfl)) (hw _ (List.mem_of_getElem? (i := 1) rfl)) (hw _ (List.mem_of_getElem? (i := 2) rfl)) (hw _ (List.mem_of_getElem? (i := 3) rfl)) (by decide) pd_0 rfl rfl rfl (nle rfl) (nle rfl) (nle rfl) (nle rfl) (fun _ q => nomatch q) (fun v h151 F' hq szh151 => ?_)
  obtain ⟨k, tk, ks, rfl, Kk, Dk, fk, qk⟩ := hq
  have hO := hO.keep Kk all0
  have Do := Do.keep Kk nin0 nin0
  refine WP.astore d0_9 (Ls' := #[.val (.int p0), .val (.int p1), .val (.int p2), .val (.ref o), .val (.ref k), .unset, .unset, .unset, .unset, .unset, .unset, .unset]) rfl rfl ?_
  refine WP.iload_n d0_11 rfl ?_
  refine WP.static (argsL := [(.int p2)]) (rest := []) d0_12 (rm_mk l Z a0 hw n0 h151 hO zc hcs hzc p2) (hw _ (List.mem_of_getElem? (i := 0) rfl)) (hw _ (List.mem_of_getElem? (i := 1) rfl)) (hw _ (List.mem_of_getElem? (i := 2) rfl)) (hw _ (List.mem_of_getElem? (i := 3) rfl)) (by decide) pd_0 rfl rfl rfl (nle rfl) (nle rfl) (nle rfl) (nle rfl) (fun _ q => nomatch q) (fun v h152 F' hq szh152 => ?_)
  obtain ⟨n, tn, ns, rfl, Kn, Dn, fn, qn⟩ := hq
  have hO := hO.keep Kn all0
  have Do := Do.keep Kn nin0 nin0
  have Dk := Dk.keep Kn nin0 nin0
  refine WP.astore d0_15 (Ls' := #[.val (.int p0), .val (.int p1), .val (.int p2), .val (.ref o), .val (.ref k), .val (.ref n), .unset, .unset, .unset, .unset, .unset, .unset]) rfl rfl ?_
  refine WP.aload_n d0_17 rfl rfl ?_
  refine WP.aload d0_18 rfl rfl ?_
  refine WP.aload d0_20 rfl rfl ?_
  refine WP.static (argsL := [(.ref o), (.ref k), (.ref n)]) (rest := []) d0_22 (rm_un l Z a0 hw n0 h152 hO zc hcs hzc hst hG u sn hU hSN o to os Do fo qo k tk ks Dk fk qk n tn ns Dn fn qn) (hw _ (List.mem_of_getElem? (i := 12) rfl)) (hw _ (List.mem_of_getElem? (i := 13) rfl)) (hw _ (List.mem_of_getElem? (i := 14) rfl)) (hw _ (List.mem_of_getElem? (i := 15) rfl)) (by decide) pd_1 rfl rfl rfl (nle rfl) (nle rfl) (nle rfl) (nle rfl) (fun _ q => nomatch q) (fun v h153 F' hq szh153 => ?_)
  obtain ⟨e, m, tm, rfl, Ku, Ee, Fm, M⟩ := hq
  have hO := hO.keep Ku all0
  have Do := Do.keep Ku nin0 nin0
  have Dk := Dk.keep Ku nin0 nin0
  have Dn := Dn.keep Ku nin0 nin0
  refine WP.astore d0_25 (Ls' := #[.val (.int p0), .val (.int p1), .val (.int p2), .val (.ref o), .val (.ref k), .val (.ref n), .val (.ref e), .unset, .unset, .unset, .unset, .unset]) rfl rfl ?_
  refine WP.aload d0_27 rfl rfl ?_
  refine WP.ifnonnull d0_29 rfl (fun _ _ => ?_) (fun q => nomatch q)
  refine WP.aload d0_34 rfl rfl ?_
  refine WP.virtualUp (a := e) (owner := "java/lang/Throwable") (argsL := []) (rest := []) d0_36 (rm_gm l Z a0 hw n0 h153 hO e m Fm) Ee (hw _ (List.mem_of_getElem? (i := 206) rfl)) (hw _ (List.mem_of_getElem? (i := 207) rfl)) (hw _ (List.mem_of_getElem? (i := 208) rfl)) (hw _ (List.mem_of_getElem? (i := 209) rfl)) (hw _ (List.mem_of_getElem? (i := 210) rfl)) (hw _ (List.mem_of_getElem? (i := 167) rfl)) (hw _ (List.mem_of_getElem? (i := 211) rfl)) (by decide) pd_16 rfl rfl rfl (nle rfl) (nle rfl) (nle rfl) (nle rfl) (fun _ q => nomatch q) (fun v h154 F' hq szh154 => ?_)
  obtain ⟨rfl, hh⟩ := hq
  subst h154
  refine WP.astore d0_39 (Ls' := #[.val (.int p0), .val (.int p1), .val (.int p2), .val (.ref o), .val (.ref k), .val (.ref n), .val (.ref e), .val (.ref m), .unset, .unset, .unset, .unset]) rfl rfl ?_
  refine WP.aload d0_41 rfl rfl ?_
  refine WP.ifnonnull d0_43 rfl (fun _ _ => ?_) (fun q => nomatch q)
  refine WP.aload_n d0_48 rfl rfl ?_
  refine WP.virtual (a := o) (argsL := []) (rest := []) d0_49 (rm_len l Z a0 hw n0 h153 hO zc hcs hzc o to os Do) Do.1 (hw _ (List.mem_of_getElem? (i := 212) rfl)) (hw _ (List.mem_of_getElem? (i := 49) rfl)) (hw _ (List.mem_of_getElem? (i := 50) rfl)) (hw _ (List.mem_of_getElem? (i := 51) rfl)) (hw _ (List.mem_of_getElem? (i := 5) rfl)) (hw _ (List.mem_of_getElem? (i := 52) rfl)) (hw _ (List.mem_of_getElem? (i := 51) rfl)) (by decide) pd_6 rfl rfl rfl (nle rfl) (nle rfl) (nle rfl) (nle rfl) (fun _ q => nomatch q) (fun v h155 F' hq szh155 => ?_)
  obtain ⟨rfl, hh⟩ := hq
  subst h155
  refine WP.istore d0_52 rfl (Ls' := #[.val (.int p0), .val (.int p1), .val (.int p2), .val (.ref o), .val (.ref k), .val (.ref n), .val (.ref e), .val (.ref m), .val (.int (Int32.ofNat os.length)), .unset, .unset, .unset]) rfl ?_
  refine WP.aload d0_54 rfl rfl ?_
  refine WP.virtual (a := k) (argsL := []) (rest := []) d0_56 (rm_len l Z a0 hw n0 h153 hO zc hcs hzc k tk ks Dk) Dk.1 (hw _ (List.mem_of_getElem? (i := 212) rfl)) (hw _ (List.mem_of_getElem? (i := 49) rfl)) (hw _ (List.mem_of_getElem? (i := 50) rfl)) (hw _ (List.mem_of_getElem? (i := 51) rfl)) (hw _ (List.mem_of_getElem? (i := 5) rfl)) (hw _ (List.mem_of_getElem? (i := 52) rfl)) (hw _ (List.mem_of_getElem? (i := 51) rfl)) (by decide) pd_6 rfl rfl rfl (nle rfl) (nle rfl) (nle rfl) (nle rfl) (fun _ q => nomatch q) (fun v h156 F' hq szh156 => ?_)
  obtain ⟨rfl, hh⟩ := hq
  subst h156
  refine WP.istore d0_59 rfl (Ls' := #[.val (.int p0), .val (.int p1), .val (.int p2), .val (.ref o), .val (.ref k), .val (.ref n), .val (.ref e), .val (.ref m), .val (.int (Int32.ofNat os.length)), .val (.int (Int32.ofNat ks.length)), .unset, .unset]) rfl ?_
  refine WP.aload d0_61 rfl rfl ?_
  refine WP.virtual (a := n) (argsL := []) (rest := []) d0_63 (rm_len l Z a0 hw n0 h153 hO zc hcs hzc n tn ns Dn) Dn.1 (hw _ (List.mem_of_getElem? (i := 212) rfl)) (hw _ (List.mem_of_getElem? (i := 49) rfl)) (hw _ (List.mem_of_getElem? (i := 50) rfl)) (hw _ (List.mem_of_getElem? (i := 51) rfl)) (hw _ (List.mem_of_getElem? (i := 5) rfl)) (hw _ (List.mem_of_getElem? (i := 52) rfl)) (hw _ (List.mem_of_getElem? (i := 51) rfl)) (by decide) pd_6 rfl rfl rfl (nle rfl) (nle rfl) (nle rfl) (nle rfl) (fun _ q => nomatch q) (fun v h157 F' hq szh157 => ?_)
  obtain ⟨rfl, hh⟩ := hq
  subst h157
  refine WP.istore d0_66 rfl (Ls' := #[.val (.int p0), .val (.int p1), .val (.int p2), .val (.ref o), .val (.ref k), .val (.ref n), .val (.ref e), .val (.ref m), .val (.int (Int32.ofNat os.length)), .val (.int (Int32.ofNat ks.length)), .val (.int (Int32.ofNat ns.length)), .unset]) rfl ?_
  refine WP.aload d0_68 rfl rfl ?_
  refine WP.virtual (a := m) (argsL := []) (rest := []) d0_70 (rm_len l Z a0 hw n0 h153 hO zc hcs hzc m tm (msgB os ks ns) M) M.1 (hw _ (List.mem_of_getElem? (i := 212) rfl)) (hw _ (List.mem_of_getElem? (i := 49) rfl)) (hw _ (List.mem_of_getElem? (i := 50) rfl)) (hw _ (List.mem_of_getElem? (i := 51) rfl)) (hw _ (List.mem_of_getElem? (i := 5) rfl)) (hw _ (List.mem_of_getElem? (i := 52) rfl)) (hw _ (List.mem_of_getElem? (i := 51) rfl)) (by decide) pd_6 rfl rfl rfl (nle rfl) (nle rfl) (nle rfl) (nle rfl) (fun _ q => nomatch q) (fun v h158 F' hq szh158 => ?_)
  obtain ⟨rfl, hh⟩ := hq
  subst h158
  refine WP.iload d0_73 rfl ?_
  refine WP.iload d0_75 rfl ?_
  refine WP.iadd d0_77 ?_
  rw [show ((Int32.ofNat os.length) + (Int32.ofNat ks.length)) = (Int32.ofNat (os.length + ks.length)) from ofN_add (by omega)]
  refine WP.iload d0_78 rfl ?_
  refine WP.iadd d0_80 ?_
  rw [show ((Int32.ofNat (os.length + ks.length)) + (Int32.ofNat ns.length)) = (Int32.ofNat (os.length + ks.length + ns.length)) from ofN_add (by omega)]
  refine WP.bipush d0_81 (v := (25 : Int32)) rfl ?_
  refine WP.iadd d0_83 ?_
  rw [show ((Int32.ofNat (os.length + ks.length + ns.length)) + (25 : Int32)) = (Int32.ofNat (os.length + ks.length + ns.length + 25)) from ofN_add (i := os.length + ks.length + ns.length) (j := 25) (by omega)]
  refine WP.icmp_eq d0_84 (fun hc84 => ?_) (fun hc84 => False.elim (hc84 (by rw [own_len])))
  refine WP.iconst d0_89 (v := (0 : Int32)) rfl ?_
  refine WP.istore d0_90 rfl (Ls' := #[.val (.int p0), .val (.int p1), .val (.int p2), .val (.ref o), .val (.ref k), .val (.ref n), .val (.ref e), .val (.ref m), .val (.int (Int32.ofNat os.length)), .val (.int (Int32.ofNat ks.length)), .val (.int (Int32.ofNat ns.length)), .val (.int (0 : Int32))]) rfl ?_
  refine WP.aload d0_92 rfl rfl ?_
  refine WP.iload d0_94 rfl ?_
  refine WP.aload_n d0_96 rfl rfl ?_
  refine WP.static (argsL := [(.ref m), (.int (0 : Int32)), (.ref o)]) (rest := []) d0_97 (rm_same l Z a0 hw n0 h153 hO zc hcs hzc fm hfm hfr m tm (msgB os ks ns) M 0 (by omega) o to os Do (own_a1 os ks ns)) (hw _ (List.mem_of_getElem? (i := 213) rfl)) (hw _ (List.mem_of_getElem? (i := 214) rfl)) (hw _ (List.mem_of_getElem? (i := 2) rfl)) (hw _ (List.mem_of_getElem? (i := 215) rfl)) (by decide) pd_25 rfl rfl rfl (nle rfl) (nle rfl) (nle rfl) (nle rfl) (fun _ q => nomatch q) (fun v h159 F' hq szh159 => ?_)
  obtain ⟨rfl, hh⟩ := hq
  subst h159
  refine WP.if_ne d0_100 (fun hc100 => ?_) (fun hc100 => False.elim (absurd hc100 (by decide)))
  refine WP.iload d0_105 rfl ?_
  refine WP.iload d0_107 rfl ?_
  refine WP.iadd d0_109 ?_
  rw [show ((0 : Int32) + (Int32.ofNat os.length)) = (Int32.ofNat (os.length)) from Int32.zero_add _]
  refine WP.istore d0_110 rfl (Ls' := #[.val (.int p0), .val (.int p1), .val (.int p2), .val (.ref o), .val (.ref k), .val (.ref n), .val (.ref e), .val (.ref m), .val (.int (Int32.ofNat os.length)), .val (.int (Int32.ofNat ks.length)), .val (.int (Int32.ofNat ns.length)), .val (.int (Int32.ofNat (os.length)))]) rfl ?_
  refine WP.aload d0_112 rfl rfl ?_
  refine WP.iload d0_114 rfl ?_
  refine WP.static (argsL := [(.ref m), (.int (Int32.ofNat (os.length)))]) (rest := []) d0_116 (rm_names l Z a0 hw n0 h153 hO zc hcs hzc fm hfm hfr m tm (msgB os ks ns) M os.length (by omega) (own_a2 os ks ns)) (hw _ (List.mem_of_getElem? (i := 216) rfl)) (hw _ (List.mem_of_getElem? (i := 217) rfl)) (hw _ (List.mem_of_getElem? (i := 2) rfl)) (hw _ (List.mem_of_getElem? (i := 218) rfl)) (by decide) pd_26 rfl rfl rfl (nle rfl) (nle rfl) (nle rfl) (nle rfl) (fun _ q => nomatch q) (fun v h160 F' hq szh160 => ?_)
  obtain ⟨rfl, hh⟩ := hq
  subst h160
  refine WP.if_ne d0_119 (fun hc119 => ?_) (fun hc119 => False.elim (absurd hc119 (by decide)))
  refine WP.iload d0_124 rfl ?_
  refine WP.bipush d0_126 (v := (22 : Int32)) rfl ?_
  refine WP.iadd d0_128 ?_
  rw [show ((Int32.ofNat (os.length)) + (22 : Int32)) = (Int32.ofNat (os.length + 22)) from ofN_add (i := os.length) (j := 22) (by omega)]
  refine WP.istore d0_129 rfl (Ls' := #[.val (.int p0), .val (.int p1), .val (.int p2), .val (.ref o), .val (.ref k), .val (.ref n), .val (.ref e), .val (.ref m), .val (.int (Int32.ofNat os.length)), .val (.int (Int32.ofNat ks.length)), .val (.int (Int32.ofNat ns.length)), .val (.int (Int32.ofNat (os.length + 22)))]) rfl ?_
  refine WP.aload d0_131 rfl rfl ?_
  refine WP.iload d0_133 rfl ?_
  refine WP.aload d0_135 rfl rfl ?_
  refine WP.static (argsL := [(.ref m), (.int (Int32.ofNat (os.length + 22))), (.ref k)]) (rest := []) d0_137 (rm_same l Z a0 hw n0 h153 hO zc hcs hzc fm hfm hfr m tm (msgB os ks ns) M (os.length + 22) (by omega) k tk ks Dk (own_a3 os ks ns)) (hw _ (List.mem_of_getElem? (i := 213) rfl)) (hw _ (List.mem_of_getElem? (i := 214) rfl)) (hw _ (List.mem_of_getElem? (i := 2) rfl)) (hw _ (List.mem_of_getElem? (i := 215) rfl)) (by decide) pd_25 rfl rfl rfl (nle rfl) (nle rfl) (nle rfl) (nle rfl) (fun _ q => nomatch q) (fun v h161 F' hq szh161 => ?_)
  obtain ⟨rfl, hh⟩ := hq
  subst h161
  refine WP.if_ne d0_140 (fun hc140 => ?_) (fun hc140 => False.elim (absurd hc140 (by decide)))
  refine WP.iload d0_145 rfl ?_
  refine WP.iload d0_147 rfl ?_
  refine WP.iadd d0_149 ?_
  rw [show ((Int32.ofNat (os.length + 22)) + (Int32.ofNat ks.length)) = (Int32.ofNat (os.length + 22 + ks.length)) from ofN_add (by omega)]
  refine WP.istore d0_150 rfl (Ls' := #[.val (.int p0), .val (.int p1), .val (.int p2), .val (.ref o), .val (.ref k), .val (.ref n), .val (.ref e), .val (.ref m), .val (.int (Int32.ofNat os.length)), .val (.int (Int32.ofNat ks.length)), .val (.int (Int32.ofNat ns.length)), .val (.int (Int32.ofNat (os.length + 22 + ks.length)))]) rfl ?_
  refine WP.aload d0_152 rfl rfl ?_
  refine WP.iload d0_154 rfl ?_
  refine WP.virtual (a := m) (argsL := [(.int (Int32.ofNat (os.length + 22 + ks.length)))]) (rest := []) d0_156 (rm_ca l Z a0 hw n0 h153 hO zc hcs hzc fm hfm hfr m tm (Int32.ofNat (os.length + 22 + ks.length)) (os.length + 22 + ks.length) (msgB os ks ns) (32 : Int32) M (Ix.ofNat (by omega)) (own_a4 os ks ns 0 (by decide))) M.1 (hw _ (List.mem_of_getElem? (i := 219) rfl)) (hw _ (List.mem_of_getElem? (i := 220) rfl)) (hw _ (List.mem_of_getElem? (i := 221) rfl)) (hw _ (List.mem_of_getElem? (i := 222) rfl)) (hw _ (List.mem_of_getElem? (i := 5) rfl)) (hw _ (List.mem_of_getElem? (i := 223) rfl)) (hw _ (List.mem_of_getElem? (i := 222) rfl)) (by decide) pd_27 rfl rfl rfl (nle rfl) (nle rfl) (nle rfl) (nle rfl) (fun _ q => nomatch q) (fun v h162 F' hq szh162 => ?_)
  obtain ⟨rfl, hh⟩ := hq
  subst h162
  refine WP.bipush d0_159 (v := (32 : Int32)) rfl ?_
  refine WP.icmp_ne d0_161 (fun hc161 => False.elim (hc161 (by decide))) (fun hc161 => ?_)
  refine WP.aload d0_164 rfl rfl ?_
  refine WP.iload d0_166 rfl ?_
  refine WP.iconst d0_168 (v := (1 : Int32)) rfl ?_
  refine WP.iadd d0_169 ?_
  rw [show ((Int32.ofNat (os.length + 22 + ks.length)) + (1 : Int32)) = (Int32.ofNat (os.length + 22 + ks.length + 1)) from ofN_add (i := os.length + 22 + ks.length) (j := 1) (by omega)]
  refine WP.virtual (a := m) (argsL := [(.int (Int32.ofNat (os.length + 22 + ks.length + 1)))]) (rest := []) d0_170 (rm_ca l Z a0 hw n0 h153 hO zc hcs hzc fm hfm hfr m tm (Int32.ofNat (os.length + 22 + ks.length + 1)) (os.length + 22 + ks.length + 1) (msgB os ks ns) (34 : Int32) M (Ix.ofNat (by omega)) (own_a4 os ks ns 1 (by decide))) M.1 (hw _ (List.mem_of_getElem? (i := 219) rfl)) (hw _ (List.mem_of_getElem? (i := 220) rfl)) (hw _ (List.mem_of_getElem? (i := 221) rfl)) (hw _ (List.mem_of_getElem? (i := 222) rfl)) (hw _ (List.mem_of_getElem? (i := 5) rfl)) (hw _ (List.mem_of_getElem? (i := 223) rfl)) (hw _ (List.mem_of_getElem? (i := 222) rfl)) (by decide) pd_27 rfl rfl rfl (nle rfl) (nle rfl) (nle rfl) (nle rfl) (fun _ q => nomatch q) (fun v h163 F' hq szh163 => ?_)
  obtain ⟨rfl, hh⟩ := hq
  subst h163
  refine WP.bipush d0_173 (v := (34 : Int32)) rfl ?_
  refine WP.icmp_eq d0_175 (fun hc175 => ?_) (fun hc175 => False.elim (hc175 (by decide)))
  refine WP.iload d0_180 rfl ?_
  refine WP.iconst d0_182 (v := (2 : Int32)) rfl ?_
  refine WP.iadd d0_183 ?_
  rw [show ((Int32.ofNat (os.length + 22 + ks.length)) + (2 : Int32)) = (Int32.ofNat (os.length + 22 + ks.length + 2)) from ofN_add (i := os.length + 22 + ks.length) (j := 2) (by omega)]
  refine WP.istore d0_184 rfl (Ls' := #[.val (.int p0), .val (.int p1), .val (.int p2), .val (.ref o), .val (.ref k), .val (.ref n), .val (.ref e), .val (.ref m), .val (.int (Int32.ofNat os.length)), .val (.int (Int32.ofNat ks.length)), .val (.int (Int32.ofNat ns.length)), .val (.int (Int32.ofNat (os.length + 22 + ks.length + 2)))]) rfl ?_
  refine WP.aload d0_186 rfl rfl ?_
  refine WP.iload d0_188 rfl ?_
  refine WP.aload d0_190 rfl rfl ?_
  refine WP.static (argsL := [(.ref m), (.int (Int32.ofNat (os.length + 22 + ks.length + 2))), (.ref n)]) (rest := []) d0_192 (rm_same l Z a0 hw n0 h153 hO zc hcs hzc fm hfm hfr m tm (msgB os ks ns) M (os.length + 22 + ks.length + 2) (by omega) n tn ns Dn (own_a5 os ks ns)) (hw _ (List.mem_of_getElem? (i := 213) rfl)) (hw _ (List.mem_of_getElem? (i := 214) rfl)) (hw _ (List.mem_of_getElem? (i := 2) rfl)) (hw _ (List.mem_of_getElem? (i := 215) rfl)) (by decide) pd_25 rfl rfl rfl (nle rfl) (nle rfl) (nle rfl) (nle rfl) (fun _ q => nomatch q) (fun v h164 F' hq szh164 => ?_)
  obtain ⟨rfl, hh⟩ := hq
  subst h164
  refine WP.if_ne d0_195 (fun hc195 => ?_) (fun hc195 => False.elim (absurd hc195 (by decide)))
  refine WP.iload d0_200 rfl ?_
  refine WP.iload d0_202 rfl ?_
  refine WP.iadd d0_204 ?_
  rw [show ((Int32.ofNat (os.length + 22 + ks.length + 2)) + (Int32.ofNat ns.length)) = (Int32.ofNat (os.length + 22 + ks.length + 2 + ns.length)) from ofN_add (by omega)]
  refine WP.istore d0_205 rfl (Ls' := #[.val (.int p0), .val (.int p1), .val (.int p2), .val (.ref o), .val (.ref k), .val (.ref n), .val (.ref e), .val (.ref m), .val (.int (Int32.ofNat os.length)), .val (.int (Int32.ofNat ks.length)), .val (.int (Int32.ofNat ns.length)), .val (.int (Int32.ofNat (os.length + 22 + ks.length + 2 + ns.length)))]) rfl ?_
  refine WP.aload d0_207 rfl rfl ?_
  refine WP.iload d0_209 rfl ?_
  refine WP.virtual (a := m) (argsL := [(.int (Int32.ofNat (os.length + 22 + ks.length + 2 + ns.length)))]) (rest := []) d0_211 (rm_ca l Z a0 hw n0 h153 hO zc hcs hzc fm hfm hfr m tm (Int32.ofNat (os.length + 22 + ks.length + 2 + ns.length)) (os.length + 22 + ks.length + 2 + ns.length) (msgB os ks ns) (34 : Int32) M (Ix.ofNat (by omega)) (own_a6 os ks ns)) M.1 (hw _ (List.mem_of_getElem? (i := 219) rfl)) (hw _ (List.mem_of_getElem? (i := 220) rfl)) (hw _ (List.mem_of_getElem? (i := 221) rfl)) (hw _ (List.mem_of_getElem? (i := 222) rfl)) (hw _ (List.mem_of_getElem? (i := 5) rfl)) (hw _ (List.mem_of_getElem? (i := 223) rfl)) (hw _ (List.mem_of_getElem? (i := 222) rfl)) (by decide) pd_27 rfl rfl rfl (nle rfl) (nle rfl) (nle rfl) (nle rfl) (fun _ q => nomatch q) (fun v h165 F' hq szh165 => ?_)
  obtain ⟨rfl, hh⟩ := hq
  subst h165
  refine WP.bipush d0_214 (v := (34 : Int32)) rfl ?_
  refine WP.icmp_ne d0_216 (fun hc216 => False.elim (hc216 (by decide))) (fun hc216 => ?_)
  refine WP.iconst d0_219 (v := (1 : Int32)) rfl ?_
  refine WP.goto d0_220 ?_
  exact WP.ireturn d0_224 rfl (t := .boolean) (by simp) rfl (by decide) (by decide) (G := []) (fun _ q => nomatch q) rfl
set_option maxRecDepth 65536 in
set_option maxHeartbeats 4000000 in
theorem comes_1 {Post : Tables → Env → Array Value → State → Outcome → State → Prop} (hpost : ∀ tb e args s v u, (limb_1_1.after args s (.returned v) u = true ∧ limb_1_2.after args s (.returned v) u = true ∧ True) → ReturnedEndW s (.returned v) u (Jvm.fieldLocs frame_1_writes args s ++ Jvm.arrayLocs frame_1_arrays args s ++ Jvm.staticLocs frame_1_statics s) 48 9920 → Post tb e args s (.returned v) u) :
    ArmFor flags0 classFile x code maxLocals ret World_1 tables_1 room_1 Calls_1 rest_1 Pre_1 Post := by
  intro l hfl _ _ p e ha hc hk s m args below hf hA hF happ hP
  obtain ⟨hcalls, hrest, hpre⟩ := hP
  obtain ⟨-, -, -, hnamed, -, -, -, hat⟩ := (Spec.applies_iff hf).mp happ
  obtain ⟨hg, hn⟩ := and_e (Cond.before_iff.mp (show (Jvm.Cond.and given_1 narrow_1).before args s = true from hpre))
  obtain ⟨hcount, hg1⟩ := and_e hg
  obtain ⟨ga0, hg2⟩ := and_e hg1
  obtain ⟨ga1, hg3⟩ := and_e hg2
  have ga2 := hg3
  obtain ⟨w0, w1, w2, rfl⟩ : ∃ w0 w1 w2 : Value, args = #[w0, w1, w2] := by
    have hs : args.size = 3 := by simpa [Cond.value, given_1] using hcount
    obtain ⟨L⟩ := args
    match L, hs with
    | [w0, w1, w2], _ => exact ⟨w0, w1, w2, rfl⟩
  have hw := fun d (hd : d ∈ tables_1) => atoms_spec (ws := Jvm.Cond.code x code maxLocals ret :: tables_1) hat d (List.mem_cons_of_mem _ hd)
  have hfit : Fit s := fun {y c} hc i hi => by
    obtain ⟨ha, rfl⟩ := Array.getElem?_eq_some_iff.mp hc
    have q := List.all_eq_true.mp ((Array.all_eq_true_iff_forall_mem.mp hF) _ (Array.getElem_mem ha)) i (List.mem_range.mpr hi)
    simpa [Array.getElem?_eq_getElem hi] using q
  obtain ⟨i0, ei0⟩ := is_v ga0
  obtain rfl : w0 = (.int i0) := Option.some.inj ei0
  obtain ⟨i1, ei1⟩ := is_v ga1
  obtain rfl : w1 = (.int i1) := Option.some.inj ei1
  obtain ⟨i2, ei2⟩ := is_v ga2
  obtain rfl : w2 = (.int i2) := Option.some.inj ei2
  obtain ⟨hsets, hown0⟩ := atoms_of _ (rest_1_c_eq ▸ (show rest_1_c.before _ s = true from hrest))
  have hcw := hsets _ (List.mem_of_getElem? (i := 2) rfl)
  obtain ⟨zc, ezc⟩ := is_v (Cond.before_iff.mp (hsets _ (List.mem_of_getElem? (i := 1) rfl)))
  have hcs : Sta s s.heap "java/lang/String" "COMPACT_STRINGS" "Z" (.int zc) := Sta.start ezc (Or.inl (hsets _ (List.mem_of_getElem? (i := 0) rfl)))
  have hzc : zc ≠ 0 := by
    intro q
    subst q
    have r := not_v (Cond.before_iff.mp hcw)
    rw [eq_i ezc (Term.int_eval 0) rfl] at r
    cases r
  obtain ⟨fm, efm, hfr⟩ := isR_v (Cond.before_iff.mp (hsets _ (List.mem_of_getElem? (i := 8) rfl)))
  have hfm := Sta.start efm (Or.inl (hsets _ (List.mem_of_getElem? (i := 7) rfl)))
  obtain ⟨u, eu⟩ := arr_v (Cond.before_iff.mp (hsets _ (List.mem_of_getElem? (i := 17) rfl)))
  have hU := Sta.start eu (Or.inl (hsets _ (List.mem_of_getElem? (i := 15) rfl)))
  obtain ⟨sn, esn⟩ := exa_v (Cond.before_iff.mp (hsets _ (List.mem_of_getElem? (i := 22) rfl)))
  have hSN := Sta.start esn (Or.inl (hsets _ (List.mem_of_getElem? (i := 20) rfl)))
  have hst : l.stackTraces = true := by unfold Launch.stackTraces; rw [hfl]; decide
  have hG : Gn s := own_gn hcalls.2.1 hcalls.1
  have hC : CHv s consts_1 s.vm s.heap := CHv.start (own_EW hw) (fun p hp => hcalls.2.2.1 p hp) hcw (hw _ (List.mem_of_getElem? (i := 7) rfl)) (hw _ (List.mem_of_getElem? (i := 6) rfl))
  obtain ⟨n, o, h1, h2, h3, v, L, rfl, ⟨⟨_, hq, _⟩, N, _⟩, _, hend⟩ := rm_law l s _ hw s.heap.size s.heap (Old.start s) tables_1 zc hcs hzc fm hfm hfr hst hG u sn hU hSN i0 i1 i2 p e ha hc hk s m _ below hf ((Spec.applies_iff_loose hf).mp happ).1 ⟨rfl, State.Warmed39.refl s, rfl, hC, fun _ q => nomatch q⟩ (fun q => by have r := q.2; rw [hf] at r; exact r)
  have hq' : v = some (.int 1) := hq
  subst hq'
  exact ⟨n, _, h1, h2, h3, hpost _ _ _ _ _ _ ⟨Cond.after_iff.mpr rfl, Cond.after_iff.mpr (eq_i res_at (Term.int_eval (1)) rfl), trivial⟩ ⟨hend.1, hend.2.1, hend.2.2.1, (hend.2.2.2.sift fun y hy => Or.inr (N y hy)).mono (by decide) (by decide)⟩⟩
theorem main_1_1 : Claimed_1_1 := comes_1 fun _ _ _ _ _ _ h hF => ⟨h.1, hF⟩
theorem main_1_2 : Claimed_1_2 := comes_1 fun _ _ _ _ _ _ h hF => ⟨h.2.1, hF⟩
end Jvm.Pilot.@@N@@
namespace Jvm.Pilot.@@N@@
open Jvm Jvm.ClassFile Sem Op Lib Jvm.Free Jvm.Stand Jvm.Pilot.@@N@@.Jvm.D
/-! MADE BY PROGRAM (witnessworld.py) out of the Statement's table words and the real class files: 41 classes; the members and pool entries that the words name. The judged class is class 1, her method 1. -/
namespace start1
open Jvm.ClassFile
def u (s : String) : CpInfo := .utf8 (stringToUtf16 s)
/-- a pool by its gaps: so many unusable entries, then the entry; so many at the end -/
def gap : Nat → List CpInfo → List CpInfo
  | 0, r => r
  | n + 1, r => .unusable :: gap n r
def poolList (es : List (Nat × CpInfo)) (last : Nat) : List CpInfo := es.foldr (fun e r => gap e.1 (e.2 :: r)) (gap last [])
def pool (es : List (Nat × CpInfo)) (last : Nat) : Array CpInfo := ⟨poolList es last⟩
def fileOf (pool : Array CpInfo) (this : Nat) (attrs : Array Attribute := #[]) (ms : Array MethodInfo := #[]) (fl : Nat := 33) (sup : Nat := 0) (ifs : Array Nat := #[]) (fds : Array FieldInfo := #[]) : ClassFile where
  minorVersion := 0
  majorVersion := 65
  constantPool := pool
  accessFlags := fl
  thisClass := this
  superClass := sup
  interfaces := ifs
  fields := fds
  methods := ms
  attributes := attrs
def plain (name : String) (sup : Option ClassId) : Class where
  name := name
  kind := .ordinary
  loader := none
  accessFlags := 33
  super := sup
  interfaces := #[]
  cf := none
  fields := #[]
  methods := #[]
  instanceTypes := #[]
  staticTypes := #[]
  resolved := #[]
  callSites := []
  init := .initialized
  statics := none
  mirror := none

def pool0 : Array CpInfo := pool [(5, u "<init>"), (0, u "()V"), (1, .class_ 10), (1, u "java/lang/Object")] 113

def k0c0 : Code := { maxStack := 0, maxLocals := 1, code := object_method_1_code, exceptionTable := #[], attributes := #[] }
def k0m0 : Method := { name := "<init>", desc := "()V", sig := { parameters := [], returnType := none }, accessFlags := 1, code := some k0c0 }
/-- java/lang/Object -/
def k0 : Class := { plain "java/lang/Object" none with
  accessFlags := 33
  interfaces := #[]
  cf := some (fileOf pool0 8 #[] #[{ accessFlags := 1, nameIndex := 5, descriptorIndex := 6, attributes := #[] }] 33 0 #[] #[])
  fields := #[]
  methods := #[k0m0]
  instanceTypes := #[]
  staticTypes := #[]
  resolved := Array.replicate 124 none
  statics := none }

def pool1 : Array CpInfo := pool [(2, .class_ 4), (1, u "java/lang/Object"), (0, u "<init>"), (0, u "()V"), (0, .methodref 8 9), (0, .class_ 10), (0, .nameAndType 11 12), (0, u "com/example/proviso/proviso/InvalidInputExceptionUndeclaredPinLaw"), (0, u "mk"), (0, u "(I)Ljava/lang/String;"), (0, .methodref 14 15), (0, .class_ 16), (0, .nameAndType 17 18), (0, u "com/example/proviso/proviso/InvalidInputException"), (0, u "undeclared"), (0, u "(Ljava/lang/String;Ljava/lang/String;Ljava/lang/String;)Lcom/example/proviso/proviso/InvalidInputException;"), (0, .methodref 14 20), (0, .nameAndType 21 22), (0, u "getMessage"), (0, u "()Ljava/lang/String;"), (0, .methodref 24 25), (0, .class_ 26), (0, .nameAndType 27 28), (0, u "java/lang/String"), (0, u "length"), (0, u "()I"), (0, .methodref 8 30), (0, .nameAndType 31 32), (0, u "same"), (0, u "(Ljava/lang/String;ILjava/lang/String;)Z"), (0, .methodref 8 34), (0, .nameAndType 35 36), (0, u "names"), (0, u "(Ljava/lang/String;I)Z"), (0, .methodref 24 38), (0, .nameAndType 39 40), (0, u "charAt"), (0, u "(I)C"), (0, .string 42), (0, u ""), (0, .methodref 24 44), (0, .nameAndType 45 46), (0, u "valueOf"), (0, u "(C)Ljava/lang/String;"), (0, .methodref 24 48), (0, .nameAndType 5 49), (0, u "([C)V"), (2, u "law"), (0, u "(III)Z")] 3

def k1m0 : Method := { name := "<init>", desc := "()V", sig := { parameters := [], returnType := none }, accessFlags := 1, code := none }
def k1c1 : Code := { maxStack := 3, maxLocals := 12, code := code, exceptionTable := #[], attributes := #[] }
def k1m1 : Method := { name := "law", desc := "(III)Z", sig := { parameters := [.int, .int, .int], returnType := some .boolean }, accessFlags := 9, code := some k1c1 }
def k1c2 : Code := { maxStack := 3, maxLocals := 5, code := method_3_code, exceptionTable := #[], attributes := #[] }
def k1m2 : Method := { name := "mk", desc := "(I)Ljava/lang/String;", sig := { parameters := [.int], returnType := some (.object "java/lang/String") }, accessFlags := 10, code := some k1c2 }
def k1c3 : Code := { maxStack := 3, maxLocals := 4, code := method_4_code, exceptionTable := #[], attributes := #[] }
def k1m3 : Method := { name := "same", desc := "(Ljava/lang/String;ILjava/lang/String;)Z", sig := { parameters := [(.object "java/lang/String"), .int, (.object "java/lang/String")], returnType := some .boolean }, accessFlags := 10, code := some k1c3 }
def k1c4 : Code := { maxStack := 3, maxLocals := 2, code := method_5_code, exceptionTable := #[], attributes := #[] }
def k1m4 : Method := { name := "names", desc := "(Ljava/lang/String;I)Z", sig := { parameters := [(.object "java/lang/String"), .int], returnType := some .boolean }, accessFlags := 10, code := some k1c4 }
/-- com/example/proviso/proviso/InvalidInputExceptionUndeclaredPinLaw -/
def k1 : Class := { plain "com/example/proviso/proviso/InvalidInputExceptionUndeclaredPinLaw" (some 0) with
  accessFlags := 49
  interfaces := #[]
  cf := some (fileOf pool1 8 #[] #[{ accessFlags := 1, nameIndex := 5, descriptorIndex := 6, attributes := #[] }, { accessFlags := 9, nameIndex := 52, descriptorIndex := 53, attributes := #[] }, { accessFlags := 10, nameIndex := 11, descriptorIndex := 12, attributes := #[] }, { accessFlags := 10, nameIndex := 31, descriptorIndex := 32, attributes := #[] }, { accessFlags := 10, nameIndex := 35, descriptorIndex := 36, attributes := #[] }] 49 2 #[] #[])
  fields := #[]
  methods := #[k1m0, k1m1, k1m2, k1m3, k1m4]
  instanceTypes := #[]
  staticTypes := #[]
  resolved := Array.replicate 57 none
  statics := none }

def pool2 : Array CpInfo := pool [(1, .class_ 2), (0, u "java/io/Serializable"), (0, .class_ 4), (0, u "java/lang/Object")] 2

/-- java/io/Serializable -/
def k2 : Class := { plain "java/io/Serializable" (some 0) with
  accessFlags := 1537
  interfaces := #[]
  cf := some (fileOf pool2 1 #[] #[] 1537 3 #[] #[])
  fields := #[]
  methods := #[]
  instanceTypes := #[]
  staticTypes := #[]
  resolved := Array.replicate 7 none
  statics := none }

def pool3 : Array CpInfo := pool [(1, .class_ 2), (0, u "java/lang/Comparable"), (0, .class_ 4), (0, u "java/lang/Object")] 7

/-- java/lang/Comparable -/
def k3 : Class := { plain "java/lang/Comparable" (some 0) with
  accessFlags := 1537
  interfaces := #[]
  cf := some (fileOf pool3 1 #[] #[] 1537 3 #[] #[])
  fields := #[]
  methods := #[]
  instanceTypes := #[]
  staticTypes := #[]
  resolved := Array.replicate 12 none
  statics := none }

def pool4 : Array CpInfo := pool [(2, .class_ 4), (1, u "java/lang/CharSequence"), (42, .class_ 48), (0, u "java/lang/CharSequence$1CodePointIterator"), (10, .class_ 60), (0, u "java/lang/CharSequence$1CharIterator"), (5, .class_ 67), (0, u "java/lang/Object")] 63

/-- java/lang/CharSequence -/
def k4 : Class := { plain "java/lang/CharSequence" (some 0) with
  accessFlags := 1537
  interfaces := #[]
  cf := some (fileOf pool4 2 #[.nestMembers #[47, 59]] #[] 1537 66 #[] #[])
  fields := #[]
  methods := #[]
  instanceTypes := #[]
  staticTypes := #[]
  resolved := Array.replicate 131 none
  statics := none }

def pool5 : Array CpInfo := pool [(1, .class_ 2), (0, u "java/lang/constant/Constable"), (0, .class_ 4), (0, u "java/lang/Object")] 6

/-- java/lang/constant/Constable -/
def k5 : Class := { plain "java/lang/constant/Constable" (some 0) with
  accessFlags := 1537
  interfaces := #[]
  cf := some (fileOf pool5 1 #[] #[] 1537 3 #[] #[])
  fields := #[]
  methods := #[]
  instanceTypes := #[]
  staticTypes := #[]
  resolved := Array.replicate 11 none
  statics := none }

def pool6 : Array CpInfo := pool [(1, .class_ 2), (0, u "java/lang/constant/ConstantDesc"), (0, .class_ 4), (0, u "java/lang/Object")] 32

/-- java/lang/constant/ConstantDesc -/
def k6 : Class := { plain "java/lang/constant/ConstantDesc" (some 0) with
  accessFlags := 1537
  interfaces := #[]
  cf := some (fileOf pool6 1 #[] #[] 1537 3 #[] #[])
  fields := #[]
  methods := #[]
  instanceTypes := #[]
  staticTypes := #[]
  resolved := Array.replicate 37 none
  statics := none }

def pool7 : Array CpInfo := pool [(1, .methodref 2 3), (0, .class_ 4), (0, .nameAndType 5 6), (0, u "java/lang/Object"), (0, u "<init>"), (0, u "()V"), (2, .fieldref 10 11), (0, .class_ 12), (0, .nameAndType 13 14), (0, u "java/lang/String"), (0, u "value"), (0, u "[B"), (0, .fieldref 10 16), (0, .nameAndType 17 18), (0, u "coder"), (0, u "B"), (2, u "hash"), (0, u "I"), (2, u "hashIsZero"), (0, u "Z"), (0, .methodref 10 28), (0, .nameAndType 5 29), (0, u "([CIILjava/lang/Void;)V"), (8, .fieldref 10 39), (0, .nameAndType 40 26), (0, u "COMPACT_STRINGS"), (1, .class_ 44), (1, u "java/lang/StringUTF16"), (0, u "compress"), (1, .methodref 42 48), (0, .nameAndType 49 50), (0, u "coderFromArrayLen"), (0, u "([BI)B"), (2, u "toBytes"), (0, .methodref 55 56), (0, .class_ 57), (0, .nameAndType 58 59), (0, u "java/util/Arrays"), (0, u "copyOfRange"), (0, u "([BII)[B"), (47, .class_ 109), (1, u "java/lang/StringLatin1"), (32, u "()Z"), (34, .methodref 42 178), (0, .nameAndType 45 179), (0, u "([CII)[B"), (13, .class_ 195), (1, u "java/lang/System"), (13, .methodref 10 210), (0, .nameAndType 5 211), (0, u "([BB)V"), (0, .methodref 193 213), (0, .nameAndType 214 215), (0, u "arraycopy"), (0, u "(Ljava/lang/Object;ILjava/lang/Object;II)V"), (118, u "()I"), (0, .methodref 10 336), (0, .nameAndType 17 337), (0, u "()B"), (2, u "()[B"), (22, u "([BI)C"), (5, u "(C)Z"), (21, u "(II)V"), (35, u "(I)C"), (61, .methodref 10 490), (0, .nameAndType 5 491), (0, u "(Ljava/lang/AbstractStringBuilder;Ljava/lang/Void;)V"), (0, .methodref 10 493), (0, .nameAndType 494 142), (0, u "isLatin1"), (0, .methodref 107 496), (0, .nameAndType 497 363), (0, u "charAt"), (3, u "checkIndex"), (4, .nameAndType 507 334), (0, u "length"), (24, u "getBytes"), (16, .methodref 550 506), (0, .class_ 551), (0, u "java/lang/AbstractStringBuilder"), (0, .methodref 550 553), (0, .nameAndType 554 340), (0, u "getValue"), (20, .class_ 576), (0, u "java/lang/CharSequence"), (22, u "CASE_INSENSITIVE_ORDER"), (0, u "Ljava/util/Comparator;"), (181, u "valueOf"), (0, u "(C)Ljava/lang/String;"), (37, u "([BIB)V"), (188, u "([C)V"), (4, .methodref 107 1016), (0, .nameAndType 1017 369), (0, u "canEncode"), (0, .methodref 107 1019), (0, .nameAndType 53 1020), (0, u "(C)[B"), (26, .methodref 550 493), (5, .fieldref 1054 1055), (0, .class_ 1056), (0, .nameAndType 1057 1058), (0, u "jdk/internal/util/Preconditions"), (0, u "SIOOBE_FORMATTER"), (0, u "Ljava/util/function/BiFunction;"), (0, .methodref 1054 1060), (0, .nameAndType 501 1061), (0, u "(IILjava/util/function/BiFunction;)I"), (39, u "serialPersistentFields"), (0, u "[Ljava/io/ObjectStreamField;"), (0, .class_ 1104), (0, u "java/lang/String$CaseInsensitiveComparator"), (1, .class_ 1107), (0, u "java/io/Serializable"), (0, .class_ 1109), (0, u "java/lang/Comparable"), (0, .class_ 1111), (0, u "java/lang/constant/Constable"), (0, .class_ 1113), (0, u "java/lang/constant/ConstantDesc"), (2, u "serialVersionUID"), (0, u "J"), (3, u "REPL"), (0, u "C"), (2, u "LATIN1"), (1, u "UTF16"), (105, u "(Ljava/lang/StringBuilder;)V")] 217

def k7m0 : Method := { name := "<init>", desc := "()V", sig := { parameters := [], returnType := none }, accessFlags := 1, code := none }
def k7c1 : Code := { maxStack := 5, maxLocals := 2, code := jdk_42_method_3_code, exceptionTable := #[], attributes := #[] }
def k7m1 : Method := { name := "<init>", desc := "([C)V", sig := { parameters := [(.array .char)], returnType := none }, accessFlags := 1, code := some k7c1 }
def k7c2 : Code := { maxStack := 3, maxLocals := 2, code := jdk_42_method_53_code, exceptionTable := #[], attributes := #[] }
def k7m2 : Method := { name := "<init>", desc := "(Ljava/lang/StringBuilder;)V", sig := { parameters := [(.object "java/lang/StringBuilder")], returnType := none }, accessFlags := 1, code := some k7c2 }
def k7c3 : Code := { maxStack := 2, maxLocals := 1, code := jdk_42_method_54_code, exceptionTable := #[], attributes := #[] }
def k7m3 : Method := { name := "length", desc := "()I", sig := { parameters := [], returnType := some .int }, accessFlags := 1, code := some k7c3 }
def k7c4 : Code := { maxStack := 2, maxLocals := 2, code := jdk_42_method_56_code, exceptionTable := #[], attributes := #[] }
def k7m4 : Method := { name := "charAt", desc := "(I)C", sig := { parameters := [.int], returnType := some .char }, accessFlags := 1, code := some k7c4 }
def k7c5 : Code := { maxStack := 4, maxLocals := 1, code := jdk_42_method_139_code, exceptionTable := #[], attributes := #[] }
def k7m5 : Method := { name := "valueOf", desc := "(C)Ljava/lang/String;", sig := { parameters := [.char], returnType := some (.object "java/lang/String") }, accessFlags := 9, code := some k7c5 }
def k7c6 : Code := { maxStack := 5, maxLocals := 4, code := jdk_42_method_147_code, exceptionTable := #[], attributes := #[] }
def k7m6 : Method := { name := "getBytes", desc := "([BIB)V", sig := { parameters := [(.array .byte), .int, .byte], returnType := none }, accessFlags := 0, code := some k7c6 }
def k7c7 : Code := { maxStack := 4, maxLocals := 6, code := jdk_42_method_149_code, exceptionTable := #[], attributes := #[] }
def k7m7 : Method := { name := "<init>", desc := "([CIILjava/lang/Void;)V", sig := { parameters := [(.array .char), .int, .int, (.object "java/lang/Void")], returnType := none }, accessFlags := 2, code := some k7c7 }
def k7c8 : Code := { maxStack := 5, maxLocals := 5, code := jdk_42_method_150_code, exceptionTable := #[], attributes := #[] }
def k7m8 : Method := { name := "<init>", desc := "(Ljava/lang/AbstractStringBuilder;Ljava/lang/Void;)V", sig := { parameters := [(.object "java/lang/AbstractStringBuilder"), (.object "java/lang/Void")], returnType := none }, accessFlags := 0, code := some k7c8 }
def k7c9 : Code := { maxStack := 2, maxLocals := 3, code := jdk_42_method_151_code, exceptionTable := #[], attributes := #[] }
def k7m9 : Method := { name := "<init>", desc := "([BB)V", sig := { parameters := [(.array .byte), .byte], returnType := none }, accessFlags := 0, code := some k7c9 }
def k7c10 : Code := { maxStack := 1, maxLocals := 1, code := jdk_42_method_152_code, exceptionTable := #[], attributes := #[] }
def k7m10 : Method := { name := "coder", desc := "()B", sig := { parameters := [], returnType := some .byte }, accessFlags := 0, code := some k7c10 }
def k7c11 : Code := { maxStack := 1, maxLocals := 1, code := jdk_42_method_154_code, exceptionTable := #[], attributes := #[] }
def k7m11 : Method := { name := "isLatin1", desc := "()Z", sig := { parameters := [], returnType := some .boolean }, accessFlags := 0, code := some k7c11 }
def k7c12 : Code := { maxStack := 3, maxLocals := 2, code := jdk_42_method_155_code, exceptionTable := #[], attributes := #[] }
def k7m12 : Method := { name := "checkIndex", desc := "(II)V", sig := { parameters := [.int, .int], returnType := none }, accessFlags := 8, code := some k7c12 }
/-- java/lang/String -/
def k7 : Class := { plain "java/lang/String" (some 0) with
  accessFlags := 49
  interfaces := #[2, 3, 4, 5, 6]
  cf := some (fileOf pool7 10 #[.nestMembers #[1103]] #[{ accessFlags := 1, nameIndex := 5, descriptorIndex := 6, attributes := #[] }, { accessFlags := 1, nameIndex := 5, descriptorIndex := 1010, attributes := #[] }, { accessFlags := 1, nameIndex := 5, descriptorIndex := 1233, attributes := #[] }, { accessFlags := 1, nameIndex := 507, descriptorIndex := 334, attributes := #[] }, { accessFlags := 1, nameIndex := 497, descriptorIndex := 427, attributes := #[] }, { accessFlags := 9, nameIndex := 782, descriptorIndex := 783, attributes := #[] }, { accessFlags := 0, nameIndex := 532, descriptorIndex := 821, attributes := #[] }, { accessFlags := 2, nameIndex := 5, descriptorIndex := 29, attributes := #[] }, { accessFlags := 0, nameIndex := 5, descriptorIndex := 491, attributes := #[] }, { accessFlags := 0, nameIndex := 5, descriptorIndex := 211, attributes := #[] }, { accessFlags := 0, nameIndex := 17, descriptorIndex := 337, attributes := #[] }, { accessFlags := 0, nameIndex := 494, descriptorIndex := 142, attributes := #[] }, { accessFlags := 8, nameIndex := 501, descriptorIndex := 391, attributes := #[] }] 49 2 #[1106, 1108, 575, 1110, 1112] #[{ accessFlags := 18, nameIndex := 13, descriptorIndex := 14, attributes := #[] }, { accessFlags := 18, nameIndex := 17, descriptorIndex := 18, attributes := #[] }, { accessFlags := 2, nameIndex := 21, descriptorIndex := 22, attributes := #[] }, { accessFlags := 2, nameIndex := 25, descriptorIndex := 26, attributes := #[] }, { accessFlags := 26, nameIndex := 1116, descriptorIndex := 1117, attributes := #[] }, { accessFlags := 24, nameIndex := 40, descriptorIndex := 26, attributes := #[] }, { accessFlags := 26, nameIndex := 1101, descriptorIndex := 1102, attributes := #[] }, { accessFlags := 26, nameIndex := 1121, descriptorIndex := 1122, attributes := #[] }, { accessFlags := 25, nameIndex := 599, descriptorIndex := 600, attributes := #[] }, { accessFlags := 24, nameIndex := 1125, descriptorIndex := 18, attributes := #[] }, { accessFlags := 24, nameIndex := 1127, descriptorIndex := 18, attributes := #[] }])
  fields := #[{ name := "value", type := (.array .byte), accessFlags := 18, slot := 0, constantValue := 0 }, { name := "coder", type := .byte, accessFlags := 18, slot := 1, constantValue := 0 }, { name := "hash", type := .int, accessFlags := 2, slot := 2, constantValue := 0 }, { name := "hashIsZero", type := .boolean, accessFlags := 2, slot := 3, constantValue := 0 }, { name := "serialVersionUID", type := .long, accessFlags := 26, slot := 0, constantValue := 0 }, { name := "COMPACT_STRINGS", type := .boolean, accessFlags := 24, slot := 1, constantValue := 0 }, { name := "serialPersistentFields", type := (.array (.object "java/io/ObjectStreamField")), accessFlags := 26, slot := 2, constantValue := 0 }, { name := "REPL", type := .char, accessFlags := 26, slot := 3, constantValue := 0 }, { name := "CASE_INSENSITIVE_ORDER", type := (.object "java/util/Comparator"), accessFlags := 25, slot := 4, constantValue := 0 }, { name := "LATIN1", type := .byte, accessFlags := 24, slot := 5, constantValue := 0 }, { name := "UTF16", type := .byte, accessFlags := 24, slot := 6, constantValue := 0 }]
  methods := #[k7m0, k7m1, k7m2, k7m3, k7m4, k7m5, k7m6, k7m7, k7m8, k7m9, k7m10, k7m11, k7m12]
  instanceTypes := #[(.array .byte), .byte, .int, .boolean]
  staticTypes := #[.long, .boolean, (.array (.object "java/io/ObjectStreamField")), .char, (.object "java/util/Comparator"), .byte, .byte]
  resolved := Array.replicate 1451 none
  statics := some 0 }

def pool8 : Array CpInfo := pool [(1, .methodref 2 3), (0, .class_ 4), (0, .nameAndType 5 6), (0, u "java/lang/Object"), (0, u "<init>"), (0, u "()V"), (0, .fieldref 8 9), (0, .class_ 10), (0, .nameAndType 11 12), (0, u "java/lang/Throwable"), (0, u "cause"), (0, u "Ljava/lang/Throwable;"), (0, .fieldref 8 14), (0, .nameAndType 15 16), (0, u "UNASSIGNED_STACK"), (0, u "[Ljava/lang/StackTraceElement;"), (0, .fieldref 8 18), (0, .nameAndType 19 16), (0, u "stackTrace"), (0, .fieldref 8 21), (0, .nameAndType 22 23), (0, u "SUPPRESSED_SENTINEL"), (0, u "Ljava/util/List;"), (0, .fieldref 8 25), (0, .nameAndType 26 23), (0, u "suppressedExceptions"), (0, .methodref 8 28), (0, .nameAndType 29 30), (0, u "fillInStackTrace"), (0, u "()Ljava/lang/Throwable;"), (0, .fieldref 8 32), (0, .nameAndType 33 34), (0, u "detailMessage"), (0, u "Ljava/lang/String;"), (3, u "()Ljava/lang/String;"), (2, u "getMessage"), (51, .class_ 94), (0, u "java/lang/Throwable$WrappedPrintStream"), (6, .class_ 103), (1, u "java/lang/Throwable$PrintStreamOrWriter"), (61, u "$assertionsDisabled"), (0, u "Z"), (26, .class_ 194), (0, u "java/lang/Throwable$WrappedPrintWriter"), (3, .fieldref 8 199), (0, .nameAndType 200 201), (0, u "backtrace"), (0, u "Ljava/lang/Object;"), (0, .methodref 8 203), (0, .nameAndType 29 204), (0, u "(I)Ljava/lang/Throwable;"), (6, u "depth"), (0, u "I"), (10, u "(Ljava/lang/String;)V"), (45, .class_ 271), (1, u "java/lang/Throwable$SentinelHolder"), (32, u "EMPTY_THROWABLE_ARRAY"), (0, u "[Ljava/lang/Throwable;"), (12, .class_ 319), (0, u "java/io/Serializable"), (0, u "serialVersionUID"), (0, u "J"), (5, u "NULL_CAUSE_MESSAGE"), (0, u "SELF_SUPPRESSION_MESSAGE"), (0, u "CAUSE_CAPTION"), (0, u "SUPPRESSED_CAPTION")] 73

def k8c0 : Code := { maxStack := 2, maxLocals := 1, code := jdk_78_method_1_code, exceptionTable := #[], attributes := #[] }
def k8m0 : Method := { name := "<init>", desc := "()V", sig := { parameters := [], returnType := none }, accessFlags := 1, code := some k8c0 }
def k8c1 : Code := { maxStack := 2, maxLocals := 2, code := jdk_78_method_2_code, exceptionTable := #[], attributes := #[] }
def k8m1 : Method := { name := "<init>", desc := "(Ljava/lang/String;)V", sig := { parameters := [(.object "java/lang/String")], returnType := none }, accessFlags := 1, code := some k8c1 }
def k8c2 : Code := { maxStack := 1, maxLocals := 1, code := jdk_78_method_6_code, exceptionTable := #[], attributes := #[] }
def k8m2 : Method := { name := "getMessage", desc := "()Ljava/lang/String;", sig := { parameters := [], returnType := some (.object "java/lang/String") }, accessFlags := 1, code := some k8c2 }
def k8c3 : Code := { maxStack := 2, maxLocals := 1, code := ⟨#[0x2a, 0xb4, 0x00, 0x11, 0xc7, 0x00, 0x0a, 0x2a, 0xb4, 0x00, 0xc6, 0xc6, 0x00, 0x10, 0x2a, 0x03, 0xb6, 0x00, 0xca, 0x57, 0x2a, 0xb2, 0x00, 0x0d, 0xb5, 0x00, 0x11, 0x2a, 0xb0]⟩, exceptionTable := #[], attributes := #[] }
def k8m3 : Method := { name := "fillInStackTrace", desc := "()Ljava/lang/Throwable;", sig := { parameters := [], returnType := some (.object "java/lang/Throwable") }, accessFlags := 33, code := some k8c3 }
def k8m4 : Method := { name := "fillInStackTrace", desc := "(I)Ljava/lang/Throwable;", sig := { parameters := [.int], returnType := some (.object "java/lang/Throwable") }, accessFlags := 258, code := none }
/-- java/lang/Throwable -/
def k8 : Class := { plain "java/lang/Throwable" (some 0) with
  accessFlags := 33
  interfaces := #[2]
  cf := some (fileOf pool8 8 #[.nestMembers #[193, 93, 101, 269]] #[{ accessFlags := 1, nameIndex := 5, descriptorIndex := 6, attributes := #[] }, { accessFlags := 1, nameIndex := 5, descriptorIndex := 223, attributes := #[] }, { accessFlags := 1, nameIndex := 41, descriptorIndex := 38, attributes := #[] }, { accessFlags := 33, nameIndex := 29, descriptorIndex := 30, attributes := #[] }, { accessFlags := 258, nameIndex := 29, descriptorIndex := 204, attributes := #[] }] 33 2 #[318] #[{ accessFlags := 26, nameIndex := 320, descriptorIndex := 321, attributes := #[] }, { accessFlags := 130, nameIndex := 200, descriptorIndex := 201, attributes := #[] }, { accessFlags := 2, nameIndex := 33, descriptorIndex := 34, attributes := #[] }, { accessFlags := 26, nameIndex := 15, descriptorIndex := 16, attributes := #[] }, { accessFlags := 2, nameIndex := 11, descriptorIndex := 12, attributes := #[] }, { accessFlags := 2, nameIndex := 19, descriptorIndex := 16, attributes := #[] }, { accessFlags := 130, nameIndex := 211, descriptorIndex := 212, attributes := #[] }, { accessFlags := 26, nameIndex := 22, descriptorIndex := 23, attributes := #[] }, { accessFlags := 2, nameIndex := 26, descriptorIndex := 23, attributes := #[] }, { accessFlags := 26, nameIndex := 327, descriptorIndex := 34, attributes := #[] }, { accessFlags := 26, nameIndex := 328, descriptorIndex := 34, attributes := #[] }, { accessFlags := 26, nameIndex := 329, descriptorIndex := 34, attributes := #[] }, { accessFlags := 26, nameIndex := 330, descriptorIndex := 34, attributes := #[] }, { accessFlags := 26, nameIndex := 304, descriptorIndex := 305, attributes := #[] }, { accessFlags := 4120, nameIndex := 165, descriptorIndex := 166, attributes := #[] }])
  fields := #[{ name := "serialVersionUID", type := .long, accessFlags := 26, slot := 0, constantValue := 0 }, { name := "backtrace", type := (.object "java/lang/Object"), accessFlags := 130, slot := 0, constantValue := 0 }, { name := "detailMessage", type := (.object "java/lang/String"), accessFlags := 2, slot := 1, constantValue := 0 }, { name := "UNASSIGNED_STACK", type := (.array (.object "java/lang/StackTraceElement")), accessFlags := 26, slot := 1, constantValue := 0 }, { name := "cause", type := (.object "java/lang/Throwable"), accessFlags := 2, slot := 2, constantValue := 0 }, { name := "stackTrace", type := (.array (.object "java/lang/StackTraceElement")), accessFlags := 2, slot := 3, constantValue := 0 }, { name := "depth", type := .int, accessFlags := 130, slot := 4, constantValue := 0 }, { name := "SUPPRESSED_SENTINEL", type := (.object "java/util/List"), accessFlags := 26, slot := 2, constantValue := 0 }, { name := "suppressedExceptions", type := (.object "java/util/List"), accessFlags := 2, slot := 5, constantValue := 0 }, { name := "NULL_CAUSE_MESSAGE", type := (.object "java/lang/String"), accessFlags := 26, slot := 3, constantValue := 0 }, { name := "SELF_SUPPRESSION_MESSAGE", type := (.object "java/lang/String"), accessFlags := 26, slot := 4, constantValue := 0 }, { name := "CAUSE_CAPTION", type := (.object "java/lang/String"), accessFlags := 26, slot := 5, constantValue := 0 }, { name := "SUPPRESSED_CAPTION", type := (.object "java/lang/String"), accessFlags := 26, slot := 6, constantValue := 0 }, { name := "EMPTY_THROWABLE_ARRAY", type := (.array (.object "java/lang/Throwable")), accessFlags := 26, slot := 7, constantValue := 0 }, { name := "$assertionsDisabled", type := .boolean, accessFlags := 4120, slot := 8, constantValue := 0 }]
  methods := #[k8m0, k8m1, k8m2, k8m3, k8m4]
  instanceTypes := #[(.object "java/lang/Object"), (.object "java/lang/String"), (.object "java/lang/Throwable"), (.array (.object "java/lang/StackTraceElement")), .int, (.object "java/util/List")]
  staticTypes := #[.long, (.array (.object "java/lang/StackTraceElement")), (.object "java/util/List"), (.object "java/lang/String"), (.object "java/lang/String"), (.object "java/lang/String"), (.object "java/lang/String"), (.array (.object "java/lang/Throwable")), .boolean]
  resolved := Array.replicate 404 none
  statics := some 1 }

def pool9 : Array CpInfo := pool [(2, .class_ 4), (1, u "java/lang/Throwable"), (0, u "<init>"), (0, u "()V"), (0, .methodref 2 8), (0, .nameAndType 5 9), (0, u "(Ljava/lang/String;)V"), (9, .class_ 20), (0, u "java/lang/Exception"), (0, u "serialVersionUID"), (0, u "J")] 17

def k9m0 : Method := { name := "<init>", desc := "()V", sig := { parameters := [], returnType := none }, accessFlags := 1, code := none }
def k9c1 : Code := { maxStack := 2, maxLocals := 2, code := jdk_59_method_2_code, exceptionTable := #[], attributes := #[] }
def k9m1 : Method := { name := "<init>", desc := "(Ljava/lang/String;)V", sig := { parameters := [(.object "java/lang/String")], returnType := none }, accessFlags := 1, code := some k9c1 }
/-- java/lang/Exception -/
def k9 : Class := { plain "java/lang/Exception" (some 8) with
  accessFlags := 33
  interfaces := #[]
  cf := some (fileOf pool9 19 #[] #[{ accessFlags := 1, nameIndex := 5, descriptorIndex := 6, attributes := #[] }, { accessFlags := 1, nameIndex := 5, descriptorIndex := 9, attributes := #[] }] 33 2 #[] #[{ accessFlags := 24, nameIndex := 21, descriptorIndex := 22, attributes := #[] }])
  fields := #[{ name := "serialVersionUID", type := .long, accessFlags := 24, slot := 0, constantValue := 0 }]
  methods := #[k9m0, k9m1]
  instanceTypes := #[(.object "java/lang/Object"), (.object "java/lang/String"), (.object "java/lang/Throwable"), (.array (.object "java/lang/StackTraceElement")), .int, (.object "java/util/List")]
  staticTypes := #[.long]
  resolved := Array.replicate 40 none
  statics := none }

def pool10 : Array CpInfo := pool [(1, .methodref 2 3), (0, .class_ 4), (0, .nameAndType 5 6), (0, u "java/lang/Exception"), (0, u "<init>"), (0, u "(Ljava/lang/String;)V"), (0, .class_ 8), (0, u "com/example/proviso/proviso/InvalidInputException"), (0, .class_ 10), (0, u "java/lang/StringBuilder"), (0, .methodref 9 12), (0, .nameAndType 5 13), (0, u "()V"), (0, .methodref 9 15), (0, .nameAndType 16 17), (0, u "append"), (0, u "(Ljava/lang/String;)Ljava/lang/StringBuilder;"), (0, .string 19), (0, u " names the undeclared "), (0, .string 21), (0, u " \""), (0, .string 23), (0, u "\""), (0, .methodref 9 25), (0, .nameAndType 26 27), (0, u "toString"), (0, u "()Ljava/lang/String;"), (0, .methodref 7 3), (0, u "serialVersionUID"), (0, u "J"), (5, u "undeclared"), (0, u "(Ljava/lang/String;Ljava/lang/String;Ljava/lang/String;)Lcom/example/proviso/proviso/InvalidInputException;")] 2

def k10c0 : Code := { maxStack := 2, maxLocals := 2, code := prog_12_method_1_code, exceptionTable := #[], attributes := #[] }
def k10m0 : Method := { name := "<init>", desc := "(Ljava/lang/String;)V", sig := { parameters := [(.object "java/lang/String")], returnType := none }, accessFlags := 1, code := some k10c0 }
def k10c1 : Code := { maxStack := 4, maxLocals := 3, code := prog_12_method_2_code, exceptionTable := #[], attributes := #[] }
def k10m1 : Method := { name := "undeclared", desc := "(Ljava/lang/String;Ljava/lang/String;Ljava/lang/String;)Lcom/example/proviso/proviso/InvalidInputException;", sig := { parameters := [(.object "java/lang/String"), (.object "java/lang/String"), (.object "java/lang/String")], returnType := some (.object "com/example/proviso/proviso/InvalidInputException") }, accessFlags := 8, code := some k10c1 }
/-- com/example/proviso/proviso/InvalidInputException -/
def k10 : Class := { plain "com/example/proviso/proviso/InvalidInputException" (some 9) with
  accessFlags := 33
  interfaces := #[]
  cf := some (fileOf pool10 7 #[] #[{ accessFlags := 1, nameIndex := 5, descriptorIndex := 6, attributes := #[] }, { accessFlags := 8, nameIndex := 36, descriptorIndex := 37, attributes := #[] }] 33 2 #[] #[{ accessFlags := 26, nameIndex := 29, descriptorIndex := 30, attributes := #[] }])
  fields := #[{ name := "serialVersionUID", type := .long, accessFlags := 26, slot := 0, constantValue := 0 }]
  methods := #[k10m0, k10m1]
  instanceTypes := #[(.object "java/lang/Object"), (.object "java/lang/String"), (.object "java/lang/Throwable"), (.array (.object "java/lang/StackTraceElement")), .int, (.object "java/util/List")]
  staticTypes := #[.long]
  resolved := Array.replicate 40 none
  statics := none }

def pool11 : Array CpInfo := pool [(1, .class_ 2), (0, u "java/lang/Appendable"), (0, .class_ 4), (0, u "java/lang/Object")] 9

/-- java/lang/Appendable -/
def k11 : Class := { plain "java/lang/Appendable" (some 0) with
  accessFlags := 1537
  interfaces := #[]
  cf := some (fileOf pool11 1 #[] #[] 1537 3 #[] #[])
  fields := #[]
  methods := #[]
  instanceTypes := #[]
  staticTypes := #[]
  resolved := Array.replicate 14 none
  statics := none }

def pool12 : Array CpInfo := pool [(1, .class_ 2), (0, u "java/lang/String"), (0, .methodref 4 5), (0, .class_ 6), (0, .nameAndType 7 8), (0, u "java/lang/Object"), (0, u "<init>"), (0, u "()V"), (1, .class_ 12), (1, u "java/lang/AbstractStringBuilder"), (0, u "EMPTYVALUE"), (0, u "[B"), (0, .fieldref 10 16), (0, .nameAndType 17 14), (0, u "value"), (0, .fieldref 1 19), (0, .nameAndType 20 21), (0, u "COMPACT_STRINGS"), (0, u "Z"), (0, .fieldref 10 23), (0, .nameAndType 24 25), (0, u "coder"), (0, u "B"), (6, .methodref 1 33), (0, .nameAndType 34 35), (0, u "length"), (0, u "()I"), (3, .integer 2147483647), (0, .methodref 1 41), (0, .nameAndType 24 42), (0, u "()B"), (2, u "append"), (0, u "(Ljava/lang/String;)Ljava/lang/AbstractStringBuilder;"), (1, .class_ 49), (0, u "java/lang/CharSequence"), (19, u "(Ljava/lang/String;)V"), (5, u "maybeLatin1"), (3, .fieldref 10 80), (0, .nameAndType 81 82), (0, u "count"), (0, u "I"), (2, u "isLatin1"), (0, u "()Z"), (13, .methodref 10 101), (0, .nameAndType 102 103), (0, u "ensureCapacityInternal"), (0, u "(I)V"), (0, .methodref 10 105), (0, .nameAndType 106 107), (0, u "newCapacity"), (0, u "(I)I"), (0, .methodref 109 110), (0, .class_ 111), (0, .nameAndType 112 113), (0, u "java/util/Arrays"), (0, u "copyOf"), (0, u "([BI)[B"), (0, .methodref 115 116), (0, .class_ 117), (0, .nameAndType 118 119), (0, u "jdk/internal/util/ArraysSupport"), (0, u "newLength"), (0, u "(III)I"), (88, .methodref 10 209), (0, .nameAndType 210 211), (0, u "putStringAt"), (0, u "(ILjava/lang/String;)V"), (5, u "inflateIfNeededFor"), (2, .nameAndType 221 222), (0, u "getBytes"), (0, u "([BIB)V"), (174, .methodref 10 398), (0, .nameAndType 217 69), (0, .methodref 1 220), (3, u "()[B"), (40, .class_ 445), (0, u "java/lang/Appendable"), (106, u "getValue")] 56

def k12m0 : Method := { name := "<init>", desc := "()V", sig := { parameters := [], returnType := none }, accessFlags := 0, code := none }
def k12c1 : Code := { maxStack := 2, maxLocals := 2, code := jdk_68_method_2_code, exceptionTable := #[], attributes := #[] }
def k12m1 : Method := { name := "<init>", desc := "(I)V", sig := { parameters := [.int], returnType := none }, accessFlags := 0, code := some k12c1 }
def k12c2 : Code := { maxStack := 1, maxLocals := 1, code := jdk_68_method_6_code, exceptionTable := #[], attributes := #[] }
def k12m2 : Method := { name := "length", desc := "()I", sig := { parameters := [], returnType := some .int }, accessFlags := 1, code := some k12c2 }
def k12c3 : Code := { maxStack := 4, maxLocals := 3, code := jdk_68_method_9_code, exceptionTable := #[], attributes := #[] }
def k12m3 : Method := { name := "ensureCapacityInternal", desc := "(I)V", sig := { parameters := [.int], returnType := none }, accessFlags := 2, code := some k12c3 }
def k12c4 : Code := { maxStack := 5, maxLocals := 6, code := jdk_68_method_10_code, exceptionTable := #[], attributes := #[] }
def k12m4 : Method := { name := "newCapacity", desc := "(I)I", sig := { parameters := [.int], returnType := some .int }, accessFlags := 2, code := some k12c4 }
def k12c5 : Code := { maxStack := 3, maxLocals := 3, code := jdk_68_method_22_code, exceptionTable := #[], attributes := #[] }
def k12m5 : Method := { name := "append", desc := "(Ljava/lang/String;)Ljava/lang/AbstractStringBuilder;", sig := { parameters := [(.object "java/lang/String")], returnType := some (.object "java/lang/AbstractStringBuilder") }, accessFlags := 1, code := some k12c5 }
def k12c6 : Code := { maxStack := 1, maxLocals := 1, code := jdk_68_method_64_code, exceptionTable := #[], attributes := #[] }
def k12m6 : Method := { name := "getValue", desc := "()[B", sig := { parameters := [], returnType := some (.array .byte) }, accessFlags := 16, code := some k12c6 }
def k12c7 : Code := { maxStack := 1, maxLocals := 1, code := jdk_68_method_68_code, exceptionTable := #[], attributes := #[] }
def k12m7 : Method := { name := "isLatin1", desc := "()Z", sig := { parameters := [], returnType := some .boolean }, accessFlags := 16, code := some k12c7 }
def k12c8 : Code := { maxStack := 2, maxLocals := 2, code := jdk_68_method_71_code, exceptionTable := #[], attributes := #[] }
def k12m8 : Method := { name := "inflateIfNeededFor", desc := "(Ljava/lang/String;)V", sig := { parameters := [(.object "java/lang/String")], returnType := none }, accessFlags := 2, code := some k12c8 }
def k12c9 : Code := { maxStack := 4, maxLocals := 3, code := jdk_68_method_73_code, exceptionTable := #[], attributes := #[] }
def k12m9 : Method := { name := "putStringAt", desc := "(ILjava/lang/String;)V", sig := { parameters := [.int, (.object "java/lang/String")], returnType := none }, accessFlags := 2, code := some k12c9 }
/-- java/lang/AbstractStringBuilder -/
def k12 : Class := { plain "java/lang/AbstractStringBuilder" (some 0) with
  accessFlags := 1056
  interfaces := #[11, 4]
  cf := some (fileOf pool12 10 #[] #[{ accessFlags := 0, nameIndex := 7, descriptorIndex := 8, attributes := #[] }, { accessFlags := 0, nameIndex := 7, descriptorIndex := 103, attributes := #[] }, { accessFlags := 1, nameIndex := 34, descriptorIndex := 35, attributes := #[] }, { accessFlags := 2, nameIndex := 102, descriptorIndex := 103, attributes := #[] }, { accessFlags := 2, nameIndex := 106, descriptorIndex := 107, attributes := #[] }, { accessFlags := 1, nameIndex := 45, descriptorIndex := 46, attributes := #[] }, { accessFlags := 16, nameIndex := 552, descriptorIndex := 403, attributes := #[] }, { accessFlags := 16, nameIndex := 85, descriptorIndex := 86, attributes := #[] }, { accessFlags := 2, nameIndex := 217, descriptorIndex := 69, attributes := #[] }, { accessFlags := 2, nameIndex := 210, descriptorIndex := 211, attributes := #[] }] 1056 4 #[444, 48] #[{ accessFlags := 0, nameIndex := 17, descriptorIndex := 14, attributes := #[] }, { accessFlags := 0, nameIndex := 24, descriptorIndex := 25, attributes := #[] }, { accessFlags := 0, nameIndex := 75, descriptorIndex := 21, attributes := #[] }, { accessFlags := 0, nameIndex := 81, descriptorIndex := 82, attributes := #[] }, { accessFlags := 26, nameIndex := 13, descriptorIndex := 14, attributes := #[] }])
  fields := #[{ name := "value", type := (.array .byte), accessFlags := 0, slot := 0, constantValue := 0 }, { name := "coder", type := .byte, accessFlags := 0, slot := 1, constantValue := 0 }, { name := "maybeLatin1", type := .boolean, accessFlags := 0, slot := 2, constantValue := 0 }, { name := "count", type := .int, accessFlags := 0, slot := 3, constantValue := 0 }, { name := "EMPTYVALUE", type := (.array .byte), accessFlags := 26, slot := 0, constantValue := 0 }]
  methods := #[k12m0, k12m1, k12m2, k12m3, k12m4, k12m5, k12m6, k12m7, k12m8, k12m9]
  instanceTypes := #[(.array .byte), .byte, .boolean, .int]
  staticTypes := #[(.array .byte)]
  resolved := Array.replicate 609 none
  statics := none }

def pool13 : Array CpInfo := pool [(1, .methodref 2 3), (0, .class_ 4), (0, .nameAndType 5 6), (0, u "java/lang/AbstractStringBuilder"), (0, u "<init>"), (0, u "(I)V"), (11, .class_ 20), (1, u "java/lang/String"), (3, .class_ 26), (1, u "java/lang/StringBuilder"), (0, u "append"), (0, u "(Ljava/lang/String;)Ljava/lang/StringBuilder;"), (0, .methodref 2 30), (0, .nameAndType 27 31), (0, u "(Ljava/lang/String;)Ljava/lang/AbstractStringBuilder;"), (105, .methodref 18 138), (0, .nameAndType 5 139), (0, u "(Ljava/lang/StringBuilder;)V"), (5, u "()V"), (10, u "()I"), (186, .methodref 2 344), (0, .nameAndType 345 156), (0, u "length"), (3, .class_ 350), (0, u "java/lang/Appendable"), (0, .class_ 352), (0, u "java/io/Serializable"), (0, .class_ 354), (0, u "java/lang/Comparable"), (0, .class_ 356), (0, u "java/lang/CharSequence"), (0, u "serialVersionUID"), (0, u "J"), (40, u "toString"), (0, u "()Ljava/lang/String;")] 21

def k13c0 : Code := { maxStack := 2, maxLocals := 1, code := jdk_67_method_1_code, exceptionTable := #[], attributes := #[] }
def k13m0 : Method := { name := "<init>", desc := "()V", sig := { parameters := [], returnType := none }, accessFlags := 1, code := some k13c0 }
def k13c1 : Code := { maxStack := 2, maxLocals := 2, code := jdk_67_method_7_code, exceptionTable := #[], attributes := #[] }
def k13m1 : Method := { name := "append", desc := "(Ljava/lang/String;)Ljava/lang/StringBuilder;", sig := { parameters := [(.object "java/lang/String")], returnType := some (.object "java/lang/StringBuilder") }, accessFlags := 1, code := some k13c1 }
def k13c2 : Code := { maxStack := 3, maxLocals := 1, code := jdk_67_method_42_code, exceptionTable := #[], attributes := #[] }
def k13m2 : Method := { name := "toString", desc := "()Ljava/lang/String;", sig := { parameters := [], returnType := some (.object "java/lang/String") }, accessFlags := 1, code := some k13c2 }
def k13c3 : Code := { maxStack := 1, maxLocals := 1, code := jdk_67_method_93_code, exceptionTable := #[], attributes := #[] }
def k13m3 : Method := { name := "length", desc := "()I", sig := { parameters := [], returnType := some .int }, accessFlags := 4161, code := some k13c3 }
/-- java/lang/StringBuilder -/
def k13 : Class := { plain "java/lang/StringBuilder" (some 12) with
  accessFlags := 49
  interfaces := #[11, 2, 3, 4]
  cf := some (fileOf pool13 24 #[] #[{ accessFlags := 1, nameIndex := 5, descriptorIndex := 145, attributes := #[] }, { accessFlags := 1, nameIndex := 27, descriptorIndex := 28, attributes := #[] }, { accessFlags := 1, nameIndex := 399, descriptorIndex := 400, attributes := #[] }, { accessFlags := 4161, nameIndex := 345, descriptorIndex := 156, attributes := #[] }] 49 2 #[349, 351, 353, 355] #[{ accessFlags := 24, nameIndex := 357, descriptorIndex := 358, attributes := #[] }])
  fields := #[{ name := "serialVersionUID", type := .long, accessFlags := 24, slot := 0, constantValue := 0 }]
  methods := #[k13m0, k13m1, k13m2, k13m3]
  instanceTypes := #[(.array .byte), .byte, .boolean, .int]
  staticTypes := #[.long]
  resolved := Array.replicate 422 none
  statics := none }

def pool14 : Array CpInfo := pool [(2, .class_ 4), (1, u "java/lang/Object"), (0, u "<init>"), (0, u "()V"), (1, .class_ 10), (1, u "java/lang/System"), (0, u "allowSecurityManager"), (0, u "I"), (16, u "cons"), (0, u "Ljava/io/Console;"), (77, .class_ 110), (1, u "java/lang/System$CallersHolder"), (43, u "initialErrStream"), (0, u "Ljava/io/PrintStream;"), (19, u "security"), (0, u "Ljava/lang/SecurityManager;"), (31, .class_ 209), (0, u "java/lang/System$1"), (7, u "props"), (0, u "Ljava/util/Properties;"), (2, u "lineSeparator"), (0, u "Ljava/lang/String;"), (96, .class_ 321), (1, u "java/lang/System$LoggerFinder"), (5, .class_ 328), (0, u "java/lang/System$Logger"), (67, u "err"), (2, u "out"), (91, u "notSupportedJnuEncoding"), (15, u "in"), (17, u "initialIn"), (0, u "Ljava/io/InputStream;"), (35, u "bootLayer"), (0, u "Ljava/lang/ModuleLayer;"), (99, .class_ 664), (0, u "java/lang/System$2"), (9, u "NEVER"), (2, u "MAYBE"), (49, u "arraycopy"), (0, u "(Ljava/lang/Object;ILjava/lang/Object;II)V"), (72, .class_ 802), (0, u "java/lang/System$Logger$Level")] 31

def k14m0 : Method := { name := "<init>", desc := "()V", sig := { parameters := [], returnType := none }, accessFlags := 2, code := none }
def k14m1 : Method := { name := "arraycopy", desc := "(Ljava/lang/Object;ILjava/lang/Object;II)V", sig := { parameters := [(.object "java/lang/Object"), .int, (.object "java/lang/Object"), .int, .int], returnType := none }, accessFlags := 265, code := none }
/-- java/lang/System -/
def k14 : Class := { plain "java/lang/System" (some 0) with
  accessFlags := 49
  interfaces := #[]
  cf := some (fileOf pool14 8 #[.nestMembers #[319, 327, 801, 108, 663, 208]] #[{ accessFlags := 2, nameIndex := 5, descriptorIndex := 6, attributes := #[] }, { accessFlags := 265, nameIndex := 727, descriptorIndex := 728, attributes := #[] }] 49 2 #[] #[{ accessFlags := 25, nameIndex := 507, descriptorIndex := 526, attributes := #[] }, { accessFlags := 25, nameIndex := 399, descriptorIndex := 155, attributes := #[] }, { accessFlags := 25, nameIndex := 396, descriptorIndex := 155, attributes := #[] }, { accessFlags := 10, nameIndex := 525, descriptorIndex := 526, attributes := #[] }, { accessFlags := 26, nameIndex := 674, descriptorIndex := 12, attributes := #[] }, { accessFlags := 26, nameIndex := 677, descriptorIndex := 12, attributes := #[] }, { accessFlags := 10, nameIndex := 11, descriptorIndex := 12, attributes := #[] }, { accessFlags := 74, nameIndex := 175, descriptorIndex := 176, attributes := #[] }, { accessFlags := 10, nameIndex := 491, descriptorIndex := 222, attributes := #[] }, { accessFlags := 74, nameIndex := 29, descriptorIndex := 30, attributes := #[] }, { accessFlags := 74, nameIndex := 154, descriptorIndex := 155, attributes := #[] }, { accessFlags := 10, nameIndex := 217, descriptorIndex := 218, attributes := #[] }, { accessFlags := 10, nameIndex := 221, descriptorIndex := 222, attributes := #[] }, { accessFlags := 8, nameIndex := 562, descriptorIndex := 563, attributes := #[] }])
  fields := #[{ name := "in", type := (.object "java/io/InputStream"), accessFlags := 25, slot := 0, constantValue := 0 }, { name := "out", type := (.object "java/io/PrintStream"), accessFlags := 25, slot := 1, constantValue := 0 }, { name := "err", type := (.object "java/io/PrintStream"), accessFlags := 25, slot := 2, constantValue := 0 }, { name := "initialIn", type := (.object "java/io/InputStream"), accessFlags := 10, slot := 3, constantValue := 0 }, { name := "NEVER", type := .int, accessFlags := 26, slot := 4, constantValue := 0 }, { name := "MAYBE", type := .int, accessFlags := 26, slot := 5, constantValue := 0 }, { name := "allowSecurityManager", type := .int, accessFlags := 10, slot := 6, constantValue := 0 }, { name := "security", type := (.object "java/lang/SecurityManager"), accessFlags := 74, slot := 7, constantValue := 0 }, { name := "notSupportedJnuEncoding", type := (.object "java/lang/String"), accessFlags := 10, slot := 8, constantValue := 0 }, { name := "cons", type := (.object "java/io/Console"), accessFlags := 74, slot := 9, constantValue := 0 }, { name := "initialErrStream", type := (.object "java/io/PrintStream"), accessFlags := 74, slot := 10, constantValue := 0 }, { name := "props", type := (.object "java/util/Properties"), accessFlags := 10, slot := 11, constantValue := 0 }, { name := "lineSeparator", type := (.object "java/lang/String"), accessFlags := 10, slot := 12, constantValue := 0 }, { name := "bootLayer", type := (.object "java/lang/ModuleLayer"), accessFlags := 8, slot := 13, constantValue := 0 }]
  methods := #[k14m0, k14m1]
  instanceTypes := #[]
  staticTypes := #[(.object "java/io/InputStream"), (.object "java/io/PrintStream"), (.object "java/io/PrintStream"), (.object "java/io/InputStream"), .int, .int, .int, (.object "java/lang/SecurityManager"), (.object "java/lang/String"), (.object "java/io/Console"), (.object "java/io/PrintStream"), (.object "java/util/Properties"), (.object "java/lang/String"), (.object "java/lang/ModuleLayer")]
  resolved := Array.replicate 834 none
  statics := none }

def pool15 : Array CpInfo := pool [(9, u "<init>"), (6, .class_ 18), (1, u "java/lang/Object"), (0, u "()V"), (1, .class_ 23), (1, u "jdk/internal/util/ArraysSupport"), (0, u "LOG2_ARRAY_LONG_INDEX_SCALE"), (0, u "I"), (2, u "U"), (0, u "Ljdk/internal/misc/Unsafe;"), (8, u "BIG_ENDIAN"), (0, u "Z"), (8, u "LOG2_BYTE_BIT_SIZE"), (4, u "LOG2_ARRAY_INT_INDEX_SCALE"), (54, u "JLA"), (0, u "Ljdk/internal/access/JavaLangAccess;"), (11, u "LOG2_ARRAY_BOOLEAN_INDEX_SCALE"), (9, u "LOG2_ARRAY_BYTE_INDEX_SCALE"), (5, u "LOG2_ARRAY_CHAR_INDEX_SCALE"), (5, u "LOG2_ARRAY_SHORT_INDEX_SCALE"), (18, u "LOG2_ARRAY_FLOAT_INDEX_SCALE"), (24, u "LOG2_ARRAY_DOUBLE_INDEX_SCALE"), (6, .methodref 195 196), (0, .class_ 197), (0, .nameAndType 198 199), (0, u "java/lang/Math"), (0, u "max"), (0, u "(II)I"), (0, .integer 2147483639), (76, u "T_BOOLEAN"), (2, u "T_CHAR"), (1, u "T_FLOAT"), (1, u "T_DOUBLE"), (1, u "T_BYTE"), (1, u "T_SHORT"), (1, u "T_INT"), (1, u "T_LONG"), (1, u "SOFT_MAX_ARRAY_LENGTH"), (56, u "newLength"), (0, u "(III)I")] 25

def k15m0 : Method := { name := "<init>", desc := "()V", sig := { parameters := [], returnType := none }, accessFlags := 2, code := none }
def k15c1 : Code := { maxStack := 3, maxLocals := 4, code := jdk_48_method_27_code, exceptionTable := #[], attributes := #[] }
def k15m1 : Method := { name := "newLength", desc := "(III)I", sig := { parameters := [.int, .int, .int], returnType := some .int }, accessFlags := 9, code := some k15c1 }
/-- jdk/internal/util/ArraysSupport -/
def k15 : Class := { plain "jdk/internal/util/ArraysSupport" (some 0) with
  accessFlags := 33
  interfaces := #[]
  cf := some (fileOf pool15 21 #[] #[{ accessFlags := 2, nameIndex := 9, descriptorIndex := 19, attributes := #[] }, { accessFlags := 9, nameIndex := 351, descriptorIndex := 352, attributes := #[] }] 33 16 #[] #[{ accessFlags := 24, nameIndex := 28, descriptorIndex := 29, attributes := #[] }, { accessFlags := 26, nameIndex := 38, descriptorIndex := 39, attributes := #[] }, { accessFlags := 25, nameIndex := 121, descriptorIndex := 25, attributes := #[] }, { accessFlags := 25, nameIndex := 131, descriptorIndex := 25, attributes := #[] }, { accessFlags := 25, nameIndex := 137, descriptorIndex := 25, attributes := #[] }, { accessFlags := 25, nameIndex := 143, descriptorIndex := 25, attributes := #[] }, { accessFlags := 25, nameIndex := 53, descriptorIndex := 25, attributes := #[] }, { accessFlags := 25, nameIndex := 24, descriptorIndex := 25, attributes := #[] }, { accessFlags := 25, nameIndex := 162, descriptorIndex := 25, attributes := #[] }, { accessFlags := 25, nameIndex := 187, descriptorIndex := 25, attributes := #[] }, { accessFlags := 26, nameIndex := 48, descriptorIndex := 25, attributes := #[] }, { accessFlags := 25, nameIndex := 277, descriptorIndex := 25, attributes := #[] }, { accessFlags := 25, nameIndex := 280, descriptorIndex := 25, attributes := #[] }, { accessFlags := 25, nameIndex := 282, descriptorIndex := 25, attributes := #[] }, { accessFlags := 25, nameIndex := 284, descriptorIndex := 25, attributes := #[] }, { accessFlags := 25, nameIndex := 286, descriptorIndex := 25, attributes := #[] }, { accessFlags := 25, nameIndex := 288, descriptorIndex := 25, attributes := #[] }, { accessFlags := 25, nameIndex := 290, descriptorIndex := 25, attributes := #[] }, { accessFlags := 25, nameIndex := 292, descriptorIndex := 25, attributes := #[] }, { accessFlags := 26, nameIndex := 108, descriptorIndex := 109, attributes := #[] }, { accessFlags := 25, nameIndex := 294, descriptorIndex := 25, attributes := #[] }])
  fields := #[{ name := "U", type := (.object "jdk/internal/misc/Unsafe"), accessFlags := 24, slot := 0, constantValue := 0 }, { name := "BIG_ENDIAN", type := .boolean, accessFlags := 26, slot := 1, constantValue := 0 }, { name := "LOG2_ARRAY_BOOLEAN_INDEX_SCALE", type := .int, accessFlags := 25, slot := 2, constantValue := 0 }, { name := "LOG2_ARRAY_BYTE_INDEX_SCALE", type := .int, accessFlags := 25, slot := 3, constantValue := 0 }, { name := "LOG2_ARRAY_CHAR_INDEX_SCALE", type := .int, accessFlags := 25, slot := 4, constantValue := 0 }, { name := "LOG2_ARRAY_SHORT_INDEX_SCALE", type := .int, accessFlags := 25, slot := 5, constantValue := 0 }, { name := "LOG2_ARRAY_INT_INDEX_SCALE", type := .int, accessFlags := 25, slot := 6, constantValue := 0 }, { name := "LOG2_ARRAY_LONG_INDEX_SCALE", type := .int, accessFlags := 25, slot := 7, constantValue := 0 }, { name := "LOG2_ARRAY_FLOAT_INDEX_SCALE", type := .int, accessFlags := 25, slot := 8, constantValue := 0 }, { name := "LOG2_ARRAY_DOUBLE_INDEX_SCALE", type := .int, accessFlags := 25, slot := 9, constantValue := 0 }, { name := "LOG2_BYTE_BIT_SIZE", type := .int, accessFlags := 26, slot := 10, constantValue := 0 }, { name := "T_BOOLEAN", type := .int, accessFlags := 25, slot := 11, constantValue := 0 }, { name := "T_CHAR", type := .int, accessFlags := 25, slot := 12, constantValue := 0 }, { name := "T_FLOAT", type := .int, accessFlags := 25, slot := 13, constantValue := 0 }, { name := "T_DOUBLE", type := .int, accessFlags := 25, slot := 14, constantValue := 0 }, { name := "T_BYTE", type := .int, accessFlags := 25, slot := 15, constantValue := 0 }, { name := "T_SHORT", type := .int, accessFlags := 25, slot := 16, constantValue := 0 }, { name := "T_INT", type := .int, accessFlags := 25, slot := 17, constantValue := 0 }, { name := "T_LONG", type := .int, accessFlags := 25, slot := 18, constantValue := 0 }, { name := "JLA", type := (.object "jdk/internal/access/JavaLangAccess"), accessFlags := 26, slot := 19, constantValue := 0 }, { name := "SOFT_MAX_ARRAY_LENGTH", type := .int, accessFlags := 25, slot := 20, constantValue := 0 }]
  methods := #[k15m0, k15m1]
  instanceTypes := #[]
  staticTypes := #[(.object "jdk/internal/misc/Unsafe"), .boolean, .int, .int, .int, .int, .int, .int, .int, .int, .int, .int, .int, .int, .int, .int, .int, .int, .int, (.object "jdk/internal/access/JavaLangAccess"), .int]
  resolved := Array.replicate 378 none
  statics := none }

def pool16 : Array CpInfo := pool [(1, .class_ 2), (0, u "java/lang/Math"), (1, .class_ 6), (1, u "java/lang/Object"), (0, u "<init>"), (0, u "()V"), (89, .class_ 100), (1, u "java/lang/Math$RandomNumberGeneratorHolder"), (71, u "negativeZeroFloatBits"), (0, u "J"), (2, u "negativeZeroDoubleBits"), (21, u "max"), (2, u "min"), (43, u "$assertionsDisabled"), (0, u "Z"), (88, u "(II)I"), (2, u "twoToTheDoubleScaleDown"), (0, u "D"), (4, u "twoToTheDoubleScaleUp"), (9, u "E"), (3, u "PI"), (2, u "TAU"), (2, u "DEGREES_TO_RADIANS"), (0, u "RADIANS_TO_DEGREES")] 94

def k16m0 : Method := { name := "<init>", desc := "()V", sig := { parameters := [], returnType := none }, accessFlags := 2, code := none }
def k16c1 : Code := { maxStack := 2, maxLocals := 2, code := jdk_29_method_65_code, exceptionTable := #[], attributes := #[] }
def k16m1 : Method := { name := "max", desc := "(II)I", sig := { parameters := [.int, .int], returnType := some .int }, accessFlags := 9, code := some k16c1 }
def k16c2 : Code := { maxStack := 2, maxLocals := 2, code := jdk_29_method_69_code, exceptionTable := #[], attributes := #[] }
def k16m2 : Method := { name := "min", desc := "(II)I", sig := { parameters := [.int, .int], returnType := some .int }, accessFlags := 9, code := some k16c2 }
/-- java/lang/Math -/
def k16 : Class := { plain "java/lang/Math" (some 0) with
  accessFlags := 49
  interfaces := #[]
  cf := some (fileOf pool16 1 #[.nestMembers #[98]] #[{ accessFlags := 2, nameIndex := 7, descriptorIndex := 8, attributes := #[] }, { accessFlags := 9, nameIndex := 198, descriptorIndex := 335, attributes := #[] }, { accessFlags := 9, nameIndex := 201, descriptorIndex := 335, attributes := #[] }] 49 4 #[] #[{ accessFlags := 25, nameIndex := 354, descriptorIndex := 339, attributes := #[] }, { accessFlags := 25, nameIndex := 358, descriptorIndex := 339, attributes := #[] }, { accessFlags := 25, nameIndex := 361, descriptorIndex := 339, attributes := #[] }, { accessFlags := 26, nameIndex := 364, descriptorIndex := 339, attributes := #[] }, { accessFlags := 26, nameIndex := 365, descriptorIndex := 339, attributes := #[] }, { accessFlags := 26, nameIndex := 172, descriptorIndex := 173, attributes := #[] }, { accessFlags := 26, nameIndex := 176, descriptorIndex := 173, attributes := #[] }, { accessFlags := 8, nameIndex := 344, descriptorIndex := 339, attributes := #[] }, { accessFlags := 8, nameIndex := 338, descriptorIndex := 339, attributes := #[] }, { accessFlags := 4120, nameIndex := 245, descriptorIndex := 246, attributes := #[] }])
  fields := #[{ name := "E", type := .double, accessFlags := 25, slot := 0, constantValue := 0 }, { name := "PI", type := .double, accessFlags := 25, slot := 1, constantValue := 0 }, { name := "TAU", type := .double, accessFlags := 25, slot := 2, constantValue := 0 }, { name := "DEGREES_TO_RADIANS", type := .double, accessFlags := 26, slot := 3, constantValue := 0 }, { name := "RADIANS_TO_DEGREES", type := .double, accessFlags := 26, slot := 4, constantValue := 0 }, { name := "negativeZeroFloatBits", type := .long, accessFlags := 26, slot := 5, constantValue := 0 }, { name := "negativeZeroDoubleBits", type := .long, accessFlags := 26, slot := 6, constantValue := 0 }, { name := "twoToTheDoubleScaleUp", type := .double, accessFlags := 8, slot := 7, constantValue := 0 }, { name := "twoToTheDoubleScaleDown", type := .double, accessFlags := 8, slot := 8, constantValue := 0 }, { name := "$assertionsDisabled", type := .boolean, accessFlags := 4120, slot := 9, constantValue := 0 }]
  methods := #[k16m0, k16m1, k16m2]
  instanceTypes := #[]
  staticTypes := #[.double, .double, .double, .double, .double, .long, .long, .double, .double, .boolean]
  resolved := Array.replicate 460 none
  statics := none }

def pool17 : Array CpInfo := pool [(2, .class_ 4), (1, u "java/lang/Object"), (0, u "<init>"), (0, u "()V"), (7, .class_ 16), (1, u "java/util/Arrays"), (57, .class_ 76), (1, u "java/util/Arrays$NaturalOrder"), (36, .class_ 115), (1, u "java/util/Arrays$LegacyMergeSort"), (1, u "Z"), (21, u "copyOfRange"), (10, .methodref 151 152), (0, .class_ 153), (0, .nameAndType 154 155), (0, u "java/lang/System"), (0, u "arraycopy"), (0, u "(Ljava/lang/Object;ILjava/lang/Object;II)V"), (146, u "copyOf"), (1, .methodref 305 306), (0, .class_ 307), (0, .nameAndType 308 309), (0, u "java/lang/Math"), (0, u "min"), (0, u "(II)I"), (29, .methodref 14 340), (0, .nameAndType 341 342), (0, u "copyOfRangeByte"), (0, u "([BII)[B"), (0, .methodref 14 344), (0, .nameAndType 345 346), (0, u "checkLength"), (0, u "(II)V"), (28, .class_ 376), (0, u "java/util/Arrays$ArrayList"), (68, u "$assertionsDisabled"), (269, u "MIN_ARRAY_SORT_GRAN"), (0, u "I"), (2, u "INSERTIONSORT_THRESHOLD"), (149, u "([BI)[B"), (105, .class_ 976), (0, u "java/util/Arrays$ArrayItr")] 52

def k17m0 : Method := { name := "<init>", desc := "()V", sig := { parameters := [], returnType := none }, accessFlags := 2, code := none }
def k17c1 : Code := { maxStack := 6, maxLocals := 3, code := jdk_65_method_121_code, exceptionTable := #[], attributes := #[] }
def k17m1 : Method := { name := "copyOf", desc := "([BI)[B", sig := { parameters := [(.array .byte), .int], returnType := some (.array .byte) }, accessFlags := 9, code := some k17c1 }
def k17c2 : Code := { maxStack := 4, maxLocals := 2, code := jdk_65_method_131_code, exceptionTable := #[], attributes := #[] }
def k17m2 : Method := { name := "checkLength", desc := "(II)V", sig := { parameters := [.int, .int], returnType := none }, accessFlags := 10, code := some k17c2 }
def k17c3 : Code := { maxStack := 3, maxLocals := 3, code := jdk_65_method_132_code, exceptionTable := #[], attributes := #[] }
def k17m3 : Method := { name := "copyOfRange", desc := "([BII)[B", sig := { parameters := [(.array .byte), .int, .int], returnType := some (.array .byte) }, accessFlags := 9, code := some k17c3 }
def k17c4 : Code := { maxStack := 6, maxLocals := 5, code := jdk_65_method_133_code, exceptionTable := #[], attributes := #[] }
def k17m4 : Method := { name := "copyOfRangeByte", desc := "([BII)[B", sig := { parameters := [(.array .byte), .int, .int], returnType := some (.array .byte) }, accessFlags := 10, code := some k17c4 }
/-- java/util/Arrays -/
def k17 : Class := { plain "java/util/Arrays" (some 0) with
  accessFlags := 49
  interfaces := #[]
  cf := some (fileOf pool17 14 #[.nestMembers #[975, 375, 113, 74]] #[{ accessFlags := 2, nameIndex := 5, descriptorIndex := 6, attributes := #[] }, { accessFlags := 9, nameIndex := 302, descriptorIndex := 869, attributes := #[] }, { accessFlags := 10, nameIndex := 345, descriptorIndex := 346, attributes := #[] }, { accessFlags := 9, nameIndex := 139, descriptorIndex := 342, attributes := #[] }, { accessFlags := 10, nameIndex := 341, descriptorIndex := 342, attributes := #[] }] 49 2 #[] #[{ accessFlags := 26, nameIndex := 715, descriptorIndex := 716, attributes := #[] }, { accessFlags := 26, nameIndex := 719, descriptorIndex := 716, attributes := #[] }, { accessFlags := 4120, nameIndex := 445, descriptorIndex := 117, attributes := #[] }])
  fields := #[{ name := "MIN_ARRAY_SORT_GRAN", type := .int, accessFlags := 26, slot := 0, constantValue := 0 }, { name := "INSERTIONSORT_THRESHOLD", type := .int, accessFlags := 26, slot := 1, constantValue := 0 }, { name := "$assertionsDisabled", type := .boolean, accessFlags := 4120, slot := 2, constantValue := 0 }]
  methods := #[k17m0, k17m1, k17m2, k17m3, k17m4]
  instanceTypes := #[]
  staticTypes := #[.int, .int, .boolean]
  resolved := Array.replicate 1029 none
  statics := none }

def pool18 : Array CpInfo := pool [(1, .class_ 2), (0, u "java/lang/String"), (1, .class_ 6), (1, u "java/lang/Object"), (0, u "<init>"), (0, u "()V"), (0, .methodref 1 10), (0, .nameAndType 11 12), (0, u "checkIndex"), (0, u "(II)V"), (1, .class_ 16), (1, u "java/lang/StringLatin1"), (36, u "([BI)C"), (36, u "canEncode"), (14, u "(C)Z"), (15, u "$assertionsDisabled"), (0, u "Z"), (98, .class_ 223), (1, u "java/lang/StringLatin1$LinesSpliterator"), (28, u "charAt"), (127, u "toBytes"), (1, u "(C)[B"), (7, .class_ 391), (0, u "java/lang/StringLatin1$CharsSpliterator")] 3

def k18m0 : Method := { name := "<init>", desc := "()V", sig := { parameters := [], returnType := none }, accessFlags := 0, code := none }
def k18c1 : Code := { maxStack := 2, maxLocals := 2, code := jdk_43_method_2_code, exceptionTable := #[], attributes := #[] }
def k18m1 : Method := { name := "charAt", desc := "([BI)C", sig := { parameters := [(.array .byte), .int], returnType := some .char }, accessFlags := 9, code := some k18c1 }
def k18c2 : Code := { maxStack := 2, maxLocals := 1, code := jdk_43_method_3_code, exceptionTable := #[], attributes := #[] }
def k18m2 : Method := { name := "canEncode", desc := "(C)Z", sig := { parameters := [.char], returnType := some .boolean }, accessFlags := 9, code := some k18c2 }
def k18c3 : Code := { maxStack := 4, maxLocals := 1, code := jdk_43_method_46_code, exceptionTable := #[], attributes := #[] }
def k18m3 : Method := { name := "toBytes", desc := "(C)[B", sig := { parameters := [.char], returnType := some (.array .byte) }, accessFlags := 9, code := some k18c3 }
/-- java/lang/StringLatin1 -/
def k18 : Class := { plain "java/lang/StringLatin1" (some 0) with
  accessFlags := 48
  interfaces := #[]
  cf := some (fileOf pool18 14 #[.nestMembers #[390, 221]] #[{ accessFlags := 0, nameIndex := 7, descriptorIndex := 8, attributes := #[] }, { accessFlags := 9, nameIndex := 252, descriptorIndex := 53, attributes := #[] }, { accessFlags := 9, nameIndex := 90, descriptorIndex := 105, attributes := #[] }, { accessFlags := 9, nameIndex := 380, descriptorIndex := 382, attributes := #[] }] 48 4 #[] #[{ accessFlags := 4120, nameIndex := 121, descriptorIndex := 122, attributes := #[] }])
  fields := #[{ name := "$assertionsDisabled", type := .boolean, accessFlags := 4120, slot := 0, constantValue := 0 }]
  methods := #[k18m0, k18m1, k18m2, k18m3]
  instanceTypes := #[]
  staticTypes := #[.boolean]
  resolved := Array.replicate 395 none
  statics := none }

def pool19 : Array CpInfo := pool [(2, .class_ 4), (1, u "java/lang/Object"), (0, u "<init>"), (0, u "()V"), (17, .class_ 26), (1, u "jdk/internal/util/Preconditions"), (6, u "checkIndex"), (21, .class_ 56), (0, u "jdk/internal/util/Preconditions$4"), (57, .class_ 115), (0, u "jdk/internal/util/Preconditions$1"), (7, u "SIOOBE_FORMATTER"), (0, u "Ljava/util/function/BiFunction;"), (0, .class_ 126), (0, u "jdk/internal/util/Preconditions$2"), (3, u "AIOOBE_FORMATTER"), (0, .class_ 132), (0, u "jdk/internal/util/Preconditions$3"), (3, u "IOOBE_FORMATTER"), (41, u "(IILjava/util/function/BiFunction;)I")] 15

def k19m0 : Method := { name := "<init>", desc := "()V", sig := { parameters := [], returnType := none }, accessFlags := 1, code := none }
def k19c1 : Code := { maxStack := 3, maxLocals := 3, code := jdk_41_method_11_code, exceptionTable := #[], attributes := #[] }
def k19m1 : Method := { name := "checkIndex", desc := "(IILjava/util/function/BiFunction;)I", sig := { parameters := [.int, .int, (.object "java/util/function/BiFunction")], returnType := some .int }, accessFlags := 9, code := some k19c1 }
/-- jdk/internal/util/Preconditions -/
def k19 : Class := { plain "jdk/internal/util/Preconditions" (some 0) with
  accessFlags := 33
  interfaces := #[]
  cf := some (fileOf pool19 24 #[.nestMembers #[55, 131, 125, 114]] #[{ accessFlags := 1, nameIndex := 5, descriptorIndex := 6, attributes := #[] }, { accessFlags := 9, nameIndex := 33, descriptorIndex := 178, attributes := #[] }] 33 2 #[] #[{ accessFlags := 25, nameIndex := 123, descriptorIndex := 124, attributes := #[] }, { accessFlags := 25, nameIndex := 130, descriptorIndex := 124, attributes := #[] }, { accessFlags := 25, nameIndex := 136, descriptorIndex := 124, attributes := #[] }])
  fields := #[{ name := "SIOOBE_FORMATTER", type := (.object "java/util/function/BiFunction"), accessFlags := 25, slot := 0, constantValue := 0 }, { name := "AIOOBE_FORMATTER", type := (.object "java/util/function/BiFunction"), accessFlags := 25, slot := 1, constantValue := 0 }, { name := "IOOBE_FORMATTER", type := (.object "java/util/function/BiFunction"), accessFlags := 25, slot := 2, constantValue := 0 }]
  methods := #[k19m0, k19m1]
  instanceTypes := #[]
  staticTypes := #[(.object "java/util/function/BiFunction"), (.object "java/util/function/BiFunction"), (.object "java/util/function/BiFunction")]
  resolved := Array.replicate 194 none
  statics := some 2 }

def pool20 : Array CpInfo := pool [(6, .class_ 8), (1, u "java/lang/Object"), (0, u "<init>"), (0, u "()V"), (1, .class_ 14), (1, u "java/lang/StringUTF16"), (31, u "$assertionsDisabled"), (0, u "Z"), (13, u "HI_BYTE_SHIFT"), (0, u "I"), (2, u "LO_BYTE_SHIFT"), (49, .methodref 12 116), (0, .nameAndType 117 118), (0, u "compress"), (0, u "([CI[BII)I"), (3, u "([CII)[B"), (138, u "coderFromArrayLen"), (0, u "([BI)B"), (106, .class_ 371), (1, u "java/lang/StringUTF16$LinesSpliterator"), (58, u "MAX_LENGTH"), (196, .class_ 628), (0, u "java/lang/StringUTF16$CodePointsSpliterator"), (0, .class_ 630), (0, u "java/lang/StringUTF16$CharsSpliterator")] 4

def k20m0 : Method := { name := "<init>", desc := "()V", sig := { parameters := [], returnType := none }, accessFlags := 0, code := none }
def k20c1 : Code := { maxStack := 2, maxLocals := 2, code := jdk_52_method_15_code, exceptionTable := #[], attributes := #[] }
def k20m1 : Method := { name := "coderFromArrayLen", desc := "([BI)B", sig := { parameters := [(.array .byte), .int], returnType := some .byte }, accessFlags := 8, code := some k20c1 }
def k20c2 : Code := { maxStack := 5, maxLocals := 6, code := jdk_52_method_16_code, exceptionTable := #[], attributes := #[] }
def k20m2 : Method := { name := "compress", desc := "([CII)[B", sig := { parameters := [(.array .char), .int, .int], returnType := some (.array .byte) }, accessFlags := 9, code := some k20c2 }
def k20c3 : Code := { maxStack := 3, maxLocals := 7, code := jdk_52_method_21_code, exceptionTable := #[], attributes := #[] }
def k20m3 : Method := { name := "compress", desc := "([CI[BII)I", sig := { parameters := [(.array .char), .int, (.array .byte), .int, .int], returnType := some .int }, accessFlags := 9, code := some k20c3 }
/-- java/lang/StringUTF16 -/
def k20 : Class := { plain "java/lang/StringUTF16" (some 0) with
  accessFlags := 48
  interfaces := #[]
  cf := some (fileOf pool20 12 #[.nestMembers #[627, 629, 369]] #[{ accessFlags := 0, nameIndex := 9, descriptorIndex := 10, attributes := #[] }, { accessFlags := 8, nameIndex := 261, descriptorIndex := 262, attributes := #[] }, { accessFlags := 9, nameIndex := 117, descriptorIndex := 122, attributes := #[] }, { accessFlags := 9, nameIndex := 117, descriptorIndex := 118, attributes := #[] }] 48 6 #[] #[{ accessFlags := 26, nameIndex := 61, descriptorIndex := 62, attributes := #[] }, { accessFlags := 26, nameIndex := 65, descriptorIndex := 62, attributes := #[] }, { accessFlags := 24, nameIndex := 430, descriptorIndex := 62, attributes := #[] }, { accessFlags := 4120, nameIndex := 46, descriptorIndex := 47, attributes := #[] }])
  fields := #[{ name := "HI_BYTE_SHIFT", type := .int, accessFlags := 26, slot := 0, constantValue := 0 }, { name := "LO_BYTE_SHIFT", type := .int, accessFlags := 26, slot := 1, constantValue := 0 }, { name := "MAX_LENGTH", type := .int, accessFlags := 24, slot := 2, constantValue := 0 }, { name := "$assertionsDisabled", type := .boolean, accessFlags := 4120, slot := 3, constantValue := 0 }]
  methods := #[k20m0, k20m1, k20m2, k20m3]
  instanceTypes := #[]
  staticTypes := #[.int, .int, .int, .boolean]
  resolved := Array.replicate 635 none
  statics := none }

def pool21 : Array CpInfo := pool [(2, .class_ 4), (1, u "java/lang/Object"), (0, u "<init>"), (0, u "()V"), (12, .class_ 20), (0, u "java/util/Collections"), (63, u "r"), (0, u "Ljava/util/Random;"), (80, .class_ 167), (0, u "java/util/Collections$UnmodifiableCollection"), (6, .class_ 175), (0, u "java/util/Collections$UnmodifiableSequencedCollection"), (6, .class_ 183), (0, u "java/util/Collections$UnmodifiableSet"), (6, .class_ 191), (0, u "java/util/Collections$UnmodifiableSequencedSet"), (6, .class_ 199), (0, u "java/util/Collections$UnmodifiableSortedSet"), (6, .class_ 207), (0, u "java/util/Collections$UnmodifiableNavigableSet"), (4, .class_ 213), (0, u "java/util/Collections$UnmodifiableList"), (1, .class_ 216), (0, u "java/util/Collections$UnmodifiableRandomAccessList"), (6, .class_ 224), (0, u "java/util/Collections$UnmodifiableMap"), (6, .class_ 232), (0, u "java/util/Collections$UnmodifiableSequencedMap"), (4, .class_ 238), (0, u "java/util/Collections$UnmodifiableSortedMap"), (6, .class_ 246), (0, u "java/util/Collections$UnmodifiableNavigableMap"), (3, .class_ 251), (0, u "java/util/Collections$SynchronizedCollection"), (4, .class_ 257), (0, u "java/util/Collections$SynchronizedSet"), (4, .class_ 263), (0, u "java/util/Collections$SynchronizedSortedSet"), (1, .class_ 266), (0, u "java/util/Collections$SynchronizedNavigableSet"), (1, .class_ 269), (0, u "java/util/Collections$SynchronizedRandomAccessList"), (1, .class_ 272), (0, u "java/util/Collections$SynchronizedList"), (5, .class_ 279), (0, u "java/util/Collections$SynchronizedMap"), (1, .class_ 282), (0, u "java/util/Collections$SynchronizedSortedMap"), (1, .class_ 285), (0, u "java/util/Collections$SynchronizedNavigableMap"), (1, .class_ 288), (0, u "java/util/Collections$CheckedCollection"), (11, .class_ 301), (0, u "java/util/Collections$CheckedQueue"), (3, .class_ 306), (0, u "java/util/Collections$CheckedSet"), (3, .class_ 311), (0, u "java/util/Collections$CheckedSortedSet"), (3, .class_ 316), (0, u "java/util/Collections$CheckedNavigableSet"), (3, .class_ 321), (0, u "java/util/Collections$CheckedRandomAccessList"), (3, .class_ 326), (0, u "java/util/Collections$CheckedList"), (1, .class_ 329), (0, u "java/util/Collections$CheckedMap"), (3, .class_ 334), (0, u "java/util/Collections$CheckedSortedMap"), (3, .class_ 339), (0, u "java/util/Collections$CheckedNavigableMap"), (4, .class_ 346), (1, u "java/util/Collections$EmptyIterator"), (3, .class_ 352), (1, u "java/util/Collections$EmptyListIterator"), (2, .class_ 357), (1, u "java/util/Collections$EmptyEnumeration"), (4, u "EMPTY_SET"), (0, u "Ljava/util/Set;"), (6, u "EMPTY_LIST"), (0, u "Ljava/util/List;"), (2, u "EMPTY_MAP"), (0, u "Ljava/util/Map;"), (4, .class_ 381), (0, u "java/util/Collections$SingletonSet"), (2, .class_ 385), (0, u "java/util/Collections$1"), (1, .class_ 388), (0, u "java/util/Collections$2"), (1, .class_ 391), (0, u "java/util/Collections$SingletonList"), (1, .class_ 394), (0, u "java/util/Collections$SingletonMap"), (22, .class_ 418), (0, u "java/util/Collections$CopiesList"), (4, .class_ 425), (1, u "java/util/Collections$ReverseComparator"), (8, .class_ 435), (0, u "java/util/Collections$ReverseComparator2"), (6, .class_ 443), (0, u "java/util/Collections$3"), (25, .class_ 470), (0, u "java/util/Collections$SetFromMap"), (2, .class_ 474), (0, u "java/util/Collections$SequencedSetFromMap"), (3, .class_ 479), (0, u "java/util/Collections$AsLIFOQueue"), (11, .class_ 492), (0, u "java/util/Collections$EmptySet"), (1, .class_ 495), (0, u "java/util/Collections$EmptyList"), (1, .class_ 498), (0, u "java/util/Collections$EmptyMap"), (1, u "BINARYSEARCH_THRESHOLD"), (0, u "I"), (2, u "REVERSE_THRESHOLD"), (1, u "SHUFFLE_THRESHOLD"), (1, u "FILL_THRESHOLD"), (1, u "ROTATE_THRESHOLD"), (1, u "COPY_THRESHOLD"), (1, u "REPLACEALL_THRESHOLD"), (1, u "INDEXOFSUBLIST_THRESHOLD"), (333, .class_ 851), (0, u "java/util/Collections$CheckedMap$CheckedEntrySet"), (0, .class_ 853), (0, u "java/util/Collections$CheckedMap$CheckedEntrySet$CheckedEntry"), (0, .class_ 855), (0, u "java/util/Collections$CheckedMap$CheckedEntrySet$1"), (0, .class_ 857), (0, u "java/util/Collections$CheckedList$1"), (0, .class_ 859), (0, u "java/util/Collections$CheckedCollection$1"), (0, .class_ 861), (0, u "java/util/Collections$UnmodifiableNavigableMap$EmptyNavigableMap"), (0, .class_ 863), (0, u "java/util/Collections$UnmodifiableMap$UnmodifiableEntrySet"), (0, .class_ 865), (0, u "java/util/Collections$UnmodifiableMap$UnmodifiableEntrySet$UnmodifiableEntry"), (0, .class_ 867), (0, u "java/util/Collections$UnmodifiableMap$UnmodifiableEntrySet$UnmodifiableEntrySetSpliterator"), (0, .class_ 869), (0, u "java/util/Collections$UnmodifiableMap$UnmodifiableEntrySet$1"), (0, .class_ 871), (0, u "java/util/Collections$UnmodifiableList$1"), (0, .class_ 873), (0, u "java/util/Collections$UnmodifiableNavigableSet$EmptyNavigableSet"), (0, .class_ 875), (0, u "java/util/Collections$UnmodifiableCollection$1")] 57

def k21m0 : Method := { name := "<init>", desc := "()V", sig := { parameters := [], returnType := none }, accessFlags := 2, code := none }
/-- java/util/Collections -/
def k21 : Class := { plain "java/util/Collections" (some 0) with
  accessFlags := 33
  interfaces := #[]
  cf := some (fileOf pool21 19 #[.nestMembers #[478, 473, 469, 434, 423, 417, 393, 390, 380, 497, 494, 491, 355, 350, 344, 338, 333, 328, 850, 852, 854, 320, 325, 856, 315, 310, 305, 300, 287, 858, 284, 281, 278, 268, 271, 265, 262, 256, 250, 245, 860, 237, 231, 223, 862, 864, 866, 868, 215, 212, 870, 206, 872, 198, 190, 182, 174, 166, 874, 442, 387, 384]] #[{ accessFlags := 2, nameIndex := 5, descriptorIndex := 6, attributes := #[] }] 33 2 #[] #[{ accessFlags := 26, nameIndex := 500, descriptorIndex := 501, attributes := #[] }, { accessFlags := 26, nameIndex := 504, descriptorIndex := 501, attributes := #[] }, { accessFlags := 26, nameIndex := 506, descriptorIndex := 501, attributes := #[] }, { accessFlags := 26, nameIndex := 508, descriptorIndex := 501, attributes := #[] }, { accessFlags := 26, nameIndex := 510, descriptorIndex := 501, attributes := #[] }, { accessFlags := 26, nameIndex := 512, descriptorIndex := 501, attributes := #[] }, { accessFlags := 26, nameIndex := 514, descriptorIndex := 501, attributes := #[] }, { accessFlags := 26, nameIndex := 516, descriptorIndex := 501, attributes := #[] }, { accessFlags := 10, nameIndex := 84, descriptorIndex := 85, attributes := #[] }, { accessFlags := 25, nameIndex := 362, descriptorIndex := 363, attributes := #[] }, { accessFlags := 25, nameIndex := 370, descriptorIndex := 371, attributes := #[] }, { accessFlags := 25, nameIndex := 374, descriptorIndex := 375, attributes := #[] }])
  fields := #[{ name := "BINARYSEARCH_THRESHOLD", type := .int, accessFlags := 26, slot := 0, constantValue := 0 }, { name := "REVERSE_THRESHOLD", type := .int, accessFlags := 26, slot := 1, constantValue := 0 }, { name := "SHUFFLE_THRESHOLD", type := .int, accessFlags := 26, slot := 2, constantValue := 0 }, { name := "FILL_THRESHOLD", type := .int, accessFlags := 26, slot := 3, constantValue := 0 }, { name := "ROTATE_THRESHOLD", type := .int, accessFlags := 26, slot := 4, constantValue := 0 }, { name := "COPY_THRESHOLD", type := .int, accessFlags := 26, slot := 5, constantValue := 0 }, { name := "REPLACEALL_THRESHOLD", type := .int, accessFlags := 26, slot := 6, constantValue := 0 }, { name := "INDEXOFSUBLIST_THRESHOLD", type := .int, accessFlags := 26, slot := 7, constantValue := 0 }, { name := "r", type := (.object "java/util/Random"), accessFlags := 10, slot := 8, constantValue := 0 }, { name := "EMPTY_SET", type := (.object "java/util/Set"), accessFlags := 25, slot := 9, constantValue := 0 }, { name := "EMPTY_LIST", type := (.object "java/util/List"), accessFlags := 25, slot := 10, constantValue := 0 }, { name := "EMPTY_MAP", type := (.object "java/util/Map"), accessFlags := 25, slot := 11, constantValue := 0 }]
  methods := #[k21m0]
  instanceTypes := #[]
  staticTypes := #[.int, .int, .int, .int, .int, .int, .int, .int, (.object "java/util/Random"), (.object "java/util/Set"), (.object "java/util/List"), (.object "java/util/Map")]
  resolved := Array.replicate 933 none
  statics := some 3 }

def pool22 : Array CpInfo := pool [(8, .class_ 10), (1, u "java/lang/Iterable"), (24, .class_ 36), (0, u "java/lang/Object")] 25

/-- java/lang/Iterable -/
def k22 : Class := { plain "java/lang/Iterable" (some 0) with
  accessFlags := 1537
  interfaces := #[]
  cf := some (fileOf pool22 8 #[] #[] 1537 35 #[] #[])
  fields := #[]
  methods := #[]
  instanceTypes := #[]
  staticTypes := #[]
  resolved := Array.replicate 62 none
  statics := none }

def pool23 : Array CpInfo := pool [(10, .class_ 12), (1, u "java/util/Collection"), (47, .class_ 61), (0, u "java/lang/Object"), (0, .class_ 63), (0, u "java/lang/Iterable")] 51

/-- java/util/Collection -/
def k23 : Class := { plain "java/util/Collection" (some 0) with
  accessFlags := 1537
  interfaces := #[22]
  cf := some (fileOf pool23 10 #[] #[] 1537 60 #[62] #[])
  fields := #[]
  methods := #[]
  instanceTypes := #[]
  staticTypes := #[]
  resolved := Array.replicate 115 none
  statics := none }

def pool24 : Array CpInfo := pool [(2, .class_ 4), (1, u "java/lang/Object"), (0, u "<init>"), (0, u "()V"), (1, .class_ 10), (1, u "java/util/AbstractCollection"), (66, .class_ 78), (0, u "java/util/Collection")] 81

def k24m0 : Method := { name := "<init>", desc := "()V", sig := { parameters := [], returnType := none }, accessFlags := 4, code := none }
/-- java/util/AbstractCollection -/
def k24 : Class := { plain "java/util/AbstractCollection" (some 0) with
  accessFlags := 1057
  interfaces := #[23]
  cf := some (fileOf pool24 8 #[] #[{ accessFlags := 4, nameIndex := 5, descriptorIndex := 6, attributes := #[] }] 1057 2 #[77] #[])
  fields := #[]
  methods := #[k24m0]
  instanceTypes := #[]
  staticTypes := #[]
  resolved := Array.replicate 160 none
  statics := none }

def pool25 : Array CpInfo := pool [(8, .class_ 10), (1, u "java/util/SequencedCollection"), (15, .class_ 27), (0, u "java/lang/Object"), (0, .class_ 29), (0, u "java/util/Collection")] 27

/-- java/util/SequencedCollection -/
def k25 : Class := { plain "java/util/SequencedCollection" (some 0) with
  accessFlags := 1537
  interfaces := #[23]
  cf := some (fileOf pool25 8 #[] #[] 1537 26 #[28] #[])
  fields := #[]
  methods := #[]
  instanceTypes := #[]
  staticTypes := #[]
  resolved := Array.replicate 57 none
  statics := none }

def pool26 : Array CpInfo := pool [(8, .class_ 10), (1, u "java/util/List"), (92, .class_ 104), (0, u "java/lang/Object"), (15, .class_ 121), (0, u "java/util/SequencedCollection")] 129

/-- java/util/List -/
def k26 : Class := { plain "java/util/List" (some 0) with
  accessFlags := 1537
  interfaces := #[25]
  cf := some (fileOf pool26 8 #[] #[] 1537 103 #[120] #[])
  fields := #[]
  methods := #[]
  instanceTypes := #[]
  staticTypes := #[]
  resolved := Array.replicate 251 none
  statics := none }

def pool27 : Array CpInfo := pool [(2, .class_ 4), (1, u "java/util/AbstractCollection"), (0, u "<init>"), (0, u "()V"), (1, .class_ 10), (1, u "java/util/AbstractList"), (0, u "modCount"), (0, u "I"), (64, .class_ 78), (0, u "java/util/AbstractList$Itr"), (3, .class_ 83), (0, u "java/util/AbstractList$ListItr"), (9, .class_ 94), (0, u "java/util/AbstractList$RandomAccessSubList"), (3, .class_ 99), (0, u "java/util/AbstractList$SubList"), (33, .class_ 134), (0, u "java/util/List"), (73, .class_ 209), (0, u "java/util/AbstractList$SubList$1"), (0, .class_ 211), (0, u "java/util/AbstractList$RandomAccessSpliterator")] 6

def k27m0 : Method := { name := "<init>", desc := "()V", sig := { parameters := [], returnType := none }, accessFlags := 4, code := none }
/-- java/util/AbstractList -/
def k27 : Class := { plain "java/util/AbstractList" (some 24) with
  accessFlags := 1057
  interfaces := #[26]
  cf := some (fileOf pool27 8 #[.nestMembers #[93, 98, 208, 210, 82, 77]] #[{ accessFlags := 4, nameIndex := 5, descriptorIndex := 6, attributes := #[] }] 1057 2 #[133] #[{ accessFlags := 132, nameIndex := 11, descriptorIndex := 12, attributes := #[] }])
  fields := #[{ name := "modCount", type := .int, accessFlags := 132, slot := 0, constantValue := 0 }]
  methods := #[k27m0]
  instanceTypes := #[.int]
  staticTypes := #[]
  resolved := Array.replicate 218 none
  statics := none }

def pool28 : Array CpInfo := pool [(1, .class_ 2), (0, u "java/util/RandomAccess"), (0, .class_ 4), (0, u "java/lang/Object")] 2

/-- java/util/RandomAccess -/
def k28 : Class := { plain "java/util/RandomAccess" (some 0) with
  accessFlags := 1537
  interfaces := #[]
  cf := some (fileOf pool28 1 #[] #[] 1537 3 #[] #[])
  fields := #[]
  methods := #[]
  instanceTypes := #[]
  staticTypes := #[]
  resolved := Array.replicate 7 none
  statics := none }

def pool29 : Array CpInfo := pool [(2, .class_ 4), (1, u "java/util/AbstractList"), (0, u "<init>"), (0, u "()V"), (1, .class_ 10), (1, u "java/util/Collections"), (54, .class_ 66), (0, u "java/util/Collections$EmptyList"), (0, .class_ 68), (0, u "java/util/RandomAccess"), (0, .class_ 70), (0, u "java/io/Serializable"), (0, u "serialVersionUID"), (0, u "J")] 77

def k29m0 : Method := { name := "<init>", desc := "()V", sig := { parameters := [], returnType := none }, accessFlags := 2, code := none }
/-- java/util/Collections$EmptyList -/
def k29 : Class := { plain "java/util/Collections$EmptyList" (some 27) with
  accessFlags := 32
  interfaces := #[28, 2]
  cf := some (fileOf pool29 65 #[.nestHost 8] #[{ accessFlags := 2, nameIndex := 5, descriptorIndex := 6, attributes := #[] }] 32 2 #[67, 69] #[{ accessFlags := 26, nameIndex := 71, descriptorIndex := 72, attributes := #[] }])
  fields := #[{ name := "serialVersionUID", type := .long, accessFlags := 26, slot := 0, constantValue := 0 }]
  methods := #[k29m0]
  instanceTypes := #[.int]
  staticTypes := #[.long]
  resolved := Array.replicate 150 none
  statics := none }

def pool30 : Array CpInfo := pool [(2, .class_ 4), (1, u "java/lang/StackTraceElement"), (0, u "<init>"), (2, .class_ 10), (1, u "java/lang/Object"), (0, u "()V"), (2, u "format"), (0, u "B"), (2, u "classLoaderName"), (0, u "Ljava/lang/String;"), (2, u "moduleName"), (2, u "moduleVersion"), (12, u "declaringClass"), (4, u "methodName"), (2, u "fileName"), (2, u "lineNumber"), (0, u "I"), (65, u "declaringClassObject"), (0, u "Ljava/lang/Class;"), (33, .class_ 153), (1, u "java/lang/StackTraceElement$HashedModules"), (17, .class_ 172), (0, u "java/io/Serializable"), (0, u "NATIVE_METHOD"), (1, u "UNKNOWN_SOURCE"), (2, u "BUILTIN_CLASS_LOADER"), (1, u "JDK_NON_UPGRADEABLE_MODULE"), (1, u "serialVersionUID"), (0, u "J")] 51

def k30m0 : Method := { name := "<init>", desc := "()V", sig := { parameters := [], returnType := none }, accessFlags := 2, code := none }
/-- java/lang/StackTraceElement -/
def k30 : Class := { plain "java/lang/StackTraceElement" (some 0) with
  accessFlags := 49
  interfaces := #[2]
  cf := some (fileOf pool30 2 #[.nestMembers #[151]] #[{ accessFlags := 2, nameIndex := 5, descriptorIndex := 11, attributes := #[] }] 49 8 #[171] #[{ accessFlags := 26, nameIndex := 173, descriptorIndex := 19, attributes := #[] }, { accessFlags := 26, nameIndex := 175, descriptorIndex := 19, attributes := #[] }, { accessFlags := 130, nameIndex := 116, descriptorIndex := 117, attributes := #[] }, { accessFlags := 2, nameIndex := 18, descriptorIndex := 19, attributes := #[] }, { accessFlags := 2, nameIndex := 22, descriptorIndex := 19, attributes := #[] }, { accessFlags := 2, nameIndex := 25, descriptorIndex := 19, attributes := #[] }, { accessFlags := 2, nameIndex := 38, descriptorIndex := 19, attributes := #[] }, { accessFlags := 2, nameIndex := 43, descriptorIndex := 19, attributes := #[] }, { accessFlags := 2, nameIndex := 46, descriptorIndex := 19, attributes := #[] }, { accessFlags := 2, nameIndex := 49, descriptorIndex := 50, attributes := #[] }, { accessFlags := 2, nameIndex := 14, descriptorIndex := 15, attributes := #[] }, { accessFlags := 26, nameIndex := 178, descriptorIndex := 15, attributes := #[] }, { accessFlags := 26, nameIndex := 180, descriptorIndex := 15, attributes := #[] }, { accessFlags := 26, nameIndex := 182, descriptorIndex := 183, attributes := #[] }])
  fields := #[{ name := "NATIVE_METHOD", type := (.object "java/lang/String"), accessFlags := 26, slot := 0, constantValue := 0 }, { name := "UNKNOWN_SOURCE", type := (.object "java/lang/String"), accessFlags := 26, slot := 1, constantValue := 0 }, { name := "declaringClassObject", type := (.object "java/lang/Class"), accessFlags := 130, slot := 0, constantValue := 0 }, { name := "classLoaderName", type := (.object "java/lang/String"), accessFlags := 2, slot := 1, constantValue := 0 }, { name := "moduleName", type := (.object "java/lang/String"), accessFlags := 2, slot := 2, constantValue := 0 }, { name := "moduleVersion", type := (.object "java/lang/String"), accessFlags := 2, slot := 3, constantValue := 0 }, { name := "declaringClass", type := (.object "java/lang/String"), accessFlags := 2, slot := 4, constantValue := 0 }, { name := "methodName", type := (.object "java/lang/String"), accessFlags := 2, slot := 5, constantValue := 0 }, { name := "fileName", type := (.object "java/lang/String"), accessFlags := 2, slot := 6, constantValue := 0 }, { name := "lineNumber", type := .int, accessFlags := 2, slot := 7, constantValue := 0 }, { name := "format", type := .byte, accessFlags := 2, slot := 8, constantValue := 0 }, { name := "BUILTIN_CLASS_LOADER", type := .byte, accessFlags := 26, slot := 2, constantValue := 0 }, { name := "JDK_NON_UPGRADEABLE_MODULE", type := .byte, accessFlags := 26, slot := 3, constantValue := 0 }, { name := "serialVersionUID", type := .long, accessFlags := 26, slot := 4, constantValue := 0 }]
  methods := #[k30m0]
  instanceTypes := #[(.object "java/lang/Class"), (.object "java/lang/String"), (.object "java/lang/String"), (.object "java/lang/String"), (.object "java/lang/String"), (.object "java/lang/String"), (.object "java/lang/String"), .int, .byte]
  staticTypes := #[(.object "java/lang/String"), (.object "java/lang/String"), .byte, .byte, .long]
  resolved := Array.replicate 235 none
  statics := none }

def pool31 : Array CpInfo := pool [(1, u "java/lang/Cloneable"), (0, .class_ 1), (0, u "java/lang/Object"), (0, .class_ 3)] 3

/-- java/lang/Cloneable -/
def k31 : Class := { plain "java/lang/Cloneable" (some 0) with
  accessFlags := 1537
  interfaces := #[]
  cf := some (fileOf pool31 2 #[] #[] 1537 4 #[] #[])
  fields := #[]
  methods := #[]
  instanceTypes := #[]
  staticTypes := #[]
  resolved := Array.replicate 8 none
  statics := none }

/-- the primitive byte -/
def k32 : Class := { plain "byte" none with kind := .primitive 'B', accessFlags := 0x411 }
/-- [B -/
def k33 : Class := { plain "[B" (some 0) with kind := .array 32 .byte, interfaces := #[31, 2], accessFlags := 1041 }

/-- the primitive char -/
def k34 : Class := { plain "char" none with kind := .primitive 'C', accessFlags := 0x411 }
/-- [C -/
def k35 : Class := { plain "[C" (some 0) with kind := .array 34 .char, interfaces := #[31, 2], accessFlags := 1041 }

/-- the primitive int -/
def k36 : Class := { plain "int" none with kind := .primitive 'I', accessFlags := 0x411 }
/-- [I -/
def k37 : Class := { plain "[I" (some 0) with kind := .array 36 .int, interfaces := #[31, 2], accessFlags := 1041 }

/-- [Ljava/lang/Object; -/
def k38 : Class := { plain "[Ljava/lang/Object;" (some 0) with kind := .array 0 (.object "java/lang/Object"), interfaces := #[31, 2], accessFlags := 1041 }

/-- [Ljava/lang/StackTraceElement; -/
def k39 : Class := { plain "[Ljava/lang/StackTraceElement;" (some 0) with kind := .array 30 (.object "java/lang/StackTraceElement"), interfaces := #[31, 2], accessFlags := 1041 }

/-- [Ljava/lang/Throwable; -/
def k40 : Class := { plain "[Ljava/lang/Throwable;" (some 0) with kind := .array 8 (.object "java/lang/Throwable"), interfaces := #[31, 2], accessFlags := 1041 }

def heap : Heap := #[{ cls := 7, slots := #[.long 0, .int 1, .null, .int 0, .null, .int 0, .int 0], vm := .statics 7 },
  { cls := 8, slots := #[.long 0, .ref 4, .ref 5, .null, .null, .null, .null, .ref 6, .int 1], vm := .statics 8 },
  { cls := 19, slots := #[.null, .null, .null], vm := .statics 19 },
  { cls := 21, slots := #[.int 0, .int 0, .int 0, .int 0, .int 0, .int 0, .int 0, .int 0, .null, .null, .ref 5, .null], vm := .statics 21 },
  { cls := 39, slots := #[], vm := .none },
  { cls := 29, slots := #[.int 0], vm := .none },
  { cls := 40, slots := #[], vm := .none }]
def classes : Array Class := #[k0, k1, k2, k3, k4, k5, k6, k7, k8, k9, k10, k11, k12, k13, k14, k15, k16, k17, k18, k19, k20, k21, k22, k23, k24, k25, k26, k27, k28, k29, k30, k31, k32, k33, k34, k35, k36, k37, k38, k39, k40]
def interned : List (Array UInt16 × Addr) := []
def slotsUsed : Nat := 32
def theMethod : MethodId := ⟨1, 1⟩
def args0 : Array Value := #[.int 65601, .int 131137, .int 66]
def aboutOver (below : List Frame) : State where
  vm := { classes := classes, interned := interned.toArray }
  heap := heap
  slotsUsed := slotsUsed
  threads := #[{ frames := .invoking theMethod args0 :: below }]
def below0 : List Frame := [.native { method := ⟨0, 0⟩, args := #[] }]
def about1 : State := aboutOver below0
def p0 : Program := .bare "" "" ""
def e0 : Env := launch0.env 0 0 0
theorem w_frames : about1.frames = Frame.invoking theMethod args0 :: below0 := rfl
set_option maxRecDepth 65536 in
theorem w_args : argsFit about1.vm theMethod args0 = true := by decide +kernel
set_option maxRecDepth 65536 in
theorem w_heap : heapFits about1 = true := by decide +kernel
set_option maxRecDepth 65536 in
theorem w_runnable : about1.curStatus? = some .runnable := by decide +kernel
set_option maxRecDepth 65536 in
theorem w_alone : about1.alone = true := by decide +kernel
set_option maxRecDepth 65536 in
theorem w_named : about1.methodNamed? x = some theMethod := by decide +kernel
set_option maxRecDepth 65536 in
theorem w_hears : about1.hears theMethod below0 = true := by decide +kernel
set_option maxRecDepth 65536 in
theorem w_ripe : about1.ripe theMethod args0 below0 = true := by decide +kernel
theorem w_running : about1.status = .running := rfl
set_option maxRecDepth 65536 in
theorem w_room : about1.hasRoom e0.platform room_1 = true :=
  launch0.hasRoom_least _ room_1 (by decide +kernel) (by decide +kernel) (by decide +kernel) (by decide +kernel) (by decide +kernel) (by decide +kernel)
theorem allAtoms_all (ts : List Jvm.Cond) (a : Array Jvm.Value) (st : Jvm.State) : (allAtoms ts).before a st = ts.all (fun c => c.before a st) := by
  induction ts with
  | nil => rfl
  | cons c t ih =>
    show (Jvm.Cond.and c (allAtoms t)).before a st = _
    rw [Jvm.Cond.before_and, ih, List.all_cons]
def words1 : List Jvm.Cond := Jvm.Cond.code x code maxLocals ret :: tables_1
/-- a 'code' word, met by the world's own term for the bytes: nothing is compared byte by byte -/
theorem code_word {y : MethodName} {bytes : ByteArray} {mx : Nat} {rt : Option FieldType} {a : Array Value} {s : State} {m : MethodId} {meth : Method} {c : Code} (h1 : s.methodNamed? y = some m) (h2 : s.vm.method? m = some meth) (h3 : meth.code = some c) (h4 : c.code = bytes)
    (h5 : (c.maxLocals == mx && c.exceptionTable.isEmpty && decide (c.maxStack ≤ mostOperands) && decide (meth.sig.returnType = rt) && !meth.locks && decide (parseMethodDescriptor y.desc = some meth.sig)) = true) : (Jvm.Cond.code y bytes mx rt).before a s = true := by
  simp only [Bool.and_eq_true, beq_iff_eq, Bool.not_eq_true', decide_eq_true_eq] at h5
  obtain ⟨⟨⟨⟨⟨g1, g2⟩, g3⟩, g4⟩, g5⟩, g6⟩ := h5
  simp [Cond.before, Cond.holds, Cond.value, h1, h2, h3, h4, g1, g2, g3, g4, g5, g6]
def isCode : Jvm.Cond → Bool
  | .code _ _ _ _ => true
  | _ => false
theorem all_split {L : List Jvm.Cond} {P : Jvm.Cond → Bool} (h1 : L.all (fun c => isCode c || P c) = true) (h2 : ∀ c ∈ L.filter isCode, P c = true) : L.all P = true := by
  refine List.all_eq_true.mpr fun c hc => ?_
  have h := List.all_eq_true.mp h1 c hc
  rcases Bool.eq_false_or_eq_true (isCode c) with hi | hi
  · exact h2 c (List.mem_filter.mpr ⟨hc, hi⟩)
  · simpa [hi] using h
set_option maxRecDepth 65536 in
theorem w_c0 : (Jvm.Cond.code x code maxLocals ret).before args0 about1 = true := code_word (m := ⟨1, 1⟩) (meth := k1m1) (c := k1c1) (by decide +kernel) rfl rfl rfl (by decide +kernel)
set_option maxRecDepth 65536 in
theorem w_c1 : (Jvm.Cond.code ({ cls := "com/example/proviso/proviso/InvalidInputExceptionUndeclaredPinLaw", name := "mk", desc := "(I)Ljava/lang/String;" } : Jvm.MethodName) method_3_code (5 : Nat) (Option.some (Jvm.ClassFile.FieldType.object "java/lang/String"))).before args0 about1 = true := code_word (m := ⟨1, 2⟩) (meth := k1m2) (c := k1c2) (by decide +kernel) rfl rfl rfl (by decide +kernel)
set_option maxRecDepth 65536 in
theorem w_c2 : (Jvm.Cond.code ({ cls := "com/example/proviso/proviso/InvalidInputException", name := "undeclared", desc := "(Ljava/lang/String;Ljava/lang/String;Ljava/lang/String;)Lcom/example/proviso/proviso/InvalidInputException;" } : Jvm.MethodName) prog_12_method_2_code (3 : Nat) (Option.some (Jvm.ClassFile.FieldType.object "com/example/proviso/proviso/InvalidInputException"))).before args0 about1 = true := code_word (m := ⟨10, 1⟩) (meth := k10m1) (c := k10c1) (by decide +kernel) rfl rfl rfl (by decide +kernel)
set_option maxRecDepth 65536 in
theorem w_c3 : (Jvm.Cond.code ({ cls := "java/lang/StringBuilder", name := "<init>", desc := "()V" } : Jvm.MethodName) jdk_67_method_1_code (1 : Nat) (Option.none : Option Jvm.ClassFile.FieldType)).before args0 about1 = true := code_word (m := ⟨13, 0⟩) (meth := k13m0) (c := k13c0) (by decide +kernel) rfl rfl rfl (by decide +kernel)
set_option maxRecDepth 65536 in
theorem w_c4 : (Jvm.Cond.code ({ cls := "java/lang/AbstractStringBuilder", name := "<init>", desc := "(I)V" } : Jvm.MethodName) jdk_68_method_2_code (2 : Nat) (Option.none : Option Jvm.ClassFile.FieldType)).before args0 about1 = true := code_word (m := ⟨12, 1⟩) (meth := k12m1) (c := k12c1) (by decide +kernel) rfl rfl rfl (by decide +kernel)
set_option maxRecDepth 65536 in
theorem w_c5 : (Jvm.Cond.code ({ cls := "java/lang/Object", name := "<init>", desc := "()V" } : Jvm.MethodName) object_method_1_code (1 : Nat) (Option.none : Option Jvm.ClassFile.FieldType)).before args0 about1 = true := code_word (m := ⟨0, 0⟩) (meth := k0m0) (c := k0c0) (by decide +kernel) rfl rfl rfl (by decide +kernel)
set_option maxRecDepth 65536 in
theorem w_c6 : (Jvm.Cond.code ({ cls := "java/lang/StringBuilder", name := "append", desc := "(Ljava/lang/String;)Ljava/lang/StringBuilder;" } : Jvm.MethodName) jdk_67_method_7_code (2 : Nat) (Option.some (Jvm.ClassFile.FieldType.object "java/lang/StringBuilder"))).before args0 about1 = true := code_word (m := ⟨13, 1⟩) (meth := k13m1) (c := k13c1) (by decide +kernel) rfl rfl rfl (by decide +kernel)
set_option maxRecDepth 65536 in
theorem w_c7 : (Jvm.Cond.code ({ cls := "java/lang/AbstractStringBuilder", name := "append", desc := "(Ljava/lang/String;)Ljava/lang/AbstractStringBuilder;" } : Jvm.MethodName) jdk_68_method_22_code (3 : Nat) (Option.some (Jvm.ClassFile.FieldType.object "java/lang/AbstractStringBuilder"))).before args0 about1 = true := code_word (m := ⟨12, 5⟩) (meth := k12m5) (c := k12c5) (by decide +kernel) rfl rfl rfl (by decide +kernel)
set_option maxRecDepth 65536 in
theorem w_c8 : (Jvm.Cond.code ({ cls := "java/lang/String", name := "length", desc := "()I" } : Jvm.MethodName) jdk_42_method_54_code (1 : Nat) (Option.some Jvm.ClassFile.FieldType.int)).before args0 about1 = true := code_word (m := ⟨7, 3⟩) (meth := k7m3) (c := k7c3) (by decide +kernel) rfl rfl rfl (by decide +kernel)
set_option maxRecDepth 65536 in
theorem w_c9 : (Jvm.Cond.code ({ cls := "java/lang/String", name := "coder", desc := "()B" } : Jvm.MethodName) jdk_42_method_152_code (1 : Nat) (Option.some Jvm.ClassFile.FieldType.byte)).before args0 about1 = true := code_word (m := ⟨7, 10⟩) (meth := k7m10) (c := k7c10) (by decide +kernel) rfl rfl rfl (by decide +kernel)
set_option maxRecDepth 65536 in
theorem w_c10 : (Jvm.Cond.code ({ cls := "java/lang/AbstractStringBuilder", name := "ensureCapacityInternal", desc := "(I)V" } : Jvm.MethodName) jdk_68_method_9_code (3 : Nat) (Option.none : Option Jvm.ClassFile.FieldType)).before args0 about1 = true := code_word (m := ⟨12, 3⟩) (meth := k12m3) (c := k12c3) (by decide +kernel) rfl rfl rfl (by decide +kernel)
set_option maxRecDepth 65536 in
theorem w_c11 : (Jvm.Cond.code ({ cls := "java/lang/AbstractStringBuilder", name := "putStringAt", desc := "(ILjava/lang/String;)V" } : Jvm.MethodName) jdk_68_method_73_code (3 : Nat) (Option.none : Option Jvm.ClassFile.FieldType)).before args0 about1 = true := code_word (m := ⟨12, 9⟩) (meth := k12m9) (c := k12c9) (by decide +kernel) rfl rfl rfl (by decide +kernel)
set_option maxRecDepth 65536 in
theorem w_c12 : (Jvm.Cond.code ({ cls := "java/lang/AbstractStringBuilder", name := "inflateIfNeededFor", desc := "(Ljava/lang/String;)V" } : Jvm.MethodName) jdk_68_method_71_code (2 : Nat) (Option.none : Option Jvm.ClassFile.FieldType)).before args0 about1 = true := code_word (m := ⟨12, 8⟩) (meth := k12m8) (c := k12c8) (by decide +kernel) rfl rfl rfl (by decide +kernel)
set_option maxRecDepth 65536 in
theorem w_c13 : (Jvm.Cond.code ({ cls := "java/lang/String", name := "getBytes", desc := "([BIB)V" } : Jvm.MethodName) jdk_42_method_147_code (4 : Nat) (Option.none : Option Jvm.ClassFile.FieldType)).before args0 about1 = true := code_word (m := ⟨7, 6⟩) (meth := k7m6) (c := k7c6) (by decide +kernel) rfl rfl rfl (by decide +kernel)
set_option maxRecDepth 65536 in
theorem w_c14 : (Jvm.Cond.code ({ cls := "java/lang/AbstractStringBuilder", name := "newCapacity", desc := "(I)I" } : Jvm.MethodName) jdk_68_method_10_code (6 : Nat) (Option.some Jvm.ClassFile.FieldType.int)).before args0 about1 = true := code_word (m := ⟨12, 4⟩) (meth := k12m4) (c := k12c4) (by decide +kernel) rfl rfl rfl (by decide +kernel)
set_option maxRecDepth 65536 in
theorem w_c15 : (Jvm.Cond.code ({ cls := "jdk/internal/util/ArraysSupport", name := "newLength", desc := "(III)I" } : Jvm.MethodName) jdk_48_method_27_code (4 : Nat) (Option.some Jvm.ClassFile.FieldType.int)).before args0 about1 = true := code_word (m := ⟨15, 1⟩) (meth := k15m1) (c := k15c1) (by decide +kernel) rfl rfl rfl (by decide +kernel)
set_option maxRecDepth 65536 in
theorem w_c16 : (Jvm.Cond.code ({ cls := "java/lang/Math", name := "max", desc := "(II)I" } : Jvm.MethodName) jdk_29_method_65_code (2 : Nat) (Option.some Jvm.ClassFile.FieldType.int)).before args0 about1 = true := code_word (m := ⟨16, 1⟩) (meth := k16m1) (c := k16c1) (by decide +kernel) rfl rfl rfl (by decide +kernel)
set_option maxRecDepth 65536 in
theorem w_c17 : (Jvm.Cond.code ({ cls := "java/util/Arrays", name := "copyOf", desc := "([BI)[B" } : Jvm.MethodName) jdk_65_method_121_code (3 : Nat) (Option.some (Jvm.ClassFile.FieldType.array Jvm.ClassFile.FieldType.byte))).before args0 about1 = true := code_word (m := ⟨17, 1⟩) (meth := k17m1) (c := k17c1) (by decide +kernel) rfl rfl rfl (by decide +kernel)
set_option maxRecDepth 65536 in
theorem w_c18 : (Jvm.Cond.code ({ cls := "java/lang/Math", name := "min", desc := "(II)I" } : Jvm.MethodName) jdk_29_method_69_code (2 : Nat) (Option.some Jvm.ClassFile.FieldType.int)).before args0 about1 = true := code_word (m := ⟨16, 2⟩) (meth := k16m2) (c := k16c2) (by decide +kernel) rfl rfl rfl (by decide +kernel)
set_option maxRecDepth 65536 in
theorem w_c19 : (Jvm.Cond.code ({ cls := "java/lang/StringBuilder", name := "toString", desc := "()Ljava/lang/String;" } : Jvm.MethodName) jdk_67_method_42_code (1 : Nat) (Option.some (Jvm.ClassFile.FieldType.object "java/lang/String"))).before args0 about1 = true := code_word (m := ⟨13, 2⟩) (meth := k13m2) (c := k13c2) (by decide +kernel) rfl rfl rfl (by decide +kernel)
set_option maxRecDepth 65536 in
theorem w_c20 : (Jvm.Cond.code ({ cls := "java/lang/String", name := "<init>", desc := "(Ljava/lang/StringBuilder;)V" } : Jvm.MethodName) jdk_42_method_53_code (2 : Nat) (Option.none : Option Jvm.ClassFile.FieldType)).before args0 about1 = true := code_word (m := ⟨7, 2⟩) (meth := k7m2) (c := k7c2) (by decide +kernel) rfl rfl rfl (by decide +kernel)
set_option maxRecDepth 65536 in
theorem w_c21 : (Jvm.Cond.code ({ cls := "java/lang/String", name := "<init>", desc := "(Ljava/lang/AbstractStringBuilder;Ljava/lang/Void;)V" } : Jvm.MethodName) jdk_42_method_150_code (5 : Nat) (Option.none : Option Jvm.ClassFile.FieldType)).before args0 about1 = true := code_word (m := ⟨7, 8⟩) (meth := k7m8) (c := k7c8) (by decide +kernel) rfl rfl rfl (by decide +kernel)
set_option maxRecDepth 65536 in
theorem w_c22 : (Jvm.Cond.code ({ cls := "java/lang/AbstractStringBuilder", name := "getValue", desc := "()[B" } : Jvm.MethodName) jdk_68_method_64_code (1 : Nat) (Option.some (Jvm.ClassFile.FieldType.array Jvm.ClassFile.FieldType.byte))).before args0 about1 = true := code_word (m := ⟨12, 6⟩) (meth := k12m6) (c := k12c6) (by decide +kernel) rfl rfl rfl (by decide +kernel)
set_option maxRecDepth 65536 in
theorem w_c23 : (Jvm.Cond.code ({ cls := "java/lang/StringBuilder", name := "length", desc := "()I" } : Jvm.MethodName) jdk_67_method_93_code (1 : Nat) (Option.some Jvm.ClassFile.FieldType.int)).before args0 about1 = true := code_word (m := ⟨13, 3⟩) (meth := k13m3) (c := k13c3) (by decide +kernel) rfl rfl rfl (by decide +kernel)
set_option maxRecDepth 65536 in
theorem w_c24 : (Jvm.Cond.code ({ cls := "java/lang/AbstractStringBuilder", name := "length", desc := "()I" } : Jvm.MethodName) jdk_68_method_6_code (1 : Nat) (Option.some Jvm.ClassFile.FieldType.int)).before args0 about1 = true := code_word (m := ⟨12, 2⟩) (meth := k12m2) (c := k12c2) (by decide +kernel) rfl rfl rfl (by decide +kernel)
set_option maxRecDepth 65536 in
theorem w_c25 : (Jvm.Cond.code ({ cls := "java/lang/AbstractStringBuilder", name := "isLatin1", desc := "()Z" } : Jvm.MethodName) jdk_68_method_68_code (1 : Nat) (Option.some Jvm.ClassFile.FieldType.boolean)).before args0 about1 = true := code_word (m := ⟨12, 7⟩) (meth := k12m7) (c := k12c7) (by decide +kernel) rfl rfl rfl (by decide +kernel)
set_option maxRecDepth 65536 in
theorem w_c26 : (Jvm.Cond.code ({ cls := "java/util/Arrays", name := "copyOfRange", desc := "([BII)[B" } : Jvm.MethodName) jdk_65_method_132_code (3 : Nat) (Option.some (Jvm.ClassFile.FieldType.array Jvm.ClassFile.FieldType.byte))).before args0 about1 = true := code_word (m := ⟨17, 3⟩) (meth := k17m3) (c := k17c3) (by decide +kernel) rfl rfl rfl (by decide +kernel)
set_option maxRecDepth 65536 in
theorem w_c27 : (Jvm.Cond.code ({ cls := "java/util/Arrays", name := "copyOfRangeByte", desc := "([BII)[B" } : Jvm.MethodName) jdk_65_method_133_code (5 : Nat) (Option.some (Jvm.ClassFile.FieldType.array Jvm.ClassFile.FieldType.byte))).before args0 about1 = true := code_word (m := ⟨17, 4⟩) (meth := k17m4) (c := k17c4) (by decide +kernel) rfl rfl rfl (by decide +kernel)
set_option maxRecDepth 65536 in
theorem w_c28 : (Jvm.Cond.code ({ cls := "java/util/Arrays", name := "checkLength", desc := "(II)V" } : Jvm.MethodName) jdk_65_method_131_code (2 : Nat) (Option.none : Option Jvm.ClassFile.FieldType)).before args0 about1 = true := code_word (m := ⟨17, 2⟩) (meth := k17m2) (c := k17c2) (by decide +kernel) rfl rfl rfl (by decide +kernel)
set_option maxRecDepth 65536 in
theorem w_c29 : (Jvm.Cond.code ({ cls := "com/example/proviso/proviso/InvalidInputException", name := "<init>", desc := "(Ljava/lang/String;)V" } : Jvm.MethodName) prog_12_method_1_code (2 : Nat) (Option.none : Option Jvm.ClassFile.FieldType)).before args0 about1 = true := code_word (m := ⟨10, 0⟩) (meth := k10m0) (c := k10c0) (by decide +kernel) rfl rfl rfl (by decide +kernel)
set_option maxRecDepth 65536 in
theorem w_c30 : (Jvm.Cond.code ({ cls := "java/lang/Exception", name := "<init>", desc := "(Ljava/lang/String;)V" } : Jvm.MethodName) jdk_59_method_2_code (2 : Nat) (Option.none : Option Jvm.ClassFile.FieldType)).before args0 about1 = true := code_word (m := ⟨9, 1⟩) (meth := k9m1) (c := k9c1) (by decide +kernel) rfl rfl rfl (by decide +kernel)
set_option maxRecDepth 65536 in
theorem w_c31 : (Jvm.Cond.code ({ cls := "java/lang/Throwable", name := "<init>", desc := "(Ljava/lang/String;)V" } : Jvm.MethodName) jdk_78_method_2_code (2 : Nat) (Option.none : Option Jvm.ClassFile.FieldType)).before args0 about1 = true := code_word (m := ⟨8, 1⟩) (meth := k8m1) (c := k8c1) (by decide +kernel) rfl rfl rfl (by decide +kernel)
set_option maxRecDepth 65536 in
theorem w_c32 : (Jvm.Cond.code ({ cls := "java/lang/Throwable", name := "<init>", desc := "()V" } : Jvm.MethodName) jdk_78_method_1_code (1 : Nat) (Option.none : Option Jvm.ClassFile.FieldType)).before args0 about1 = true := code_word (m := ⟨8, 0⟩) (meth := k8m0) (c := k8c0) (by decide +kernel) rfl rfl rfl (by decide +kernel)
set_option maxRecDepth 65536 in
theorem w_c33 : (Jvm.Cond.code ({ cls := "java/lang/Throwable", name := "getMessage", desc := "()Ljava/lang/String;" } : Jvm.MethodName) jdk_78_method_6_code (1 : Nat) (Option.some (Jvm.ClassFile.FieldType.object "java/lang/String"))).before args0 about1 = true := code_word (m := ⟨8, 2⟩) (meth := k8m2) (c := k8c2) (by decide +kernel) rfl rfl rfl (by decide +kernel)
set_option maxRecDepth 65536 in
theorem w_c34 : (Jvm.Cond.code ({ cls := "com/example/proviso/proviso/InvalidInputExceptionUndeclaredPinLaw", name := "same", desc := "(Ljava/lang/String;ILjava/lang/String;)Z" } : Jvm.MethodName) method_4_code (4 : Nat) (Option.some Jvm.ClassFile.FieldType.boolean)).before args0 about1 = true := code_word (m := ⟨1, 3⟩) (meth := k1m3) (c := k1c3) (by decide +kernel) rfl rfl rfl (by decide +kernel)
set_option maxRecDepth 65536 in
theorem w_c35 : (Jvm.Cond.code ({ cls := "com/example/proviso/proviso/InvalidInputExceptionUndeclaredPinLaw", name := "names", desc := "(Ljava/lang/String;I)Z" } : Jvm.MethodName) method_5_code (2 : Nat) (Option.some Jvm.ClassFile.FieldType.boolean)).before args0 about1 = true := code_word (m := ⟨1, 4⟩) (meth := k1m4) (c := k1c4) (by decide +kernel) rfl rfl rfl (by decide +kernel)
set_option maxRecDepth 65536 in
theorem w_c36 : (Jvm.Cond.code ({ cls := "java/lang/String", name := "charAt", desc := "(I)C" } : Jvm.MethodName) jdk_42_method_56_code (2 : Nat) (Option.some Jvm.ClassFile.FieldType.char)).before args0 about1 = true := code_word (m := ⟨7, 4⟩) (meth := k7m4) (c := k7c4) (by decide +kernel) rfl rfl rfl (by decide +kernel)
set_option maxRecDepth 65536 in
theorem w_c37 : (Jvm.Cond.code ({ cls := "java/lang/String", name := "isLatin1", desc := "()Z" } : Jvm.MethodName) jdk_42_method_154_code (1 : Nat) (Option.some Jvm.ClassFile.FieldType.boolean)).before args0 about1 = true := code_word (m := ⟨7, 11⟩) (meth := k7m11) (c := k7c11) (by decide +kernel) rfl rfl rfl (by decide +kernel)
set_option maxRecDepth 65536 in
theorem w_c38 : (Jvm.Cond.code ({ cls := "java/lang/StringLatin1", name := "charAt", desc := "([BI)C" } : Jvm.MethodName) jdk_43_method_2_code (2 : Nat) (Option.some Jvm.ClassFile.FieldType.char)).before args0 about1 = true := code_word (m := ⟨18, 1⟩) (meth := k18m1) (c := k18c1) (by decide +kernel) rfl rfl rfl (by decide +kernel)
set_option maxRecDepth 65536 in
theorem w_c39 : (Jvm.Cond.code ({ cls := "java/lang/String", name := "checkIndex", desc := "(II)V" } : Jvm.MethodName) jdk_42_method_155_code (2 : Nat) (Option.none : Option Jvm.ClassFile.FieldType)).before args0 about1 = true := code_word (m := ⟨7, 12⟩) (meth := k7m12) (c := k7c12) (by decide +kernel) rfl rfl rfl (by decide +kernel)
set_option maxRecDepth 65536 in
theorem w_c40 : (Jvm.Cond.code ({ cls := "jdk/internal/util/Preconditions", name := "checkIndex", desc := "(IILjava/util/function/BiFunction;)I" } : Jvm.MethodName) jdk_41_method_11_code (3 : Nat) (Option.some Jvm.ClassFile.FieldType.int)).before args0 about1 = true := code_word (m := ⟨19, 1⟩) (meth := k19m1) (c := k19c1) (by decide +kernel) rfl rfl rfl (by decide +kernel)
set_option maxRecDepth 65536 in
theorem w_c41 : (Jvm.Cond.code ({ cls := "java/lang/String", name := "valueOf", desc := "(C)Ljava/lang/String;" } : Jvm.MethodName) jdk_42_method_139_code (1 : Nat) (Option.some (Jvm.ClassFile.FieldType.object "java/lang/String"))).before args0 about1 = true := code_word (m := ⟨7, 5⟩) (meth := k7m5) (c := k7c5) (by decide +kernel) rfl rfl rfl (by decide +kernel)
set_option maxRecDepth 65536 in
theorem w_c42 : (Jvm.Cond.code ({ cls := "java/lang/StringLatin1", name := "canEncode", desc := "(C)Z" } : Jvm.MethodName) jdk_43_method_3_code (1 : Nat) (Option.some Jvm.ClassFile.FieldType.boolean)).before args0 about1 = true := code_word (m := ⟨18, 2⟩) (meth := k18m2) (c := k18c2) (by decide +kernel) rfl rfl rfl (by decide +kernel)
set_option maxRecDepth 65536 in
theorem w_c43 : (Jvm.Cond.code ({ cls := "java/lang/StringLatin1", name := "toBytes", desc := "(C)[B" } : Jvm.MethodName) jdk_43_method_46_code (1 : Nat) (Option.some (Jvm.ClassFile.FieldType.array Jvm.ClassFile.FieldType.byte))).before args0 about1 = true := code_word (m := ⟨18, 3⟩) (meth := k18m3) (c := k18c3) (by decide +kernel) rfl rfl rfl (by decide +kernel)
set_option maxRecDepth 65536 in
theorem w_c44 : (Jvm.Cond.code ({ cls := "java/lang/String", name := "<init>", desc := "([BB)V" } : Jvm.MethodName) jdk_42_method_151_code (3 : Nat) (Option.none : Option Jvm.ClassFile.FieldType)).before args0 about1 = true := code_word (m := ⟨7, 9⟩) (meth := k7m9) (c := k7c9) (by decide +kernel) rfl rfl rfl (by decide +kernel)
set_option maxRecDepth 65536 in
theorem w_c45 : (Jvm.Cond.code ({ cls := "java/lang/String", name := "<init>", desc := "([C)V" } : Jvm.MethodName) jdk_42_method_3_code (2 : Nat) (Option.none : Option Jvm.ClassFile.FieldType)).before args0 about1 = true := code_word (m := ⟨7, 1⟩) (meth := k7m1) (c := k7c1) (by decide +kernel) rfl rfl rfl (by decide +kernel)
set_option maxRecDepth 65536 in
theorem w_c46 : (Jvm.Cond.code ({ cls := "java/lang/String", name := "<init>", desc := "([CIILjava/lang/Void;)V" } : Jvm.MethodName) jdk_42_method_149_code (6 : Nat) (Option.none : Option Jvm.ClassFile.FieldType)).before args0 about1 = true := code_word (m := ⟨7, 7⟩) (meth := k7m7) (c := k7c7) (by decide +kernel) rfl rfl rfl (by decide +kernel)
set_option maxRecDepth 65536 in
theorem w_c47 : (Jvm.Cond.code ({ cls := "java/lang/StringUTF16", name := "compress", desc := "([CII)[B" } : Jvm.MethodName) jdk_52_method_16_code (6 : Nat) (Option.some (Jvm.ClassFile.FieldType.array Jvm.ClassFile.FieldType.byte))).before args0 about1 = true := code_word (m := ⟨20, 2⟩) (meth := k20m2) (c := k20c2) (by decide +kernel) rfl rfl rfl (by decide +kernel)
set_option maxRecDepth 65536 in
theorem w_c48 : (Jvm.Cond.code ({ cls := "java/lang/StringUTF16", name := "compress", desc := "([CI[BII)I" } : Jvm.MethodName) jdk_52_method_21_code (7 : Nat) (Option.some Jvm.ClassFile.FieldType.int)).before args0 about1 = true := code_word (m := ⟨20, 3⟩) (meth := k20m3) (c := k20c3) (by decide +kernel) rfl rfl rfl (by decide +kernel)
set_option maxRecDepth 65536 in
theorem w_c49 : (Jvm.Cond.code ({ cls := "java/lang/StringUTF16", name := "coderFromArrayLen", desc := "([BI)B" } : Jvm.MethodName) jdk_52_method_15_code (2 : Nat) (Option.some Jvm.ClassFile.FieldType.byte)).before args0 about1 = true := code_word (m := ⟨20, 1⟩) (meth := k20m1) (c := k20c1) (by decide +kernel) rfl rfl rfl (by decide +kernel)
def codes1 : List Jvm.Cond := [Jvm.Cond.code x code maxLocals ret, Jvm.Cond.code ({ cls := "com/example/proviso/proviso/InvalidInputExceptionUndeclaredPinLaw", name := "mk", desc := "(I)Ljava/lang/String;" } : Jvm.MethodName) method_3_code (5 : Nat) (Option.some (Jvm.ClassFile.FieldType.object "java/lang/String")), Jvm.Cond.code ({ cls := "com/example/proviso/proviso/InvalidInputException", name := "undeclared", desc := "(Ljava/lang/String;Ljava/lang/String;Ljava/lang/String;)Lcom/example/proviso/proviso/InvalidInputException;" } : Jvm.MethodName) prog_12_method_2_code (3 : Nat) (Option.some (Jvm.ClassFile.FieldType.object "com/example/proviso/proviso/InvalidInputException")), Jvm.Cond.code ({ cls := "java/lang/StringBuilder", name := "<init>", desc := "()V" } : Jvm.MethodName) jdk_67_method_1_code (1 : Nat) (Option.none : Option Jvm.ClassFile.FieldType), Jvm.Cond.code ({ cls := "java/lang/AbstractStringBuilder", name := "<init>", desc := "(I)V" } : Jvm.MethodName) jdk_68_method_2_code (2 : Nat) (Option.none : Option Jvm.ClassFile.FieldType), Jvm.Cond.code ({ cls := "java/lang/Object", name := "<init>", desc := "()V" } : Jvm.MethodName) object_method_1_code (1 : Nat) (Option.none : Option Jvm.ClassFile.FieldType), Jvm.Cond.code ({ cls := "java/lang/StringBuilder", name := "append", desc := "(Ljava/lang/String;)Ljava/lang/StringBuilder;" } : Jvm.MethodName) jdk_67_method_7_code (2 : Nat) (Option.some (Jvm.ClassFile.FieldType.object "java/lang/StringBuilder")), Jvm.Cond.code ({ cls := "java/lang/AbstractStringBuilder", name := "append", desc := "(Ljava/lang/String;)Ljava/lang/AbstractStringBuilder;" } : Jvm.MethodName) jdk_68_method_22_code (3 : Nat) (Option.some (Jvm.ClassFile.FieldType.object "java/lang/AbstractStringBuilder")), Jvm.Cond.code ({ cls := "java/lang/String", name := "length", desc := "()I" } : Jvm.MethodName) jdk_42_method_54_code (1 : Nat) (Option.some Jvm.ClassFile.FieldType.int), Jvm.Cond.code ({ cls := "java/lang/String", name := "coder", desc := "()B" } : Jvm.MethodName) jdk_42_method_152_code (1 : Nat) (Option.some Jvm.ClassFile.FieldType.byte), Jvm.Cond.code ({ cls := "java/lang/AbstractStringBuilder", name := "ensureCapacityInternal", desc := "(I)V" } : Jvm.MethodName) jdk_68_method_9_code (3 : Nat) (Option.none : Option Jvm.ClassFile.FieldType), Jvm.Cond.code ({ cls := "java/lang/AbstractStringBuilder", name := "putStringAt", desc := "(ILjava/lang/String;)V" } : Jvm.MethodName) jdk_68_method_73_code (3 : Nat) (Option.none : Option Jvm.ClassFile.FieldType), Jvm.Cond.code ({ cls := "java/lang/AbstractStringBuilder", name := "inflateIfNeededFor", desc := "(Ljava/lang/String;)V" } : Jvm.MethodName) jdk_68_method_71_code (2 : Nat) (Option.none : Option Jvm.ClassFile.FieldType), Jvm.Cond.code ({ cls := "java/lang/String", name := "getBytes", desc := "([BIB)V" } : Jvm.MethodName) jdk_42_method_147_code (4 : Nat) (Option.none : Option Jvm.ClassFile.FieldType), Jvm.Cond.code ({ cls := "java/lang/AbstractStringBuilder", name := "newCapacity", desc := "(I)I" } : Jvm.MethodName) jdk_68_method_10_code (6 : Nat) (Option.some Jvm.ClassFile.FieldType.int), Jvm.Cond.code ({ cls := "jdk/internal/util/ArraysSupport", name := "newLength", desc := "(III)I" } : Jvm.MethodName) jdk_48_method_27_code (4 : Nat) (Option.some Jvm.ClassFile.FieldType.int), Jvm.Cond.code ({ cls := "java/lang/Math", name := "max", desc := "(II)I" } : Jvm.MethodName) jdk_29_method_65_code (2 : Nat) (Option.some Jvm.ClassFile.FieldType.int), Jvm.Cond.code ({ cls := "java/util/Arrays", name := "copyOf", desc := "([BI)[B" } : Jvm.MethodName) jdk_65_method_121_code (3 : Nat) (Option.some (Jvm.ClassFile.FieldType.array Jvm.ClassFile.FieldType.byte)), Jvm.Cond.code ({ cls := "java/lang/Math", name := "min", desc := "(II)I" } : Jvm.MethodName) jdk_29_method_69_code (2 : Nat) (Option.some Jvm.ClassFile.FieldType.int), Jvm.Cond.code ({ cls := "java/lang/StringBuilder", name := "toString", desc := "()Ljava/lang/String;" } : Jvm.MethodName) jdk_67_method_42_code (1 : Nat) (Option.some (Jvm.ClassFile.FieldType.object "java/lang/String")), Jvm.Cond.code ({ cls := "java/lang/String", name := "<init>", desc := "(Ljava/lang/StringBuilder;)V" } : Jvm.MethodName) jdk_42_method_53_code (2 : Nat) (Option.none : Option Jvm.ClassFile.FieldType), Jvm.Cond.code ({ cls := "java/lang/String", name := "<init>", desc := "(Ljava/lang/AbstractStringBuilder;Ljava/lang/Void;)V" } : Jvm.MethodName) jdk_42_method_150_code (5 : Nat) (Option.none : Option Jvm.ClassFile.FieldType), Jvm.Cond.code ({ cls := "java/lang/AbstractStringBuilder", name := "getValue", desc := "()[B" } : Jvm.MethodName) jdk_68_method_64_code (1 : Nat) (Option.some (Jvm.ClassFile.FieldType.array Jvm.ClassFile.FieldType.byte)), Jvm.Cond.code ({ cls := "java/lang/StringBuilder", name := "length", desc := "()I" } : Jvm.MethodName) jdk_67_method_93_code (1 : Nat) (Option.some Jvm.ClassFile.FieldType.int), Jvm.Cond.code ({ cls := "java/lang/AbstractStringBuilder", name := "length", desc := "()I" } : Jvm.MethodName) jdk_68_method_6_code (1 : Nat) (Option.some Jvm.ClassFile.FieldType.int), Jvm.Cond.code ({ cls := "java/lang/AbstractStringBuilder", name := "isLatin1", desc := "()Z" } : Jvm.MethodName) jdk_68_method_68_code (1 : Nat) (Option.some Jvm.ClassFile.FieldType.boolean), Jvm.Cond.code ({ cls := "java/util/Arrays", name := "copyOfRange", desc := "([BII)[B" } : Jvm.MethodName) jdk_65_method_132_code (3 : Nat) (Option.some (Jvm.ClassFile.FieldType.array Jvm.ClassFile.FieldType.byte)), Jvm.Cond.code ({ cls := "java/util/Arrays", name := "copyOfRangeByte", desc := "([BII)[B" } : Jvm.MethodName) jdk_65_method_133_code (5 : Nat) (Option.some (Jvm.ClassFile.FieldType.array Jvm.ClassFile.FieldType.byte)), Jvm.Cond.code ({ cls := "java/util/Arrays", name := "checkLength", desc := "(II)V" } : Jvm.MethodName) jdk_65_method_131_code (2 : Nat) (Option.none : Option Jvm.ClassFile.FieldType), Jvm.Cond.code ({ cls := "com/example/proviso/proviso/InvalidInputException", name := "<init>", desc := "(Ljava/lang/String;)V" } : Jvm.MethodName) prog_12_method_1_code (2 : Nat) (Option.none : Option Jvm.ClassFile.FieldType), Jvm.Cond.code ({ cls := "java/lang/Exception", name := "<init>", desc := "(Ljava/lang/String;)V" } : Jvm.MethodName) jdk_59_method_2_code (2 : Nat) (Option.none : Option Jvm.ClassFile.FieldType), Jvm.Cond.code ({ cls := "java/lang/Throwable", name := "<init>", desc := "(Ljava/lang/String;)V" } : Jvm.MethodName) jdk_78_method_2_code (2 : Nat) (Option.none : Option Jvm.ClassFile.FieldType), Jvm.Cond.code ({ cls := "java/lang/Throwable", name := "<init>", desc := "()V" } : Jvm.MethodName) jdk_78_method_1_code (1 : Nat) (Option.none : Option Jvm.ClassFile.FieldType), Jvm.Cond.code ({ cls := "java/lang/Throwable", name := "getMessage", desc := "()Ljava/lang/String;" } : Jvm.MethodName) jdk_78_method_6_code (1 : Nat) (Option.some (Jvm.ClassFile.FieldType.object "java/lang/String")), Jvm.Cond.code ({ cls := "com/example/proviso/proviso/InvalidInputExceptionUndeclaredPinLaw", name := "same", desc := "(Ljava/lang/String;ILjava/lang/String;)Z" } : Jvm.MethodName) method_4_code (4 : Nat) (Option.some Jvm.ClassFile.FieldType.boolean), Jvm.Cond.code ({ cls := "com/example/proviso/proviso/InvalidInputExceptionUndeclaredPinLaw", name := "names", desc := "(Ljava/lang/String;I)Z" } : Jvm.MethodName) method_5_code (2 : Nat) (Option.some Jvm.ClassFile.FieldType.boolean), Jvm.Cond.code ({ cls := "java/lang/String", name := "charAt", desc := "(I)C" } : Jvm.MethodName) jdk_42_method_56_code (2 : Nat) (Option.some Jvm.ClassFile.FieldType.char), Jvm.Cond.code ({ cls := "java/lang/String", name := "isLatin1", desc := "()Z" } : Jvm.MethodName) jdk_42_method_154_code (1 : Nat) (Option.some Jvm.ClassFile.FieldType.boolean), Jvm.Cond.code ({ cls := "java/lang/StringLatin1", name := "charAt", desc := "([BI)C" } : Jvm.MethodName) jdk_43_method_2_code (2 : Nat) (Option.some Jvm.ClassFile.FieldType.char), Jvm.Cond.code ({ cls := "java/lang/String", name := "checkIndex", desc := "(II)V" } : Jvm.MethodName) jdk_42_method_155_code (2 : Nat) (Option.none : Option Jvm.ClassFile.FieldType), Jvm.Cond.code ({ cls := "jdk/internal/util/Preconditions", name := "checkIndex", desc := "(IILjava/util/function/BiFunction;)I" } : Jvm.MethodName) jdk_41_method_11_code (3 : Nat) (Option.some Jvm.ClassFile.FieldType.int), Jvm.Cond.code ({ cls := "java/lang/String", name := "valueOf", desc := "(C)Ljava/lang/String;" } : Jvm.MethodName) jdk_42_method_139_code (1 : Nat) (Option.some (Jvm.ClassFile.FieldType.object "java/lang/String")), Jvm.Cond.code ({ cls := "java/lang/StringLatin1", name := "canEncode", desc := "(C)Z" } : Jvm.MethodName) jdk_43_method_3_code (1 : Nat) (Option.some Jvm.ClassFile.FieldType.boolean), Jvm.Cond.code ({ cls := "java/lang/StringLatin1", name := "toBytes", desc := "(C)[B" } : Jvm.MethodName) jdk_43_method_46_code (1 : Nat) (Option.some (Jvm.ClassFile.FieldType.array Jvm.ClassFile.FieldType.byte)), Jvm.Cond.code ({ cls := "java/lang/String", name := "<init>", desc := "([BB)V" } : Jvm.MethodName) jdk_42_method_151_code (3 : Nat) (Option.none : Option Jvm.ClassFile.FieldType), Jvm.Cond.code ({ cls := "java/lang/String", name := "<init>", desc := "([C)V" } : Jvm.MethodName) jdk_42_method_3_code (2 : Nat) (Option.none : Option Jvm.ClassFile.FieldType), Jvm.Cond.code ({ cls := "java/lang/String", name := "<init>", desc := "([CIILjava/lang/Void;)V" } : Jvm.MethodName) jdk_42_method_149_code (6 : Nat) (Option.none : Option Jvm.ClassFile.FieldType), Jvm.Cond.code ({ cls := "java/lang/StringUTF16", name := "compress", desc := "([CII)[B" } : Jvm.MethodName) jdk_52_method_16_code (6 : Nat) (Option.some (Jvm.ClassFile.FieldType.array Jvm.ClassFile.FieldType.byte)), Jvm.Cond.code ({ cls := "java/lang/StringUTF16", name := "compress", desc := "([CI[BII)I" } : Jvm.MethodName) jdk_52_method_21_code (7 : Nat) (Option.some Jvm.ClassFile.FieldType.int), Jvm.Cond.code ({ cls := "java/lang/StringUTF16", name := "coderFromArrayLen", desc := "([BI)B" } : Jvm.MethodName) jdk_52_method_15_code (2 : Nat) (Option.some Jvm.ClassFile.FieldType.byte)]
set_option maxRecDepth 65536 in
theorem codes_eq : words1.filter isCode = codes1 := rfl
theorem w_codes : ∀ c ∈ words1.filter isCode, c.before args0 about1 = true := by
  rw [codes_eq]
  intro c hc
  simp only [codes1, List.mem_cons, List.not_mem_nil, or_false] at hc
  rcases hc with rfl | rfl | rfl | rfl | rfl | rfl | rfl | rfl | rfl | rfl | rfl | rfl | rfl | rfl | rfl | rfl | rfl | rfl | rfl | rfl | rfl | rfl | rfl | rfl | rfl | rfl | rfl | rfl | rfl | rfl | rfl | rfl | rfl | rfl | rfl | rfl | rfl | rfl | rfl | rfl | rfl | rfl | rfl | rfl | rfl | rfl | rfl | rfl | rfl | rfl
  · exact w_c0
  · exact w_c1
  · exact w_c2
  · exact w_c3
  · exact w_c4
  · exact w_c5
  · exact w_c6
  · exact w_c7
  · exact w_c8
  · exact w_c9
  · exact w_c10
  · exact w_c11
  · exact w_c12
  · exact w_c13
  · exact w_c14
  · exact w_c15
  · exact w_c16
  · exact w_c17
  · exact w_c18
  · exact w_c19
  · exact w_c20
  · exact w_c21
  · exact w_c22
  · exact w_c23
  · exact w_c24
  · exact w_c25
  · exact w_c26
  · exact w_c27
  · exact w_c28
  · exact w_c29
  · exact w_c30
  · exact w_c31
  · exact w_c32
  · exact w_c33
  · exact w_c34
  · exact w_c35
  · exact w_c36
  · exact w_c37
  · exact w_c38
  · exact w_c39
  · exact w_c40
  · exact w_c41
  · exact w_c42
  · exact w_c43
  · exact w_c44
  · exact w_c45
  · exact w_c46
  · exact w_c47
  · exact w_c48
  · exact w_c49
set_option maxRecDepth 65536 in
theorem w_t1 : (words1.take 24).all (fun c => isCode c || c.before args0 about1) = true := by decide +kernel
set_option maxRecDepth 65536 in
theorem w_t2 : ((words1.drop 24).take 24).all (fun c => isCode c || c.before args0 about1) = true := by decide +kernel
set_option maxRecDepth 65536 in
theorem w_t3 : (((words1.drop 24).drop 24).take 24).all (fun c => isCode c || c.before args0 about1) = true := by decide +kernel
set_option maxRecDepth 65536 in
theorem w_t4 : ((((words1.drop 24).drop 24).drop 24).take 24).all (fun c => isCode c || c.before args0 about1) = true := by decide +kernel
set_option maxRecDepth 65536 in
theorem w_t5 : (((((words1.drop 24).drop 24).drop 24).drop 24).take 24).all (fun c => isCode c || c.before args0 about1) = true := by decide +kernel
set_option maxRecDepth 65536 in
theorem w_t6 : ((((((words1.drop 24).drop 24).drop 24).drop 24).drop 24).take 24).all (fun c => isCode c || c.before args0 about1) = true := by decide +kernel
set_option maxRecDepth 65536 in
theorem w_t7 : (((((((words1.drop 24).drop 24).drop 24).drop 24).drop 24).drop 24).take 24).all (fun c => isCode c || c.before args0 about1) = true := by decide +kernel
set_option maxRecDepth 65536 in
theorem w_t8 : ((((((((words1.drop 24).drop 24).drop 24).drop 24).drop 24).drop 24).drop 24).take 24).all (fun c => isCode c || c.before args0 about1) = true := by decide +kernel
set_option maxRecDepth 65536 in
theorem w_t9 : (((((((((words1.drop 24).drop 24).drop 24).drop 24).drop 24).drop 24).drop 24).drop 24).take 24).all (fun c => isCode c || c.before args0 about1) = true := by decide +kernel
set_option maxRecDepth 65536 in
theorem w_t10 : ((((((((((words1.drop 24).drop 24).drop 24).drop 24).drop 24).drop 24).drop 24).drop 24).drop 24).take 24).all (fun c => isCode c || c.before args0 about1) = true := by decide +kernel
set_option maxRecDepth 65536 in
theorem w_t11 : (((((((((((words1.drop 24).drop 24).drop 24).drop 24).drop 24).drop 24).drop 24).drop 24).drop 24).drop 24).take 24).all (fun c => isCode c || c.before args0 about1) = true := by decide +kernel
set_option maxRecDepth 65536 in
theorem w_t12 : (((((((((((words1.drop 24).drop 24).drop 24).drop 24).drop 24).drop 24).drop 24).drop 24).drop 24).drop 24).drop 24).all (fun c => isCode c || c.before args0 about1) = true := by decide +kernel
theorem w_tables : (allAtoms (Jvm.Cond.code x code maxLocals ret :: tables_1)).before args0 about1 = true := by
  rw [allAtoms_all]
  show words1.all (fun c => c.before args0 about1) = true
  refine all_split ?_ w_codes
  rw [← List.take_append_drop 24 words1, List.all_append, w_t1, ← List.take_append_drop 24 (words1.drop 24), List.all_append, w_t2, ← List.take_append_drop 24 ((words1.drop 24).drop 24), List.all_append, w_t3, ← List.take_append_drop 24 (((words1.drop 24).drop 24).drop 24), List.all_append, w_t4, ← List.take_append_drop 24 ((((words1.drop 24).drop 24).drop 24).drop 24), List.all_append, w_t5, ← List.take_append_drop 24 (((((words1.drop 24).drop 24).drop 24).drop 24).drop 24), List.all_append, w_t6, ← List.take_append_drop 24 ((((((words1.drop 24).drop 24).drop 24).drop 24).drop 24).drop 24), List.all_append, w_t7, ← List.take_append_drop 24 (((((((words1.drop 24).drop 24).drop 24).drop 24).drop 24).drop 24).drop 24), List.all_append, w_t8, ← List.take_append_drop 24 ((((((((words1.drop 24).drop 24).drop 24).drop 24).drop 24).drop 24).drop 24).drop 24), List.all_append, w_t9, ← List.take_append_drop 24 (((((((((words1.drop 24).drop 24).drop 24).drop 24).drop 24).drop 24).drop 24).drop 24).drop 24), List.all_append, w_t10, ← List.take_append_drop 24 ((((((((((words1.drop 24).drop 24).drop 24).drop 24).drop 24).drop 24).drop 24).drop 24).drop 24).drop 24), List.all_append, w_t11, w_t12]
  rfl
set_option maxRecDepth 65536 in
theorem w_rest : rest_1_c.before args0 about1 = true := by decide +kernel
set_option maxRecDepth 65536 in
theorem w_case : (Jvm.Cond.and given_1 narrow_1).before args0 about1 = true := by decide +kernel
set_option maxRecDepth 65536 in
theorem w_consts : constsHeld consts_1 about1 := Jvm.Lit.constsHeldB_iff.mp (by decide +kernel)
theorem w_applies : (headSpec (Jvm.Cond.code x code maxLocals ret :: tables_1) room_1).applies x e0.platform about1 = true :=
  (Spec.applies_iff w_frames).mpr ⟨w_running, w_runnable, w_alone, w_named, w_hears, w_ripe, w_room, w_tables⟩
theorem atStart : AtStart classFile x code maxLocals ret World_1 tables_1 room_1 Calls_1 rest_1 Pre_1 launch0 p0 e0 about1 theMethod args0 below0 :=
  ⟨lists_1, trivial, launch0.admits_env _ _ _, launch0.least_env, fairChoices_fair.cas, fairChoices_fair.clock, w_frames, w_args, w_heap, w_applies, ⟨(by decide +kernel : framesKnown about1 = true), ⟨(by decide +kernel : tablesKnown about1 = true), ⟨w_consts, trivial⟩⟩⟩, w_rest, w_case⟩
end start1
theorem witness_1 : WitnessClaimed_1 := ⟨start1.p0, start1.e0, start1.about1, start1.theMethod, start1.args0, start1.below0, start1.atStart⟩
end Jvm.Pilot.@@N@@
