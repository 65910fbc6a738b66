import JvmDerived
import JvmDerived.Pilot.@@N@@Statement
import JvmDerived.Pilot.@@N@@Code
set_option linter.unusedVariables false
set_option linter.unusedSimpArgs false
namespace Jvm.Own
open Jvm Jvm.ClassFile Sem Op Lib Jvm.Free Jvm.Stand Jvm.LawKit Jvm.RoadKit Bundle
def D1 (b : ByteArray) (pc : Nat) (i : Instr) (len nx : Nat) : Prop := decode b pc = .ok (i, len) ∧ pc + len = nx
def DJ (b : ByteArray) (pc : Nat) (i : Int → Instr) (o : Int) (nx tgt : Nat) : Prop := decode b pc = .ok (i o, 3) ∧ pc + 3 = nx ∧ (pc : Int) + o = (tgt : Int)
/-- private cells: no booked literal lies there -/
def SafeL (Z : State) (EL : List (String × Nat)) (vm : Vm) (h : Heap) (F : List Addr) : Prop := ∀ x ∈ F, x < h.size ∧ Safe Z EL vm h x
/-- the start's two words on known tables and frames -/
def Gn (Z : State) : Prop := Z.vm.MethodsKnown ∧ Z.vm.FramesKnown (Z.frames.drop 1)
/-- what a walk knows of the frames beneath and of the heap at its own start -/
def Kn (Z s : State) (below : List Frame) : Prop := (Gn Z → Z.vm.FramesKnown below) ∧ Ext Z.heap s.heap
/-- where a walk stands -/
def Std (l : Launch) (Z : State) (EL : List (String × Nat)) (n0 : Nat) (R : Room) (y : MethodName) (bytes : ByteArray) (ml : Nat) (ret : Option FieldType)
    (p : Program) (e : Env) (s : State) (m : MethodId) (args : Array Value) (below : List Frame) (meth : Method) (c : Code) (T : State) (vm0 : Vm) (locs : List Loc) (F : List Addr) (h : Heap) (cells slots : Nat) : Prop :=
  Stand p l e R (s.setVm vm0) m args below meth c T locs cells slots ∧ T.heap = h ∧ (∃ k, s.Since vm0 k ∧ k ≤ h.size) ∧ Z.Warmed39 vm0 ∧ vm0.findClass y.cls = some m.cls ∧ CHr Z EL s.vm s.heap vm0 h ∧ SafeL Z EL vm0 h F ∧ Fr n0 locs ∧ Old Z n0 h ∧
    p.tables.exec = Jvm.exec ∧ c.code = bytes ∧ c.maxLocals = ml ∧ meth.sig.returnType = ret ∧ meth.locks = false ∧ meth.name = y.name ∧ (∃ a0, EW Z a0 EL) ∧ Kn Z s below
/-- how a walk ends -/
def Done (l : Launch) (Z : State) (EL : List (String × Nat)) (n0 : Nat) (R : Room) (Q : Option Value → Heap → List Addr → Prop) (p : Program) (e : Env) (s : State) (below : List Frame) (U : State) : Prop :=
  ∃ t o, Steps p.tables e below U t ∧ t.status = .running ∧ Ended t below o ∧ ∃ v L, o = .returned v ∧ ((∃ F, Q v t.heap F ∧ SafeL Z EL t.vm t.heap F) ∧ Fr n0 L ∧ Old Z n0 t.heap) ∧ CHr Z EL s.vm s.heap t.vm t.heap ∧ ReturnedEndW s o t L R.cells R.slots
/-- from a standing walk at this frame the method returns as Q says -/
def WP (l : Launch) (Z : State) (EL : List (String × Nat)) (n0 : Nat) (R : Room) (y : MethodName) (bytes : ByteArray) (ml : Nat) (ret : Option FieldType) (Q : Option Value → Heap → List Addr → Prop)
    (F : List Addr) (h : Heap) (cells slots pc : Nat) (Ls : Array Slot) (S : List Value) : Prop :=
  ∀ p e s m args below meth c T vm0 locs, Std l Z EL n0 R y bytes ml ret p e s m args below meth c T vm0 locs F h cells slots → Done l Z EL n0 R Q p e s below (T.setTop (mkF m pc Ls S))
section Rules
variable {l : Launch} {Z : State} {EL : List (String × Nat)} {n0 : Nat} {R : Room} {y : MethodName} {bytes : ByteArray} {ml : Nat} {ret : Option FieldType} {Q : Option Value → Heap → List Addr → Prop}
  {F : List Addr} {h : Heap} {cells slots pc pc' : Nat} {Ls Ls' : Array Slot} {S S' : List Value} {a0 : Array Value}
theorem Done.step {p : Program} {e : Env} {s : State} {below : List Frame} {U V : State} (st : ∀ t, Steps p.tables e below U t → Steps p.tables e below V t) (D : Done l Z EL n0 R Q p e s below U) : Done l Z EL n0 R Q p e s below V := by
  obtain ⟨t, o, h1, r⟩ := D
  exact ⟨t, o, st t h1, r⟩
theorem WP.lift (st : ∀ (p : Program) (e : Env) (m : MethodId) (c : Code) (below : List Frame) (T t : State), p.tables.exec = Jvm.exec → c.code = bytes → At T m c below → Steps p.tables e below (T.setTop (mkF m pc' Ls' S')) t → Steps p.tables e below (T.setTop (mkF m pc Ls S)) t)
    (k : WP l Z EL n0 R y bytes ml ret Q F h cells slots pc' Ls' S') : WP l Z EL n0 R y bytes ml ret Q F h cells slots pc Ls S :=
  fun p e s m args below meth c T vm0 locs D => (k p e s m args below meth c T vm0 locs D).step fun t q => st p e m c below T t D.2.2.2.2.2.2.2.2.2.1 D.2.2.2.2.2.2.2.2.2.2.1 D.1.here q
/-- a step that leaves the heap -/
theorem WP.same (st : ∀ (p : Program) (e : Env) (s : State) (m : MethodId) (args : Array Value) (below : List Frame) (meth : Method) (c : Code) (T : State) (vm0 : Vm) (locs : List Loc), Std l Z EL n0 R y bytes ml ret p e s m args below meth c T vm0 locs F h cells slots →
      ∃ T', Stand p l e R (s.setVm vm0) m args below meth c T' locs cells slots ∧ T'.heap = h ∧ ∀ t, Steps p.tables e below (T'.setTop (mkF m pc' Ls' S')) t → Steps p.tables e below (T.setTop (mkF m pc Ls S)) t)
    (k : WP l Z EL n0 R y bytes ml ret Q F h cells slots pc' Ls' S') : WP l Z EL n0 R y bytes ml ret Q F h cells slots pc Ls S := by
  intro p e s m args below meth c T vm0 locs D
  obtain ⟨T', X', e', q⟩ := st p e s m args below meth c T vm0 locs D
  obtain ⟨-, -, r⟩ := D
  exact (k p e s m args below meth c T' vm0 locs ⟨X', e', r⟩).step q
/-- a step that makes a cell -/
theorem WP.grow {P : Heap → Prop} {cells' slots' : Nat} {G : List Addr} (hG : ∀ h', Ext h h' → P h' → ∀ x ∈ G, x < h'.size ∧ h.size ≤ x) (st : ∀ (p : Program) (e : Env) (s : State) (m : MethodId) (args : Array Value) (below : List Frame) (meth : Method) (c : Code) (T : State) (vm0 : Vm) (locs : List Loc), Std l Z EL n0 R y bytes ml ret p e s m args below meth c T vm0 locs F h cells slots →
      ∃ T' h', Stand p l e R (s.setVm vm0) m args below meth c T' locs cells' slots' ∧ T'.heap = h' ∧ Ext h h' ∧ P h' ∧ ∀ t, Steps p.tables e below (T'.setTop (mkF m pc' Ls' S')) t → Steps p.tables e below (T.setTop (mkF m pc Ls S)) t)
    (k : ∀ h', Ext h h' → P h' → WP l Z EL n0 R y bytes ml ret Q (G ++ F) h' cells' slots' pc' Ls' S') : WP l Z EL n0 R y bytes ml ret Q F h cells slots pc Ls S := by
  intro p e s m args below meth c T vm0 locs D
  obtain ⟨T', h', X', e', E, hP, q⟩ := st p e s m args below meth c T vm0 locs D
  obtain ⟨-, -, ⟨k0, hS, hk⟩, hZ, hown, hC, hF, hN, hO, r⟩ := D
  refine (k h' E hP p e s m args below meth c T' vm0 locs ⟨X', e', ⟨k0, hS, Nat.le_trans hk E.1⟩, hZ, hown, hC.trans (CHr.ext E hC.1), fun x hx => ?_, hN, hO.ext E, r⟩).step q
  rcases List.mem_append.mp hx with hx | hx
  · obtain ⟨q1, q2⟩ := hG h' E hP x hx
    exact ⟨q1, fun B => Safe.new q2 ((hC.1.step fun _ _ _ q => E.2 _ _ q).2 _ B)⟩
  · exact ⟨Nat.lt_of_lt_of_le (hF x hx).1 E.1, (hF x hx).2.ext E hC.1⟩
/-- how a write is known to hit no literal -/
def SafeBy (Z : State) (EL : List (String × Nat)) (F : List Addr) (h : Heap) (a : Addr) : Prop := a < h.size ∧ ∀ vm, Z.vm.Alike vm → SafeL Z EL vm h F → Safe Z EL vm h a
theorem SafeBy.mem {a : Addr} (hl : a < h.size) (hm : a ∈ F) : SafeBy Z EL F h a := ⟨hl, fun _ _ q => (q a hm).2⟩
theorem SafeBy.exa {a : Addr} {C : String} (E : Exa Z h a C) (h1 : C ≠ "java/lang/String" := by decide) (h2 : C ≠ "[B" := by decide) : SafeBy Z EL F h a := ⟨E.lt, fun _ hal _ => Safe.exa hal E h1 h2⟩
theorem SafeBy.arr {a : Addr} {cl : Cell} {ty : FieldType} (A : Arr Z h a cl ty) (ht : ty ≠ .byte := by decide) : SafeBy Z EL F h a := ⟨A.lt, fun _ hal _ => Safe.arr hal A ht⟩
/-- a step that writes one place -/
theorem WP.write {a : Addr} {sl : Nat} {v : Value} (na : n0 ≤ a) (hs : SafeBy Z EL F h a) (st : ∀ (p : Program) (e : Env) (s : State) (m : MethodId) (args : Array Value) (below : List Frame) (meth : Method) (c : Code) (T : State) (vm0 : Vm) (locs : List Loc), Std l Z EL n0 R y bytes ml ret p e s m args below meth c T vm0 locs F h cells slots →
      ∃ T' h', Stand p l e R (s.setVm vm0) m args below meth c T' (locs ++ [⟨a, sl⟩]) cells slots ∧ T'.heap = h' ∧ Wr h h' a sl v ∧ ∀ t, Steps p.tables e below (T'.setTop (mkF m pc' Ls' S')) t → Steps p.tables e below (T.setTop (mkF m pc Ls S)) t)
    (k : ∀ h', Wr h h' a sl v → WP l Z EL n0 R y bytes ml ret Q F h' cells slots pc' Ls' S') : WP l Z EL n0 R y bytes ml ret Q F h cells slots pc Ls S := by
  intro p e s m args below meth c T vm0 locs D
  obtain ⟨T', h', X', e', W, q⟩ := st p e s m args below meth c T vm0 locs D
  obtain ⟨-, -, ⟨k0, hS, hk⟩, hZ, hown, hC, hF, hN, hO, r⟩ := D
  have sa := hs.2 vm0 hZ.alike hF
  refine (k h' W p e s m args below meth c T' vm0 _ ⟨X', e', ⟨k0, hS, by rw [W.size]; exact hk⟩, hZ, hown, hC.trans (CHr.wr W sa hC.1), fun x hx => ⟨by rw [W.size]; exact (hF x hx).1, Safe.wr W sa hC.1 (hF x hx).2⟩, Fr.snoc X' hN na, hO.wr W na, r⟩).step q
theorem WP.more {cells' slots' : Nat} (hc : cells ≤ cells') (hl : slots ≤ slots') (k : WP l Z EL n0 R y bytes ml ret Q F h cells' slots' pc Ls S) : WP l Z EL n0 R y bytes ml ret Q F h cells slots pc Ls S := by
  intro p e s m args below meth c T vm0 locs D
  obtain ⟨X, r⟩ := D
  exact k p e s m args below meth c T vm0 locs ⟨X.more hc hl, r⟩
theorem WP.less {F' : List Addr} (hF : ∀ x ∈ F', x ∈ F) (k : WP l Z EL n0 R y bytes ml ret Q F' h cells slots pc Ls S) : WP l Z EL n0 R y bytes ml ret Q F h cells slots pc Ls S := by
  intro p e s m args below meth c T vm0 locs D
  obtain ⟨X, e0, hS, hZ, hown, hC, hs, r⟩ := D
  exact k p e s m args below meth c T vm0 locs ⟨X, e0, hS, hZ, hown, hC, fun x hx => hs x (hF x hx), r⟩
/-- the end -/
theorem WP.leave {v : Option Value} (st : ∀ (p : Program) (e : Env) (s : State) (m : MethodId) (args : Array Value) (below : List Frame) (meth : Method) (c : Code) (T : State) (vm0 : Vm) (locs : List Loc) (fs : List Frame), Std l Z EL n0 R y bytes ml ret p e s m args below meth c T vm0 locs F h cells slots →
      (∀ (f : JFrame) (acts : List Action), f.method = m → f.locked = none → f.entered = [] → (doReturn e (T.setTop f) acts v).1 = T.setFrames fs) → Steps p.tables e below (T.setTop (mkF m pc Ls S)) (T.setFrames fs))
    (hv : ret = none → v = none) (hc : cells ≤ R.cells) (hl : slots ≤ R.slots) {G : List Addr} (hG : ∀ x ∈ G, x ∈ F) (hQ : Q v h G) : WP l Z EL n0 R y bytes ml ret Q F h cells slots pc Ls S := by
  intro p e s m args below meth c T vm0 locs D
  have D' := D
  obtain ⟨X, e0, ⟨k0, hS, hk⟩, hZ, hown, hC, hF, hN, hO, hx, hby, hml, hret, hlk, hnm, ⟨a0, hEL⟩, -⟩ := D
  obtain ⟨fs, h1, h2, h3, h4, h5, h6, h7⟩ := X.leaveW hS (by rw [e0]; exact hk) (v := v) (fun q => hv (hret ▸ q)) hlk
  have hhp : (T.setFrames fs).heap = h := by rw [← e0]; rfl
  have B : CHr Z EL vm0 h T.vm h := CHv.at X hZ hEL hC.1
  refine ⟨_, _, st p e s m args below meth c T vm0 locs fs D' h1, h2, h3, v, locs, rfl, ⟨⟨G, by rw [hhp]; exact hQ, fun x hx => ?_⟩, hN, by rw [hhp]; exact hO⟩, by rw [hhp]; exact hC.trans B, h4, h5, h6, h7.mono hc hl⟩
  rw [hhp]
  exact ⟨(hF x (hG x hx)).1, B.safe (hF x (hG x hx)).1 (hF x (hG x hx)).2⟩
end Rules
section Plain
variable {l : Launch} {Z : State} {EL : List (String × Nat)} {n0 : Nat} {R : Room} {y : MethodName} {bytes : ByteArray} {ml : Nat} {ret : Option FieldType} {Q : Option Value → Heap → List Addr → Prop}
  {F : List Addr} {h : Heap} {cells slots pc pc' : Nat} {Ls Ls' : Array Slot} {S S' : List Value} {a0 : Array Value}
theorem WP.iadd {x y' : Int32} (hd : D1 bytes pc .iadd 1 pc') (k : WP l Z EL n0 R y bytes ml ret Q F h cells slots pc' Ls (.int (x + y') :: S)) : WP l Z EL n0 R y bytes ml ret Q F h cells slots pc Ls (.int y' :: .int x :: S) := by
  obtain ⟨hd, rfl⟩ := hd
  exact k.lift fun p e m c below T t hx hby ha q => XS.iadd ha hx rfl (hb hby hd) rfl q
theorem WP.isub {x y' : Int32} (hd : D1 bytes pc .isub 1 pc') (k : WP l Z EL n0 R y bytes ml ret Q F h cells slots pc' Ls (.int (x - y') :: S)) : WP l Z EL n0 R y bytes ml ret Q F h cells slots pc Ls (.int y' :: .int x :: S) := by
  obtain ⟨hd, rfl⟩ := hd
  exact k.lift fun p e m c below T t hx hby ha q => XS.isub ha hx rfl (hb hby hd) rfl q
theorem WP.imul {x y' : Int32} (hd : D1 bytes pc .imul 1 pc') (k : WP l Z EL n0 R y bytes ml ret Q F h cells slots pc' Ls (.int (x * y') :: S)) : WP l Z EL n0 R y bytes ml ret Q F h cells slots pc Ls (.int y' :: .int x :: S) := by
  obtain ⟨hd, rfl⟩ := hd
  exact k.lift fun p e m c below T t hx hby ha q => XS.imul ha hx rfl (hb hby hd) rfl q
theorem WP.iand {x y' : Int32} (hd : D1 bytes pc .iand 1 pc') (k : WP l Z EL n0 R y bytes ml ret Q F h cells slots pc' Ls (.int (x &&& y') :: S)) : WP l Z EL n0 R y bytes ml ret Q F h cells slots pc Ls (.int y' :: .int x :: S) := by
  obtain ⟨hd, rfl⟩ := hd
  exact k.lift fun p e m c below T t hx hby ha q => XS.iand ha hx rfl (hb hby hd) rfl q
theorem WP.ior {x y' : Int32} (hd : D1 bytes pc .ior 1 pc') (k : WP l Z EL n0 R y bytes ml ret Q F h cells slots pc' Ls (.int (x ||| y') :: S)) : WP l Z EL n0 R y bytes ml ret Q F h cells slots pc Ls (.int y' :: .int x :: S) := by
  obtain ⟨hd, rfl⟩ := hd
  exact k.lift fun p e m c below T t hx hby ha q => XS.ior ha hx rfl (hb hby hd) rfl q
theorem WP.ixor {x y' : Int32} (hd : D1 bytes pc .ixor 1 pc') (k : WP l Z EL n0 R y bytes ml ret Q F h cells slots pc' Ls (.int (x ^^^ y') :: S)) : WP l Z EL n0 R y bytes ml ret Q F h cells slots pc Ls (.int y' :: .int x :: S) := by
  obtain ⟨hd, rfl⟩ := hd
  exact k.lift fun p e m c below T t hx hby ha q => XS.ixor ha hx rfl (hb hby hd) rfl q
theorem WP.ishl {x y' : Int32} (hd : D1 bytes pc .ishl 1 pc') (k : WP l Z EL n0 R y bytes ml ret Q F h cells slots pc' Ls (.int (x <<< (y' &&& 31)) :: S)) : WP l Z EL n0 R y bytes ml ret Q F h cells slots pc Ls (.int y' :: .int x :: S) := by
  obtain ⟨hd, rfl⟩ := hd
  exact k.lift fun p e m c below T t hx hby ha q => XS.ishl ha hx rfl (hb hby hd) rfl q
theorem WP.ishr {x y' : Int32} (hd : D1 bytes pc .ishr 1 pc') (k : WP l Z EL n0 R y bytes ml ret Q F h cells slots pc' Ls (.int (x >>> (y' &&& 31)) :: S)) : WP l Z EL n0 R y bytes ml ret Q F h cells slots pc Ls (.int y' :: .int x :: S) := by
  obtain ⟨hd, rfl⟩ := hd
  exact k.lift fun p e m c below T t hx hby ha q => XS.ishr ha hx rfl (hb hby hd) rfl q
theorem WP.iushr {x y' : Int32} (hd : D1 bytes pc .iushr 1 pc') (k : WP l Z EL n0 R y bytes ml ret Q F h cells slots pc' Ls (.int ((x.toUInt32 >>> (y' &&& 31).toUInt32).toInt32) :: S)) : WP l Z EL n0 R y bytes ml ret Q F h cells slots pc Ls (.int y' :: .int x :: S) := by
  obtain ⟨hd, rfl⟩ := hd
  exact k.lift fun p e m c below T t hx hby ha q => XS.iushr ha hx rfl (hb hby hd) rfl q
theorem WP.idiv {x y' : Int32} (hd : D1 bytes pc .idiv 1 pc') (hy : y' ≠ 0) (k : WP l Z EL n0 R y bytes ml ret Q F h cells slots pc' Ls (.int (x / y') :: S)) : WP l Z EL n0 R y bytes ml ret Q F h cells slots pc Ls (.int y' :: .int x :: S) := by
  obtain ⟨hd, rfl⟩ := hd
  exact k.lift fun p e m c below T t hx hby ha q => XS.idiv ha hx rfl (hb hby hd) rfl hy q
theorem WP.irem {x y' : Int32} (hd : D1 bytes pc .irem 1 pc') (hy : y' ≠ 0) (k : WP l Z EL n0 R y bytes ml ret Q F h cells slots pc' Ls (.int (x - (x / y') * y') :: S)) : WP l Z EL n0 R y bytes ml ret Q F h cells slots pc Ls (.int y' :: .int x :: S) := by
  obtain ⟨hd, rfl⟩ := hd
  exact k.lift fun p e m c below T t hx hby ha q => XS.irem ha hx rfl (hb hby hd) rfl hy q
theorem WP.ladd {x y' : Int64} (hd : D1 bytes pc .ladd 1 pc') (k : WP l Z EL n0 R y bytes ml ret Q F h cells slots pc' Ls (.long (x + y') :: S)) : WP l Z EL n0 R y bytes ml ret Q F h cells slots pc Ls (.long y' :: .long x :: S) := by
  obtain ⟨hd, rfl⟩ := hd
  exact k.lift fun p e m c below T t hx hby ha q => XS.ladd ha hx rfl (hb hby hd) rfl q
theorem WP.lsub {x y' : Int64} (hd : D1 bytes pc .lsub 1 pc') (k : WP l Z EL n0 R y bytes ml ret Q F h cells slots pc' Ls (.long (x - y') :: S)) : WP l Z EL n0 R y bytes ml ret Q F h cells slots pc Ls (.long y' :: .long x :: S) := by
  obtain ⟨hd, rfl⟩ := hd
  exact k.lift fun p e m c below T t hx hby ha q => XS.lsub ha hx rfl (hb hby hd) rfl q
theorem WP.lmul {x y' : Int64} (hd : D1 bytes pc .lmul 1 pc') (k : WP l Z EL n0 R y bytes ml ret Q F h cells slots pc' Ls (.long (x * y') :: S)) : WP l Z EL n0 R y bytes ml ret Q F h cells slots pc Ls (.long y' :: .long x :: S) := by
  obtain ⟨hd, rfl⟩ := hd
  exact k.lift fun p e m c below T t hx hby ha q => XS.lmul ha hx rfl (hb hby hd) rfl q
theorem WP.land {x y' : Int64} (hd : D1 bytes pc .land 1 pc') (k : WP l Z EL n0 R y bytes ml ret Q F h cells slots pc' Ls (.long (x &&& y') :: S)) : WP l Z EL n0 R y bytes ml ret Q F h cells slots pc Ls (.long y' :: .long x :: S) := by
  obtain ⟨hd, rfl⟩ := hd
  exact k.lift fun p e m c below T t hx hby ha q => XS.land ha hx rfl (hb hby hd) rfl q
theorem WP.lor {x y' : Int64} (hd : D1 bytes pc .lor 1 pc') (k : WP l Z EL n0 R y bytes ml ret Q F h cells slots pc' Ls (.long (x ||| y') :: S)) : WP l Z EL n0 R y bytes ml ret Q F h cells slots pc Ls (.long y' :: .long x :: S) := by
  obtain ⟨hd, rfl⟩ := hd
  exact k.lift fun p e m c below T t hx hby ha q => XS.lor ha hx rfl (hb hby hd) rfl q
theorem WP.lxor {x y' : Int64} (hd : D1 bytes pc .lxor 1 pc') (k : WP l Z EL n0 R y bytes ml ret Q F h cells slots pc' Ls (.long (x ^^^ y') :: S)) : WP l Z EL n0 R y bytes ml ret Q F h cells slots pc Ls (.long y' :: .long x :: S) := by
  obtain ⟨hd, rfl⟩ := hd
  exact k.lift fun p e m c below T t hx hby ha q => XS.lxor ha hx rfl (hb hby hd) rfl q
theorem WP.ldiv {x y' : Int64} (hd : D1 bytes pc .ldiv 1 pc') (hy : y' ≠ 0) (k : WP l Z EL n0 R y bytes ml ret Q F h cells slots pc' Ls (.long (x / y') :: S)) : WP l Z EL n0 R y bytes ml ret Q F h cells slots pc Ls (.long y' :: .long x :: S) := by
  obtain ⟨hd, rfl⟩ := hd
  exact k.lift fun p e m c below T t hx hby ha q => XS.ldiv ha hx rfl (hb hby hd) rfl hy q
theorem WP.lrem {x y' : Int64} (hd : D1 bytes pc .lrem 1 pc') (hy : y' ≠ 0) (k : WP l Z EL n0 R y bytes ml ret Q F h cells slots pc' Ls (.long (x - (x / y') * y') :: S)) : WP l Z EL n0 R y bytes ml ret Q F h cells slots pc Ls (.long y' :: .long x :: S) := by
  obtain ⟨hd, rfl⟩ := hd
  exact k.lift fun p e m c below T t hx hby ha q => XS.lrem ha hx rfl (hb hby hd) rfl hy q
theorem WP.lshl {x : Int64} {y' : Int32} (hd : D1 bytes pc .lshl 1 pc') (k : WP l Z EL n0 R y bytes ml ret Q F h cells slots pc' Ls (.long (x <<< (y' &&& 0x3f).toInt64) :: S)) : WP l Z EL n0 R y bytes ml ret Q F h cells slots pc Ls (.int y' :: .long x :: S) := by
  obtain ⟨hd, rfl⟩ := hd
  exact k.lift fun p e m c below T t hx hby ha q => XS.lshl ha hx rfl (hb hby hd) rfl q
theorem WP.lshr {x : Int64} {y' : Int32} (hd : D1 bytes pc .lshr 1 pc') (k : WP l Z EL n0 R y bytes ml ret Q F h cells slots pc' Ls (.long (x >>> (y' &&& 0x3f).toInt64) :: S)) : WP l Z EL n0 R y bytes ml ret Q F h cells slots pc Ls (.int y' :: .long x :: S) := by
  obtain ⟨hd, rfl⟩ := hd
  exact k.lift fun p e m c below T t hx hby ha q => XS.lshr ha hx rfl (hb hby hd) rfl q
theorem WP.lushr {x : Int64} {y' : Int32} (hd : D1 bytes pc .lushr 1 pc') (k : WP l Z EL n0 R y bytes ml ret Q F h cells slots pc' Ls (.long ((x.toUInt64 >>> (y' &&& 0x3f).toInt64.toUInt64).toInt64) :: S)) : WP l Z EL n0 R y bytes ml ret Q F h cells slots pc Ls (.int y' :: .long x :: S) := by
  obtain ⟨hd, rfl⟩ := hd
  exact k.lift fun p e m c below T t hx hby ha q => XS.lushr ha hx rfl (hb hby hd) rfl q
theorem WP.lcmp {x y' : Int64} (hd : D1 bytes pc .lcmp 1 pc') (k : WP l Z EL n0 R y bytes ml ret Q F h cells slots pc' Ls (.int (lcmpW x y') :: S)) : WP l Z EL n0 R y bytes ml ret Q F h cells slots pc Ls (.long y' :: .long x :: S) := by
  obtain ⟨hd, rfl⟩ := hd
  exact k.lift fun p e m c below T t hx hby ha q => XS.lcmp ha hx rfl (hb hby hd) rfl q
theorem WP.ineg {x : Int32} (hd : D1 bytes pc .ineg 1 pc') (k : WP l Z EL n0 R y bytes ml ret Q F h cells slots pc' Ls (.int (-x) :: S)) : WP l Z EL n0 R y bytes ml ret Q F h cells slots pc Ls (.int x :: S) := by
  obtain ⟨hd, rfl⟩ := hd
  exact k.lift fun p e m c below T t hx hby ha q => XS.ineg ha hx rfl (hb hby hd) rfl q
theorem WP.lneg {x : Int64} (hd : D1 bytes pc .lneg 1 pc') (k : WP l Z EL n0 R y bytes ml ret Q F h cells slots pc' Ls (.long (-x) :: S)) : WP l Z EL n0 R y bytes ml ret Q F h cells slots pc Ls (.long x :: S) := by
  obtain ⟨hd, rfl⟩ := hd
  exact k.lift fun p e m c below T t hx hby ha q => XS.lneg ha hx rfl (hb hby hd) rfl q
theorem WP.i2l {x : Int32} (hd : D1 bytes pc .i2l 1 pc') (k : WP l Z EL n0 R y bytes ml ret Q F h cells slots pc' Ls (.long (x.toInt64) :: S)) : WP l Z EL n0 R y bytes ml ret Q F h cells slots pc Ls (.int x :: S) := by
  obtain ⟨hd, rfl⟩ := hd
  exact k.lift fun p e m c below T t hx hby ha q => XS.i2l ha hx rfl (hb hby hd) rfl q
theorem WP.l2i {x : Int64} (hd : D1 bytes pc .l2i 1 pc') (k : WP l Z EL n0 R y bytes ml ret Q F h cells slots pc' Ls (.int (x.toInt32) :: S)) : WP l Z EL n0 R y bytes ml ret Q F h cells slots pc Ls (.long x :: S) := by
  obtain ⟨hd, rfl⟩ := hd
  exact k.lift fun p e m c below T t hx hby ha q => XS.l2i ha hx rfl (hb hby hd) rfl q
theorem WP.i2b {x : Int32} (hd : D1 bytes pc .i2b 1 pc') (k : WP l Z EL n0 R y bytes ml ret Q F h cells slots pc' Ls (.int (x.toInt8.toInt32) :: S)) : WP l Z EL n0 R y bytes ml ret Q F h cells slots pc Ls (.int x :: S) := by
  obtain ⟨hd, rfl⟩ := hd
  exact k.lift fun p e m c below T t hx hby ha q => XS.i2b ha hx rfl (hb hby hd) rfl q
theorem WP.i2s {x : Int32} (hd : D1 bytes pc .i2s 1 pc') (k : WP l Z EL n0 R y bytes ml ret Q F h cells slots pc' Ls (.int (x.toInt16.toInt32) :: S)) : WP l Z EL n0 R y bytes ml ret Q F h cells slots pc Ls (.int x :: S) := by
  obtain ⟨hd, rfl⟩ := hd
  exact k.lift fun p e m c below T t hx hby ha q => XS.i2s ha hx rfl (hb hby hd) rfl q
theorem WP.i2c {x : Int32} (hd : D1 bytes pc .i2c 1 pc') (k : WP l Z EL n0 R y bytes ml ret Q F h cells slots pc' Ls (.int (x.toUInt32.toUInt16.toUInt32.toInt32) :: S)) : WP l Z EL n0 R y bytes ml ret Q F h cells slots pc Ls (.int x :: S) := by
  obtain ⟨hd, rfl⟩ := hd
  exact k.lift fun p e m c below T t hx hby ha q => XS.i2c ha hx rfl (hb hby hd) rfl q
theorem WP.iload_n {i : Fin 4} {x : Int32} (hd : D1 bytes pc (.iload_n i) 1 pc') (hl : Ls[i.val]? = some (.val (.int x))) (k : WP l Z EL n0 R y bytes ml ret Q F h cells slots pc' Ls (.int x :: S)) : WP l Z EL n0 R y bytes ml ret Q F h cells slots pc Ls S := by
  obtain ⟨hd, rfl⟩ := hd
  exact k.lift fun p e m c below T t hx hby ha q => XS.iloadN ha hx rfl (hb hby hd) hl q
theorem WP.iload {i : Nat} {x : Int32} (hd : D1 bytes pc (.iload i) 2 pc') (hl : Ls[i]? = some (.val (.int x))) (k : WP l Z EL n0 R y bytes ml ret Q F h cells slots pc' Ls (.int x :: S)) : WP l Z EL n0 R y bytes ml ret Q F h cells slots pc Ls S := by
  obtain ⟨hd, rfl⟩ := hd
  exact k.lift fun p e m c below T t hx hby ha q => XS.iload ha hx rfl (hb hby hd) hl q
theorem WP.lload_n {i : Fin 4} {x : Int64} (hd : D1 bytes pc (.lload_n i) 1 pc') (hl : Ls[i.val]? = some (.val (.long x))) (k : WP l Z EL n0 R y bytes ml ret Q F h cells slots pc' Ls (.long x :: S)) : WP l Z EL n0 R y bytes ml ret Q F h cells slots pc Ls S := by
  obtain ⟨hd, rfl⟩ := hd
  exact k.lift fun p e m c below T t hx hby ha q => XS.lloadN ha hx rfl (hb hby hd) hl q
theorem WP.lload {i : Nat} {x : Int64} (hd : D1 bytes pc (.lload i) 2 pc') (hl : Ls[i]? = some (.val (.long x))) (k : WP l Z EL n0 R y bytes ml ret Q F h cells slots pc' Ls (.long x :: S)) : WP l Z EL n0 R y bytes ml ret Q F h cells slots pc Ls S := by
  obtain ⟨hd, rfl⟩ := hd
  exact k.lift fun p e m c below T t hx hby ha q => XS.lload ha hx rfl (hb hby hd) hl q
theorem WP.aload_n {i : Fin 4} {x : Value} (hd : D1 bytes pc (.aload_n i) 1 pc') (hl : Ls[i.val]? = some (.val x)) (hv : x.isRef = true) (k : WP l Z EL n0 R y bytes ml ret Q F h cells slots pc' Ls (x :: S)) : WP l Z EL n0 R y bytes ml ret Q F h cells slots pc Ls S := by
  obtain ⟨hd, rfl⟩ := hd
  exact k.lift fun p e m c below T t hx hby ha q => XS.aloadN ha hx rfl (hb hby hd) hl hv q
theorem WP.aload {i : Nat} {x : Value} (hd : D1 bytes pc (.aload i) 2 pc') (hl : Ls[i]? = some (.val x)) (hv : x.isRef = true) (k : WP l Z EL n0 R y bytes ml ret Q F h cells slots pc' Ls (x :: S)) : WP l Z EL n0 R y bytes ml ret Q F h cells slots pc Ls S := by
  obtain ⟨hd, rfl⟩ := hd
  exact k.lift fun p e m c below T t hx hby ha q => XS.aload ha hx rfl (hb hby hd) hl hv q
theorem WP.istore_n {i : Fin 4} {x z : Int32} (hd : D1 bytes pc (.istore_n i) 1 pc') (hz : x = z) (hl : storeLocals Ls i.val (.int z) = some Ls') (k : WP l Z EL n0 R y bytes ml ret Q F h cells slots pc' Ls' S) : WP l Z EL n0 R y bytes ml ret Q F h cells slots pc Ls (.int x :: S) := by
  obtain ⟨hd, rfl⟩ := hd
  subst hz
  exact k.lift fun p e m c below T t hx hby ha q => XS.istoreN ha hx rfl (hb hby hd) rfl hl q
theorem WP.istore {i : Nat} {x z : Int32} (hd : D1 bytes pc (.istore i) 2 pc') (hz : x = z) (hl : storeLocals Ls i (.int z) = some Ls') (k : WP l Z EL n0 R y bytes ml ret Q F h cells slots pc' Ls' S) : WP l Z EL n0 R y bytes ml ret Q F h cells slots pc Ls (.int x :: S) := by
  obtain ⟨hd, rfl⟩ := hd
  subst hz
  exact k.lift fun p e m c below T t hx hby ha q => XS.istore ha hx rfl (hb hby hd) rfl hl q
theorem WP.lstore_n {i : Fin 4} {x z : Int64} (hd : D1 bytes pc (.lstore_n i) 1 pc') (hz : x = z) (hl : storeLocals Ls i.val (.long z) = some Ls') (k : WP l Z EL n0 R y bytes ml ret Q F h cells slots pc' Ls' S) : WP l Z EL n0 R y bytes ml ret Q F h cells slots pc Ls (.long x :: S) := by
  obtain ⟨hd, rfl⟩ := hd
  subst hz
  exact k.lift fun p e m c below T t hx hby ha q => XS.lstoreN ha hx rfl (hb hby hd) rfl hl q
theorem WP.lstore {i : Nat} {x z : Int64} (hd : D1 bytes pc (.lstore i) 2 pc') (hz : x = z) (hl : storeLocals Ls i (.long z) = some Ls') (k : WP l Z EL n0 R y bytes ml ret Q F h cells slots pc' Ls' S) : WP l Z EL n0 R y bytes ml ret Q F h cells slots pc Ls (.long x :: S) := by
  obtain ⟨hd, rfl⟩ := hd
  subst hz
  exact k.lift fun p e m c below T t hx hby ha q => XS.lstore ha hx rfl (hb hby hd) rfl hl q
theorem WP.astore_n {i : Fin 4} {x : Value} (hd : D1 bytes pc (.astore_n i) 1 pc') (hl : storeLocals Ls i.val x = some Ls') (hv : x.isRef = true) (k : WP l Z EL n0 R y bytes ml ret Q F h cells slots pc' Ls' S) : WP l Z EL n0 R y bytes ml ret Q F h cells slots pc Ls (x :: S) := by
  obtain ⟨hd, rfl⟩ := hd
  exact k.lift fun p e m c below T t hx hby ha q => XS.astoreN ha hx rfl (hb hby hd) rfl hv hl q
theorem WP.astore {i : Nat} {x : Value} (hd : D1 bytes pc (.astore i) 2 pc') (hl : storeLocals Ls i x = some Ls') (hv : x.isRef = true) (k : WP l Z EL n0 R y bytes ml ret Q F h cells slots pc' Ls' S) : WP l Z EL n0 R y bytes ml ret Q F h cells slots pc Ls (x :: S) := by
  obtain ⟨hd, rfl⟩ := hd
  exact k.lift fun p e m c below T t hx hby ha q => XS.astore ha hx rfl (hb hby hd) rfl hv hl q
theorem WP.iinc {i : Nat} {cst : Int} {x v : Int32} (hd : D1 bytes pc (.iinc i cst) 3 pc') (hl : Ls[i]? = some (.val (.int x))) (hv : x + Int32.ofInt cst = v) (hl' : storeLocals Ls i (.int v) = some Ls') (k : WP l Z EL n0 R y bytes ml ret Q F h cells slots pc' Ls' S) : WP l Z EL n0 R y bytes ml ret Q F h cells slots pc Ls S := by
  obtain ⟨hd, rfl⟩ := hd
  subst hv
  exact k.lift fun p e m c below T t hx hby ha q => XS.iinc ha hx rfl (hb hby hd) hl hl' q
theorem WP.iconst {i : Int} {v : Int32} (hd : D1 bytes pc (.iconst i) 1 pc') (hv : Int32.ofInt i = v) (k : WP l Z EL n0 R y bytes ml ret Q F h cells slots pc' Ls (.int v :: S)) : WP l Z EL n0 R y bytes ml ret Q F h cells slots pc Ls S := by
  obtain ⟨hd, rfl⟩ := hd
  subst hv
  exact k.lift fun p e m c below T t hx hby ha q => XS.iconst ha hx rfl (hb hby hd) q
theorem WP.bipush {i : Int} {v : Int32} (hd : D1 bytes pc (.bipush i) 2 pc') (hv : (Int8.ofInt i).toInt32 = v) (k : WP l Z EL n0 R y bytes ml ret Q F h cells slots pc' Ls (.int v :: S)) : WP l Z EL n0 R y bytes ml ret Q F h cells slots pc Ls S := by
  obtain ⟨hd, rfl⟩ := hd
  subst hv
  exact k.lift fun p e m c below T t hx hby ha q => XS.bipush ha hx rfl (hb hby hd) q
theorem WP.sipush {i : Int} {v : Int32} (hd : D1 bytes pc (.sipush i) 3 pc') (hv : (Int16.ofInt i).toInt32 = v) (k : WP l Z EL n0 R y bytes ml ret Q F h cells slots pc' Ls (.int v :: S)) : WP l Z EL n0 R y bytes ml ret Q F h cells slots pc Ls S := by
  obtain ⟨hd, rfl⟩ := hd
  subst hv
  exact k.lift fun p e m c below T t hx hby ha q => XS.sipush ha hx rfl (hb hby hd) q
theorem WP.lconst {i : Fin 2} {v : Int64} (hd : D1 bytes pc (.lconst i) 1 pc') (hv : Int64.ofNat i = v) (k : WP l Z EL n0 R y bytes ml ret Q F h cells slots pc' Ls (.long v :: S)) : WP l Z EL n0 R y bytes ml ret Q F h cells slots pc Ls S := by
  obtain ⟨hd, rfl⟩ := hd
  subst hv
  exact k.lift fun p e m c below T t hx hby ha q => XS.lconst ha hx rfl (hb hby hd) q
theorem WP.aconst_null (hd : D1 bytes pc .aconst_null 1 pc') (k : WP l Z EL n0 R y bytes ml ret Q F h cells slots pc' Ls (.null :: S)) : WP l Z EL n0 R y bytes ml ret Q F h cells slots pc Ls S := by
  obtain ⟨hd, rfl⟩ := hd
  exact k.lift fun p e m c below T t hx hby ha q => XS.aconstNull ha hx rfl (hb hby hd) q
theorem WP.dup {x : Value} (hd : D1 bytes pc .dup 1 pc') (hc : x.category = 1) (k : WP l Z EL n0 R y bytes ml ret Q F h cells slots pc' Ls (x :: x :: S)) : WP l Z EL n0 R y bytes ml ret Q F h cells slots pc Ls (x :: S) := by
  obtain ⟨hd, rfl⟩ := hd
  exact k.lift fun p e m c below T t hx hby ha q => XS.dup ha hx rfl (hb hby hd) rfl hc q
theorem WP.dup_x1 {x y' : Value} (hd : D1 bytes pc .dup_x1 1 pc') (hc : x.category = 1) (hc' : y'.category = 1) (k : WP l Z EL n0 R y bytes ml ret Q F h cells slots pc' Ls (x :: y' :: x :: S)) : WP l Z EL n0 R y bytes ml ret Q F h cells slots pc Ls (x :: y' :: S) := by
  obtain ⟨hd, rfl⟩ := hd
  exact k.lift fun p e m c below T t hx hby ha q => XS.dupX1 ha hx rfl (hb hby hd) rfl hc hc' q
theorem WP.pop {x : Value} (hd : D1 bytes pc .pop 1 pc') (hc : x.category = 1) (k : WP l Z EL n0 R y bytes ml ret Q F h cells slots pc' Ls S) : WP l Z EL n0 R y bytes ml ret Q F h cells slots pc Ls (x :: S) := by
  obtain ⟨hd, rfl⟩ := hd
  exact k.lift fun p e m c below T t hx hby ha q => XS.pop ha hx rfl (hb hby hd) rfl hc q
theorem tgt_of {o : Int} {tgt : Nat} (q : (pc : Int) + o = (tgt : Int)) : 0 ≤ (pc : Int) + o ∧ ((pc : Int) + o).toNat = tgt := ⟨by omega, by omega⟩
theorem WP.goto {o : Int} {nx tgt : Nat} (hd : DJ bytes pc .goto o nx tgt) (k : WP l Z EL n0 R y bytes ml ret Q F h cells slots tgt Ls S) : WP l Z EL n0 R y bytes ml ret Q F h cells slots pc Ls S := by
  obtain ⟨hd, -, ht⟩ := hd
  exact k.lift fun p e m c below T t hx hby ha q => XS.goto ha hx rfl rfl (hb hby hd) (tgt_of ht).1 (tgt_of ht).2 q
theorem WP.ifC {cd : ClassFile.Cond} {x : Int32} {o : Int} {nx tgt : Nat} (hd : DJ bytes pc (.ifCond cd) o nx tgt) (k1 : ifCond.holds cd x = true → WP l Z EL n0 R y bytes ml ret Q F h cells slots tgt Ls S) (k2 : ifCond.holds cd x = false → WP l Z EL n0 R y bytes ml ret Q F h cells slots nx Ls S) : WP l Z EL n0 R y bytes ml ret Q F h cells slots pc Ls (.int x :: S) := by
  obtain ⟨hd, rfl, ht⟩ := hd
  cases hc : ifCond.holds cd x with
  | true => exact (k1 hc).lift fun p e m c below T t hx hby ha q => XS.ifYes ha hx rfl rfl (hb hby hd) rfl hc (tgt_of ht).1 (tgt_of ht).2 q
  | false => exact (k2 hc).lift fun p e m c below T t hx hby ha q => XS.ifNo ha hx rfl (hb hby hd) rfl hc q
theorem WP.icmpC {cd : ClassFile.Cond} {x y' : Int32} {o : Int} {nx tgt : Nat} (hd : DJ bytes pc (.if_icmp cd) o nx tgt) (k1 : if_icmp.holds cd x y' = true → WP l Z EL n0 R y bytes ml ret Q F h cells slots tgt Ls S) (k2 : if_icmp.holds cd x y' = false → WP l Z EL n0 R y bytes ml ret Q F h cells slots nx Ls S) : WP l Z EL n0 R y bytes ml ret Q F h cells slots pc Ls (.int y' :: .int x :: S) := by
  obtain ⟨hd, rfl, ht⟩ := hd
  cases hc : if_icmp.holds cd x y' with
  | true => exact (k1 hc).lift fun p e m c below T t hx hby ha q => XS.icmpYes ha hx rfl rfl (hb hby hd) rfl hc (tgt_of ht).1 (tgt_of ht).2 q
  | false => exact (k2 hc).lift fun p e m c below T t hx hby ha q => XS.icmpNo ha hx rfl (hb hby hd) rfl hc q
theorem WP.ifnull {x : Value} {o : Int} {nx tgt : Nat} (hd : DJ bytes pc .ifnull o nx tgt) (hr : x.isRef = true) (k1 : x = .null → WP l Z EL n0 R y bytes ml ret Q F h cells slots tgt Ls S) (k2 : ∀ a, x = .ref a → WP l Z EL n0 R y bytes ml ret Q F h cells slots nx Ls S) : WP l Z EL n0 R y bytes ml ret Q F h cells slots pc Ls (x :: S) := by
  obtain ⟨hd, rfl, ht⟩ := hd
  rcases ref_cases hr with rfl | ⟨a, rfl⟩
  · exact (k1 rfl).lift fun p e m c below T t hx hby ha q => XS.ifnullYes ha hx rfl rfl (hb hby hd) rfl (tgt_of ht).1 (tgt_of ht).2 q
  · exact (k2 a rfl).lift fun p e m c below T t hx hby ha q => XS.ifnullNo ha hx rfl (hb hby hd) rfl q
theorem WP.ifnonnull {x : Value} {o : Int} {nx tgt : Nat} (hd : DJ bytes pc .ifnonnull o nx tgt) (hr : x.isRef = true) (k1 : ∀ a, x = .ref a → WP l Z EL n0 R y bytes ml ret Q F h cells slots tgt Ls S) (k2 : x = .null → WP l Z EL n0 R y bytes ml ret Q F h cells slots nx Ls S) : WP l Z EL n0 R y bytes ml ret Q F h cells slots pc Ls (x :: S) := by
  obtain ⟨hd, rfl, ht⟩ := hd
  rcases ref_cases hr with rfl | ⟨a, rfl⟩
  · exact (k2 rfl).lift fun p e m c below T t hx hby ha q => XS.ifnonnullNo ha hx rfl (hb hby hd) rfl q
  · exact (k1 a rfl).lift fun p e m c below T t hx hby ha q => XS.ifnonnullYes ha hx rfl rfl (hb hby hd) rfl (tgt_of ht).1 (tgt_of ht).2 q
theorem WP.acmp_ne {x y' : Value} {o : Int} {nx tgt : Nat} (hd : DJ bytes pc (.if_acmp .ne) o nx tgt) (hr : x.isRef = true) (hr' : y'.isRef = true) (k1 : ¬ x = y' → WP l Z EL n0 R y bytes ml ret Q F h cells slots tgt Ls S) (k2 : x = y' → WP l Z EL n0 R y bytes ml ret Q F h cells slots nx Ls S) : WP l Z EL n0 R y bytes ml ret Q F h cells slots pc Ls (y' :: x :: S) := by
  obtain ⟨hd, rfl, ht⟩ := hd
  by_cases hc : x = y'
  · exact (k2 hc).lift fun p e m c below T t hx hby ha q => XT.acmpNo ha hx rfl (hb hby hd) rfl hr hr' (XT.aa_ne_f hc) q
  · exact (k1 hc).lift fun p e m c below T t hx hby ha q => XT.acmpYes ha hx rfl rfl (hb hby hd) rfl hr hr' (XT.aa_ne_t hc) (tgt_of ht).1 (tgt_of ht).2 q
theorem WP.acmp_eq {x y' : Value} {o : Int} {nx tgt : Nat} (hd : DJ bytes pc (.if_acmp .eq) o nx tgt) (hr : x.isRef = true) (hr' : y'.isRef = true) (k1 : x = y' → WP l Z EL n0 R y bytes ml ret Q F h cells slots tgt Ls S) (k2 : ¬ x = y' → WP l Z EL n0 R y bytes ml ret Q F h cells slots nx Ls S) : WP l Z EL n0 R y bytes ml ret Q F h cells slots pc Ls (y' :: x :: S) := by
  obtain ⟨hd, rfl, ht⟩ := hd
  by_cases hc : x = y'
  · exact (k1 hc).lift fun p e m c below T t hx hby ha q => XT.acmpYes ha hx rfl rfl (hb hby hd) rfl hr hr' (XT.aa_eq_t hc) (tgt_of ht).1 (tgt_of ht).2 q
  · exact (k2 hc).lift fun p e m c below T t hx hby ha q => XT.acmpNo ha hx rfl (hb hby hd) rfl hr hr' (XT.aa_eq_f hc) q
theorem WP.icmp_eq {x y' : Int32} {o : Int} {nx tgt : Nat} (hd : DJ bytes pc (.if_icmp .eq) o nx tgt) (k1 : x = y' → WP l Z EL n0 R y bytes ml ret Q F h cells slots tgt Ls S) (k2 : ¬ x = y' → WP l Z EL n0 R y bytes ml ret Q F h cells slots nx Ls S) : WP l Z EL n0 R y bytes ml ret Q F h cells slots pc Ls (.int y' :: .int x :: S) :=
  WP.icmpC hd (fun q => k1 (Classical.byContradiction fun z => by have := XT.ii_eq_f (x := x) (y := y') (by simpa using z); rw [q] at this; cases this)) (fun q => k2 (Classical.byContradiction fun z => by have := XT.ii_eq_t (x := x) (y := y') (by simpa using z); rw [q] at this; cases this))
theorem WP.if_eq {x : Int32} {o : Int} {nx tgt : Nat} (hd : DJ bytes pc (.ifCond .eq) o nx tgt) (k1 : x = 0 → WP l Z EL n0 R y bytes ml ret Q F h cells slots tgt Ls S) (k2 : ¬ x = 0 → WP l Z EL n0 R y bytes ml ret Q F h cells slots nx Ls S) : WP l Z EL n0 R y bytes ml ret Q F h cells slots pc Ls (.int x :: S) :=
  WP.ifC hd (fun q => k1 (Classical.byContradiction fun z => by have := XT.i0_eq_f (x := x) (by simpa using z); rw [q] at this; cases this)) (fun q => k2 (Classical.byContradiction fun z => by have := XT.i0_eq_t (x := x) (by simpa using z); rw [q] at this; cases this))
theorem WP.icmp_ne {x y' : Int32} {o : Int} {nx tgt : Nat} (hd : DJ bytes pc (.if_icmp .ne) o nx tgt) (k1 : ¬ x = y' → WP l Z EL n0 R y bytes ml ret Q F h cells slots tgt Ls S) (k2 : x = y' → WP l Z EL n0 R y bytes ml ret Q F h cells slots nx Ls S) : WP l Z EL n0 R y bytes ml ret Q F h cells slots pc Ls (.int y' :: .int x :: S) :=
  WP.icmpC hd (fun q => k1 (Classical.byContradiction fun z => by have := XT.ii_ne_f (x := x) (y := y') (by simpa using z); rw [q] at this; cases this)) (fun q => k2 (Classical.byContradiction fun z => by have := XT.ii_ne_t (x := x) (y := y') (by simpa using z); rw [q] at this; cases this))
theorem WP.if_ne {x : Int32} {o : Int} {nx tgt : Nat} (hd : DJ bytes pc (.ifCond .ne) o nx tgt) (k1 : ¬ x = 0 → WP l Z EL n0 R y bytes ml ret Q F h cells slots tgt Ls S) (k2 : x = 0 → WP l Z EL n0 R y bytes ml ret Q F h cells slots nx Ls S) : WP l Z EL n0 R y bytes ml ret Q F h cells slots pc Ls (.int x :: S) :=
  WP.ifC hd (fun q => k1 (Classical.byContradiction fun z => by have := XT.i0_ne_f (x := x) (by simpa using z); rw [q] at this; cases this)) (fun q => k2 (Classical.byContradiction fun z => by have := XT.i0_ne_t (x := x) (by simpa using z); rw [q] at this; cases this))
theorem WP.icmp_lt {x y' : Int32} {o : Int} {nx tgt : Nat} (hd : DJ bytes pc (.if_icmp .lt) o nx tgt) (k1 : x < y' → WP l Z EL n0 R y bytes ml ret Q F h cells slots tgt Ls S) (k2 : ¬ x < y' → WP l Z EL n0 R y bytes ml ret Q F h cells slots nx Ls S) : WP l Z EL n0 R y bytes ml ret Q F h cells slots pc Ls (.int y' :: .int x :: S) :=
  WP.icmpC hd (fun q => k1 (Classical.byContradiction fun z => by have := XT.ii_lt_f (x := x) (y := y') (by simpa using z); rw [q] at this; cases this)) (fun q => k2 (Classical.byContradiction fun z => by have := XT.ii_lt_t (x := x) (y := y') (by simpa using z); rw [q] at this; cases this))
theorem WP.if_lt {x : Int32} {o : Int} {nx tgt : Nat} (hd : DJ bytes pc (.ifCond .lt) o nx tgt) (k1 : x < 0 → WP l Z EL n0 R y bytes ml ret Q F h cells slots tgt Ls S) (k2 : ¬ x < 0 → WP l Z EL n0 R y bytes ml ret Q F h cells slots nx Ls S) : WP l Z EL n0 R y bytes ml ret Q F h cells slots pc Ls (.int x :: S) :=
  WP.ifC hd (fun q => k1 (Classical.byContradiction fun z => by have := XT.i0_lt_f (x := x) (by simpa using z); rw [q] at this; cases this)) (fun q => k2 (Classical.byContradiction fun z => by have := XT.i0_lt_t (x := x) (by simpa using z); rw [q] at this; cases this))
theorem WP.icmp_ge {x y' : Int32} {o : Int} {nx tgt : Nat} (hd : DJ bytes pc (.if_icmp .ge) o nx tgt) (k1 : ¬ x < y' → WP l Z EL n0 R y bytes ml ret Q F h cells slots tgt Ls S) (k2 : x < y' → WP l Z EL n0 R y bytes ml ret Q F h cells slots nx Ls S) : WP l Z EL n0 R y bytes ml ret Q F h cells slots pc Ls (.int y' :: .int x :: S) :=
  WP.icmpC hd (fun q => k1 (Classical.byContradiction fun z => by have := XT.ii_ge_f (x := x) (y := y') (by simpa using z); rw [q] at this; cases this)) (fun q => k2 (Classical.byContradiction fun z => by have := XT.ii_ge_t (x := x) (y := y') (by simpa using z); rw [q] at this; cases this))
theorem WP.if_ge {x : Int32} {o : Int} {nx tgt : Nat} (hd : DJ bytes pc (.ifCond .ge) o nx tgt) (k1 : ¬ x < 0 → WP l Z EL n0 R y bytes ml ret Q F h cells slots tgt Ls S) (k2 : x < 0 → WP l Z EL n0 R y bytes ml ret Q F h cells slots nx Ls S) : WP l Z EL n0 R y bytes ml ret Q F h cells slots pc Ls (.int x :: S) :=
  WP.ifC hd (fun q => k1 (Classical.byContradiction fun z => by have := XT.i0_ge_f (x := x) (by simpa using z); rw [q] at this; cases this)) (fun q => k2 (Classical.byContradiction fun z => by have := XT.i0_ge_t (x := x) (by simpa using z); rw [q] at this; cases this))
theorem WP.icmp_gt {x y' : Int32} {o : Int} {nx tgt : Nat} (hd : DJ bytes pc (.if_icmp .gt) o nx tgt) (k1 : y' < x → WP l Z EL n0 R y bytes ml ret Q F h cells slots tgt Ls S) (k2 : ¬ y' < x → WP l Z EL n0 R y bytes ml ret Q F h cells slots nx Ls S) : WP l Z EL n0 R y bytes ml ret Q F h cells slots pc Ls (.int y' :: .int x :: S) :=
  WP.icmpC hd (fun q => k1 (Classical.byContradiction fun z => by have := XT.ii_gt_f (x := x) (y := y') (by simpa using z); rw [q] at this; cases this)) (fun q => k2 (Classical.byContradiction fun z => by have := XT.ii_gt_t (x := x) (y := y') (by simpa using z); rw [q] at this; cases this))
theorem WP.if_gt {x : Int32} {o : Int} {nx tgt : Nat} (hd : DJ bytes pc (.ifCond .gt) o nx tgt) (k1 : 0 < x → WP l Z EL n0 R y bytes ml ret Q F h cells slots tgt Ls S) (k2 : ¬ 0 < x → WP l Z EL n0 R y bytes ml ret Q F h cells slots nx Ls S) : WP l Z EL n0 R y bytes ml ret Q F h cells slots pc Ls (.int x :: S) :=
  WP.ifC hd (fun q => k1 (Classical.byContradiction fun z => by have := XT.i0_gt_f (x := x) (by simpa using z); rw [q] at this; cases this)) (fun q => k2 (Classical.byContradiction fun z => by have := XT.i0_gt_t (x := x) (by simpa using z); rw [q] at this; cases this))
theorem WP.icmp_le {x y' : Int32} {o : Int} {nx tgt : Nat} (hd : DJ bytes pc (.if_icmp .le) o nx tgt) (k1 : ¬ y' < x → WP l Z EL n0 R y bytes ml ret Q F h cells slots tgt Ls S) (k2 : y' < x → WP l Z EL n0 R y bytes ml ret Q F h cells slots nx Ls S) : WP l Z EL n0 R y bytes ml ret Q F h cells slots pc Ls (.int y' :: .int x :: S) :=
  WP.icmpC hd (fun q => k1 (Classical.byContradiction fun z => by have := XT.ii_le_f (x := x) (y := y') (by simpa using z); rw [q] at this; cases this)) (fun q => k2 (Classical.byContradiction fun z => by have := XT.ii_le_t (x := x) (y := y') (by simpa using z); rw [q] at this; cases this))
theorem WP.if_le {x : Int32} {o : Int} {nx tgt : Nat} (hd : DJ bytes pc (.ifCond .le) o nx tgt) (k1 : ¬ 0 < x → WP l Z EL n0 R y bytes ml ret Q F h cells slots tgt Ls S) (k2 : 0 < x → WP l Z EL n0 R y bytes ml ret Q F h cells slots nx Ls S) : WP l Z EL n0 R y bytes ml ret Q F h cells slots pc Ls (.int x :: S) :=
  WP.ifC hd (fun q => k1 (Classical.byContradiction fun z => by have := XT.i0_le_f (x := x) (by simpa using z); rw [q] at this; cases this)) (fun q => k2 (Classical.byContradiction fun z => by have := XT.i0_le_t (x := x) (by simpa using z); rw [q] at this; cases this))
end Plain
end Jvm.Own
namespace Jvm.Own
open Jvm Jvm.ClassFile Sem Op Lib Jvm.Free Jvm.Stand Jvm.LawKit Jvm.RoadKit Bundle
/-- an array of ints, bytes, chars, shorts or booleans: its components -/
def IA (Z : State) (h : Heap) (a : Addr) (ty : FieldType) (xs : List Int32) : Prop := ∃ c : Cell, Arr Z h a c ty ∧ c.slots = (xs.map Value.int).toArray ∧ xs.length < 2 ^ 31
theorem nle {a b : Nat} (h : Nat.ble a b = true) : a ≤ b := Nat.le_of_ble_eq_true h
theorem nlt {a : Addr} {n : Nat} (h : a < n) : @LT.lt Nat instLTNat a n := h
theorem nea {a b : Addr} (h : @LT.lt Nat instLTNat a b ∨ @LT.lt Nat instLTNat b a) : a ≠ b := fun e => by
  subst e
  exact h.elim (Nat.lt_irrefl _) (Nat.lt_irrefl _)
/-- j is the int of the place i -/
def Ix (j : Int32) (i : Nat) : Prop := j.toInt = (i : Int)
theorem Ix.nn {j : Int32} {i : Nat} (q : Ix j i) : ¬ j < 0 := by
  rw [Int32.lt_iff_toInt_lt, q]; show ¬ (i : Int) < 0; omega
theorem Ix.clamp {j : Int32} {i : Nat} (q : Ix j i) : j.toNatClampNeg = i := by
  unfold Ix at q; simp only [Int32.toNatClampNeg, q]; exact Int.toNat_natCast i
theorem Ix.ofNat {i : Nat} (q : i < 2 ^ 31) : Ix (Int32.ofNat i) i := Int32.toInt_ofNat_of_lt q
section Facts
variable {Z : State} {h h' : Heap} {a b : Addr} {ty : FieldType} {xs : List Int32} {sl : Nat} {v : Value} {ws : List Addr}
theorem IA.lt (A : IA Z h a ty xs) : a < h.size := by obtain ⟨c, A, -⟩ := A; exact A.lt
theorem IA.len (A : IA Z h a ty xs) : xs.length < 2 ^ 31 := by obtain ⟨c, -, -, q⟩ := A; exact q
theorem IA.ext (A : IA Z h a ty xs) (E : Ext h h') : IA Z h' a ty xs := by obtain ⟨c, A, r⟩ := A; exact ⟨c, A.ext E, r⟩
theorem IA.other (A : IA Z h b ty xs) (W : Wr h h' a sl v) (q : b ≠ a) : IA Z h' b ty xs := by obtain ⟨c, A, r⟩ := A; exact ⟨c, A.other W q, r⟩
theorem IA.keep (A : IA Z h a ty xs) (K : Keep h h' ws) (q : a ∉ ws) : IA Z h' a ty xs := by obtain ⟨c, A, r⟩ := A; exact ⟨c, ⟨K.2.1 a c A.1 q, A.2⟩, r⟩
theorem IA.set {i : Nat} {x : Int32} (A : IA Z h a ty xs) (W : Wr h h' a i (.int x)) : IA Z h' a ty (xs.set i x) := by
  obtain ⟨c, A, e, q⟩ := A
  refine ⟨_, A.same W, ?_, by simpa using q⟩
  simp [Cell.setSlot, e, List.map_set]
theorem IA.of_arv {k : ClassId} {z : Int32} {d : Value} (A : Arv Z h a k ty z (xs.map Value.int) d) (hl : z.toNatClampNeg = xs.length) : IA Z h a ty xs := by
  obtain ⟨c, A, -, q1, q2, q3, -⟩ := A
  have hs : c.slots.size = xs.length := q1.trans hl
  refine ⟨c, A, ?_, ?_⟩
  · apply Array.ext_getElem?
    intro i
    by_cases hi : i < xs.length
    · rw [q3 i (by omega)]; simp [hi]
    · rw [Array.getElem?_eq_none (by omega), Array.getElem?_eq_none (by simp; omega)]
  · rw [← hl]
    have := (back32 q2).2
    exact this
theorem IA.size {c : Cell} (e : c.slots = (xs.map Value.int).toArray) : c.slots.size = xs.length := by rw [e]; simp
theorem Exa.neIA {C : String} {n : Nat} {a0 : Array Value} (E : Exa Z h a C) (w : (Cond.instantiable C n).before a0 Z = true) (A : IA Z h b ty xs) : a ≠ b := by
  obtain ⟨c, A, -⟩ := A
  exact ne_arr E w A
end Facts
section Heap
variable {l : Launch} {Z : State} {EL : List (String × Nat)} {n0 : Nat} {R : Room} {y : MethodName} {bytes : ByteArray} {ml : Nat} {ret : Option FieldType} {Q : Option Value → Heap → List Addr → Prop}
  {F : List Addr} {h : Heap} {cells slots pc pc' : Nat} {Ls Ls' : Array Slot} {S S' : List Value} {a0 : Array Value}
theorem WP.new {idx n : Nat} {C : String} (hd : D1 bytes pc (.new idx) 3 pc') (w : (Cond.classLink y.cls idx C).before a0 Z = true) (wi : (Cond.instantiable C n).before a0 Z = true) (wz : (Cond.initialized C).before a0 Z = true) (hc : cells + 1 ≤ R.cells) (hl : slots + n ≤ R.slots)
    (k : ∀ (h' : Heap) (b : Nat), b = h.size → Ext h h' → Exa Z h' b C → (∀ {O nm d : String} {ty : FieldType}, Laid Z a0 C O nm d → parseFieldDescriptor d = some ty → Fld Z h' b O nm d (defaultValue ty)) → Unt h' b → WP l Z EL n0 R y bytes ml ret Q (b :: F) h' (cells + 1) (slots + n) pc' Ls (.ref b :: S)) :
    WP l Z EL n0 R y bytes ml ret Q F h cells slots pc Ls S := by
  obtain ⟨hd, rfl⟩ := hd
  refine WP.grow (G := [h.size]) (P := fun h' => Exa Z h' h.size C ∧ (∀ {O nm d : String} {ty : FieldType}, Laid Z a0 C O nm d → parseFieldDescriptor d = some ty → Fld Z h' h.size O nm d (defaultValue ty)) ∧ Unt h' h.size) (fun h' E hP x hx => ?_) (fun p e s m args below meth c T vm0 locs D => ?_) (fun h' E hP => k h' _ rfl E hP.1 hP.2.1 hP.2.2)
  · cases List.mem_singleton.mp hx; exact ⟨hP.1.lt, Nat.le_refl _⟩
  · obtain ⟨X, e0, -, hZ, hown, -, -, -, -, hx, hby, -⟩ := D
    obtain ⟨T', h', X', e', E, A, D', U, st⟩ := newO X hx hZ hown w wi wz e0 (g := mkF m pc Ls S) rfl (hb hby hd) hc hl
    exact ⟨T', h', X', e', E, ⟨A, D', U⟩, st⟩
theorem WP.newarray {aty : ArrayType} {n : Int32} {cap i : Nat} (hd : D1 bytes pc (.newarray aty) 2 pc') (w : (Cond.arrayClass (newarray.typeOf aty)).before a0 Z = true) (hz : defaultValue (newarray.typeOf aty) = .int 0) (hn : Ix n i) (hcap : i ≤ cap) (hbig : cap * 8 ≤ 536870912) (hc : cells + 1 ≤ R.cells) (hl : slots + cap ≤ R.slots)
    (k : ∀ (h' : Heap) (b : Nat), b = h.size → Ext h h' → IA Z h' b (newarray.typeOf aty) (List.replicate i 0) → WP l Z EL n0 R y bytes ml ret Q (b :: F) h' (cells + 1) (slots + cap) pc' Ls (.ref b :: S)) :
    WP l Z EL n0 R y bytes ml ret Q F h cells slots pc Ls (.int n :: S) := by
  obtain ⟨hd, rfl⟩ := hd
  refine WP.grow (G := [h.size]) (P := fun h' => IA Z h' h.size (newarray.typeOf aty) (List.replicate i 0)) (fun h' E hP x hx => ?_) (fun p e s m args below meth c T vm0 locs D => ?_) (fun h' E hP => k h' _ rfl E hP)
  · cases List.mem_singleton.mp hx; exact ⟨hP.lt, Nat.le_refl _⟩
  · obtain ⟨X, e0, -, hZ, hown, -, -, -, -, hx, hby, -⟩ := D
    obtain ⟨T', h', cA, X', e', E, A, st⟩ := newP X hx hZ w e0 (g := mkF m pc Ls (.int n :: S)) rfl (hb hby hd) rfl hn.nn (cap := cap) (by rw [hn.clamp]; exact hcap) hbig hc hl
    exact ⟨T', h', X', e', E, ⟨_, A, by simp [newA, hn.clamp, hz], by have := hn; have := Int32.toInt_lt n; simp only [Ix] at *; simp; omega⟩, st⟩
theorem WP.castore {a : Addr} {xs : List Int32} {j x : Int32} {i : Nat} (hd : D1 bytes pc .castore 1 pc') (A : IA Z h a .char xs) (hj : Ix j i) (hi : i < xs.length) (na : n0 ≤ a)
    (k : ∀ h', Wr h h' a i (.int (nar .char x)) → WP l Z EL n0 R y bytes ml ret Q F h' cells slots pc' Ls S) : WP l Z EL n0 R y bytes ml ret Q F h cells slots pc Ls (.int x :: .int j :: .ref a :: S) := by
  obtain ⟨hd, rfl⟩ := hd
  obtain ⟨c, A, e, q⟩ := A
  refine WP.write na (SafeBy.arr A) (fun p e1 s m args below meth c' T vm0 locs D => ?_) k
  obtain ⟨X, e0, -, hZ, hown, -, -, -, -, hx, hby, -⟩ := D
  have := stC (x := x) X hx hZ e0 A (j := j) (by rw [IA.size e, hj.clamp]; exact fun z => z.elim hj.nn fun z => by omega) (g := mkF m pc Ls (.int x :: .int j :: .ref a :: S)) rfl rfl (hb hby hd)
  rw [hj.clamp] at this
  exact this
theorem WP.bastore {a : Addr} {xs : List Int32} {j x : Int32} {i : Nat} (hd : D1 bytes pc .bastore 1 pc') (A : IA Z h a .byte xs) (hm : SafeBy Z EL F h a) (hj : Ix j i) (hi : i < xs.length) (na : n0 ≤ a)
    (k : ∀ h', Wr h h' a i (.int (nar .byte x)) → WP l Z EL n0 R y bytes ml ret Q F h' cells slots pc' Ls S) : WP l Z EL n0 R y bytes ml ret Q F h cells slots pc Ls (.int x :: .int j :: .ref a :: S) := by
  obtain ⟨hd, rfl⟩ := hd
  obtain ⟨c, A, e, q⟩ := A
  refine WP.write na hm (fun p e1 s m args below meth c' T vm0 locs D => ?_) k
  obtain ⟨X, e0, -, hZ, hown, -, -, -, -, hx, hby, -⟩ := D
  have := stB (x := x) X hx hZ e0 A (j := j) (by rw [IA.size e, hj.clamp]; exact fun z => z.elim hj.nn fun z => by omega) (g := mkF m pc Ls (.int x :: .int j :: .ref a :: S)) rfl rfl (hb hby hd)
  rw [hj.clamp] at this
  exact this
theorem WP.iastore {a : Addr} {xs : List Int32} {j x : Int32} {i : Nat} (hd : D1 bytes pc .iastore 1 pc') (A : IA Z h a .int xs) (hj : Ix j i) (hi : i < xs.length) (na : n0 ≤ a)
    (k : ∀ h', Wr h h' a i (.int x) → WP l Z EL n0 R y bytes ml ret Q F h' cells slots pc' Ls S) : WP l Z EL n0 R y bytes ml ret Q F h cells slots pc Ls (.int x :: .int j :: .ref a :: S) := by
  obtain ⟨hd, rfl⟩ := hd
  obtain ⟨c, A, e, q⟩ := A
  refine WP.write na (SafeBy.arr A) (fun p e1 s m args below meth c' T vm0 locs D => ?_) k
  obtain ⟨X, e0, -, hZ, hown, -, -, -, -, hx, hby, -⟩ := D
  have := stI (x := x) X hx hZ e0 A (j := j) (by rw [IA.size e, hj.clamp]; exact fun z => z.elim hj.nn fun z => by omega) (g := mkF m pc Ls (.int x :: .int j :: .ref a :: S)) rfl rfl (hb hby hd)
  rw [hj.clamp] at this
  exact this
theorem WP.arraylength {a : Addr} {ty : FieldType} {xs : List Int32} (hd : D1 bytes pc .arraylength 1 pc') (A : IA Z h a ty xs) (k : WP l Z EL n0 R y bytes ml ret Q F h cells slots pc' Ls (.int (Int32.ofNat xs.length) :: S)) : WP l Z EL n0 R y bytes ml ret Q F h cells slots pc Ls (.ref a :: S) := by
  obtain ⟨hd, rfl⟩ := hd
  obtain ⟨c, A, e, q⟩ := A
  refine WP.same (fun p e1 s m args below meth c' T vm0 locs D => ?_) k
  obtain ⟨X, e0, -, hZ, hown, -, -, -, -, hx, hby, -⟩ := D
  refine ⟨T, X, e0, fun t q => X.arraylength hx (by rw [e0]; exact A.1) (State.isArrayOf_alike (T := s.setVm vm0) hZ.alike A.2.1) (g := mkF m pc Ls (.ref a :: S)) rfl rfl (hb hby hd) t ?_⟩
  rw [IA.size e]
  exact q
theorem IA.at {c : Cell} {xs : List Int32} {x : Int32} {i : Nat} (e : c.slots = (xs.map Value.int).toArray) (hx : xs[i]? = some x) : c.slots[i]? = some (.int x) := by rw [e]; simp [hx]
theorem WP.caload {a : Addr} {xs : List Int32} {j x : Int32} {i : Nat} (hd : D1 bytes pc .caload 1 pc') (A : IA Z h a .char xs) (hj : Ix j i) (hx : xs[i]? = some x) (k : WP l Z EL n0 R y bytes ml ret Q F h cells slots pc' Ls (.int x :: S)) : WP l Z EL n0 R y bytes ml ret Q F h cells slots pc Ls (.int j :: .ref a :: S) := by
  obtain ⟨hd, rfl⟩ := hd
  obtain ⟨c, A, e, q⟩ := A
  have hi : i < xs.length := (List.getElem?_eq_some_iff.mp hx).1
  refine WP.same (fun p e1 s m args below meth c' T vm0 locs D => ?_) k
  obtain ⟨X, e0, -, hZ, hown, -, -, -, -, hxx, hby, -⟩ := D
  exact ⟨T, X, e0, fun t q => X.caload hxx (v := .int x) (by rw [e0]; exact A.1) (State.isArrayOf_alike (T := s.setVm vm0) hZ.alike A.2.1) A.2.2 (by rw [IA.size e, hj.clamp]; exact fun z => z.elim hj.nn fun z => by omega) (by rw [hj.clamp]; exact IA.at e hx) (g := mkF m pc Ls (.int j :: .ref a :: S)) rfl rfl (hb hby hd) t q⟩
theorem WP.baload {a : Addr} {xs : List Int32} {j x : Int32} {i : Nat} (hd : D1 bytes pc .baload 1 pc') (A : IA Z h a .byte xs) (hj : Ix j i) (hx : xs[i]? = some x) (k : WP l Z EL n0 R y bytes ml ret Q F h cells slots pc' Ls (.int x :: S)) : WP l Z EL n0 R y bytes ml ret Q F h cells slots pc Ls (.int j :: .ref a :: S) := by
  obtain ⟨hd, rfl⟩ := hd
  obtain ⟨c, A, e, q⟩ := A
  have hi : i < xs.length := (List.getElem?_eq_some_iff.mp hx).1
  refine WP.same (fun p e1 s m args below meth c' T vm0 locs D => ?_) k
  obtain ⟨X, e0, -, hZ, hown, -, -, -, -, hxx, hby, -⟩ := D
  exact ⟨T, X, e0, fun t q => X.baloadBytes hxx (v := .int x) (by rw [e0]; exact A.1) (State.isArrayOf_alike (T := s.setVm vm0) hZ.alike A.2.1) A.2.2 (by rw [IA.size e, hj.clamp]; exact fun z => z.elim hj.nn fun z => by omega) (by rw [hj.clamp]; exact IA.at e hx) (g := mkF m pc Ls (.int j :: .ref a :: S)) rfl rfl (hb hby hd) t q⟩
theorem WP.iaload {a : Addr} {xs : List Int32} {j x : Int32} {i : Nat} (hd : D1 bytes pc .iaload 1 pc') (A : IA Z h a .int xs) (hj : Ix j i) (hx : xs[i]? = some x) (k : WP l Z EL n0 R y bytes ml ret Q F h cells slots pc' Ls (.int x :: S)) : WP l Z EL n0 R y bytes ml ret Q F h cells slots pc Ls (.int j :: .ref a :: S) := by
  obtain ⟨hd, rfl⟩ := hd
  obtain ⟨c, A, e, q⟩ := A
  have hi : i < xs.length := (List.getElem?_eq_some_iff.mp hx).1
  refine WP.same (fun p e1 s m args below meth c' T vm0 locs D => ?_) k
  obtain ⟨X, e0, -, hZ, hown, -, -, -, -, hxx, hby, -⟩ := D
  exact ⟨T, X, e0, fun t q => X.iaload hxx (v := .int x) (by rw [e0]; exact A.1) (State.isArrayOf_alike (T := s.setVm vm0) hZ.alike A.2.1) A.2.2 (by rw [IA.size e, hj.clamp]; exact fun z => z.elim hj.nn fun z => by omega) (by rw [hj.clamp]; exact IA.at e hx) (g := mkF m pc Ls (.int j :: .ref a :: S)) rfl rfl (hb hby hd) t q⟩
theorem WP.getfield {idx : Nat} {R0 O nm d host : String} {a : Addr} {v : Value} (hd : D1 bytes pc (.getfield idx) 3 pc') (w : (Cond.fieldLink y.cls idx R0 nm d).before a0 Z = true ∨ (Cond.fieldLinkNest y.cls idx R0 nm d host).before a0 Z = true) (via : Via Z R0 O nm d) (A : Fld Z h a O nm d v) (k : WP l Z EL n0 R y bytes ml ret Q F h cells slots pc' Ls (v :: S)) : WP l Z EL n0 R y bytes ml ret Q F h cells slots pc Ls (.ref a :: S) := by
  obtain ⟨hd, rfl⟩ := hd
  refine WP.same (fun p e1 s m args below meth c' T vm0 locs D => ?_) k
  obtain ⟨X, e0, -, hZ, hown, -, -, -, -, hxx, hby, -⟩ := D
  exact getF X hxx hZ hown w via e0 A (g := mkF m pc Ls (.ref a :: S)) rfl rfl (hb hby hd)
theorem WP.putfield {idx kk : Nat} {R0 O nm d host C : String} {ty : FieldType} {a : Addr} {v old : Value} (hd : D1 bytes pc (.putfield idx) 3 pc') (w : (Cond.fieldLink y.cls idx R0 nm d).before a0 Z = true ∨ (Cond.fieldLinkNest y.cls idx R0 nm d host).before a0 Z = true) (via : Via Z R0 O nm d) (A : Fld Z h a O nm d old) (E : Exa Z h a C)
    (L : (Cond.lays C O nm d).before a0 Z = true ∨ ((Cond.laysFinal C O nm d).before a0 Z = true ∧ y.cls = O ∧ y.name = "<init>")) (wi : (Cond.instantiable C kk).before a0 Z = true) (hty : parseFieldDescriptor d = some ty) (hn : narrow ty v = v) (hf : fits ty v = true) (na : n0 ≤ a) (hs : SafeBy Z EL F h a)
    (k : ∀ h', Wr h h' a (Jvm.RoadKit.slotOf Z O nm d) v → WP l Z EL n0 R y bytes ml ret Q F h' cells slots pc' Ls S) : WP l Z EL n0 R y bytes ml ret Q F h cells slots pc Ls (v :: .ref a :: S) := by
  obtain ⟨hd, rfl⟩ := hd
  refine WP.write na hs (fun p e1 s m args below meth c' T vm0 locs D => ?_) k
  obtain ⟨X, e0, -, hZ, hown, -, -, -, -, hxx, hby, -, -, -, hnm, -⟩ := D
  exact putF X hxx hZ hown w via e0 A E (L.imp id fun q => ⟨q.1, q.2.1, hnm.trans q.2.2⟩) wi hty hn hf (g := mkF m pc Ls (v :: .ref a :: S)) rfl rfl (hb hby hd)
theorem WP.getstatic {idx : Nat} {R0 O nm d : String} {v : Value} (hd : D1 bytes pc (.getstatic idx) 3 pc') (w : (Cond.fieldLink y.cls idx R0 nm d).before a0 Z = true) (via : Via Z R0 O nm d) (A : Sta Z Z.heap O nm d v) (k : WP l Z EL n0 R y bytes ml ret Q F h cells slots pc' Ls (v :: S)) : WP l Z EL n0 R y bytes ml ret Q F h cells slots pc Ls S := by
  obtain ⟨hd, rfl⟩ := hd
  refine WP.same (fun p e1 s m args below meth c' T vm0 locs D => ?_) k
  obtain ⟨X, e0, -, hZ, hown, -, -, -, hO, hxx, hby, -⟩ := D
  exact getS (host := "") X hxx hZ hown w via e0 (A.ext hO.2) (g := mkF m pc Ls S) rfl (hb hby hd)
theorem WP.checkcast {idx : Nat} {K : String} {a : Addr} (hd : D1 bytes pc (.checkcast idx) 3 pc') (w : (Cond.classLink y.cls idx K).before a0 Z = true) (A : Ins Z h a K true) (k : WP l Z EL n0 R y bytes ml ret Q F h cells slots pc' Ls (.ref a :: S)) : WP l Z EL n0 R y bytes ml ret Q F h cells slots pc Ls (.ref a :: S) := by
  obtain ⟨hd, rfl⟩ := hd
  refine WP.same (fun p e1 s m args below meth c' T vm0 locs D => ?_) k
  obtain ⟨X, e0, -, hZ, hown, -, -, -, hO, hxx, hby, -⟩ := D
  exact castY X hxx hZ hown w e0 A (g := mkF m pc Ls (.ref a :: S)) rfl rfl (hb hby hd)
theorem WP.instanceof {idx : Nat} {K : String} {a : Addr} (hd : D1 bytes pc (.instanceof idx) 3 pc') (w : (Cond.classLink y.cls idx K).before a0 Z = true) (A : Ins Z h a K true) (k : WP l Z EL n0 R y bytes ml ret Q F h cells slots pc' Ls (.int 1 :: S)) : WP l Z EL n0 R y bytes ml ret Q F h cells slots pc Ls (.ref a :: S) := by
  obtain ⟨hd, rfl⟩ := hd
  refine WP.same (fun p e1 s m args below meth c' T vm0 locs D => ?_) k
  obtain ⟨X, e0, -, hZ, hown, -, -, -, hO, hxx, hby, -⟩ := D
  exact instY X hxx hZ hown w e0 A (g := mkF m pc Ls (.ref a :: S)) rfl rfl (hb hby hd)
theorem WP.initObject {idx : Nat} {a : Addr} (hd : D1 bytes pc (.invokespecial idx) 3 pc') (w1 : (Cond.methodLink y.cls idx Lib.objectInit).before a0 Z = true) (w2 : (Cond.instanceMethod Lib.objectInit).before a0 Z = true) (w3 : (Cond.code Lib.objectInit ⟨#[0xb1]⟩ 1 none).before a0 Z = true) (hsz : Ls.size = ml) (hf : 1 ≤ R.frames) (hl : (S.map fun v => v.category).sum + 12 ≤ R.locals)
    (k : WP l Z EL n0 R y bytes ml ret Q F h cells slots pc' Ls S) : WP l Z EL n0 R y bytes ml ret Q F h cells slots pc Ls (.ref a :: S) := by
  obtain ⟨hd, rfl⟩ := hd
  refine WP.same (fun p e1 s m args below meth c' T vm0 locs D => ?_) k
  obtain ⟨X, e0, -, hZ, hown, -, -, -, hO, hxx, hby, hml, -⟩ := D
  exact initO X hxx hZ hown w1 w2 w3 e0 (g := mkF m pc Ls (.ref a :: S)) rfl (by rw [hml]; exact hsz) rfl (hb hby hd) hf (W := (S.map fun v => v.category).sum) (by show 2 * 0 + _ ≤ _; omega) hl
/-- ldc of a String constant, read -/
theorem WP.ldcS {idx n : Nat} {text : String} {bs : List Int32} (hd : D1 bytes pc (.ldc idx) 2 pc') (hEL : EW Z a0 EL) (hmem : (y.cls, idx) ∈ EL) (w : (Cond.stringLink y.cls idx text).before a0 Z = true) (wS : ∀ a ∈ Bundle.stringAtoms, a.before a0 Z = true)
    (ht : (∀ c ∈ text.toList, c.toNat < 256) ∧ text.toList.map (fun c => Jvm.Lit.byteI c.toNat.toUInt16) = bs) (hlen : bs.length < 2 ^ 31) (hn : 4 * text.toList.length ≤ n) (hbig : n ≤ 536870912) (hc : cells + 2 ≤ R.cells) (hl' : slots + (n + 4) ≤ R.slots)
    (k : ∀ h' a b, Ext h h' → Exa Z h' a "java/lang/String" → Fld Z h' a "java/lang/String" "coder" "B" (.int 0) → Fld Z h' a "java/lang/String" "value" "[B" (.ref b) → IA Z h' b .byte bs → WP l Z EL n0 R y bytes ml ret Q F h' (cells + 2) (slots + (n + 4)) pc' Ls (.ref a :: S)) : WP l Z EL n0 R y bytes ml ret Q F h cells slots pc Ls S := by
  obtain ⟨hd, rfl⟩ := hd
  intro p e s m args below meth c T vm0 locs D
  obtain ⟨X, e0, ⟨k0, hS, hk⟩, hZ, hown, hC, hF, hN, hO, hx, hby, r⟩ := D
  have hz : (Int32.ofNat bs.length).toNatClampNeg = (bs.map Value.int).length := by rw [(Ix.ofNat hlen).clamp]; simp
  obtain ⟨a, T', h', k1, b, kb, X', e', E, hS', hk', hZ', hown', hE, hco, hva, hA, -, -, hC', -, -, st⟩ := ldcCH X hx hZ hown w wS e0 hS hk hEL hmem hC.1 (vs := bs.map Value.int) (z := Int32.ofNat bs.length) ⟨ht.1, by rw [← ht.2, List.map_map]; rfl⟩ (Ix.ofNat hlen).nn hz (g := mkF m pc Ls S) rfl (hb hby hd) hn hbig hc hl'
  exact (k h' a b E hE hco hva (IA.of_arv hA (by rw [hz]; simp)) p e s m args below meth c T' T'.vm locs ⟨X', e', ⟨k1, hS', hk'⟩, hZ', hown', hC.trans hC', fun x hx => ⟨Nat.lt_of_lt_of_le (hF x hx).1 E.1, hC'.safe (hF x hx).1 (hF x hx).2⟩, hN, hO.ext E, hx, hby, r⟩).step st
/-- ldc of a String constant, not read -/
theorem WP.ldcO {idx n : Nat} {text : String} (hd : D1 bytes pc (.ldc idx) 2 pc') (hEL : EW Z a0 EL) (w : (Cond.stringLink y.cls idx text).before a0 Z = true) (wS : ∀ a ∈ Bundle.stringAtoms, a.before a0 Z = true)
    (hn : 4 * text.toList.length ≤ n) (hbig : n ≤ 536870912) (hc : cells + 2 ≤ R.cells) (hl' : slots + (n + 4) ≤ R.slots)
    (k : ∀ h' a, Ext h h' → WP l Z EL n0 R y bytes ml ret Q F h' (cells + 2) (slots + (n + 4)) pc' Ls (.ref a :: S)) : WP l Z EL n0 R y bytes ml ret Q F h cells slots pc Ls S := by
  obtain ⟨hd, rfl⟩ := hd
  intro p e s m args below meth c T vm0 locs D
  obtain ⟨X, e0, ⟨k0, hS, hk⟩, hZ, hown, hC, hF, hN, hO, hx, hby, r⟩ := D
  obtain ⟨a, T', h', k1, X', e', E, hS', hk', hZ', hown', hC', -, st⟩ := ldcOH X hx hZ hown w wS e0 hS hk hEL hC.1 (g := mkF m pc Ls S) rfl (hb hby hd) hn hbig hc hl'
  exact (k h' a E p e s m args below meth c T' T'.vm locs ⟨X', e', ⟨k1, hS', hk'⟩, hZ', hown', hC.trans hC', fun x hx => ⟨Nat.lt_of_lt_of_le (hF x hx).1 E.1, hC'.safe (hF x hx).1 (hF x hx).2⟩, hN, hO.ext E, hx, hby, r⟩).step st
/-- return of anything that its type takes as it is -/
theorem WP.retV {w : Value} {i : Instr} {t : FieldType} (hd : D1 bytes pc i 1 pc') (hr : ret = some t) (hn : narrow t w = w)
    (hi : (i = .ireturn ∧ (t = .int ∨ t = .boolean ∨ t = .byte ∨ t = .char ∨ t = .short) ∧ ∃ z, w = .int z) ∨ (i = .lreturn ∧ t = .long ∧ ∃ z, w = .long z) ∨ (i = .dreturn ∧ t = .double ∧ ∃ z, w = .double z) ∨ (i = .freturn ∧ t = .float ∧ ∃ z, w = .float z) ∨ (i = .areturn ∧ t.isReference = true ∧ w.isRef = true))
    (hc : cells ≤ R.cells) (hl : slots ≤ R.slots) {G : List Addr} (hG : ∀ x ∈ G, x ∈ F) (hQ : Q (some w) h G) : WP l Z EL n0 R y bytes ml ret Q F h cells slots pc Ls (w :: S) := by
  obtain ⟨hd, rfl⟩ := hd
  refine WP.leave (v := some w) (fun p e s m args below meth c T vm0 locs fs D hlv => ?_) (fun q => by rw [hr] at q; cases q) hc hl hG hQ
  obtain ⟨X, e0, -, hZ, hown, -, -, -, -, hx, hby, -, hret, -⟩ := D
  exact retOut X hx (hret.trans hr) hn hi (hb hby hd) hlv
theorem WP.ireturn {z : Int32} {t : FieldType} (hd : D1 bytes pc .ireturn 1 pc') (hr : ret = some t) (ht : t = .int ∨ t = .boolean ∨ t = .byte ∨ t = .char ∨ t = .short) (hn : narrow t (.int z) = .int z) (hc : cells ≤ R.cells) (hl : slots ≤ R.slots) {G : List Addr} (hG : ∀ x ∈ G, x ∈ F) (hQ : Q (some (.int z)) h G) : WP l Z EL n0 R y bytes ml ret Q F h cells slots pc Ls (.int z :: S) :=
  WP.retV hd hr hn (Or.inl ⟨rfl, ht, z, rfl⟩) hc hl hG hQ
theorem WP.areturn {w : Value} {t : FieldType} (hd : D1 bytes pc .areturn 1 pc') (hr : ret = some t) (ht : t.isReference = true) (hw : w.isRef = true) (hc : cells ≤ R.cells) (hl : slots ≤ R.slots) {G : List Addr} (hG : ∀ x ∈ G, x ∈ F) (hQ : Q (some w) h G) : WP l Z EL n0 R y bytes ml ret Q F h cells slots pc Ls (w :: S) :=
  WP.retV hd hr (by cases t <;> first | (cases ht; done) | (rcases ref_cases hw with rfl | ⟨a, rfl⟩ <;> rfl)) (Or.inr (Or.inr (Or.inr (Or.inr ⟨rfl, ht, hw⟩)))) hc hl hG hQ
theorem WP.return_ (hd : D1 bytes pc .return_ 1 pc') (hr : ret = none) (hc : cells ≤ R.cells) (hl : slots ≤ R.slots) {G : List Addr} (hG : ∀ x ∈ G, x ∈ F) (hQ : Q none h G) : WP l Z EL n0 R y bytes ml ret Q F h cells slots pc Ls [] := by
  obtain ⟨hd, rfl⟩ := hd
  refine WP.leave (v := none) (fun p e s m args below meth c T vm0 locs fs D hlv => ?_) (fun _ => rfl) hc hl hG hQ
  obtain ⟨X, e0, -, hZ, hown, -, -, -, -, hx, hby, -, hret, -⟩ := D
  exact X.returnOut hx (hret.trans hr) (hb hby hd) hlv
end Heap
end Jvm.Own
namespace Jvm.Own
open Jvm Jvm.ClassFile Sem Op Lib Jvm.Free Jvm.Stand Jvm.LawKit Jvm.RoadKit Bundle
/-- a method's contract: called with these arguments at the heap h0 it returns as Q says -/
def Met (l : Launch) (Z : State) (EL : List (String × Nat)) (n0 : Nat) (ws : List Jvm.Cond) (y : MethodName) (bytes : ByteArray) (ml : Nat) (ret : Option FieldType) (rm : Room) (as : Array Value) (F0 : List Addr) (h0 : Heap) (Q : Option Value → Heap → List Addr → Prop) : Prop :=
  MetFree l y (head1 (Jvm.Cond.code y bytes ml ret :: ws) rm) (fun a U => a = as ∧ Z.Warmed39 U.vm ∧ U.heap = h0 ∧ CHv Z EL U.vm h0 ∧ SafeL Z EL U.vm h0 F0) (fun _ _ bl _ _ => Gn Z → Z.vm.FramesKnown bl)
    (fun _ U o U' => ∃ v L, o = .returned v ∧ ((∃ F, Q v U'.heap F ∧ SafeL Z EL U'.vm U'.heap F) ∧ Fr n0 L ∧ Old Z n0 U'.heap) ∧ CHr Z EL U.vm U.heap U'.vm U'.heap ∧ ReturnedEndW U o U' L rm.cells rm.slots)
section Calls
variable {l : Launch} {Z : State} {EL : List (String × Nat)} {n0 : Nat} {R : Room} {y : MethodName} {bytes : ByteArray} {ml : Nat} {ret : Option FieldType} {Q : Option Value → Heap → List Addr → Prop}
  {F : List Addr} {h : Heap} {cells slots pc pc' : Nat} {Ls Ls' : Array Slot} {S S' : List Value} {a0 : Array Value}
theorem Met.of {ws : List Jvm.Cond} {rm : Room} {as : Array Value} {F0 : List Addr} {h0 : Heap} (hpl : plainFor y = true) (hEL : EW Z a0 EL) (hO : Old Z n0 h0) (hef : ∀ m, entryFrame m as ml = mkF m 0 Ls [])
    (body : WP l Z EL n0 rm y bytes ml ret Q F0 h0 0 0 0 Ls []) : Met l Z EL n0 ws y bytes ml ret rm as F0 h0 Q := by
  refine MetFree.of_bodySF hpl hisR ?_
  intro p e s m args below meth c s₁ Bd hml0 hP hK
  obtain ⟨rfl, hZ, hh, hC, hS⟩ := hP
  have e0 : s₁.heap = h0 := by rw [← hh, Bd.state]; rfl
  have ev : s₁.vm = s.vm := by rw [Bd.state]; rfl
  have X : Stand p l e rm s m args below meth c s₁ [] 0 0 := Stand.of_body Bd
  have hsi : s.Since s.vm 0 := ev ▸ X.warmed.since 0
  obtain ⟨t, o, r1, r⟩ := body p e s m args below meth c s₁ s.vm [] ⟨X, e0, ⟨0, hsi, Nat.zero_le _⟩, hZ, findClass_of_methodNamed Bd.named, by rw [hh]; exact CHr.refl hC, hS, Fr.nil n0, hO, Bd.exec, Bd.bytes, hml0, Bd.returns, Bd.notSynchronized, (name_of_methodNamed Bd.named Bd.method).1, ⟨a0, hEL⟩, hK, by rw [hh]; exact hO.2⟩
  refine ⟨t, o, ?_, r⟩
  rw [hef]; exact r1
variable {yc : MethodName} {bytesc : ByteArray} {mlc : Nat} {retc : Option FieldType} {rm : Room} {as : Array Value} {F0 : List Addr} {Qc : Option Value → Heap → List Addr → Prop}
theorem known_of {p : Program} {e : Env} {m : MethodId} {meth : Method} {c : Code} {T s : State} {vm0 : Vm} {args : Array Value} {below : List Frame} {locs : List Loc} (Y : Stand p l e R (s.setVm vm0) m args below meth c T locs cells slots) {g : JFrame} (hg : g.method = m) (hZ : Z.Warmed39 vm0) (hk : Gn Z → Z.vm.FramesKnown below) : Gn Z → Z.vm.FramesKnown (T.setTop g).frames := fun q =>
  have hA : Z.vm.Alike T.vm := (wtrans (s := s.setVm vm0) hZ Y.warmed).alike
  (Vm.FramesKnown.alikeC hA.symm (known_frames Y hg (Vm.MethodsKnown.alikeC (vm' := (s.setVm vm0).vm) hZ.alike q.1) (Vm.FramesKnown.alikeC (vm' := (s.setVm vm0).vm) hZ.alike (hk q))).2)
theorem backM {p : Program} {e : Env} {below : List Frame} {s : State} {vm0 : Vm} {args : Array Value} {len W : Nat} (M : Met l Z EL n0 [] yc bytesc mlc retc rm as F0 h Qc)
    (hZ : Z.Warmed39 vm0) (wc : (Jvm.Cond.code yc bytesc mlc retc).before a0 Z = true) (wz : (Jvm.Cond.initialized yc.cls).before a0 Z = true) (hf : rm.frames + 1 ≤ R.frames) (hl : W + (mlc + 11) + rm.locals ≤ R.locals) (hEL : ∃ a0, EW Z a0 EL) (hkn : Gn Z → Z.vm.FramesKnown below) (H : CHv Z EL vm0 h) (hS : SafeL Z EL vm0 h F0) :
    BackS l R p e below (s.setVm vm0) args yc len W (fun A a => a = as ∧ A.U.heap = h ∧ A.cells + rm.cells ≤ R.cells ∧ A.slots + rm.slots ≤ R.slots)
      (fun A _ v B => ∃ L F', Qc v B.U.heap F' ∧ SafeL Z EL B.U.vm B.U.heap F' ∧ Fr n0 L ∧ Old Z n0 B.U.heap ∧ B.locs = A.locs ++ L ∧ B.cells = A.cells + rm.cells ∧ B.slots = A.slots + rm.slots ∧ CHr Z EL vm0 h B.U.vm B.U.heap) := by
  obtain ⟨a1, hEL⟩ := hEL
  exact BackS.of_freeWG (bytes := bytesc) (maxL := mlc) (ret := retc) (E := fun _ first o t L k n => k = rm.cells ∧ n = rm.slots ∧ (∃ v, o = .returned v ∧ (∃ F', Qc v t.heap F' ∧ SafeL Z EL t.vm t.heap F') ∧ Fr n0 L ∧ Old Z n0 t.heap) ∧ CHr Z EL first.vm first.heap t.vm t.heap) M hf hl
    (fun m meth c A a Y hp => have hU : Z.Warmed39 A.U.vm := wtrans (s := s.setVm vm0) hZ Y.warmed
      ⟨by show (Jvm.Cond.and _ .tt).before a A.U = true; rw [Cond.before_and, mv hU wc]; rfl, mv hU wc, mv hU wz, hp.2.2.1, hp.2.2.2⟩)
    (fun m meth c A a g mk Y hp => ⟨hp.1, wtrans (s := s.setVm vm0) hZ Y.warmed, hp.2.1, (CHv.at Y hZ hEL H).1, fun x hx => ⟨(hS x hx).1, (CHv.at Y hZ hEL H).safe (hS x hx).1 (hS x hx).2⟩⟩) (fun m meth c A a g mk Y _ hg => known_of Y hg hZ hkn)
    (fun _ _ _ _ ⟨v, L, h1, h2, h3, h4⟩ => ⟨L, _, _, h4, rfl, rfl, ⟨v, h1, h2⟩, h3⟩)
    (fun m meth c A a g mk v t L k n Y hp _ _ ⟨e1, e2, ⟨v', e3, ⟨F', e4, e4'⟩, e5, e6⟩, e7⟩ => by
      cases e3; subst e1 e2
      refine ⟨L, F', e4, e4', e5, e6, rfl, rfl, rfl, (CHv.at Y hZ hEL H).trans ?_⟩
      rw [← hp.2.1]; exact e7)
theorem WP.call {len W : Nat} {rest : List Value} (M : Met l Z EL n0 [] yc bytesc mlc retc rm as F0 h Qc) (wc : (Jvm.Cond.code yc bytesc mlc retc).before a0 Z = true) (wz : (Jvm.Cond.initialized yc.cls).before a0 Z = true) (hf : rm.frames + 1 ≤ R.frames) (hl : W + (mlc + 11) + rm.locals ≤ R.locals)
    (hcl : cells + rm.cells ≤ R.cells) (hsl : slots + rm.slots ≤ R.slots) (hF0 : ∀ x ∈ F0, SafeBy Z EL F h x)
    (st : ∀ (p : Program) (e : Env) (s : State) (m : MethodId) (args : Array Value) (below : List Frame) (meth : Method) (c : Code) (T : State) (vm0 : Vm) (locs : List Loc), Std l Z EL n0 R y bytes ml ret p e s m args below meth c T vm0 locs F h cells slots →
      ∀ (Pre : Pt → Array Value → Prop) (Post : Pt → Array Value → Option Value → Pt → Prop), BackS l R p e below (s.setVm vm0) args yc len W Pre Post → (∀ vm₁, (s.setVm vm0).WarmedH vm₁ → Pre ⟨T.setVm vm₁, locs, cells, slots⟩ as) →
      ∃ (v : Option Value) (vm₁ : Vm) (B : Pt), (s.setVm vm0).WarmedH vm₁ ∧ Stand p l e R ((s.setVm vm0).setVm B.U.vm) m args below meth c B.U B.locs B.cells B.slots ∧ (s.setVm vm0).Since B.U.vm B.U.heap.size ∧ T.heap.size ≤ B.U.heap.size ∧ Post ⟨T.setVm vm₁, locs, cells, slots⟩ as v B ∧
        Steps p.tables e below (T.setTop (mkF m pc Ls S)) (B.U.setTop (mkF m pc' Ls (v.toList ++ rest))))
    (k : ∀ v h' F', Qc v h' F' → h.size ≤ h'.size → WP l Z EL n0 R y bytes ml ret Q (F' ++ F) h' (cells + rm.cells) (slots + rm.slots) pc' Ls (v.toList ++ rest)) : WP l Z EL n0 R y bytes ml ret Q F h cells slots pc Ls S := by
  intro p e s m args below meth c T vm0 locs D
  have D' := D
  obtain ⟨X, e0, ⟨k0, hS, hk⟩, hZ, hown, hC, hF, hN, hO, hx, hby, hml, hret, hlk, hnm, hEL, hkn⟩ := D
  have K := backM (p := p) (e := e) (below := below) (s := s) (args := args) (len := len) (W := W) (R := R) M hZ wc wz hf hl hEL hkn.1 hC.1 (fun x hx => ⟨(hF0 x hx).1, (hF0 x hx).2 vm0 hZ.alike hF⟩)
  obtain ⟨v, vm₁, ⟨U, L1, c1, n1⟩, -, X', hS', hle, ⟨L, F', q1, q2, q3, q4, q5, q6, q7, q8⟩, stp⟩ := st p e s m args below meth c T vm0 locs D' _ _ K (fun vm₁ _ => ⟨rfl, e0, hcl, hsl⟩)
  subst q5 q6 q7
  obtain ⟨X2, hS2, hZ2, hown2⟩ := rebS (s := s) hS (show k0 ≤ T.heap.size by rw [e0]; exact hk) X' hS' hle hZ hown
  refine (k v U.heap F' q1 q8.2.1 p e s m args below meth c U U.vm _ ⟨X2, rfl, ⟨_, hS2, Nat.le_refl _⟩, hZ2, hown2, hC.trans q8, fun x hx => ?_, hN.app q3, q4, hx, hby, hml, hret, hlk, hnm, hEL, hkn⟩).step fun t q => stp.trans q
  rcases List.mem_append.mp hx with hx | hx
  · exact q2 x hx
  · exact ⟨Nat.lt_of_lt_of_le (hF x hx).1 q8.2.1, q8.safe (hF x hx).1 (hF x hx).2⟩
/-- invokestatic -/
theorem WP.static {idx : Nat} {argsL rest : List Value} {ps : List FieldType} {rt : Option FieldType} (hd : D1 bytes pc (.invokestatic idx) 3 pc') (M : Met l Z EL n0 [] yc bytesc mlc retc rm argsL.toArray F0 h Qc)
    (wl : (Jvm.Cond.methodLink y.cls idx yc).before a0 Z = true) (ws : (Jvm.Cond.static yc).before a0 Z = true) (wz : (Jvm.Cond.initialized yc.cls).before a0 Z = true) (wc : (Jvm.Cond.code yc bytesc mlc retc).before a0 Z = true)
    (hy : yc.cls ≠ "java/lang/invoke/MethodHandle" ∧ yc.cls ≠ "java/lang/invoke/VarHandle") (hpd : parseMethodDescriptor yc.desc = some ⟨ps, rt⟩) (hpl : argsL.length = ps.length) (hstk : S = argsL.reverse ++ rest) (hsz : Ls.size = ml)
    (hf : rm.frames + 1 ≤ R.frames) (hl : (rest.map fun v => v.category).sum + (mlc + 11) + rm.locals ≤ R.locals) (hcl : cells + rm.cells ≤ R.cells) (hsl : slots + rm.slots ≤ R.slots) (hF0 : ∀ x ∈ F0, SafeBy Z EL F h x)
    (k : ∀ v h' F', Qc v h' F' → h.size ≤ h'.size → WP l Z EL n0 R y bytes ml ret Q (F' ++ F) h' (cells + rm.cells) (slots + rm.slots) pc' Ls (v.toList ++ rest)) : WP l Z EL n0 R y bytes ml ret Q F h cells slots pc Ls S := by
  obtain ⟨hd, rfl⟩ := hd
  refine WP.call (len := 3) (rest := rest) M wc wz hf hl hcl hsl hF0 (fun p e s m args below meth c T vm0 locs D Pre Post K hpre => ?_) k
  obtain ⟨X, e0, -, hZ, hown, -, -, -, -, hx, hby, hml, -⟩ := D
  exact callSS X hx hown (mvT (s := s.setVm vm0) hZ wl) (mvT (s := s.setVm vm0) hZ ws) (mvT (s := s.setVm vm0) hZ wz) (mvT (s := s.setVm vm0) hZ wc) hy K (g := mkF m pc Ls S) rfl (by rw [hml]; exact hsz) (lenOf hpd hpl) hstk (by show 2 * 0 + _ ≤ _; omega) (hb hby hd) hpre
/-- invokespecial of a constructor -/
theorem WP.special {idx : Nat} {a : Addr} {argsL rest : List Value} {ps : List FieldType} {rt : Option FieldType} (hd : D1 bytes pc (.invokespecial idx) 3 pc') (M : Met l Z EL n0 [] yc bytesc mlc none rm (.ref a :: argsL).toArray F0 h Qc) (hn : yc.name = "<init>")
    (wl : (Jvm.Cond.methodLink y.cls idx yc).before a0 Z = true) (ws : (Jvm.Cond.instanceMethod yc).before a0 Z = true) (wz : (Jvm.Cond.initialized yc.cls).before a0 Z = true) (wc : (Jvm.Cond.code yc bytesc mlc none).before a0 Z = true)
    (hy : yc.cls ≠ "java/lang/invoke/MethodHandle" ∧ yc.cls ≠ "java/lang/invoke/VarHandle") (hpd : parseMethodDescriptor yc.desc = some ⟨ps, rt⟩) (hpl : argsL.length = ps.length) (hstk : S = argsL.reverse ++ .ref a :: rest) (hsz : Ls.size = ml)
    (hf : rm.frames + 1 ≤ R.frames) (hl : (rest.map fun v => v.category).sum + (mlc + 11) + rm.locals ≤ R.locals) (hcl : cells + rm.cells ≤ R.cells) (hsl : slots + rm.slots ≤ R.slots) (hF0 : ∀ x ∈ F0, SafeBy Z EL F h x)
    (k : ∀ v h' F', Qc v h' F' → h.size ≤ h'.size → WP l Z EL n0 R y bytes ml ret Q (F' ++ F) h' (cells + rm.cells) (slots + rm.slots) pc' Ls (v.toList ++ rest)) : WP l Z EL n0 R y bytes ml ret Q F h cells slots pc Ls S := by
  obtain ⟨hd, rfl⟩ := hd
  refine WP.call (len := 3) (rest := rest) M wc wz hf hl hcl hsl hF0 (fun p e s m args below meth c T vm0 locs D Pre Post K hpre => ?_) k
  obtain ⟨X, e0, -, hZ, hown, -, -, -, -, hx, hby, hml, -⟩ := D
  exact X.specialBackS hx hn hown (mvT (s := s.setVm vm0) hZ wl) (mvT (s := s.setVm vm0) hZ ws) (mvT (s := s.setVm vm0) hZ wc) hy K (g := mkF m pc Ls S) rfl (by rw [hml]; exact hsz) (Steps.refl _) (lenOf hpd hpl) hstk (by show 2 * 0 + _ ≤ _; omega) (hb hby hd) hpre
/-- invokevirtual -/
theorem WP.virtual {idx : Nat} {a : Addr} {C : String} {yr : MethodName} {argsL rest : List Value} {ps : List FieldType} {rt : Option FieldType} (hd : D1 bytes pc (.invokevirtual idx) 3 pc') (M : Met l Z EL n0 [] yc bytesc mlc retc rm (.ref a :: argsL).toArray F0 h Qc) (E : Exa Z h a C)
    (wl : (Jvm.Cond.methodLink y.cls idx yr).before a0 Z = true) (wd : (Jvm.Cond.declares yr).before a0 Z = true) (wi : (Jvm.Cond.instanceMethod yc).before a0 Z = true) (ws : (Jvm.Cond.selects C yr yc).before a0 Z = true) (wz : (Jvm.Cond.initialized yc.cls).before a0 Z = true) (wc : (Jvm.Cond.code yc bytesc mlc retc).before a0 Z = true)
    {C2 : String} (hnf : (Jvm.Cond.selects C2 yr yr).before a0 Z = true)
    (hy : yr.cls ≠ "java/lang/invoke/MethodHandle" ∧ yr.cls ≠ "java/lang/invoke/VarHandle") (hpd : parseMethodDescriptor yr.desc = some ⟨ps, rt⟩) (hpl : argsL.length = ps.length) (hstk : S = argsL.reverse ++ .ref a :: rest) (hsz : Ls.size = ml)
    (hf : rm.frames + 1 ≤ R.frames) (hl : (rest.map fun v => v.category).sum + (mlc + 11) + rm.locals ≤ R.locals) (hcl : cells + rm.cells ≤ R.cells) (hsl : slots + rm.slots ≤ R.slots) (hF0 : ∀ x ∈ F0, SafeBy Z EL F h x)
    (k : ∀ v h' F', Qc v h' F' → h.size ≤ h'.size → WP l Z EL n0 R y bytes ml ret Q (F' ++ F) h' (cells + rm.cells) (slots + rm.slots) pc' Ls (v.toList ++ rest)) : WP l Z EL n0 R y bytes ml ret Q F h cells slots pc Ls S := by
  obtain ⟨hd, rfl⟩ := hd
  refine WP.call (len := 3) (rest := rest) M wc wz hf hl hcl hsl hF0 (fun p e s m args below meth c T vm0 locs D Pre Post K hpre => ?_) k
  obtain ⟨X, e0, -, hZ, hown, -, -, -, -, hx, hby, hml, -⟩ := D
  obtain ⟨cB, kB, o1, o2, o3⟩ := isOf (s := s.setVm vm0) hZ e0 E
  exact X.virtualBackS hx hown (mvT (s := s.setVm vm0) hZ wl) (mvT (s := s.setVm vm0) hZ wd) (notFace_of_selects (args := #[]) (mvT (s := s.setVm vm0) hZ hnf)) (mvT (s := s.setVm vm0) hZ ws) (mvT (s := s.setVm vm0) hZ wi) hy K o1 o3 (g := mkF m pc Ls S) rfl (by rw [hml]; exact hsz) (Steps.refl _) (lenOf hpd hpl) hstk (by show 2 * 0 + _ ≤ _; omega) (hb hby hd) hpre
end Calls
end Jvm.Own
namespace Jvm.Own
open Jvm Jvm.ClassFile Sem Op Lib Jvm.Free Jvm.Stand Jvm.LawKit Jvm.RoadKit Bundle
def Str (Z : State) (h : Heap) (a t : Addr) (bs : List Int32) : Prop := Exa Z h a "java/lang/String" ∧ Fld Z h a "java/lang/String" "coder" "B" (.int 0) ∧ Fld Z h a "java/lang/String" "value" "[B" (.ref t) ∧ IA Z h t .byte bs
/-- chars from 0 to 255 -/
def Lat (cs : List Int32) : Prop := ∀ c ∈ cs, 0 ≤ c.toInt ∧ c.toInt < 256
def lo8 (x : Int32) : Int32 := x.toInt8.toInt32
/-- a char below 256 -/
def B8 (c : Int32) : Prop := 0 ≤ c.toInt ∧ c.toInt < 256
theorem B8.and (x : Int32) : B8 (x &&& 255) := by
  have q := c_and x 255 (by decide)
  have e : (255 : Int32).toInt = 255 := rfl
  rw [e] at q
  exact ⟨q.1, by omega⟩
theorem B8.i2c_eq {x : Int32} (q : B8 x) : x.toUInt32.toUInt16.toUInt32.toInt32 = x := by
  have a := c_i2c x
  obtain ⟨q1, q2⟩ := q
  apply Int32.toInt_inj.mp
  omega
theorem B8.i2c {x : Int32} (q : B8 x) : B8 (x.toUInt32.toUInt16.toUInt32.toInt32) := by rw [q.i2c_eq]; exact q
theorem B8.nar {x : Int32} (q : B8 x) : nar .char x = x := q.i2c_eq
theorem Lat.nil : Lat [] := fun _ q => nomatch q
theorem Lat.cons {c : Int32} {cs : List Int32} (q : B8 c) (r : Lat cs) : Lat (c :: cs) := fun x hx => by
  rcases List.mem_cons.mp hx with rfl | hx
  · exact q
  · exact r x hx
section StrFacts
variable {Z : State} {h h' : Heap} {a b t : Addr} {bs cs : List Int32} {sl : Nat} {v : Value} {ws : List Addr}
theorem Str.lt (A : Str Z h a t bs) : a < h.size := A.1.lt
theorem Str.ltT (A : Str Z h a t bs) : t < h.size := A.2.2.2.lt
theorem Str.ext (A : Str Z h a t bs) (E : Ext h h') : Str Z h' a t bs := ⟨A.1.ext E, A.2.1.ext E, A.2.2.1.ext E, A.2.2.2.ext E⟩
theorem Str.keep (A : Str Z h a t bs) (K : Keep h h' ws) (q1 : a ∉ ws) (q2 : t ∉ ws) : Str Z h' a t bs := ⟨A.1.keep K, A.2.1.keep K q1, A.2.2.1.keep K q1, A.2.2.2.keep K q2⟩
theorem Str.other (A : Str Z h a t bs) (W : Wr h h' b sl v) (q1 : a ≠ b) (q2 : t ≠ b) : Str Z h' a t bs := ⟨A.1.wr W, A.2.1.other W (Or.inl q1), A.2.2.1.other W (Or.inl q1), A.2.2.2.other W q2⟩
theorem IA.inj {ty ty' : FieldType} {xs ys : List Int32} (A : IA Z h a ty xs) (B : IA Z h a ty' ys) : xs = ys := by
  obtain ⟨c, A, e, -⟩ := A
  obtain ⟨c', B, e', -⟩ := B
  cases A.1.symm.trans B.1
  have q := congrArg Array.toList (e.symm.trans e')
  simp only at q
  exact (List.map_inj_right (fun _ _ z => by cases z; rfl)).mp q
theorem Fld.inj {C n d : String} {v w : Value} (F : Fld Z h a C n d v) (G : Fld Z h a C n d w) : v = w := Classical.byContradiction fun q => Fld.ne F G q rfl
theorem Str.inj {t' : Addr} {bs' : List Int32} (A : Str Z h a t bs) (B : Str Z h a t' bs') : t = t' ∧ bs = bs' := by
  have q := Fld.inj A.2.2.1 B.2.2.1
  cases q
  exact ⟨rfl, IA.inj A.2.2.2 B.2.2.2⟩
theorem lo8_inj {x z : Int32} (hx : 0 ≤ x.toInt ∧ x.toInt < 256) (hz : 0 ≤ z.toInt ∧ z.toInt < 256) (q : lo8 x = lo8 z) : x = z := by
  have a1 := (c_i2b x).1
  have a2 := (c_i2b z).1
  have e : x.toInt8.toInt32.toInt = z.toInt8.toInt32.toInt := congrArg Int32.toInt q
  apply Int32.toInt_inj.mp
  omega
theorem lo8_map_inj : ∀ {cs ds : List Int32}, Lat cs → Lat ds → (cs.map lo8 = ds.map lo8 ↔ cs = ds) := by
  intro cs
  induction cs with
  | nil => intro ds _ _; cases ds <;> simp
  | cons c r ih =>
    intro ds h1 h2
    cases ds with
    | nil => simp
    | cons d r' =>
      simp only [List.map_cons, List.cons.injEq]
      have i := ih (ds := r') (fun x hx => h1 x (by simp [hx])) (fun x hx => h2 x (by simp [hx]))
      constructor
      · rintro ⟨p, q⟩
        exact ⟨lo8_inj (h1 c (by simp)) (h2 d (by simp)) p, i.mp q⟩
      · rintro ⟨rfl, q⟩
        exact ⟨rfl, i.mpr q⟩
def chr8 (b : Int32) : Int32 := (b &&& 255).toUInt32.toUInt16.toUInt32.toInt32
theorem chr8_lo8 {c : Int32} (q : B8 c) : chr8 (lo8 c) = c := by
  have e : lo8 c &&& 255 = c := by
    have a1 := c_mask (lo8 c) 255 8 (by decide) (by decide)
    have a2 := (c_i2b c).1
    obtain ⟨q1, q2⟩ := q
    apply Int32.toInt_inj.mp
    rw [a1]
    show c.toInt8.toInt32.toInt % ((2 ^ 8 : Nat) : Int) = _
    have e : ((2 ^ 8 : Nat) : Int) = 256 := rfl
    rw [e]
    omega
  unfold chr8
  rw [e]
  exact q.i2c_eq
theorem shr0 (x : Int32) : x >>> ((0 : Int32) &&& 31) = x := by
  have q := c_ishr x 0 0 (by decide)
  apply Int32.toInt_inj.mp
  rw [q]
  simp
theorem Ix.ltn {j : Int32} {i n : Nat} (q : Ix j i) (hn : n < 2 ^ 31) (hi : i < n) : j < Int32.ofNat n := by
  rw [Int32.lt_iff_toInt_lt, q, Int32.toInt_ofNat_of_lt hn]; omega
/-- a String that 'new' has just made is no literal -/
theorem SafeBy.blank {EL : List (String × Nat)} {F : List Addr} (E : Exa Z h a "java/lang/String") (V : Fld Z h a "java/lang/String" "value" "[B" .null) {n : Nat} {a0 : Array Value} (wi : (Jvm.Cond.instantiable "java/lang/String" n).before a0 Z = true) : SafeBy Z EL F h a := by
  refine ⟨E.lt, fun vm hal _ B => ?_⟩
  obtain ⟨p, hp, u, b, hb, q, hq, F', hy⟩ := B
  obtain ⟨cS, ⟨⟨s1, s2, s3, ⟨cv, kv, iv, s4, s4'⟩, ⟨cc, kc, ic, s5, s5'⟩, s6, s7, s8, s9, s10, s11, s12, s13, s14, s15, s16⟩, hfS, hcS⟩, ⟨kS, k1, k2, k3⟩, hB, hbyt⟩ := F'
  obtain ⟨cell, cf, k, i, f, h1, h2, h3, h4, h5, h6, h7⟩ := V
  rcases hy with rfl | rfl
  · obtain ⟨kv', z4⟩ := ff_back (U := Wst Z vm h) hal s4
    cases h2.symm.trans z4
    cases h1.symm.trans (show h[q.sa]? = some q.sC from s1)
    have := h7.symm.trans s8
    cases this
  · obtain ⟨c1, kk, e1, e2, e3, -⟩ := E
    cases e1.symm.trans (show h[q.sd]? = some q.SA from s10)
    obtain ⟨c2, k2', i1, i2, i3, -⟩ := Cond.instantiable_spec wi
    cases e2.symm.trans i1
    obtain ⟨-, k9, hk9, comp, hkind9⟩ := s11
    obtain ⟨k', hk', ek⟩ := hal.2.2 _ _ i2
    cases (show vm.classes[q.SA.cls]? = some k9 from hk9).symm.trans hk'
    rw [ek] at hkind9
    have hk3 : k2'.kind = _ := hkind9
    rw [i3] at hk3
    cases hk3
end StrFacts
end Jvm.Own
namespace Jvm.Own
open Jvm Jvm.ClassFile Sem Op Lib Jvm.Free Jvm.Stand Jvm.LawKit Jvm.RoadKit Bundle
section Dbl
variable {l : Launch} {Z : State} {EL : List (String × Nat)} {n0 : Nat} {R : Room} {y : MethodName} {bytes : ByteArray} {ml : Nat} {ret : Option FieldType} {Q : Option Value → Heap → List Addr → Prop}
  {F : List Addr} {h : Heap} {cells slots pc pc' : Nat} {Ls Ls' : Array Slot} {S S' : List Value} {a0 : Array Value}
theorem WP.ldcI {idx : Nat} {v : Int32} (hd : D1 bytes pc (.ldc idx) 2 pc') (w : (Jvm.Cond.constant y.cls idx v).before a0 Z = true) (k : WP l Z EL n0 R y bytes ml ret Q F h cells slots pc' Ls (.int v :: S)) : WP l Z EL n0 R y bytes ml ret Q F h cells slots pc Ls S := by
  obtain ⟨hd, rfl⟩ := hd
  refine WP.same (fun p e1 s m args below meth c' T vm0 locs D => ?_) k
  obtain ⟨X, e0, -, hZ, hown, -, -, -, -, hx, hby, -⟩ := D
  exact ⟨T, X, e0, fun t q => X.ldcI hx hown (mvT (s := s.setVm vm0) hZ w) (g := mkF m pc Ls S) rfl (hb hby hd) q⟩
theorem WP.ldc2J {idx : Nat} {v : Int64} (hd : D1 bytes pc (.ldc2_w idx) 3 pc') (w : (Jvm.Cond.constantLong y.cls idx v).before a0 Z = true) (k : WP l Z EL n0 R y bytes ml ret Q F h cells slots pc' Ls (.long v :: S)) : WP l Z EL n0 R y bytes ml ret Q F h cells slots pc Ls S := by
  obtain ⟨hd, rfl⟩ := hd
  refine WP.same (fun p e1 s m args below meth c' T vm0 locs D => ?_) k
  obtain ⟨X, e0, -, hZ, hown, -, -, -, -, hx, hby, -⟩ := D
  exact ⟨T, X, e0, fun t q => X.ldc2J hx hown (mvT (s := s.setVm vm0) hZ w) (g := mkF m pc Ls S) rfl (hb hby hd) q⟩
theorem WP.ldc2D {idx : Nat} {v : UInt64} (hd : D1 bytes pc (.ldc2_w idx) 3 pc') (w : (Jvm.Cond.constantDouble y.cls idx v).before a0 Z = true) (k : WP l Z EL n0 R y bytes ml ret Q F h cells slots pc' Ls (.double v :: S)) : WP l Z EL n0 R y bytes ml ret Q F h cells slots pc Ls S := by
  obtain ⟨hd, rfl⟩ := hd
  refine WP.same (fun p e1 s m args below meth c' T vm0 locs D => ?_) k
  obtain ⟨X, e0, -, hZ, hown, -, -, -, -, hx, hby, -⟩ := D
  exact ⟨T, X, e0, fun t q => X.ldc2DoubleC hx hown (mvT (s := s.setVm vm0) hZ w) (g := mkF m pc Ls S) rfl (hb hby hd) t q⟩
theorem WP.dload_n {i : Fin 4} {x : UInt64} (hd : D1 bytes pc (.dload_n i) 1 pc') (hl : Ls[i.val]? = some (.val (.double x))) (k : WP l Z EL n0 R y bytes ml ret Q F h cells slots pc' Ls (.double x :: S)) : WP l Z EL n0 R y bytes ml ret Q F h cells slots pc Ls S := by
  obtain ⟨hd, rfl⟩ := hd
  exact k.lift fun p e m c below T t hx hby ha q => XS.dloadN ha hx rfl (hb hby hd) hl q
theorem WP.dload {i : Nat} {x : UInt64} (hd : D1 bytes pc (.dload i) 2 pc') (hl : Ls[i]? = some (.val (.double x))) (k : WP l Z EL n0 R y bytes ml ret Q F h cells slots pc' Ls (.double x :: S)) : WP l Z EL n0 R y bytes ml ret Q F h cells slots pc Ls S := by
  obtain ⟨hd, rfl⟩ := hd
  exact k.lift fun p e m c below T t hx hby ha q => XS.dload ha hx rfl (hb hby hd) hl q
theorem WP.dstore_n {i : Fin 4} {x z : UInt64} (hd : D1 bytes pc (.dstore_n i) 1 pc') (hz : x = z) (hl : storeLocals Ls i.val (.double z) = some Ls') (k : WP l Z EL n0 R y bytes ml ret Q F h cells slots pc' Ls' S) : WP l Z EL n0 R y bytes ml ret Q F h cells slots pc Ls (.double x :: S) := by
  obtain ⟨hd, rfl⟩ := hd
  subst hz
  exact k.lift fun p e m c below T t hx hby ha q => XS.dstoreN ha hx rfl (hb hby hd) rfl hl q
theorem WP.dstore {i : Nat} {x z : UInt64} (hd : D1 bytes pc (.dstore i) 2 pc') (hz : x = z) (hl : storeLocals Ls i (.double z) = some Ls') (k : WP l Z EL n0 R y bytes ml ret Q F h cells slots pc' Ls' S) : WP l Z EL n0 R y bytes ml ret Q F h cells slots pc Ls (.double x :: S) := by
  obtain ⟨hd, rfl⟩ := hd
  subst hz
  exact k.lift fun p e m c below T t hx hby ha q => XS.dstore ha hx rfl (hb hby hd) rfl hl q
theorem WP.i2d {x : Int32} (hd : D1 bytes pc .i2d 1 pc') (k : WP l Z EL n0 R y bytes ml ret Q F h cells slots pc' Ls (.double (FP.i2d x) :: S)) : WP l Z EL n0 R y bytes ml ret Q F h cells slots pc Ls (.int x :: S) := by
  obtain ⟨hd, rfl⟩ := hd
  exact k.lift fun p e m c below T t hx hby ha q => XS.i2dS ha hx rfl (hb hby hd) rfl rfl q
theorem WP.dcmp {o : CmpOp} {x z : UInt64} {v : Int32} (hd : D1 bytes pc (.dcmp o) 1 pc') (hv : cmpValue (FP.dcmp x z) o = v) (k : WP l Z EL n0 R y bytes ml ret Q F h cells slots pc' Ls (.int v :: S)) : WP l Z EL n0 R y bytes ml ret Q F h cells slots pc Ls (.double z :: .double x :: S) := by
  obtain ⟨hd, rfl⟩ := hd
  exact k.lift fun p e m c below T t hx hby ha q => XS.dcmpS ha hx rfl (hb hby hd) rfl hv q
/-- Math.abs of a double that is no NaN -/
theorem WP.absD {idx mlc : Nat} {bytesc : ByteArray} {x z : UInt64} (hd : D1 bytes pc (.invokestatic idx) 3 pc') (w1 : (Jvm.Cond.methodLink y.cls idx (⟨"java/lang/Math", "abs", "(D)D"⟩ : MethodName)).before a0 Z = true) (w2 : (Jvm.Cond.static (⟨"java/lang/Math", "abs", "(D)D"⟩ : MethodName)).before a0 Z = true) (w3 : (Jvm.Cond.initialized "java/lang/Math").before a0 Z = true) (w4 : (Jvm.Cond.code (⟨"java/lang/Math", "abs", "(D)D"⟩ : MethodName) bytesc mlc (some .double)).before a0 Z = true)
    (hn : x &&& 0x7fffffffffffffff ≤ 0x7ff0000000000000) (hz : x &&& 0x7fffffffffffffff = z) (hsz : Ls.size = ml) (hf : 1 ≤ R.frames) (hl : (S.map fun v => v.category).sum + (mlc + 11) ≤ R.locals) (hc : cells ≤ R.cells) (hs : slots ≤ R.slots)
    (k : WP l Z EL n0 R y bytes ml ret Q F h cells slots pc' Ls (.double z :: S)) : WP l Z EL n0 R y bytes ml ret Q F h cells slots pc Ls (.double x :: S) := by
  obtain ⟨hd, rfl⟩ := hd
  refine WP.same (fun p e1 s m args below meth c' T vm0 locs D => ?_) k
  obtain ⟨X, e0, -, hZ, hown, -, -, -, -, hx, hby, hml, -⟩ := D
  exact natS (s := s.setVm vm0) (F := fun a => a = #[.double x]) (val := .double (x &&& 0x7fffffffffffffff)) (W := (S.map fun v => v.category).sum) X hx hZ hown w1 w2 w3 w4 (by decide) e0
    (fun hcd m' meth' c2 A g ig mk a X' hg hsz' hdg hW hnm hp => by
      obtain ⟨v, B, X2, ⟨hB, hv⟩, st⟩ := Jvm.Free.NT.Abs64.pays (R := R) (W := (S.map fun v => v.category).sum) (len := 3) hcd (mvT (s := s.setVm vm0) hZ w2) hf hl m' meth' c2 A g ig mk a X' hg hsz' hdg hW hnm ⟨x, hp.2.2, hn⟩
      exact ⟨v, B, X2, ⟨hv x ⟨hp.2.2, hn⟩, hB⟩, st⟩)
    (g := mkF m pc Ls (.double x :: S)) rfl (by rw [hml]; exact hsz) (argsL := [.double x]) (rest := S) (lenOf (ps := [.double]) (r := some .double) (by decide +kernel) rfl) rfl (by show 2 * 0 + _ ≤ _; omega) (hb hby hd) hc hs rfl (by rw [hz])
end Dbl
end Jvm.Own
namespace Jvm.Own
open Jvm Jvm.ClassFile Sem Op Lib Jvm.Free Jvm.Stand Jvm.LawKit Jvm.RoadKit Bundle
/-- an array of references: its components -/
def RA (Z : State) (h : Heap) (a : Addr) (ty : FieldType) (vs : List Value) : Prop := ∃ c : Cell, Arr Z h a c ty ∧ c.slots = vs.toArray ∧ vs.length < 2 ^ 31
section Refs
variable {l : Launch} {Z : State} {EL : List (String × Nat)} {n0 : Nat} {R : Room} {y : MethodName} {bytes : ByteArray} {ml : Nat} {ret : Option FieldType} {Q : Option Value → Heap → List Addr → Prop}
  {F : List Addr} {h h' : Heap} {cells slots pc pc' : Nat} {Ls Ls' : Array Slot} {S S' : List Value} {a0 : Array Value} {ws : List Addr}
theorem RA.lt {a : Addr} {ty : FieldType} {vs : List Value} (A : RA Z h a ty vs) : a < h.size := by obtain ⟨c, A, -⟩ := A; exact A.lt
theorem RA.len {a : Addr} {ty : FieldType} {vs : List Value} (A : RA Z h a ty vs) : vs.length < 2 ^ 31 := by obtain ⟨c, -, -, q⟩ := A; exact q
theorem RA.ext {a : Addr} {ty : FieldType} {vs : List Value} (A : RA Z h a ty vs) (E : Ext h h') : RA Z h' a ty vs := by obtain ⟨c, A, r⟩ := A; exact ⟨c, A.ext E, r⟩
theorem RA.other {a b : Addr} {ty : FieldType} {vs : List Value} {sl : Nat} {v : Value} (A : RA Z h b ty vs) (W : Wr h h' a sl v) (q : b ≠ a) : RA Z h' b ty vs := by obtain ⟨c, A, r⟩ := A; exact ⟨c, A.other W q, r⟩
theorem RA.keep {a : Addr} {ty : FieldType} {vs : List Value} (A : RA Z h a ty vs) (K : Keep h h' ws) (q : a ∉ ws) : RA Z h' a ty vs := by obtain ⟨c, A, r⟩ := A; exact ⟨c, ⟨K.2.1 a c A.1 q, A.2⟩, r⟩
theorem RA.set {a : Addr} {ty : FieldType} {vs : List Value} {i : Nat} {v : Value} (A : RA Z h a ty vs) (W : Wr h h' a i v) : RA Z h' a ty (vs.set i v) := by
  obtain ⟨c, A, e, q⟩ := A
  refine ⟨_, A.same W, ?_, by simpa using q⟩
  simp [Cell.setSlot, e]
theorem RA.sz {vs : List Value} {c : Cell} (e : c.slots = vs.toArray) : c.slots.size = vs.length := by rw [e]; simp
theorem WP.arraylengthR {a : Addr} {ty : FieldType} {vs : List Value} (hd : D1 bytes pc .arraylength 1 pc') (A : RA Z h a ty vs) (k : WP l Z EL n0 R y bytes ml ret Q F h cells slots pc' Ls (.int (Int32.ofNat vs.length) :: S)) : WP l Z EL n0 R y bytes ml ret Q F h cells slots pc Ls (.ref a :: S) := by
  obtain ⟨hd, rfl⟩ := hd
  obtain ⟨c, A, e, q⟩ := A
  refine WP.same (fun p e1 s m args below meth c' T vm0 locs D => ?_) k
  obtain ⟨X, e0, -, hZ, hown, -, -, -, -, hx, hby, -⟩ := D
  refine ⟨T, X, e0, fun t q => X.arraylength hx (by rw [e0]; exact A.1) (State.isArrayOf_alike (T := s.setVm vm0) hZ.alike A.2.1) (g := mkF m pc Ls (.ref a :: S)) rfl rfl (hb hby hd) t ?_⟩
  rw [RA.sz e]
  exact q
theorem WP.aaload {a : Addr} {ty : FieldType} {vs : List Value} {j : Int32} {v : Value} {i : Nat} (hd : D1 bytes pc .aaload 1 pc') (A : RA Z h a ty vs) (hty : ty.isReference = true) (hj : Ix j i) (hx : vs[i]? = some v) (k : WP l Z EL n0 R y bytes ml ret Q F h cells slots pc' Ls (v :: S)) : WP l Z EL n0 R y bytes ml ret Q F h cells slots pc Ls (.int j :: .ref a :: S) := by
  obtain ⟨hd, rfl⟩ := hd
  obtain ⟨c, A, e, q⟩ := A
  have hi : i < vs.length := (List.getElem?_eq_some_iff.mp hx).1
  refine WP.same (fun p e1 s m args below meth c' T vm0 locs D => ?_) k
  obtain ⟨X, e0, -, hZ, hown, -, -, -, -, hxx, hby, -⟩ := D
  exact ⟨T, X, e0, fun t q => X.aaload hxx (v := v) (by rw [e0]; exact A.1) (State.isArrayOf_alike (T := s.setVm vm0) hZ.alike A.2.1) hty A.2.2 (by rw [RA.sz e, hj.clamp]; exact fun z => z.elim hj.nn fun z => by omega) (by rw [hj.clamp, e]; simpa using hx) (g := mkF m pc Ls (.int j :: .ref a :: S)) rfl rfl (hb hby hd) t q⟩
theorem WP.instanceofNull {idx : Nat} (hd : D1 bytes pc (.instanceof idx) 3 pc') (k : WP l Z EL n0 R y bytes ml ret Q F h cells slots pc' Ls (.int 0 :: S)) : WP l Z EL n0 R y bytes ml ret Q F h cells slots pc Ls (.null :: S) := by
  obtain ⟨hd, rfl⟩ := hd
  refine WP.same (fun p e1 s m args below meth c' T vm0 locs D => ?_) k
  obtain ⟨X, e0, -, hZ, hown, -, -, -, -, hxx, hby, -⟩ := D
  exact ⟨T, X, e0, X.instanceofNull hxx (g := mkF m pc Ls (.null :: S)) rfl rfl (hb hby hd)⟩
/-- clone() of an array -/
theorem WP.clone {idx cap : Nat} {ad : String} {a : Addr} {ty : FieldType} {vs : List Value} (hd : D1 bytes pc (.invokevirtual idx) 3 pc') (w1 : (Jvm.Cond.methodLink y.cls idx ⟨ad, "clone", "()Ljava/lang/Object;"⟩).before a0 Z = true) (w2 : (Jvm.Cond.sameMethod ad "java/lang/Object" "clone" "()Ljava/lang/Object;").before a0 Z = true) (w3 : (Jvm.Cond.native ⟨"java/lang/Object", "clone", "()Ljava/lang/Object;"⟩).before a0 Z = true)
    (w4 : (Jvm.Cond.instanceMethod ⟨"java/lang/Object", "clone", "()Ljava/lang/Object;"⟩).before a0 Z = true) (w5 : (Jvm.Cond.selects ad ⟨ad, "clone", "()Ljava/lang/Object;"⟩ ⟨"java/lang/Object", "clone", "()Ljava/lang/Object;"⟩).before a0 Z = true) (w6 : (Jvm.Cond.castable ad "java/lang/Cloneable").before a0 Z = true)
    {cl : Cell} (A : Arr Z h a cl ty) (ev : cl.slots = vs.toArray) (hlen : vs.length < 2 ^ 31) (E : Exa Z h a ad) (Fc : FitC Z cl) (hsz : Ls.size = ml) (hf : 1 ≤ R.frames) (hl : (S.map fun v => v.category).sum + 14 ≤ R.locals) (hcap : vs.length ≤ cap) (hc : cells + 1 ≤ R.cells) (hsl : slots + cap ≤ R.slots)
    (k : ∀ (h' : Heap) (b : Nat), b = h.size → Ext h h' → RA Z h' b ty vs → Exa Z h' b ad → WP l Z EL n0 R y bytes ml ret Q (b :: F) h' (cells + 1) (slots + cap) pc' Ls (.ref b :: S)) : WP l Z EL n0 R y bytes ml ret Q F h cells slots pc Ls (.ref a :: S) := by
  obtain ⟨hd, rfl⟩ := hd
  refine WP.grow (G := [h.size]) (P := fun h' => RA Z h' h.size ty vs ∧ Exa Z h' h.size ad) (fun h' E hP x hx => ?_) (fun p e s m args below meth c T vm0 locs D => ?_) (fun h' E hP => k h' _ rfl E hP.1 hP.2)
  · cases List.mem_singleton.mp hx; exact ⟨hP.1.lt, Nat.le_refl _⟩
  · obtain ⟨X, e0, -, hZ, hown, -, -, -, -, hx, hby, hml, -⟩ := D
    obtain ⟨T', h', X', e', E', A', Ex, st⟩ := cloneA X hx hZ hown w1 w2 w3 w4 w5 w6 e0 A E Fc (g := mkF m pc Ls (.ref a :: S)) rfl (by rw [hml]; exact hsz) rfl (hb hby hd) hf (W := (S.map fun v => v.category).sum) (by show 2 * 0 + _ ≤ _; omega) hl (cap := cap) (by rw [RA.sz ev]; exact hcap) hc hsl
    exact ⟨T', h', X', e', E', ⟨⟨_, A', ev, hlen⟩, Ex⟩, st⟩
end Refs
end Jvm.Own
namespace Jvm.Own
open Jvm Jvm.ClassFile Sem Op Lib Jvm.Free Jvm.Stand Jvm.LawKit Jvm.RoadKit Bundle
section Words
variable {args : Array Value} {s : State} {t : Term} {a : Addr} {ty : FieldType} {c : Cell}
theorem arr_size {n : Nat} (A : Jvm.RoadKit.Arr s s.heap a c ty) (ev : t.eval args s none [] s = some (.ref a)) (hl : (Jvm.Cond.eq (.length t) (.int (Int32.ofNat n))).value args s none s [] = some true) (hn : n < 2 ^ 31) : c.slots.size = n := by
  have h := eqv_i (F := .int (Int32.ofNat n)) rfl hl
  have ha : s.arrayAt? a = some c := A.fin (Vm.Alike.refl _)
  simp only [Term.eval, ev, ha, Option.bind_eq_bind, Option.bind_some, Option.pure_def] at h
  by_cases h1 : c.slots.size < 2 ^ 31
  · have h2 : Value.int c.slots.size.toInt32 = .int (Int32.ofNat n) := by simpa [h1] using h
    have h3 : c.slots.size.toInt32 = Int32.ofNat n := by simpa using h2
    have q := congrArg Int32.toInt h3
    rw [len_toInt h1, Int32.toInt_ofNat_of_lt hn] at q
    omega
  · simp [h1] at h
theorem arr_elem {i : Nat} {v : Value} (A : Jvm.RoadKit.Arr s s.heap a c ty) (ev : t.eval args s none [] s = some (.ref a)) (hi : i < 2 ^ 31) (h : (Term.elem t (.int (Int32.ofNat i))).eval args s none [] s = some v) : c.slots[i]? = some v := by
  obtain ⟨-, q⟩ := elem_in (j := Int32.ofNat i) h ev rfl A.1
  rwa [(Ix.ofNat hi).clamp] at q
/-- an array of ints, its length and components said by words -/
theorem ia_of {xs : List Int32} (ev : t.eval args s none [] s = some (.ref a)) (ha : (Jvm.Cond.arrayOf t ty).value args s none s [] = some true) (hn : xs.length < 2 ^ 31) (hl : (Jvm.Cond.eq (.length t) (.int (Int32.ofNat xs.length))).value args s none s [] = some true)
    (he : ∀ i x, xs[i]? = some x → (Jvm.Cond.eq (.elem t (.int (Int32.ofNat i))) (.int x)).value args s none s [] = some true) : IA s s.heap a ty xs := by
  obtain ⟨c, A⟩ := Jvm.RoadKit.Arr.start ev ha
  have hs := arr_size A ev hl hn
  refine ⟨c, A, Array.ext_getElem? fun i => ?_, hn⟩
  by_cases hi : i < xs.length
  · obtain ⟨x, hx⟩ : ∃ x, xs[i]? = some x := ⟨_, List.getElem?_eq_getElem hi⟩
    rw [arr_elem A ev (by omega) (eqv_i rfl (he i x hx))]
    simp [hx]
  · rw [Array.getElem?_eq_none (by omega), Array.getElem?_eq_none (by simp; omega)]
/-- a reference said equal to another -/
theorem eqv_r {X F : Term} {r : Addr} (hF : F.eval args s none [] s = some (.ref r)) (h : (Jvm.Cond.eq X F).value args s none s [] = some true) : X.eval args s none [] s = some (.ref r) := by
  obtain ⟨x, z, e1, e2, k1, k2⟩ := cmp_v (Or.inl h)
  cases hF.symm.trans e2
  have hx : x.isRef = true := k2.2
  have := gotT (eq_R e1 hF hx rfl) h
  rw [e1, this]
/-- a Latin-1 String said by words -/
theorem str_of {xs : List Int32} (h1 : (Jvm.Cond.exactly t "java/lang/String").value args s none s [] = some true) (h2 : (Jvm.Cond.eq (.field t "java/lang/String" "coder" "B") (.int 0)).value args s none s [] = some true)
    (h3 : (Jvm.Cond.arrayOf (.field t "java/lang/String" "value" "[B") .byte).value args s none s [] = some true) (hn : xs.length < 2 ^ 31) (h4 : (Jvm.Cond.eq (.length (.field t "java/lang/String" "value" "[B")) (.int (Int32.ofNat xs.length))).value args s none s [] = some true)
    (he : ∀ i x, xs[i]? = some x → (Jvm.Cond.eq (.elem (.field t "java/lang/String" "value" "[B") (.int (Int32.ofNat i))) (.int x)).value args s none s [] = some true) (ev : t.eval args s none [] s = some (.ref a)) : ∃ b, Str s s.heap a b xs := by
  obtain ⟨b, eb⟩ := arr_v h3
  refine ⟨b, Exa.start ev h1, Jvm.RoadKit.Fld.start ?_, Jvm.RoadKit.Fld.start ?_, ia_of eb h3 hn h4 he⟩
  · rw [← fld_at ev]; exact eqv_i rfl h2
  · rw [← fld_at ev]; exact eb
end Words
end Jvm.Own
namespace Jvm.Own
open Jvm Jvm.ClassFile Sem Op Lib Jvm.Free Jvm.Stand Jvm.LawKit Jvm.RoadKit Bundle
section Calls2
variable {l : Launch} {Z : State} {EL : List (String × Nat)} {n0 : Nat} {R : Room} {y : MethodName} {bytes : ByteArray} {ml : Nat} {ret : Option FieldType} {Q : Option Value → Heap → List Addr → Prop}
  {F : List Addr} {h : Heap} {cells slots pc pc' : Nat} {Ls Ls' : Array Slot} {S S' : List Value} {a0 : Array Value}
variable {yc : MethodName} {bytesc : ByteArray} {mlc : Nat} {retc : Option FieldType} {rm : Room} {as : Array Value} {F0 : List Addr} {Qc : Option Value → Heap → List Addr → Prop}
/-- invokevirtual of a private method -/
theorem WP.privateV {idx : Nat} {a : Addr} {C : String} {argsL rest : List Value} {ps : List FieldType} {rt : Option FieldType} (hd : D1 bytes pc (.invokevirtual idx) 3 pc') (M : Met l Z EL n0 [] yc bytesc mlc retc rm (.ref a :: argsL).toArray F0 h Qc) (E : Exa Z h a C)
    (wl : (Jvm.Cond.methodLink y.cls idx yc).before a0 Z = true) (wi : (Jvm.Cond.instanceMethod yc).before a0 Z = true) (wp : (Jvm.Cond.privateMethod yc).before a0 Z = true) (ws : (Jvm.Cond.selects yc.cls yc yc).before a0 Z = true) (wz : (Jvm.Cond.initialized yc.cls).before a0 Z = true) (wc : (Jvm.Cond.code yc bytesc mlc retc).before a0 Z = true)
    (hy : yc.cls ≠ "java/lang/invoke/MethodHandle" ∧ yc.cls ≠ "java/lang/invoke/VarHandle") (hpd : parseMethodDescriptor yc.desc = some ⟨ps, rt⟩) (hpl : argsL.length = ps.length) (hstk : S = argsL.reverse ++ .ref a :: rest) (hsz : Ls.size = ml)
    (hf : rm.frames + 1 ≤ R.frames) (hl : (rest.map fun v => v.category).sum + (mlc + 11) + rm.locals ≤ R.locals) (hcl : cells + rm.cells ≤ R.cells) (hsl : slots + rm.slots ≤ R.slots) (hF0 : ∀ x ∈ F0, SafeBy Z EL F h x)
    (k : ∀ v h' F', Qc v h' F' → h.size ≤ h'.size → WP l Z EL n0 R y bytes ml ret Q (F' ++ F) h' (cells + rm.cells) (slots + rm.slots) pc' Ls (v.toList ++ rest)) : WP l Z EL n0 R y bytes ml ret Q F h cells slots pc Ls S := by
  obtain ⟨hd, rfl⟩ := hd
  refine WP.call (len := 3) (rest := rest) M wc wz hf hl hcl hsl hF0 (fun p e s m args below meth c T vm0 locs D Pre Post K hpre => ?_) k
  obtain ⟨X, e0, -, hZ, hown, -, -, -, -, hx, hby, hml, -⟩ := D
  obtain ⟨cell, c1, c2⟩ := Jvm.RoadKit.Exa.cell E
  exact X.privateBackS hx hown (mvT (s := s.setVm vm0) hZ wl) (mvT (s := s.setVm vm0) hZ wi) (mvT (s := s.setVm vm0) hZ ws) (Cond.privateMethod_at (mvP (s := s.setVm vm0) (args := #[]) hZ wp)) (mvT (s := s.setVm vm0) hZ wc) hy K (g := mkF m pc Ls S) rfl (by rw [hml]; exact hsz) (Steps.refl _) (by rw [e0]; exact c1) c2 (lenOf hpd hpl) hstk (by show 2 * 0 + _ ≤ _; omega) (hb hby hd) hpre
/-- invokevirtual where the entry's class inherits the method -/
theorem WP.virtualUp {idx : Nat} {a : Addr} {C owner : String} {yr : MethodName} {argsL rest : List Value} {ps : List FieldType} {rt : Option FieldType} (hd : D1 bytes pc (.invokevirtual idx) 3 pc') (M : Met l Z EL n0 [] yc bytesc mlc retc rm (.ref a :: argsL).toArray F0 h Qc) (E : Exa Z h a C)
    (wl : (Jvm.Cond.methodLink y.cls idx yr).before a0 Z = true) (wm : (Jvm.Cond.sameMethod yr.cls owner yr.name yr.desc).before a0 Z = true) (wd : (Jvm.Cond.declares ⟨owner, yr.name, yr.desc⟩).before a0 Z = true) (wi : (Jvm.Cond.instanceMethod yc).before a0 Z = true) (ws : (Jvm.Cond.selects C yr yc).before a0 Z = true) (wz : (Jvm.Cond.initialized yc.cls).before a0 Z = true) (wc : (Jvm.Cond.code yc bytesc mlc retc).before a0 Z = true)
    (hy : owner ≠ "java/lang/invoke/MethodHandle" ∧ owner ≠ "java/lang/invoke/VarHandle") (hpd : parseMethodDescriptor yr.desc = some ⟨ps, rt⟩) (hpl : argsL.length = ps.length) (hstk : S = argsL.reverse ++ .ref a :: rest) (hsz : Ls.size = ml)
    (hf : rm.frames + 1 ≤ R.frames) (hl : (rest.map fun v => v.category).sum + (mlc + 11) + rm.locals ≤ R.locals) (hcl : cells + rm.cells ≤ R.cells) (hsl : slots + rm.slots ≤ R.slots) (hF0 : ∀ x ∈ F0, SafeBy Z EL F h x)
    (k : ∀ v h' F', Qc v h' F' → h.size ≤ h'.size → WP l Z EL n0 R y bytes ml ret Q (F' ++ F) h' (cells + rm.cells) (slots + rm.slots) pc' Ls (v.toList ++ rest)) : WP l Z EL n0 R y bytes ml ret Q F h cells slots pc Ls S := by
  obtain ⟨hd, rfl⟩ := hd
  refine WP.call (len := 3) (rest := rest) M wc wz hf hl hcl hsl hF0 (fun p e s m args below meth c T vm0 locs D Pre Post K hpre => ?_) k
  obtain ⟨X, e0, -, hZ, hown, -, -, -, -, hx, hby, hml, -⟩ := D
  obtain ⟨cB, kB, o1, o2, o3⟩ := isOf (s := s.setVm vm0) hZ e0 E
  exact X.virtualBackUpS hx hown (mvT (s := s.setVm vm0) hZ wl) (mvT (s := s.setVm vm0) hZ wm) (mvT (s := s.setVm vm0) hZ wd) hy (mvT (s := s.setVm vm0) hZ ws) (mvT (s := s.setVm vm0) hZ wi) K o1 o3 (g := mkF m pc Ls S) rfl (by rw [hml]; exact hsz) (Steps.refl _) (lenOf hpd hpl) hstk (by show 2 * 0 + _ ≤ _; omega) (hb hby hd) hpre
/-- invokeinterface -/
theorem WP.face {idx cnt : Nat} {a : Addr} {C : String} {yr : MethodName} {argsL rest : List Value} {ps : List FieldType} {rt : Option FieldType} (hd : D1 bytes pc (.invokeinterface idx cnt) 5 pc') (hfk : ((Jvm.Cond.interfaceMethod yr.cls yr.cls yr.name yr.desc).onTables && (Jvm.Cond.interfaceMethod yr.cls yr.cls yr.name yr.desc).keepsFace) = true) (M : Met l Z EL n0 [] yc bytesc mlc retc rm (.ref a :: argsL).toArray F0 h Qc) (E : Exa Z h a C)
    (wl : (Jvm.Cond.methodLink y.cls idx yr).before a0 Z = true) (wd : (Jvm.Cond.declares yr).before a0 Z = true) (wf : (Jvm.Cond.interfaceMethod yr.cls yr.cls yr.name yr.desc).before a0 Z = true) (ws : (Jvm.Cond.selects C yr yc).before a0 Z = true) (wi : (Jvm.Cond.instanceMethod yc).before a0 Z = true) (wp : (Jvm.Cond.publicMethod yc).before a0 Z = true) (wu : (Jvm.Cond.unhidden C yr.name yr.desc).before a0 Z = true) (wt : (Jvm.Cond.castable C yr.cls).before a0 Z = true) (wz : (Jvm.Cond.initialized yc.cls).before a0 Z = true) (wc : (Jvm.Cond.code yc bytesc mlc retc).before a0 Z = true)
    (hy : yr.cls ≠ "java/lang/invoke/MethodHandle" ∧ yr.cls ≠ "java/lang/invoke/VarHandle") (hpd : parseMethodDescriptor yr.desc = some ⟨ps, rt⟩) (hpl : argsL.length = ps.length) (hstk : S = argsL.reverse ++ .ref a :: rest) (hsz : Ls.size = ml)
    (hf : rm.frames + 1 ≤ R.frames) (hl : (rest.map fun v => v.category).sum + (mlc + 11) + rm.locals ≤ R.locals) (hcl : cells + rm.cells ≤ R.cells) (hsl : slots + rm.slots ≤ R.slots) (hF0 : ∀ x ∈ F0, SafeBy Z EL F h x)
    (k : ∀ v h' F', Qc v h' F' → h.size ≤ h'.size → WP l Z EL n0 R y bytes ml ret Q (F' ++ F) h' (cells + rm.cells) (slots + rm.slots) pc' Ls (v.toList ++ rest)) : WP l Z EL n0 R y bytes ml ret Q F h cells slots pc Ls S := by
  obtain ⟨hd, rfl⟩ := hd
  refine WP.call (len := 5) (rest := rest) M wc wz hf hl hcl hsl hF0 (fun p e s m args below meth c T vm0 locs D Pre Post K hpre => ?_) k
  obtain ⟨X, e0, -, hZ, hown, -, -, -, -, hx, hby, hml, -⟩ := D
  obtain ⟨cB, kB, o1, o2, o3⟩ := isOf (s := s.setVm vm0) hZ e0 E
  exact X.interfaceBackS hx hown (mvT (s := s.setVm vm0) hZ wl) (mvT (s := s.setVm vm0) hZ wd) (mvT (s := s.setVm vm0) hZ wf hfk) (mvT (s := s.setVm vm0) hZ ws) (mvT (s := s.setVm vm0) hZ wi) (mvT (s := s.setVm vm0) hZ wp) (mvT (s := s.setVm vm0) hZ wu) (mvT (s := s.setVm vm0) hZ wt) hy K o1 o2 o3 (g := mkF m pc Ls S) rfl (by rw [hml]; exact hsz) (Steps.refl _) (lenOf hpd hpl) hstk (by show 2 * 0 + _ ≤ _; omega) (hb hby hd) hpre
end Calls2
end Jvm.Own
namespace Jvm.Own
open Jvm Jvm.ClassFile Sem Op Lib Jvm.Free Jvm.Stand Jvm.LawKit Jvm.RoadKit Bundle
/-- each is a byte -/
def FB (xs : List Int32) : Prop := ∀ x ∈ xs, fits .byte (.int x) = true
theorem FB.nil : FB [] := fun _ h => nomatch h
theorem FB.app {xs ys : List Int32} (a : FB xs) (b : FB ys) : FB (xs ++ ys) := fun x h => (List.mem_append.mp h).elim (a x) (b x)
theorem FB.take {xs : List Int32} (n : Nat) (a : FB xs) : FB (xs.take n) := fun x h => a x (List.mem_of_mem_take h)
theorem FB.drop {xs : List Int32} (n : Nat) (a : FB xs) : FB (xs.drop n) := fun x h => a x (List.mem_of_mem_drop h)
theorem FB.zero (n : Nat) : FB (List.replicate n 0) := fun x h => by rw [(List.mem_replicate.mp h).2]; decide
theorem IA.arv {Z : State} {h : Heap} {a : Addr} {xs : List Int32} (A : IA Z h a .byte xs) (f : FB xs) : ∃ k, Arv Z h a k .byte (Int32.ofNat xs.length) (xs.map Value.int) (.int 0) := by
  obtain ⟨c, A, e, hl⟩ := A
  have hsz : c.slots.size = xs.length := IA.size e
  refine ⟨c.cls, c, A, rfl, by rw [hsz, (Ix.ofNat hl).clamp], (Ix.ofNat hl).nn, fun j hj => ?_, fun j hj => ?_⟩
  · rw [hsz] at hj; rw [e]; simp [List.getD_eq_getElem?_getD, hj]
  · rw [hsz] at hj
    have : (xs.map Value.int).getD j (.int 0) = .int xs[j] := by simp [List.getD_eq_getElem?_getD, hj]
    rw [this]; exact f _ (List.getElem_mem hj)
section Cp
variable {l : Launch} {Z : State} {EL : List (String × Nat)} {n0 : Nat} {R : Room} {y : MethodName} {bytes : ByteArray} {ml : Nat} {ret : Option FieldType} {Q : Option Value → Heap → List Addr → Prop}
  {F : List Addr} {h : Heap} {cells slots pc pc' : Nat} {Ls Ls' : Array Slot} {S S' : List Value} {a0 : Array Value}
/-- System.arraycopy on byte arrays -/
theorem WP.arraycopyB {idx : Nat} {a b : Addr} {xs ys : List Int32} {sp dp nn : Int32} {i j n : Nat} {rest : List Value} (hd : D1 bytes pc (.invokestatic idx) 3 pc')
    (wl : (Jvm.Cond.methodLink y.cls idx Jvm.Stand.acN).before a0 Z = true) (wn : (Jvm.Cond.native Jvm.Stand.acN).before a0 Z = true) (ws : (Jvm.Cond.static Jvm.Stand.acN).before a0 Z = true) (wz : (Jvm.Cond.initialized "java/lang/System").before a0 Z = true)
    (A : IA Z h a .byte xs) (B : IA Z h b .byte ys) (fx : FB xs) (fy : FB ys) (hs : SafeBy Z EL F h b) (nb : n0 ≤ b) (h1 : Ix sp i) (h2 : Ix dp j) (h3 : Ix nn n) (h4 : i + n ≤ xs.length) (h5 : j + n ≤ ys.length) (hsz : Ls.size = ml) (hf : 1 ≤ R.frames)
    (hlo : (rest.map fun v => v.category).sum + (nativeFrameWords "java/lang/System" "arraycopy" 5 + 11) ≤ R.locals)
    (k : ∀ h', Keep h h' [b] → IA Z h' b .byte (ys.take j ++ (xs.drop i).take n ++ ys.drop (j + n)) → WP l Z EL n0 R y bytes ml ret Q F h' cells slots pc' Ls rest) : WP l Z EL n0 R y bytes ml ret Q F h cells slots pc Ls (.int nn :: .int dp :: .ref b :: .int sp :: .ref a :: rest) := by
  obtain ⟨hd, rfl⟩ := hd
  intro p e s m args below meth c T vm0 locs D
  obtain ⟨X, e0, ⟨k0, hS, hk⟩, hZ, hown, hC, hF, hN, hO, hx, hby, hml, r⟩ := D
  obtain ⟨ka, Aa⟩ := A.arv fx
  obtain ⟨kb, Bb⟩ := B.arv fy
  have e1 : (Int32.ofNat xs.length).toNatClampNeg = xs.length := (Ix.ofNat A.len).clamp
  have e2 : (Int32.ofNat ys.length).toNatClampNeg = ys.length := (Ix.ofNat B.len).clamp
  have hus : (((xs.drop i).take n).map Value.int) = (List.range nn.toNatClampNeg).map fun q => (xs.map Value.int).getD (sp.toNatClampNeg + q) (.int 0) := by
    rw [h3.clamp, h1.clamp]
    apply List.ext_getElem
    · simp; omega
    · intro q q1 q2
      have : i + q < xs.length := by simp at q2; omega
      simp [List.getD_eq_getElem?_getD, this]
  obtain ⟨T', h', L, X', e', N', K, A', st⟩ := cpA (s := s.setVm vm0) (Z := Z) (a0 := a0) X hx hZ hown wl wn ws wz e0 Aa Bb (us := ((xs.drop i).take n).map Value.int) (Or.inl ⟨rfl, rfl⟩) h1.nn h2.nn h3.nn (by rw [h1.clamp, h3.clamp, e1]; exact h4) (by rw [h2.clamp, h3.clamp, e2]; exact h5) hus (by rw [h2.clamp, h3.clamp]; simpa using h5) hN nb
    (g := mkF m pc Ls (.int nn :: .int dp :: .ref b :: .int sp :: .ref a :: rest)) rfl (by rw [hml]; exact hsz) rfl (hb hby hd) hf (W := (rest.map fun v => v.category).sum) (by show 2 * 0 + _ ≤ _; omega) hlo
  have sa : ∀ x ∈ [b], Safe Z EL vm0 h x := fun x hx => by
    rw [List.mem_singleton.mp hx]; exact hs.2 vm0 hZ.alike hF
  have R' : IA Z h' b .byte (ys.take j ++ (xs.drop i).take n ++ ys.drop (j + n)) := by
    refine IA.of_arv (k := kb) (z := Int32.ofNat ys.length) (d := .int 0) ?_ ?_
    · have : (ys.take j ++ (xs.drop i).take n ++ ys.drop (j + n)).map Value.int = (ys.map Value.int).take j ++ ((xs.drop i).take n).map Value.int ++ (ys.map Value.int).drop (j + n) := by
        simp [List.map_take, List.map_drop]
      rw [this]; rw [h2.clamp, h3.clamp] at A'; exact A'
    · rw [e2]; simp; omega
  exact (k h' K R' p e s m args below meth c T' vm0 L ⟨X', e', ⟨k0, hS, Nat.le_trans hk K.1⟩, hZ, hown, hC.trans (CHr.keep K sa hC.1), fun x hx => ⟨Nat.lt_of_lt_of_le (hF x hx).1 K.1, Safe.keep K sa hC.1 (hF x hx).2⟩, N', hO.keep K (fun x hx => by rw [List.mem_singleton.mp hx]; exact nb), hx, hby, hml, r⟩).step st
end Cp
end Jvm.Own
namespace Jvm.Own
open Jvm Jvm.ClassFile Sem Op Lib Jvm.Free Jvm.Stand Jvm.LawKit Jvm.RoadKit Bundle
section Derived
variable {Z : State} {a0 : Array Value}
/-- a private method's own class selects it -/
theorem selfSelects {C : String} {y : MethodName} (w1 : (Jvm.Cond.selects C y y).before a0 Z = true) (w2 : (Jvm.Cond.privateMethod y).before a0 Z = true) (w3 : (Jvm.Cond.instanceMethod y).before a0 Z = true) (hy : y.cls ≠ "java/lang/invoke/MethodHandle" ∧ y.cls ≠ "java/lang/invoke/VarHandle") : (Jvm.Cond.selects y.cls y y).before a0 Z = true := by
  obtain ⟨mk, meth, hn, hm, -, -⟩ := Cond.instanceMethod_spec w3
  obtain ⟨_, _, m2, -, -, hn2, -, kP, hkP, hkPi⟩ := Cond.selects_spec w1
  cases hn.symm.trans hn2
  have hp := Cond.privateMethod_at w2 mk meth hn hm
  have hs : ∀ c, selectMethod {} Z.vm c mk = .method mk := fun c => selectMethod_private hm hp
  have hc := findClass_of_methodNamed hn
  simp [Cond.before, Cond.holds, Cond.value, hc, State.methodFound?_of_named hn hy, hn, hs, hkP, hkPi]
/-- a declared method is found at its own class -/
theorem selfSame {C : String} {x2 y2 y : MethodName} (w1 : (Jvm.Cond.selects C x2 y2).before a0 Z = true) (e : y2.cls = y.cls) (w3 : (Jvm.Cond.instanceMethod y).before a0 Z = true) (hy : y.cls ≠ "java/lang/invoke/MethodHandle" ∧ y.cls ≠ "java/lang/invoke/VarHandle") : (Jvm.Cond.sameMethod y.cls y.cls y.name y.desc).before a0 Z = true := by
  obtain ⟨mk, meth, hn, hm, -, -⟩ := Cond.instanceMethod_spec w3
  obtain ⟨_, _, m2, -, -, hn2, -, kP, hkP, hkPi⟩ := Cond.selects_spec w1
  have hc := findClass_of_methodNamed hn
  have hc2 := findClass_of_methodNamed hn2
  rw [e] at hc2
  have ec : m2.cls = mk.cls := Option.some.inj (hc2.symm.trans hc)
  rw [ec] at hkP
  simp [Cond.before, Cond.holds, Cond.value, hc, State.methodFound?_of_named hn hy, hn, hkP, hkPi]
theorem notFace2 {C : String} {x2 y2 y : MethodName} (w1 : (Jvm.Cond.selects C x2 y2).before a0 Z = true) (e : y2.cls = y.cls) : NotFace Z y := fun r0 h0 => by
  obtain ⟨_, _, m2, -, -, hn2, -, kP, hkP, hkPi⟩ := Cond.selects_spec w1
  have hc := findClass_of_methodNamed h0
  have hc2 := findClass_of_methodNamed hn2
  rw [e] at hc2
  have ec : m2.cls = r0.cls := Option.some.inj (hc2.symm.trans hc)
  exact ⟨kP, ec ▸ hkP, hkPi⟩
end Derived
section Calls3
variable {l : Launch} {Z : State} {EL : List (String × Nat)} {n0 : Nat} {R : Room} {y : MethodName} {bytes : ByteArray} {ml : Nat} {ret : Option FieldType} {Q : Option Value → Heap → List Addr → Prop}
  {F : List Addr} {h : Heap} {cells slots pc pc' : Nat} {Ls Ls' : Array Slot} {S S' : List Value} {a0 : Array Value}
variable {yc : MethodName} {bytesc : ByteArray} {mlc : Nat} {retc : Option FieldType} {rm : Room} {as : Array Value} {F0 : List Addr} {Qc : Option Value → Heap → List Addr → Prop}
/-- invokespecial of the superclass's method -/
theorem WP.superS {idx : Nat} {a : Addr} {C : String} {argsL rest : List Value} {ps : List FieldType} {rt : Option FieldType} (hd : D1 bytes pc (.invokespecial idx) 3 pc') (M : Met l Z EL n0 [] yc bytesc mlc retc rm (.ref a :: argsL).toArray F0 h Qc) (E : Exa Z h a C)
    (wl : (Jvm.Cond.methodLink y.cls idx yc).before a0 Z = true) (wm : (Jvm.Cond.sameMethod yc.cls yc.cls yc.name yc.desc).before a0 Z = true) (wi : (Jvm.Cond.instanceMethod yc).before a0 Z = true) (wu : (Jvm.Cond.superclass y.cls yc.cls).before a0 Z = true) (hn : yc.name ≠ "<init>") (wz : (Jvm.Cond.initialized yc.cls).before a0 Z = true) (wc : (Jvm.Cond.code yc bytesc mlc retc).before a0 Z = true)
    (hpd : parseMethodDescriptor yc.desc = some ⟨ps, rt⟩) (hpl : argsL.length = ps.length) (hstk : S = argsL.reverse ++ .ref a :: rest) (hsz : Ls.size = ml)
    (hf : rm.frames + 1 ≤ R.frames) (hl : (rest.map fun v => v.category).sum + (mlc + 11) + rm.locals ≤ R.locals) (hcl : cells + rm.cells ≤ R.cells) (hsl : slots + rm.slots ≤ R.slots) (hF0 : ∀ x ∈ F0, SafeBy Z EL F h x)
    (k : ∀ v h' F', Qc v h' F' → h.size ≤ h'.size → WP l Z EL n0 R y bytes ml ret Q (F' ++ F) h' (cells + rm.cells) (slots + rm.slots) pc' Ls (v.toList ++ rest)) : WP l Z EL n0 R y bytes ml ret Q F h cells slots pc Ls S := by
  obtain ⟨hd, rfl⟩ := hd
  refine WP.call (len := 3) (rest := rest) M wc wz hf hl hcl hsl hF0 (fun p e s m args below meth c T vm0 locs D Pre Post K hpre => ?_) k
  obtain ⟨X, e0, -, hZ, hown, -, -, -, -, hx, hby, hml, -⟩ := D
  exact superBackS (s := s.setVm vm0) X hx hZ hown wl wm wi wu hn K e0 (Ins.self E) (g := mkF m pc Ls S) rfl (by rw [hml]; exact hsz) wc (lenOf hpd hpl) hstk (by show 2 * 0 + _ ≤ _; omega) (hb hby hd) hpre
/-- invokevirtual; that the entry's class is no interface comes by another word -/
theorem WP.virtualN {idx : Nat} {a : Addr} {C : String} {yr : MethodName} {argsL rest : List Value} {ps : List FieldType} {rt : Option FieldType} (hd : D1 bytes pc (.invokevirtual idx) 3 pc') (M : Met l Z EL n0 [] yc bytesc mlc retc rm (.ref a :: argsL).toArray F0 h Qc) (E : Exa Z h a C)
    (wl : (Jvm.Cond.methodLink y.cls idx yr).before a0 Z = true) (wd : (Jvm.Cond.declares yr).before a0 Z = true) (wi : (Jvm.Cond.instanceMethod yc).before a0 Z = true) (ws : (Jvm.Cond.selects C yr yc).before a0 Z = true) (wz : (Jvm.Cond.initialized yc.cls).before a0 Z = true) (wc : (Jvm.Cond.code yc bytesc mlc retc).before a0 Z = true)
    {C2 : String} {x2 y2 : MethodName} (hnf : (Jvm.Cond.selects C2 x2 y2).before a0 Z = true) (he : y2.cls = yr.cls)
    (hy : yr.cls ≠ "java/lang/invoke/MethodHandle" ∧ yr.cls ≠ "java/lang/invoke/VarHandle") (hpd : parseMethodDescriptor yr.desc = some ⟨ps, rt⟩) (hpl : argsL.length = ps.length) (hstk : S = argsL.reverse ++ .ref a :: rest) (hsz : Ls.size = ml)
    (hf : rm.frames + 1 ≤ R.frames) (hl : (rest.map fun v => v.category).sum + (mlc + 11) + rm.locals ≤ R.locals) (hcl : cells + rm.cells ≤ R.cells) (hsl : slots + rm.slots ≤ R.slots) (hF0 : ∀ x ∈ F0, SafeBy Z EL F h x)
    (k : ∀ v h' F', Qc v h' F' → h.size ≤ h'.size → WP l Z EL n0 R y bytes ml ret Q (F' ++ F) h' (cells + rm.cells) (slots + rm.slots) pc' Ls (v.toList ++ rest)) : WP l Z EL n0 R y bytes ml ret Q F h cells slots pc Ls S := by
  obtain ⟨hd, rfl⟩ := hd
  refine WP.call (len := 3) (rest := rest) M wc wz hf hl hcl hsl hF0 (fun p e s m args below meth c T vm0 locs D Pre Post K hpre => ?_) k
  obtain ⟨X, e0, -, hZ, hown, -, -, -, -, hx, hby, hml, -⟩ := D
  obtain ⟨cB, kB, o1, o2, o3⟩ := isOf (s := s.setVm vm0) hZ e0 E
  exact X.virtualBackS hx hown (mvT (s := s.setVm vm0) hZ wl) (mvT (s := s.setVm vm0) hZ wd) (notFace2 (a0 := #[]) (mvT (s := s.setVm vm0) hZ hnf) he) (mvT (s := s.setVm vm0) hZ ws) (mvT (s := s.setVm vm0) hZ wi) hy K o1 o3 (g := mkF m pc Ls S) rfl (by rw [hml]; exact hsz) (Steps.refl _) (lenOf hpd hpl) hstk (by show 2 * 0 + _ ≤ _; omega) (hb hby hd) hpre
open Jvm.Free.Exc in
/-- invokespecial of an exception's constructor with a message: the stack trace is filled in beneath -/
theorem WP.exc1 {idx n : Nat} {a : Addr} {rc : String} {links : List Link} {msg : Value} {rest : List Value} (hd : D1 bytes pc (.invokespecial idx) 3 pc') (hst : l.stackTraces = true) (hG : Gn Z) (hok : linksOk 1 links = true)
    (w1 : (Jvm.Cond.methodLink y.cls idx (ctor 1 (headName links))).before a0 Z = true) (w2 : (Jvm.Cond.instanceMethod (ctor 1 (headName links))).before a0 Z = true) (wT : (chainTab 1 rc links).before a0 Z = true) (wi : (Jvm.Cond.instantiable rc n).before a0 Z = true) (r2 : ∀ d ∈ twoRefs, d.before a0 Z = true)
    (E : Exa Z h a rc) (N : Unt h a) (B : Fld Z h a tN "backtrace" obD .null) (B2 : Fld Z h a tN "detailMessage" msgD .null) (hmsg : msg.isRef = true) (na : n0 ≤ a) (hs : SafeBy Z EL F h a) (hsz : Ls.size = ml)
    (hf : 4 + links.length ≤ R.frames) (hlo : (rest.map fun v => v.category).sum + (56 + 14 * links.length) ≤ R.locals) (hc : cells + 1 ≤ R.cells) (hsl : slots + 2752 ≤ R.slots)
    (k : ∀ h', Keep h h' [a] → Exa Z h' a rc → Fld Z h' a tN "detailMessage" msgD msg → WP l Z EL n0 R y bytes ml ret Q F h' (cells + 1) (slots + 2752) pc' Ls rest) : WP l Z EL n0 R y bytes ml ret Q F h cells slots pc Ls (msg :: .ref a :: rest) := by
  obtain ⟨hd, rfl⟩ := hd
  intro p e s m args below meth c T vm0 locs D
  obtain ⟨X, e0, ⟨k0, hS, hk⟩, hZ, hown, hC, hF, hN, hO, hx, hby, hml, hret, hlk, hnm, hEL, hkn⟩ := D
  obtain ⟨T', h', X', e', K', E', -, B', -, -, st⟩ := excL1 (s := s.setVm vm0) (Z := Z) (a0 := a0) X hx hst hZ hown hok w1 w2 wT wi r2 (ThS.ext hkn.2 ThS.start) (ThS.ext hO.2 ThS.start) (Vm.MethodsKnown.alikeC (vm' := (s.setVm vm0).vm) hZ.alike hG.1) (Vm.FramesKnown.alikeC (vm' := (s.setVm vm0).vm) hZ.alike (hkn.1 hG)) e0 E N B B2 hmsg
    (g := mkF m pc Ls (msg :: .ref a :: rest)) rfl (by rw [hml]; exact hsz) rfl (hb hby hd) hf (by show 2 * 0 + _ + _ ≤ _; omega) hc hsl
  have K := keep_of_kp K'
  have sa : ∀ x ∈ [a], Safe Z EL vm0 h x := fun x hx => by
    rw [List.mem_singleton.mp hx]; exact hs.2 vm0 hZ.alike hF
  exact (k h' K E' B' p e s m args below meth c T' vm0 _ ⟨X', e', ⟨k0, hS, Nat.le_trans hk K.1⟩, hZ, hown, hC.trans (CHr.keep K sa hC.1), fun x hx => ⟨Nat.lt_of_lt_of_le (hF x hx).1 K.1, Safe.keep K sa hC.1 (hF x hx).2⟩, Fr.six hN na, hO.keep K (fun x hx => by rw [List.mem_singleton.mp hx]; exact na), hx, hby, hml, hret, hlk, hnm, hEL, hkn⟩).step st
end Calls3
end Jvm.Own
namespace Jvm.Own
open Jvm Jvm.ClassFile Sem Op Lib Jvm.Free Jvm.Stand Jvm.LawKit Jvm.RoadKit Bundle
theorem Ix.add {x z : Int32} {i j : Nat} (a : Ix x i) (b : Ix z j) (q : i + j < 2 ^ 31) : Ix (x + z) (i + j) := by
  unfold Ix at *
  rw [Int32.toInt_add, a, b]
  show ((i : Int) + (j : Int)).bmod (2 ^ 32) = _
  rw [Int.bmod_eq_of_le (by omega) (by omega)]; omega
theorem Ix.sub {x z : Int32} {i j : Nat} (a : Ix x i) (b : Ix z j) (q : j ≤ i) (q2 : i < 2 ^ 31) : Ix (x - z) (i - j) := by
  unfold Ix at *
  rw [Int32.toInt_sub, a, b]
  show ((i : Int) - (j : Int)).bmod (2 ^ 32) = _
  rw [Int.bmod_eq_of_le (by omega) (by omega)]; omega
theorem Ix.uniq {x : Int32} {i : Nat} (a : Ix x i) (q : i < 2 ^ 31) : x = Int32.ofNat i := by
  apply Int32.toInt_inj.mp
  rw [a, Int32.toInt_ofNat_of_lt q]
theorem ofN_add {i j : Nat} (q : i + j < 2 ^ 31) : Int32.ofNat i + Int32.ofNat j = Int32.ofNat (i + j) := (Ix.add (Ix.ofNat (by omega)) (Ix.ofNat (by omega)) q).uniq q
theorem ofN_sub {i j : Nat} (q : j ≤ i) (q2 : i < 2 ^ 31) : Int32.ofNat i - Int32.ofNat j = Int32.ofNat (i - j) := (Ix.sub (Ix.ofNat q2) (Ix.ofNat (by omega)) q q2).uniq (by omega)
theorem ofN_lt {i j : Nat} (q : i < 2 ^ 31) (q2 : j < 2 ^ 31) : Int32.ofNat i < Int32.ofNat j ↔ i < j := by
  rw [Int32.lt_iff_toInt_lt, Int32.toInt_ofNat_of_lt q, Int32.toInt_ofNat_of_lt q2]; omega
theorem ofN_eq {i j : Nat} (q : i < 2 ^ 31) (q2 : j < 2 ^ 31) : Int32.ofNat i = Int32.ofNat j ↔ i = j := by
  rw [← Int32.toInt_inj, Int32.toInt_ofNat_of_lt q, Int32.toInt_ofNat_of_lt q2]; omega
theorem shl0 (x : Int32) : x <<< ((0 : Int32) &&& 31) = x := by
  have e : ((0 : Int32) &&& 31) = 0 := rfl
  rw [e]
  apply Int32.toBitVec_inj.mp
  simp
/-- a StringBuilder that holds bytes -/
def SBd (Z : State) (h : Heap) (b t : Addr) (bs : List Int32) (C : Nat) : Prop :=
  Exa Z h b "java/lang/StringBuilder" ∧ Fld Z h b "java/lang/AbstractStringBuilder" "value" "[B" (.ref t) ∧ Fld Z h b "java/lang/AbstractStringBuilder" "coder" "B" (.int 0) ∧ Fld Z h b "java/lang/AbstractStringBuilder" "count" "I" (.int (Int32.ofNat bs.length)) ∧
    IA Z h t .byte (bs ++ List.replicate (C - bs.length) 0) ∧ bs.length ≤ C ∧ (C = 16 ∨ C = 34) ∧ FB bs
section
variable {Z : State} {h h' : Heap} {a b t : Addr} {bs : List Int32} {C : Nat} {ws : List Addr} {sl : Nat} {v : Value}
theorem SBd.lt (A : SBd Z h b t bs C) : b < h.size := A.1.lt
theorem SBd.ltT (A : SBd Z h b t bs C) : t < h.size := A.2.2.2.2.1.lt
theorem SBd.ext (A : SBd Z h b t bs C) (E : Ext h h') : SBd Z h' b t bs C := ⟨A.1.ext E, A.2.1.ext E, A.2.2.1.ext E, A.2.2.2.1.ext E, A.2.2.2.2.1.ext E, A.2.2.2.2.2⟩
theorem SBd.keep (A : SBd Z h b t bs C) (K : Keep h h' ws) (q1 : b ∉ ws) (q2 : t ∉ ws) : SBd Z h' b t bs C := ⟨A.1.keep K, A.2.1.keep K q1, A.2.2.1.keep K q1, A.2.2.2.1.keep K q1, A.2.2.2.2.1.keep K q2, A.2.2.2.2.2⟩
theorem SBd.other (A : SBd Z h b t bs C) (W : Wr h h' a sl v) (q1 : b ≠ a) (q2 : t ≠ a) : SBd Z h' b t bs C := ⟨A.1.wr W, A.2.1.other W (Or.inl q1), A.2.2.1.other W (Or.inl q1), A.2.2.2.1.other W (Or.inl q1), A.2.2.2.2.1.other W q2, A.2.2.2.2.2⟩
end
theorem fb_lo8 (c : Int32) : fits .byte (.int (lo8 c)) = true := by
  have h1 := Int8.minValue_le_toInt c.toInt8
  have h2 := Int8.toInt_le c.toInt8
  simp only [fits, Bool.and_eq_true, decide_eq_true_eq, Int32.le_iff_toInt_le]
  show (-128 : Int) ≤ (lo8 c).toInt ∧ (lo8 c).toInt ≤ 127
  unfold Own.lo8
  rw [Int8.toInt_toInt32]
  constructor
  · exact h1
  · exact h2
theorem fb_map (cs : List Int32) : FB (cs.map lo8) := fun x hx => by
  obtain ⟨c, -, rfl⟩ := List.mem_map.mp hx
  exact fb_lo8 c
end Jvm.Own
namespace Jvm.Own
open Jvm Jvm.ClassFile Sem Op Lib Jvm.Free Jvm.Stand Jvm.LawKit Jvm.RoadKit Bundle Jvm.Free.Exc
/-- the one word that a sheet may lack: Throwable's own laying of suppressedExceptions (the receiver's class lays it) -/
def badW : Jvm.Cond := .lays tN tN "suppressedExceptions" listD
/-- Throwable's links out of the words that are there -/
theorem own_links {args : Array Value} {s : State} {pl : Platform} {rc : String} (hrc : rc ≠ tN) (howns : pl.frameOwnsMonitors = true) (hfin : pl.finalization = false) (hpl : pl.magicAccessors = ({} : Platform).magicAccessors)
    (W : ∀ c ∈ excAtoms rc, c ≠ badW → c.before args s = true) :
    ∃ T : ThrowableC, T.Links pl s ∧ s.vm.findClass tN = some T.cT ∧ s.methodNamed? tFill = some T.fill ∧ s.methodNamed? tFill0 = some T.fill0 ∧ s.fieldFound? tN "stackTrace" steD = some (T.cT, T.kT, T.i17, T.fStack) ∧
      s.fieldFound? tN "UNASSIGNED_STACK" steD = some (T.cT, T.kT, T.i13, T.fUnassigned) ∧ T.fStack.name = "stackTrace" ∧ T.fStack.type = .array (.object "java/lang/StackTraceElement") := by
  have w : ∀ c, c ∈ excAtoms rc → c ≠ badW → c.holds args s none s [] = true := fun c hc hn => W c hc hn
  have wNat := w (.native tFill0) (by simp [excAtoms, throwableAtoms]) (by decide)
  have wIni := w (.initialized tN) (by simp [excAtoms, throwableAtoms]) (by decide)
  have wSup := w (.superclass tN "java/lang/Object") (by simp [excAtoms, throwableAtoms]) (by decide)
  have wF := w (.instanceMethod tFill) (by simp [excAtoms, throwableAtoms]) (by decide)
  have wFc := w (.codeSync tFill LibCode.Throwable.Fill.code 1 (some (.object tN))) (by simp [excAtoms, throwableAtoms]) (by decide)
  have w0 := w (.instanceMethod tFill0) (by simp [excAtoms, throwableAtoms]) (by decide)
  have wO := w (.instanceMethod oInit) (by simp [excAtoms, throwableAtoms]) (by decide)
  have wOc := w (.code oInit ⟨#[0xb1]⟩ 1 none) (by simp [excAtoms, throwableAtoms]) (by decide)
  have l1 := w (.methodLink tN 1 oInit) (by simp [excAtoms, throwableAtoms]) (by decide)
  have l27 := w (.methodLink tN 27 tFill) (by simp [excAtoms, throwableAtoms]) (by decide)
  have l202 := w (.methodLink tN 202 tFill0) (by simp [excAtoms, throwableAtoms]) (by decide)
  have l7 := w (.fieldLink tN 7 tN "cause" thD) (by simp [excAtoms, throwableAtoms]) (by decide)
  have l13 := w (.fieldLink tN 13 tN "UNASSIGNED_STACK" steD) (by simp [excAtoms, throwableAtoms]) (by decide)
  have l17 := w (.fieldLink tN 17 tN "stackTrace" steD) (by simp [excAtoms, throwableAtoms]) (by decide)
  have l20 := w (.fieldLink tN 20 tN "SUPPRESSED_SENTINEL" listD) (by simp [excAtoms, throwableAtoms]) (by decide)
  have l24 := w (.fieldLink tN 24 tN "suppressedExceptions" listD) (by simp [excAtoms, throwableAtoms]) (by decide)
  have y7 := w (.lays tN tN "cause" thD) (by simp [excAtoms, throwableAtoms]) (by decide)
  have y17 := w (.lays tN tN "stackTrace" steD) (by simp [excAtoms, throwableAtoms]) (by decide)
  have yM := w (.lays tN tN "detailMessage" msgD) (by simp [excAtoms, throwableAtoms]) (by decide)
  have z13 := w (.laysStatic tN "UNASSIGNED_STACK" steD) (by simp [excAtoms, throwableAtoms]) (by decide)
  have z20 := w (.laysStatic tN "SUPPRESSED_SENTINEL" listD) (by simp [excAtoms, throwableAtoms]) (by decide)
  have ne1 : ∀ (n d : String), (Jvm.Cond.lays rc tN n d) ≠ badW := fun n d e => by unfold badW at e; injection e with e1; exact hrc e1
  have x17 := w (.lays rc tN "stackTrace" steD) (by simp [excAtoms]) (ne1 _ _)
  have x24 := w (.lays rc tN "suppressedExceptions" listD) (by simp [excAtoms]) (ne1 _ _)
  obtain ⟨⟨c, i0⟩, m0, hn0, hm0, p1, p2, p3, p4⟩ := Cond.native_spec wNat
  have hc : s.vm.findClass tN = some c := findClass_of_methodNamed hn0
  obtain ⟨k, hk, hname⟩ := Vm.findClass_spec hc
  obtain ⟨_, k', _, _, hk', _, _, -, _, hni⟩ := Cond.superclass_spec hc wSup
  cases hk.symm.trans hk'
  obtain ⟨iF, mF, hnF, hmF, qF1, qF2, qF3, -, -⟩ := Cond.ownMethod (x := tFill) hc hk wF
  obtain ⟨mF', cF, hmF', f1, f2, f3, f4, f5, -, f6⟩ := Cond.codeSync_spec hnF wFc
  cases hmF.symm.trans hmF'
  obtain ⟨i0', m0', hn0', hm0', q01, q02, q03, q04, q05⟩ := Cond.ownMethod (x := tFill0) hc hk w0
  cases hn0.symm.trans hn0'
  cases hm0.symm.trans hm0'
  obtain ⟨mO, meO, hnO, hmO, o1, o2⟩ := Cond.instanceMethod_spec wO
  obtain ⟨meO', cO, hmO', o3, o4, -, -, o5, -, o6⟩ := Cond.code_spec hnO wOc
  cases hmO.symm.trans hmO'
  obtain ⟨kO, hkO, hnameO⟩ := Vm.findClass_spec (findClass_of_methodNamed hnO)
  obtain ⟨o7, o8⟩ := name_of_methodNamed hnO hmO
  obtain ⟨c1, n1, cf, a1, a2, hcf, a3⟩ := Cond.linkedMethod hc hk hnO l1 pl hpl
  obtain ⟨c27, n27, cf', b1, b2, hcf', b3⟩ := Cond.linkedMethod hc hk hnF l27 pl hpl
  cases hcf.symm.trans hcf'
  obtain ⟨c202, n202, cf', d1, d2, hcf', d3⟩ := Cond.linkedMethod hc hk hn0 l202 pl hpl
  cases hcf.symm.trans hcf'
  obtain ⟨c7, i7, f7, e1, e2, e3, e4, e5, -, -, -⟩ := Cond.ownField (t := .object tN) hc hk (by decide +kernel) l7 y7 pl hpl
  obtain ⟨c17, i17, f17, g1, g2, g3, g4, g5, g6, g7, hff17⟩ := Cond.ownField (t := .array (.object "java/lang/StackTraceElement")) hc hk (by decide +kernel) l17 y17 pl hpl
  obtain ⟨c24, i24, f24, r1, r2, r3, r4, r5, r6, -, hff24⟩ := Cond.ownField (t := .object "java/util/List") hc hk (by decide +kernel) l24 x24 pl hpl
  obtain ⟨c13, i13, f13, aS, cellS, s1, s2, s3, s4, -, -, s5, -, -, -, -, hff13⟩ := Cond.ownStatic (t := .array (.object "java/lang/StackTraceElement")) hc hk (by decide +kernel) l13 z13 pl hpl
  obtain ⟨c20, i20, f20, _, _, t1, t2, t3, t4, -, -, -, -, -, -, -, -⟩ := Cond.ownStatic (t := .object "java/util/List") hc hk (by decide +kernel) l20 z20 pl hpl
  obtain ⟨_, _, _, _, _, fM, _, _, _, u1, u2, _⟩ := Cond.lays_spec yM
  have par : ∀ {d : String} {mt : Method} {ps : List FieldType} {rt : Option FieldType}, parseMethodDescriptor d = some mt.sig → parseMethodDescriptor d = some ⟨ps, rt⟩ → mt.sig.parameters = ps := fun z1 z2 => by rw [Option.some.inj (z1.symm.trans z2)]
  have pF : mF.sig.parameters = [] := par f6 (show parseMethodDescriptor tFill.desc = some ⟨[], some (.object tN)⟩ by decide +kernel)
  have p0 : m0.sig.parameters = [.int] := par p4 (show parseMethodDescriptor tFill0.desc = some ⟨[.int], some (.object tN)⟩ by decide +kernel)
  have pO : meO.sig.parameters = [] := par o6 (show parseMethodDescriptor oInit.desc = some ⟨[], none⟩ by decide +kernel)
  refine ⟨{ cT := c, kT := k, cO := c, aS := aS, fillIdx := iF, fill0Idx := i0, initSIdx := iF, obj := mO, kObj := kO, methFill := mF, methFill0 := m0, methInitS := mF, methObj := meO, codeFill := cF, codeInitS := cF, codeObj := cO, fBack := f7, fDepth := f7, fStack := f17, fCause := f7, fSupp := f24, fMsg := fM, fUnassigned := f13, fSentinel := f20, cfT := cf, ci1 := c1, n1 := n1, ci27 := c27, n27 := n27, ci202 := c202, n202 := n202, ci7 := c7, i7 := i7, ci13 := c13, i13 := i13, ci17 := c17, i17 := i17, ci20 := c20, i20 := i20, ci24 := c24, i24 := i24 },
    ⟨howns, hfin, hk, hname, Vm.findClass_boot hc hk, hni, Cond.initialized_spec hc hk wIni, s5, qF1, f1, f2, f3, f5, qF2, qF3, f4, pF, q01, q04, q05, p0, q02, p1, p2, p3, q03, g4, g5, s4, hkO, hnameO, hmO, o7, o1, o2, ?_, ?_, o3, o4, o5, e4, e5, t4, r4, r5, u1, u2, ?_, hcf, a1, a2, a3, b1, b2, b3, d1, d2, d3, e1, e2, e3, s1, s2, s3, g1, g2, g3, t1, t2, t3, r1, r2, r3⟩, hc, hnF, hn0, hff17, hff13, g6, g7⟩
  · rw [o8]; exact lookupSpecial_of_named hnO hmO o1
  · rw [pO]; rfl
  · exact Cond.lays_apart x17 x24 hff17 hff24 (by rw [g6, r6]; decide)
section Fill
variable {l : Launch} {Z : State} {EL : List (String × Nat)} {n0 : Nat} {R : Room} {y : MethodName} {bytes : ByteArray} {ml : Nat} {ret : Option FieldType} {Q : Option Value → Heap → List Addr → Prop}
  {F : List Addr} {h : Heap} {cells slots pc pc' : Nat} {Ls Ls' : Array Slot} {S S' : List Value} {a0 : Array Value}
/-- fillInStackTrace(), called in a constructor of Throwable -/
theorem WP.fill {a u : Addr} {rc : String} {kk : Nat} {v0 : Value} {rest : List Value} (hyc : y.cls = tN) (hd : D1 bytes pc (.invokevirtual 27) 3 pc') (hst : l.stackTraces = true) (hG : Gn Z) (hrc : rc ≠ tN)
    (W : ∀ c ∈ excAtoms rc, c ≠ badW → c.before a0 Z = true) (wi : (Jvm.Cond.instantiable rc kk).before a0 Z = true) (hU : Sta Z Z.heap tN "UNASSIGNED_STACK" steD (.ref u))
    (E : Exa Z h a rc) (N : Unt h a) (FS : Fld Z h a tN "stackTrace" steD (.ref u)) (FB : Fld Z h a tN "backtrace" obD .null) (FM : Fld Z h a tN "detailMessage" msgD v0) (na : n0 ≤ a) (hs : SafeBy Z EL F h a) (hsz : Ls.size = ml)
    (hf : 3 ≤ R.frames) (hlo : (rest.map fun v => v.category).sum + 42 ≤ R.locals) (hc : cells + 1 ≤ R.cells) (hsl : slots + 2752 ≤ R.slots)
    (k : ∀ h', Keep h h' [a] → Exa Z h' a rc → Fld Z h' a tN "detailMessage" msgD v0 → WP l Z EL n0 R y bytes ml ret Q F h' (cells + 1) (slots + 2752) pc' Ls (.ref a :: rest)) : WP l Z EL n0 R y bytes ml ret Q F h cells slots pc Ls (.ref a :: rest) := by
  obtain ⟨hd, rfl⟩ := hd
  intro p e s m args below meth c T vm0 locs D
  obtain ⟨X, e0, ⟨k0, hS, hk⟩, hZ, hown, hC, hF, hN, hO, hx, hby, hml, hret, hlk, hnm, hEL, hkn⟩ := D
  rw [hyc] at hown
  have hal : Z.vm.Alike (s.setVm vm0).vm := hZ.alike
  have W' : ∀ c ∈ excAtoms rc, c ≠ badW → c.before args (s.setVm vm0) = true := fun c hc hn => mvX (s := s.setVm vm0) (ThS.ext hkn.2 ThS.start) hZ (List.all_eq_true.mp exc_ok c hc) (W c hc hn)
  have htr : e.platform.stackTraces = true := by rw [X.admits.platform]; exact hst
  have howns : e.platform.frameOwnsMonitors = true := by rw [X.admits.platform]
  have hfin : e.platform.finalization = false := by rw [X.admits.platform]
  have hpl : e.platform.magicAccessors = ({} : Platform).magicAccessors := by rw [X.admits.platform]
  obtain ⟨TT, L, hT, hnF, hn0, hff17, hff13, nS, tS⟩ := own_links hrc howns hfin hpl W'
  have ne1 : ∀ (n d : String), (Jvm.Cond.lays rc tN n d) ≠ badW := fun n d e => by unfold badW at e; injection e with e1; exact hrc e1
  have hE := E
  obtain ⟨cell, kc, h1, h2, h3, h4, h5⟩ := E
  obtain ⟨c2, u1, hvm, hmon⟩ := N
  cases h1.symm.trans u1
  obtain ⟨c4, k2, i1, i2, i3, -⟩ := Cond.instantiable_spec wi
  cases h2.symm.trans i1
  cases h3.symm.trans i2
  obtain ⟨kX, hkX, qX⟩ := hal.2.2 _ _ h3
  have hord : kX.kind = .ordinary := by rw [qX]; exact i3
  have hszX : cell.slots.size = kX.instanceTypes.size := by rw [qX]; exact h5 i3
  have hfound : (s.setVm vm0).vm.findClass rc = some cell.cls := by rw [hal.findClass]; exact h2
  have hTc : T.heap[a]? = some cell := by rw [e0]; exact h1
  obtain ⟨c3, cf3, kf3, i3', f3, b1, b2, -, -, -, -, b7⟩ := FS
  cases h1.symm.trans b1
  obtain ⟨k4, q3, -⟩ := State.fieldFound?_setVm (s := Z) hal b2
  cases (show (s.setVm vm0).fieldFound? tN "stackTrace" steD = _ from q3).symm.trans hff17
  obtain ⟨c5, cf5, kf5, i5, f5, d1, d2, -, -, -, -, d7⟩ := FB
  cases h1.symm.trans d1
  obtain ⟨k6, q6, -⟩ := State.fieldFound?_setVm (s := Z) hal d2
  obtain ⟨ci198, i198, fB, x1, x2, x3, x4, -, x5, x6, hffB⟩ := Cond.ownField (t := .object "java/lang/Object") hT L.cls (by decide +kernel) (W' (.fieldLink tN 198 tN "backtrace" obD) (by simp [excAtoms]) (by decide)) (W' (.lays tN tN "backtrace" obD) (by simp [excAtoms]) (by decide)) e.platform hpl
  cases (show (s.setVm vm0).fieldFound? tN "backtrace" obD = _ from q6).symm.trans hffB
  obtain ⟨c7, cf7, kf7, i7, fM, m1, m2, m3, m4, m5, m6, m7⟩ := FM
  cases h1.symm.trans m1
  obtain ⟨k8, q8, -⟩ := State.fieldFound?_setVm (s := Z) hal m2
  have hffM : (s.setVm vm0).fieldFound? tN "detailMessage" msgD = _ := q8
  obtain ⟨nM, -⟩ := State.fieldFound?_type hffM (t := .object "java/lang/String") (by decide +kernel)
  obtain ⟨_, _, cD, kD, iD, fD, -, -, hffD, hstD, -, -, -, -⟩ := Cond.lays_spec (W' (.lays rc tN "depth" "I") (by simp [excAtoms]) (ne1 _ _))
  cases Option.some.inj ((Cond.lays_declared (W' (.lays rc tN "depth" "I") (by simp [excAtoms]) (ne1 _ _)) hffD).symm.trans hT)
  obtain ⟨hkD, hatD⟩ := State.fieldFound?_spec hffD
  cases Option.some.inj (hkD.symm.trans L.cls)
  obtain ⟨nD, tD⟩ := State.fieldFound?_type hffD (t := .int) (by decide +kernel)
  have hfb := Cond.soleField_find hT L.cls (W' (.soleField tN "backtrace") (by simp [excAtoms]) (by decide)) x3 x5 x4
  have hfd := Cond.soleField_find hT L.cls (W' (.soleField tN "depth") (by simp [excAtoms]) (by decide)) hatD nD hstD
  obtain ⟨comp, cO, kO, -, -, hkO, hkindO, hOO⟩ := Cond.arrayOver_spec (W' (.arrayOver (.object "java/lang/Object")) (by simp [excAtoms]) (by decide))
  obtain ⟨tyS, dS, hdS, hdnS⟩ := Cond.laysAt hfound hkX hff17 (W' (.lays rc tN "stackTrace" steD) (by simp [excAtoms]) (ne1 _ _))
  obtain ⟨tyM, dM, hdM, hdnM⟩ := Cond.laysAt hfound hkX hffM (W' (.lays rc tN "detailMessage" msgD) (by simp [excAtoms]) (ne1 _ _))
  obtain ⟨tyB, dB, hdB, hdnB⟩ := Cond.laysAt hfound hkX hffB (W' (.lays rc tN "backtrace" obD) (by simp [excAtoms]) (ne1 _ _))
  obtain ⟨tyD, dD, hdD, hdnD⟩ := Cond.laysAt hfound hkX hffD (W' (.lays rc tN "depth" "I") (by simp [excAtoms]) (ne1 _ _))
  have mS := Cond.laysApart hdM hdS hdnM hdnS (by rw [nM, nS]; decide)
  have mB := Cond.laysApart hdM hdB hdnM hdnB (by rw [nM, x5]; decide)
  have mD := Cond.laysApart hdM hdD hdnM hdnD (by rw [nM, nD]; decide)
  have tk : ∀ {f : Field} {v : Value}, kX.instanceTypes[f.slot]? = some f.type → fits f.type v = true → Jvm.Takes (s.setVm vm0) cell f v := fun {f v} z1 z2 => by
    obtain ⟨g1, g2⟩ := Takes.of_laid (v := v) hkX hord z1 z2
    exact ⟨by rw [hszX]; simpa using g1, by rw [hvm]; exact g2⟩
  have hsel0 : selectMethod e.platform (s.setVm vm0).vm cell.cls TT.fill0 = .method TT.fill0 := by
    obtain ⟨_, _, _, g1, g2, g3, g4, -⟩ := Cond.selects_spec (W' (.selects rc tFill0 tFill0) (by simp [excAtoms]) (by simp [badW]))
    cases Option.some.inj (g1.symm.trans hfound)
    cases Option.some.inj (g2.symm.trans (State.methodFound?_of_named hn0 (by decide)))
    cases Option.some.inj (g3.symm.trans hn0)
    rw [Launch.admits_selectMethod X.admits]; exact g4
  obtain ⟨cU, iU, kU, fU, st, cellS, v1, v2, v3, v4, v5, v6, v7⟩ := hU
  obtain ⟨kU', w1, w2⟩ := State.fieldFound?_setVm (s := Z) hal v1
  cases (show (s.setVm vm0).fieldFound? tN "UNASSIGNED_STACK" steD = _ from w1).symm.trans hff13
  have haS : TT.aS = st := by
    have z1 := L.statics
    rw [show TT.kT.statics = kU.statics from by rw [w2]] at z1
    exact Option.some.inj (z1.symm.trans v4)
  have hneS : TT.aS ≠ a := fun q => by
    rw [haS] at q
    have z2 := hO.2.2 _ _ v5
    rw [q] at z2
    cases h1.symm.trans z2
    rw [hvm] at v6; cases v6
  have K := Jvm.Free.Str.fillPays (l := l) (R := R) (p := p) (e := e) (below := below) (s := s.setVm vm0) (sargs := args) (len := 3) (W := (rest.map fun v => v.category).sum) hx htr TT L hnF (u0 := ⟨.ref u, rfl⟩) (by simp) (self := a) (cell := cell) (cellS := cellS)
    (fun q => by rw [hvm]; simp) (by rw [hvm]; simp) (by rw [hmon]) (by rw [hmon]) b7 hsel0 hneS (fun q => by rw [q] at v6; cases v6) v7 (tk tyS (by rw [tS]; rfl)) ⟨⟨ci198, i5, f5⟩, ⟨x1, x2, x3, x4⟩, d7⟩
    (Vm.MethodsKnown.alikeC (vm' := (s.setVm vm0).vm) hZ.alike hG.1) (Vm.FramesKnown.alikeC (vm' := (s.setVm vm0).vm) hZ.alike (hkn.1 hG)) hT hOO hkO hkindO hfb hfd (fun q => tk tyB (by rw [x6]; rfl)) (fun q => tk tyD (by rw [tD]; rfl)) (by omega) hlo
  obtain ⟨cB, kB, o1, o2, o3⟩ := isOf (s := s.setVm vm0) hZ e0 hE
  obtain ⟨v, vm₁, ⟨U, L1, c1, n1⟩, -, X', ⟨hv, vm', lines, hln, -, hUU, hLL, hcc, hnn⟩, stp⟩ := X.virtualBack hx hown (W' (.methodLink tN 27 tFill) (by simp [excAtoms, throwableAtoms]) (by decide)) (W' (.declares tFill) (by simp [excAtoms]) (by decide))
    (notFace2 (a0 := args) (W' (.selects rc tFill tFill) (by simp [excAtoms]) (by simp [badW])) rfl) (W' (.selects rc tFill tFill) (by simp [excAtoms]) (by simp [badW])) (W' (.instanceMethod tFill) (by simp [excAtoms, throwableAtoms]) (by decide)) (by decide) K o1 o3
    (g := mkF m pc Ls (.ref a :: rest)) rfl (by rw [hml]; exact hsz) (Steps.refl _) (argsL := []) (rest := rest) (fun sig hsig => by rw [show parseMethodDescriptor tFill.desc = some ⟨[], some (.object tN)⟩ from by decide +kernel] at hsig; cases hsig; rfl) rfl (by show 2 * 0 + _ ≤ _; omega) (hb hby hd) (fun vm₁ _ => ⟨rfl, hc, hsl, hTc, by show T.heap[TT.aS]? = _; rw [e0, haS]; exact hO.2.2 _ _ v5⟩)
  subst hv
  have hLL' : L1 = locs ++ [⟨a, f5.slot⟩, ⟨a, fD.slot⟩, ⟨a, TT.fStack.slot⟩] := hLL
  have hcc' : c1 = cells + 1 := hcc
  have hnn' : n1 = slots + (traceHolder cO lines).slots.size := hnn
  subst hLL' hcc' hnn'
  have hUU' : U = ((T.setVm vm₁).setVm vm' |>.pushCell (traceHolder cO lines)).setCell a (Jvm.Free.Str.filledOn TT.toThrowableT f5 fD cell ⟨.ref u, rfl⟩ T.heap.size lines.length.toInt32) := hUU
  have hhp : U.heap = (h.push (traceHolder cO lines)).setIfInBounds a (Jvm.Free.Str.filledOn TT.toThrowableT f5 fD cell ⟨.ref u, rfl⟩ T.heap.size lines.length.toInt32) := by rw [hUU', ← e0]; rfl
  have hlt : a < h.size := (Array.getElem?_eq_some_iff.mp h1).1
  generalize hfc : Jvm.Free.Str.filledOn TT.toThrowableT f5 fD cell ⟨.ref u, rfl⟩ T.heap.size lines.length.toInt32 = fc at hhp
  have fc1 : fc.cls = cell.cls := by rw [← hfc]; rfl
  have fc2 : fc.vm = cell.vm := by rw [← hfc]; rfl
  have fc3 : fc.slots.size = cell.slots.size := by rw [← hfc]; simp [Jvm.Free.Str.filledOn, Cell.setSlot]
  have fc4 : ∀ i, i ≠ f5.slot → i ≠ fD.slot → i ≠ TT.fStack.slot → fc.slots[i]? = cell.slots[i]? := fun i z1 z2 z3 => by rw [← hfc]; simp [Jvm.Free.Str.filledOn, Cell.setSlot, Array.getElem?_setIfInBounds, Ne.symm z1, Ne.symm z2, Ne.symm z3]
  have at1 : U.heap[a]? = some fc := by rw [hhp, Array.getElem?_setIfInBounds, if_pos rfl, if_pos (by rw [Array.size_push]; exact Nat.lt_succ_of_lt hlt)]
  have at2 : ∀ x cl, h[x]? = some cl → x ≠ a → U.heap[x]? = some cl := fun x cl q ne => by
    have lx := (Array.getElem?_eq_some_iff.mp q).1
    rw [hhp, Array.getElem?_setIfInBounds, if_neg (Ne.symm ne), Array.getElem?_push_lt lx]
    rw [Array.getElem?_eq_getElem lx] at q; exact q
  have Kp : Keep h U.heap [a] := by
    refine ⟨by rw [hhp]; simp, fun x cl q ne => at2 x cl q (by simpa using ne), fun x cl q => ?_⟩
    by_cases ex : x = a
    · subst ex
      cases h1.symm.trans q
      exact ⟨fc, at1, fc1, fc2, fc3⟩
    · exact ⟨cl, at2 x cl q ex, rfl, rfl, rfl⟩
  have sa : ∀ x ∈ [a], Safe Z EL vm0 h x := fun x hx => by
    rw [List.mem_singleton.mp hx]; exact hs.2 vm0 hZ.alike hF
  have FM' : Fld Z U.heap a tN "detailMessage" msgD v0 := ⟨fc, _, _, _, fM, at1, m2, m3, by rw [fc2]; exact m4, by rw [fc2]; exact m5, by rw [fc1]; exact m6, by rw [fc4 _ mB mD mS]; exact m7⟩
  refine (k U.heap Kp (hE.keep Kp) FM' p e s m args below meth c U vm0 _ ⟨X'.more (Nat.le_refl _) (Nat.add_le_add_left (traceHolder_size_le cO hln) _), rfl, ⟨k0, hS, Nat.le_trans hk Kp.1⟩, hZ, by rw [hyc]; exact hown, hC.trans (CHr.keep Kp sa hC.1), fun x hx => ⟨Nat.lt_of_lt_of_le (hF x hx).1 Kp.1, Safe.keep Kp sa hC.1 (hF x hx).2⟩, hN.app ?_, hO.keep Kp (fun x hx => by rw [List.mem_singleton.mp hx]; exact na), hx, hby, hml, hret, hlk, hnm, hEL, hkn⟩).step fun t q => stp.trans q
  intro z hz
  simp only [List.mem_cons, List.not_mem_nil, or_false] at hz
  rcases hz with rfl | rfl | rfl <;> exact na
end Fill
end Jvm.Own
namespace Jvm.Own
open Jvm Jvm.ClassFile Sem Op Lib Jvm.Free Jvm.Stand Jvm.LawKit Jvm.RoadKit Bundle
section Dbl2
variable {l : Launch} {Z : State} {EL : List (String × Nat)} {n0 : Nat} {R : Room} {y : MethodName} {bytes : ByteArray} {ml : Nat} {ret : Option FieldType} {Q : Option Value → Heap → List Addr → Prop}
  {F : List Addr} {h : Heap} {cells slots pc pc' : Nat} {Ls Ls' : Array Slot} {S S' : List Value} {a0 : Array Value}
theorem WP.l2d {x : Int64} (hd : D1 bytes pc .l2d 1 pc') (k : WP l Z EL n0 R y bytes ml ret Q F h cells slots pc' Ls (.double (FP.l2d x) :: S)) : WP l Z EL n0 R y bytes ml ret Q F h cells slots pc Ls (.long x :: S) := by
  obtain ⟨hd, rfl⟩ := hd
  exact k.lift fun p e m c below T t hx hby ha q => XS.l2dS ha hx rfl (hb hby hd) rfl rfl q
theorem WP.dmul {x z : UInt64} (hd : D1 bytes pc .dmul 1 pc') (hn : Jvm.Free.Fl.NoNaN64 (FP.dmul x z)) (k : WP l Z EL n0 R y bytes ml ret Q F h cells slots pc' Ls (.double (FP.dmul x z) :: S)) : WP l Z EL n0 R y bytes ml ret Q F h cells slots pc Ls (.double z :: .double x :: S) := by
  obtain ⟨hd, rfl⟩ := hd
  exact k.lift fun p e m c below T t hx hby ha q => XS.dmulS ha hx rfl (hb hby hd) rfl hn rfl q
theorem WP.ddiv {x z : UInt64} (hd : D1 bytes pc .ddiv 1 pc') (hn : Jvm.Free.Fl.NoNaN64 (FP.ddiv x z)) (k : WP l Z EL n0 R y bytes ml ret Q F h cells slots pc' Ls (.double (FP.ddiv x z) :: S)) : WP l Z EL n0 R y bytes ml ret Q F h cells slots pc Ls (.double z :: .double x :: S) := by
  obtain ⟨hd, rfl⟩ := hd
  exact k.lift fun p e m c below T t hx hby ha q => XS.ddivS ha hx rfl (hb hby hd) rfl hn rfl q
theorem WP.dconst0 (hd : D1 bytes pc (.dconst 0) 1 pc') (k : WP l Z EL n0 R y bytes ml ret Q F h cells slots pc' Ls (.double FP.dconst0 :: S)) : WP l Z EL n0 R y bytes ml ret Q F h cells slots pc Ls S := by
  obtain ⟨hd, rfl⟩ := hd
  exact k.lift fun p e m c below T t hx hby ha q => XS.dconst0 ha hx rfl (hb hby hd) rfl q
theorem WP.dconst1 (hd : D1 bytes pc (.dconst 1) 1 pc') (k : WP l Z EL n0 R y bytes ml ret Q F h cells slots pc' Ls (.double FP.dconst1 :: S)) : WP l Z EL n0 R y bytes ml ret Q F h cells slots pc Ls S := by
  obtain ⟨hd, rfl⟩ := hd
  exact k.lift fun p e m c below T t hx hby ha q => XS.dconst1 ha hx rfl (hb hby hd) rfl q
theorem WP.lreturn {w : Int64} (hd : D1 bytes pc .lreturn 1 pc') (hr : ret = some .long) (hc : cells ≤ R.cells) (hl : slots ≤ R.slots) {G : List Addr} (hG : ∀ x ∈ G, x ∈ F) (hQ : Q (some (.long w)) h G) : WP l Z EL n0 R y bytes ml ret Q F h cells slots pc Ls (.long w :: S) :=
  WP.retV hd hr rfl (Or.inr (Or.inl ⟨rfl, rfl, w, rfl⟩)) hc hl hG hQ
theorem WP.dreturn {w : UInt64} (hd : D1 bytes pc .dreturn 1 pc') (hr : ret = some .double) (hc : cells ≤ R.cells) (hl : slots ≤ R.slots) {G : List Addr} (hG : ∀ x ∈ G, x ∈ F) (hQ : Q (some (.double w)) h G) : WP l Z EL n0 R y bytes ml ret Q F h cells slots pc Ls (.double w :: S) :=
  WP.retV hd hr rfl (Or.inr (Or.inr (Or.inl ⟨rfl, rfl, w, rfl⟩))) hc hl hG hQ
end Dbl2
/-! Doubles by value, on the library's rounding laws (FloatLaws) -/
section Fp
open Jvm.FP
/-- c * 2^e, written as the format writes it -/
def pv (c : Nat) (e : Int) : Core.Datum := .fin false (c * 2 ^ (52 - c.log2)) (e - ((52 - c.log2 : Nat) : Int))
theorem pv_one (k : Int) : pv 1 k = .fin false (2 ^ 52) (k - 52) := by
  have : Nat.log2 1 = 0 := by decide
  unfold pv; rw [this]; simp
theorem pv_sig {c : Nat} (hc : 0 < c) (h2 : c < 2 ^ 53) : c.log2 ≤ 52 ∧ 2 ^ 52 ≤ c * 2 ^ (52 - c.log2) ∧ c * 2 ^ (52 - c.log2) < 2 ^ 53 := by
  have a := Nat.log2_self_le (n := c) (by omega)
  have b := Nat.lt_log2_self (n := c)
  have hL : c.log2 ≤ 52 := by
    have : c.log2 < 53 := (Nat.log2_lt (by omega)).mpr h2
    omega
  refine ⟨hL, ?_, ?_⟩
  · calc 2 ^ 52 = 2 ^ c.log2 * 2 ^ (52 - c.log2) := by rw [← Nat.pow_add]; congr 1; omega
      _ ≤ _ := Nat.mul_le_mul_right _ a
  · calc _ < 2 ^ (c.log2 + 1) * 2 ^ (52 - c.log2) := Nat.mul_lt_mul_of_pos_right b (Nat.pow_pos (by decide))
      _ = 2 ^ 53 := by rw [← Nat.pow_add]; congr 1; omega
theorem qmin64 : Core.b64.qmin = -1074 := by decide
theorem qmax64 : Core.b64.qmax = 971 := by decide
theorem pv_fits {c : Nat} {e : Int} (hc : 0 < c) (h2 : c < 2 ^ 53) (e1 : -1000 ≤ e) (e2 : e ≤ 900) : Core.fits Core.b64 (pv c e) := by
  obtain ⟨hL, s1, s2⟩ := pv_sig hc h2
  refine ⟨s2, by rw [qmin64]; omega, by rw [qmax64]; omega, Or.inr s1⟩
theorem no_nan {x : UInt64} {c : Nat} {e : Int} (h : Core.val64 x = pv c e) : Jvm.Free.Fl.NoNaN64 x := by
  refine Jvm.Free.Fl.noNaN64_no.mpr ?_
  have : Core.decode Core.b64 x.toNat = pv c e := h
  simp [Core.dIsNaN, Core.isNaN, this, pv]
theorem pv_mul {x z : UInt64} {c : Nat} {e k : Int} (hx : Core.val64 x = pv c e) (hz : Core.val64 z = pv 1 k) (hc : 0 < c) (h2 : c < 2 ^ 53) (e1 : -1000 ≤ e + k) (e2 : e + k ≤ 900) : Core.val64 (FP.dmul x z) = pv c (e + k) := by
  show Core.val64 (Core.dmul x z) = _
  rw [Core.val64_dmul, hx, hz, pv_one]
  show Core.roundRatio Core.b64 false (c * 2 ^ (52 - c.log2) * 2 ^ 52) 1 (e - ((52 - c.log2 : Nat) : Int) + (k - 52)) = pv c (e + k)
  refine Core.roundRatio_exact Core.good_b64 (by decide) (pv_fits hc h2 e1 e2) ?_
  have z1 : (e - ((52 - c.log2 : Nat) : Int) + (k - 52) - (e + k - ((52 - c.log2 : Nat) : Int))).toNat = 0 := by omega
  have z2 : (e + k - ((52 - c.log2 : Nat) : Int) - (e - ((52 - c.log2 : Nat) : Int) + (k - 52))).toNat = 52 := by omega
  rw [z1, z2]; simp
theorem pv_div {x z : UInt64} {c : Nat} {e k : Int} (hx : Core.val64 x = pv c e) (hz : Core.val64 z = pv 1 k) (hc : 0 < c) (h2 : c < 2 ^ 53) (e1 : -1000 ≤ e - k) (e2 : e - k ≤ 900) : Core.val64 (FP.ddiv x z) = pv c (e - k) := by
  show Core.val64 (Core.ddiv x z) = _
  rw [Core.val64_ddiv, hx, hz, pv_one]
  show (if (2 ^ 52 : Nat) = 0 then (if c * 2 ^ (52 - c.log2) = 0 then Core.Datum.nan else Core.Datum.inf (false != false)) else Core.roundRatio Core.b64 (false != false) (c * 2 ^ (52 - c.log2)) (2 ^ 52) (e - ((52 - c.log2 : Nat) : Int) - (k - 52))) = pv c (e - k)
  rw [if_neg (by decide)]
  refine Core.roundRatio_exact Core.good_b64 (by decide) (pv_fits hc h2 e1 e2) ?_
  have z1 : (e - ((52 - c.log2 : Nat) : Int) - (k - 52) - (e - k - ((52 - c.log2 : Nat) : Int))).toNat = 52 := by omega
  have z2 : (e - k - ((52 - c.log2 : Nat) : Int) - (e - ((52 - c.log2 : Nat) : Int) - (k - 52))).toNat = 0 := by omega
  rw [z1, z2]; simp
theorem pv_i2d {n : Int32} {c : Nat} (h : Ix n c) (hc : 0 < c) (h2 : c < 2 ^ 53) : Core.val64 (FP.i2d n) = pv c 0 := by
  show Core.val64 (Core.i2d n) = _
  rw [Core.val64_i2d, h]
  show Core.roundRatio Core.b64 (decide ((c : Int) < 0)) (c : Int).natAbs 1 0 = pv c 0
  rw [show decide ((c : Int) < 0) = false from by simp, Int.natAbs_natCast]
  refine Core.roundRatio_exact Core.good_b64 (by decide) (pv_fits hc h2 (by omega) (by omega)) ?_
  have z1 : ((0 : Int) - (0 - ((52 - c.log2 : Nat) : Int))).toNat = 52 - c.log2 := by omega
  have z2 : ((0 : Int) - ((52 - c.log2 : Nat) : Int) - 0).toNat = 0 := by omega
  rw [z1, z2]; simp
theorem pv_l2d {n : Int64} {m : Nat} (h : n.toInt = 2 ^ m) (hm : m ≤ 800) : Core.val64 (FP.l2d n) = pv 1 m := by
  show Core.val64 (Core.l2d n) = _
  rw [Core.val64_l2d, h]
  have hp : (0 : Int) < 2 ^ m := Int.pow_pos (by decide)
  show Core.roundRatio Core.b64 (decide ((2 : Int) ^ m < 0)) ((2 : Int) ^ m).natAbs 1 0 = pv 1 m
  rw [show decide ((2 : Int) ^ m < 0) = false from by simp; omega, Int.natAbs_pow]
  have := pv_fits (c := 1) (e := (m : Int)) (by decide) (by decide) (by omega) (by omega)
  rw [pv_one] at this ⊢
  refine Core.roundRatio_exact Core.good_b64 (by decide) this ?_
  show 2 ^ m * 2 ^ (0 - ((m : Int) - 52)).toNat = 2 ^ 52 * 1 * 2 ^ ((m : Int) - 52 - 0).toNat
  rw [Nat.mul_one, ← Nat.pow_add, ← Nat.pow_add]
  congr 1; omega
/-- the value in units of 2^-2000 -/
def nv (c : Nat) (e : Int) : Nat := c * 2 ^ (e + 2000).toNat
theorem pv_cmp {x z : UInt64} {c d : Nat} {e r : Int} (hx : Core.val64 x = pv c e) (hz : Core.val64 z = pv d r) (e1 : -1000 ≤ e) (r1 : -1000 ≤ r) : FP.dcmp x z = some (compare (nv c e) (nv d r)) := by
  show Core.order (Core.val64 x) (Core.val64 z) = _
  rw [hx, hz]
  unfold pv
  generalize hj : 52 - c.log2 = j
  generalize hk : 52 - d.log2 = k
  have j2 : j ≤ 52 := by omega
  have k2 : k ≤ 52 := by omega
  show some (compare (((c * 2 ^ j) * 2 ^ (e - (j : Int) - min (e - (j : Int)) (r - (k : Int))).toNat : Nat) : Int) (((d * 2 ^ k) * 2 ^ (r - (k : Int) - min (e - (j : Int)) (r - (k : Int))).toNat : Nat) : Int)) = _
  generalize hm : min (e - (j : Int)) (r - (k : Int)) = m
  have m1 : m ≤ e - j := by omega
  have m2 : m ≤ r - k := by omega
  have m3 : -2000 ≤ m := by omega
  have ex : nv c e = ((c * 2 ^ j) * 2 ^ (e - (j : Int) - m).toNat) * 2 ^ (m + 2000).toNat := by
    unfold nv
    rw [Nat.mul_assoc, Nat.mul_assoc, ← Nat.pow_add, ← Nat.pow_add]
    congr 2; omega
  have ez : nv d r = ((d * 2 ^ k) * 2 ^ (r - (k : Int) - m).toNat) * 2 ^ (m + 2000).toNat := by
    unfold nv
    rw [Nat.mul_assoc, Nat.mul_assoc, ← Nat.pow_add, ← Nat.pow_add]
    congr 2; omega
  rw [ex, ez]
  generalize (c * 2 ^ j) * 2 ^ (e - (j : Int) - m).toNat = A
  generalize (d * 2 ^ k) * 2 ^ (r - (k : Int) - m).toNat = B
  have hp : 0 < 2 ^ (m + 2000).toNat := Nat.pow_pos (by decide)
  generalize 2 ^ (m + 2000).toNat = P at hp
  congr 1
  rcases Nat.lt_trichotomy A B with q | q | q
  · rw [Int.compare_eq_lt.mpr (by omega), Nat.compare_eq_lt.mpr (Nat.mul_lt_mul_of_pos_right q hp)]
  · subst q; simp
  · rw [Int.compare_eq_gt.mpr (by omega), Nat.compare_eq_gt.mpr (Nat.mul_lt_mul_of_pos_right q hp)]
end Fp
end Jvm.Own
namespace Jvm.Own
open Jvm Jvm.ClassFile Sem Op Lib Jvm.Free Jvm.Stand Jvm.LawKit Jvm.RoadKit Bundle
theorem Ix.mul {x z : Int32} {i j : Nat} (a : Ix x i) (b : Ix z j) (q : i * j < 2 ^ 31) : Ix (x * z) (i * j) := by
  unfold Ix at *
  rw [Int32.toInt_mul, a, b]
  show ((i : Int) * (j : Int)).bmod (2 ^ 32) = _
  have : (i : Int) * (j : Int) = ((i * j : Nat) : Int) := by simp
  rw [this, Int.bmod_eq_of_le (by omega) (by omega)]
theorem Ix.div {x z : Int32} {i j : Nat} (a : Ix x i) (b : Ix z j) (q : i < 2 ^ 31) : Ix (x / z) (i / j) := by
  unfold Ix at *
  rw [Int32.toInt_div, a, b]
  show ((i : Int).tdiv (j : Int)).bmod (2 ^ 32) = _
  have h2 : (i : Int).tdiv (j : Int) = ((i / j : Nat) : Int) := by rw [Int.tdiv_eq_ediv_of_nonneg (by omega)]; simp
  have h3 : i / j ≤ i := Nat.div_le_self _ _
  rw [h2]
  generalize i / j = d at h3
  rw [Int.bmod_eq_of_le (by omega) (by omega)]
theorem Ix.rem {x z : Int32} {i j : Nat} (a : Ix x i) (b : Ix z j) (q : i < 2 ^ 31) : Ix (x - (x / z) * z) (i % j) := by
  have h1 : i / j * j ≤ i := Nat.div_mul_le_self i j
  have := Ix.sub a (Ix.mul (Ix.div a b q) b (by omega)) h1 q
  rwa [show i - i / j * j = i % j from by have := Nat.mod_add_div i j; rw [Nat.mul_comm] at this; omega] at this
theorem Ix.ne0 {x : Int32} {i : Nat} (a : Ix x i) (q : 0 < i) : x ≠ 0 := fun e => by
  subst e
  have h0 : (0 : Int32).toInt = 0 := rfl
  unfold Ix at a; omega
theorem Ix.and (x m : Int32) (hm : 0 ≤ m.toInt) : ∃ i : Nat, Ix (x &&& m) i ∧ (i : Int) ≤ m.toInt := by
  obtain ⟨h1, h2⟩ := c_and x m hm
  exact ⟨(x &&& m).toInt.toNat, by unfold Ix; omega, by omega⟩
/-- a long that counts -/
theorem ofJ_int {i : Nat} (q : i < 2 ^ 62) : (Int64.ofNat i).toInt = i := Int64.toInt_ofNat_of_lt (by omega)
theorem ofJ_add {i : Nat} : Int64.ofNat i + 1 = Int64.ofNat (i + 1) := by rw [Int64.ofNat_add]; rfl
theorem lcW_lt {i : Nat} {m : Int64} (q : i < 2 ^ 62) (h : (i : Int) < m.toInt) : lcmpW (Int64.ofNat i) m = -1 := by
  have e := ofJ_int q
  unfold lcmpW
  rw [if_neg, if_neg]
  · intro z; rw [z] at e; omega
  · intro z; have := Int64.lt_iff_toInt_lt.mp z; omega
theorem lcW_le {i : Nat} {m : Int64} (q : i < 2 ^ 62) (h : (i : Int) ≤ m.toInt) : ¬ 0 < lcmpW (Int64.ofNat i) m := by
  have e := ofJ_int q
  unfold lcmpW
  rw [if_neg]
  · split <;> decide
  · intro z; have := Int64.lt_iff_toInt_lt.mp z; omega
theorem lcW_self (m : Int64) : lcmpW m m = 0 := by
  unfold lcmpW
  rw [if_neg (fun z => by have := Int64.lt_iff_toInt_lt.mp z; omega), if_pos rfl]
/-- 1 << n -/
theorem shlJ {x : Int32} {n : Nat} (h : Ix x n) (hn : n ≤ 62) : ((1 : Int64) <<< (x &&& 0x3f).toInt64).toInt = 2 ^ n := by
  obtain rfl : x = Int32.ofNat n := h.uniq (by omega)
  have : ∀ k : Fin 63, ((1 : Int64) <<< (Int32.ofNat k.val &&& 0x3f).toInt64).toInt = 2 ^ k.val := by decide +kernel
  exact this ⟨n, by omega⟩
section
open Jvm.FP
/-- a double that is a number above 0 -/
def PosOK (x : UInt64) : Prop := cmpValue (FP.dcmp x FP.dconst0) .l = 1 ∧ cmpValue (FP.dcmp x 9218868437227405312) .g = -1
theorem pos_gt {x : UInt64} {C : Nat} {q : Int} (h : Core.val64 x = .fin false C q) (hC : 0 < C) : cmpValue (FP.dcmp x FP.dconst0) .l = 1 := by
  have : FP.dcmp x FP.dconst0 = some .gt := by
    show Core.order (Core.val64 x) (Core.val64 Core.dconst0) = _
    rw [h, Core.val64_dconst0]
    show some (compare ((C * 2 ^ (q - min q Core.b64.qmin).toNat : Nat) : Int) ((0 * 2 ^ (Core.b64.qmin - min q Core.b64.qmin).toNat : Nat) : Int)) = _
    have hp : 0 < C * 2 ^ (q - min q Core.b64.qmin).toNat := Nat.mul_pos hC (Nat.pow_pos (by decide))
    rw [Nat.zero_mul, Int.compare_eq_gt.mpr (by omega)]
  rw [this]; rfl
theorem pos_ok {x : UInt64} {C : Nat} {q : Int} (h : Core.val64 x = .fin false C q) (hC : 0 < C) : PosOK x := by
  refine ⟨pos_gt h hC, ?_⟩
  have hi : Core.val64 9218868437227405312 = .inf false := by decide +kernel
  have : FP.dcmp x 9218868437227405312 = some .lt := by
    show Core.order (Core.val64 x) (Core.val64 9218868437227405312) = _
    rw [h, hi]; rfl
  rw [this]; rfl
theorem pv_pos {x : UInt64} {c : Nat} {e : Int} (h : Core.val64 x = pv c e) (hc : 0 < c) : PosOK x := pos_ok h (Nat.mul_pos hc (Nat.pow_pos (by decide)))
/-- s, s*u, s*u*u, .. -/
def itr (s u : UInt64) : Nat → UInt64
  | 0 => s
  | i + 1 => FP.dmul (itr s u i) u
/-- N turns: above en at each, not above it behind them -/
def Runs (s u en : UInt64) (N : Nat) : Prop := (∀ i, i < N → Jvm.Free.Fl.NoNaN64 (FP.dmul (itr s u i) u) ∧ cmpValue (FP.dcmp (itr s u i) en) .l = 1) ∧ ¬ 0 < cmpValue (FP.dcmp (itr s u N) en) .l
end
end Jvm.Own
namespace Jvm.Own
open Jvm Jvm.ClassFile Sem Op Lib Jvm.Free Jvm.Stand Jvm.LawKit Jvm.RoadKit Bundle
section Fp2
open Jvm.FP
/-- a double that is no NaN, no infinity and not below 0 -/
def Fn (x : UInt64) : Prop := ∃ C q, Core.val64 x = .fin false C q
/-- its value in units of 2^-1074 -/
def Zm (x : UInt64) : Nat := Core.zmag Core.b64 (Core.val64 x)
theorem Fn.nn {x : UInt64} (h : Fn x) : Core.val64 x ≠ .nan := by obtain ⟨C, q, h⟩ := h; rw [h]; exact Core.Datum.noConfusion
theorem Fn.no {x : UInt64} (h : Fn x) : Jvm.Free.Fl.NoNaN64 x := by
  obtain ⟨C, q, h⟩ := h
  refine Jvm.Free.Fl.noNaN64_no.mpr ?_
  have : Core.decode Core.b64 x.toNat = .fin false C q := h
  simp [Core.dIsNaN, Core.isNaN, this]
theorem Fn.cmp {x z : UInt64} (hx : Fn x) (hz : Fn z) : FP.dcmp x z = some (compare (Zm x) (Zm z)) := by
  show Core.order (Core.val64 x) (Core.val64 z) = _
  rw [Core.order_zval Core.good_b64 (Core.val64_fits x) (Core.val64_fits z) hx.nn hz.nn]
  have e1 : Core.zval Core.b64 (Core.val64 x) = (Zm x : Int) := by
    obtain ⟨C, q, h⟩ := hx; unfold Core.zval Zm; rw [h]; rfl
  have e2 : Core.zval Core.b64 (Core.val64 z) = (Zm z : Int) := by
    obtain ⟨C, q, h⟩ := hz; unfold Core.zval Zm; rw [h]; rfl
  rw [e1, e2]
  congr 1
  rcases Nat.lt_trichotomy (Zm x) (Zm z) with q | q | q
  · rw [Int.compare_eq_lt.mpr (by omega), Nat.compare_eq_lt.mpr q]
  · rw [q]; simp
  · rw [Int.compare_eq_gt.mpr (by omega), Nat.compare_eq_gt.mpr q]
theorem Fn.gt {x z : UInt64} (hx : Fn x) (hz : Fn z) : cmpValue (FP.dcmp x z) .l = 1 ↔ Zm z < Zm x := by
  rw [hx.cmp hz]
  rcases Nat.lt_trichotomy (Zm x) (Zm z) with q | q | q
  · rw [Nat.compare_eq_lt.mpr q]; exact ⟨fun h => absurd h (by decide), fun h => by omega⟩
  · rw [Nat.compare_eq_eq.mpr q]; exact ⟨fun h => absurd h (by decide), fun h => by omega⟩
  · rw [Nat.compare_eq_gt.mpr q]; exact ⟨fun _ => q, fun _ => rfl⟩
theorem Fn.ngt {x z : UInt64} (hx : Fn x) (hz : Fn z) (h : ¬ cmpValue (FP.dcmp x z) .l = 1) : ¬ 0 < cmpValue (FP.dcmp x z) .l := by
  rw [hx.cmp hz] at h ⊢
  rcases Nat.lt_trichotomy (Zm x) (Zm z) with q | q | q
  · rw [Nat.compare_eq_lt.mpr q]; decide
  · rw [Nat.compare_eq_eq.mpr q]; decide
  · rw [Nat.compare_eq_gt.mpr q] at h; exact absurd rfl h
theorem Fn.self {x : UInt64} (hx : Fn x) : cmpValue (FP.dcmp x x) .l = 0 := by rw [hx.cmp hx, Nat.compare_eq_eq.mpr rfl]; rfl
theorem Fn.pos {x : UInt64} (hx : Fn x) (h : 0 < Zm x) : PosOK x := by
  obtain ⟨C, q, e⟩ := hx
  refine pos_ok e ?_
  unfold Zm at h
  rw [e] at h
  rcases Nat.eq_zero_or_pos C with z | z
  · subst z; simp [Core.zmag, Core.inUnits] at h
  · exact z
theorem zmag_pv {c : Nat} {e : Int} (e1 : -1000 ≤ e) : Core.zmag Core.b64 (pv c e) = c * 2 ^ (e + 1074).toNat := by
  show (c * 2 ^ (52 - c.log2)) * 2 ^ (e - ((52 - c.log2 : Nat) : Int) - Core.b64.qmin).toNat = _
  rw [qmin64, Nat.mul_assoc, ← Nat.pow_add]
  congr 2; omega
/-- what is rounded and isn't huge is a number -/
theorem fn_of_round {x : UInt64} {A B : Nat} {e : Int} (h : Core.val64 x = Core.roundRatio Core.b64 false A B e) (hz : Zm x < 2 ^ 2000) : Fn x := by
  rcases Core.roundRatio_cases Core.b64 false A B e with ⟨c, q, r⟩ | r
  · exact ⟨c, q, h.trans r⟩
  · exfalso
    unfold Zm at hz
    rw [h, r] at hz
    exact absurd hz (by show ¬ (Core.b64.tails * 2 ^ (Core.b64.exps - 2) < 2 ^ 2000); decide +kernel)
theorem quo_val {a b : Int32} {p q : Nat} (ha : Ix a p) (hb : Ix b q) (hp : 0 < p) (hq : 0 < q) (hp2 : p < 2 ^ 53) (hq2 : q < 2 ^ 53) : Core.val64 (FP.ddiv (FP.i2d a) (FP.i2d b)) = Core.roundRatio Core.b64 false p q 0 := by
  show Core.val64 (Core.ddiv _ _) = _
  rw [Core.val64_ddiv, pv_i2d ha hp hp2, pv_i2d hb hq hq2]
  unfold pv
  generalize hj : 52 - p.log2 = j
  generalize hk : 52 - q.log2 = k
  have h0 : q * 2 ^ k ≠ 0 := Nat.ne_of_gt (Nat.mul_pos hq (Nat.pow_pos (by decide)))
  show (if q * 2 ^ k = 0 then (if p * 2 ^ j = 0 then Core.Datum.nan else Core.Datum.inf (false != false)) else Core.roundRatio Core.b64 (false != false) (p * 2 ^ j) (q * 2 ^ k) (0 - (j : Int) - (0 - (k : Int)))) = _
  rw [if_neg h0]
  refine Core.roundRatio_congr (Nat.pos_of_ne_zero h0) hq ?_
  rcases Nat.le_total j k with z | z
  · rw [show (0 - (j : Int) - (0 - (k : Int)) - 0).toNat = k - j from by omega, show (0 - (0 - (j : Int) - (0 - (k : Int)))).toNat = 0 from by omega]
    have : 2 ^ k = 2 ^ j * 2 ^ (k - j) := by rw [← Nat.pow_add]; congr 1; omega
    rw [this]; simp only [Nat.pow_zero, Nat.mul_one]; ac_rfl
  · rw [show (0 - (j : Int) - (0 - (k : Int)) - 0).toNat = 0 from by omega, show (0 - (0 - (j : Int) - (0 - (k : Int)))).toNat = j - k from by omega]
    have : 2 ^ j = 2 ^ k * 2 ^ (j - k) := by rw [← Nat.pow_add]; congr 1; omega
    rw [this]; simp only [Nat.pow_zero, Nat.mul_one]; ac_rfl
theorem quo_le {x : UInt64} {p q c : Nat} {e : Int} (h : Core.val64 x = Core.roundRatio Core.b64 false p q 0) (hq : 0 < q) (hc : 0 < c) (h2 : c < 2 ^ 53) (e1 : -1000 ≤ e) (e2 : e ≤ 900) (hl : p * 2 ^ 1074 ≤ c * 2 ^ (e + 1074).toNat * q) : Zm x ≤ c * 2 ^ (e + 1074).toNat := by
  unfold Zm
  rw [h, ← zmag_pv e1]
  refine Core.zmag_roundRatio_le Core.good_b64 hq (pv_fits hc h2 e1 e2) (by unfold pv; exact Core.Datum.noConfusion) (e0 := Core.b64.qmin) (Int.le_refl _) (by rw [qmin64]; decide) ?_
  rw [zmag_pv e1, Int.sub_self]
  show p * 2 ^ (0 - Core.b64.qmin).toNat ≤ _
  rw [qmin64]
  simpa using hl
theorem quo_ge {x : UInt64} {p q c : Nat} {e : Int} (h : Core.val64 x = Core.roundRatio Core.b64 false p q 0) (hq : 0 < q) (hc : 0 < c) (h2 : c < 2 ^ 53) (e1 : -1000 ≤ e) (e2 : e ≤ 900) (hl : c * 2 ^ (e + 1074).toNat * q ≤ p * 2 ^ 1074) : c * 2 ^ (e + 1074).toNat ≤ Zm x := by
  unfold Zm
  rw [h, ← zmag_pv e1]
  refine Core.zmag_roundRatio_ge Core.good_b64 hq (pv_fits hc h2 e1 e2) (e0 := Core.b64.qmin) (Int.le_refl _) (by rw [qmin64]; decide) ?_
  rw [zmag_pv e1, Int.sub_self]
  show _ ≤ p * 2 ^ (0 - Core.b64.qmin).toNat
  rw [qmin64]
  simpa using hl
/-- one turn: the product is at most 61/64 of the number -/
theorem turn {x u : UInt64} (hx : Fn x) (hu : Fn u) (x1 : 2 ^ 1060 ≤ Zm x) (x2 : Zm x ≤ 2 ^ 1100) (u2 : Zm u ≤ 121 * 2 ^ 1067) : Fn (FP.dmul x u) ∧ 64 * Zm (FP.dmul x u) ≤ 61 * Zm x := by
  obtain ⟨C, Q, ex⟩ := hx
  obtain ⟨D, R, eu⟩ := hu
  have fx := Core.val64_fits x
  have fu := Core.val64_fits u
  have zx : Zm x = C * 2 ^ (Q - Core.b64.qmin).toNat := by unfold Zm; rw [ex]; rfl
  rw [ex] at fx
  rw [eu] at fu
  obtain ⟨-, p2, p3⟩ := Core.product_units fx fu
  obtain ⟨c1, c2, c3, c4⟩ := fx
  have c1' : C < 2 ^ 53 := c1
  rw [qmin64] at c2 c4 zx
  rw [qmax64] at c3
  have hQ : Q ≠ -1074 := fun z => by
    rw [z] at zx
    have : (2 : Nat) ^ 53 ≤ 2 ^ 1060 := Nat.pow_le_pow_right (by decide) (by decide)
    simp at zx
    omega
  have hC : 2 ^ 52 ≤ C := by rcases c4 with z | z; exact absurd z hQ; exact z
  have hQ1 : -1000 ≤ Q := by
    refine Classical.byContradiction fun z => ?_
    have h1 : (Q - -1074).toNat ≤ 74 := by omega
    have h2 : C * 2 ^ (Q - -1074).toNat ≤ 2 ^ 53 * 2 ^ 74 := Nat.mul_le_mul (Nat.le_of_lt c1') (Nat.pow_le_pow_right (by decide) h1)
    have h3 : (2 : Nat) ^ 53 * 2 ^ 74 < 2 ^ 1060 := by decide +kernel
    omega
  have hQ2 : Q ≤ 900 := by
    refine Classical.byContradiction fun z => ?_
    have h1 : 1974 ≤ (Q - -1074).toNat := by omega
    have h2 : 2 ^ 52 * 2 ^ 1974 ≤ C * 2 ^ (Q - -1074).toNat := Nat.mul_le_mul hC (Nat.pow_le_pow_right (by decide) h1)
    have h3 : (2 : Nat) ^ 1100 < 2 ^ 52 * 2 ^ 1974 := by decide +kernel
    omega
  have ev : Core.val64 (FP.dmul x u) = Core.roundRatio Core.b64 false (C * D) 1 (Q + R) := by
    show Core.val64 (Core.dmul x u) = _
    rw [Core.val64_dmul, ex, eu]; rfl
  have d1 := Nat.div_add_mod (C * 121) 128
  have d2 := Nat.mod_lt (C * 121) (show 128 > 0 by decide)
  generalize hv : C * 121 / 128 + 1 = v
  have v1 : C * 121 ≤ 128 * v := by omega
  have v2 : 64 * v ≤ 61 * C := by omega
  have v3 : v < 2 ^ 53 := by omega
  have v4 : 0 < v := by omega
  have hz : Zm (FP.dmul x u) ≤ v * 2 ^ (Q + 1074).toNat := by
    unfold Zm
    rw [ev, ← zmag_pv hQ1]
    refine Core.zmag_roundRatio_le Core.good_b64 (by decide) (pv_fits v4 v3 hQ1 hQ2) (by unfold pv; exact Core.Datum.noConfusion) (e0 := 2 * Core.b64.qmin) (by rw [qmin64]; decide) p2 ?_
    rw [p3, zmag_pv hQ1, Nat.mul_one]
    show Core.inUnits C Q Core.b64.qmin * _ ≤ _
    have hzu : Core.zmag Core.b64 (.fin false D R) ≤ 121 * 2 ^ 1067 := by rw [← eu]; exact u2
    rw [show (Core.b64.qmin - 2 * Core.b64.qmin).toNat = 1074 from by rw [qmin64]; decide]
    have e1 : Core.inUnits C Q Core.b64.qmin = C * 2 ^ (Q + 1074).toNat := by
      show C * 2 ^ (Q - Core.b64.qmin).toNat = _
      rw [qmin64, show (Q - -1074).toNat = (Q + 1074).toNat from by omega]
    rw [e1]
    have hE : 128 * (2 : Nat) ^ 1067 = 2 ^ 1074 := by rw [show (128 : Nat) = 2 ^ 7 from rfl, ← Nat.pow_add]
    rw [← hE]
    generalize (2 : Nat) ^ 1067 = E at hzu
    generalize 2 ^ (Q + 1074).toNat = W
    calc C * W * Core.zmag Core.b64 (.fin false D R) ≤ C * W * (121 * E) := Nat.mul_le_mul_left _ hzu
      _ = (C * 121) * W * E := by ac_rfl
      _ ≤ (128 * v) * W * E := Nat.mul_le_mul_right _ (Nat.mul_le_mul_right _ v1)
      _ = v * W * (128 * E) := by ac_rfl
  have hle : 64 * Zm (FP.dmul x u) ≤ 61 * Zm x := by
    rw [zx, show (Q - -1074).toNat = (Q + 1074).toNat from by omega]
    generalize 2 ^ (Q + 1074).toNat = W at hz
    calc 64 * Zm (FP.dmul x u) ≤ 64 * (v * W) := Nat.mul_le_mul_left _ hz
      _ = (64 * v) * W := by ac_rfl
      _ ≤ (61 * C) * W := Nat.mul_le_mul_right _ v2
      _ = 61 * (C * W) := by ac_rfl
  refine ⟨fn_of_round ev ?_, hle⟩
  have : (2 : Nat) ^ 1100 < 2 ^ 2000 := Nat.pow_lt_pow_right (by decide) (by decide)
  omega
theorem runs_inv {s u en : UInt64} (hs : Fn s) (hu : Fn u) (he : Fn en) (s2 : Zm s ≤ 2 ^ 1094) (e1 : 2 ^ 1066 ≤ Zm en) (u2 : Zm u ≤ 121 * 2 ^ 1067) : ∀ i, (∀ j, j < i → cmpValue (FP.dcmp (itr s u j) en) .l = 1) → Fn (itr s u i) ∧ Zm (itr s u i) ≤ 2 ^ 1094 ∧ 64 ^ i * Zm (itr s u i) ≤ 61 ^ i * Zm s
  | 0, _ => ⟨hs, s2, by simp [itr]⟩
  | i + 1, h => by
    obtain ⟨a, b, c⟩ := runs_inv hs hu he s2 e1 u2 i (fun j hj => h j (by omega))
    have g := (a.gt he).mp (h i (by omega))
    have q1 : (2 : Nat) ^ 1060 ≤ 2 ^ 1066 := Nat.pow_le_pow_right (by decide) (by decide)
    have q2 : (2 : Nat) ^ 1094 ≤ 2 ^ 1100 := Nat.pow_le_pow_right (by decide) (by decide)
    obtain ⟨t1, t2⟩ := turn a hu (by omega) (by omega) u2
    refine ⟨t1, ?_, ?_⟩
    · show Zm (FP.dmul (itr s u i) u) ≤ _
      omega
    · show 64 ^ (i + 1) * Zm (FP.dmul (itr s u i) u) ≤ _
      calc 64 ^ (i + 1) * Zm (FP.dmul (itr s u i) u) = 64 ^ i * (64 * Zm (FP.dmul (itr s u i) u)) := by rw [Nat.pow_succ]; ac_rfl
        _ ≤ 64 ^ i * (61 * Zm (itr s u i)) := Nat.mul_le_mul_left _ t2
        _ = 61 * (64 ^ i * Zm (itr s u i)) := by ac_rfl
        _ ≤ 61 * (61 ^ i * Zm s) := Nat.mul_le_mul_left _ c
        _ = 61 ^ (i + 1) * Zm s := by rw [Nat.pow_succ]; ac_rfl
theorem runs_ex {s u en : UInt64} (hs : Fn s) (hu : Fn u) (he : Fn en) (s2 : Zm s ≤ 2 ^ 1094) (e1 : 2 ^ 1066 ≤ Zm en) (u2 : Zm u ≤ 121 * 2 ^ 1067) : ∃ N, N ≤ 1000 ∧ Runs s u en N := by
  have key : ∀ n, (∀ j, j < n → cmpValue (FP.dcmp (itr s u j) en) .l = 1) ∨ ∃ N, N < n ∧ Runs s u en N := by
    intro n
    induction n with
    | zero => exact Or.inl fun j hj => absurd hj (Nat.not_lt_zero _)
    | succ n ih =>
      rcases ih with ih | ⟨N, h1, h2⟩
      · obtain ⟨a, b, c⟩ := runs_inv hs hu he s2 e1 u2 n ih
        by_cases g : cmpValue (FP.dcmp (itr s u n) en) .l = 1
        · refine Or.inl fun j hj => ?_
          rcases Nat.lt_succ_iff_lt_or_eq.mp hj with hj | rfl
          · exact ih j hj
          · exact g
        · refine Or.inr ⟨n, by omega, fun i hi => ⟨?_, ih i hi⟩, a.ngt he g⟩
          obtain ⟨a', -, -⟩ := runs_inv hs hu he s2 e1 u2 (i + 1) (fun j hj => ih j (by omega))
          exact a'.no
      · exact Or.inr ⟨N, by omega, h2⟩
  rcases key 1001 with h | ⟨N, h1, h2⟩
  · exfalso
    obtain ⟨a, b, c⟩ := runs_inv hs hu he s2 e1 u2 1000 (fun j hj => h j (by omega))
    have g := (a.gt he).mp (h 1000 (by omega))
    have z1 : 64 ^ 1000 * 2 ^ 1066 ≤ 61 ^ 1000 * 2 ^ 1094 := by
      calc 64 ^ 1000 * 2 ^ 1066 ≤ 64 ^ 1000 * Zm (itr s u 1000) := Nat.mul_le_mul_left _ (by omega)
        _ ≤ 61 ^ 1000 * Zm s := c
        _ ≤ _ := Nat.mul_le_mul_left _ s2
    exact absurd z1 (by decide +kernel)
  · exact ⟨N, by omega, h2⟩
end Fp2
end Jvm.Own
namespace Jvm.Pilot.@@N@@
open Jvm Jvm.ClassFile Sem Op Lib Jvm.Free Jvm.Stand Jvm.LawKit Jvm.RoadKit Bundle Jvm.Own Jvm.Pilot.@@N@@.Jvm.D
theorem own_EW {Z : State} {a0 : Array Value} (hw : ∀ d ∈ tables_1, d.before a0 Z = true) : EW Z a0 [] := EW.nil
theorem own_wS {Z : State} {a0 : Array Value} (hw : ∀ d ∈ tables_1, d.before a0 Z = true) : ∀ a ∈ Bundle.stringAtoms, a.before a0 Z = true := by
  intro d hd
  simp only [Bundle.stringAtoms, List.mem_cons, List.not_mem_nil, or_false] at hd
  rcases hd with rfl | rfl | rfl | rfl | rfl | rfl | rfl
  · exact (hw _ (List.mem_of_getElem? (i := 20) rfl))
  · exact (hw _ (List.mem_of_getElem? (i := 21) rfl))
  · exact (hw _ (List.mem_of_getElem? (i := 22) rfl))
  · exact (hw _ (List.mem_of_getElem? (i := 23) rfl))
  · exact (hw _ (List.mem_of_getElem? (i := 24) rfl))
  · exact (hw _ (List.mem_of_getElem? (i := 25) rfl))
  · exact (hw _ (List.mem_of_getElem? (i := 26) rfl))
theorem pd_0 : parseMethodDescriptor "(DDD)Lcom/example/annealink/annealink/AnnealingSchedule;" = some ⟨[.double, .double, .double], some (.object "com/example/annealink/annealink/AnnealingSchedule")⟩ := by decide +kernel
theorem pd_1 : parseMethodDescriptor "(DDDDII)V" = some ⟨[.double, .double, .double, .double, .int, .int], none⟩ := by decide +kernel
theorem pd_2 : parseMethodDescriptor "()V" = some ⟨[], none⟩ := by decide +kernel
theorem pd_3 : parseMethodDescriptor "(Ljava/lang/String;D)V" = some ⟨[(.object "java/lang/String"), .double], none⟩ := by decide +kernel
theorem pd_4 : parseMethodDescriptor "(DDDJ)J" = some ⟨[.double, .double, .double, .long], some .long⟩ := by decide +kernel
theorem pd_5 : parseMethodDescriptor "()D" = some ⟨[], some .double⟩ := by decide +kernel
theorem pd_6 : parseMethodDescriptor "()I" = some ⟨[], some .int⟩ := by decide +kernel
theorem d0_0 : D1 code 0 (.iload_n 0) 1 1 := ⟨at_0, rfl⟩
theorem d0_1 : D1 code 1 (.ldc 7) 2 3 := ⟨at_1, rfl⟩
theorem d0_3 : D1 code 3 (.iand) 1 4 := ⟨at_3, rfl⟩
theorem d0_4 : D1 code 4 (.iconst 1) 1 5 := ⟨at_4, rfl⟩
theorem d0_5 : D1 code 5 (.iadd) 1 6 := ⟨at_5, rfl⟩
theorem d0_6 : D1 code 6 (.i2d) 1 7 := ⟨at_6, rfl⟩
theorem d0_7 : D1 code 7 (.iload_n 3) 1 8 := ⟨at_7, rfl⟩
theorem d0_8 : D1 code 8 (.sipush 255) 3 11 := ⟨at_8, rfl⟩
theorem d0_11 : D1 code 11 (.iand) 1 12 := ⟨at_11, rfl⟩
theorem d0_12 : D1 code 12 (.iconst 1) 1 13 := ⟨at_12, rfl⟩
theorem d0_13 : D1 code 13 (.iadd) 1 14 := ⟨at_13, rfl⟩
theorem d0_14 : D1 code 14 (.i2d) 1 15 := ⟨at_14, rfl⟩
theorem d0_15 : D1 code 15 (.ddiv) 1 16 := ⟨at_15, rfl⟩
theorem d0_16 : D1 code 16 (.dstore 5) 2 18 := ⟨at_16, rfl⟩
theorem d0_18 : D1 code 18 (.iload_n 1) 1 19 := ⟨at_18, rfl⟩
theorem d0_19 : D1 code 19 (.ldc 7) 2 21 := ⟨at_19, rfl⟩
theorem d0_21 : D1 code 21 (.iand) 1 22 := ⟨at_21, rfl⟩
theorem d0_22 : D1 code 22 (.iconst 1) 1 23 := ⟨at_22, rfl⟩
theorem d0_23 : D1 code 23 (.iadd) 1 24 := ⟨at_23, rfl⟩
theorem d0_24 : D1 code 24 (.i2d) 1 25 := ⟨at_24, rfl⟩
theorem d0_25 : D1 code 25 (.iload 4) 2 27 := ⟨at_25, rfl⟩
theorem d0_27 : D1 code 27 (.sipush 255) 3 30 := ⟨at_27, rfl⟩
theorem d0_30 : D1 code 30 (.iand) 1 31 := ⟨at_30, rfl⟩
theorem d0_31 : D1 code 31 (.iconst 1) 1 32 := ⟨at_31, rfl⟩
theorem d0_32 : D1 code 32 (.iadd) 1 33 := ⟨at_32, rfl⟩
theorem d0_33 : D1 code 33 (.i2d) 1 34 := ⟨at_33, rfl⟩
theorem d0_34 : D1 code 34 (.ddiv) 1 35 := ⟨at_34, rfl⟩
theorem d0_35 : D1 code 35 (.dstore 7) 2 37 := ⟨at_35, rfl⟩
theorem d0_37 : D1 code 37 (.iload_n 2) 1 38 := ⟨at_37, rfl⟩
theorem d0_38 : D1 code 38 (.bipush 15) 2 40 := ⟨at_38, rfl⟩
theorem d0_40 : D1 code 40 (.iand) 1 41 := ⟨at_40, rfl⟩
theorem d0_41 : D1 code 41 (.iconst 1) 1 42 := ⟨at_41, rfl⟩
theorem d0_42 : D1 code 42 (.iadd) 1 43 := ⟨at_42, rfl⟩
theorem d0_43 : D1 code 43 (.istore 9) 2 45 := ⟨at_43, rfl⟩
theorem d0_45 : D1 code 45 (.iload 9) 2 47 := ⟨at_45, rfl⟩
theorem d0_47 : D1 code 47 (.i2d) 1 48 := ⟨at_47, rfl⟩
theorem d0_48 : D1 code 48 (.iload 9) 2 50 := ⟨at_48, rfl⟩
theorem d0_50 : D1 code 50 (.iconst 1) 1 51 := ⟨at_50, rfl⟩
theorem d0_51 : D1 code 51 (.iadd) 1 52 := ⟨at_51, rfl⟩
theorem d0_52 : D1 code 52 (.i2d) 1 53 := ⟨at_52, rfl⟩
theorem d0_53 : D1 code 53 (.ddiv) 1 54 := ⟨at_53, rfl⟩
theorem d0_54 : D1 code 54 (.dstore 10) 2 56 := ⟨at_54, rfl⟩
theorem d0_56 : D1 code 56 (.dload 5) 2 58 := ⟨at_56, rfl⟩
theorem d0_58 : D1 code 58 (.dload 7) 2 60 := ⟨at_58, rfl⟩
theorem d0_60 : D1 code 60 (.dload 10) 2 62 := ⟨at_60, rfl⟩
theorem d0_62 : D1 code 62 (.invokestatic 8) 3 65 := ⟨at_62, rfl⟩
theorem d0_65 : D1 code 65 (.astore 12) 2 67 := ⟨at_65, rfl⟩
theorem d0_67 : D1 code 67 (.aload 12) 2 69 := ⟨at_67, rfl⟩
theorem d0_69 : D1 code 69 (.invokevirtual 14) 3 72 := ⟨at_69, rfl⟩
theorem d0_72 : D1 code 72 (.dload 5) 2 74 := ⟨at_72, rfl⟩
theorem d0_74 : D1 code 74 (.dcmp .l) 1 75 := ⟨at_74, rfl⟩
theorem d0_75 : DJ code 75 (.ifCond .ne) 63 78 138 := ⟨at_75, rfl, rfl⟩
theorem d0_78 : D1 code 78 (.aload 12) 2 80 := ⟨at_78, rfl⟩
theorem d0_80 : D1 code 80 (.invokevirtual 18) 3 83 := ⟨at_80, rfl⟩
theorem d0_83 : D1 code 83 (.dload 7) 2 85 := ⟨at_83, rfl⟩
theorem d0_85 : D1 code 85 (.dcmp .l) 1 86 := ⟨at_85, rfl⟩
theorem d0_86 : DJ code 86 (.ifCond .ne) 52 89 138 := ⟨at_86, rfl, rfl⟩
theorem d0_89 : D1 code 89 (.aload 12) 2 91 := ⟨at_89, rfl⟩
theorem d0_91 : D1 code 91 (.invokevirtual 21) 3 94 := ⟨at_91, rfl⟩
theorem d0_94 : D1 code 94 (.dload 10) 2 96 := ⟨at_94, rfl⟩
theorem d0_96 : D1 code 96 (.dcmp .l) 1 97 := ⟨at_96, rfl⟩
theorem d0_97 : DJ code 97 (.ifCond .ne) 41 100 138 := ⟨at_97, rfl, rfl⟩
theorem d0_100 : D1 code 100 (.aload 12) 2 102 := ⟨at_100, rfl⟩
theorem d0_102 : D1 code 102 (.invokevirtual 24) 3 105 := ⟨at_102, rfl⟩
theorem d0_105 : D1 code 105 (.ldc2_w 27) 3 108 := ⟨at_105, rfl⟩
theorem d0_108 : D1 code 108 (.dcmp .l) 1 109 := ⟨at_108, rfl⟩
theorem d0_109 : DJ code 109 (.ifCond .ne) 29 112 138 := ⟨at_109, rfl, rfl⟩
theorem d0_112 : D1 code 112 (.aload 12) 2 114 := ⟨at_112, rfl⟩
theorem d0_114 : D1 code 114 (.invokevirtual 29) 3 117 := ⟨at_114, rfl⟩
theorem d0_117 : D1 code 117 (.sipush 500) 3 120 := ⟨at_117, rfl⟩
theorem d0_120 : DJ code 120 (.if_icmp .ne) 18 123 138 := ⟨at_120, rfl, rfl⟩
theorem d0_123 : D1 code 123 (.aload 12) 2 125 := ⟨at_123, rfl⟩
theorem d0_125 : D1 code 125 (.invokevirtual 33) 3 128 := ⟨at_125, rfl⟩
theorem d0_128 : D1 code 128 (.sipush 5000) 3 131 := ⟨at_128, rfl⟩
theorem d0_131 : DJ code 131 (.if_icmp .ne) 7 134 138 := ⟨at_131, rfl, rfl⟩
theorem d0_134 : D1 code 134 (.iconst 1) 1 135 := ⟨at_134, rfl⟩
theorem d0_135 : DJ code 135 .goto 4 138 139 := ⟨at_135, rfl, rfl⟩
theorem d0_138 : D1 code 138 (.iconst 0) 1 139 := ⟨at_138, rfl⟩
theorem d0_139 : D1 code 139 (.ireturn) 1 140 := ⟨at_139, rfl⟩
theorem d1_0 : D1 prog_1_method_2_code 0 (.new 10) 3 3 := ⟨by decide +kernel, rfl⟩
theorem d1_3 : D1 prog_1_method_2_code 3 (.dup) 1 4 := ⟨by decide +kernel, rfl⟩
theorem d1_4 : D1 prog_1_method_2_code 4 (.dload_n 0) 1 5 := ⟨by decide +kernel, rfl⟩
theorem d1_5 : D1 prog_1_method_2_code 5 (.dload_n 2) 1 6 := ⟨by decide +kernel, rfl⟩
theorem d1_6 : D1 prog_1_method_2_code 6 (.dload 4) 2 8 := ⟨by decide +kernel, rfl⟩
theorem d1_8 : D1 prog_1_method_2_code 8 (.ldc2_w 62) 3 11 := ⟨by decide +kernel, rfl⟩
theorem d1_11 : D1 prog_1_method_2_code 11 (.sipush 500) 3 14 := ⟨by decide +kernel, rfl⟩
theorem d1_14 : D1 prog_1_method_2_code 14 (.sipush 5000) 3 17 := ⟨by decide +kernel, rfl⟩
theorem d1_17 : D1 prog_1_method_2_code 17 (.invokespecial 64) 3 20 := ⟨by decide +kernel, rfl⟩
theorem d1_20 : D1 prog_1_method_2_code 20 (.areturn) 1 21 := ⟨by decide +kernel, rfl⟩
theorem d2_0 : D1 prog_1_method_1_code 0 (.aload_n 0) 1 1 := ⟨by decide +kernel, rfl⟩
theorem d2_1 : D1 prog_1_method_1_code 1 (.invokespecial 1) 3 4 := ⟨by decide +kernel, rfl⟩
theorem d2_4 : D1 prog_1_method_1_code 4 (.ldc 7) 2 6 := ⟨by decide +kernel, rfl⟩
theorem d2_6 : D1 prog_1_method_1_code 6 (.dload_n 1) 1 7 := ⟨by decide +kernel, rfl⟩
theorem d2_7 : D1 prog_1_method_1_code 7 (.invokestatic 9) 3 10 := ⟨by decide +kernel, rfl⟩
theorem d2_10 : D1 prog_1_method_1_code 10 (.ldc 15) 2 12 := ⟨by decide +kernel, rfl⟩
theorem d2_12 : D1 prog_1_method_1_code 12 (.dload_n 3) 1 13 := ⟨by decide +kernel, rfl⟩
theorem d2_13 : D1 prog_1_method_1_code 13 (.invokestatic 9) 3 16 := ⟨by decide +kernel, rfl⟩
theorem d2_16 : D1 prog_1_method_1_code 16 (.dload 5) 2 18 := ⟨by decide +kernel, rfl⟩
theorem d2_18 : D1 prog_1_method_1_code 18 (.dconst 0) 1 19 := ⟨by decide +kernel, rfl⟩
theorem d2_19 : D1 prog_1_method_1_code 19 (.dcmp .l) 1 20 := ⟨by decide +kernel, rfl⟩
theorem d2_20 : DJ prog_1_method_1_code 20 (.ifCond .le) 10 23 30 := ⟨by decide +kernel, rfl, rfl⟩
theorem d2_23 : D1 prog_1_method_1_code 23 (.dload 5) 2 25 := ⟨by decide +kernel, rfl⟩
theorem d2_25 : D1 prog_1_method_1_code 25 (.dconst 1) 1 26 := ⟨by decide +kernel, rfl⟩
theorem d2_26 : D1 prog_1_method_1_code 26 (.dcmp .g) 1 27 := ⟨by decide +kernel, rfl⟩
theorem d2_27 : DJ prog_1_method_1_code 27 (.ifCond .lt) 18 30 45 := ⟨by decide +kernel, rfl, rfl⟩
theorem d2_30 : D1 prog_1_method_1_code 30 (.new 17) 3 33 := ⟨by decide +kernel, rfl⟩
theorem d2_33 : D1 prog_1_method_1_code 33 (.dup) 1 34 := ⟨by decide +kernel, rfl⟩
theorem d2_34 : D1 prog_1_method_1_code 34 (.dload 5) 2 36 := ⟨by decide +kernel, rfl⟩
theorem d2_36 : D1 prog_1_method_1_code 36 (.invokedynamic 19) 5 41 := ⟨by decide +kernel, rfl⟩
theorem d2_41 : D1 prog_1_method_1_code 41 (.invokespecial 23) 3 44 := ⟨by decide +kernel, rfl⟩
theorem d2_44 : D1 prog_1_method_1_code 44 (.athrow) 1 45 := ⟨by decide +kernel, rfl⟩
theorem d2_45 : D1 prog_1_method_1_code 45 (.dload_n 1) 1 46 := ⟨by decide +kernel, rfl⟩
theorem d2_46 : D1 prog_1_method_1_code 46 (.dload_n 3) 1 47 := ⟨by decide +kernel, rfl⟩
theorem d2_47 : D1 prog_1_method_1_code 47 (.dload 5) 2 49 := ⟨by decide +kernel, rfl⟩
theorem d2_49 : D1 prog_1_method_1_code 49 (.ldc2_w 26) 3 52 := ⟨by decide +kernel, rfl⟩
theorem d2_52 : D1 prog_1_method_1_code 52 (.invokestatic 28) 3 55 := ⟨by decide +kernel, rfl⟩
theorem d2_55 : D1 prog_1_method_1_code 55 (.ldc2_w 32) 3 58 := ⟨by decide +kernel, rfl⟩
theorem d2_58 : D1 prog_1_method_1_code 58 (.lcmp) 1 59 := ⟨by decide +kernel, rfl⟩
theorem d2_59 : DJ prog_1_method_1_code 59 (.ifCond .le) 20 62 79 := ⟨by decide +kernel, rfl, rfl⟩
theorem d2_62 : D1 prog_1_method_1_code 62 (.new 17) 3 65 := ⟨by decide +kernel, rfl⟩
theorem d2_65 : D1 prog_1_method_1_code 65 (.dup) 1 66 := ⟨by decide +kernel, rfl⟩
theorem d2_66 : D1 prog_1_method_1_code 66 (.dload_n 1) 1 67 := ⟨by decide +kernel, rfl⟩
theorem d2_67 : D1 prog_1_method_1_code 67 (.dload_n 3) 1 68 := ⟨by decide +kernel, rfl⟩
theorem d2_68 : D1 prog_1_method_1_code 68 (.dload 5) 2 70 := ⟨by decide +kernel, rfl⟩
theorem d2_70 : D1 prog_1_method_1_code 70 (.invokedynamic 34) 5 75 := ⟨by decide +kernel, rfl⟩
theorem d2_75 : D1 prog_1_method_1_code 75 (.invokespecial 23) 3 78 := ⟨by decide +kernel, rfl⟩
theorem d2_78 : D1 prog_1_method_1_code 78 (.athrow) 1 79 := ⟨by decide +kernel, rfl⟩
theorem d2_79 : D1 prog_1_method_1_code 79 (.ldc 37) 2 81 := ⟨by decide +kernel, rfl⟩
theorem d2_81 : D1 prog_1_method_1_code 81 (.dload 7) 2 83 := ⟨by decide +kernel, rfl⟩
theorem d2_83 : D1 prog_1_method_1_code 83 (.invokestatic 9) 3 86 := ⟨by decide +kernel, rfl⟩
theorem d2_86 : D1 prog_1_method_1_code 86 (.iload 9) 2 88 := ⟨by decide +kernel, rfl⟩
theorem d2_88 : D1 prog_1_method_1_code 88 (.iconst 1) 1 89 := ⟨by decide +kernel, rfl⟩
theorem d2_89 : DJ prog_1_method_1_code 89 (.if_icmp .lt) 10 92 99 := ⟨by decide +kernel, rfl, rfl⟩
theorem d2_92 : D1 prog_1_method_1_code 92 (.iload 10) 2 94 := ⟨by decide +kernel, rfl⟩
theorem d2_94 : D1 prog_1_method_1_code 94 (.iload 9) 2 96 := ⟨by decide +kernel, rfl⟩
theorem d2_96 : DJ prog_1_method_1_code 96 (.if_icmp .ge) 20 99 116 := ⟨by decide +kernel, rfl, rfl⟩
theorem d2_99 : D1 prog_1_method_1_code 99 (.new 17) 3 102 := ⟨by decide +kernel, rfl⟩
theorem d2_102 : D1 prog_1_method_1_code 102 (.dup) 1 103 := ⟨by decide +kernel, rfl⟩
theorem d2_103 : D1 prog_1_method_1_code 103 (.iload 9) 2 105 := ⟨by decide +kernel, rfl⟩
theorem d2_105 : D1 prog_1_method_1_code 105 (.iload 10) 2 107 := ⟨by decide +kernel, rfl⟩
theorem d2_107 : D1 prog_1_method_1_code 107 (.invokedynamic 39) 5 112 := ⟨by decide +kernel, rfl⟩
theorem d2_112 : D1 prog_1_method_1_code 112 (.invokespecial 23) 3 115 := ⟨by decide +kernel, rfl⟩
theorem d2_115 : D1 prog_1_method_1_code 115 (.athrow) 1 116 := ⟨by decide +kernel, rfl⟩
theorem d2_116 : D1 prog_1_method_1_code 116 (.aload_n 0) 1 117 := ⟨by decide +kernel, rfl⟩
theorem d2_117 : D1 prog_1_method_1_code 117 (.dload_n 1) 1 118 := ⟨by decide +kernel, rfl⟩
theorem d2_118 : D1 prog_1_method_1_code 118 (.putfield 42) 3 121 := ⟨by decide +kernel, rfl⟩
theorem d2_121 : D1 prog_1_method_1_code 121 (.aload_n 0) 1 122 := ⟨by decide +kernel, rfl⟩
theorem d2_122 : D1 prog_1_method_1_code 122 (.dload_n 3) 1 123 := ⟨by decide +kernel, rfl⟩
theorem d2_123 : D1 prog_1_method_1_code 123 (.putfield 46) 3 126 := ⟨by decide +kernel, rfl⟩
theorem d2_126 : D1 prog_1_method_1_code 126 (.aload_n 0) 1 127 := ⟨by decide +kernel, rfl⟩
theorem d2_127 : D1 prog_1_method_1_code 127 (.dload 5) 2 129 := ⟨by decide +kernel, rfl⟩
theorem d2_129 : D1 prog_1_method_1_code 129 (.putfield 49) 3 132 := ⟨by decide +kernel, rfl⟩
theorem d2_132 : D1 prog_1_method_1_code 132 (.aload_n 0) 1 133 := ⟨by decide +kernel, rfl⟩
theorem d2_133 : D1 prog_1_method_1_code 133 (.dload 7) 2 135 := ⟨by decide +kernel, rfl⟩
theorem d2_135 : D1 prog_1_method_1_code 135 (.putfield 52) 3 138 := ⟨by decide +kernel, rfl⟩
theorem d2_138 : D1 prog_1_method_1_code 138 (.aload_n 0) 1 139 := ⟨by decide +kernel, rfl⟩
theorem d2_139 : D1 prog_1_method_1_code 139 (.iload 9) 2 141 := ⟨by decide +kernel, rfl⟩
theorem d2_141 : D1 prog_1_method_1_code 141 (.putfield 55) 3 144 := ⟨by decide +kernel, rfl⟩
theorem d2_144 : D1 prog_1_method_1_code 144 (.aload_n 0) 1 145 := ⟨by decide +kernel, rfl⟩
theorem d2_145 : D1 prog_1_method_1_code 145 (.iload 10) 2 147 := ⟨by decide +kernel, rfl⟩
theorem d2_147 : D1 prog_1_method_1_code 147 (.putfield 59) 3 150 := ⟨by decide +kernel, rfl⟩
theorem d2_150 : D1 prog_1_method_1_code 150 (.return_) 1 151 := ⟨by decide +kernel, rfl⟩
theorem d3_0 : D1 jdk_30_method_1_code 0 (.aload_n 0) 1 1 := ⟨by decide +kernel, rfl⟩
theorem d3_1 : D1 jdk_30_method_1_code 1 (.invokespecial 1) 3 4 := ⟨by decide +kernel, rfl⟩
theorem d3_4 : D1 jdk_30_method_1_code 4 (.return_) 1 5 := ⟨by decide +kernel, rfl⟩
theorem d4_0 : D1 object_method_1_code 0 (.return_) 1 1 := ⟨by decide +kernel, rfl⟩
theorem d5_0 : D1 prog_1_method_5_code 0 (.dload_n 1) 1 1 := ⟨by decide +kernel, rfl⟩
theorem d5_1 : D1 prog_1_method_5_code 1 (.dconst 0) 1 2 := ⟨by decide +kernel, rfl⟩
theorem d5_2 : D1 prog_1_method_5_code 2 (.dcmp .l) 1 3 := ⟨by decide +kernel, rfl⟩
theorem d5_3 : DJ prog_1_method_5_code 3 (.ifCond .le) 11 6 14 := ⟨by decide +kernel, rfl, rfl⟩
theorem d5_6 : D1 prog_1_method_5_code 6 (.dload_n 1) 1 7 := ⟨by decide +kernel, rfl⟩
theorem d5_7 : D1 prog_1_method_5_code 7 (.ldc2_w 69) 3 10 := ⟨by decide +kernel, rfl⟩
theorem d5_10 : D1 prog_1_method_5_code 10 (.dcmp .g) 1 11 := ⟨by decide +kernel, rfl⟩
theorem d5_11 : DJ prog_1_method_5_code 11 (.ifCond .lt) 18 14 29 := ⟨by decide +kernel, rfl, rfl⟩
theorem d5_14 : D1 prog_1_method_5_code 14 (.new 17) 3 17 := ⟨by decide +kernel, rfl⟩
theorem d5_17 : D1 prog_1_method_5_code 17 (.dup) 1 18 := ⟨by decide +kernel, rfl⟩
theorem d5_18 : D1 prog_1_method_5_code 18 (.aload_n 0) 1 19 := ⟨by decide +kernel, rfl⟩
theorem d5_19 : D1 prog_1_method_5_code 19 (.dload_n 1) 1 20 := ⟨by decide +kernel, rfl⟩
theorem d5_20 : D1 prog_1_method_5_code 20 (.invokedynamic 71) 5 25 := ⟨by decide +kernel, rfl⟩
theorem d5_25 : D1 prog_1_method_5_code 25 (.invokespecial 23) 3 28 := ⟨by decide +kernel, rfl⟩
theorem d5_28 : D1 prog_1_method_5_code 28 (.athrow) 1 29 := ⟨by decide +kernel, rfl⟩
theorem d5_29 : D1 prog_1_method_5_code 29 (.return_) 1 30 := ⟨by decide +kernel, rfl⟩
theorem d6_0 : D1 prog_1_method_4_code 0 (.lconst 0) 1 1 := ⟨by decide +kernel, rfl⟩
theorem d6_1 : D1 prog_1_method_4_code 1 (.lstore 8) 2 3 := ⟨by decide +kernel, rfl⟩
theorem d6_3 : D1 prog_1_method_4_code 3 (.dload_n 0) 1 4 := ⟨by decide +kernel, rfl⟩
theorem d6_4 : D1 prog_1_method_4_code 4 (.dstore 10) 2 6 := ⟨by decide +kernel, rfl⟩
theorem d6_6 : D1 prog_1_method_4_code 6 (.dload 10) 2 8 := ⟨by decide +kernel, rfl⟩
theorem d6_8 : D1 prog_1_method_4_code 8 (.dload_n 2) 1 9 := ⟨by decide +kernel, rfl⟩
theorem d6_9 : D1 prog_1_method_4_code 9 (.dcmp .l) 1 10 := ⟨by decide +kernel, rfl⟩
theorem d6_10 : DJ prog_1_method_4_code 10 (.ifCond .le) 27 13 37 := ⟨by decide +kernel, rfl, rfl⟩
theorem d6_13 : D1 prog_1_method_4_code 13 (.lload 8) 2 15 := ⟨by decide +kernel, rfl⟩
theorem d6_15 : D1 prog_1_method_4_code 15 (.lload 6) 2 17 := ⟨by decide +kernel, rfl⟩
theorem d6_17 : D1 prog_1_method_4_code 17 (.lcmp) 1 18 := ⟨by decide +kernel, rfl⟩
theorem d6_18 : DJ prog_1_method_4_code 18 (.ifCond .ge) 19 21 37 := ⟨by decide +kernel, rfl, rfl⟩
theorem d6_21 : D1 prog_1_method_4_code 21 (.lload 8) 2 23 := ⟨by decide +kernel, rfl⟩
theorem d6_23 : D1 prog_1_method_4_code 23 (.lconst 1) 1 24 := ⟨by decide +kernel, rfl⟩
theorem d6_24 : D1 prog_1_method_4_code 24 (.ladd) 1 25 := ⟨by decide +kernel, rfl⟩
theorem d6_25 : D1 prog_1_method_4_code 25 (.lstore 8) 2 27 := ⟨by decide +kernel, rfl⟩
theorem d6_27 : D1 prog_1_method_4_code 27 (.dload 10) 2 29 := ⟨by decide +kernel, rfl⟩
theorem d6_29 : D1 prog_1_method_4_code 29 (.dload 4) 2 31 := ⟨by decide +kernel, rfl⟩
theorem d6_31 : D1 prog_1_method_4_code 31 (.dmul) 1 32 := ⟨by decide +kernel, rfl⟩
theorem d6_32 : D1 prog_1_method_4_code 32 (.dstore 10) 2 34 := ⟨by decide +kernel, rfl⟩
theorem d6_34 : DJ prog_1_method_4_code 34 .goto (-28) 37 6 := ⟨by decide +kernel, rfl, rfl⟩
theorem d6_37 : D1 prog_1_method_4_code 37 (.lload 8) 2 39 := ⟨by decide +kernel, rfl⟩
theorem d6_39 : D1 prog_1_method_4_code 39 (.lreturn) 1 40 := ⟨by decide +kernel, rfl⟩
theorem d7_0 : D1 prog_1_method_9_code 0 (.aload_n 0) 1 1 := ⟨by decide +kernel, rfl⟩
theorem d7_1 : D1 prog_1_method_9_code 1 (.getfield 42) 3 4 := ⟨by decide +kernel, rfl⟩
theorem d7_4 : D1 prog_1_method_9_code 4 (.dreturn) 1 5 := ⟨by decide +kernel, rfl⟩
theorem d8_0 : D1 prog_1_method_10_code 0 (.aload_n 0) 1 1 := ⟨by decide +kernel, rfl⟩
theorem d8_1 : D1 prog_1_method_10_code 1 (.getfield 46) 3 4 := ⟨by decide +kernel, rfl⟩
theorem d8_4 : D1 prog_1_method_10_code 4 (.dreturn) 1 5 := ⟨by decide +kernel, rfl⟩
theorem d9_0 : D1 prog_1_method_11_code 0 (.aload_n 0) 1 1 := ⟨by decide +kernel, rfl⟩
theorem d9_1 : D1 prog_1_method_11_code 1 (.getfield 49) 3 4 := ⟨by decide +kernel, rfl⟩
theorem d9_4 : D1 prog_1_method_11_code 4 (.dreturn) 1 5 := ⟨by decide +kernel, rfl⟩
theorem d10_0 : D1 prog_1_method_12_code 0 (.aload_n 0) 1 1 := ⟨by decide +kernel, rfl⟩
theorem d10_1 : D1 prog_1_method_12_code 1 (.getfield 52) 3 4 := ⟨by decide +kernel, rfl⟩
theorem d10_4 : D1 prog_1_method_12_code 4 (.dreturn) 1 5 := ⟨by decide +kernel, rfl⟩
theorem d11_0 : D1 prog_1_method_13_code 0 (.aload_n 0) 1 1 := ⟨by decide +kernel, rfl⟩
theorem d11_1 : D1 prog_1_method_13_code 1 (.getfield 55) 3 4 := ⟨by decide +kernel, rfl⟩
theorem d11_4 : D1 prog_1_method_13_code 4 (.ireturn) 1 5 := ⟨by decide +kernel, rfl⟩
theorem d12_0 : D1 prog_1_method_14_code 0 (.aload_n 0) 1 1 := ⟨by decide +kernel, rfl⟩
theorem d12_1 : D1 prog_1_method_14_code 1 (.getfield 59) 3 4 := ⟨by decide +kernel, rfl⟩
theorem d12_4 : D1 prog_1_method_14_code 4 (.ireturn) 1 5 := ⟨by decide +kernel, rfl⟩

abbrev QPure (r : Option Value) (h0 : Heap) (v : Option Value) (h : Heap) (F : List Addr) : Prop := v = r ∧ h = h0
set_option maxRecDepth 65536 in
set_option maxHeartbeats 4000000 in
theorem rm_rec (l : Launch) (Z : State) (a0 : Array Value) (hw : ∀ d ∈ tables_1, d.before a0 Z = true) (n0 : Nat) (h0 : Heap) (hO : Old Z n0 h0) (a : Addr) :
    Met l Z [] n0 [] (⟨"java/lang/Record", "<init>", "()V"⟩ : MethodName) jdk_30_method_1_code 1 none ({ frames := 1, cells := 0, slots := 0, locals := 12 } : Room) #[.ref a] [] h0 (QPure none h0) := by
  have hEL := own_EW hw
  have hn0 : n0 ≤ h0.size := hO.1 ▸ hO.2.1
  refine Met.of (by decide +kernel) hEL hO (Ls := #[.val (.ref a)]) (fun m => by first | (simp [entryFrame, mkF, argsToLocals, Value.category]; done) | rfl) ?_
  refine WP.aload_n d3_0 rfl rfl ?_
  refine WP.initObject d3_1 (hw _ (List.mem_of_getElem? (i := 16) rfl)) (hw _ (List.mem_of_getElem? (i := 17) rfl)) (hw _ (List.mem_of_getElem? (i := 18) rfl)) rfl (nle rfl) (nle rfl) ?_
  exact WP.return_ d3_4 rfl (by decide) (by decide) (G := []) (fun _ q => nomatch q) ⟨rfl, rfl⟩
set_option maxRecDepth 65536 in
set_option maxHeartbeats 4000000 in
theorem rm_rp (l : Launch) (Z : State) (a0 : Array Value) (hw : ∀ d ∈ tables_1, d.before a0 Z = true) (n0 : Nat) (h0 : Heap) (hO : Old Z n0 h0) (s : Addr) (x : UInt64) (hx : PosOK x) :
    Met l Z [] n0 [] (⟨"com/example/annealink/annealink/AnnealingSchedule", "requirePositive", "(Ljava/lang/String;D)V"⟩ : MethodName) prog_1_method_5_code 3 none ({ frames := 0, cells := 0, slots := 0, locals := 0 } : Room) #[.ref s, .double x] [] h0 (QPure none h0) := by
  have hEL := own_EW hw
  have hn0 : n0 ≤ h0.size := hO.1 ▸ hO.2.1
  refine Met.of (by decide +kernel) hEL hO (Ls := #[.val (.ref s), .val (.double x), .second]) (fun m => by first | (simp [entryFrame, mkF, argsToLocals, Value.category]; done) | rfl) ?_
  refine WP.dload_n d5_0 rfl ?_
  refine WP.dconst0 d5_1 ?_
  refine WP.dcmp d5_2 (v := 1) hx.1 ?_
  refine WP.if_le d5_3 (fun hc3 => False.elim (hc3 (by decide))) (fun hc3 => ?_)
  refine WP.dload_n d5_6 rfl ?_
  refine WP.ldc2D (v := 9218868437227405312) d5_7 (hw _ (List.mem_of_getElem? (i := 30) rfl)) ?_
  refine WP.dcmp d5_10 (v := -1) hx.2 ?_
  refine WP.if_lt d5_11 (fun hc11 => ?_) (fun hc11 => False.elim (hc11 (by decide)))
  exact WP.return_ d5_29 rfl (by decide) (by decide) (G := []) (fun _ q => nomatch q) ⟨rfl, rfl⟩
set_option maxRecDepth 65536 in
set_option maxHeartbeats 4000000 in
theorem rm_tu_loop (l : Launch) (Z : State) (a0 : Array Value) (hw : ∀ d ∈ tables_1, d.before a0 Z = true) (n0 : Nat) (h0 : Heap) (st en u : UInt64) (lm : Int64) (N : Nat) (hN : N < 2 ^ 61) (hl : (N : Int) ≤ lm.toInt) (hr : Runs st u en N) (k : Nat) :
    ∀ i : Nat, i + k = N → WP l Z [] n0 ({ frames := 0, cells := 0, slots := 0, locals := 0 } : Room) (⟨"com/example/annealink/annealink/AnnealingSchedule", "temperaturesUpTo", "(DDDJ)J"⟩ : MethodName) prog_1_method_4_code 12 (some .long) (QPure (some (.long (Int64.ofNat N))) h0) [] h0 0 0 6 #[.val (.double st), .second, .val (.double en), .second, .val (.double u), .second, .val (.long lm), .second, .val (.long (Int64.ofNat i)), .second, .val (.double (itr st u i)), .second] [] := by
  induction k with
  | zero =>
    intro i hi
    obtain rfl : i = N := by omega
    refine WP.dload d6_6 rfl ?_
    refine WP.dload_n d6_8 rfl ?_
    refine WP.dcmp d6_9 rfl ?_
    refine WP.if_le d6_10 (fun hc => ?_) (fun hc => absurd hc hr.2)
    refine WP.lload d6_37 rfl ?_
    exact WP.lreturn d6_39 rfl (by decide) (by decide) (G := []) (fun _ q => nomatch q) ⟨rfl, rfl⟩
  | succ k ih =>
    intro i hi0
    have hi := hr.1 i (by omega)
    refine WP.dload d6_6 rfl ?_
    refine WP.dload_n d6_8 rfl ?_
    refine WP.dcmp d6_9 (v := 1) hi.2 ?_
    refine WP.if_le d6_10 (fun hc10 => False.elim (hc10 (by decide))) (fun hc10 => ?_)
    refine WP.lload d6_13 rfl ?_
    refine WP.lload d6_15 rfl ?_
    refine WP.lcmp d6_17 ?_
    refine WP.if_ge d6_18 (fun hc18 => False.elim (hc18 (by rw [lcW_lt (by omega) (by omega)]; decide))) (fun hc18 => ?_)
    refine WP.lload d6_21 rfl ?_
    refine WP.lconst d6_23 (v := (1 : Int64)) rfl ?_
    refine WP.ladd d6_24 ?_
    rw [show ((Int64.ofNat i) + (1 : Int64)) = (Int64.ofNat (i + 1)) from ofJ_add]
    refine WP.lstore d6_25 rfl (Ls' := #[.val (.double st), .second, .val (.double en), .second, .val (.double u), .second, .val (.long lm), .second, .val (.long (Int64.ofNat (i + 1))), .second, .val (.double (itr st u i)), .second]) rfl ?_
    refine WP.dload d6_27 rfl ?_
    refine WP.dload d6_29 rfl ?_
    refine WP.dmul d6_31 hi.1 ?_
    refine WP.dstore d6_32 rfl (Ls' := #[.val (.double st), .second, .val (.double en), .second, .val (.double u), .second, .val (.long lm), .second, .val (.long (Int64.ofNat (i + 1))), .second, .val (.double (itr st u (i + 1))), .second]) rfl ?_
    refine WP.goto d6_34 ?_
    exact ih (i + 1) (by omega)
set_option maxRecDepth 65536 in
set_option maxHeartbeats 4000000 in
theorem rm_tu (l : Launch) (Z : State) (a0 : Array Value) (hw : ∀ d ∈ tables_1, d.before a0 Z = true) (n0 : Nat) (h0 : Heap) (hO : Old Z n0 h0) (st en u : UInt64) (lm : Int64) (N : Nat) (hN : N < 2 ^ 61) (hl : (N : Int) ≤ lm.toInt) (hr : Runs st u en N) :
    Met l Z [] n0 [] (⟨"com/example/annealink/annealink/AnnealingSchedule", "temperaturesUpTo", "(DDDJ)J"⟩ : MethodName) prog_1_method_4_code 12 (some .long) ({ frames := 0, cells := 0, slots := 0, locals := 0 } : Room) #[.double st, .double en, .double u, .long lm] [] h0 (QPure (some (.long (Int64.ofNat N))) h0) := by
  have hEL := own_EW hw
  have hn0 : n0 ≤ h0.size := hO.1 ▸ hO.2.1
  refine Met.of (by decide +kernel) hEL hO (Ls := #[.val (.double st), .second, .val (.double en), .second, .val (.double u), .second, .val (.long lm), .second, .unset, .unset, .unset, .unset]) (fun m => by first | (simp [entryFrame, mkF, argsToLocals, Value.category]; done) | rfl) ?_
  refine WP.lconst d6_0 (v := (0 : Int64)) rfl ?_
  refine WP.lstore d6_1 rfl (Ls' := #[.val (.double st), .second, .val (.double en), .second, .val (.double u), .second, .val (.long lm), .second, .val (.long (0 : Int64)), .second, .unset, .unset]) rfl ?_
  refine WP.dload_n d6_3 rfl ?_
  refine WP.dstore d6_4 rfl (Ls' := #[.val (.double st), .second, .val (.double en), .second, .val (.double u), .second, .val (.long lm), .second, .val (.long (0 : Int64)), .second, .val (.double st), .second]) rfl ?_
  exact rm_tu_loop l Z a0 hw n0 h0 st en u lm N hN hl hr N 0 (by omega)
abbrev QAn (Z : State) (a : Addr) (st en u th : UInt64) (sm cp : Int32) (h0 : Heap) (v : Option Value) (h : Heap) (F : List Addr) : Prop := v = none ∧ Keep h0 h [a] ∧ Exa Z h a "com/example/annealink/annealink/AnnealingSchedule" ∧ Fld Z h a "com/example/annealink/annealink/AnnealingSchedule" "startTemperature" "D" (.double st) ∧ Fld Z h a "com/example/annealink/annealink/AnnealingSchedule" "endTemperature" "D" (.double en) ∧ Fld Z h a "com/example/annealink/annealink/AnnealingSchedule" "coolingFactor" "D" (.double u) ∧ Fld Z h a "com/example/annealink/annealink/AnnealingSchedule" "equilibriumThreshold" "D" (.double th) ∧ Fld Z h a "com/example/annealink/annealink/AnnealingSchedule" "equilibriumSample" "I" (.int sm) ∧ Fld Z h a "com/example/annealink/annealink/AnnealingSchedule" "proposalCap" "I" (.int cp)
set_option maxRecDepth 65536 in
set_option maxHeartbeats 4000000 in
theorem rm_ini (l : Launch) (Z : State) (a0 : Array Value) (hw : ∀ d ∈ tables_1, d.before a0 Z = true) (n0 : Nat) (h0 : Heap) (hO : Old Z n0 h0) (a : Addr) (st en u th : UInt64) (sm cp : Int32) (N : Nat) (hN : N ≤ 1000) (hr : Runs st u en N) (hst : PosOK st) (hen : PosOK en) (hth : PosOK th) (hu : cmpValue (FP.dcmp u FP.dconst0) .l = 1 ∧ cmpValue (FP.dcmp u FP.dconst1) .g = -1) (hsm : ¬ sm < 1) (hcp : ¬ cp < sm) (E : Exa Z h0 a "com/example/annealink/annealink/AnnealingSchedule") (na : n0 ≤ a) (Fst : Fld Z h0 a "com/example/annealink/annealink/AnnealingSchedule" "startTemperature" "D" (.double 0)) (Fen : Fld Z h0 a "com/example/annealink/annealink/AnnealingSchedule" "endTemperature" "D" (.double 0)) (Fu : Fld Z h0 a "com/example/annealink/annealink/AnnealingSchedule" "coolingFactor" "D" (.double 0)) (Fth : Fld Z h0 a "com/example/annealink/annealink/AnnealingSchedule" "equilibriumThreshold" "D" (.double 0)) (Fsm : Fld Z h0 a "com/example/annealink/annealink/AnnealingSchedule" "equilibriumSample" "I" (.int 0)) (Fcp : Fld Z h0 a "com/example/annealink/annealink/AnnealingSchedule" "proposalCap" "I" (.int 0)) :
    Met l Z [] n0 [] (⟨"com/example/annealink/annealink/AnnealingSchedule", "<init>", "(DDDDII)V"⟩ : MethodName) prog_1_method_1_code 11 none ({ frames := 2, cells := 6, slots := 400, locals := 60 } : Room) #[.ref a, .double st, .double en, .double u, .double th, .int sm, .int cp] [] h0 (QAn Z a st en u th sm cp h0) := by
  have hEL := own_EW hw
  have hn0 : n0 ≤ h0.size := hO.1 ▸ hO.2.1
  refine Met.of (by decide +kernel) hEL hO (Ls := #[.val (.ref a), .val (.double st), .second, .val (.double en), .second, .val (.double u), .second, .val (.double th), .second, .val (.int sm), .val (.int cp)]) (fun m => by first | (simp [entryFrame, mkF, argsToLocals, Value.category]; done) | rfl) ?_
  have K : Keep h0 h0 [a] := Keep.refl _ _
  refine WP.aload_n d2_0 rfl rfl ?_
  refine WP.special (a := a) (argsL := []) (rest := []) d2_1 (rm_rec l Z a0 hw n0 h0 hO a) rfl (hw _ (List.mem_of_getElem? (i := 11) rfl)) (hw _ (List.mem_of_getElem? (i := 12) rfl)) (hw _ (List.mem_of_getElem? (i := 14) rfl)) (hw _ (List.mem_of_getElem? (i := 15) rfl)) (by decide) pd_2 rfl rfl rfl (nle rfl) (nle rfl) (nle rfl) (nle rfl) (fun _ q => nomatch q) (fun v h1 F' hq szh1 => ?_)
  obtain ⟨rfl, rfl⟩ := hq
  refine WP.ldcO (n := 96) d2_4 hEL (hw _ (List.mem_of_getElem? (i := 19) rfl)) (own_wS hw) (by decide) (by decide) (by decide) (by decide) (fun h2 s3 Eh2 => ?_)
  have E := E.ext Eh2
  have K := K.ext Eh2
  have hO := hO.ext Eh2
  have Fst := Fst.ext Eh2
  have Fen := Fen.ext Eh2
  have Fu := Fu.ext Eh2
  have Fth := Fth.ext Eh2
  have Fsm := Fsm.ext Eh2
  have Fcp := Fcp.ext Eh2
  have zEh2 := Eh2.1
  refine WP.dload_n d2_6 rfl ?_
  refine WP.static (argsL := [(.ref s3), (.double st)]) (rest := []) d2_7 (rm_rp l Z a0 hw n0 h2 hO s3 st hst) (hw _ (List.mem_of_getElem? (i := 27) rfl)) (hw _ (List.mem_of_getElem? (i := 28) rfl)) (hw _ (List.mem_of_getElem? (i := 3) rfl)) (hw _ (List.mem_of_getElem? (i := 29) rfl)) (by decide) pd_3 rfl rfl rfl (nle rfl) (nle rfl) (nle rfl) (nle rfl) (fun _ q => nomatch q) (fun v h4 F' hq szh4 => ?_)
  obtain ⟨rfl, rfl⟩ := hq
  refine WP.ldcO (n := 88) d2_10 hEL (hw _ (List.mem_of_getElem? (i := 31) rfl)) (own_wS hw) (by decide) (by decide) (by decide) (by decide) (fun h5 s6 Eh5 => ?_)
  have E := E.ext Eh5
  have K := K.ext Eh5
  have hO := hO.ext Eh5
  have Fst := Fst.ext Eh5
  have Fen := Fen.ext Eh5
  have Fu := Fu.ext Eh5
  have Fth := Fth.ext Eh5
  have Fsm := Fsm.ext Eh5
  have Fcp := Fcp.ext Eh5
  have zEh5 := Eh5.1
  refine WP.dload_n d2_12 rfl ?_
  refine WP.static (argsL := [(.ref s6), (.double en)]) (rest := []) d2_13 (rm_rp l Z a0 hw n0 h5 hO s6 en hen) (hw _ (List.mem_of_getElem? (i := 27) rfl)) (hw _ (List.mem_of_getElem? (i := 28) rfl)) (hw _ (List.mem_of_getElem? (i := 3) rfl)) (hw _ (List.mem_of_getElem? (i := 29) rfl)) (by decide) pd_3 rfl rfl rfl (nle rfl) (nle rfl) (nle rfl) (nle rfl) (fun _ q => nomatch q) (fun v h7 F' hq szh7 => ?_)
  obtain ⟨rfl, rfl⟩ := hq
  refine WP.dload d2_16 rfl ?_
  refine WP.dconst0 d2_18 ?_
  refine WP.dcmp d2_19 (v := 1) hu.1 ?_
  refine WP.if_le d2_20 (fun hc20 => False.elim (hc20 (by decide))) (fun hc20 => ?_)
  refine WP.dload d2_23 rfl ?_
  refine WP.dconst1 d2_25 ?_
  refine WP.dcmp d2_26 (v := -1) hu.2 ?_
  refine WP.if_lt d2_27 (fun hc27 => ?_) (fun hc27 => False.elim (hc27 (by decide)))
  refine WP.dload_n d2_45 rfl ?_
  refine WP.dload_n d2_46 rfl ?_
  refine WP.dload d2_47 rfl ?_
  refine WP.ldc2J (v := (1000001 : Int64)) d2_49 (hw _ (List.mem_of_getElem? (i := 32) rfl)) ?_
  refine WP.static (argsL := [(.double st), (.double en), (.double u), (.long (1000001 : Int64))]) (rest := []) d2_52 (rm_tu l Z a0 hw n0 h7 hO st en u 1000001 N (by omega) (by have e : (1000001 : Int64).toInt = 1000001 := rfl; omega) hr) (hw _ (List.mem_of_getElem? (i := 33) rfl)) (hw _ (List.mem_of_getElem? (i := 34) rfl)) (hw _ (List.mem_of_getElem? (i := 3) rfl)) (hw _ (List.mem_of_getElem? (i := 35) rfl)) (by decide) pd_4 rfl rfl rfl (nle rfl) (nle rfl) (nle rfl) (nle rfl) (fun _ q => nomatch q) (fun v h8 F' hq szh8 => ?_)
  obtain ⟨rfl, rfl⟩ := hq
  refine WP.ldc2J (v := (1000000 : Int64)) d2_55 (hw _ (List.mem_of_getElem? (i := 36) rfl)) ?_
  refine WP.lcmp d2_58 ?_
  refine WP.if_le d2_59 (fun hc59 => ?_) (fun hc59 => False.elim (lcW_le (by omega) (by have e : (1000000 : Int64).toInt = 1000000 := rfl; omega) hc59))
  refine WP.ldcO (n := 100) d2_79 hEL (hw _ (List.mem_of_getElem? (i := 37) rfl)) (own_wS hw) (by decide) (by decide) (by decide) (by decide) (fun h9 s10 Eh9 => ?_)
  have E := E.ext Eh9
  have K := K.ext Eh9
  have hO := hO.ext Eh9
  have Fst := Fst.ext Eh9
  have Fen := Fen.ext Eh9
  have Fu := Fu.ext Eh9
  have Fth := Fth.ext Eh9
  have Fsm := Fsm.ext Eh9
  have Fcp := Fcp.ext Eh9
  have zEh9 := Eh9.1
  refine WP.dload d2_81 rfl ?_
  refine WP.static (argsL := [(.ref s10), (.double th)]) (rest := []) d2_83 (rm_rp l Z a0 hw n0 h9 hO s10 th hth) (hw _ (List.mem_of_getElem? (i := 27) rfl)) (hw _ (List.mem_of_getElem? (i := 28) rfl)) (hw _ (List.mem_of_getElem? (i := 3) rfl)) (hw _ (List.mem_of_getElem? (i := 29) rfl)) (by decide) pd_3 rfl rfl rfl (nle rfl) (nle rfl) (nle rfl) (nle rfl) (fun _ q => nomatch q) (fun v h11 F' hq szh11 => ?_)
  obtain ⟨rfl, rfl⟩ := hq
  refine WP.iload d2_86 rfl ?_
  refine WP.iconst d2_88 (v := (1 : Int32)) rfl ?_
  refine WP.icmp_lt d2_89 (fun hc89 => False.elim (hsm hc89)) (fun hc89 => ?_)
  refine WP.iload d2_92 rfl ?_
  refine WP.iload d2_94 rfl ?_
  refine WP.icmp_ge d2_96 (fun hc96 => ?_) (fun hc96 => False.elim (hcp hc96))
  refine WP.aload_n d2_116 rfl rfl ?_
  refine WP.dload_n d2_117 rfl ?_
  refine WP.putfield (host := "") d2_118 (Or.inl (hw _ (List.mem_of_getElem? (i := 38) rfl))) Via.refl Fst E (Or.inr ⟨(hw _ (List.mem_of_getElem? (i := 39) rfl)), rfl, rfl⟩) (hw _ (List.mem_of_getElem? (i := 6) rfl)) (ty := .double) (by decide) rfl rfl (by omega) (SafeBy.exa E) (fun h12 W13 => ?_)
  have zW13 := W13.size
  have E := E.wr W13
  have K := K.wr W13 (Or.inl (by simp))
  have hO := hO.wr W13 (by omega)
  have Fst := Fst.same W13
  have Fen := Fen.other W13 (Or.inr (slot_ne (Or.inr (hw _ (List.mem_of_getElem? (i := 41) rfl))) (Or.inr (hw _ (List.mem_of_getElem? (i := 39) rfl))) (by decide) (t := .double) (t' := .double) (by decide) (by decide)))
  have Fu := Fu.other W13 (Or.inr (slot_ne (Or.inr (hw _ (List.mem_of_getElem? (i := 43) rfl))) (Or.inr (hw _ (List.mem_of_getElem? (i := 39) rfl))) (by decide) (t := .double) (t' := .double) (by decide) (by decide)))
  have Fth := Fth.other W13 (Or.inr (slot_ne (Or.inr (hw _ (List.mem_of_getElem? (i := 45) rfl))) (Or.inr (hw _ (List.mem_of_getElem? (i := 39) rfl))) (by decide) (t := .double) (t' := .double) (by decide) (by decide)))
  have Fsm := Fsm.other W13 (Or.inr (slot_ne (Or.inr (hw _ (List.mem_of_getElem? (i := 47) rfl))) (Or.inr (hw _ (List.mem_of_getElem? (i := 39) rfl))) (by decide) (t := .int) (t' := .double) (by decide) (by decide)))
  have Fcp := Fcp.other W13 (Or.inr (slot_ne (Or.inr (hw _ (List.mem_of_getElem? (i := 49) rfl))) (Or.inr (hw _ (List.mem_of_getElem? (i := 39) rfl))) (by decide) (t := .int) (t' := .double) (by decide) (by decide)))
  refine WP.aload_n d2_121 rfl rfl ?_
  refine WP.dload_n d2_122 rfl ?_
  refine WP.putfield (host := "") d2_123 (Or.inl (hw _ (List.mem_of_getElem? (i := 40) rfl))) Via.refl Fen E (Or.inr ⟨(hw _ (List.mem_of_getElem? (i := 41) rfl)), rfl, rfl⟩) (hw _ (List.mem_of_getElem? (i := 6) rfl)) (ty := .double) (by decide) rfl rfl (by omega) (SafeBy.exa E) (fun h14 W15 => ?_)
  have zW15 := W15.size
  have E := E.wr W15
  have K := K.wr W15 (Or.inl (by simp))
  have hO := hO.wr W15 (by omega)
  have Fst := Fst.other W15 (Or.inr (slot_ne (Or.inr (hw _ (List.mem_of_getElem? (i := 39) rfl))) (Or.inr (hw _ (List.mem_of_getElem? (i := 41) rfl))) (by decide) (t := .double) (t' := .double) (by decide) (by decide)))
  have Fen := Fen.same W15
  have Fu := Fu.other W15 (Or.inr (slot_ne (Or.inr (hw _ (List.mem_of_getElem? (i := 43) rfl))) (Or.inr (hw _ (List.mem_of_getElem? (i := 41) rfl))) (by decide) (t := .double) (t' := .double) (by decide) (by decide)))
  have Fth := Fth.other W15 (Or.inr (slot_ne (Or.inr (hw _ (List.mem_of_getElem? (i := 45) rfl))) (Or.inr (hw _ (List.mem_of_getElem? (i := 41) rfl))) (by decide) (t := .double) (t' := .double) (by decide) (by decide)))
  have Fsm := Fsm.other W15 (Or.inr (slot_ne (Or.inr (hw _ (List.mem_of_getElem? (i := 47) rfl))) (Or.inr (hw _ (List.mem_of_getElem? (i := 41) rfl))) (by decide) (t := .int) (t' := .double) (by decide) (by decide)))
  have Fcp := Fcp.other W15 (Or.inr (slot_ne (Or.inr (hw _ (List.mem_of_getElem? (i := 49) rfl))) (Or.inr (hw _ (List.mem_of_getElem? (i := 41) rfl))) (by decide) (t := .int) (t' := .double) (by decide) (by decide)))
  refine WP.aload_n d2_126 rfl rfl ?_
  refine WP.dload d2_127 rfl ?_
  refine WP.putfield (host := "") d2_129 (Or.inl (hw _ (List.mem_of_getElem? (i := 42) rfl))) Via.refl Fu E (Or.inr ⟨(hw _ (List.mem_of_getElem? (i := 43) rfl)), rfl, rfl⟩) (hw _ (List.mem_of_getElem? (i := 6) rfl)) (ty := .double) (by decide) rfl rfl (by omega) (SafeBy.exa E) (fun h16 W17 => ?_)
  have zW17 := W17.size
  have E := E.wr W17
  have K := K.wr W17 (Or.inl (by simp))
  have hO := hO.wr W17 (by omega)
  have Fst := Fst.other W17 (Or.inr (slot_ne (Or.inr (hw _ (List.mem_of_getElem? (i := 39) rfl))) (Or.inr (hw _ (List.mem_of_getElem? (i := 43) rfl))) (by decide) (t := .double) (t' := .double) (by decide) (by decide)))
  have Fen := Fen.other W17 (Or.inr (slot_ne (Or.inr (hw _ (List.mem_of_getElem? (i := 41) rfl))) (Or.inr (hw _ (List.mem_of_getElem? (i := 43) rfl))) (by decide) (t := .double) (t' := .double) (by decide) (by decide)))
  have Fu := Fu.same W17
  have Fth := Fth.other W17 (Or.inr (slot_ne (Or.inr (hw _ (List.mem_of_getElem? (i := 45) rfl))) (Or.inr (hw _ (List.mem_of_getElem? (i := 43) rfl))) (by decide) (t := .double) (t' := .double) (by decide) (by decide)))
  have Fsm := Fsm.other W17 (Or.inr (slot_ne (Or.inr (hw _ (List.mem_of_getElem? (i := 47) rfl))) (Or.inr (hw _ (List.mem_of_getElem? (i := 43) rfl))) (by decide) (t := .int) (t' := .double) (by decide) (by decide)))
  have Fcp := Fcp.other W17 (Or.inr (slot_ne (Or.inr (hw _ (List.mem_of_getElem? (i := 49) rfl))) (Or.inr (hw _ (List.mem_of_getElem? (i := 43) rfl))) (by decide) (t := .int) (t' := .double) (by decide) (by decide)))
  refine WP.aload_n d2_132 rfl rfl ?_
  refine WP.dload d2_133 rfl ?_
  refine WP.putfield (host := "") d2_135 (Or.inl (hw _ (List.mem_of_getElem? (i := 44) rfl))) Via.refl Fth E (Or.inr ⟨(hw _ (List.mem_of_getElem? (i := 45) rfl)), rfl, rfl⟩) (hw _ (List.mem_of_getElem? (i := 6) rfl)) (ty := .double) (by decide) rfl rfl (by omega) (SafeBy.exa E) (fun h18 W19 => ?_)
  have zW19 := W19.size
  have E := E.wr W19
  have K := K.wr W19 (Or.inl (by simp))
  have hO := hO.wr W19 (by omega)
  have Fst := Fst.other W19 (Or.inr (slot_ne (Or.inr (hw _ (List.mem_of_getElem? (i := 39) rfl))) (Or.inr (hw _ (List.mem_of_getElem? (i := 45) rfl))) (by decide) (t := .double) (t' := .double) (by decide) (by decide)))
  have Fen := Fen.other W19 (Or.inr (slot_ne (Or.inr (hw _ (List.mem_of_getElem? (i := 41) rfl))) (Or.inr (hw _ (List.mem_of_getElem? (i := 45) rfl))) (by decide) (t := .double) (t' := .double) (by decide) (by decide)))
  have Fu := Fu.other W19 (Or.inr (slot_ne (Or.inr (hw _ (List.mem_of_getElem? (i := 43) rfl))) (Or.inr (hw _ (List.mem_of_getElem? (i := 45) rfl))) (by decide) (t := .double) (t' := .double) (by decide) (by decide)))
  have Fth := Fth.same W19
  have Fsm := Fsm.other W19 (Or.inr (slot_ne (Or.inr (hw _ (List.mem_of_getElem? (i := 47) rfl))) (Or.inr (hw _ (List.mem_of_getElem? (i := 45) rfl))) (by decide) (t := .int) (t' := .double) (by decide) (by decide)))
  have Fcp := Fcp.other W19 (Or.inr (slot_ne (Or.inr (hw _ (List.mem_of_getElem? (i := 49) rfl))) (Or.inr (hw _ (List.mem_of_getElem? (i := 45) rfl))) (by decide) (t := .int) (t' := .double) (by decide) (by decide)))
  refine WP.aload_n d2_138 rfl rfl ?_
  refine WP.iload d2_139 rfl ?_
  refine WP.putfield (host := "") d2_141 (Or.inl (hw _ (List.mem_of_getElem? (i := 46) rfl))) Via.refl Fsm E (Or.inr ⟨(hw _ (List.mem_of_getElem? (i := 47) rfl)), rfl, rfl⟩) (hw _ (List.mem_of_getElem? (i := 6) rfl)) (ty := .int) (by decide) rfl rfl (by omega) (SafeBy.exa E) (fun h20 W21 => ?_)
  have zW21 := W21.size
  have E := E.wr W21
  have K := K.wr W21 (Or.inl (by simp))
  have hO := hO.wr W21 (by omega)
  have Fst := Fst.other W21 (Or.inr (slot_ne (Or.inr (hw _ (List.mem_of_getElem? (i := 39) rfl))) (Or.inr (hw _ (List.mem_of_getElem? (i := 47) rfl))) (by decide) (t := .double) (t' := .int) (by decide) (by decide)))
  have Fen := Fen.other W21 (Or.inr (slot_ne (Or.inr (hw _ (List.mem_of_getElem? (i := 41) rfl))) (Or.inr (hw _ (List.mem_of_getElem? (i := 47) rfl))) (by decide) (t := .double) (t' := .int) (by decide) (by decide)))
  have Fu := Fu.other W21 (Or.inr (slot_ne (Or.inr (hw _ (List.mem_of_getElem? (i := 43) rfl))) (Or.inr (hw _ (List.mem_of_getElem? (i := 47) rfl))) (by decide) (t := .double) (t' := .int) (by decide) (by decide)))
  have Fth := Fth.other W21 (Or.inr (slot_ne (Or.inr (hw _ (List.mem_of_getElem? (i := 45) rfl))) (Or.inr (hw _ (List.mem_of_getElem? (i := 47) rfl))) (by decide) (t := .double) (t' := .int) (by decide) (by decide)))
  have Fsm := Fsm.same W21
  have Fcp := Fcp.other W21 (Or.inr (slot_ne (Or.inr (hw _ (List.mem_of_getElem? (i := 49) rfl))) (Or.inr (hw _ (List.mem_of_getElem? (i := 47) rfl))) (by decide) (t := .int) (t' := .int) (by decide) (by decide)))
  refine WP.aload_n d2_144 rfl rfl ?_
  refine WP.iload d2_145 rfl ?_
  refine WP.putfield (host := "") d2_147 (Or.inl (hw _ (List.mem_of_getElem? (i := 48) rfl))) Via.refl Fcp E (Or.inr ⟨(hw _ (List.mem_of_getElem? (i := 49) rfl)), rfl, rfl⟩) (hw _ (List.mem_of_getElem? (i := 6) rfl)) (ty := .int) (by decide) rfl rfl (by omega) (SafeBy.exa E) (fun h22 W23 => ?_)
  have zW23 := W23.size
  have E := E.wr W23
  have K := K.wr W23 (Or.inl (by simp))
  have hO := hO.wr W23 (by omega)
  have Fst := Fst.other W23 (Or.inr (slot_ne (Or.inr (hw _ (List.mem_of_getElem? (i := 39) rfl))) (Or.inr (hw _ (List.mem_of_getElem? (i := 49) rfl))) (by decide) (t := .double) (t' := .int) (by decide) (by decide)))
  have Fen := Fen.other W23 (Or.inr (slot_ne (Or.inr (hw _ (List.mem_of_getElem? (i := 41) rfl))) (Or.inr (hw _ (List.mem_of_getElem? (i := 49) rfl))) (by decide) (t := .double) (t' := .int) (by decide) (by decide)))
  have Fu := Fu.other W23 (Or.inr (slot_ne (Or.inr (hw _ (List.mem_of_getElem? (i := 43) rfl))) (Or.inr (hw _ (List.mem_of_getElem? (i := 49) rfl))) (by decide) (t := .double) (t' := .int) (by decide) (by decide)))
  have Fth := Fth.other W23 (Or.inr (slot_ne (Or.inr (hw _ (List.mem_of_getElem? (i := 45) rfl))) (Or.inr (hw _ (List.mem_of_getElem? (i := 49) rfl))) (by decide) (t := .double) (t' := .int) (by decide) (by decide)))
  have Fsm := Fsm.other W23 (Or.inr (slot_ne (Or.inr (hw _ (List.mem_of_getElem? (i := 47) rfl))) (Or.inr (hw _ (List.mem_of_getElem? (i := 49) rfl))) (by decide) (t := .int) (t' := .int) (by decide) (by decide)))
  have Fcp := Fcp.same W23
  exact WP.return_ d2_150 rfl (by decide) (by decide) (G := []) (fun _ q => nomatch q) ⟨rfl, K, E, Fst, Fen, Fu, Fth, Fsm, Fcp⟩

theorem own_th : PosOK 4591870180066957722 := by unfold PosOK; decide +kernel
abbrev QOf (Z : State) (st en u : UInt64) (h0 : Heap) (v : Option Value) (h : Heap) (F : List Addr) : Prop := ∃ a, v = some (.ref a) ∧ Keep h0 h [] ∧ Exa Z h a "com/example/annealink/annealink/AnnealingSchedule" ∧ Fld Z h a "com/example/annealink/annealink/AnnealingSchedule" "startTemperature" "D" (.double st) ∧ Fld Z h a "com/example/annealink/annealink/AnnealingSchedule" "endTemperature" "D" (.double en) ∧ Fld Z h a "com/example/annealink/annealink/AnnealingSchedule" "coolingFactor" "D" (.double u) ∧ Fld Z h a "com/example/annealink/annealink/AnnealingSchedule" "equilibriumThreshold" "D" (.double 4591870180066957722) ∧ Fld Z h a "com/example/annealink/annealink/AnnealingSchedule" "equilibriumSample" "I" (.int 500) ∧ Fld Z h a "com/example/annealink/annealink/AnnealingSchedule" "proposalCap" "I" (.int 5000)
set_option maxRecDepth 65536 in
set_option maxHeartbeats 4000000 in
theorem rm_of (l : Launch) (Z : State) (a0 : Array Value) (hw : ∀ d ∈ tables_1, d.before a0 Z = true) (n0 : Nat) (h0 : Heap) (hO : Old Z n0 h0) (st en u : UInt64) (N : Nat) (hN : N ≤ 1000) (hr : Runs st u en N) (hst : PosOK st) (hen : PosOK en) (hu : cmpValue (FP.dcmp u FP.dconst0) .l = 1 ∧ cmpValue (FP.dcmp u FP.dconst1) .g = -1) :
    Met l Z [] n0 [] (⟨"com/example/annealink/annealink/AnnealingSchedule", "of", "(DDD)Lcom/example/annealink/annealink/AnnealingSchedule;"⟩ : MethodName) prog_1_method_2_code 6 (some (.object "com/example/annealink/annealink/AnnealingSchedule")) ({ frames := 3, cells := 7, slots := 410, locals := 85 } : Room) #[.double st, .double en, .double u] [] h0 (QOf Z st en u h0) := by
  have hEL := own_EW hw
  have hn0 : n0 ≤ h0.size := hO.1 ▸ hO.2.1
  refine Met.of (by decide +kernel) hEL hO (Ls := #[.val (.double st), .second, .val (.double en), .second, .val (.double u), .second]) (fun m => by first | (simp [entryFrame, mkF, argsToLocals, Value.category]; done) | rfl) ?_
  have K : Keep h0 h0 [] := Keep.refl _ _
  refine WP.new d1_0 (hw _ (List.mem_of_getElem? (i := 5) rfl)) (hw _ (List.mem_of_getElem? (i := 6) rfl)) (hw _ (List.mem_of_getElem? (i := 3) rfl)) (nle rfl) (nle rfl) (fun h24 a ga Ea Aa Da Ua => ?_)
  have hO := hO.ext Ea
  have K := K.ext Ea
  have la := nlt Aa.lt
  have za := Ea.1
  have Fst := Da (Or.inr (hw _ (List.mem_of_getElem? (i := 39) rfl))) (ty := .double) (by decide)
  have Fen := Da (Or.inr (hw _ (List.mem_of_getElem? (i := 41) rfl))) (ty := .double) (by decide)
  have Fu := Da (Or.inr (hw _ (List.mem_of_getElem? (i := 43) rfl))) (ty := .double) (by decide)
  have Fth := Da (Or.inr (hw _ (List.mem_of_getElem? (i := 45) rfl))) (ty := .double) (by decide)
  have Fsm := Da (Or.inr (hw _ (List.mem_of_getElem? (i := 47) rfl))) (ty := .int) (by decide)
  have Fcp := Da (Or.inr (hw _ (List.mem_of_getElem? (i := 49) rfl))) (ty := .int) (by decide)
  refine WP.dup d1_3 rfl ?_
  refine WP.dload_n d1_4 rfl ?_
  refine WP.dload_n d1_5 rfl ?_
  refine WP.dload d1_6 rfl ?_
  refine WP.ldc2D (v := 4591870180066957722) d1_8 (hw _ (List.mem_of_getElem? (i := 7) rfl)) ?_
  refine WP.sipush d1_11 (v := (500 : Int32)) rfl ?_
  refine WP.sipush d1_14 (v := (5000 : Int32)) rfl ?_
  refine WP.special (a := a) (argsL := [(.double st), (.double en), (.double u), (.double 4591870180066957722), (.int (500 : Int32)), (.int (5000 : Int32))]) (rest := [(.ref a)]) d1_17 (rm_ini l Z a0 hw n0 h24 hO a st en u 4591870180066957722 500 5000 N hN hr hst hen own_th hu (by decide) (by decide) Aa (by omega) Fst Fen Fu Fth Fsm Fcp) rfl (hw _ (List.mem_of_getElem? (i := 8) rfl)) (hw _ (List.mem_of_getElem? (i := 9) rfl)) (hw _ (List.mem_of_getElem? (i := 3) rfl)) (hw _ (List.mem_of_getElem? (i := 10) rfl)) (by decide) pd_1 rfl rfl rfl (nle rfl) (nle rfl) (nle rfl) (nle rfl) (fun _ q => nomatch q) (fun v h25 F' hq szh25 => ?_)
  obtain ⟨rfl, K2, E, r⟩ := hq
  have z2 := K2.1
  have hO := hO.keep K2 (allS (by omega) all0)
  have K := K.trans K2 (allS (Or.inr (by omega)) all0)
  exact WP.areturn d1_20 rfl rfl rfl (by decide) (by decide) (G := []) (fun _ q => nomatch q) ⟨a, rfl, K, E, r⟩
set_option maxRecDepth 65536 in
set_option maxHeartbeats 4000000 in
theorem rm_startTemperature (l : Launch) (Z : State) (a0 : Array Value) (hw : ∀ d ∈ tables_1, d.before a0 Z = true) (n0 : Nat) (h0 : Heap) (hO : Old Z n0 h0) (a : Addr) (v : UInt64) (Fa : Fld Z h0 a "com/example/annealink/annealink/AnnealingSchedule" "startTemperature" "D" (.double v)) :
    Met l Z [] n0 [] (⟨"com/example/annealink/annealink/AnnealingSchedule", "startTemperature", "()D"⟩ : MethodName) prog_1_method_9_code 1 (some .double) ({ frames := 0, cells := 0, slots := 0, locals := 0 } : Room) #[.ref a] [] h0 (QPure (some (.double v)) h0) := by
  have hEL := own_EW hw
  have hn0 : n0 ≤ h0.size := hO.1 ▸ hO.2.1
  refine Met.of (by decide +kernel) hEL hO (Ls := #[.val (.ref a)]) (fun m => by first | (simp [entryFrame, mkF, argsToLocals, Value.category]; done) | rfl) ?_
  refine WP.aload_n d7_0 rfl rfl ?_
  refine WP.getfield (host := "") d7_1 (Or.inl (hw _ (List.mem_of_getElem? (i := 38) rfl))) Via.refl Fa ?_
  exact WP.dreturn d7_4 rfl (by decide) (by decide) (G := []) (fun _ q => nomatch q) ⟨rfl, rfl⟩
set_option maxRecDepth 65536 in
set_option maxHeartbeats 4000000 in
theorem rm_endTemperature (l : Launch) (Z : State) (a0 : Array Value) (hw : ∀ d ∈ tables_1, d.before a0 Z = true) (n0 : Nat) (h0 : Heap) (hO : Old Z n0 h0) (a : Addr) (v : UInt64) (Fa : Fld Z h0 a "com/example/annealink/annealink/AnnealingSchedule" "endTemperature" "D" (.double v)) :
    Met l Z [] n0 [] (⟨"com/example/annealink/annealink/AnnealingSchedule", "endTemperature", "()D"⟩ : MethodName) prog_1_method_10_code 1 (some .double) ({ frames := 0, cells := 0, slots := 0, locals := 0 } : Room) #[.ref a] [] h0 (QPure (some (.double v)) h0) := by
  have hEL := own_EW hw
  have hn0 : n0 ≤ h0.size := hO.1 ▸ hO.2.1
  refine Met.of (by decide +kernel) hEL hO (Ls := #[.val (.ref a)]) (fun m => by first | (simp [entryFrame, mkF, argsToLocals, Value.category]; done) | rfl) ?_
  refine WP.aload_n d8_0 rfl rfl ?_
  refine WP.getfield (host := "") d8_1 (Or.inl (hw _ (List.mem_of_getElem? (i := 40) rfl))) Via.refl Fa ?_
  exact WP.dreturn d8_4 rfl (by decide) (by decide) (G := []) (fun _ q => nomatch q) ⟨rfl, rfl⟩
set_option maxRecDepth 65536 in
set_option maxHeartbeats 4000000 in
theorem rm_coolingFactor (l : Launch) (Z : State) (a0 : Array Value) (hw : ∀ d ∈ tables_1, d.before a0 Z = true) (n0 : Nat) (h0 : Heap) (hO : Old Z n0 h0) (a : Addr) (v : UInt64) (Fa : Fld Z h0 a "com/example/annealink/annealink/AnnealingSchedule" "coolingFactor" "D" (.double v)) :
    Met l Z [] n0 [] (⟨"com/example/annealink/annealink/AnnealingSchedule", "coolingFactor", "()D"⟩ : MethodName) prog_1_method_11_code 1 (some .double) ({ frames := 0, cells := 0, slots := 0, locals := 0 } : Room) #[.ref a] [] h0 (QPure (some (.double v)) h0) := by
  have hEL := own_EW hw
  have hn0 : n0 ≤ h0.size := hO.1 ▸ hO.2.1
  refine Met.of (by decide +kernel) hEL hO (Ls := #[.val (.ref a)]) (fun m => by first | (simp [entryFrame, mkF, argsToLocals, Value.category]; done) | rfl) ?_
  refine WP.aload_n d9_0 rfl rfl ?_
  refine WP.getfield (host := "") d9_1 (Or.inl (hw _ (List.mem_of_getElem? (i := 42) rfl))) Via.refl Fa ?_
  exact WP.dreturn d9_4 rfl (by decide) (by decide) (G := []) (fun _ q => nomatch q) ⟨rfl, rfl⟩
set_option maxRecDepth 65536 in
set_option maxHeartbeats 4000000 in
theorem rm_equilibriumThreshold (l : Launch) (Z : State) (a0 : Array Value) (hw : ∀ d ∈ tables_1, d.before a0 Z = true) (n0 : Nat) (h0 : Heap) (hO : Old Z n0 h0) (a : Addr) (v : UInt64) (Fa : Fld Z h0 a "com/example/annealink/annealink/AnnealingSchedule" "equilibriumThreshold" "D" (.double v)) :
    Met l Z [] n0 [] (⟨"com/example/annealink/annealink/AnnealingSchedule", "equilibriumThreshold", "()D"⟩ : MethodName) prog_1_method_12_code 1 (some .double) ({ frames := 0, cells := 0, slots := 0, locals := 0 } : Room) #[.ref a] [] h0 (QPure (some (.double v)) h0) := by
  have hEL := own_EW hw
  have hn0 : n0 ≤ h0.size := hO.1 ▸ hO.2.1
  refine Met.of (by decide +kernel) hEL hO (Ls := #[.val (.ref a)]) (fun m => by first | (simp [entryFrame, mkF, argsToLocals, Value.category]; done) | rfl) ?_
  refine WP.aload_n d10_0 rfl rfl ?_
  refine WP.getfield (host := "") d10_1 (Or.inl (hw _ (List.mem_of_getElem? (i := 44) rfl))) Via.refl Fa ?_
  exact WP.dreturn d10_4 rfl (by decide) (by decide) (G := []) (fun _ q => nomatch q) ⟨rfl, rfl⟩
set_option maxRecDepth 65536 in
set_option maxHeartbeats 4000000 in
theorem rm_equilibriumSample (l : Launch) (Z : State) (a0 : Array Value) (hw : ∀ d ∈ tables_1, d.before a0 Z = true) (n0 : Nat) (h0 : Heap) (hO : Old Z n0 h0) (a : Addr) (v : Int32) (Fa : Fld Z h0 a "com/example/annealink/annealink/AnnealingSchedule" "equilibriumSample" "I" (.int v)) :
    Met l Z [] n0 [] (⟨"com/example/annealink/annealink/AnnealingSchedule", "equilibriumSample", "()I"⟩ : MethodName) prog_1_method_13_code 1 (some .int) ({ frames := 0, cells := 0, slots := 0, locals := 0 } : Room) #[.ref a] [] h0 (QPure (some (.int v)) h0) := by
  have hEL := own_EW hw
  have hn0 : n0 ≤ h0.size := hO.1 ▸ hO.2.1
  refine Met.of (by decide +kernel) hEL hO (Ls := #[.val (.ref a)]) (fun m => by first | (simp [entryFrame, mkF, argsToLocals, Value.category]; done) | rfl) ?_
  refine WP.aload_n d11_0 rfl rfl ?_
  refine WP.getfield (host := "") d11_1 (Or.inl (hw _ (List.mem_of_getElem? (i := 46) rfl))) Via.refl Fa ?_
  exact WP.ireturn d11_4 rfl (t := .int) (by simp) rfl (by decide) (by decide) (G := []) (fun _ q => nomatch q) ⟨rfl, rfl⟩
set_option maxRecDepth 65536 in
set_option maxHeartbeats 4000000 in
theorem rm_proposalCap (l : Launch) (Z : State) (a0 : Array Value) (hw : ∀ d ∈ tables_1, d.before a0 Z = true) (n0 : Nat) (h0 : Heap) (hO : Old Z n0 h0) (a : Addr) (v : Int32) (Fa : Fld Z h0 a "com/example/annealink/annealink/AnnealingSchedule" "proposalCap" "I" (.int v)) :
    Met l Z [] n0 [] (⟨"com/example/annealink/annealink/AnnealingSchedule", "proposalCap", "()I"⟩ : MethodName) prog_1_method_14_code 1 (some .int) ({ frames := 0, cells := 0, slots := 0, locals := 0 } : Room) #[.ref a] [] h0 (QPure (some (.int v)) h0) := by
  have hEL := own_EW hw
  have hn0 : n0 ≤ h0.size := hO.1 ▸ hO.2.1
  refine Met.of (by decide +kernel) hEL hO (Ls := #[.val (.ref a)]) (fun m => by first | (simp [entryFrame, mkF, argsToLocals, Value.category]; done) | rfl) ?_
  refine WP.aload_n d12_0 rfl rfl ?_
  refine WP.getfield (host := "") d12_1 (Or.inl (hw _ (List.mem_of_getElem? (i := 48) rfl))) Via.refl Fa ?_
  exact WP.ireturn d12_4 rfl (t := .int) (by simp) rfl (by decide) (by decide) (G := []) (fun _ q => nomatch q) ⟨rfl, rfl⟩
theorem own_s (a : Int32) : ∃ n : Nat, Ix ((a &&& 1048575) + 1) n ∧ 1 ≤ n ∧ n ≤ 1048576 := by
  obtain ⟨i, h1, h2⟩ := Ix.and a 1048575 (by decide)
  have e : (1048575 : Int32).toInt = 1048575 := rfl
  exact ⟨i + 1, Ix.add h1 (show Ix 1 1 from rfl) (by omega), by omega, by omega⟩
theorem own_d (a : Int32) : ∃ n : Nat, Ix ((a &&& 255) + 1) n ∧ 1 ≤ n ∧ n ≤ 256 := by
  obtain ⟨i, h1, h2⟩ := Ix.and a 255 (by decide)
  have e : (255 : Int32).toInt = 255 := rfl
  exact ⟨i + 1, Ix.add h1 (show Ix 1 1 from rfl) (by omega), by omega, by omega⟩
theorem own_n (a : Int32) : ∃ n : Nat, Ix ((a &&& 15) + 1) n ∧ 1 ≤ n ∧ n ≤ 16 := by
  obtain ⟨i, h1, h2⟩ := Ix.and a 15 (by decide)
  have e : (15 : Int32).toInt = 15 := rfl
  exact ⟨i + 1, Ix.add h1 (show Ix 1 1 from rfl) (by omega), by omega, by omega⟩
open Jvm.FP in
theorem quo_leK {x : UInt64} {p q c k : Nat} (e : Int) (hk : (e + 1074).toNat = k) (h : Core.val64 x = Core.roundRatio Core.b64 false p q 0) (hq : 0 < q) (hc : 0 < c) (h2 : c < 2 ^ 53) (e1 : -1000 ≤ e) (e2 : e ≤ 900) (hl : p * 2 ^ 1074 ≤ c * 2 ^ k * q) : Zm x ≤ c * 2 ^ k := by
  subst hk
  exact quo_le h hq hc h2 e1 e2 hl
open Jvm.FP in
theorem quo_geK {x : UInt64} {p q c k : Nat} (e : Int) (hk : (e + 1074).toNat = k) (h : Core.val64 x = Core.roundRatio Core.b64 false p q 0) (hq : 0 < q) (hc : 0 < c) (h2 : c < 2 ^ 53) (e1 : -1000 ≤ e) (e2 : e ≤ 900) (hl : c * 2 ^ k * q ≤ p * 2 ^ 1074) : c * 2 ^ k ≤ Zm x := by
  subst hk
  exact quo_ge h hq hc h2 e1 e2 hl
theorem own_scale {p q a : Nat} {c d : Nat} (hd : d = a + c) (h : p * 2 ^ a ≤ q) : p * 2 ^ d ≤ q * 2 ^ c := by
  subst hd
  rw [Nat.pow_add, ← Nat.mul_assoc]
  exact Nat.mul_le_mul_right _ h
open Jvm.FP in
theorem own_quo {a b : Int32} {p q : Nat} (ha : Ix a p) (hb : Ix b q) (p1 : 1 ≤ p) (p2 : p ≤ 1048576) (q1 : 1 ≤ q) (q2 : q ≤ 256) : Fn (FP.ddiv (FP.i2d a) (FP.i2d b)) ∧ 2 ^ 1066 ≤ Zm (FP.ddiv (FP.i2d a) (FP.i2d b)) ∧ Zm (FP.ddiv (FP.i2d a) (FP.i2d b)) ≤ 2 ^ 1094 := by
  have h := quo_val ha hb (by omega) (by omega) (by omega) (by omega)
  have hi : Zm (FP.ddiv (FP.i2d a) (FP.i2d b)) ≤ 2 ^ 1094 := by
    have := quo_leK (c := 1) (k := 1094) (20) (by decide) h (by omega) (by decide) (by decide) (by decide) (by decide) (by
      have e : (2 : Nat) ^ 1094 = 2 ^ 20 * 2 ^ 1074 := by rw [← Nat.pow_add]
      rw [e, Nat.one_mul]
      generalize (2 : Nat) ^ 1074 = W
      calc p * W ≤ (2 ^ 20 * q) * W := Nat.mul_le_mul_right _ (by omega)
        _ = _ := by ac_rfl)
    rw [Nat.one_mul] at this
    exact this
  have lo : 2 ^ 1066 ≤ Zm (FP.ddiv (FP.i2d a) (FP.i2d b)) := by
    have := quo_geK (c := 1) (k := 1066) (-8) (by decide) h (by omega) (by decide) (by decide) (by decide) (by decide) (by
      have e : (2 : Nat) ^ 1074 = 2 ^ 8 * 2 ^ 1066 := by rw [← Nat.pow_add]
      rw [e, Nat.one_mul]
      generalize (2 : Nat) ^ 1066 = W
      calc W * q ≤ W * (p * 2 ^ 8) := Nat.mul_le_mul_left _ (by omega)
        _ = _ := by ac_rfl)
    rw [Nat.one_mul] at this
    exact this
  refine ⟨fn_of_round h (Nat.lt_of_le_of_lt hi (Nat.pow_lt_pow_right (by decide) (by decide))), lo, hi⟩
open Jvm.FP in
theorem own_fac {a b : Int32} {n : Nat} (ha : Ix a n) (hb : Ix b (n + 1)) (n1 : 1 ≤ n) (n2 : n ≤ 16) : Fn (FP.ddiv (FP.i2d a) (FP.i2d b)) ∧ Zm (FP.ddiv (FP.i2d a) (FP.i2d b)) ≤ 121 * 2 ^ 1067 ∧ (cmpValue (FP.dcmp (FP.ddiv (FP.i2d a) (FP.i2d b)) FP.dconst0) .l = 1 ∧ cmpValue (FP.dcmp (FP.ddiv (FP.i2d a) (FP.i2d b)) FP.dconst1) .g = -1) := by
  have h := quo_val ha hb (by omega) (by omega) (by omega) (by omega)
  have hi : Zm (FP.ddiv (FP.i2d a) (FP.i2d b)) ≤ 121 * 2 ^ 1067 := by
    have := quo_leK (c := 121) (k := 1067) (-7) (by decide) h (by omega) (by decide) (by decide) (by decide) (by decide) (by
      have e : (2 : Nat) ^ 1074 = 2 ^ 7 * 2 ^ 1067 := by rw [← Nat.pow_add]
      rw [e]
      generalize (2 : Nat) ^ 1067 = W
      calc n * (2 ^ 7 * W) = (n * 2 ^ 7) * W := by ac_rfl
        _ ≤ (121 * (n + 1)) * W := Nat.mul_le_mul_right _ (by omega)
        _ = _ := by ac_rfl)
    exact this
  have lo : 2 ^ 1073 ≤ Zm (FP.ddiv (FP.i2d a) (FP.i2d b)) := by
    have := quo_geK (c := 1) (k := 1073) (-1) (by decide) h (by omega) (by decide) (by decide) (by decide) (by decide) (by
      have e : (2 : Nat) ^ 1074 = 2 * 2 ^ 1073 := by rw [show (1074 : Nat) = 1 + 1073 from rfl, Nat.pow_add, Nat.pow_one]
      rw [e, Nat.one_mul]
      generalize (2 : Nat) ^ 1073 = W
      calc W * (n + 1) ≤ W * (n * 2) := Nat.mul_le_mul_left _ (by omega)
        _ = _ := by ac_rfl)
    rw [Nat.one_mul] at this
    exact this
  have b1 : 121 * (2 : Nat) ^ 1067 < 2 ^ 1074 := by decide +kernel
  have hF : Fn (FP.ddiv (FP.i2d a) (FP.i2d b)) := fn_of_round h (Nat.lt_of_le_of_lt hi (Nat.lt_trans b1 (Nat.pow_lt_pow_right (by decide) (by decide))))
  refine ⟨hF, hi, (hF.pos (Nat.lt_of_lt_of_le (Nat.pow_pos (by decide)) lo)).1, ?_⟩
  have h1 : Fn FP.dconst1 := ⟨_, _, Core.val64_dconst1⟩
  have z1 : Zm FP.dconst1 = 2 ^ 1074 := by
    show Core.zmag Core.b64 (Core.val64 Core.dconst1) = _
    rw [Core.val64_dconst1]
    show 2 ^ 52 * 2 ^ (-52 - Core.b64.qmin).toNat = _
    rw [qmin64, ← Nat.pow_add]
    rfl
  rw [hF.cmp h1, Nat.compare_eq_lt.mpr (by rw [z1]; exact Nat.lt_of_le_of_lt hi b1)]
  rfl
theorem own_pw : (0 : Nat) < 2 ^ 1066 := Nat.pow_pos (by decide)
theorem own_eq : cmpValue (FP.dcmp 4591870180066957722 4591870180066957722) .l = 0 := by decide +kernel
abbrev QLaw (v : Option Value) (h : Heap) (F : List Addr) : Prop := v = some (.int 1)
set_option maxRecDepth 65536 in
set_option maxHeartbeats 4000000 in
theorem rm_law (l : Launch) (Z : State) (a0 : Array Value) (hw : ∀ d ∈ tables_1, d.before a0 Z = true) (n0 : Nat) (h0 : Heap) (hO : Old Z n0 h0) (ws : List Jvm.Cond) (p0 p1 p2 p3 p4 : Int32) :
    Met l Z [] n0 ws x code maxLocals ret room_1 #[.int p0, .int p1, .int p2, .int p3, .int p4] [] h0 QLaw := by
  have hEL := own_EW hw
  have hn0 : n0 ≤ h0.size := hO.1 ▸ hO.2.1
  refine Met.of (by decide +kernel) hEL hO (Ls := #[.val (.int p0), .val (.int p1), .val (.int p2), .val (.int p3), .val (.int p4), .unset, .unset, .unset, .unset, .unset, .unset, .unset, .unset]) (fun m => by first | (simp [entryFrame, mkF, argsToLocals, Value.category, maxLocals]; done) | rfl) ?_
  obtain ⟨s1, hs1, ls1, us1⟩ := own_s p0
  obtain ⟨t1, ht1, lt1, ut1⟩ := own_d p3
  obtain ⟨s2, hs2, ls2, us2⟩ := own_s p1
  obtain ⟨t2, ht2, lt2, ut2⟩ := own_d p4
  obtain ⟨n, hn, ln, un⟩ := own_n p2
  refine WP.iload_n d0_0 rfl ?_
  refine WP.ldcI (v := (1048575 : Int32)) d0_1 (hw _ (List.mem_of_getElem? (i := 0) rfl)) ?_
  refine WP.iand d0_3 ?_
  refine WP.iconst d0_4 (v := (1 : Int32)) rfl ?_
  refine WP.iadd d0_5 ?_
  refine WP.i2d d0_6 ?_
  refine WP.iload_n d0_7 rfl ?_
  refine WP.sipush d0_8 (v := (255 : Int32)) rfl ?_
  refine WP.iand d0_11 ?_
  refine WP.iconst d0_12 (v := (1 : Int32)) rfl ?_
  refine WP.iadd d0_13 ?_
  refine WP.i2d d0_14 ?_
  have q1 := own_quo hs1 ht1 ls1 us1 lt1 ut1
  refine WP.ddiv d0_15 q1.1.no ?_
  obtain ⟨x26, ex26⟩ : ∃ z : UInt64, (FP.ddiv (FP.i2d ((p0 &&& (1048575 : Int32)) + (1 : Int32))) (FP.i2d ((p3 &&& (255 : Int32)) + (1 : Int32)))) = z := ⟨_, rfl⟩
  refine WP.dstore d0_16 ex26 (Ls' := #[.val (.int p0), .val (.int p1), .val (.int p2), .val (.int p3), .val (.int p4), .val (.double x26), .second, .unset, .unset, .unset, .unset, .unset, .unset]) rfl ?_
  rw [ex26] at q1
  refine WP.iload_n d0_18 rfl ?_
  refine WP.ldcI (v := (1048575 : Int32)) d0_19 (hw _ (List.mem_of_getElem? (i := 0) rfl)) ?_
  refine WP.iand d0_21 ?_
  refine WP.iconst d0_22 (v := (1 : Int32)) rfl ?_
  refine WP.iadd d0_23 ?_
  refine WP.i2d d0_24 ?_
  refine WP.iload d0_25 rfl ?_
  refine WP.sipush d0_27 (v := (255 : Int32)) rfl ?_
  refine WP.iand d0_30 ?_
  refine WP.iconst d0_31 (v := (1 : Int32)) rfl ?_
  refine WP.iadd d0_32 ?_
  refine WP.i2d d0_33 ?_
  have q2 := own_quo hs2 ht2 ls2 us2 lt2 ut2
  refine WP.ddiv d0_34 q2.1.no ?_
  obtain ⟨x27, ex27⟩ : ∃ z : UInt64, (FP.ddiv (FP.i2d ((p1 &&& (1048575 : Int32)) + (1 : Int32))) (FP.i2d ((p4 &&& (255 : Int32)) + (1 : Int32)))) = z := ⟨_, rfl⟩
  refine WP.dstore d0_35 ex27 (Ls' := #[.val (.int p0), .val (.int p1), .val (.int p2), .val (.int p3), .val (.int p4), .val (.double x26), .second, .val (.double x27), .second, .unset, .unset, .unset, .unset]) rfl ?_
  rw [ex27] at q2
  refine WP.iload_n d0_37 rfl ?_
  refine WP.bipush d0_38 (v := (15 : Int32)) rfl ?_
  refine WP.iand d0_40 ?_
  refine WP.iconst d0_41 (v := (1 : Int32)) rfl ?_
  refine WP.iadd d0_42 ?_
  obtain ⟨x28, ex28⟩ : ∃ z : Int32, ((p2 &&& (15 : Int32)) + (1 : Int32)) = z := ⟨_, rfl⟩
  refine WP.istore d0_43 ex28 (Ls' := #[.val (.int p0), .val (.int p1), .val (.int p2), .val (.int p3), .val (.int p4), .val (.double x26), .second, .val (.double x27), .second, .val (.int x28), .unset, .unset, .unset]) rfl ?_
  rw [ex28] at hn
  refine WP.iload d0_45 rfl ?_
  refine WP.i2d d0_47 ?_
  refine WP.iload d0_48 rfl ?_
  refine WP.iconst d0_50 (v := (1 : Int32)) rfl ?_
  refine WP.iadd d0_51 ?_
  refine WP.i2d d0_52 ?_
  have q3 := own_fac hn (Ix.add hn (show Ix 1 1 from rfl) (by omega)) ln un
  refine WP.ddiv d0_53 q3.1.no ?_
  obtain ⟨x29, ex29⟩ : ∃ z : UInt64, (FP.ddiv (FP.i2d x28) (FP.i2d (x28 + (1 : Int32)))) = z := ⟨_, rfl⟩
  refine WP.dstore d0_54 ex29 (Ls' := #[.val (.int p0), .val (.int p1), .val (.int p2), .val (.int p3), .val (.int p4), .val (.double x26), .second, .val (.double x27), .second, .val (.int x28), .val (.double x29), .second, .unset]) rfl ?_
  rw [ex29] at q3
  refine WP.dload d0_56 rfl ?_
  refine WP.dload d0_58 rfl ?_
  refine WP.dload d0_60 rfl ?_
  obtain ⟨N, hN, hr⟩ := runs_ex q1.1 q3.1 q2.1 q1.2.2 q2.2.1 q3.2.1
  refine WP.static (argsL := [(.double x26), (.double x27), (.double x29)]) (rest := []) d0_62 (rm_of l Z a0 hw n0 h0 hO x26 x27 x29 N hN hr (q1.1.pos (Nat.lt_of_lt_of_le own_pw q1.2.1)) (q2.1.pos (Nat.lt_of_lt_of_le own_pw q2.2.1)) q3.2.2) (hw _ (List.mem_of_getElem? (i := 1) rfl)) (hw _ (List.mem_of_getElem? (i := 2) rfl)) (hw _ (List.mem_of_getElem? (i := 3) rfl)) (hw _ (List.mem_of_getElem? (i := 4) rfl)) (by decide) pd_0 rfl rfl rfl (nle rfl) (nle rfl) (nle rfl) (nle rfl) (fun _ q => nomatch q) (fun v h30 F' hq szh30 => ?_)
  obtain ⟨a, rfl, K2, E, Fst, Fen, Fu, Fth, Fsm, Fcp⟩ := hq
  have hO := hO.keep K2 all0
  refine WP.astore d0_65 (Ls' := #[.val (.int p0), .val (.int p1), .val (.int p2), .val (.int p3), .val (.int p4), .val (.double x26), .second, .val (.double x27), .second, .val (.int x28), .val (.double x29), .second, .val (.ref a)]) rfl rfl ?_
  refine WP.aload d0_67 rfl rfl ?_
  refine WP.virtual (a := a) (argsL := []) (rest := []) d0_69 (rm_startTemperature l Z a0 hw n0 h30 hO a x26 Fst) E (hw _ (List.mem_of_getElem? (i := 50) rfl)) (hw _ (List.mem_of_getElem? (i := 51) rfl)) (hw _ (List.mem_of_getElem? (i := 52) rfl)) (hw _ (List.mem_of_getElem? (i := 53) rfl)) (hw _ (List.mem_of_getElem? (i := 3) rfl)) (hw _ (List.mem_of_getElem? (i := 54) rfl)) (hw _ (List.mem_of_getElem? (i := 53) rfl)) (by decide) pd_5 rfl rfl rfl (nle rfl) (nle rfl) (nle rfl) (nle rfl) (fun _ q => nomatch q) (fun v h31 F' hq szh31 => ?_)
  obtain ⟨rfl, hh⟩ := hq
  subst h31
  refine WP.dload d0_72 rfl ?_
  refine WP.dcmp d0_74 (v := 0) q1.1.self ?_
  refine WP.if_ne d0_75 (fun hc75 => False.elim (hc75 rfl)) (fun hc75 => ?_)
  refine WP.aload d0_78 rfl rfl ?_
  refine WP.virtual (a := a) (argsL := []) (rest := []) d0_80 (rm_endTemperature l Z a0 hw n0 h30 hO a x27 Fen) E (hw _ (List.mem_of_getElem? (i := 55) rfl)) (hw _ (List.mem_of_getElem? (i := 56) rfl)) (hw _ (List.mem_of_getElem? (i := 57) rfl)) (hw _ (List.mem_of_getElem? (i := 58) rfl)) (hw _ (List.mem_of_getElem? (i := 3) rfl)) (hw _ (List.mem_of_getElem? (i := 59) rfl)) (hw _ (List.mem_of_getElem? (i := 58) rfl)) (by decide) pd_5 rfl rfl rfl (nle rfl) (nle rfl) (nle rfl) (nle rfl) (fun _ q => nomatch q) (fun v h32 F' hq szh32 => ?_)
  obtain ⟨rfl, hh⟩ := hq
  subst h32
  refine WP.dload d0_83 rfl ?_
  refine WP.dcmp d0_85 (v := 0) q2.1.self ?_
  refine WP.if_ne d0_86 (fun hc86 => False.elim (hc86 rfl)) (fun hc86 => ?_)
  refine WP.aload d0_89 rfl rfl ?_
  refine WP.virtual (a := a) (argsL := []) (rest := []) d0_91 (rm_coolingFactor l Z a0 hw n0 h30 hO a x29 Fu) E (hw _ (List.mem_of_getElem? (i := 60) rfl)) (hw _ (List.mem_of_getElem? (i := 61) rfl)) (hw _ (List.mem_of_getElem? (i := 62) rfl)) (hw _ (List.mem_of_getElem? (i := 63) rfl)) (hw _ (List.mem_of_getElem? (i := 3) rfl)) (hw _ (List.mem_of_getElem? (i := 64) rfl)) (hw _ (List.mem_of_getElem? (i := 63) rfl)) (by decide) pd_5 rfl rfl rfl (nle rfl) (nle rfl) (nle rfl) (nle rfl) (fun _ q => nomatch q) (fun v h33 F' hq szh33 => ?_)
  obtain ⟨rfl, hh⟩ := hq
  subst h33
  refine WP.dload d0_94 rfl ?_
  refine WP.dcmp d0_96 (v := 0) q3.1.self ?_
  refine WP.if_ne d0_97 (fun hc97 => False.elim (hc97 rfl)) (fun hc97 => ?_)
  refine WP.aload d0_100 rfl rfl ?_
  refine WP.virtual (a := a) (argsL := []) (rest := []) d0_102 (rm_equilibriumThreshold l Z a0 hw n0 h30 hO a 4591870180066957722 Fth) E (hw _ (List.mem_of_getElem? (i := 65) rfl)) (hw _ (List.mem_of_getElem? (i := 66) rfl)) (hw _ (List.mem_of_getElem? (i := 67) rfl)) (hw _ (List.mem_of_getElem? (i := 68) rfl)) (hw _ (List.mem_of_getElem? (i := 3) rfl)) (hw _ (List.mem_of_getElem? (i := 69) rfl)) (hw _ (List.mem_of_getElem? (i := 68) rfl)) (by decide) pd_5 rfl rfl rfl (nle rfl) (nle rfl) (nle rfl) (nle rfl) (fun _ q => nomatch q) (fun v h34 F' hq szh34 => ?_)
  obtain ⟨rfl, hh⟩ := hq
  subst h34
  refine WP.ldc2D (v := 4591870180066957722) d0_105 (hw _ (List.mem_of_getElem? (i := 70) rfl)) ?_
  refine WP.dcmp d0_108 (v := 0) own_eq ?_
  refine WP.if_ne d0_109 (fun hc109 => False.elim (hc109 rfl)) (fun hc109 => ?_)
  refine WP.aload d0_112 rfl rfl ?_
  refine WP.virtual (a := a) (argsL := []) (rest := []) d0_114 (rm_equilibriumSample l Z a0 hw n0 h30 hO a (500 : Int32) Fsm) E (hw _ (List.mem_of_getElem? (i := 71) rfl)) (hw _ (List.mem_of_getElem? (i := 72) rfl)) (hw _ (List.mem_of_getElem? (i := 73) rfl)) (hw _ (List.mem_of_getElem? (i := 74) rfl)) (hw _ (List.mem_of_getElem? (i := 3) rfl)) (hw _ (List.mem_of_getElem? (i := 75) rfl)) (hw _ (List.mem_of_getElem? (i := 74) rfl)) (by decide) pd_6 rfl rfl rfl (nle rfl) (nle rfl) (nle rfl) (nle rfl) (fun _ q => nomatch q) (fun v h35 F' hq szh35 => ?_)
  obtain ⟨rfl, hh⟩ := hq
  subst h35
  refine WP.sipush d0_117 (v := (500 : Int32)) rfl ?_
  refine WP.icmp_ne d0_120 (fun hc120 => False.elim (hc120 rfl)) (fun hc120 => ?_)
  refine WP.aload d0_123 rfl rfl ?_
  refine WP.virtual (a := a) (argsL := []) (rest := []) d0_125 (rm_proposalCap l Z a0 hw n0 h30 hO a (5000 : Int32) Fcp) E (hw _ (List.mem_of_getElem? (i := 76) rfl)) (hw _ (List.mem_of_getElem? (i := 77) rfl)) (hw _ (List.mem_of_getElem? (i := 78) rfl)) (hw _ (List.mem_of_getElem? (i := 79) rfl)) (hw _ (List.mem_of_getElem? (i := 3) rfl)) (hw _ (List.mem_of_getElem? (i := 80) rfl)) (hw _ (List.mem_of_getElem? (i := 79) rfl)) (by decide) pd_6 rfl rfl rfl (nle rfl) (nle rfl) (nle rfl) (nle rfl) (fun _ q => nomatch q) (fun v h36 F' hq szh36 => ?_)
  obtain ⟨rfl, hh⟩ := hq
  subst h36
  refine WP.sipush d0_128 (v := (5000 : Int32)) rfl ?_
  refine WP.icmp_ne d0_131 (fun hc131 => False.elim (hc131 rfl)) (fun hc131 => ?_)
  refine WP.iconst d0_134 (v := (1 : Int32)) rfl ?_
  refine WP.goto d0_135 ?_
  exact WP.ireturn d0_139 rfl (t := .boolean) (by simp) rfl (by decide) (by decide) (G := []) (fun _ q => nomatch q) rfl
set_option maxRecDepth 65536 in
set_option maxHeartbeats 4000000 in
theorem comes_1 {Post : Tables → Env → Array Value → State → Outcome → State → Prop} (hpost : ∀ tb e args s v u, (limb_1_1.after args s (.returned v) u = true ∧ limb_1_2.after args s (.returned v) u = true ∧ True) → ReturnedEndW s (.returned v) u (Jvm.fieldLocs frame_1_writes args s ++ Jvm.arrayLocs frame_1_arrays args s ++ Jvm.staticLocs frame_1_statics s) 16 3200 → Post tb e args s (.returned v) u) :
    ArmFor flags0 classFile x code maxLocals ret World_1 tables_1 room_1 Calls_1 rest_1 Pre_1 Post := by
  intro l hfl _ _ p e ha hc hk s m args below hf hA hF happ hP
  obtain ⟨hcalls, hrest, hpre⟩ := hP
  obtain ⟨-, -, -, hnamed, -, -, -, hat⟩ := (Spec.applies_iff hf).mp happ
  obtain ⟨hg, hn⟩ := and_e (Cond.before_iff.mp (show (Jvm.Cond.and given_1 narrow_1).before args s = true from hpre))
  obtain ⟨hcount, hg1⟩ := and_e hg
  obtain ⟨ga0, hg2⟩ := and_e hg1
  obtain ⟨ga1, hg3⟩ := and_e hg2
  obtain ⟨ga2, hg4⟩ := and_e hg3
  obtain ⟨ga3, hg5⟩ := and_e hg4
  have ga4 := hg5
  obtain ⟨w0, w1, w2, w3, w4, rfl⟩ : ∃ w0 w1 w2 w3 w4 : Value, args = #[w0, w1, w2, w3, w4] := by
    have hs : args.size = 5 := by simpa [Cond.value, given_1] using hcount
    obtain ⟨L⟩ := args
    match L, hs with
    | [w0, w1, w2, w3, w4], _ => exact ⟨w0, w1, w2, w3, w4, rfl⟩
  have hw := fun d (hd : d ∈ tables_1) => atoms_spec (ws := Jvm.Cond.code x code maxLocals ret :: tables_1) hat d (List.mem_cons_of_mem _ hd)
  have hfit : Fit s := fun {y c} hc i hi => by
    obtain ⟨ha, rfl⟩ := Array.getElem?_eq_some_iff.mp hc
    have q := List.all_eq_true.mp ((Array.all_eq_true_iff_forall_mem.mp hF) _ (Array.getElem_mem ha)) i (List.mem_range.mpr hi)
    simpa [Array.getElem?_eq_getElem hi] using q
  obtain ⟨i0, ei0⟩ := is_v ga0
  obtain rfl : w0 = (.int i0) := Option.some.inj ei0
  obtain ⟨i1, ei1⟩ := is_v ga1
  obtain rfl : w1 = (.int i1) := Option.some.inj ei1
  obtain ⟨i2, ei2⟩ := is_v ga2
  obtain rfl : w2 = (.int i2) := Option.some.inj ei2
  obtain ⟨i3, ei3⟩ := is_v ga3
  obtain rfl : w3 = (.int i3) := Option.some.inj ei3
  obtain ⟨i4, ei4⟩ := is_v ga4
  obtain rfl : w4 = (.int i4) := Option.some.inj ei4
  have hC : CHv s [] s.vm s.heap := fun p hp => nomatch hp
  obtain ⟨n, o, h1, h2, h3, v, L, rfl, ⟨⟨_, hq, _⟩, N, _⟩, _, hend⟩ := rm_law l s _ hw s.heap.size s.heap (Old.start s) tables_1 i0 i1 i2 i3 i4 p e ha hc hk s m _ below hf ((Spec.applies_iff_loose hf).mp happ).1 ⟨rfl, State.Warmed39.refl s, rfl, hC, fun _ q => nomatch q⟩ (fun q => by have r := q.2; rw [hf] at r; exact r)
  have hq' : v = some (.int 1) := hq
  subst hq'
  exact ⟨n, _, h1, h2, h3, hpost _ _ _ _ _ _ ⟨Cond.after_iff.mpr rfl, Cond.after_iff.mpr (eq_i res_at (Term.int_eval (1)) rfl), trivial⟩ ⟨hend.1, hend.2.1, hend.2.2.1, (hend.2.2.2.sift fun y hy => Or.inr (N y hy)).mono (by decide) (by decide)⟩⟩
theorem main_1_1 : Claimed_1_1 := comes_1 fun _ _ _ _ _ _ h hF => ⟨h.1, hF⟩
theorem main_1_2 : Claimed_1_2 := comes_1 fun _ _ _ _ _ _ h hF => ⟨h.2.1, hF⟩
end Jvm.Pilot.@@N@@
namespace Jvm.Pilot.@@N@@
open Jvm Jvm.ClassFile Sem Op Lib Jvm.Free Jvm.Stand Jvm.Pilot.@@N@@.Jvm.D
/-! MADE BY PROGRAM (witnessworld.py) out of the Statement's table words and the real class files: 15 classes; the members and pool entries that the words name. The judged class is class 1, her method 1. -/
namespace start1
open Jvm.ClassFile
def u (s : String) : CpInfo := .utf8 (stringToUtf16 s)
/-- a pool by its gaps: so many unusable entries, then the entry; so many at the end -/
def gap : Nat → List CpInfo → List CpInfo
  | 0, r => r
  | n + 1, r => .unusable :: gap n r
def poolList (es : List (Nat × CpInfo)) (last : Nat) : List CpInfo := es.foldr (fun e r => gap e.1 (e.2 :: r)) (gap last [])
def pool (es : List (Nat × CpInfo)) (last : Nat) : Array CpInfo := ⟨poolList es last⟩
def fileOf (pool : Array CpInfo) (this : Nat) (attrs : Array Attribute := #[]) (ms : Array MethodInfo := #[]) (fl : Nat := 33) (sup : Nat := 0) (ifs : Array Nat := #[]) (fds : Array FieldInfo := #[]) : ClassFile where
  minorVersion := 0
  majorVersion := 65
  constantPool := pool
  accessFlags := fl
  thisClass := this
  superClass := sup
  interfaces := ifs
  fields := fds
  methods := ms
  attributes := attrs
def plain (name : String) (sup : Option ClassId) : Class where
  name := name
  kind := .ordinary
  loader := none
  accessFlags := 33
  super := sup
  interfaces := #[]
  cf := none
  fields := #[]
  methods := #[]
  instanceTypes := #[]
  staticTypes := #[]
  resolved := #[]
  callSites := []
  init := .initialized
  statics := none
  mirror := none

def pool0 : Array CpInfo := pool [(5, u "<init>"), (0, u "()V"), (1, .class_ 10), (1, u "java/lang/Object")] 113

def k0c0 : Code := { maxStack := 0, maxLocals := 1, code := object_method_1_code, exceptionTable := #[], attributes := #[] }
def k0m0 : Method := { name := "<init>", desc := "()V", sig := { parameters := [], returnType := none }, accessFlags := 1, code := some k0c0 }
/-- java/lang/Object -/
def k0 : Class := { plain "java/lang/Object" none with
  accessFlags := 33
  interfaces := #[]
  cf := some (fileOf pool0 8 #[] #[{ accessFlags := 1, nameIndex := 5, descriptorIndex := 6, attributes := #[] }] 33 0 #[] #[])
  fields := #[]
  methods := #[k0m0]
  instanceTypes := #[]
  staticTypes := #[]
  resolved := Array.replicate 124 none
  statics := none }

def pool1 : Array CpInfo := pool [(2, .class_ 4), (1, u "java/lang/Object"), (0, u "<init>"), (0, u "()V"), (0, .integer 1048575), (0, .methodref 9 10), (0, .class_ 11), (0, .nameAndType 12 13), (0, u "com/example/annealink/annealink/AnnealingSchedule"), (0, u "of"), (0, u "(DDD)Lcom/example/annealink/annealink/AnnealingSchedule;"), (0, .methodref 9 15), (0, .nameAndType 16 17), (0, u "startTemperature"), (0, u "()D"), (0, .methodref 9 19), (0, .nameAndType 20 17), (0, u "endTemperature"), (0, .methodref 9 22), (0, .nameAndType 23 17), (0, u "coolingFactor"), (0, .methodref 9 25), (0, .nameAndType 26 17), (0, u "equilibriumThreshold"), (0, .double 4591870180066957722), (1, .methodref 9 30), (0, .nameAndType 31 32), (0, u "equilibriumSample"), (0, u "()I"), (0, .methodref 9 34), (0, .nameAndType 35 32), (0, u "proposalCap"), (0, .class_ 37), (0, u "com/example/annealink/annealink/AnnealingScheduleOfPinLaw"), (2, u "law"), (0, u "(IIIII)Z")] 3

def k1m0 : Method := { name := "<init>", desc := "()V", sig := { parameters := [], returnType := none }, accessFlags := 1, code := none }
def k1c1 : Code := { maxStack := 6, maxLocals := 13, code := code, exceptionTable := #[], attributes := #[] }
def k1m1 : Method := { name := "law", desc := "(IIIII)Z", sig := { parameters := [.int, .int, .int, .int, .int], returnType := some .boolean }, accessFlags := 9, code := some k1c1 }
/-- com/example/annealink/annealink/AnnealingScheduleOfPinLaw -/
def k1 : Class := { plain "com/example/annealink/annealink/AnnealingScheduleOfPinLaw" (some 0) with
  accessFlags := 49
  interfaces := #[]
  cf := some (fileOf pool1 36 #[] #[{ accessFlags := 1, nameIndex := 5, descriptorIndex := 6, attributes := #[] }, { accessFlags := 9, nameIndex := 40, descriptorIndex := 41, attributes := #[] }] 49 2 #[] #[])
  fields := #[]
  methods := #[k1m0, k1m1]
  instanceTypes := #[]
  staticTypes := #[]
  resolved := Array.replicate 45 none
  statics := none }

def pool2 : Array CpInfo := pool [(1, .methodref 2 3), (0, .class_ 4), (0, .nameAndType 5 6), (0, u "java/lang/Object"), (0, u "<init>"), (0, u "()V"), (0, .class_ 8), (0, u "java/lang/Record")] 13

def k2c0 : Code := { maxStack := 1, maxLocals := 1, code := jdk_30_method_1_code, exceptionTable := #[], attributes := #[] }
def k2m0 : Method := { name := "<init>", desc := "()V", sig := { parameters := [], returnType := none }, accessFlags := 4, code := some k2c0 }
/-- java/lang/Record -/
def k2 : Class := { plain "java/lang/Record" (some 0) with
  accessFlags := 1057
  interfaces := #[]
  cf := some (fileOf pool2 7 #[] #[{ accessFlags := 4, nameIndex := 5, descriptorIndex := 6, attributes := #[] }] 1057 2 #[] #[])
  fields := #[]
  methods := #[k2m0]
  instanceTypes := #[]
  staticTypes := #[]
  resolved := Array.replicate 22 none
  statics := none }

def pool3 : Array CpInfo := pool [(1, .methodref 2 3), (0, .class_ 4), (0, .nameAndType 5 6), (0, u "java/lang/Record"), (0, u "<init>"), (0, u "()V"), (0, .string 8), (0, u "the start temperature C0"), (0, .methodref 10 11), (0, .class_ 12), (0, .nameAndType 13 14), (0, u "com/example/annealink/annealink/AnnealingSchedule"), (0, u "requirePositive"), (0, u "(Ljava/lang/String;D)V"), (0, .string 16), (0, u "the end temperature Cf"), (9, .long 1000001), (1, .methodref 10 29), (0, .nameAndType 30 31), (0, u "temperaturesUpTo"), (0, u "(DDDJ)J"), (0, .long 1000000), (4, .string 38), (0, u "the equilibrium threshold"), (3, .fieldref 10 43), (0, .nameAndType 44 45), (0, u "startTemperature"), (0, u "D"), (0, .fieldref 10 47), (0, .nameAndType 48 45), (0, u "endTemperature"), (0, .fieldref 10 50), (0, .nameAndType 51 45), (0, u "coolingFactor"), (0, .fieldref 10 53), (0, .nameAndType 54 45), (0, u "equilibriumThreshold"), (0, .fieldref 10 56), (0, .nameAndType 57 58), (0, u "equilibriumSample"), (0, u "I"), (0, .fieldref 10 60), (0, .nameAndType 61 58), (0, u "proposalCap"), (0, .double 4591870180066957722), (1, .methodref 10 65), (0, .nameAndType 5 66), (0, u "(DDDDII)V"), (2, .double 9218868437227405312), (22, u "of"), (0, u "(DDD)Lcom/example/annealink/annealink/AnnealingSchedule;"), (2, u "DEFAULT"), (0, u "Lcom/example/annealink/annealink/AnnealingSchedule;"), (0, u "DEFAULT_EQUILIBRIUM_THRESHOLD"), (1, u "DEFAULT_EQUILIBRIUM_SAMPLE"), (1, u "DEFAULT_PROPOSAL_CAP"), (1, u "MAX_TEMPERATURE_COUNT"), (8, u "()I"), (1, u "()D")] 40

def k3c0 : Code := { maxStack := 8, maxLocals := 11, code := prog_1_method_1_code, exceptionTable := #[], attributes := #[] }
def k3m0 : Method := { name := "<init>", desc := "(DDDDII)V", sig := { parameters := [.double, .double, .double, .double, .int, .int], returnType := none }, accessFlags := 1, code := some k3c0 }
def k3c1 : Code := { maxStack := 12, maxLocals := 6, code := prog_1_method_2_code, exceptionTable := #[], attributes := #[] }
def k3m1 : Method := { name := "of", desc := "(DDD)Lcom/example/annealink/annealink/AnnealingSchedule;", sig := { parameters := [.double, .double, .double], returnType := some (.object "com/example/annealink/annealink/AnnealingSchedule") }, accessFlags := 9, code := some k3c1 }
def k3c2 : Code := { maxStack := 4, maxLocals := 12, code := prog_1_method_4_code, exceptionTable := #[], attributes := #[] }
def k3m2 : Method := { name := "temperaturesUpTo", desc := "(DDDJ)J", sig := { parameters := [.double, .double, .double, .long], returnType := some .long }, accessFlags := 10, code := some k3c2 }
def k3c3 : Code := { maxStack := 5, maxLocals := 3, code := prog_1_method_5_code, exceptionTable := #[], attributes := #[] }
def k3m3 : Method := { name := "requirePositive", desc := "(Ljava/lang/String;D)V", sig := { parameters := [(.object "java/lang/String"), .double], returnType := none }, accessFlags := 10, code := some k3c3 }
def k3c4 : Code := { maxStack := 2, maxLocals := 1, code := prog_1_method_9_code, exceptionTable := #[], attributes := #[] }
def k3m4 : Method := { name := "startTemperature", desc := "()D", sig := { parameters := [], returnType := some .double }, accessFlags := 1, code := some k3c4 }
def k3c5 : Code := { maxStack := 2, maxLocals := 1, code := prog_1_method_10_code, exceptionTable := #[], attributes := #[] }
def k3m5 : Method := { name := "endTemperature", desc := "()D", sig := { parameters := [], returnType := some .double }, accessFlags := 1, code := some k3c5 }
def k3c6 : Code := { maxStack := 2, maxLocals := 1, code := prog_1_method_11_code, exceptionTable := #[], attributes := #[] }
def k3m6 : Method := { name := "coolingFactor", desc := "()D", sig := { parameters := [], returnType := some .double }, accessFlags := 1, code := some k3c6 }
def k3c7 : Code := { maxStack := 2, maxLocals := 1, code := prog_1_method_12_code, exceptionTable := #[], attributes := #[] }
def k3m7 : Method := { name := "equilibriumThreshold", desc := "()D", sig := { parameters := [], returnType := some .double }, accessFlags := 1, code := some k3c7 }
def k3c8 : Code := { maxStack := 1, maxLocals := 1, code := prog_1_method_13_code, exceptionTable := #[], attributes := #[] }
def k3m8 : Method := { name := "equilibriumSample", desc := "()I", sig := { parameters := [], returnType := some .int }, accessFlags := 1, code := some k3c8 }
def k3c9 : Code := { maxStack := 1, maxLocals := 1, code := prog_1_method_14_code, exceptionTable := #[], attributes := #[] }
def k3m9 : Method := { name := "proposalCap", desc := "()I", sig := { parameters := [], returnType := some .int }, accessFlags := 1, code := some k3c9 }
/-- com/example/annealink/annealink/AnnealingSchedule -/
def k3 : Class := { plain "com/example/annealink/annealink/AnnealingSchedule" (some 2) with
  accessFlags := 49
  interfaces := #[]
  cf := some (fileOf pool3 10 #[] #[{ accessFlags := 1, nameIndex := 5, descriptorIndex := 66, attributes := #[] }, { accessFlags := 9, nameIndex := 92, descriptorIndex := 93, attributes := #[] }, { accessFlags := 10, nameIndex := 30, descriptorIndex := 31, attributes := #[] }, { accessFlags := 10, nameIndex := 13, descriptorIndex := 14, attributes := #[] }, { accessFlags := 1, nameIndex := 44, descriptorIndex := 115, attributes := #[] }, { accessFlags := 1, nameIndex := 48, descriptorIndex := 115, attributes := #[] }, { accessFlags := 1, nameIndex := 51, descriptorIndex := 115, attributes := #[] }, { accessFlags := 1, nameIndex := 54, descriptorIndex := 115, attributes := #[] }, { accessFlags := 1, nameIndex := 57, descriptorIndex := 113, attributes := #[] }, { accessFlags := 1, nameIndex := 61, descriptorIndex := 113, attributes := #[] }] 49 2 #[] #[{ accessFlags := 18, nameIndex := 44, descriptorIndex := 45, attributes := #[] }, { accessFlags := 18, nameIndex := 48, descriptorIndex := 45, attributes := #[] }, { accessFlags := 18, nameIndex := 51, descriptorIndex := 45, attributes := #[] }, { accessFlags := 18, nameIndex := 54, descriptorIndex := 45, attributes := #[] }, { accessFlags := 18, nameIndex := 57, descriptorIndex := 58, attributes := #[] }, { accessFlags := 18, nameIndex := 61, descriptorIndex := 58, attributes := #[] }, { accessFlags := 25, nameIndex := 98, descriptorIndex := 45, attributes := #[] }, { accessFlags := 25, nameIndex := 100, descriptorIndex := 58, attributes := #[] }, { accessFlags := 25, nameIndex := 102, descriptorIndex := 58, attributes := #[] }, { accessFlags := 25, nameIndex := 104, descriptorIndex := 58, attributes := #[] }, { accessFlags := 25, nameIndex := 96, descriptorIndex := 97, attributes := #[] }])
  fields := #[{ name := "startTemperature", type := .double, accessFlags := 18, slot := 0, constantValue := 0 }, { name := "endTemperature", type := .double, accessFlags := 18, slot := 1, constantValue := 0 }, { name := "coolingFactor", type := .double, accessFlags := 18, slot := 2, constantValue := 0 }, { name := "equilibriumThreshold", type := .double, accessFlags := 18, slot := 3, constantValue := 0 }, { name := "equilibriumSample", type := .int, accessFlags := 18, slot := 4, constantValue := 0 }, { name := "proposalCap", type := .int, accessFlags := 18, slot := 5, constantValue := 0 }, { name := "DEFAULT_EQUILIBRIUM_THRESHOLD", type := .double, accessFlags := 25, slot := 0, constantValue := 0 }, { name := "DEFAULT_EQUILIBRIUM_SAMPLE", type := .int, accessFlags := 25, slot := 1, constantValue := 0 }, { name := "DEFAULT_PROPOSAL_CAP", type := .int, accessFlags := 25, slot := 2, constantValue := 0 }, { name := "MAX_TEMPERATURE_COUNT", type := .int, accessFlags := 25, slot := 3, constantValue := 0 }, { name := "DEFAULT", type := (.object "com/example/annealink/annealink/AnnealingSchedule"), accessFlags := 25, slot := 4, constantValue := 0 }]
  methods := #[k3m0, k3m1, k3m2, k3m3, k3m4, k3m5, k3m6, k3m7, k3m8, k3m9]
  instanceTypes := #[.double, .double, .double, .double, .int, .int]
  staticTypes := #[.double, .int, .int, .int, (.object "com/example/annealink/annealink/AnnealingSchedule")]
  resolved := Array.replicate 156 none
  statics := none }

def pool4 : Array CpInfo := pool [(1, .class_ 2), (0, u "java/io/Serializable"), (0, .class_ 4), (0, u "java/lang/Object")] 2

/-- java/io/Serializable -/
def k4 : Class := { plain "java/io/Serializable" (some 0) with
  accessFlags := 1537
  interfaces := #[]
  cf := some (fileOf pool4 1 #[] #[] 1537 3 #[] #[])
  fields := #[]
  methods := #[]
  instanceTypes := #[]
  staticTypes := #[]
  resolved := Array.replicate 7 none
  statics := none }

def pool5 : Array CpInfo := pool [(1, .class_ 2), (0, u "java/lang/Comparable"), (0, .class_ 4), (0, u "java/lang/Object")] 7

/-- java/lang/Comparable -/
def k5 : Class := { plain "java/lang/Comparable" (some 0) with
  accessFlags := 1537
  interfaces := #[]
  cf := some (fileOf pool5 1 #[] #[] 1537 3 #[] #[])
  fields := #[]
  methods := #[]
  instanceTypes := #[]
  staticTypes := #[]
  resolved := Array.replicate 12 none
  statics := none }

def pool6 : Array CpInfo := pool [(2, .class_ 4), (1, u "java/lang/CharSequence"), (42, .class_ 48), (0, u "java/lang/CharSequence$1CodePointIterator"), (10, .class_ 60), (0, u "java/lang/CharSequence$1CharIterator"), (5, .class_ 67), (0, u "java/lang/Object")] 63

/-- java/lang/CharSequence -/
def k6 : Class := { plain "java/lang/CharSequence" (some 0) with
  accessFlags := 1537
  interfaces := #[]
  cf := some (fileOf pool6 2 #[.nestMembers #[47, 59]] #[] 1537 66 #[] #[])
  fields := #[]
  methods := #[]
  instanceTypes := #[]
  staticTypes := #[]
  resolved := Array.replicate 131 none
  statics := none }

def pool7 : Array CpInfo := pool [(1, .class_ 2), (0, u "java/lang/constant/Constable"), (0, .class_ 4), (0, u "java/lang/Object")] 6

/-- java/lang/constant/Constable -/
def k7 : Class := { plain "java/lang/constant/Constable" (some 0) with
  accessFlags := 1537
  interfaces := #[]
  cf := some (fileOf pool7 1 #[] #[] 1537 3 #[] #[])
  fields := #[]
  methods := #[]
  instanceTypes := #[]
  staticTypes := #[]
  resolved := Array.replicate 11 none
  statics := none }

def pool8 : Array CpInfo := pool [(1, .class_ 2), (0, u "java/lang/constant/ConstantDesc"), (0, .class_ 4), (0, u "java/lang/Object")] 32

/-- java/lang/constant/ConstantDesc -/
def k8 : Class := { plain "java/lang/constant/ConstantDesc" (some 0) with
  accessFlags := 1537
  interfaces := #[]
  cf := some (fileOf pool8 1 #[] #[] 1537 3 #[] #[])
  fields := #[]
  methods := #[]
  instanceTypes := #[]
  staticTypes := #[]
  resolved := Array.replicate 37 none
  statics := none }

def pool9 : Array CpInfo := pool [(2, .class_ 4), (1, u "java/lang/Object"), (0, u "<init>"), (0, u "()V"), (3, .class_ 12), (1, u "java/lang/String"), (0, u "value"), (0, u "[B"), (2, u "coder"), (0, u "B"), (2, u "hash"), (0, u "I"), (2, u "hashIsZero"), (0, u "Z"), (13, u "COMPACT_STRINGS"), (534, .class_ 576), (0, u "java/lang/CharSequence"), (22, u "CASE_INSENSITIVE_ORDER"), (0, u "Ljava/util/Comparator;"), (500, u "serialPersistentFields"), (0, u "[Ljava/io/ObjectStreamField;"), (0, .class_ 1104), (0, u "java/lang/String$CaseInsensitiveComparator"), (1, .class_ 1107), (0, u "java/io/Serializable"), (0, .class_ 1109), (0, u "java/lang/Comparable"), (0, .class_ 1111), (0, u "java/lang/constant/Constable"), (0, .class_ 1113), (0, u "java/lang/constant/ConstantDesc"), (2, u "serialVersionUID"), (0, u "J"), (3, u "REPL"), (0, u "C"), (2, u "LATIN1"), (1, u "UTF16")] 323

def k9m0 : Method := { name := "<init>", desc := "()V", sig := { parameters := [], returnType := none }, accessFlags := 1, code := none }
/-- java/lang/String -/
def k9 : Class := { plain "java/lang/String" (some 0) with
  accessFlags := 49
  interfaces := #[4, 5, 6, 7, 8]
  cf := some (fileOf pool9 10 #[.nestMembers #[1103]] #[{ accessFlags := 1, nameIndex := 5, descriptorIndex := 6, attributes := #[] }] 49 2 #[1106, 1108, 575, 1110, 1112] #[{ accessFlags := 18, nameIndex := 13, descriptorIndex := 14, attributes := #[] }, { accessFlags := 18, nameIndex := 17, descriptorIndex := 18, attributes := #[] }, { accessFlags := 2, nameIndex := 21, descriptorIndex := 22, attributes := #[] }, { accessFlags := 2, nameIndex := 25, descriptorIndex := 26, attributes := #[] }, { accessFlags := 26, nameIndex := 1116, descriptorIndex := 1117, attributes := #[] }, { accessFlags := 24, nameIndex := 40, descriptorIndex := 26, attributes := #[] }, { accessFlags := 26, nameIndex := 1101, descriptorIndex := 1102, attributes := #[] }, { accessFlags := 26, nameIndex := 1121, descriptorIndex := 1122, attributes := #[] }, { accessFlags := 25, nameIndex := 599, descriptorIndex := 600, attributes := #[] }, { accessFlags := 24, nameIndex := 1125, descriptorIndex := 18, attributes := #[] }, { accessFlags := 24, nameIndex := 1127, descriptorIndex := 18, attributes := #[] }])
  fields := #[{ name := "value", type := (.array .byte), accessFlags := 18, slot := 0, constantValue := 0 }, { name := "coder", type := .byte, accessFlags := 18, slot := 1, constantValue := 0 }, { name := "hash", type := .int, accessFlags := 2, slot := 2, constantValue := 0 }, { name := "hashIsZero", type := .boolean, accessFlags := 2, slot := 3, constantValue := 0 }, { name := "serialVersionUID", type := .long, accessFlags := 26, slot := 0, constantValue := 0 }, { name := "COMPACT_STRINGS", type := .boolean, accessFlags := 24, slot := 1, constantValue := 0 }, { name := "serialPersistentFields", type := (.array (.object "java/io/ObjectStreamField")), accessFlags := 26, slot := 2, constantValue := 0 }, { name := "REPL", type := .char, accessFlags := 26, slot := 3, constantValue := 0 }, { name := "CASE_INSENSITIVE_ORDER", type := (.object "java/util/Comparator"), accessFlags := 25, slot := 4, constantValue := 0 }, { name := "LATIN1", type := .byte, accessFlags := 24, slot := 5, constantValue := 0 }, { name := "UTF16", type := .byte, accessFlags := 24, slot := 6, constantValue := 0 }]
  methods := #[k9m0]
  instanceTypes := #[(.array .byte), .byte, .int, .boolean]
  staticTypes := #[.long, .boolean, (.array (.object "java/io/ObjectStreamField")), .char, (.object "java/util/Comparator"), .byte, .byte]
  resolved := Array.replicate 1451 none
  statics := none }

def pool10 : Array CpInfo := pool [(1, u "java/lang/Cloneable"), (0, .class_ 1), (0, u "java/lang/Object"), (0, .class_ 3)] 3

/-- java/lang/Cloneable -/
def k10 : Class := { plain "java/lang/Cloneable" (some 0) with
  accessFlags := 1537
  interfaces := #[]
  cf := some (fileOf pool10 2 #[] #[] 1537 4 #[] #[])
  fields := #[]
  methods := #[]
  instanceTypes := #[]
  staticTypes := #[]
  resolved := Array.replicate 8 none
  statics := none }

/-- the primitive byte -/
def k11 : Class := { plain "byte" none with kind := .primitive 'B', accessFlags := 0x411 }
/-- [B -/
def k12 : Class := { plain "[B" (some 0) with kind := .array 11 .byte, interfaces := #[10, 4], accessFlags := 1041 }

/-- the primitive int -/
def k13 : Class := { plain "int" none with kind := .primitive 'I', accessFlags := 0x411 }
/-- [I -/
def k14 : Class := { plain "[I" (some 0) with kind := .array 13 .int, interfaces := #[10, 4], accessFlags := 1041 }

def heap : Heap := #[]
def classes : Array Class := #[k0, k1, k2, k3, k4, k5, k6, k7, k8, k9, k10, k11, k12, k13, k14]
def interned : List (Array UInt16 × Addr) := []
def slotsUsed : Nat := 0
def theMethod : MethodId := ⟨1, 1⟩
def args0 : Array Value := #[.int 5, .int 7, .int 9, .int 1, .int 3]
def aboutOver (below : List Frame) : State where
  vm := { classes := classes, interned := interned.toArray }
  heap := heap
  slotsUsed := slotsUsed
  threads := #[{ frames := .invoking theMethod args0 :: below }]
def below0 : List Frame := [.native { method := ⟨0, 0⟩, args := #[] }]
def about1 : State := aboutOver below0
def p0 : Program := .bare "" "" ""
def e0 : Env := launch0.env 0 0 0
theorem w_frames : about1.frames = Frame.invoking theMethod args0 :: below0 := rfl
set_option maxRecDepth 65536 in
theorem w_args : argsFit about1.vm theMethod args0 = true := by decide +kernel
set_option maxRecDepth 65536 in
theorem w_heap : heapFits about1 = true := by decide +kernel
set_option maxRecDepth 65536 in
theorem w_runnable : about1.curStatus? = some .runnable := by decide +kernel
set_option maxRecDepth 65536 in
theorem w_alone : about1.alone = true := by decide +kernel
set_option maxRecDepth 65536 in
theorem w_named : about1.methodNamed? x = some theMethod := by decide +kernel
set_option maxRecDepth 65536 in
theorem w_hears : about1.hears theMethod below0 = true := by decide +kernel
set_option maxRecDepth 65536 in
theorem w_ripe : about1.ripe theMethod args0 below0 = true := by decide +kernel
theorem w_running : about1.status = .running := rfl
set_option maxRecDepth 65536 in
theorem w_room : about1.hasRoom e0.platform room_1 = true :=
  launch0.hasRoom_least _ room_1 (by decide +kernel) (by decide +kernel) (by decide +kernel) (by decide +kernel) (by decide +kernel) (by decide +kernel)
theorem allAtoms_all (ts : List Jvm.Cond) (a : Array Jvm.Value) (st : Jvm.State) : (allAtoms ts).before a st = ts.all (fun c => c.before a st) := by
  induction ts with
  | nil => rfl
  | cons c t ih =>
    show (Jvm.Cond.and c (allAtoms t)).before a st = _
    rw [Jvm.Cond.before_and, ih, List.all_cons]
def words1 : List Jvm.Cond := Jvm.Cond.code x code maxLocals ret :: tables_1
/-- a 'code' word, met by the world's own term for the bytes: nothing is compared byte by byte -/
theorem code_word {y : MethodName} {bytes : ByteArray} {mx : Nat} {rt : Option FieldType} {a : Array Value} {s : State} {m : MethodId} {meth : Method} {c : Code} (h1 : s.methodNamed? y = some m) (h2 : s.vm.method? m = some meth) (h3 : meth.code = some c) (h4 : c.code = bytes)
    (h5 : (c.maxLocals == mx && c.exceptionTable.isEmpty && decide (c.maxStack ≤ mostOperands) && decide (meth.sig.returnType = rt) && !meth.locks && decide (parseMethodDescriptor y.desc = some meth.sig)) = true) : (Jvm.Cond.code y bytes mx rt).before a s = true := by
  simp only [Bool.and_eq_true, beq_iff_eq, Bool.not_eq_true', decide_eq_true_eq] at h5
  obtain ⟨⟨⟨⟨⟨g1, g2⟩, g3⟩, g4⟩, g5⟩, g6⟩ := h5
  simp [Cond.before, Cond.holds, Cond.value, h1, h2, h3, h4, g1, g2, g3, g4, g5, g6]
def isCode : Jvm.Cond → Bool
  | .code _ _ _ _ => true
  | _ => false
theorem all_split {L : List Jvm.Cond} {P : Jvm.Cond → Bool} (h1 : L.all (fun c => isCode c || P c) = true) (h2 : ∀ c ∈ L.filter isCode, P c = true) : L.all P = true := by
  refine List.all_eq_true.mpr fun c hc => ?_
  have h := List.all_eq_true.mp h1 c hc
  rcases Bool.eq_false_or_eq_true (isCode c) with hi | hi
  · exact h2 c (List.mem_filter.mpr ⟨hc, hi⟩)
  · simpa [hi] using h
set_option maxRecDepth 65536 in
theorem w_c0 : (Jvm.Cond.code x code maxLocals ret).before args0 about1 = true := code_word (m := ⟨1, 1⟩) (meth := k1m1) (c := k1c1) (by decide +kernel) rfl rfl rfl (by decide +kernel)
set_option maxRecDepth 65536 in
theorem w_c1 : (Jvm.Cond.code ({ cls := "com/example/annealink/annealink/AnnealingSchedule", name := "of", desc := "(DDD)Lcom/example/annealink/annealink/AnnealingSchedule;" } : Jvm.MethodName) prog_1_method_2_code (6 : Nat) (Option.some (Jvm.ClassFile.FieldType.object "com/example/annealink/annealink/AnnealingSchedule"))).before args0 about1 = true := code_word (m := ⟨3, 1⟩) (meth := k3m1) (c := k3c1) (by decide +kernel) rfl rfl rfl (by decide +kernel)
set_option maxRecDepth 65536 in
theorem w_c2 : (Jvm.Cond.code ({ cls := "com/example/annealink/annealink/AnnealingSchedule", name := "<init>", desc := "(DDDDII)V" } : Jvm.MethodName) prog_1_method_1_code (11 : Nat) (Option.none : Option Jvm.ClassFile.FieldType)).before args0 about1 = true := code_word (m := ⟨3, 0⟩) (meth := k3m0) (c := k3c0) (by decide +kernel) rfl rfl rfl (by decide +kernel)
set_option maxRecDepth 65536 in
theorem w_c3 : (Jvm.Cond.code ({ cls := "java/lang/Record", name := "<init>", desc := "()V" } : Jvm.MethodName) jdk_30_method_1_code (1 : Nat) (Option.none : Option Jvm.ClassFile.FieldType)).before args0 about1 = true := code_word (m := ⟨2, 0⟩) (meth := k2m0) (c := k2c0) (by decide +kernel) rfl rfl rfl (by decide +kernel)
set_option maxRecDepth 65536 in
theorem w_c4 : (Jvm.Cond.code ({ cls := "java/lang/Object", name := "<init>", desc := "()V" } : Jvm.MethodName) object_method_1_code (1 : Nat) (Option.none : Option Jvm.ClassFile.FieldType)).before args0 about1 = true := code_word (m := ⟨0, 0⟩) (meth := k0m0) (c := k0c0) (by decide +kernel) rfl rfl rfl (by decide +kernel)
set_option maxRecDepth 65536 in
theorem w_c5 : (Jvm.Cond.code ({ cls := "com/example/annealink/annealink/AnnealingSchedule", name := "requirePositive", desc := "(Ljava/lang/String;D)V" } : Jvm.MethodName) prog_1_method_5_code (3 : Nat) (Option.none : Option Jvm.ClassFile.FieldType)).before args0 about1 = true := code_word (m := ⟨3, 3⟩) (meth := k3m3) (c := k3c3) (by decide +kernel) rfl rfl rfl (by decide +kernel)
set_option maxRecDepth 65536 in
theorem w_c6 : (Jvm.Cond.code ({ cls := "com/example/annealink/annealink/AnnealingSchedule", name := "temperaturesUpTo", desc := "(DDDJ)J" } : Jvm.MethodName) prog_1_method_4_code (12 : Nat) (Option.some Jvm.ClassFile.FieldType.long)).before args0 about1 = true := code_word (m := ⟨3, 2⟩) (meth := k3m2) (c := k3c2) (by decide +kernel) rfl rfl rfl (by decide +kernel)
set_option maxRecDepth 65536 in
theorem w_c7 : (Jvm.Cond.code ({ cls := "com/example/annealink/annealink/AnnealingSchedule", name := "startTemperature", desc := "()D" } : Jvm.MethodName) prog_1_method_9_code (1 : Nat) (Option.some Jvm.ClassFile.FieldType.double)).before args0 about1 = true := code_word (m := ⟨3, 4⟩) (meth := k3m4) (c := k3c4) (by decide +kernel) rfl rfl rfl (by decide +kernel)
set_option maxRecDepth 65536 in
theorem w_c8 : (Jvm.Cond.code ({ cls := "com/example/annealink/annealink/AnnealingSchedule", name := "endTemperature", desc := "()D" } : Jvm.MethodName) prog_1_method_10_code (1 : Nat) (Option.some Jvm.ClassFile.FieldType.double)).before args0 about1 = true := code_word (m := ⟨3, 5⟩) (meth := k3m5) (c := k3c5) (by decide +kernel) rfl rfl rfl (by decide +kernel)
set_option maxRecDepth 65536 in
theorem w_c9 : (Jvm.Cond.code ({ cls := "com/example/annealink/annealink/AnnealingSchedule", name := "coolingFactor", desc := "()D" } : Jvm.MethodName) prog_1_method_11_code (1 : Nat) (Option.some Jvm.ClassFile.FieldType.double)).before args0 about1 = true := code_word (m := ⟨3, 6⟩) (meth := k3m6) (c := k3c6) (by decide +kernel) rfl rfl rfl (by decide +kernel)
set_option maxRecDepth 65536 in
theorem w_c10 : (Jvm.Cond.code ({ cls := "com/example/annealink/annealink/AnnealingSchedule", name := "equilibriumThreshold", desc := "()D" } : Jvm.MethodName) prog_1_method_12_code (1 : Nat) (Option.some Jvm.ClassFile.FieldType.double)).before args0 about1 = true := code_word (m := ⟨3, 7⟩) (meth := k3m7) (c := k3c7) (by decide +kernel) rfl rfl rfl (by decide +kernel)
set_option maxRecDepth 65536 in
theorem w_c11 : (Jvm.Cond.code ({ cls := "com/example/annealink/annealink/AnnealingSchedule", name := "equilibriumSample", desc := "()I" } : Jvm.MethodName) prog_1_method_13_code (1 : Nat) (Option.some Jvm.ClassFile.FieldType.int)).before args0 about1 = true := code_word (m := ⟨3, 8⟩) (meth := k3m8) (c := k3c8) (by decide +kernel) rfl rfl rfl (by decide +kernel)
set_option maxRecDepth 65536 in
theorem w_c12 : (Jvm.Cond.code ({ cls := "com/example/annealink/annealink/AnnealingSchedule", name := "proposalCap", desc := "()I" } : Jvm.MethodName) prog_1_method_14_code (1 : Nat) (Option.some Jvm.ClassFile.FieldType.int)).before args0 about1 = true := code_word (m := ⟨3, 9⟩) (meth := k3m9) (c := k3c9) (by decide +kernel) rfl rfl rfl (by decide +kernel)
def codes1 : List Jvm.Cond := [Jvm.Cond.code x code maxLocals ret, Jvm.Cond.code ({ cls := "com/example/annealink/annealink/AnnealingSchedule", name := "of", desc := "(DDD)Lcom/example/annealink/annealink/AnnealingSchedule;" } : Jvm.MethodName) prog_1_method_2_code (6 : Nat) (Option.some (Jvm.ClassFile.FieldType.object "com/example/annealink/annealink/AnnealingSchedule")), Jvm.Cond.code ({ cls := "com/example/annealink/annealink/AnnealingSchedule", name := "<init>", desc := "(DDDDII)V" } : Jvm.MethodName) prog_1_method_1_code (11 : Nat) (Option.none : Option Jvm.ClassFile.FieldType), Jvm.Cond.code ({ cls := "java/lang/Record", name := "<init>", desc := "()V" } : Jvm.MethodName) jdk_30_method_1_code (1 : Nat) (Option.none : Option Jvm.ClassFile.FieldType), Jvm.Cond.code ({ cls := "java/lang/Object", name := "<init>", desc := "()V" } : Jvm.MethodName) object_method_1_code (1 : Nat) (Option.none : Option Jvm.ClassFile.FieldType), Jvm.Cond.code ({ cls := "com/example/annealink/annealink/AnnealingSchedule", name := "requirePositive", desc := "(Ljava/lang/String;D)V" } : Jvm.MethodName) prog_1_method_5_code (3 : Nat) (Option.none : Option Jvm.ClassFile.FieldType), Jvm.Cond.code ({ cls := "com/example/annealink/annealink/AnnealingSchedule", name := "temperaturesUpTo", desc := "(DDDJ)J" } : Jvm.MethodName) prog_1_method_4_code (12 : Nat) (Option.some Jvm.ClassFile.FieldType.long), Jvm.Cond.code ({ cls := "com/example/annealink/annealink/AnnealingSchedule", name := "startTemperature", desc := "()D" } : Jvm.MethodName) prog_1_method_9_code (1 : Nat) (Option.some Jvm.ClassFile.FieldType.double), Jvm.Cond.code ({ cls := "com/example/annealink/annealink/AnnealingSchedule", name := "endTemperature", desc := "()D" } : Jvm.MethodName) prog_1_method_10_code (1 : Nat) (Option.some Jvm.ClassFile.FieldType.double), Jvm.Cond.code ({ cls := "com/example/annealink/annealink/AnnealingSchedule", name := "coolingFactor", desc := "()D" } : Jvm.MethodName) prog_1_method_11_code (1 : Nat) (Option.some Jvm.ClassFile.FieldType.double), Jvm.Cond.code ({ cls := "com/example/annealink/annealink/AnnealingSchedule", name := "equilibriumThreshold", desc := "()D" } : Jvm.MethodName) prog_1_method_12_code (1 : Nat) (Option.some Jvm.ClassFile.FieldType.double), Jvm.Cond.code ({ cls := "com/example/annealink/annealink/AnnealingSchedule", name := "equilibriumSample", desc := "()I" } : Jvm.MethodName) prog_1_method_13_code (1 : Nat) (Option.some Jvm.ClassFile.FieldType.int), Jvm.Cond.code ({ cls := "com/example/annealink/annealink/AnnealingSchedule", name := "proposalCap", desc := "()I" } : Jvm.MethodName) prog_1_method_14_code (1 : Nat) (Option.some Jvm.ClassFile.FieldType.int)]
set_option maxRecDepth 65536 in
theorem codes_eq : words1.filter isCode = codes1 := rfl
theorem w_codes : ∀ c ∈ words1.filter isCode, c.before args0 about1 = true := by
  rw [codes_eq]
  intro c hc
  simp only [codes1, List.mem_cons, List.not_mem_nil, or_false] at hc
  rcases hc with rfl | rfl | rfl | rfl | rfl | rfl | rfl | rfl | rfl | rfl | rfl | rfl | rfl
  · exact w_c0
  · exact w_c1
  · exact w_c2
  · exact w_c3
  · exact w_c4
  · exact w_c5
  · exact w_c6
  · exact w_c7
  · exact w_c8
  · exact w_c9
  · exact w_c10
  · exact w_c11
  · exact w_c12
set_option maxRecDepth 65536 in
theorem w_t1 : (words1.take 24).all (fun c => isCode c || c.before args0 about1) = true := by decide +kernel
set_option maxRecDepth 65536 in
theorem w_t2 : ((words1.drop 24).take 24).all (fun c => isCode c || c.before args0 about1) = true := by decide +kernel
set_option maxRecDepth 65536 in
theorem w_t3 : (((words1.drop 24).drop 24).take 24).all (fun c => isCode c || c.before args0 about1) = true := by decide +kernel
set_option maxRecDepth 65536 in
theorem w_t4 : (((words1.drop 24).drop 24).drop 24).all (fun c => isCode c || c.before args0 about1) = true := by decide +kernel
theorem w_tables : (allAtoms (Jvm.Cond.code x code maxLocals ret :: tables_1)).before args0 about1 = true := by
  rw [allAtoms_all]
  show words1.all (fun c => c.before args0 about1) = true
  refine all_split ?_ w_codes
  rw [← List.take_append_drop 24 words1, List.all_append, w_t1, ← List.take_append_drop 24 (words1.drop 24), List.all_append, w_t2, ← List.take_append_drop 24 ((words1.drop 24).drop 24), List.all_append, w_t3, w_t4]
  rfl
set_option maxRecDepth 65536 in
theorem w_case : (Jvm.Cond.and given_1 narrow_1).before args0 about1 = true := by decide +kernel
theorem w_applies : (headSpec (Jvm.Cond.code x code maxLocals ret :: tables_1) room_1).applies x e0.platform about1 = true :=
  (Spec.applies_iff w_frames).mpr ⟨w_running, w_runnable, w_alone, w_named, w_hears, w_ripe, w_room, w_tables⟩
theorem atStart : AtStart classFile x code maxLocals ret World_1 tables_1 room_1 Calls_1 rest_1 Pre_1 launch0 p0 e0 about1 theMethod args0 below0 :=
  ⟨lists_1, trivial, launch0.admits_env _ _ _, launch0.least_env, fairChoices_fair.cas, fairChoices_fair.clock, w_frames, w_args, w_heap, w_applies, trivial, trivial, w_case⟩
end start1
theorem witness_1 : WitnessClaimed_1 := ⟨start1.p0, start1.e0, start1.about1, start1.theMethod, start1.args0, start1.below0, start1.atStart⟩
end Jvm.Pilot.@@N@@
