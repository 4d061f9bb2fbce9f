import JvmDerived
import JvmDerived.Pilot.@@N@@Statement
import JvmDerived.Pilot.@@N@@Code
set_option linter.unusedVariables false
set_option linter.unusedSimpArgs false

namespace Jvm.OwnW
open Sem ClassFile Op Lib Jvm.Stand Jvm.Free Jvm.LawKit Jvm.RoadKit
/-- a method: its name, bytes, number of variables, return type, room -/
abbrev MD := MethodName × ByteArray × Nat × Option FieldType × Room
/-- what a wide walk knows besides: the String constants that it reads, and addresses that are no such String's -/
abbrev PX := List (String × Nat) × (Addr → Prop)
abbrev PX.grow (P : PX) (h h' : Heap) : PX := (P.1, fun x => P.2 x ∨ (h.size ≤ x ∧ x < h'.size))
/-- x is none of the constants' cells -/
def Sf (Z : State) (P : PX) (h : Heap) (x : Addr) : Prop := P.2 x ∨ ∀ vm, Z.vm.Alike vm → Safe Z P.1 vm h x
/-- the state over which the walk stands: the start itself, or (wide) the start with later tables -/
def KB (wd : Bool) (Z : State) (P : PX) (s s' : State) (h : Heap) : Prop :=
  (wd = false ∧ s' = s) ∨ (wd = true ∧ ∃ vm0 k0, s' = s.setVm vm0 ∧ s.Since vm0 k0 ∧ k0 ≤ h.size ∧ CHr Z P.1 s.vm s.heap vm0 h ∧ ∀ x, P.2 x → Safe Z P.1 vm0 h x ∧ x < h.size)
theorem KB.keep {wd : Bool} {Z : State} {P : PX} {s s' : State} {h h' : Heap} {ws : List Addr} (B : KB wd Z P s s' h) (hZ : Z.Warmed39 s'.vm) (K : Keep h h' ws) (q : wd = true → ∀ x ∈ ws, Sf Z P h x) : KB wd Z (P.grow h h') s s' h' := by
  rcases B with ⟨a, b⟩ | ⟨a, vm0, k0, rfl, c, d, e, f⟩
  · exact Or.inl ⟨a, b⟩
  · have hs : ∀ x ∈ ws, Safe Z P.1 vm0 h x := fun x hx => (q a x hx).elim (fun r => (f x r).1) (fun r => r vm0 hZ.alike)
    refine Or.inr ⟨a, vm0, k0, rfl, c, Nat.le_trans d K.1, e.trans (CHr.keep K hs e.1), fun x hx => ?_⟩
    rcases hx with hx | ⟨hx, hx'⟩
    · exact ⟨Safe.keep K hs e.1 (f x hx).1, Nat.lt_of_lt_of_le (f x hx).2 K.1⟩
    · exact ⟨Safe.keep K hs e.1 (Safe.new hx), hx'⟩
theorem KB.ext {wd : Bool} {Z : State} {P : PX} {s s' : State} {h h' : Heap} (B : KB wd Z P s s' h) (E : Ext h h') : KB wd Z (P.grow h h') s s' h' := by
  rcases B with ⟨a, b⟩ | ⟨a, vm0, k0, rfl, c, d, e, f⟩
  · exact Or.inl ⟨a, b⟩
  · refine Or.inr ⟨a, vm0, k0, rfl, c, Nat.le_trans d E.1, e.trans (CHr.ext E e.1), fun x hx => ?_⟩
    rcases hx with hx | ⟨hx, hx'⟩
    · exact ⟨Safe.ext E e.1 (f x hx).1, Nat.lt_of_lt_of_le (f x hx).2 E.1⟩
    · exact ⟨Safe.ext E e.1 (Safe.new hx), hx'⟩
theorem KB.wr {wd : Bool} {Z : State} {P : PX} {s s' : State} {h h' : Heap} {a : Addr} {sl : Nat} {v : Value} (B : KB wd Z P s s' h) (hZ : Z.Warmed39 s'.vm) (W : Wr h h' a sl v) (q : wd = true → Sf Z P h a) : KB wd Z P s s' h' := by
  rcases B with ⟨a, b⟩ | ⟨a, vm0, k0, rfl, c, d, e, f⟩
  · exact Or.inl ⟨a, b⟩
  · have hs : Safe Z P.1 vm0 h _ := (q a).elim (fun r => (f _ r).1) (fun r => r vm0 hZ.alike)
    exact Or.inr ⟨a, vm0, k0, rfl, c, by rw [W.size]; exact d, e.trans (CHr.wr W hs e.1), fun x hx => ⟨Safe.wr W hs e.1 (f x hx).1, by rw [W.size]; exact (f x hx).2⟩⟩
theorem KB.sub {wd : Bool} {Z : State} {P : PX} {S' : Addr → Prop} {s s' : State} {h : Heap} (B : KB wd Z P s s' h) (q : ∀ x, S' x → P.2 x) : KB wd Z (P.1, S') s s' h :=
  B.imp id fun ⟨a, vm0, k0, b, c, d, e, f⟩ => ⟨a, vm0, k0, b, c, d, e, fun x hx => f x (q x hx)⟩
def KE (wd : Bool) (Z s : State) (v : Option Value) (t : State) (L : List Loc) (EL : List (String × Nat)) (k n : Nat) : Prop :=
  (wd = false ∧ FrameEnd s (.returned v) t L k n) ∨ (wd = true ∧ CHr Z EL s.vm s.heap t.vm t.heap ∧ ReturnedEndW s (.returned v) t L k n)
/-- the walk's judgement: from here the method returns, and what it leaves meets Q -/
def KW (wd : Bool) (l : Launch) (Z : State) (M : MD) (n0 : Nat) (Q : Option Value → Heap → Prop) (P : PX) (h : Heap) (k n : Nat) (pc : Nat) (Ls : Array Slot) (st : List Value) : Prop :=
  ∀ (p : Program) (e : Env) (s s' : State) (m : MethodId) (args : Array Value) (below : List Frame) (meth : Method) (c : Code),
    p.tables.exec = Jvm.exec → c.code = M.2.1 → c.maxLocals = M.2.2.1 → s'.vm.findClass M.1.cls = some m.cls → meth.name = M.1.name → meth.sig.returnType = M.2.2.2.1 → meth.locks = false → Z.Warmed39 s'.vm → KB wd Z P s s' h → (wd = true → ∃ a0, EW Z a0 P.1) →
    ∀ (T : State) (locs : List Loc), Stand p l e M.2.2.2.2 s' m args below meth c T locs k n → Fr n0 locs → T.heap = h →
    ∃ t v L, Steps p.tables e below (T.setTop (mkF m pc Ls st)) t ∧ t.status = .running ∧ Ended t below (.returned v) ∧ Fr n0 L ∧ Q v t.heap ∧ KE wd Z s v t L P.1 M.2.2.2.2.cells M.2.2.2.2.slots
section
variable {wd : Bool} {l : Launch} {Z : State} {M : MD} {n0 : Nat} {Q : Option Value → Heap → Prop} {P : PX} {h : Heap} {k n pc pc' : Nat} {Ls Ls' : Array Slot} {st st' rest : List Value} {a0 : Array Value}
theorem KW.step (W : KW wd l Z M n0 Q P h k n pc' Ls' st') (f : ∀ (p : Program) (e : Env) (s' T : State) (m : MethodId) (args : Array Value) (below : List Frame) (meth : Method) (c : Code) (locs : List Loc), p.tables.exec = Jvm.exec → c.code = M.2.1 → s'.vm.findClass M.1.cls = some m.cls → Z.Warmed39 s'.vm → Stand p l e M.2.2.2.2 s' m args below meth c T locs k n →
    ∀ target, Steps p.tables e below (T.setTop (mkF m pc' Ls' st')) target → Steps p.tables e below (T.setTop (mkF m pc Ls st)) target) : KW wd l Z M n0 Q P h k n pc Ls st := by
  intro p e s s' m args below meth c hx hby hml hown hnm hret hlk hZ hB hI T locs X N eT
  obtain ⟨t, v, L, r, rr⟩ := W p e s s' m args below meth c hx hby hml hown hnm hret hlk hZ hB hI T locs X N eT
  exact ⟨t, v, L, f p e s' T m args below meth c locs hx hby hown hZ X t r, rr⟩
theorem KW.move (W : KW wd l Z M n0 Q P h k n pc' Ls' st') (f : ∀ (p : Program) (e : Env) (s' T : State) (m : MethodId) (args : Array Value) (below : List Frame) (meth : Method) (c : Code) (locs : List Loc), p.tables.exec = Jvm.exec → c.code = M.2.1 → c.maxLocals = M.2.2.1 → s'.vm.findClass M.1.cls = some m.cls → Z.Warmed39 s'.vm → Stand p l e M.2.2.2.2 s' m args below meth c T locs k n → T.heap = h →
    ∃ T', Stand p l e M.2.2.2.2 s' m args below meth c T' locs k n ∧ T'.heap = h ∧ ∀ target, Steps p.tables e below (T'.setTop (mkF m pc' Ls' st')) target → Steps p.tables e below (T.setTop (mkF m pc Ls st)) target) : KW wd l Z M n0 Q P h k n pc Ls st := by
  intro p e s s' m args below meth c hx hby hml hown hnm hret hlk hZ hB hI T locs X N eT
  obtain ⟨T', X', eT', st⟩ := f p e s' T m args below meth c locs hx hby hml hown hZ X eT
  obtain ⟨t, v, L, r, rr⟩ := W p e s s' m args below meth c hx hby hml hown hnm hret hlk hZ hB hI T' locs X' N eT'
  exact ⟨t, v, L, st t r, rr⟩
theorem k_aloadN {i : Fin 4} {v : Value} (hd : decode M.2.1 pc = .ok (.aload_n i, 1)) (hp : pc + 1 = pc') (hl : Ls[i.val]? = some (.val v)) (hv : v.isRef = true) (W : KW wd l Z M n0 Q P h k n pc' Ls (v :: st)) : KW wd l Z M n0 Q P h k n pc Ls st := by
  subst hp; exact W.step fun p e s' T m args below meth c locs hx hby hown hZ X target r => XS.aloadN X.here hx rfl (hb hby hd) hl hv r
theorem k_aload {i : Nat} {v : Value} (hd : decode M.2.1 pc = .ok (.aload i, 2)) (hp : pc + 2 = pc') (hl : Ls[i]? = some (.val v)) (hv : v.isRef = true) (W : KW wd l Z M n0 Q P h k n pc' Ls (v :: st)) : KW wd l Z M n0 Q P h k n pc Ls st := by
  subst hp; exact W.step fun p e s' T m args below meth c locs hx hby hown hZ X target r => XS.aload X.here hx rfl (hb hby hd) hl hv r
theorem k_iloadN {i : Fin 4} {v : Int32} (hd : decode M.2.1 pc = .ok (.iload_n i, 1)) (hp : pc + 1 = pc') (hl : Ls[i.val]? = some (.val (.int v))) (W : KW wd l Z M n0 Q P h k n pc' Ls (.int v :: st)) : KW wd l Z M n0 Q P h k n pc Ls st := by
  subst hp; exact W.step fun p e s' T m args below meth c locs hx hby hown hZ X target r => XS.iloadN X.here hx rfl (hb hby hd) hl r
theorem k_iload {i : Nat} {v : Int32} (hd : decode M.2.1 pc = .ok (.iload i, 2)) (hp : pc + 2 = pc') (hl : Ls[i]? = some (.val (.int v))) (W : KW wd l Z M n0 Q P h k n pc' Ls (.int v :: st)) : KW wd l Z M n0 Q P h k n pc Ls st := by
  subst hp; exact W.step fun p e s' T m args below meth c locs hx hby hown hZ X target r => XS.iload X.here hx rfl (hb hby hd) hl r
theorem k_lloadN {i : Fin 4} {v : Int64} (hd : decode M.2.1 pc = .ok (.lload_n i, 1)) (hp : pc + 1 = pc') (hl : Ls[i.val]? = some (.val (.long v))) (W : KW wd l Z M n0 Q P h k n pc' Ls (.long v :: st)) : KW wd l Z M n0 Q P h k n pc Ls st := by
  subst hp; exact W.step fun p e s' T m args below meth c locs hx hby hown hZ X target r => XS.lloadN X.here hx rfl (hb hby hd) hl r
theorem k_lload {i : Nat} {v : Int64} (hd : decode M.2.1 pc = .ok (.lload i, 2)) (hp : pc + 2 = pc') (hl : Ls[i]? = some (.val (.long v))) (W : KW wd l Z M n0 Q P h k n pc' Ls (.long v :: st)) : KW wd l Z M n0 Q P h k n pc Ls st := by
  subst hp; exact W.step fun p e s' T m args below meth c locs hx hby hown hZ X target r => XS.lload X.here hx rfl (hb hby hd) hl r
theorem k_istoreN {i : Fin 4} {x : Int32} (hd : decode M.2.1 pc = .ok (.istore_n i, 1)) (hp : pc + 1 = pc') (hl : storeLocals Ls i.val (.int x) = some Ls') (W : KW wd l Z M n0 Q P h k n pc' Ls' st) : KW wd l Z M n0 Q P h k n pc Ls (.int x :: st) := by
  subst hp; exact W.step fun p e s' T m args below meth c locs hx hby hown hZ X target r => XS.istoreN X.here hx rfl (hb hby hd) rfl hl r
theorem k_istore {i : Nat} {x : Int32} (hd : decode M.2.1 pc = .ok (.istore i, 2)) (hp : pc + 2 = pc') (hl : storeLocals Ls i (.int x) = some Ls') (W : KW wd l Z M n0 Q P h k n pc' Ls' st) : KW wd l Z M n0 Q P h k n pc Ls (.int x :: st) := by
  subst hp; exact W.step fun p e s' T m args below meth c locs hx hby hown hZ X target r => XS.istore X.here hx rfl (hb hby hd) rfl hl r
theorem k_lstoreN {i : Fin 4} {x : Int64} (hd : decode M.2.1 pc = .ok (.lstore_n i, 1)) (hp : pc + 1 = pc') (hl : storeLocals Ls i.val (.long x) = some Ls') (W : KW wd l Z M n0 Q P h k n pc' Ls' st) : KW wd l Z M n0 Q P h k n pc Ls (.long x :: st) := by
  subst hp; exact W.step fun p e s' T m args below meth c locs hx hby hown hZ X target r => XS.lstoreN X.here hx rfl (hb hby hd) rfl hl r
theorem k_lstore {i : Nat} {x : Int64} (hd : decode M.2.1 pc = .ok (.lstore i, 2)) (hp : pc + 2 = pc') (hl : storeLocals Ls i (.long x) = some Ls') (W : KW wd l Z M n0 Q P h k n pc' Ls' st) : KW wd l Z M n0 Q P h k n pc Ls (.long x :: st) := by
  subst hp; exact W.step fun p e s' T m args below meth c locs hx hby hown hZ X target r => XS.lstore X.here hx rfl (hb hby hd) rfl hl r
theorem k_astoreN {i : Fin 4} {x : Value} (hd : decode M.2.1 pc = .ok (.astore_n i, 1)) (hp : pc + 1 = pc') (hv : x.isRef = true) (hl : storeLocals Ls i.val x = some Ls') (W : KW wd l Z M n0 Q P h k n pc' Ls' st) : KW wd l Z M n0 Q P h k n pc Ls (x :: st) := by
  subst hp; exact W.step fun p e s' T m args below meth c locs hx hby hown hZ X target r => XS.astoreN X.here hx rfl (hb hby hd) rfl hv hl r
theorem k_astore {i : Nat} {x : Value} (hd : decode M.2.1 pc = .ok (.astore i, 2)) (hp : pc + 2 = pc') (hv : x.isRef = true) (hl : storeLocals Ls i x = some Ls') (W : KW wd l Z M n0 Q P h k n pc' Ls' st) : KW wd l Z M n0 Q P h k n pc Ls (x :: st) := by
  subst hp; exact W.step fun p e s' T m args below meth c locs hx hby hown hZ X target r => XS.astore X.here hx rfl (hb hby hd) rfl hv hl r
theorem k_iconst {i : Int} {z : Int32} (hd : decode M.2.1 pc = .ok (.iconst i, 1)) (hp : pc + 1 = pc') (hz : Int32.ofInt i = z) (W : KW wd l Z M n0 Q P h k n pc' Ls (.int z :: st)) : KW wd l Z M n0 Q P h k n pc Ls st := by
  subst hp; exact W.step fun p e s' T m args below meth c locs hx hby hown hZ X target r => XS.iconst X.here hx rfl (hb hby hd) (by rw [hz]; exact r)
theorem k_bipush {i : Int} {z : Int32} (hd : decode M.2.1 pc = .ok (.bipush i, 2)) (hp : pc + 2 = pc') (hz : (Int8.ofInt i).toInt32 = z) (W : KW wd l Z M n0 Q P h k n pc' Ls (.int z :: st)) : KW wd l Z M n0 Q P h k n pc Ls st := by
  subst hp; exact W.step fun p e s' T m args below meth c locs hx hby hown hZ X target r => XS.bipush X.here hx rfl (hb hby hd) (by rw [hz]; exact r)
theorem k_sipush {i : Int} {z : Int32} (hd : decode M.2.1 pc = .ok (.sipush i, 3)) (hp : pc + 3 = pc') (hz : (Int16.ofInt i).toInt32 = z) (W : KW wd l Z M n0 Q P h k n pc' Ls (.int z :: st)) : KW wd l Z M n0 Q P h k n pc Ls st := by
  subst hp; exact W.step fun p e s' T m args below meth c locs hx hby hown hZ X target r => XS.sipush X.here hx rfl (hb hby hd) (by rw [hz]; exact r)
theorem k_lconst {i : Fin 2} {z : Int64} (hd : decode M.2.1 pc = .ok (.lconst i, 1)) (hp : pc + 1 = pc') (hz : Int64.ofNat i = z) (W : KW wd l Z M n0 Q P h k n pc' Ls (.long z :: st)) : KW wd l Z M n0 Q P h k n pc Ls st := by
  subst hp; exact W.step fun p e s' T m args below meth c locs hx hby hown hZ X target r => XS.lconst X.here hx rfl (hb hby hd) (by rw [hz]; exact r)
theorem k_aconstNull (hd : decode M.2.1 pc = .ok (.aconst_null, 1)) (hp : pc + 1 = pc') (W : KW wd l Z M n0 Q P h k n pc' Ls (.null :: st)) : KW wd l Z M n0 Q P h k n pc Ls st := by
  subst hp; exact W.step fun p e s' T m args below meth c locs hx hby hown hZ X target r => XS.aconstNull X.here hx rfl (hb hby hd) r
theorem k_iadd {x y : Int32} (hd : decode M.2.1 pc = .ok (.iadd, 1)) (hp : pc + 1 = pc') (W : KW wd l Z M n0 Q P h k n pc' Ls (.int (x + y) :: st)) : KW wd l Z M n0 Q P h k n pc Ls (.int y :: .int x :: st) := by
  subst hp; exact W.step fun p e s' T m args below meth c locs hx hby hown hZ X target r => XS.iadd X.here hx rfl (hb hby hd) rfl r
theorem k_isub {x y : Int32} (hd : decode M.2.1 pc = .ok (.isub, 1)) (hp : pc + 1 = pc') (W : KW wd l Z M n0 Q P h k n pc' Ls (.int (x - y) :: st)) : KW wd l Z M n0 Q P h k n pc Ls (.int y :: .int x :: st) := by
  subst hp; exact W.step fun p e s' T m args below meth c locs hx hby hown hZ X target r => XS.isub X.here hx rfl (hb hby hd) rfl r
theorem k_iand {x y : Int32} (hd : decode M.2.1 pc = .ok (.iand, 1)) (hp : pc + 1 = pc') (W : KW wd l Z M n0 Q P h k n pc' Ls (.int (x &&& y) :: st)) : KW wd l Z M n0 Q P h k n pc Ls (.int y :: .int x :: st) := by
  subst hp; exact W.step fun p e s' T m args below meth c locs hx hby hown hZ X target r => XS.iand X.here hx rfl (hb hby hd) rfl r
theorem k_imul {x y : Int32} (hd : decode M.2.1 pc = .ok (.imul, 1)) (hp : pc + 1 = pc') (W : KW wd l Z M n0 Q P h k n pc' Ls (.int (x * y) :: st)) : KW wd l Z M n0 Q P h k n pc Ls (.int y :: .int x :: st) := by
  subst hp; exact W.step fun p e s' T m args below meth c locs hx hby hown hZ X target r => XS.imul X.here hx rfl (hb hby hd) rfl r
theorem k_ixor {x y : Int32} (hd : decode M.2.1 pc = .ok (.ixor, 1)) (hp : pc + 1 = pc') (W : KW wd l Z M n0 Q P h k n pc' Ls (.int (x ^^^ y) :: st)) : KW wd l Z M n0 Q P h k n pc Ls (.int y :: .int x :: st) := by
  subst hp; exact W.step fun p e s' T m args below meth c locs hx hby hown hZ X target r => XS.ixor X.here hx rfl (hb hby hd) rfl r
theorem k_ior {x y : Int32} (hd : decode M.2.1 pc = .ok (.ior, 1)) (hp : pc + 1 = pc') (W : KW wd l Z M n0 Q P h k n pc' Ls (.int (x ||| y) :: st)) : KW wd l Z M n0 Q P h k n pc Ls (.int y :: .int x :: st) := by
  subst hp; exact W.step fun p e s' T m args below meth c locs hx hby hown hZ X target r => XS.ior X.here hx rfl (hb hby hd) rfl r
theorem k_ishl {x y : Int32} (hd : decode M.2.1 pc = .ok (.ishl, 1)) (hp : pc + 1 = pc') (W : KW wd l Z M n0 Q P h k n pc' Ls (.int (x <<< (y &&& 31)) :: st)) : KW wd l Z M n0 Q P h k n pc Ls (.int y :: .int x :: st) := by
  subst hp; exact W.step fun p e s' T m args below meth c locs hx hby hown hZ X target r => XS.ishl X.here hx rfl (hb hby hd) rfl r
theorem k_ishr {x y : Int32} (hd : decode M.2.1 pc = .ok (.ishr, 1)) (hp : pc + 1 = pc') (W : KW wd l Z M n0 Q P h k n pc' Ls (.int (x >>> (y &&& 31)) :: st)) : KW wd l Z M n0 Q P h k n pc Ls (.int y :: .int x :: st) := by
  subst hp; exact W.step fun p e s' T m args below meth c locs hx hby hown hZ X target r => XS.ishr X.here hx rfl (hb hby hd) rfl r
theorem k_iushr {x y : Int32} (hd : decode M.2.1 pc = .ok (.iushr, 1)) (hp : pc + 1 = pc') (W : KW wd l Z M n0 Q P h k n pc' Ls (.int ((x.toUInt32 >>> (y &&& 31).toUInt32).toInt32) :: st)) : KW wd l Z M n0 Q P h k n pc Ls (.int y :: .int x :: st) := by
  subst hp; exact W.step fun p e s' T m args below meth c locs hx hby hown hZ X target r => XS.iushr X.here hx rfl (hb hby hd) rfl r
theorem k_idiv {x y : Int32} (hd : decode M.2.1 pc = .ok (.idiv, 1)) (hp : pc + 1 = pc') (hy : y ≠ 0) (W : KW wd l Z M n0 Q P h k n pc' Ls (.int (x / y) :: st)) : KW wd l Z M n0 Q P h k n pc Ls (.int y :: .int x :: st) := by
  subst hp; exact W.step fun p e s' T m args below meth c locs hx hby hown hZ X target r => XS.idiv X.here hx rfl (hb hby hd) rfl hy r
theorem k_irem {x y : Int32} (hd : decode M.2.1 pc = .ok (.irem, 1)) (hp : pc + 1 = pc') (hy : y ≠ 0) (W : KW wd l Z M n0 Q P h k n pc' Ls (.int (x % y) :: st)) : KW wd l Z M n0 Q P h k n pc Ls (.int y :: .int x :: st) := by
  subst hp; exact W.step fun p e s' T m args below meth c locs hx hby hown hZ X target r => iremM X hx rfl (hb hby hd) rfl hy r
theorem k_ineg {x : Int32} (hd : decode M.2.1 pc = .ok (.ineg, 1)) (hp : pc + 1 = pc') (W : KW wd l Z M n0 Q P h k n pc' Ls (.int (-x) :: st)) : KW wd l Z M n0 Q P h k n pc Ls (.int x :: st) := by
  subst hp; exact W.step fun p e s' T m args below meth c locs hx hby hown hZ X target r => XS.ineg X.here hx rfl (hb hby hd) rfl r
theorem k_ladd {x y : Int64} (hd : decode M.2.1 pc = .ok (.ladd, 1)) (hp : pc + 1 = pc') (W : KW wd l Z M n0 Q P h k n pc' Ls (.long (x + y) :: st)) : KW wd l Z M n0 Q P h k n pc Ls (.long y :: .long x :: st) := by
  subst hp; exact W.step fun p e s' T m args below meth c locs hx hby hown hZ X target r => XS.ladd X.here hx rfl (hb hby hd) rfl r
theorem k_lsub {x y : Int64} (hd : decode M.2.1 pc = .ok (.lsub, 1)) (hp : pc + 1 = pc') (W : KW wd l Z M n0 Q P h k n pc' Ls (.long (x - y) :: st)) : KW wd l Z M n0 Q P h k n pc Ls (.long y :: .long x :: st) := by
  subst hp; exact W.step fun p e s' T m args below meth c locs hx hby hown hZ X target r => XS.lsub X.here hx rfl (hb hby hd) rfl r
theorem k_lmul {x y : Int64} (hd : decode M.2.1 pc = .ok (.lmul, 1)) (hp : pc + 1 = pc') (W : KW wd l Z M n0 Q P h k n pc' Ls (.long (x * y) :: st)) : KW wd l Z M n0 Q P h k n pc Ls (.long y :: .long x :: st) := by
  subst hp; exact W.step fun p e s' T m args below meth c locs hx hby hown hZ X target r => XS.lmul X.here hx rfl (hb hby hd) rfl r
theorem k_land {x y : Int64} (hd : decode M.2.1 pc = .ok (.land, 1)) (hp : pc + 1 = pc') (W : KW wd l Z M n0 Q P h k n pc' Ls (.long (x &&& y) :: st)) : KW wd l Z M n0 Q P h k n pc Ls (.long y :: .long x :: st) := by
  subst hp; exact W.step fun p e s' T m args below meth c locs hx hby hown hZ X target r => XS.land X.here hx rfl (hb hby hd) rfl r
theorem k_lor {x y : Int64} (hd : decode M.2.1 pc = .ok (.lor, 1)) (hp : pc + 1 = pc') (W : KW wd l Z M n0 Q P h k n pc' Ls (.long (x ||| y) :: st)) : KW wd l Z M n0 Q P h k n pc Ls (.long y :: .long x :: st) := by
  subst hp; exact W.step fun p e s' T m args below meth c locs hx hby hown hZ X target r => XS.lor X.here hx rfl (hb hby hd) rfl r
theorem k_lxor {x y : Int64} (hd : decode M.2.1 pc = .ok (.lxor, 1)) (hp : pc + 1 = pc') (W : KW wd l Z M n0 Q P h k n pc' Ls (.long (x ^^^ y) :: st)) : KW wd l Z M n0 Q P h k n pc Ls (.long y :: .long x :: st) := by
  subst hp; exact W.step fun p e s' T m args below meth c locs hx hby hown hZ X target r => XS.lxor X.here hx rfl (hb hby hd) rfl r
theorem k_ldiv {x y : Int64} (hd : decode M.2.1 pc = .ok (.ldiv, 1)) (hp : pc + 1 = pc') (hy : y ≠ 0) (W : KW wd l Z M n0 Q P h k n pc' Ls (.long (x / y) :: st)) : KW wd l Z M n0 Q P h k n pc Ls (.long y :: .long x :: st) := by
  subst hp; exact W.step fun p e s' T m args below meth c locs hx hby hown hZ X target r => XS.ldiv X.here hx rfl (hb hby hd) rfl hy r
theorem k_lrem {x y : Int64} (hd : decode M.2.1 pc = .ok (.lrem, 1)) (hp : pc + 1 = pc') (hy : y ≠ 0) (W : KW wd l Z M n0 Q P h k n pc' Ls (.long (x % y) :: st)) : KW wd l Z M n0 Q P h k n pc Ls (.long y :: .long x :: st) := by
  subst hp; exact W.step fun p e s' T m args below meth c locs hx hby hown hZ X target r => XS.lrem X.here hx rfl (hb hby hd) rfl hy (by rw [lrem_mod]; exact r)
theorem k_lshl {x : Int64} {y : Int32} (hd : decode M.2.1 pc = .ok (.lshl, 1)) (hp : pc + 1 = pc') (W : KW wd l Z M n0 Q P h k n pc' Ls (.long (x <<< (y &&& 63).toInt64) :: st)) : KW wd l Z M n0 Q P h k n pc Ls (.int y :: .long x :: st) := by
  subst hp; exact W.step fun p e s' T m args below meth c locs hx hby hown hZ X target r => XS.lshl X.here hx rfl (hb hby hd) rfl r
theorem k_lshr {x : Int64} {y : Int32} (hd : decode M.2.1 pc = .ok (.lshr, 1)) (hp : pc + 1 = pc') (W : KW wd l Z M n0 Q P h k n pc' Ls (.long (x >>> (y &&& 63).toInt64) :: st)) : KW wd l Z M n0 Q P h k n pc Ls (.int y :: .long x :: st) := by
  subst hp; exact W.step fun p e s' T m args below meth c locs hx hby hown hZ X target r => XS.lshr X.here hx rfl (hb hby hd) rfl r
theorem k_lushr {x : Int64} {y : Int32} (hd : decode M.2.1 pc = .ok (.lushr, 1)) (hp : pc + 1 = pc') (W : KW wd l Z M n0 Q P h k n pc' Ls (.long ((x.toUInt64 >>> (y &&& 63).toInt64.toUInt64).toInt64) :: st)) : KW wd l Z M n0 Q P h k n pc Ls (.int y :: .long x :: st) := by
  subst hp; exact W.step fun p e s' T m args below meth c locs hx hby hown hZ X target r => XS.lushr X.here hx rfl (hb hby hd) rfl r
theorem k_i2l {x : Int32} (hd : decode M.2.1 pc = .ok (.i2l, 1)) (hp : pc + 1 = pc') (W : KW wd l Z M n0 Q P h k n pc' Ls (.long (x.toInt64) :: st)) : KW wd l Z M n0 Q P h k n pc Ls (.int x :: st) := by
  subst hp; exact W.step fun p e s' T m args below meth c locs hx hby hown hZ X target r => XS.i2l X.here hx rfl (hb hby hd) rfl r
theorem k_i2b {x : Int32} (hd : decode M.2.1 pc = .ok (.i2b, 1)) (hp : pc + 1 = pc') (W : KW wd l Z M n0 Q P h k n pc' Ls (.int (x.toInt8.toInt32) :: st)) : KW wd l Z M n0 Q P h k n pc Ls (.int x :: st) := by
  subst hp; exact W.step fun p e s' T m args below meth c locs hx hby hown hZ X target r => XS.i2b X.here hx rfl (hb hby hd) rfl r
theorem k_i2c {x : Int32} (hd : decode M.2.1 pc = .ok (.i2c, 1)) (hp : pc + 1 = pc') (W : KW wd l Z M n0 Q P h k n pc' Ls (.int (x.toUInt32.toUInt16.toUInt32.toInt32) :: st)) : KW wd l Z M n0 Q P h k n pc Ls (.int x :: st) := by
  subst hp; exact W.step fun p e s' T m args below meth c locs hx hby hown hZ X target r => XS.i2c X.here hx rfl (hb hby hd) rfl r
theorem k_i2s {x : Int32} (hd : decode M.2.1 pc = .ok (.i2s, 1)) (hp : pc + 1 = pc') (W : KW wd l Z M n0 Q P h k n pc' Ls (.int (x.toInt16.toInt32) :: st)) : KW wd l Z M n0 Q P h k n pc Ls (.int x :: st) := by
  subst hp; exact W.step fun p e s' T m args below meth c locs hx hby hown hZ X target r => XS.i2s X.here hx rfl (hb hby hd) rfl r
theorem k_l2i {x : Int64} (hd : decode M.2.1 pc = .ok (.l2i, 1)) (hp : pc + 1 = pc') (W : KW wd l Z M n0 Q P h k n pc' Ls (.int (x.toInt32) :: st)) : KW wd l Z M n0 Q P h k n pc Ls (.long x :: st) := by
  subst hp; exact W.step fun p e s' T m args below meth c locs hx hby hown hZ X target r => XS.l2i X.here hx rfl (hb hby hd) rfl r
def cmpLV (x y : Int64) : Int32 := if y < x then 1 else if x = y then 0 else -1
theorem k_lcmp {x y : Int64} (hd : decode M.2.1 pc = .ok (.lcmp, 1)) (hp : pc + 1 = pc') (W : KW wd l Z M n0 Q P h k n pc' Ls (.int (cmpLV x y) :: st)) : KW wd l Z M n0 Q P h k n pc Ls (.long y :: .long x :: st) := by
  subst hp; exact W.step fun p e s' T m args below meth c locs hx hby hown hZ X target r => XS.lcmp X.here hx rfl (hb hby hd) rfl r
theorem k_dup {x : Value} (hd : decode M.2.1 pc = .ok (.dup, 1)) (hp : pc + 1 = pc') (hc : x.category = 1) (W : KW wd l Z M n0 Q P h k n pc' Ls (x :: x :: st)) : KW wd l Z M n0 Q P h k n pc Ls (x :: st) := by
  subst hp; exact W.step fun p e s' T m args below meth c locs hx hby hown hZ X target r => XS.dup X.here hx rfl (hb hby hd) rfl hc r
theorem k_pop {x : Value} (hd : decode M.2.1 pc = .ok (.pop, 1)) (hp : pc + 1 = pc') (hc : x.category = 1) (W : KW wd l Z M n0 Q P h k n pc' Ls st) : KW wd l Z M n0 Q P h k n pc Ls (x :: st) := by
  subst hp; exact W.step fun p e s' T m args below meth c locs hx hby hown hZ X target r => XS.pop X.here hx rfl (hb hby hd) rfl hc r
theorem k_dupX1 {x y : Value} (hd : decode M.2.1 pc = .ok (.dup_x1, 1)) (hp : pc + 1 = pc') (hc : x.category = 1) (hc' : y.category = 1) (W : KW wd l Z M n0 Q P h k n pc' Ls (x :: y :: x :: st)) : KW wd l Z M n0 Q P h k n pc Ls (x :: y :: st) := by
  subst hp; exact W.step fun p e s' T m args below meth c locs hx hby hown hZ X target r => XS.dupX1 X.here hx rfl (hb hby hd) rfl hc hc' r
theorem k_dup2 {x y : Value} (hd : decode M.2.1 pc = .ok (.dup2, 1)) (hp : pc + 1 = pc') (hc : x.category = 1) (hc' : y.category = 1) (W : KW wd l Z M n0 Q P h k n pc' Ls (x :: y :: x :: y :: st)) : KW wd l Z M n0 Q P h k n pc Ls (x :: y :: st) := by
  subst hp; exact W.step fun p e s' T m args below meth c locs hx hby hown hZ X target r => XT.dup2 X.here hx rfl (hb hby hd) rfl hc hc' r
theorem k_iinc {i : Nat} {cst : Int} {x z : Int32} (hd : decode M.2.1 pc = .ok (.iinc i cst, 3)) (hp : pc + 3 = pc') (hz : Int32.ofInt cst = z) (hl : Ls[i]? = some (.val (.int x))) (hl' : storeLocals Ls i (.int (x + z)) = some Ls') (W : KW wd l Z M n0 Q P h k n pc' Ls' st) : KW wd l Z M n0 Q P h k n pc Ls st := by
  subst hp; exact W.step fun p e s' T m args below meth c locs hx hby hown hZ X target r => XS.iinc X.here hx rfl (hb hby hd) hl (by rw [hz]; exact hl') r
theorem k_goto {o : Int} (hd : decode M.2.1 pc = .ok (.goto o, 3)) (ho : 0 ≤ (pc : Int) + o) (hp : ((pc : Int) + o).toNat = pc') (W : KW wd l Z M n0 Q P h k n pc' Ls st) : KW wd l Z M n0 Q P h k n pc Ls st :=
  W.step fun p e s' T m args below meth c locs hx hby hown hZ X target r => XS.goto X.here hx rfl rfl (hb hby hd) ho hp r
/-- what a comparison says where it is taken, and where it isn't -/
def icY : ClassFile.Cond → Int32 → Int32 → Prop
  | .eq, x, y => x = y | .ne, x, y => ¬ x = y | .lt, x, y => x < y | .ge, x, y => ¬ x < y | .gt, x, y => y < x | .le, x, y => ¬ y < x
def icN : ClassFile.Cond → Int32 → Int32 → Prop
  | .eq, x, y => ¬ x = y | .ne, x, y => x = y | .lt, x, y => ¬ x < y | .ge, x, y => x < y | .gt, x, y => ¬ y < x | .le, x, y => y < x
theorem ic_t {cd : ClassFile.Cond} {x y : Int32} (q : if_icmp.holds cd x y = true) : icY cd x y := by
  cases cd <;> simp [if_icmp.holds] at q <;> simp only [icY] <;> first | exact q | exact Int32.not_lt.mpr q
theorem ic_f {cd : ClassFile.Cond} {x y : Int32} (q : if_icmp.holds cd x y = false) : icN cd x y := by
  cases cd <;> simp [if_icmp.holds] at q <;> simp only [icN] <;> first | exact q | exact Int32.not_lt.mpr q | exact Int32.not_le.mp q
theorem k_icmp {cd : ClassFile.Cond} {o : Int} {x y : Int32} {pc1 : Nat} (hd : decode M.2.1 pc = .ok (.if_icmp cd o, 3)) (ho : 0 ≤ (pc : Int) + o) (hp1 : ((pc : Int) + o).toNat = pc1) (hp : pc + 3 = pc')
    (W1 : icY cd x y → KW wd l Z M n0 Q P h k n pc1 Ls st) (W2 : icN cd x y → KW wd l Z M n0 Q P h k n pc' Ls st) : KW wd l Z M n0 Q P h k n pc Ls (.int y :: .int x :: st) := by
  cases q : if_icmp.holds cd x y
  · subst hp; exact (W2 (ic_f q)).step fun p e s' T m args below meth c locs hx hby hown hZ X target r => XS.icmpNo X.here hx rfl (hb hby hd) rfl q r
  · exact (W1 (ic_t q)).step fun p e s' T m args below meth c locs hx hby hown hZ X target r => XS.icmpYes X.here hx rfl rfl (hb hby hd) rfl q ho hp1 r
theorem k_ifc {cd : ClassFile.Cond} {o : Int} {x : Int32} {pc1 : Nat} (hd : decode M.2.1 pc = .ok (.ifCond cd o, 3)) (ho : 0 ≤ (pc : Int) + o) (hp1 : ((pc : Int) + o).toNat = pc1) (hp : pc + 3 = pc')
    (W1 : icY cd x 0 → KW wd l Z M n0 Q P h k n pc1 Ls st) (W2 : icN cd x 0 → KW wd l Z M n0 Q P h k n pc' Ls st) : KW wd l Z M n0 Q P h k n pc Ls (.int x :: st) := by
  cases q : ifCond.holds cd x
  · subst hp; exact (W2 (ic_f (by rw [← if0]; exact q))).step fun p e s' T m args below meth c locs hx hby hown hZ X target r => XS.ifNo X.here hx rfl (hb hby hd) rfl q r
  · exact (W1 (ic_t (by rw [← if0]; exact q))).step fun p e s' T m args below meth c locs hx hby hown hZ X target r => XS.ifYes X.here hx rfl rfl (hb hby hd) rfl q ho hp1 r
/-- lcmp and the branch behind it, in one -/
def lcY : ClassFile.Cond → Int64 → Int64 → Prop
  | .eq, x, y => x = y | .ne, x, y => ¬ x = y | .lt, x, y => x < y | .ge, x, y => ¬ x < y | .gt, x, y => y < x | .le, x, y => ¬ y < x
def lcN : ClassFile.Cond → Int64 → Int64 → Prop
  | .eq, x, y => ¬ x = y | .ne, x, y => x = y | .lt, x, y => ¬ x < y | .ge, x, y => x < y | .gt, x, y => ¬ y < x | .le, x, y => y < x
theorem cmpL_V (x y : Int64) : cmpLV x y = lcmpV x y := by simp [cmpLV, lcmpV]
theorem lc_t {cd : ClassFile.Cond} {x y : Int64} (q : icY cd (cmpLV x y) 0) : lcY cd x y := by
  rw [cmpL_V] at q
  cases cd <;> simp only [icY, lcY] at q ⊢
  · exact (lc_eq x y).mp q
  · exact fun e => q ((lc_eq x y).mpr e)
  · exact (lc_lt x y).mp q
  · exact fun e => q ((lc_lt x y).mpr e)
  · exact (lc_gt x y).mp q
  · exact fun e => q ((lc_gt x y).mpr e)
theorem lc_f {cd : ClassFile.Cond} {x y : Int64} (q : icN cd (cmpLV x y) 0) : lcN cd x y := by
  rw [cmpL_V] at q
  cases cd <;> simp only [icN, lcN] at q ⊢
  · exact fun e => q ((lc_eq x y).mpr e)
  · exact (lc_eq x y).mp q
  · exact fun e => q ((lc_lt x y).mpr e)
  · exact (lc_lt x y).mp q
  · exact fun e => q ((lc_gt x y).mpr e)
  · exact (lc_gt x y).mp q
theorem k_lcmpIf {cd : ClassFile.Cond} {o : Int} {x y : Int64} {pc1 pc2 : Nat} (hd0 : decode M.2.1 pc = .ok (.lcmp, 1)) (hp0 : pc + 1 = pc') (hd : decode M.2.1 pc' = .ok (.ifCond cd o, 3)) (ho : 0 ≤ (pc' : Int) + o) (hp1 : ((pc' : Int) + o).toNat = pc1) (hp : pc' + 3 = pc2)
    (W1 : lcY cd x y → KW wd l Z M n0 Q P h k n pc1 Ls st) (W2 : lcN cd x y → KW wd l Z M n0 Q P h k n pc2 Ls st) : KW wd l Z M n0 Q P h k n pc Ls (.long y :: .long x :: st) :=
  k_lcmp hd0 hp0 (k_ifc hd ho hp1 hp (fun q => W1 (lc_t q)) (fun q => W2 (lc_f q)))
theorem k_acmpNe {o : Int} {x y : Value} {pc1 : Nat} (hd : decode M.2.1 pc = .ok (.if_acmp .ne o, 3)) (hx' : x.isRef = true) (hy' : y.isRef = true) (ho : 0 ≤ (pc : Int) + o) (hp1 : ((pc : Int) + o).toNat = pc1) (hp : pc + 3 = pc')
    (W1 : ¬ x = y → KW wd l Z M n0 Q P h k n pc1 Ls st) (W2 : x = y → KW wd l Z M n0 Q P h k n pc' Ls st) : KW wd l Z M n0 Q P h k n pc Ls (y :: x :: st) := by
  by_cases q : x = y
  · subst hp; exact (W2 q).step fun p e s' T m args below meth c locs hx hby hown hZ X target r => XT.acmpNo X.here hx rfl (hb hby hd) rfl hx' hy' (by simp [XT.acmp, q]) r
  · exact (W1 q).step fun p e s' T m args below meth c locs hx hby hown hZ X target r => XT.acmpYes X.here hx rfl rfl (hb hby hd) rfl hx' hy' (by simp [XT.acmp, q]) ho hp1 r
theorem k_acmpEq {o : Int} {x y : Value} {pc1 : Nat} (hd : decode M.2.1 pc = .ok (.if_acmp .eq o, 3)) (hx' : x.isRef = true) (hy' : y.isRef = true) (ho : 0 ≤ (pc : Int) + o) (hp1 : ((pc : Int) + o).toNat = pc1) (hp : pc + 3 = pc')
    (W1 : x = y → KW wd l Z M n0 Q P h k n pc1 Ls st) (W2 : ¬ x = y → KW wd l Z M n0 Q P h k n pc' Ls st) : KW wd l Z M n0 Q P h k n pc Ls (y :: x :: st) := by
  by_cases q : x = y
  · exact (W1 q).step fun p e s' T m args below meth c locs hx hby hown hZ X target r => XT.acmpYes X.here hx rfl rfl (hb hby hd) rfl hx' hy' (by simp [XT.acmp, q]) ho hp1 r
  · subst hp; exact (W2 q).step fun p e s' T m args below meth c locs hx hby hown hZ X target r => XT.acmpNo X.here hx rfl (hb hby hd) rfl hx' hy' (by simp [XT.acmp, q]) r
theorem k_ifnullY {o : Int} (hd : decode M.2.1 pc = .ok (.ifnull o, 3)) (ho : 0 ≤ (pc : Int) + o) (hp : ((pc : Int) + o).toNat = pc') (W : KW wd l Z M n0 Q P h k n pc' Ls st) : KW wd l Z M n0 Q P h k n pc Ls (.null :: st) :=
  W.step fun p e s' T m args below meth c locs hx hby hown hZ X target r => XS.ifnullYes X.here hx rfl rfl (hb hby hd) rfl ho hp r
theorem k_ifnullN {o : Int} {a : Addr} (hd : decode M.2.1 pc = .ok (.ifnull o, 3)) (hp : pc + 3 = pc') (W : KW wd l Z M n0 Q P h k n pc' Ls st) : KW wd l Z M n0 Q P h k n pc Ls (.ref a :: st) := by
  subst hp; exact W.step fun p e s' T m args below meth c locs hx hby hown hZ X target r => XS.ifnullNo X.here hx rfl (hb hby hd) rfl r
theorem k_ifnonnullY {o : Int} {a : Addr} (hd : decode M.2.1 pc = .ok (.ifnonnull o, 3)) (ho : 0 ≤ (pc : Int) + o) (hp : ((pc : Int) + o).toNat = pc') (W : KW wd l Z M n0 Q P h k n pc' Ls st) : KW wd l Z M n0 Q P h k n pc Ls (.ref a :: st) :=
  W.step fun p e s' T m args below meth c locs hx hby hown hZ X target r => XS.ifnonnullYes X.here hx rfl rfl (hb hby hd) rfl ho hp r
theorem k_ifnonnullN {o : Int} (hd : decode M.2.1 pc = .ok (.ifnonnull o, 3)) (hp : pc + 3 = pc') (W : KW wd l Z M n0 Q P h k n pc' Ls st) : KW wd l Z M n0 Q P h k n pc Ls (.null :: st) := by
  subst hp; exact W.step fun p e s' T m args below meth c locs hx hby hown hZ X target r => XS.ifnonnullNo X.here hx rfl (hb hby hd) rfl r
theorem k_ldc2J {i : Nat} {v : Int64} (hd : decode M.2.1 pc = .ok (.ldc2_w i, 3)) (hp : pc + 3 = pc') (w : (Cond.constantLong M.1.cls i v).before a0 Z = true) (W : KW wd l Z M n0 Q P h k n pc' Ls (.long v :: st)) : KW wd l Z M n0 Q P h k n pc Ls st := by
  subst hp; exact W.step fun p e s' T m args below meth c locs hx hby hown hZ X target r => X.ldc2J hx hown (mvT hZ w) rfl (hb hby hd) r
theorem k_ldcI {i : Nat} {v : Int32} (hd : decode M.2.1 pc = .ok (.ldc i, 2)) (hp : pc + 2 = pc') (w : (Cond.constant M.1.cls i v).before a0 Z = true) (W : KW wd l Z M n0 Q P h k n pc' Ls (.int v :: st)) : KW wd l Z M n0 Q P h k n pc Ls st := by
  subst hp; exact W.step fun p e s' T m args below meth c locs hx hby hown hZ X target r => X.ldcI hx hown (mvT hZ w) rfl (hb hby hd) r
theorem k_getStatic {i : Nat} {O f d : String} {v : Value} (hd : decode M.2.1 pc = .ok (.getstatic i, 3)) (hp : pc + 3 = pc') (w : (Cond.fieldLink M.1.cls i O f d).before a0 Z = true) (F : Sta Z h O f d v) (W : KW wd l Z M n0 Q P h k n pc' Ls (v :: st)) : KW wd l Z M n0 Q P h k n pc Ls st := by
  subst hp; exact W.move fun p e s' T m args below meth c locs hx hby hml hown hZ X eT => getS X hx hZ hown (host := "") w Via.refl eT F (g := mkF m pc Ls st) rfl (hb hby hd)
theorem k_getField {i : Nat} {R0 O f d : String} {a : Addr} {v : Value} (hd : decode M.2.1 pc = .ok (.getfield i, 3)) (hp : pc + 3 = pc') (w : (Cond.fieldLink M.1.cls i R0 f d).before a0 Z = true) (via : Via Z R0 O f d) (F : Fld Z h a O f d v) (W : KW wd l Z M n0 Q P h k n pc' Ls (v :: st)) : KW wd l Z M n0 Q P h k n pc Ls (.ref a :: st) := by
  subst hp; exact W.move fun p e s' T m args below meth c locs hx hby hml hown hZ X eT => getF X hx hZ hown (host := "") (Or.inl w) via eT F (g := mkF m pc Ls (.ref a :: st)) rfl rfl (hb hby hd)
/-- the return -/
theorem KW.top {v v' : Value} (e : v = v') (W : KW wd l Z M n0 Q P h k n pc Ls (v' :: st)) : KW wd l Z M n0 Q P h k n pc Ls (v :: st) := e ▸ W
theorem KW.sub {S' : Addr → Prop} (q : ∀ x, S' x → P.2 x) (W : KW wd l Z M n0 Q (P.1, S') h k n pc Ls st) : KW wd l Z M n0 Q P h k n pc Ls st :=
  fun p e s s' m args below meth c hx hby hml hown hnm hret hlk hZ hB hI T locs X N eT => W p e s s' m args below meth c hx hby hml hown hnm hret hlk hZ (hB.sub q) hI T locs X N eT
theorem KW.any {P' : PX} (W : KW false l Z M n0 Q P' h k n pc Ls st) : KW false l Z M n0 Q P h k n pc Ls st :=
  fun p e s s' m args below meth c hx hby hml hown hnm hret hlk hZ hB hI T locs X N eT => by
    obtain ⟨t, v, L, r, h1, h2, h3, h4, h5⟩ := W p e s s' m args below meth c hx hby hml hown hnm hret hlk hZ (hB.elim (fun q => Or.inl q) (fun q => by cases q.1)) (fun q => by cases q) T locs X N eT
    exact ⟨t, v, L, r, h1, h2, h3, h4, h5.elim (fun q => Or.inl q) (fun q => by cases q.1)⟩
theorem KW.ret {v : Option Value} (q : Q v h) (hk : k ≤ M.2.2.2.2.cells) (hn : n ≤ M.2.2.2.2.slots) (hv : M.2.2.2.1 = none → v = none)
    (f : ∀ (p : Program) (e : Env) (s' T : State) (m : MethodId) (args : Array Value) (below : List Frame) (meth : Method) (c : Code) (locs : List Loc), p.tables.exec = Jvm.exec → c.code = M.2.1 → meth.sig.returnType = M.2.2.2.1 → Stand p l e M.2.2.2.2 s' m args below meth c T locs k n →
      ∀ fs : List Frame, (∀ (f : JFrame) (acts : List Action), f.method = m → f.locked = none → f.entered = [] → (doReturn e (T.setTop f) acts v).1 = T.setFrames fs) → Steps p.tables e below (T.setTop (mkF m pc Ls st)) (T.setFrames fs)) : KW wd l Z M n0 Q P h k n pc Ls st := by
  intro p e s s' m args below meth c hx hby hml hown hnm hret hlk hZ hB hI T locs X N eT
  obtain ⟨fs, hr, hrun, hended, hW, hsame⟩ := X.leave (v := v) (fun q => hv (by rw [← hret]; exact q)) hlk
  refine ⟨T.setFrames fs, v, locs, f p e s' T m args below meth c locs hx hby hret X fs hr, hrun, hended, N, by show Q v T.heap; rw [eT]; exact q, ?_⟩
  rcases hB with ⟨rfl, rfl⟩ | ⟨rfl, vm0, k0, rfl, hS, hk0, hC, -⟩
  · exact Or.inl ⟨rfl, ⟨_, rfl⟩, hW, hsame.mono hk hn⟩
  · obtain ⟨e1, e2, e3⟩ := hS.ended hW (by show k0 ≤ T.heap.size; rw [eT]; exact hk0) hsame
    obtain ⟨a1, hEW⟩ := hI rfl
    have hCT : CHr Z P.1 s.vm s.heap T.vm T.heap := hC.trans (by rw [eT]; exact CHv.at X hZ hEW hC.1)
    exact Or.inr ⟨rfl, hCT, ⟨_, rfl⟩, e1, e2, e3.mono hk hn⟩
theorem k_retInt {z : Int32} (hd : decode M.2.1 pc = .ok (.ireturn, 1)) (hr : M.2.2.2.1 = some .int) (hk : k ≤ M.2.2.2.2.cells) (hn : n ≤ M.2.2.2.2.slots) (q : Q (some (.int z)) h) : KW wd l Z M n0 Q P h k n pc Ls (.int z :: st) :=
  KW.ret q hk hn (fun x => by rw [hr] at x; cases x) fun p e s' T m args below meth c locs hx hby hret X fs hl => retOut X hx (t := .int) (i := .ireturn) (hret.trans hr) rfl (Or.inl ⟨rfl, Or.inl rfl, _, rfl⟩) (hb hby hd) hl
theorem k_retNar {z z' : Int32} {t : FieldType} (hd : decode M.2.1 pc = .ok (.ireturn, 1)) (hr : M.2.2.2.1 = some t) (ht : t = .boolean ∨ t = .byte ∨ t = .char ∨ t = .short) (hz : nar t z = z') (hk : k ≤ M.2.2.2.2.cells) (hn : n ≤ M.2.2.2.2.slots) (q : Q (some (.int z')) h) : KW wd l Z M n0 Q P h k n pc Ls (.int z :: st) := by
  subst hz; exact KW.ret q hk hn (fun x => by rw [hr] at x; cases x) fun p e s' T m args below meth c locs hx hby hret X fs hl => retN X hx (hret.trans hr) ht (hb hby hd) hl
theorem k_retLong {z : Int64} (hd : decode M.2.1 pc = .ok (.lreturn, 1)) (hr : M.2.2.2.1 = some .long) (hk : k ≤ M.2.2.2.2.cells) (hn : n ≤ M.2.2.2.2.slots) (q : Q (some (.long z)) h) : KW wd l Z M n0 Q P h k n pc Ls (.long z :: st) :=
  KW.ret q hk hn (fun x => by rw [hr] at x; cases x) fun p e s' T m args below meth c locs hx hby hret X fs hl => retOut X hx (t := .long) (i := .lreturn) (hret.trans hr) rfl (Or.inr (Or.inl ⟨rfl, rfl, _, rfl⟩)) (hb hby hd) hl
theorem k_retRef {v : Value} {t : FieldType} (hd : decode M.2.1 pc = .ok (.areturn, 1)) (hr : M.2.2.2.1 = some t) (ht : t.isReference = true) (hv : v.isRef = true) (hk : k ≤ M.2.2.2.2.cells) (hn : n ≤ M.2.2.2.2.slots) (q : Q (some v) h) : KW wd l Z M n0 Q P h k n pc Ls (v :: st) :=
  KW.ret q hk hn (fun x => by rw [hr] at x; cases x) fun p e s' T m args below meth c locs hx hby hret X fs hl => retOut X hx (t := t) (i := .areturn) (hret.trans hr) (by cases t <;> first | rfl | cases ht) (Or.inr (Or.inr (Or.inr (Or.inr ⟨rfl, ht, hv⟩)))) (hb hby hd) hl
theorem k_retVoid (hd : decode M.2.1 pc = .ok (.return_, 1)) (hr : M.2.2.2.1 = none) (hk : k ≤ M.2.2.2.2.cells) (hn : n ≤ M.2.2.2.2.slots) (q : Q none h) : KW wd l Z M n0 Q P h k n pc Ls [] :=
  KW.ret q hk hn (fun x => rfl) fun p e s' T m args below meth c locs hx hby hret X fs hl => X.returnOut hx (hret.trans hr) (hb hby hd) hl
/-- a method's contract: entered with these arguments and this heap, it returns, and Q holds -/
def Mt (l : Launch) (Z : State) (M : MD) (ws : List Jvm.Cond) (n0 : Nat) (as' : Array Value) (h0 : Heap) (Q : Option Value → Heap → Prop) : Prop :=
  MetFree l M.1 (head1 (Jvm.Cond.code M.1 M.2.1 M.2.2.1 M.2.2.2.1 :: ws) M.2.2.2.2) (fun a U => a = as' ∧ Z.Warmed39 U.vm ∧ U.heap = h0) (fun _ _ _ _ _ => True) (fun _ U o U' => ∃ v L, o = .returned v ∧ (Fr n0 L ∧ h0.size ≤ U'.heap.size ∧ Q v U'.heap) ∧ FrameEnd U o U' L M.2.2.2.2.cells M.2.2.2.2.slots)
theorem mt_of_kw {ws : List Jvm.Cond} {as' : Array Value} (hn : plainFor M.1 = true) (hef : ∀ m, entryFrame m as' M.2.2.1 = mkF m 0 Ls []) (W : KW false l Z M n0 Q P h 0 0 0 Ls []) : Mt l Z M ws n0 as' h Q := by
  refine MetFree.of_bodySF hn hisR ?_
  intro p e s m args below meth c s₁ Bd hml0 hP hK
  obtain ⟨rfl, hZ, hh⟩ := hP
  have e0 : s₁.heap = h := by rw [← hh, Bd.state]; rfl
  obtain ⟨t, v, L, r, h1, h2, h3, h4, h5⟩ := W p e s s m _ below meth c Bd.exec Bd.bytes hml0 (findClass_of_methodNamed Bd.named) (name_of_methodNamed Bd.named Bd.method).1 Bd.returns Bd.notSynchronized hZ (Or.inl ⟨rfl, rfl⟩) (fun q => by cases q) s₁ [] (Stand.of_body Bd) (Fr.nil n0) e0
  rcases h5 with ⟨-, h5⟩ | ⟨h5, -⟩
  · refine ⟨t, _, castTop (hef m) r, h1, h2, v, L, rfl, ⟨h3, ?_, h4⟩, h5⟩
    have q : s.heap.size ≤ t.heap.size := h5.2.2.2.1
    rw [← hh]; exact q
  · cases h5
/-- what a strict callee has done to the heap, for a wide caller -/
def Kp (wd : Bool) (Z : State) (P : PX) (h : Heap) (Q' : Option Value → Heap → Prop) : Prop := wd = true → ∀ v h', Q' v h' → ∃ ws, Keep h h' ws ∧ ∀ x ∈ ws, Sf Z P h x
theorem Kp.strict {Q' : Option Value → Heap → Prop} : Kp false Z P h Q' := fun q => by cases q
theorem Kp.pure {Q' : Option Value → Heap → Prop} (q : ∀ v h', Q' v h' → h' = h) : Kp wd Z P h Q' := fun _ v h' hq => ⟨[], by rw [q v h' hq]; exact Keep.refl _ _, fun _ z => nomatch z⟩
theorem KB.call {s s' : State} {h' : Heap} {v : Option Value} {Q' : Option Value → Heap → Prop} (B : KB wd Z P s s' h) (hZ : Z.Warmed39 s'.vm) (hk : Kp wd Z P h Q') (q : Q' v h') : KB wd Z (P.grow h h') s s' h' := by
  cases wd
  · exact B.elim (fun r => Or.inl r) (fun r => by cases r.1)
  · obtain ⟨ws, K, hs⟩ := hk rfl v h' q
    exact B.keep hZ K (fun _ => hs)
/-- a static method by its contract -/
theorem k_callStatic {y : MD} {i W0 : Nat} {argsL : List Value} {Q' : Option Value → Heap → Prop} {ps : List FieldType} {r : Option FieldType} (hd : decode M.2.1 pc = .ok (.invokestatic i, 3)) (hp : pc + 3 = pc') (K : Mt l Z y [] n0 argsL.toArray h Q') (hkp : Kp wd Z P h Q')
    (w1 : (Cond.methodLink M.1.cls i y.1).before a0 Z = true) (w2 : (Cond.static y.1).before a0 Z = true) (w3 : (Cond.initialized y.1.cls).before a0 Z = true) (w4 : (Cond.code y.1 y.2.1 y.2.2.1 y.2.2.2.1).before a0 Z = true) (hy : y.1.cls ≠ "java/lang/invoke/MethodHandle" ∧ y.1.cls ≠ "java/lang/invoke/VarHandle")
    (hpd : parseMethodDescriptor y.1.desc = some ⟨ps, r⟩) (hlen : argsL.length = ps.length) (hst : st = argsL.reverse ++ rest) (hsz : Ls.size = M.2.2.1) (hW : (rest.map fun v => v.category).sum = W0)
    (hfr : y.2.2.2.2.frames + 1 ≤ M.2.2.2.2.frames) (hlo : W0 + (y.2.2.1 + 11) + y.2.2.2.2.locals ≤ M.2.2.2.2.locals) (hc : k + y.2.2.2.2.cells ≤ M.2.2.2.2.cells) (hs : n + y.2.2.2.2.slots ≤ M.2.2.2.2.slots)
    (W : ∀ v h', h.size ≤ h'.size → Q' v h' → KW wd l Z M n0 Q (P.grow h h') h' (k + y.2.2.2.2.cells) (n + y.2.2.2.2.slots) pc' Ls (v.toList ++ rest)) : KW wd l Z M n0 Q P h k n pc Ls st := by
  intro p e s s' m args below meth c hx hby hml hown hnm hret hlk hZ hB hI T locs X N eT
  subst hp
  obtain ⟨v, _, ⟨T', L', k', n'⟩, -, X', ⟨Lc, ⟨q1, q2, q3⟩, l1, l2, l3⟩, stp⟩ := Jvm.LawKit.callS X hx (y := y.1) hown (mvT hZ w1) (mvT hZ w2) (mvT hZ w3) (mvT hZ w4) hy (backOf (W := W0) (Q := fun v h' L => Fr n0 L ∧ h.size ≤ h'.size ∧ Q' v h') K hZ w4 w3 hfr hlo) (g := mkF m pc Ls st) rfl (hsz.trans hml.symm) (argsL := argsL) (rest := rest) (lenOf hpd hlen) hst (by show 2 * 0 + _ ≤ _; omega) (hb hby hd) (fun _ _ => ⟨rfl, eT, hc, hs⟩)
  dsimp only [Pt.U, Pt.locs, Pt.cells, Pt.slots] at X' l1 l2 l3 stp q2 q3
  subst l1 l2 l3
  obtain ⟨t, v', L, r, rr⟩ := W v T'.heap q2 q3 p e s s' m args below meth c hx hby hml hown hnm hret hlk hZ (hB.call hZ hkp q3) hI T' _ X' (Fr.app N q1) rfl
  exact ⟨t, v', L, stp _ r, rr⟩
/-- a constructor by its contract -/
theorem k_callInit {y : MD} {i W0 : Nat} {a : Addr} {argsL : List Value} {Q' : Option Value → Heap → Prop} {ps : List FieldType} {r : Option FieldType} (hd : decode M.2.1 pc = .ok (.invokespecial i, 3)) (hp : pc + 3 = pc') (K : Mt l Z y [] n0 (.ref a :: argsL).toArray h Q') (hkp : Kp wd Z P h Q') (hi : y.1.name = "<init>") (hr0 : y.2.2.2.1 = none)
    (w1 : (Cond.methodLink M.1.cls i y.1).before a0 Z = true) (w2 : (Cond.instanceMethod y.1).before a0 Z = true) (w3 : (Cond.initialized y.1.cls).before a0 Z = true) (w4 : (Cond.code y.1 y.2.1 y.2.2.1 y.2.2.2.1).before a0 Z = true) (hy : y.1.cls ≠ "java/lang/invoke/MethodHandle" ∧ y.1.cls ≠ "java/lang/invoke/VarHandle")
    (hpd : parseMethodDescriptor y.1.desc = some ⟨ps, r⟩) (hlen : argsL.length = ps.length) (hst : st = argsL.reverse ++ .ref a :: rest) (hsz : Ls.size = M.2.2.1) (hW : (rest.map fun v => v.category).sum = W0)
    (hfr : y.2.2.2.2.frames + 1 ≤ M.2.2.2.2.frames) (hlo : W0 + (y.2.2.1 + 11) + y.2.2.2.2.locals ≤ M.2.2.2.2.locals) (hc : k + y.2.2.2.2.cells ≤ M.2.2.2.2.cells) (hs : n + y.2.2.2.2.slots ≤ M.2.2.2.2.slots)
    (W : ∀ v h', h.size ≤ h'.size → Q' v h' → KW wd l Z M n0 Q (P.grow h h') h' (k + y.2.2.2.2.cells) (n + y.2.2.2.2.slots) pc' Ls (v.toList ++ rest)) : KW wd l Z M n0 Q P h k n pc Ls st := by
  intro p e s s' m args below meth c hx hby hml hown hnm hret hlk hZ hB hI T locs X N eT
  subst hp
  obtain ⟨v, _, ⟨T', L', k', n'⟩, -, X', ⟨Lc, ⟨q1, q2, q3⟩, l1, l2, l3⟩, stp⟩ := X.specialBack hx (y := y.1) hi hown (mvT hZ w1) (mvT hZ w2) (bytes := y.2.1) (maxL := y.2.2.1) (by rw [← hr0]; exact mvT hZ w4) hy (backOf (W := W0) (Q := fun v h' L => Fr n0 L ∧ h.size ≤ h'.size ∧ Q' v h') K hZ w4 w3 hfr hlo) (g := mkF m pc Ls st) rfl (hsz.trans hml.symm) (Steps.refl _) (a := a) (argsL := argsL) (rest := rest) (lenOf hpd hlen) hst (by show 2 * 0 + _ ≤ _; omega) (hb hby hd) (fun _ _ => ⟨rfl, eT, hc, hs⟩)
  dsimp only [Pt.U, Pt.locs, Pt.cells, Pt.slots] at X' l1 l2 l3 stp q2 q3
  subst l1 l2 l3
  obtain ⟨t, v', L, r, rr⟩ := W v T'.heap q2 q3 p e s s' m args below meth c hx hby hml hown hnm hret hlk hZ (hB.call hZ hkp q3) hI T' _ X' (Fr.app N q1) rfl
  exact ⟨t, v', L, stp.trans r, rr⟩
/-- an instance method by its contract; the receiver is exactly a C -/
theorem k_callVirtual {y : MD} {x : MethodName} {C : String} {i W0 : Nat} {a : Addr} {argsL : List Value} {Q' : Option Value → Heap → Prop} {ps : List FieldType} {r : Option FieldType} (hd : decode M.2.1 pc = .ok (.invokevirtual i, 3)) (hp : pc + 3 = pc') (K : Mt l Z y [] n0 (.ref a :: argsL).toArray h Q') (hkp : Kp wd Z P h Q') (E : Exa Z h a C)
    (w1 : (Cond.methodLink M.1.cls i x).before a0 Z = true) (w2 : (Cond.declares x).before a0 Z = true) (w3 : (Cond.selects C x y.1).before a0 Z = true) {C7 : String} (w7 : (Cond.selects C7 x x).before a0 Z = true) (w4 : (Cond.instanceMethod y.1).before a0 Z = true) (w5 : (Cond.code y.1 y.2.1 y.2.2.1 y.2.2.2.1).before a0 Z = true) (w6 : (Cond.initialized y.1.cls).before a0 Z = true) (hy : x.cls ≠ "java/lang/invoke/MethodHandle" ∧ x.cls ≠ "java/lang/invoke/VarHandle")
    (hpd : parseMethodDescriptor x.desc = some ⟨ps, r⟩) (hlen : argsL.length = ps.length) (hst : st = argsL.reverse ++ .ref a :: rest) (hsz : Ls.size = M.2.2.1) (hW : (rest.map fun v => v.category).sum = W0)
    (hfr : y.2.2.2.2.frames + 1 ≤ M.2.2.2.2.frames) (hlo : W0 + (y.2.2.1 + 11) + y.2.2.2.2.locals ≤ M.2.2.2.2.locals) (hc : k + y.2.2.2.2.cells ≤ M.2.2.2.2.cells) (hs : n + y.2.2.2.2.slots ≤ M.2.2.2.2.slots)
    (W : ∀ v h', h.size ≤ h'.size → Q' v h' → KW wd l Z M n0 Q (P.grow h h') h' (k + y.2.2.2.2.cells) (n + y.2.2.2.2.slots) pc' Ls (v.toList ++ rest)) : KW wd l Z M n0 Q P h k n pc Ls st := by
  intro p e s s' m args below meth c hx hby hml hown hnm hret hlk hZ hB hI T locs X N eT
  subst hp
  obtain ⟨cq, kq, qa, qb, qc⟩ := isOf hZ eT E
  obtain ⟨v, _, ⟨T', L', k', n'⟩, -, X', ⟨Lc, ⟨q1, q2, q3⟩, l1, l2, l3⟩, stp⟩ := X.virtualBack hx (y := x) (z := y.1) hown (mvT hZ w1) (mvT hZ w2) (notFace_of_selects (args := #[]) (mvT hZ w7)) (mvT hZ w3) (mvT hZ w4) hy (backOf (W := W0) (Q := fun v h' L => Fr n0 L ∧ h.size ≤ h'.size ∧ Q' v h') K hZ w5 w6 hfr hlo) qa qc (g := mkF m pc Ls st) rfl (hsz.trans hml.symm) (Steps.refl _) (argsL := argsL) (rest := rest) (lenOf hpd hlen) hst (by show 2 * 0 + _ ≤ _; omega) (hb hby hd) (fun _ _ => ⟨rfl, eT, hc, hs⟩)
  dsimp only [Pt.U, Pt.locs, Pt.cells, Pt.slots] at X' l1 l2 l3 stp q2 q3
  subst l1 l2 l3
  obtain ⟨t, v', L, r, rr⟩ := W v T'.heap q2 q3 p e s s' m args below meth c hx hby hml hown hnm hret hlk hZ (hB.call hZ hkp q3) hI T' _ X' (Fr.app N q1) rfl
  exact ⟨t, v', L, stp.trans r, rr⟩
end
end Jvm.OwnW

namespace Jvm.Pilot.@@N@@
open Jvm Jvm.ClassFile Sem Op Lib Jvm.Free Jvm.Stand Jvm.LawKit Jvm.RoadKit Bundle Jvm.OwnW Jvm.Pilot.@@N@@.Jvm.D

def own_min (a b : Int32) : Int32 := if b < a then b else a
def own_max (a b : Int32) : Int32 := if a < b then b else a
def own_of (b p q r : Int32) (A H G : Addr) : Addr := if b = 0 then A else if 0 < p then H else if 0 < q then H else if 30000 < r then H else G
theorem own_max0 (p q : Int32) : 0 < own_max p q ↔ (0 < p ∨ 0 < q) := by
  unfold own_max
  split <;> rename_i u <;> simp only [Int32.lt_iff_toInt_lt, show (0 : Int32).toInt = 0 from rfl] at * <;> omega
theorem own_e1 {b p q r : Int32} {A H G : Addr} (h : b = 0) : own_of b p q r A H G = A := by simp [own_of, h]
theorem own_e2 {b p q r : Int32} {A H G : Addr} (h : ¬ b = 0) (h' : 0 < own_max p q) : own_of b p q r A H G = H := by
  rw [own_max0] at h'
  unfold own_of
  rw [if_neg h]
  rcases h' with u | u
  · rw [if_pos u]
  · split <;> first | rfl | rw [if_pos u]
theorem own_k (r : Int32) : r < 30001 ↔ ¬ 30000 < r := by
  simp only [Int32.lt_iff_toInt_lt, show (30001 : Int32).toInt = 30001 from rfl, show (30000 : Int32).toInt = 30000 from rfl]; omega
theorem own_e3 {b p q r : Int32} {A H G : Addr} (h : ¬ b = 0) (h' : ¬ 0 < own_max p q) (h2 : ¬ r < 30001) : own_of b p q r A H G = H := by
  rw [own_max0, not_or] at h'
  rw [own_k, Classical.not_not] at h2
  unfold own_of
  rw [if_neg h, if_neg h'.1, if_neg h'.2, if_pos h2]
theorem own_e4 {b p q r : Int32} {A H G : Addr} (h : ¬ b = 0) (h' : ¬ 0 < own_max p q) (h2 : r < 30001) : own_of b p q r A H G = G := by
  rw [own_max0, not_or] at h'
  rw [own_k] at h2
  unfold own_of
  rw [if_neg h, if_neg h'.1, if_neg h'.2, if_neg h2]
abbrev M_min : MD := ((⟨"java/lang/Math", "min", "(II)I"⟩ : MethodName), jdk_29_method_69_code, 2, (some .int), { frames := 0, cells := 0, slots := 0, locals := 0 })
theorem d_min_0 : decode jdk_29_method_69_code 0 = .ok (.iload_n 0, 1) := by decide +kernel
theorem d_min_1 : decode jdk_29_method_69_code 1 = .ok (.iload_n 1, 1) := by decide +kernel
theorem d_min_2 : decode jdk_29_method_69_code 2 = .ok (.if_icmp .gt 7, 3) := by decide +kernel
theorem d_min_5 : decode jdk_29_method_69_code 5 = .ok (.iload_n 0, 1) := by decide +kernel
theorem d_min_6 : decode jdk_29_method_69_code 6 = .ok (.goto 4, 3) := by decide +kernel
theorem d_min_9 : decode jdk_29_method_69_code 9 = .ok (.iload_n 1, 1) := by decide +kernel
theorem d_min_10 : decode jdk_29_method_69_code 10 = .ok (.ireturn, 1) := by decide +kernel
theorem pd_min : parseMethodDescriptor "(II)I" = some ⟨[.int, .int], (some .int)⟩ := by decide +kernel
theorem pf_min : plainFor (⟨"java/lang/Math", "min", "(II)I"⟩ : MethodName) = true := by first | exact plainFor_of_name (by first | (simp [plainName, overriddenIn]; done) | decide +kernel) | decide +kernel
set_option maxRecDepth 65536 in
set_option maxHeartbeats 40000000 in
theorem kw_min (l : Launch) (Z : State) (a0 : Array Value) (hw : ∀ d ∈ tables_1, d.before a0 Z = true) (a b : Int32) (h0 : Heap) (n0 : Nat) : KW false l Z M_min n0 (fun v h => v = some (.int (own_min a b)) ∧ h0 = h) ([], fun _ => False) h0 0 0 0 #[.val (.int a), .val (.int b)] [] := by
  refine k_iloadN d_min_0 rfl rfl ?_
  refine k_iloadN d_min_1 rfl rfl ?_
  refine k_icmp (pc1 := 9) (pc' := 5) d_min_2 (by decide) (by decide) rfl (fun (cd1 : b < a) => ?_) (fun (cd1 : ¬ b < a) => ?_)
  · skip
    refine k_iloadN d_min_9 rfl rfl ?_
    exact k_retInt d_min_10 rfl (by decide) (by decide) ⟨by unfold own_min; repeat (first | rfl | contradiction | split), rfl⟩
  · skip
    refine k_iloadN d_min_5 rfl rfl ?_
    refine k_goto (pc' := 10) d_min_6 (by decide) (by decide) ?_
    exact k_retInt d_min_10 rfl (by decide) (by decide) ⟨by unfold own_min; repeat (first | rfl | contradiction | split), rfl⟩
theorem mt_min (l : Launch) (Z : State) (a0 : Array Value) (hw : ∀ d ∈ tables_1, d.before a0 Z = true) (a b : Int32) (h0 : Heap) (n0 : Nat) : Mt l Z M_min [] n0 #[(.int a), (.int b)] h0 (fun v h => v = some (.int (own_min a b)) ∧ h0 = h) :=
  mt_of_kw (P := ([], fun _ => False)) pf_min (fun m => by first | (simp [entryFrame, mkF, argsToLocals, Value.category]; done) | rfl) (kw_min l Z a0 hw a b h0 n0)
abbrev M_max : MD := ((⟨"java/lang/Math", "max", "(II)I"⟩ : MethodName), jdk_29_method_65_code, 2, (some .int), { frames := 0, cells := 0, slots := 0, locals := 0 })
theorem d_max_0 : decode jdk_29_method_65_code 0 = .ok (.iload_n 0, 1) := by decide +kernel
theorem d_max_1 : decode jdk_29_method_65_code 1 = .ok (.iload_n 1, 1) := by decide +kernel
theorem d_max_2 : decode jdk_29_method_65_code 2 = .ok (.if_icmp .lt 7, 3) := by decide +kernel
theorem d_max_5 : decode jdk_29_method_65_code 5 = .ok (.iload_n 0, 1) := by decide +kernel
theorem d_max_6 : decode jdk_29_method_65_code 6 = .ok (.goto 4, 3) := by decide +kernel
theorem d_max_9 : decode jdk_29_method_65_code 9 = .ok (.iload_n 1, 1) := by decide +kernel
theorem d_max_10 : decode jdk_29_method_65_code 10 = .ok (.ireturn, 1) := by decide +kernel
theorem pd_max : parseMethodDescriptor "(II)I" = some ⟨[.int, .int], (some .int)⟩ := by decide +kernel
theorem pf_max : plainFor (⟨"java/lang/Math", "max", "(II)I"⟩ : MethodName) = true := by first | exact plainFor_of_name (by first | (simp [plainName, overriddenIn]; done) | decide +kernel) | decide +kernel
set_option maxRecDepth 65536 in
set_option maxHeartbeats 40000000 in
theorem kw_max (l : Launch) (Z : State) (a0 : Array Value) (hw : ∀ d ∈ tables_1, d.before a0 Z = true) (a b : Int32) (h0 : Heap) (n0 : Nat) : KW false l Z M_max n0 (fun v h => v = some (.int (own_max a b)) ∧ h0 = h) ([], fun _ => False) h0 0 0 0 #[.val (.int a), .val (.int b)] [] := by
  refine k_iloadN d_max_0 rfl rfl ?_
  refine k_iloadN d_max_1 rfl rfl ?_
  refine k_icmp (pc1 := 9) (pc' := 5) d_max_2 (by decide) (by decide) rfl (fun (cd1 : a < b) => ?_) (fun (cd1 : ¬ a < b) => ?_)
  · skip
    refine k_iloadN d_max_9 rfl rfl ?_
    exact k_retInt d_max_10 rfl (by decide) (by decide) ⟨by unfold own_max; repeat (first | rfl | contradiction | split), rfl⟩
  · skip
    refine k_iloadN d_max_5 rfl rfl ?_
    refine k_goto (pc' := 10) d_max_6 (by decide) (by decide) ?_
    exact k_retInt d_max_10 rfl (by decide) (by decide) ⟨by unfold own_max; repeat (first | rfl | contradiction | split), rfl⟩
theorem mt_max (l : Launch) (Z : State) (a0 : Array Value) (hw : ∀ d ∈ tables_1, d.before a0 Z = true) (a b : Int32) (h0 : Heap) (n0 : Nat) : Mt l Z M_max [] n0 #[(.int a), (.int b)] h0 (fun v h => v = some (.int (own_max a b)) ∧ h0 = h) :=
  mt_of_kw (P := ([], fun _ => False)) pf_max (fun m => by first | (simp [entryFrame, mkF, argsToLocals, Value.category]; done) | rfl) (kw_max l Z a0 hw a b h0 n0)
abbrev M_of : MD := ((⟨"com/example/lexrep/lexrep/model/Grade", "ofAttempt", "(ZIII)Lcom/example/lexrep/lexrep/model/Grade;"⟩ : MethodName), prog_29_method_6_code, 5, (some (.object "com/example/lexrep/lexrep/model/Grade")), { frames := 0, cells := 0, slots := 0, locals := 0 })
theorem d_of_0 : decode prog_29_method_6_code 0 = .ok (.iload_n 0, 1) := by decide +kernel
theorem d_of_1 : decode prog_29_method_6_code 1 = .ok (.ifCond .ne 11, 3) := by decide +kernel
theorem d_of_4 : decode prog_29_method_6_code 4 = .ok (.getstatic 3, 3) := by decide +kernel
theorem d_of_7 : decode prog_29_method_6_code 7 = .ok (.astore 4, 2) := by decide +kernel
theorem d_of_9 : decode prog_29_method_6_code 9 = .ok (.goto 31, 3) := by decide +kernel
theorem d_of_12 : decode prog_29_method_6_code 12 = .ok (.iload_n 1, 1) := by decide +kernel
theorem d_of_13 : decode prog_29_method_6_code 13 = .ok (.ifCond .gt 14, 3) := by decide +kernel
theorem d_of_16 : decode prog_29_method_6_code 16 = .ok (.iload_n 2, 1) := by decide +kernel
theorem d_of_17 : decode prog_29_method_6_code 17 = .ok (.ifCond .gt 10, 3) := by decide +kernel
theorem d_of_20 : decode prog_29_method_6_code 20 = .ok (.iload_n 3, 1) := by decide +kernel
theorem d_of_21 : decode prog_29_method_6_code 21 = .ok (.sipush 30000, 3) := by decide +kernel
theorem d_of_24 : decode prog_29_method_6_code 24 = .ok (.if_icmp .le 11, 3) := by decide +kernel
theorem d_of_27 : decode prog_29_method_6_code 27 = .ok (.getstatic 7, 3) := by decide +kernel
theorem d_of_30 : decode prog_29_method_6_code 30 = .ok (.astore 4, 2) := by decide +kernel
theorem d_of_32 : decode prog_29_method_6_code 32 = .ok (.goto 8, 3) := by decide +kernel
theorem d_of_35 : decode prog_29_method_6_code 35 = .ok (.getstatic 10, 3) := by decide +kernel
theorem d_of_38 : decode prog_29_method_6_code 38 = .ok (.astore 4, 2) := by decide +kernel
theorem d_of_40 : decode prog_29_method_6_code 40 = .ok (.aload 4, 2) := by decide +kernel
theorem d_of_42 : decode prog_29_method_6_code 42 = .ok (.areturn, 1) := by decide +kernel
theorem pd_of : parseMethodDescriptor "(ZIII)Lcom/example/lexrep/lexrep/model/Grade;" = some ⟨[.boolean, .int, .int, .int], (some (.object "com/example/lexrep/lexrep/model/Grade"))⟩ := by decide +kernel
theorem pf_of : plainFor (⟨"com/example/lexrep/lexrep/model/Grade", "ofAttempt", "(ZIII)Lcom/example/lexrep/lexrep/model/Grade;"⟩ : MethodName) = true := by first | exact plainFor_of_name (by first | (simp [plainName, overriddenIn]; done) | decide +kernel) | decide +kernel
set_option maxRecDepth 65536 in
set_option maxHeartbeats 40000000 in
theorem kw_of (l : Launch) (Z : State) (a0 : Array Value) (hw : ∀ d ∈ tables_1, d.before a0 Z = true) (b p q r : Int32) (A H G : Addr) (h0 : Heap) (n0 : Nat) (FA : Sta Z h0 "com/example/lexrep/lexrep/model/Grade" "AGAIN" "Lcom/example/lexrep/lexrep/model/Grade;" (.ref A)) (FH : Sta Z h0 "com/example/lexrep/lexrep/model/Grade" "HARD" "Lcom/example/lexrep/lexrep/model/Grade;" (.ref H)) (FG : Sta Z h0 "com/example/lexrep/lexrep/model/Grade" "GOOD" "Lcom/example/lexrep/lexrep/model/Grade;" (.ref G)) : KW false l Z M_of n0 (fun v h => v = some (.ref (own_of b p q r A H G)) ∧ h0 = h) ([], fun _ => False) h0 0 0 0 #[.val (.int b), .val (.int p), .val (.int q), .val (.int r), .unset] [] := by
  refine k_iloadN d_of_0 rfl rfl ?_
  refine k_ifc (pc1 := 12) (pc' := 4) d_of_1 (by decide) (by decide) rfl (fun (cd1 : ¬ b = (0 : Int32)) => ?_) (fun (cd1 : b = (0 : Int32)) => ?_)
  · skip
    refine k_iloadN d_of_12 rfl rfl ?_
    refine k_ifc (pc1 := 27) (pc' := 16) d_of_13 (by decide) (by decide) rfl (fun (cd2 : (0 : Int32) < p) => ?_) (fun (cd2 : ¬ (0 : Int32) < p) => ?_)
    · skip
      refine k_getStatic d_of_27 rfl (hw _ (List.mem_of_getElem? (i := 17) rfl)) FH ?_
      refine k_astore (Ls' := #[.val (.int b), .val (.int p), .val (.int q), .val (.int r), .val (.ref H)]) d_of_30 rfl rfl rfl ?_
      refine k_goto (pc' := 40) d_of_32 (by decide) (by decide) ?_
      refine k_aload d_of_40 rfl rfl rfl ?_
      exact k_retRef d_of_42 rfl rfl rfl (by decide) (by decide) ⟨by unfold own_of; repeat (first | rfl | contradiction | split), rfl⟩
    · skip
      refine k_iloadN d_of_16 rfl rfl ?_
      refine k_ifc (pc1 := 27) (pc' := 20) d_of_17 (by decide) (by decide) rfl (fun (cd3 : (0 : Int32) < q) => ?_) (fun (cd3 : ¬ (0 : Int32) < q) => ?_)
      · skip
        refine k_getStatic d_of_27 rfl (hw _ (List.mem_of_getElem? (i := 17) rfl)) FH ?_
        refine k_astore (Ls' := #[.val (.int b), .val (.int p), .val (.int q), .val (.int r), .val (.ref H)]) d_of_30 rfl rfl rfl ?_
        refine k_goto (pc' := 40) d_of_32 (by decide) (by decide) ?_
        refine k_aload d_of_40 rfl rfl rfl ?_
        exact k_retRef d_of_42 rfl rfl rfl (by decide) (by decide) ⟨by unfold own_of; repeat (first | rfl | contradiction | split), rfl⟩
      · skip
        refine k_iloadN d_of_20 rfl rfl ?_
        refine k_sipush (z := (30000 : Int32)) d_of_21 rfl (by decide) ?_
        refine k_icmp (pc1 := 35) (pc' := 27) d_of_24 (by decide) (by decide) rfl (fun (cd4 : ¬ (30000 : Int32) < r) => ?_) (fun (cd4 : (30000 : Int32) < r) => ?_)
        · skip
          refine k_getStatic d_of_35 rfl (hw _ (List.mem_of_getElem? (i := 14) rfl)) FG ?_
          refine k_astore (Ls' := #[.val (.int b), .val (.int p), .val (.int q), .val (.int r), .val (.ref G)]) d_of_38 rfl rfl rfl ?_
          refine k_aload d_of_40 rfl rfl rfl ?_
          exact k_retRef d_of_42 rfl rfl rfl (by decide) (by decide) ⟨by unfold own_of; repeat (first | rfl | contradiction | split), rfl⟩
        · skip
          refine k_getStatic d_of_27 rfl (hw _ (List.mem_of_getElem? (i := 17) rfl)) FH ?_
          refine k_astore (Ls' := #[.val (.int b), .val (.int p), .val (.int q), .val (.int r), .val (.ref H)]) d_of_30 rfl rfl rfl ?_
          refine k_goto (pc' := 40) d_of_32 (by decide) (by decide) ?_
          refine k_aload d_of_40 rfl rfl rfl ?_
          exact k_retRef d_of_42 rfl rfl rfl (by decide) (by decide) ⟨by unfold own_of; repeat (first | rfl | contradiction | split), rfl⟩
  · skip
    refine k_getStatic d_of_4 rfl (hw _ (List.mem_of_getElem? (i := 4) rfl)) FA ?_
    refine k_astore (Ls' := #[.val (.int b), .val (.int p), .val (.int q), .val (.int r), .val (.ref A)]) d_of_7 rfl rfl rfl ?_
    refine k_goto (pc' := 40) d_of_9 (by decide) (by decide) ?_
    refine k_aload d_of_40 rfl rfl rfl ?_
    exact k_retRef d_of_42 rfl rfl rfl (by decide) (by decide) ⟨by unfold own_of; repeat (first | rfl | contradiction | split), rfl⟩
theorem mt_of (l : Launch) (Z : State) (a0 : Array Value) (hw : ∀ d ∈ tables_1, d.before a0 Z = true) (b p q r : Int32) (A H G : Addr) (h0 : Heap) (n0 : Nat) (FA : Sta Z h0 "com/example/lexrep/lexrep/model/Grade" "AGAIN" "Lcom/example/lexrep/lexrep/model/Grade;" (.ref A)) (FH : Sta Z h0 "com/example/lexrep/lexrep/model/Grade" "HARD" "Lcom/example/lexrep/lexrep/model/Grade;" (.ref H)) (FG : Sta Z h0 "com/example/lexrep/lexrep/model/Grade" "GOOD" "Lcom/example/lexrep/lexrep/model/Grade;" (.ref G)) : Mt l Z M_of [] n0 #[(.int b), (.int p), (.int q), (.int r)] h0 (fun v h => v = some (.ref (own_of b p q r A H G)) ∧ h0 = h) :=
  mt_of_kw (P := ([], fun _ => False)) pf_of (fun m => by first | (simp [entryFrame, mkF, argsToLocals, Value.category]; done) | rfl) (kw_of l Z a0 hw b p q r A H G h0 n0 FA FH FG)
abbrev M_law : MD := (x, code, maxLocals, ret, room_1)
theorem pd_law : parseMethodDescriptor "(IIII)Z" = some ⟨[.int, .int, .int, .int], (some .boolean)⟩ := by decide +kernel
theorem pf_law : plainFor (⟨"com/example/lexrep/lexrep/model/GradeOfAttemptPinLaw", "law", "(IIII)Z"⟩ : MethodName) = true := by first | exact plainFor_of_name (by first | (simp [plainName, overriddenIn]; done) | decide +kernel) | decide +kernel
set_option maxRecDepth 65536 in
set_option maxHeartbeats 40000000 in
theorem kw_law (l : Launch) (Z : State) (a0 : Array Value) (hw : ∀ d ∈ tables_1, d.before a0 Z = true) (flags hints retries latency : Int32) (A H G : Addr) (h0 : Heap) (n0 : Nat) (FA : Sta Z h0 "com/example/lexrep/lexrep/model/Grade" "AGAIN" "Lcom/example/lexrep/lexrep/model/Grade;" (.ref A)) (FH : Sta Z h0 "com/example/lexrep/lexrep/model/Grade" "HARD" "Lcom/example/lexrep/lexrep/model/Grade;" (.ref H)) (FG : Sta Z h0 "com/example/lexrep/lexrep/model/Grade" "GOOD" "Lcom/example/lexrep/lexrep/model/Grade;" (.ref G)) : KW false l Z M_law n0 (fun v _ => v = some (.int 1)) ([], fun _ => False) h0 0 0 0 #[.val (.int flags), .val (.int hints), .val (.int retries), .val (.int latency), .unset, .unset, .unset, .unset, .unset, .unset, .unset] [] := by
  have j13 : ∀ b : Int32, KW false l Z M_law n0 (fun v _ => v = some (.int 1)) ([], fun _ => False) h0 0 0 13 #[.val (.int flags), .val (.int hints), .val (.int retries), .val (.int latency), .val (.int b), .unset, .unset, .unset, .unset, .unset, .unset] [] := by
    intro b
    have j30 : ∀ p : Int32, KW false l Z M_law n0 (fun v _ => v = some (.int 1)) ([], fun _ => False) h0 0 0 30 #[.val (.int flags), .val (.int hints), .val (.int retries), .val (.int latency), .val (.int b), .val (.int p), .unset, .unset, .unset, .unset, .unset] [] := by
      intro p
      have j47 : ∀ q : Int32, KW false l Z M_law n0 (fun v _ => v = some (.int 1)) ([], fun _ => False) h0 0 0 47 #[.val (.int flags), .val (.int hints), .val (.int retries), .val (.int latency), .val (.int b), .val (.int p), .val (.int q), .unset, .unset, .unset, .unset] [] := by
        intro q
        have j67 : ∀ r : Int32, KW false l Z M_law n0 (fun v _ => v = some (.int 1)) ([], fun _ => False) h0 0 0 67 #[.val (.int flags), .val (.int hints), .val (.int retries), .val (.int latency), .val (.int b), .val (.int p), .val (.int q), .val (.int r), .unset, .unset, .unset] [] := by
          intro r
          refine k_iload at_67 rfl rfl ?_
          refine k_iload at_69 rfl rfl ?_
          refine k_iload at_71 rfl rfl ?_
          refine k_iload at_73 rfl rfl ?_
          refine k_callStatic (W0 := 0) (argsL := [(.int b), (.int p), (.int q), (.int r)]) (rest := []) at_75 rfl (mt_of l Z a0 hw b p q r A H G h0 n0 FA FH FG) Kp.strict (hw _ (List.mem_of_getElem? (i := 0) rfl)) (hw _ (List.mem_of_getElem? (i := 1) rfl)) (hw _ (List.mem_of_getElem? (i := 2) rfl)) (hw _ (List.mem_of_getElem? (i := 3) rfl)) (by decide) pd_of rfl rfl rfl rfl (by decide) (by decide) (by decide) (by decide) ?_
          rintro _ _ - ⟨rfl, rfl⟩
          refine KW.any (P' := ([], fun _ => False)) ?_
          show KW false l Z M_law n0 (fun v _ => v = some (.int 1)) ([], fun _ => False) h0 0 0 78 #[.val (.int flags), .val (.int hints), .val (.int retries), .val (.int latency), .val (.int b), .val (.int p), .val (.int q), .val (.int r), .unset, .unset, .unset] [(.ref (own_of b p q r A H G))]
          refine k_astore (Ls' := #[.val (.int flags), .val (.int hints), .val (.int retries), .val (.int latency), .val (.int b), .val (.int p), .val (.int q), .val (.int r), .val (.ref (own_of b p q r A H G)), .unset, .unset]) at_78 rfl rfl rfl ?_
          refine k_iload at_80 rfl rfl ?_
          refine k_iload at_82 rfl rfl ?_
          refine k_callStatic (W0 := 0) (argsL := [(.int p), (.int q)]) (rest := []) at_84 rfl (mt_max l Z a0 hw p q h0 n0) Kp.strict (hw _ (List.mem_of_getElem? (i := 6) rfl)) (hw _ (List.mem_of_getElem? (i := 7) rfl)) (hw _ (List.mem_of_getElem? (i := 8) rfl)) (hw _ (List.mem_of_getElem? (i := 9) rfl)) (by decide) pd_max rfl rfl rfl rfl (by decide) (by decide) (by decide) (by decide) ?_
          rintro _ _ - ⟨rfl, rfl⟩
          refine KW.any (P' := ([], fun _ => False)) ?_
          show KW false l Z M_law n0 (fun v _ => v = some (.int 1)) ([], fun _ => False) h0 0 0 87 #[.val (.int flags), .val (.int hints), .val (.int retries), .val (.int latency), .val (.int b), .val (.int p), .val (.int q), .val (.int r), .val (.ref (own_of b p q r A H G)), .unset, .unset] [(.int (own_max p q))]
          refine k_ifc (pc1 := 98) (pc' := 90) at_87 (by decide) (by decide) rfl (fun (cd1 : (0 : Int32) < (own_max p q)) => ?_) (fun (cd1 : ¬ (0 : Int32) < (own_max p q)) => ?_)
          · skip
            refine k_iconst (z := (1 : Int32)) at_98 rfl (by decide) ?_
            refine k_goto (pc' := 103) at_99 (by decide) (by decide) ?_
            refine k_istore (Ls' := #[.val (.int flags), .val (.int hints), .val (.int retries), .val (.int latency), .val (.int b), .val (.int p), .val (.int q), .val (.int r), .val (.ref (own_of b p q r A H G)), .val (.int (1 : Int32)), .unset]) at_103 rfl rfl ?_
            refine k_iload at_105 rfl rfl ?_
            refine k_ifc (pc1 := 118) (pc' := 110) at_107 (by decide) (by decide) rfl (fun (cd2 : ¬ b = (0 : Int32)) => ?_) (fun (cd2 : b = (0 : Int32)) => ?_)
            · skip
              refine k_iload at_118 rfl rfl ?_
              refine k_ifc (pc1 := 131) (pc' := 123) at_120 (by decide) (by decide) rfl (fun (cd3 : (1 : Int32) = (0 : Int32)) => False.elim (by exact absurd cd3 (by decide))) (fun (cd3 : ¬ (1 : Int32) = (0 : Int32)) => ?_)
              refine k_getStatic at_123 rfl (hw _ (List.mem_of_getElem? (i := 19) rfl)) FH ?_
              refine k_astore (Ls' := #[.val (.int flags), .val (.int hints), .val (.int retries), .val (.int latency), .val (.int b), .val (.int p), .val (.int q), .val (.int r), .val (.ref (own_of b p q r A H G)), .val (.int (1 : Int32)), .val (.ref H)]) at_126 rfl rfl rfl ?_
              refine k_goto (pc' := 136) at_128 (by decide) (by decide) ?_
              refine k_aload at_136 rfl rfl rfl ?_
              refine k_aload at_138 rfl rfl rfl ?_
              refine k_acmpNe (pc1 := 147) (pc' := 143) at_140 rfl rfl (by decide) (by decide) rfl (fun (cd4 : ¬ (Value.ref (own_of b p q r A H G)) = (Value.ref H)) => absurd (by exact congrArg Value.ref (by first | exact own_e1 (by assumption) | exact own_e2 (by assumption) (by assumption) | exact own_e3 (by assumption) (by assumption) (by assumption) | exact own_e4 (by assumption) (by assumption) (by assumption))) cd4) (fun (cd4 : (Value.ref (own_of b p q r A H G)) = (Value.ref H)) => ?_)
              refine k_iconst (z := (1 : Int32)) at_143 rfl (by decide) ?_
              refine k_goto (pc' := 148) at_144 (by decide) (by decide) ?_
              exact k_retNar at_148 rfl (by simp) (z' := (1 : Int32)) (by decide) (by decide) (by decide) rfl
            · skip
              refine k_getStatic at_110 rfl (hw _ (List.mem_of_getElem? (i := 10) rfl)) FA ?_
              refine k_astore (Ls' := #[.val (.int flags), .val (.int hints), .val (.int retries), .val (.int latency), .val (.int b), .val (.int p), .val (.int q), .val (.int r), .val (.ref (own_of b p q r A H G)), .val (.int (1 : Int32)), .val (.ref A)]) at_113 rfl rfl rfl ?_
              refine k_goto (pc' := 136) at_115 (by decide) (by decide) ?_
              refine k_aload at_136 rfl rfl rfl ?_
              refine k_aload at_138 rfl rfl rfl ?_
              refine k_acmpNe (pc1 := 147) (pc' := 143) at_140 rfl rfl (by decide) (by decide) rfl (fun (cd5 : ¬ (Value.ref (own_of b p q r A H G)) = (Value.ref A)) => absurd (by exact congrArg Value.ref (by first | exact own_e1 (by assumption) | exact own_e2 (by assumption) (by assumption) | exact own_e3 (by assumption) (by assumption) (by assumption) | exact own_e4 (by assumption) (by assumption) (by assumption))) cd5) (fun (cd5 : (Value.ref (own_of b p q r A H G)) = (Value.ref A)) => ?_)
              refine k_iconst (z := (1 : Int32)) at_143 rfl (by decide) ?_
              refine k_goto (pc' := 148) at_144 (by decide) (by decide) ?_
              exact k_retNar at_148 rfl (by simp) (z' := (1 : Int32)) (by decide) (by decide) (by decide) rfl
          · skip
            refine k_iload at_90 rfl rfl ?_
            refine k_sipush (z := (30001 : Int32)) at_92 rfl (by decide) ?_
            refine k_icmp (pc1 := 102) (pc' := 98) at_95 (by decide) (by decide) rfl (fun (cd6 : r < (30001 : Int32)) => ?_) (fun (cd6 : ¬ r < (30001 : Int32)) => ?_)
            · skip
              refine k_iconst (z := (0 : Int32)) at_102 rfl (by decide) ?_
              refine k_istore (Ls' := #[.val (.int flags), .val (.int hints), .val (.int retries), .val (.int latency), .val (.int b), .val (.int p), .val (.int q), .val (.int r), .val (.ref (own_of b p q r A H G)), .val (.int (0 : Int32)), .unset]) at_103 rfl rfl ?_
              refine k_iload at_105 rfl rfl ?_
              refine k_ifc (pc1 := 118) (pc' := 110) at_107 (by decide) (by decide) rfl (fun (cd7 : ¬ b = (0 : Int32)) => ?_) (fun (cd7 : b = (0 : Int32)) => ?_)
              · skip
                refine k_iload at_118 rfl rfl ?_
                refine k_ifc (pc1 := 131) (pc' := 123) at_120 (by decide) (by decide) rfl (fun (cd8 : (0 : Int32) = (0 : Int32)) => ?_) (fun (cd8 : ¬ (0 : Int32) = (0 : Int32)) => False.elim (by exact absurd cd8 (by decide)))
                refine k_getStatic at_131 rfl (hw _ (List.mem_of_getElem? (i := 16) rfl)) FG ?_
                refine k_astore (Ls' := #[.val (.int flags), .val (.int hints), .val (.int retries), .val (.int latency), .val (.int b), .val (.int p), .val (.int q), .val (.int r), .val (.ref (own_of b p q r A H G)), .val (.int (0 : Int32)), .val (.ref G)]) at_134 rfl rfl rfl ?_
                refine k_aload at_136 rfl rfl rfl ?_
                refine k_aload at_138 rfl rfl rfl ?_
                refine k_acmpNe (pc1 := 147) (pc' := 143) at_140 rfl rfl (by decide) (by decide) rfl (fun (cd9 : ¬ (Value.ref (own_of b p q r A H G)) = (Value.ref G)) => absurd (by exact congrArg Value.ref (by first | exact own_e1 (by assumption) | exact own_e2 (by assumption) (by assumption) | exact own_e3 (by assumption) (by assumption) (by assumption) | exact own_e4 (by assumption) (by assumption) (by assumption))) cd9) (fun (cd9 : (Value.ref (own_of b p q r A H G)) = (Value.ref G)) => ?_)
                refine k_iconst (z := (1 : Int32)) at_143 rfl (by decide) ?_
                refine k_goto (pc' := 148) at_144 (by decide) (by decide) ?_
                exact k_retNar at_148 rfl (by simp) (z' := (1 : Int32)) (by decide) (by decide) (by decide) rfl
              · skip
                refine k_getStatic at_110 rfl (hw _ (List.mem_of_getElem? (i := 10) rfl)) FA ?_
                refine k_astore (Ls' := #[.val (.int flags), .val (.int hints), .val (.int retries), .val (.int latency), .val (.int b), .val (.int p), .val (.int q), .val (.int r), .val (.ref (own_of b p q r A H G)), .val (.int (0 : Int32)), .val (.ref A)]) at_113 rfl rfl rfl ?_
                refine k_goto (pc' := 136) at_115 (by decide) (by decide) ?_
                refine k_aload at_136 rfl rfl rfl ?_
                refine k_aload at_138 rfl rfl rfl ?_
                refine k_acmpNe (pc1 := 147) (pc' := 143) at_140 rfl rfl (by decide) (by decide) rfl (fun (cd10 : ¬ (Value.ref (own_of b p q r A H G)) = (Value.ref A)) => absurd (by exact congrArg Value.ref (by first | exact own_e1 (by assumption) | exact own_e2 (by assumption) (by assumption) | exact own_e3 (by assumption) (by assumption) (by assumption) | exact own_e4 (by assumption) (by assumption) (by assumption))) cd10) (fun (cd10 : (Value.ref (own_of b p q r A H G)) = (Value.ref A)) => ?_)
                refine k_iconst (z := (1 : Int32)) at_143 rfl (by decide) ?_
                refine k_goto (pc' := 148) at_144 (by decide) (by decide) ?_
                exact k_retNar at_148 rfl (by simp) (z' := (1 : Int32)) (by decide) (by decide) (by decide) rfl
            · skip
              refine k_iconst (z := (1 : Int32)) at_98 rfl (by decide) ?_
              refine k_goto (pc' := 103) at_99 (by decide) (by decide) ?_
              refine k_istore (Ls' := #[.val (.int flags), .val (.int hints), .val (.int retries), .val (.int latency), .val (.int b), .val (.int p), .val (.int q), .val (.int r), .val (.ref (own_of b p q r A H G)), .val (.int (1 : Int32)), .unset]) at_103 rfl rfl ?_
              refine k_iload at_105 rfl rfl ?_
              refine k_ifc (pc1 := 118) (pc' := 110) at_107 (by decide) (by decide) rfl (fun (cd11 : ¬ b = (0 : Int32)) => ?_) (fun (cd11 : b = (0 : Int32)) => ?_)
              · skip
                refine k_iload at_118 rfl rfl ?_
                refine k_ifc (pc1 := 131) (pc' := 123) at_120 (by decide) (by decide) rfl (fun (cd12 : (1 : Int32) = (0 : Int32)) => False.elim (by exact absurd cd12 (by decide))) (fun (cd12 : ¬ (1 : Int32) = (0 : Int32)) => ?_)
                refine k_getStatic at_123 rfl (hw _ (List.mem_of_getElem? (i := 19) rfl)) FH ?_
                refine k_astore (Ls' := #[.val (.int flags), .val (.int hints), .val (.int retries), .val (.int latency), .val (.int b), .val (.int p), .val (.int q), .val (.int r), .val (.ref (own_of b p q r A H G)), .val (.int (1 : Int32)), .val (.ref H)]) at_126 rfl rfl rfl ?_
                refine k_goto (pc' := 136) at_128 (by decide) (by decide) ?_
                refine k_aload at_136 rfl rfl rfl ?_
                refine k_aload at_138 rfl rfl rfl ?_
                refine k_acmpNe (pc1 := 147) (pc' := 143) at_140 rfl rfl (by decide) (by decide) rfl (fun (cd13 : ¬ (Value.ref (own_of b p q r A H G)) = (Value.ref H)) => absurd (by exact congrArg Value.ref (by first | exact own_e1 (by assumption) | exact own_e2 (by assumption) (by assumption) | exact own_e3 (by assumption) (by assumption) (by assumption) | exact own_e4 (by assumption) (by assumption) (by assumption))) cd13) (fun (cd13 : (Value.ref (own_of b p q r A H G)) = (Value.ref H)) => ?_)
                refine k_iconst (z := (1 : Int32)) at_143 rfl (by decide) ?_
                refine k_goto (pc' := 148) at_144 (by decide) (by decide) ?_
                exact k_retNar at_148 rfl (by simp) (z' := (1 : Int32)) (by decide) (by decide) (by decide) rfl
              · skip
                refine k_getStatic at_110 rfl (hw _ (List.mem_of_getElem? (i := 10) rfl)) FA ?_
                refine k_astore (Ls' := #[.val (.int flags), .val (.int hints), .val (.int retries), .val (.int latency), .val (.int b), .val (.int p), .val (.int q), .val (.int r), .val (.ref (own_of b p q r A H G)), .val (.int (1 : Int32)), .val (.ref A)]) at_113 rfl rfl rfl ?_
                refine k_goto (pc' := 136) at_115 (by decide) (by decide) ?_
                refine k_aload at_136 rfl rfl rfl ?_
                refine k_aload at_138 rfl rfl rfl ?_
                refine k_acmpNe (pc1 := 147) (pc' := 143) at_140 rfl rfl (by decide) (by decide) rfl (fun (cd14 : ¬ (Value.ref (own_of b p q r A H G)) = (Value.ref A)) => absurd (by exact congrArg Value.ref (by first | exact own_e1 (by assumption) | exact own_e2 (by assumption) (by assumption) | exact own_e3 (by assumption) (by assumption) (by assumption) | exact own_e4 (by assumption) (by assumption) (by assumption))) cd14) (fun (cd14 : (Value.ref (own_of b p q r A H G)) = (Value.ref A)) => ?_)
                refine k_iconst (z := (1 : Int32)) at_143 rfl (by decide) ?_
                refine k_goto (pc' := 148) at_144 (by decide) (by decide) ?_
                exact k_retNar at_148 rfl (by simp) (z' := (1 : Int32)) (by decide) (by decide) (by decide) rfl
        refine k_iloadN at_47 rfl rfl ?_
        refine k_bipush (z := (8 : Int32)) at_48 rfl (by decide) ?_
        refine k_iand at_50 rfl ?_
        refine k_ifc (pc1 := 64) (pc' := 54) at_51 (by decide) (by decide) rfl (fun (cd15 : (flags &&& (8 : Int32)) = (0 : Int32)) => ?_) (fun (cd15 : ¬ (flags &&& (8 : Int32)) = (0 : Int32)) => ?_)
        · skip
          refine k_iloadN at_64 rfl rfl ?_
          refine k_istore (Ls' := #[.val (.int flags), .val (.int hints), .val (.int retries), .val (.int latency), .val (.int b), .val (.int p), .val (.int q), .val (.int latency), .unset, .unset, .unset]) at_65 rfl rfl ?_
          exact j67 _
        · skip
          refine k_sipush (z := (30000 : Int32)) at_54 rfl (by decide) ?_
          refine k_iloadN at_57 rfl rfl ?_
          refine k_iconst (z := (2 : Int32)) at_58 rfl (by decide) ?_
          refine k_irem at_59 rfl (by decide) ?_
          refine k_iadd at_60 rfl ?_
          refine k_goto (pc' := 65) at_61 (by decide) (by decide) ?_
          refine k_istore (Ls' := #[.val (.int flags), .val (.int hints), .val (.int retries), .val (.int latency), .val (.int b), .val (.int p), .val (.int q), .val (.int ((30000 : Int32) + (latency % (2 : Int32)))), .unset, .unset, .unset]) at_65 rfl rfl ?_
          exact j67 _
      refine k_iloadN at_30 rfl rfl ?_
      refine k_iconst (z := (4 : Int32)) at_31 rfl (by decide) ?_
      refine k_iand at_32 rfl ?_
      refine k_ifc (pc1 := 44) (pc' := 36) at_33 (by decide) (by decide) rfl (fun (cd16 : (flags &&& (4 : Int32)) = (0 : Int32)) => ?_) (fun (cd16 : ¬ (flags &&& (4 : Int32)) = (0 : Int32)) => ?_)
      · skip
        refine k_iloadN at_44 rfl rfl ?_
        refine k_istore (Ls' := #[.val (.int flags), .val (.int hints), .val (.int retries), .val (.int latency), .val (.int b), .val (.int p), .val (.int retries), .unset, .unset, .unset, .unset]) at_45 rfl rfl ?_
        exact j47 _
      · skip
        refine k_iloadN at_36 rfl rfl ?_
        refine k_iconst (z := (0 : Int32)) at_37 rfl (by decide) ?_
        refine k_callStatic (W0 := 0) (argsL := [(.int retries), (.int (0 : Int32))]) (rest := []) at_38 rfl (mt_min l Z a0 hw retries (0 : Int32) h0 n0) Kp.strict (hw _ (List.mem_of_getElem? (i := 11) rfl)) (hw _ (List.mem_of_getElem? (i := 12) rfl)) (hw _ (List.mem_of_getElem? (i := 8) rfl)) (hw _ (List.mem_of_getElem? (i := 13) rfl)) (by decide) pd_min rfl rfl rfl rfl (by decide) (by decide) (by decide) (by decide) ?_
        rintro _ _ - ⟨rfl, rfl⟩
        refine KW.any (P' := ([], fun _ => False)) ?_
        show KW false l Z M_law n0 (fun v _ => v = some (.int 1)) ([], fun _ => False) h0 0 0 41 #[.val (.int flags), .val (.int hints), .val (.int retries), .val (.int latency), .val (.int b), .val (.int p), .unset, .unset, .unset, .unset, .unset] [(.int (own_min retries (0 : Int32)))]
        refine k_goto (pc' := 45) at_41 (by decide) (by decide) ?_
        refine k_istore (Ls' := #[.val (.int flags), .val (.int hints), .val (.int retries), .val (.int latency), .val (.int b), .val (.int p), .val (.int (own_min retries (0 : Int32))), .unset, .unset, .unset, .unset]) at_45 rfl rfl ?_
        exact j47 _
    refine k_iloadN at_13 rfl rfl ?_
    refine k_iconst (z := (2 : Int32)) at_14 rfl (by decide) ?_
    refine k_iand at_15 rfl ?_
    refine k_ifc (pc1 := 27) (pc' := 19) at_16 (by decide) (by decide) rfl (fun (cd17 : (flags &&& (2 : Int32)) = (0 : Int32)) => ?_) (fun (cd17 : ¬ (flags &&& (2 : Int32)) = (0 : Int32)) => ?_)
    · skip
      refine k_iloadN at_27 rfl rfl ?_
      refine k_istore (Ls' := #[.val (.int flags), .val (.int hints), .val (.int retries), .val (.int latency), .val (.int b), .val (.int hints), .unset, .unset, .unset, .unset, .unset]) at_28 rfl rfl ?_
      exact j30 _
    · skip
      refine k_iloadN at_19 rfl rfl ?_
      refine k_iconst (z := (0 : Int32)) at_20 rfl (by decide) ?_
      refine k_callStatic (W0 := 0) (argsL := [(.int hints), (.int (0 : Int32))]) (rest := []) at_21 rfl (mt_min l Z a0 hw hints (0 : Int32) h0 n0) Kp.strict (hw _ (List.mem_of_getElem? (i := 11) rfl)) (hw _ (List.mem_of_getElem? (i := 12) rfl)) (hw _ (List.mem_of_getElem? (i := 8) rfl)) (hw _ (List.mem_of_getElem? (i := 13) rfl)) (by decide) pd_min rfl rfl rfl rfl (by decide) (by decide) (by decide) (by decide) ?_
      rintro _ _ - ⟨rfl, rfl⟩
      refine KW.any (P' := ([], fun _ => False)) ?_
      show KW false l Z M_law n0 (fun v _ => v = some (.int 1)) ([], fun _ => False) h0 0 0 24 #[.val (.int flags), .val (.int hints), .val (.int retries), .val (.int latency), .val (.int b), .unset, .unset, .unset, .unset, .unset, .unset] [(.int (own_min hints (0 : Int32)))]
      refine k_goto (pc' := 28) at_24 (by decide) (by decide) ?_
      refine k_istore (Ls' := #[.val (.int flags), .val (.int hints), .val (.int retries), .val (.int latency), .val (.int b), .val (.int (own_min hints (0 : Int32))), .unset, .unset, .unset, .unset, .unset]) at_28 rfl rfl ?_
      exact j30 _
  refine k_iloadN at_0 rfl rfl ?_
  refine k_iconst (z := (1 : Int32)) at_1 rfl (by decide) ?_
  refine k_iand at_2 rfl ?_
  refine k_ifc (pc1 := 10) (pc' := 6) at_3 (by decide) (by decide) rfl (fun (cd18 : (flags &&& (1 : Int32)) = (0 : Int32)) => ?_) (fun (cd18 : ¬ (flags &&& (1 : Int32)) = (0 : Int32)) => ?_)
  · skip
    refine k_iconst (z := (0 : Int32)) at_10 rfl (by decide) ?_
    refine k_istore (Ls' := #[.val (.int flags), .val (.int hints), .val (.int retries), .val (.int latency), .val (.int (0 : Int32)), .unset, .unset, .unset, .unset, .unset, .unset]) at_11 rfl rfl ?_
    exact j13 _
  · skip
    refine k_iconst (z := (1 : Int32)) at_6 rfl (by decide) ?_
    refine k_goto (pc' := 11) at_7 (by decide) (by decide) ?_
    refine k_istore (Ls' := #[.val (.int flags), .val (.int hints), .val (.int retries), .val (.int latency), .val (.int (1 : Int32)), .unset, .unset, .unset, .unset, .unset, .unset]) at_11 rfl rfl ?_
    exact j13 _
set_option maxRecDepth 65536 in
set_option maxHeartbeats 40000000 in
theorem comes_1 {Post : Tables → Env → Array Value → State → Outcome → State → Prop} (hpost : ∀ tb e args s v u, (limb_1_1.after args s (.returned v) u = true ∧ limb_1_2.after args s (.returned v) u = true ∧ True) → FrameEnd s (.returned v) u (Jvm.fieldLocs frame_1_writes args s ++ Jvm.arrayLocs frame_1_arrays args s ++ Jvm.staticLocs frame_1_statics s) 0 0 → Post tb e args s (.returned v) u) :
    ArmFor flags0 classFile x code maxLocals ret World_1 tables_1 room_1 Calls_1 rest_1 Pre_1 Post := by
  intro l hfl _ _ p e ha hc hk s m args below hf hA hF happ hP
  obtain ⟨hcalls, hrest, hpre⟩ := hP
  obtain ⟨-, -, -, hnamed, -, -, -, hat⟩ := (Spec.applies_iff hf).mp happ
  obtain ⟨hg, hn⟩ := and_e (Cond.before_iff.mp (show (Jvm.Cond.and given_1 narrow_1).before args s = true from hpre))
  obtain ⟨hcount, g0⟩ := and_e hg
  obtain ⟨g0, g1⟩ := and_e g0
  obtain ⟨g1, g2⟩ := and_e g1
  obtain ⟨g2, g3⟩ := and_e g2
  obtain ⟨w0, w1, w2, w3, rfl⟩ : ∃ w0 w1 w2 w3 : Value, args = #[w0, w1, w2, w3] := by
    have hs : args.size = 4 := by simpa [Cond.value, given_1] using hcount
    obtain ⟨L⟩ := args
    match L, hs with
    | [w0, w1, w2, w3], _ => exact ⟨w0, w1, w2, w3, rfl⟩
  have hw := fun d (hd : d ∈ tables_1) => atoms_spec (ws := Jvm.Cond.code x code maxLocals ret :: tables_1) hat d (List.mem_cons_of_mem _ hd)
  have hfit : Fit s := fun {y c} hc i hi => by
    obtain ⟨ha, rfl⟩ := Array.getElem?_eq_some_iff.mp hc
    have q := List.all_eq_true.mp ((Array.all_eq_true_iff_forall_mem.mp hF) _ (Array.getElem_mem ha)) i (List.mem_range.mpr hi)
    simpa [Array.getElem?_eq_getElem hi] using q
  obtain ⟨x0, e0⟩ := is_v g0
  obtain rfl : w0 = (.int x0) := Option.some.inj e0
  obtain ⟨x1, e1⟩ := is_v g1
  obtain rfl : w1 = (.int x1) := Option.some.inj e1
  obtain ⟨x2, e2⟩ := is_v g2
  obtain rfl : w2 = (.int x2) := Option.some.inj e2
  obtain ⟨x3, e3⟩ := is_v g3
  obtain rfl : w3 = (.int x3) := Option.some.inj e3
  obtain ⟨n1, n2⟩ := and_e hn
  obtain ⟨n2, n3⟩ := and_e n2
  obtain ⟨A, evA⟩ := exa_v n1
  have FA := Sta.start (Z := s) evA (Or.inr ⟨(hw _ (List.mem_of_getElem? (i := 2) rfl)), (hw _ (List.mem_of_getElem? (i := 5) rfl))⟩)
  obtain ⟨G, evG⟩ := exa_v n2
  have FG := Sta.start (Z := s) evG (Or.inr ⟨(hw _ (List.mem_of_getElem? (i := 2) rfl)), (hw _ (List.mem_of_getElem? (i := 15) rfl))⟩)
  obtain ⟨H, evH⟩ := exa_v n3
  have FH := Sta.start (Z := s) evH (Or.inr ⟨(hw _ (List.mem_of_getElem? (i := 2) rfl)), (hw _ (List.mem_of_getElem? (i := 18) rfl))⟩)
  obtain ⟨n, o, h1, h2, h3, _, L, rfl, ⟨N, -, rfl⟩, hq⟩ := mt_of_kw (ws := tables_1) (P := ([], fun _ => False)) pf_law (fun m => by first | (simp [entryFrame, mkF, argsToLocals, Value.category, maxLocals]; done) | rfl) (kw_law l s _ hw x0 x1 x2 x3 A H G s.heap s.heap.size FA FH FG) p e ha hc hk s m _ below hf ((Spec.applies_iff_loose hf).mp happ).1 ⟨rfl, State.Warmed39.refl s, rfl⟩ trivial
  refine ⟨n, _, h1, h2, h3, hpost _ _ _ _ _ _ ⟨Cond.after_iff.mpr rfl, Cond.after_iff.mpr (eq_i res_at (Term.int_eval (1)) rfl), trivial⟩ ⟨hq.1, hq.2.1, (hq.2.2.sift fun y hy => Or.inr (N y hy)).mono (by decide) (by decide)⟩⟩
theorem main_1_1 : Claimed_1_1 := comes_1 fun _ _ _ _ _ _ h hF => ⟨h.1, hF⟩
theorem main_1_2 : Claimed_1_2 := comes_1 fun _ _ _ _ _ _ h hF => ⟨h.2.1, hF⟩
end Jvm.Pilot.@@N@@
namespace Jvm.Pilot.@@N@@
open Jvm Jvm.ClassFile Sem Op Lib Jvm.Free Jvm.Stand Jvm.Pilot.@@N@@.Jvm.D
/-! MADE BY PROGRAM (witnessworld.py) out of the Statement's table words and the real class files: 13 classes; the members and pool entries that the words name. The judged class is class 1, her method 1. -/
namespace start1
open Jvm.ClassFile
def u (s : String) : CpInfo := .utf8 (stringToUtf16 s)
/-- a pool by its gaps: so many unusable entries, then the entry; so many at the end -/
def gap : Nat → List CpInfo → List CpInfo
  | 0, r => r
  | n + 1, r => .unusable :: gap n r
def poolList (es : List (Nat × CpInfo)) (last : Nat) : List CpInfo := es.foldr (fun e r => gap e.1 (e.2 :: r)) (gap last [])
def pool (es : List (Nat × CpInfo)) (last : Nat) : Array CpInfo := ⟨poolList es last⟩
def fileOf (pool : Array CpInfo) (this : Nat) (attrs : Array Attribute := #[]) (ms : Array MethodInfo := #[]) (fl : Nat := 33) (sup : Nat := 0) (ifs : Array Nat := #[]) (fds : Array FieldInfo := #[]) : ClassFile where
  minorVersion := 0
  majorVersion := 65
  constantPool := pool
  accessFlags := fl
  thisClass := this
  superClass := sup
  interfaces := ifs
  fields := fds
  methods := ms
  attributes := attrs
def plain (name : String) (sup : Option ClassId) : Class where
  name := name
  kind := .ordinary
  loader := none
  accessFlags := 33
  super := sup
  interfaces := #[]
  cf := none
  fields := #[]
  methods := #[]
  instanceTypes := #[]
  staticTypes := #[]
  resolved := #[]
  callSites := []
  init := .initialized
  statics := none
  mirror := none

def pool0 : Array CpInfo := pool [(5, u "<init>"), (0, u "()V"), (1, .class_ 10), (1, u "java/lang/Object")] 113

def k0m0 : Method := { name := "<init>", desc := "()V", sig := { parameters := [], returnType := none }, accessFlags := 1, code := none }
/-- java/lang/Object -/
def k0 : Class := { plain "java/lang/Object" none with
  accessFlags := 33
  interfaces := #[]
  cf := some (fileOf pool0 8 #[] #[{ accessFlags := 1, nameIndex := 5, descriptorIndex := 6, attributes := #[] }] 33 0 #[] #[])
  fields := #[]
  methods := #[k0m0]
  instanceTypes := #[]
  staticTypes := #[]
  resolved := Array.replicate 124 none
  statics := none }

def pool1 : Array CpInfo := pool [(2, .class_ 4), (1, u "java/lang/Object"), (0, u "<init>"), (0, u "()V"), (0, .methodref 8 9), (0, .class_ 10), (0, .nameAndType 11 12), (0, u "java/lang/Math"), (0, u "min"), (0, u "(II)I"), (0, .methodref 14 15), (0, .class_ 16), (0, .nameAndType 17 18), (0, u "com/example/lexrep/lexrep/model/Grade"), (0, u "ofAttempt"), (0, u "(ZIII)Lcom/example/lexrep/lexrep/model/Grade;"), (0, .methodref 8 20), (0, .nameAndType 21 12), (0, u "max"), (0, .fieldref 14 23), (0, .nameAndType 24 25), (0, u "AGAIN"), (0, u "Lcom/example/lexrep/lexrep/model/Grade;"), (0, .fieldref 14 27), (0, .nameAndType 28 25), (0, u "HARD"), (0, .fieldref 14 30), (0, .nameAndType 31 25), (0, u "GOOD"), (0, .class_ 33), (0, u "com/example/lexrep/lexrep/model/GradeOfAttemptPinLaw"), (2, u "law"), (0, u "(IIII)Z")] 3

def k1m0 : Method := { name := "<init>", desc := "()V", sig := { parameters := [], returnType := none }, accessFlags := 1, code := none }
def k1c1 : Code := { maxStack := 4, maxLocals := 11, code := code, exceptionTable := #[], attributes := #[] }
def k1m1 : Method := { name := "law", desc := "(IIII)Z", sig := { parameters := [.int, .int, .int, .int], returnType := some .boolean }, accessFlags := 9, code := some k1c1 }
/-- com/example/lexrep/lexrep/model/GradeOfAttemptPinLaw -/
def k1 : Class := { plain "com/example/lexrep/lexrep/model/GradeOfAttemptPinLaw" (some 0) with
  accessFlags := 49
  interfaces := #[]
  cf := some (fileOf pool1 32 #[] #[{ accessFlags := 1, nameIndex := 5, descriptorIndex := 6, attributes := #[] }, { accessFlags := 9, nameIndex := 36, descriptorIndex := 37, attributes := #[] }] 49 2 #[] #[])
  fields := #[]
  methods := #[k1m0, k1m1]
  instanceTypes := #[]
  staticTypes := #[]
  resolved := Array.replicate 41 none
  statics := none }

def pool2 : Array CpInfo := pool [(1, .class_ 2), (0, u "java/lang/constant/Constable"), (0, .class_ 4), (0, u "java/lang/Object")] 6

/-- java/lang/constant/Constable -/
def k2 : Class := { plain "java/lang/constant/Constable" (some 0) with
  accessFlags := 1537
  interfaces := #[]
  cf := some (fileOf pool2 1 #[] #[] 1537 3 #[] #[])
  fields := #[]
  methods := #[]
  instanceTypes := #[]
  staticTypes := #[]
  resolved := Array.replicate 11 none
  statics := none }

def pool3 : Array CpInfo := pool [(1, .class_ 2), (0, u "java/lang/Comparable"), (0, .class_ 4), (0, u "java/lang/Object")] 7

/-- java/lang/Comparable -/
def k3 : Class := { plain "java/lang/Comparable" (some 0) with
  accessFlags := 1537
  interfaces := #[]
  cf := some (fileOf pool3 1 #[] #[] 1537 3 #[] #[])
  fields := #[]
  methods := #[]
  instanceTypes := #[]
  staticTypes := #[]
  resolved := Array.replicate 12 none
  statics := none }

def pool4 : Array CpInfo := pool [(1, .class_ 2), (0, u "java/io/Serializable"), (0, .class_ 4), (0, u "java/lang/Object")] 2

/-- java/io/Serializable -/
def k4 : Class := { plain "java/io/Serializable" (some 0) with
  accessFlags := 1537
  interfaces := #[]
  cf := some (fileOf pool4 1 #[] #[] 1537 3 #[] #[])
  fields := #[]
  methods := #[]
  instanceTypes := #[]
  staticTypes := #[]
  resolved := Array.replicate 7 none
  statics := none }

def pool5 : Array CpInfo := pool [(2, .class_ 4), (1, u "java/lang/Enum"), (0, u "name"), (0, u "Ljava/lang/String;"), (2, u "ordinal"), (0, u "I"), (1, .class_ 14), (1, u "java/lang/Object"), (4, u "hash"), (86, .class_ 108), (1, u "java/lang/Enum$EnumDesc"), (2, .class_ 112), (0, u "java/lang/constant/Constable"), (0, .class_ 114), (0, u "java/lang/Comparable"), (0, .class_ 116), (0, u "java/io/Serializable")] 87

/-- java/lang/Enum -/
def k5 : Class := { plain "java/lang/Enum" (some 0) with
  accessFlags := 1057
  interfaces := #[2, 3, 4]
  cf := some (fileOf pool5 2 #[.nestMembers #[106]] #[] 1057 12 #[111, 113, 115] #[{ accessFlags := 18, nameIndex := 5, descriptorIndex := 6, attributes := #[] }, { accessFlags := 18, nameIndex := 9, descriptorIndex := 10, attributes := #[] }, { accessFlags := 2, nameIndex := 19, descriptorIndex := 10, attributes := #[] }])
  fields := #[{ name := "name", type := (.object "java/lang/String"), accessFlags := 18, slot := 0, constantValue := 0 }, { name := "ordinal", type := .int, accessFlags := 18, slot := 1, constantValue := 0 }, { name := "hash", type := .int, accessFlags := 2, slot := 2, constantValue := 0 }]
  methods := #[]
  instanceTypes := #[(.object "java/lang/String"), .int, .int]
  staticTypes := #[]
  resolved := Array.replicate 204 none
  statics := none }

def pool6 : Array CpInfo := pool [(1, .class_ 2), (0, u "com/example/lexrep/lexrep/model/Grade"), (0, .fieldref 1 4), (0, .nameAndType 5 6), (0, u "AGAIN"), (0, u "Lcom/example/lexrep/lexrep/model/Grade;"), (0, .fieldref 1 8), (0, .nameAndType 9 6), (0, u "HARD"), (0, .fieldref 1 11), (0, .nameAndType 12 6), (0, u "GOOD"), (2, u "EASY"), (2, u "$VALUES"), (0, u "[Lcom/example/lexrep/lexrep/model/Grade;"), (6, .class_ 28), (1, u "java/lang/Enum"), (8, u "value"), (0, u "I"), (23, u "SLOW_MS"), (13, u "ofAttempt"), (0, u "(ZIII)Lcom/example/lexrep/lexrep/model/Grade;")] 20

def k6c0 : Code := { maxStack := 2, maxLocals := 5, code := prog_29_method_6_code, exceptionTable := #[], attributes := #[] }
def k6m0 : Method := { name := "ofAttempt", desc := "(ZIII)Lcom/example/lexrep/lexrep/model/Grade;", sig := { parameters := [.boolean, .int, .int, .int], returnType := some (.object "com/example/lexrep/lexrep/model/Grade") }, accessFlags := 9, code := some k6c0 }
/-- com/example/lexrep/lexrep/model/Grade -/
def k6 : Class := { plain "com/example/lexrep/lexrep/model/Grade" (some 5) with
  accessFlags := 16433
  interfaces := #[]
  cf := some (fileOf pool6 1 #[] #[{ accessFlags := 9, nameIndex := 76, descriptorIndex := 77, attributes := #[] }] 16433 26 #[] #[{ accessFlags := 16409, nameIndex := 5, descriptorIndex := 6, attributes := #[] }, { accessFlags := 16409, nameIndex := 9, descriptorIndex := 6, attributes := #[] }, { accessFlags := 16409, nameIndex := 12, descriptorIndex := 6, attributes := #[] }, { accessFlags := 16409, nameIndex := 15, descriptorIndex := 6, attributes := #[] }, { accessFlags := 26, nameIndex := 62, descriptorIndex := 38, attributes := #[] }, { accessFlags := 18, nameIndex := 37, descriptorIndex := 38, attributes := #[] }, { accessFlags := 4122, nameIndex := 18, descriptorIndex := 19, attributes := #[] }])
  fields := #[{ name := "AGAIN", type := (.object "com/example/lexrep/lexrep/model/Grade"), accessFlags := 16409, slot := 0, constantValue := 0 }, { name := "HARD", type := (.object "com/example/lexrep/lexrep/model/Grade"), accessFlags := 16409, slot := 1, constantValue := 0 }, { name := "GOOD", type := (.object "com/example/lexrep/lexrep/model/Grade"), accessFlags := 16409, slot := 2, constantValue := 0 }, { name := "EASY", type := (.object "com/example/lexrep/lexrep/model/Grade"), accessFlags := 16409, slot := 3, constantValue := 0 }, { name := "SLOW_MS", type := .int, accessFlags := 26, slot := 4, constantValue := 0 }, { name := "value", type := .int, accessFlags := 18, slot := 3, constantValue := 0 }, { name := "$VALUES", type := (.array (.object "com/example/lexrep/lexrep/model/Grade")), accessFlags := 4122, slot := 5, constantValue := 0 }]
  methods := #[k6m0]
  instanceTypes := #[(.object "java/lang/String"), .int, .int, .int]
  staticTypes := #[(.object "com/example/lexrep/lexrep/model/Grade"), (.object "com/example/lexrep/lexrep/model/Grade"), (.object "com/example/lexrep/lexrep/model/Grade"), (.object "com/example/lexrep/lexrep/model/Grade"), .int, (.array (.object "com/example/lexrep/lexrep/model/Grade"))]
  resolved := Array.replicate 98 none
  statics := some 0 }

def pool7 : Array CpInfo := pool [(1, .class_ 2), (0, u "java/lang/Math"), (1, .class_ 6), (1, u "java/lang/Object"), (0, u "<init>"), (0, u "()V"), (89, .class_ 100), (1, u "java/lang/Math$RandomNumberGeneratorHolder"), (71, u "negativeZeroFloatBits"), (0, u "J"), (2, u "negativeZeroDoubleBits"), (21, u "max"), (2, u "min"), (43, u "$assertionsDisabled"), (0, u "Z"), (88, u "(II)I"), (2, u "twoToTheDoubleScaleDown"), (0, u "D"), (4, u "twoToTheDoubleScaleUp"), (9, u "E"), (3, u "PI"), (2, u "TAU"), (2, u "DEGREES_TO_RADIANS"), (0, u "RADIANS_TO_DEGREES")] 94

def k7m0 : Method := { name := "<init>", desc := "()V", sig := { parameters := [], returnType := none }, accessFlags := 2, code := none }
def k7c1 : Code := { maxStack := 2, maxLocals := 2, code := jdk_29_method_65_code, exceptionTable := #[], attributes := #[] }
def k7m1 : Method := { name := "max", desc := "(II)I", sig := { parameters := [.int, .int], returnType := some .int }, accessFlags := 9, code := some k7c1 }
def k7c2 : Code := { maxStack := 2, maxLocals := 2, code := jdk_29_method_69_code, exceptionTable := #[], attributes := #[] }
def k7m2 : Method := { name := "min", desc := "(II)I", sig := { parameters := [.int, .int], returnType := some .int }, accessFlags := 9, code := some k7c2 }
/-- java/lang/Math -/
def k7 : Class := { plain "java/lang/Math" (some 0) with
  accessFlags := 49
  interfaces := #[]
  cf := some (fileOf pool7 1 #[.nestMembers #[98]] #[{ accessFlags := 2, nameIndex := 7, descriptorIndex := 8, attributes := #[] }, { accessFlags := 9, nameIndex := 198, descriptorIndex := 335, attributes := #[] }, { accessFlags := 9, nameIndex := 201, descriptorIndex := 335, attributes := #[] }] 49 4 #[] #[{ accessFlags := 25, nameIndex := 354, descriptorIndex := 339, attributes := #[] }, { accessFlags := 25, nameIndex := 358, descriptorIndex := 339, attributes := #[] }, { accessFlags := 25, nameIndex := 361, descriptorIndex := 339, attributes := #[] }, { accessFlags := 26, nameIndex := 364, descriptorIndex := 339, attributes := #[] }, { accessFlags := 26, nameIndex := 365, descriptorIndex := 339, attributes := #[] }, { accessFlags := 26, nameIndex := 172, descriptorIndex := 173, attributes := #[] }, { accessFlags := 26, nameIndex := 176, descriptorIndex := 173, attributes := #[] }, { accessFlags := 8, nameIndex := 344, descriptorIndex := 339, attributes := #[] }, { accessFlags := 8, nameIndex := 338, descriptorIndex := 339, attributes := #[] }, { accessFlags := 4120, nameIndex := 245, descriptorIndex := 246, attributes := #[] }])
  fields := #[{ name := "E", type := .double, accessFlags := 25, slot := 0, constantValue := 0 }, { name := "PI", type := .double, accessFlags := 25, slot := 1, constantValue := 0 }, { name := "TAU", type := .double, accessFlags := 25, slot := 2, constantValue := 0 }, { name := "DEGREES_TO_RADIANS", type := .double, accessFlags := 26, slot := 3, constantValue := 0 }, { name := "RADIANS_TO_DEGREES", type := .double, accessFlags := 26, slot := 4, constantValue := 0 }, { name := "negativeZeroFloatBits", type := .long, accessFlags := 26, slot := 5, constantValue := 0 }, { name := "negativeZeroDoubleBits", type := .long, accessFlags := 26, slot := 6, constantValue := 0 }, { name := "twoToTheDoubleScaleUp", type := .double, accessFlags := 8, slot := 7, constantValue := 0 }, { name := "twoToTheDoubleScaleDown", type := .double, accessFlags := 8, slot := 8, constantValue := 0 }, { name := "$assertionsDisabled", type := .boolean, accessFlags := 4120, slot := 9, constantValue := 0 }]
  methods := #[k7m0, k7m1, k7m2]
  instanceTypes := #[]
  staticTypes := #[.double, .double, .double, .double, .double, .long, .long, .double, .double, .boolean]
  resolved := Array.replicate 460 none
  statics := none }

def pool8 : Array CpInfo := pool [(1, u "java/lang/Cloneable"), (0, .class_ 1), (0, u "java/lang/Object"), (0, .class_ 3)] 3

/-- java/lang/Cloneable -/
def k8 : Class := { plain "java/lang/Cloneable" (some 0) with
  accessFlags := 1537
  interfaces := #[]
  cf := some (fileOf pool8 2 #[] #[] 1537 4 #[] #[])
  fields := #[]
  methods := #[]
  instanceTypes := #[]
  staticTypes := #[]
  resolved := Array.replicate 8 none
  statics := none }

/-- the primitive byte -/
def k9 : Class := { plain "byte" none with kind := .primitive 'B', accessFlags := 0x411 }
/-- [B -/
def k10 : Class := { plain "[B" (some 0) with kind := .array 9 .byte, interfaces := #[8, 4], accessFlags := 1041 }

/-- the primitive int -/
def k11 : Class := { plain "int" none with kind := .primitive 'I', accessFlags := 0x411 }
/-- [I -/
def k12 : Class := { plain "[I" (some 0) with kind := .array 11 .int, interfaces := #[8, 4], accessFlags := 1041 }

def heap : Heap := #[{ cls := 6, slots := #[.ref 1, .ref 2, .ref 3, .null, .int 0, .null], vm := .statics 6 },
  { cls := 6, slots := #[.null, .int 0, .int 0, .int 1], vm := .none },
  { cls := 6, slots := #[.null, .int 1, .int 0, .int 2], vm := .none },
  { cls := 6, slots := #[.null, .int 2, .int 0, .int 3], vm := .none }]
def classes : Array Class := #[k0, k1, k2, k3, k4, k5, k6, k7, k8, k9, k10, k11, k12]
def interned : List (Array UInt16 × Addr) := []
def slotsUsed : Nat := 18
def theMethod : MethodId := ⟨1, 1⟩
def args0 : Array Value := #[.int 5, .int 1, .int 2, .int 3]
def aboutOver (below : List Frame) : State where
  vm := { classes := classes, interned := interned.toArray }
  heap := heap
  slotsUsed := slotsUsed
  threads := #[{ frames := .invoking theMethod args0 :: below }]
def below0 : List Frame := [.native { method := ⟨0, 0⟩, args := #[] }]
def about1 : State := aboutOver below0
def p0 : Program := .bare "" "" ""
def e0 : Env := launch0.env 0 0 0
theorem w_frames : about1.frames = Frame.invoking theMethod args0 :: below0 := rfl
set_option maxRecDepth 65536 in
theorem w_args : argsFit about1.vm theMethod args0 = true := by decide +kernel
set_option maxRecDepth 65536 in
theorem w_heap : heapFits about1 = true := by decide +kernel
set_option maxRecDepth 65536 in
theorem w_runnable : about1.curStatus? = some .runnable := by decide +kernel
set_option maxRecDepth 65536 in
theorem w_alone : about1.alone = true := by decide +kernel
set_option maxRecDepth 65536 in
theorem w_named : about1.methodNamed? x = some theMethod := by decide +kernel
set_option maxRecDepth 65536 in
theorem w_hears : about1.hears theMethod below0 = true := by decide +kernel
set_option maxRecDepth 65536 in
theorem w_ripe : about1.ripe theMethod args0 below0 = true := by decide +kernel
theorem w_running : about1.status = .running := rfl
set_option maxRecDepth 65536 in
theorem w_room : about1.hasRoom e0.platform room_1 = true :=
  launch0.hasRoom_least _ room_1 (by decide +kernel) (by decide +kernel) (by decide +kernel) (by decide +kernel) (by decide +kernel) (by decide +kernel)
theorem allAtoms_all (ts : List Jvm.Cond) (a : Array Jvm.Value) (st : Jvm.State) : (allAtoms ts).before a st = ts.all (fun c => c.before a st) := by
  induction ts with
  | nil => rfl
  | cons c t ih =>
    show (Jvm.Cond.and c (allAtoms t)).before a st = _
    rw [Jvm.Cond.before_and, ih, List.all_cons]
def words1 : List Jvm.Cond := Jvm.Cond.code x code maxLocals ret :: tables_1
/-- a 'code' word, met by the world's own term for the bytes: nothing is compared byte by byte -/
theorem code_word {y : MethodName} {bytes : ByteArray} {mx : Nat} {rt : Option FieldType} {a : Array Value} {s : State} {m : MethodId} {meth : Method} {c : Code} (h1 : s.methodNamed? y = some m) (h2 : s.vm.method? m = some meth) (h3 : meth.code = some c) (h4 : c.code = bytes)
    (h5 : (c.maxLocals == mx && c.exceptionTable.isEmpty && decide (c.maxStack ≤ mostOperands) && decide (meth.sig.returnType = rt) && !meth.locks && decide (parseMethodDescriptor y.desc = some meth.sig)) = true) : (Jvm.Cond.code y bytes mx rt).before a s = true := by
  simp only [Bool.and_eq_true, beq_iff_eq, Bool.not_eq_true', decide_eq_true_eq] at h5
  obtain ⟨⟨⟨⟨⟨g1, g2⟩, g3⟩, g4⟩, g5⟩, g6⟩ := h5
  simp [Cond.before, Cond.holds, Cond.value, h1, h2, h3, h4, g1, g2, g3, g4, g5, g6]
def isCode : Jvm.Cond → Bool
  | .code _ _ _ _ => true
  | _ => false
theorem all_split {L : List Jvm.Cond} {P : Jvm.Cond → Bool} (h1 : L.all (fun c => isCode c || P c) = true) (h2 : ∀ c ∈ L.filter isCode, P c = true) : L.all P = true := by
  refine List.all_eq_true.mpr fun c hc => ?_
  have h := List.all_eq_true.mp h1 c hc
  rcases Bool.eq_false_or_eq_true (isCode c) with hi | hi
  · exact h2 c (List.mem_filter.mpr ⟨hc, hi⟩)
  · simpa [hi] using h
set_option maxRecDepth 65536 in
theorem w_c0 : (Jvm.Cond.code x code maxLocals ret).before args0 about1 = true := code_word (m := ⟨1, 1⟩) (meth := k1m1) (c := k1c1) (by decide +kernel) rfl rfl rfl (by decide +kernel)
set_option maxRecDepth 65536 in
theorem w_c1 : (Jvm.Cond.code ({ cls := "com/example/lexrep/lexrep/model/Grade", name := "ofAttempt", desc := "(ZIII)Lcom/example/lexrep/lexrep/model/Grade;" } : Jvm.MethodName) prog_29_method_6_code (5 : Nat) (Option.some (Jvm.ClassFile.FieldType.object "com/example/lexrep/lexrep/model/Grade"))).before args0 about1 = true := code_word (m := ⟨6, 0⟩) (meth := k6m0) (c := k6c0) (by decide +kernel) rfl rfl rfl (by decide +kernel)
set_option maxRecDepth 65536 in
theorem w_c2 : (Jvm.Cond.code ({ cls := "java/lang/Math", name := "max", desc := "(II)I" } : Jvm.MethodName) jdk_29_method_65_code (2 : Nat) (Option.some Jvm.ClassFile.FieldType.int)).before args0 about1 = true := code_word (m := ⟨7, 1⟩) (meth := k7m1) (c := k7c1) (by decide +kernel) rfl rfl rfl (by decide +kernel)
set_option maxRecDepth 65536 in
theorem w_c3 : (Jvm.Cond.code ({ cls := "java/lang/Math", name := "min", desc := "(II)I" } : Jvm.MethodName) jdk_29_method_69_code (2 : Nat) (Option.some Jvm.ClassFile.FieldType.int)).before args0 about1 = true := code_word (m := ⟨7, 2⟩) (meth := k7m2) (c := k7c2) (by decide +kernel) rfl rfl rfl (by decide +kernel)
def codes1 : List Jvm.Cond := [Jvm.Cond.code x code maxLocals ret, Jvm.Cond.code ({ cls := "com/example/lexrep/lexrep/model/Grade", name := "ofAttempt", desc := "(ZIII)Lcom/example/lexrep/lexrep/model/Grade;" } : Jvm.MethodName) prog_29_method_6_code (5 : Nat) (Option.some (Jvm.ClassFile.FieldType.object "com/example/lexrep/lexrep/model/Grade")), Jvm.Cond.code ({ cls := "java/lang/Math", name := "max", desc := "(II)I" } : Jvm.MethodName) jdk_29_method_65_code (2 : Nat) (Option.some Jvm.ClassFile.FieldType.int), Jvm.Cond.code ({ cls := "java/lang/Math", name := "min", desc := "(II)I" } : Jvm.MethodName) jdk_29_method_69_code (2 : Nat) (Option.some Jvm.ClassFile.FieldType.int)]
set_option maxRecDepth 65536 in
theorem codes_eq : words1.filter isCode = codes1 := rfl
theorem w_codes : ∀ c ∈ words1.filter isCode, c.before args0 about1 = true := by
  rw [codes_eq]
  intro c hc
  simp only [codes1, List.mem_cons, List.not_mem_nil, or_false] at hc
  rcases hc with rfl | rfl | rfl | rfl
  · exact w_c0
  · exact w_c1
  · exact w_c2
  · exact w_c3
set_option maxRecDepth 65536 in
theorem w_t1 : words1.all (fun c => isCode c || c.before args0 about1) = true := by decide +kernel
theorem w_tables : (allAtoms (Jvm.Cond.code x code maxLocals ret :: tables_1)).before args0 about1 = true := by
  rw [allAtoms_all]
  show words1.all (fun c => c.before args0 about1) = true
  refine all_split ?_ w_codes
  rw [w_t1]
set_option maxRecDepth 65536 in
theorem w_case : (Jvm.Cond.and given_1 narrow_1).before args0 about1 = true := by decide +kernel
theorem w_applies : (headSpec (Jvm.Cond.code x code maxLocals ret :: tables_1) room_1).applies x e0.platform about1 = true :=
  (Spec.applies_iff w_frames).mpr ⟨w_running, w_runnable, w_alone, w_named, w_hears, w_ripe, w_room, w_tables⟩
theorem atStart : AtStart classFile x code maxLocals ret World_1 tables_1 room_1 Calls_1 rest_1 Pre_1 launch0 p0 e0 about1 theMethod args0 below0 :=
  ⟨lists_1, trivial, launch0.admits_env _ _ _, launch0.least_env, fairChoices_fair.cas, fairChoices_fair.clock, w_frames, w_args, w_heap, w_applies, trivial, trivial, w_case⟩
end start1
theorem witness_1 : WitnessClaimed_1 := ⟨start1.p0, start1.e0, start1.about1, start1.theMethod, start1.args0, start1.below0, start1.atStart⟩
end Jvm.Pilot.@@N@@
