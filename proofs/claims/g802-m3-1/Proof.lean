import JvmDerived
import JvmDerived.Pilot.@@N@@Statement
import JvmDerived.Pilot.@@N@@Code
set_option linter.unusedVariables false
set_option linter.unusedSimpArgs false

namespace Jvm.OwnW
open Sem ClassFile Op Lib Jvm.Stand Jvm.Free Jvm.LawKit Jvm.RoadKit
/-- a method: its name, bytes, number of variables, return type, room -/
abbrev MD := MethodName × ByteArray × Nat × Option FieldType × Room
/-- what a wide walk knows besides: the String constants that it reads, and addresses that are no such String's -/
abbrev PX := List (String × Nat) × (Addr → Prop)
abbrev PX.grow (P : PX) (h h' : Heap) : PX := (P.1, fun x => P.2 x ∨ (h.size ≤ x ∧ x < h'.size))
/-- x is none of the constants' cells -/
def Sf (Z : State) (P : PX) (h : Heap) (x : Addr) : Prop := P.2 x ∨ ∀ vm, Z.vm.Alike vm → Safe Z P.1 vm h x
/-- the state over which the walk stands: the start itself, or (wide) the start with later tables -/
def KB (wd : Bool) (Z : State) (P : PX) (s s' : State) (h : Heap) : Prop :=
  (wd = false ∧ s' = s) ∨ (wd = true ∧ ∃ vm0 k0, s' = s.setVm vm0 ∧ s.Since vm0 k0 ∧ k0 ≤ h.size ∧ CHr Z P.1 s.vm s.heap vm0 h ∧ ∀ x, P.2 x → Safe Z P.1 vm0 h x ∧ x < h.size)
theorem KB.keep {wd : Bool} {Z : State} {P : PX} {s s' : State} {h h' : Heap} {ws : List Addr} (B : KB wd Z P s s' h) (hZ : Z.Warmed39 s'.vm) (K : Keep h h' ws) (q : wd = true → ∀ x ∈ ws, Sf Z P h x) : KB wd Z (P.grow h h') s s' h' := by
  rcases B with ⟨a, b⟩ | ⟨a, vm0, k0, rfl, c, d, e, f⟩
  · exact Or.inl ⟨a, b⟩
  · have hs : ∀ x ∈ ws, Safe Z P.1 vm0 h x := fun x hx => (q a x hx).elim (fun r => (f x r).1) (fun r => r vm0 hZ.alike)
    refine Or.inr ⟨a, vm0, k0, rfl, c, Nat.le_trans d K.1, e.trans (CHr.keep K hs e.1), fun x hx => ?_⟩
    rcases hx with hx | ⟨hx, hx'⟩
    · exact ⟨Safe.keep K hs e.1 (f x hx).1, Nat.lt_of_lt_of_le (f x hx).2 K.1⟩
    · exact ⟨Safe.keep K hs e.1 (Safe.new hx), hx'⟩
theorem KB.ext {wd : Bool} {Z : State} {P : PX} {s s' : State} {h h' : Heap} (B : KB wd Z P s s' h) (E : Ext h h') : KB wd Z (P.grow h h') s s' h' := by
  rcases B with ⟨a, b⟩ | ⟨a, vm0, k0, rfl, c, d, e, f⟩
  · exact Or.inl ⟨a, b⟩
  · refine Or.inr ⟨a, vm0, k0, rfl, c, Nat.le_trans d E.1, e.trans (CHr.ext E e.1), fun x hx => ?_⟩
    rcases hx with hx | ⟨hx, hx'⟩
    · exact ⟨Safe.ext E e.1 (f x hx).1, Nat.lt_of_lt_of_le (f x hx).2 E.1⟩
    · exact ⟨Safe.ext E e.1 (Safe.new hx), hx'⟩
theorem KB.wr {wd : Bool} {Z : State} {P : PX} {s s' : State} {h h' : Heap} {a : Addr} {sl : Nat} {v : Value} (B : KB wd Z P s s' h) (hZ : Z.Warmed39 s'.vm) (W : Wr h h' a sl v) (q : wd = true → Sf Z P h a) : KB wd Z P s s' h' := by
  rcases B with ⟨a, b⟩ | ⟨a, vm0, k0, rfl, c, d, e, f⟩
  · exact Or.inl ⟨a, b⟩
  · have hs : Safe Z P.1 vm0 h _ := (q a).elim (fun r => (f _ r).1) (fun r => r vm0 hZ.alike)
    exact Or.inr ⟨a, vm0, k0, rfl, c, by rw [W.size]; exact d, e.trans (CHr.wr W hs e.1), fun x hx => ⟨Safe.wr W hs e.1 (f x hx).1, by rw [W.size]; exact (f x hx).2⟩⟩
theorem KB.sub {wd : Bool} {Z : State} {P : PX} {S' : Addr → Prop} {s s' : State} {h : Heap} (B : KB wd Z P s s' h) (q : ∀ x, S' x → P.2 x) : KB wd Z (P.1, S') s s' h :=
  B.imp id fun ⟨a, vm0, k0, b, c, d, e, f⟩ => ⟨a, vm0, k0, b, c, d, e, fun x hx => f x (q x hx)⟩
def KE (wd : Bool) (Z s : State) (v : Option Value) (t : State) (L : List Loc) (EL : List (String × Nat)) (k n : Nat) : Prop :=
  (wd = false ∧ FrameEnd s (.returned v) t L k n) ∨ (wd = true ∧ CHr Z EL s.vm s.heap t.vm t.heap ∧ ReturnedEndW s (.returned v) t L k n)
/-- the walk's judgement: from here the method returns, and what it leaves meets Q -/
def KW (wd : Bool) (l : Launch) (Z : State) (M : MD) (n0 : Nat) (Q : Option Value → Heap → Prop) (P : PX) (h : Heap) (k n : Nat) (pc : Nat) (Ls : Array Slot) (st : List Value) : Prop :=
  ∀ (p : Program) (e : Env) (s s' : State) (m : MethodId) (args : Array Value) (below : List Frame) (meth : Method) (c : Code),
    p.tables.exec = Jvm.exec → c.code = M.2.1 → c.maxLocals = M.2.2.1 → s'.vm.findClass M.1.cls = some m.cls → meth.name = M.1.name → meth.sig.returnType = M.2.2.2.1 → meth.locks = false → Z.Warmed39 s'.vm → KB wd Z P s s' h → (wd = true → ∃ a0, EW Z a0 P.1) →
    ∀ (T : State) (locs : List Loc), Stand p l e M.2.2.2.2 s' m args below meth c T locs k n → Fr n0 locs → T.heap = h →
    ∃ t v L, Steps p.tables e below (T.setTop (mkF m pc Ls st)) t ∧ t.status = .running ∧ Ended t below (.returned v) ∧ Fr n0 L ∧ Q v t.heap ∧ KE wd Z s v t L P.1 M.2.2.2.2.cells M.2.2.2.2.slots
section
variable {wd : Bool} {l : Launch} {Z : State} {M : MD} {n0 : Nat} {Q : Option Value → Heap → Prop} {P : PX} {h : Heap} {k n pc pc' : Nat} {Ls Ls' : Array Slot} {st st' rest : List Value} {a0 : Array Value}
theorem KW.step (W : KW wd l Z M n0 Q P h k n pc' Ls' st') (f : ∀ (p : Program) (e : Env) (s' T : State) (m : MethodId) (args : Array Value) (below : List Frame) (meth : Method) (c : Code) (locs : List Loc), p.tables.exec = Jvm.exec → c.code = M.2.1 → s'.vm.findClass M.1.cls = some m.cls → Z.Warmed39 s'.vm → Stand p l e M.2.2.2.2 s' m args below meth c T locs k n →
    ∀ target, Steps p.tables e below (T.setTop (mkF m pc' Ls' st')) target → Steps p.tables e below (T.setTop (mkF m pc Ls st)) target) : KW wd l Z M n0 Q P h k n pc Ls st := by
  intro p e s s' m args below meth c hx hby hml hown hnm hret hlk hZ hB hI T locs X N eT
  obtain ⟨t, v, L, r, rr⟩ := W p e s s' m args below meth c hx hby hml hown hnm hret hlk hZ hB hI T locs X N eT
  exact ⟨t, v, L, f p e s' T m args below meth c locs hx hby hown hZ X t r, rr⟩
theorem KW.move (W : KW wd l Z M n0 Q P h k n pc' Ls' st') (f : ∀ (p : Program) (e : Env) (s' T : State) (m : MethodId) (args : Array Value) (below : List Frame) (meth : Method) (c : Code) (locs : List Loc), p.tables.exec = Jvm.exec → c.code = M.2.1 → c.maxLocals = M.2.2.1 → s'.vm.findClass M.1.cls = some m.cls → Z.Warmed39 s'.vm → Stand p l e M.2.2.2.2 s' m args below meth c T locs k n → T.heap = h →
    ∃ T', Stand p l e M.2.2.2.2 s' m args below meth c T' locs k n ∧ T'.heap = h ∧ ∀ target, Steps p.tables e below (T'.setTop (mkF m pc' Ls' st')) target → Steps p.tables e below (T.setTop (mkF m pc Ls st)) target) : KW wd l Z M n0 Q P h k n pc Ls st := by
  intro p e s s' m args below meth c hx hby hml hown hnm hret hlk hZ hB hI T locs X N eT
  obtain ⟨T', X', eT', st⟩ := f p e s' T m args below meth c locs hx hby hml hown hZ X eT
  obtain ⟨t, v, L, r, rr⟩ := W p e s s' m args below meth c hx hby hml hown hnm hret hlk hZ hB hI T' locs X' N eT'
  exact ⟨t, v, L, st t r, rr⟩
theorem k_aloadN {i : Fin 4} {v : Value} (hd : decode M.2.1 pc = .ok (.aload_n i, 1)) (hp : pc + 1 = pc') (hl : Ls[i.val]? = some (.val v)) (hv : v.isRef = true) (W : KW wd l Z M n0 Q P h k n pc' Ls (v :: st)) : KW wd l Z M n0 Q P h k n pc Ls st := by
  subst hp; exact W.step fun p e s' T m args below meth c locs hx hby hown hZ X target r => XS.aloadN X.here hx rfl (hb hby hd) hl hv r
theorem k_aload {i : Nat} {v : Value} (hd : decode M.2.1 pc = .ok (.aload i, 2)) (hp : pc + 2 = pc') (hl : Ls[i]? = some (.val v)) (hv : v.isRef = true) (W : KW wd l Z M n0 Q P h k n pc' Ls (v :: st)) : KW wd l Z M n0 Q P h k n pc Ls st := by
  subst hp; exact W.step fun p e s' T m args below meth c locs hx hby hown hZ X target r => XS.aload X.here hx rfl (hb hby hd) hl hv r
theorem k_iloadN {i : Fin 4} {v : Int32} (hd : decode M.2.1 pc = .ok (.iload_n i, 1)) (hp : pc + 1 = pc') (hl : Ls[i.val]? = some (.val (.int v))) (W : KW wd l Z M n0 Q P h k n pc' Ls (.int v :: st)) : KW wd l Z M n0 Q P h k n pc Ls st := by
  subst hp; exact W.step fun p e s' T m args below meth c locs hx hby hown hZ X target r => XS.iloadN X.here hx rfl (hb hby hd) hl r
theorem k_iload {i : Nat} {v : Int32} (hd : decode M.2.1 pc = .ok (.iload i, 2)) (hp : pc + 2 = pc') (hl : Ls[i]? = some (.val (.int v))) (W : KW wd l Z M n0 Q P h k n pc' Ls (.int v :: st)) : KW wd l Z M n0 Q P h k n pc Ls st := by
  subst hp; exact W.step fun p e s' T m args below meth c locs hx hby hown hZ X target r => XS.iload X.here hx rfl (hb hby hd) hl r
theorem k_lloadN {i : Fin 4} {v : Int64} (hd : decode M.2.1 pc = .ok (.lload_n i, 1)) (hp : pc + 1 = pc') (hl : Ls[i.val]? = some (.val (.long v))) (W : KW wd l Z M n0 Q P h k n pc' Ls (.long v :: st)) : KW wd l Z M n0 Q P h k n pc Ls st := by
  subst hp; exact W.step fun p e s' T m args below meth c locs hx hby hown hZ X target r => XS.lloadN X.here hx rfl (hb hby hd) hl r
theorem k_lload {i : Nat} {v : Int64} (hd : decode M.2.1 pc = .ok (.lload i, 2)) (hp : pc + 2 = pc') (hl : Ls[i]? = some (.val (.long v))) (W : KW wd l Z M n0 Q P h k n pc' Ls (.long v :: st)) : KW wd l Z M n0 Q P h k n pc Ls st := by
  subst hp; exact W.step fun p e s' T m args below meth c locs hx hby hown hZ X target r => XS.lload X.here hx rfl (hb hby hd) hl r
theorem k_istoreN {i : Fin 4} {x : Int32} (hd : decode M.2.1 pc = .ok (.istore_n i, 1)) (hp : pc + 1 = pc') (hl : storeLocals Ls i.val (.int x) = some Ls') (W : KW wd l Z M n0 Q P h k n pc' Ls' st) : KW wd l Z M n0 Q P h k n pc Ls (.int x :: st) := by
  subst hp; exact W.step fun p e s' T m args below meth c locs hx hby hown hZ X target r => XS.istoreN X.here hx rfl (hb hby hd) rfl hl r
theorem k_istore {i : Nat} {x : Int32} (hd : decode M.2.1 pc = .ok (.istore i, 2)) (hp : pc + 2 = pc') (hl : storeLocals Ls i (.int x) = some Ls') (W : KW wd l Z M n0 Q P h k n pc' Ls' st) : KW wd l Z M n0 Q P h k n pc Ls (.int x :: st) := by
  subst hp; exact W.step fun p e s' T m args below meth c locs hx hby hown hZ X target r => XS.istore X.here hx rfl (hb hby hd) rfl hl r
theorem k_lstoreN {i : Fin 4} {x : Int64} (hd : decode M.2.1 pc = .ok (.lstore_n i, 1)) (hp : pc + 1 = pc') (hl : storeLocals Ls i.val (.long x) = some Ls') (W : KW wd l Z M n0 Q P h k n pc' Ls' st) : KW wd l Z M n0 Q P h k n pc Ls (.long x :: st) := by
  subst hp; exact W.step fun p e s' T m args below meth c locs hx hby hown hZ X target r => XS.lstoreN X.here hx rfl (hb hby hd) rfl hl r
theorem k_lstore {i : Nat} {x : Int64} (hd : decode M.2.1 pc = .ok (.lstore i, 2)) (hp : pc + 2 = pc') (hl : storeLocals Ls i (.long x) = some Ls') (W : KW wd l Z M n0 Q P h k n pc' Ls' st) : KW wd l Z M n0 Q P h k n pc Ls (.long x :: st) := by
  subst hp; exact W.step fun p e s' T m args below meth c locs hx hby hown hZ X target r => XS.lstore X.here hx rfl (hb hby hd) rfl hl r
theorem k_astoreN {i : Fin 4} {x : Value} (hd : decode M.2.1 pc = .ok (.astore_n i, 1)) (hp : pc + 1 = pc') (hv : x.isRef = true) (hl : storeLocals Ls i.val x = some Ls') (W : KW wd l Z M n0 Q P h k n pc' Ls' st) : KW wd l Z M n0 Q P h k n pc Ls (x :: st) := by
  subst hp; exact W.step fun p e s' T m args below meth c locs hx hby hown hZ X target r => XS.astoreN X.here hx rfl (hb hby hd) rfl hv hl r
theorem k_astore {i : Nat} {x : Value} (hd : decode M.2.1 pc = .ok (.astore i, 2)) (hp : pc + 2 = pc') (hv : x.isRef = true) (hl : storeLocals Ls i x = some Ls') (W : KW wd l Z M n0 Q P h k n pc' Ls' st) : KW wd l Z M n0 Q P h k n pc Ls (x :: st) := by
  subst hp; exact W.step fun p e s' T m args below meth c locs hx hby hown hZ X target r => XS.astore X.here hx rfl (hb hby hd) rfl hv hl r
theorem k_iconst {i : Int} {z : Int32} (hd : decode M.2.1 pc = .ok (.iconst i, 1)) (hp : pc + 1 = pc') (hz : Int32.ofInt i = z) (W : KW wd l Z M n0 Q P h k n pc' Ls (.int z :: st)) : KW wd l Z M n0 Q P h k n pc Ls st := by
  subst hp; exact W.step fun p e s' T m args below meth c locs hx hby hown hZ X target r => XS.iconst X.here hx rfl (hb hby hd) (by rw [hz]; exact r)
theorem k_bipush {i : Int} {z : Int32} (hd : decode M.2.1 pc = .ok (.bipush i, 2)) (hp : pc + 2 = pc') (hz : (Int8.ofInt i).toInt32 = z) (W : KW wd l Z M n0 Q P h k n pc' Ls (.int z :: st)) : KW wd l Z M n0 Q P h k n pc Ls st := by
  subst hp; exact W.step fun p e s' T m args below meth c locs hx hby hown hZ X target r => XS.bipush X.here hx rfl (hb hby hd) (by rw [hz]; exact r)
theorem k_sipush {i : Int} {z : Int32} (hd : decode M.2.1 pc = .ok (.sipush i, 3)) (hp : pc + 3 = pc') (hz : (Int16.ofInt i).toInt32 = z) (W : KW wd l Z M n0 Q P h k n pc' Ls (.int z :: st)) : KW wd l Z M n0 Q P h k n pc Ls st := by
  subst hp; exact W.step fun p e s' T m args below meth c locs hx hby hown hZ X target r => XS.sipush X.here hx rfl (hb hby hd) (by rw [hz]; exact r)
theorem k_lconst {i : Fin 2} {z : Int64} (hd : decode M.2.1 pc = .ok (.lconst i, 1)) (hp : pc + 1 = pc') (hz : Int64.ofNat i = z) (W : KW wd l Z M n0 Q P h k n pc' Ls (.long z :: st)) : KW wd l Z M n0 Q P h k n pc Ls st := by
  subst hp; exact W.step fun p e s' T m args below meth c locs hx hby hown hZ X target r => XS.lconst X.here hx rfl (hb hby hd) (by rw [hz]; exact r)
theorem k_aconstNull (hd : decode M.2.1 pc = .ok (.aconst_null, 1)) (hp : pc + 1 = pc') (W : KW wd l Z M n0 Q P h k n pc' Ls (.null :: st)) : KW wd l Z M n0 Q P h k n pc Ls st := by
  subst hp; exact W.step fun p e s' T m args below meth c locs hx hby hown hZ X target r => XS.aconstNull X.here hx rfl (hb hby hd) r
theorem k_iadd {x y : Int32} (hd : decode M.2.1 pc = .ok (.iadd, 1)) (hp : pc + 1 = pc') (W : KW wd l Z M n0 Q P h k n pc' Ls (.int (x + y) :: st)) : KW wd l Z M n0 Q P h k n pc Ls (.int y :: .int x :: st) := by
  subst hp; exact W.step fun p e s' T m args below meth c locs hx hby hown hZ X target r => XS.iadd X.here hx rfl (hb hby hd) rfl r
theorem k_isub {x y : Int32} (hd : decode M.2.1 pc = .ok (.isub, 1)) (hp : pc + 1 = pc') (W : KW wd l Z M n0 Q P h k n pc' Ls (.int (x - y) :: st)) : KW wd l Z M n0 Q P h k n pc Ls (.int y :: .int x :: st) := by
  subst hp; exact W.step fun p e s' T m args below meth c locs hx hby hown hZ X target r => XS.isub X.here hx rfl (hb hby hd) rfl r
theorem k_iand {x y : Int32} (hd : decode M.2.1 pc = .ok (.iand, 1)) (hp : pc + 1 = pc') (W : KW wd l Z M n0 Q P h k n pc' Ls (.int (x &&& y) :: st)) : KW wd l Z M n0 Q P h k n pc Ls (.int y :: .int x :: st) := by
  subst hp; exact W.step fun p e s' T m args below meth c locs hx hby hown hZ X target r => XS.iand X.here hx rfl (hb hby hd) rfl r
theorem k_imul {x y : Int32} (hd : decode M.2.1 pc = .ok (.imul, 1)) (hp : pc + 1 = pc') (W : KW wd l Z M n0 Q P h k n pc' Ls (.int (x * y) :: st)) : KW wd l Z M n0 Q P h k n pc Ls (.int y :: .int x :: st) := by
  subst hp; exact W.step fun p e s' T m args below meth c locs hx hby hown hZ X target r => XS.imul X.here hx rfl (hb hby hd) rfl r
theorem k_ixor {x y : Int32} (hd : decode M.2.1 pc = .ok (.ixor, 1)) (hp : pc + 1 = pc') (W : KW wd l Z M n0 Q P h k n pc' Ls (.int (x ^^^ y) :: st)) : KW wd l Z M n0 Q P h k n pc Ls (.int y :: .int x :: st) := by
  subst hp; exact W.step fun p e s' T m args below meth c locs hx hby hown hZ X target r => XS.ixor X.here hx rfl (hb hby hd) rfl r
theorem k_ior {x y : Int32} (hd : decode M.2.1 pc = .ok (.ior, 1)) (hp : pc + 1 = pc') (W : KW wd l Z M n0 Q P h k n pc' Ls (.int (x ||| y) :: st)) : KW wd l Z M n0 Q P h k n pc Ls (.int y :: .int x :: st) := by
  subst hp; exact W.step fun p e s' T m args below meth c locs hx hby hown hZ X target r => XS.ior X.here hx rfl (hb hby hd) rfl r
theorem k_ishl {x y : Int32} (hd : decode M.2.1 pc = .ok (.ishl, 1)) (hp : pc + 1 = pc') (W : KW wd l Z M n0 Q P h k n pc' Ls (.int (x <<< (y &&& 31)) :: st)) : KW wd l Z M n0 Q P h k n pc Ls (.int y :: .int x :: st) := by
  subst hp; exact W.step fun p e s' T m args below meth c locs hx hby hown hZ X target r => XS.ishl X.here hx rfl (hb hby hd) rfl r
theorem k_ishr {x y : Int32} (hd : decode M.2.1 pc = .ok (.ishr, 1)) (hp : pc + 1 = pc') (W : KW wd l Z M n0 Q P h k n pc' Ls (.int (x >>> (y &&& 31)) :: st)) : KW wd l Z M n0 Q P h k n pc Ls (.int y :: .int x :: st) := by
  subst hp; exact W.step fun p e s' T m args below meth c locs hx hby hown hZ X target r => XS.ishr X.here hx rfl (hb hby hd) rfl r
theorem k_iushr {x y : Int32} (hd : decode M.2.1 pc = .ok (.iushr, 1)) (hp : pc + 1 = pc') (W : KW wd l Z M n0 Q P h k n pc' Ls (.int ((x.toUInt32 >>> (y &&& 31).toUInt32).toInt32) :: st)) : KW wd l Z M n0 Q P h k n pc Ls (.int y :: .int x :: st) := by
  subst hp; exact W.step fun p e s' T m args below meth c locs hx hby hown hZ X target r => XS.iushr X.here hx rfl (hb hby hd) rfl r
theorem k_idiv {x y : Int32} (hd : decode M.2.1 pc = .ok (.idiv, 1)) (hp : pc + 1 = pc') (hy : y ≠ 0) (W : KW wd l Z M n0 Q P h k n pc' Ls (.int (x / y) :: st)) : KW wd l Z M n0 Q P h k n pc Ls (.int y :: .int x :: st) := by
  subst hp; exact W.step fun p e s' T m args below meth c locs hx hby hown hZ X target r => XS.idiv X.here hx rfl (hb hby hd) rfl hy r
theorem k_irem {x y : Int32} (hd : decode M.2.1 pc = .ok (.irem, 1)) (hp : pc + 1 = pc') (hy : y ≠ 0) (W : KW wd l Z M n0 Q P h k n pc' Ls (.int (x % y) :: st)) : KW wd l Z M n0 Q P h k n pc Ls (.int y :: .int x :: st) := by
  subst hp; exact W.step fun p e s' T m args below meth c locs hx hby hown hZ X target r => iremM X hx rfl (hb hby hd) rfl hy r
theorem k_ineg {x : Int32} (hd : decode M.2.1 pc = .ok (.ineg, 1)) (hp : pc + 1 = pc') (W : KW wd l Z M n0 Q P h k n pc' Ls (.int (-x) :: st)) : KW wd l Z M n0 Q P h k n pc Ls (.int x :: st) := by
  subst hp; exact W.step fun p e s' T m args below meth c locs hx hby hown hZ X target r => XS.ineg X.here hx rfl (hb hby hd) rfl r
theorem k_ladd {x y : Int64} (hd : decode M.2.1 pc = .ok (.ladd, 1)) (hp : pc + 1 = pc') (W : KW wd l Z M n0 Q P h k n pc' Ls (.long (x + y) :: st)) : KW wd l Z M n0 Q P h k n pc Ls (.long y :: .long x :: st) := by
  subst hp; exact W.step fun p e s' T m args below meth c locs hx hby hown hZ X target r => XS.ladd X.here hx rfl (hb hby hd) rfl r
theorem k_lsub {x y : Int64} (hd : decode M.2.1 pc = .ok (.lsub, 1)) (hp : pc + 1 = pc') (W : KW wd l Z M n0 Q P h k n pc' Ls (.long (x - y) :: st)) : KW wd l Z M n0 Q P h k n pc Ls (.long y :: .long x :: st) := by
  subst hp; exact W.step fun p e s' T m args below meth c locs hx hby hown hZ X target r => XS.lsub X.here hx rfl (hb hby hd) rfl r
theorem k_lmul {x y : Int64} (hd : decode M.2.1 pc = .ok (.lmul, 1)) (hp : pc + 1 = pc') (W : KW wd l Z M n0 Q P h k n pc' Ls (.long (x * y) :: st)) : KW wd l Z M n0 Q P h k n pc Ls (.long y :: .long x :: st) := by
  subst hp; exact W.step fun p e s' T m args below meth c locs hx hby hown hZ X target r => XS.lmul X.here hx rfl (hb hby hd) rfl r
theorem k_land {x y : Int64} (hd : decode M.2.1 pc = .ok (.land, 1)) (hp : pc + 1 = pc') (W : KW wd l Z M n0 Q P h k n pc' Ls (.long (x &&& y) :: st)) : KW wd l Z M n0 Q P h k n pc Ls (.long y :: .long x :: st) := by
  subst hp; exact W.step fun p e s' T m args below meth c locs hx hby hown hZ X target r => XS.land X.here hx rfl (hb hby hd) rfl r
theorem k_lor {x y : Int64} (hd : decode M.2.1 pc = .ok (.lor, 1)) (hp : pc + 1 = pc') (W : KW wd l Z M n0 Q P h k n pc' Ls (.long (x ||| y) :: st)) : KW wd l Z M n0 Q P h k n pc Ls (.long y :: .long x :: st) := by
  subst hp; exact W.step fun p e s' T m args below meth c locs hx hby hown hZ X target r => XS.lor X.here hx rfl (hb hby hd) rfl r
theorem k_lxor {x y : Int64} (hd : decode M.2.1 pc = .ok (.lxor, 1)) (hp : pc + 1 = pc') (W : KW wd l Z M n0 Q P h k n pc' Ls (.long (x ^^^ y) :: st)) : KW wd l Z M n0 Q P h k n pc Ls (.long y :: .long x :: st) := by
  subst hp; exact W.step fun p e s' T m args below meth c locs hx hby hown hZ X target r => XS.lxor X.here hx rfl (hb hby hd) rfl r
theorem k_ldiv {x y : Int64} (hd : decode M.2.1 pc = .ok (.ldiv, 1)) (hp : pc + 1 = pc') (hy : y ≠ 0) (W : KW wd l Z M n0 Q P h k n pc' Ls (.long (x / y) :: st)) : KW wd l Z M n0 Q P h k n pc Ls (.long y :: .long x :: st) := by
  subst hp; exact W.step fun p e s' T m args below meth c locs hx hby hown hZ X target r => XS.ldiv X.here hx rfl (hb hby hd) rfl hy r
theorem k_lrem {x y : Int64} (hd : decode M.2.1 pc = .ok (.lrem, 1)) (hp : pc + 1 = pc') (hy : y ≠ 0) (W : KW wd l Z M n0 Q P h k n pc' Ls (.long (x % y) :: st)) : KW wd l Z M n0 Q P h k n pc Ls (.long y :: .long x :: st) := by
  subst hp; exact W.step fun p e s' T m args below meth c locs hx hby hown hZ X target r => XS.lrem X.here hx rfl (hb hby hd) rfl hy (by rw [lrem_mod]; exact r)
theorem k_lshl {x : Int64} {y : Int32} (hd : decode M.2.1 pc = .ok (.lshl, 1)) (hp : pc + 1 = pc') (W : KW wd l Z M n0 Q P h k n pc' Ls (.long (x <<< (y &&& 63).toInt64) :: st)) : KW wd l Z M n0 Q P h k n pc Ls (.int y :: .long x :: st) := by
  subst hp; exact W.step fun p e s' T m args below meth c locs hx hby hown hZ X target r => XS.lshl X.here hx rfl (hb hby hd) rfl r
theorem k_lshr {x : Int64} {y : Int32} (hd : decode M.2.1 pc = .ok (.lshr, 1)) (hp : pc + 1 = pc') (W : KW wd l Z M n0 Q P h k n pc' Ls (.long (x >>> (y &&& 63).toInt64) :: st)) : KW wd l Z M n0 Q P h k n pc Ls (.int y :: .long x :: st) := by
  subst hp; exact W.step fun p e s' T m args below meth c locs hx hby hown hZ X target r => XS.lshr X.here hx rfl (hb hby hd) rfl r
theorem k_lushr {x : Int64} {y : Int32} (hd : decode M.2.1 pc = .ok (.lushr, 1)) (hp : pc + 1 = pc') (W : KW wd l Z M n0 Q P h k n pc' Ls (.long ((x.toUInt64 >>> (y &&& 63).toInt64.toUInt64).toInt64) :: st)) : KW wd l Z M n0 Q P h k n pc Ls (.int y :: .long x :: st) := by
  subst hp; exact W.step fun p e s' T m args below meth c locs hx hby hown hZ X target r => XS.lushr X.here hx rfl (hb hby hd) rfl r
theorem k_i2l {x : Int32} (hd : decode M.2.1 pc = .ok (.i2l, 1)) (hp : pc + 1 = pc') (W : KW wd l Z M n0 Q P h k n pc' Ls (.long (x.toInt64) :: st)) : KW wd l Z M n0 Q P h k n pc Ls (.int x :: st) := by
  subst hp; exact W.step fun p e s' T m args below meth c locs hx hby hown hZ X target r => XS.i2l X.here hx rfl (hb hby hd) rfl r
theorem k_i2b {x : Int32} (hd : decode M.2.1 pc = .ok (.i2b, 1)) (hp : pc + 1 = pc') (W : KW wd l Z M n0 Q P h k n pc' Ls (.int (x.toInt8.toInt32) :: st)) : KW wd l Z M n0 Q P h k n pc Ls (.int x :: st) := by
  subst hp; exact W.step fun p e s' T m args below meth c locs hx hby hown hZ X target r => XS.i2b X.here hx rfl (hb hby hd) rfl r
theorem k_i2c {x : Int32} (hd : decode M.2.1 pc = .ok (.i2c, 1)) (hp : pc + 1 = pc') (W : KW wd l Z M n0 Q P h k n pc' Ls (.int (x.toUInt32.toUInt16.toUInt32.toInt32) :: st)) : KW wd l Z M n0 Q P h k n pc Ls (.int x :: st) := by
  subst hp; exact W.step fun p e s' T m args below meth c locs hx hby hown hZ X target r => XS.i2c X.here hx rfl (hb hby hd) rfl r
theorem k_i2s {x : Int32} (hd : decode M.2.1 pc = .ok (.i2s, 1)) (hp : pc + 1 = pc') (W : KW wd l Z M n0 Q P h k n pc' Ls (.int (x.toInt16.toInt32) :: st)) : KW wd l Z M n0 Q P h k n pc Ls (.int x :: st) := by
  subst hp; exact W.step fun p e s' T m args below meth c locs hx hby hown hZ X target r => XS.i2s X.here hx rfl (hb hby hd) rfl r
theorem k_l2i {x : Int64} (hd : decode M.2.1 pc = .ok (.l2i, 1)) (hp : pc + 1 = pc') (W : KW wd l Z M n0 Q P h k n pc' Ls (.int (x.toInt32) :: st)) : KW wd l Z M n0 Q P h k n pc Ls (.long x :: st) := by
  subst hp; exact W.step fun p e s' T m args below meth c locs hx hby hown hZ X target r => XS.l2i X.here hx rfl (hb hby hd) rfl r
def cmpLV (x y : Int64) : Int32 := if y < x then 1 else if x = y then 0 else -1
theorem k_lcmp {x y : Int64} (hd : decode M.2.1 pc = .ok (.lcmp, 1)) (hp : pc + 1 = pc') (W : KW wd l Z M n0 Q P h k n pc' Ls (.int (cmpLV x y) :: st)) : KW wd l Z M n0 Q P h k n pc Ls (.long y :: .long x :: st) := by
  subst hp; exact W.step fun p e s' T m args below meth c locs hx hby hown hZ X target r => XS.lcmp X.here hx rfl (hb hby hd) rfl r
theorem k_dup {x : Value} (hd : decode M.2.1 pc = .ok (.dup, 1)) (hp : pc + 1 = pc') (hc : x.category = 1) (W : KW wd l Z M n0 Q P h k n pc' Ls (x :: x :: st)) : KW wd l Z M n0 Q P h k n pc Ls (x :: st) := by
  subst hp; exact W.step fun p e s' T m args below meth c locs hx hby hown hZ X target r => XS.dup X.here hx rfl (hb hby hd) rfl hc r
theorem k_pop {x : Value} (hd : decode M.2.1 pc = .ok (.pop, 1)) (hp : pc + 1 = pc') (hc : x.category = 1) (W : KW wd l Z M n0 Q P h k n pc' Ls st) : KW wd l Z M n0 Q P h k n pc Ls (x :: st) := by
  subst hp; exact W.step fun p e s' T m args below meth c locs hx hby hown hZ X target r => XS.pop X.here hx rfl (hb hby hd) rfl hc r
theorem k_dupX1 {x y : Value} (hd : decode M.2.1 pc = .ok (.dup_x1, 1)) (hp : pc + 1 = pc') (hc : x.category = 1) (hc' : y.category = 1) (W : KW wd l Z M n0 Q P h k n pc' Ls (x :: y :: x :: st)) : KW wd l Z M n0 Q P h k n pc Ls (x :: y :: st) := by
  subst hp; exact W.step fun p e s' T m args below meth c locs hx hby hown hZ X target r => XS.dupX1 X.here hx rfl (hb hby hd) rfl hc hc' r
theorem k_dup2 {x y : Value} (hd : decode M.2.1 pc = .ok (.dup2, 1)) (hp : pc + 1 = pc') (hc : x.category = 1) (hc' : y.category = 1) (W : KW wd l Z M n0 Q P h k n pc' Ls (x :: y :: x :: y :: st)) : KW wd l Z M n0 Q P h k n pc Ls (x :: y :: st) := by
  subst hp; exact W.step fun p e s' T m args below meth c locs hx hby hown hZ X target r => XT.dup2 X.here hx rfl (hb hby hd) rfl hc hc' r
theorem k_iinc {i : Nat} {cst : Int} {x z : Int32} (hd : decode M.2.1 pc = .ok (.iinc i cst, 3)) (hp : pc + 3 = pc') (hz : Int32.ofInt cst = z) (hl : Ls[i]? = some (.val (.int x))) (hl' : storeLocals Ls i (.int (x + z)) = some Ls') (W : KW wd l Z M n0 Q P h k n pc' Ls' st) : KW wd l Z M n0 Q P h k n pc Ls st := by
  subst hp; exact W.step fun p e s' T m args below meth c locs hx hby hown hZ X target r => XS.iinc X.here hx rfl (hb hby hd) hl (by rw [hz]; exact hl') r
theorem k_goto {o : Int} (hd : decode M.2.1 pc = .ok (.goto o, 3)) (ho : 0 ≤ (pc : Int) + o) (hp : ((pc : Int) + o).toNat = pc') (W : KW wd l Z M n0 Q P h k n pc' Ls st) : KW wd l Z M n0 Q P h k n pc Ls st :=
  W.step fun p e s' T m args below meth c locs hx hby hown hZ X target r => XS.goto X.here hx rfl rfl (hb hby hd) ho hp r
/-- what a comparison says where it is taken, and where it isn't -/
def icY : ClassFile.Cond → Int32 → Int32 → Prop
  | .eq, x, y => x = y | .ne, x, y => ¬ x = y | .lt, x, y => x < y | .ge, x, y => ¬ x < y | .gt, x, y => y < x | .le, x, y => ¬ y < x
def icN : ClassFile.Cond → Int32 → Int32 → Prop
  | .eq, x, y => ¬ x = y | .ne, x, y => x = y | .lt, x, y => ¬ x < y | .ge, x, y => x < y | .gt, x, y => ¬ y < x | .le, x, y => y < x
theorem ic_t {cd : ClassFile.Cond} {x y : Int32} (q : if_icmp.holds cd x y = true) : icY cd x y := by
  cases cd <;> simp [if_icmp.holds] at q <;> simp only [icY] <;> first | exact q | exact Int32.not_lt.mpr q
theorem ic_f {cd : ClassFile.Cond} {x y : Int32} (q : if_icmp.holds cd x y = false) : icN cd x y := by
  cases cd <;> simp [if_icmp.holds] at q <;> simp only [icN] <;> first | exact q | exact Int32.not_lt.mpr q | exact Int32.not_le.mp q
theorem k_icmp {cd : ClassFile.Cond} {o : Int} {x y : Int32} {pc1 : Nat} (hd : decode M.2.1 pc = .ok (.if_icmp cd o, 3)) (ho : 0 ≤ (pc : Int) + o) (hp1 : ((pc : Int) + o).toNat = pc1) (hp : pc + 3 = pc')
    (W1 : icY cd x y → KW wd l Z M n0 Q P h k n pc1 Ls st) (W2 : icN cd x y → KW wd l Z M n0 Q P h k n pc' Ls st) : KW wd l Z M n0 Q P h k n pc Ls (.int y :: .int x :: st) := by
  cases q : if_icmp.holds cd x y
  · subst hp; exact (W2 (ic_f q)).step fun p e s' T m args below meth c locs hx hby hown hZ X target r => XS.icmpNo X.here hx rfl (hb hby hd) rfl q r
  · exact (W1 (ic_t q)).step fun p e s' T m args below meth c locs hx hby hown hZ X target r => XS.icmpYes X.here hx rfl rfl (hb hby hd) rfl q ho hp1 r
theorem k_ifc {cd : ClassFile.Cond} {o : Int} {x : Int32} {pc1 : Nat} (hd : decode M.2.1 pc = .ok (.ifCond cd o, 3)) (ho : 0 ≤ (pc : Int) + o) (hp1 : ((pc : Int) + o).toNat = pc1) (hp : pc + 3 = pc')
    (W1 : icY cd x 0 → KW wd l Z M n0 Q P h k n pc1 Ls st) (W2 : icN cd x 0 → KW wd l Z M n0 Q P h k n pc' Ls st) : KW wd l Z M n0 Q P h k n pc Ls (.int x :: st) := by
  cases q : ifCond.holds cd x
  · subst hp; exact (W2 (ic_f (by rw [← if0]; exact q))).step fun p e s' T m args below meth c locs hx hby hown hZ X target r => XS.ifNo X.here hx rfl (hb hby hd) rfl q r
  · exact (W1 (ic_t (by rw [← if0]; exact q))).step fun p e s' T m args below meth c locs hx hby hown hZ X target r => XS.ifYes X.here hx rfl rfl (hb hby hd) rfl q ho hp1 r
/-- lcmp and the branch behind it, in one -/
def lcY : ClassFile.Cond → Int64 → Int64 → Prop
  | .eq, x, y => x = y | .ne, x, y => ¬ x = y | .lt, x, y => x < y | .ge, x, y => ¬ x < y | .gt, x, y => y < x | .le, x, y => ¬ y < x
def lcN : ClassFile.Cond → Int64 → Int64 → Prop
  | .eq, x, y => ¬ x = y | .ne, x, y => x = y | .lt, x, y => ¬ x < y | .ge, x, y => x < y | .gt, x, y => ¬ y < x | .le, x, y => y < x
theorem cmpL_V (x y : Int64) : cmpLV x y = lcmpV x y := by simp [cmpLV, lcmpV]
theorem lc_t {cd : ClassFile.Cond} {x y : Int64} (q : icY cd (cmpLV x y) 0) : lcY cd x y := by
  rw [cmpL_V] at q
  cases cd <;> simp only [icY, lcY] at q ⊢
  · exact (lc_eq x y).mp q
  · exact fun e => q ((lc_eq x y).mpr e)
  · exact (lc_lt x y).mp q
  · exact fun e => q ((lc_lt x y).mpr e)
  · exact (lc_gt x y).mp q
  · exact fun e => q ((lc_gt x y).mpr e)
theorem lc_f {cd : ClassFile.Cond} {x y : Int64} (q : icN cd (cmpLV x y) 0) : lcN cd x y := by
  rw [cmpL_V] at q
  cases cd <;> simp only [icN, lcN] at q ⊢
  · exact fun e => q ((lc_eq x y).mpr e)
  · exact (lc_eq x y).mp q
  · exact fun e => q ((lc_lt x y).mpr e)
  · exact (lc_lt x y).mp q
  · exact fun e => q ((lc_gt x y).mpr e)
  · exact (lc_gt x y).mp q
theorem k_lcmpIf {cd : ClassFile.Cond} {o : Int} {x y : Int64} {pc1 pc2 : Nat} (hd0 : decode M.2.1 pc = .ok (.lcmp, 1)) (hp0 : pc + 1 = pc') (hd : decode M.2.1 pc' = .ok (.ifCond cd o, 3)) (ho : 0 ≤ (pc' : Int) + o) (hp1 : ((pc' : Int) + o).toNat = pc1) (hp : pc' + 3 = pc2)
    (W1 : lcY cd x y → KW wd l Z M n0 Q P h k n pc1 Ls st) (W2 : lcN cd x y → KW wd l Z M n0 Q P h k n pc2 Ls st) : KW wd l Z M n0 Q P h k n pc Ls (.long y :: .long x :: st) :=
  k_lcmp hd0 hp0 (k_ifc hd ho hp1 hp (fun q => W1 (lc_t q)) (fun q => W2 (lc_f q)))
theorem k_acmpNe {o : Int} {x y : Value} {pc1 : Nat} (hd : decode M.2.1 pc = .ok (.if_acmp .ne o, 3)) (hx' : x.isRef = true) (hy' : y.isRef = true) (ho : 0 ≤ (pc : Int) + o) (hp1 : ((pc : Int) + o).toNat = pc1) (hp : pc + 3 = pc')
    (W1 : ¬ x = y → KW wd l Z M n0 Q P h k n pc1 Ls st) (W2 : x = y → KW wd l Z M n0 Q P h k n pc' Ls st) : KW wd l Z M n0 Q P h k n pc Ls (y :: x :: st) := by
  by_cases q : x = y
  · subst hp; exact (W2 q).step fun p e s' T m args below meth c locs hx hby hown hZ X target r => XT.acmpNo X.here hx rfl (hb hby hd) rfl hx' hy' (by simp [XT.acmp, q]) r
  · exact (W1 q).step fun p e s' T m args below meth c locs hx hby hown hZ X target r => XT.acmpYes X.here hx rfl rfl (hb hby hd) rfl hx' hy' (by simp [XT.acmp, q]) ho hp1 r
theorem k_acmpEq {o : Int} {x y : Value} {pc1 : Nat} (hd : decode M.2.1 pc = .ok (.if_acmp .eq o, 3)) (hx' : x.isRef = true) (hy' : y.isRef = true) (ho : 0 ≤ (pc : Int) + o) (hp1 : ((pc : Int) + o).toNat = pc1) (hp : pc + 3 = pc')
    (W1 : x = y → KW wd l Z M n0 Q P h k n pc1 Ls st) (W2 : ¬ x = y → KW wd l Z M n0 Q P h k n pc' Ls st) : KW wd l Z M n0 Q P h k n pc Ls (y :: x :: st) := by
  by_cases q : x = y
  · exact (W1 q).step fun p e s' T m args below meth c locs hx hby hown hZ X target r => XT.acmpYes X.here hx rfl rfl (hb hby hd) rfl hx' hy' (by simp [XT.acmp, q]) ho hp1 r
  · subst hp; exact (W2 q).step fun p e s' T m args below meth c locs hx hby hown hZ X target r => XT.acmpNo X.here hx rfl (hb hby hd) rfl hx' hy' (by simp [XT.acmp, q]) r
theorem k_ifnullY {o : Int} (hd : decode M.2.1 pc = .ok (.ifnull o, 3)) (ho : 0 ≤ (pc : Int) + o) (hp : ((pc : Int) + o).toNat = pc') (W : KW wd l Z M n0 Q P h k n pc' Ls st) : KW wd l Z M n0 Q P h k n pc Ls (.null :: st) :=
  W.step fun p e s' T m args below meth c locs hx hby hown hZ X target r => XS.ifnullYes X.here hx rfl rfl (hb hby hd) rfl ho hp r
theorem k_ifnullN {o : Int} {a : Addr} (hd : decode M.2.1 pc = .ok (.ifnull o, 3)) (hp : pc + 3 = pc') (W : KW wd l Z M n0 Q P h k n pc' Ls st) : KW wd l Z M n0 Q P h k n pc Ls (.ref a :: st) := by
  subst hp; exact W.step fun p e s' T m args below meth c locs hx hby hown hZ X target r => XS.ifnullNo X.here hx rfl (hb hby hd) rfl r
theorem k_ifnonnullY {o : Int} {a : Addr} (hd : decode M.2.1 pc = .ok (.ifnonnull o, 3)) (ho : 0 ≤ (pc : Int) + o) (hp : ((pc : Int) + o).toNat = pc') (W : KW wd l Z M n0 Q P h k n pc' Ls st) : KW wd l Z M n0 Q P h k n pc Ls (.ref a :: st) :=
  W.step fun p e s' T m args below meth c locs hx hby hown hZ X target r => XS.ifnonnullYes X.here hx rfl rfl (hb hby hd) rfl ho hp r
theorem k_ifnonnullN {o : Int} (hd : decode M.2.1 pc = .ok (.ifnonnull o, 3)) (hp : pc + 3 = pc') (W : KW wd l Z M n0 Q P h k n pc' Ls st) : KW wd l Z M n0 Q P h k n pc Ls (.null :: st) := by
  subst hp; exact W.step fun p e s' T m args below meth c locs hx hby hown hZ X target r => XS.ifnonnullNo X.here hx rfl (hb hby hd) rfl r
theorem k_ldc2J {i : Nat} {v : Int64} (hd : decode M.2.1 pc = .ok (.ldc2_w i, 3)) (hp : pc + 3 = pc') (w : (Cond.constantLong M.1.cls i v).before a0 Z = true) (W : KW wd l Z M n0 Q P h k n pc' Ls (.long v :: st)) : KW wd l Z M n0 Q P h k n pc Ls st := by
  subst hp; exact W.step fun p e s' T m args below meth c locs hx hby hown hZ X target r => X.ldc2J hx hown (mvT hZ w) rfl (hb hby hd) r
theorem k_ldcI {i : Nat} {v : Int32} (hd : decode M.2.1 pc = .ok (.ldc i, 2)) (hp : pc + 2 = pc') (w : (Cond.constant M.1.cls i v).before a0 Z = true) (W : KW wd l Z M n0 Q P h k n pc' Ls (.int v :: st)) : KW wd l Z M n0 Q P h k n pc Ls st := by
  subst hp; exact W.step fun p e s' T m args below meth c locs hx hby hown hZ X target r => X.ldcI hx hown (mvT hZ w) rfl (hb hby hd) r
theorem k_getStatic {i : Nat} {O f d : String} {v : Value} (hd : decode M.2.1 pc = .ok (.getstatic i, 3)) (hp : pc + 3 = pc') (w : (Cond.fieldLink M.1.cls i O f d).before a0 Z = true) (F : Sta Z h O f d v) (W : KW wd l Z M n0 Q P h k n pc' Ls (v :: st)) : KW wd l Z M n0 Q P h k n pc Ls st := by
  subst hp; exact W.move fun p e s' T m args below meth c locs hx hby hml hown hZ X eT => getS X hx hZ hown (host := "") w Via.refl eT F (g := mkF m pc Ls st) rfl (hb hby hd)
theorem k_getField {i : Nat} {R0 O f d : String} {a : Addr} {v : Value} (hd : decode M.2.1 pc = .ok (.getfield i, 3)) (hp : pc + 3 = pc') (w : (Cond.fieldLink M.1.cls i R0 f d).before a0 Z = true) (via : Via Z R0 O f d) (F : Fld Z h a O f d v) (W : KW wd l Z M n0 Q P h k n pc' Ls (v :: st)) : KW wd l Z M n0 Q P h k n pc Ls (.ref a :: st) := by
  subst hp; exact W.move fun p e s' T m args below meth c locs hx hby hml hown hZ X eT => getF X hx hZ hown (host := "") (Or.inl w) via eT F (g := mkF m pc Ls (.ref a :: st)) rfl rfl (hb hby hd)
/-- the return -/
theorem KW.top {v v' : Value} (e : v = v') (W : KW wd l Z M n0 Q P h k n pc Ls (v' :: st)) : KW wd l Z M n0 Q P h k n pc Ls (v :: st) := e ▸ W
theorem KW.sub {S' : Addr → Prop} (q : ∀ x, S' x → P.2 x) (W : KW wd l Z M n0 Q (P.1, S') h k n pc Ls st) : KW wd l Z M n0 Q P h k n pc Ls st :=
  fun p e s s' m args below meth c hx hby hml hown hnm hret hlk hZ hB hI T locs X N eT => W p e s s' m args below meth c hx hby hml hown hnm hret hlk hZ (hB.sub q) hI T locs X N eT
theorem KW.any {P' : PX} (W : KW false l Z M n0 Q P' h k n pc Ls st) : KW false l Z M n0 Q P h k n pc Ls st :=
  fun p e s s' m args below meth c hx hby hml hown hnm hret hlk hZ hB hI T locs X N eT => by
    obtain ⟨t, v, L, r, h1, h2, h3, h4, h5⟩ := W p e s s' m args below meth c hx hby hml hown hnm hret hlk hZ (hB.elim (fun q => Or.inl q) (fun q => by cases q.1)) (fun q => by cases q) T locs X N eT
    exact ⟨t, v, L, r, h1, h2, h3, h4, h5.elim (fun q => Or.inl q) (fun q => by cases q.1)⟩
theorem KW.ret {v : Option Value} (q : Q v h) (hk : k ≤ M.2.2.2.2.cells) (hn : n ≤ M.2.2.2.2.slots) (hv : M.2.2.2.1 = none → v = none)
    (f : ∀ (p : Program) (e : Env) (s' T : State) (m : MethodId) (args : Array Value) (below : List Frame) (meth : Method) (c : Code) (locs : List Loc), p.tables.exec = Jvm.exec → c.code = M.2.1 → meth.sig.returnType = M.2.2.2.1 → Stand p l e M.2.2.2.2 s' m args below meth c T locs k n →
      ∀ fs : List Frame, (∀ (f : JFrame) (acts : List Action), f.method = m → f.locked = none → f.entered = [] → (doReturn e (T.setTop f) acts v).1 = T.setFrames fs) → Steps p.tables e below (T.setTop (mkF m pc Ls st)) (T.setFrames fs)) : KW wd l Z M n0 Q P h k n pc Ls st := by
  intro p e s s' m args below meth c hx hby hml hown hnm hret hlk hZ hB hI T locs X N eT
  obtain ⟨fs, hr, hrun, hended, hW, hsame⟩ := X.leave (v := v) (fun q => hv (by rw [← hret]; exact q)) hlk
  refine ⟨T.setFrames fs, v, locs, f p e s' T m args below meth c locs hx hby hret X fs hr, hrun, hended, N, by show Q v T.heap; rw [eT]; exact q, ?_⟩
  rcases hB with ⟨rfl, rfl⟩ | ⟨rfl, vm0, k0, rfl, hS, hk0, hC, -⟩
  · exact Or.inl ⟨rfl, ⟨_, rfl⟩, hW, hsame.mono hk hn⟩
  · obtain ⟨e1, e2, e3⟩ := hS.ended hW (by show k0 ≤ T.heap.size; rw [eT]; exact hk0) hsame
    obtain ⟨a1, hEW⟩ := hI rfl
    have hCT : CHr Z P.1 s.vm s.heap T.vm T.heap := hC.trans (by rw [eT]; exact CHv.at X hZ hEW hC.1)
    exact Or.inr ⟨rfl, hCT, ⟨_, rfl⟩, e1, e2, e3.mono hk hn⟩
theorem k_retInt {z : Int32} (hd : decode M.2.1 pc = .ok (.ireturn, 1)) (hr : M.2.2.2.1 = some .int) (hk : k ≤ M.2.2.2.2.cells) (hn : n ≤ M.2.2.2.2.slots) (q : Q (some (.int z)) h) : KW wd l Z M n0 Q P h k n pc Ls (.int z :: st) :=
  KW.ret q hk hn (fun x => by rw [hr] at x; cases x) fun p e s' T m args below meth c locs hx hby hret X fs hl => retOut X hx (t := .int) (i := .ireturn) (hret.trans hr) rfl (Or.inl ⟨rfl, Or.inl rfl, _, rfl⟩) (hb hby hd) hl
theorem k_retNar {z z' : Int32} {t : FieldType} (hd : decode M.2.1 pc = .ok (.ireturn, 1)) (hr : M.2.2.2.1 = some t) (ht : t = .boolean ∨ t = .byte ∨ t = .char ∨ t = .short) (hz : nar t z = z') (hk : k ≤ M.2.2.2.2.cells) (hn : n ≤ M.2.2.2.2.slots) (q : Q (some (.int z')) h) : KW wd l Z M n0 Q P h k n pc Ls (.int z :: st) := by
  subst hz; exact KW.ret q hk hn (fun x => by rw [hr] at x; cases x) fun p e s' T m args below meth c locs hx hby hret X fs hl => retN X hx (hret.trans hr) ht (hb hby hd) hl
theorem k_retLong {z : Int64} (hd : decode M.2.1 pc = .ok (.lreturn, 1)) (hr : M.2.2.2.1 = some .long) (hk : k ≤ M.2.2.2.2.cells) (hn : n ≤ M.2.2.2.2.slots) (q : Q (some (.long z)) h) : KW wd l Z M n0 Q P h k n pc Ls (.long z :: st) :=
  KW.ret q hk hn (fun x => by rw [hr] at x; cases x) fun p e s' T m args below meth c locs hx hby hret X fs hl => retOut X hx (t := .long) (i := .lreturn) (hret.trans hr) rfl (Or.inr (Or.inl ⟨rfl, rfl, _, rfl⟩)) (hb hby hd) hl
theorem k_retRef {v : Value} {t : FieldType} (hd : decode M.2.1 pc = .ok (.areturn, 1)) (hr : M.2.2.2.1 = some t) (ht : t.isReference = true) (hv : v.isRef = true) (hk : k ≤ M.2.2.2.2.cells) (hn : n ≤ M.2.2.2.2.slots) (q : Q (some v) h) : KW wd l Z M n0 Q P h k n pc Ls (v :: st) :=
  KW.ret q hk hn (fun x => by rw [hr] at x; cases x) fun p e s' T m args below meth c locs hx hby hret X fs hl => retOut X hx (t := t) (i := .areturn) (hret.trans hr) (by cases t <;> first | rfl | cases ht) (Or.inr (Or.inr (Or.inr (Or.inr ⟨rfl, ht, hv⟩)))) (hb hby hd) hl
theorem k_retVoid (hd : decode M.2.1 pc = .ok (.return_, 1)) (hr : M.2.2.2.1 = none) (hk : k ≤ M.2.2.2.2.cells) (hn : n ≤ M.2.2.2.2.slots) (q : Q none h) : KW wd l Z M n0 Q P h k n pc Ls [] :=
  KW.ret q hk hn (fun x => rfl) fun p e s' T m args below meth c locs hx hby hret X fs hl => X.returnOut hx (hret.trans hr) (hb hby hd) hl
/-- a method's contract: entered with these arguments and this heap, it returns, and Q holds -/
def Mt (l : Launch) (Z : State) (M : MD) (ws : List Jvm.Cond) (n0 : Nat) (as' : Array Value) (h0 : Heap) (Q : Option Value → Heap → Prop) : Prop :=
  MetFree l M.1 (head1 (Jvm.Cond.code M.1 M.2.1 M.2.2.1 M.2.2.2.1 :: ws) M.2.2.2.2) (fun a U => a = as' ∧ Z.Warmed39 U.vm ∧ U.heap = h0) (fun _ _ _ _ _ => True) (fun _ U o U' => ∃ v L, o = .returned v ∧ (Fr n0 L ∧ h0.size ≤ U'.heap.size ∧ Q v U'.heap) ∧ FrameEnd U o U' L M.2.2.2.2.cells M.2.2.2.2.slots)
theorem mt_of_kw {ws : List Jvm.Cond} {as' : Array Value} (hn : plainFor M.1 = true) (hef : ∀ m, entryFrame m as' M.2.2.1 = mkF m 0 Ls []) (W : KW false l Z M n0 Q P h 0 0 0 Ls []) : Mt l Z M ws n0 as' h Q := by
  refine MetFree.of_bodySF hn hisR ?_
  intro p e s m args below meth c s₁ Bd hml0 hP hK
  obtain ⟨rfl, hZ, hh⟩ := hP
  have e0 : s₁.heap = h := by rw [← hh, Bd.state]; rfl
  obtain ⟨t, v, L, r, h1, h2, h3, h4, h5⟩ := W p e s s m _ below meth c Bd.exec Bd.bytes hml0 (findClass_of_methodNamed Bd.named) (name_of_methodNamed Bd.named Bd.method).1 Bd.returns Bd.notSynchronized hZ (Or.inl ⟨rfl, rfl⟩) (fun q => by cases q) s₁ [] (Stand.of_body Bd) (Fr.nil n0) e0
  rcases h5 with ⟨-, h5⟩ | ⟨h5, -⟩
  · refine ⟨t, _, castTop (hef m) r, h1, h2, v, L, rfl, ⟨h3, ?_, h4⟩, h5⟩
    have q : s.heap.size ≤ t.heap.size := h5.2.2.2.1
    rw [← hh]; exact q
  · cases h5
/-- what a strict callee has done to the heap, for a wide caller -/
def Kp (wd : Bool) (Z : State) (P : PX) (h : Heap) (Q' : Option Value → Heap → Prop) : Prop := wd = true → ∀ v h', Q' v h' → ∃ ws, Keep h h' ws ∧ ∀ x ∈ ws, Sf Z P h x
theorem Kp.strict {Q' : Option Value → Heap → Prop} : Kp false Z P h Q' := fun q => by cases q
theorem Kp.pure {Q' : Option Value → Heap → Prop} (q : ∀ v h', Q' v h' → h' = h) : Kp wd Z P h Q' := fun _ v h' hq => ⟨[], by rw [q v h' hq]; exact Keep.refl _ _, fun _ z => nomatch z⟩
theorem KB.call {s s' : State} {h' : Heap} {v : Option Value} {Q' : Option Value → Heap → Prop} (B : KB wd Z P s s' h) (hZ : Z.Warmed39 s'.vm) (hk : Kp wd Z P h Q') (q : Q' v h') : KB wd Z (P.grow h h') s s' h' := by
  cases wd
  · exact B.elim (fun r => Or.inl r) (fun r => by cases r.1)
  · obtain ⟨ws, K, hs⟩ := hk rfl v h' q
    exact B.keep hZ K (fun _ => hs)
/-- a static method by its contract -/
theorem k_callStatic {y : MD} {i W0 : Nat} {argsL : List Value} {Q' : Option Value → Heap → Prop} {ps : List FieldType} {r : Option FieldType} (hd : decode M.2.1 pc = .ok (.invokestatic i, 3)) (hp : pc + 3 = pc') (K : Mt l Z y [] n0 argsL.toArray h Q') (hkp : Kp wd Z P h Q')
    (w1 : (Cond.methodLink M.1.cls i y.1).before a0 Z = true) (w2 : (Cond.static y.1).before a0 Z = true) (w3 : (Cond.initialized y.1.cls).before a0 Z = true) (w4 : (Cond.code y.1 y.2.1 y.2.2.1 y.2.2.2.1).before a0 Z = true) (hy : y.1.cls ≠ "java/lang/invoke/MethodHandle" ∧ y.1.cls ≠ "java/lang/invoke/VarHandle")
    (hpd : parseMethodDescriptor y.1.desc = some ⟨ps, r⟩) (hlen : argsL.length = ps.length) (hst : st = argsL.reverse ++ rest) (hsz : Ls.size = M.2.2.1) (hW : (rest.map fun v => v.category).sum = W0)
    (hfr : y.2.2.2.2.frames + 1 ≤ M.2.2.2.2.frames) (hlo : W0 + (y.2.2.1 + 11) + y.2.2.2.2.locals ≤ M.2.2.2.2.locals) (hc : k + y.2.2.2.2.cells ≤ M.2.2.2.2.cells) (hs : n + y.2.2.2.2.slots ≤ M.2.2.2.2.slots)
    (W : ∀ v h', h.size ≤ h'.size → Q' v h' → KW wd l Z M n0 Q (P.grow h h') h' (k + y.2.2.2.2.cells) (n + y.2.2.2.2.slots) pc' Ls (v.toList ++ rest)) : KW wd l Z M n0 Q P h k n pc Ls st := by
  intro p e s s' m args below meth c hx hby hml hown hnm hret hlk hZ hB hI T locs X N eT
  subst hp
  obtain ⟨v, _, ⟨T', L', k', n'⟩, -, X', ⟨Lc, ⟨q1, q2, q3⟩, l1, l2, l3⟩, stp⟩ := Jvm.LawKit.callS X hx (y := y.1) hown (mvT hZ w1) (mvT hZ w2) (mvT hZ w3) (mvT hZ w4) hy (backOf (W := W0) (Q := fun v h' L => Fr n0 L ∧ h.size ≤ h'.size ∧ Q' v h') K hZ w4 w3 hfr hlo) (g := mkF m pc Ls st) rfl (hsz.trans hml.symm) (argsL := argsL) (rest := rest) (lenOf hpd hlen) hst (by show 2 * 0 + _ ≤ _; omega) (hb hby hd) (fun _ _ => ⟨rfl, eT, hc, hs⟩)
  dsimp only [Pt.U, Pt.locs, Pt.cells, Pt.slots] at X' l1 l2 l3 stp q2 q3
  subst l1 l2 l3
  obtain ⟨t, v', L, r, rr⟩ := W v T'.heap q2 q3 p e s s' m args below meth c hx hby hml hown hnm hret hlk hZ (hB.call hZ hkp q3) hI T' _ X' (Fr.app N q1) rfl
  exact ⟨t, v', L, stp _ r, rr⟩
/-- a constructor by its contract -/
theorem k_callInit {y : MD} {i W0 : Nat} {a : Addr} {argsL : List Value} {Q' : Option Value → Heap → Prop} {ps : List FieldType} {r : Option FieldType} (hd : decode M.2.1 pc = .ok (.invokespecial i, 3)) (hp : pc + 3 = pc') (K : Mt l Z y [] n0 (.ref a :: argsL).toArray h Q') (hkp : Kp wd Z P h Q') (hi : y.1.name = "<init>") (hr0 : y.2.2.2.1 = none)
    (w1 : (Cond.methodLink M.1.cls i y.1).before a0 Z = true) (w2 : (Cond.instanceMethod y.1).before a0 Z = true) (w3 : (Cond.initialized y.1.cls).before a0 Z = true) (w4 : (Cond.code y.1 y.2.1 y.2.2.1 y.2.2.2.1).before a0 Z = true) (hy : y.1.cls ≠ "java/lang/invoke/MethodHandle" ∧ y.1.cls ≠ "java/lang/invoke/VarHandle")
    (hpd : parseMethodDescriptor y.1.desc = some ⟨ps, r⟩) (hlen : argsL.length = ps.length) (hst : st = argsL.reverse ++ .ref a :: rest) (hsz : Ls.size = M.2.2.1) (hW : (rest.map fun v => v.category).sum = W0)
    (hfr : y.2.2.2.2.frames + 1 ≤ M.2.2.2.2.frames) (hlo : W0 + (y.2.2.1 + 11) + y.2.2.2.2.locals ≤ M.2.2.2.2.locals) (hc : k + y.2.2.2.2.cells ≤ M.2.2.2.2.cells) (hs : n + y.2.2.2.2.slots ≤ M.2.2.2.2.slots)
    (W : ∀ v h', h.size ≤ h'.size → Q' v h' → KW wd l Z M n0 Q (P.grow h h') h' (k + y.2.2.2.2.cells) (n + y.2.2.2.2.slots) pc' Ls (v.toList ++ rest)) : KW wd l Z M n0 Q P h k n pc Ls st := by
  intro p e s s' m args below meth c hx hby hml hown hnm hret hlk hZ hB hI T locs X N eT
  subst hp
  obtain ⟨v, _, ⟨T', L', k', n'⟩, -, X', ⟨Lc, ⟨q1, q2, q3⟩, l1, l2, l3⟩, stp⟩ := X.specialBack hx (y := y.1) hi hown (mvT hZ w1) (mvT hZ w2) (bytes := y.2.1) (maxL := y.2.2.1) (by rw [← hr0]; exact mvT hZ w4) hy (backOf (W := W0) (Q := fun v h' L => Fr n0 L ∧ h.size ≤ h'.size ∧ Q' v h') K hZ w4 w3 hfr hlo) (g := mkF m pc Ls st) rfl (hsz.trans hml.symm) (Steps.refl _) (a := a) (argsL := argsL) (rest := rest) (lenOf hpd hlen) hst (by show 2 * 0 + _ ≤ _; omega) (hb hby hd) (fun _ _ => ⟨rfl, eT, hc, hs⟩)
  dsimp only [Pt.U, Pt.locs, Pt.cells, Pt.slots] at X' l1 l2 l3 stp q2 q3
  subst l1 l2 l3
  obtain ⟨t, v', L, r, rr⟩ := W v T'.heap q2 q3 p e s s' m args below meth c hx hby hml hown hnm hret hlk hZ (hB.call hZ hkp q3) hI T' _ X' (Fr.app N q1) rfl
  exact ⟨t, v', L, stp.trans r, rr⟩
/-- an instance method by its contract; the receiver is exactly a C -/
theorem k_callVirtual {y : MD} {x : MethodName} {C : String} {i W0 : Nat} {a : Addr} {argsL : List Value} {Q' : Option Value → Heap → Prop} {ps : List FieldType} {r : Option FieldType} (hd : decode M.2.1 pc = .ok (.invokevirtual i, 3)) (hp : pc + 3 = pc') (K : Mt l Z y [] n0 (.ref a :: argsL).toArray h Q') (hkp : Kp wd Z P h Q') (E : Exa Z h a C)
    (w1 : (Cond.methodLink M.1.cls i x).before a0 Z = true) (w2 : (Cond.declares x).before a0 Z = true) (w3 : (Cond.selects C x y.1).before a0 Z = true) {C7 : String} (w7 : (Cond.selects C7 x x).before a0 Z = true) (w4 : (Cond.instanceMethod y.1).before a0 Z = true) (w5 : (Cond.code y.1 y.2.1 y.2.2.1 y.2.2.2.1).before a0 Z = true) (w6 : (Cond.initialized y.1.cls).before a0 Z = true) (hy : x.cls ≠ "java/lang/invoke/MethodHandle" ∧ x.cls ≠ "java/lang/invoke/VarHandle")
    (hpd : parseMethodDescriptor x.desc = some ⟨ps, r⟩) (hlen : argsL.length = ps.length) (hst : st = argsL.reverse ++ .ref a :: rest) (hsz : Ls.size = M.2.2.1) (hW : (rest.map fun v => v.category).sum = W0)
    (hfr : y.2.2.2.2.frames + 1 ≤ M.2.2.2.2.frames) (hlo : W0 + (y.2.2.1 + 11) + y.2.2.2.2.locals ≤ M.2.2.2.2.locals) (hc : k + y.2.2.2.2.cells ≤ M.2.2.2.2.cells) (hs : n + y.2.2.2.2.slots ≤ M.2.2.2.2.slots)
    (W : ∀ v h', h.size ≤ h'.size → Q' v h' → KW wd l Z M n0 Q (P.grow h h') h' (k + y.2.2.2.2.cells) (n + y.2.2.2.2.slots) pc' Ls (v.toList ++ rest)) : KW wd l Z M n0 Q P h k n pc Ls st := by
  intro p e s s' m args below meth c hx hby hml hown hnm hret hlk hZ hB hI T locs X N eT
  subst hp
  obtain ⟨cq, kq, qa, qb, qc⟩ := isOf hZ eT E
  obtain ⟨v, _, ⟨T', L', k', n'⟩, -, X', ⟨Lc, ⟨q1, q2, q3⟩, l1, l2, l3⟩, stp⟩ := X.virtualBack hx (y := x) (z := y.1) hown (mvT hZ w1) (mvT hZ w2) (notFace_of_selects (args := #[]) (mvT hZ w7)) (mvT hZ w3) (mvT hZ w4) hy (backOf (W := W0) (Q := fun v h' L => Fr n0 L ∧ h.size ≤ h'.size ∧ Q' v h') K hZ w5 w6 hfr hlo) qa qc (g := mkF m pc Ls st) rfl (hsz.trans hml.symm) (Steps.refl _) (argsL := argsL) (rest := rest) (lenOf hpd hlen) hst (by show 2 * 0 + _ ≤ _; omega) (hb hby hd) (fun _ _ => ⟨rfl, eT, hc, hs⟩)
  dsimp only [Pt.U, Pt.locs, Pt.cells, Pt.slots] at X' l1 l2 l3 stp q2 q3
  subst l1 l2 l3
  obtain ⟨t, v', L, r, rr⟩ := W v T'.heap q2 q3 p e s s' m args below meth c hx hby hml hown hnm hret hlk hZ (hB.call hZ hkp q3) hI T' _ X' (Fr.app N q1) rfl
  exact ⟨t, v', L, stp.trans r, rr⟩
end
end Jvm.OwnW

namespace Jvm.OwnW
open Sem ClassFile Op Lib Jvm.Stand Jvm.Free Jvm.LawKit Jvm.RoadKit Jvm.Free.Fl
section
variable {tb : Tables} [Ours tb] {e : Env} {below : List Frame} {T target : State} {m : MethodId} {c : Code} {g : JFrame}
theorem x_i2d (h : At T m c below) (hx : tb.exec = Jvm.exec) (hg : g.method = m) {x : Int32} {rest : List Value} (hd : decode c.code g.pc = .ok (.i2d, 1)) (hs : g.stack = .int x :: rest)
    (hr : Steps tb e below (T.setTop { g with pc := g.pc + 1, stack := .double (FP.i2d x) :: rest }) target) : Steps tb e below (T.setTop g) target := by
  subst hg; jvm_step h [h.top, hx, hd, hs]; exact hr
theorem x_l2d (h : At T m c below) (hx : tb.exec = Jvm.exec) (hg : g.method = m) {x : Int64} {rest : List Value} (hd : decode c.code g.pc = .ok (.l2d, 1)) (hs : g.stack = .long x :: rest)
    (hr : Steps tb e below (T.setTop { g with pc := g.pc + 1, stack := .double (FP.l2d x) :: rest }) target) : Steps tb e below (T.setTop g) target := by
  subst hg; jvm_step h [h.top, hx, hd, hs]; exact hr
theorem x_dloadN (h : At T m c below) (hx : tb.exec = Jvm.exec) (hg : g.method = m) {k : Fin 4} {v : UInt64} (hd : decode c.code g.pc = .ok (.dload_n k, 1)) (hl : g.locals[k.val]? = some (.val (.double v)))
    (hr : Steps tb e below (T.setTop { g with pc := g.pc + 1, stack := .double v :: g.stack }) target) : Steps tb e below (T.setTop g) target := by
  subst hg; jvm_step h [h.top, hx, hd, hl]; exact hr
theorem x_dload (h : At T m c below) (hx : tb.exec = Jvm.exec) (hg : g.method = m) {k : Nat} {v : UInt64} (hd : decode c.code g.pc = .ok (.dload k, 2)) (hl : g.locals[k]? = some (.val (.double v)))
    (hr : Steps tb e below (T.setTop { g with pc := g.pc + 2, stack := .double v :: g.stack }) target) : Steps tb e below (T.setTop g) target := by
  subst hg; jvm_step h [h.top, hx, hd, hl]; exact hr
theorem x_dstoreN (h : At T m c below) (hx : tb.exec = Jvm.exec) (hg : g.method = m) {k : Fin 4} {x : UInt64} {rest : List Value} {l' : Array Slot} (hd : decode c.code g.pc = .ok (.dstore_n k, 1)) (hs : g.stack = .double x :: rest) (hl : storeLocals g.locals k.val (.double x) = some l')
    (hr : Steps tb e below (T.setTop { g with pc := g.pc + 1, stack := rest, locals := l' }) target) : Steps tb e below (T.setTop g) target := by
  subst hg; jvm_step h [h.top, hx, hd, hs, hl]; exact hr
theorem x_dstore (h : At T m c below) (hx : tb.exec = Jvm.exec) (hg : g.method = m) {k : Nat} {x : UInt64} {rest : List Value} {l' : Array Slot} (hd : decode c.code g.pc = .ok (.dstore k, 2)) (hs : g.stack = .double x :: rest) (hl : storeLocals g.locals k (.double x) = some l')
    (hr : Steps tb e below (T.setTop { g with pc := g.pc + 2, stack := rest, locals := l' }) target) : Steps tb e below (T.setTop g) target := by
  subst hg; jvm_step h [h.top, hx, hd, hs, hl]; exact hr
theorem x_dconst (h : At T m c below) (hx : tb.exec = Jvm.exec) (hg : g.method = m) (hd : decode c.code g.pc = .ok (.dconst 1, 1))
    (hr : Steps tb e below (T.setTop { g with pc := g.pc + 1, stack := .double 0x3ff0000000000000 :: g.stack }) target) : Steps tb e below (T.setTop g) target := by
  subst hg; jvm_step h [h.top, hx, hd]; exact hr
theorem x_dconst0 (h : At T m c below) (hx : tb.exec = Jvm.exec) (hg : g.method = m) (hd : decode c.code g.pc = .ok (.dconst 0, 1))
    (hr : Steps tb e below (T.setTop { g with pc := g.pc + 1, stack := .double 0 :: g.stack }) target) : Steps tb e below (T.setTop g) target := by
  subst hg; jvm_step h [h.top, hx, hd]; exact hr
theorem x_dcmp (h : At T m c below) (hx : tb.exec = Jvm.exec) (hg : g.method = m) {op : CmpOp} {x y : UInt64} {rest : List Value} (hd : decode c.code g.pc = .ok (.dcmp op, 1)) (hs : g.stack = .double y :: .double x :: rest)
    (hr : Steps tb e below (T.setTop { g with pc := g.pc + 1, stack := .int (cmpValue (FP.dcmp x y) op) :: rest }) target) : Steps tb e below (T.setTop g) target := by
  subst hg; jvm_step h [h.top, hx, hd, hs]; exact hr
theorem x_ddiv (h : At T m c below) (hx : tb.exec = Jvm.exec) {pc : Nat} {Ls : Array Slot} {x y : UInt64} {rest : List Value} (hn : NoNaN64 (FP.ddiv x y)) (hd : decode c.code pc = .ok (.ddiv, 1))
    (hr : Steps tb e below (T.setTop (mkF m (pc + 1) Ls (.double (FP.ddiv x y) :: rest))) target) : Steps tb e below (T.setTop (mkF m pc Ls (.double y :: .double x :: rest))) target := by
  show Steps tb e below (T.setTop { method := m, pc := pc, locals := Ls, stack := _, locked := none }) _
  jvm_step h [h.top, hx, hd, Op.ddiv.at_number h.top hn]; exact hr
theorem x_dmul (h : At T m c below) (hx : tb.exec = Jvm.exec) {pc : Nat} {Ls : Array Slot} {x y : UInt64} {rest : List Value} (hn : NoNaN64 (FP.dmul x y)) (hd : decode c.code pc = .ok (.dmul, 1))
    (hr : Steps tb e below (T.setTop (mkF m (pc + 1) Ls (.double (FP.dmul x y) :: rest))) target) : Steps tb e below (T.setTop (mkF m pc Ls (.double y :: .double x :: rest))) target := by
  show Steps tb e below (T.setTop { method := m, pc := pc, locals := Ls, stack := _, locked := none }) _
  jvm_step h [h.top, hx, hd, Op.dmul.at_number h.top hn]; exact hr
theorem x_dadd (h : At T m c below) (hx : tb.exec = Jvm.exec) {pc : Nat} {Ls : Array Slot} {x y : UInt64} {rest : List Value} (hn : NoNaN64 (FP.dadd x y)) (hd : decode c.code pc = .ok (.dadd, 1))
    (hr : Steps tb e below (T.setTop (mkF m (pc + 1) Ls (.double (FP.dadd x y) :: rest))) target) : Steps tb e below (T.setTop (mkF m pc Ls (.double y :: .double x :: rest))) target := by
  show Steps tb e below (T.setTop { method := m, pc := pc, locals := Ls, stack := _, locked := none }) _
  jvm_step h [h.top, hx, hd, Op.dadd.at_number h.top hn]; exact hr
end
section
variable {wd : Bool} {l : Launch} {Z : State} {M : MD} {n0 : Nat} {Q : Option Value → Heap → Prop} {P : PX} {h : Heap} {k n pc pc' : Nat} {Ls Ls' : Array Slot} {st rest : List Value} {a0 : Array Value}
theorem k_i2d {x : Int32} (hd : decode M.2.1 pc = .ok (.i2d, 1)) (hp : pc + 1 = pc') (W : KW wd l Z M n0 Q P h k n pc' Ls (.double (FP.i2d x) :: st)) : KW wd l Z M n0 Q P h k n pc Ls (.int x :: st) := by
  subst hp; exact W.step fun p e s' T m args below meth c locs hx hby hown hZ X target r => x_i2d X.here hx rfl (hb hby hd) rfl r
theorem k_l2d {x : Int64} (hd : decode M.2.1 pc = .ok (.l2d, 1)) (hp : pc + 1 = pc') (W : KW wd l Z M n0 Q P h k n pc' Ls (.double (FP.l2d x) :: st)) : KW wd l Z M n0 Q P h k n pc Ls (.long x :: st) := by
  subst hp; exact W.step fun p e s' T m args below meth c locs hx hby hown hZ X target r => x_l2d X.here hx rfl (hb hby hd) rfl r
theorem k_dloadN {i : Fin 4} {v : UInt64} (hd : decode M.2.1 pc = .ok (.dload_n i, 1)) (hp : pc + 1 = pc') (hl : Ls[i.val]? = some (.val (.double v))) (W : KW wd l Z M n0 Q P h k n pc' Ls (.double v :: st)) : KW wd l Z M n0 Q P h k n pc Ls st := by
  subst hp; exact W.step fun p e s' T m args below meth c locs hx hby hown hZ X target r => x_dloadN X.here hx rfl (hb hby hd) hl r
theorem k_dload {i : Nat} {v : UInt64} (hd : decode M.2.1 pc = .ok (.dload i, 2)) (hp : pc + 2 = pc') (hl : Ls[i]? = some (.val (.double v))) (W : KW wd l Z M n0 Q P h k n pc' Ls (.double v :: st)) : KW wd l Z M n0 Q P h k n pc Ls st := by
  subst hp; exact W.step fun p e s' T m args below meth c locs hx hby hown hZ X target r => x_dload X.here hx rfl (hb hby hd) hl r
theorem k_dstoreN {i : Fin 4} {x : UInt64} (hd : decode M.2.1 pc = .ok (.dstore_n i, 1)) (hp : pc + 1 = pc') (hl : storeLocals Ls i.val (.double x) = some Ls') (W : KW wd l Z M n0 Q P h k n pc' Ls' st) : KW wd l Z M n0 Q P h k n pc Ls (.double x :: st) := by
  subst hp; exact W.step fun p e s' T m args below meth c locs hx hby hown hZ X target r => x_dstoreN X.here hx rfl (hb hby hd) rfl hl r
theorem k_dstore {i : Nat} {x : UInt64} (hd : decode M.2.1 pc = .ok (.dstore i, 2)) (hp : pc + 2 = pc') (hl : storeLocals Ls i (.double x) = some Ls') (W : KW wd l Z M n0 Q P h k n pc' Ls' st) : KW wd l Z M n0 Q P h k n pc Ls (.double x :: st) := by
  subst hp; exact W.step fun p e s' T m args below meth c locs hx hby hown hZ X target r => x_dstore X.here hx rfl (hb hby hd) rfl hl r
theorem k_dconst1 (hd : decode M.2.1 pc = .ok (.dconst 1, 1)) (hp : pc + 1 = pc') (W : KW wd l Z M n0 Q P h k n pc' Ls (.double 0x3ff0000000000000 :: st)) : KW wd l Z M n0 Q P h k n pc Ls st := by
  subst hp; exact W.step fun p e s' T m args below meth c locs hx hby hown hZ X target r => x_dconst X.here hx rfl (hb hby hd) r
theorem k_dconst0 (hd : decode M.2.1 pc = .ok (.dconst 0, 1)) (hp : pc + 1 = pc') (W : KW wd l Z M n0 Q P h k n pc' Ls (.double 0 :: st)) : KW wd l Z M n0 Q P h k n pc Ls st := by
  subst hp; exact W.step fun p e s' T m args below meth c locs hx hby hown hZ X target r => x_dconst0 X.here hx rfl (hb hby hd) r
theorem k_ddiv {x y : UInt64} (hd : decode M.2.1 pc = .ok (.ddiv, 1)) (hp : pc + 1 = pc') (hn : NoNaN64 (FP.ddiv x y)) (W : KW wd l Z M n0 Q P h k n pc' Ls (.double (FP.ddiv x y) :: st)) : KW wd l Z M n0 Q P h k n pc Ls (.double y :: .double x :: st) := by
  subst hp; exact W.step fun p e s' T m args below meth c locs hx hby hown hZ X target r => x_ddiv X.here hx hn (hb hby hd) r
theorem k_dmul {x y : UInt64} (hd : decode M.2.1 pc = .ok (.dmul, 1)) (hp : pc + 1 = pc') (hn : NoNaN64 (FP.dmul x y)) (W : KW wd l Z M n0 Q P h k n pc' Ls (.double (FP.dmul x y) :: st)) : KW wd l Z M n0 Q P h k n pc Ls (.double y :: .double x :: st) := by
  subst hp; exact W.step fun p e s' T m args below meth c locs hx hby hown hZ X target r => x_dmul X.here hx hn (hb hby hd) r
theorem k_dadd {x y : UInt64} (hd : decode M.2.1 pc = .ok (.dadd, 1)) (hp : pc + 1 = pc') (hn : NoNaN64 (FP.dadd x y)) (W : KW wd l Z M n0 Q P h k n pc' Ls (.double (FP.dadd x y) :: st)) : KW wd l Z M n0 Q P h k n pc Ls (.double y :: .double x :: st) := by
  subst hp; exact W.step fun p e s' T m args below meth c locs hx hby hown hZ X target r => x_dadd X.here hx hn (hb hby hd) r
theorem k_dcmp {op : CmpOp} {x y : UInt64} (hd : decode M.2.1 pc = .ok (.dcmp op, 1)) (hp : pc + 1 = pc') (W : KW wd l Z M n0 Q P h k n pc' Ls (.int (cmpValue (FP.dcmp x y) op) :: st)) : KW wd l Z M n0 Q P h k n pc Ls (.double y :: .double x :: st) := by
  subst hp; exact W.step fun p e s' T m args below meth c locs hx hby hown hZ X target r => x_dcmp X.here hx rfl (hb hby hd) rfl r
theorem k_ldc2D {i : Nat} {v : UInt64} (hd : decode M.2.1 pc = .ok (.ldc2_w i, 3)) (hp : pc + 3 = pc') (w : (Cond.constantDouble M.1.cls i v).before a0 Z = true) (W : KW wd l Z M n0 Q P h k n pc' Ls (.double v :: st)) : KW wd l Z M n0 Q P h k n pc Ls st := by
  subst hp; exact W.step fun p e s' T m args below meth c locs hx hby hown hZ X target r => X.ldc2DoubleC hx hown (mvT hZ w) (g := mkF m pc Ls st) rfl (hb hby hd) target r
theorem k_retDouble {z : UInt64} (hd : decode M.2.1 pc = .ok (.dreturn, 1)) (hr : M.2.2.2.1 = some .double) (hk : k ≤ M.2.2.2.2.cells) (hn : n ≤ M.2.2.2.2.slots) (q : Q (some (.double z)) h) : KW wd l Z M n0 Q P h k n pc Ls (.double z :: st) :=
  KW.ret q hk hn (fun x => by rw [hr] at x; cases x) fun p e s' T m args below meth c locs hx hby hret X fs hl => retOut X hx (t := .double) (i := .dreturn) (hret.trans hr) rfl (Or.inr (Or.inr (Or.inl ⟨rfl, rfl, _, rfl⟩))) (hb hby hd) hl
end
end Jvm.OwnW

namespace Jvm.OwnF
open Jvm.FP.Core
/-- powers cancel -/
theorem own_pow {x y z : Nat} (h : x = y + z) : 2 ^ x = 2 ^ y * 2 ^ z := by rw [h, Nat.pow_add]
theorem own_cancel {A c : Nat} {e q K : Int} (h1 : K ≤ e) (h2 : K ≤ q) (h : A * 2 ^ (e - K).toNat = c * 2 ^ (q - K).toNat) : A * 2 ^ (e - q).toNat = c * 2 ^ (q - e).toNat := by
  rcases Int.le_total e q with u | u
  · rw [show (q - K).toNat = (q - e).toNat + (e - K).toNat by omega, Nat.pow_add, ← Nat.mul_assoc] at h
    rw [show (e - q).toNat = 0 by omega, Nat.pow_zero, Nat.mul_one]
    exact Nat.eq_of_mul_eq_mul_right (Nat.two_pow_pos _) h
  · rw [show (e - K).toNat = (e - q).toNat + (q - K).toNat by omega, Nat.pow_add, ← Nat.mul_assoc] at h
    rw [show (q - e).toNat = 0 by omega, Nat.pow_zero, Nat.mul_one]
    exact Nat.eq_of_mul_eq_mul_right (Nat.two_pow_pos _) h
/-- rounding is monotone -/
theorem own_mono {A B A' B' : Nat} {e e' e0 : Int} (hB : 0 < B) (hB' : 0 < B') (h0 : e0 < b64.qmin) (h1 : e0 ≤ e) (h2 : e0 ≤ e') (h : inUnits A e e0 * B' ≤ inUnits A' e' e0 * B) : zmag b64 (roundRatio b64 false A B e) ≤ zmag b64 (roundRatio b64 false A' B' e') := by
  apply Classical.byContradiction
  intro hlt
  have hlt : zmag b64 (roundRatio b64 false A' B' e') < zmag b64 (roundRatio b64 false A B e) := Nat.lt_of_not_le hlt
  have f1 := roundRatio_fits good_b64 false A hB e
  have f2 := roundRatio_fits good_b64 false A' hB' e'
  have n1 : ¬ inUnits A e e0 ≤ zmag b64 (roundRatio b64 false A' B' e') * 2 ^ (b64.qmin - e0).toNat * B := fun q =>
    absurd (zmag_roundRatio_le good_b64 (s := false) hB f2 (roundRatio_ne_nan _ _ _ _ _) (Int.le_of_lt h0) h1 q) (Nat.not_le_of_lt hlt)
  have n2 : ¬ zmag b64 (roundRatio b64 false A B e) * 2 ^ (b64.qmin - e0).toNat * B' ≤ inUnits A' e' e0 := fun q =>
    absurd (zmag_roundRatio_ge good_b64 (s := false) hB' f1 (Int.le_of_lt h0) h2 q) (Nat.not_le_of_lt hlt)
  rcases roundRatio_cases b64 false A' B' e' with ⟨c', q', k'⟩ | k'
  · rcases roundRatio_cases b64 false A B e with ⟨c, q, k⟩ | k
    · have d1 := roundRatio_nearest good_b64 (e0 := e0) hB k (c' := c') (q' := q') (by rw [k'] at f2; exact f2.1) (by rw [k'] at f2; exact f2.2.1) (Int.le_of_lt h0) h1
      have d2 := roundRatio_nearest good_b64 (e0 := e0) hB' k' (c' := c) (q' := q) (by rw [k] at f1; exact f1.1) (by rw [k] at f1; exact f1.2.1) (Int.le_of_lt h0) h2
      rw [k] at f1 n2
      rw [k'] at f2 n1
      have u1 := units_fin f1 (Int.le_of_lt h0)
      have u2 := units_fin f2 (Int.le_of_lt h0)
      rw [← u2] at n1
      rw [← u1] at n2
      unfold distance at d1 d2
      have e1 : A * B' * 2 ^ (e - e').toNat = A' * B * 2 ^ (e' - e).toNat := by
        refine own_cancel h1 h2 ?_
        have : inUnits A e e0 * B' = inUnits A' e' e0 * B := by
          generalize inUnits A e e0 = X at *
          generalize inUnits A' e' e0 = X' at *
          generalize inUnits c q e0 = r at *
          generalize inUnits c' q' e0 = r' at *
          have g1 : r * B + r' * B ≤ 2 * X := by
            have : ((r : Int) * (B : Int)) = ((r * B : Nat) : Int) := by push_cast; rfl
            have : ((r' : Int) * (B : Int)) = ((r' * B : Nat) : Int) := by push_cast; rfl
            omega
          have g2 : 2 * X' ≤ r * B' + r' * B' := by
            have : ((r : Int) * (B' : Int)) = ((r * B' : Nat) : Int) := by push_cast; rfl
            have : ((r' : Int) * (B' : Int)) = ((r' * B' : Nat) : Int) := by push_cast; rfl
            omega
          have g3 := Nat.mul_le_mul_right B' g1
          have g4 := Nat.mul_le_mul_right B g2
          have g5 : (r * B + r' * B) * B' = (r * B' + r' * B') * B := by rw [Nat.add_mul, Nat.add_mul, Nat.mul_assoc, Nat.mul_assoc, Nat.mul_assoc, Nat.mul_assoc, Nat.mul_comm B B']
          rw [Nat.mul_assoc] at g3 g4
          omega
        unfold inUnits at this
        rw [Nat.mul_right_comm, Nat.mul_right_comm A']; exact this
      rw [roundRatio_congr hB hB' e1] at hlt
      exact Nat.lt_irrefl _ hlt
    · have t1 := (roundRatio_inf good_b64 (s := false) hB h0 h1).mp k
      have t2 : roundRatio b64 false A' B' e' = .inf false := by
        refine (roundRatio_inf good_b64 (s := false) hB' h0 h2).mpr ?_
        generalize (2 ^ (b64.p + 1) - 1) * 2 ^ (b64.qmax - 1 - e0).toNat = T at *
        have g := Nat.le_trans (Nat.mul_le_mul_right B' t1) h
        rw [Nat.mul_right_comm] at g
        exact Nat.le_of_mul_le_mul_right g hB
      rw [k, t2] at hlt
      exact Nat.lt_irrefl _ hlt
  · rw [k'] at hlt
    have := zmag_le_top good_b64 f1
    exact absurd (show b64.tails * 2 ^ (b64.exps - 2) < _ from hlt) (Nat.not_lt_of_le this)
/-- a number at or above nought -/
def Nn (x : UInt64) : Prop := ∃ c q, val64 x = .fin false c q
abbrev zm (x : UInt64) : Nat := zmag b64 (val64 x)
theorem Nn.num {x : UInt64} (h : Nn x) : val64 x ≠ .nan := by obtain ⟨c, q, e⟩ := h; rw [e]; intro k; cases k
theorem Nn.fin {x : UInt64} (h : Nn x) : DFin x := by obtain ⟨c, q, e⟩ := h; exact ⟨_, _, _, e⟩
theorem Nn.zval {x : UInt64} (h : Nn x) : zval b64 (val64 x) = (zm x : Int) := by obtain ⟨c, q, e⟩ := h; unfold zm; rw [e]; rfl
theorem Nn.nz {x : UInt64} (h : Nn x) (p : 0 < zm x) : ¬ DZero x := by
  rintro ⟨s, q, e⟩; unfold zm at p; rw [e] at p; simp [zmag, inUnits] at p
/-- the quotient as it is rounded -/
theorem own_quot {a b : UInt64} {c C : Nat} {q Q : Int} (ha : val64 a = .fin false c q) (hb : val64 b = .fin false C Q) (hp : 0 < zm b) : val64 (ddiv a b) = roundRatio b64 false c C (q - Q) ∧ 0 < C := by
  have hC : C ≠ 0 := by intro k; subst k; unfold zm at hp; rw [hb] at hp; simp [zmag, inUnits] at hp
  refine ⟨?_, Nat.pos_of_ne_zero hC⟩
  rw [val64_ddiv, ha, hb]; simp only [quotient]; rw [if_neg hC]; rfl
theorem own_ddiv_mono {a b a' b' : UInt64} (ha : Nn a) (hb : Nn b) (ha' : Nn a') (hb' : Nn b') (p : 0 < zm b) (p' : 0 < zm b') (h : zm a * zm b' ≤ zm a' * zm b) : zm (ddiv a b) ≤ zm (ddiv a' b') := by
  obtain ⟨c, q, ea⟩ := ha
  obtain ⟨C, Q, eb⟩ := hb
  obtain ⟨c', q', ea'⟩ := ha'
  obtain ⟨C', Q', eb'⟩ := hb'
  obtain ⟨e1, g1⟩ := own_quot ea eb p
  obtain ⟨e2, g2⟩ := own_quot ea' eb' p'
  have f1 := val64_fits a; have f2 := val64_fits b; have f3 := val64_fits a'; have f4 := val64_fits b'
  rw [ea] at f1; rw [eb] at f2; rw [ea'] at f3; rw [eb'] at f4
  have a1 := f1.2.1; have a2 := f2.2.1; have a3 := f3.2.1; have a4 := f4.2.1; have b2 := f2.2.2.1; have b4 := f4.2.2.1
  rw [qmin_b64] at a1 a2 a3 a4
  rw [show b64.qmax = 971 by decide] at b2 b4
  unfold zm at h ⊢
  rw [ea, eb, ea', eb'] at h
  rw [e1, e2]
  refine own_mono (e0 := -5000) g1 g2 (by decide) (by omega) (by omega) ?_
  simp only [zmag, inUnits, qmin_b64] at h
  unfold inUnits
  refine Nat.le_of_mul_le_mul_right (c := 2 ^ (Q + Q' + 2148).toNat) ?_ (Nat.two_pow_pos _)
  obtain ⟨N, hN⟩ : ∃ N : Nat, N = 5000 := ⟨_, rfl⟩
  have h' := Nat.mul_le_mul_right (2 ^ N) h
  have l1 : c * 2 ^ (q - Q - -5000).toNat * C' * 2 ^ (Q + Q' + 2148).toNat = c * 2 ^ (q - -1074).toNat * (C' * 2 ^ (Q' - -1074).toNat) * 2 ^ N := by
    have : 2 ^ (q - Q - -5000).toNat * 2 ^ (Q + Q' + 2148).toNat = 2 ^ (q - -1074).toNat * 2 ^ (Q' - -1074).toNat * 2 ^ N := by
      rw [← Nat.pow_add, ← Nat.pow_add, ← Nat.pow_add]; congr 1; omega
    calc _ = c * C' * (2 ^ (q - Q - -5000).toNat * 2 ^ (Q + Q' + 2148).toNat) := by ac_rfl
      _ = _ := by rw [this]; ac_rfl
  have l2 : c' * 2 ^ (q' - Q' - -5000).toNat * C * 2 ^ (Q + Q' + 2148).toNat = c' * 2 ^ (q' - -1074).toNat * (C * 2 ^ (Q - -1074).toNat) * 2 ^ N := by
    have : 2 ^ (q' - Q' - -5000).toNat * 2 ^ (Q + Q' + 2148).toNat = 2 ^ (q' - -1074).toNat * 2 ^ (Q - -1074).toNat * 2 ^ N := by
      rw [← Nat.pow_add, ← Nat.pow_add, ← Nat.pow_add]; congr 1; omega
    calc _ = c' * C * (2 ^ (q' - Q' - -5000).toNat * 2 ^ (Q + Q' + 2148).toNat) := by ac_rfl
      _ = _ := by rw [this]; ac_rfl
  rw [l1, l2]
  exact h'
theorem own_ddiv_nn {a b : UInt64} {M : Nat} (ha : Nn a) (hb : Nn b) (p : 0 < zm b) (h : zm (ddiv a b) ≤ M) (hM : M < b64.tails * 2 ^ (b64.exps - 2)) : Nn (ddiv a b) := by
  obtain ⟨c, q, ea⟩ := ha
  obtain ⟨C, Q, eb⟩ := hb
  obtain ⟨e1, g1⟩ := own_quot ea eb p
  unfold Nn
  unfold zm at h
  rw [e1] at h ⊢
  rcases roundRatio_cases b64 false c C (q - Q) with r | r
  · exact r
  · rw [r] at h; exact absurd (Nat.le_trans h (Nat.le_refl M)) (Nat.not_le_of_lt hM)
theorem own_l2d_rr {a : Int64} (h : 0 ≤ a.toInt) : val64 (l2d a) = roundRatio b64 false a.toInt.natAbs 1 0 := by
  rw [val64_l2d]; unfold ofInt; rw [show decide (a.toInt < 0) = false by simp; omega]; rfl
theorem own_l2d_nn {a : Int64} (h : 0 ≤ a.toInt) : Nn (l2d a) := by
  obtain ⟨s, c, q, e⟩ := l2d_fin a
  have e' := own_l2d_rr h
  rcases roundRatio_cases b64 false a.toInt.natAbs 1 0 with ⟨c', q', r⟩ | r
  · exact ⟨c', q', e'.trans r⟩
  · rw [e', r] at e; cases e
theorem own_l2d_mono {a b : Int64} (h : 0 ≤ a.toInt) (h' : a.toInt ≤ b.toInt) : zm (l2d a) ≤ zm (l2d b) := by
  unfold zm
  rw [own_l2d_rr h, own_l2d_rr (Int.le_trans h h')]
  refine own_mono (e0 := -5000) (by decide) (by decide) (by decide) (by decide) (by decide) ?_
  unfold inUnits
  exact Nat.mul_le_mul_right _ (Nat.mul_le_mul_right _ (by omega))
/-- the sum of two numbers at or above nought -/
theorem own_sum {x y : UInt64} (hx : Nn x) (hy : Nn y) (p : 0 < zm x) : ∃ n e, val64 (dadd x y) = roundRatio b64 false n 1 e ∧ b64.qmin ≤ e ∧ inUnits n e b64.qmin = zm x + zm y := by
  have zx := hx.zval; have zy := hy.zval
  obtain ⟨c, q, ex⟩ := hx
  obtain ⟨d, r, ey⟩ := hy
  have f1 := val64_fits x; have f2 := val64_fits y
  rw [ex] at f1 zx; rw [ey] at f2 zy
  obtain ⟨sg, n, e, h1, h2, h3⟩ := sum_units f1 f2
  rw [zx, zy] at h3
  have hs : sg = false := by
    cases sg
    · rfl
    · simp only [signed, if_true] at h3; omega
  subst hs
  refine ⟨n, e, ?_, h2, ?_⟩
  · rw [val64_dadd, ex, ey, h1]; rfl
  · simp only [signed, Bool.false_eq_true, if_false] at h3; omega
theorem own_dadd_mono {x y y' : UInt64} (hx : Nn x) (hy : Nn y) (hy' : Nn y') (p : 0 < zm x) (h : zm y ≤ zm y') : zm (dadd x y) ≤ zm (dadd x y') := by
  obtain ⟨n, e, h1, h2, h3⟩ := own_sum hx hy p
  obtain ⟨n', e', h1', h2', h3'⟩ := own_sum hx hy' p
  show zmag b64 (val64 _) ≤ zmag b64 (val64 _)
  rw [h1, h1']
  refine own_mono (e0 := b64.qmin - 1) (by decide) (by decide) (by omega) (by omega) (by omega) ?_
  rw [Nat.mul_one, Nat.mul_one, inUnits_move n (e := b64.qmin - 1) (r := b64.qmin) (by omega) h2, inUnits_move n' (e := b64.qmin - 1) (r := b64.qmin) (by omega) h2', h3, h3']
  exact Nat.mul_le_mul_right _ (by omega)
theorem own_dadd_nn {x y : UInt64} {M : Nat} (hx : Nn x) (hy : Nn y) (p : 0 < zm x) (h : zm (dadd x y) ≤ M) (hM : M < b64.tails * 2 ^ (b64.exps - 2)) : Nn (dadd x y) := by
  obtain ⟨n, e, h1, h2, h3⟩ := own_sum hx hy p
  unfold Nn
  unfold zm at h
  rw [h1] at h ⊢
  rcases roundRatio_cases b64 false n 1 e with r | r
  · exact r
  · rw [r] at h; exact absurd h (Nat.not_le_of_lt hM)
/-- an exact quotient -/
theorem own_exact {x y w : UInt64} {s : Bool} {c C c' : Nat} {q Q q' : Int} (hx : val64 x = .fin s c q) (hy : val64 y = .fin false C Q) (hC : C ≠ 0) (hw : val64 w = .fin s c' q') (h : zm x * one64 = zm w * zm y) : ddiv x y = w := by
  have f1 := val64_fits x; have f2 := val64_fits y; have f3 := val64_fits w
  rw [hx] at f1; rw [hy] at f2; rw [hw] at f3
  have a1 := f1.2.1; have a2 := f2.2.1; have a3 := f3.2.1
  rw [qmin_b64] at a1 a2 a3
  have e1 : val64 (ddiv x y) = .fin s c' q' := by
    rw [val64_ddiv, hx, hy]; simp only [quotient]
    rw [if_neg hC, show (s != false) = s by cases s <;> rfl]
    refine roundRatio_exact good_b64 (Nat.pos_of_ne_zero hC) f3 ?_
    refine own_cancel (K := -2148 - Q) (by omega) (by omega) ?_
    unfold zm at h
    rw [hx, hy, hw] at h
    obtain ⟨N, hN, eN⟩ : ∃ N : Nat, N = 1074 ∧ one64 = 2 ^ N := ⟨1074, rfl, rfl⟩
    rw [eN] at h
    simp only [zmag, inUnits, qmin_b64] at h
    have l1 : 2 ^ (q - Q - (-2148 - Q)).toNat = 2 ^ (q - -1074).toNat * 2 ^ N := by clear h eN; exact own_pow (by omega)
    have l2 : 2 ^ (q' - (-2148 - Q)).toNat = 2 ^ (q' - -1074).toNat * 2 ^ (Q - -1074).toNat := by clear h eN; exact own_pow (by omega)
    rw [l1, l2]
    calc _ = c * 2 ^ (q - -1074).toNat * 2 ^ N := by ac_rfl
      _ = _ := by rw [h]; ac_rfl
  exact val64_inj (by rw [e1]; intro k; cases k) (e1.trans hw.symm)
abbrev nine : UInt64 := 4621256167635550208
abbrev uno : UInt64 := 4607182418800017408
abbrev two63 : UInt64 := 4890909195324358656
/-- what is known of s: nine times s is the exact number 9 k / 2^e -/
def Gs (s : UInt64) (k e : Nat) : Prop := Nn s ∧ Nn (dmul nine s) ∧ zm (dmul nine s) * 2 ^ e = 9 * k * one64
def own_ok (k e : Nat) : Bool :=
  match val64 (ddiv (l2d (Int64.ofNat k)) (l2d (Int64.ofNat (2 ^ e)))), val64 (dmul nine (ddiv (l2d (Int64.ofNat k)) (l2d (Int64.ofNat (2 ^ e))))) with
  | .fin false _ _, .fin false C Q => decide (C * 2 ^ (Q + 1074).toNat * 2 ^ e = 9 * k * 2 ^ 1074)
  | _, _ => false
set_option maxRecDepth 100000 in
theorem own_tab : ((List.range 2048).all fun k => k == 0 || (List.range 4).all fun e => own_ok k e) = true := by decide +kernel
theorem own_gs {k e : Nat} (h1 : 1 ≤ k) (h2 : k < 2048) (h3 : e < 4) : Gs (ddiv (l2d (Int64.ofNat k)) (l2d (Int64.ofNat (2 ^ e)))) k e := by
  have h := List.all_eq_true.mp own_tab k (List.mem_range.mpr h2)
  rw [Bool.or_eq_true] at h
  rcases h with h | h
  · simp at h; omega
  have h := List.all_eq_true.mp h e (List.mem_range.mpr h3)
  unfold own_ok at h
  unfold Gs Nn zm
  split at h
  · rename_i x1 x2 c q C Q e1 e2
    refine ⟨⟨_, _, e1⟩, ⟨_, _, e2⟩, ?_⟩
    rw [e2]
    simp only [zmag, inUnits, qmin_b64, one64]
    rw [show (Q - -1074) = Q + 1074 by omega]
    exact of_decide_eq_true h
  · cases h
theorem Gs.pos {s : UInt64} {k e : Nat} (g : Gs s k e) (hk : 1 ≤ k) : 0 < zm (dmul nine s) := by
  have h := g.2.2
  apply Nat.pos_of_ne_zero
  intro q
  rw [q, Nat.zero_mul] at h
  have := one64_pos
  have : 0 < 9 * k * one64 := Nat.mul_pos (by omega) this
  omega
theorem own_zuno : zm uno = one64 := by decide +kernel
theorem Gs.ge {s : UInt64} {k e : Nat} (g : Gs s k e) (hk : 1 ≤ k) (he : e < 4) : zm uno ≤ zm (dmul nine s) := by
  have h := g.2.2
  rw [own_zuno]
  have h8 : 2 ^ e ≤ 2 ^ 3 := Nat.pow_le_pow_right (by decide) (by omega)
  have h9 : zm (dmul nine s) * 2 ^ e ≤ zm (dmul nine s) * 2 ^ 3 := Nat.mul_le_mul_left _ h8
  have h10 : 9 * 1 * one64 ≤ 9 * k * one64 := Nat.mul_le_mul_right _ (by omega)
  generalize zm (dmul nine s) = z at *
  generalize one64 = o at *
  omega
/-- the answer -/
def rr (t : Int64) (s : UInt64) : UInt64 := ddiv uno (dadd uno (ddiv (l2d t) (dmul nine s)))
theorem own_nn1 : Nn uno := ⟨2 ^ 52, -52, by decide +kernel⟩
theorem own_nn63 : Nn two63 := ⟨2 ^ 52, 11, by decide +kernel⟩
theorem own_nn0 : Nn 0 := ⟨0, b64.qmin, by decide +kernel⟩
theorem own_p1 : 0 < zm uno := by rw [own_zuno]; exact one64_pos
theorem own_v0 : val64 0 = .fin false 0 b64.qmin := by decide +kernel
theorem own_e10 : dadd uno 0 = uno := by decide +kernel
theorem own_e11 : ddiv uno uno = uno := by decide +kernel
theorem own_e63 : ddiv two63 uno = two63 := by decide +kernel
theorem own_m63 : zm two63 < b64.tails * 2 ^ (b64.exps - 2) := by decide +kernel
theorem own_mW : zm (dadd uno two63) < b64.tails * 2 ^ (b64.exps - 2) := by decide +kernel
theorem own_nnW : Nn (dadd uno two63) := own_dadd_nn own_nn1 own_nn63 own_p1 (Nat.le_refl _) own_mW
theorem own_pW : 0 < zm (ddiv uno (dadd uno two63)) := by decide +kernel
theorem own_m1 : zm uno < b64.tails * 2 ^ (b64.exps - 2) := by decide +kernel
theorem own_div0 {y : UInt64} (hy : Nn y) (p : 0 < zm y) : ddiv 0 y = 0 := by
  obtain ⟨C, Q, e⟩ := hy
  have hC : C ≠ 0 := by intro k; subst k; unfold zm at p; rw [e] at p; simp [zmag, inUnits] at p
  refine own_exact own_v0 e hC own_v0 ?_
  have : zm 0 = 0 := by decide +kernel
  rw [this, Nat.zero_mul, Nat.zero_mul]
theorem own_nans {t : Int64} {s : UInt64} {k e : Nat} (g : Gs s k e) (hk : 1 ≤ k) : dIsNaN (dmul nine s) = false ∧ dIsNaN (ddiv (l2d t) (dmul nine s)) = false ∧ dIsNaN (dadd uno (ddiv (l2d t) (dmul nine s))) = false ∧ dIsNaN (rr t s) = false := by
  have a1 := (notNaN_iff _).mpr g.2.1.num
  have a2 : dIsNaN (ddiv (l2d t) (dmul nine s)) = false := ddiv_out (l2d_notNaN t) g.2.1.fin (g.2.1.nz (g.pos hk))
  have a3 : dIsNaN (dadd uno (ddiv (l2d t) (dmul nine s))) = false := dadd_out' own_nn1.fin a2
  exact ⟨a1, a2, a3, ddiv_out' own_nn1.fin (own_nn1.nz own_p1) a3⟩
theorem own_rr0 {s : UInt64} {k e : Nat} (g : Gs s k e) (hk : 1 ≤ k) : rr 0 s = uno := by
  unfold rr; rw [l2d_zero, own_div0 g.2.1 (g.pos hk), own_e10, own_e11]
theorem own_zl {a : Int64} (h : a.toInt.natAbs ≤ 2 ^ 53) : zm (l2d a) = a.toInt.natAbs * one64 := by
  have := congrArg Int.natAbs (DInt_zval (l2d_int h))
  rw [Int.natAbs_mul, Int.natAbs_natCast] at this
  rw [← this]
  exact (natAbs_signed _ _).symm
theorem own_rrm {s : UInt64} {k e : Nat} {m : Int} {t w : Int64} (g : Gs s k e) (hk : 1 ≤ k) (ht : t.toInt = 9 * (k : Int) * m) (hw : w.toInt = m * ((2 ^ e : Nat) : Int)) (bt : t.toInt.natAbs ≤ 2 ^ 53) (bw : w.toInt.natAbs ≤ 2 ^ 53) : rr t s = ddiv uno (dadd uno (l2d w)) := by
  unfold rr
  congr 2
  by_cases hm : m = 0
  · subst hm
    have e1 : t = 0 := Int64.toInt_inj.mp (by rw [ht, Int.mul_zero]; rfl)
    have e2 : w = 0 := Int64.toInt_inj.mp (by rw [hw, Int.zero_mul]; rfl)
    rw [e1, e2, l2d_zero, own_div0 g.2.1 (g.pos hk)]
  · obtain ⟨c, q, e1⟩ := l2d_shape t
    obtain ⟨c', q', e2⟩ := l2d_shape w
    have hs : decide (w.toInt < 0) = decide (t.toInt < 0) := by
      have p2 : (0 : Int) < ((2 ^ e : Nat) : Int) := by have := Nat.two_pow_pos e; omega
      have pk : (0 : Int) < 9 * (k : Int) := by omega
      rw [ht, hw]
      congr 1
      rw [eq_iff_iff]
      constructor
      · intro q
        have : m < 0 := by
          apply Classical.byContradiction; intro r
          have := Int.mul_nonneg (Int.not_lt.mp r) (Int.le_of_lt p2); omega
        exact Int.mul_neg_of_pos_of_neg pk this
      · intro q
        have : m < 0 := by
          apply Classical.byContradiction; intro r
          have := Int.mul_nonneg (Int.le_of_lt pk) (Int.not_lt.mp r); omega
        exact Int.mul_neg_of_neg_of_pos this p2
    rw [hs] at e2
    have hp := g.pos hk
    have hz := g.2.2
    obtain ⟨C, Q, e3⟩ := g.2.1
    have hC : C ≠ 0 := by intro k; subst k; unfold zm at hp; rw [e3] at hp; simp [zmag, inUnits] at hp
    refine own_exact e1 e3 hC e2 ?_
    have z1 : t.toInt.natAbs = 9 * k * m.natAbs := by rw [ht, Int.natAbs_mul, Int.natAbs_mul]; rfl
    have z2 : w.toInt.natAbs = m.natAbs * 2 ^ e := by rw [hw, Int.natAbs_mul, Int.natAbs_natCast]
    rw [own_zl bt, own_zl bw, z1, z2]
    generalize zm (dmul nine s) = z at hz ⊢
    generalize one64 = o at hz ⊢
    calc _ = m.natAbs * o * (9 * k * o) := by ac_rfl
      _ = _ := by rw [← hz]; ac_rfl
/-- the parts of the answer, in order -/
theorem own_x {t : Int64} {s : UInt64} {k e : Nat} (g : Gs s k e) (hk : 1 ≤ k) (he : e < 4) (ht : 0 ≤ t.toInt) : Nn (ddiv (l2d t) (dmul nine s)) ∧ zm (ddiv (l2d t) (dmul nine s)) ≤ zm two63 := by
  have h1 : zm (l2d t) ≤ zm two63 := by
    have ho := one64_pos
    have := l2d_zval_le (n := t) (V := two63) own_nn63.num (by
      rw [zval_d2l_hi]
      have := Int64.toInt_lt t
      exact Int.mul_le_mul_of_nonneg_right (by omega) (by omega))
    rw [(own_l2d_nn ht).zval, own_nn63.zval] at this
    omega
  have h2 := own_ddiv_mono (own_l2d_nn ht) g.2.1 own_nn63 own_nn1 (g.pos hk) own_p1 (Nat.mul_le_mul h1 (g.ge hk he))
  rw [own_e63] at h2
  exact ⟨own_ddiv_nn (own_l2d_nn ht) g.2.1 (g.pos hk) h2 own_m63, h2⟩
theorem own_y {x : UInt64} (hx : Nn x) (h : zm x ≤ zm two63) : Nn (dadd uno x) ∧ zm (dadd uno x) ≤ zm (dadd uno two63) ∧ zm uno ≤ zm (dadd uno x) := by
  have h1 := own_dadd_mono own_nn1 hx own_nn63 own_p1 h
  have h2 := own_dadd_mono own_nn1 own_nn0 hx own_p1 (show zm 0 ≤ zm x by rw [show zm 0 = 0 by decide +kernel]; exact Nat.zero_le _)
  rw [own_e10] at h2
  exact ⟨own_dadd_nn own_nn1 hx own_p1 h1 own_mW, h1, h2⟩
theorem own_r {y : UInt64} (hy : Nn y) (h : zm y ≤ zm (dadd uno two63)) (h' : zm uno ≤ zm y) : Nn (ddiv uno y) ∧ 0 < zm (ddiv uno y) ∧ zm (ddiv uno y) ≤ zm uno := by
  have p : 0 < zm y := Nat.lt_of_lt_of_le own_p1 h'
  have h1 := own_ddiv_mono own_nn1 hy own_nn1 own_nn1 p own_p1 (Nat.mul_le_mul_left _ h')
  rw [own_e11] at h1
  have h2 := own_ddiv_mono own_nn1 own_nnW own_nn1 hy (Nat.lt_of_lt_of_le p h) p (Nat.mul_le_mul_left _ h)
  exact ⟨own_ddiv_nn own_nn1 hy p h1 own_m1, Nat.lt_of_lt_of_le own_pW h2, h1⟩
theorem own_rr {t : Int64} {s : UInt64} {k e : Nat} (g : Gs s k e) (hk : 1 ≤ k) (he : e < 4) (ht : 0 ≤ t.toInt) : Nn (rr t s) ∧ 0 < zm (rr t s) ∧ zm (rr t s) ≤ zm uno := by
  obtain ⟨a1, a2⟩ := own_x g hk he ht
  obtain ⟨b1, b2, b3⟩ := own_y a1 a2
  exact own_r b1 b2 b3
theorem own_anti {x x' : UInt64} (hx : Nn x) (h : zm x ≤ zm two63) (hx' : Nn x') (h' : zm x' ≤ zm two63) (k : zm x ≤ zm x') : zm (ddiv uno (dadd uno x')) ≤ zm (ddiv uno (dadd uno x)) := by
  obtain ⟨b1, b2, b3⟩ := own_y hx h
  obtain ⟨c1, c2, c3⟩ := own_y hx' h'
  exact own_ddiv_mono own_nn1 c1 own_nn1 b1 (Nat.lt_of_lt_of_le own_p1 c3) (Nat.lt_of_lt_of_le own_p1 b3) (Nat.mul_le_mul_left _ (own_dadd_mono own_nn1 hx hx' own_p1 k))
theorem own_rr_t {t t' : Int64} {s : UInt64} {k e : Nat} (g : Gs s k e) (hk : 1 ≤ k) (he : e < 4) (ht : 0 ≤ t.toInt) (h : t.toInt ≤ t'.toInt) : zm (rr t' s) ≤ zm (rr t s) := by
  have ht' : 0 ≤ t'.toInt := Int.le_trans ht h
  obtain ⟨a1, a2⟩ := own_x g hk he ht
  obtain ⟨b1, b2⟩ := own_x g hk he ht'
  exact own_anti a1 a2 b1 b2 (own_ddiv_mono (own_l2d_nn ht) g.2.1 (own_l2d_nn ht') g.2.1 (g.pos hk) (g.pos hk) (Nat.mul_le_mul_right _ (own_l2d_mono ht h)))
theorem own_rr_s {t : Int64} {s s' : UInt64} {k k' e : Nat} (g : Gs s k e) (g' : Gs s' k' e) (hk : 1 ≤ k) (he : e < 4) (ht : 0 ≤ t.toInt) (h : k ≤ k') : zm (rr t s) ≤ zm (rr t s') := by
  have hk' : 1 ≤ k' := Nat.le_trans hk h
  obtain ⟨a1, a2⟩ := own_x g hk he ht
  obtain ⟨b1, b2⟩ := own_x g' hk' he ht
  have hN : zm (dmul nine s) ≤ zm (dmul nine s') := by
    have h1 := g.2.2; have h2 := g'.2.2
    have h3 : 9 * k * one64 ≤ 9 * k' * one64 := Nat.mul_le_mul_right _ (by omega)
    rw [← h1, ← h2] at h3
    exact Nat.le_of_mul_le_mul_right h3 (Nat.two_pow_pos e)
  exact own_anti b1 b2 a1 a2 (own_ddiv_mono (own_l2d_nn ht) g'.2.1 (own_l2d_nn ht) g.2.1 (g'.pos hk') (g.pos hk) (Nat.mul_le_mul_left _ hN))
theorem own_ceq {x y : UInt64} (e : x = y) (h : dIsNaN x = false) : Jvm.Op.cmpValue (Jvm.FP.dcmp x y) .l = (0 : Int32) := by
  subst e
  have : Jvm.FP.dcmp x x = some .eq := dcmp_refl h
  rw [this]; rfl
theorem own_clt {x y : UInt64} (hx : Nn x) (hy : Nn y) (h : zm x < zm y) : Jvm.Op.cmpValue (Jvm.FP.dcmp x y) .g < (0 : Int32) := by
  have e : Jvm.FP.dcmp x y = _ := dcmp_zval hx.num hy.num
  rw [e, hx.zval, hy.zval, compare_ite, if_pos (by omega)]; decide
theorem own_cle {x y : UInt64} (hx : Nn x) (hy : Nn y) (h : zm x ≤ zm y) : ¬ (0 : Int32) < Jvm.Op.cmpValue (Jvm.FP.dcmp x y) .g := by
  have e : Jvm.FP.dcmp x y = _ := dcmp_zval hx.num hy.num
  rw [e, hx.zval, hy.zval, compare_ite]
  by_cases q : zm x < zm y
  · rw [if_pos (by omega)]; decide
  · rw [if_neg (by omega), if_pos (by omega)]; decide
end Jvm.OwnF

namespace Jvm.Pilot.@@N@@
open Jvm Jvm.ClassFile Sem Op Lib Jvm.Free Jvm.Stand Jvm.LawKit Jvm.RoadKit Bundle Jvm.OwnW Jvm.OwnF Jvm.Pilot.@@N@@.Jvm.D

abbrev M_rt : MD := ((⟨"com/example/lexrep/lexrep/model/Fsrs", "retrievability", "(JD)D"⟩ : MethodName), prog_25_method_8_code, 4, (some .double), { frames := 0, cells := 0, slots := 0, locals := 0 })
theorem d_rt_0 : decode prog_25_method_8_code 0 = .ok (.dconst 1, 1) := by decide +kernel
theorem d_rt_1 : decode prog_25_method_8_code 1 = .ok (.dconst 1, 1) := by decide +kernel
theorem d_rt_2 : decode prog_25_method_8_code 2 = .ok (.lload_n 0, 1) := by decide +kernel
theorem d_rt_3 : decode prog_25_method_8_code 3 = .ok (.l2d, 1) := by decide +kernel
theorem d_rt_4 : decode prog_25_method_8_code 4 = .ok (.ldc2_w 84, 3) := by decide +kernel
theorem d_rt_7 : decode prog_25_method_8_code 7 = .ok (.dload_n 2, 1) := by decide +kernel
theorem d_rt_8 : decode prog_25_method_8_code 8 = .ok (.dmul, 1) := by decide +kernel
theorem d_rt_9 : decode prog_25_method_8_code 9 = .ok (.ddiv, 1) := by decide +kernel
theorem d_rt_10 : decode prog_25_method_8_code 10 = .ok (.dadd, 1) := by decide +kernel
theorem d_rt_11 : decode prog_25_method_8_code 11 = .ok (.ddiv, 1) := by decide +kernel
theorem d_rt_12 : decode prog_25_method_8_code 12 = .ok (.dreturn, 1) := by decide +kernel
theorem pd_rt : parseMethodDescriptor "(JD)D" = some ⟨[.long, .double], (some .double)⟩ := by decide +kernel
theorem pf_rt : plainFor (⟨"com/example/lexrep/lexrep/model/Fsrs", "retrievability", "(JD)D"⟩ : MethodName) = true := by first | exact plainFor_of_name (by first | (simp [plainName, overriddenIn]; done) | decide +kernel) | decide +kernel
theorem nn {x : UInt64} (h : FP.Core.dIsNaN x = false) : Jvm.Free.Fl.NoNaN64 x := Jvm.Free.Fl.noNaN64_no.mpr h
set_option maxRecDepth 65536 in
set_option maxHeartbeats 40000000 in
theorem kw_rt (l : Launch) (Z : State) (a0 : Array Value) (hw : ∀ d ∈ tables_1, d.before a0 Z = true) (t : Int64) (s : UInt64) (h0 : Heap) (n0 : Nat) (q1 : FP.Core.dIsNaN (FP.dmul nine s) = false) (q2 : FP.Core.dIsNaN (FP.ddiv (FP.l2d t) (FP.dmul nine s)) = false) (q3 : FP.Core.dIsNaN (FP.dadd uno (FP.ddiv (FP.l2d t) (FP.dmul nine s))) = false) (q4 : FP.Core.dIsNaN (rr t s) = false) : KW false l Z M_rt n0 (fun v h => v = some (.double (rr t s)) ∧ h0 = h) ([], fun _ => False) h0 0 0 0 #[.val (.long t), .second, .val (.double s), .second] [] := by
  refine k_dconst1 d_rt_0 rfl ?_
  refine k_dconst1 d_rt_1 rfl ?_
  refine k_lloadN d_rt_2 rfl rfl ?_
  refine k_l2d d_rt_3 rfl ?_
  refine k_ldc2D d_rt_4 rfl (hw _ (List.mem_of_getElem? (i := 4) rfl)) ?_
  refine k_dloadN d_rt_7 rfl rfl ?_
  refine k_dmul d_rt_8 rfl (nn q1) ?_
  refine k_ddiv d_rt_9 rfl (nn q2) ?_
  refine k_dadd d_rt_10 rfl (nn q3) ?_
  refine k_ddiv d_rt_11 rfl (nn q4) ?_
  exact k_retDouble d_rt_12 rfl (by decide) (by decide) ⟨rfl, rfl⟩
theorem mt_rt (l : Launch) (Z : State) (a0 : Array Value) (hw : ∀ d ∈ tables_1, d.before a0 Z = true) (t : Int64) (s : UInt64) (h0 : Heap) (n0 : Nat) (q1 : FP.Core.dIsNaN (FP.dmul nine s) = false) (q2 : FP.Core.dIsNaN (FP.ddiv (FP.l2d t) (FP.dmul nine s)) = false) (q3 : FP.Core.dIsNaN (FP.dadd uno (FP.ddiv (FP.l2d t) (FP.dmul nine s))) = false) (q4 : FP.Core.dIsNaN (rr t s) = false) : Mt l Z M_rt [] n0 #[(.long t), (.double s)] h0 (fun v h => v = some (.double (rr t s)) ∧ h0 = h) :=
  mt_of_kw (P := ([], fun _ => False)) pf_rt (fun m => by first | (simp [entryFrame, mkF, argsToLocals, Value.category]; done) | rfl) (kw_rt l Z a0 hw t s h0 n0 q1 q2 q3 q4)
theorem mt_rtg (l : Launch) (Z : State) (a0 : Array Value) (hw : ∀ d ∈ tables_1, d.before a0 Z = true) (t : Int64) (s : UInt64) (h0 : Heap) (n0 : Nat) {k e : Nat} (g : Gs s k e) (hk : 1 ≤ k) : Mt l Z M_rt [] n0 #[.long t, .double s] h0 (fun v h => v = some (.double (rr t s)) ∧ h0 = h) :=
  mt_rt l Z a0 hw t s h0 n0 (own_nans (t := t) g hk).1 (own_nans g hk).2.1 (own_nans g hk).2.2.1 (own_nans g hk).2.2.2
def lmin (a b : Int64) : Int64 := if b < a then b else a
def lmax (a b : Int64) : Int64 := if a < b then b else a
theorem lmm {a b : Int64} (ha : 0 ≤ a.toInt) (hb : 0 ≤ b.toInt) : 0 ≤ (lmin a b).toInt ∧ (lmin a b).toInt ≤ (lmax a b).toInt := by
  unfold lmin lmax
  simp only [Int64.lt_iff_toInt_lt]
  split <;> split <;> omega
theorem lmask (a : Int64) : 0 ≤ (a &&& (9223372036854775807 : Int64)).toInt := by
  have h : ((a &&& (9223372036854775807 : Int64)).toBitVec).msb = false := by
    rw [Int64.toBitVec_and, BitVec.msb_and]
    have : ((9223372036854775807 : Int64).toBitVec).msb = false := by decide
    rw [this, Bool.and_false]
  show 0 ≤ ((a &&& (9223372036854775807 : Int64)).toBitVec).toInt
  exact BitVec.toInt_nonneg_of_msb_false h
abbrev M_min : MD := ((⟨"java/lang/Math", "min", "(JJ)J"⟩ : MethodName), jdk_29_method_70_code, 4, (some .long), { frames := 0, cells := 0, slots := 0, locals := 0 })
theorem d_min_0 : decode jdk_29_method_70_code 0 = .ok (.lload_n 0, 1) := by decide +kernel
theorem d_min_1 : decode jdk_29_method_70_code 1 = .ok (.lload_n 2, 1) := by decide +kernel
theorem d_min_2 : decode jdk_29_method_70_code 2 = .ok (.lcmp, 1) := by decide +kernel
theorem d_min_3 : decode jdk_29_method_70_code 3 = .ok (.ifCond .gt 7, 3) := by decide +kernel
theorem d_min_6 : decode jdk_29_method_70_code 6 = .ok (.lload_n 0, 1) := by decide +kernel
theorem d_min_7 : decode jdk_29_method_70_code 7 = .ok (.goto 4, 3) := by decide +kernel
theorem d_min_10 : decode jdk_29_method_70_code 10 = .ok (.lload_n 2, 1) := by decide +kernel
theorem d_min_11 : decode jdk_29_method_70_code 11 = .ok (.lreturn, 1) := by decide +kernel
theorem pd_min : parseMethodDescriptor "(JJ)J" = some ⟨[.long, .long], (some .long)⟩ := by decide +kernel
theorem pf_min : plainFor (⟨"java/lang/Math", "min", "(JJ)J"⟩ : MethodName) = true := by first | exact plainFor_of_name (by first | (simp [plainName, overriddenIn]; done) | decide +kernel) | decide +kernel
set_option maxRecDepth 65536 in
set_option maxHeartbeats 40000000 in
theorem kw_min (l : Launch) (Z : State) (a0 : Array Value) (hw : ∀ d ∈ tables_1, d.before a0 Z = true) (a b : Int64) (h0 : Heap) (n0 : Nat) : KW false l Z M_min n0 (fun v h => v = some (.long (lmin a b)) ∧ h0 = h) ([], fun _ => False) h0 0 0 0 #[.val (.long a), .second, .val (.long b), .second] [] := by
  refine k_lloadN d_min_0 rfl rfl ?_
  refine k_lloadN d_min_1 rfl rfl ?_
  refine k_lcmpIf (pc' := 3) (pc1 := 10) (pc2 := 6) d_min_2 rfl d_min_3 (by decide) (by decide) rfl (fun (cd1 : b < a) => ?_) (fun (cd1 : ¬ b < a) => ?_)
  · skip
    refine k_lloadN d_min_10 rfl rfl ?_
    exact k_retLong d_min_11 rfl (by decide) (by decide) ⟨by unfold lmin; repeat (first | rfl | contradiction | split), rfl⟩
  · skip
    refine k_lloadN d_min_6 rfl rfl ?_
    refine k_goto (pc' := 11) d_min_7 (by decide) (by decide) ?_
    exact k_retLong d_min_11 rfl (by decide) (by decide) ⟨by unfold lmin; repeat (first | rfl | contradiction | split), rfl⟩
theorem mt_min (l : Launch) (Z : State) (a0 : Array Value) (hw : ∀ d ∈ tables_1, d.before a0 Z = true) (a b : Int64) (h0 : Heap) (n0 : Nat) : Mt l Z M_min [] n0 #[(.long a), (.long b)] h0 (fun v h => v = some (.long (lmin a b)) ∧ h0 = h) :=
  mt_of_kw (P := ([], fun _ => False)) pf_min (fun m => by first | (simp [entryFrame, mkF, argsToLocals, Value.category]; done) | rfl) (kw_min l Z a0 hw a b h0 n0)
abbrev M_max : MD := ((⟨"java/lang/Math", "max", "(JJ)J"⟩ : MethodName), jdk_29_method_66_code, 4, (some .long), { frames := 0, cells := 0, slots := 0, locals := 0 })
theorem d_max_0 : decode jdk_29_method_66_code 0 = .ok (.lload_n 0, 1) := by decide +kernel
theorem d_max_1 : decode jdk_29_method_66_code 1 = .ok (.lload_n 2, 1) := by decide +kernel
theorem d_max_2 : decode jdk_29_method_66_code 2 = .ok (.lcmp, 1) := by decide +kernel
theorem d_max_3 : decode jdk_29_method_66_code 3 = .ok (.ifCond .lt 7, 3) := by decide +kernel
theorem d_max_6 : decode jdk_29_method_66_code 6 = .ok (.lload_n 0, 1) := by decide +kernel
theorem d_max_7 : decode jdk_29_method_66_code 7 = .ok (.goto 4, 3) := by decide +kernel
theorem d_max_10 : decode jdk_29_method_66_code 10 = .ok (.lload_n 2, 1) := by decide +kernel
theorem d_max_11 : decode jdk_29_method_66_code 11 = .ok (.lreturn, 1) := by decide +kernel
theorem pd_max : parseMethodDescriptor "(JJ)J" = some ⟨[.long, .long], (some .long)⟩ := by decide +kernel
theorem pf_max : plainFor (⟨"java/lang/Math", "max", "(JJ)J"⟩ : MethodName) = true := by first | exact plainFor_of_name (by first | (simp [plainName, overriddenIn]; done) | decide +kernel) | decide +kernel
set_option maxRecDepth 65536 in
set_option maxHeartbeats 40000000 in
theorem kw_max (l : Launch) (Z : State) (a0 : Array Value) (hw : ∀ d ∈ tables_1, d.before a0 Z = true) (a b : Int64) (h0 : Heap) (n0 : Nat) : KW false l Z M_max n0 (fun v h => v = some (.long (lmax a b)) ∧ h0 = h) ([], fun _ => False) h0 0 0 0 #[.val (.long a), .second, .val (.long b), .second] [] := by
  refine k_lloadN d_max_0 rfl rfl ?_
  refine k_lloadN d_max_1 rfl rfl ?_
  refine k_lcmpIf (pc' := 3) (pc1 := 10) (pc2 := 6) d_max_2 rfl d_max_3 (by decide) (by decide) rfl (fun (cd1 : a < b) => ?_) (fun (cd1 : ¬ a < b) => ?_)
  · skip
    refine k_lloadN d_max_10 rfl rfl ?_
    exact k_retLong d_max_11 rfl (by decide) (by decide) ⟨by unfold lmax; repeat (first | rfl | contradiction | split), rfl⟩
  · skip
    refine k_lloadN d_max_6 rfl rfl ?_
    refine k_goto (pc' := 11) d_max_7 (by decide) (by decide) ?_
    exact k_retLong d_max_11 rfl (by decide) (by decide) ⟨by unfold lmax; repeat (first | rfl | contradiction | split), rfl⟩
theorem mt_max (l : Launch) (Z : State) (a0 : Array Value) (hw : ∀ d ∈ tables_1, d.before a0 Z = true) (a b : Int64) (h0 : Heap) (n0 : Nat) : Mt l Z M_max [] n0 #[(.long a), (.long b)] h0 (fun v h => v = some (.long (lmax a b)) ∧ h0 = h) :=
  mt_of_kw (P := ([], fun _ => False)) pf_max (fun m => by first | (simp [entryFrame, mkF, argsToLocals, Value.category]; done) | rfl) (kw_max l Z a0 hw a b h0 n0)
abbrev M_law : MD := (x, code, maxLocals, ret, room_1)
theorem pd_law : parseMethodDescriptor "(JJIIII)Z" = some ⟨[.long, .long, .int, .int, .int, .int], (some .boolean)⟩ := by decide +kernel
theorem pf_law : plainFor (⟨"com/example/lexrep/lexrep/model/FsrsRetrievabilityPinLaw", "law", "(JJIIII)Z"⟩ : MethodName) = true := by first | exact plainFor_of_name (by first | (simp [plainName, overriddenIn]; done) | decide +kernel) | decide +kernel
set_option maxRecDepth 65536 in
set_option maxHeartbeats 40000000 in
theorem kw_law (l : Launch) (Z : State) (a0 : Array Value) (hw : ∀ d ∈ tables_1, d.before a0 Z = true) (a b : Int64) (m k c e : Int32) (h0 : Heap) (n0 : Nat) (K K2 E : Nat) (hk : 1 ≤ K) (hK : K < 2048) (hk2 : 1 ≤ K2) (hK2 : K2 < 2048) (hkk : K ≤ K2) (hE : E < 4) (ek : (Int32.toInt64 ((k &&& (1023 : Int32)) + (1 : Int32))) = Int64.ofNat K) (ek2 : ((Int32.toInt64 ((k &&& (1023 : Int32)) + (1 : Int32))) + (Int32.toInt64 (c &&& (1023 : Int32)))) = Int64.ofNat K2) (ed : ((1 : Int64) <<< Int32.toInt64 ((e &&& (3 : Int32)) &&& 63)) = Int64.ofNat (2 ^ E)) (et : Int64.toInt (((9 : Int64) * (Int32.toInt64 ((k &&& (1023 : Int32)) + (1 : Int32)))) * (Int32.toInt64 m)) = 9 * (K : Int) * m.toInt) (ew : Int64.toInt (Int32.toInt64 m * ((1 : Int64) <<< Int32.toInt64 ((e &&& (3 : Int32)) &&& 63))) = m.toInt * ((2 ^ E : Nat) : Int)) (bt : (Int64.toInt (((9 : Int64) * (Int32.toInt64 ((k &&& (1023 : Int32)) + (1 : Int32)))) * (Int32.toInt64 m))).natAbs ≤ 2 ^ 53) (bw : (Int64.toInt (Int32.toInt64 m * ((1 : Int64) <<< Int32.toInt64 ((e &&& (3 : Int32)) &&& 63)))).natAbs ≤ 2 ^ 53) : KW false l Z M_law n0 (fun v _ => v = some (.int 1)) ([], fun _ => False) h0 0 0 0 #[.val (.long a), .second, .val (.long b), .second, .val (.int m), .val (.int k), .val (.int c), .val (.int e), .unset, .unset, .unset, .unset, .unset, .unset, .unset, .unset, .unset, .unset, .unset, .unset, .unset, .unset, .unset, .unset, .unset, .unset, .unset, .unset, .unset, .unset, .unset, .unset, .unset, .unset, .unset, .unset, .unset] [] := by
  have G : Gs (FP.ddiv (FP.l2d (Int32.toInt64 ((k &&& (1023 : Int32)) + (1 : Int32)))) (FP.l2d ((1 : Int64) <<< Int32.toInt64 ((e &&& (3 : Int32)) &&& 63)))) K E := by show Gs (FP.Core.ddiv (FP.Core.l2d (Int32.toInt64 ((k &&& (1023 : Int32)) + (1 : Int32)))) (FP.Core.l2d ((1 : Int64) <<< Int32.toInt64 ((e &&& (3 : Int32)) &&& 63)))) K E; rw [ek, ed]; exact own_gs hk hK hE
  have G2 : Gs (FP.ddiv (FP.l2d ((Int32.toInt64 ((k &&& (1023 : Int32)) + (1 : Int32))) + (Int32.toInt64 (c &&& (1023 : Int32))))) (FP.l2d ((1 : Int64) <<< Int32.toInt64 ((e &&& (3 : Int32)) &&& 63)))) K2 E := by show Gs (FP.Core.ddiv (FP.Core.l2d ((Int32.toInt64 ((k &&& (1023 : Int32)) + (1 : Int32))) + (Int32.toInt64 (c &&& (1023 : Int32))))) (FP.Core.l2d ((1 : Int64) <<< Int32.toInt64 ((e &&& (3 : Int32)) &&& 63)))) K2 E; rw [ek2, ed]; exact own_gs hk2 hK2 hE
  have EM : rr (((9 : Int64) * (Int32.toInt64 ((k &&& (1023 : Int32)) + (1 : Int32)))) * (Int32.toInt64 m)) (FP.ddiv (FP.l2d (Int32.toInt64 ((k &&& (1023 : Int32)) + (1 : Int32)))) (FP.l2d ((1 : Int64) <<< Int32.toInt64 ((e &&& (3 : Int32)) &&& 63)))) = (FP.ddiv (4607182418800017408 : UInt64) (FP.dadd (4607182418800017408 : UInt64) (FP.l2d ((Int32.toInt64 m) * ((1 : Int64) <<< Int32.toInt64 ((e &&& (3 : Int32)) &&& 63)))))) := own_rrm (m := m.toInt) G hk et ew bt bw
  have LM := lmm (lmask a) (lmask b)
  have RL := own_rr (t := (lmin (a &&& (9223372036854775807 : Int64)) (b &&& (9223372036854775807 : Int64)))) G hk hE LM.1
  have RH := own_rr (t := (lmax (a &&& (9223372036854775807 : Int64)) (b &&& (9223372036854775807 : Int64)))) G hk hE (Int.le_trans LM.1 LM.2)
  have R2 := own_rr (t := (lmax (a &&& (9223372036854775807 : Int64)) (b &&& (9223372036854775807 : Int64)))) G2 hk2 hE (Int.le_trans LM.1 LM.2)
  have RLH := own_rr_t G hk hE LM.1 LM.2
  have RS := own_rr_s (t := (lmax (a &&& (9223372036854775807 : Int64)) (b &&& (9223372036854775807 : Int64)))) G G2 hk hE (Int.le_trans LM.1 LM.2) hkk
  have NE1 : FP.Core.dIsNaN (FP.dadd uno (FP.l2d (Int32.toInt64 m * ((1 : Int64) <<< Int32.toInt64 ((e &&& (3 : Int32)) &&& 63))))) = false := FP.Core.dadd_out' own_nn1.fin (FP.Core.l2d_notNaN _)
  have NE2 : FP.Core.dIsNaN (FP.ddiv (4607182418800017408 : UInt64) (FP.dadd (4607182418800017408 : UInt64) (FP.l2d ((Int32.toInt64 m) * ((1 : Int64) <<< Int32.toInt64 ((e &&& (3 : Int32)) &&& 63)))))) = false := FP.Core.ddiv_out' own_nn1.fin (own_nn1.nz own_p1) NE1
  refine k_iload at_0 rfl rfl ?_
  refine k_sipush (z := (1023 : Int32)) at_2 rfl (by decide) ?_
  refine k_iand at_5 rfl ?_
  refine k_iconst (z := (1 : Int32)) at_6 rfl (by decide) ?_
  refine k_iadd at_7 rfl ?_
  refine k_i2l at_8 rfl ?_
  refine k_lstore (Ls' := #[.val (.long a), .second, .val (.long b), .second, .val (.int m), .val (.int k), .val (.int c), .val (.int e), .val (.long (Int32.toInt64 ((k &&& (1023 : Int32)) + (1 : Int32)))), .second, .unset, .unset, .unset, .unset, .unset, .unset, .unset, .unset, .unset, .unset, .unset, .unset, .unset, .unset, .unset, .unset, .unset, .unset, .unset, .unset, .unset, .unset, .unset, .unset, .unset, .unset, .unset]) at_9 rfl rfl ?_
  refine k_lconst (z := (1 : Int64)) at_11 rfl (by decide) ?_
  refine k_iload at_12 rfl rfl ?_
  refine k_iconst (z := (3 : Int32)) at_14 rfl (by decide) ?_
  refine k_iand at_15 rfl ?_
  refine k_lshl at_16 rfl ?_
  refine k_lstore (Ls' := #[.val (.long a), .second, .val (.long b), .second, .val (.int m), .val (.int k), .val (.int c), .val (.int e), .val (.long (Int32.toInt64 ((k &&& (1023 : Int32)) + (1 : Int32)))), .second, .val (.long ((1 : Int64) <<< Int32.toInt64 ((e &&& (3 : Int32)) &&& 63))), .second, .unset, .unset, .unset, .unset, .unset, .unset, .unset, .unset, .unset, .unset, .unset, .unset, .unset, .unset, .unset, .unset, .unset, .unset, .unset, .unset, .unset, .unset, .unset, .unset, .unset]) at_17 rfl rfl ?_
  refine k_lload at_19 rfl rfl ?_
  refine k_l2d at_21 rfl ?_
  refine k_lload at_22 rfl rfl ?_
  refine k_l2d at_24 rfl ?_
  refine k_ddiv at_25 rfl (nn ((FP.Core.notNaN_iff _).mpr G.1.num)) ?_
  refine k_dstore (Ls' := #[.val (.long a), .second, .val (.long b), .second, .val (.int m), .val (.int k), .val (.int c), .val (.int e), .val (.long (Int32.toInt64 ((k &&& (1023 : Int32)) + (1 : Int32)))), .second, .val (.long ((1 : Int64) <<< Int32.toInt64 ((e &&& (3 : Int32)) &&& 63))), .second, .val (.double (FP.ddiv (FP.l2d (Int32.toInt64 ((k &&& (1023 : Int32)) + (1 : Int32)))) (FP.l2d ((1 : Int64) <<< Int32.toInt64 ((e &&& (3 : Int32)) &&& 63))))), .second, .unset, .unset, .unset, .unset, .unset, .unset, .unset, .unset, .unset, .unset, .unset, .unset, .unset, .unset, .unset, .unset, .unset, .unset, .unset, .unset, .unset, .unset, .unset]) at_26 rfl rfl ?_
  refine k_lconst (z := (0 : Int64)) at_28 rfl (by decide) ?_
  refine k_dload at_29 rfl rfl ?_
  refine k_callStatic (W0 := 0) (argsL := [(.long (0 : Int64)), (.double (FP.ddiv (FP.l2d (Int32.toInt64 ((k &&& (1023 : Int32)) + (1 : Int32)))) (FP.l2d ((1 : Int64) <<< Int32.toInt64 ((e &&& (3 : Int32)) &&& 63)))))]) (rest := []) at_31 rfl (mt_rtg l Z a0 hw (0 : Int64) (FP.ddiv (FP.l2d (Int32.toInt64 ((k &&& (1023 : Int32)) + (1 : Int32)))) (FP.l2d ((1 : Int64) <<< Int32.toInt64 ((e &&& (3 : Int32)) &&& 63)))) h0 n0 G hk) Kp.strict (hw _ (List.mem_of_getElem? (i := 0) rfl)) (hw _ (List.mem_of_getElem? (i := 1) rfl)) (hw _ (List.mem_of_getElem? (i := 2) rfl)) (hw _ (List.mem_of_getElem? (i := 3) rfl)) (by decide) pd_rt rfl rfl rfl rfl (by decide) (by decide) (by decide) (by decide) ?_
  rintro _ _ - ⟨rfl, rfl⟩
  refine KW.any (P' := ([], fun _ => False)) ?_
  show KW false l Z M_law n0 (fun v _ => v = some (.int 1)) ([], fun _ => False) h0 0 0 34 #[.val (.long a), .second, .val (.long b), .second, .val (.int m), .val (.int k), .val (.int c), .val (.int e), .val (.long (Int32.toInt64 ((k &&& (1023 : Int32)) + (1 : Int32)))), .second, .val (.long ((1 : Int64) <<< Int32.toInt64 ((e &&& (3 : Int32)) &&& 63))), .second, .val (.double (FP.ddiv (FP.l2d (Int32.toInt64 ((k &&& (1023 : Int32)) + (1 : Int32)))) (FP.l2d ((1 : Int64) <<< Int32.toInt64 ((e &&& (3 : Int32)) &&& 63))))), .second, .unset, .unset, .unset, .unset, .unset, .unset, .unset, .unset, .unset, .unset, .unset, .unset, .unset, .unset, .unset, .unset, .unset, .unset, .unset, .unset, .unset, .unset, .unset] [(.double (rr (0 : Int64) (FP.ddiv (FP.l2d (Int32.toInt64 ((k &&& (1023 : Int32)) + (1 : Int32)))) (FP.l2d ((1 : Int64) <<< Int32.toInt64 ((e &&& (3 : Int32)) &&& 63))))))]
  refine k_dconst1 at_34 rfl ?_
  refine k_dcmp at_35 rfl ?_
  refine k_ifc (pc1 := 43) (pc' := 39) at_36 (by decide) (by decide) rfl (fun (cd1 : ¬ (cmpValue (FP.dcmp (rr (0 : Int64) (FP.ddiv (FP.l2d (Int32.toInt64 ((k &&& (1023 : Int32)) + (1 : Int32)))) (FP.l2d ((1 : Int64) <<< Int32.toInt64 ((e &&& (3 : Int32)) &&& 63))))) (4607182418800017408 : UInt64)) .l) = (0 : Int32)) => absurd (by exact own_ceq (own_rr0 G hk) (own_nans G hk).2.2.2) cd1) (fun (cd1 : (cmpValue (FP.dcmp (rr (0 : Int64) (FP.ddiv (FP.l2d (Int32.toInt64 ((k &&& (1023 : Int32)) + (1 : Int32)))) (FP.l2d ((1 : Int64) <<< Int32.toInt64 ((e &&& (3 : Int32)) &&& 63))))) (4607182418800017408 : UInt64)) .l) = (0 : Int32)) => ?_)
  refine k_iconst (z := (1 : Int32)) at_39 rfl (by decide) ?_
  refine k_goto (pc' := 44) at_40 (by decide) (by decide) ?_
  refine k_istore (Ls' := #[.val (.long a), .second, .val (.long b), .second, .val (.int m), .val (.int k), .val (.int c), .val (.int e), .val (.long (Int32.toInt64 ((k &&& (1023 : Int32)) + (1 : Int32)))), .second, .val (.long ((1 : Int64) <<< Int32.toInt64 ((e &&& (3 : Int32)) &&& 63))), .second, .val (.double (FP.ddiv (FP.l2d (Int32.toInt64 ((k &&& (1023 : Int32)) + (1 : Int32)))) (FP.l2d ((1 : Int64) <<< Int32.toInt64 ((e &&& (3 : Int32)) &&& 63))))), .second, .val (.int (1 : Int32)), .unset, .unset, .unset, .unset, .unset, .unset, .unset, .unset, .unset, .unset, .unset, .unset, .unset, .unset, .unset, .unset, .unset, .unset, .unset, .unset, .unset, .unset]) at_44 rfl rfl ?_
  refine k_ldc2J at_46 rfl (hw _ (List.mem_of_getElem? (i := 5) rfl)) ?_
  refine k_lload at_49 rfl rfl ?_
  refine k_lmul at_51 rfl ?_
  refine k_iload at_52 rfl rfl ?_
  refine k_i2l at_54 rfl ?_
  refine k_lmul at_55 rfl ?_
  refine k_lstore (Ls' := #[.val (.long a), .second, .val (.long b), .second, .val (.int m), .val (.int k), .val (.int c), .val (.int e), .val (.long (Int32.toInt64 ((k &&& (1023 : Int32)) + (1 : Int32)))), .second, .val (.long ((1 : Int64) <<< Int32.toInt64 ((e &&& (3 : Int32)) &&& 63))), .second, .val (.double (FP.ddiv (FP.l2d (Int32.toInt64 ((k &&& (1023 : Int32)) + (1 : Int32)))) (FP.l2d ((1 : Int64) <<< Int32.toInt64 ((e &&& (3 : Int32)) &&& 63))))), .second, .val (.int (1 : Int32)), .val (.long (((9 : Int64) * (Int32.toInt64 ((k &&& (1023 : Int32)) + (1 : Int32)))) * (Int32.toInt64 m))), .second, .unset, .unset, .unset, .unset, .unset, .unset, .unset, .unset, .unset, .unset, .unset, .unset, .unset, .unset, .unset, .unset, .unset, .unset, .unset, .unset]) at_56 rfl rfl ?_
  refine k_dconst1 at_58 rfl ?_
  refine k_dconst1 at_59 rfl ?_
  refine k_iload at_60 rfl rfl ?_
  refine k_i2l at_62 rfl ?_
  refine k_lload at_63 rfl rfl ?_
  refine k_lmul at_65 rfl ?_
  refine k_l2d at_66 rfl ?_
  refine k_dadd at_67 rfl (nn NE1) ?_
  refine k_ddiv at_68 rfl (nn NE2) ?_
  refine k_dstore (Ls' := #[.val (.long a), .second, .val (.long b), .second, .val (.int m), .val (.int k), .val (.int c), .val (.int e), .val (.long (Int32.toInt64 ((k &&& (1023 : Int32)) + (1 : Int32)))), .second, .val (.long ((1 : Int64) <<< Int32.toInt64 ((e &&& (3 : Int32)) &&& 63))), .second, .val (.double (FP.ddiv (FP.l2d (Int32.toInt64 ((k &&& (1023 : Int32)) + (1 : Int32)))) (FP.l2d ((1 : Int64) <<< Int32.toInt64 ((e &&& (3 : Int32)) &&& 63))))), .second, .val (.int (1 : Int32)), .val (.long (((9 : Int64) * (Int32.toInt64 ((k &&& (1023 : Int32)) + (1 : Int32)))) * (Int32.toInt64 m))), .second, .val (.double (FP.ddiv (4607182418800017408 : UInt64) (FP.dadd (4607182418800017408 : UInt64) (FP.l2d ((Int32.toInt64 m) * ((1 : Int64) <<< Int32.toInt64 ((e &&& (3 : Int32)) &&& 63))))))), .second, .unset, .unset, .unset, .unset, .unset, .unset, .unset, .unset, .unset, .unset, .unset, .unset, .unset, .unset, .unset, .unset, .unset, .unset]) at_69 rfl rfl ?_
  refine k_iload at_71 rfl rfl ?_
  refine k_ifc (pc1 := 93) (pc' := 76) at_73 (by decide) (by decide) rfl (fun (cd2 : (1 : Int32) = (0 : Int32)) => False.elim (by exact absurd cd2 (by decide))) (fun (cd2 : ¬ (1 : Int32) = (0 : Int32)) => ?_)
  refine k_lload at_76 rfl rfl ?_
  refine k_dload at_78 rfl rfl ?_
  refine k_callStatic (W0 := 0) (argsL := [(.long (((9 : Int64) * (Int32.toInt64 ((k &&& (1023 : Int32)) + (1 : Int32)))) * (Int32.toInt64 m))), (.double (FP.ddiv (FP.l2d (Int32.toInt64 ((k &&& (1023 : Int32)) + (1 : Int32)))) (FP.l2d ((1 : Int64) <<< Int32.toInt64 ((e &&& (3 : Int32)) &&& 63)))))]) (rest := []) at_80 rfl (mt_rtg l Z a0 hw (((9 : Int64) * (Int32.toInt64 ((k &&& (1023 : Int32)) + (1 : Int32)))) * (Int32.toInt64 m)) (FP.ddiv (FP.l2d (Int32.toInt64 ((k &&& (1023 : Int32)) + (1 : Int32)))) (FP.l2d ((1 : Int64) <<< Int32.toInt64 ((e &&& (3 : Int32)) &&& 63)))) h0 n0 G hk) Kp.strict (hw _ (List.mem_of_getElem? (i := 0) rfl)) (hw _ (List.mem_of_getElem? (i := 1) rfl)) (hw _ (List.mem_of_getElem? (i := 2) rfl)) (hw _ (List.mem_of_getElem? (i := 3) rfl)) (by decide) pd_rt rfl rfl rfl rfl (by decide) (by decide) (by decide) (by decide) ?_
  rintro _ _ - ⟨rfl, rfl⟩
  refine KW.any (P' := ([], fun _ => False)) ?_
  show KW false l Z M_law n0 (fun v _ => v = some (.int 1)) ([], fun _ => False) h0 0 0 83 #[.val (.long a), .second, .val (.long b), .second, .val (.int m), .val (.int k), .val (.int c), .val (.int e), .val (.long (Int32.toInt64 ((k &&& (1023 : Int32)) + (1 : Int32)))), .second, .val (.long ((1 : Int64) <<< Int32.toInt64 ((e &&& (3 : Int32)) &&& 63))), .second, .val (.double (FP.ddiv (FP.l2d (Int32.toInt64 ((k &&& (1023 : Int32)) + (1 : Int32)))) (FP.l2d ((1 : Int64) <<< Int32.toInt64 ((e &&& (3 : Int32)) &&& 63))))), .second, .val (.int (1 : Int32)), .val (.long (((9 : Int64) * (Int32.toInt64 ((k &&& (1023 : Int32)) + (1 : Int32)))) * (Int32.toInt64 m))), .second, .val (.double (FP.ddiv (4607182418800017408 : UInt64) (FP.dadd (4607182418800017408 : UInt64) (FP.l2d ((Int32.toInt64 m) * ((1 : Int64) <<< Int32.toInt64 ((e &&& (3 : Int32)) &&& 63))))))), .second, .unset, .unset, .unset, .unset, .unset, .unset, .unset, .unset, .unset, .unset, .unset, .unset, .unset, .unset, .unset, .unset, .unset, .unset] [(.double (rr (((9 : Int64) * (Int32.toInt64 ((k &&& (1023 : Int32)) + (1 : Int32)))) * (Int32.toInt64 m)) (FP.ddiv (FP.l2d (Int32.toInt64 ((k &&& (1023 : Int32)) + (1 : Int32)))) (FP.l2d ((1 : Int64) <<< Int32.toInt64 ((e &&& (3 : Int32)) &&& 63))))))]
  refine k_dload at_83 rfl rfl ?_
  refine k_dcmp at_85 rfl ?_
  refine k_ifc (pc1 := 93) (pc' := 89) at_86 (by decide) (by decide) rfl (fun (cd3 : ¬ (cmpValue (FP.dcmp (rr (((9 : Int64) * (Int32.toInt64 ((k &&& (1023 : Int32)) + (1 : Int32)))) * (Int32.toInt64 m)) (FP.ddiv (FP.l2d (Int32.toInt64 ((k &&& (1023 : Int32)) + (1 : Int32)))) (FP.l2d ((1 : Int64) <<< Int32.toInt64 ((e &&& (3 : Int32)) &&& 63))))) (FP.ddiv (4607182418800017408 : UInt64) (FP.dadd (4607182418800017408 : UInt64) (FP.l2d ((Int32.toInt64 m) * ((1 : Int64) <<< Int32.toInt64 ((e &&& (3 : Int32)) &&& 63))))))) .l) = (0 : Int32)) => absurd (by exact own_ceq EM (own_nans G hk).2.2.2) cd3) (fun (cd3 : (cmpValue (FP.dcmp (rr (((9 : Int64) * (Int32.toInt64 ((k &&& (1023 : Int32)) + (1 : Int32)))) * (Int32.toInt64 m)) (FP.ddiv (FP.l2d (Int32.toInt64 ((k &&& (1023 : Int32)) + (1 : Int32)))) (FP.l2d ((1 : Int64) <<< Int32.toInt64 ((e &&& (3 : Int32)) &&& 63))))) (FP.ddiv (4607182418800017408 : UInt64) (FP.dadd (4607182418800017408 : UInt64) (FP.l2d ((Int32.toInt64 m) * ((1 : Int64) <<< Int32.toInt64 ((e &&& (3 : Int32)) &&& 63))))))) .l) = (0 : Int32)) => ?_)
  refine k_iconst (z := (1 : Int32)) at_89 rfl (by decide) ?_
  refine k_goto (pc' := 94) at_90 (by decide) (by decide) ?_
  refine k_istore (Ls' := #[.val (.long a), .second, .val (.long b), .second, .val (.int m), .val (.int k), .val (.int c), .val (.int e), .val (.long (Int32.toInt64 ((k &&& (1023 : Int32)) + (1 : Int32)))), .second, .val (.long ((1 : Int64) <<< Int32.toInt64 ((e &&& (3 : Int32)) &&& 63))), .second, .val (.double (FP.ddiv (FP.l2d (Int32.toInt64 ((k &&& (1023 : Int32)) + (1 : Int32)))) (FP.l2d ((1 : Int64) <<< Int32.toInt64 ((e &&& (3 : Int32)) &&& 63))))), .second, .val (.int (1 : Int32)), .val (.long (((9 : Int64) * (Int32.toInt64 ((k &&& (1023 : Int32)) + (1 : Int32)))) * (Int32.toInt64 m))), .second, .val (.double (FP.ddiv (4607182418800017408 : UInt64) (FP.dadd (4607182418800017408 : UInt64) (FP.l2d ((Int32.toInt64 m) * ((1 : Int64) <<< Int32.toInt64 ((e &&& (3 : Int32)) &&& 63))))))), .second, .unset, .unset, .unset, .unset, .unset, .unset, .unset, .unset, .unset, .unset, .unset, .unset, .unset, .unset, .unset, .unset, .unset, .unset]) at_94 rfl rfl ?_
  refine k_lloadN at_96 rfl rfl ?_
  refine k_ldc2J at_97 rfl (hw _ (List.mem_of_getElem? (i := 6) rfl)) ?_
  refine k_land at_100 rfl ?_
  refine k_lstore (Ls' := #[.val (.long a), .second, .val (.long b), .second, .val (.int m), .val (.int k), .val (.int c), .val (.int e), .val (.long (Int32.toInt64 ((k &&& (1023 : Int32)) + (1 : Int32)))), .second, .val (.long ((1 : Int64) <<< Int32.toInt64 ((e &&& (3 : Int32)) &&& 63))), .second, .val (.double (FP.ddiv (FP.l2d (Int32.toInt64 ((k &&& (1023 : Int32)) + (1 : Int32)))) (FP.l2d ((1 : Int64) <<< Int32.toInt64 ((e &&& (3 : Int32)) &&& 63))))), .second, .val (.int (1 : Int32)), .val (.long (((9 : Int64) * (Int32.toInt64 ((k &&& (1023 : Int32)) + (1 : Int32)))) * (Int32.toInt64 m))), .second, .val (.double (FP.ddiv (4607182418800017408 : UInt64) (FP.dadd (4607182418800017408 : UInt64) (FP.l2d ((Int32.toInt64 m) * ((1 : Int64) <<< Int32.toInt64 ((e &&& (3 : Int32)) &&& 63))))))), .second, .val (.long (a &&& (9223372036854775807 : Int64))), .second, .unset, .unset, .unset, .unset, .unset, .unset, .unset, .unset, .unset, .unset, .unset, .unset, .unset, .unset, .unset, .unset]) at_101 rfl rfl ?_
  refine k_lloadN at_103 rfl rfl ?_
  refine k_ldc2J at_104 rfl (hw _ (List.mem_of_getElem? (i := 6) rfl)) ?_
  refine k_land at_107 rfl ?_
  refine k_lstore (Ls' := #[.val (.long a), .second, .val (.long b), .second, .val (.int m), .val (.int k), .val (.int c), .val (.int e), .val (.long (Int32.toInt64 ((k &&& (1023 : Int32)) + (1 : Int32)))), .second, .val (.long ((1 : Int64) <<< Int32.toInt64 ((e &&& (3 : Int32)) &&& 63))), .second, .val (.double (FP.ddiv (FP.l2d (Int32.toInt64 ((k &&& (1023 : Int32)) + (1 : Int32)))) (FP.l2d ((1 : Int64) <<< Int32.toInt64 ((e &&& (3 : Int32)) &&& 63))))), .second, .val (.int (1 : Int32)), .val (.long (((9 : Int64) * (Int32.toInt64 ((k &&& (1023 : Int32)) + (1 : Int32)))) * (Int32.toInt64 m))), .second, .val (.double (FP.ddiv (4607182418800017408 : UInt64) (FP.dadd (4607182418800017408 : UInt64) (FP.l2d ((Int32.toInt64 m) * ((1 : Int64) <<< Int32.toInt64 ((e &&& (3 : Int32)) &&& 63))))))), .second, .val (.long (a &&& (9223372036854775807 : Int64))), .second, .val (.long (b &&& (9223372036854775807 : Int64))), .second, .unset, .unset, .unset, .unset, .unset, .unset, .unset, .unset, .unset, .unset, .unset, .unset, .unset, .unset]) at_108 rfl rfl ?_
  refine k_lload at_110 rfl rfl ?_
  refine k_lload at_112 rfl rfl ?_
  refine k_callStatic (W0 := 0) (argsL := [(.long (a &&& (9223372036854775807 : Int64))), (.long (b &&& (9223372036854775807 : Int64)))]) (rest := []) at_114 rfl (mt_min l Z a0 hw (a &&& (9223372036854775807 : Int64)) (b &&& (9223372036854775807 : Int64)) h0 n0) Kp.strict (hw _ (List.mem_of_getElem? (i := 7) rfl)) (hw _ (List.mem_of_getElem? (i := 8) rfl)) (hw _ (List.mem_of_getElem? (i := 9) rfl)) (hw _ (List.mem_of_getElem? (i := 10) rfl)) (by decide) pd_min rfl rfl rfl rfl (by decide) (by decide) (by decide) (by decide) ?_
  rintro _ _ - ⟨rfl, rfl⟩
  refine KW.any (P' := ([], fun _ => False)) ?_
  show KW false l Z M_law n0 (fun v _ => v = some (.int 1)) ([], fun _ => False) h0 0 0 117 #[.val (.long a), .second, .val (.long b), .second, .val (.int m), .val (.int k), .val (.int c), .val (.int e), .val (.long (Int32.toInt64 ((k &&& (1023 : Int32)) + (1 : Int32)))), .second, .val (.long ((1 : Int64) <<< Int32.toInt64 ((e &&& (3 : Int32)) &&& 63))), .second, .val (.double (FP.ddiv (FP.l2d (Int32.toInt64 ((k &&& (1023 : Int32)) + (1 : Int32)))) (FP.l2d ((1 : Int64) <<< Int32.toInt64 ((e &&& (3 : Int32)) &&& 63))))), .second, .val (.int (1 : Int32)), .val (.long (((9 : Int64) * (Int32.toInt64 ((k &&& (1023 : Int32)) + (1 : Int32)))) * (Int32.toInt64 m))), .second, .val (.double (FP.ddiv (4607182418800017408 : UInt64) (FP.dadd (4607182418800017408 : UInt64) (FP.l2d ((Int32.toInt64 m) * ((1 : Int64) <<< Int32.toInt64 ((e &&& (3 : Int32)) &&& 63))))))), .second, .val (.long (a &&& (9223372036854775807 : Int64))), .second, .val (.long (b &&& (9223372036854775807 : Int64))), .second, .unset, .unset, .unset, .unset, .unset, .unset, .unset, .unset, .unset, .unset, .unset, .unset, .unset, .unset] [(.long (lmin (a &&& (9223372036854775807 : Int64)) (b &&& (9223372036854775807 : Int64))))]
  refine k_lstore (Ls' := #[.val (.long a), .second, .val (.long b), .second, .val (.int m), .val (.int k), .val (.int c), .val (.int e), .val (.long (Int32.toInt64 ((k &&& (1023 : Int32)) + (1 : Int32)))), .second, .val (.long ((1 : Int64) <<< Int32.toInt64 ((e &&& (3 : Int32)) &&& 63))), .second, .val (.double (FP.ddiv (FP.l2d (Int32.toInt64 ((k &&& (1023 : Int32)) + (1 : Int32)))) (FP.l2d ((1 : Int64) <<< Int32.toInt64 ((e &&& (3 : Int32)) &&& 63))))), .second, .val (.int (1 : Int32)), .val (.long (((9 : Int64) * (Int32.toInt64 ((k &&& (1023 : Int32)) + (1 : Int32)))) * (Int32.toInt64 m))), .second, .val (.double (FP.ddiv (4607182418800017408 : UInt64) (FP.dadd (4607182418800017408 : UInt64) (FP.l2d ((Int32.toInt64 m) * ((1 : Int64) <<< Int32.toInt64 ((e &&& (3 : Int32)) &&& 63))))))), .second, .val (.long (a &&& (9223372036854775807 : Int64))), .second, .val (.long (b &&& (9223372036854775807 : Int64))), .second, .val (.long (lmin (a &&& (9223372036854775807 : Int64)) (b &&& (9223372036854775807 : Int64)))), .second, .unset, .unset, .unset, .unset, .unset, .unset, .unset, .unset, .unset, .unset, .unset, .unset]) at_117 rfl rfl ?_
  refine k_lload at_119 rfl rfl ?_
  refine k_lload at_121 rfl rfl ?_
  refine k_callStatic (W0 := 0) (argsL := [(.long (a &&& (9223372036854775807 : Int64))), (.long (b &&& (9223372036854775807 : Int64)))]) (rest := []) at_123 rfl (mt_max l Z a0 hw (a &&& (9223372036854775807 : Int64)) (b &&& (9223372036854775807 : Int64)) h0 n0) Kp.strict (hw _ (List.mem_of_getElem? (i := 11) rfl)) (hw _ (List.mem_of_getElem? (i := 12) rfl)) (hw _ (List.mem_of_getElem? (i := 9) rfl)) (hw _ (List.mem_of_getElem? (i := 13) rfl)) (by decide) pd_max rfl rfl rfl rfl (by decide) (by decide) (by decide) (by decide) ?_
  rintro _ _ - ⟨rfl, rfl⟩
  refine KW.any (P' := ([], fun _ => False)) ?_
  show KW false l Z M_law n0 (fun v _ => v = some (.int 1)) ([], fun _ => False) h0 0 0 126 #[.val (.long a), .second, .val (.long b), .second, .val (.int m), .val (.int k), .val (.int c), .val (.int e), .val (.long (Int32.toInt64 ((k &&& (1023 : Int32)) + (1 : Int32)))), .second, .val (.long ((1 : Int64) <<< Int32.toInt64 ((e &&& (3 : Int32)) &&& 63))), .second, .val (.double (FP.ddiv (FP.l2d (Int32.toInt64 ((k &&& (1023 : Int32)) + (1 : Int32)))) (FP.l2d ((1 : Int64) <<< Int32.toInt64 ((e &&& (3 : Int32)) &&& 63))))), .second, .val (.int (1 : Int32)), .val (.long (((9 : Int64) * (Int32.toInt64 ((k &&& (1023 : Int32)) + (1 : Int32)))) * (Int32.toInt64 m))), .second, .val (.double (FP.ddiv (4607182418800017408 : UInt64) (FP.dadd (4607182418800017408 : UInt64) (FP.l2d ((Int32.toInt64 m) * ((1 : Int64) <<< Int32.toInt64 ((e &&& (3 : Int32)) &&& 63))))))), .second, .val (.long (a &&& (9223372036854775807 : Int64))), .second, .val (.long (b &&& (9223372036854775807 : Int64))), .second, .val (.long (lmin (a &&& (9223372036854775807 : Int64)) (b &&& (9223372036854775807 : Int64)))), .second, .unset, .unset, .unset, .unset, .unset, .unset, .unset, .unset, .unset, .unset, .unset, .unset] [(.long (lmax (a &&& (9223372036854775807 : Int64)) (b &&& (9223372036854775807 : Int64))))]
  refine k_lstore (Ls' := #[.val (.long a), .second, .val (.long b), .second, .val (.int m), .val (.int k), .val (.int c), .val (.int e), .val (.long (Int32.toInt64 ((k &&& (1023 : Int32)) + (1 : Int32)))), .second, .val (.long ((1 : Int64) <<< Int32.toInt64 ((e &&& (3 : Int32)) &&& 63))), .second, .val (.double (FP.ddiv (FP.l2d (Int32.toInt64 ((k &&& (1023 : Int32)) + (1 : Int32)))) (FP.l2d ((1 : Int64) <<< Int32.toInt64 ((e &&& (3 : Int32)) &&& 63))))), .second, .val (.int (1 : Int32)), .val (.long (((9 : Int64) * (Int32.toInt64 ((k &&& (1023 : Int32)) + (1 : Int32)))) * (Int32.toInt64 m))), .second, .val (.double (FP.ddiv (4607182418800017408 : UInt64) (FP.dadd (4607182418800017408 : UInt64) (FP.l2d ((Int32.toInt64 m) * ((1 : Int64) <<< Int32.toInt64 ((e &&& (3 : Int32)) &&& 63))))))), .second, .val (.long (a &&& (9223372036854775807 : Int64))), .second, .val (.long (b &&& (9223372036854775807 : Int64))), .second, .val (.long (lmin (a &&& (9223372036854775807 : Int64)) (b &&& (9223372036854775807 : Int64)))), .second, .val (.long (lmax (a &&& (9223372036854775807 : Int64)) (b &&& (9223372036854775807 : Int64)))), .second, .unset, .unset, .unset, .unset, .unset, .unset, .unset, .unset, .unset, .unset]) at_126 rfl rfl ?_
  refine k_lload at_128 rfl rfl ?_
  refine k_dload at_130 rfl rfl ?_
  refine k_callStatic (W0 := 0) (argsL := [(.long (lmin (a &&& (9223372036854775807 : Int64)) (b &&& (9223372036854775807 : Int64)))), (.double (FP.ddiv (FP.l2d (Int32.toInt64 ((k &&& (1023 : Int32)) + (1 : Int32)))) (FP.l2d ((1 : Int64) <<< Int32.toInt64 ((e &&& (3 : Int32)) &&& 63)))))]) (rest := []) at_132 rfl (mt_rtg l Z a0 hw (lmin (a &&& (9223372036854775807 : Int64)) (b &&& (9223372036854775807 : Int64))) (FP.ddiv (FP.l2d (Int32.toInt64 ((k &&& (1023 : Int32)) + (1 : Int32)))) (FP.l2d ((1 : Int64) <<< Int32.toInt64 ((e &&& (3 : Int32)) &&& 63)))) h0 n0 G hk) Kp.strict (hw _ (List.mem_of_getElem? (i := 0) rfl)) (hw _ (List.mem_of_getElem? (i := 1) rfl)) (hw _ (List.mem_of_getElem? (i := 2) rfl)) (hw _ (List.mem_of_getElem? (i := 3) rfl)) (by decide) pd_rt rfl rfl rfl rfl (by decide) (by decide) (by decide) (by decide) ?_
  rintro _ _ - ⟨rfl, rfl⟩
  refine KW.any (P' := ([], fun _ => False)) ?_
  show KW false l Z M_law n0 (fun v _ => v = some (.int 1)) ([], fun _ => False) h0 0 0 135 #[.val (.long a), .second, .val (.long b), .second, .val (.int m), .val (.int k), .val (.int c), .val (.int e), .val (.long (Int32.toInt64 ((k &&& (1023 : Int32)) + (1 : Int32)))), .second, .val (.long ((1 : Int64) <<< Int32.toInt64 ((e &&& (3 : Int32)) &&& 63))), .second, .val (.double (FP.ddiv (FP.l2d (Int32.toInt64 ((k &&& (1023 : Int32)) + (1 : Int32)))) (FP.l2d ((1 : Int64) <<< Int32.toInt64 ((e &&& (3 : Int32)) &&& 63))))), .second, .val (.int (1 : Int32)), .val (.long (((9 : Int64) * (Int32.toInt64 ((k &&& (1023 : Int32)) + (1 : Int32)))) * (Int32.toInt64 m))), .second, .val (.double (FP.ddiv (4607182418800017408 : UInt64) (FP.dadd (4607182418800017408 : UInt64) (FP.l2d ((Int32.toInt64 m) * ((1 : Int64) <<< Int32.toInt64 ((e &&& (3 : Int32)) &&& 63))))))), .second, .val (.long (a &&& (9223372036854775807 : Int64))), .second, .val (.long (b &&& (9223372036854775807 : Int64))), .second, .val (.long (lmin (a &&& (9223372036854775807 : Int64)) (b &&& (9223372036854775807 : Int64)))), .second, .val (.long (lmax (a &&& (9223372036854775807 : Int64)) (b &&& (9223372036854775807 : Int64)))), .second, .unset, .unset, .unset, .unset, .unset, .unset, .unset, .unset, .unset, .unset] [(.double (rr (lmin (a &&& (9223372036854775807 : Int64)) (b &&& (9223372036854775807 : Int64))) (FP.ddiv (FP.l2d (Int32.toInt64 ((k &&& (1023 : Int32)) + (1 : Int32)))) (FP.l2d ((1 : Int64) <<< Int32.toInt64 ((e &&& (3 : Int32)) &&& 63))))))]
  refine k_dstore (Ls' := #[.val (.long a), .second, .val (.long b), .second, .val (.int m), .val (.int k), .val (.int c), .val (.int e), .val (.long (Int32.toInt64 ((k &&& (1023 : Int32)) + (1 : Int32)))), .second, .val (.long ((1 : Int64) <<< Int32.toInt64 ((e &&& (3 : Int32)) &&& 63))), .second, .val (.double (FP.ddiv (FP.l2d (Int32.toInt64 ((k &&& (1023 : Int32)) + (1 : Int32)))) (FP.l2d ((1 : Int64) <<< Int32.toInt64 ((e &&& (3 : Int32)) &&& 63))))), .second, .val (.int (1 : Int32)), .val (.long (((9 : Int64) * (Int32.toInt64 ((k &&& (1023 : Int32)) + (1 : Int32)))) * (Int32.toInt64 m))), .second, .val (.double (FP.ddiv (4607182418800017408 : UInt64) (FP.dadd (4607182418800017408 : UInt64) (FP.l2d ((Int32.toInt64 m) * ((1 : Int64) <<< Int32.toInt64 ((e &&& (3 : Int32)) &&& 63))))))), .second, .val (.long (a &&& (9223372036854775807 : Int64))), .second, .val (.long (b &&& (9223372036854775807 : Int64))), .second, .val (.long (lmin (a &&& (9223372036854775807 : Int64)) (b &&& (9223372036854775807 : Int64)))), .second, .val (.long (lmax (a &&& (9223372036854775807 : Int64)) (b &&& (9223372036854775807 : Int64)))), .second, .val (.double (rr (lmin (a &&& (9223372036854775807 : Int64)) (b &&& (9223372036854775807 : Int64))) (FP.ddiv (FP.l2d (Int32.toInt64 ((k &&& (1023 : Int32)) + (1 : Int32)))) (FP.l2d ((1 : Int64) <<< Int32.toInt64 ((e &&& (3 : Int32)) &&& 63)))))), .second, .unset, .unset, .unset, .unset, .unset, .unset, .unset, .unset]) at_135 rfl rfl ?_
  refine k_lload at_137 rfl rfl ?_
  refine k_dload at_139 rfl rfl ?_
  refine k_callStatic (W0 := 0) (argsL := [(.long (lmax (a &&& (9223372036854775807 : Int64)) (b &&& (9223372036854775807 : Int64)))), (.double (FP.ddiv (FP.l2d (Int32.toInt64 ((k &&& (1023 : Int32)) + (1 : Int32)))) (FP.l2d ((1 : Int64) <<< Int32.toInt64 ((e &&& (3 : Int32)) &&& 63)))))]) (rest := []) at_141 rfl (mt_rtg l Z a0 hw (lmax (a &&& (9223372036854775807 : Int64)) (b &&& (9223372036854775807 : Int64))) (FP.ddiv (FP.l2d (Int32.toInt64 ((k &&& (1023 : Int32)) + (1 : Int32)))) (FP.l2d ((1 : Int64) <<< Int32.toInt64 ((e &&& (3 : Int32)) &&& 63)))) h0 n0 G hk) Kp.strict (hw _ (List.mem_of_getElem? (i := 0) rfl)) (hw _ (List.mem_of_getElem? (i := 1) rfl)) (hw _ (List.mem_of_getElem? (i := 2) rfl)) (hw _ (List.mem_of_getElem? (i := 3) rfl)) (by decide) pd_rt rfl rfl rfl rfl (by decide) (by decide) (by decide) (by decide) ?_
  rintro _ _ - ⟨rfl, rfl⟩
  refine KW.any (P' := ([], fun _ => False)) ?_
  show KW false l Z M_law n0 (fun v _ => v = some (.int 1)) ([], fun _ => False) h0 0 0 144 #[.val (.long a), .second, .val (.long b), .second, .val (.int m), .val (.int k), .val (.int c), .val (.int e), .val (.long (Int32.toInt64 ((k &&& (1023 : Int32)) + (1 : Int32)))), .second, .val (.long ((1 : Int64) <<< Int32.toInt64 ((e &&& (3 : Int32)) &&& 63))), .second, .val (.double (FP.ddiv (FP.l2d (Int32.toInt64 ((k &&& (1023 : Int32)) + (1 : Int32)))) (FP.l2d ((1 : Int64) <<< Int32.toInt64 ((e &&& (3 : Int32)) &&& 63))))), .second, .val (.int (1 : Int32)), .val (.long (((9 : Int64) * (Int32.toInt64 ((k &&& (1023 : Int32)) + (1 : Int32)))) * (Int32.toInt64 m))), .second, .val (.double (FP.ddiv (4607182418800017408 : UInt64) (FP.dadd (4607182418800017408 : UInt64) (FP.l2d ((Int32.toInt64 m) * ((1 : Int64) <<< Int32.toInt64 ((e &&& (3 : Int32)) &&& 63))))))), .second, .val (.long (a &&& (9223372036854775807 : Int64))), .second, .val (.long (b &&& (9223372036854775807 : Int64))), .second, .val (.long (lmin (a &&& (9223372036854775807 : Int64)) (b &&& (9223372036854775807 : Int64)))), .second, .val (.long (lmax (a &&& (9223372036854775807 : Int64)) (b &&& (9223372036854775807 : Int64)))), .second, .val (.double (rr (lmin (a &&& (9223372036854775807 : Int64)) (b &&& (9223372036854775807 : Int64))) (FP.ddiv (FP.l2d (Int32.toInt64 ((k &&& (1023 : Int32)) + (1 : Int32)))) (FP.l2d ((1 : Int64) <<< Int32.toInt64 ((e &&& (3 : Int32)) &&& 63)))))), .second, .unset, .unset, .unset, .unset, .unset, .unset, .unset, .unset] [(.double (rr (lmax (a &&& (9223372036854775807 : Int64)) (b &&& (9223372036854775807 : Int64))) (FP.ddiv (FP.l2d (Int32.toInt64 ((k &&& (1023 : Int32)) + (1 : Int32)))) (FP.l2d ((1 : Int64) <<< Int32.toInt64 ((e &&& (3 : Int32)) &&& 63))))))]
  refine k_dstore (Ls' := #[.val (.long a), .second, .val (.long b), .second, .val (.int m), .val (.int k), .val (.int c), .val (.int e), .val (.long (Int32.toInt64 ((k &&& (1023 : Int32)) + (1 : Int32)))), .second, .val (.long ((1 : Int64) <<< Int32.toInt64 ((e &&& (3 : Int32)) &&& 63))), .second, .val (.double (FP.ddiv (FP.l2d (Int32.toInt64 ((k &&& (1023 : Int32)) + (1 : Int32)))) (FP.l2d ((1 : Int64) <<< Int32.toInt64 ((e &&& (3 : Int32)) &&& 63))))), .second, .val (.int (1 : Int32)), .val (.long (((9 : Int64) * (Int32.toInt64 ((k &&& (1023 : Int32)) + (1 : Int32)))) * (Int32.toInt64 m))), .second, .val (.double (FP.ddiv (4607182418800017408 : UInt64) (FP.dadd (4607182418800017408 : UInt64) (FP.l2d ((Int32.toInt64 m) * ((1 : Int64) <<< Int32.toInt64 ((e &&& (3 : Int32)) &&& 63))))))), .second, .val (.long (a &&& (9223372036854775807 : Int64))), .second, .val (.long (b &&& (9223372036854775807 : Int64))), .second, .val (.long (lmin (a &&& (9223372036854775807 : Int64)) (b &&& (9223372036854775807 : Int64)))), .second, .val (.long (lmax (a &&& (9223372036854775807 : Int64)) (b &&& (9223372036854775807 : Int64)))), .second, .val (.double (rr (lmin (a &&& (9223372036854775807 : Int64)) (b &&& (9223372036854775807 : Int64))) (FP.ddiv (FP.l2d (Int32.toInt64 ((k &&& (1023 : Int32)) + (1 : Int32)))) (FP.l2d ((1 : Int64) <<< Int32.toInt64 ((e &&& (3 : Int32)) &&& 63)))))), .second, .val (.double (rr (lmax (a &&& (9223372036854775807 : Int64)) (b &&& (9223372036854775807 : Int64))) (FP.ddiv (FP.l2d (Int32.toInt64 ((k &&& (1023 : Int32)) + (1 : Int32)))) (FP.l2d ((1 : Int64) <<< Int32.toInt64 ((e &&& (3 : Int32)) &&& 63)))))), .second, .unset, .unset, .unset, .unset, .unset, .unset]) at_144 rfl rfl ?_
  refine k_iload at_146 rfl rfl ?_
  refine k_ifc (pc1 := 177) (pc' := 151) at_148 (by decide) (by decide) rfl (fun (cd4 : (1 : Int32) = (0 : Int32)) => False.elim (by exact absurd cd4 (by decide))) (fun (cd4 : ¬ (1 : Int32) = (0 : Int32)) => ?_)
  refine k_dconst0 at_151 rfl ?_
  refine k_dload at_152 rfl rfl ?_
  refine k_dcmp at_154 rfl ?_
  refine k_ifc (pc1 := 177) (pc' := 158) at_155 (by decide) (by decide) rfl (fun (cd5 : ¬ (cmpValue (FP.dcmp (0 : UInt64) (rr (lmax (a &&& (9223372036854775807 : Int64)) (b &&& (9223372036854775807 : Int64))) (FP.ddiv (FP.l2d (Int32.toInt64 ((k &&& (1023 : Int32)) + (1 : Int32)))) (FP.l2d ((1 : Int64) <<< Int32.toInt64 ((e &&& (3 : Int32)) &&& 63)))))) .g) < (0 : Int32)) => absurd (by exact own_clt own_nn0 RH.1 (by rw [show zm 0 = 0 by decide +kernel]; exact RH.2.1)) cd5) (fun (cd5 : (cmpValue (FP.dcmp (0 : UInt64) (rr (lmax (a &&& (9223372036854775807 : Int64)) (b &&& (9223372036854775807 : Int64))) (FP.ddiv (FP.l2d (Int32.toInt64 ((k &&& (1023 : Int32)) + (1 : Int32)))) (FP.l2d ((1 : Int64) <<< Int32.toInt64 ((e &&& (3 : Int32)) &&& 63)))))) .g) < (0 : Int32)) => ?_)
  refine k_dload at_158 rfl rfl ?_
  refine k_dload at_160 rfl rfl ?_
  refine k_dcmp at_162 rfl ?_
  refine k_ifc (pc1 := 177) (pc' := 166) at_163 (by decide) (by decide) rfl (fun (cd6 : (0 : Int32) < (cmpValue (FP.dcmp (rr (lmax (a &&& (9223372036854775807 : Int64)) (b &&& (9223372036854775807 : Int64))) (FP.ddiv (FP.l2d (Int32.toInt64 ((k &&& (1023 : Int32)) + (1 : Int32)))) (FP.l2d ((1 : Int64) <<< Int32.toInt64 ((e &&& (3 : Int32)) &&& 63))))) (rr (lmin (a &&& (9223372036854775807 : Int64)) (b &&& (9223372036854775807 : Int64))) (FP.ddiv (FP.l2d (Int32.toInt64 ((k &&& (1023 : Int32)) + (1 : Int32)))) (FP.l2d ((1 : Int64) <<< Int32.toInt64 ((e &&& (3 : Int32)) &&& 63)))))) .g)) => False.elim (by exact own_cle RH.1 RL.1 RLH cd6)) (fun (cd6 : ¬ (0 : Int32) < (cmpValue (FP.dcmp (rr (lmax (a &&& (9223372036854775807 : Int64)) (b &&& (9223372036854775807 : Int64))) (FP.ddiv (FP.l2d (Int32.toInt64 ((k &&& (1023 : Int32)) + (1 : Int32)))) (FP.l2d ((1 : Int64) <<< Int32.toInt64 ((e &&& (3 : Int32)) &&& 63))))) (rr (lmin (a &&& (9223372036854775807 : Int64)) (b &&& (9223372036854775807 : Int64))) (FP.ddiv (FP.l2d (Int32.toInt64 ((k &&& (1023 : Int32)) + (1 : Int32)))) (FP.l2d ((1 : Int64) <<< Int32.toInt64 ((e &&& (3 : Int32)) &&& 63)))))) .g)) => ?_)
  refine k_dload at_166 rfl rfl ?_
  refine k_dconst1 at_168 rfl ?_
  refine k_dcmp at_169 rfl ?_
  refine k_ifc (pc1 := 177) (pc' := 173) at_170 (by decide) (by decide) rfl (fun (cd7 : (0 : Int32) < (cmpValue (FP.dcmp (rr (lmin (a &&& (9223372036854775807 : Int64)) (b &&& (9223372036854775807 : Int64))) (FP.ddiv (FP.l2d (Int32.toInt64 ((k &&& (1023 : Int32)) + (1 : Int32)))) (FP.l2d ((1 : Int64) <<< Int32.toInt64 ((e &&& (3 : Int32)) &&& 63))))) (4607182418800017408 : UInt64)) .g)) => False.elim (by exact own_cle RL.1 own_nn1 RL.2.2 cd7)) (fun (cd7 : ¬ (0 : Int32) < (cmpValue (FP.dcmp (rr (lmin (a &&& (9223372036854775807 : Int64)) (b &&& (9223372036854775807 : Int64))) (FP.ddiv (FP.l2d (Int32.toInt64 ((k &&& (1023 : Int32)) + (1 : Int32)))) (FP.l2d ((1 : Int64) <<< Int32.toInt64 ((e &&& (3 : Int32)) &&& 63))))) (4607182418800017408 : UInt64)) .g)) => ?_)
  refine k_iconst (z := (1 : Int32)) at_173 rfl (by decide) ?_
  refine k_goto (pc' := 178) at_174 (by decide) (by decide) ?_
  refine k_istore (Ls' := #[.val (.long a), .second, .val (.long b), .second, .val (.int m), .val (.int k), .val (.int c), .val (.int e), .val (.long (Int32.toInt64 ((k &&& (1023 : Int32)) + (1 : Int32)))), .second, .val (.long ((1 : Int64) <<< Int32.toInt64 ((e &&& (3 : Int32)) &&& 63))), .second, .val (.double (FP.ddiv (FP.l2d (Int32.toInt64 ((k &&& (1023 : Int32)) + (1 : Int32)))) (FP.l2d ((1 : Int64) <<< Int32.toInt64 ((e &&& (3 : Int32)) &&& 63))))), .second, .val (.int (1 : Int32)), .val (.long (((9 : Int64) * (Int32.toInt64 ((k &&& (1023 : Int32)) + (1 : Int32)))) * (Int32.toInt64 m))), .second, .val (.double (FP.ddiv (4607182418800017408 : UInt64) (FP.dadd (4607182418800017408 : UInt64) (FP.l2d ((Int32.toInt64 m) * ((1 : Int64) <<< Int32.toInt64 ((e &&& (3 : Int32)) &&& 63))))))), .second, .val (.long (a &&& (9223372036854775807 : Int64))), .second, .val (.long (b &&& (9223372036854775807 : Int64))), .second, .val (.long (lmin (a &&& (9223372036854775807 : Int64)) (b &&& (9223372036854775807 : Int64)))), .second, .val (.long (lmax (a &&& (9223372036854775807 : Int64)) (b &&& (9223372036854775807 : Int64)))), .second, .val (.double (rr (lmin (a &&& (9223372036854775807 : Int64)) (b &&& (9223372036854775807 : Int64))) (FP.ddiv (FP.l2d (Int32.toInt64 ((k &&& (1023 : Int32)) + (1 : Int32)))) (FP.l2d ((1 : Int64) <<< Int32.toInt64 ((e &&& (3 : Int32)) &&& 63)))))), .second, .val (.double (rr (lmax (a &&& (9223372036854775807 : Int64)) (b &&& (9223372036854775807 : Int64))) (FP.ddiv (FP.l2d (Int32.toInt64 ((k &&& (1023 : Int32)) + (1 : Int32)))) (FP.l2d ((1 : Int64) <<< Int32.toInt64 ((e &&& (3 : Int32)) &&& 63)))))), .second, .unset, .unset, .unset, .unset, .unset, .unset]) at_178 rfl rfl ?_
  refine k_lload at_180 rfl rfl ?_
  refine k_iload at_182 rfl rfl ?_
  refine k_sipush (z := (1023 : Int32)) at_184 rfl (by decide) ?_
  refine k_iand at_187 rfl ?_
  refine k_i2l at_188 rfl ?_
  refine k_ladd at_189 rfl ?_
  refine k_lstore (Ls' := #[.val (.long a), .second, .val (.long b), .second, .val (.int m), .val (.int k), .val (.int c), .val (.int e), .val (.long (Int32.toInt64 ((k &&& (1023 : Int32)) + (1 : Int32)))), .second, .val (.long ((1 : Int64) <<< Int32.toInt64 ((e &&& (3 : Int32)) &&& 63))), .second, .val (.double (FP.ddiv (FP.l2d (Int32.toInt64 ((k &&& (1023 : Int32)) + (1 : Int32)))) (FP.l2d ((1 : Int64) <<< Int32.toInt64 ((e &&& (3 : Int32)) &&& 63))))), .second, .val (.int (1 : Int32)), .val (.long (((9 : Int64) * (Int32.toInt64 ((k &&& (1023 : Int32)) + (1 : Int32)))) * (Int32.toInt64 m))), .second, .val (.double (FP.ddiv (4607182418800017408 : UInt64) (FP.dadd (4607182418800017408 : UInt64) (FP.l2d ((Int32.toInt64 m) * ((1 : Int64) <<< Int32.toInt64 ((e &&& (3 : Int32)) &&& 63))))))), .second, .val (.long (a &&& (9223372036854775807 : Int64))), .second, .val (.long (b &&& (9223372036854775807 : Int64))), .second, .val (.long (lmin (a &&& (9223372036854775807 : Int64)) (b &&& (9223372036854775807 : Int64)))), .second, .val (.long (lmax (a &&& (9223372036854775807 : Int64)) (b &&& (9223372036854775807 : Int64)))), .second, .val (.double (rr (lmin (a &&& (9223372036854775807 : Int64)) (b &&& (9223372036854775807 : Int64))) (FP.ddiv (FP.l2d (Int32.toInt64 ((k &&& (1023 : Int32)) + (1 : Int32)))) (FP.l2d ((1 : Int64) <<< Int32.toInt64 ((e &&& (3 : Int32)) &&& 63)))))), .second, .val (.double (rr (lmax (a &&& (9223372036854775807 : Int64)) (b &&& (9223372036854775807 : Int64))) (FP.ddiv (FP.l2d (Int32.toInt64 ((k &&& (1023 : Int32)) + (1 : Int32)))) (FP.l2d ((1 : Int64) <<< Int32.toInt64 ((e &&& (3 : Int32)) &&& 63)))))), .second, .val (.long ((Int32.toInt64 ((k &&& (1023 : Int32)) + (1 : Int32))) + (Int32.toInt64 (c &&& (1023 : Int32))))), .second, .unset, .unset, .unset, .unset]) at_190 rfl rfl ?_
  refine k_lload at_192 rfl rfl ?_
  refine k_l2d at_194 rfl ?_
  refine k_lload at_195 rfl rfl ?_
  refine k_l2d at_197 rfl ?_
  refine k_ddiv at_198 rfl (nn ((FP.Core.notNaN_iff _).mpr G2.1.num)) ?_
  refine k_dstore (Ls' := #[.val (.long a), .second, .val (.long b), .second, .val (.int m), .val (.int k), .val (.int c), .val (.int e), .val (.long (Int32.toInt64 ((k &&& (1023 : Int32)) + (1 : Int32)))), .second, .val (.long ((1 : Int64) <<< Int32.toInt64 ((e &&& (3 : Int32)) &&& 63))), .second, .val (.double (FP.ddiv (FP.l2d (Int32.toInt64 ((k &&& (1023 : Int32)) + (1 : Int32)))) (FP.l2d ((1 : Int64) <<< Int32.toInt64 ((e &&& (3 : Int32)) &&& 63))))), .second, .val (.int (1 : Int32)), .val (.long (((9 : Int64) * (Int32.toInt64 ((k &&& (1023 : Int32)) + (1 : Int32)))) * (Int32.toInt64 m))), .second, .val (.double (FP.ddiv (4607182418800017408 : UInt64) (FP.dadd (4607182418800017408 : UInt64) (FP.l2d ((Int32.toInt64 m) * ((1 : Int64) <<< Int32.toInt64 ((e &&& (3 : Int32)) &&& 63))))))), .second, .val (.long (a &&& (9223372036854775807 : Int64))), .second, .val (.long (b &&& (9223372036854775807 : Int64))), .second, .val (.long (lmin (a &&& (9223372036854775807 : Int64)) (b &&& (9223372036854775807 : Int64)))), .second, .val (.long (lmax (a &&& (9223372036854775807 : Int64)) (b &&& (9223372036854775807 : Int64)))), .second, .val (.double (rr (lmin (a &&& (9223372036854775807 : Int64)) (b &&& (9223372036854775807 : Int64))) (FP.ddiv (FP.l2d (Int32.toInt64 ((k &&& (1023 : Int32)) + (1 : Int32)))) (FP.l2d ((1 : Int64) <<< Int32.toInt64 ((e &&& (3 : Int32)) &&& 63)))))), .second, .val (.double (rr (lmax (a &&& (9223372036854775807 : Int64)) (b &&& (9223372036854775807 : Int64))) (FP.ddiv (FP.l2d (Int32.toInt64 ((k &&& (1023 : Int32)) + (1 : Int32)))) (FP.l2d ((1 : Int64) <<< Int32.toInt64 ((e &&& (3 : Int32)) &&& 63)))))), .second, .val (.long ((Int32.toInt64 ((k &&& (1023 : Int32)) + (1 : Int32))) + (Int32.toInt64 (c &&& (1023 : Int32))))), .second, .val (.double (FP.ddiv (FP.l2d ((Int32.toInt64 ((k &&& (1023 : Int32)) + (1 : Int32))) + (Int32.toInt64 (c &&& (1023 : Int32))))) (FP.l2d ((1 : Int64) <<< Int32.toInt64 ((e &&& (3 : Int32)) &&& 63))))), .second, .unset, .unset]) at_199 rfl rfl ?_
  refine k_lload at_201 rfl rfl ?_
  refine k_dload at_203 rfl rfl ?_
  refine k_callStatic (W0 := 0) (argsL := [(.long (lmax (a &&& (9223372036854775807 : Int64)) (b &&& (9223372036854775807 : Int64)))), (.double (FP.ddiv (FP.l2d ((Int32.toInt64 ((k &&& (1023 : Int32)) + (1 : Int32))) + (Int32.toInt64 (c &&& (1023 : Int32))))) (FP.l2d ((1 : Int64) <<< Int32.toInt64 ((e &&& (3 : Int32)) &&& 63)))))]) (rest := []) at_205 rfl (mt_rtg l Z a0 hw (lmax (a &&& (9223372036854775807 : Int64)) (b &&& (9223372036854775807 : Int64))) (FP.ddiv (FP.l2d ((Int32.toInt64 ((k &&& (1023 : Int32)) + (1 : Int32))) + (Int32.toInt64 (c &&& (1023 : Int32))))) (FP.l2d ((1 : Int64) <<< Int32.toInt64 ((e &&& (3 : Int32)) &&& 63)))) h0 n0 G2 hk2) Kp.strict (hw _ (List.mem_of_getElem? (i := 0) rfl)) (hw _ (List.mem_of_getElem? (i := 1) rfl)) (hw _ (List.mem_of_getElem? (i := 2) rfl)) (hw _ (List.mem_of_getElem? (i := 3) rfl)) (by decide) pd_rt rfl rfl rfl rfl (by decide) (by decide) (by decide) (by decide) ?_
  rintro _ _ - ⟨rfl, rfl⟩
  refine KW.any (P' := ([], fun _ => False)) ?_
  show KW false l Z M_law n0 (fun v _ => v = some (.int 1)) ([], fun _ => False) h0 0 0 208 #[.val (.long a), .second, .val (.long b), .second, .val (.int m), .val (.int k), .val (.int c), .val (.int e), .val (.long (Int32.toInt64 ((k &&& (1023 : Int32)) + (1 : Int32)))), .second, .val (.long ((1 : Int64) <<< Int32.toInt64 ((e &&& (3 : Int32)) &&& 63))), .second, .val (.double (FP.ddiv (FP.l2d (Int32.toInt64 ((k &&& (1023 : Int32)) + (1 : Int32)))) (FP.l2d ((1 : Int64) <<< Int32.toInt64 ((e &&& (3 : Int32)) &&& 63))))), .second, .val (.int (1 : Int32)), .val (.long (((9 : Int64) * (Int32.toInt64 ((k &&& (1023 : Int32)) + (1 : Int32)))) * (Int32.toInt64 m))), .second, .val (.double (FP.ddiv (4607182418800017408 : UInt64) (FP.dadd (4607182418800017408 : UInt64) (FP.l2d ((Int32.toInt64 m) * ((1 : Int64) <<< Int32.toInt64 ((e &&& (3 : Int32)) &&& 63))))))), .second, .val (.long (a &&& (9223372036854775807 : Int64))), .second, .val (.long (b &&& (9223372036854775807 : Int64))), .second, .val (.long (lmin (a &&& (9223372036854775807 : Int64)) (b &&& (9223372036854775807 : Int64)))), .second, .val (.long (lmax (a &&& (9223372036854775807 : Int64)) (b &&& (9223372036854775807 : Int64)))), .second, .val (.double (rr (lmin (a &&& (9223372036854775807 : Int64)) (b &&& (9223372036854775807 : Int64))) (FP.ddiv (FP.l2d (Int32.toInt64 ((k &&& (1023 : Int32)) + (1 : Int32)))) (FP.l2d ((1 : Int64) <<< Int32.toInt64 ((e &&& (3 : Int32)) &&& 63)))))), .second, .val (.double (rr (lmax (a &&& (9223372036854775807 : Int64)) (b &&& (9223372036854775807 : Int64))) (FP.ddiv (FP.l2d (Int32.toInt64 ((k &&& (1023 : Int32)) + (1 : Int32)))) (FP.l2d ((1 : Int64) <<< Int32.toInt64 ((e &&& (3 : Int32)) &&& 63)))))), .second, .val (.long ((Int32.toInt64 ((k &&& (1023 : Int32)) + (1 : Int32))) + (Int32.toInt64 (c &&& (1023 : Int32))))), .second, .val (.double (FP.ddiv (FP.l2d ((Int32.toInt64 ((k &&& (1023 : Int32)) + (1 : Int32))) + (Int32.toInt64 (c &&& (1023 : Int32))))) (FP.l2d ((1 : Int64) <<< Int32.toInt64 ((e &&& (3 : Int32)) &&& 63))))), .second, .unset, .unset] [(.double (rr (lmax (a &&& (9223372036854775807 : Int64)) (b &&& (9223372036854775807 : Int64))) (FP.ddiv (FP.l2d ((Int32.toInt64 ((k &&& (1023 : Int32)) + (1 : Int32))) + (Int32.toInt64 (c &&& (1023 : Int32))))) (FP.l2d ((1 : Int64) <<< Int32.toInt64 ((e &&& (3 : Int32)) &&& 63))))))]
  refine k_dstore (Ls' := #[.val (.long a), .second, .val (.long b), .second, .val (.int m), .val (.int k), .val (.int c), .val (.int e), .val (.long (Int32.toInt64 ((k &&& (1023 : Int32)) + (1 : Int32)))), .second, .val (.long ((1 : Int64) <<< Int32.toInt64 ((e &&& (3 : Int32)) &&& 63))), .second, .val (.double (FP.ddiv (FP.l2d (Int32.toInt64 ((k &&& (1023 : Int32)) + (1 : Int32)))) (FP.l2d ((1 : Int64) <<< Int32.toInt64 ((e &&& (3 : Int32)) &&& 63))))), .second, .val (.int (1 : Int32)), .val (.long (((9 : Int64) * (Int32.toInt64 ((k &&& (1023 : Int32)) + (1 : Int32)))) * (Int32.toInt64 m))), .second, .val (.double (FP.ddiv (4607182418800017408 : UInt64) (FP.dadd (4607182418800017408 : UInt64) (FP.l2d ((Int32.toInt64 m) * ((1 : Int64) <<< Int32.toInt64 ((e &&& (3 : Int32)) &&& 63))))))), .second, .val (.long (a &&& (9223372036854775807 : Int64))), .second, .val (.long (b &&& (9223372036854775807 : Int64))), .second, .val (.long (lmin (a &&& (9223372036854775807 : Int64)) (b &&& (9223372036854775807 : Int64)))), .second, .val (.long (lmax (a &&& (9223372036854775807 : Int64)) (b &&& (9223372036854775807 : Int64)))), .second, .val (.double (rr (lmin (a &&& (9223372036854775807 : Int64)) (b &&& (9223372036854775807 : Int64))) (FP.ddiv (FP.l2d (Int32.toInt64 ((k &&& (1023 : Int32)) + (1 : Int32)))) (FP.l2d ((1 : Int64) <<< Int32.toInt64 ((e &&& (3 : Int32)) &&& 63)))))), .second, .val (.double (rr (lmax (a &&& (9223372036854775807 : Int64)) (b &&& (9223372036854775807 : Int64))) (FP.ddiv (FP.l2d (Int32.toInt64 ((k &&& (1023 : Int32)) + (1 : Int32)))) (FP.l2d ((1 : Int64) <<< Int32.toInt64 ((e &&& (3 : Int32)) &&& 63)))))), .second, .val (.long ((Int32.toInt64 ((k &&& (1023 : Int32)) + (1 : Int32))) + (Int32.toInt64 (c &&& (1023 : Int32))))), .second, .val (.double (FP.ddiv (FP.l2d ((Int32.toInt64 ((k &&& (1023 : Int32)) + (1 : Int32))) + (Int32.toInt64 (c &&& (1023 : Int32))))) (FP.l2d ((1 : Int64) <<< Int32.toInt64 ((e &&& (3 : Int32)) &&& 63))))), .second, .val (.double (rr (lmax (a &&& (9223372036854775807 : Int64)) (b &&& (9223372036854775807 : Int64))) (FP.ddiv (FP.l2d ((Int32.toInt64 ((k &&& (1023 : Int32)) + (1 : Int32))) + (Int32.toInt64 (c &&& (1023 : Int32))))) (FP.l2d ((1 : Int64) <<< Int32.toInt64 ((e &&& (3 : Int32)) &&& 63)))))), .second]) at_208 rfl rfl ?_
  refine k_iload at_210 rfl rfl ?_
  refine k_ifc (pc1 := 234) (pc' := 215) at_212 (by decide) (by decide) rfl (fun (cd8 : (1 : Int32) = (0 : Int32)) => False.elim (by exact absurd cd8 (by decide))) (fun (cd8 : ¬ (1 : Int32) = (0 : Int32)) => ?_)
  refine k_dload at_215 rfl rfl ?_
  refine k_dload at_217 rfl rfl ?_
  refine k_dcmp at_219 rfl ?_
  refine k_ifc (pc1 := 234) (pc' := 223) at_220 (by decide) (by decide) rfl (fun (cd9 : (0 : Int32) < (cmpValue (FP.dcmp (rr (lmax (a &&& (9223372036854775807 : Int64)) (b &&& (9223372036854775807 : Int64))) (FP.ddiv (FP.l2d (Int32.toInt64 ((k &&& (1023 : Int32)) + (1 : Int32)))) (FP.l2d ((1 : Int64) <<< Int32.toInt64 ((e &&& (3 : Int32)) &&& 63))))) (rr (lmax (a &&& (9223372036854775807 : Int64)) (b &&& (9223372036854775807 : Int64))) (FP.ddiv (FP.l2d ((Int32.toInt64 ((k &&& (1023 : Int32)) + (1 : Int32))) + (Int32.toInt64 (c &&& (1023 : Int32))))) (FP.l2d ((1 : Int64) <<< Int32.toInt64 ((e &&& (3 : Int32)) &&& 63)))))) .g)) => False.elim (by exact own_cle RH.1 R2.1 RS cd9)) (fun (cd9 : ¬ (0 : Int32) < (cmpValue (FP.dcmp (rr (lmax (a &&& (9223372036854775807 : Int64)) (b &&& (9223372036854775807 : Int64))) (FP.ddiv (FP.l2d (Int32.toInt64 ((k &&& (1023 : Int32)) + (1 : Int32)))) (FP.l2d ((1 : Int64) <<< Int32.toInt64 ((e &&& (3 : Int32)) &&& 63))))) (rr (lmax (a &&& (9223372036854775807 : Int64)) (b &&& (9223372036854775807 : Int64))) (FP.ddiv (FP.l2d ((Int32.toInt64 ((k &&& (1023 : Int32)) + (1 : Int32))) + (Int32.toInt64 (c &&& (1023 : Int32))))) (FP.l2d ((1 : Int64) <<< Int32.toInt64 ((e &&& (3 : Int32)) &&& 63)))))) .g)) => ?_)
  refine k_dload at_223 rfl rfl ?_
  refine k_dconst1 at_225 rfl ?_
  refine k_dcmp at_226 rfl ?_
  refine k_ifc (pc1 := 234) (pc' := 230) at_227 (by decide) (by decide) rfl (fun (cd10 : (0 : Int32) < (cmpValue (FP.dcmp (rr (lmax (a &&& (9223372036854775807 : Int64)) (b &&& (9223372036854775807 : Int64))) (FP.ddiv (FP.l2d ((Int32.toInt64 ((k &&& (1023 : Int32)) + (1 : Int32))) + (Int32.toInt64 (c &&& (1023 : Int32))))) (FP.l2d ((1 : Int64) <<< Int32.toInt64 ((e &&& (3 : Int32)) &&& 63))))) (4607182418800017408 : UInt64)) .g)) => False.elim (by exact own_cle R2.1 own_nn1 R2.2.2 cd10)) (fun (cd10 : ¬ (0 : Int32) < (cmpValue (FP.dcmp (rr (lmax (a &&& (9223372036854775807 : Int64)) (b &&& (9223372036854775807 : Int64))) (FP.ddiv (FP.l2d ((Int32.toInt64 ((k &&& (1023 : Int32)) + (1 : Int32))) + (Int32.toInt64 (c &&& (1023 : Int32))))) (FP.l2d ((1 : Int64) <<< Int32.toInt64 ((e &&& (3 : Int32)) &&& 63))))) (4607182418800017408 : UInt64)) .g)) => ?_)
  refine k_iconst (z := (1 : Int32)) at_230 rfl (by decide) ?_
  refine k_goto (pc' := 235) at_231 (by decide) (by decide) ?_
  refine k_istore (Ls' := #[.val (.long a), .second, .val (.long b), .second, .val (.int m), .val (.int k), .val (.int c), .val (.int e), .val (.long (Int32.toInt64 ((k &&& (1023 : Int32)) + (1 : Int32)))), .second, .val (.long ((1 : Int64) <<< Int32.toInt64 ((e &&& (3 : Int32)) &&& 63))), .second, .val (.double (FP.ddiv (FP.l2d (Int32.toInt64 ((k &&& (1023 : Int32)) + (1 : Int32)))) (FP.l2d ((1 : Int64) <<< Int32.toInt64 ((e &&& (3 : Int32)) &&& 63))))), .second, .val (.int (1 : Int32)), .val (.long (((9 : Int64) * (Int32.toInt64 ((k &&& (1023 : Int32)) + (1 : Int32)))) * (Int32.toInt64 m))), .second, .val (.double (FP.ddiv (4607182418800017408 : UInt64) (FP.dadd (4607182418800017408 : UInt64) (FP.l2d ((Int32.toInt64 m) * ((1 : Int64) <<< Int32.toInt64 ((e &&& (3 : Int32)) &&& 63))))))), .second, .val (.long (a &&& (9223372036854775807 : Int64))), .second, .val (.long (b &&& (9223372036854775807 : Int64))), .second, .val (.long (lmin (a &&& (9223372036854775807 : Int64)) (b &&& (9223372036854775807 : Int64)))), .second, .val (.long (lmax (a &&& (9223372036854775807 : Int64)) (b &&& (9223372036854775807 : Int64)))), .second, .val (.double (rr (lmin (a &&& (9223372036854775807 : Int64)) (b &&& (9223372036854775807 : Int64))) (FP.ddiv (FP.l2d (Int32.toInt64 ((k &&& (1023 : Int32)) + (1 : Int32)))) (FP.l2d ((1 : Int64) <<< Int32.toInt64 ((e &&& (3 : Int32)) &&& 63)))))), .second, .val (.double (rr (lmax (a &&& (9223372036854775807 : Int64)) (b &&& (9223372036854775807 : Int64))) (FP.ddiv (FP.l2d (Int32.toInt64 ((k &&& (1023 : Int32)) + (1 : Int32)))) (FP.l2d ((1 : Int64) <<< Int32.toInt64 ((e &&& (3 : Int32)) &&& 63)))))), .second, .val (.long ((Int32.toInt64 ((k &&& (1023 : Int32)) + (1 : Int32))) + (Int32.toInt64 (c &&& (1023 : Int32))))), .second, .val (.double (FP.ddiv (FP.l2d ((Int32.toInt64 ((k &&& (1023 : Int32)) + (1 : Int32))) + (Int32.toInt64 (c &&& (1023 : Int32))))) (FP.l2d ((1 : Int64) <<< Int32.toInt64 ((e &&& (3 : Int32)) &&& 63))))), .second, .val (.double (rr (lmax (a &&& (9223372036854775807 : Int64)) (b &&& (9223372036854775807 : Int64))) (FP.ddiv (FP.l2d ((Int32.toInt64 ((k &&& (1023 : Int32)) + (1 : Int32))) + (Int32.toInt64 (c &&& (1023 : Int32))))) (FP.l2d ((1 : Int64) <<< Int32.toInt64 ((e &&& (3 : Int32)) &&& 63)))))), .second]) at_235 rfl rfl ?_
  refine k_iload at_237 rfl rfl ?_
  exact k_retNar at_239 rfl (by simp) (z' := (1 : Int32)) (by decide) (by decide) (by decide) rfl
theorem own_mulL {x y : Int64} {p : Int} (hp : x.toInt * y.toInt = p) (h : p.natAbs ≤ 2 ^ 53) : (x * y).toInt = p := by
  have h1 := c_lmul x y; have h2 := rng64 (x * y); rw [hp] at h1; omega
theorem own_bnd {a b : Int} {A B : Nat} (ha : a.natAbs ≤ A) (hb : b.natAbs ≤ B) (h : A * B ≤ 2 ^ 53) : (a * b).natAbs ≤ 2 ^ 53 := by
  rw [Int.natAbs_mul]; exact Nat.le_trans (Nat.mul_le_mul ha hb) h
theorem own_toOf {x : Int64} {n : Nat} (h : x.toInt = (n : Int)) (hn : n < 2 ^ 62) : x = Int64.ofNat n :=
  Int64.toInt_inj.mp (h.trans (Int64.toInt_ofNat_of_lt (by omega)).symm)
theorem own_d (e : Int32) : ∃ E : Nat, E < 4 ∧ ((1 : Int64) <<< Int32.toInt64 ((e &&& (3 : Int32)) &&& 63)) = Int64.ofNat (2 ^ E) := by
  have he := c_mask e 3 2 (by decide) (by decide)
  have : (e &&& (3 : Int32)) = 0 ∨ (e &&& (3 : Int32)) = 1 ∨ (e &&& (3 : Int32)) = 2 ∨ (e &&& (3 : Int32)) = 3 := by
    simp only [← Int32.toInt_inj, he, show (0 : Int32).toInt = 0 from rfl, show (1 : Int32).toInt = 1 from rfl, show (2 : Int32).toInt = 2 from rfl, show (3 : Int32).toInt = 3 from rfl]
    omega
  rcases this with h | h | h | h <;> rw [h]
  · exact ⟨0, by decide, by decide⟩
  · exact ⟨1, by decide, by decide⟩
  · exact ⟨2, by decide, by decide⟩
  · exact ⟨3, by decide, by decide⟩
theorem own_nums (m k c e : Int32) : ∃ K K2 E : Nat, 1 ≤ K ∧ K < 2048 ∧ 1 ≤ K2 ∧ K2 < 2048 ∧ K ≤ K2 ∧ E < 4 ∧ (Int32.toInt64 ((k &&& (1023 : Int32)) + (1 : Int32))) = Int64.ofNat K ∧ ((Int32.toInt64 ((k &&& (1023 : Int32)) + (1 : Int32))) + (Int32.toInt64 (c &&& (1023 : Int32)))) = Int64.ofNat K2 ∧ ((1 : Int64) <<< Int32.toInt64 ((e &&& (3 : Int32)) &&& 63)) = Int64.ofNat (2 ^ E) ∧ Int64.toInt (((9 : Int64) * (Int32.toInt64 ((k &&& (1023 : Int32)) + (1 : Int32)))) * (Int32.toInt64 m)) = 9 * (K : Int) * m.toInt ∧ Int64.toInt (Int32.toInt64 m * ((1 : Int64) <<< Int32.toInt64 ((e &&& (3 : Int32)) &&& 63))) = m.toInt * ((2 ^ E : Nat) : Int) ∧ (Int64.toInt (((9 : Int64) * (Int32.toInt64 ((k &&& (1023 : Int32)) + (1 : Int32)))) * (Int32.toInt64 m))).natAbs ≤ 2 ^ 53 ∧ (Int64.toInt (Int32.toInt64 m * ((1 : Int64) <<< Int32.toInt64 ((e &&& (3 : Int32)) &&& 63)))).natAbs ≤ 2 ^ 53 := by
  obtain ⟨E, hE, ed⟩ := own_d e
  have hk := c_mask k 1023 10 (by decide) (by decide)
  have hc := c_mask c 1023 10 (by decide) (by decide)
  have hk1 : ((k &&& (1023 : Int32)) + (1 : Int32)).toInt = k.toInt % 1024 + 1 := by
    have h1 := c_iadd (k &&& (1023 : Int32)) 1; have h2 := rng32 ((k &&& (1023 : Int32)) + (1 : Int32))
    rw [hk, show (1 : Int32).toInt = 1 from rfl] at h1; omega
  have e1 : ((Int32.toInt64 ((k &&& (1023 : Int32)) + (1 : Int32)))).toInt = k.toInt % 1024 + 1 := by rw [c_i2l, hk1]
  have e2 : (((Int32.toInt64 ((k &&& (1023 : Int32)) + (1 : Int32))) + (Int32.toInt64 (c &&& (1023 : Int32))))).toInt = k.toInt % 1024 + 1 + c.toInt % 1024 := by
    have h1 := c_ladd (Int32.toInt64 ((k &&& (1023 : Int32)) + (1 : Int32))) (Int32.toInt64 (c &&& (1023 : Int32))); have h2 := rng64 ((Int32.toInt64 ((k &&& (1023 : Int32)) + (1 : Int32))) + (Int32.toInt64 (c &&& (1023 : Int32))))
    rw [e1, c_i2l, hc] at h1; omega
  have hm := rng32 m
  have dE : (Int64.ofNat (2 ^ E)).toInt = ((2 ^ E : Nat) : Int) := by
    have : E = 0 ∨ E = 1 ∨ E = 2 ∨ E = 3 := by omega
    rcases this with h | h | h | h <;> subst h <;> decide
  have d8 : 2 ^ E ≤ 2 ^ 3 := Nat.pow_le_pow_right (by decide) (by omega)
  obtain ⟨K, hK⟩ : ∃ K : Nat, (K : Int) = k.toInt % 1024 + 1 := ⟨(k.toInt % 1024 + 1).toNat, by omega⟩
  obtain ⟨K2, hK2⟩ : ∃ K2 : Nat, (K2 : Int) = k.toInt % 1024 + 1 + c.toInt % 1024 := ⟨(k.toInt % 1024 + 1 + c.toInt % 1024).toNat, by omega⟩
  have e9 : ((9 : Int64) * (Int32.toInt64 ((k &&& (1023 : Int32)) + (1 : Int32)))).toInt = 9 * (K : Int) := own_mulL (by rw [e1, ← hK]; rfl) (by omega)
  have bT : (9 * (K : Int) * m.toInt).natAbs ≤ 2 ^ 53 := own_bnd (A := 18432) (B := 2147483648) (by omega) (by omega) (by decide)
  have eT : ((((9 : Int64) * (Int32.toInt64 ((k &&& (1023 : Int32)) + (1 : Int32)))) * (Int32.toInt64 m))).toInt = 9 * (K : Int) * m.toInt := own_mulL (by rw [e9, c_i2l]) bT
  have bW : (m.toInt * ((2 ^ E : Nat) : Int)).natAbs ≤ 2 ^ 53 := own_bnd (A := 2147483648) (B := 8) (by omega) (by rw [Int.natAbs_natCast]; exact d8) (by decide)
  have eW : (Int32.toInt64 m * ((1 : Int64) <<< Int32.toInt64 ((e &&& (3 : Int32)) &&& 63))).toInt = m.toInt * ((2 ^ E : Nat) : Int) := own_mulL (by rw [c_i2l, ed, dE]) bW
  exact ⟨K, K2, E, by omega, by omega, by omega, by omega, by omega, hE, own_toOf (e1.trans hK.symm) (by omega), own_toOf (e2.trans hK2.symm) (by omega), ed, eT, eW, by rw [eT]; exact bT, by rw [eW]; exact bW⟩
set_option maxRecDepth 65536 in
set_option maxHeartbeats 40000000 in
theorem comes_1 {Post : Tables → Env → Array Value → State → Outcome → State → Prop} (hpost : ∀ tb e args s v u, (limb_1_1.after args s (.returned v) u = true ∧ limb_1_2.after args s (.returned v) u = true ∧ True) → FrameEnd s (.returned v) u (Jvm.fieldLocs frame_1_writes args s ++ Jvm.arrayLocs frame_1_arrays args s ++ Jvm.staticLocs frame_1_statics s) 0 0 → Post tb e args s (.returned v) u) :
    ArmFor flags0 classFile x code maxLocals ret World_1 tables_1 room_1 Calls_1 rest_1 Pre_1 Post := by
  intro l hfl _ _ p e ha hc hk s m args below hf hA hF happ hP
  obtain ⟨hcalls, hrest, hpre⟩ := hP
  obtain ⟨-, -, -, hnamed, -, -, -, hat⟩ := (Spec.applies_iff hf).mp happ
  obtain ⟨hg, hn⟩ := and_e (Cond.before_iff.mp (show (Jvm.Cond.and given_1 narrow_1).before args s = true from hpre))
  obtain ⟨hcount, g0⟩ := and_e hg
  obtain ⟨g0, g1⟩ := and_e g0
  obtain ⟨g1, g2⟩ := and_e g1
  obtain ⟨g2, g3⟩ := and_e g2
  obtain ⟨g3, g4⟩ := and_e g3
  obtain ⟨g4, g5⟩ := and_e g4
  obtain ⟨w0, w1, w2, w3, w4, w5, rfl⟩ : ∃ w0 w1 w2 w3 w4 w5 : Value, args = #[w0, w1, w2, w3, w4, w5] := by
    have hs : args.size = 6 := by simpa [Cond.value, given_1] using hcount
    obtain ⟨L⟩ := args
    match L, hs with
    | [w0, w1, w2, w3, w4, w5], _ => exact ⟨w0, w1, w2, w3, w4, w5, rfl⟩
  have hw := fun d (hd : d ∈ tables_1) => atoms_spec (ws := Jvm.Cond.code x code maxLocals ret :: tables_1) hat d (List.mem_cons_of_mem _ hd)
  have hfit : Fit s := fun {y c} hc i hi => by
    obtain ⟨ha, rfl⟩ := Array.getElem?_eq_some_iff.mp hc
    have q := List.all_eq_true.mp ((Array.all_eq_true_iff_forall_mem.mp hF) _ (Array.getElem_mem ha)) i (List.mem_range.mpr hi)
    simpa [Array.getElem?_eq_getElem hi] using q
  obtain ⟨x0, e0⟩ := isL_v g0
  obtain rfl : w0 = (.long x0) := Option.some.inj e0
  obtain ⟨x1, e1⟩ := isL_v g1
  obtain rfl : w1 = (.long x1) := Option.some.inj e1
  obtain ⟨x2, e2⟩ := is_v g2
  obtain rfl : w2 = (.int x2) := Option.some.inj e2
  obtain ⟨x3, e3⟩ := is_v g3
  obtain rfl : w3 = (.int x3) := Option.some.inj e3
  obtain ⟨x4, e4⟩ := is_v g4
  obtain rfl : w4 = (.int x4) := Option.some.inj e4
  obtain ⟨x5, e5⟩ := is_v g5
  obtain rfl : w5 = (.int x5) := Option.some.inj e5
  obtain ⟨K, K2, E, u1, u2, u3, u4, u5, u6, u7, u8, u9, u10, u11, u12, u13⟩ := own_nums x2 x3 x4 x5
  obtain ⟨n, o, h1, h2, h3, _, L, rfl, ⟨N, -, rfl⟩, hq⟩ := mt_of_kw (ws := tables_1) (P := ([], fun _ => False)) pf_law (fun m => by first | (simp [entryFrame, mkF, argsToLocals, Value.category, maxLocals]; done) | rfl) (kw_law l s _ hw x0 x1 x2 x3 x4 x5 s.heap s.heap.size K K2 E u1 u2 u3 u4 u5 u6 u7 u8 u9 u10 u11 u12 u13) p e ha hc hk s m _ below hf ((Spec.applies_iff_loose hf).mp happ).1 ⟨rfl, State.Warmed39.refl s, rfl⟩ trivial
  refine ⟨n, _, h1, h2, h3, hpost _ _ _ _ _ _ ⟨Cond.after_iff.mpr rfl, Cond.after_iff.mpr (eq_i res_at (Term.int_eval (1)) rfl), trivial⟩ ⟨hq.1, hq.2.1, (hq.2.2.sift fun y hy => Or.inr (N y hy)).mono (by decide) (by decide)⟩⟩
theorem main_1_1 : Claimed_1_1 := comes_1 fun _ _ _ _ _ _ h hF => ⟨h.1, hF⟩
theorem main_1_2 : Claimed_1_2 := comes_1 fun _ _ _ _ _ _ h hF => ⟨h.2.1, hF⟩
end Jvm.Pilot.@@N@@
namespace Jvm.Pilot.@@N@@
open Jvm Jvm.ClassFile Sem Op Lib Jvm.Free Jvm.Stand Jvm.Pilot.@@N@@.Jvm.D
/-! MADE BY PROGRAM (witnessworld.py) out of the Statement's table words and the real class files: 10 classes; the members and pool entries that the words name. The judged class is class 1, her method 1. -/
namespace start1
open Jvm.ClassFile
def u (s : String) : CpInfo := .utf8 (stringToUtf16 s)
/-- a pool by its gaps: so many unusable entries, then the entry; so many at the end -/
def gap : Nat → List CpInfo → List CpInfo
  | 0, r => r
  | n + 1, r => .unusable :: gap n r
def poolList (es : List (Nat × CpInfo)) (last : Nat) : List CpInfo := es.foldr (fun e r => gap e.1 (e.2 :: r)) (gap last [])
def pool (es : List (Nat × CpInfo)) (last : Nat) : Array CpInfo := ⟨poolList es last⟩
def fileOf (pool : Array CpInfo) (this : Nat) (attrs : Array Attribute := #[]) (ms : Array MethodInfo := #[]) (fl : Nat := 33) (sup : Nat := 0) (ifs : Array Nat := #[]) (fds : Array FieldInfo := #[]) : ClassFile where
  minorVersion := 0
  majorVersion := 65
  constantPool := pool
  accessFlags := fl
  thisClass := this
  superClass := sup
  interfaces := ifs
  fields := fds
  methods := ms
  attributes := attrs
def plain (name : String) (sup : Option ClassId) : Class where
  name := name
  kind := .ordinary
  loader := none
  accessFlags := 33
  super := sup
  interfaces := #[]
  cf := none
  fields := #[]
  methods := #[]
  instanceTypes := #[]
  staticTypes := #[]
  resolved := #[]
  callSites := []
  init := .initialized
  statics := none
  mirror := none

def pool0 : Array CpInfo := pool [(5, u "<init>"), (0, u "()V"), (1, .class_ 10), (1, u "java/lang/Object")] 113

def k0m0 : Method := { name := "<init>", desc := "()V", sig := { parameters := [], returnType := none }, accessFlags := 1, code := none }
/-- java/lang/Object -/
def k0 : Class := { plain "java/lang/Object" none with
  accessFlags := 33
  interfaces := #[]
  cf := some (fileOf pool0 8 #[] #[{ accessFlags := 1, nameIndex := 5, descriptorIndex := 6, attributes := #[] }] 33 0 #[] #[])
  fields := #[]
  methods := #[k0m0]
  instanceTypes := #[]
  staticTypes := #[]
  resolved := Array.replicate 124 none
  statics := none }

def pool1 : Array CpInfo := pool [(2, .class_ 4), (1, u "java/lang/Object"), (0, u "<init>"), (0, u "()V"), (0, .methodref 8 9), (0, .class_ 10), (0, .nameAndType 11 12), (0, u "com/example/lexrep/lexrep/model/Fsrs"), (0, u "retrievability"), (0, u "(JD)D"), (0, .long 9), (3, .long 9223372036854775807), (1, .methodref 20 21), (0, .class_ 22), (0, .nameAndType 23 24), (0, u "java/lang/Math"), (0, u "min"), (0, u "(JJ)J"), (0, .methodref 20 26), (0, .nameAndType 27 24), (0, u "max"), (0, .class_ 29), (0, u "com/example/lexrep/lexrep/model/FsrsRetrievabilityPinLaw"), (2, u "law"), (0, u "(JJIIII)Z")] 3

def k1m0 : Method := { name := "<init>", desc := "()V", sig := { parameters := [], returnType := none }, accessFlags := 1, code := none }
def k1c1 : Code := { maxStack := 8, maxLocals := 37, code := code, exceptionTable := #[], attributes := #[] }
def k1m1 : Method := { name := "law", desc := "(JJIIII)Z", sig := { parameters := [.long, .long, .int, .int, .int, .int], returnType := some .boolean }, accessFlags := 9, code := some k1c1 }
/-- com/example/lexrep/lexrep/model/FsrsRetrievabilityPinLaw -/
def k1 : Class := { plain "com/example/lexrep/lexrep/model/FsrsRetrievabilityPinLaw" (some 0) with
  accessFlags := 49
  interfaces := #[]
  cf := some (fileOf pool1 28 #[] #[{ accessFlags := 1, nameIndex := 5, descriptorIndex := 6, attributes := #[] }, { accessFlags := 9, nameIndex := 32, descriptorIndex := 33, attributes := #[] }] 49 2 #[] #[])
  fields := #[]
  methods := #[k1m0, k1m1]
  instanceTypes := #[]
  staticTypes := #[]
  resolved := Array.replicate 37 none
  statics := none }

def pool2 : Array CpInfo := pool [(2, .class_ 4), (1, u "java/lang/Object"), (0, u "<init>"), (0, u "()V"), (1, .class_ 10), (1, u "com/example/lexrep/lexrep/model/Fsrs"), (0, u "W"), (0, u "[D"), (58, .class_ 73), (1, u "com/example/lexrep/lexrep/model/Fsrs$1"), (10, .double 4621256167635550208), (50, u "REQUESTED_RETENTION"), (0, u "D"), (3, u "CURVE_FACTOR"), (0, u "MIN_DIFFICULTY"), (2, u "MAX_DIFFICULTY"), (0, u "MIN_STABILITY"), (0, u "MIN_INTERVAL_DAYS"), (0, u "J"), (2, u "MAX_INTERVAL_DAYS"), (8, u "retrievability"), (0, u "(JD)D")] 5

def k2m0 : Method := { name := "<init>", desc := "()V", sig := { parameters := [], returnType := none }, accessFlags := 2, code := none }
def k2c1 : Code := { maxStack := 10, maxLocals := 4, code := prog_25_method_8_code, exceptionTable := #[], attributes := #[] }
def k2m1 : Method := { name := "retrievability", desc := "(JD)D", sig := { parameters := [.long, .double], returnType := some .double }, accessFlags := 9, code := some k2c1 }
/-- com/example/lexrep/lexrep/model/Fsrs -/
def k2 : Class := { plain "com/example/lexrep/lexrep/model/Fsrs" (some 0) with
  accessFlags := 49
  interfaces := #[]
  cf := some (fileOf pool2 8 #[.nestMembers #[71]] #[{ accessFlags := 2, nameIndex := 5, descriptorIndex := 6, attributes := #[] }, { accessFlags := 9, nameIndex := 159, descriptorIndex := 160, attributes := #[] }] 49 2 #[] #[{ accessFlags := 26, nameIndex := 11, descriptorIndex := 12, attributes := #[] }, { accessFlags := 26, nameIndex := 135, descriptorIndex := 136, attributes := #[] }, { accessFlags := 26, nameIndex := 140, descriptorIndex := 136, attributes := #[] }, { accessFlags := 26, nameIndex := 141, descriptorIndex := 136, attributes := #[] }, { accessFlags := 26, nameIndex := 144, descriptorIndex := 136, attributes := #[] }, { accessFlags := 26, nameIndex := 145, descriptorIndex := 136, attributes := #[] }, { accessFlags := 26, nameIndex := 146, descriptorIndex := 147, attributes := #[] }, { accessFlags := 26, nameIndex := 150, descriptorIndex := 147, attributes := #[] }])
  fields := #[{ name := "W", type := (.array .double), accessFlags := 26, slot := 0, constantValue := 0 }, { name := "REQUESTED_RETENTION", type := .double, accessFlags := 26, slot := 1, constantValue := 0 }, { name := "CURVE_FACTOR", type := .double, accessFlags := 26, slot := 2, constantValue := 0 }, { name := "MIN_DIFFICULTY", type := .double, accessFlags := 26, slot := 3, constantValue := 0 }, { name := "MAX_DIFFICULTY", type := .double, accessFlags := 26, slot := 4, constantValue := 0 }, { name := "MIN_STABILITY", type := .double, accessFlags := 26, slot := 5, constantValue := 0 }, { name := "MIN_INTERVAL_DAYS", type := .long, accessFlags := 26, slot := 6, constantValue := 0 }, { name := "MAX_INTERVAL_DAYS", type := .long, accessFlags := 26, slot := 7, constantValue := 0 }]
  methods := #[k2m0, k2m1]
  instanceTypes := #[]
  staticTypes := #[(.array .double), .double, .double, .double, .double, .double, .long, .long]
  resolved := Array.replicate 166 none
  statics := none }

def pool3 : Array CpInfo := pool [(1, .class_ 2), (0, u "java/lang/Math"), (1, .class_ 6), (1, u "java/lang/Object"), (0, u "<init>"), (0, u "()V"), (89, .class_ 100), (1, u "java/lang/Math$RandomNumberGeneratorHolder"), (20, u "(JJ)J"), (50, u "negativeZeroFloatBits"), (0, u "J"), (2, u "negativeZeroDoubleBits"), (21, u "max"), (2, u "min"), (43, u "$assertionsDisabled"), (0, u "Z"), (91, u "twoToTheDoubleScaleDown"), (0, u "D"), (4, u "twoToTheDoubleScaleUp"), (9, u "E"), (3, u "PI"), (2, u "TAU"), (2, u "DEGREES_TO_RADIANS"), (0, u "RADIANS_TO_DEGREES")] 94

def k3m0 : Method := { name := "<init>", desc := "()V", sig := { parameters := [], returnType := none }, accessFlags := 2, code := none }
def k3c1 : Code := { maxStack := 4, maxLocals := 4, code := jdk_29_method_66_code, exceptionTable := #[], attributes := #[] }
def k3m1 : Method := { name := "max", desc := "(JJ)J", sig := { parameters := [.long, .long], returnType := some .long }, accessFlags := 9, code := some k3c1 }
def k3c2 : Code := { maxStack := 4, maxLocals := 4, code := jdk_29_method_70_code, exceptionTable := #[], attributes := #[] }
def k3m2 : Method := { name := "min", desc := "(JJ)J", sig := { parameters := [.long, .long], returnType := some .long }, accessFlags := 9, code := some k3c2 }
/-- java/lang/Math -/
def k3 : Class := { plain "java/lang/Math" (some 0) with
  accessFlags := 49
  interfaces := #[]
  cf := some (fileOf pool3 1 #[.nestMembers #[98]] #[{ accessFlags := 2, nameIndex := 7, descriptorIndex := 8, attributes := #[] }, { accessFlags := 9, nameIndex := 198, descriptorIndex := 121, attributes := #[] }, { accessFlags := 9, nameIndex := 201, descriptorIndex := 121, attributes := #[] }] 49 4 #[] #[{ accessFlags := 25, nameIndex := 354, descriptorIndex := 339, attributes := #[] }, { accessFlags := 25, nameIndex := 358, descriptorIndex := 339, attributes := #[] }, { accessFlags := 25, nameIndex := 361, descriptorIndex := 339, attributes := #[] }, { accessFlags := 26, nameIndex := 364, descriptorIndex := 339, attributes := #[] }, { accessFlags := 26, nameIndex := 365, descriptorIndex := 339, attributes := #[] }, { accessFlags := 26, nameIndex := 172, descriptorIndex := 173, attributes := #[] }, { accessFlags := 26, nameIndex := 176, descriptorIndex := 173, attributes := #[] }, { accessFlags := 8, nameIndex := 344, descriptorIndex := 339, attributes := #[] }, { accessFlags := 8, nameIndex := 338, descriptorIndex := 339, attributes := #[] }, { accessFlags := 4120, nameIndex := 245, descriptorIndex := 246, attributes := #[] }])
  fields := #[{ name := "E", type := .double, accessFlags := 25, slot := 0, constantValue := 0 }, { name := "PI", type := .double, accessFlags := 25, slot := 1, constantValue := 0 }, { name := "TAU", type := .double, accessFlags := 25, slot := 2, constantValue := 0 }, { name := "DEGREES_TO_RADIANS", type := .double, accessFlags := 26, slot := 3, constantValue := 0 }, { name := "RADIANS_TO_DEGREES", type := .double, accessFlags := 26, slot := 4, constantValue := 0 }, { name := "negativeZeroFloatBits", type := .long, accessFlags := 26, slot := 5, constantValue := 0 }, { name := "negativeZeroDoubleBits", type := .long, accessFlags := 26, slot := 6, constantValue := 0 }, { name := "twoToTheDoubleScaleUp", type := .double, accessFlags := 8, slot := 7, constantValue := 0 }, { name := "twoToTheDoubleScaleDown", type := .double, accessFlags := 8, slot := 8, constantValue := 0 }, { name := "$assertionsDisabled", type := .boolean, accessFlags := 4120, slot := 9, constantValue := 0 }]
  methods := #[k3m0, k3m1, k3m2]
  instanceTypes := #[]
  staticTypes := #[.double, .double, .double, .double, .double, .long, .long, .double, .double, .boolean]
  resolved := Array.replicate 460 none
  statics := none }

def pool4 : Array CpInfo := pool [(1, u "java/lang/Cloneable"), (0, .class_ 1), (0, u "java/lang/Object"), (0, .class_ 3)] 3

/-- java/lang/Cloneable -/
def k4 : Class := { plain "java/lang/Cloneable" (some 0) with
  accessFlags := 1537
  interfaces := #[]
  cf := some (fileOf pool4 2 #[] #[] 1537 4 #[] #[])
  fields := #[]
  methods := #[]
  instanceTypes := #[]
  staticTypes := #[]
  resolved := Array.replicate 8 none
  statics := none }

def pool5 : Array CpInfo := pool [(1, u "java/io/Serializable"), (0, .class_ 1), (0, u "java/lang/Object"), (0, .class_ 3)] 3

/-- java/io/Serializable -/
def k5 : Class := { plain "java/io/Serializable" (some 0) with
  accessFlags := 1537
  interfaces := #[]
  cf := some (fileOf pool5 2 #[] #[] 1537 4 #[] #[])
  fields := #[]
  methods := #[]
  instanceTypes := #[]
  staticTypes := #[]
  resolved := Array.replicate 8 none
  statics := none }

/-- the primitive byte -/
def k6 : Class := { plain "byte" none with kind := .primitive 'B', accessFlags := 0x411 }
/-- [B -/
def k7 : Class := { plain "[B" (some 0) with kind := .array 6 .byte, interfaces := #[4, 5], accessFlags := 1041 }

/-- the primitive int -/
def k8 : Class := { plain "int" none with kind := .primitive 'I', accessFlags := 0x411 }
/-- [I -/
def k9 : Class := { plain "[I" (some 0) with kind := .array 8 .int, interfaces := #[4, 5], accessFlags := 1041 }

def heap : Heap := #[]
def classes : Array Class := #[k0, k1, k2, k3, k4, k5, k6, k7, k8, k9]
def interned : List (Array UInt16 × Addr) := []
def slotsUsed : Nat := 0
def theMethod : MethodId := ⟨1, 1⟩
def args0 : Array Value := #[.long 5, .long 7, .int 3, .int 4, .int 5, .int 6]
def aboutOver (below : List Frame) : State where
  vm := { classes := classes, interned := interned.toArray }
  heap := heap
  slotsUsed := slotsUsed
  threads := #[{ frames := .invoking theMethod args0 :: below }]
def below0 : List Frame := [.native { method := ⟨0, 0⟩, args := #[] }]
def about1 : State := aboutOver below0
def p0 : Program := .bare "" "" ""
def e0 : Env := launch0.env 0 0 0
theorem w_frames : about1.frames = Frame.invoking theMethod args0 :: below0 := rfl
set_option maxRecDepth 65536 in
theorem w_args : argsFit about1.vm theMethod args0 = true := by decide +kernel
set_option maxRecDepth 65536 in
theorem w_heap : heapFits about1 = true := by decide +kernel
set_option maxRecDepth 65536 in
theorem w_runnable : about1.curStatus? = some .runnable := by decide +kernel
set_option maxRecDepth 65536 in
theorem w_alone : about1.alone = true := by decide +kernel
set_option maxRecDepth 65536 in
theorem w_named : about1.methodNamed? x = some theMethod := by decide +kernel
set_option maxRecDepth 65536 in
theorem w_hears : about1.hears theMethod below0 = true := by decide +kernel
set_option maxRecDepth 65536 in
theorem w_ripe : about1.ripe theMethod args0 below0 = true := by decide +kernel
theorem w_running : about1.status = .running := rfl
set_option maxRecDepth 65536 in
theorem w_room : about1.hasRoom e0.platform room_1 = true :=
  launch0.hasRoom_least _ room_1 (by decide +kernel) (by decide +kernel) (by decide +kernel) (by decide +kernel) (by decide +kernel) (by decide +kernel)
theorem allAtoms_all (ts : List Jvm.Cond) (a : Array Jvm.Value) (st : Jvm.State) : (allAtoms ts).before a st = ts.all (fun c => c.before a st) := by
  induction ts with
  | nil => rfl
  | cons c t ih =>
    show (Jvm.Cond.and c (allAtoms t)).before a st = _
    rw [Jvm.Cond.before_and, ih, List.all_cons]
def words1 : List Jvm.Cond := Jvm.Cond.code x code maxLocals ret :: tables_1
/-- a 'code' word, met by the world's own term for the bytes: nothing is compared byte by byte -/
theorem code_word {y : MethodName} {bytes : ByteArray} {mx : Nat} {rt : Option FieldType} {a : Array Value} {s : State} {m : MethodId} {meth : Method} {c : Code} (h1 : s.methodNamed? y = some m) (h2 : s.vm.method? m = some meth) (h3 : meth.code = some c) (h4 : c.code = bytes)
    (h5 : (c.maxLocals == mx && c.exceptionTable.isEmpty && decide (c.maxStack ≤ mostOperands) && decide (meth.sig.returnType = rt) && !meth.locks && decide (parseMethodDescriptor y.desc = some meth.sig)) = true) : (Jvm.Cond.code y bytes mx rt).before a s = true := by
  simp only [Bool.and_eq_true, beq_iff_eq, Bool.not_eq_true', decide_eq_true_eq] at h5
  obtain ⟨⟨⟨⟨⟨g1, g2⟩, g3⟩, g4⟩, g5⟩, g6⟩ := h5
  simp [Cond.before, Cond.holds, Cond.value, h1, h2, h3, h4, g1, g2, g3, g4, g5, g6]
def isCode : Jvm.Cond → Bool
  | .code _ _ _ _ => true
  | _ => false
theorem all_split {L : List Jvm.Cond} {P : Jvm.Cond → Bool} (h1 : L.all (fun c => isCode c || P c) = true) (h2 : ∀ c ∈ L.filter isCode, P c = true) : L.all P = true := by
  refine List.all_eq_true.mpr fun c hc => ?_
  have h := List.all_eq_true.mp h1 c hc
  rcases Bool.eq_false_or_eq_true (isCode c) with hi | hi
  · exact h2 c (List.mem_filter.mpr ⟨hc, hi⟩)
  · simpa [hi] using h
set_option maxRecDepth 65536 in
theorem w_c0 : (Jvm.Cond.code x code maxLocals ret).before args0 about1 = true := code_word (m := ⟨1, 1⟩) (meth := k1m1) (c := k1c1) (by decide +kernel) rfl rfl rfl (by decide +kernel)
set_option maxRecDepth 65536 in
theorem w_c1 : (Jvm.Cond.code ({ cls := "com/example/lexrep/lexrep/model/Fsrs", name := "retrievability", desc := "(JD)D" } : Jvm.MethodName) prog_25_method_8_code (4 : Nat) (Option.some Jvm.ClassFile.FieldType.double)).before args0 about1 = true := code_word (m := ⟨2, 1⟩) (meth := k2m1) (c := k2c1) (by decide +kernel) rfl rfl rfl (by decide +kernel)
set_option maxRecDepth 65536 in
theorem w_c2 : (Jvm.Cond.code ({ cls := "java/lang/Math", name := "min", desc := "(JJ)J" } : Jvm.MethodName) jdk_29_method_70_code (4 : Nat) (Option.some Jvm.ClassFile.FieldType.long)).before args0 about1 = true := code_word (m := ⟨3, 2⟩) (meth := k3m2) (c := k3c2) (by decide +kernel) rfl rfl rfl (by decide +kernel)
set_option maxRecDepth 65536 in
theorem w_c3 : (Jvm.Cond.code ({ cls := "java/lang/Math", name := "max", desc := "(JJ)J" } : Jvm.MethodName) jdk_29_method_66_code (4 : Nat) (Option.some Jvm.ClassFile.FieldType.long)).before args0 about1 = true := code_word (m := ⟨3, 1⟩) (meth := k3m1) (c := k3c1) (by decide +kernel) rfl rfl rfl (by decide +kernel)
def codes1 : List Jvm.Cond := [Jvm.Cond.code x code maxLocals ret, Jvm.Cond.code ({ cls := "com/example/lexrep/lexrep/model/Fsrs", name := "retrievability", desc := "(JD)D" } : Jvm.MethodName) prog_25_method_8_code (4 : Nat) (Option.some Jvm.ClassFile.FieldType.double), Jvm.Cond.code ({ cls := "java/lang/Math", name := "min", desc := "(JJ)J" } : Jvm.MethodName) jdk_29_method_70_code (4 : Nat) (Option.some Jvm.ClassFile.FieldType.long), Jvm.Cond.code ({ cls := "java/lang/Math", name := "max", desc := "(JJ)J" } : Jvm.MethodName) jdk_29_method_66_code (4 : Nat) (Option.some Jvm.ClassFile.FieldType.long)]
set_option maxRecDepth 65536 in
theorem codes_eq : words1.filter isCode = codes1 := rfl
theorem w_codes : ∀ c ∈ words1.filter isCode, c.before args0 about1 = true := by
  rw [codes_eq]
  intro c hc
  simp only [codes1, List.mem_cons, List.not_mem_nil, or_false] at hc
  rcases hc with rfl | rfl | rfl | rfl
  · exact w_c0
  · exact w_c1
  · exact w_c2
  · exact w_c3
set_option maxRecDepth 65536 in
theorem w_t1 : words1.all (fun c => isCode c || c.before args0 about1) = true := by decide +kernel
theorem w_tables : (allAtoms (Jvm.Cond.code x code maxLocals ret :: tables_1)).before args0 about1 = true := by
  rw [allAtoms_all]
  show words1.all (fun c => c.before args0 about1) = true
  refine all_split ?_ w_codes
  rw [w_t1]
set_option maxRecDepth 65536 in
theorem w_case : (Jvm.Cond.and given_1 narrow_1).before args0 about1 = true := by decide +kernel
theorem w_applies : (headSpec (Jvm.Cond.code x code maxLocals ret :: tables_1) room_1).applies x e0.platform about1 = true :=
  (Spec.applies_iff w_frames).mpr ⟨w_running, w_runnable, w_alone, w_named, w_hears, w_ripe, w_room, w_tables⟩
theorem atStart : AtStart classFile x code maxLocals ret World_1 tables_1 room_1 Calls_1 rest_1 Pre_1 launch0 p0 e0 about1 theMethod args0 below0 :=
  ⟨lists_1, trivial, launch0.admits_env _ _ _, launch0.least_env, fairChoices_fair.cas, fairChoices_fair.clock, w_frames, w_args, w_heap, w_applies, trivial, trivial, w_case⟩
end start1
theorem witness_1 : WitnessClaimed_1 := ⟨start1.p0, start1.e0, start1.about1, start1.theMethod, start1.args0, start1.below0, start1.atStart⟩
end Jvm.Pilot.@@N@@
