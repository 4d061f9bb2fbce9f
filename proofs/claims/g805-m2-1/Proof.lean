import JvmDerived
import JvmDerived.Pilot.@@N@@Statement
import JvmDerived.Pilot.@@N@@Code
set_option linter.unusedVariables false
set_option linter.unusedSimpArgs false

namespace Jvm.OwnW
open Sem ClassFile Op Lib Jvm.Stand Jvm.Free Jvm.LawKit Jvm.RoadKit
/-- a method: its name, bytes, number of variables, return type, room -/
abbrev MD := MethodName × ByteArray × Nat × Option FieldType × Room
/-- what a wide walk knows besides: the String constants that it reads, and addresses that are no such String's -/
abbrev PX := List (String × Nat) × (Addr → Prop)
abbrev PX.grow (P : PX) (h h' : Heap) : PX := (P.1, fun x => P.2 x ∨ (h.size ≤ x ∧ x < h'.size))
/-- x is none of the constants' cells -/
def Sf (Z : State) (P : PX) (h : Heap) (x : Addr) : Prop := P.2 x ∨ ∀ vm, Z.vm.Alike vm → Safe Z P.1 vm h x
/-- the state over which the walk stands: the start itself, or (wide) the start with later tables -/
def KB (wd : Bool) (Z : State) (P : PX) (s s' : State) (h : Heap) : Prop :=
  (wd = false ∧ s' = s) ∨ (wd = true ∧ ∃ vm0 k0, s' = s.setVm vm0 ∧ s.Since vm0 k0 ∧ k0 ≤ h.size ∧ CHr Z P.1 s.vm s.heap vm0 h ∧ ∀ x, P.2 x → Safe Z P.1 vm0 h x ∧ x < h.size)
theorem KB.keep {wd : Bool} {Z : State} {P : PX} {s s' : State} {h h' : Heap} {ws : List Addr} (B : KB wd Z P s s' h) (hZ : Z.Warmed39 s'.vm) (K : Keep h h' ws) (q : wd = true → ∀ x ∈ ws, Sf Z P h x) : KB wd Z (P.grow h h') s s' h' := by
  rcases B with ⟨a, b⟩ | ⟨a, vm0, k0, rfl, c, d, e, f⟩
  · exact Or.inl ⟨a, b⟩
  · have hs : ∀ x ∈ ws, Safe Z P.1 vm0 h x := fun x hx => (q a x hx).elim (fun r => (f x r).1) (fun r => r vm0 hZ.alike)
    refine Or.inr ⟨a, vm0, k0, rfl, c, Nat.le_trans d K.1, e.trans (CHr.keep K hs e.1), fun x hx => ?_⟩
    rcases hx with hx | ⟨hx, hx'⟩
    · exact ⟨Safe.keep K hs e.1 (f x hx).1, Nat.lt_of_lt_of_le (f x hx).2 K.1⟩
    · exact ⟨Safe.keep K hs e.1 (Safe.new hx), hx'⟩
theorem KB.ext {wd : Bool} {Z : State} {P : PX} {s s' : State} {h h' : Heap} (B : KB wd Z P s s' h) (E : Ext h h') : KB wd Z (P.grow h h') s s' h' := by
  rcases B with ⟨a, b⟩ | ⟨a, vm0, k0, rfl, c, d, e, f⟩
  · exact Or.inl ⟨a, b⟩
  · refine Or.inr ⟨a, vm0, k0, rfl, c, Nat.le_trans d E.1, e.trans (CHr.ext E e.1), fun x hx => ?_⟩
    rcases hx with hx | ⟨hx, hx'⟩
    · exact ⟨Safe.ext E e.1 (f x hx).1, Nat.lt_of_lt_of_le (f x hx).2 E.1⟩
    · exact ⟨Safe.ext E e.1 (Safe.new hx), hx'⟩
theorem KB.wr {wd : Bool} {Z : State} {P : PX} {s s' : State} {h h' : Heap} {a : Addr} {sl : Nat} {v : Value} (B : KB wd Z P s s' h) (hZ : Z.Warmed39 s'.vm) (W : Wr h h' a sl v) (q : wd = true → Sf Z P h a) : KB wd Z P s s' h' := by
  rcases B with ⟨a, b⟩ | ⟨a, vm0, k0, rfl, c, d, e, f⟩
  · exact Or.inl ⟨a, b⟩
  · have hs : Safe Z P.1 vm0 h _ := (q a).elim (fun r => (f _ r).1) (fun r => r vm0 hZ.alike)
    exact Or.inr ⟨a, vm0, k0, rfl, c, by rw [W.size]; exact d, e.trans (CHr.wr W hs e.1), fun x hx => ⟨Safe.wr W hs e.1 (f x hx).1, by rw [W.size]; exact (f x hx).2⟩⟩
theorem KB.sub {wd : Bool} {Z : State} {P : PX} {S' : Addr → Prop} {s s' : State} {h : Heap} (B : KB wd Z P s s' h) (q : ∀ x, S' x → P.2 x) : KB wd Z (P.1, S') s s' h :=
  B.imp id fun ⟨a, vm0, k0, b, c, d, e, f⟩ => ⟨a, vm0, k0, b, c, d, e, fun x hx => f x (q x hx)⟩
def KE (wd : Bool) (Z s : State) (v : Option Value) (t : State) (L : List Loc) (EL : List (String × Nat)) (k n : Nat) : Prop :=
  (wd = false ∧ FrameEnd s (.returned v) t L k n) ∨ (wd = true ∧ CHr Z EL s.vm s.heap t.vm t.heap ∧ ReturnedEndW s (.returned v) t L k n)
/-- the walk's judgement: from here the method returns, and what it leaves meets Q -/
def KW (wd : Bool) (l : Launch) (Z : State) (M : MD) (n0 : Nat) (Q : Option Value → Heap → Prop) (P : PX) (h : Heap) (k n : Nat) (pc : Nat) (Ls : Array Slot) (st : List Value) : Prop :=
  ∀ (p : Program) (e : Env) (s s' : State) (m : MethodId) (args : Array Value) (below : List Frame) (meth : Method) (c : Code),
    p.tables.exec = Jvm.exec → c.code = M.2.1 → c.maxLocals = M.2.2.1 → s'.vm.findClass M.1.cls = some m.cls → meth.name = M.1.name → meth.sig.returnType = M.2.2.2.1 → meth.locks = false → Z.Warmed39 s'.vm → KB wd Z P s s' h → (wd = true → ∃ a0, EW Z a0 P.1) →
    ∀ (T : State) (locs : List Loc), Stand p l e M.2.2.2.2 s' m args below meth c T locs k n → Fr n0 locs → T.heap = h →
    ∃ t v L, Steps p.tables e below (T.setTop (mkF m pc Ls st)) t ∧ t.status = .running ∧ Ended t below (.returned v) ∧ Fr n0 L ∧ Q v t.heap ∧ KE wd Z s v t L P.1 M.2.2.2.2.cells M.2.2.2.2.slots
section
variable {wd : Bool} {l : Launch} {Z : State} {M : MD} {n0 : Nat} {Q : Option Value → Heap → Prop} {P : PX} {h : Heap} {k n pc pc' : Nat} {Ls Ls' : Array Slot} {st st' rest : List Value} {a0 : Array Value}
theorem KW.step (W : KW wd l Z M n0 Q P h k n pc' Ls' st') (f : ∀ (p : Program) (e : Env) (s' T : State) (m : MethodId) (args : Array Value) (below : List Frame) (meth : Method) (c : Code) (locs : List Loc), p.tables.exec = Jvm.exec → c.code = M.2.1 → s'.vm.findClass M.1.cls = some m.cls → Z.Warmed39 s'.vm → Stand p l e M.2.2.2.2 s' m args below meth c T locs k n →
    ∀ target, Steps p.tables e below (T.setTop (mkF m pc' Ls' st')) target → Steps p.tables e below (T.setTop (mkF m pc Ls st)) target) : KW wd l Z M n0 Q P h k n pc Ls st := by
  intro p e s s' m args below meth c hx hby hml hown hnm hret hlk hZ hB hI T locs X N eT
  obtain ⟨t, v, L, r, rr⟩ := W p e s s' m args below meth c hx hby hml hown hnm hret hlk hZ hB hI T locs X N eT
  exact ⟨t, v, L, f p e s' T m args below meth c locs hx hby hown hZ X t r, rr⟩
theorem KW.move (W : KW wd l Z M n0 Q P h k n pc' Ls' st') (f : ∀ (p : Program) (e : Env) (s' T : State) (m : MethodId) (args : Array Value) (below : List Frame) (meth : Method) (c : Code) (locs : List Loc), p.tables.exec = Jvm.exec → c.code = M.2.1 → c.maxLocals = M.2.2.1 → s'.vm.findClass M.1.cls = some m.cls → Z.Warmed39 s'.vm → Stand p l e M.2.2.2.2 s' m args below meth c T locs k n → T.heap = h →
    ∃ T', Stand p l e M.2.2.2.2 s' m args below meth c T' locs k n ∧ T'.heap = h ∧ ∀ target, Steps p.tables e below (T'.setTop (mkF m pc' Ls' st')) target → Steps p.tables e below (T.setTop (mkF m pc Ls st)) target) : KW wd l Z M n0 Q P h k n pc Ls st := by
  intro p e s s' m args below meth c hx hby hml hown hnm hret hlk hZ hB hI T locs X N eT
  obtain ⟨T', X', eT', st⟩ := f p e s' T m args below meth c locs hx hby hml hown hZ X eT
  obtain ⟨t, v, L, r, rr⟩ := W p e s s' m args below meth c hx hby hml hown hnm hret hlk hZ hB hI T' locs X' N eT'
  exact ⟨t, v, L, st t r, rr⟩
theorem k_aloadN {i : Fin 4} {v : Value} (hd : decode M.2.1 pc = .ok (.aload_n i, 1)) (hp : pc + 1 = pc') (hl : Ls[i.val]? = some (.val v)) (hv : v.isRef = true) (W : KW wd l Z M n0 Q P h k n pc' Ls (v :: st)) : KW wd l Z M n0 Q P h k n pc Ls st := by
  subst hp; exact W.step fun p e s' T m args below meth c locs hx hby hown hZ X target r => XS.aloadN X.here hx rfl (hb hby hd) hl hv r
theorem k_aload {i : Nat} {v : Value} (hd : decode M.2.1 pc = .ok (.aload i, 2)) (hp : pc + 2 = pc') (hl : Ls[i]? = some (.val v)) (hv : v.isRef = true) (W : KW wd l Z M n0 Q P h k n pc' Ls (v :: st)) : KW wd l Z M n0 Q P h k n pc Ls st := by
  subst hp; exact W.step fun p e s' T m args below meth c locs hx hby hown hZ X target r => XS.aload X.here hx rfl (hb hby hd) hl hv r
theorem k_iloadN {i : Fin 4} {v : Int32} (hd : decode M.2.1 pc = .ok (.iload_n i, 1)) (hp : pc + 1 = pc') (hl : Ls[i.val]? = some (.val (.int v))) (W : KW wd l Z M n0 Q P h k n pc' Ls (.int v :: st)) : KW wd l Z M n0 Q P h k n pc Ls st := by
  subst hp; exact W.step fun p e s' T m args below meth c locs hx hby hown hZ X target r => XS.iloadN X.here hx rfl (hb hby hd) hl r
theorem k_iload {i : Nat} {v : Int32} (hd : decode M.2.1 pc = .ok (.iload i, 2)) (hp : pc + 2 = pc') (hl : Ls[i]? = some (.val (.int v))) (W : KW wd l Z M n0 Q P h k n pc' Ls (.int v :: st)) : KW wd l Z M n0 Q P h k n pc Ls st := by
  subst hp; exact W.step fun p e s' T m args below meth c locs hx hby hown hZ X target r => XS.iload X.here hx rfl (hb hby hd) hl r
theorem k_lloadN {i : Fin 4} {v : Int64} (hd : decode M.2.1 pc = .ok (.lload_n i, 1)) (hp : pc + 1 = pc') (hl : Ls[i.val]? = some (.val (.long v))) (W : KW wd l Z M n0 Q P h k n pc' Ls (.long v :: st)) : KW wd l Z M n0 Q P h k n pc Ls st := by
  subst hp; exact W.step fun p e s' T m args below meth c locs hx hby hown hZ X target r => XS.lloadN X.here hx rfl (hb hby hd) hl r
theorem k_lload {i : Nat} {v : Int64} (hd : decode M.2.1 pc = .ok (.lload i, 2)) (hp : pc + 2 = pc') (hl : Ls[i]? = some (.val (.long v))) (W : KW wd l Z M n0 Q P h k n pc' Ls (.long v :: st)) : KW wd l Z M n0 Q P h k n pc Ls st := by
  subst hp; exact W.step fun p e s' T m args below meth c locs hx hby hown hZ X target r => XS.lload X.here hx rfl (hb hby hd) hl r
theorem k_istoreN {i : Fin 4} {x : Int32} (hd : decode M.2.1 pc = .ok (.istore_n i, 1)) (hp : pc + 1 = pc') (hl : storeLocals Ls i.val (.int x) = some Ls') (W : KW wd l Z M n0 Q P h k n pc' Ls' st) : KW wd l Z M n0 Q P h k n pc Ls (.int x :: st) := by
  subst hp; exact W.step fun p e s' T m args below meth c locs hx hby hown hZ X target r => XS.istoreN X.here hx rfl (hb hby hd) rfl hl r
theorem k_istore {i : Nat} {x : Int32} (hd : decode M.2.1 pc = .ok (.istore i, 2)) (hp : pc + 2 = pc') (hl : storeLocals Ls i (.int x) = some Ls') (W : KW wd l Z M n0 Q P h k n pc' Ls' st) : KW wd l Z M n0 Q P h k n pc Ls (.int x :: st) := by
  subst hp; exact W.step fun p e s' T m args below meth c locs hx hby hown hZ X target r => XS.istore X.here hx rfl (hb hby hd) rfl hl r
theorem k_lstoreN {i : Fin 4} {x : Int64} (hd : decode M.2.1 pc = .ok (.lstore_n i, 1)) (hp : pc + 1 = pc') (hl : storeLocals Ls i.val (.long x) = some Ls') (W : KW wd l Z M n0 Q P h k n pc' Ls' st) : KW wd l Z M n0 Q P h k n pc Ls (.long x :: st) := by
  subst hp; exact W.step fun p e s' T m args below meth c locs hx hby hown hZ X target r => XS.lstoreN X.here hx rfl (hb hby hd) rfl hl r
theorem k_lstore {i : Nat} {x : Int64} (hd : decode M.2.1 pc = .ok (.lstore i, 2)) (hp : pc + 2 = pc') (hl : storeLocals Ls i (.long x) = some Ls') (W : KW wd l Z M n0 Q P h k n pc' Ls' st) : KW wd l Z M n0 Q P h k n pc Ls (.long x :: st) := by
  subst hp; exact W.step fun p e s' T m args below meth c locs hx hby hown hZ X target r => XS.lstore X.here hx rfl (hb hby hd) rfl hl r
theorem k_astoreN {i : Fin 4} {x : Value} (hd : decode M.2.1 pc = .ok (.astore_n i, 1)) (hp : pc + 1 = pc') (hv : x.isRef = true) (hl : storeLocals Ls i.val x = some Ls') (W : KW wd l Z M n0 Q P h k n pc' Ls' st) : KW wd l Z M n0 Q P h k n pc Ls (x :: st) := by
  subst hp; exact W.step fun p e s' T m args below meth c locs hx hby hown hZ X target r => XS.astoreN X.here hx rfl (hb hby hd) rfl hv hl r
theorem k_astore {i : Nat} {x : Value} (hd : decode M.2.1 pc = .ok (.astore i, 2)) (hp : pc + 2 = pc') (hv : x.isRef = true) (hl : storeLocals Ls i x = some Ls') (W : KW wd l Z M n0 Q P h k n pc' Ls' st) : KW wd l Z M n0 Q P h k n pc Ls (x :: st) := by
  subst hp; exact W.step fun p e s' T m args below meth c locs hx hby hown hZ X target r => XS.astore X.here hx rfl (hb hby hd) rfl hv hl r
theorem k_iconst {i : Int} {z : Int32} (hd : decode M.2.1 pc = .ok (.iconst i, 1)) (hp : pc + 1 = pc') (hz : Int32.ofInt i = z) (W : KW wd l Z M n0 Q P h k n pc' Ls (.int z :: st)) : KW wd l Z M n0 Q P h k n pc Ls st := by
  subst hp; exact W.step fun p e s' T m args below meth c locs hx hby hown hZ X target r => XS.iconst X.here hx rfl (hb hby hd) (by rw [hz]; exact r)
theorem k_bipush {i : Int} {z : Int32} (hd : decode M.2.1 pc = .ok (.bipush i, 2)) (hp : pc + 2 = pc') (hz : (Int8.ofInt i).toInt32 = z) (W : KW wd l Z M n0 Q P h k n pc' Ls (.int z :: st)) : KW wd l Z M n0 Q P h k n pc Ls st := by
  subst hp; exact W.step fun p e s' T m args below meth c locs hx hby hown hZ X target r => XS.bipush X.here hx rfl (hb hby hd) (by rw [hz]; exact r)
theorem k_sipush {i : Int} {z : Int32} (hd : decode M.2.1 pc = .ok (.sipush i, 3)) (hp : pc + 3 = pc') (hz : (Int16.ofInt i).toInt32 = z) (W : KW wd l Z M n0 Q P h k n pc' Ls (.int z :: st)) : KW wd l Z M n0 Q P h k n pc Ls st := by
  subst hp; exact W.step fun p e s' T m args below meth c locs hx hby hown hZ X target r => XS.sipush X.here hx rfl (hb hby hd) (by rw [hz]; exact r)
theorem k_lconst {i : Fin 2} {z : Int64} (hd : decode M.2.1 pc = .ok (.lconst i, 1)) (hp : pc + 1 = pc') (hz : Int64.ofNat i = z) (W : KW wd l Z M n0 Q P h k n pc' Ls (.long z :: st)) : KW wd l Z M n0 Q P h k n pc Ls st := by
  subst hp; exact W.step fun p e s' T m args below meth c locs hx hby hown hZ X target r => XS.lconst X.here hx rfl (hb hby hd) (by rw [hz]; exact r)
theorem k_aconstNull (hd : decode M.2.1 pc = .ok (.aconst_null, 1)) (hp : pc + 1 = pc') (W : KW wd l Z M n0 Q P h k n pc' Ls (.null :: st)) : KW wd l Z M n0 Q P h k n pc Ls st := by
  subst hp; exact W.step fun p e s' T m args below meth c locs hx hby hown hZ X target r => XS.aconstNull X.here hx rfl (hb hby hd) r
theorem k_iadd {x y : Int32} (hd : decode M.2.1 pc = .ok (.iadd, 1)) (hp : pc + 1 = pc') (W : KW wd l Z M n0 Q P h k n pc' Ls (.int (x + y) :: st)) : KW wd l Z M n0 Q P h k n pc Ls (.int y :: .int x :: st) := by
  subst hp; exact W.step fun p e s' T m args below meth c locs hx hby hown hZ X target r => XS.iadd X.here hx rfl (hb hby hd) rfl r
theorem k_isub {x y : Int32} (hd : decode M.2.1 pc = .ok (.isub, 1)) (hp : pc + 1 = pc') (W : KW wd l Z M n0 Q P h k n pc' Ls (.int (x - y) :: st)) : KW wd l Z M n0 Q P h k n pc Ls (.int y :: .int x :: st) := by
  subst hp; exact W.step fun p e s' T m args below meth c locs hx hby hown hZ X target r => XS.isub X.here hx rfl (hb hby hd) rfl r
theorem k_iand {x y : Int32} (hd : decode M.2.1 pc = .ok (.iand, 1)) (hp : pc + 1 = pc') (W : KW wd l Z M n0 Q P h k n pc' Ls (.int (x &&& y) :: st)) : KW wd l Z M n0 Q P h k n pc Ls (.int y :: .int x :: st) := by
  subst hp; exact W.step fun p e s' T m args below meth c locs hx hby hown hZ X target r => XS.iand X.here hx rfl (hb hby hd) rfl r
theorem k_imul {x y : Int32} (hd : decode M.2.1 pc = .ok (.imul, 1)) (hp : pc + 1 = pc') (W : KW wd l Z M n0 Q P h k n pc' Ls (.int (x * y) :: st)) : KW wd l Z M n0 Q P h k n pc Ls (.int y :: .int x :: st) := by
  subst hp; exact W.step fun p e s' T m args below meth c locs hx hby hown hZ X target r => XS.imul X.here hx rfl (hb hby hd) rfl r
theorem k_ixor {x y : Int32} (hd : decode M.2.1 pc = .ok (.ixor, 1)) (hp : pc + 1 = pc') (W : KW wd l Z M n0 Q P h k n pc' Ls (.int (x ^^^ y) :: st)) : KW wd l Z M n0 Q P h k n pc Ls (.int y :: .int x :: st) := by
  subst hp; exact W.step fun p e s' T m args below meth c locs hx hby hown hZ X target r => XS.ixor X.here hx rfl (hb hby hd) rfl r
theorem k_ior {x y : Int32} (hd : decode M.2.1 pc = .ok (.ior, 1)) (hp : pc + 1 = pc') (W : KW wd l Z M n0 Q P h k n pc' Ls (.int (x ||| y) :: st)) : KW wd l Z M n0 Q P h k n pc Ls (.int y :: .int x :: st) := by
  subst hp; exact W.step fun p e s' T m args below meth c locs hx hby hown hZ X target r => XS.ior X.here hx rfl (hb hby hd) rfl r
theorem k_ishl {x y : Int32} (hd : decode M.2.1 pc = .ok (.ishl, 1)) (hp : pc + 1 = pc') (W : KW wd l Z M n0 Q P h k n pc' Ls (.int (x <<< (y &&& 31)) :: st)) : KW wd l Z M n0 Q P h k n pc Ls (.int y :: .int x :: st) := by
  subst hp; exact W.step fun p e s' T m args below meth c locs hx hby hown hZ X target r => XS.ishl X.here hx rfl (hb hby hd) rfl r
theorem k_ishr {x y : Int32} (hd : decode M.2.1 pc = .ok (.ishr, 1)) (hp : pc + 1 = pc') (W : KW wd l Z M n0 Q P h k n pc' Ls (.int (x >>> (y &&& 31)) :: st)) : KW wd l Z M n0 Q P h k n pc Ls (.int y :: .int x :: st) := by
  subst hp; exact W.step fun p e s' T m args below meth c locs hx hby hown hZ X target r => XS.ishr X.here hx rfl (hb hby hd) rfl r
theorem k_iushr {x y : Int32} (hd : decode M.2.1 pc = .ok (.iushr, 1)) (hp : pc + 1 = pc') (W : KW wd l Z M n0 Q P h k n pc' Ls (.int ((x.toUInt32 >>> (y &&& 31).toUInt32).toInt32) :: st)) : KW wd l Z M n0 Q P h k n pc Ls (.int y :: .int x :: st) := by
  subst hp; exact W.step fun p e s' T m args below meth c locs hx hby hown hZ X target r => XS.iushr X.here hx rfl (hb hby hd) rfl r
theorem k_idiv {x y : Int32} (hd : decode M.2.1 pc = .ok (.idiv, 1)) (hp : pc + 1 = pc') (hy : y ≠ 0) (W : KW wd l Z M n0 Q P h k n pc' Ls (.int (x / y) :: st)) : KW wd l Z M n0 Q P h k n pc Ls (.int y :: .int x :: st) := by
  subst hp; exact W.step fun p e s' T m args below meth c locs hx hby hown hZ X target r => XS.idiv X.here hx rfl (hb hby hd) rfl hy r
theorem k_irem {x y : Int32} (hd : decode M.2.1 pc = .ok (.irem, 1)) (hp : pc + 1 = pc') (hy : y ≠ 0) (W : KW wd l Z M n0 Q P h k n pc' Ls (.int (x % y) :: st)) : KW wd l Z M n0 Q P h k n pc Ls (.int y :: .int x :: st) := by
  subst hp; exact W.step fun p e s' T m args below meth c locs hx hby hown hZ X target r => iremM X hx rfl (hb hby hd) rfl hy r
theorem k_ineg {x : Int32} (hd : decode M.2.1 pc = .ok (.ineg, 1)) (hp : pc + 1 = pc') (W : KW wd l Z M n0 Q P h k n pc' Ls (.int (-x) :: st)) : KW wd l Z M n0 Q P h k n pc Ls (.int x :: st) := by
  subst hp; exact W.step fun p e s' T m args below meth c locs hx hby hown hZ X target r => XS.ineg X.here hx rfl (hb hby hd) rfl r
theorem k_ladd {x y : Int64} (hd : decode M.2.1 pc = .ok (.ladd, 1)) (hp : pc + 1 = pc') (W : KW wd l Z M n0 Q P h k n pc' Ls (.long (x + y) :: st)) : KW wd l Z M n0 Q P h k n pc Ls (.long y :: .long x :: st) := by
  subst hp; exact W.step fun p e s' T m args below meth c locs hx hby hown hZ X target r => XS.ladd X.here hx rfl (hb hby hd) rfl r
theorem k_lsub {x y : Int64} (hd : decode M.2.1 pc = .ok (.lsub, 1)) (hp : pc + 1 = pc') (W : KW wd l Z M n0 Q P h k n pc' Ls (.long (x - y) :: st)) : KW wd l Z M n0 Q P h k n pc Ls (.long y :: .long x :: st) := by
  subst hp; exact W.step fun p e s' T m args below meth c locs hx hby hown hZ X target r => XS.lsub X.here hx rfl (hb hby hd) rfl r
theorem k_lmul {x y : Int64} (hd : decode M.2.1 pc = .ok (.lmul, 1)) (hp : pc + 1 = pc') (W : KW wd l Z M n0 Q P h k n pc' Ls (.long (x * y) :: st)) : KW wd l Z M n0 Q P h k n pc Ls (.long y :: .long x :: st) := by
  subst hp; exact W.step fun p e s' T m args below meth c locs hx hby hown hZ X target r => XS.lmul X.here hx rfl (hb hby hd) rfl r
theorem k_land {x y : Int64} (hd : decode M.2.1 pc = .ok (.land, 1)) (hp : pc + 1 = pc') (W : KW wd l Z M n0 Q P h k n pc' Ls (.long (x &&& y) :: st)) : KW wd l Z M n0 Q P h k n pc Ls (.long y :: .long x :: st) := by
  subst hp; exact W.step fun p e s' T m args below meth c locs hx hby hown hZ X target r => XS.land X.here hx rfl (hb hby hd) rfl r
theorem k_lor {x y : Int64} (hd : decode M.2.1 pc = .ok (.lor, 1)) (hp : pc + 1 = pc') (W : KW wd l Z M n0 Q P h k n pc' Ls (.long (x ||| y) :: st)) : KW wd l Z M n0 Q P h k n pc Ls (.long y :: .long x :: st) := by
  subst hp; exact W.step fun p e s' T m args below meth c locs hx hby hown hZ X target r => XS.lor X.here hx rfl (hb hby hd) rfl r
theorem k_lxor {x y : Int64} (hd : decode M.2.1 pc = .ok (.lxor, 1)) (hp : pc + 1 = pc') (W : KW wd l Z M n0 Q P h k n pc' Ls (.long (x ^^^ y) :: st)) : KW wd l Z M n0 Q P h k n pc Ls (.long y :: .long x :: st) := by
  subst hp; exact W.step fun p e s' T m args below meth c locs hx hby hown hZ X target r => XS.lxor X.here hx rfl (hb hby hd) rfl r
theorem k_ldiv {x y : Int64} (hd : decode M.2.1 pc = .ok (.ldiv, 1)) (hp : pc + 1 = pc') (hy : y ≠ 0) (W : KW wd l Z M n0 Q P h k n pc' Ls (.long (x / y) :: st)) : KW wd l Z M n0 Q P h k n pc Ls (.long y :: .long x :: st) := by
  subst hp; exact W.step fun p e s' T m args below meth c locs hx hby hown hZ X target r => XS.ldiv X.here hx rfl (hb hby hd) rfl hy r
theorem k_lrem {x y : Int64} (hd : decode M.2.1 pc = .ok (.lrem, 1)) (hp : pc + 1 = pc') (hy : y ≠ 0) (W : KW wd l Z M n0 Q P h k n pc' Ls (.long (x % y) :: st)) : KW wd l Z M n0 Q P h k n pc Ls (.long y :: .long x :: st) := by
  subst hp; exact W.step fun p e s' T m args below meth c locs hx hby hown hZ X target r => XS.lrem X.here hx rfl (hb hby hd) rfl hy (by rw [lrem_mod]; exact r)
theorem k_lshl {x : Int64} {y : Int32} (hd : decode M.2.1 pc = .ok (.lshl, 1)) (hp : pc + 1 = pc') (W : KW wd l Z M n0 Q P h k n pc' Ls (.long (x <<< (y &&& 63).toInt64) :: st)) : KW wd l Z M n0 Q P h k n pc Ls (.int y :: .long x :: st) := by
  subst hp; exact W.step fun p e s' T m args below meth c locs hx hby hown hZ X target r => XS.lshl X.here hx rfl (hb hby hd) rfl r
theorem k_lshr {x : Int64} {y : Int32} (hd : decode M.2.1 pc = .ok (.lshr, 1)) (hp : pc + 1 = pc') (W : KW wd l Z M n0 Q P h k n pc' Ls (.long (x >>> (y &&& 63).toInt64) :: st)) : KW wd l Z M n0 Q P h k n pc Ls (.int y :: .long x :: st) := by
  subst hp; exact W.step fun p e s' T m args below meth c locs hx hby hown hZ X target r => XS.lshr X.here hx rfl (hb hby hd) rfl r
theorem k_lushr {x : Int64} {y : Int32} (hd : decode M.2.1 pc = .ok (.lushr, 1)) (hp : pc + 1 = pc') (W : KW wd l Z M n0 Q P h k n pc' Ls (.long ((x.toUInt64 >>> (y &&& 63).toInt64.toUInt64).toInt64) :: st)) : KW wd l Z M n0 Q P h k n pc Ls (.int y :: .long x :: st) := by
  subst hp; exact W.step fun p e s' T m args below meth c locs hx hby hown hZ X target r => XS.lushr X.here hx rfl (hb hby hd) rfl r
theorem k_i2l {x : Int32} (hd : decode M.2.1 pc = .ok (.i2l, 1)) (hp : pc + 1 = pc') (W : KW wd l Z M n0 Q P h k n pc' Ls (.long (x.toInt64) :: st)) : KW wd l Z M n0 Q P h k n pc Ls (.int x :: st) := by
  subst hp; exact W.step fun p e s' T m args below meth c locs hx hby hown hZ X target r => XS.i2l X.here hx rfl (hb hby hd) rfl r
theorem k_i2b {x : Int32} (hd : decode M.2.1 pc = .ok (.i2b, 1)) (hp : pc + 1 = pc') (W : KW wd l Z M n0 Q P h k n pc' Ls (.int (x.toInt8.toInt32) :: st)) : KW wd l Z M n0 Q P h k n pc Ls (.int x :: st) := by
  subst hp; exact W.step fun p e s' T m args below meth c locs hx hby hown hZ X target r => XS.i2b X.here hx rfl (hb hby hd) rfl r
theorem k_i2c {x : Int32} (hd : decode M.2.1 pc = .ok (.i2c, 1)) (hp : pc + 1 = pc') (W : KW wd l Z M n0 Q P h k n pc' Ls (.int (x.toUInt32.toUInt16.toUInt32.toInt32) :: st)) : KW wd l Z M n0 Q P h k n pc Ls (.int x :: st) := by
  subst hp; exact W.step fun p e s' T m args below meth c locs hx hby hown hZ X target r => XS.i2c X.here hx rfl (hb hby hd) rfl r
theorem k_i2s {x : Int32} (hd : decode M.2.1 pc = .ok (.i2s, 1)) (hp : pc + 1 = pc') (W : KW wd l Z M n0 Q P h k n pc' Ls (.int (x.toInt16.toInt32) :: st)) : KW wd l Z M n0 Q P h k n pc Ls (.int x :: st) := by
  subst hp; exact W.step fun p e s' T m args below meth c locs hx hby hown hZ X target r => XS.i2s X.here hx rfl (hb hby hd) rfl r
theorem k_l2i {x : Int64} (hd : decode M.2.1 pc = .ok (.l2i, 1)) (hp : pc + 1 = pc') (W : KW wd l Z M n0 Q P h k n pc' Ls (.int (x.toInt32) :: st)) : KW wd l Z M n0 Q P h k n pc Ls (.long x :: st) := by
  subst hp; exact W.step fun p e s' T m args below meth c locs hx hby hown hZ X target r => XS.l2i X.here hx rfl (hb hby hd) rfl r
def cmpLV (x y : Int64) : Int32 := if y < x then 1 else if x = y then 0 else -1
theorem k_lcmp {x y : Int64} (hd : decode M.2.1 pc = .ok (.lcmp, 1)) (hp : pc + 1 = pc') (W : KW wd l Z M n0 Q P h k n pc' Ls (.int (cmpLV x y) :: st)) : KW wd l Z M n0 Q P h k n pc Ls (.long y :: .long x :: st) := by
  subst hp; exact W.step fun p e s' T m args below meth c locs hx hby hown hZ X target r => XS.lcmp X.here hx rfl (hb hby hd) rfl r
theorem k_dup {x : Value} (hd : decode M.2.1 pc = .ok (.dup, 1)) (hp : pc + 1 = pc') (hc : x.category = 1) (W : KW wd l Z M n0 Q P h k n pc' Ls (x :: x :: st)) : KW wd l Z M n0 Q P h k n pc Ls (x :: st) := by
  subst hp; exact W.step fun p e s' T m args below meth c locs hx hby hown hZ X target r => XS.dup X.here hx rfl (hb hby hd) rfl hc r
theorem k_pop {x : Value} (hd : decode M.2.1 pc = .ok (.pop, 1)) (hp : pc + 1 = pc') (hc : x.category = 1) (W : KW wd l Z M n0 Q P h k n pc' Ls st) : KW wd l Z M n0 Q P h k n pc Ls (x :: st) := by
  subst hp; exact W.step fun p e s' T m args below meth c locs hx hby hown hZ X target r => XS.pop X.here hx rfl (hb hby hd) rfl hc r
theorem k_dupX1 {x y : Value} (hd : decode M.2.1 pc = .ok (.dup_x1, 1)) (hp : pc + 1 = pc') (hc : x.category = 1) (hc' : y.category = 1) (W : KW wd l Z M n0 Q P h k n pc' Ls (x :: y :: x :: st)) : KW wd l Z M n0 Q P h k n pc Ls (x :: y :: st) := by
  subst hp; exact W.step fun p e s' T m args below meth c locs hx hby hown hZ X target r => XS.dupX1 X.here hx rfl (hb hby hd) rfl hc hc' r
theorem k_dup2 {x y : Value} (hd : decode M.2.1 pc = .ok (.dup2, 1)) (hp : pc + 1 = pc') (hc : x.category = 1) (hc' : y.category = 1) (W : KW wd l Z M n0 Q P h k n pc' Ls (x :: y :: x :: y :: st)) : KW wd l Z M n0 Q P h k n pc Ls (x :: y :: st) := by
  subst hp; exact W.step fun p e s' T m args below meth c locs hx hby hown hZ X target r => XT.dup2 X.here hx rfl (hb hby hd) rfl hc hc' r
theorem k_iinc {i : Nat} {cst : Int} {x z : Int32} (hd : decode M.2.1 pc = .ok (.iinc i cst, 3)) (hp : pc + 3 = pc') (hz : Int32.ofInt cst = z) (hl : Ls[i]? = some (.val (.int x))) (hl' : storeLocals Ls i (.int (x + z)) = some Ls') (W : KW wd l Z M n0 Q P h k n pc' Ls' st) : KW wd l Z M n0 Q P h k n pc Ls st := by
  subst hp; exact W.step fun p e s' T m args below meth c locs hx hby hown hZ X target r => XS.iinc X.here hx rfl (hb hby hd) hl (by rw [hz]; exact hl') r
theorem k_goto {o : Int} (hd : decode M.2.1 pc = .ok (.goto o, 3)) (ho : 0 ≤ (pc : Int) + o) (hp : ((pc : Int) + o).toNat = pc') (W : KW wd l Z M n0 Q P h k n pc' Ls st) : KW wd l Z M n0 Q P h k n pc Ls st :=
  W.step fun p e s' T m args below meth c locs hx hby hown hZ X target r => XS.goto X.here hx rfl rfl (hb hby hd) ho hp r
/-- what a comparison says where it is taken, and where it isn't -/
def icY : ClassFile.Cond → Int32 → Int32 → Prop
  | .eq, x, y => x = y | .ne, x, y => ¬ x = y | .lt, x, y => x < y | .ge, x, y => ¬ x < y | .gt, x, y => y < x | .le, x, y => ¬ y < x
def icN : ClassFile.Cond → Int32 → Int32 → Prop
  | .eq, x, y => ¬ x = y | .ne, x, y => x = y | .lt, x, y => ¬ x < y | .ge, x, y => x < y | .gt, x, y => ¬ y < x | .le, x, y => y < x
theorem ic_t {cd : ClassFile.Cond} {x y : Int32} (q : if_icmp.holds cd x y = true) : icY cd x y := by
  cases cd <;> simp [if_icmp.holds] at q <;> simp only [icY] <;> first | exact q | exact Int32.not_lt.mpr q
theorem ic_f {cd : ClassFile.Cond} {x y : Int32} (q : if_icmp.holds cd x y = false) : icN cd x y := by
  cases cd <;> simp [if_icmp.holds] at q <;> simp only [icN] <;> first | exact q | exact Int32.not_lt.mpr q | exact Int32.not_le.mp q
theorem k_icmp {cd : ClassFile.Cond} {o : Int} {x y : Int32} {pc1 : Nat} (hd : decode M.2.1 pc = .ok (.if_icmp cd o, 3)) (ho : 0 ≤ (pc : Int) + o) (hp1 : ((pc : Int) + o).toNat = pc1) (hp : pc + 3 = pc')
    (W1 : icY cd x y → KW wd l Z M n0 Q P h k n pc1 Ls st) (W2 : icN cd x y → KW wd l Z M n0 Q P h k n pc' Ls st) : KW wd l Z M n0 Q P h k n pc Ls (.int y :: .int x :: st) := by
  cases q : if_icmp.holds cd x y
  · subst hp; exact (W2 (ic_f q)).step fun p e s' T m args below meth c locs hx hby hown hZ X target r => XS.icmpNo X.here hx rfl (hb hby hd) rfl q r
  · exact (W1 (ic_t q)).step fun p e s' T m args below meth c locs hx hby hown hZ X target r => XS.icmpYes X.here hx rfl rfl (hb hby hd) rfl q ho hp1 r
theorem k_ifc {cd : ClassFile.Cond} {o : Int} {x : Int32} {pc1 : Nat} (hd : decode M.2.1 pc = .ok (.ifCond cd o, 3)) (ho : 0 ≤ (pc : Int) + o) (hp1 : ((pc : Int) + o).toNat = pc1) (hp : pc + 3 = pc')
    (W1 : icY cd x 0 → KW wd l Z M n0 Q P h k n pc1 Ls st) (W2 : icN cd x 0 → KW wd l Z M n0 Q P h k n pc' Ls st) : KW wd l Z M n0 Q P h k n pc Ls (.int x :: st) := by
  cases q : ifCond.holds cd x
  · subst hp; exact (W2 (ic_f (by rw [← if0]; exact q))).step fun p e s' T m args below meth c locs hx hby hown hZ X target r => XS.ifNo X.here hx rfl (hb hby hd) rfl q r
  · exact (W1 (ic_t (by rw [← if0]; exact q))).step fun p e s' T m args below meth c locs hx hby hown hZ X target r => XS.ifYes X.here hx rfl rfl (hb hby hd) rfl q ho hp1 r
/-- lcmp and the branch behind it, in one -/
def lcY : ClassFile.Cond → Int64 → Int64 → Prop
  | .eq, x, y => x = y | .ne, x, y => ¬ x = y | .lt, x, y => x < y | .ge, x, y => ¬ x < y | .gt, x, y => y < x | .le, x, y => ¬ y < x
def lcN : ClassFile.Cond → Int64 → Int64 → Prop
  | .eq, x, y => ¬ x = y | .ne, x, y => x = y | .lt, x, y => ¬ x < y | .ge, x, y => x < y | .gt, x, y => ¬ y < x | .le, x, y => y < x
theorem cmpL_V (x y : Int64) : cmpLV x y = lcmpV x y := by simp [cmpLV, lcmpV]
theorem lc_t {cd : ClassFile.Cond} {x y : Int64} (q : icY cd (cmpLV x y) 0) : lcY cd x y := by
  rw [cmpL_V] at q
  cases cd <;> simp only [icY, lcY] at q ⊢
  · exact (lc_eq x y).mp q
  · exact fun e => q ((lc_eq x y).mpr e)
  · exact (lc_lt x y).mp q
  · exact fun e => q ((lc_lt x y).mpr e)
  · exact (lc_gt x y).mp q
  · exact fun e => q ((lc_gt x y).mpr e)
theorem lc_f {cd : ClassFile.Cond} {x y : Int64} (q : icN cd (cmpLV x y) 0) : lcN cd x y := by
  rw [cmpL_V] at q
  cases cd <;> simp only [icN, lcN] at q ⊢
  · exact fun e => q ((lc_eq x y).mpr e)
  · exact (lc_eq x y).mp q
  · exact fun e => q ((lc_lt x y).mpr e)
  · exact (lc_lt x y).mp q
  · exact fun e => q ((lc_gt x y).mpr e)
  · exact (lc_gt x y).mp q
theorem k_lcmpIf {cd : ClassFile.Cond} {o : Int} {x y : Int64} {pc1 pc2 : Nat} (hd0 : decode M.2.1 pc = .ok (.lcmp, 1)) (hp0 : pc + 1 = pc') (hd : decode M.2.1 pc' = .ok (.ifCond cd o, 3)) (ho : 0 ≤ (pc' : Int) + o) (hp1 : ((pc' : Int) + o).toNat = pc1) (hp : pc' + 3 = pc2)
    (W1 : lcY cd x y → KW wd l Z M n0 Q P h k n pc1 Ls st) (W2 : lcN cd x y → KW wd l Z M n0 Q P h k n pc2 Ls st) : KW wd l Z M n0 Q P h k n pc Ls (.long y :: .long x :: st) :=
  k_lcmp hd0 hp0 (k_ifc hd ho hp1 hp (fun q => W1 (lc_t q)) (fun q => W2 (lc_f q)))
theorem k_acmpNe {o : Int} {x y : Value} {pc1 : Nat} (hd : decode M.2.1 pc = .ok (.if_acmp .ne o, 3)) (hx' : x.isRef = true) (hy' : y.isRef = true) (ho : 0 ≤ (pc : Int) + o) (hp1 : ((pc : Int) + o).toNat = pc1) (hp : pc + 3 = pc')
    (W1 : ¬ x = y → KW wd l Z M n0 Q P h k n pc1 Ls st) (W2 : x = y → KW wd l Z M n0 Q P h k n pc' Ls st) : KW wd l Z M n0 Q P h k n pc Ls (y :: x :: st) := by
  by_cases q : x = y
  · subst hp; exact (W2 q).step fun p e s' T m args below meth c locs hx hby hown hZ X target r => XT.acmpNo X.here hx rfl (hb hby hd) rfl hx' hy' (by simp [XT.acmp, q]) r
  · exact (W1 q).step fun p e s' T m args below meth c locs hx hby hown hZ X target r => XT.acmpYes X.here hx rfl rfl (hb hby hd) rfl hx' hy' (by simp [XT.acmp, q]) ho hp1 r
theorem k_acmpEq {o : Int} {x y : Value} {pc1 : Nat} (hd : decode M.2.1 pc = .ok (.if_acmp .eq o, 3)) (hx' : x.isRef = true) (hy' : y.isRef = true) (ho : 0 ≤ (pc : Int) + o) (hp1 : ((pc : Int) + o).toNat = pc1) (hp : pc + 3 = pc')
    (W1 : x = y → KW wd l Z M n0 Q P h k n pc1 Ls st) (W2 : ¬ x = y → KW wd l Z M n0 Q P h k n pc' Ls st) : KW wd l Z M n0 Q P h k n pc Ls (y :: x :: st) := by
  by_cases q : x = y
  · exact (W1 q).step fun p e s' T m args below meth c locs hx hby hown hZ X target r => XT.acmpYes X.here hx rfl rfl (hb hby hd) rfl hx' hy' (by simp [XT.acmp, q]) ho hp1 r
  · subst hp; exact (W2 q).step fun p e s' T m args below meth c locs hx hby hown hZ X target r => XT.acmpNo X.here hx rfl (hb hby hd) rfl hx' hy' (by simp [XT.acmp, q]) r
theorem k_ifnullY {o : Int} (hd : decode M.2.1 pc = .ok (.ifnull o, 3)) (ho : 0 ≤ (pc : Int) + o) (hp : ((pc : Int) + o).toNat = pc') (W : KW wd l Z M n0 Q P h k n pc' Ls st) : KW wd l Z M n0 Q P h k n pc Ls (.null :: st) :=
  W.step fun p e s' T m args below meth c locs hx hby hown hZ X target r => XS.ifnullYes X.here hx rfl rfl (hb hby hd) rfl ho hp r
theorem k_ifnullN {o : Int} {a : Addr} (hd : decode M.2.1 pc = .ok (.ifnull o, 3)) (hp : pc + 3 = pc') (W : KW wd l Z M n0 Q P h k n pc' Ls st) : KW wd l Z M n0 Q P h k n pc Ls (.ref a :: st) := by
  subst hp; exact W.step fun p e s' T m args below meth c locs hx hby hown hZ X target r => XS.ifnullNo X.here hx rfl (hb hby hd) rfl r
theorem k_ifnonnullY {o : Int} {a : Addr} (hd : decode M.2.1 pc = .ok (.ifnonnull o, 3)) (ho : 0 ≤ (pc : Int) + o) (hp : ((pc : Int) + o).toNat = pc') (W : KW wd l Z M n0 Q P h k n pc' Ls st) : KW wd l Z M n0 Q P h k n pc Ls (.ref a :: st) :=
  W.step fun p e s' T m args below meth c locs hx hby hown hZ X target r => XS.ifnonnullYes X.here hx rfl rfl (hb hby hd) rfl ho hp r
theorem k_ifnonnullN {o : Int} (hd : decode M.2.1 pc = .ok (.ifnonnull o, 3)) (hp : pc + 3 = pc') (W : KW wd l Z M n0 Q P h k n pc' Ls st) : KW wd l Z M n0 Q P h k n pc Ls (.null :: st) := by
  subst hp; exact W.step fun p e s' T m args below meth c locs hx hby hown hZ X target r => XS.ifnonnullNo X.here hx rfl (hb hby hd) rfl r
theorem k_ldc2J {i : Nat} {v : Int64} (hd : decode M.2.1 pc = .ok (.ldc2_w i, 3)) (hp : pc + 3 = pc') (w : (Cond.constantLong M.1.cls i v).before a0 Z = true) (W : KW wd l Z M n0 Q P h k n pc' Ls (.long v :: st)) : KW wd l Z M n0 Q P h k n pc Ls st := by
  subst hp; exact W.step fun p e s' T m args below meth c locs hx hby hown hZ X target r => X.ldc2J hx hown (mvT hZ w) rfl (hb hby hd) r
theorem k_ldcI {i : Nat} {v : Int32} (hd : decode M.2.1 pc = .ok (.ldc i, 2)) (hp : pc + 2 = pc') (w : (Cond.constant M.1.cls i v).before a0 Z = true) (W : KW wd l Z M n0 Q P h k n pc' Ls (.int v :: st)) : KW wd l Z M n0 Q P h k n pc Ls st := by
  subst hp; exact W.step fun p e s' T m args below meth c locs hx hby hown hZ X target r => X.ldcI hx hown (mvT hZ w) rfl (hb hby hd) r
theorem k_getStatic {i : Nat} {O f d : String} {v : Value} (hd : decode M.2.1 pc = .ok (.getstatic i, 3)) (hp : pc + 3 = pc') (w : (Cond.fieldLink M.1.cls i O f d).before a0 Z = true) (F : Sta Z h O f d v) (W : KW wd l Z M n0 Q P h k n pc' Ls (v :: st)) : KW wd l Z M n0 Q P h k n pc Ls st := by
  subst hp; exact W.move fun p e s' T m args below meth c locs hx hby hml hown hZ X eT => getS X hx hZ hown (host := "") w Via.refl eT F (g := mkF m pc Ls st) rfl (hb hby hd)
theorem k_getField {i : Nat} {R0 O f d : String} {a : Addr} {v : Value} (hd : decode M.2.1 pc = .ok (.getfield i, 3)) (hp : pc + 3 = pc') (w : (Cond.fieldLink M.1.cls i R0 f d).before a0 Z = true) (via : Via Z R0 O f d) (F : Fld Z h a O f d v) (W : KW wd l Z M n0 Q P h k n pc' Ls (v :: st)) : KW wd l Z M n0 Q P h k n pc Ls (.ref a :: st) := by
  subst hp; exact W.move fun p e s' T m args below meth c locs hx hby hml hown hZ X eT => getF X hx hZ hown (host := "") (Or.inl w) via eT F (g := mkF m pc Ls (.ref a :: st)) rfl rfl (hb hby hd)
/-- the return -/
theorem KW.top {v v' : Value} (e : v = v') (W : KW wd l Z M n0 Q P h k n pc Ls (v' :: st)) : KW wd l Z M n0 Q P h k n pc Ls (v :: st) := e ▸ W
theorem KW.sub {S' : Addr → Prop} (q : ∀ x, S' x → P.2 x) (W : KW wd l Z M n0 Q (P.1, S') h k n pc Ls st) : KW wd l Z M n0 Q P h k n pc Ls st :=
  fun p e s s' m args below meth c hx hby hml hown hnm hret hlk hZ hB hI T locs X N eT => W p e s s' m args below meth c hx hby hml hown hnm hret hlk hZ (hB.sub q) hI T locs X N eT
theorem KW.any {P' : PX} (W : KW false l Z M n0 Q P' h k n pc Ls st) : KW false l Z M n0 Q P h k n pc Ls st :=
  fun p e s s' m args below meth c hx hby hml hown hnm hret hlk hZ hB hI T locs X N eT => by
    obtain ⟨t, v, L, r, h1, h2, h3, h4, h5⟩ := W p e s s' m args below meth c hx hby hml hown hnm hret hlk hZ (hB.elim (fun q => Or.inl q) (fun q => by cases q.1)) (fun q => by cases q) T locs X N eT
    exact ⟨t, v, L, r, h1, h2, h3, h4, h5.elim (fun q => Or.inl q) (fun q => by cases q.1)⟩
theorem KW.ret {v : Option Value} (q : Q v h) (hk : k ≤ M.2.2.2.2.cells) (hn : n ≤ M.2.2.2.2.slots) (hv : M.2.2.2.1 = none → v = none)
    (f : ∀ (p : Program) (e : Env) (s' T : State) (m : MethodId) (args : Array Value) (below : List Frame) (meth : Method) (c : Code) (locs : List Loc), p.tables.exec = Jvm.exec → c.code = M.2.1 → meth.sig.returnType = M.2.2.2.1 → Stand p l e M.2.2.2.2 s' m args below meth c T locs k n →
      ∀ fs : List Frame, (∀ (f : JFrame) (acts : List Action), f.method = m → f.locked = none → f.entered = [] → (doReturn e (T.setTop f) acts v).1 = T.setFrames fs) → Steps p.tables e below (T.setTop (mkF m pc Ls st)) (T.setFrames fs)) : KW wd l Z M n0 Q P h k n pc Ls st := by
  intro p e s s' m args below meth c hx hby hml hown hnm hret hlk hZ hB hI T locs X N eT
  obtain ⟨fs, hr, hrun, hended, hW, hsame⟩ := X.leave (v := v) (fun q => hv (by rw [← hret]; exact q)) hlk
  refine ⟨T.setFrames fs, v, locs, f p e s' T m args below meth c locs hx hby hret X fs hr, hrun, hended, N, by show Q v T.heap; rw [eT]; exact q, ?_⟩
  rcases hB with ⟨rfl, rfl⟩ | ⟨rfl, vm0, k0, rfl, hS, hk0, hC, -⟩
  · exact Or.inl ⟨rfl, ⟨_, rfl⟩, hW, hsame.mono hk hn⟩
  · obtain ⟨e1, e2, e3⟩ := hS.ended hW (by show k0 ≤ T.heap.size; rw [eT]; exact hk0) hsame
    obtain ⟨a1, hEW⟩ := hI rfl
    have hCT : CHr Z P.1 s.vm s.heap T.vm T.heap := hC.trans (by rw [eT]; exact CHv.at X hZ hEW hC.1)
    exact Or.inr ⟨rfl, hCT, ⟨_, rfl⟩, e1, e2, e3.mono hk hn⟩
theorem k_retInt {z : Int32} (hd : decode M.2.1 pc = .ok (.ireturn, 1)) (hr : M.2.2.2.1 = some .int) (hk : k ≤ M.2.2.2.2.cells) (hn : n ≤ M.2.2.2.2.slots) (q : Q (some (.int z)) h) : KW wd l Z M n0 Q P h k n pc Ls (.int z :: st) :=
  KW.ret q hk hn (fun x => by rw [hr] at x; cases x) fun p e s' T m args below meth c locs hx hby hret X fs hl => retOut X hx (t := .int) (i := .ireturn) (hret.trans hr) rfl (Or.inl ⟨rfl, Or.inl rfl, _, rfl⟩) (hb hby hd) hl
theorem k_retNar {z z' : Int32} {t : FieldType} (hd : decode M.2.1 pc = .ok (.ireturn, 1)) (hr : M.2.2.2.1 = some t) (ht : t = .boolean ∨ t = .byte ∨ t = .char ∨ t = .short) (hz : nar t z = z') (hk : k ≤ M.2.2.2.2.cells) (hn : n ≤ M.2.2.2.2.slots) (q : Q (some (.int z')) h) : KW wd l Z M n0 Q P h k n pc Ls (.int z :: st) := by
  subst hz; exact KW.ret q hk hn (fun x => by rw [hr] at x; cases x) fun p e s' T m args below meth c locs hx hby hret X fs hl => retN X hx (hret.trans hr) ht (hb hby hd) hl
theorem k_retLong {z : Int64} (hd : decode M.2.1 pc = .ok (.lreturn, 1)) (hr : M.2.2.2.1 = some .long) (hk : k ≤ M.2.2.2.2.cells) (hn : n ≤ M.2.2.2.2.slots) (q : Q (some (.long z)) h) : KW wd l Z M n0 Q P h k n pc Ls (.long z :: st) :=
  KW.ret q hk hn (fun x => by rw [hr] at x; cases x) fun p e s' T m args below meth c locs hx hby hret X fs hl => retOut X hx (t := .long) (i := .lreturn) (hret.trans hr) rfl (Or.inr (Or.inl ⟨rfl, rfl, _, rfl⟩)) (hb hby hd) hl
theorem k_retRef {v : Value} {t : FieldType} (hd : decode M.2.1 pc = .ok (.areturn, 1)) (hr : M.2.2.2.1 = some t) (ht : t.isReference = true) (hv : v.isRef = true) (hk : k ≤ M.2.2.2.2.cells) (hn : n ≤ M.2.2.2.2.slots) (q : Q (some v) h) : KW wd l Z M n0 Q P h k n pc Ls (v :: st) :=
  KW.ret q hk hn (fun x => by rw [hr] at x; cases x) fun p e s' T m args below meth c locs hx hby hret X fs hl => retOut X hx (t := t) (i := .areturn) (hret.trans hr) (by cases t <;> first | rfl | cases ht) (Or.inr (Or.inr (Or.inr (Or.inr ⟨rfl, ht, hv⟩)))) (hb hby hd) hl
theorem k_retVoid (hd : decode M.2.1 pc = .ok (.return_, 1)) (hr : M.2.2.2.1 = none) (hk : k ≤ M.2.2.2.2.cells) (hn : n ≤ M.2.2.2.2.slots) (q : Q none h) : KW wd l Z M n0 Q P h k n pc Ls [] :=
  KW.ret q hk hn (fun x => rfl) fun p e s' T m args below meth c locs hx hby hret X fs hl => X.returnOut hx (hret.trans hr) (hb hby hd) hl
/-- a method's contract: entered with these arguments and this heap, it returns, and Q holds -/
def Mt (l : Launch) (Z : State) (M : MD) (ws : List Jvm.Cond) (n0 : Nat) (as' : Array Value) (h0 : Heap) (Q : Option Value → Heap → Prop) : Prop :=
  MetFree l M.1 (head1 (Jvm.Cond.code M.1 M.2.1 M.2.2.1 M.2.2.2.1 :: ws) M.2.2.2.2) (fun a U => a = as' ∧ Z.Warmed39 U.vm ∧ U.heap = h0) (fun _ _ _ _ _ => True) (fun _ U o U' => ∃ v L, o = .returned v ∧ (Fr n0 L ∧ h0.size ≤ U'.heap.size ∧ Q v U'.heap) ∧ FrameEnd U o U' L M.2.2.2.2.cells M.2.2.2.2.slots)
theorem mt_of_kw {ws : List Jvm.Cond} {as' : Array Value} (hn : plainFor M.1 = true) (hef : ∀ m, entryFrame m as' M.2.2.1 = mkF m 0 Ls []) (W : KW false l Z M n0 Q P h 0 0 0 Ls []) : Mt l Z M ws n0 as' h Q := by
  refine MetFree.of_bodySF hn hisR ?_
  intro p e s m args below meth c s₁ Bd hml0 hP hK
  obtain ⟨rfl, hZ, hh⟩ := hP
  have e0 : s₁.heap = h := by rw [← hh, Bd.state]; rfl
  obtain ⟨t, v, L, r, h1, h2, h3, h4, h5⟩ := W p e s s m _ below meth c Bd.exec Bd.bytes hml0 (findClass_of_methodNamed Bd.named) (name_of_methodNamed Bd.named Bd.method).1 Bd.returns Bd.notSynchronized hZ (Or.inl ⟨rfl, rfl⟩) (fun q => by cases q) s₁ [] (Stand.of_body Bd) (Fr.nil n0) e0
  rcases h5 with ⟨-, h5⟩ | ⟨h5, -⟩
  · refine ⟨t, _, castTop (hef m) r, h1, h2, v, L, rfl, ⟨h3, ?_, h4⟩, h5⟩
    have q : s.heap.size ≤ t.heap.size := h5.2.2.2.1
    rw [← hh]; exact q
  · cases h5
/-- what a strict callee has done to the heap, for a wide caller -/
def Kp (wd : Bool) (Z : State) (P : PX) (h : Heap) (Q' : Option Value → Heap → Prop) : Prop := wd = true → ∀ v h', Q' v h' → ∃ ws, Keep h h' ws ∧ ∀ x ∈ ws, Sf Z P h x
theorem Kp.strict {Q' : Option Value → Heap → Prop} : Kp false Z P h Q' := fun q => by cases q
theorem Kp.pure {Q' : Option Value → Heap → Prop} (q : ∀ v h', Q' v h' → h' = h) : Kp wd Z P h Q' := fun _ v h' hq => ⟨[], by rw [q v h' hq]; exact Keep.refl _ _, fun _ z => nomatch z⟩
theorem KB.call {s s' : State} {h' : Heap} {v : Option Value} {Q' : Option Value → Heap → Prop} (B : KB wd Z P s s' h) (hZ : Z.Warmed39 s'.vm) (hk : Kp wd Z P h Q') (q : Q' v h') : KB wd Z (P.grow h h') s s' h' := by
  cases wd
  · exact B.elim (fun r => Or.inl r) (fun r => by cases r.1)
  · obtain ⟨ws, K, hs⟩ := hk rfl v h' q
    exact B.keep hZ K (fun _ => hs)
/-- a static method by its contract -/
theorem k_callStatic {y : MD} {i W0 : Nat} {argsL : List Value} {Q' : Option Value → Heap → Prop} {ps : List FieldType} {r : Option FieldType} (hd : decode M.2.1 pc = .ok (.invokestatic i, 3)) (hp : pc + 3 = pc') (K : Mt l Z y [] n0 argsL.toArray h Q') (hkp : Kp wd Z P h Q')
    (w1 : (Cond.methodLink M.1.cls i y.1).before a0 Z = true) (w2 : (Cond.static y.1).before a0 Z = true) (w3 : (Cond.initialized y.1.cls).before a0 Z = true) (w4 : (Cond.code y.1 y.2.1 y.2.2.1 y.2.2.2.1).before a0 Z = true) (hy : y.1.cls ≠ "java/lang/invoke/MethodHandle" ∧ y.1.cls ≠ "java/lang/invoke/VarHandle")
    (hpd : parseMethodDescriptor y.1.desc = some ⟨ps, r⟩) (hlen : argsL.length = ps.length) (hst : st = argsL.reverse ++ rest) (hsz : Ls.size = M.2.2.1) (hW : (rest.map fun v => v.category).sum = W0)
    (hfr : y.2.2.2.2.frames + 1 ≤ M.2.2.2.2.frames) (hlo : W0 + (y.2.2.1 + 11) + y.2.2.2.2.locals ≤ M.2.2.2.2.locals) (hc : k + y.2.2.2.2.cells ≤ M.2.2.2.2.cells) (hs : n + y.2.2.2.2.slots ≤ M.2.2.2.2.slots)
    (W : ∀ v h', h.size ≤ h'.size → Q' v h' → KW wd l Z M n0 Q (P.grow h h') h' (k + y.2.2.2.2.cells) (n + y.2.2.2.2.slots) pc' Ls (v.toList ++ rest)) : KW wd l Z M n0 Q P h k n pc Ls st := by
  intro p e s s' m args below meth c hx hby hml hown hnm hret hlk hZ hB hI T locs X N eT
  subst hp
  obtain ⟨v, _, ⟨T', L', k', n'⟩, -, X', ⟨Lc, ⟨q1, q2, q3⟩, l1, l2, l3⟩, stp⟩ := Jvm.LawKit.callS X hx (y := y.1) hown (mvT hZ w1) (mvT hZ w2) (mvT hZ w3) (mvT hZ w4) hy (backOf (W := W0) (Q := fun v h' L => Fr n0 L ∧ h.size ≤ h'.size ∧ Q' v h') K hZ w4 w3 hfr hlo) (g := mkF m pc Ls st) rfl (hsz.trans hml.symm) (argsL := argsL) (rest := rest) (lenOf hpd hlen) hst (by show 2 * 0 + _ ≤ _; omega) (hb hby hd) (fun _ _ => ⟨rfl, eT, hc, hs⟩)
  dsimp only [Pt.U, Pt.locs, Pt.cells, Pt.slots] at X' l1 l2 l3 stp q2 q3
  subst l1 l2 l3
  obtain ⟨t, v', L, r, rr⟩ := W v T'.heap q2 q3 p e s s' m args below meth c hx hby hml hown hnm hret hlk hZ (hB.call hZ hkp q3) hI T' _ X' (Fr.app N q1) rfl
  exact ⟨t, v', L, stp _ r, rr⟩
/-- a constructor by its contract -/
theorem k_callInit {y : MD} {i W0 : Nat} {a : Addr} {argsL : List Value} {Q' : Option Value → Heap → Prop} {ps : List FieldType} {r : Option FieldType} (hd : decode M.2.1 pc = .ok (.invokespecial i, 3)) (hp : pc + 3 = pc') (K : Mt l Z y [] n0 (.ref a :: argsL).toArray h Q') (hkp : Kp wd Z P h Q') (hi : y.1.name = "<init>") (hr0 : y.2.2.2.1 = none)
    (w1 : (Cond.methodLink M.1.cls i y.1).before a0 Z = true) (w2 : (Cond.instanceMethod y.1).before a0 Z = true) (w3 : (Cond.initialized y.1.cls).before a0 Z = true) (w4 : (Cond.code y.1 y.2.1 y.2.2.1 y.2.2.2.1).before a0 Z = true) (hy : y.1.cls ≠ "java/lang/invoke/MethodHandle" ∧ y.1.cls ≠ "java/lang/invoke/VarHandle")
    (hpd : parseMethodDescriptor y.1.desc = some ⟨ps, r⟩) (hlen : argsL.length = ps.length) (hst : st = argsL.reverse ++ .ref a :: rest) (hsz : Ls.size = M.2.2.1) (hW : (rest.map fun v => v.category).sum = W0)
    (hfr : y.2.2.2.2.frames + 1 ≤ M.2.2.2.2.frames) (hlo : W0 + (y.2.2.1 + 11) + y.2.2.2.2.locals ≤ M.2.2.2.2.locals) (hc : k + y.2.2.2.2.cells ≤ M.2.2.2.2.cells) (hs : n + y.2.2.2.2.slots ≤ M.2.2.2.2.slots)
    (W : ∀ v h', h.size ≤ h'.size → Q' v h' → KW wd l Z M n0 Q (P.grow h h') h' (k + y.2.2.2.2.cells) (n + y.2.2.2.2.slots) pc' Ls (v.toList ++ rest)) : KW wd l Z M n0 Q P h k n pc Ls st := by
  intro p e s s' m args below meth c hx hby hml hown hnm hret hlk hZ hB hI T locs X N eT
  subst hp
  obtain ⟨v, _, ⟨T', L', k', n'⟩, -, X', ⟨Lc, ⟨q1, q2, q3⟩, l1, l2, l3⟩, stp⟩ := X.specialBack hx (y := y.1) hi hown (mvT hZ w1) (mvT hZ w2) (bytes := y.2.1) (maxL := y.2.2.1) (by rw [← hr0]; exact mvT hZ w4) hy (backOf (W := W0) (Q := fun v h' L => Fr n0 L ∧ h.size ≤ h'.size ∧ Q' v h') K hZ w4 w3 hfr hlo) (g := mkF m pc Ls st) rfl (hsz.trans hml.symm) (Steps.refl _) (a := a) (argsL := argsL) (rest := rest) (lenOf hpd hlen) hst (by show 2 * 0 + _ ≤ _; omega) (hb hby hd) (fun _ _ => ⟨rfl, eT, hc, hs⟩)
  dsimp only [Pt.U, Pt.locs, Pt.cells, Pt.slots] at X' l1 l2 l3 stp q2 q3
  subst l1 l2 l3
  obtain ⟨t, v', L, r, rr⟩ := W v T'.heap q2 q3 p e s s' m args below meth c hx hby hml hown hnm hret hlk hZ (hB.call hZ hkp q3) hI T' _ X' (Fr.app N q1) rfl
  exact ⟨t, v', L, stp.trans r, rr⟩
/-- an instance method by its contract; the receiver is exactly a C -/
theorem k_callVirtual {y : MD} {x : MethodName} {C : String} {i W0 : Nat} {a : Addr} {argsL : List Value} {Q' : Option Value → Heap → Prop} {ps : List FieldType} {r : Option FieldType} (hd : decode M.2.1 pc = .ok (.invokevirtual i, 3)) (hp : pc + 3 = pc') (K : Mt l Z y [] n0 (.ref a :: argsL).toArray h Q') (hkp : Kp wd Z P h Q') (E : Exa Z h a C)
    (w1 : (Cond.methodLink M.1.cls i x).before a0 Z = true) (w2 : (Cond.declares x).before a0 Z = true) (w3 : (Cond.selects C x y.1).before a0 Z = true) {C7 : String} (w7 : (Cond.selects C7 x x).before a0 Z = true) (w4 : (Cond.instanceMethod y.1).before a0 Z = true) (w5 : (Cond.code y.1 y.2.1 y.2.2.1 y.2.2.2.1).before a0 Z = true) (w6 : (Cond.initialized y.1.cls).before a0 Z = true) (hy : x.cls ≠ "java/lang/invoke/MethodHandle" ∧ x.cls ≠ "java/lang/invoke/VarHandle")
    (hpd : parseMethodDescriptor x.desc = some ⟨ps, r⟩) (hlen : argsL.length = ps.length) (hst : st = argsL.reverse ++ .ref a :: rest) (hsz : Ls.size = M.2.2.1) (hW : (rest.map fun v => v.category).sum = W0)
    (hfr : y.2.2.2.2.frames + 1 ≤ M.2.2.2.2.frames) (hlo : W0 + (y.2.2.1 + 11) + y.2.2.2.2.locals ≤ M.2.2.2.2.locals) (hc : k + y.2.2.2.2.cells ≤ M.2.2.2.2.cells) (hs : n + y.2.2.2.2.slots ≤ M.2.2.2.2.slots)
    (W : ∀ v h', h.size ≤ h'.size → Q' v h' → KW wd l Z M n0 Q (P.grow h h') h' (k + y.2.2.2.2.cells) (n + y.2.2.2.2.slots) pc' Ls (v.toList ++ rest)) : KW wd l Z M n0 Q P h k n pc Ls st := by
  intro p e s s' m args below meth c hx hby hml hown hnm hret hlk hZ hB hI T locs X N eT
  subst hp
  obtain ⟨cq, kq, qa, qb, qc⟩ := isOf hZ eT E
  obtain ⟨v, _, ⟨T', L', k', n'⟩, -, X', ⟨Lc, ⟨q1, q2, q3⟩, l1, l2, l3⟩, stp⟩ := X.virtualBack hx (y := x) (z := y.1) hown (mvT hZ w1) (mvT hZ w2) (notFace_of_selects (args := #[]) (mvT hZ w7)) (mvT hZ w3) (mvT hZ w4) hy (backOf (W := W0) (Q := fun v h' L => Fr n0 L ∧ h.size ≤ h'.size ∧ Q' v h') K hZ w5 w6 hfr hlo) qa qc (g := mkF m pc Ls st) rfl (hsz.trans hml.symm) (Steps.refl _) (argsL := argsL) (rest := rest) (lenOf hpd hlen) hst (by show 2 * 0 + _ ≤ _; omega) (hb hby hd) (fun _ _ => ⟨rfl, eT, hc, hs⟩)
  dsimp only [Pt.U, Pt.locs, Pt.cells, Pt.slots] at X' l1 l2 l3 stp q2 q3
  subst l1 l2 l3
  obtain ⟨t, v', L, r, rr⟩ := W v T'.heap q2 q3 p e s s' m args below meth c hx hby hml hown hnm hret hlk hZ (hB.call hZ hkp q3) hI T' _ X' (Fr.app N q1) rfl
  exact ⟨t, v', L, stp.trans r, rr⟩
end
end Jvm.OwnW

namespace Jvm.OwnW
open Sem ClassFile Op Lib Jvm.Stand Jvm.Free Jvm.LawKit Jvm.RoadKit
section
variable {wd : Bool} {l : Launch} {Z : State} {M : MD} {n0 : Nat} {Q : Option Value → Heap → Prop} {P : PX} {h : Heap} {k n pc pc' : Nat} {Ls Ls' : Array Slot} {st st' rest : List Value} {a0 : Array Value}
theorem k_new {i sz : Nat} {C : String} (hd : decode M.2.1 pc = .ok (.new i, 3)) (hp : pc + 3 = pc') (w : (Cond.classLink M.1.cls i C).before a0 Z = true) (wi : (Cond.instantiable C sz).before a0 Z = true) (wz : (Cond.initialized C).before a0 Z = true) (hc : k + 1 ≤ M.2.2.2.2.cells) (hs : n + sz ≤ M.2.2.2.2.slots)
    (W : ∀ h' a, a = h.size → Ext h h' → Exa Z h' a C → (∀ {O nm d : String} {ty : FieldType}, Laid Z a0 C O nm d → parseFieldDescriptor d = some ty → Fld Z h' a O nm d (defaultValue ty)) → KW wd l Z M n0 Q (P.grow h h') h' (k + 1) (n + sz) pc' Ls (.ref a :: st)) : KW wd l Z M n0 Q P h k n pc Ls st := by
  intro p e s s' m args below meth c hx hby hml hown hnm hret hlk hZ hB hI T locs X N eT
  subst hp
  obtain ⟨T', h', X', e', E, A, D, -, stp⟩ := newO X hx hZ hown w wi wz eT (g := mkF m pc Ls st) rfl (hb hby hd) hc hs
  obtain ⟨t, v, L, r, rr⟩ := W h' h.size rfl E A D p e s s' m args below meth c hx hby hml hown hnm hret hlk hZ (hB.ext E) hI T' locs X' N e'
  exact ⟨t, v, L, stp t r, rr⟩
theorem k_initObj {i W0 : Nat} {a : Addr} (hd : decode M.2.1 pc = .ok (.invokespecial i, 3)) (hp : pc + 3 = pc') (w1 : (Cond.methodLink M.1.cls i Lib.objectInit).before a0 Z = true) (w2 : (Cond.instanceMethod Lib.objectInit).before a0 Z = true) (w3 : (Cond.code Lib.objectInit ⟨#[0xb1]⟩ 1 none).before a0 Z = true)
    (hsz : Ls.size = M.2.2.1) (hW : (st.map fun v => v.category).sum = W0) (hf : 1 ≤ M.2.2.2.2.frames) (hl : W0 + 12 ≤ M.2.2.2.2.locals) (W : KW wd l Z M n0 Q P h k n pc' Ls st) : KW wd l Z M n0 Q P h k n pc Ls (.ref a :: st) := by
  subst hp; exact W.move fun p e s' T m args below meth c locs hx hby hml hown hZ X eT => initO X hx hZ hown w1 w2 w3 eT (g := mkF m pc Ls (.ref a :: st)) rfl (hsz.trans hml.symm) rfl (hb hby hd) hf (W := W0) (by show 2 * 0 + _ ≤ _; omega) hl
theorem k_put {i kk : Nat} {R0 O f d C : String} {ty : FieldType} {a : Addr} {v v' old : Value} (hd : decode M.2.1 pc = .ok (.putfield i, 3)) (hp : pc + 3 = pc') (w : (Cond.fieldLink M.1.cls i R0 f d).before a0 Z = true) (via : Via Z R0 O f d) (F : Fld Z h a O f d old) (E : Exa Z h a C)
    (L : (Cond.lays C O f d).before a0 Z = true ∨ ((Cond.laysFinal C O f d).before a0 Z = true ∧ M.1.cls = O ∧ M.1.name = "<init>")) (wi : (Cond.instantiable C kk).before a0 Z = true) (hty : parseFieldDescriptor d = some ty) (hn : narrow ty v = v') (hf : fits ty v' = true) (ha : n0 ≤ a) (hsf : wd = true → Sf Z P h a)
    (W : ∀ h', Wr h h' a (Jvm.RoadKit.slotOf Z O f d) v' → KW wd l Z M n0 Q P h' k n pc' Ls st) : KW wd l Z M n0 Q P h k n pc Ls (v :: .ref a :: st) := by
  intro p e s s' m args below meth c hx hby hml hown hnm hret hlk hZ hB hI T locs X N eT
  subst hp
  obtain ⟨T', h', X', e', Wr', stp⟩ := putFN X hx hZ hown w via eT F E (L.imp id fun q => ⟨q.1, q.2.1, hnm.trans q.2.2⟩) wi hty hn hf (g := mkF m pc Ls (v :: .ref a :: st)) rfl rfl (hb hby hd)
  obtain ⟨t, v, L, r, rr⟩ := W h' Wr' p e s s' m args below meth c hx hby hml hown hnm hret hlk hZ (hB.wr hZ Wr' hsf) hI T' _ X' (Fr.snoc X' N ha) e'
  exact ⟨t, v, L, stp t r, rr⟩
theorem k_newarr {aty : ArrayType} {z : Int32} {cap : Nat} (hd : decode M.2.1 pc = .ok (.newarray aty, 2)) (hp : pc + 2 = pc') (w : (Cond.arrayClass (newarray.typeOf aty)).before a0 Z = true) (hz : ¬ z < 0) (hcap : z.toNatClampNeg ≤ cap) (hb8 : cap * 8 ≤ 536870912) (hc : k + 1 ≤ M.2.2.2.2.cells) (hs : n + cap ≤ M.2.2.2.2.slots)
    (W : ∀ h' a cA, a = h.size → Ext h h' → Arv Z h' a cA (newarray.typeOf aty) z [] (defaultValue (newarray.typeOf aty)) → KW wd l Z M n0 Q (P.grow h h') h' (k + 1) (n + cap) pc' Ls (.ref a :: st)) : KW wd l Z M n0 Q P h k n pc Ls (.int z :: st) := by
  intro p e s s' m args below meth c hx hby hml hown hnm hret hlk hZ hB hI T locs X N eT
  subst hp
  obtain ⟨T', h', cA, X', e', E, A, stp⟩ := newP X hx hZ w eT (g := mkF m pc Ls (.int z :: st)) rfl (hb hby hd) rfl hz hcap hb8 hc hs
  obtain ⟨t, v, L, r, rr⟩ := W h' h.size cA rfl E (Arv.new A hz) p e s s' m args below meth c hx hby hml hown hnm hret hlk hZ (hB.ext E) hI T' locs X' N e'
  exact ⟨t, v, L, stp t r, rr⟩
theorem k_arrlen {a : Addr} {ck : ClassId} {ty : FieldType} {z : Int32} {vs : List Value} {dv : Value} (hd : decode M.2.1 pc = .ok (.arraylength, 1)) (hp : pc + 1 = pc') (V : Arv Z h a ck ty z vs dv) (W : KW wd l Z M n0 Q P h k n pc' Ls (.int z :: st)) : KW wd l Z M n0 Q P h k n pc Ls (.ref a :: st) := by
  subst hp
  obtain ⟨cl, Ar, -, S, Mz, -⟩ := V
  exact W.move fun p e s' T m args below meth c locs hx hby hml hown hZ X eT => ⟨T, X, eT, fun target r => X.arraylength hx (by rw [eT]; exact Ar.1) (State.isArrayOf_alike hZ.alike Ar.2.1) (g := mkF m pc Ls (.ref a :: st)) rfl rfl (hb hby hd) target (by rw [len_of S Mz]; exact r)⟩
theorem k_baload {a : Addr} {ck : ClassId} {z j : Int32} {vs : List Value} {dv v : Value} (hd : decode M.2.1 pc = .ok (.baload, 1)) (hp : pc + 1 = pc') (V : Arv Z h a ck .byte z vs dv) (hj : ¬ j < 0 ∧ j < z) (hv : vs.getD j.toNatClampNeg dv = v) (W : KW wd l Z M n0 Q P h k n pc' Ls (v :: st)) : KW wd l Z M n0 Q P h k n pc Ls (.int j :: .ref a :: st) := by
  subst hp
  obtain ⟨cl, Ar, -, S, Mz, H, -⟩ := V
  exact W.move fun p e s' T m args below meth c locs hx hby hml hown hZ X eT => ⟨T, X, eT, fun target r => X.baloadBytes hx (j := j) (v := v) (by rw [eT]; exact Ar.1) (State.isArrayOf_alike hZ.alike Ar.2.1) Ar.2.2 (inb_of S hj) (H.at (inb_of S hj) hv) (g := mkF m pc Ls (.int j :: .ref a :: st)) rfl rfl (hb hby hd) target r⟩
theorem k_caload {a : Addr} {ck : ClassId} {z j : Int32} {vs : List Value} {dv v : Value} (hd : decode M.2.1 pc = .ok (.caload, 1)) (hp : pc + 1 = pc') (V : Arv Z h a ck .char z vs dv) (hj : ¬ j < 0 ∧ j < z) (hv : vs.getD j.toNatClampNeg dv = v) (W : KW wd l Z M n0 Q P h k n pc' Ls (v :: st)) : KW wd l Z M n0 Q P h k n pc Ls (.int j :: .ref a :: st) := by
  subst hp
  obtain ⟨cl, Ar, -, S, Mz, H, -⟩ := V
  exact W.move fun p e s' T m args below meth c locs hx hby hml hown hZ X eT => ⟨T, X, eT, fun target r => X.caload hx (j := j) (v := v) (by rw [eT]; exact Ar.1) (State.isArrayOf_alike hZ.alike Ar.2.1) Ar.2.2 (inb_of S hj) (H.at (inb_of S hj) hv) (g := mkF m pc Ls (.int j :: .ref a :: st)) rfl rfl (hb hby hd) target r⟩
theorem k_castore {a : Addr} {ck : ClassId} {z j x : Int32} {vs : List Value} {dv : Value} {i : Nat} (hd : decode M.2.1 pc = .ok (.castore, 1)) (hp : pc + 1 = pc') (V : Arv Z h a ck .char z vs dv) (hj : ¬ j < 0 ∧ j < z) (hi : j.toNatClampNeg = i) (hil : i < vs.length) (ha : n0 ≤ a) (hsf : wd = true → Sf Z P h a)
    (W : ∀ h', Wr h h' a i (.int (nar .char x)) → Arv Z h' a ck .char z (vs.set i (.int (nar .char x))) dv → KW wd l Z M n0 Q P h' k n pc' Ls st) : KW wd l Z M n0 Q P h k n pc Ls (.int x :: .int j :: .ref a :: st) := by
  intro p e s s' m args below meth c hx hby hml hown hnm hret hlk hZ hB hI T locs X N eT
  subst hp
  obtain ⟨cl, Ar, q1, S, Mz, H, G⟩ := V
  obtain ⟨T', h', X', e', Wr', stp⟩ := stC X hx hZ eT Ar (inb_of S hj) (g := mkF m pc Ls (.int x :: .int j :: .ref a :: st)) rfl rfl (hb hby hd)
  have V' := Arv.set Ar q1 S Mz H G (fits_nar_char x) Wr' i hi hil
  rw [hi] at Wr'
  obtain ⟨t, v, L, r, rr⟩ := W h' Wr' V' p e s s' m args below meth c hx hby hml hown hnm hret hlk hZ (hB.wr hZ Wr' hsf) hI T' _ X' (Fr.snoc X' N ha) e'
  exact ⟨t, v, L, stp t r, rr⟩
theorem k_bastore {a : Addr} {ck : ClassId} {z j x : Int32} {vs : List Value} {dv : Value} {i : Nat} (hd : decode M.2.1 pc = .ok (.bastore, 1)) (hp : pc + 1 = pc') (V : Arv Z h a ck .byte z vs dv) (hj : ¬ j < 0 ∧ j < z) (hi : j.toNatClampNeg = i) (hil : i < vs.length) (ha : n0 ≤ a) (hsf : wd = true → Sf Z P h a)
    (W : ∀ h', Wr h h' a i (.int (nar .byte x)) → Arv Z h' a ck .byte z (vs.set i (.int (nar .byte x))) dv → KW wd l Z M n0 Q P h' k n pc' Ls st) : KW wd l Z M n0 Q P h k n pc Ls (.int x :: .int j :: .ref a :: st) := by
  intro p e s s' m args below meth c hx hby hml hown hnm hret hlk hZ hB hI T locs X N eT
  subst hp
  obtain ⟨cl, Ar, q1, S, Mz, H, G⟩ := V
  obtain ⟨T', h', X', e', Wr', stp⟩ := stB X hx hZ eT Ar (inb_of S hj) (g := mkF m pc Ls (.int x :: .int j :: .ref a :: st)) rfl rfl (hb hby hd)
  have V' := Arv.set Ar q1 S Mz H G (fits_nar_byte x) Wr' i hi hil
  rw [hi] at Wr'
  obtain ⟨t, v, L, r, rr⟩ := W h' Wr' V' p e s s' m args below meth c hx hby hml hown hnm hret hlk hZ (hB.wr hZ Wr' hsf) hI T' _ X' (Fr.snoc X' N ha) e'
  exact ⟨t, v, L, stp t r, rr⟩
theorem k_cast {i : Nat} {K : String} {a : Addr} (hd : decode M.2.1 pc = .ok (.checkcast i, 3)) (hp : pc + 3 = pc') (w : (Cond.classLink M.1.cls i K).before a0 Z = true) (F : Ins Z h a K true) (W : KW wd l Z M n0 Q P h k n pc' Ls (.ref a :: st)) : KW wd l Z M n0 Q P h k n pc Ls (.ref a :: st) := by
  subst hp; exact W.move fun p e s' T m args below meth c locs hx hby hml hown hZ X eT => castY X hx hZ hown w eT F (g := mkF m pc Ls (.ref a :: st)) rfl rfl (hb hby hd)
theorem k_instY {i : Nat} {K : String} {a : Addr} (hd : decode M.2.1 pc = .ok (.instanceof i, 3)) (hp : pc + 3 = pc') (w : (Cond.classLink M.1.cls i K).before a0 Z = true) (F : Ins Z h a K true) (W : KW wd l Z M n0 Q P h k n pc' Ls (.int 1 :: st)) : KW wd l Z M n0 Q P h k n pc Ls (.ref a :: st) := by
  subst hp; exact W.move fun p e s' T m args below meth c locs hx hby hml hown hZ X eT => instY X hx hZ hown w eT F (g := mkF m pc Ls (.ref a :: st)) rfl rfl (hb hby hd)
theorem Sf.exa {a : Addr} {C : String} (E : Exa Z h a C) (h1 : C ≠ "java/lang/String") (h2 : C ≠ "[B") : Sf Z P h a := Or.inr fun vm hal => Safe.exa hal E h1 h2
theorem Sf.arv {a : Addr} {ck : ClassId} {ty : FieldType} {z : Int32} {vs : List Value} {dv : Value} (F : Arv Z h a ck ty z vs dv) (ht : ty ≠ .byte) : Sf Z P h a := Or.inr fun vm hal => Safe.arv hal F ht
/-! the wide contracts: a callee that may intern -/
def MtW (l : Launch) (Z : State) (M : MD) (ws : List Jvm.Cond) (n0 : Nat) (as' : Array Value) (P : PX) (h0 : Heap) (Q : Option Value → Heap → Prop) : Prop :=
  MetFree l M.1 (head1 (Jvm.Cond.code M.1 M.2.1 M.2.2.1 M.2.2.2.1 :: ws) M.2.2.2.2) (fun a U => a = as' ∧ Z.Warmed39 U.vm ∧ U.heap = h0 ∧ CHv Z P.1 U.vm h0 ∧ ∀ x, P.2 x → Safe Z P.1 U.vm h0 x ∧ x < h0.size) (fun _ _ _ _ _ => True)
    (fun _ U o U' => ∃ v L, o = .returned v ∧ (Fr n0 L ∧ h0.size ≤ U'.heap.size ∧ Q v U'.heap) ∧ CHr Z P.1 U.vm U.heap U'.vm U'.heap ∧ ReturnedEndW U o U' L M.2.2.2.2.cells M.2.2.2.2.slots)
theorem mtw_of_kw {ws : List Jvm.Cond} {as' : Array Value} (hn : plainFor M.1 = true) (hEW : EW Z a0 P.1) (hef : ∀ m, entryFrame m as' M.2.2.1 = mkF m 0 Ls []) (W : KW true l Z M n0 Q P h 0 0 0 Ls []) : MtW l Z M ws n0 as' P h Q := by
  refine MetFree.of_bodySF hn hisR ?_
  intro p e s m args below meth c s₁ Bd hml0 hP hK
  obtain ⟨rfl, hZ, hh, hC, hS⟩ := hP
  have e0 : s₁.heap = h := by rw [← hh, Bd.state]; rfl
  obtain ⟨t, v, L, r, h1, h2, h3, h4, h5⟩ := W p e s (s.setVm s.vm) m _ below meth c Bd.exec Bd.bytes hml0 (findClass_of_methodNamed Bd.named) (name_of_methodNamed Bd.named Bd.method).1 Bd.returns Bd.notSynchronized hZ (Or.inr ⟨rfl, s.vm, 0, rfl, (State.WarmedH.refl s).since 0, Nat.zero_le _, by rw [hh]; exact CHr.refl hC, hS⟩) (fun _ => ⟨a0, hEW⟩) s₁ [] (Stand.of_body Bd) (Fr.nil n0) e0
  rcases h5 with ⟨h5, -⟩ | ⟨-, b1, b2⟩
  · cases h5
  · refine ⟨t, _, castTop (hef m) r, h1, h2, v, L, rfl, ⟨h3, ?_, h4⟩, b1, b2⟩
    have q : s.heap.size ≤ t.heap.size := b2.2.2.2.2.1
    rw [← hh]; exact q
/-- what a wide contract pays at a call -/
theorem backW {y : MD} {p : Program} {e : Env} {s : State} {vm0 : Vm} {args as' : Array Value} {below : List Frame} {R : Room} {W0 len : Nat} {Q' : Option Value → Heap → Prop}
    (K : MtW l Z y [] n0 as' P h Q') (hZ : Z.Warmed39 vm0) (w4 : (Cond.code y.1 y.2.1 y.2.2.1 y.2.2.2.1).before a0 Z = true) (w3 : (Cond.initialized y.1.cls).before a0 Z = true) (hf : y.2.2.2.2.frames + 1 ≤ R.frames) (hl : W0 + (y.2.2.1 + 11) + y.2.2.2.2.locals ≤ R.locals) {a1 : Array Value} (hEL : EW Z a1 P.1) (H : CHv Z P.1 vm0 h) (hS : ∀ x, P.2 x → Safe Z P.1 vm0 h x ∧ x < h.size) :
    BackS l R p e below (s.setVm vm0) args y.1 len W0 (fun A a => a = as' ∧ A.U.heap = h ∧ A.cells + y.2.2.2.2.cells ≤ R.cells ∧ A.slots + y.2.2.2.2.slots ≤ R.slots)
      (fun A _ v B => ∃ L, (Fr n0 L ∧ h.size ≤ B.U.heap.size ∧ Q' v B.U.heap) ∧ B.locs = A.locs ++ L ∧ B.cells = A.cells + y.2.2.2.2.cells ∧ B.slots = A.slots + y.2.2.2.2.slots ∧ CHr Z P.1 vm0 h B.U.vm B.U.heap) :=
  BackS.of_freeW (bytes := y.2.1) (maxL := y.2.2.1) (ret := y.2.2.2.1) (E := fun _ first o t L k n => k = y.2.2.2.2.cells ∧ n = y.2.2.2.2.slots ∧ (∃ v, o = .returned v ∧ (Fr n0 L ∧ h.size ≤ t.heap.size ∧ Q' v t.heap)) ∧ CHr Z P.1 first.vm first.heap t.vm t.heap) K hf hl
    (fun m meth c A a Y hp => have hU : Z.Warmed39 A.U.vm := wtrans (s := s.setVm vm0) hZ Y.warmed
      ⟨by show (Cond.and _ .tt).before a A.U = true; rw [Cond.before_and, mv hU w4]; rfl, mv hU w4, mv hU w3, hp.2.2.1, hp.2.2.2⟩)
    (fun m meth c A a g mk Y hp => ⟨hp.1, wtrans (s := s.setVm vm0) hZ Y.warmed, hp.2.1, (CHv.at Y hZ hEL H).1, fun x hx => ⟨(CHv.at Y hZ hEL H).safe (hS x hx).2 (hS x hx).1, (hS x hx).2⟩⟩) (fun _ _ _ _ _ _ _ _ _ => trivial)
    (fun _ _ _ _ ⟨v, L, h1, h2, h3, h4⟩ => ⟨L, _, _, h4, rfl, rfl, ⟨v, h1, h2⟩, h3⟩)
    (fun m meth c A a g mk v t L k n Y hp _ _ ⟨e1, e2, ⟨v', e3, e4⟩, e5⟩ => by
      cases e3; subst e1 e2
      refine ⟨L, e4, rfl, rfl, rfl, (CHv.at Y hZ hEL H).trans ?_⟩
      rw [← hp.2.1]; exact e5)
/-- the walk goes on over the start with the tables that the callee left -/
theorem KW.after {p : Program} {e : Env} {s : State} {vm0 : Vm} {k0 : Nat} {m : MethodId} {args : Array Value} {below : List Frame} {meth : Method} {c : Code} {T' : State} {locs : List Loc} {h' : Heap} {k' n' : Nat} (W : KW true l Z M n0 Q P h' k' n' pc' Ls st')
    (hx : p.tables.exec = Jvm.exec) (hby : c.code = M.2.1) (hml : c.maxLocals = M.2.2.1) (hown : (s.setVm vm0).vm.findClass M.1.cls = some m.cls) (hnm : meth.name = M.1.name) (hret : meth.sig.returnType = M.2.2.2.1) (hlk : meth.locks = false) (hZ : Z.Warmed39 (s.setVm vm0).vm)
    (hS0 : s.Since vm0 k0) (hk0 : k0 ≤ h.size) (hC : CHr Z P.1 s.vm s.heap vm0 h) (hS : ∀ x, P.2 x → Safe Z P.1 vm0 h x ∧ x < h.size) (hI : true = true → ∃ a0, EW Z a0 P.1)
    (X' : Stand p l e M.2.2.2.2 (s.setVm T'.vm) m args below meth c T' locs k' n') (hS' : (s.setVm vm0).Since T'.vm T'.heap.size) (N : Fr n0 locs) (hz : h.size ≤ h'.size) (eT : T'.heap = h') (hC' : CHr Z P.1 vm0 h T'.vm h') :
    ∃ t v L, Steps p.tables e below (T'.setTop (mkF m pc' Ls st')) t ∧ t.status = .running ∧ Ended t below (.returned v) ∧ Fr n0 L ∧ Q v t.heap ∧ KE true Z s v t L P.1 M.2.2.2.2.cells M.2.2.2.2.slots :=
  W p e s (s.setVm T'.vm) m args below meth c hx hby hml (by show T'.vm.findClass _ = _; rw [hS'.1.alike.findClass]; exact hown) hnm hret hlk (State.Warmed39.trans (t := s.setVm vm0) hZ hS'.1)
    (Or.inr ⟨rfl, T'.vm, T'.heap.size, rfl, hS0.trans hS' (by rw [eT]; exact Nat.le_trans hk0 hz), by rw [eT]; exact Nat.le_refl _, hC.trans hC', fun x hx => ⟨hC'.safe (hS x hx).2 (hS x hx).1, Nat.lt_of_lt_of_le (hS x hx).2 hz⟩⟩) hI T' locs X' N eT
theorem k_callStaticW {y : MD} {i W0 : Nat} {argsL : List Value} {Q' : Option Value → Heap → Prop} {ps : List FieldType} {r : Option FieldType} (hd : decode M.2.1 pc = .ok (.invokestatic i, 3)) (hp : pc + 3 = pc') (K : MtW l Z y [] n0 argsL.toArray P h Q')
    (w1 : (Cond.methodLink M.1.cls i y.1).before a0 Z = true) (w2 : (Cond.static y.1).before a0 Z = true) (w3 : (Cond.initialized y.1.cls).before a0 Z = true) (w4 : (Cond.code y.1 y.2.1 y.2.2.1 y.2.2.2.1).before a0 Z = true) (hy : y.1.cls ≠ "java/lang/invoke/MethodHandle" ∧ y.1.cls ≠ "java/lang/invoke/VarHandle")
    (hpd : parseMethodDescriptor y.1.desc = some ⟨ps, r⟩) (hlen : argsL.length = ps.length) (hst : st = argsL.reverse ++ rest) (hsz : Ls.size = M.2.2.1) (hW : (rest.map fun v => v.category).sum = W0)
    (hfr : y.2.2.2.2.frames + 1 ≤ M.2.2.2.2.frames) (hlo : W0 + (y.2.2.1 + 11) + y.2.2.2.2.locals ≤ M.2.2.2.2.locals) (hc : k + y.2.2.2.2.cells ≤ M.2.2.2.2.cells) (hs : n + y.2.2.2.2.slots ≤ M.2.2.2.2.slots)
    (W : ∀ v h', h.size ≤ h'.size → Q' v h' → KW true l Z M n0 Q P h' (k + y.2.2.2.2.cells) (n + y.2.2.2.2.slots) pc' Ls (v.toList ++ rest)) : KW true l Z M n0 Q P h k n pc Ls st := by
  intro p e s s' m args below meth c hx hby hml hown hnm hret hlk hZ hB hI T locs X N eT
  subst hp
  rcases hB with ⟨q, -⟩ | ⟨-, vm0, k0, rfl, hS0, hk0, hC, hSf⟩
  · cases q
  obtain ⟨a1, hEW⟩ := hI rfl
  obtain ⟨v, _, ⟨T', L', k', n'⟩, -, X', hS', hgr, ⟨Lc, ⟨q1, q2, q3⟩, l1, l2, l3, hC'⟩, stp⟩ := callSS X hx (y := y.1) hown (mvT hZ w1) (mvT hZ w2) (mvT hZ w3) (mvT hZ w4) hy (backW (W0 := W0) K hZ w4 w3 hfr hlo hEW hC.1 hSf) (g := mkF m pc Ls st) rfl (hsz.trans hml.symm) (argsL := argsL) (rest := rest) (lenOf hpd hlen) hst (by show 2 * 0 + _ ≤ _; omega) (hb hby hd) (fun _ _ => ⟨rfl, eT, hc, hs⟩)
  dsimp only [Pt.U, Pt.locs, Pt.cells, Pt.slots] at X' l1 l2 l3 stp q2 q3 hS' hC'
  subst l1 l2 l3
  obtain ⟨t, v', L, r, rr⟩ := (W v T'.heap q2 q3).after (h := h) hx hby hml hown hnm hret hlk hZ hS0 hk0 hC hSf hI X' hS' (Fr.app N q1) q2 rfl hC'
  exact ⟨t, v', L, stp.trans r, rr⟩
theorem k_callInitW {y : MD} {i W0 : Nat} {a : Addr} {argsL : List Value} {Q' : Option Value → Heap → Prop} {ps : List FieldType} {r : Option FieldType} (hd : decode M.2.1 pc = .ok (.invokespecial i, 3)) (hp : pc + 3 = pc') (K : MtW l Z y [] n0 (.ref a :: argsL).toArray P h Q') (hi : y.1.name = "<init>") (hr0 : y.2.2.2.1 = none)
    (w1 : (Cond.methodLink M.1.cls i y.1).before a0 Z = true) (w2 : (Cond.instanceMethod y.1).before a0 Z = true) (w3 : (Cond.initialized y.1.cls).before a0 Z = true) (w4 : (Cond.code y.1 y.2.1 y.2.2.1 y.2.2.2.1).before a0 Z = true) (hy : y.1.cls ≠ "java/lang/invoke/MethodHandle" ∧ y.1.cls ≠ "java/lang/invoke/VarHandle")
    (hpd : parseMethodDescriptor y.1.desc = some ⟨ps, r⟩) (hlen : argsL.length = ps.length) (hst : st = argsL.reverse ++ .ref a :: rest) (hsz : Ls.size = M.2.2.1) (hW : (rest.map fun v => v.category).sum = W0)
    (hfr : y.2.2.2.2.frames + 1 ≤ M.2.2.2.2.frames) (hlo : W0 + (y.2.2.1 + 11) + y.2.2.2.2.locals ≤ M.2.2.2.2.locals) (hc : k + y.2.2.2.2.cells ≤ M.2.2.2.2.cells) (hs : n + y.2.2.2.2.slots ≤ M.2.2.2.2.slots)
    (W : ∀ v h', h.size ≤ h'.size → Q' v h' → KW true l Z M n0 Q P h' (k + y.2.2.2.2.cells) (n + y.2.2.2.2.slots) pc' Ls (v.toList ++ rest)) : KW true l Z M n0 Q P h k n pc Ls st := by
  intro p e s s' m args below meth c hx hby hml hown hnm hret hlk hZ hB hI T locs X N eT
  subst hp
  rcases hB with ⟨q, -⟩ | ⟨-, vm0, k0, rfl, hS0, hk0, hC, hSf⟩
  · cases q
  obtain ⟨a1, hEW⟩ := hI rfl
  obtain ⟨v, _, ⟨T', L', k', n'⟩, -, X', hS', hgr, ⟨Lc, ⟨q1, q2, q3⟩, l1, l2, l3, hC'⟩, stp⟩ := X.specialBackS hx (y := y.1) hi hown (mvT hZ w1) (mvT hZ w2) (bytes := y.2.1) (maxL := y.2.2.1) (by rw [← hr0]; exact mvT hZ w4) hy (backW (W0 := W0) K hZ w4 w3 hfr hlo hEW hC.1 hSf) (g := mkF m pc Ls st) rfl (hsz.trans hml.symm) (Steps.refl _) (a := a) (argsL := argsL) (rest := rest) (lenOf hpd hlen) hst (by show 2 * 0 + _ ≤ _; omega) (hb hby hd) (fun _ _ => ⟨rfl, eT, hc, hs⟩)
  dsimp only [Pt.U, Pt.locs, Pt.cells, Pt.slots] at X' l1 l2 l3 stp q2 q3 hS' hC'
  subst l1 l2 l3
  obtain ⟨t, v', L, r, rr⟩ := (W v T'.heap q2 q3).after (h := h) hx hby hml hown hnm hret hlk hZ hS0 hk0 hC hSf hI X' hS' (Fr.app N q1) q2 rfl hC'
  exact ⟨t, v', L, stp.trans r, rr⟩
theorem k_callVirtualW {y : MD} {x : MethodName} {C : String} {i W0 : Nat} {a : Addr} {argsL : List Value} {Q' : Option Value → Heap → Prop} {ps : List FieldType} {r : Option FieldType} (hd : decode M.2.1 pc = .ok (.invokevirtual i, 3)) (hp : pc + 3 = pc') (K : MtW l Z y [] n0 (.ref a :: argsL).toArray P h Q') (E : Exa Z h a C)
    (w1 : (Cond.methodLink M.1.cls i x).before a0 Z = true) (w2 : (Cond.declares x).before a0 Z = true) (w3 : (Cond.selects C x y.1).before a0 Z = true) {C7 : String} (w7 : (Cond.selects C7 x x).before a0 Z = true) (w4 : (Cond.instanceMethod y.1).before a0 Z = true) (w5 : (Cond.code y.1 y.2.1 y.2.2.1 y.2.2.2.1).before a0 Z = true) (w6 : (Cond.initialized y.1.cls).before a0 Z = true) (hy : x.cls ≠ "java/lang/invoke/MethodHandle" ∧ x.cls ≠ "java/lang/invoke/VarHandle")
    (hpd : parseMethodDescriptor x.desc = some ⟨ps, r⟩) (hlen : argsL.length = ps.length) (hst : st = argsL.reverse ++ .ref a :: rest) (hsz : Ls.size = M.2.2.1) (hW : (rest.map fun v => v.category).sum = W0)
    (hfr : y.2.2.2.2.frames + 1 ≤ M.2.2.2.2.frames) (hlo : W0 + (y.2.2.1 + 11) + y.2.2.2.2.locals ≤ M.2.2.2.2.locals) (hc : k + y.2.2.2.2.cells ≤ M.2.2.2.2.cells) (hs : n + y.2.2.2.2.slots ≤ M.2.2.2.2.slots)
    (W : ∀ v h', h.size ≤ h'.size → Q' v h' → KW true l Z M n0 Q P h' (k + y.2.2.2.2.cells) (n + y.2.2.2.2.slots) pc' Ls (v.toList ++ rest)) : KW true l Z M n0 Q P h k n pc Ls st := by
  intro p e s s' m args below meth c hx hby hml hown hnm hret hlk hZ hB hI T locs X N eT
  subst hp
  rcases hB with ⟨q, -⟩ | ⟨-, vm0, k0, rfl, hS0, hk0, hC, hSf⟩
  · cases q
  obtain ⟨a1, hEW⟩ := hI rfl
  obtain ⟨cq, kq, qa, qb, qc⟩ := isOf hZ eT E
  obtain ⟨v, _, ⟨T', L', k', n'⟩, -, X', hS', hgr, ⟨Lc, ⟨q1, q2, q3⟩, l1, l2, l3, hC'⟩, stp⟩ := X.virtualBackS hx (y := x) (z := y.1) hown (mvT hZ w1) (mvT hZ w2) (notFace_of_selects (args := #[]) (mvT hZ w7)) (mvT hZ w3) (mvT hZ w4) hy (backW (W0 := W0) K hZ w5 w6 hfr hlo hEW hC.1 hSf) qa qc (g := mkF m pc Ls st) rfl (hsz.trans hml.symm) (Steps.refl _) (argsL := argsL) (rest := rest) (lenOf hpd hlen) hst (by show 2 * 0 + _ ≤ _; omega) (hb hby hd) (fun _ _ => ⟨rfl, eT, hc, hs⟩)
  dsimp only [Pt.U, Pt.locs, Pt.cells, Pt.slots] at X' l1 l2 l3 stp q2 q3 hS' hC'
  subst l1 l2 l3
  obtain ⟨t, v', L, r, rr⟩ := (W v T'.heap q2 q3).after (h := h) hx hby hml hown hnm hret hlk hZ hS0 hk0 hC hSf hI X' hS' (Fr.app N q1) q2 rfl hC'
  exact ⟨t, v', L, stp.trans r, rr⟩
/-- a String constant whose text is read -/
theorem k_ldcS {i sl : Nat} {text : String} {vs : List Value} {z : Int32} (hd : decode M.2.1 pc = .ok (.ldc i, 2)) (hp : pc + 2 = pc') (w : (Cond.stringLink M.1.cls i text).before a0 Z = true) (wS : ∀ a ∈ Bundle.stringAtoms, a.before a0 Z = true) (hmem : (M.1.cls, i) ∈ P.1)
    (ht : (∀ c ∈ text.toList, c.toNat < 256) ∧ text.toList.map (fun c => Value.int (Jvm.Lit.byteI c.toNat.toUInt16)) = vs) (hz : ¬ z < 0) (hl : z.toNatClampNeg = vs.length) (hn : 4 * text.toList.length ≤ sl) (hbig : sl ≤ 536870912) (hc : k + 2 ≤ M.2.2.2.2.cells) (hs : n + (sl + 4) ≤ M.2.2.2.2.slots)
    (W : ∀ a b ck h', Ext h h' → Exa Z h' a "java/lang/String" → Fld Z h' a "java/lang/String" "coder" "B" (.int 0) → Fld Z h' a "java/lang/String" "value" "[B" (.ref b) → Arv Z h' b ck .byte z vs (.int 0) → (∀ x, P.2 x → x ≠ a ∧ x ≠ b) → KW true l Z M n0 Q P h' (k + 2) (n + (sl + 4)) pc' Ls (.ref a :: st)) : KW true l Z M n0 Q P h k n pc Ls st := by
  intro p e s s' m args below meth c hx hby hml hown hnm hret hlk hZ hB hI T locs X N eT
  subst hp
  rcases hB with ⟨q, -⟩ | ⟨-, vm0, k0, rfl, hS0, hk0, hC, hSf⟩
  · cases q
  obtain ⟨a1, hEW⟩ := hI rfl
  have hEW0 : EW Z a0 P.1 := fun p hp => by
    obtain ⟨text, w1, w2⟩ := hEW p hp
    exact ⟨text, by simpa only [Cond.before, Cond.holds, Cond.value] using w1, w2⟩
  obtain ⟨a, T', h', k1, b, ck, X', e', E, hS', hk', hZ', hown', A, F1, F2, V, -, -, hC', -, hne, stp⟩ := ldcCH X hx hZ hown w wS eT hS0 hk0 hEW0 hmem hC.1 ht hz hl (g := mkF m pc Ls st) rfl (hb hby hd) hn hbig hc hs
  obtain ⟨t, v', L, r, rr⟩ := W a b ck h' E A F1 F2 V (fun x hx => hne x (hC'.safe (hSf x hx).2 (hSf x hx).1)) p e s (s.setVm T'.vm) m args below meth c hx hby hml hown' hnm hret hlk hZ' (Or.inr ⟨rfl, T'.vm, k1, rfl, hS', hk', hC.trans hC', fun x hx => ⟨hC'.safe (hSf x hx).2 (hSf x hx).1, Nat.lt_of_lt_of_le (hSf x hx).2 E.1⟩⟩) hI T' locs X' N e'
  exact ⟨t, v', L, stp t r, rr⟩
/-- a String constant whose text isn't read -/
theorem k_ldcO {i sl : Nat} {text : String} (hd : decode M.2.1 pc = .ok (.ldc i, 2)) (hp : pc + 2 = pc') (w : (Cond.stringLink M.1.cls i text).before a0 Z = true) (wS : ∀ a ∈ Bundle.stringAtoms, a.before a0 Z = true)
    (hn : 4 * text.toList.length ≤ sl) (hbig : sl ≤ 536870912) (hc : k + 2 ≤ M.2.2.2.2.cells) (hs : n + (sl + 4) ≤ M.2.2.2.2.slots)
    (W : ∀ a h', Ext h h' → KW true l Z M n0 Q P h' (k + 2) (n + (sl + 4)) pc' Ls (.ref a :: st)) : KW true l Z M n0 Q P h k n pc Ls st := by
  intro p e s s' m args below meth c hx hby hml hown hnm hret hlk hZ hB hI T locs X N eT
  subst hp
  rcases hB with ⟨q, -⟩ | ⟨-, vm0, k0, rfl, hS0, hk0, hC, hSf⟩
  · cases q
  obtain ⟨a1, hEW⟩ := hI rfl
  have hEW0 : EW Z a0 P.1 := fun p hp => by
    obtain ⟨text, w1, w2⟩ := hEW p hp
    exact ⟨text, by simpa only [Cond.before, Cond.holds, Cond.value] using w1, w2⟩
  obtain ⟨a, T', h', k1, X', e', E, hS', hk', hZ', hown', hC', -, stp⟩ := ldcOH X hx hZ hown w wS eT hS0 hk0 hEW0 hC.1 (g := mkF m pc Ls st) rfl (hb hby hd) hn hbig hc hs
  obtain ⟨t, v', L, r, rr⟩ := W a h' E p e s (s.setVm T'.vm) m args below meth c hx hby hml hown' hnm hret hlk hZ' (Or.inr ⟨rfl, T'.vm, k1, rfl, hS', hk', hC.trans hC', fun x hx => ⟨hC'.safe (hSf x hx).2 (hSf x hx).1, Nat.lt_of_lt_of_le (hSf x hx).2 E.1⟩⟩) hI T' locs X' N e'
  exact ⟨t, v', L, stp t r, rr⟩
end
end Jvm.OwnW

namespace Jvm.OwnW
open Sem ClassFile Op Lib Jvm.Stand Jvm.Free Jvm.LawKit Jvm.RoadKit
theorem ix_int {j : Nat} (h : j < 2147483648) : (Int32.ofNat j).toInt = (j : Int) := Int32.toInt_ofNat_of_lt h
theorem ix_nat {j : Nat} (h : j < 2147483648) : (Int32.ofNat j).toNatClampNeg = j := by
  show (Int32.ofNat j).toInt.toNat = j
  rw [ix_int h]; rfl
theorem ix_nn {j : Nat} (h : j < 2147483648) : ¬ Int32.ofNat j < 0 := by
  rw [Int32.lt_iff_toInt_lt, ix_int h]; show ¬ (j : Int) < 0; omega
theorem ix_lt {i j : Nat} (hj : j < 2147483648) (h : i < j) : Int32.ofNat i < Int32.ofNat j := by
  rw [Int32.lt_iff_toInt_lt, ix_int hj, ix_int (by omega)]; omega
theorem ix_irr {j : Nat} : ¬ Int32.ofNat j < Int32.ofNat j := by rw [Int32.lt_iff_toInt_lt]; omega
theorem ix_succ (j : Nat) : Int32.ofNat j + 1 = Int32.ofNat (j + 1) := (Int32.ofNat_add j 1).symm
theorem ix_inb {j n : Nat} (hn : n < 2147483648) (h : j < n) : ¬ Int32.ofNat j < 0 ∧ Int32.ofNat j < Int32.ofNat n := ⟨ix_nn (by omega), ix_lt hn h⟩
theorem ix_ne {i j : Nat} (hi : i < 2147483648) (hj : j < 2147483648) (h : i ≠ j) : ¬ Int32.ofNat i = Int32.ofNat j := fun q => h (by
  have := congrArg Int32.toInt q; rw [ix_int hi, ix_int hj] at this; omega)
theorem get_mid (f : Int32 → Value) (ps rs : List Int32) (q : Int32) (d : Value) {j : Nat} (hj : j = ps.length) : ((ps ++ q :: rs).map f).getD j d = f q := by
  subst hj; induction ps with
  | nil => rfl
  | cons p ps ih => simpa using ih
theorem set_mid (A B : List Value) (w v : Value) {j : Nat} (hj : j = A.length) : (A ++ w :: B).set j v = (A ++ [v]) ++ B := by
  subst hj; induction A with
  | nil => rfl
  | cons p ps ih => simpa using ih
/-- a byte of a sign -/
abbrev nbI (q : Int32) : Int32 := nar .byte (Int8.toInt32 (Int32.toInt8 q))
theorem nbI_inj {p q : Int32} (hp : 0 ≤ p.toInt ∧ p.toInt < 256) (hq : 0 ≤ q.toInt ∧ q.toInt < 256) (h : nbI p = nbI q) : p = q := by
  have e1 := c_i2b p; have e2 := c_i2b q
  have e3 := c_i2b (Int8.toInt32 (Int32.toInt8 p)); have e4 := c_i2b (Int8.toInt32 (Int32.toInt8 q))
  have h' : (Int8.toInt32 (Int32.toInt8 (Int8.toInt32 (Int32.toInt8 p)))).toInt = (Int8.toInt32 (Int32.toInt8 (Int8.toInt32 (Int32.toInt8 q)))).toInt := congrArg Int32.toInt h
  refine Int32.toInt_inj.mp ?_
  omega
def Latin (xs : List Int32) : Prop := ∀ q ∈ xs, 0 ≤ q.toInt ∧ q.toInt < 256
theorem Latin.nil : Latin [] := fun _ q => nomatch q
theorem Latin.cons {q : Int32} {xs : List Int32} (h : 0 ≤ q.toInt ∧ q.toInt < 256) (r : Latin xs) : Latin (q :: xs) := fun x hx => (List.mem_cons.mp hx).elim (fun e => e ▸ h) (r x)
theorem latin_inj : ∀ {xs ys : List Int32}, Latin xs → Latin ys → xs.map nbI = ys.map nbI → xs = ys
  | [], [], _, _, _ => rfl
  | [], _ :: _, _, _, h => by simp at h
  | _ :: _, [], _, _, h => by simp at h
  | x :: xs, y :: ys, hx, hy, h => by
    simp only [List.map_cons, List.cons.injEq] at h
    rw [nbI_inj (hx x (by simp)) (hy y (by simp)) h.1, latin_inj (fun q hq => hx q (by simp [hq])) (fun q hq => hy q (by simp [hq])) h.2]
/-- a String of Latin-1 signs, by its bytes -/
def Sg (Z : State) (h : Heap) (a t : Addr) (bs : List Int32) : Prop := ∃ ck, Exa Z h a "java/lang/String" ∧ Fld Z h a "java/lang/String" "coder" "B" (.int 0) ∧ Fld Z h a "java/lang/String" "value" "[B" (.ref t) ∧ Arv Z h t ck .byte (Int32.ofNat bs.length) (bs.map Value.int) (.int 0) ∧ bs.length < 2147483648
section
variable {Z : State} {h h' : Heap} {a t x : Addr} {bs : List Int32} {ws : List Addr} {sl : Nat} {v : Value}
theorem Sg.ext (S : Sg Z h a t bs) (E : Ext h h') : Sg Z h' a t bs := by
  obtain ⟨ck, A, B, C, D, F⟩ := S; exact ⟨ck, A.ext E, B.ext E, C.ext E, D.ext E, F⟩
theorem Sg.keep (S : Sg Z h a t bs) (K : Keep h h' ws) (q : a ∉ ws) (r : t ∉ ws) : Sg Z h' a t bs := by
  obtain ⟨ck, A, B, C, D, F⟩ := S; exact ⟨ck, A.keep K, B.keep K q, C.keep K q, D.keep K r, F⟩
theorem Sg.wr (S : Sg Z h a t bs) (W : Wr h h' x sl v) (q : a ≠ x) (r : t ≠ x) : Sg Z h' a t bs := by
  obtain ⟨ck, A, B, C, D, F⟩ := S; exact ⟨ck, A.wr W, B.other W (Or.inl q), C.other W (Or.inl q), D.other W r, F⟩
theorem Sg.lt (S : Sg Z h a t bs) : a < h.size := by obtain ⟨ck, A, -⟩ := S; exact A.lt
theorem Sg.ltv (S : Sg Z h a t bs) : t < h.size := by obtain ⟨ck, -, -, -, D, -⟩ := S; exact D.lt
theorem Sg.exa (S : Sg Z h a t bs) : Exa Z h a "java/lang/String" := by obtain ⟨ck, A, -⟩ := S; exact A
end
theorem Fld.uniq {Z : State} {h : Heap} {a : Addr} {C n d : String} {v w : Value} (F : Fld Z h a C n d v) (G : Fld Z h a C n d w) : v = w :=
  Classical.byContradiction fun q => (Fld.ne F G q) rfl
theorem Arv.uniq {Z : State} {h : Heap} {t : Addr} {ck ck' : ClassId} {xs ys : List Int32} (hx : xs.length < 2147483648) (hy : ys.length < 2147483648) (A : Arv Z h t ck .byte (Int32.ofNat xs.length) (xs.map Value.int) (.int 0)) (B : Arv Z h t ck' .byte (Int32.ofNat ys.length) (ys.map Value.int) (.int 0)) : xs = ys := by
  obtain ⟨c, A1, -, A3, -, A5, -⟩ := A
  obtain ⟨c', B1, -, B3, -, B5, -⟩ := B
  cases A1.1.symm.trans B1.1
  rw [ix_nat hx] at A3
  rw [ix_nat hy] at B3
  have hl : xs.length = ys.length := A3.symm.trans B3
  apply List.ext_getElem hl
  intro i h1 h2
  have e1 := A5 i (by omega)
  have e2 := B5 i (by omega)
  have e3 := Option.some.inj (e1.symm.trans e2)
  simp only [List.getD_eq_getElem?_getD, List.getElem?_map, List.getElem?_eq_getElem h1, List.getElem?_eq_getElem h2, Option.map_some, Option.getD_some] at e3
  exact Value.int.inj e3
theorem Sg.uniq {Z : State} {h : Heap} {a t u : Addr} {xs ys : List Int32} (S : Sg Z h a t xs) (T : Sg Z h a u ys) : xs = ys := by
  obtain ⟨ck, -, -, C, D, F⟩ := S
  obtain ⟨ck', -, -, C', D', F'⟩ := T
  cases Value.ref.inj (Fld.uniq C C')
  exact Arv.uniq F F' D D'
/-- the answer of equals -/
def eqI (xs ys : List Int32) : Int32 := if xs = ys then 1 else 0
theorem eqI_one {xs ys : List Int32} (h : ¬ eqI xs ys = 0) : eqI xs ys = 1 := by
  unfold eqI at *; split at h
  · rename_i q; rw [if_pos q]
  · exact absurd rfl h
theorem eqI_self (xs : List Int32) : eqI xs xs = 1 := by simp [eqI]
theorem eqI_nar (xs ys : List Int32) : nar .boolean (eqI xs ys) = eqI xs ys := by unfold eqI; split <;> decide
theorem eqI_mid {ps rs rs' : List Int32} {q q' : Int32} (h : ¬ q = q') : eqI (ps ++ q :: rs) (ps ++ q' :: rs') = 0 := by
  unfold eqI; rw [if_neg]; intro e
  exact h (List.cons.inj (List.append_cancel_left e)).1
theorem eqI_len {xs ys : List Int32} (h : ¬ Int32.ofNat xs.length = Int32.ofNat ys.length) : eqI xs ys = 0 := by
  unfold eqI; rw [if_neg]; intro e; exact h (by rw [e])
end Jvm.OwnW

namespace Jvm.Pilot.@@N@@
open Jvm Jvm.ClassFile Sem Op Lib Jvm.Free Jvm.Stand Jvm.LawKit Jvm.RoadKit Bundle Jvm.OwnW Jvm.Pilot.@@N@@.Jvm.D

abbrev EL : List (String × Nat) := consts_1
theorem own_wS (Z : State) (a0 : Array Value) (hw : ∀ d ∈ tables_1, d.before a0 Z = true) : ∀ a ∈ Bundle.stringAtoms, a.before a0 Z = true := by
  intro a ha
  simp only [Bundle.stringAtoms, List.mem_cons, List.not_mem_nil, or_false] at ha
  rcases ha with rfl | rfl | rfl | rfl | rfl | rfl | rfl
  · exact (hw _ (List.mem_of_getElem? (i := 2) rfl))
  · exact (hw _ (List.mem_of_getElem? (i := 1) rfl))
  · exact (hw _ (List.mem_of_getElem? (i := 23) rfl))
  · exact (hw _ (List.mem_of_getElem? (i := 33) rfl))
  · exact (hw _ (List.mem_of_getElem? (i := 31) rfl))
  · exact (hw _ (List.mem_of_getElem? (i := 35) rfl))
  · exact (hw _ (List.mem_of_getElem? (i := 36) rfl))
abbrev M_leq : MD := ((⟨"java/lang/StringLatin1", "equals", "([B[B)Z"⟩ : MethodName), jdk_43_method_13_code, 3, (some .boolean), { frames := 0, cells := 0, slots := 0, locals := 0 })
theorem d_leq_0 : decode jdk_43_method_13_code 0 = .ok (.aload_n 0, 1) := by decide +kernel
theorem d_leq_1 : decode jdk_43_method_13_code 1 = .ok (.arraylength, 1) := by decide +kernel
theorem d_leq_2 : decode jdk_43_method_13_code 2 = .ok (.aload_n 1, 1) := by decide +kernel
theorem d_leq_3 : decode jdk_43_method_13_code 3 = .ok (.arraylength, 1) := by decide +kernel
theorem d_leq_4 : decode jdk_43_method_13_code 4 = .ok (.if_icmp .ne 30, 3) := by decide +kernel
theorem d_leq_7 : decode jdk_43_method_13_code 7 = .ok (.iconst 0, 1) := by decide +kernel
theorem d_leq_8 : decode jdk_43_method_13_code 8 = .ok (.istore_n 2, 1) := by decide +kernel
theorem d_leq_9 : decode jdk_43_method_13_code 9 = .ok (.iload_n 2, 1) := by decide +kernel
theorem d_leq_10 : decode jdk_43_method_13_code 10 = .ok (.aload_n 0, 1) := by decide +kernel
theorem d_leq_11 : decode jdk_43_method_13_code 11 = .ok (.arraylength, 1) := by decide +kernel
theorem d_leq_12 : decode jdk_43_method_13_code 12 = .ok (.if_icmp .ge 20, 3) := by decide +kernel
theorem d_leq_15 : decode jdk_43_method_13_code 15 = .ok (.aload_n 0, 1) := by decide +kernel
theorem d_leq_16 : decode jdk_43_method_13_code 16 = .ok (.iload_n 2, 1) := by decide +kernel
theorem d_leq_17 : decode jdk_43_method_13_code 17 = .ok (.baload, 1) := by decide +kernel
theorem d_leq_18 : decode jdk_43_method_13_code 18 = .ok (.aload_n 1, 1) := by decide +kernel
theorem d_leq_19 : decode jdk_43_method_13_code 19 = .ok (.iload_n 2, 1) := by decide +kernel
theorem d_leq_20 : decode jdk_43_method_13_code 20 = .ok (.baload, 1) := by decide +kernel
theorem d_leq_21 : decode jdk_43_method_13_code 21 = .ok (.if_icmp .eq 5, 3) := by decide +kernel
theorem d_leq_24 : decode jdk_43_method_13_code 24 = .ok (.iconst 0, 1) := by decide +kernel
theorem d_leq_25 : decode jdk_43_method_13_code 25 = .ok (.ireturn, 1) := by decide +kernel
theorem d_leq_26 : decode jdk_43_method_13_code 26 = .ok (.iinc 2 1, 3) := by decide +kernel
theorem d_leq_29 : decode jdk_43_method_13_code 29 = .ok (.goto (-20), 3) := by decide +kernel
theorem d_leq_32 : decode jdk_43_method_13_code 32 = .ok (.iconst 1, 1) := by decide +kernel
theorem d_leq_33 : decode jdk_43_method_13_code 33 = .ok (.ireturn, 1) := by decide +kernel
theorem d_leq_34 : decode jdk_43_method_13_code 34 = .ok (.iconst 0, 1) := by decide +kernel
theorem d_leq_35 : decode jdk_43_method_13_code 35 = .ok (.ireturn, 1) := by decide +kernel
theorem pd_leq : parseMethodDescriptor "([B[B)Z" = some ⟨[(.array .byte), (.array .byte)], (some .boolean)⟩ := by decide +kernel
theorem pf_leq : plainFor (⟨"java/lang/StringLatin1", "equals", "([B[B)Z"⟩ : MethodName) = true := by first | exact plainFor_of_name (by first | (simp [plainName, overriddenIn]; done) | decide +kernel) | decide +kernel
set_option maxRecDepth 65536 in
set_option maxHeartbeats 40000000 in
theorem kw_leqL (l : Launch) (Z : State) (a0 : Array Value) (hw : ∀ d ∈ tables_1, d.before a0 Z = true) (cs : Int32) (hcs : ¬ cs = 0) (SC : Sta Z Z.heap "java/lang/String" "COMPACT_STRINGS" "Z" (.int cs)) (hEW : EW Z a0 EL) (a b : Addr) (ck ck' : ClassId) (xs ys : List Int32) (h0 : Heap) (n0 : Nat) (hx : xs.length < 2147483648) (hy : ys.length < 2147483648) (A : Arv Z h0 a ck .byte (Int32.ofNat xs.length) (xs.map Value.int) (.int 0)) (B : Arv Z h0 b ck' .byte (Int32.ofNat ys.length) (ys.map Value.int) (.int 0)) (hl : xs.length = ys.length) : ∀ (rs rs' ps : List Int32), xs = ps ++ rs → ys = ps ++ rs' → KW false l Z M_leq n0 (fun v h => v = some (.int (eqI xs ys)) ∧ h0 = h) ([], fun _ => False) h0 0 0 9 #[.val (.ref a), .val (.ref b), .val (.int (Int32.ofNat ps.length))] [] := by
  intro rs
  induction rs with
  | nil =>
      intro rs' ps e e'
      have z : rs' = [] := by
        have := hl; rw [e, e'] at this; simp at this; exact this
      subst z
      refine k_iloadN d_leq_9 rfl rfl ?_
      refine k_aloadN d_leq_10 rfl rfl rfl ?_
      refine k_arrlen d_leq_11 rfl A ?_
      refine k_icmp (pc1 := 32) (pc' := 15) d_leq_12 (by decide) (by decide) rfl (fun (cd1 : ¬ (Int32.ofNat ps.length) < (Int32.ofNat xs.length)) => ?_) (fun (cd1 : (Int32.ofNat ps.length) < (Int32.ofNat xs.length)) => False.elim (by rw [e, List.append_nil] at cd1; exact ix_irr cd1))
      refine k_iconst (z := (1 : Int32)) d_leq_32 rfl (by decide) ?_
      exact k_retNar d_leq_33 rfl (by simp) (z' := (1 : Int32)) (by decide) (by decide) (by decide) ⟨by rw [e, e', eqI_self], rfl⟩
  | cons q rs ih =>
      intro rs' ps e e'
      obtain ⟨q', rs', rfl⟩ : ∃ q' r, rs' = q' :: r := by
        cases rs' with
        | nil => have := hl; rw [e, e'] at this; simp at this
        | cons q' r => exact ⟨q', r, rfl⟩
      have LT : ps.length < xs.length := by rw [e, List.length_append, List.length_cons]; omega
      have LT' : ps.length < ys.length := by rw [e', List.length_append, List.length_cons]; omega
      refine k_iloadN d_leq_9 rfl rfl ?_
      refine k_aloadN d_leq_10 rfl rfl rfl ?_
      refine k_arrlen d_leq_11 rfl A ?_
      refine k_icmp (pc1 := 32) (pc' := 15) d_leq_12 (by decide) (by decide) rfl (fun (cd2 : ¬ (Int32.ofNat ps.length) < (Int32.ofNat xs.length)) => absurd (by exact ix_lt hx LT) cd2) (fun (cd2 : (Int32.ofNat ps.length) < (Int32.ofNat xs.length)) => ?_)
      refine k_aloadN d_leq_15 rfl rfl rfl ?_
      refine k_iloadN d_leq_16 rfl rfl ?_
      refine k_baload (v := (.int q)) d_leq_17 rfl A (ix_inb hx LT) (by rw [ix_nat (Nat.lt_trans LT hx), e]; exact get_mid _ _ _ _ _ rfl) ?_
      refine k_aloadN d_leq_18 rfl rfl rfl ?_
      refine k_iloadN d_leq_19 rfl rfl ?_
      refine k_baload (v := (.int q')) d_leq_20 rfl B (ix_inb hy LT') (by rw [ix_nat (Nat.lt_trans LT hx), e']; exact get_mid _ _ _ _ _ rfl) ?_
      refine k_icmp (pc1 := 26) (pc' := 24) d_leq_21 (by decide) (by decide) rfl (fun (cd3 : q = q') => ?_) (fun (cd3 : ¬ q = q') => ?_)
      · skip
        refine k_iinc (z := (1 : Int32)) (Ls' := #[.val (.ref a), .val (.ref b), .val (.int ((Int32.ofNat ps.length) + (1 : Int32)))]) d_leq_26 rfl (by decide) rfl rfl ?_
        refine k_goto (pc' := 9) d_leq_29 (by decide) (by decide) ?_
        subst cd3
        have J := ih rs' (ps ++ [q]) (by rw [e]; simp) (by rw [e']; simp)
        rw [show (ps ++ [q]).length = ps.length + 1 by simp, ← ix_succ] at J
        exact J
      · skip
        refine k_iconst (z := (0 : Int32)) d_leq_24 rfl (by decide) ?_
        exact k_retNar d_leq_25 rfl (by simp) (z' := (0 : Int32)) (by decide) (by decide) (by decide) ⟨by rw [e, e', eqI_mid (by assumption)], rfl⟩
set_option maxRecDepth 65536 in
set_option maxHeartbeats 40000000 in
theorem kw_leq (l : Launch) (Z : State) (a0 : Array Value) (hw : ∀ d ∈ tables_1, d.before a0 Z = true) (cs : Int32) (hcs : ¬ cs = 0) (SC : Sta Z Z.heap "java/lang/String" "COMPACT_STRINGS" "Z" (.int cs)) (hEW : EW Z a0 EL) (a b : Addr) (ck ck' : ClassId) (xs ys : List Int32) (h0 : Heap) (n0 : Nat) (hx : xs.length < 2147483648) (hy : ys.length < 2147483648) (A : Arv Z h0 a ck .byte (Int32.ofNat xs.length) (xs.map Value.int) (.int 0)) (B : Arv Z h0 b ck' .byte (Int32.ofNat ys.length) (ys.map Value.int) (.int 0)) : KW false l Z M_leq n0 (fun v h => v = some (.int (eqI xs ys)) ∧ h0 = h) ([], fun _ => False) h0 0 0 0 #[.val (.ref a), .val (.ref b), .unset] [] := by
  refine k_aloadN d_leq_0 rfl rfl rfl ?_
  refine k_arrlen d_leq_1 rfl A ?_
  refine k_aloadN d_leq_2 rfl rfl rfl ?_
  refine k_arrlen d_leq_3 rfl B ?_
  refine k_icmp (pc1 := 34) (pc' := 7) d_leq_4 (by decide) (by decide) rfl (fun (cd4 : ¬ (Int32.ofNat xs.length) = (Int32.ofNat ys.length)) => ?_) (fun (cd4 : (Int32.ofNat xs.length) = (Int32.ofNat ys.length)) => ?_)
  · skip
    refine k_iconst (z := (0 : Int32)) d_leq_34 rfl (by decide) ?_
    exact k_retNar d_leq_35 rfl (by simp) (z' := (0 : Int32)) (by decide) (by decide) (by decide) ⟨by rw [eqI_len (by assumption)], rfl⟩
  · skip
    refine k_iconst (z := (0 : Int32)) d_leq_7 rfl (by decide) ?_
    refine k_istoreN (Ls' := #[.val (.ref a), .val (.ref b), .val (.int (0 : Int32))]) d_leq_8 rfl rfl ?_
    exact kw_leqL l Z a0 hw cs hcs SC hEW a b ck ck' xs ys h0 n0 hx hy A B (Classical.byContradiction fun z => ix_ne hx hy z cd4) xs ys [] rfl rfl
theorem mt_leq (l : Launch) (Z : State) (a0 : Array Value) (hw : ∀ d ∈ tables_1, d.before a0 Z = true) (cs : Int32) (hcs : ¬ cs = 0) (SC : Sta Z Z.heap "java/lang/String" "COMPACT_STRINGS" "Z" (.int cs)) (hEW : EW Z a0 EL) (a b : Addr) (ck ck' : ClassId) (xs ys : List Int32) (h0 : Heap) (n0 : Nat) (hx : xs.length < 2147483648) (hy : ys.length < 2147483648) (A : Arv Z h0 a ck .byte (Int32.ofNat xs.length) (xs.map Value.int) (.int 0)) (B : Arv Z h0 b ck' .byte (Int32.ofNat ys.length) (ys.map Value.int) (.int 0)) : Mt l Z M_leq [] n0 #[(.ref a), (.ref b)] h0 (fun v h => v = some (.int (eqI xs ys)) ∧ h0 = h) :=
  mt_of_kw (P := ([], fun _ => False)) pf_leq (fun m => by first | (simp [entryFrame, mkF, argsToLocals, Value.category]; done) | rfl) (kw_leq l Z a0 hw cs hcs SC hEW a b ck ck' xs ys h0 n0 hx hy A B)
abbrev M_seq : MD := ((⟨"java/lang/String", "equals", "(Ljava/lang/Object;)Z"⟩ : MethodName), jdk_42_method_66_code, 3, (some .boolean), { frames := 1, cells := 0, slots := 0, locals := 20 })
theorem d_seq_0 : decode jdk_42_method_66_code 0 = .ok (.aload_n 0, 1) := by decide +kernel
theorem d_seq_1 : decode jdk_42_method_66_code 1 = .ok (.aload_n 1, 1) := by decide +kernel
theorem d_seq_2 : decode jdk_42_method_66_code 2 = .ok (.if_acmp .ne 5, 3) := by decide +kernel
theorem d_seq_5 : decode jdk_42_method_66_code 5 = .ok (.iconst 1, 1) := by decide +kernel
theorem d_seq_6 : decode jdk_42_method_66_code 6 = .ok (.ireturn, 1) := by decide +kernel
theorem d_seq_7 : decode jdk_42_method_66_code 7 = .ok (.aload_n 1, 1) := by decide +kernel
theorem d_seq_8 : decode jdk_42_method_66_code 8 = .ok (.instanceof 10, 3) := by decide +kernel
theorem d_seq_11 : decode jdk_42_method_66_code 11 = .ok (.ifCond .eq 43, 3) := by decide +kernel
theorem d_seq_14 : decode jdk_42_method_66_code 14 = .ok (.aload_n 1, 1) := by decide +kernel
theorem d_seq_15 : decode jdk_42_method_66_code 15 = .ok (.checkcast 10, 3) := by decide +kernel
theorem d_seq_18 : decode jdk_42_method_66_code 18 = .ok (.astore_n 2, 1) := by decide +kernel
theorem d_seq_19 : decode jdk_42_method_66_code 19 = .ok (.getstatic 38, 3) := by decide +kernel
theorem d_seq_22 : decode jdk_42_method_66_code 22 = .ok (.ifCond .eq 14, 3) := by decide +kernel
theorem d_seq_25 : decode jdk_42_method_66_code 25 = .ok (.aload_n 0, 1) := by decide +kernel
theorem d_seq_26 : decode jdk_42_method_66_code 26 = .ok (.getfield 15, 3) := by decide +kernel
theorem d_seq_29 : decode jdk_42_method_66_code 29 = .ok (.aload_n 2, 1) := by decide +kernel
theorem d_seq_30 : decode jdk_42_method_66_code 30 = .ok (.getfield 15, 3) := by decide +kernel
theorem d_seq_33 : decode jdk_42_method_66_code 33 = .ok (.if_icmp .ne 21, 3) := by decide +kernel
theorem d_seq_36 : decode jdk_42_method_66_code 36 = .ok (.aload_n 0, 1) := by decide +kernel
theorem d_seq_37 : decode jdk_42_method_66_code 37 = .ok (.getfield 9, 3) := by decide +kernel
theorem d_seq_40 : decode jdk_42_method_66_code 40 = .ok (.aload_n 2, 1) := by decide +kernel
theorem d_seq_41 : decode jdk_42_method_66_code 41 = .ok (.getfield 9, 3) := by decide +kernel
theorem d_seq_44 : decode jdk_42_method_66_code 44 = .ok (.invokestatic 541, 3) := by decide +kernel
theorem d_seq_47 : decode jdk_42_method_66_code 47 = .ok (.ifCond .eq 7, 3) := by decide +kernel
theorem d_seq_50 : decode jdk_42_method_66_code 50 = .ok (.iconst 1, 1) := by decide +kernel
theorem d_seq_51 : decode jdk_42_method_66_code 51 = .ok (.goto 4, 3) := by decide +kernel
theorem d_seq_54 : decode jdk_42_method_66_code 54 = .ok (.iconst 0, 1) := by decide +kernel
theorem d_seq_55 : decode jdk_42_method_66_code 55 = .ok (.ireturn, 1) := by decide +kernel
theorem pd_seq : parseMethodDescriptor "(Ljava/lang/Object;)Z" = some ⟨[(.object "java/lang/Object")], (some .boolean)⟩ := by decide +kernel
theorem pf_seq : plainFor (⟨"java/lang/String", "equals", "(Ljava/lang/Object;)Z"⟩ : MethodName) = true := by first | exact plainFor_of_name (by first | (simp [plainName, overriddenIn]; done) | decide +kernel) | decide +kernel
set_option maxRecDepth 65536 in
set_option maxHeartbeats 40000000 in
theorem kw_seq (l : Launch) (Z : State) (a0 : Array Value) (hw : ∀ d ∈ tables_1, d.before a0 Z = true) (cs : Int32) (hcs : ¬ cs = 0) (SC : Sta Z Z.heap "java/lang/String" "COMPACT_STRINGS" "Z" (.int cs)) (hEW : EW Z a0 EL) (a b t u : Addr) (xs ys : List Int32) (h0 : Heap) (n0 : Nat) (OD : Old Z n0 h0) (SA : Sg Z h0 a t xs) (SB : Sg Z h0 b u ys) : KW false l Z M_seq n0 (fun v h => v = some (.int (eqI xs ys)) ∧ h0 = h) ([], fun _ => False) h0 0 0 0 #[.val (.ref a), .val (.ref b), .unset] [] := by
  obtain ⟨ckA, EA, CA, VA, AA, lA⟩ := id SA
  obtain ⟨ckB, EB, CB, VB, AB, lB⟩ := id SB
  refine k_aloadN d_seq_0 rfl rfl rfl ?_
  refine k_aloadN d_seq_1 rfl rfl rfl ?_
  refine k_acmpNe (pc1 := 7) (pc' := 5) d_seq_2 rfl rfl (by decide) (by decide) rfl (fun (cd1 : ¬ (Value.ref a) = (Value.ref b)) => ?_) (fun (cd1 : (Value.ref a) = (Value.ref b)) => ?_)
  · skip
    refine k_aloadN d_seq_7 rfl rfl rfl ?_
    refine k_instY d_seq_8 rfl (hw _ (List.mem_of_getElem? (i := 63) rfl)) (Ins.self EB) ?_
    refine k_ifc (pc1 := 54) (pc' := 14) d_seq_11 (by decide) (by decide) rfl (fun (cd2 : (1 : Int32) = (0 : Int32)) => False.elim (by exact absurd cd2 (by decide))) (fun (cd2 : ¬ (1 : Int32) = (0 : Int32)) => ?_)
    refine k_aloadN d_seq_14 rfl rfl rfl ?_
    refine k_cast d_seq_15 rfl (hw _ (List.mem_of_getElem? (i := 63) rfl)) (Ins.self EB) ?_
    refine k_astoreN (Ls' := #[.val (.ref a), .val (.ref b), .val (.ref b)]) d_seq_18 rfl rfl rfl ?_
    refine k_getStatic d_seq_19 rfl (hw _ (List.mem_of_getElem? (i := 18) rfl)) (Sta.ext OD.2 SC) ?_
    refine k_ifc (pc1 := 36) (pc' := 25) d_seq_22 (by decide) (by decide) rfl (fun (cd3 : cs = (0 : Int32)) => False.elim (by exact hcs cd3)) (fun (cd3 : ¬ cs = (0 : Int32)) => ?_)
    refine k_aloadN d_seq_25 rfl rfl rfl ?_
    refine k_getField d_seq_26 rfl (hw _ (List.mem_of_getElem? (i := 30) rfl)) Via.refl CA ?_
    refine k_aloadN d_seq_29 rfl rfl rfl ?_
    refine k_getField d_seq_30 rfl (hw _ (List.mem_of_getElem? (i := 30) rfl)) Via.refl CB ?_
    refine k_icmp (pc1 := 54) (pc' := 36) d_seq_33 (by decide) (by decide) rfl (fun (cd4 : ¬ (0 : Int32) = (0 : Int32)) => False.elim (by exact absurd cd4 (by decide))) (fun (cd4 : (0 : Int32) = (0 : Int32)) => ?_)
    refine k_aloadN d_seq_36 rfl rfl rfl ?_
    refine k_getField d_seq_37 rfl (hw _ (List.mem_of_getElem? (i := 32) rfl)) Via.refl VA ?_
    refine k_aloadN d_seq_40 rfl rfl rfl ?_
    refine k_getField d_seq_41 rfl (hw _ (List.mem_of_getElem? (i := 32) rfl)) Via.refl VB ?_
    refine k_callStatic (argsL := [(.ref t), (.ref u)]) (rest := []) (W0 := 0) d_seq_44 rfl (mt_leq l Z a0 hw cs hcs SC hEW t u _ _ xs ys h0 n0 lA lB AA AB) Kp.strict (hw _ (List.mem_of_getElem? (i := 64) rfl)) (hw _ (List.mem_of_getElem? (i := 65) rfl)) (hw _ (List.mem_of_getElem? (i := 66) rfl)) (hw _ (List.mem_of_getElem? (i := 67) rfl)) (by decide) pd_leq rfl rfl rfl rfl (by decide) (by decide) (by decide) (by decide) ?_
    rintro _ _ - ⟨rfl, rfl⟩
    refine KW.any (P' := ([], fun _ => False)) ?_
    show KW false l Z M_seq n0 (fun v h => v = some (.int (eqI xs ys)) ∧ h0 = h) ([], fun _ => False) h0 0 0 47 #[.val (.ref a), .val (.ref b), .val (.ref b)] [(.int (eqI xs ys))]
    refine k_ifc (pc1 := 54) (pc' := 50) d_seq_47 (by decide) (by decide) rfl (fun (cd5 : (eqI xs ys) = (0 : Int32)) => ?_) (fun (cd5 : ¬ (eqI xs ys) = (0 : Int32)) => ?_)
    · skip
      refine k_iconst (z := (0 : Int32)) d_seq_54 rfl (by decide) ?_
      exact k_retNar d_seq_55 rfl (by simp) (z' := (0 : Int32)) (by decide) (by decide) (by decide) ⟨by first | rw [eqI_one (by assumption)] | rw [show eqI xs ys = 0 by assumption], rfl⟩
    · skip
      refine k_iconst (z := (1 : Int32)) d_seq_50 rfl (by decide) ?_
      refine k_goto (pc' := 55) d_seq_51 (by decide) (by decide) ?_
      exact k_retNar d_seq_55 rfl (by simp) (z' := (1 : Int32)) (by decide) (by decide) (by decide) ⟨by first | rw [eqI_one (by assumption)] | rw [show eqI xs ys = 0 by assumption], rfl⟩
  · skip
    refine k_iconst (z := (1 : Int32)) d_seq_5 rfl (by decide) ?_
    exact k_retNar d_seq_6 rfl (by simp) (z' := (1 : Int32)) (by decide) (by decide) (by decide) ⟨by obtain rfl := Value.ref.inj (by assumption); rw [SA.uniq SB, eqI_self], rfl⟩
theorem mt_seq (l : Launch) (Z : State) (a0 : Array Value) (hw : ∀ d ∈ tables_1, d.before a0 Z = true) (cs : Int32) (hcs : ¬ cs = 0) (SC : Sta Z Z.heap "java/lang/String" "COMPACT_STRINGS" "Z" (.int cs)) (hEW : EW Z a0 EL) (a b t u : Addr) (xs ys : List Int32) (h0 : Heap) (n0 : Nat) (OD : Old Z n0 h0) (SA : Sg Z h0 a t xs) (SB : Sg Z h0 b u ys) : Mt l Z M_seq [] n0 #[(.ref a), (.ref b)] h0 (fun v h => v = some (.int (eqI xs ys)) ∧ h0 = h) :=
  mt_of_kw (P := ([], fun _ => False)) pf_seq (fun m => by first | (simp [entryFrame, mkF, argsToLocals, Value.category]; done) | rfl) (kw_seq l Z a0 hw cs hcs SC hEW a b t u xs ys h0 n0 OD SA SB)
abbrev M_cfl : MD := ((⟨"java/lang/StringUTF16", "coderFromArrayLen", "([BI)B"⟩ : MethodName), jdk_52_method_15_code, 2, (some .byte), { frames := 0, cells := 0, slots := 0, locals := 0 })
theorem d_cfl_0 : decode jdk_52_method_15_code 0 = .ok (.iload_n 1, 1) := by decide +kernel
theorem d_cfl_1 : decode jdk_52_method_15_code 1 = .ok (.aload_n 0, 1) := by decide +kernel
theorem d_cfl_2 : decode jdk_52_method_15_code 2 = .ok (.arraylength, 1) := by decide +kernel
theorem d_cfl_3 : decode jdk_52_method_15_code 3 = .ok (.isub, 1) := by decide +kernel
theorem d_cfl_4 : decode jdk_52_method_15_code 4 = .ok (.bipush 31, 2) := by decide +kernel
theorem d_cfl_6 : decode jdk_52_method_15_code 6 = .ok (.iushr, 1) := by decide +kernel
theorem d_cfl_7 : decode jdk_52_method_15_code 7 = .ok (.i2b, 1) := by decide +kernel
theorem d_cfl_8 : decode jdk_52_method_15_code 8 = .ok (.ireturn, 1) := by decide +kernel
theorem pd_cfl : parseMethodDescriptor "([BI)B" = some ⟨[(.array .byte), .int], (some .byte)⟩ := by decide +kernel
theorem pf_cfl : plainFor (⟨"java/lang/StringUTF16", "coderFromArrayLen", "([BI)B"⟩ : MethodName) = true := by first | exact plainFor_of_name (by first | (simp [plainName, overriddenIn]; done) | decide +kernel) | decide +kernel
set_option maxRecDepth 65536 in
set_option maxHeartbeats 40000000 in
theorem kw_cfl (l : Launch) (Z : State) (a0 : Array Value) (hw : ∀ d ∈ tables_1, d.before a0 Z = true) (cs : Int32) (hcs : ¬ cs = 0) (SC : Sta Z Z.heap "java/lang/String" "COMPACT_STRINGS" "Z" (.int cs)) (hEW : EW Z a0 EL) (t : Addr) (ck : ClassId) (z : Int32) (vs : List Value) (dv : Value) (h0 : Heap) (n0 : Nat) (A : Arv Z h0 t ck .byte z vs dv) : KW false l Z M_cfl n0 (fun v h => v = some (.int 0) ∧ h0 = h) ([], fun _ => False) h0 0 0 0 #[.val (.ref t), .val (.int z)] [] := by
  refine k_iloadN d_cfl_0 rfl rfl ?_
  refine k_aloadN d_cfl_1 rfl rfl rfl ?_
  refine k_arrlen d_cfl_2 rfl A ?_
  refine k_isub d_cfl_3 rfl ?_
  refine k_bipush (z := (31 : Int32)) d_cfl_4 rfl (by decide) ?_
  refine k_iushr d_cfl_6 rfl ?_
  refine k_i2b d_cfl_7 rfl ?_
  exact k_retNar d_cfl_8 rfl (by simp) (z' := (0 : Int32)) (by rw [Int32.sub_self]; decide) (by decide) (by decide) ⟨rfl, rfl⟩
theorem mt_cfl (l : Launch) (Z : State) (a0 : Array Value) (hw : ∀ d ∈ tables_1, d.before a0 Z = true) (cs : Int32) (hcs : ¬ cs = 0) (SC : Sta Z Z.heap "java/lang/String" "COMPACT_STRINGS" "Z" (.int cs)) (hEW : EW Z a0 EL) (t : Addr) (ck : ClassId) (z : Int32) (vs : List Value) (dv : Value) (h0 : Heap) (n0 : Nat) (A : Arv Z h0 t ck .byte z vs dv) : Mt l Z M_cfl [] n0 #[(.ref t), (.int z)] h0 (fun v h => v = some (.int 0) ∧ h0 = h) :=
  mt_of_kw (P := ([], fun _ => False)) pf_cfl (fun m => by first | (simp [entryFrame, mkF, argsToLocals, Value.category]; done) | rfl) (kw_cfl l Z a0 hw cs hcs SC hEW t ck z vs dv h0 n0 A)
abbrev M_cmp : MD := ((⟨"java/lang/StringUTF16", "compress", "([CI[BII)I"⟩ : MethodName), jdk_52_method_21_code, 7, (some .int), { frames := 0, cells := 0, slots := 0, locals := 0 })
theorem d_cmp_0 : decode jdk_52_method_21_code 0 = .ok (.iconst 0, 1) := by decide +kernel
theorem d_cmp_1 : decode jdk_52_method_21_code 1 = .ok (.istore 5, 2) := by decide +kernel
theorem d_cmp_3 : decode jdk_52_method_21_code 3 = .ok (.iload 5, 2) := by decide +kernel
theorem d_cmp_5 : decode jdk_52_method_21_code 5 = .ok (.iload 4, 2) := by decide +kernel
theorem d_cmp_7 : decode jdk_52_method_21_code 7 = .ok (.if_icmp .ge 37, 3) := by decide +kernel
theorem d_cmp_10 : decode jdk_52_method_21_code 10 = .ok (.aload_n 0, 1) := by decide +kernel
theorem d_cmp_11 : decode jdk_52_method_21_code 11 = .ok (.iload_n 1, 1) := by decide +kernel
theorem d_cmp_12 : decode jdk_52_method_21_code 12 = .ok (.caload, 1) := by decide +kernel
theorem d_cmp_13 : decode jdk_52_method_21_code 13 = .ok (.istore 6, 2) := by decide +kernel
theorem d_cmp_15 : decode jdk_52_method_21_code 15 = .ok (.iload 6, 2) := by decide +kernel
theorem d_cmp_17 : decode jdk_52_method_21_code 17 = .ok (.sipush 255, 3) := by decide +kernel
theorem d_cmp_20 : decode jdk_52_method_21_code 20 = .ok (.if_icmp .le 6, 3) := by decide +kernel
theorem d_cmp_23 : decode jdk_52_method_21_code 23 = .ok (.iload 5, 2) := by decide +kernel
theorem d_cmp_25 : decode jdk_52_method_21_code 25 = .ok (.ireturn, 1) := by decide +kernel
theorem d_cmp_26 : decode jdk_52_method_21_code 26 = .ok (.aload_n 2, 1) := by decide +kernel
theorem d_cmp_27 : decode jdk_52_method_21_code 27 = .ok (.iload_n 3, 1) := by decide +kernel
theorem d_cmp_28 : decode jdk_52_method_21_code 28 = .ok (.iload 6, 2) := by decide +kernel
theorem d_cmp_30 : decode jdk_52_method_21_code 30 = .ok (.i2b, 1) := by decide +kernel
theorem d_cmp_31 : decode jdk_52_method_21_code 31 = .ok (.bastore, 1) := by decide +kernel
theorem d_cmp_32 : decode jdk_52_method_21_code 32 = .ok (.iinc 1 1, 3) := by decide +kernel
theorem d_cmp_35 : decode jdk_52_method_21_code 35 = .ok (.iinc 3 1, 3) := by decide +kernel
theorem d_cmp_38 : decode jdk_52_method_21_code 38 = .ok (.iinc 5 1, 3) := by decide +kernel
theorem d_cmp_41 : decode jdk_52_method_21_code 41 = .ok (.goto (-38), 3) := by decide +kernel
theorem d_cmp_44 : decode jdk_52_method_21_code 44 = .ok (.iload 4, 2) := by decide +kernel
theorem d_cmp_46 : decode jdk_52_method_21_code 46 = .ok (.ireturn, 1) := by decide +kernel
theorem pd_cmp : parseMethodDescriptor "([CI[BII)I" = some ⟨[(.array .char), .int, (.array .byte), .int, .int], (some .int)⟩ := by decide +kernel
theorem pf_cmp : plainFor (⟨"java/lang/StringUTF16", "compress", "([CI[BII)I"⟩ : MethodName) = true := by first | exact plainFor_of_name (by first | (simp [plainName, overriddenIn]; done) | decide +kernel) | decide +kernel
theorem own_255 {q : Int32} (h : 0 ≤ q.toInt ∧ q.toInt < 256) (k : (255 : Int32) < q) : False := by
  rw [Int32.lt_iff_toInt_lt, show (255 : Int32).toInt = 255 from rfl] at k; omega
set_option maxRecDepth 65536 in
set_option maxHeartbeats 40000000 in
theorem kw_cmpL (l : Launch) (Z : State) (a0 : Array Value) (hw : ∀ d ∈ tables_1, d.before a0 Z = true) (cs : Int32) (hcs : ¬ cs = 0) (SC : Sta Z Z.heap "java/lang/String" "COMPACT_STRINGS" "Z" (.int cs)) (hEW : EW Z a0 EL) (c d : Addr) (ck ck' : ClassId) (xs : List Int32) (h0 : Heap) (n0 : Nat) (hx : xs.length < 2147483648) (hL : Latin xs) (hne : c ≠ d) (hd : n0 ≤ d) : ∀ (rs ps : List Int32) (X6 : Slot) (h : Heap), (X6 = .unset ∨ ∃ q, X6 = .val (.int q)) → xs = ps ++ rs → Arv Z h c ck .char (Int32.ofNat xs.length) (xs.map Value.int) (.int 0) → Arv Z h d ck' .byte (Int32.ofNat xs.length) ((ps.map nbI).map Value.int ++ List.replicate rs.length (Value.int 0)) (.int 0) → Keep h0 h [d] → KW false l Z M_cmp n0 (fun v h => v = some (.int (Int32.ofNat xs.length)) ∧ Keep h0 h [d] ∧ Arv Z h d ck' .byte (Int32.ofNat xs.length) ((xs.map nbI).map Value.int) (.int 0)) ([], fun _ => False) h 0 0 3 #[.val (.ref c), .val (.int (Int32.ofNat ps.length)), .val (.ref d), .val (.int (Int32.ofNat ps.length)), .val (.int (Int32.ofNat xs.length)), .val (.int (Int32.ofNat ps.length)), X6] [] := by
  intro rs
  induction rs with
  | nil =>
      intro ps X6 h hX e C D K
      refine k_iload d_cmp_3 rfl rfl ?_
      refine k_iload d_cmp_5 rfl rfl ?_
      refine k_icmp (pc1 := 44) (pc' := 10) d_cmp_7 (by decide) (by decide) rfl (fun (cd1 : ¬ (Int32.ofNat ps.length) < (Int32.ofNat xs.length)) => ?_) (fun (cd1 : (Int32.ofNat ps.length) < (Int32.ofNat xs.length)) => False.elim (by rw [e, List.append_nil] at cd1; exact ix_irr cd1))
      refine k_iload d_cmp_44 rfl rfl ?_
      exact k_retInt d_cmp_46 rfl (by decide) (by decide) ⟨rfl, K, by rw [List.append_nil] at e; subst e; simpa using D⟩
  | cons q rs ih =>
      intro ps X6 h hX e C D K
      have LT : ps.length < xs.length := by rw [e, List.length_append, List.length_cons]; omega
      refine k_iload d_cmp_3 rfl rfl ?_
      refine k_iload d_cmp_5 rfl rfl ?_
      refine k_icmp (pc1 := 44) (pc' := 10) d_cmp_7 (by decide) (by decide) rfl (fun (cd2 : ¬ (Int32.ofNat ps.length) < (Int32.ofNat xs.length)) => absurd (by exact ix_lt hx LT) cd2) (fun (cd2 : (Int32.ofNat ps.length) < (Int32.ofNat xs.length)) => ?_)
      refine k_aloadN d_cmp_10 rfl rfl rfl ?_
      refine k_iloadN d_cmp_11 rfl rfl ?_
      refine k_caload (v := (.int q)) d_cmp_12 rfl C (ix_inb hx LT) (by rw [ix_nat (Nat.lt_trans LT hx), e]; exact get_mid _ _ _ _ _ rfl) ?_
      refine k_istore (Ls' := #[.val (.ref c), .val (.int (Int32.ofNat ps.length)), .val (.ref d), .val (.int (Int32.ofNat ps.length)), .val (.int (Int32.ofNat xs.length)), .val (.int (Int32.ofNat ps.length)), .val (.int q)]) d_cmp_13 rfl (by rcases hX with rfl | ⟨_, rfl⟩ <;> rfl) ?_
      refine k_iload d_cmp_15 rfl rfl ?_
      refine k_sipush (z := (255 : Int32)) d_cmp_17 rfl (by decide) ?_
      refine k_icmp (pc1 := 26) (pc' := 23) d_cmp_20 (by decide) (by decide) rfl (fun (cd3 : ¬ (255 : Int32) < q) => ?_) (fun (cd3 : (255 : Int32) < q) => False.elim (by exact own_255 (hL q (by rw [e]; simp)) cd3))
      refine k_aloadN d_cmp_26 rfl rfl rfl ?_
      refine k_iloadN d_cmp_27 rfl rfl ?_
      refine k_iload d_cmp_28 rfl rfl ?_
      refine k_i2b d_cmp_30 rfl ?_
      refine k_bastore (i := ps.length) d_cmp_31 rfl D (ix_inb hx LT) (ix_nat (Nat.lt_trans LT hx)) (by simp) hd (fun q => by cases q) ?_
      intro h2 W V2
      rw [show List.replicate (q :: rs).length (Value.int 0) = Value.int 0 :: List.replicate rs.length (Value.int 0) from rfl, set_mid _ _ _ _ (by simp)] at V2
      have C2 := C.other W hne
      show KW false l Z M_cmp n0 (fun v h => v = some (.int (Int32.ofNat xs.length)) ∧ Keep h0 h [d] ∧ Arv Z h d ck' .byte (Int32.ofNat xs.length) ((xs.map nbI).map Value.int) (.int 0)) ([], fun _ => False) h2 0 0 32 #[.val (.ref c), .val (.int (Int32.ofNat ps.length)), .val (.ref d), .val (.int (Int32.ofNat ps.length)), .val (.int (Int32.ofNat xs.length)), .val (.int (Int32.ofNat ps.length)), .val (.int q)] []
      refine k_iinc (z := (1 : Int32)) (Ls' := #[.val (.ref c), .val (.int ((Int32.ofNat ps.length) + (1 : Int32))), .val (.ref d), .val (.int (Int32.ofNat ps.length)), .val (.int (Int32.ofNat xs.length)), .val (.int (Int32.ofNat ps.length)), .val (.int q)]) d_cmp_32 rfl (by decide) rfl rfl ?_
      refine k_iinc (z := (1 : Int32)) (Ls' := #[.val (.ref c), .val (.int ((Int32.ofNat ps.length) + (1 : Int32))), .val (.ref d), .val (.int ((Int32.ofNat ps.length) + (1 : Int32))), .val (.int (Int32.ofNat xs.length)), .val (.int (Int32.ofNat ps.length)), .val (.int q)]) d_cmp_35 rfl (by decide) rfl rfl ?_
      refine k_iinc (z := (1 : Int32)) (Ls' := #[.val (.ref c), .val (.int ((Int32.ofNat ps.length) + (1 : Int32))), .val (.ref d), .val (.int ((Int32.ofNat ps.length) + (1 : Int32))), .val (.int (Int32.ofNat xs.length)), .val (.int ((Int32.ofNat ps.length) + (1 : Int32))), .val (.int q)]) d_cmp_38 rfl (by decide) rfl rfl ?_
      refine k_goto (pc' := 3) d_cmp_41 (by decide) (by decide) ?_
      have J := ih (ps ++ [q]) (.val (.int q)) h2 (Or.inr ⟨_, rfl⟩) (by rw [e]; simp) C2 (by simpa using V2) (K.wr W (Or.inl (by simp)))
      rw [show (ps ++ [q]).length = ps.length + 1 by simp, ← ix_succ] at J
      exact J
set_option maxRecDepth 65536 in
set_option maxHeartbeats 40000000 in
theorem kw_cmp (l : Launch) (Z : State) (a0 : Array Value) (hw : ∀ d ∈ tables_1, d.before a0 Z = true) (cs : Int32) (hcs : ¬ cs = 0) (SC : Sta Z Z.heap "java/lang/String" "COMPACT_STRINGS" "Z" (.int cs)) (hEW : EW Z a0 EL) (c d : Addr) (ck ck' : ClassId) (xs : List Int32) (h0 : Heap) (n0 : Nat) (hx : xs.length < 2147483648) (hL : Latin xs) (hne : c ≠ d) (hd : n0 ≤ d) (C : Arv Z h0 c ck .char (Int32.ofNat xs.length) (xs.map Value.int) (.int 0)) (D : Arv Z h0 d ck' .byte (Int32.ofNat xs.length) [] (.int 0)) : KW false l Z M_cmp n0 (fun v h => v = some (.int (Int32.ofNat xs.length)) ∧ Keep h0 h [d] ∧ Arv Z h d ck' .byte (Int32.ofNat xs.length) ((xs.map nbI).map Value.int) (.int 0)) ([], fun _ => False) h0 0 0 0 #[.val (.ref c), .val (.int (0 : Int32)), .val (.ref d), .val (.int (0 : Int32)), .val (.int (Int32.ofNat xs.length)), .unset, .unset] [] := by
  refine k_iconst (z := (0 : Int32)) d_cmp_0 rfl (by decide) ?_
  refine k_istore (Ls' := #[.val (.ref c), .val (.int (0 : Int32)), .val (.ref d), .val (.int (0 : Int32)), .val (.int (Int32.ofNat xs.length)), .val (.int (0 : Int32)), .unset]) d_cmp_1 rfl rfl ?_
  exact kw_cmpL l Z a0 hw cs hcs SC hEW c d ck ck' xs h0 n0 hx hL hne hd xs [] _ h0 (Or.inl rfl) rfl C (Arv.pad D (pad_rep [] _ _)) (Keep.refl _ _)
theorem mt_cmp (l : Launch) (Z : State) (a0 : Array Value) (hw : ∀ d ∈ tables_1, d.before a0 Z = true) (cs : Int32) (hcs : ¬ cs = 0) (SC : Sta Z Z.heap "java/lang/String" "COMPACT_STRINGS" "Z" (.int cs)) (hEW : EW Z a0 EL) (c d : Addr) (ck ck' : ClassId) (xs : List Int32) (h0 : Heap) (n0 : Nat) (hx : xs.length < 2147483648) (hL : Latin xs) (hne : c ≠ d) (hd : n0 ≤ d) (C : Arv Z h0 c ck .char (Int32.ofNat xs.length) (xs.map Value.int) (.int 0)) (D : Arv Z h0 d ck' .byte (Int32.ofNat xs.length) [] (.int 0)) : Mt l Z M_cmp [] n0 #[(.ref c), (.int (0 : Int32)), (.ref d), (.int (0 : Int32)), (.int (Int32.ofNat xs.length))] h0 (fun v h => v = some (.int (Int32.ofNat xs.length)) ∧ Keep h0 h [d] ∧ Arv Z h d ck' .byte (Int32.ofNat xs.length) ((xs.map nbI).map Value.int) (.int 0)) :=
  mt_of_kw (P := ([], fun _ => False)) pf_cmp (fun m => by first | (simp [entryFrame, mkF, argsToLocals, Value.category]; done) | rfl) (kw_cmp l Z a0 hw cs hcs SC hEW c d ck ck' xs h0 n0 hx hL hne hd C D)
abbrev M_cp : MD := ((⟨"java/lang/StringUTF16", "compress", "([CII)[B"⟩ : MethodName), jdk_52_method_16_code, 6, (some (.array .byte)), { frames := 1, cells := 1, slots := 2, locals := 24 })
theorem d_cp_0 : decode jdk_52_method_16_code 0 = .ok (.iload_n 2, 1) := by decide +kernel
theorem d_cp_1 : decode jdk_52_method_16_code 1 = .ok (.newarray .byte, 2) := by decide +kernel
theorem d_cp_3 : decode jdk_52_method_16_code 3 = .ok (.astore_n 3, 1) := by decide +kernel
theorem d_cp_4 : decode jdk_52_method_16_code 4 = .ok (.aload_n 0, 1) := by decide +kernel
theorem d_cp_5 : decode jdk_52_method_16_code 5 = .ok (.iload_n 1, 1) := by decide +kernel
theorem d_cp_6 : decode jdk_52_method_16_code 6 = .ok (.aload_n 3, 1) := by decide +kernel
theorem d_cp_7 : decode jdk_52_method_16_code 7 = .ok (.iconst 0, 1) := by decide +kernel
theorem d_cp_8 : decode jdk_52_method_16_code 8 = .ok (.iload_n 2, 1) := by decide +kernel
theorem d_cp_9 : decode jdk_52_method_16_code 9 = .ok (.invokestatic 115, 3) := by decide +kernel
theorem d_cp_12 : decode jdk_52_method_16_code 12 = .ok (.istore 4, 2) := by decide +kernel
theorem d_cp_14 : decode jdk_52_method_16_code 14 = .ok (.iload 4, 2) := by decide +kernel
theorem d_cp_16 : decode jdk_52_method_16_code 16 = .ok (.iload_n 2, 1) := by decide +kernel
theorem d_cp_17 : decode jdk_52_method_16_code 17 = .ok (.if_icmp .eq 40, 3) := by decide +kernel
theorem d_cp_20 : decode jdk_52_method_16_code 20 = .ok (.aload_n 0, 1) := by decide +kernel
theorem d_cp_21 : decode jdk_52_method_16_code 21 = .ok (.iload_n 1, 1) := by decide +kernel
theorem d_cp_22 : decode jdk_52_method_16_code 22 = .ok (.iload_n 2, 1) := by decide +kernel
theorem d_cp_23 : decode jdk_52_method_16_code 23 = .ok (.invokestatic 119, 3) := by decide +kernel
theorem d_cp_26 : decode jdk_52_method_16_code 26 = .ok (.astore 5, 2) := by decide +kernel
theorem d_cp_28 : decode jdk_52_method_16_code 28 = .ok (.aload 5, 2) := by decide +kernel
theorem d_cp_30 : decode jdk_52_method_16_code 30 = .ok (.iload 4, 2) := by decide +kernel
theorem d_cp_32 : decode jdk_52_method_16_code 32 = .ok (.invokestatic 71, 3) := by decide +kernel
theorem d_cp_35 : decode jdk_52_method_16_code 35 = .ok (.sipush 255, 3) := by decide +kernel
theorem d_cp_38 : decode jdk_52_method_16_code 38 = .ok (.if_icmp .gt 16, 3) := by decide +kernel
theorem d_cp_41 : decode jdk_52_method_16_code 41 = .ok (.aload 5, 2) := by decide +kernel
theorem d_cp_43 : decode jdk_52_method_16_code 43 = .ok (.iconst 0, 1) := by decide +kernel
theorem d_cp_44 : decode jdk_52_method_16_code 44 = .ok (.aload_n 3, 1) := by decide +kernel
theorem d_cp_45 : decode jdk_52_method_16_code 45 = .ok (.iconst 0, 1) := by decide +kernel
theorem d_cp_46 : decode jdk_52_method_16_code 46 = .ok (.iload_n 2, 1) := by decide +kernel
theorem d_cp_47 : decode jdk_52_method_16_code 47 = .ok (.invokestatic 123, 3) := by decide +kernel
theorem d_cp_50 : decode jdk_52_method_16_code 50 = .ok (.iload_n 2, 1) := by decide +kernel
theorem d_cp_51 : decode jdk_52_method_16_code 51 = .ok (.if_icmp .eq 6, 3) := by decide +kernel
theorem d_cp_54 : decode jdk_52_method_16_code 54 = .ok (.aload 5, 2) := by decide +kernel
theorem d_cp_56 : decode jdk_52_method_16_code 56 = .ok (.areturn, 1) := by decide +kernel
theorem d_cp_57 : decode jdk_52_method_16_code 57 = .ok (.aload_n 3, 1) := by decide +kernel
theorem d_cp_58 : decode jdk_52_method_16_code 58 = .ok (.areturn, 1) := by decide +kernel
theorem pd_cp : parseMethodDescriptor "([CII)[B" = some ⟨[(.array .char), .int, .int], (some (.array .byte))⟩ := by decide +kernel
theorem pf_cp : plainFor (⟨"java/lang/StringUTF16", "compress", "([CII)[B"⟩ : MethodName) = true := by first | exact plainFor_of_name (by first | (simp [plainName, overriddenIn]; done) | decide +kernel) | decide +kernel
set_option maxRecDepth 65536 in
set_option maxHeartbeats 40000000 in
theorem kw_cp (l : Launch) (Z : State) (a0 : Array Value) (hw : ∀ d ∈ tables_1, d.before a0 Z = true) (cs : Int32) (hcs : ¬ cs = 0) (SC : Sta Z Z.heap "java/lang/String" "COMPACT_STRINGS" "Z" (.int cs)) (hEW : EW Z a0 EL) (c : Addr) (ck : ClassId) (xs : List Int32) (h0 : Heap) (n0 : Nat) (hx : xs.length ≤ 2) (hL : Latin xs) (OD : Old Z n0 h0) (C : Arv Z h0 c ck .char (Int32.ofNat xs.length) (xs.map Value.int) (.int 0)) : KW false l Z M_cp n0 (fun v h => ∃ d ck', v = some (.ref d) ∧ h0.size ≤ d ∧ n0 ≤ d ∧ Keep h0 h [] ∧ Arv Z h d ck' .byte (Int32.ofNat xs.length) ((xs.map nbI).map Value.int) (.int 0)) ([], fun _ => False) h0 0 0 0 #[.val (.ref c), .val (.int (0 : Int32)), .val (.int (Int32.ofNat xs.length)), .unset, .unset, .unset] [] := by
  have Z0 := OD.1 ▸ OD.2.1
  refine k_iloadN d_cp_0 rfl rfl ?_
  refine k_newarr (cap := 2) d_cp_1 rfl (hw _ (List.mem_of_getElem? (i := 23) rfl)) (ix_nn (by omega)) (by rw [ix_nat (by omega)]; exact hx) (by decide) (by decide) (by decide) ?_
  intro h2 a1 ck6 g5 E3 V4
  have ne7 : c ≠ a1 := Nat.ne_of_lt (Nat.lt_of_lt_of_eq C.lt g5.symm)
  have z9 : n0 ≤ h0.size := Z0
  have ge8 : n0 ≤ a1 := Nat.le_trans z9 (Nat.le_of_eq g5.symm)
  have gl10 : h0.size ≤ a1 := Nat.le_of_eq g5.symm
  refine KW.any (P' := ([], fun _ => False)) ?_
  show KW false l Z M_cp n0 (fun v h => ∃ d ck', v = some (.ref d) ∧ h0.size ≤ d ∧ n0 ≤ d ∧ Keep h0 h [] ∧ Arv Z h d ck' .byte (Int32.ofNat xs.length) ((xs.map nbI).map Value.int) (.int 0)) ([], fun _ => False) h2 1 2 3 #[.val (.ref c), .val (.int (0 : Int32)), .val (.int (Int32.ofNat xs.length)), .unset, .unset, .unset] [(.ref a1)]
  refine k_astoreN (Ls' := #[.val (.ref c), .val (.int (0 : Int32)), .val (.int (Int32.ofNat xs.length)), .val (.ref a1), .unset, .unset]) d_cp_3 rfl rfl rfl ?_
  refine k_aloadN d_cp_4 rfl rfl rfl ?_
  refine k_iloadN d_cp_5 rfl rfl ?_
  refine k_aloadN d_cp_6 rfl rfl rfl ?_
  refine k_iconst (z := (0 : Int32)) d_cp_7 rfl (by decide) ?_
  refine k_iloadN d_cp_8 rfl rfl ?_
  have f11 := (C.ext E3)
  refine k_callStatic (argsL := [(.ref c), (.int (0 : Int32)), (.ref a1), (.int (0 : Int32)), (.int (Int32.ofNat xs.length))]) (rest := []) (W0 := 0) d_cp_9 rfl (mt_cmp l Z a0 hw cs hcs SC hEW c a1 _ _ xs h2 n0 (by omega) hL ne7 ge8 f11 V4) Kp.strict (hw _ (List.mem_of_getElem? (i := 24) rfl)) (hw _ (List.mem_of_getElem? (i := 25) rfl)) (hw _ (List.mem_of_getElem? (i := 21) rfl)) (hw _ (List.mem_of_getElem? (i := 26) rfl)) (by decide) pd_cmp rfl rfl rfl rfl (by decide) (by decide) (by decide) (by decide) ?_
  rintro _ hN - ⟨rfl, KN, DN⟩
  refine KW.any (P' := ([], fun _ => False)) ?_
  show KW false l Z M_cp n0 (fun v h => ∃ d ck', v = some (.ref d) ∧ h0.size ≤ d ∧ n0 ≤ d ∧ Keep h0 h [] ∧ Arv Z h d ck' .byte (Int32.ofNat xs.length) ((xs.map nbI).map Value.int) (.int 0)) ([], fun _ => False) hN 1 2 12 #[.val (.ref c), .val (.int (0 : Int32)), .val (.int (Int32.ofNat xs.length)), .val (.ref a1), .unset, .unset] [(.int (Int32.ofNat xs.length))]
  refine k_istore (Ls' := #[.val (.ref c), .val (.int (0 : Int32)), .val (.int (Int32.ofNat xs.length)), .val (.ref a1), .val (.int (Int32.ofNat xs.length)), .unset]) d_cp_12 rfl rfl ?_
  refine k_iload d_cp_14 rfl rfl ?_
  refine k_iloadN d_cp_16 rfl rfl ?_
  refine k_icmp (pc1 := 57) (pc' := 20) d_cp_17 (by decide) (by decide) rfl (fun (cd1 : (Int32.ofNat xs.length) = (Int32.ofNat xs.length)) => ?_) (fun (cd1 : ¬ (Int32.ofNat xs.length) = (Int32.ofNat xs.length)) => False.elim (by exact cd1 rfl))
  refine k_aloadN d_cp_57 rfl rfl rfl ?_
  exact k_retRef d_cp_58 rfl rfl rfl (by decide) (by decide) ⟨a1, _, rfl, gl10, ge8, (Keep.ext (Keep.refl _ _) E3).trans KN (allS (Or.inr gl10) all0), DN⟩
theorem mt_cp (l : Launch) (Z : State) (a0 : Array Value) (hw : ∀ d ∈ tables_1, d.before a0 Z = true) (cs : Int32) (hcs : ¬ cs = 0) (SC : Sta Z Z.heap "java/lang/String" "COMPACT_STRINGS" "Z" (.int cs)) (hEW : EW Z a0 EL) (c : Addr) (ck : ClassId) (xs : List Int32) (h0 : Heap) (n0 : Nat) (hx : xs.length ≤ 2) (hL : Latin xs) (OD : Old Z n0 h0) (C : Arv Z h0 c ck .char (Int32.ofNat xs.length) (xs.map Value.int) (.int 0)) : Mt l Z M_cp [] n0 #[(.ref c), (.int (0 : Int32)), (.int (Int32.ofNat xs.length))] h0 (fun v h => ∃ d ck', v = some (.ref d) ∧ h0.size ≤ d ∧ n0 ≤ d ∧ Keep h0 h [] ∧ Arv Z h d ck' .byte (Int32.ofNat xs.length) ((xs.map nbI).map Value.int) (.int 0)) :=
  mt_of_kw (P := ([], fun _ => False)) pf_cp (fun m => by first | (simp [entryFrame, mkF, argsToLocals, Value.category]; done) | rfl) (kw_cp l Z a0 hw cs hcs SC hEW c ck xs h0 n0 hx hL OD C)
abbrev M_si : MD := ((⟨"java/lang/String", "<init>", "([CIILjava/lang/Void;)V"⟩ : MethodName), jdk_42_method_149_code, 6, none, { frames := 2, cells := 4, slots := 8, locals := 48 })
theorem d_si_0 : decode jdk_42_method_149_code 0 = .ok (.aload_n 0, 1) := by decide +kernel
theorem d_si_1 : decode jdk_42_method_149_code 1 = .ok (.invokespecial 1, 3) := by decide +kernel
theorem d_si_4 : decode jdk_42_method_149_code 4 = .ok (.iload_n 3, 1) := by decide +kernel
theorem d_si_5 : decode jdk_42_method_149_code 5 = .ok (.ifCond .ne 22, 3) := by decide +kernel
theorem d_si_8 : decode jdk_42_method_149_code 8 = .ok (.aload_n 0, 1) := by decide +kernel
theorem d_si_9 : decode jdk_42_method_149_code 9 = .ok (.ldc 7, 2) := by decide +kernel
theorem d_si_11 : decode jdk_42_method_149_code 11 = .ok (.getfield 9, 3) := by decide +kernel
theorem d_si_14 : decode jdk_42_method_149_code 14 = .ok (.putfield 9, 3) := by decide +kernel
theorem d_si_17 : decode jdk_42_method_149_code 17 = .ok (.aload_n 0, 1) := by decide +kernel
theorem d_si_18 : decode jdk_42_method_149_code 18 = .ok (.ldc 7, 2) := by decide +kernel
theorem d_si_20 : decode jdk_42_method_149_code 20 = .ok (.getfield 15, 3) := by decide +kernel
theorem d_si_23 : decode jdk_42_method_149_code 23 = .ok (.putfield 15, 3) := by decide +kernel
theorem d_si_26 : decode jdk_42_method_149_code 26 = .ok (.return_, 1) := by decide +kernel
theorem d_si_27 : decode jdk_42_method_149_code 27 = .ok (.getstatic 38, 3) := by decide +kernel
theorem d_si_30 : decode jdk_42_method_149_code 30 = .ok (.ifCond .eq 28, 3) := by decide +kernel
theorem d_si_33 : decode jdk_42_method_149_code 33 = .ok (.aload_n 1, 1) := by decide +kernel
theorem d_si_34 : decode jdk_42_method_149_code 34 = .ok (.iload_n 2, 1) := by decide +kernel
theorem d_si_35 : decode jdk_42_method_149_code 35 = .ok (.iload_n 3, 1) := by decide +kernel
theorem d_si_36 : decode jdk_42_method_149_code 36 = .ok (.invokestatic 177, 3) := by decide +kernel
theorem d_si_39 : decode jdk_42_method_149_code 39 = .ok (.astore 5, 2) := by decide +kernel
theorem d_si_41 : decode jdk_42_method_149_code 41 = .ok (.aload_n 0, 1) := by decide +kernel
theorem d_si_42 : decode jdk_42_method_149_code 42 = .ok (.aload 5, 2) := by decide +kernel
theorem d_si_44 : decode jdk_42_method_149_code 44 = .ok (.iload_n 3, 1) := by decide +kernel
theorem d_si_45 : decode jdk_42_method_149_code 45 = .ok (.invokestatic 47, 3) := by decide +kernel
theorem d_si_48 : decode jdk_42_method_149_code 48 = .ok (.putfield 15, 3) := by decide +kernel
theorem d_si_51 : decode jdk_42_method_149_code 51 = .ok (.aload_n 0, 1) := by decide +kernel
theorem d_si_52 : decode jdk_42_method_149_code 52 = .ok (.aload 5, 2) := by decide +kernel
theorem d_si_54 : decode jdk_42_method_149_code 54 = .ok (.putfield 9, 3) := by decide +kernel
theorem d_si_57 : decode jdk_42_method_149_code 57 = .ok (.return_, 1) := by decide +kernel
theorem d_si_58 : decode jdk_42_method_149_code 58 = .ok (.aload_n 0, 1) := by decide +kernel
theorem d_si_59 : decode jdk_42_method_149_code 59 = .ok (.iconst 1, 1) := by decide +kernel
theorem d_si_60 : decode jdk_42_method_149_code 60 = .ok (.putfield 15, 3) := by decide +kernel
theorem d_si_63 : decode jdk_42_method_149_code 63 = .ok (.aload_n 0, 1) := by decide +kernel
theorem d_si_64 : decode jdk_42_method_149_code 64 = .ok (.aload_n 1, 1) := by decide +kernel
theorem d_si_65 : decode jdk_42_method_149_code 65 = .ok (.iload_n 2, 1) := by decide +kernel
theorem d_si_66 : decode jdk_42_method_149_code 66 = .ok (.iload_n 3, 1) := by decide +kernel
theorem d_si_67 : decode jdk_42_method_149_code 67 = .ok (.invokestatic 180, 3) := by decide +kernel
theorem d_si_70 : decode jdk_42_method_149_code 70 = .ok (.putfield 9, 3) := by decide +kernel
theorem d_si_73 : decode jdk_42_method_149_code 73 = .ok (.return_, 1) := by decide +kernel
theorem pd_si : parseMethodDescriptor "([CIILjava/lang/Void;)V" = some ⟨[(.array .char), .int, .int, (.object "java/lang/Void")], none⟩ := by decide +kernel
theorem pf_si : plainFor (⟨"java/lang/String", "<init>", "([CIILjava/lang/Void;)V"⟩ : MethodName) = true := by first | exact plainFor_of_name (by first | (simp [plainName, overriddenIn]; done) | decide +kernel) | decide +kernel
set_option maxRecDepth 65536 in
set_option maxHeartbeats 40000000 in
theorem kw_si0 (l : Launch) (Z : State) (a0 : Array Value) (hw : ∀ d ∈ tables_1, d.before a0 Z = true) (cs : Int32) (hcs : ¬ cs = 0) (SC : Sta Z Z.heap "java/lang/String" "COMPACT_STRINGS" "Z" (.int cs)) (hEW : EW Z a0 EL) (a c : Addr) (h0 : Heap) (n0 : Nat) (OD : Old Z n0 h0) (EA : Exa Z h0 a "java/lang/String") (FC : Fld Z h0 a "java/lang/String" "coder" "B" (.int 0)) (FV : Fld Z h0 a "java/lang/String" "value" "[B" .null) (ga : n0 ≤ a) : KW true l Z M_si n0 (fun v h => v = none ∧ ∃ t, Sg Z h a t [] ∧ Keep h0 h [a]) (EL, fun x => x = a) h0 0 0 0 #[.val (.ref a), .val (.ref c), .val (.int (0 : Int32)), .val (.int (0 : Int32)), .val .null, .unset] [] := by
  have K0 : Keep h0 h0 [a] := Keep.refl _ _
  refine k_aloadN d_si_0 rfl rfl rfl ?_
  refine k_initObj (W0 := 0) d_si_1 rfl (hw _ (List.mem_of_getElem? (i := 15) rfl)) (hw _ (List.mem_of_getElem? (i := 16) rfl)) (hw _ (List.mem_of_getElem? (i := 17) rfl)) rfl rfl (by decide) (by decide) ?_
  refine k_iloadN d_si_4 rfl rfl ?_
  refine k_ifc (pc1 := 27) (pc' := 8) d_si_5 (by decide) (by decide) rfl (fun (cd1 : ¬ (0 : Int32) = (0 : Int32)) => False.elim (by exact absurd cd1 (by decide))) (fun (cd1 : (0 : Int32) = (0 : Int32)) => ?_)
  refine k_aloadN d_si_8 rfl rfl rfl ?_
  refine k_ldcS (sl := 0) (vs := []) (z := (0 : Int32)) d_si_9 rfl (hw _ (List.mem_of_getElem? (i := 34) rfl)) (own_wS Z a0 hw) (List.mem_of_getElem? (i := 0) rfl) ⟨by decide, by decide⟩ (by decide) (by decide) (by decide) (by decide) (by decide) (by decide) ?_
  intro a1 b2 ck3 h4 E5 X6 F7 F8 A9 N10
  show KW true l Z M_si n0 (fun v h => v = none ∧ ∃ t, Sg Z h a t [] ∧ Keep h0 h [a]) (EL, fun x => x = a) h4 2 4 11 #[.val (.ref a), .val (.ref c), .val (.int (0 : Int32)), .val (.int (0 : Int32)), .val .null, .unset] [(.ref a1), (.ref a)]
  refine k_getField d_si_11 rfl (hw _ (List.mem_of_getElem? (i := 32) rfl)) Via.refl F8 ?_
  have f13 := (FV.ext E5)
  have f14 := (EA.ext E5)
  refine k_put (v' := (.ref b2)) (ty := (.array .byte)) d_si_14 rfl (hw _ (List.mem_of_getElem? (i := 32) rfl)) Via.refl f13 f14 (Or.inr ⟨(hw _ (List.mem_of_getElem? (i := 33) rfl)), rfl, rfl⟩) (hw _ (List.mem_of_getElem? (i := 1) rfl)) (by decide) rfl rfl ga (fun _ => Or.inl rfl) ?_
  intro h11 W12
  have F15 := f13.same W12
  show KW true l Z M_si n0 (fun v h => v = none ∧ ∃ t, Sg Z h a t [] ∧ Keep h0 h [a]) (EL, fun x => x = a) h11 2 4 17 #[.val (.ref a), .val (.ref c), .val (.int (0 : Int32)), .val (.int (0 : Int32)), .val .null, .unset] []
  refine k_aloadN d_si_17 rfl rfl rfl ?_
  have f16 := (f14.wr W12)
  have f17 := (X6.wr W12)
  have f18 := (A9.other W12 (Ne.symm (N10 a rfl).2))
  refine k_ldcS (sl := 0) (vs := []) (z := (0 : Int32)) d_si_18 rfl (hw _ (List.mem_of_getElem? (i := 34) rfl)) (own_wS Z a0 hw) (List.mem_of_getElem? (i := 0) rfl) ⟨by decide, by decide⟩ (by decide) (by decide) (by decide) (by decide) (by decide) (by decide) ?_
  intro a19 b20 ck21 h22 E23 X24 F25 F26 A27 N28
  show KW true l Z M_si n0 (fun v h => v = none ∧ ∃ t, Sg Z h a t [] ∧ Keep h0 h [a]) (EL, fun x => x = a) h22 4 8 20 #[.val (.ref a), .val (.ref c), .val (.int (0 : Int32)), .val (.int (0 : Int32)), .val .null, .unset] [(.ref a19), (.ref a)]
  refine k_getField d_si_20 rfl (hw _ (List.mem_of_getElem? (i := 30) rfl)) Via.refl F25 ?_
  have f31 := (((FC.ext E5).other W12 (Or.inr (slot_ne (t := .byte) (t' := (.array .byte)) (Or.inr (hw _ (List.mem_of_getElem? (i := 31) rfl))) (Or.inr (hw _ (List.mem_of_getElem? (i := 33) rfl))) (by decide) (by decide) (by decide)))).ext E23)
  have f32 := (f16.ext E23)
  refine k_put (v' := (.int (0 : Int32))) (ty := .byte) d_si_23 rfl (hw _ (List.mem_of_getElem? (i := 30) rfl)) Via.refl f31 f32 (Or.inr ⟨(hw _ (List.mem_of_getElem? (i := 31) rfl)), rfl, rfl⟩) (hw _ (List.mem_of_getElem? (i := 1) rfl)) (by decide) rfl rfl ga (fun _ => Or.inl rfl) ?_
  intro h29 W30
  have F33 := f31.same W30
  show KW true l Z M_si n0 (fun v h => v = none ∧ ∃ t, Sg Z h a t [] ∧ Keep h0 h [a]) (EL, fun x => x = a) h29 4 8 26 #[.val (.ref a), .val (.ref c), .val (.int (0 : Int32)), .val (.int (0 : Int32)), .val .null, .unset] []
  have f34 := (f32.wr W30)
  have f35 := ((F15.ext E23).other W30 (Or.inr (slot_ne (t := (.array .byte)) (t' := .byte) (Or.inr (hw _ (List.mem_of_getElem? (i := 33) rfl))) (Or.inr (hw _ (List.mem_of_getElem? (i := 31) rfl))) (by decide) (by decide) (by decide))))
  have f36 := ((f18.ext E23).other W30 (Ne.symm (N10 a rfl).2))
  have f37 := ((((K0.ext E5).wr W12 (Or.inl (by simp))).ext E23).wr W30 (Or.inl (by simp)))
  exact k_retVoid d_si_26 rfl (by decide) (by decide) ⟨rfl, b2, ⟨ck3, f34, F33, f35, f36, by decide⟩, f37⟩
set_option maxRecDepth 65536 in
set_option maxHeartbeats 40000000 in
theorem kw_si1 (l : Launch) (Z : State) (a0 : Array Value) (hw : ∀ d ∈ tables_1, d.before a0 Z = true) (cs : Int32) (hcs : ¬ cs = 0) (SC : Sta Z Z.heap "java/lang/String" "COMPACT_STRINGS" "Z" (.int cs)) (hEW : EW Z a0 EL) (a c : Addr) (ck : ClassId) (xs : List Int32) (h0 : Heap) (n0 : Nat) (hx : xs.length ≤ 2) (hL : Latin xs) (OD : Old Z n0 h0) (EA : Exa Z h0 a "java/lang/String") (FC : Fld Z h0 a "java/lang/String" "coder" "B" (.int 0)) (FV : Fld Z h0 a "java/lang/String" "value" "[B" .null) (C : Arv Z h0 c ck .char (Int32.ofNat xs.length) (xs.map Value.int) (.int 0)) (ga : n0 ≤ a) (hn : xs.length ≠ 0) : KW true l Z M_si n0 (fun v h => v = none ∧ ∃ t, Sg Z h a t (xs.map nbI) ∧ Keep h0 h [a]) (EL, fun x => x = a) h0 0 0 0 #[.val (.ref a), .val (.ref c), .val (.int (0 : Int32)), .val (.int (Int32.ofNat xs.length)), .val .null, .unset] [] := by
  have K0 : Keep h0 h0 [a] := Keep.refl _ _
  refine k_aloadN d_si_0 rfl rfl rfl ?_
  refine k_initObj (W0 := 0) d_si_1 rfl (hw _ (List.mem_of_getElem? (i := 15) rfl)) (hw _ (List.mem_of_getElem? (i := 16) rfl)) (hw _ (List.mem_of_getElem? (i := 17) rfl)) rfl rfl (by decide) (by decide) ?_
  refine k_iloadN d_si_4 rfl rfl ?_
  refine k_ifc (pc1 := 27) (pc' := 8) d_si_5 (by decide) (by decide) rfl (fun (cd2 : ¬ (Int32.ofNat xs.length) = (0 : Int32)) => ?_) (fun (cd2 : (Int32.ofNat xs.length) = (0 : Int32)) => False.elim (by exact ix_ne (i := xs.length) (j := 0) (by omega) (by decide) hn cd2))
  refine k_getStatic d_si_27 rfl (hw _ (List.mem_of_getElem? (i := 18) rfl)) (Sta.ext OD.2 SC) ?_
  refine k_ifc (pc1 := 58) (pc' := 33) d_si_30 (by decide) (by decide) rfl (fun (cd3 : cs = (0 : Int32)) => False.elim (by exact hcs cd3)) (fun (cd3 : ¬ cs = (0 : Int32)) => ?_)
  refine k_aloadN d_si_33 rfl rfl rfl ?_
  refine k_iloadN d_si_34 rfl rfl ?_
  refine k_iloadN d_si_35 rfl rfl ?_
  refine k_callStatic (argsL := [(.ref c), (.int (0 : Int32)), (.int (Int32.ofNat xs.length))]) (rest := []) (W0 := 0) d_si_36 rfl (mt_cp l Z a0 hw cs hcs SC hEW c ck xs h0 n0 hx hL OD C) (fun _ _ _ q => by obtain ⟨_, _, -, -, -, K, -⟩ := q; exact ⟨[], K, fun _ z => nomatch z⟩) (hw _ (List.mem_of_getElem? (i := 19) rfl)) (hw _ (List.mem_of_getElem? (i := 20) rfl)) (hw _ (List.mem_of_getElem? (i := 21) rfl)) (hw _ (List.mem_of_getElem? (i := 22) rfl)) (by decide) pd_cp rfl rfl rfl rfl (by decide) (by decide) (by decide) (by decide) ?_
  rintro _ h39 - ⟨d38, ck44, rfl, gd42, g43, K40, D41⟩
  have ne45 : a ≠ d38 := Nat.ne_of_lt (Nat.lt_of_lt_of_le EA.lt gd42)
  refine KW.sub (S' := fun x => x = a) (fun x hx => Or.inl hx) ?_
  show KW true l Z M_si n0 (fun v h => v = none ∧ ∃ t, Sg Z h a t (xs.map nbI) ∧ Keep h0 h [a]) (EL, fun x => x = a) h39 1 2 39 #[.val (.ref a), .val (.ref c), .val (.int (0 : Int32)), .val (.int (Int32.ofNat xs.length)), .val .null, .unset] [(.ref d38)]
  refine k_astore (Ls' := #[.val (.ref a), .val (.ref c), .val (.int (0 : Int32)), .val (.int (Int32.ofNat xs.length)), .val .null, .val (.ref d38)]) d_si_39 rfl rfl rfl ?_
  refine k_aloadN d_si_41 rfl rfl rfl ?_
  refine k_aload d_si_42 rfl rfl rfl ?_
  refine k_iloadN d_si_44 rfl rfl ?_
  refine k_callStatic (argsL := [(.ref d38), (.int (Int32.ofNat xs.length))]) (rest := [(.ref a)]) (W0 := 1) d_si_45 rfl (mt_cfl l Z a0 hw cs hcs SC hEW d38 _ _ _ _ h39 n0 D41) (Kp.pure (fun _ _ q => q.2.symm)) (hw _ (List.mem_of_getElem? (i := 27) rfl)) (hw _ (List.mem_of_getElem? (i := 28) rfl)) (hw _ (List.mem_of_getElem? (i := 21) rfl)) (hw _ (List.mem_of_getElem? (i := 29) rfl)) (by decide) pd_cfl rfl rfl rfl rfl (by decide) (by decide) (by decide) (by decide) ?_
  rintro _ _ - ⟨rfl, rfl⟩
  refine KW.sub (S' := fun x => x = a) (fun x hx => Or.inl hx) ?_
  show KW true l Z M_si n0 (fun v h => v = none ∧ ∃ t, Sg Z h a t (xs.map nbI) ∧ Keep h0 h [a]) (EL, fun x => x = a) h39 1 2 48 #[.val (.ref a), .val (.ref c), .val (.int (0 : Int32)), .val (.int (Int32.ofNat xs.length)), .val .null, .val (.ref d38)] [(.int (0 : Int32)), (.ref a)]
  have f48 := (FC.keep K40 nin0)
  have f49 := (EA.keep K40)
  refine k_put (v' := (.int (0 : Int32))) (ty := .byte) d_si_48 rfl (hw _ (List.mem_of_getElem? (i := 30) rfl)) Via.refl f48 f49 (Or.inr ⟨(hw _ (List.mem_of_getElem? (i := 31) rfl)), rfl, rfl⟩) (hw _ (List.mem_of_getElem? (i := 1) rfl)) (by decide) rfl rfl ga (fun _ => Or.inl rfl) ?_
  intro h46 W47
  have F50 := f48.same W47
  show KW true l Z M_si n0 (fun v h => v = none ∧ ∃ t, Sg Z h a t (xs.map nbI) ∧ Keep h0 h [a]) (EL, fun x => x = a) h46 1 2 51 #[.val (.ref a), .val (.ref c), .val (.int (0 : Int32)), .val (.int (Int32.ofNat xs.length)), .val .null, .val (.ref d38)] []
  refine k_aloadN d_si_51 rfl rfl rfl ?_
  refine k_aload d_si_52 rfl rfl rfl ?_
  have f53 := ((FV.keep K40 nin0).other W47 (Or.inr (slot_ne (t := (.array .byte)) (t' := .byte) (Or.inr (hw _ (List.mem_of_getElem? (i := 33) rfl))) (Or.inr (hw _ (List.mem_of_getElem? (i := 31) rfl))) (by decide) (by decide) (by decide))))
  have f54 := (f49.wr W47)
  refine k_put (v' := (.ref d38)) (ty := (.array .byte)) d_si_54 rfl (hw _ (List.mem_of_getElem? (i := 32) rfl)) Via.refl f53 f54 (Or.inr ⟨(hw _ (List.mem_of_getElem? (i := 33) rfl)), rfl, rfl⟩) (hw _ (List.mem_of_getElem? (i := 1) rfl)) (by decide) rfl rfl ga (fun _ => Or.inl rfl) ?_
  intro h51 W52
  have F55 := f53.same W52
  show KW true l Z M_si n0 (fun v h => v = none ∧ ∃ t, Sg Z h a t (xs.map nbI) ∧ Keep h0 h [a]) (EL, fun x => x = a) h51 1 2 57 #[.val (.ref a), .val (.ref c), .val (.int (0 : Int32)), .val (.int (Int32.ofNat xs.length)), .val .null, .val (.ref d38)] []
  have f56 := (f54.wr W52)
  have f57 := (F50.other W52 (Or.inr (slot_ne (t := .byte) (t' := (.array .byte)) (Or.inr (hw _ (List.mem_of_getElem? (i := 31) rfl))) (Or.inr (hw _ (List.mem_of_getElem? (i := 33) rfl))) (by decide) (by decide) (by decide))))
  have f58 := ((D41.other W47 (Ne.symm ne45)).other W52 (Ne.symm ne45))
  have f59 := (((K0.trans K40 all0).wr W47 (Or.inl (by simp))).wr W52 (Or.inl (by simp)))
  exact k_retVoid d_si_57 rfl (by decide) (by decide) ⟨rfl, d38, ⟨ck44, f56, f57, F55, by rw [List.length_map]; exact f58, by rw [List.length_map]; omega⟩, f59⟩
set_option maxRecDepth 65536 in
set_option maxHeartbeats 40000000 in
theorem kw_si (l : Launch) (Z : State) (a0 : Array Value) (hw : ∀ d ∈ tables_1, d.before a0 Z = true) (cs : Int32) (hcs : ¬ cs = 0) (SC : Sta Z Z.heap "java/lang/String" "COMPACT_STRINGS" "Z" (.int cs)) (hEW : EW Z a0 EL) (a c : Addr) (ck : ClassId) (xs : List Int32) (h0 : Heap) (n0 : Nat) (hx : xs.length ≤ 2) (hL : Latin xs) (OD : Old Z n0 h0) (EA : Exa Z h0 a "java/lang/String") (FC : Fld Z h0 a "java/lang/String" "coder" "B" (.int 0)) (FV : Fld Z h0 a "java/lang/String" "value" "[B" .null) (C : Arv Z h0 c ck .char (Int32.ofNat xs.length) (xs.map Value.int) (.int 0)) (ga : n0 ≤ a) : KW true l Z M_si n0 (fun v h => v = none ∧ ∃ t, Sg Z h a t (xs.map nbI) ∧ Keep h0 h [a]) (EL, fun x => x = a) h0 0 0 0 #[.val (.ref a), .val (.ref c), .val (.int (0 : Int32)), .val (.int (Int32.ofNat xs.length)), .val .null, .unset] [] := by
  cases xs with
  | nil => exact kw_si0 l Z a0 hw cs hcs SC hEW a c h0 n0 OD EA FC FV ga
  | cons q xs => exact kw_si1 l Z a0 hw cs hcs SC hEW a c ck (q :: xs) h0 n0 hx hL OD EA FC FV C ga (by simp)
theorem mt_si (l : Launch) (Z : State) (a0 : Array Value) (hw : ∀ d ∈ tables_1, d.before a0 Z = true) (cs : Int32) (hcs : ¬ cs = 0) (SC : Sta Z Z.heap "java/lang/String" "COMPACT_STRINGS" "Z" (.int cs)) (hEW : EW Z a0 EL) (a c : Addr) (ck : ClassId) (xs : List Int32) (h0 : Heap) (n0 : Nat) (hx : xs.length ≤ 2) (hL : Latin xs) (OD : Old Z n0 h0) (EA : Exa Z h0 a "java/lang/String") (FC : Fld Z h0 a "java/lang/String" "coder" "B" (.int 0)) (FV : Fld Z h0 a "java/lang/String" "value" "[B" .null) (C : Arv Z h0 c ck .char (Int32.ofNat xs.length) (xs.map Value.int) (.int 0)) (ga : n0 ≤ a) : MtW l Z M_si [] n0 #[(.ref a), (.ref c), (.int (0 : Int32)), (.int (Int32.ofNat xs.length)), .null] (EL, fun x => x = a) h0 (fun v h => v = none ∧ ∃ t, Sg Z h a t (xs.map nbI) ∧ Keep h0 h [a]) :=
  mtw_of_kw (a0 := a0) (P := (EL, fun x => x = a)) pf_si hEW (fun m => by first | (simp [entryFrame, mkF, argsToLocals, Value.category]; done) | rfl) (kw_si l Z a0 hw cs hcs SC hEW a c ck xs h0 n0 hx hL OD EA FC FV C ga)
abbrev M_s1 : MD := ((⟨"java/lang/String", "<init>", "([C)V"⟩ : MethodName), jdk_42_method_3_code, 2, none, { frames := 3, cells := 4, slots := 8, locals := 72 })
theorem d_s1_0 : decode jdk_42_method_3_code 0 = .ok (.aload_n 0, 1) := by decide +kernel
theorem d_s1_1 : decode jdk_42_method_3_code 1 = .ok (.aload_n 1, 1) := by decide +kernel
theorem d_s1_2 : decode jdk_42_method_3_code 2 = .ok (.iconst 0, 1) := by decide +kernel
theorem d_s1_3 : decode jdk_42_method_3_code 3 = .ok (.aload_n 1, 1) := by decide +kernel
theorem d_s1_4 : decode jdk_42_method_3_code 4 = .ok (.arraylength, 1) := by decide +kernel
theorem d_s1_5 : decode jdk_42_method_3_code 5 = .ok (.aconst_null, 1) := by decide +kernel
theorem d_s1_6 : decode jdk_42_method_3_code 6 = .ok (.invokespecial 27, 3) := by decide +kernel
theorem d_s1_9 : decode jdk_42_method_3_code 9 = .ok (.return_, 1) := by decide +kernel
theorem pd_s1 : parseMethodDescriptor "([C)V" = some ⟨[(.array .char)], none⟩ := by decide +kernel
theorem pf_s1 : plainFor (⟨"java/lang/String", "<init>", "([C)V"⟩ : MethodName) = true := by first | exact plainFor_of_name (by first | (simp [plainName, overriddenIn]; done) | decide +kernel) | decide +kernel
set_option maxRecDepth 65536 in
set_option maxHeartbeats 40000000 in
theorem kw_s1 (l : Launch) (Z : State) (a0 : Array Value) (hw : ∀ d ∈ tables_1, d.before a0 Z = true) (cs : Int32) (hcs : ¬ cs = 0) (SC : Sta Z Z.heap "java/lang/String" "COMPACT_STRINGS" "Z" (.int cs)) (hEW : EW Z a0 EL) (a c : Addr) (ck : ClassId) (xs : List Int32) (h0 : Heap) (n0 : Nat) (hx : xs.length ≤ 2) (hL : Latin xs) (OD : Old Z n0 h0) (EA : Exa Z h0 a "java/lang/String") (FC : Fld Z h0 a "java/lang/String" "coder" "B" (.int 0)) (FV : Fld Z h0 a "java/lang/String" "value" "[B" .null) (C : Arv Z h0 c ck .char (Int32.ofNat xs.length) (xs.map Value.int) (.int 0)) (ga : n0 ≤ a) : KW true l Z M_s1 n0 (fun v h => v = none ∧ ∃ t, Sg Z h a t (xs.map nbI) ∧ Keep h0 h [a]) (EL, fun x => x = a) h0 0 0 0 #[.val (.ref a), .val (.ref c)] [] := by
  refine k_aloadN d_s1_0 rfl rfl rfl ?_
  refine k_aloadN d_s1_1 rfl rfl rfl ?_
  refine k_iconst (z := (0 : Int32)) d_s1_2 rfl (by decide) ?_
  refine k_aloadN d_s1_3 rfl rfl rfl ?_
  refine k_arrlen d_s1_4 rfl C ?_
  refine k_aconstNull d_s1_5 rfl ?_
  refine k_callInitW (a := a) (argsL := [(.ref c), (.int (0 : Int32)), (.int (Int32.ofNat xs.length)), .null]) (rest := []) (W0 := 0) d_s1_6 rfl (mt_si l Z a0 hw cs hcs SC hEW a c ck xs h0 n0 hx hL OD EA FC FV C ga) rfl rfl (hw _ (List.mem_of_getElem? (i := 11) rfl)) (hw _ (List.mem_of_getElem? (i := 12) rfl)) (hw _ (List.mem_of_getElem? (i := 2) rfl)) (hw _ (List.mem_of_getElem? (i := 14) rfl)) (by decide) pd_si rfl rfl rfl rfl (by decide) (by decide) (by decide) (by decide) ?_
  rintro _ hN - ⟨rfl, t, SG, K⟩
  show KW true l Z M_s1 n0 (fun v h => v = none ∧ ∃ t, Sg Z h a t (xs.map nbI) ∧ Keep h0 h [a]) (EL, fun x => x = a) hN 4 8 9 #[.val (.ref a), .val (.ref c)] []
  exact k_retVoid d_s1_9 rfl (by decide) (by decide) ⟨rfl, t, SG, K⟩
theorem mt_s1 (l : Launch) (Z : State) (a0 : Array Value) (hw : ∀ d ∈ tables_1, d.before a0 Z = true) (cs : Int32) (hcs : ¬ cs = 0) (SC : Sta Z Z.heap "java/lang/String" "COMPACT_STRINGS" "Z" (.int cs)) (hEW : EW Z a0 EL) (a c : Addr) (ck : ClassId) (xs : List Int32) (h0 : Heap) (n0 : Nat) (hx : xs.length ≤ 2) (hL : Latin xs) (OD : Old Z n0 h0) (EA : Exa Z h0 a "java/lang/String") (FC : Fld Z h0 a "java/lang/String" "coder" "B" (.int 0)) (FV : Fld Z h0 a "java/lang/String" "value" "[B" .null) (C : Arv Z h0 c ck .char (Int32.ofNat xs.length) (xs.map Value.int) (.int 0)) (ga : n0 ≤ a) : MtW l Z M_s1 [] n0 #[(.ref a), (.ref c)] (EL, fun x => x = a) h0 (fun v h => v = none ∧ ∃ t, Sg Z h a t (xs.map nbI) ∧ Keep h0 h [a]) :=
  mtw_of_kw (a0 := a0) (P := (EL, fun x => x = a)) pf_s1 hEW (fun m => by first | (simp [entryFrame, mkF, argsToLocals, Value.category]; done) | rfl) (kw_s1 l Z a0 hw cs hcs SC hEW a c ck xs h0 n0 hx hL OD EA FC FV C ga)
def N3 (n : Int32) : Prop := n = 0 ∨ n = 1 ∨ n = 2
def B2 (n : Int32) : Prop := n = 0 ∨ n = 1
def Ch (p : Int32) : Prop := 0 ≤ p.toInt ∧ p.toInt < 256
def chs (n p q : Int32) : List Int32 := if n = 0 then [] else if n = 1 then [nar .char p] else [nar .char p, nar .char q]
theorem narc {p : Int32} (h : Ch p) : nar .char p = p := by
  have e := c_i2c p; have h' : 0 ≤ p.toInt ∧ p.toInt < 256 := h
  refine Int32.toInt_inj.mp ?_
  show (p.toUInt32.toUInt16.toUInt32.toInt32).toInt = p.toInt
  omega
theorem chs_len (n p q : Int32) : (chs n p q).length ≤ 2 := by
  unfold chs
  split
  · simp
  · split <;> simp
theorem chs_lat {n p q : Int32} (hp : Ch p) (hq : Ch q) : Latin (chs n p q) := by
  unfold chs; rw [narc hp, narc hq]
  split
  · exact Latin.nil
  · split
    · exact Latin.cons hp Latin.nil
    · exact Latin.cons hp (Latin.cons hq Latin.nil)
theorem chs0 {n p q : Int32} (h : n = 0) : chs n p q = [] := by unfold chs; rw [if_pos h]
theorem chs1 {n p q : Int32} (h : ¬ n = 0) (h' : n = 1) : chs n p q = [nar .char p] := by unfold chs; rw [if_neg h, if_pos h']
theorem chs2 {n p q : Int32} (h : ¬ n = 0) (h' : ¬ n = 1) : chs n p q = [nar .char p, nar .char q] := by unfold chs; rw [if_neg h, if_neg h']
theorem nb_inj {p q : Int32} (hp : Ch p) (hq : Ch q) (h : nbI (nar .char p) = nbI (nar .char q)) : p = q := by
  rw [narc hp, narc hq] at h; exact nbI_inj hp hq h
abbrev tx (n p q : Int32) : List Int32 := (chs n p q).map nbI
theorem own_s1 {n n' p q p' q' : Int32} (hn : N3 n) (h : n = n') (h1 : n < 1 ∨ p = p') (h2 : n < 2 ∨ q = q') : eqI (tx n p q) (tx n' p' q') = 1 := by
  subst h
  unfold tx
  rcases hn with rfl | rfl | rfl
  · rw [chs0 rfl, chs0 rfl]; exact eqI_self _
  · rw [chs1 (by decide) rfl, chs1 (by decide) rfl, h1.resolve_left (by decide)]; exact eqI_self _
  · rw [chs2 (by decide) (by decide), chs2 (by decide) (by decide), h1.resolve_left (by decide), h2.resolve_left (by decide)]; exact eqI_self _
theorem tx_len {n p q : Int32} (hn : N3 n) : ((tx n p q).length : Int) = n.toInt := by
  unfold tx; rw [List.length_map]
  rcases hn with rfl | rfl | rfl
  · rw [chs0 rfl]; rfl
  · rw [chs1 (by decide) rfl]; rfl
  · rw [chs2 (by decide) (by decide)]; rfl
theorem own_s0 {n n' p q p' q' : Int32} (hn : N3 n) (hn' : N3 n') (h : ¬ n = n') : eqI (tx n p q) (tx n' p' q') = 0 := by
  unfold eqI; rw [if_neg]; intro e
  have h1 := tx_len (p := p) (q := q) hn; have h2 := tx_len (p := p') (q := q') hn'
  rw [e] at h1
  exact h (Int32.toInt_inj.mp (h1.symm.trans h2))
theorem own_s0a {n n' p q p' q' : Int32} (hn : N3 n) (e : n = n') (hp : Ch p) (hp' : Ch p') (h1 : ¬ n < 1) (h : ¬ p = p') : eqI (tx n p q) (tx n' p' q') = 0 := by
  subst e
  unfold eqI; rw [if_neg]; intro e
  unfold tx at e
  rcases hn with rfl | rfl | rfl
  · exact h1 (by decide)
  · rw [chs1 (by decide) rfl, chs1 (by decide) rfl] at e; exact h (nb_inj hp hp' (List.cons.inj e).1)
  · rw [chs2 (by decide) (by decide), chs2 (by decide) (by decide)] at e; exact h (nb_inj hp hp' (List.cons.inj e).1)
theorem own_s0b {n n' p q p' q' : Int32} (hn : N3 n) (e : n = n') (hp : Ch q) (hp' : Ch q') (h1 : ¬ n < 2) (h : ¬ q = q') : eqI (tx n p q) (tx n' p' q') = 0 := by
  subst e
  unfold eqI; rw [if_neg]; intro e
  unfold tx at e
  rcases hn with rfl | rfl | rfl
  · exact h1 (by decide)
  · exact h1 (by decide)
  · rw [chs2 (by decide) (by decide), chs2 (by decide) (by decide)] at e; exact h (nb_inj hp hp' (List.cons.inj (List.cons.inj e).2).1)
def agI (f g : Int32) (xs ys : List Int32) : Int32 := if f = 0 then 0 else if g = 0 then 0 else eqI xs ys
theorem agI_a {f g : Int32} {xs ys : List Int32} (h : f = 0) : agI f g xs ys = 0 := by unfold agI; rw [if_pos h]
theorem agI_b {f g : Int32} {xs ys : List Int32} (h : ¬ f = 0) (h' : g = 0) : agI f g xs ys = 0 := by unfold agI; rw [if_neg h, if_pos h']
theorem agI_c {f g : Int32} {xs ys : List Int32} (h : ¬ f = 0) (h' : ¬ g = 0) : agI f g xs ys = eqI xs ys := by unfold agI; rw [if_neg h, if_neg h']
theorem agI_self {f : Int32} (hf : B2 f) (xs : List Int32) : agI f f xs xs = f := by
  rcases hf with rfl | rfl
  · exact agI_a rfl
  · rw [agI_c (by decide) (by decide)]; exact eqI_self _
theorem own_ch (x : Int32) : Ch (UInt32.toInt32 (UInt16.toUInt32 (UInt32.toUInt16 (Int32.toUInt32 (x &&& (255 : Int32)))))) := by
  have h1 := c_mask x 255 8 (by decide) (by decide)
  have h2 := c_i2c (x &&& (255 : Int32))
  unfold Ch
  omega
theorem own_n3 (x : Int32) : N3 ((x &&& (3 : Int32)) % (3 : Int32)) := by
  have h1 := c_mask x 3 2 (by decide) (by decide)
  have h2 := (c_irem (x &&& (3 : Int32)) 3 3 (by decide)).1 (by omega)
  unfold N3
  simp only [← Int32.toInt_inj, h2, show (0 : Int32).toInt = 0 from rfl, show (1 : Int32).toInt = 1 from rfl, show (2 : Int32).toInt = 2 from rfl]
  omega
abbrev M_ch : MD := ((⟨"com/example/custody/custody/report/ComparandAgreesWithPinLaw", "chars", "(ICC)[C"⟩ : MethodName), method_2_code, 3, (some (.array .char)), { frames := 0, cells := 1, slots := 2, locals := 0 })
theorem d_ch_0 : decode method_2_code 0 = .ok (.iload_n 0, 1) := by decide +kernel
theorem d_ch_1 : decode method_2_code 1 = .ok (.ifCond .ne 7, 3) := by decide +kernel
theorem d_ch_4 : decode method_2_code 4 = .ok (.iconst 0, 1) := by decide +kernel
theorem d_ch_5 : decode method_2_code 5 = .ok (.newarray .char, 2) := by decide +kernel
theorem d_ch_7 : decode method_2_code 7 = .ok (.areturn, 1) := by decide +kernel
theorem d_ch_8 : decode method_2_code 8 = .ok (.iload_n 0, 1) := by decide +kernel
theorem d_ch_9 : decode method_2_code 9 = .ok (.iconst 1, 1) := by decide +kernel
theorem d_ch_10 : decode method_2_code 10 = .ok (.if_icmp .ne 11, 3) := by decide +kernel
theorem d_ch_13 : decode method_2_code 13 = .ok (.iconst 1, 1) := by decide +kernel
theorem d_ch_14 : decode method_2_code 14 = .ok (.newarray .char, 2) := by decide +kernel
theorem d_ch_16 : decode method_2_code 16 = .ok (.dup, 1) := by decide +kernel
theorem d_ch_17 : decode method_2_code 17 = .ok (.iconst 0, 1) := by decide +kernel
theorem d_ch_18 : decode method_2_code 18 = .ok (.iload_n 1, 1) := by decide +kernel
theorem d_ch_19 : decode method_2_code 19 = .ok (.castore, 1) := by decide +kernel
theorem d_ch_20 : decode method_2_code 20 = .ok (.areturn, 1) := by decide +kernel
theorem d_ch_21 : decode method_2_code 21 = .ok (.iconst 2, 1) := by decide +kernel
theorem d_ch_22 : decode method_2_code 22 = .ok (.newarray .char, 2) := by decide +kernel
theorem d_ch_24 : decode method_2_code 24 = .ok (.dup, 1) := by decide +kernel
theorem d_ch_25 : decode method_2_code 25 = .ok (.iconst 0, 1) := by decide +kernel
theorem d_ch_26 : decode method_2_code 26 = .ok (.iload_n 1, 1) := by decide +kernel
theorem d_ch_27 : decode method_2_code 27 = .ok (.castore, 1) := by decide +kernel
theorem d_ch_28 : decode method_2_code 28 = .ok (.dup, 1) := by decide +kernel
theorem d_ch_29 : decode method_2_code 29 = .ok (.iconst 1, 1) := by decide +kernel
theorem d_ch_30 : decode method_2_code 30 = .ok (.iload_n 2, 1) := by decide +kernel
theorem d_ch_31 : decode method_2_code 31 = .ok (.castore, 1) := by decide +kernel
theorem d_ch_32 : decode method_2_code 32 = .ok (.areturn, 1) := by decide +kernel
theorem pd_ch : parseMethodDescriptor "(ICC)[C" = some ⟨[.int, .char, .char], (some (.array .char))⟩ := by decide +kernel
theorem pf_ch : plainFor (⟨"com/example/custody/custody/report/ComparandAgreesWithPinLaw", "chars", "(ICC)[C"⟩ : MethodName) = true := by first | exact plainFor_of_name (by first | (simp [plainName, overriddenIn]; done) | decide +kernel) | decide +kernel
set_option maxRecDepth 65536 in
set_option maxHeartbeats 40000000 in
theorem kw_ch (l : Launch) (Z : State) (a0 : Array Value) (hw : ∀ d ∈ tables_1, d.before a0 Z = true) (cs : Int32) (hcs : ¬ cs = 0) (SC : Sta Z Z.heap "java/lang/String" "COMPACT_STRINGS" "Z" (.int cs)) (hEW : EW Z a0 EL) (n p q : Int32) (h0 : Heap) (n0 : Nat) (OD : Old Z n0 h0) : KW false l Z M_ch n0 (fun v h => ∃ ca ck', v = some (.ref ca) ∧ h0.size ≤ ca ∧ n0 ≤ ca ∧ Keep h0 h [] ∧ Arv Z h ca ck' .char (Int32.ofNat (chs n p q).length) ((chs n p q).map Value.int) (.int 0)) ([], fun _ => False) h0 0 0 0 #[.val (.int n), .val (.int p), .val (.int q)] [] := by
  have Z0 := OD.1 ▸ OD.2.1
  have K0 : Keep h0 h0 [] := Keep.refl _ _
  refine k_iloadN d_ch_0 rfl rfl ?_
  refine k_ifc (pc1 := 8) (pc' := 4) d_ch_1 (by decide) (by decide) rfl (fun (cd1 : ¬ n = (0 : Int32)) => ?_) (fun (cd1 : n = (0 : Int32)) => ?_)
  · skip
    refine k_iloadN d_ch_8 rfl rfl ?_
    refine k_iconst (z := (1 : Int32)) d_ch_9 rfl (by decide) ?_
    refine k_icmp (pc1 := 21) (pc' := 13) d_ch_10 (by decide) (by decide) rfl (fun (cd2 : ¬ n = (1 : Int32)) => ?_) (fun (cd2 : n = (1 : Int32)) => ?_)
    · skip
      refine k_iconst (z := (2 : Int32)) d_ch_21 rfl (by decide) ?_
      refine k_newarr (cap := 2) d_ch_22 rfl (hw _ (List.mem_of_getElem? (i := 7) rfl)) (by decide) (by decide) (by decide) (by decide) (by decide) ?_
      intro h2 a1 ck6 g5 E3 V4
      have z8 : n0 ≤ h0.size := Z0
      have ge7 : n0 ≤ a1 := Nat.le_trans z8 (Nat.le_of_eq g5.symm)
      have gl9 : h0.size ≤ a1 := Nat.le_of_eq g5.symm
      have gh10 := Nat.le_trans K0.1 gl9
      have V11 : Arv Z h2 a1 ck6 .char (2 : Int32) [(.int (0 : Int32)), (.int (0 : Int32))] (.int (0 : Int32)) := Arv.pad V4 (pad_rep [] _ 2)
      refine KW.any (P' := ([], fun _ => False)) ?_
      show KW false l Z M_ch n0 (fun v h => ∃ ca ck', v = some (.ref ca) ∧ h0.size ≤ ca ∧ n0 ≤ ca ∧ Keep h0 h [] ∧ Arv Z h ca ck' .char (Int32.ofNat (chs n p q).length) ((chs n p q).map Value.int) (.int 0)) ([], fun _ => False) h2 1 2 24 #[.val (.int n), .val (.int p), .val (.int q)] [(.ref a1)]
      refine k_dup d_ch_24 rfl rfl ?_
      refine k_iconst (z := (0 : Int32)) d_ch_25 rfl (by decide) ?_
      refine k_iloadN d_ch_26 rfl rfl ?_
      refine k_castore (i := 0) d_ch_27 rfl V11 (by decide) (by decide) (by simp) ge7 (fun q => by cases q) ?_
      intro h12 W13 V14
      have V15 : Arv Z h12 a1 ck6 .char (2 : Int32) [(.int (nar .char p)), (.int (0 : Int32))] (.int (0 : Int32)) := V14
      show KW false l Z M_ch n0 (fun v h => ∃ ca ck', v = some (.ref ca) ∧ h0.size ≤ ca ∧ n0 ≤ ca ∧ Keep h0 h [] ∧ Arv Z h ca ck' .char (Int32.ofNat (chs n p q).length) ((chs n p q).map Value.int) (.int 0)) ([], fun _ => False) h12 1 2 28 #[.val (.int n), .val (.int p), .val (.int q)] [(.ref a1)]
      refine k_dup d_ch_28 rfl rfl ?_
      refine k_iconst (z := (1 : Int32)) d_ch_29 rfl (by decide) ?_
      refine k_iloadN d_ch_30 rfl rfl ?_
      refine k_castore (i := 1) d_ch_31 rfl V15 (by decide) (by decide) (by simp) ge7 (fun q => by cases q) ?_
      intro h16 W17 V18
      have V19 : Arv Z h16 a1 ck6 .char (2 : Int32) [(.int (nar .char p)), (.int (nar .char q))] (.int (0 : Int32)) := V18
      show KW false l Z M_ch n0 (fun v h => ∃ ca ck', v = some (.ref ca) ∧ h0.size ≤ ca ∧ n0 ≤ ca ∧ Keep h0 h [] ∧ Arv Z h ca ck' .char (Int32.ofNat (chs n p q).length) ((chs n p q).map Value.int) (.int 0)) ([], fun _ => False) h16 1 2 32 #[.val (.int n), .val (.int p), .val (.int q)] [(.ref a1)]
      have f20 := (((K0.ext E3).wr W13 (Or.inr gh10)).wr W17 (Or.inr gh10))
      exact k_retRef d_ch_32 rfl rfl rfl (by decide) (by decide) ⟨a1, ck6, rfl, gl9, ge7, f20, by rw [show chs n p q = _ from chs2 (by assumption) (by assumption)]; exact V19⟩
    · skip
      refine k_iconst (z := (1 : Int32)) d_ch_13 rfl (by decide) ?_
      refine k_newarr (cap := 1) d_ch_14 rfl (hw _ (List.mem_of_getElem? (i := 7) rfl)) (by decide) (by decide) (by decide) (by decide) (by decide) ?_
      intro h22 a21 ck26 g25 E23 V24
      have z28 : n0 ≤ h0.size := Z0
      have ge27 : n0 ≤ a21 := Nat.le_trans z28 (Nat.le_of_eq g25.symm)
      have gl29 : h0.size ≤ a21 := Nat.le_of_eq g25.symm
      have gh30 := Nat.le_trans K0.1 gl29
      have V31 : Arv Z h22 a21 ck26 .char (1 : Int32) [(.int (0 : Int32))] (.int (0 : Int32)) := Arv.pad V24 (pad_rep [] _ 1)
      refine KW.any (P' := ([], fun _ => False)) ?_
      show KW false l Z M_ch n0 (fun v h => ∃ ca ck', v = some (.ref ca) ∧ h0.size ≤ ca ∧ n0 ≤ ca ∧ Keep h0 h [] ∧ Arv Z h ca ck' .char (Int32.ofNat (chs n p q).length) ((chs n p q).map Value.int) (.int 0)) ([], fun _ => False) h22 1 1 16 #[.val (.int n), .val (.int p), .val (.int q)] [(.ref a21)]
      refine k_dup d_ch_16 rfl rfl ?_
      refine k_iconst (z := (0 : Int32)) d_ch_17 rfl (by decide) ?_
      refine k_iloadN d_ch_18 rfl rfl ?_
      refine k_castore (i := 0) d_ch_19 rfl V31 (by decide) (by decide) (by simp) ge27 (fun q => by cases q) ?_
      intro h32 W33 V34
      have V35 : Arv Z h32 a21 ck26 .char (1 : Int32) [(.int (nar .char p))] (.int (0 : Int32)) := V34
      show KW false l Z M_ch n0 (fun v h => ∃ ca ck', v = some (.ref ca) ∧ h0.size ≤ ca ∧ n0 ≤ ca ∧ Keep h0 h [] ∧ Arv Z h ca ck' .char (Int32.ofNat (chs n p q).length) ((chs n p q).map Value.int) (.int 0)) ([], fun _ => False) h32 1 1 20 #[.val (.int n), .val (.int p), .val (.int q)] [(.ref a21)]
      have f36 := ((K0.ext E23).wr W33 (Or.inr gh30))
      exact k_retRef d_ch_20 rfl rfl rfl (by decide) (by decide) ⟨a21, ck26, rfl, gl29, ge27, f36, by rw [show chs n p q = _ from chs1 (by assumption) (by assumption)]; exact V35⟩
  · skip
    refine k_iconst (z := (0 : Int32)) d_ch_4 rfl (by decide) ?_
    refine k_newarr (cap := 0) d_ch_5 rfl (hw _ (List.mem_of_getElem? (i := 7) rfl)) (by decide) (by decide) (by decide) (by decide) (by decide) ?_
    intro h38 a37 ck42 g41 E39 V40
    have z44 : n0 ≤ h0.size := Z0
    have ge43 : n0 ≤ a37 := Nat.le_trans z44 (Nat.le_of_eq g41.symm)
    have gl45 : h0.size ≤ a37 := Nat.le_of_eq g41.symm
    have gh46 := Nat.le_trans K0.1 gl45
    refine KW.any (P' := ([], fun _ => False)) ?_
    show KW false l Z M_ch n0 (fun v h => ∃ ca ck', v = some (.ref ca) ∧ h0.size ≤ ca ∧ n0 ≤ ca ∧ Keep h0 h [] ∧ Arv Z h ca ck' .char (Int32.ofNat (chs n p q).length) ((chs n p q).map Value.int) (.int 0)) ([], fun _ => False) h38 1 0 7 #[.val (.int n), .val (.int p), .val (.int q)] [(.ref a37)]
    have f47 := (K0.ext E39)
    exact k_retRef d_ch_7 rfl rfl rfl (by decide) (by decide) ⟨a37, ck42, rfl, gl45, ge43, f47, by rw [show chs n p q = _ from chs0 (by assumption)]; exact V40⟩
theorem mt_ch (l : Launch) (Z : State) (a0 : Array Value) (hw : ∀ d ∈ tables_1, d.before a0 Z = true) (cs : Int32) (hcs : ¬ cs = 0) (SC : Sta Z Z.heap "java/lang/String" "COMPACT_STRINGS" "Z" (.int cs)) (hEW : EW Z a0 EL) (n p q : Int32) (h0 : Heap) (n0 : Nat) (OD : Old Z n0 h0) : Mt l Z M_ch [] n0 #[(.int n), (.int p), (.int q)] h0 (fun v h => ∃ ca ck', v = some (.ref ca) ∧ h0.size ≤ ca ∧ n0 ≤ ca ∧ Keep h0 h [] ∧ Arv Z h ca ck' .char (Int32.ofNat (chs n p q).length) ((chs n p q).map Value.int) (.int 0)) :=
  mt_of_kw (P := ([], fun _ => False)) pf_ch (fun m => by first | (simp [entryFrame, mkF, argsToLocals, Value.category]; done) | rfl) (kw_ch l Z a0 hw cs hcs SC hEW n p q h0 n0 OD)
abbrev M_rec : MD := ((⟨"java/lang/Record", "<init>", "()V"⟩ : MethodName), jdk_30_method_1_code, 1, none, { frames := 1, cells := 0, slots := 0, locals := 12 })
theorem d_rec_0 : decode jdk_30_method_1_code 0 = .ok (.aload_n 0, 1) := by decide +kernel
theorem d_rec_1 : decode jdk_30_method_1_code 1 = .ok (.invokespecial 1, 3) := by decide +kernel
theorem d_rec_4 : decode jdk_30_method_1_code 4 = .ok (.return_, 1) := by decide +kernel
theorem pd_rec : parseMethodDescriptor "()V" = some ⟨[], none⟩ := by decide +kernel
theorem pf_rec : plainFor (⟨"java/lang/Record", "<init>", "()V"⟩ : MethodName) = true := by first | exact plainFor_of_name (by first | (simp [plainName, overriddenIn]; done) | decide +kernel) | decide +kernel
set_option maxRecDepth 65536 in
set_option maxHeartbeats 40000000 in
theorem kw_rec (l : Launch) (Z : State) (a0 : Array Value) (hw : ∀ d ∈ tables_1, d.before a0 Z = true) (cs : Int32) (hcs : ¬ cs = 0) (SC : Sta Z Z.heap "java/lang/String" "COMPACT_STRINGS" "Z" (.int cs)) (hEW : EW Z a0 EL) (o : Addr) (h0 : Heap) (n0 : Nat) : KW false l Z M_rec n0 (fun v h => v = none ∧ h0 = h) ([], fun _ => False) h0 0 0 0 #[.val (.ref o)] [] := by
  refine k_aloadN d_rec_0 rfl rfl rfl ?_
  refine k_initObj (W0 := 0) d_rec_1 rfl (hw _ (List.mem_of_getElem? (i := 48) rfl)) (hw _ (List.mem_of_getElem? (i := 16) rfl)) (hw _ (List.mem_of_getElem? (i := 17) rfl)) rfl rfl (by decide) (by decide) ?_
  exact k_retVoid d_rec_4 rfl (by decide) (by decide) ⟨rfl, rfl⟩
theorem mt_rec (l : Launch) (Z : State) (a0 : Array Value) (hw : ∀ d ∈ tables_1, d.before a0 Z = true) (cs : Int32) (hcs : ¬ cs = 0) (SC : Sta Z Z.heap "java/lang/String" "COMPACT_STRINGS" "Z" (.int cs)) (hEW : EW Z a0 EL) (o : Addr) (h0 : Heap) (n0 : Nat) : Mt l Z M_rec [] n0 #[(.ref o)] h0 (fun v h => v = none ∧ h0 = h) :=
  mt_of_kw (P := ([], fun _ => False)) pf_rec (fun m => by first | (simp [entryFrame, mkF, argsToLocals, Value.category]; done) | rfl) (kw_rec l Z a0 hw cs hcs SC hEW o h0 n0)
abbrev M_ci : MD := ((⟨"com/example/custody/custody/report/Comparand", "<init>", "(Ljava/lang/String;Z)V"⟩ : MethodName), prog_30_method_1_code, 3, none, { frames := 2, cells := 0, slots := 0, locals := 24 })
theorem d_ci_0 : decode prog_30_method_1_code 0 = .ok (.aload_n 0, 1) := by decide +kernel
theorem d_ci_1 : decode prog_30_method_1_code 1 = .ok (.invokespecial 1, 3) := by decide +kernel
theorem d_ci_4 : decode prog_30_method_1_code 4 = .ok (.aload_n 0, 1) := by decide +kernel
theorem d_ci_5 : decode prog_30_method_1_code 5 = .ok (.aload_n 1, 1) := by decide +kernel
theorem d_ci_6 : decode prog_30_method_1_code 6 = .ok (.putfield 7, 3) := by decide +kernel
theorem d_ci_9 : decode prog_30_method_1_code 9 = .ok (.aload_n 0, 1) := by decide +kernel
theorem d_ci_10 : decode prog_30_method_1_code 10 = .ok (.iload_n 2, 1) := by decide +kernel
theorem d_ci_11 : decode prog_30_method_1_code 11 = .ok (.putfield 13, 3) := by decide +kernel
theorem d_ci_14 : decode prog_30_method_1_code 14 = .ok (.return_, 1) := by decide +kernel
theorem pd_ci : parseMethodDescriptor "(Ljava/lang/String;Z)V" = some ⟨[(.object "java/lang/String"), .boolean], none⟩ := by decide +kernel
theorem pf_ci : plainFor (⟨"com/example/custody/custody/report/Comparand", "<init>", "(Ljava/lang/String;Z)V"⟩ : MethodName) = true := by first | exact plainFor_of_name (by first | (simp [plainName, overriddenIn]; done) | decide +kernel) | decide +kernel
set_option maxRecDepth 65536 in
set_option maxHeartbeats 40000000 in
theorem kw_ci (l : Launch) (Z : State) (a0 : Array Value) (hw : ∀ d ∈ tables_1, d.before a0 Z = true) (cs : Int32) (hcs : ¬ cs = 0) (SC : Sta Z Z.heap "java/lang/String" "COMPACT_STRINGS" "Z" (.int cs)) (hEW : EW Z a0 EL) (o u : Addr) (f : Int32) (h0 : Heap) (n0 : Nat) (hf : B2 f) (go : n0 ≤ o) (EO : Exa Z h0 o "com/example/custody/custody/report/Comparand") (FT : Fld Z h0 o "com/example/custody/custody/report/Comparand" "text" "Ljava/lang/String;" .null) (FF : Fld Z h0 o "com/example/custody/custody/report/Comparand" "found" "Z" (.int 0)) : KW false l Z M_ci n0 (fun v h => v = none ∧ Keep h0 h [o] ∧ Fld Z h o "com/example/custody/custody/report/Comparand" "text" "Ljava/lang/String;" (.ref u) ∧ Fld Z h o "com/example/custody/custody/report/Comparand" "found" "Z" (.int f)) ([], fun _ => False) h0 0 0 0 #[.val (.ref o), .val (.ref u), .val (.int f)] [] := by
  have K0 : Keep h0 h0 [o] := Keep.refl _ _
  refine k_aloadN d_ci_0 rfl rfl rfl ?_
  refine k_callInit (a := o) (argsL := []) (rest := []) (W0 := 0) d_ci_1 rfl (mt_rec l Z a0 hw cs hcs SC hEW o h0 n0) Kp.strict rfl rfl (hw _ (List.mem_of_getElem? (i := 43) rfl)) (hw _ (List.mem_of_getElem? (i := 44) rfl)) (hw _ (List.mem_of_getElem? (i := 46) rfl)) (hw _ (List.mem_of_getElem? (i := 47) rfl)) (by decide) pd_rec rfl rfl rfl rfl (by decide) (by decide) (by decide) (by decide) ?_
  rintro _ _ - ⟨rfl, rfl⟩
  refine KW.any (P' := ([], fun _ => False)) ?_
  show KW false l Z M_ci n0 (fun v h => v = none ∧ Keep h0 h [o] ∧ Fld Z h o "com/example/custody/custody/report/Comparand" "text" "Ljava/lang/String;" (.ref u) ∧ Fld Z h o "com/example/custody/custody/report/Comparand" "found" "Z" (.int f)) ([], fun _ => False) h0 0 0 4 #[.val (.ref o), .val (.ref u), .val (.int f)] []
  refine k_aloadN d_ci_4 rfl rfl rfl ?_
  refine k_aloadN d_ci_5 rfl rfl rfl ?_
  refine k_put (v' := (.ref u)) (ty := (.object "java/lang/String")) d_ci_6 rfl (hw _ (List.mem_of_getElem? (i := 49) rfl)) Via.refl FT EO (Or.inr ⟨(hw _ (List.mem_of_getElem? (i := 50) rfl)), rfl, rfl⟩) (hw _ (List.mem_of_getElem? (i := 38) rfl)) (by decide) rfl rfl go (fun q => by cases q) ?_
  intro h1 W2
  have F3 := FT.same W2
  show KW false l Z M_ci n0 (fun v h => v = none ∧ Keep h0 h [o] ∧ Fld Z h o "com/example/custody/custody/report/Comparand" "text" "Ljava/lang/String;" (.ref u) ∧ Fld Z h o "com/example/custody/custody/report/Comparand" "found" "Z" (.int f)) ([], fun _ => False) h1 0 0 9 #[.val (.ref o), .val (.ref u), .val (.int f)] []
  refine k_aloadN d_ci_9 rfl rfl rfl ?_
  refine k_iloadN d_ci_10 rfl rfl ?_
  have f6 := (FF.other W2 (Or.inr (slot_ne (t := .boolean) (t' := (.object "java/lang/String")) (Or.inr (hw _ (List.mem_of_getElem? (i := 52) rfl))) (Or.inr (hw _ (List.mem_of_getElem? (i := 50) rfl))) (by decide) (by decide) (by decide))))
  have f7 := (EO.wr W2)
  refine k_put (v' := (.int f)) (ty := .boolean) d_ci_11 rfl (hw _ (List.mem_of_getElem? (i := 51) rfl)) Via.refl f6 f7 (Or.inr ⟨(hw _ (List.mem_of_getElem? (i := 52) rfl)), rfl, rfl⟩) (hw _ (List.mem_of_getElem? (i := 38) rfl)) (by decide) (by rcases hf with rfl | rfl <;> rfl) (by rcases hf with rfl | rfl <;> rfl) go (fun q => by cases q) ?_
  intro h4 W5
  have F8 := f6.same W5
  show KW false l Z M_ci n0 (fun v h => v = none ∧ Keep h0 h [o] ∧ Fld Z h o "com/example/custody/custody/report/Comparand" "text" "Ljava/lang/String;" (.ref u) ∧ Fld Z h o "com/example/custody/custody/report/Comparand" "found" "Z" (.int f)) ([], fun _ => False) h4 0 0 14 #[.val (.ref o), .val (.ref u), .val (.int f)] []
  have f9 := ((K0.wr W2 (Or.inl (by simp))).wr W5 (Or.inl (by simp)))
  have f10 := (F3.other W5 (Or.inr (slot_ne (t := (.object "java/lang/String")) (t' := .boolean) (Or.inr (hw _ (List.mem_of_getElem? (i := 50) rfl))) (Or.inr (hw _ (List.mem_of_getElem? (i := 52) rfl))) (by decide) (by decide) (by decide))))
  exact k_retVoid d_ci_14 rfl (by decide) (by decide) ⟨rfl, f9, f10, F8⟩
theorem mt_ci (l : Launch) (Z : State) (a0 : Array Value) (hw : ∀ d ∈ tables_1, d.before a0 Z = true) (cs : Int32) (hcs : ¬ cs = 0) (SC : Sta Z Z.heap "java/lang/String" "COMPACT_STRINGS" "Z" (.int cs)) (hEW : EW Z a0 EL) (o u : Addr) (f : Int32) (h0 : Heap) (n0 : Nat) (hf : B2 f) (go : n0 ≤ o) (EO : Exa Z h0 o "com/example/custody/custody/report/Comparand") (FT : Fld Z h0 o "com/example/custody/custody/report/Comparand" "text" "Ljava/lang/String;" .null) (FF : Fld Z h0 o "com/example/custody/custody/report/Comparand" "found" "Z" (.int 0)) : Mt l Z M_ci [] n0 #[(.ref o), (.ref u), (.int f)] h0 (fun v h => v = none ∧ Keep h0 h [o] ∧ Fld Z h o "com/example/custody/custody/report/Comparand" "text" "Ljava/lang/String;" (.ref u) ∧ Fld Z h o "com/example/custody/custody/report/Comparand" "found" "Z" (.int f)) :=
  mt_of_kw (P := ([], fun _ => False)) pf_ci (fun m => by first | (simp [entryFrame, mkF, argsToLocals, Value.category]; done) | rfl) (kw_ci l Z a0 hw cs hcs SC hEW o u f h0 n0 hf go EO FT FF)
abbrev M_ag : MD := ((⟨"com/example/custody/custody/report/Comparand", "agreesWith", "(Lcom/example/custody/custody/report/Comparand;)Z"⟩ : MethodName), prog_30_method_5_code, 2, (some .boolean), { frames := 2, cells := 0, slots := 0, locals := 40 })
theorem d_ag_0 : decode prog_30_method_5_code 0 = .ok (.aload_n 0, 1) := by decide +kernel
theorem d_ag_1 : decode prog_30_method_5_code 1 = .ok (.getfield 13, 3) := by decide +kernel
theorem d_ag_4 : decode prog_30_method_5_code 4 = .ok (.ifCond .eq 28, 3) := by decide +kernel
theorem d_ag_7 : decode prog_30_method_5_code 7 = .ok (.aload_n 1, 1) := by decide +kernel
theorem d_ag_8 : decode prog_30_method_5_code 8 = .ok (.getfield 13, 3) := by decide +kernel
theorem d_ag_11 : decode prog_30_method_5_code 11 = .ok (.ifCond .eq 21, 3) := by decide +kernel
theorem d_ag_14 : decode prog_30_method_5_code 14 = .ok (.aload_n 0, 1) := by decide +kernel
theorem d_ag_15 : decode prog_30_method_5_code 15 = .ok (.getfield 7, 3) := by decide +kernel
theorem d_ag_18 : decode prog_30_method_5_code 18 = .ok (.aload_n 1, 1) := by decide +kernel
theorem d_ag_19 : decode prog_30_method_5_code 19 = .ok (.getfield 7, 3) := by decide +kernel
theorem d_ag_22 : decode prog_30_method_5_code 22 = .ok (.invokevirtual 36, 3) := by decide +kernel
theorem d_ag_25 : decode prog_30_method_5_code 25 = .ok (.ifCond .eq 7, 3) := by decide +kernel
theorem d_ag_28 : decode prog_30_method_5_code 28 = .ok (.iconst 1, 1) := by decide +kernel
theorem d_ag_29 : decode prog_30_method_5_code 29 = .ok (.goto 4, 3) := by decide +kernel
theorem d_ag_32 : decode prog_30_method_5_code 32 = .ok (.iconst 0, 1) := by decide +kernel
theorem d_ag_33 : decode prog_30_method_5_code 33 = .ok (.ireturn, 1) := by decide +kernel
theorem pd_ag : parseMethodDescriptor "(Lcom/example/custody/custody/report/Comparand;)Z" = some ⟨[(.object "com/example/custody/custody/report/Comparand")], (some .boolean)⟩ := by decide +kernel
theorem pf_ag : plainFor (⟨"com/example/custody/custody/report/Comparand", "agreesWith", "(Lcom/example/custody/custody/report/Comparand;)Z"⟩ : MethodName) = true := by first | exact plainFor_of_name (by first | (simp [plainName, overriddenIn]; done) | decide +kernel) | decide +kernel
set_option maxRecDepth 65536 in
set_option maxHeartbeats 40000000 in
theorem kw_ag (l : Launch) (Z : State) (a0 : Array Value) (hw : ∀ d ∈ tables_1, d.before a0 Z = true) (cs : Int32) (hcs : ¬ cs = 0) (SC : Sta Z Z.heap "java/lang/String" "COMPACT_STRINGS" "Z" (.int cs)) (hEW : EW Z a0 EL) (o p u w t t2 : Addr) (f g : Int32) (xs ys : List Int32) (h0 : Heap) (n0 : Nat) (OD : Old Z n0 h0) (FT : Fld Z h0 o "com/example/custody/custody/report/Comparand" "text" "Ljava/lang/String;" (.ref u)) (FF : Fld Z h0 o "com/example/custody/custody/report/Comparand" "found" "Z" (.int f)) (GT : Fld Z h0 p "com/example/custody/custody/report/Comparand" "text" "Ljava/lang/String;" (.ref w)) (GF : Fld Z h0 p "com/example/custody/custody/report/Comparand" "found" "Z" (.int g)) (SU : Sg Z h0 u t xs) (SW : Sg Z h0 w t2 ys) : KW false l Z M_ag n0 (fun v h => v = some (.int (agI f g xs ys)) ∧ h0 = h) ([], fun _ => False) h0 0 0 0 #[.val (.ref o), .val (.ref p)] [] := by
  refine k_aloadN d_ag_0 rfl rfl rfl ?_
  refine k_getField d_ag_1 rfl (hw _ (List.mem_of_getElem? (i := 51) rfl)) Via.refl FF ?_
  refine k_ifc (pc1 := 32) (pc' := 7) d_ag_4 (by decide) (by decide) rfl (fun (cd1 : f = (0 : Int32)) => ?_) (fun (cd1 : ¬ f = (0 : Int32)) => ?_)
  · skip
    refine k_iconst (z := (0 : Int32)) d_ag_32 rfl (by decide) ?_
    exact k_retNar d_ag_33 rfl (by simp) (z' := (0 : Int32)) (by decide) (by decide) (by decide) ⟨congrArg (fun z => some (Value.int z)) (by first | exact (agI_a (by assumption)).symm | exact (agI_b (by assumption) (by assumption)).symm | exact ((agI_c (by assumption) (by assumption)).trans (by first | assumption | exact eqI_one (by assumption))).symm), rfl⟩
  · skip
    refine k_aloadN d_ag_7 rfl rfl rfl ?_
    refine k_getField d_ag_8 rfl (hw _ (List.mem_of_getElem? (i := 51) rfl)) Via.refl GF ?_
    refine k_ifc (pc1 := 32) (pc' := 14) d_ag_11 (by decide) (by decide) rfl (fun (cd2 : g = (0 : Int32)) => ?_) (fun (cd2 : ¬ g = (0 : Int32)) => ?_)
    · skip
      refine k_iconst (z := (0 : Int32)) d_ag_32 rfl (by decide) ?_
      exact k_retNar d_ag_33 rfl (by simp) (z' := (0 : Int32)) (by decide) (by decide) (by decide) ⟨congrArg (fun z => some (Value.int z)) (by first | exact (agI_a (by assumption)).symm | exact (agI_b (by assumption) (by assumption)).symm | exact ((agI_c (by assumption) (by assumption)).trans (by first | assumption | exact eqI_one (by assumption))).symm), rfl⟩
    · skip
      refine k_aloadN d_ag_14 rfl rfl rfl ?_
      refine k_getField d_ag_15 rfl (hw _ (List.mem_of_getElem? (i := 49) rfl)) Via.refl FT ?_
      refine k_aloadN d_ag_18 rfl rfl rfl ?_
      refine k_getField d_ag_19 rfl (hw _ (List.mem_of_getElem? (i := 49) rfl)) Via.refl GT ?_
      refine k_callVirtual (argsL := [(.ref w)]) (rest := []) (W0 := 0) d_ag_22 rfl (mt_seq l Z a0 hw cs hcs SC hEW u w t t2 xs ys h0 n0 OD SU SW) Kp.strict SU.exa (hw _ (List.mem_of_getElem? (i := 58) rfl)) (hw _ (List.mem_of_getElem? (i := 59) rfl)) (hw _ (List.mem_of_getElem? (i := 61) rfl)) (hw _ (List.mem_of_getElem? (i := 61) rfl)) (hw _ (List.mem_of_getElem? (i := 60) rfl)) (hw _ (List.mem_of_getElem? (i := 62) rfl)) (hw _ (List.mem_of_getElem? (i := 2) rfl)) (by decide) pd_seq rfl rfl rfl rfl (by decide) (by decide) (by decide) (by decide) ?_
      rintro _ _ - ⟨rfl, rfl⟩
      refine KW.any (P' := ([], fun _ => False)) ?_
      show KW false l Z M_ag n0 (fun v h => v = some (.int (agI f g xs ys)) ∧ h0 = h) ([], fun _ => False) h0 0 0 25 #[.val (.ref o), .val (.ref p)] [(.int (eqI xs ys))]
      refine k_ifc (pc1 := 32) (pc' := 28) d_ag_25 (by decide) (by decide) rfl (fun (cd3 : (eqI xs ys) = (0 : Int32)) => ?_) (fun (cd3 : ¬ (eqI xs ys) = (0 : Int32)) => ?_)
      · skip
        refine k_iconst (z := (0 : Int32)) d_ag_32 rfl (by decide) ?_
        exact k_retNar d_ag_33 rfl (by simp) (z' := (0 : Int32)) (by decide) (by decide) (by decide) ⟨congrArg (fun z => some (Value.int z)) (by first | exact (agI_a (by assumption)).symm | exact (agI_b (by assumption) (by assumption)).symm | exact ((agI_c (by assumption) (by assumption)).trans (by first | assumption | exact eqI_one (by assumption))).symm), rfl⟩
      · skip
        refine k_iconst (z := (1 : Int32)) d_ag_28 rfl (by decide) ?_
        refine k_goto (pc' := 33) d_ag_29 (by decide) (by decide) ?_
        exact k_retNar d_ag_33 rfl (by simp) (z' := (1 : Int32)) (by decide) (by decide) (by decide) ⟨congrArg (fun z => some (Value.int z)) (by first | exact (agI_a (by assumption)).symm | exact (agI_b (by assumption) (by assumption)).symm | exact ((agI_c (by assumption) (by assumption)).trans (by first | assumption | exact eqI_one (by assumption))).symm), rfl⟩
theorem mt_ag (l : Launch) (Z : State) (a0 : Array Value) (hw : ∀ d ∈ tables_1, d.before a0 Z = true) (cs : Int32) (hcs : ¬ cs = 0) (SC : Sta Z Z.heap "java/lang/String" "COMPACT_STRINGS" "Z" (.int cs)) (hEW : EW Z a0 EL) (o p u w t t2 : Addr) (f g : Int32) (xs ys : List Int32) (h0 : Heap) (n0 : Nat) (OD : Old Z n0 h0) (FT : Fld Z h0 o "com/example/custody/custody/report/Comparand" "text" "Ljava/lang/String;" (.ref u)) (FF : Fld Z h0 o "com/example/custody/custody/report/Comparand" "found" "Z" (.int f)) (GT : Fld Z h0 p "com/example/custody/custody/report/Comparand" "text" "Ljava/lang/String;" (.ref w)) (GF : Fld Z h0 p "com/example/custody/custody/report/Comparand" "found" "Z" (.int g)) (SU : Sg Z h0 u t xs) (SW : Sg Z h0 w t2 ys) : Mt l Z M_ag [] n0 #[(.ref o), (.ref p)] h0 (fun v h => v = some (.int (agI f g xs ys)) ∧ h0 = h) :=
  mt_of_kw (P := ([], fun _ => False)) pf_ag (fun m => by first | (simp [entryFrame, mkF, argsToLocals, Value.category]; done) | rfl) (kw_ag l Z a0 hw cs hcs SC hEW o p u w t t2 f g xs ys h0 n0 OD FT FF GT GF SU SW)
abbrev M_law : MD := (x, code, maxLocals, ret, room_1)
theorem pd_law : parseMethodDescriptor "(III)Z" = some ⟨[.int, .int, .int], (some .boolean)⟩ := by decide +kernel
theorem pf_law : plainFor (⟨"com/example/custody/custody/report/ComparandAgreesWithPinLaw", "law", "(III)Z"⟩ : MethodName) = true := by first | exact plainFor_of_name (by first | (simp [plainName, overriddenIn]; done) | decide +kernel) | decide +kernel
set_option maxRecDepth 65536 in
set_option maxHeartbeats 40000000 in
theorem kw_131 (l : Launch) (Z : State) (a0 : Array Value) (hw : ∀ d ∈ tables_1, d.before a0 Z = true) (cs : Int32) (hcs : ¬ cs = 0) (SC : Sta Z Z.heap "java/lang/String" "COMPACT_STRINGS" "Z" (.int cs)) (hEW : EW Z a0 EL) (x y flags : Int32) (n1 n2 fA fB cpy sf c0 c1 d0 d1 : Int32) (h0 : Heap) (n0 : Nat) (OD : Old Z n0 h0) (hn1 : N3 n1) (hn2 : N3 n2) (hfA : B2 fA) (hfB : B2 fB) (hc0 : Ch c0) (hc1 : Ch c1) (hd0 : Ch d0) (hd1 : Ch d1) : KW true l Z M_law n0 (fun v _ => v = some (.int 1)) (EL, fun _ => False) h0 0 0 131 #[.val (.int x), .val (.int y), .val (.int flags), .val (.int n1), .val (.int n2), .val (.int fA), .val (.int fB), .val (.int cpy), .val (.int sf), .val (.int c0), .val (.int c1), .val (.int d0), .val (.int d1), .unset, .unset, .unset, .unset, .unset, .unset] [] := by
  have Z0 := OD.1 ▸ OD.2.1
  refine k_new at_131 rfl (hw _ (List.mem_of_getElem? (i := 0) rfl)) (hw _ (List.mem_of_getElem? (i := 1) rfl)) (hw _ (List.mem_of_getElem? (i := 2) rfl)) (by decide) (by decide) ?_
  intro h2 a1 g6 E3 A4 D5
  have z7 : n0 ≤ h0.size := Z0
  have ge8 : n0 ≤ a1 := Nat.le_trans z7 (Nat.le_of_eq g6.symm)
  have gl9 : h0.size ≤ a1 := Nat.le_of_eq g6.symm
  have F10 : Fld Z h2 a1 "java/lang/String" "coder" "B" (.int (0 : Int32)) := D5 (Or.inr (hw _ (List.mem_of_getElem? (i := 31) rfl))) (ty := .byte) (by decide)
  have F11 : Fld Z h2 a1 "java/lang/String" "value" "[B" .null := D5 (Or.inr (hw _ (List.mem_of_getElem? (i := 33) rfl))) (ty := (.array .byte)) (by decide)
  refine KW.sub (S' := fun x => x = a1) (fun x hx => ?_) ?_
  · rcases hx with rfl
    · exact Or.inr ⟨gl9, A4.lt⟩
  show KW true l Z M_law n0 (fun v _ => v = some (.int 1)) (EL, fun x => x = a1) h2 1 4 134 #[.val (.int x), .val (.int y), .val (.int flags), .val (.int n1), .val (.int n2), .val (.int fA), .val (.int fB), .val (.int cpy), .val (.int sf), .val (.int c0), .val (.int c1), .val (.int d0), .val (.int d1), .unset, .unset, .unset, .unset, .unset, .unset] [(.ref a1)]
  refine k_dup at_134 rfl rfl ?_
  refine k_iloadN at_135 rfl rfl ?_
  refine k_iload at_136 rfl rfl ?_
  refine k_iload at_138 rfl rfl ?_
  have f12 := (OD.ext E3)
  refine k_callStatic (argsL := [(.int n1), (.int c0), (.int c1)]) (rest := [(.ref a1), (.ref a1)]) (W0 := 2) at_140 rfl (mt_ch l Z a0 hw cs hcs SC hEW n1 c0 c1 h2 n0 f12) (fun _ _ _ q => by obtain ⟨_, _, -, -, -, K, -⟩ := q; exact ⟨[], K, fun _ z => nomatch z⟩) (hw _ (List.mem_of_getElem? (i := 3) rfl)) (hw _ (List.mem_of_getElem? (i := 4) rfl)) (hw _ (List.mem_of_getElem? (i := 5) rfl)) (hw _ (List.mem_of_getElem? (i := 6) rfl)) (by decide) pd_ch rfl rfl rfl rfl (by decide) (by decide) (by decide) (by decide) ?_
  rintro _ h14 - ⟨d13, ck19, rfl, gd17, g18, K15, D16⟩
  have ne20 : a1 ≠ d13 := Nat.ne_of_lt (Nat.lt_of_lt_of_le A4.lt gd17)
  refine KW.sub (S' := fun x => x = a1) (fun x hx => Or.inl hx) ?_
  show KW true l Z M_law n0 (fun v _ => v = some (.int 1)) (EL, fun x => x = a1) h14 2 6 143 #[.val (.int x), .val (.int y), .val (.int flags), .val (.int n1), .val (.int n2), .val (.int fA), .val (.int fB), .val (.int cpy), .val (.int sf), .val (.int c0), .val (.int c1), .val (.int d0), .val (.int d1), .unset, .unset, .unset, .unset, .unset, .unset] [(.ref d13), (.ref a1), (.ref a1)]
  have f21 := (f12.keep K15 all0)
  have f22 := (A4.keep K15)
  have f23 := (F10.keep K15 nin0)
  have f24 := (F11.keep K15 nin0)
  refine k_callInitW (a := a1) (argsL := [(.ref d13)]) (rest := [(.ref a1)]) (W0 := 1) at_143 rfl (mt_s1 l Z a0 hw cs hcs SC hEW a1 d13 ck19 (chs n1 c0 c1) h14 n0 (chs_len _ _ _) (chs_lat hc0 hc1) f21 f22 f23 f24 D16 ge8) rfl rfl (hw _ (List.mem_of_getElem? (i := 8) rfl)) (hw _ (List.mem_of_getElem? (i := 9) rfl)) (hw _ (List.mem_of_getElem? (i := 2) rfl)) (hw _ (List.mem_of_getElem? (i := 10) rfl)) (by decide) pd_s1 rfl rfl rfl rfl (by decide) (by decide) (by decide) (by decide) ?_
  rintro _ h25 - ⟨rfl, t26, SG27, K28⟩
  refine KW.sub (S' := fun _ => False) (fun x hx => hx.elim) ?_
  show KW true l Z M_law n0 (fun v _ => v = some (.int 1)) (EL, fun _ => False) h25 6 14 146 #[.val (.int x), .val (.int y), .val (.int flags), .val (.int n1), .val (.int n2), .val (.int fA), .val (.int fB), .val (.int cpy), .val (.int sf), .val (.int c0), .val (.int c1), .val (.int d0), .val (.int d1), .unset, .unset, .unset, .unset, .unset, .unset] [(.ref a1)]
  refine k_astore (Ls' := #[.val (.int x), .val (.int y), .val (.int flags), .val (.int n1), .val (.int n2), .val (.int fA), .val (.int fB), .val (.int cpy), .val (.int sf), .val (.int c0), .val (.int c1), .val (.int d0), .val (.int d1), .val (.ref a1), .unset, .unset, .unset, .unset, .unset]) at_146 rfl rfl rfl ?_
  refine k_new at_148 rfl (hw _ (List.mem_of_getElem? (i := 0) rfl)) (hw _ (List.mem_of_getElem? (i := 1) rfl)) (hw _ (List.mem_of_getElem? (i := 2) rfl)) (by decide) (by decide) ?_
  intro h30 a29 g34 E31 A32 D33
  have ne35 : a1 ≠ a29 := Nat.ne_of_lt (Nat.lt_of_lt_of_eq SG27.lt g34.symm)
  have ne36 : t26 ≠ a29 := Nat.ne_of_lt (Nat.lt_of_lt_of_eq SG27.ltv g34.symm)
  have z37 : n0 ≤ h25.size := (Nat.le_trans (Nat.le_trans (Nat.le_trans z7 E3.1) K15.1) K28.1)
  have ge38 : n0 ≤ a29 := Nat.le_trans z37 (Nat.le_of_eq g34.symm)
  have gl39 : h25.size ≤ a29 := Nat.le_of_eq g34.symm
  have F40 : Fld Z h30 a29 "java/lang/String" "coder" "B" (.int (0 : Int32)) := D33 (Or.inr (hw _ (List.mem_of_getElem? (i := 31) rfl))) (ty := .byte) (by decide)
  have F41 : Fld Z h30 a29 "java/lang/String" "value" "[B" .null := D33 (Or.inr (hw _ (List.mem_of_getElem? (i := 33) rfl))) (ty := (.array .byte)) (by decide)
  refine KW.sub (S' := fun x => x = a29) (fun x hx => ?_) ?_
  · rcases hx with rfl
    · exact Or.inr ⟨gl39, A32.lt⟩
  show KW true l Z M_law n0 (fun v _ => v = some (.int 1)) (EL, fun x => x = a29) h30 7 18 151 #[.val (.int x), .val (.int y), .val (.int flags), .val (.int n1), .val (.int n2), .val (.int fA), .val (.int fB), .val (.int cpy), .val (.int sf), .val (.int c0), .val (.int c1), .val (.int d0), .val (.int d1), .val (.ref a1), .unset, .unset, .unset, .unset, .unset] [(.ref a29)]
  refine k_dup at_151 rfl rfl ?_
  refine k_iload at_152 rfl rfl ?_
  refine k_iload at_154 rfl rfl ?_
  refine k_iload at_156 rfl rfl ?_
  have f42 := (SG27.ext E31)
  have f43 := ((f21.keep K28 (allS ge8 all0)).ext E31)
  refine k_callStatic (argsL := [(.int n2), (.int d0), (.int d1)]) (rest := [(.ref a29), (.ref a29)]) (W0 := 2) at_158 rfl (mt_ch l Z a0 hw cs hcs SC hEW n2 d0 d1 h30 n0 f43) (fun _ _ _ q => by obtain ⟨_, _, -, -, -, K, -⟩ := q; exact ⟨[], K, fun _ z => nomatch z⟩) (hw _ (List.mem_of_getElem? (i := 3) rfl)) (hw _ (List.mem_of_getElem? (i := 4) rfl)) (hw _ (List.mem_of_getElem? (i := 5) rfl)) (hw _ (List.mem_of_getElem? (i := 6) rfl)) (by decide) pd_ch rfl rfl rfl rfl (by decide) (by decide) (by decide) (by decide) ?_
  rintro _ h45 - ⟨d44, ck50, rfl, gd48, g49, K46, D47⟩
  have ne51 : a1 ≠ d44 := Nat.ne_of_lt (Nat.lt_of_lt_of_le f42.lt gd48)
  have ne52 : t26 ≠ d44 := Nat.ne_of_lt (Nat.lt_of_lt_of_le f42.ltv gd48)
  have ne53 : a29 ≠ d44 := Nat.ne_of_lt (Nat.lt_of_lt_of_le A32.lt gd48)
  refine KW.sub (S' := fun x => x = a29) (fun x hx => Or.inl hx) ?_
  show KW true l Z M_law n0 (fun v _ => v = some (.int 1)) (EL, fun x => x = a29) h45 8 20 161 #[.val (.int x), .val (.int y), .val (.int flags), .val (.int n1), .val (.int n2), .val (.int fA), .val (.int fB), .val (.int cpy), .val (.int sf), .val (.int c0), .val (.int c1), .val (.int d0), .val (.int d1), .val (.ref a1), .unset, .unset, .unset, .unset, .unset] [(.ref d44), (.ref a29), (.ref a29)]
  have f54 := (f43.keep K46 all0)
  have f55 := (A32.keep K46)
  have f56 := (F40.keep K46 nin0)
  have f57 := (F41.keep K46 nin0)
  have f58 := (f42.keep K46 nin0 nin0)
  refine k_callInitW (a := a29) (argsL := [(.ref d44)]) (rest := [(.ref a29)]) (W0 := 1) at_161 rfl (mt_s1 l Z a0 hw cs hcs SC hEW a29 d44 ck50 (chs n2 d0 d1) h45 n0 (chs_len _ _ _) (chs_lat hd0 hd1) f54 f55 f56 f57 D47 ge38) rfl rfl (hw _ (List.mem_of_getElem? (i := 8) rfl)) (hw _ (List.mem_of_getElem? (i := 9) rfl)) (hw _ (List.mem_of_getElem? (i := 2) rfl)) (hw _ (List.mem_of_getElem? (i := 10) rfl)) (by decide) pd_s1 rfl rfl rfl rfl (by decide) (by decide) (by decide) (by decide) ?_
  rintro _ h59 - ⟨rfl, t60, SG61, K62⟩
  refine KW.sub (S' := fun _ => False) (fun x hx => hx.elim) ?_
  show KW true l Z M_law n0 (fun v _ => v = some (.int 1)) (EL, fun _ => False) h59 12 28 164 #[.val (.int x), .val (.int y), .val (.int flags), .val (.int n1), .val (.int n2), .val (.int fA), .val (.int fB), .val (.int cpy), .val (.int sf), .val (.int c0), .val (.int c1), .val (.int d0), .val (.int d1), .val (.ref a1), .unset, .unset, .unset, .unset, .unset] [(.ref a29)]
  refine k_astore (Ls' := #[.val (.int x), .val (.int y), .val (.int flags), .val (.int n1), .val (.int n2), .val (.int fA), .val (.int fB), .val (.int cpy), .val (.int sf), .val (.int c0), .val (.int c1), .val (.int d0), .val (.int d1), .val (.ref a1), .val (.ref a29), .unset, .unset, .unset, .unset]) at_164 rfl rfl rfl ?_
  have f69 := (f58.keep K62 (ninS ne35 nin0) (ninS ne36 nin0))
  refine k_new at_166 rfl (hw _ (List.mem_of_getElem? (i := 37) rfl)) (hw _ (List.mem_of_getElem? (i := 38) rfl)) (hw _ (List.mem_of_getElem? (i := 39) rfl)) (by decide) (by decide) ?_
  intro h64 a63 g68 E65 A66 D67
  have ne70 : a1 ≠ a63 := Nat.ne_of_lt (Nat.lt_of_lt_of_eq f69.lt g68.symm)
  have ne71 : t26 ≠ a63 := Nat.ne_of_lt (Nat.lt_of_lt_of_eq f69.ltv g68.symm)
  have ne72 : a29 ≠ a63 := Nat.ne_of_lt (Nat.lt_of_lt_of_eq SG61.lt g68.symm)
  have ne73 : t60 ≠ a63 := Nat.ne_of_lt (Nat.lt_of_lt_of_eq SG61.ltv g68.symm)
  have z74 : n0 ≤ h59.size := (Nat.le_trans (Nat.le_trans (Nat.le_trans z37 E31.1) K46.1) K62.1)
  have ge75 : n0 ≤ a63 := Nat.le_trans z74 (Nat.le_of_eq g68.symm)
  have gl76 : h59.size ≤ a63 := Nat.le_of_eq g68.symm
  have F77 : Fld Z h64 a63 "com/example/custody/custody/report/Comparand" "text" "Ljava/lang/String;" .null := D67 (Or.inr (hw _ (List.mem_of_getElem? (i := 50) rfl))) (ty := (.object "java/lang/String")) (by decide)
  have F78 : Fld Z h64 a63 "com/example/custody/custody/report/Comparand" "found" "Z" (.int (0 : Int32)) := D67 (Or.inr (hw _ (List.mem_of_getElem? (i := 52) rfl))) (ty := .boolean) (by decide)
  refine KW.sub (S' := fun x => x = a63) (fun x hx => ?_) ?_
  · rcases hx with rfl
    · exact Or.inr ⟨gl76, A66.lt⟩
  show KW true l Z M_law n0 (fun v _ => v = some (.int 1)) (EL, fun x => x = a63) h64 13 30 169 #[.val (.int x), .val (.int y), .val (.int flags), .val (.int n1), .val (.int n2), .val (.int fA), .val (.int fB), .val (.int cpy), .val (.int sf), .val (.int c0), .val (.int c1), .val (.int d0), .val (.int d1), .val (.ref a1), .val (.ref a29), .unset, .unset, .unset, .unset] [(.ref a63)]
  refine k_dup at_169 rfl rfl ?_
  refine k_aload at_170 rfl rfl rfl ?_
  refine k_iload at_172 rfl rfl ?_
  have f79 := (f69.ext E65)
  have f80 := (SG61.ext E65)
  refine k_callInit (a := a63) (argsL := [(.ref a1), (.int fA)]) (rest := [(.ref a63)]) (W0 := 1) at_174 rfl (mt_ci l Z a0 hw cs hcs SC hEW a63 a1 fA h64 n0 hfA ge75 A66 F77 F78) (fun _ _ _ q => ⟨[a63], q.2.1, fun x hx => by cases List.mem_singleton.mp hx; exact Sf.exa A66 (by decide) (by decide)⟩) rfl rfl (hw _ (List.mem_of_getElem? (i := 40) rfl)) (hw _ (List.mem_of_getElem? (i := 41) rfl)) (hw _ (List.mem_of_getElem? (i := 39) rfl)) (hw _ (List.mem_of_getElem? (i := 42) rfl)) (by decide) pd_ci rfl rfl rfl rfl (by decide) (by decide) (by decide) (by decide) ?_
  rintro _ h81 - ⟨rfl, K82, F83, F84⟩
  refine KW.sub (S' := fun _ => False) (fun x hx => hx.elim) ?_
  show KW true l Z M_law n0 (fun v _ => v = some (.int 1)) (EL, fun _ => False) h81 13 30 177 #[.val (.int x), .val (.int y), .val (.int flags), .val (.int n1), .val (.int n2), .val (.int fA), .val (.int fB), .val (.int cpy), .val (.int sf), .val (.int c0), .val (.int c1), .val (.int d0), .val (.int d1), .val (.ref a1), .val (.ref a29), .unset, .unset, .unset, .unset] [(.ref a63)]
  refine k_astore (Ls' := #[.val (.int x), .val (.int y), .val (.int flags), .val (.int n1), .val (.int n2), .val (.int fA), .val (.int fB), .val (.int cpy), .val (.int sf), .val (.int c0), .val (.int c1), .val (.int d0), .val (.int d1), .val (.ref a1), .val (.ref a29), .val (.ref a63), .unset, .unset, .unset]) at_177 rfl rfl rfl ?_
  refine k_iload at_179 rfl rfl ?_
  refine k_ifc (pc1 := 206) (pc' := 184) at_181 (by decide) (by decide) rfl (fun (cd1 : sf = (0 : Int32)) => ?_) (fun (cd1 : ¬ sf = (0 : Int32)) => ?_)
  · skip
    have f91 := (f79.keep K82 (ninS ne70 nin0) (ninS ne71 nin0))
    have f92 := (f80.keep K82 (ninS ne72 nin0) (ninS ne73 nin0))
    have f93 := (A66.keep K82)
    refine k_new at_206 rfl (hw _ (List.mem_of_getElem? (i := 37) rfl)) (hw _ (List.mem_of_getElem? (i := 38) rfl)) (hw _ (List.mem_of_getElem? (i := 39) rfl)) (by decide) (by decide) ?_
    intro h86 a85 g90 E87 A88 D89
    have ne94 : a1 ≠ a85 := Nat.ne_of_lt (Nat.lt_of_lt_of_eq f91.lt g90.symm)
    have ne95 : t26 ≠ a85 := Nat.ne_of_lt (Nat.lt_of_lt_of_eq f91.ltv g90.symm)
    have ne96 : a29 ≠ a85 := Nat.ne_of_lt (Nat.lt_of_lt_of_eq f92.lt g90.symm)
    have ne97 : t60 ≠ a85 := Nat.ne_of_lt (Nat.lt_of_lt_of_eq f92.ltv g90.symm)
    have ne98 : a63 ≠ a85 := Nat.ne_of_lt (Nat.lt_of_lt_of_eq f93.lt g90.symm)
    have z99 : n0 ≤ h81.size := (Nat.le_trans (Nat.le_trans z74 E65.1) K82.1)
    have ge100 : n0 ≤ a85 := Nat.le_trans z99 (Nat.le_of_eq g90.symm)
    have gl101 : h81.size ≤ a85 := Nat.le_of_eq g90.symm
    have F102 : Fld Z h86 a85 "com/example/custody/custody/report/Comparand" "text" "Ljava/lang/String;" .null := D89 (Or.inr (hw _ (List.mem_of_getElem? (i := 50) rfl))) (ty := (.object "java/lang/String")) (by decide)
    have F103 : Fld Z h86 a85 "com/example/custody/custody/report/Comparand" "found" "Z" (.int (0 : Int32)) := D89 (Or.inr (hw _ (List.mem_of_getElem? (i := 52) rfl))) (ty := .boolean) (by decide)
    refine KW.sub (S' := fun x => x = a85) (fun x hx => ?_) ?_
    · rcases hx with rfl
      · exact Or.inr ⟨gl101, A88.lt⟩
    show KW true l Z M_law n0 (fun v _ => v = some (.int 1)) (EL, fun x => x = a85) h86 14 32 209 #[.val (.int x), .val (.int y), .val (.int flags), .val (.int n1), .val (.int n2), .val (.int fA), .val (.int fB), .val (.int cpy), .val (.int sf), .val (.int c0), .val (.int c1), .val (.int d0), .val (.int d1), .val (.ref a1), .val (.ref a29), .val (.ref a63), .unset, .unset, .unset] [(.ref a85)]
    refine k_dup at_209 rfl rfl ?_
    refine k_aload at_210 rfl rfl rfl ?_
    refine k_iload at_212 rfl rfl ?_
    have f104 := (f91.ext E87)
    have f105 := (f92.ext E87)
    have f106 := (f93.ext E87)
    refine k_callInit (a := a85) (argsL := [(.ref a29), (.int fB)]) (rest := [(.ref a85)]) (W0 := 1) at_214 rfl (mt_ci l Z a0 hw cs hcs SC hEW a85 a29 fB h86 n0 hfB ge100 A88 F102 F103) (fun _ _ _ q => ⟨[a85], q.2.1, fun x hx => by cases List.mem_singleton.mp hx; exact Sf.exa A88 (by decide) (by decide)⟩) rfl rfl (hw _ (List.mem_of_getElem? (i := 40) rfl)) (hw _ (List.mem_of_getElem? (i := 41) rfl)) (hw _ (List.mem_of_getElem? (i := 39) rfl)) (hw _ (List.mem_of_getElem? (i := 42) rfl)) (by decide) pd_ci rfl rfl rfl rfl (by decide) (by decide) (by decide) (by decide) ?_
    rintro _ h107 - ⟨rfl, K108, F109, F110⟩
    refine KW.sub (S' := fun _ => False) (fun x hx => hx.elim) ?_
    show KW true l Z M_law n0 (fun v _ => v = some (.int 1)) (EL, fun _ => False) h107 14 32 217 #[.val (.int x), .val (.int y), .val (.int flags), .val (.int n1), .val (.int n2), .val (.int fA), .val (.int fB), .val (.int cpy), .val (.int sf), .val (.int c0), .val (.int c1), .val (.int d0), .val (.int d1), .val (.ref a1), .val (.ref a29), .val (.ref a63), .unset, .unset, .unset] [(.ref a85)]
    refine k_astore (Ls' := #[.val (.int x), .val (.int y), .val (.int flags), .val (.int n1), .val (.int n2), .val (.int fA), .val (.int fB), .val (.int cpy), .val (.int sf), .val (.int c0), .val (.int c1), .val (.int d0), .val (.int d1), .val (.ref a1), .val (.ref a29), .val (.ref a63), .val (.ref a85), .unset, .unset]) at_217 rfl rfl rfl ?_
    refine k_iloadN at_219 rfl rfl ?_
    refine k_iload at_220 rfl rfl ?_
    refine k_icmp (pc1 := 253) (pc' := 225) at_222 (by decide) (by decide) rfl (fun (cd2 : ¬ n1 = n2) => ?_) (fun (cd2 : n1 = n2) => ?_)
    · skip
      refine k_iconst (z := (0 : Int32)) at_253 rfl (by decide) ?_
      have ee : eqI (tx n1 c0 c1) (tx n2 d0 d1) = (0 : Int32) := by
        first | exact own_s0 hn1 hn2 (by assumption) | exact own_s0a hn1 (by assumption) hc0 hd0 (by assumption) (by assumption) | exact own_s0b hn1 (by assumption) hc1 hd1 (by assumption) (by assumption)
      refine KW.top (congrArg Value.int ee.symm) ?_
      show KW true l Z M_law n0 (fun v _ => v = some (.int 1)) (EL, fun _ => False) h107 14 32 254 #[.val (.int x), .val (.int y), .val (.int flags), .val (.int n1), .val (.int n2), .val (.int fA), .val (.int fB), .val (.int cpy), .val (.int sf), .val (.int c0), .val (.int c1), .val (.int d0), .val (.int d1), .val (.ref a1), .val (.ref a29), .val (.ref a63), .val (.ref a85), .unset, .unset] [(.int (eqI (tx n1 c0 c1) (tx n2 d0 d1)))]
      refine k_istore (Ls' := #[.val (.int x), .val (.int y), .val (.int flags), .val (.int n1), .val (.int n2), .val (.int fA), .val (.int fB), .val (.int cpy), .val (.int sf), .val (.int c0), .val (.int c1), .val (.int d0), .val (.int d1), .val (.ref a1), .val (.ref a29), .val (.ref a63), .val (.ref a85), .val (.int (eqI (tx n1 c0 c1) (tx n2 d0 d1))), .unset]) at_254 rfl rfl ?_
      refine k_iload at_256 rfl rfl ?_
      refine k_ifc (pc1 := 275) (pc' := 261) at_258 (by decide) (by decide) rfl (fun (cd3 : fA = (0 : Int32)) => ?_) (fun (cd3 : ¬ fA = (0 : Int32)) => ?_)
      · skip
        refine k_iconst (z := (0 : Int32)) at_275 rfl (by decide) ?_
        refine k_istore (Ls' := #[.val (.int x), .val (.int y), .val (.int flags), .val (.int n1), .val (.int n2), .val (.int fA), .val (.int fB), .val (.int cpy), .val (.int sf), .val (.int c0), .val (.int c1), .val (.int d0), .val (.int d1), .val (.ref a1), .val (.ref a29), .val (.ref a63), .val (.ref a85), .val (.int (eqI (tx n1 c0 c1) (tx n2 d0 d1))), .val (.int (0 : Int32))]) at_276 rfl rfl ?_
        refine k_aload at_278 rfl rfl rfl ?_
        refine k_aload at_280 rfl rfl rfl ?_
        have f111 := (((((f54.keep K62 (allS ge38 all0)).ext E65).keep K82 (allS ge75 all0)).ext E87).keep K108 (allS ge100 all0))
        have f112 := ((F83.ext E87).keep K108 (ninS ne98 nin0))
        have f113 := ((F84.ext E87).keep K108 (ninS ne98 nin0))
        have f114 := (f104.keep K108 (ninS ne94 nin0) (ninS ne95 nin0))
        have f115 := (f105.keep K108 (ninS ne96 nin0) (ninS ne97 nin0))
        have f116 := (f106.keep K108)
        refine k_callVirtual (argsL := [(.ref a85)]) (rest := []) (W0 := 0) at_282 rfl (mt_ag l Z a0 hw cs hcs SC hEW a63 a85 a1 a29 t26 t60 fA fB (tx n1 c0 c1) (tx n2 d0 d1) h107 n0 f111 f112 f113 F109 F110 f114 f115) (Kp.pure (fun _ _ q => q.2.symm)) f116 (hw _ (List.mem_of_getElem? (i := 53) rfl)) (hw _ (List.mem_of_getElem? (i := 54) rfl)) (hw _ (List.mem_of_getElem? (i := 56) rfl)) (hw _ (List.mem_of_getElem? (i := 56) rfl)) (hw _ (List.mem_of_getElem? (i := 55) rfl)) (hw _ (List.mem_of_getElem? (i := 57) rfl)) (hw _ (List.mem_of_getElem? (i := 39) rfl)) (by decide) pd_ag rfl rfl rfl rfl (by decide) (by decide) (by decide) (by decide) ?_
        rintro _ _ - ⟨rfl, rfl⟩
        refine KW.sub (S' := fun _ => False) (fun x hx => hx.elim) ?_
        show KW true l Z M_law n0 (fun v _ => v = some (.int 1)) (EL, fun _ => False) h107 14 32 285 #[.val (.int x), .val (.int y), .val (.int flags), .val (.int n1), .val (.int n2), .val (.int fA), .val (.int fB), .val (.int cpy), .val (.int sf), .val (.int c0), .val (.int c1), .val (.int d0), .val (.int d1), .val (.ref a1), .val (.ref a29), .val (.ref a63), .val (.ref a85), .val (.int (eqI (tx n1 c0 c1) (tx n2 d0 d1))), .val (.int (0 : Int32))] [(.int (agI fA fB (tx n1 c0 c1) (tx n2 d0 d1)))]
        refine k_iload at_285 rfl rfl ?_
        refine k_icmp (pc1 := 294) (pc' := 290) at_287 (by decide) (by decide) rfl (fun (cd4 : ¬ (agI fA fB (tx n1 c0 c1) (tx n2 d0 d1)) = (0 : Int32)) => absurd (by first | exact agI_a (by assumption) | exact agI_b (by assumption) (by assumption) | exact (agI_c (by assumption) (by assumption)).trans (by first | assumption | exact eqI_one (by assumption))) cd4) (fun (cd4 : (agI fA fB (tx n1 c0 c1) (tx n2 d0 d1)) = (0 : Int32)) => ?_)
        refine k_iconst (z := (1 : Int32)) at_290 rfl (by decide) ?_
        refine k_goto (pc' := 295) at_291 (by decide) (by decide) ?_
        exact k_retNar at_295 rfl (by simp) (z' := (1 : Int32)) (by decide) (by decide) (by decide) rfl
      · skip
        refine k_iload at_261 rfl rfl ?_
        refine k_ifc (pc1 := 275) (pc' := 266) at_263 (by decide) (by decide) rfl (fun (cd5 : fB = (0 : Int32)) => ?_) (fun (cd5 : ¬ fB = (0 : Int32)) => ?_)
        · skip
          refine k_iconst (z := (0 : Int32)) at_275 rfl (by decide) ?_
          refine k_istore (Ls' := #[.val (.int x), .val (.int y), .val (.int flags), .val (.int n1), .val (.int n2), .val (.int fA), .val (.int fB), .val (.int cpy), .val (.int sf), .val (.int c0), .val (.int c1), .val (.int d0), .val (.int d1), .val (.ref a1), .val (.ref a29), .val (.ref a63), .val (.ref a85), .val (.int (eqI (tx n1 c0 c1) (tx n2 d0 d1))), .val (.int (0 : Int32))]) at_276 rfl rfl ?_
          refine k_aload at_278 rfl rfl rfl ?_
          refine k_aload at_280 rfl rfl rfl ?_
          have f117 := (((((f54.keep K62 (allS ge38 all0)).ext E65).keep K82 (allS ge75 all0)).ext E87).keep K108 (allS ge100 all0))
          have f118 := ((F83.ext E87).keep K108 (ninS ne98 nin0))
          have f119 := ((F84.ext E87).keep K108 (ninS ne98 nin0))
          have f120 := (f104.keep K108 (ninS ne94 nin0) (ninS ne95 nin0))
          have f121 := (f105.keep K108 (ninS ne96 nin0) (ninS ne97 nin0))
          have f122 := (f106.keep K108)
          refine k_callVirtual (argsL := [(.ref a85)]) (rest := []) (W0 := 0) at_282 rfl (mt_ag l Z a0 hw cs hcs SC hEW a63 a85 a1 a29 t26 t60 fA fB (tx n1 c0 c1) (tx n2 d0 d1) h107 n0 f117 f118 f119 F109 F110 f120 f121) (Kp.pure (fun _ _ q => q.2.symm)) f122 (hw _ (List.mem_of_getElem? (i := 53) rfl)) (hw _ (List.mem_of_getElem? (i := 54) rfl)) (hw _ (List.mem_of_getElem? (i := 56) rfl)) (hw _ (List.mem_of_getElem? (i := 56) rfl)) (hw _ (List.mem_of_getElem? (i := 55) rfl)) (hw _ (List.mem_of_getElem? (i := 57) rfl)) (hw _ (List.mem_of_getElem? (i := 39) rfl)) (by decide) pd_ag rfl rfl rfl rfl (by decide) (by decide) (by decide) (by decide) ?_
          rintro _ _ - ⟨rfl, rfl⟩
          refine KW.sub (S' := fun _ => False) (fun x hx => hx.elim) ?_
          show KW true l Z M_law n0 (fun v _ => v = some (.int 1)) (EL, fun _ => False) h107 14 32 285 #[.val (.int x), .val (.int y), .val (.int flags), .val (.int n1), .val (.int n2), .val (.int fA), .val (.int fB), .val (.int cpy), .val (.int sf), .val (.int c0), .val (.int c1), .val (.int d0), .val (.int d1), .val (.ref a1), .val (.ref a29), .val (.ref a63), .val (.ref a85), .val (.int (eqI (tx n1 c0 c1) (tx n2 d0 d1))), .val (.int (0 : Int32))] [(.int (agI fA fB (tx n1 c0 c1) (tx n2 d0 d1)))]
          refine k_iload at_285 rfl rfl ?_
          refine k_icmp (pc1 := 294) (pc' := 290) at_287 (by decide) (by decide) rfl (fun (cd6 : ¬ (agI fA fB (tx n1 c0 c1) (tx n2 d0 d1)) = (0 : Int32)) => absurd (by first | exact agI_a (by assumption) | exact agI_b (by assumption) (by assumption) | exact (agI_c (by assumption) (by assumption)).trans (by first | assumption | exact eqI_one (by assumption))) cd6) (fun (cd6 : (agI fA fB (tx n1 c0 c1) (tx n2 d0 d1)) = (0 : Int32)) => ?_)
          refine k_iconst (z := (1 : Int32)) at_290 rfl (by decide) ?_
          refine k_goto (pc' := 295) at_291 (by decide) (by decide) ?_
          exact k_retNar at_295 rfl (by simp) (z' := (1 : Int32)) (by decide) (by decide) (by decide) rfl
        · skip
          refine k_iload at_266 rfl rfl ?_
          refine k_ifc (pc1 := 275) (pc' := 271) at_268 (by decide) (by decide) rfl (fun (cd7 : (eqI (tx n1 c0 c1) (tx n2 d0 d1)) = (0 : Int32)) => ?_) (fun (cd7 : ¬ (eqI (tx n1 c0 c1) (tx n2 d0 d1)) = (0 : Int32)) => ?_)
          · skip
            refine k_iconst (z := (0 : Int32)) at_275 rfl (by decide) ?_
            refine k_istore (Ls' := #[.val (.int x), .val (.int y), .val (.int flags), .val (.int n1), .val (.int n2), .val (.int fA), .val (.int fB), .val (.int cpy), .val (.int sf), .val (.int c0), .val (.int c1), .val (.int d0), .val (.int d1), .val (.ref a1), .val (.ref a29), .val (.ref a63), .val (.ref a85), .val (.int (eqI (tx n1 c0 c1) (tx n2 d0 d1))), .val (.int (0 : Int32))]) at_276 rfl rfl ?_
            refine k_aload at_278 rfl rfl rfl ?_
            refine k_aload at_280 rfl rfl rfl ?_
            have f123 := (((((f54.keep K62 (allS ge38 all0)).ext E65).keep K82 (allS ge75 all0)).ext E87).keep K108 (allS ge100 all0))
            have f124 := ((F83.ext E87).keep K108 (ninS ne98 nin0))
            have f125 := ((F84.ext E87).keep K108 (ninS ne98 nin0))
            have f126 := (f104.keep K108 (ninS ne94 nin0) (ninS ne95 nin0))
            have f127 := (f105.keep K108 (ninS ne96 nin0) (ninS ne97 nin0))
            have f128 := (f106.keep K108)
            refine k_callVirtual (argsL := [(.ref a85)]) (rest := []) (W0 := 0) at_282 rfl (mt_ag l Z a0 hw cs hcs SC hEW a63 a85 a1 a29 t26 t60 fA fB (tx n1 c0 c1) (tx n2 d0 d1) h107 n0 f123 f124 f125 F109 F110 f126 f127) (Kp.pure (fun _ _ q => q.2.symm)) f128 (hw _ (List.mem_of_getElem? (i := 53) rfl)) (hw _ (List.mem_of_getElem? (i := 54) rfl)) (hw _ (List.mem_of_getElem? (i := 56) rfl)) (hw _ (List.mem_of_getElem? (i := 56) rfl)) (hw _ (List.mem_of_getElem? (i := 55) rfl)) (hw _ (List.mem_of_getElem? (i := 57) rfl)) (hw _ (List.mem_of_getElem? (i := 39) rfl)) (by decide) pd_ag rfl rfl rfl rfl (by decide) (by decide) (by decide) (by decide) ?_
            rintro _ _ - ⟨rfl, rfl⟩
            refine KW.sub (S' := fun _ => False) (fun x hx => hx.elim) ?_
            show KW true l Z M_law n0 (fun v _ => v = some (.int 1)) (EL, fun _ => False) h107 14 32 285 #[.val (.int x), .val (.int y), .val (.int flags), .val (.int n1), .val (.int n2), .val (.int fA), .val (.int fB), .val (.int cpy), .val (.int sf), .val (.int c0), .val (.int c1), .val (.int d0), .val (.int d1), .val (.ref a1), .val (.ref a29), .val (.ref a63), .val (.ref a85), .val (.int (eqI (tx n1 c0 c1) (tx n2 d0 d1))), .val (.int (0 : Int32))] [(.int (agI fA fB (tx n1 c0 c1) (tx n2 d0 d1)))]
            refine k_iload at_285 rfl rfl ?_
            refine k_icmp (pc1 := 294) (pc' := 290) at_287 (by decide) (by decide) rfl (fun (cd8 : ¬ (agI fA fB (tx n1 c0 c1) (tx n2 d0 d1)) = (0 : Int32)) => absurd (by first | exact agI_a (by assumption) | exact agI_b (by assumption) (by assumption) | exact (agI_c (by assumption) (by assumption)).trans (by first | assumption | exact eqI_one (by assumption))) cd8) (fun (cd8 : (agI fA fB (tx n1 c0 c1) (tx n2 d0 d1)) = (0 : Int32)) => ?_)
            refine k_iconst (z := (1 : Int32)) at_290 rfl (by decide) ?_
            refine k_goto (pc' := 295) at_291 (by decide) (by decide) ?_
            exact k_retNar at_295 rfl (by simp) (z' := (1 : Int32)) (by decide) (by decide) (by decide) rfl
          · skip
            refine k_iconst (z := (1 : Int32)) at_271 rfl (by decide) ?_
            refine k_goto (pc' := 276) at_272 (by decide) (by decide) ?_
            refine k_istore (Ls' := #[.val (.int x), .val (.int y), .val (.int flags), .val (.int n1), .val (.int n2), .val (.int fA), .val (.int fB), .val (.int cpy), .val (.int sf), .val (.int c0), .val (.int c1), .val (.int d0), .val (.int d1), .val (.ref a1), .val (.ref a29), .val (.ref a63), .val (.ref a85), .val (.int (eqI (tx n1 c0 c1) (tx n2 d0 d1))), .val (.int (1 : Int32))]) at_276 rfl rfl ?_
            refine k_aload at_278 rfl rfl rfl ?_
            refine k_aload at_280 rfl rfl rfl ?_
            have f129 := (((((f54.keep K62 (allS ge38 all0)).ext E65).keep K82 (allS ge75 all0)).ext E87).keep K108 (allS ge100 all0))
            have f130 := ((F83.ext E87).keep K108 (ninS ne98 nin0))
            have f131 := ((F84.ext E87).keep K108 (ninS ne98 nin0))
            have f132 := (f104.keep K108 (ninS ne94 nin0) (ninS ne95 nin0))
            have f133 := (f105.keep K108 (ninS ne96 nin0) (ninS ne97 nin0))
            have f134 := (f106.keep K108)
            refine k_callVirtual (argsL := [(.ref a85)]) (rest := []) (W0 := 0) at_282 rfl (mt_ag l Z a0 hw cs hcs SC hEW a63 a85 a1 a29 t26 t60 fA fB (tx n1 c0 c1) (tx n2 d0 d1) h107 n0 f129 f130 f131 F109 F110 f132 f133) (Kp.pure (fun _ _ q => q.2.symm)) f134 (hw _ (List.mem_of_getElem? (i := 53) rfl)) (hw _ (List.mem_of_getElem? (i := 54) rfl)) (hw _ (List.mem_of_getElem? (i := 56) rfl)) (hw _ (List.mem_of_getElem? (i := 56) rfl)) (hw _ (List.mem_of_getElem? (i := 55) rfl)) (hw _ (List.mem_of_getElem? (i := 57) rfl)) (hw _ (List.mem_of_getElem? (i := 39) rfl)) (by decide) pd_ag rfl rfl rfl rfl (by decide) (by decide) (by decide) (by decide) ?_
            rintro _ _ - ⟨rfl, rfl⟩
            refine KW.sub (S' := fun _ => False) (fun x hx => hx.elim) ?_
            show KW true l Z M_law n0 (fun v _ => v = some (.int 1)) (EL, fun _ => False) h107 14 32 285 #[.val (.int x), .val (.int y), .val (.int flags), .val (.int n1), .val (.int n2), .val (.int fA), .val (.int fB), .val (.int cpy), .val (.int sf), .val (.int c0), .val (.int c1), .val (.int d0), .val (.int d1), .val (.ref a1), .val (.ref a29), .val (.ref a63), .val (.ref a85), .val (.int (eqI (tx n1 c0 c1) (tx n2 d0 d1))), .val (.int (1 : Int32))] [(.int (agI fA fB (tx n1 c0 c1) (tx n2 d0 d1)))]
            refine k_iload at_285 rfl rfl ?_
            refine k_icmp (pc1 := 294) (pc' := 290) at_287 (by decide) (by decide) rfl (fun (cd9 : ¬ (agI fA fB (tx n1 c0 c1) (tx n2 d0 d1)) = (1 : Int32)) => absurd (by first | exact agI_a (by assumption) | exact agI_b (by assumption) (by assumption) | exact (agI_c (by assumption) (by assumption)).trans (by first | assumption | exact eqI_one (by assumption))) cd9) (fun (cd9 : (agI fA fB (tx n1 c0 c1) (tx n2 d0 d1)) = (1 : Int32)) => ?_)
            refine k_iconst (z := (1 : Int32)) at_290 rfl (by decide) ?_
            refine k_goto (pc' := 295) at_291 (by decide) (by decide) ?_
            exact k_retNar at_295 rfl (by simp) (z' := (1 : Int32)) (by decide) (by decide) (by decide) rfl
    · skip
      refine k_iloadN at_225 rfl rfl ?_
      refine k_iconst (z := (1 : Int32)) at_226 rfl (by decide) ?_
      refine k_icmp (pc1 := 237) (pc' := 230) at_227 (by decide) (by decide) rfl (fun (cd10 : n1 < (1 : Int32)) => ?_) (fun (cd10 : ¬ n1 < (1 : Int32)) => ?_)
      · skip
        refine k_iloadN at_237 rfl rfl ?_
        refine k_iconst (z := (2 : Int32)) at_238 rfl (by decide) ?_
        refine k_icmp (pc1 := 249) (pc' := 242) at_239 (by decide) (by decide) rfl (fun (cd11 : n1 < (2 : Int32)) => ?_) (fun (cd11 : ¬ n1 < (2 : Int32)) => ?_)
        · skip
          refine k_iconst (z := (1 : Int32)) at_249 rfl (by decide) ?_
          refine k_goto (pc' := 254) at_250 (by decide) (by decide) ?_
          have ee : eqI (tx n1 c0 c1) (tx n2 d0 d1) = (1 : Int32) := by
            exact own_s1 hn1 (by assumption) (by first | exact Or.inl (by assumption) | exact Or.inr (by assumption)) (by first | exact Or.inl (by assumption) | exact Or.inr (by assumption))
          refine KW.top (congrArg Value.int ee.symm) ?_
          show KW true l Z M_law n0 (fun v _ => v = some (.int 1)) (EL, fun _ => False) h107 14 32 254 #[.val (.int x), .val (.int y), .val (.int flags), .val (.int n1), .val (.int n2), .val (.int fA), .val (.int fB), .val (.int cpy), .val (.int sf), .val (.int c0), .val (.int c1), .val (.int d0), .val (.int d1), .val (.ref a1), .val (.ref a29), .val (.ref a63), .val (.ref a85), .unset, .unset] [(.int (eqI (tx n1 c0 c1) (tx n2 d0 d1)))]
          refine k_istore (Ls' := #[.val (.int x), .val (.int y), .val (.int flags), .val (.int n1), .val (.int n2), .val (.int fA), .val (.int fB), .val (.int cpy), .val (.int sf), .val (.int c0), .val (.int c1), .val (.int d0), .val (.int d1), .val (.ref a1), .val (.ref a29), .val (.ref a63), .val (.ref a85), .val (.int (eqI (tx n1 c0 c1) (tx n2 d0 d1))), .unset]) at_254 rfl rfl ?_
          refine k_iload at_256 rfl rfl ?_
          refine k_ifc (pc1 := 275) (pc' := 261) at_258 (by decide) (by decide) rfl (fun (cd12 : fA = (0 : Int32)) => ?_) (fun (cd12 : ¬ fA = (0 : Int32)) => ?_)
          · skip
            refine k_iconst (z := (0 : Int32)) at_275 rfl (by decide) ?_
            refine k_istore (Ls' := #[.val (.int x), .val (.int y), .val (.int flags), .val (.int n1), .val (.int n2), .val (.int fA), .val (.int fB), .val (.int cpy), .val (.int sf), .val (.int c0), .val (.int c1), .val (.int d0), .val (.int d1), .val (.ref a1), .val (.ref a29), .val (.ref a63), .val (.ref a85), .val (.int (eqI (tx n1 c0 c1) (tx n2 d0 d1))), .val (.int (0 : Int32))]) at_276 rfl rfl ?_
            refine k_aload at_278 rfl rfl rfl ?_
            refine k_aload at_280 rfl rfl rfl ?_
            have f135 := (((((f54.keep K62 (allS ge38 all0)).ext E65).keep K82 (allS ge75 all0)).ext E87).keep K108 (allS ge100 all0))
            have f136 := ((F83.ext E87).keep K108 (ninS ne98 nin0))
            have f137 := ((F84.ext E87).keep K108 (ninS ne98 nin0))
            have f138 := (f104.keep K108 (ninS ne94 nin0) (ninS ne95 nin0))
            have f139 := (f105.keep K108 (ninS ne96 nin0) (ninS ne97 nin0))
            have f140 := (f106.keep K108)
            refine k_callVirtual (argsL := [(.ref a85)]) (rest := []) (W0 := 0) at_282 rfl (mt_ag l Z a0 hw cs hcs SC hEW a63 a85 a1 a29 t26 t60 fA fB (tx n1 c0 c1) (tx n2 d0 d1) h107 n0 f135 f136 f137 F109 F110 f138 f139) (Kp.pure (fun _ _ q => q.2.symm)) f140 (hw _ (List.mem_of_getElem? (i := 53) rfl)) (hw _ (List.mem_of_getElem? (i := 54) rfl)) (hw _ (List.mem_of_getElem? (i := 56) rfl)) (hw _ (List.mem_of_getElem? (i := 56) rfl)) (hw _ (List.mem_of_getElem? (i := 55) rfl)) (hw _ (List.mem_of_getElem? (i := 57) rfl)) (hw _ (List.mem_of_getElem? (i := 39) rfl)) (by decide) pd_ag rfl rfl rfl rfl (by decide) (by decide) (by decide) (by decide) ?_
            rintro _ _ - ⟨rfl, rfl⟩
            refine KW.sub (S' := fun _ => False) (fun x hx => hx.elim) ?_
            show KW true l Z M_law n0 (fun v _ => v = some (.int 1)) (EL, fun _ => False) h107 14 32 285 #[.val (.int x), .val (.int y), .val (.int flags), .val (.int n1), .val (.int n2), .val (.int fA), .val (.int fB), .val (.int cpy), .val (.int sf), .val (.int c0), .val (.int c1), .val (.int d0), .val (.int d1), .val (.ref a1), .val (.ref a29), .val (.ref a63), .val (.ref a85), .val (.int (eqI (tx n1 c0 c1) (tx n2 d0 d1))), .val (.int (0 : Int32))] [(.int (agI fA fB (tx n1 c0 c1) (tx n2 d0 d1)))]
            refine k_iload at_285 rfl rfl ?_
            refine k_icmp (pc1 := 294) (pc' := 290) at_287 (by decide) (by decide) rfl (fun (cd13 : ¬ (agI fA fB (tx n1 c0 c1) (tx n2 d0 d1)) = (0 : Int32)) => absurd (by first | exact agI_a (by assumption) | exact agI_b (by assumption) (by assumption) | exact (agI_c (by assumption) (by assumption)).trans (by first | assumption | exact eqI_one (by assumption))) cd13) (fun (cd13 : (agI fA fB (tx n1 c0 c1) (tx n2 d0 d1)) = (0 : Int32)) => ?_)
            refine k_iconst (z := (1 : Int32)) at_290 rfl (by decide) ?_
            refine k_goto (pc' := 295) at_291 (by decide) (by decide) ?_
            exact k_retNar at_295 rfl (by simp) (z' := (1 : Int32)) (by decide) (by decide) (by decide) rfl
          · skip
            refine k_iload at_261 rfl rfl ?_
            refine k_ifc (pc1 := 275) (pc' := 266) at_263 (by decide) (by decide) rfl (fun (cd14 : fB = (0 : Int32)) => ?_) (fun (cd14 : ¬ fB = (0 : Int32)) => ?_)
            · skip
              refine k_iconst (z := (0 : Int32)) at_275 rfl (by decide) ?_
              refine k_istore (Ls' := #[.val (.int x), .val (.int y), .val (.int flags), .val (.int n1), .val (.int n2), .val (.int fA), .val (.int fB), .val (.int cpy), .val (.int sf), .val (.int c0), .val (.int c1), .val (.int d0), .val (.int d1), .val (.ref a1), .val (.ref a29), .val (.ref a63), .val (.ref a85), .val (.int (eqI (tx n1 c0 c1) (tx n2 d0 d1))), .val (.int (0 : Int32))]) at_276 rfl rfl ?_
              refine k_aload at_278 rfl rfl rfl ?_
              refine k_aload at_280 rfl rfl rfl ?_
              have f141 := (((((f54.keep K62 (allS ge38 all0)).ext E65).keep K82 (allS ge75 all0)).ext E87).keep K108 (allS ge100 all0))
              have f142 := ((F83.ext E87).keep K108 (ninS ne98 nin0))
              have f143 := ((F84.ext E87).keep K108 (ninS ne98 nin0))
              have f144 := (f104.keep K108 (ninS ne94 nin0) (ninS ne95 nin0))
              have f145 := (f105.keep K108 (ninS ne96 nin0) (ninS ne97 nin0))
              have f146 := (f106.keep K108)
              refine k_callVirtual (argsL := [(.ref a85)]) (rest := []) (W0 := 0) at_282 rfl (mt_ag l Z a0 hw cs hcs SC hEW a63 a85 a1 a29 t26 t60 fA fB (tx n1 c0 c1) (tx n2 d0 d1) h107 n0 f141 f142 f143 F109 F110 f144 f145) (Kp.pure (fun _ _ q => q.2.symm)) f146 (hw _ (List.mem_of_getElem? (i := 53) rfl)) (hw _ (List.mem_of_getElem? (i := 54) rfl)) (hw _ (List.mem_of_getElem? (i := 56) rfl)) (hw _ (List.mem_of_getElem? (i := 56) rfl)) (hw _ (List.mem_of_getElem? (i := 55) rfl)) (hw _ (List.mem_of_getElem? (i := 57) rfl)) (hw _ (List.mem_of_getElem? (i := 39) rfl)) (by decide) pd_ag rfl rfl rfl rfl (by decide) (by decide) (by decide) (by decide) ?_
              rintro _ _ - ⟨rfl, rfl⟩
              refine KW.sub (S' := fun _ => False) (fun x hx => hx.elim) ?_
              show KW true l Z M_law n0 (fun v _ => v = some (.int 1)) (EL, fun _ => False) h107 14 32 285 #[.val (.int x), .val (.int y), .val (.int flags), .val (.int n1), .val (.int n2), .val (.int fA), .val (.int fB), .val (.int cpy), .val (.int sf), .val (.int c0), .val (.int c1), .val (.int d0), .val (.int d1), .val (.ref a1), .val (.ref a29), .val (.ref a63), .val (.ref a85), .val (.int (eqI (tx n1 c0 c1) (tx n2 d0 d1))), .val (.int (0 : Int32))] [(.int (agI fA fB (tx n1 c0 c1) (tx n2 d0 d1)))]
              refine k_iload at_285 rfl rfl ?_
              refine k_icmp (pc1 := 294) (pc' := 290) at_287 (by decide) (by decide) rfl (fun (cd15 : ¬ (agI fA fB (tx n1 c0 c1) (tx n2 d0 d1)) = (0 : Int32)) => absurd (by first | exact agI_a (by assumption) | exact agI_b (by assumption) (by assumption) | exact (agI_c (by assumption) (by assumption)).trans (by first | assumption | exact eqI_one (by assumption))) cd15) (fun (cd15 : (agI fA fB (tx n1 c0 c1) (tx n2 d0 d1)) = (0 : Int32)) => ?_)
              refine k_iconst (z := (1 : Int32)) at_290 rfl (by decide) ?_
              refine k_goto (pc' := 295) at_291 (by decide) (by decide) ?_
              exact k_retNar at_295 rfl (by simp) (z' := (1 : Int32)) (by decide) (by decide) (by decide) rfl
            · skip
              refine k_iload at_266 rfl rfl ?_
              refine k_ifc (pc1 := 275) (pc' := 271) at_268 (by decide) (by decide) rfl (fun (cd16 : (eqI (tx n1 c0 c1) (tx n2 d0 d1)) = (0 : Int32)) => ?_) (fun (cd16 : ¬ (eqI (tx n1 c0 c1) (tx n2 d0 d1)) = (0 : Int32)) => ?_)
              · skip
                refine k_iconst (z := (0 : Int32)) at_275 rfl (by decide) ?_
                refine k_istore (Ls' := #[.val (.int x), .val (.int y), .val (.int flags), .val (.int n1), .val (.int n2), .val (.int fA), .val (.int fB), .val (.int cpy), .val (.int sf), .val (.int c0), .val (.int c1), .val (.int d0), .val (.int d1), .val (.ref a1), .val (.ref a29), .val (.ref a63), .val (.ref a85), .val (.int (eqI (tx n1 c0 c1) (tx n2 d0 d1))), .val (.int (0 : Int32))]) at_276 rfl rfl ?_
                refine k_aload at_278 rfl rfl rfl ?_
                refine k_aload at_280 rfl rfl rfl ?_
                have f147 := (((((f54.keep K62 (allS ge38 all0)).ext E65).keep K82 (allS ge75 all0)).ext E87).keep K108 (allS ge100 all0))
                have f148 := ((F83.ext E87).keep K108 (ninS ne98 nin0))
                have f149 := ((F84.ext E87).keep K108 (ninS ne98 nin0))
                have f150 := (f104.keep K108 (ninS ne94 nin0) (ninS ne95 nin0))
                have f151 := (f105.keep K108 (ninS ne96 nin0) (ninS ne97 nin0))
                have f152 := (f106.keep K108)
                refine k_callVirtual (argsL := [(.ref a85)]) (rest := []) (W0 := 0) at_282 rfl (mt_ag l Z a0 hw cs hcs SC hEW a63 a85 a1 a29 t26 t60 fA fB (tx n1 c0 c1) (tx n2 d0 d1) h107 n0 f147 f148 f149 F109 F110 f150 f151) (Kp.pure (fun _ _ q => q.2.symm)) f152 (hw _ (List.mem_of_getElem? (i := 53) rfl)) (hw _ (List.mem_of_getElem? (i := 54) rfl)) (hw _ (List.mem_of_getElem? (i := 56) rfl)) (hw _ (List.mem_of_getElem? (i := 56) rfl)) (hw _ (List.mem_of_getElem? (i := 55) rfl)) (hw _ (List.mem_of_getElem? (i := 57) rfl)) (hw _ (List.mem_of_getElem? (i := 39) rfl)) (by decide) pd_ag rfl rfl rfl rfl (by decide) (by decide) (by decide) (by decide) ?_
                rintro _ _ - ⟨rfl, rfl⟩
                refine KW.sub (S' := fun _ => False) (fun x hx => hx.elim) ?_
                show KW true l Z M_law n0 (fun v _ => v = some (.int 1)) (EL, fun _ => False) h107 14 32 285 #[.val (.int x), .val (.int y), .val (.int flags), .val (.int n1), .val (.int n2), .val (.int fA), .val (.int fB), .val (.int cpy), .val (.int sf), .val (.int c0), .val (.int c1), .val (.int d0), .val (.int d1), .val (.ref a1), .val (.ref a29), .val (.ref a63), .val (.ref a85), .val (.int (eqI (tx n1 c0 c1) (tx n2 d0 d1))), .val (.int (0 : Int32))] [(.int (agI fA fB (tx n1 c0 c1) (tx n2 d0 d1)))]
                refine k_iload at_285 rfl rfl ?_
                refine k_icmp (pc1 := 294) (pc' := 290) at_287 (by decide) (by decide) rfl (fun (cd17 : ¬ (agI fA fB (tx n1 c0 c1) (tx n2 d0 d1)) = (0 : Int32)) => absurd (by first | exact agI_a (by assumption) | exact agI_b (by assumption) (by assumption) | exact (agI_c (by assumption) (by assumption)).trans (by first | assumption | exact eqI_one (by assumption))) cd17) (fun (cd17 : (agI fA fB (tx n1 c0 c1) (tx n2 d0 d1)) = (0 : Int32)) => ?_)
                refine k_iconst (z := (1 : Int32)) at_290 rfl (by decide) ?_
                refine k_goto (pc' := 295) at_291 (by decide) (by decide) ?_
                exact k_retNar at_295 rfl (by simp) (z' := (1 : Int32)) (by decide) (by decide) (by decide) rfl
              · skip
                refine k_iconst (z := (1 : Int32)) at_271 rfl (by decide) ?_
                refine k_goto (pc' := 276) at_272 (by decide) (by decide) ?_
                refine k_istore (Ls' := #[.val (.int x), .val (.int y), .val (.int flags), .val (.int n1), .val (.int n2), .val (.int fA), .val (.int fB), .val (.int cpy), .val (.int sf), .val (.int c0), .val (.int c1), .val (.int d0), .val (.int d1), .val (.ref a1), .val (.ref a29), .val (.ref a63), .val (.ref a85), .val (.int (eqI (tx n1 c0 c1) (tx n2 d0 d1))), .val (.int (1 : Int32))]) at_276 rfl rfl ?_
                refine k_aload at_278 rfl rfl rfl ?_
                refine k_aload at_280 rfl rfl rfl ?_
                have f153 := (((((f54.keep K62 (allS ge38 all0)).ext E65).keep K82 (allS ge75 all0)).ext E87).keep K108 (allS ge100 all0))
                have f154 := ((F83.ext E87).keep K108 (ninS ne98 nin0))
                have f155 := ((F84.ext E87).keep K108 (ninS ne98 nin0))
                have f156 := (f104.keep K108 (ninS ne94 nin0) (ninS ne95 nin0))
                have f157 := (f105.keep K108 (ninS ne96 nin0) (ninS ne97 nin0))
                have f158 := (f106.keep K108)
                refine k_callVirtual (argsL := [(.ref a85)]) (rest := []) (W0 := 0) at_282 rfl (mt_ag l Z a0 hw cs hcs SC hEW a63 a85 a1 a29 t26 t60 fA fB (tx n1 c0 c1) (tx n2 d0 d1) h107 n0 f153 f154 f155 F109 F110 f156 f157) (Kp.pure (fun _ _ q => q.2.symm)) f158 (hw _ (List.mem_of_getElem? (i := 53) rfl)) (hw _ (List.mem_of_getElem? (i := 54) rfl)) (hw _ (List.mem_of_getElem? (i := 56) rfl)) (hw _ (List.mem_of_getElem? (i := 56) rfl)) (hw _ (List.mem_of_getElem? (i := 55) rfl)) (hw _ (List.mem_of_getElem? (i := 57) rfl)) (hw _ (List.mem_of_getElem? (i := 39) rfl)) (by decide) pd_ag rfl rfl rfl rfl (by decide) (by decide) (by decide) (by decide) ?_
                rintro _ _ - ⟨rfl, rfl⟩
                refine KW.sub (S' := fun _ => False) (fun x hx => hx.elim) ?_
                show KW true l Z M_law n0 (fun v _ => v = some (.int 1)) (EL, fun _ => False) h107 14 32 285 #[.val (.int x), .val (.int y), .val (.int flags), .val (.int n1), .val (.int n2), .val (.int fA), .val (.int fB), .val (.int cpy), .val (.int sf), .val (.int c0), .val (.int c1), .val (.int d0), .val (.int d1), .val (.ref a1), .val (.ref a29), .val (.ref a63), .val (.ref a85), .val (.int (eqI (tx n1 c0 c1) (tx n2 d0 d1))), .val (.int (1 : Int32))] [(.int (agI fA fB (tx n1 c0 c1) (tx n2 d0 d1)))]
                refine k_iload at_285 rfl rfl ?_
                refine k_icmp (pc1 := 294) (pc' := 290) at_287 (by decide) (by decide) rfl (fun (cd18 : ¬ (agI fA fB (tx n1 c0 c1) (tx n2 d0 d1)) = (1 : Int32)) => absurd (by first | exact agI_a (by assumption) | exact agI_b (by assumption) (by assumption) | exact (agI_c (by assumption) (by assumption)).trans (by first | assumption | exact eqI_one (by assumption))) cd18) (fun (cd18 : (agI fA fB (tx n1 c0 c1) (tx n2 d0 d1)) = (1 : Int32)) => ?_)
                refine k_iconst (z := (1 : Int32)) at_290 rfl (by decide) ?_
                refine k_goto (pc' := 295) at_291 (by decide) (by decide) ?_
                exact k_retNar at_295 rfl (by simp) (z' := (1 : Int32)) (by decide) (by decide) (by decide) rfl
        · skip
          refine k_iload at_242 rfl rfl ?_
          refine k_iload at_244 rfl rfl ?_
          refine k_icmp (pc1 := 253) (pc' := 249) at_246 (by decide) (by decide) rfl (fun (cd19 : ¬ c1 = d1) => ?_) (fun (cd19 : c1 = d1) => ?_)
          · skip
            refine k_iconst (z := (0 : Int32)) at_253 rfl (by decide) ?_
            have ee : eqI (tx n1 c0 c1) (tx n2 d0 d1) = (0 : Int32) := by
              first | exact own_s0 hn1 hn2 (by assumption) | exact own_s0a hn1 (by assumption) hc0 hd0 (by assumption) (by assumption) | exact own_s0b hn1 (by assumption) hc1 hd1 (by assumption) (by assumption)
            refine KW.top (congrArg Value.int ee.symm) ?_
            show KW true l Z M_law n0 (fun v _ => v = some (.int 1)) (EL, fun _ => False) h107 14 32 254 #[.val (.int x), .val (.int y), .val (.int flags), .val (.int n1), .val (.int n2), .val (.int fA), .val (.int fB), .val (.int cpy), .val (.int sf), .val (.int c0), .val (.int c1), .val (.int d0), .val (.int d1), .val (.ref a1), .val (.ref a29), .val (.ref a63), .val (.ref a85), .unset, .unset] [(.int (eqI (tx n1 c0 c1) (tx n2 d0 d1)))]
            refine k_istore (Ls' := #[.val (.int x), .val (.int y), .val (.int flags), .val (.int n1), .val (.int n2), .val (.int fA), .val (.int fB), .val (.int cpy), .val (.int sf), .val (.int c0), .val (.int c1), .val (.int d0), .val (.int d1), .val (.ref a1), .val (.ref a29), .val (.ref a63), .val (.ref a85), .val (.int (eqI (tx n1 c0 c1) (tx n2 d0 d1))), .unset]) at_254 rfl rfl ?_
            refine k_iload at_256 rfl rfl ?_
            refine k_ifc (pc1 := 275) (pc' := 261) at_258 (by decide) (by decide) rfl (fun (cd20 : fA = (0 : Int32)) => ?_) (fun (cd20 : ¬ fA = (0 : Int32)) => ?_)
            · skip
              refine k_iconst (z := (0 : Int32)) at_275 rfl (by decide) ?_
              refine k_istore (Ls' := #[.val (.int x), .val (.int y), .val (.int flags), .val (.int n1), .val (.int n2), .val (.int fA), .val (.int fB), .val (.int cpy), .val (.int sf), .val (.int c0), .val (.int c1), .val (.int d0), .val (.int d1), .val (.ref a1), .val (.ref a29), .val (.ref a63), .val (.ref a85), .val (.int (eqI (tx n1 c0 c1) (tx n2 d0 d1))), .val (.int (0 : Int32))]) at_276 rfl rfl ?_
              refine k_aload at_278 rfl rfl rfl ?_
              refine k_aload at_280 rfl rfl rfl ?_
              have f159 := (((((f54.keep K62 (allS ge38 all0)).ext E65).keep K82 (allS ge75 all0)).ext E87).keep K108 (allS ge100 all0))
              have f160 := ((F83.ext E87).keep K108 (ninS ne98 nin0))
              have f161 := ((F84.ext E87).keep K108 (ninS ne98 nin0))
              have f162 := (f104.keep K108 (ninS ne94 nin0) (ninS ne95 nin0))
              have f163 := (f105.keep K108 (ninS ne96 nin0) (ninS ne97 nin0))
              have f164 := (f106.keep K108)
              refine k_callVirtual (argsL := [(.ref a85)]) (rest := []) (W0 := 0) at_282 rfl (mt_ag l Z a0 hw cs hcs SC hEW a63 a85 a1 a29 t26 t60 fA fB (tx n1 c0 c1) (tx n2 d0 d1) h107 n0 f159 f160 f161 F109 F110 f162 f163) (Kp.pure (fun _ _ q => q.2.symm)) f164 (hw _ (List.mem_of_getElem? (i := 53) rfl)) (hw _ (List.mem_of_getElem? (i := 54) rfl)) (hw _ (List.mem_of_getElem? (i := 56) rfl)) (hw _ (List.mem_of_getElem? (i := 56) rfl)) (hw _ (List.mem_of_getElem? (i := 55) rfl)) (hw _ (List.mem_of_getElem? (i := 57) rfl)) (hw _ (List.mem_of_getElem? (i := 39) rfl)) (by decide) pd_ag rfl rfl rfl rfl (by decide) (by decide) (by decide) (by decide) ?_
              rintro _ _ - ⟨rfl, rfl⟩
              refine KW.sub (S' := fun _ => False) (fun x hx => hx.elim) ?_
              show KW true l Z M_law n0 (fun v _ => v = some (.int 1)) (EL, fun _ => False) h107 14 32 285 #[.val (.int x), .val (.int y), .val (.int flags), .val (.int n1), .val (.int n2), .val (.int fA), .val (.int fB), .val (.int cpy), .val (.int sf), .val (.int c0), .val (.int c1), .val (.int d0), .val (.int d1), .val (.ref a1), .val (.ref a29), .val (.ref a63), .val (.ref a85), .val (.int (eqI (tx n1 c0 c1) (tx n2 d0 d1))), .val (.int (0 : Int32))] [(.int (agI fA fB (tx n1 c0 c1) (tx n2 d0 d1)))]
              refine k_iload at_285 rfl rfl ?_
              refine k_icmp (pc1 := 294) (pc' := 290) at_287 (by decide) (by decide) rfl (fun (cd21 : ¬ (agI fA fB (tx n1 c0 c1) (tx n2 d0 d1)) = (0 : Int32)) => absurd (by first | exact agI_a (by assumption) | exact agI_b (by assumption) (by assumption) | exact (agI_c (by assumption) (by assumption)).trans (by first | assumption | exact eqI_one (by assumption))) cd21) (fun (cd21 : (agI fA fB (tx n1 c0 c1) (tx n2 d0 d1)) = (0 : Int32)) => ?_)
              refine k_iconst (z := (1 : Int32)) at_290 rfl (by decide) ?_
              refine k_goto (pc' := 295) at_291 (by decide) (by decide) ?_
              exact k_retNar at_295 rfl (by simp) (z' := (1 : Int32)) (by decide) (by decide) (by decide) rfl
            · skip
              refine k_iload at_261 rfl rfl ?_
              refine k_ifc (pc1 := 275) (pc' := 266) at_263 (by decide) (by decide) rfl (fun (cd22 : fB = (0 : Int32)) => ?_) (fun (cd22 : ¬ fB = (0 : Int32)) => ?_)
              · skip
                refine k_iconst (z := (0 : Int32)) at_275 rfl (by decide) ?_
                refine k_istore (Ls' := #[.val (.int x), .val (.int y), .val (.int flags), .val (.int n1), .val (.int n2), .val (.int fA), .val (.int fB), .val (.int cpy), .val (.int sf), .val (.int c0), .val (.int c1), .val (.int d0), .val (.int d1), .val (.ref a1), .val (.ref a29), .val (.ref a63), .val (.ref a85), .val (.int (eqI (tx n1 c0 c1) (tx n2 d0 d1))), .val (.int (0 : Int32))]) at_276 rfl rfl ?_
                refine k_aload at_278 rfl rfl rfl ?_
                refine k_aload at_280 rfl rfl rfl ?_
                have f165 := (((((f54.keep K62 (allS ge38 all0)).ext E65).keep K82 (allS ge75 all0)).ext E87).keep K108 (allS ge100 all0))
                have f166 := ((F83.ext E87).keep K108 (ninS ne98 nin0))
                have f167 := ((F84.ext E87).keep K108 (ninS ne98 nin0))
                have f168 := (f104.keep K108 (ninS ne94 nin0) (ninS ne95 nin0))
                have f169 := (f105.keep K108 (ninS ne96 nin0) (ninS ne97 nin0))
                have f170 := (f106.keep K108)
                refine k_callVirtual (argsL := [(.ref a85)]) (rest := []) (W0 := 0) at_282 rfl (mt_ag l Z a0 hw cs hcs SC hEW a63 a85 a1 a29 t26 t60 fA fB (tx n1 c0 c1) (tx n2 d0 d1) h107 n0 f165 f166 f167 F109 F110 f168 f169) (Kp.pure (fun _ _ q => q.2.symm)) f170 (hw _ (List.mem_of_getElem? (i := 53) rfl)) (hw _ (List.mem_of_getElem? (i := 54) rfl)) (hw _ (List.mem_of_getElem? (i := 56) rfl)) (hw _ (List.mem_of_getElem? (i := 56) rfl)) (hw _ (List.mem_of_getElem? (i := 55) rfl)) (hw _ (List.mem_of_getElem? (i := 57) rfl)) (hw _ (List.mem_of_getElem? (i := 39) rfl)) (by decide) pd_ag rfl rfl rfl rfl (by decide) (by decide) (by decide) (by decide) ?_
                rintro _ _ - ⟨rfl, rfl⟩
                refine KW.sub (S' := fun _ => False) (fun x hx => hx.elim) ?_
                show KW true l Z M_law n0 (fun v _ => v = some (.int 1)) (EL, fun _ => False) h107 14 32 285 #[.val (.int x), .val (.int y), .val (.int flags), .val (.int n1), .val (.int n2), .val (.int fA), .val (.int fB), .val (.int cpy), .val (.int sf), .val (.int c0), .val (.int c1), .val (.int d0), .val (.int d1), .val (.ref a1), .val (.ref a29), .val (.ref a63), .val (.ref a85), .val (.int (eqI (tx n1 c0 c1) (tx n2 d0 d1))), .val (.int (0 : Int32))] [(.int (agI fA fB (tx n1 c0 c1) (tx n2 d0 d1)))]
                refine k_iload at_285 rfl rfl ?_
                refine k_icmp (pc1 := 294) (pc' := 290) at_287 (by decide) (by decide) rfl (fun (cd23 : ¬ (agI fA fB (tx n1 c0 c1) (tx n2 d0 d1)) = (0 : Int32)) => absurd (by first | exact agI_a (by assumption) | exact agI_b (by assumption) (by assumption) | exact (agI_c (by assumption) (by assumption)).trans (by first | assumption | exact eqI_one (by assumption))) cd23) (fun (cd23 : (agI fA fB (tx n1 c0 c1) (tx n2 d0 d1)) = (0 : Int32)) => ?_)
                refine k_iconst (z := (1 : Int32)) at_290 rfl (by decide) ?_
                refine k_goto (pc' := 295) at_291 (by decide) (by decide) ?_
                exact k_retNar at_295 rfl (by simp) (z' := (1 : Int32)) (by decide) (by decide) (by decide) rfl
              · skip
                refine k_iload at_266 rfl rfl ?_
                refine k_ifc (pc1 := 275) (pc' := 271) at_268 (by decide) (by decide) rfl (fun (cd24 : (eqI (tx n1 c0 c1) (tx n2 d0 d1)) = (0 : Int32)) => ?_) (fun (cd24 : ¬ (eqI (tx n1 c0 c1) (tx n2 d0 d1)) = (0 : Int32)) => ?_)
                · skip
                  refine k_iconst (z := (0 : Int32)) at_275 rfl (by decide) ?_
                  refine k_istore (Ls' := #[.val (.int x), .val (.int y), .val (.int flags), .val (.int n1), .val (.int n2), .val (.int fA), .val (.int fB), .val (.int cpy), .val (.int sf), .val (.int c0), .val (.int c1), .val (.int d0), .val (.int d1), .val (.ref a1), .val (.ref a29), .val (.ref a63), .val (.ref a85), .val (.int (eqI (tx n1 c0 c1) (tx n2 d0 d1))), .val (.int (0 : Int32))]) at_276 rfl rfl ?_
                  refine k_aload at_278 rfl rfl rfl ?_
                  refine k_aload at_280 rfl rfl rfl ?_
                  have f171 := (((((f54.keep K62 (allS ge38 all0)).ext E65).keep K82 (allS ge75 all0)).ext E87).keep K108 (allS ge100 all0))
                  have f172 := ((F83.ext E87).keep K108 (ninS ne98 nin0))
                  have f173 := ((F84.ext E87).keep K108 (ninS ne98 nin0))
                  have f174 := (f104.keep K108 (ninS ne94 nin0) (ninS ne95 nin0))
                  have f175 := (f105.keep K108 (ninS ne96 nin0) (ninS ne97 nin0))
                  have f176 := (f106.keep K108)
                  refine k_callVirtual (argsL := [(.ref a85)]) (rest := []) (W0 := 0) at_282 rfl (mt_ag l Z a0 hw cs hcs SC hEW a63 a85 a1 a29 t26 t60 fA fB (tx n1 c0 c1) (tx n2 d0 d1) h107 n0 f171 f172 f173 F109 F110 f174 f175) (Kp.pure (fun _ _ q => q.2.symm)) f176 (hw _ (List.mem_of_getElem? (i := 53) rfl)) (hw _ (List.mem_of_getElem? (i := 54) rfl)) (hw _ (List.mem_of_getElem? (i := 56) rfl)) (hw _ (List.mem_of_getElem? (i := 56) rfl)) (hw _ (List.mem_of_getElem? (i := 55) rfl)) (hw _ (List.mem_of_getElem? (i := 57) rfl)) (hw _ (List.mem_of_getElem? (i := 39) rfl)) (by decide) pd_ag rfl rfl rfl rfl (by decide) (by decide) (by decide) (by decide) ?_
                  rintro _ _ - ⟨rfl, rfl⟩
                  refine KW.sub (S' := fun _ => False) (fun x hx => hx.elim) ?_
                  show KW true l Z M_law n0 (fun v _ => v = some (.int 1)) (EL, fun _ => False) h107 14 32 285 #[.val (.int x), .val (.int y), .val (.int flags), .val (.int n1), .val (.int n2), .val (.int fA), .val (.int fB), .val (.int cpy), .val (.int sf), .val (.int c0), .val (.int c1), .val (.int d0), .val (.int d1), .val (.ref a1), .val (.ref a29), .val (.ref a63), .val (.ref a85), .val (.int (eqI (tx n1 c0 c1) (tx n2 d0 d1))), .val (.int (0 : Int32))] [(.int (agI fA fB (tx n1 c0 c1) (tx n2 d0 d1)))]
                  refine k_iload at_285 rfl rfl ?_
                  refine k_icmp (pc1 := 294) (pc' := 290) at_287 (by decide) (by decide) rfl (fun (cd25 : ¬ (agI fA fB (tx n1 c0 c1) (tx n2 d0 d1)) = (0 : Int32)) => absurd (by first | exact agI_a (by assumption) | exact agI_b (by assumption) (by assumption) | exact (agI_c (by assumption) (by assumption)).trans (by first | assumption | exact eqI_one (by assumption))) cd25) (fun (cd25 : (agI fA fB (tx n1 c0 c1) (tx n2 d0 d1)) = (0 : Int32)) => ?_)
                  refine k_iconst (z := (1 : Int32)) at_290 rfl (by decide) ?_
                  refine k_goto (pc' := 295) at_291 (by decide) (by decide) ?_
                  exact k_retNar at_295 rfl (by simp) (z' := (1 : Int32)) (by decide) (by decide) (by decide) rfl
                · skip
                  refine k_iconst (z := (1 : Int32)) at_271 rfl (by decide) ?_
                  refine k_goto (pc' := 276) at_272 (by decide) (by decide) ?_
                  refine k_istore (Ls' := #[.val (.int x), .val (.int y), .val (.int flags), .val (.int n1), .val (.int n2), .val (.int fA), .val (.int fB), .val (.int cpy), .val (.int sf), .val (.int c0), .val (.int c1), .val (.int d0), .val (.int d1), .val (.ref a1), .val (.ref a29), .val (.ref a63), .val (.ref a85), .val (.int (eqI (tx n1 c0 c1) (tx n2 d0 d1))), .val (.int (1 : Int32))]) at_276 rfl rfl ?_
                  refine k_aload at_278 rfl rfl rfl ?_
                  refine k_aload at_280 rfl rfl rfl ?_
                  have f177 := (((((f54.keep K62 (allS ge38 all0)).ext E65).keep K82 (allS ge75 all0)).ext E87).keep K108 (allS ge100 all0))
                  have f178 := ((F83.ext E87).keep K108 (ninS ne98 nin0))
                  have f179 := ((F84.ext E87).keep K108 (ninS ne98 nin0))
                  have f180 := (f104.keep K108 (ninS ne94 nin0) (ninS ne95 nin0))
                  have f181 := (f105.keep K108 (ninS ne96 nin0) (ninS ne97 nin0))
                  have f182 := (f106.keep K108)
                  refine k_callVirtual (argsL := [(.ref a85)]) (rest := []) (W0 := 0) at_282 rfl (mt_ag l Z a0 hw cs hcs SC hEW a63 a85 a1 a29 t26 t60 fA fB (tx n1 c0 c1) (tx n2 d0 d1) h107 n0 f177 f178 f179 F109 F110 f180 f181) (Kp.pure (fun _ _ q => q.2.symm)) f182 (hw _ (List.mem_of_getElem? (i := 53) rfl)) (hw _ (List.mem_of_getElem? (i := 54) rfl)) (hw _ (List.mem_of_getElem? (i := 56) rfl)) (hw _ (List.mem_of_getElem? (i := 56) rfl)) (hw _ (List.mem_of_getElem? (i := 55) rfl)) (hw _ (List.mem_of_getElem? (i := 57) rfl)) (hw _ (List.mem_of_getElem? (i := 39) rfl)) (by decide) pd_ag rfl rfl rfl rfl (by decide) (by decide) (by decide) (by decide) ?_
                  rintro _ _ - ⟨rfl, rfl⟩
                  refine KW.sub (S' := fun _ => False) (fun x hx => hx.elim) ?_
                  show KW true l Z M_law n0 (fun v _ => v = some (.int 1)) (EL, fun _ => False) h107 14 32 285 #[.val (.int x), .val (.int y), .val (.int flags), .val (.int n1), .val (.int n2), .val (.int fA), .val (.int fB), .val (.int cpy), .val (.int sf), .val (.int c0), .val (.int c1), .val (.int d0), .val (.int d1), .val (.ref a1), .val (.ref a29), .val (.ref a63), .val (.ref a85), .val (.int (eqI (tx n1 c0 c1) (tx n2 d0 d1))), .val (.int (1 : Int32))] [(.int (agI fA fB (tx n1 c0 c1) (tx n2 d0 d1)))]
                  refine k_iload at_285 rfl rfl ?_
                  refine k_icmp (pc1 := 294) (pc' := 290) at_287 (by decide) (by decide) rfl (fun (cd26 : ¬ (agI fA fB (tx n1 c0 c1) (tx n2 d0 d1)) = (1 : Int32)) => absurd (by first | exact agI_a (by assumption) | exact agI_b (by assumption) (by assumption) | exact (agI_c (by assumption) (by assumption)).trans (by first | assumption | exact eqI_one (by assumption))) cd26) (fun (cd26 : (agI fA fB (tx n1 c0 c1) (tx n2 d0 d1)) = (1 : Int32)) => ?_)
                  refine k_iconst (z := (1 : Int32)) at_290 rfl (by decide) ?_
                  refine k_goto (pc' := 295) at_291 (by decide) (by decide) ?_
                  exact k_retNar at_295 rfl (by simp) (z' := (1 : Int32)) (by decide) (by decide) (by decide) rfl
          · skip
            refine k_iconst (z := (1 : Int32)) at_249 rfl (by decide) ?_
            refine k_goto (pc' := 254) at_250 (by decide) (by decide) ?_
            have ee : eqI (tx n1 c0 c1) (tx n2 d0 d1) = (1 : Int32) := by
              exact own_s1 hn1 (by assumption) (by first | exact Or.inl (by assumption) | exact Or.inr (by assumption)) (by first | exact Or.inl (by assumption) | exact Or.inr (by assumption))
            refine KW.top (congrArg Value.int ee.symm) ?_
            show KW true l Z M_law n0 (fun v _ => v = some (.int 1)) (EL, fun _ => False) h107 14 32 254 #[.val (.int x), .val (.int y), .val (.int flags), .val (.int n1), .val (.int n2), .val (.int fA), .val (.int fB), .val (.int cpy), .val (.int sf), .val (.int c0), .val (.int c1), .val (.int d0), .val (.int d1), .val (.ref a1), .val (.ref a29), .val (.ref a63), .val (.ref a85), .unset, .unset] [(.int (eqI (tx n1 c0 c1) (tx n2 d0 d1)))]
            refine k_istore (Ls' := #[.val (.int x), .val (.int y), .val (.int flags), .val (.int n1), .val (.int n2), .val (.int fA), .val (.int fB), .val (.int cpy), .val (.int sf), .val (.int c0), .val (.int c1), .val (.int d0), .val (.int d1), .val (.ref a1), .val (.ref a29), .val (.ref a63), .val (.ref a85), .val (.int (eqI (tx n1 c0 c1) (tx n2 d0 d1))), .unset]) at_254 rfl rfl ?_
            refine k_iload at_256 rfl rfl ?_
            refine k_ifc (pc1 := 275) (pc' := 261) at_258 (by decide) (by decide) rfl (fun (cd27 : fA = (0 : Int32)) => ?_) (fun (cd27 : ¬ fA = (0 : Int32)) => ?_)
            · skip
              refine k_iconst (z := (0 : Int32)) at_275 rfl (by decide) ?_
              refine k_istore (Ls' := #[.val (.int x), .val (.int y), .val (.int flags), .val (.int n1), .val (.int n2), .val (.int fA), .val (.int fB), .val (.int cpy), .val (.int sf), .val (.int c0), .val (.int c1), .val (.int d0), .val (.int d1), .val (.ref a1), .val (.ref a29), .val (.ref a63), .val (.ref a85), .val (.int (eqI (tx n1 c0 c1) (tx n2 d0 d1))), .val (.int (0 : Int32))]) at_276 rfl rfl ?_
              refine k_aload at_278 rfl rfl rfl ?_
              refine k_aload at_280 rfl rfl rfl ?_
              have f183 := (((((f54.keep K62 (allS ge38 all0)).ext E65).keep K82 (allS ge75 all0)).ext E87).keep K108 (allS ge100 all0))
              have f184 := ((F83.ext E87).keep K108 (ninS ne98 nin0))
              have f185 := ((F84.ext E87).keep K108 (ninS ne98 nin0))
              have f186 := (f104.keep K108 (ninS ne94 nin0) (ninS ne95 nin0))
              have f187 := (f105.keep K108 (ninS ne96 nin0) (ninS ne97 nin0))
              have f188 := (f106.keep K108)
              refine k_callVirtual (argsL := [(.ref a85)]) (rest := []) (W0 := 0) at_282 rfl (mt_ag l Z a0 hw cs hcs SC hEW a63 a85 a1 a29 t26 t60 fA fB (tx n1 c0 c1) (tx n2 d0 d1) h107 n0 f183 f184 f185 F109 F110 f186 f187) (Kp.pure (fun _ _ q => q.2.symm)) f188 (hw _ (List.mem_of_getElem? (i := 53) rfl)) (hw _ (List.mem_of_getElem? (i := 54) rfl)) (hw _ (List.mem_of_getElem? (i := 56) rfl)) (hw _ (List.mem_of_getElem? (i := 56) rfl)) (hw _ (List.mem_of_getElem? (i := 55) rfl)) (hw _ (List.mem_of_getElem? (i := 57) rfl)) (hw _ (List.mem_of_getElem? (i := 39) rfl)) (by decide) pd_ag rfl rfl rfl rfl (by decide) (by decide) (by decide) (by decide) ?_
              rintro _ _ - ⟨rfl, rfl⟩
              refine KW.sub (S' := fun _ => False) (fun x hx => hx.elim) ?_
              show KW true l Z M_law n0 (fun v _ => v = some (.int 1)) (EL, fun _ => False) h107 14 32 285 #[.val (.int x), .val (.int y), .val (.int flags), .val (.int n1), .val (.int n2), .val (.int fA), .val (.int fB), .val (.int cpy), .val (.int sf), .val (.int c0), .val (.int c1), .val (.int d0), .val (.int d1), .val (.ref a1), .val (.ref a29), .val (.ref a63), .val (.ref a85), .val (.int (eqI (tx n1 c0 c1) (tx n2 d0 d1))), .val (.int (0 : Int32))] [(.int (agI fA fB (tx n1 c0 c1) (tx n2 d0 d1)))]
              refine k_iload at_285 rfl rfl ?_
              refine k_icmp (pc1 := 294) (pc' := 290) at_287 (by decide) (by decide) rfl (fun (cd28 : ¬ (agI fA fB (tx n1 c0 c1) (tx n2 d0 d1)) = (0 : Int32)) => absurd (by first | exact agI_a (by assumption) | exact agI_b (by assumption) (by assumption) | exact (agI_c (by assumption) (by assumption)).trans (by first | assumption | exact eqI_one (by assumption))) cd28) (fun (cd28 : (agI fA fB (tx n1 c0 c1) (tx n2 d0 d1)) = (0 : Int32)) => ?_)
              refine k_iconst (z := (1 : Int32)) at_290 rfl (by decide) ?_
              refine k_goto (pc' := 295) at_291 (by decide) (by decide) ?_
              exact k_retNar at_295 rfl (by simp) (z' := (1 : Int32)) (by decide) (by decide) (by decide) rfl
            · skip
              refine k_iload at_261 rfl rfl ?_
              refine k_ifc (pc1 := 275) (pc' := 266) at_263 (by decide) (by decide) rfl (fun (cd29 : fB = (0 : Int32)) => ?_) (fun (cd29 : ¬ fB = (0 : Int32)) => ?_)
              · skip
                refine k_iconst (z := (0 : Int32)) at_275 rfl (by decide) ?_
                refine k_istore (Ls' := #[.val (.int x), .val (.int y), .val (.int flags), .val (.int n1), .val (.int n2), .val (.int fA), .val (.int fB), .val (.int cpy), .val (.int sf), .val (.int c0), .val (.int c1), .val (.int d0), .val (.int d1), .val (.ref a1), .val (.ref a29), .val (.ref a63), .val (.ref a85), .val (.int (eqI (tx n1 c0 c1) (tx n2 d0 d1))), .val (.int (0 : Int32))]) at_276 rfl rfl ?_
                refine k_aload at_278 rfl rfl rfl ?_
                refine k_aload at_280 rfl rfl rfl ?_
                have f189 := (((((f54.keep K62 (allS ge38 all0)).ext E65).keep K82 (allS ge75 all0)).ext E87).keep K108 (allS ge100 all0))
                have f190 := ((F83.ext E87).keep K108 (ninS ne98 nin0))
                have f191 := ((F84.ext E87).keep K108 (ninS ne98 nin0))
                have f192 := (f104.keep K108 (ninS ne94 nin0) (ninS ne95 nin0))
                have f193 := (f105.keep K108 (ninS ne96 nin0) (ninS ne97 nin0))
                have f194 := (f106.keep K108)
                refine k_callVirtual (argsL := [(.ref a85)]) (rest := []) (W0 := 0) at_282 rfl (mt_ag l Z a0 hw cs hcs SC hEW a63 a85 a1 a29 t26 t60 fA fB (tx n1 c0 c1) (tx n2 d0 d1) h107 n0 f189 f190 f191 F109 F110 f192 f193) (Kp.pure (fun _ _ q => q.2.symm)) f194 (hw _ (List.mem_of_getElem? (i := 53) rfl)) (hw _ (List.mem_of_getElem? (i := 54) rfl)) (hw _ (List.mem_of_getElem? (i := 56) rfl)) (hw _ (List.mem_of_getElem? (i := 56) rfl)) (hw _ (List.mem_of_getElem? (i := 55) rfl)) (hw _ (List.mem_of_getElem? (i := 57) rfl)) (hw _ (List.mem_of_getElem? (i := 39) rfl)) (by decide) pd_ag rfl rfl rfl rfl (by decide) (by decide) (by decide) (by decide) ?_
                rintro _ _ - ⟨rfl, rfl⟩
                refine KW.sub (S' := fun _ => False) (fun x hx => hx.elim) ?_
                show KW true l Z M_law n0 (fun v _ => v = some (.int 1)) (EL, fun _ => False) h107 14 32 285 #[.val (.int x), .val (.int y), .val (.int flags), .val (.int n1), .val (.int n2), .val (.int fA), .val (.int fB), .val (.int cpy), .val (.int sf), .val (.int c0), .val (.int c1), .val (.int d0), .val (.int d1), .val (.ref a1), .val (.ref a29), .val (.ref a63), .val (.ref a85), .val (.int (eqI (tx n1 c0 c1) (tx n2 d0 d1))), .val (.int (0 : Int32))] [(.int (agI fA fB (tx n1 c0 c1) (tx n2 d0 d1)))]
                refine k_iload at_285 rfl rfl ?_
                refine k_icmp (pc1 := 294) (pc' := 290) at_287 (by decide) (by decide) rfl (fun (cd30 : ¬ (agI fA fB (tx n1 c0 c1) (tx n2 d0 d1)) = (0 : Int32)) => absurd (by first | exact agI_a (by assumption) | exact agI_b (by assumption) (by assumption) | exact (agI_c (by assumption) (by assumption)).trans (by first | assumption | exact eqI_one (by assumption))) cd30) (fun (cd30 : (agI fA fB (tx n1 c0 c1) (tx n2 d0 d1)) = (0 : Int32)) => ?_)
                refine k_iconst (z := (1 : Int32)) at_290 rfl (by decide) ?_
                refine k_goto (pc' := 295) at_291 (by decide) (by decide) ?_
                exact k_retNar at_295 rfl (by simp) (z' := (1 : Int32)) (by decide) (by decide) (by decide) rfl
              · skip
                refine k_iload at_266 rfl rfl ?_
                refine k_ifc (pc1 := 275) (pc' := 271) at_268 (by decide) (by decide) rfl (fun (cd31 : (eqI (tx n1 c0 c1) (tx n2 d0 d1)) = (0 : Int32)) => ?_) (fun (cd31 : ¬ (eqI (tx n1 c0 c1) (tx n2 d0 d1)) = (0 : Int32)) => ?_)
                · skip
                  refine k_iconst (z := (0 : Int32)) at_275 rfl (by decide) ?_
                  refine k_istore (Ls' := #[.val (.int x), .val (.int y), .val (.int flags), .val (.int n1), .val (.int n2), .val (.int fA), .val (.int fB), .val (.int cpy), .val (.int sf), .val (.int c0), .val (.int c1), .val (.int d0), .val (.int d1), .val (.ref a1), .val (.ref a29), .val (.ref a63), .val (.ref a85), .val (.int (eqI (tx n1 c0 c1) (tx n2 d0 d1))), .val (.int (0 : Int32))]) at_276 rfl rfl ?_
                  refine k_aload at_278 rfl rfl rfl ?_
                  refine k_aload at_280 rfl rfl rfl ?_
                  have f195 := (((((f54.keep K62 (allS ge38 all0)).ext E65).keep K82 (allS ge75 all0)).ext E87).keep K108 (allS ge100 all0))
                  have f196 := ((F83.ext E87).keep K108 (ninS ne98 nin0))
                  have f197 := ((F84.ext E87).keep K108 (ninS ne98 nin0))
                  have f198 := (f104.keep K108 (ninS ne94 nin0) (ninS ne95 nin0))
                  have f199 := (f105.keep K108 (ninS ne96 nin0) (ninS ne97 nin0))
                  have f200 := (f106.keep K108)
                  refine k_callVirtual (argsL := [(.ref a85)]) (rest := []) (W0 := 0) at_282 rfl (mt_ag l Z a0 hw cs hcs SC hEW a63 a85 a1 a29 t26 t60 fA fB (tx n1 c0 c1) (tx n2 d0 d1) h107 n0 f195 f196 f197 F109 F110 f198 f199) (Kp.pure (fun _ _ q => q.2.symm)) f200 (hw _ (List.mem_of_getElem? (i := 53) rfl)) (hw _ (List.mem_of_getElem? (i := 54) rfl)) (hw _ (List.mem_of_getElem? (i := 56) rfl)) (hw _ (List.mem_of_getElem? (i := 56) rfl)) (hw _ (List.mem_of_getElem? (i := 55) rfl)) (hw _ (List.mem_of_getElem? (i := 57) rfl)) (hw _ (List.mem_of_getElem? (i := 39) rfl)) (by decide) pd_ag rfl rfl rfl rfl (by decide) (by decide) (by decide) (by decide) ?_
                  rintro _ _ - ⟨rfl, rfl⟩
                  refine KW.sub (S' := fun _ => False) (fun x hx => hx.elim) ?_
                  show KW true l Z M_law n0 (fun v _ => v = some (.int 1)) (EL, fun _ => False) h107 14 32 285 #[.val (.int x), .val (.int y), .val (.int flags), .val (.int n1), .val (.int n2), .val (.int fA), .val (.int fB), .val (.int cpy), .val (.int sf), .val (.int c0), .val (.int c1), .val (.int d0), .val (.int d1), .val (.ref a1), .val (.ref a29), .val (.ref a63), .val (.ref a85), .val (.int (eqI (tx n1 c0 c1) (tx n2 d0 d1))), .val (.int (0 : Int32))] [(.int (agI fA fB (tx n1 c0 c1) (tx n2 d0 d1)))]
                  refine k_iload at_285 rfl rfl ?_
                  refine k_icmp (pc1 := 294) (pc' := 290) at_287 (by decide) (by decide) rfl (fun (cd32 : ¬ (agI fA fB (tx n1 c0 c1) (tx n2 d0 d1)) = (0 : Int32)) => absurd (by first | exact agI_a (by assumption) | exact agI_b (by assumption) (by assumption) | exact (agI_c (by assumption) (by assumption)).trans (by first | assumption | exact eqI_one (by assumption))) cd32) (fun (cd32 : (agI fA fB (tx n1 c0 c1) (tx n2 d0 d1)) = (0 : Int32)) => ?_)
                  refine k_iconst (z := (1 : Int32)) at_290 rfl (by decide) ?_
                  refine k_goto (pc' := 295) at_291 (by decide) (by decide) ?_
                  exact k_retNar at_295 rfl (by simp) (z' := (1 : Int32)) (by decide) (by decide) (by decide) rfl
                · skip
                  refine k_iconst (z := (1 : Int32)) at_271 rfl (by decide) ?_
                  refine k_goto (pc' := 276) at_272 (by decide) (by decide) ?_
                  refine k_istore (Ls' := #[.val (.int x), .val (.int y), .val (.int flags), .val (.int n1), .val (.int n2), .val (.int fA), .val (.int fB), .val (.int cpy), .val (.int sf), .val (.int c0), .val (.int c1), .val (.int d0), .val (.int d1), .val (.ref a1), .val (.ref a29), .val (.ref a63), .val (.ref a85), .val (.int (eqI (tx n1 c0 c1) (tx n2 d0 d1))), .val (.int (1 : Int32))]) at_276 rfl rfl ?_
                  refine k_aload at_278 rfl rfl rfl ?_
                  refine k_aload at_280 rfl rfl rfl ?_
                  have f201 := (((((f54.keep K62 (allS ge38 all0)).ext E65).keep K82 (allS ge75 all0)).ext E87).keep K108 (allS ge100 all0))
                  have f202 := ((F83.ext E87).keep K108 (ninS ne98 nin0))
                  have f203 := ((F84.ext E87).keep K108 (ninS ne98 nin0))
                  have f204 := (f104.keep K108 (ninS ne94 nin0) (ninS ne95 nin0))
                  have f205 := (f105.keep K108 (ninS ne96 nin0) (ninS ne97 nin0))
                  have f206 := (f106.keep K108)
                  refine k_callVirtual (argsL := [(.ref a85)]) (rest := []) (W0 := 0) at_282 rfl (mt_ag l Z a0 hw cs hcs SC hEW a63 a85 a1 a29 t26 t60 fA fB (tx n1 c0 c1) (tx n2 d0 d1) h107 n0 f201 f202 f203 F109 F110 f204 f205) (Kp.pure (fun _ _ q => q.2.symm)) f206 (hw _ (List.mem_of_getElem? (i := 53) rfl)) (hw _ (List.mem_of_getElem? (i := 54) rfl)) (hw _ (List.mem_of_getElem? (i := 56) rfl)) (hw _ (List.mem_of_getElem? (i := 56) rfl)) (hw _ (List.mem_of_getElem? (i := 55) rfl)) (hw _ (List.mem_of_getElem? (i := 57) rfl)) (hw _ (List.mem_of_getElem? (i := 39) rfl)) (by decide) pd_ag rfl rfl rfl rfl (by decide) (by decide) (by decide) (by decide) ?_
                  rintro _ _ - ⟨rfl, rfl⟩
                  refine KW.sub (S' := fun _ => False) (fun x hx => hx.elim) ?_
                  show KW true l Z M_law n0 (fun v _ => v = some (.int 1)) (EL, fun _ => False) h107 14 32 285 #[.val (.int x), .val (.int y), .val (.int flags), .val (.int n1), .val (.int n2), .val (.int fA), .val (.int fB), .val (.int cpy), .val (.int sf), .val (.int c0), .val (.int c1), .val (.int d0), .val (.int d1), .val (.ref a1), .val (.ref a29), .val (.ref a63), .val (.ref a85), .val (.int (eqI (tx n1 c0 c1) (tx n2 d0 d1))), .val (.int (1 : Int32))] [(.int (agI fA fB (tx n1 c0 c1) (tx n2 d0 d1)))]
                  refine k_iload at_285 rfl rfl ?_
                  refine k_icmp (pc1 := 294) (pc' := 290) at_287 (by decide) (by decide) rfl (fun (cd33 : ¬ (agI fA fB (tx n1 c0 c1) (tx n2 d0 d1)) = (1 : Int32)) => absurd (by first | exact agI_a (by assumption) | exact agI_b (by assumption) (by assumption) | exact (agI_c (by assumption) (by assumption)).trans (by first | assumption | exact eqI_one (by assumption))) cd33) (fun (cd33 : (agI fA fB (tx n1 c0 c1) (tx n2 d0 d1)) = (1 : Int32)) => ?_)
                  refine k_iconst (z := (1 : Int32)) at_290 rfl (by decide) ?_
                  refine k_goto (pc' := 295) at_291 (by decide) (by decide) ?_
                  exact k_retNar at_295 rfl (by simp) (z' := (1 : Int32)) (by decide) (by decide) (by decide) rfl
      · skip
        refine k_iload at_230 rfl rfl ?_
        refine k_iload at_232 rfl rfl ?_
        refine k_icmp (pc1 := 253) (pc' := 237) at_234 (by decide) (by decide) rfl (fun (cd34 : ¬ c0 = d0) => ?_) (fun (cd34 : c0 = d0) => ?_)
        · skip
          refine k_iconst (z := (0 : Int32)) at_253 rfl (by decide) ?_
          have ee : eqI (tx n1 c0 c1) (tx n2 d0 d1) = (0 : Int32) := by
            first | exact own_s0 hn1 hn2 (by assumption) | exact own_s0a hn1 (by assumption) hc0 hd0 (by assumption) (by assumption) | exact own_s0b hn1 (by assumption) hc1 hd1 (by assumption) (by assumption)
          refine KW.top (congrArg Value.int ee.symm) ?_
          show KW true l Z M_law n0 (fun v _ => v = some (.int 1)) (EL, fun _ => False) h107 14 32 254 #[.val (.int x), .val (.int y), .val (.int flags), .val (.int n1), .val (.int n2), .val (.int fA), .val (.int fB), .val (.int cpy), .val (.int sf), .val (.int c0), .val (.int c1), .val (.int d0), .val (.int d1), .val (.ref a1), .val (.ref a29), .val (.ref a63), .val (.ref a85), .unset, .unset] [(.int (eqI (tx n1 c0 c1) (tx n2 d0 d1)))]
          refine k_istore (Ls' := #[.val (.int x), .val (.int y), .val (.int flags), .val (.int n1), .val (.int n2), .val (.int fA), .val (.int fB), .val (.int cpy), .val (.int sf), .val (.int c0), .val (.int c1), .val (.int d0), .val (.int d1), .val (.ref a1), .val (.ref a29), .val (.ref a63), .val (.ref a85), .val (.int (eqI (tx n1 c0 c1) (tx n2 d0 d1))), .unset]) at_254 rfl rfl ?_
          refine k_iload at_256 rfl rfl ?_
          refine k_ifc (pc1 := 275) (pc' := 261) at_258 (by decide) (by decide) rfl (fun (cd35 : fA = (0 : Int32)) => ?_) (fun (cd35 : ¬ fA = (0 : Int32)) => ?_)
          · skip
            refine k_iconst (z := (0 : Int32)) at_275 rfl (by decide) ?_
            refine k_istore (Ls' := #[.val (.int x), .val (.int y), .val (.int flags), .val (.int n1), .val (.int n2), .val (.int fA), .val (.int fB), .val (.int cpy), .val (.int sf), .val (.int c0), .val (.int c1), .val (.int d0), .val (.int d1), .val (.ref a1), .val (.ref a29), .val (.ref a63), .val (.ref a85), .val (.int (eqI (tx n1 c0 c1) (tx n2 d0 d1))), .val (.int (0 : Int32))]) at_276 rfl rfl ?_
            refine k_aload at_278 rfl rfl rfl ?_
            refine k_aload at_280 rfl rfl rfl ?_
            have f207 := (((((f54.keep K62 (allS ge38 all0)).ext E65).keep K82 (allS ge75 all0)).ext E87).keep K108 (allS ge100 all0))
            have f208 := ((F83.ext E87).keep K108 (ninS ne98 nin0))
            have f209 := ((F84.ext E87).keep K108 (ninS ne98 nin0))
            have f210 := (f104.keep K108 (ninS ne94 nin0) (ninS ne95 nin0))
            have f211 := (f105.keep K108 (ninS ne96 nin0) (ninS ne97 nin0))
            have f212 := (f106.keep K108)
            refine k_callVirtual (argsL := [(.ref a85)]) (rest := []) (W0 := 0) at_282 rfl (mt_ag l Z a0 hw cs hcs SC hEW a63 a85 a1 a29 t26 t60 fA fB (tx n1 c0 c1) (tx n2 d0 d1) h107 n0 f207 f208 f209 F109 F110 f210 f211) (Kp.pure (fun _ _ q => q.2.symm)) f212 (hw _ (List.mem_of_getElem? (i := 53) rfl)) (hw _ (List.mem_of_getElem? (i := 54) rfl)) (hw _ (List.mem_of_getElem? (i := 56) rfl)) (hw _ (List.mem_of_getElem? (i := 56) rfl)) (hw _ (List.mem_of_getElem? (i := 55) rfl)) (hw _ (List.mem_of_getElem? (i := 57) rfl)) (hw _ (List.mem_of_getElem? (i := 39) rfl)) (by decide) pd_ag rfl rfl rfl rfl (by decide) (by decide) (by decide) (by decide) ?_
            rintro _ _ - ⟨rfl, rfl⟩
            refine KW.sub (S' := fun _ => False) (fun x hx => hx.elim) ?_
            show KW true l Z M_law n0 (fun v _ => v = some (.int 1)) (EL, fun _ => False) h107 14 32 285 #[.val (.int x), .val (.int y), .val (.int flags), .val (.int n1), .val (.int n2), .val (.int fA), .val (.int fB), .val (.int cpy), .val (.int sf), .val (.int c0), .val (.int c1), .val (.int d0), .val (.int d1), .val (.ref a1), .val (.ref a29), .val (.ref a63), .val (.ref a85), .val (.int (eqI (tx n1 c0 c1) (tx n2 d0 d1))), .val (.int (0 : Int32))] [(.int (agI fA fB (tx n1 c0 c1) (tx n2 d0 d1)))]
            refine k_iload at_285 rfl rfl ?_
            refine k_icmp (pc1 := 294) (pc' := 290) at_287 (by decide) (by decide) rfl (fun (cd36 : ¬ (agI fA fB (tx n1 c0 c1) (tx n2 d0 d1)) = (0 : Int32)) => absurd (by first | exact agI_a (by assumption) | exact agI_b (by assumption) (by assumption) | exact (agI_c (by assumption) (by assumption)).trans (by first | assumption | exact eqI_one (by assumption))) cd36) (fun (cd36 : (agI fA fB (tx n1 c0 c1) (tx n2 d0 d1)) = (0 : Int32)) => ?_)
            refine k_iconst (z := (1 : Int32)) at_290 rfl (by decide) ?_
            refine k_goto (pc' := 295) at_291 (by decide) (by decide) ?_
            exact k_retNar at_295 rfl (by simp) (z' := (1 : Int32)) (by decide) (by decide) (by decide) rfl
          · skip
            refine k_iload at_261 rfl rfl ?_
            refine k_ifc (pc1 := 275) (pc' := 266) at_263 (by decide) (by decide) rfl (fun (cd37 : fB = (0 : Int32)) => ?_) (fun (cd37 : ¬ fB = (0 : Int32)) => ?_)
            · skip
              refine k_iconst (z := (0 : Int32)) at_275 rfl (by decide) ?_
              refine k_istore (Ls' := #[.val (.int x), .val (.int y), .val (.int flags), .val (.int n1), .val (.int n2), .val (.int fA), .val (.int fB), .val (.int cpy), .val (.int sf), .val (.int c0), .val (.int c1), .val (.int d0), .val (.int d1), .val (.ref a1), .val (.ref a29), .val (.ref a63), .val (.ref a85), .val (.int (eqI (tx n1 c0 c1) (tx n2 d0 d1))), .val (.int (0 : Int32))]) at_276 rfl rfl ?_
              refine k_aload at_278 rfl rfl rfl ?_
              refine k_aload at_280 rfl rfl rfl ?_
              have f213 := (((((f54.keep K62 (allS ge38 all0)).ext E65).keep K82 (allS ge75 all0)).ext E87).keep K108 (allS ge100 all0))
              have f214 := ((F83.ext E87).keep K108 (ninS ne98 nin0))
              have f215 := ((F84.ext E87).keep K108 (ninS ne98 nin0))
              have f216 := (f104.keep K108 (ninS ne94 nin0) (ninS ne95 nin0))
              have f217 := (f105.keep K108 (ninS ne96 nin0) (ninS ne97 nin0))
              have f218 := (f106.keep K108)
              refine k_callVirtual (argsL := [(.ref a85)]) (rest := []) (W0 := 0) at_282 rfl (mt_ag l Z a0 hw cs hcs SC hEW a63 a85 a1 a29 t26 t60 fA fB (tx n1 c0 c1) (tx n2 d0 d1) h107 n0 f213 f214 f215 F109 F110 f216 f217) (Kp.pure (fun _ _ q => q.2.symm)) f218 (hw _ (List.mem_of_getElem? (i := 53) rfl)) (hw _ (List.mem_of_getElem? (i := 54) rfl)) (hw _ (List.mem_of_getElem? (i := 56) rfl)) (hw _ (List.mem_of_getElem? (i := 56) rfl)) (hw _ (List.mem_of_getElem? (i := 55) rfl)) (hw _ (List.mem_of_getElem? (i := 57) rfl)) (hw _ (List.mem_of_getElem? (i := 39) rfl)) (by decide) pd_ag rfl rfl rfl rfl (by decide) (by decide) (by decide) (by decide) ?_
              rintro _ _ - ⟨rfl, rfl⟩
              refine KW.sub (S' := fun _ => False) (fun x hx => hx.elim) ?_
              show KW true l Z M_law n0 (fun v _ => v = some (.int 1)) (EL, fun _ => False) h107 14 32 285 #[.val (.int x), .val (.int y), .val (.int flags), .val (.int n1), .val (.int n2), .val (.int fA), .val (.int fB), .val (.int cpy), .val (.int sf), .val (.int c0), .val (.int c1), .val (.int d0), .val (.int d1), .val (.ref a1), .val (.ref a29), .val (.ref a63), .val (.ref a85), .val (.int (eqI (tx n1 c0 c1) (tx n2 d0 d1))), .val (.int (0 : Int32))] [(.int (agI fA fB (tx n1 c0 c1) (tx n2 d0 d1)))]
              refine k_iload at_285 rfl rfl ?_
              refine k_icmp (pc1 := 294) (pc' := 290) at_287 (by decide) (by decide) rfl (fun (cd38 : ¬ (agI fA fB (tx n1 c0 c1) (tx n2 d0 d1)) = (0 : Int32)) => absurd (by first | exact agI_a (by assumption) | exact agI_b (by assumption) (by assumption) | exact (agI_c (by assumption) (by assumption)).trans (by first | assumption | exact eqI_one (by assumption))) cd38) (fun (cd38 : (agI fA fB (tx n1 c0 c1) (tx n2 d0 d1)) = (0 : Int32)) => ?_)
              refine k_iconst (z := (1 : Int32)) at_290 rfl (by decide) ?_
              refine k_goto (pc' := 295) at_291 (by decide) (by decide) ?_
              exact k_retNar at_295 rfl (by simp) (z' := (1 : Int32)) (by decide) (by decide) (by decide) rfl
            · skip
              refine k_iload at_266 rfl rfl ?_
              refine k_ifc (pc1 := 275) (pc' := 271) at_268 (by decide) (by decide) rfl (fun (cd39 : (eqI (tx n1 c0 c1) (tx n2 d0 d1)) = (0 : Int32)) => ?_) (fun (cd39 : ¬ (eqI (tx n1 c0 c1) (tx n2 d0 d1)) = (0 : Int32)) => ?_)
              · skip
                refine k_iconst (z := (0 : Int32)) at_275 rfl (by decide) ?_
                refine k_istore (Ls' := #[.val (.int x), .val (.int y), .val (.int flags), .val (.int n1), .val (.int n2), .val (.int fA), .val (.int fB), .val (.int cpy), .val (.int sf), .val (.int c0), .val (.int c1), .val (.int d0), .val (.int d1), .val (.ref a1), .val (.ref a29), .val (.ref a63), .val (.ref a85), .val (.int (eqI (tx n1 c0 c1) (tx n2 d0 d1))), .val (.int (0 : Int32))]) at_276 rfl rfl ?_
                refine k_aload at_278 rfl rfl rfl ?_
                refine k_aload at_280 rfl rfl rfl ?_
                have f219 := (((((f54.keep K62 (allS ge38 all0)).ext E65).keep K82 (allS ge75 all0)).ext E87).keep K108 (allS ge100 all0))
                have f220 := ((F83.ext E87).keep K108 (ninS ne98 nin0))
                have f221 := ((F84.ext E87).keep K108 (ninS ne98 nin0))
                have f222 := (f104.keep K108 (ninS ne94 nin0) (ninS ne95 nin0))
                have f223 := (f105.keep K108 (ninS ne96 nin0) (ninS ne97 nin0))
                have f224 := (f106.keep K108)
                refine k_callVirtual (argsL := [(.ref a85)]) (rest := []) (W0 := 0) at_282 rfl (mt_ag l Z a0 hw cs hcs SC hEW a63 a85 a1 a29 t26 t60 fA fB (tx n1 c0 c1) (tx n2 d0 d1) h107 n0 f219 f220 f221 F109 F110 f222 f223) (Kp.pure (fun _ _ q => q.2.symm)) f224 (hw _ (List.mem_of_getElem? (i := 53) rfl)) (hw _ (List.mem_of_getElem? (i := 54) rfl)) (hw _ (List.mem_of_getElem? (i := 56) rfl)) (hw _ (List.mem_of_getElem? (i := 56) rfl)) (hw _ (List.mem_of_getElem? (i := 55) rfl)) (hw _ (List.mem_of_getElem? (i := 57) rfl)) (hw _ (List.mem_of_getElem? (i := 39) rfl)) (by decide) pd_ag rfl rfl rfl rfl (by decide) (by decide) (by decide) (by decide) ?_
                rintro _ _ - ⟨rfl, rfl⟩
                refine KW.sub (S' := fun _ => False) (fun x hx => hx.elim) ?_
                show KW true l Z M_law n0 (fun v _ => v = some (.int 1)) (EL, fun _ => False) h107 14 32 285 #[.val (.int x), .val (.int y), .val (.int flags), .val (.int n1), .val (.int n2), .val (.int fA), .val (.int fB), .val (.int cpy), .val (.int sf), .val (.int c0), .val (.int c1), .val (.int d0), .val (.int d1), .val (.ref a1), .val (.ref a29), .val (.ref a63), .val (.ref a85), .val (.int (eqI (tx n1 c0 c1) (tx n2 d0 d1))), .val (.int (0 : Int32))] [(.int (agI fA fB (tx n1 c0 c1) (tx n2 d0 d1)))]
                refine k_iload at_285 rfl rfl ?_
                refine k_icmp (pc1 := 294) (pc' := 290) at_287 (by decide) (by decide) rfl (fun (cd40 : ¬ (agI fA fB (tx n1 c0 c1) (tx n2 d0 d1)) = (0 : Int32)) => absurd (by first | exact agI_a (by assumption) | exact agI_b (by assumption) (by assumption) | exact (agI_c (by assumption) (by assumption)).trans (by first | assumption | exact eqI_one (by assumption))) cd40) (fun (cd40 : (agI fA fB (tx n1 c0 c1) (tx n2 d0 d1)) = (0 : Int32)) => ?_)
                refine k_iconst (z := (1 : Int32)) at_290 rfl (by decide) ?_
                refine k_goto (pc' := 295) at_291 (by decide) (by decide) ?_
                exact k_retNar at_295 rfl (by simp) (z' := (1 : Int32)) (by decide) (by decide) (by decide) rfl
              · skip
                refine k_iconst (z := (1 : Int32)) at_271 rfl (by decide) ?_
                refine k_goto (pc' := 276) at_272 (by decide) (by decide) ?_
                refine k_istore (Ls' := #[.val (.int x), .val (.int y), .val (.int flags), .val (.int n1), .val (.int n2), .val (.int fA), .val (.int fB), .val (.int cpy), .val (.int sf), .val (.int c0), .val (.int c1), .val (.int d0), .val (.int d1), .val (.ref a1), .val (.ref a29), .val (.ref a63), .val (.ref a85), .val (.int (eqI (tx n1 c0 c1) (tx n2 d0 d1))), .val (.int (1 : Int32))]) at_276 rfl rfl ?_
                refine k_aload at_278 rfl rfl rfl ?_
                refine k_aload at_280 rfl rfl rfl ?_
                have f225 := (((((f54.keep K62 (allS ge38 all0)).ext E65).keep K82 (allS ge75 all0)).ext E87).keep K108 (allS ge100 all0))
                have f226 := ((F83.ext E87).keep K108 (ninS ne98 nin0))
                have f227 := ((F84.ext E87).keep K108 (ninS ne98 nin0))
                have f228 := (f104.keep K108 (ninS ne94 nin0) (ninS ne95 nin0))
                have f229 := (f105.keep K108 (ninS ne96 nin0) (ninS ne97 nin0))
                have f230 := (f106.keep K108)
                refine k_callVirtual (argsL := [(.ref a85)]) (rest := []) (W0 := 0) at_282 rfl (mt_ag l Z a0 hw cs hcs SC hEW a63 a85 a1 a29 t26 t60 fA fB (tx n1 c0 c1) (tx n2 d0 d1) h107 n0 f225 f226 f227 F109 F110 f228 f229) (Kp.pure (fun _ _ q => q.2.symm)) f230 (hw _ (List.mem_of_getElem? (i := 53) rfl)) (hw _ (List.mem_of_getElem? (i := 54) rfl)) (hw _ (List.mem_of_getElem? (i := 56) rfl)) (hw _ (List.mem_of_getElem? (i := 56) rfl)) (hw _ (List.mem_of_getElem? (i := 55) rfl)) (hw _ (List.mem_of_getElem? (i := 57) rfl)) (hw _ (List.mem_of_getElem? (i := 39) rfl)) (by decide) pd_ag rfl rfl rfl rfl (by decide) (by decide) (by decide) (by decide) ?_
                rintro _ _ - ⟨rfl, rfl⟩
                refine KW.sub (S' := fun _ => False) (fun x hx => hx.elim) ?_
                show KW true l Z M_law n0 (fun v _ => v = some (.int 1)) (EL, fun _ => False) h107 14 32 285 #[.val (.int x), .val (.int y), .val (.int flags), .val (.int n1), .val (.int n2), .val (.int fA), .val (.int fB), .val (.int cpy), .val (.int sf), .val (.int c0), .val (.int c1), .val (.int d0), .val (.int d1), .val (.ref a1), .val (.ref a29), .val (.ref a63), .val (.ref a85), .val (.int (eqI (tx n1 c0 c1) (tx n2 d0 d1))), .val (.int (1 : Int32))] [(.int (agI fA fB (tx n1 c0 c1) (tx n2 d0 d1)))]
                refine k_iload at_285 rfl rfl ?_
                refine k_icmp (pc1 := 294) (pc' := 290) at_287 (by decide) (by decide) rfl (fun (cd41 : ¬ (agI fA fB (tx n1 c0 c1) (tx n2 d0 d1)) = (1 : Int32)) => absurd (by first | exact agI_a (by assumption) | exact agI_b (by assumption) (by assumption) | exact (agI_c (by assumption) (by assumption)).trans (by first | assumption | exact eqI_one (by assumption))) cd41) (fun (cd41 : (agI fA fB (tx n1 c0 c1) (tx n2 d0 d1)) = (1 : Int32)) => ?_)
                refine k_iconst (z := (1 : Int32)) at_290 rfl (by decide) ?_
                refine k_goto (pc' := 295) at_291 (by decide) (by decide) ?_
                exact k_retNar at_295 rfl (by simp) (z' := (1 : Int32)) (by decide) (by decide) (by decide) rfl
        · skip
          refine k_iloadN at_237 rfl rfl ?_
          refine k_iconst (z := (2 : Int32)) at_238 rfl (by decide) ?_
          refine k_icmp (pc1 := 249) (pc' := 242) at_239 (by decide) (by decide) rfl (fun (cd42 : n1 < (2 : Int32)) => ?_) (fun (cd42 : ¬ n1 < (2 : Int32)) => ?_)
          · skip
            refine k_iconst (z := (1 : Int32)) at_249 rfl (by decide) ?_
            refine k_goto (pc' := 254) at_250 (by decide) (by decide) ?_
            have ee : eqI (tx n1 c0 c1) (tx n2 d0 d1) = (1 : Int32) := by
              exact own_s1 hn1 (by assumption) (by first | exact Or.inl (by assumption) | exact Or.inr (by assumption)) (by first | exact Or.inl (by assumption) | exact Or.inr (by assumption))
            refine KW.top (congrArg Value.int ee.symm) ?_
            show KW true l Z M_law n0 (fun v _ => v = some (.int 1)) (EL, fun _ => False) h107 14 32 254 #[.val (.int x), .val (.int y), .val (.int flags), .val (.int n1), .val (.int n2), .val (.int fA), .val (.int fB), .val (.int cpy), .val (.int sf), .val (.int c0), .val (.int c1), .val (.int d0), .val (.int d1), .val (.ref a1), .val (.ref a29), .val (.ref a63), .val (.ref a85), .unset, .unset] [(.int (eqI (tx n1 c0 c1) (tx n2 d0 d1)))]
            refine k_istore (Ls' := #[.val (.int x), .val (.int y), .val (.int flags), .val (.int n1), .val (.int n2), .val (.int fA), .val (.int fB), .val (.int cpy), .val (.int sf), .val (.int c0), .val (.int c1), .val (.int d0), .val (.int d1), .val (.ref a1), .val (.ref a29), .val (.ref a63), .val (.ref a85), .val (.int (eqI (tx n1 c0 c1) (tx n2 d0 d1))), .unset]) at_254 rfl rfl ?_
            refine k_iload at_256 rfl rfl ?_
            refine k_ifc (pc1 := 275) (pc' := 261) at_258 (by decide) (by decide) rfl (fun (cd43 : fA = (0 : Int32)) => ?_) (fun (cd43 : ¬ fA = (0 : Int32)) => ?_)
            · skip
              refine k_iconst (z := (0 : Int32)) at_275 rfl (by decide) ?_
              refine k_istore (Ls' := #[.val (.int x), .val (.int y), .val (.int flags), .val (.int n1), .val (.int n2), .val (.int fA), .val (.int fB), .val (.int cpy), .val (.int sf), .val (.int c0), .val (.int c1), .val (.int d0), .val (.int d1), .val (.ref a1), .val (.ref a29), .val (.ref a63), .val (.ref a85), .val (.int (eqI (tx n1 c0 c1) (tx n2 d0 d1))), .val (.int (0 : Int32))]) at_276 rfl rfl ?_
              refine k_aload at_278 rfl rfl rfl ?_
              refine k_aload at_280 rfl rfl rfl ?_
              have f231 := (((((f54.keep K62 (allS ge38 all0)).ext E65).keep K82 (allS ge75 all0)).ext E87).keep K108 (allS ge100 all0))
              have f232 := ((F83.ext E87).keep K108 (ninS ne98 nin0))
              have f233 := ((F84.ext E87).keep K108 (ninS ne98 nin0))
              have f234 := (f104.keep K108 (ninS ne94 nin0) (ninS ne95 nin0))
              have f235 := (f105.keep K108 (ninS ne96 nin0) (ninS ne97 nin0))
              have f236 := (f106.keep K108)
              refine k_callVirtual (argsL := [(.ref a85)]) (rest := []) (W0 := 0) at_282 rfl (mt_ag l Z a0 hw cs hcs SC hEW a63 a85 a1 a29 t26 t60 fA fB (tx n1 c0 c1) (tx n2 d0 d1) h107 n0 f231 f232 f233 F109 F110 f234 f235) (Kp.pure (fun _ _ q => q.2.symm)) f236 (hw _ (List.mem_of_getElem? (i := 53) rfl)) (hw _ (List.mem_of_getElem? (i := 54) rfl)) (hw _ (List.mem_of_getElem? (i := 56) rfl)) (hw _ (List.mem_of_getElem? (i := 56) rfl)) (hw _ (List.mem_of_getElem? (i := 55) rfl)) (hw _ (List.mem_of_getElem? (i := 57) rfl)) (hw _ (List.mem_of_getElem? (i := 39) rfl)) (by decide) pd_ag rfl rfl rfl rfl (by decide) (by decide) (by decide) (by decide) ?_
              rintro _ _ - ⟨rfl, rfl⟩
              refine KW.sub (S' := fun _ => False) (fun x hx => hx.elim) ?_
              show KW true l Z M_law n0 (fun v _ => v = some (.int 1)) (EL, fun _ => False) h107 14 32 285 #[.val (.int x), .val (.int y), .val (.int flags), .val (.int n1), .val (.int n2), .val (.int fA), .val (.int fB), .val (.int cpy), .val (.int sf), .val (.int c0), .val (.int c1), .val (.int d0), .val (.int d1), .val (.ref a1), .val (.ref a29), .val (.ref a63), .val (.ref a85), .val (.int (eqI (tx n1 c0 c1) (tx n2 d0 d1))), .val (.int (0 : Int32))] [(.int (agI fA fB (tx n1 c0 c1) (tx n2 d0 d1)))]
              refine k_iload at_285 rfl rfl ?_
              refine k_icmp (pc1 := 294) (pc' := 290) at_287 (by decide) (by decide) rfl (fun (cd44 : ¬ (agI fA fB (tx n1 c0 c1) (tx n2 d0 d1)) = (0 : Int32)) => absurd (by first | exact agI_a (by assumption) | exact agI_b (by assumption) (by assumption) | exact (agI_c (by assumption) (by assumption)).trans (by first | assumption | exact eqI_one (by assumption))) cd44) (fun (cd44 : (agI fA fB (tx n1 c0 c1) (tx n2 d0 d1)) = (0 : Int32)) => ?_)
              refine k_iconst (z := (1 : Int32)) at_290 rfl (by decide) ?_
              refine k_goto (pc' := 295) at_291 (by decide) (by decide) ?_
              exact k_retNar at_295 rfl (by simp) (z' := (1 : Int32)) (by decide) (by decide) (by decide) rfl
            · skip
              refine k_iload at_261 rfl rfl ?_
              refine k_ifc (pc1 := 275) (pc' := 266) at_263 (by decide) (by decide) rfl (fun (cd45 : fB = (0 : Int32)) => ?_) (fun (cd45 : ¬ fB = (0 : Int32)) => ?_)
              · skip
                refine k_iconst (z := (0 : Int32)) at_275 rfl (by decide) ?_
                refine k_istore (Ls' := #[.val (.int x), .val (.int y), .val (.int flags), .val (.int n1), .val (.int n2), .val (.int fA), .val (.int fB), .val (.int cpy), .val (.int sf), .val (.int c0), .val (.int c1), .val (.int d0), .val (.int d1), .val (.ref a1), .val (.ref a29), .val (.ref a63), .val (.ref a85), .val (.int (eqI (tx n1 c0 c1) (tx n2 d0 d1))), .val (.int (0 : Int32))]) at_276 rfl rfl ?_
                refine k_aload at_278 rfl rfl rfl ?_
                refine k_aload at_280 rfl rfl rfl ?_
                have f237 := (((((f54.keep K62 (allS ge38 all0)).ext E65).keep K82 (allS ge75 all0)).ext E87).keep K108 (allS ge100 all0))
                have f238 := ((F83.ext E87).keep K108 (ninS ne98 nin0))
                have f239 := ((F84.ext E87).keep K108 (ninS ne98 nin0))
                have f240 := (f104.keep K108 (ninS ne94 nin0) (ninS ne95 nin0))
                have f241 := (f105.keep K108 (ninS ne96 nin0) (ninS ne97 nin0))
                have f242 := (f106.keep K108)
                refine k_callVirtual (argsL := [(.ref a85)]) (rest := []) (W0 := 0) at_282 rfl (mt_ag l Z a0 hw cs hcs SC hEW a63 a85 a1 a29 t26 t60 fA fB (tx n1 c0 c1) (tx n2 d0 d1) h107 n0 f237 f238 f239 F109 F110 f240 f241) (Kp.pure (fun _ _ q => q.2.symm)) f242 (hw _ (List.mem_of_getElem? (i := 53) rfl)) (hw _ (List.mem_of_getElem? (i := 54) rfl)) (hw _ (List.mem_of_getElem? (i := 56) rfl)) (hw _ (List.mem_of_getElem? (i := 56) rfl)) (hw _ (List.mem_of_getElem? (i := 55) rfl)) (hw _ (List.mem_of_getElem? (i := 57) rfl)) (hw _ (List.mem_of_getElem? (i := 39) rfl)) (by decide) pd_ag rfl rfl rfl rfl (by decide) (by decide) (by decide) (by decide) ?_
                rintro _ _ - ⟨rfl, rfl⟩
                refine KW.sub (S' := fun _ => False) (fun x hx => hx.elim) ?_
                show KW true l Z M_law n0 (fun v _ => v = some (.int 1)) (EL, fun _ => False) h107 14 32 285 #[.val (.int x), .val (.int y), .val (.int flags), .val (.int n1), .val (.int n2), .val (.int fA), .val (.int fB), .val (.int cpy), .val (.int sf), .val (.int c0), .val (.int c1), .val (.int d0), .val (.int d1), .val (.ref a1), .val (.ref a29), .val (.ref a63), .val (.ref a85), .val (.int (eqI (tx n1 c0 c1) (tx n2 d0 d1))), .val (.int (0 : Int32))] [(.int (agI fA fB (tx n1 c0 c1) (tx n2 d0 d1)))]
                refine k_iload at_285 rfl rfl ?_
                refine k_icmp (pc1 := 294) (pc' := 290) at_287 (by decide) (by decide) rfl (fun (cd46 : ¬ (agI fA fB (tx n1 c0 c1) (tx n2 d0 d1)) = (0 : Int32)) => absurd (by first | exact agI_a (by assumption) | exact agI_b (by assumption) (by assumption) | exact (agI_c (by assumption) (by assumption)).trans (by first | assumption | exact eqI_one (by assumption))) cd46) (fun (cd46 : (agI fA fB (tx n1 c0 c1) (tx n2 d0 d1)) = (0 : Int32)) => ?_)
                refine k_iconst (z := (1 : Int32)) at_290 rfl (by decide) ?_
                refine k_goto (pc' := 295) at_291 (by decide) (by decide) ?_
                exact k_retNar at_295 rfl (by simp) (z' := (1 : Int32)) (by decide) (by decide) (by decide) rfl
              · skip
                refine k_iload at_266 rfl rfl ?_
                refine k_ifc (pc1 := 275) (pc' := 271) at_268 (by decide) (by decide) rfl (fun (cd47 : (eqI (tx n1 c0 c1) (tx n2 d0 d1)) = (0 : Int32)) => ?_) (fun (cd47 : ¬ (eqI (tx n1 c0 c1) (tx n2 d0 d1)) = (0 : Int32)) => ?_)
                · skip
                  refine k_iconst (z := (0 : Int32)) at_275 rfl (by decide) ?_
                  refine k_istore (Ls' := #[.val (.int x), .val (.int y), .val (.int flags), .val (.int n1), .val (.int n2), .val (.int fA), .val (.int fB), .val (.int cpy), .val (.int sf), .val (.int c0), .val (.int c1), .val (.int d0), .val (.int d1), .val (.ref a1), .val (.ref a29), .val (.ref a63), .val (.ref a85), .val (.int (eqI (tx n1 c0 c1) (tx n2 d0 d1))), .val (.int (0 : Int32))]) at_276 rfl rfl ?_
                  refine k_aload at_278 rfl rfl rfl ?_
                  refine k_aload at_280 rfl rfl rfl ?_
                  have f243 := (((((f54.keep K62 (allS ge38 all0)).ext E65).keep K82 (allS ge75 all0)).ext E87).keep K108 (allS ge100 all0))
                  have f244 := ((F83.ext E87).keep K108 (ninS ne98 nin0))
                  have f245 := ((F84.ext E87).keep K108 (ninS ne98 nin0))
                  have f246 := (f104.keep K108 (ninS ne94 nin0) (ninS ne95 nin0))
                  have f247 := (f105.keep K108 (ninS ne96 nin0) (ninS ne97 nin0))
                  have f248 := (f106.keep K108)
                  refine k_callVirtual (argsL := [(.ref a85)]) (rest := []) (W0 := 0) at_282 rfl (mt_ag l Z a0 hw cs hcs SC hEW a63 a85 a1 a29 t26 t60 fA fB (tx n1 c0 c1) (tx n2 d0 d1) h107 n0 f243 f244 f245 F109 F110 f246 f247) (Kp.pure (fun _ _ q => q.2.symm)) f248 (hw _ (List.mem_of_getElem? (i := 53) rfl)) (hw _ (List.mem_of_getElem? (i := 54) rfl)) (hw _ (List.mem_of_getElem? (i := 56) rfl)) (hw _ (List.mem_of_getElem? (i := 56) rfl)) (hw _ (List.mem_of_getElem? (i := 55) rfl)) (hw _ (List.mem_of_getElem? (i := 57) rfl)) (hw _ (List.mem_of_getElem? (i := 39) rfl)) (by decide) pd_ag rfl rfl rfl rfl (by decide) (by decide) (by decide) (by decide) ?_
                  rintro _ _ - ⟨rfl, rfl⟩
                  refine KW.sub (S' := fun _ => False) (fun x hx => hx.elim) ?_
                  show KW true l Z M_law n0 (fun v _ => v = some (.int 1)) (EL, fun _ => False) h107 14 32 285 #[.val (.int x), .val (.int y), .val (.int flags), .val (.int n1), .val (.int n2), .val (.int fA), .val (.int fB), .val (.int cpy), .val (.int sf), .val (.int c0), .val (.int c1), .val (.int d0), .val (.int d1), .val (.ref a1), .val (.ref a29), .val (.ref a63), .val (.ref a85), .val (.int (eqI (tx n1 c0 c1) (tx n2 d0 d1))), .val (.int (0 : Int32))] [(.int (agI fA fB (tx n1 c0 c1) (tx n2 d0 d1)))]
                  refine k_iload at_285 rfl rfl ?_
                  refine k_icmp (pc1 := 294) (pc' := 290) at_287 (by decide) (by decide) rfl (fun (cd48 : ¬ (agI fA fB (tx n1 c0 c1) (tx n2 d0 d1)) = (0 : Int32)) => absurd (by first | exact agI_a (by assumption) | exact agI_b (by assumption) (by assumption) | exact (agI_c (by assumption) (by assumption)).trans (by first | assumption | exact eqI_one (by assumption))) cd48) (fun (cd48 : (agI fA fB (tx n1 c0 c1) (tx n2 d0 d1)) = (0 : Int32)) => ?_)
                  refine k_iconst (z := (1 : Int32)) at_290 rfl (by decide) ?_
                  refine k_goto (pc' := 295) at_291 (by decide) (by decide) ?_
                  exact k_retNar at_295 rfl (by simp) (z' := (1 : Int32)) (by decide) (by decide) (by decide) rfl
                · skip
                  refine k_iconst (z := (1 : Int32)) at_271 rfl (by decide) ?_
                  refine k_goto (pc' := 276) at_272 (by decide) (by decide) ?_
                  refine k_istore (Ls' := #[.val (.int x), .val (.int y), .val (.int flags), .val (.int n1), .val (.int n2), .val (.int fA), .val (.int fB), .val (.int cpy), .val (.int sf), .val (.int c0), .val (.int c1), .val (.int d0), .val (.int d1), .val (.ref a1), .val (.ref a29), .val (.ref a63), .val (.ref a85), .val (.int (eqI (tx n1 c0 c1) (tx n2 d0 d1))), .val (.int (1 : Int32))]) at_276 rfl rfl ?_
                  refine k_aload at_278 rfl rfl rfl ?_
                  refine k_aload at_280 rfl rfl rfl ?_
                  have f249 := (((((f54.keep K62 (allS ge38 all0)).ext E65).keep K82 (allS ge75 all0)).ext E87).keep K108 (allS ge100 all0))
                  have f250 := ((F83.ext E87).keep K108 (ninS ne98 nin0))
                  have f251 := ((F84.ext E87).keep K108 (ninS ne98 nin0))
                  have f252 := (f104.keep K108 (ninS ne94 nin0) (ninS ne95 nin0))
                  have f253 := (f105.keep K108 (ninS ne96 nin0) (ninS ne97 nin0))
                  have f254 := (f106.keep K108)
                  refine k_callVirtual (argsL := [(.ref a85)]) (rest := []) (W0 := 0) at_282 rfl (mt_ag l Z a0 hw cs hcs SC hEW a63 a85 a1 a29 t26 t60 fA fB (tx n1 c0 c1) (tx n2 d0 d1) h107 n0 f249 f250 f251 F109 F110 f252 f253) (Kp.pure (fun _ _ q => q.2.symm)) f254 (hw _ (List.mem_of_getElem? (i := 53) rfl)) (hw _ (List.mem_of_getElem? (i := 54) rfl)) (hw _ (List.mem_of_getElem? (i := 56) rfl)) (hw _ (List.mem_of_getElem? (i := 56) rfl)) (hw _ (List.mem_of_getElem? (i := 55) rfl)) (hw _ (List.mem_of_getElem? (i := 57) rfl)) (hw _ (List.mem_of_getElem? (i := 39) rfl)) (by decide) pd_ag rfl rfl rfl rfl (by decide) (by decide) (by decide) (by decide) ?_
                  rintro _ _ - ⟨rfl, rfl⟩
                  refine KW.sub (S' := fun _ => False) (fun x hx => hx.elim) ?_
                  show KW true l Z M_law n0 (fun v _ => v = some (.int 1)) (EL, fun _ => False) h107 14 32 285 #[.val (.int x), .val (.int y), .val (.int flags), .val (.int n1), .val (.int n2), .val (.int fA), .val (.int fB), .val (.int cpy), .val (.int sf), .val (.int c0), .val (.int c1), .val (.int d0), .val (.int d1), .val (.ref a1), .val (.ref a29), .val (.ref a63), .val (.ref a85), .val (.int (eqI (tx n1 c0 c1) (tx n2 d0 d1))), .val (.int (1 : Int32))] [(.int (agI fA fB (tx n1 c0 c1) (tx n2 d0 d1)))]
                  refine k_iload at_285 rfl rfl ?_
                  refine k_icmp (pc1 := 294) (pc' := 290) at_287 (by decide) (by decide) rfl (fun (cd49 : ¬ (agI fA fB (tx n1 c0 c1) (tx n2 d0 d1)) = (1 : Int32)) => absurd (by first | exact agI_a (by assumption) | exact agI_b (by assumption) (by assumption) | exact (agI_c (by assumption) (by assumption)).trans (by first | assumption | exact eqI_one (by assumption))) cd49) (fun (cd49 : (agI fA fB (tx n1 c0 c1) (tx n2 d0 d1)) = (1 : Int32)) => ?_)
                  refine k_iconst (z := (1 : Int32)) at_290 rfl (by decide) ?_
                  refine k_goto (pc' := 295) at_291 (by decide) (by decide) ?_
                  exact k_retNar at_295 rfl (by simp) (z' := (1 : Int32)) (by decide) (by decide) (by decide) rfl
          · skip
            refine k_iload at_242 rfl rfl ?_
            refine k_iload at_244 rfl rfl ?_
            refine k_icmp (pc1 := 253) (pc' := 249) at_246 (by decide) (by decide) rfl (fun (cd50 : ¬ c1 = d1) => ?_) (fun (cd50 : c1 = d1) => ?_)
            · skip
              refine k_iconst (z := (0 : Int32)) at_253 rfl (by decide) ?_
              have ee : eqI (tx n1 c0 c1) (tx n2 d0 d1) = (0 : Int32) := by
                first | exact own_s0 hn1 hn2 (by assumption) | exact own_s0a hn1 (by assumption) hc0 hd0 (by assumption) (by assumption) | exact own_s0b hn1 (by assumption) hc1 hd1 (by assumption) (by assumption)
              refine KW.top (congrArg Value.int ee.symm) ?_
              show KW true l Z M_law n0 (fun v _ => v = some (.int 1)) (EL, fun _ => False) h107 14 32 254 #[.val (.int x), .val (.int y), .val (.int flags), .val (.int n1), .val (.int n2), .val (.int fA), .val (.int fB), .val (.int cpy), .val (.int sf), .val (.int c0), .val (.int c1), .val (.int d0), .val (.int d1), .val (.ref a1), .val (.ref a29), .val (.ref a63), .val (.ref a85), .unset, .unset] [(.int (eqI (tx n1 c0 c1) (tx n2 d0 d1)))]
              refine k_istore (Ls' := #[.val (.int x), .val (.int y), .val (.int flags), .val (.int n1), .val (.int n2), .val (.int fA), .val (.int fB), .val (.int cpy), .val (.int sf), .val (.int c0), .val (.int c1), .val (.int d0), .val (.int d1), .val (.ref a1), .val (.ref a29), .val (.ref a63), .val (.ref a85), .val (.int (eqI (tx n1 c0 c1) (tx n2 d0 d1))), .unset]) at_254 rfl rfl ?_
              refine k_iload at_256 rfl rfl ?_
              refine k_ifc (pc1 := 275) (pc' := 261) at_258 (by decide) (by decide) rfl (fun (cd51 : fA = (0 : Int32)) => ?_) (fun (cd51 : ¬ fA = (0 : Int32)) => ?_)
              · skip
                refine k_iconst (z := (0 : Int32)) at_275 rfl (by decide) ?_
                refine k_istore (Ls' := #[.val (.int x), .val (.int y), .val (.int flags), .val (.int n1), .val (.int n2), .val (.int fA), .val (.int fB), .val (.int cpy), .val (.int sf), .val (.int c0), .val (.int c1), .val (.int d0), .val (.int d1), .val (.ref a1), .val (.ref a29), .val (.ref a63), .val (.ref a85), .val (.int (eqI (tx n1 c0 c1) (tx n2 d0 d1))), .val (.int (0 : Int32))]) at_276 rfl rfl ?_
                refine k_aload at_278 rfl rfl rfl ?_
                refine k_aload at_280 rfl rfl rfl ?_
                have f255 := (((((f54.keep K62 (allS ge38 all0)).ext E65).keep K82 (allS ge75 all0)).ext E87).keep K108 (allS ge100 all0))
                have f256 := ((F83.ext E87).keep K108 (ninS ne98 nin0))
                have f257 := ((F84.ext E87).keep K108 (ninS ne98 nin0))
                have f258 := (f104.keep K108 (ninS ne94 nin0) (ninS ne95 nin0))
                have f259 := (f105.keep K108 (ninS ne96 nin0) (ninS ne97 nin0))
                have f260 := (f106.keep K108)
                refine k_callVirtual (argsL := [(.ref a85)]) (rest := []) (W0 := 0) at_282 rfl (mt_ag l Z a0 hw cs hcs SC hEW a63 a85 a1 a29 t26 t60 fA fB (tx n1 c0 c1) (tx n2 d0 d1) h107 n0 f255 f256 f257 F109 F110 f258 f259) (Kp.pure (fun _ _ q => q.2.symm)) f260 (hw _ (List.mem_of_getElem? (i := 53) rfl)) (hw _ (List.mem_of_getElem? (i := 54) rfl)) (hw _ (List.mem_of_getElem? (i := 56) rfl)) (hw _ (List.mem_of_getElem? (i := 56) rfl)) (hw _ (List.mem_of_getElem? (i := 55) rfl)) (hw _ (List.mem_of_getElem? (i := 57) rfl)) (hw _ (List.mem_of_getElem? (i := 39) rfl)) (by decide) pd_ag rfl rfl rfl rfl (by decide) (by decide) (by decide) (by decide) ?_
                rintro _ _ - ⟨rfl, rfl⟩
                refine KW.sub (S' := fun _ => False) (fun x hx => hx.elim) ?_
                show KW true l Z M_law n0 (fun v _ => v = some (.int 1)) (EL, fun _ => False) h107 14 32 285 #[.val (.int x), .val (.int y), .val (.int flags), .val (.int n1), .val (.int n2), .val (.int fA), .val (.int fB), .val (.int cpy), .val (.int sf), .val (.int c0), .val (.int c1), .val (.int d0), .val (.int d1), .val (.ref a1), .val (.ref a29), .val (.ref a63), .val (.ref a85), .val (.int (eqI (tx n1 c0 c1) (tx n2 d0 d1))), .val (.int (0 : Int32))] [(.int (agI fA fB (tx n1 c0 c1) (tx n2 d0 d1)))]
                refine k_iload at_285 rfl rfl ?_
                refine k_icmp (pc1 := 294) (pc' := 290) at_287 (by decide) (by decide) rfl (fun (cd52 : ¬ (agI fA fB (tx n1 c0 c1) (tx n2 d0 d1)) = (0 : Int32)) => absurd (by first | exact agI_a (by assumption) | exact agI_b (by assumption) (by assumption) | exact (agI_c (by assumption) (by assumption)).trans (by first | assumption | exact eqI_one (by assumption))) cd52) (fun (cd52 : (agI fA fB (tx n1 c0 c1) (tx n2 d0 d1)) = (0 : Int32)) => ?_)
                refine k_iconst (z := (1 : Int32)) at_290 rfl (by decide) ?_
                refine k_goto (pc' := 295) at_291 (by decide) (by decide) ?_
                exact k_retNar at_295 rfl (by simp) (z' := (1 : Int32)) (by decide) (by decide) (by decide) rfl
              · skip
                refine k_iload at_261 rfl rfl ?_
                refine k_ifc (pc1 := 275) (pc' := 266) at_263 (by decide) (by decide) rfl (fun (cd53 : fB = (0 : Int32)) => ?_) (fun (cd53 : ¬ fB = (0 : Int32)) => ?_)
                · skip
                  refine k_iconst (z := (0 : Int32)) at_275 rfl (by decide) ?_
                  refine k_istore (Ls' := #[.val (.int x), .val (.int y), .val (.int flags), .val (.int n1), .val (.int n2), .val (.int fA), .val (.int fB), .val (.int cpy), .val (.int sf), .val (.int c0), .val (.int c1), .val (.int d0), .val (.int d1), .val (.ref a1), .val (.ref a29), .val (.ref a63), .val (.ref a85), .val (.int (eqI (tx n1 c0 c1) (tx n2 d0 d1))), .val (.int (0 : Int32))]) at_276 rfl rfl ?_
                  refine k_aload at_278 rfl rfl rfl ?_
                  refine k_aload at_280 rfl rfl rfl ?_
                  have f261 := (((((f54.keep K62 (allS ge38 all0)).ext E65).keep K82 (allS ge75 all0)).ext E87).keep K108 (allS ge100 all0))
                  have f262 := ((F83.ext E87).keep K108 (ninS ne98 nin0))
                  have f263 := ((F84.ext E87).keep K108 (ninS ne98 nin0))
                  have f264 := (f104.keep K108 (ninS ne94 nin0) (ninS ne95 nin0))
                  have f265 := (f105.keep K108 (ninS ne96 nin0) (ninS ne97 nin0))
                  have f266 := (f106.keep K108)
                  refine k_callVirtual (argsL := [(.ref a85)]) (rest := []) (W0 := 0) at_282 rfl (mt_ag l Z a0 hw cs hcs SC hEW a63 a85 a1 a29 t26 t60 fA fB (tx n1 c0 c1) (tx n2 d0 d1) h107 n0 f261 f262 f263 F109 F110 f264 f265) (Kp.pure (fun _ _ q => q.2.symm)) f266 (hw _ (List.mem_of_getElem? (i := 53) rfl)) (hw _ (List.mem_of_getElem? (i := 54) rfl)) (hw _ (List.mem_of_getElem? (i := 56) rfl)) (hw _ (List.mem_of_getElem? (i := 56) rfl)) (hw _ (List.mem_of_getElem? (i := 55) rfl)) (hw _ (List.mem_of_getElem? (i := 57) rfl)) (hw _ (List.mem_of_getElem? (i := 39) rfl)) (by decide) pd_ag rfl rfl rfl rfl (by decide) (by decide) (by decide) (by decide) ?_
                  rintro _ _ - ⟨rfl, rfl⟩
                  refine KW.sub (S' := fun _ => False) (fun x hx => hx.elim) ?_
                  show KW true l Z M_law n0 (fun v _ => v = some (.int 1)) (EL, fun _ => False) h107 14 32 285 #[.val (.int x), .val (.int y), .val (.int flags), .val (.int n1), .val (.int n2), .val (.int fA), .val (.int fB), .val (.int cpy), .val (.int sf), .val (.int c0), .val (.int c1), .val (.int d0), .val (.int d1), .val (.ref a1), .val (.ref a29), .val (.ref a63), .val (.ref a85), .val (.int (eqI (tx n1 c0 c1) (tx n2 d0 d1))), .val (.int (0 : Int32))] [(.int (agI fA fB (tx n1 c0 c1) (tx n2 d0 d1)))]
                  refine k_iload at_285 rfl rfl ?_
                  refine k_icmp (pc1 := 294) (pc' := 290) at_287 (by decide) (by decide) rfl (fun (cd54 : ¬ (agI fA fB (tx n1 c0 c1) (tx n2 d0 d1)) = (0 : Int32)) => absurd (by first | exact agI_a (by assumption) | exact agI_b (by assumption) (by assumption) | exact (agI_c (by assumption) (by assumption)).trans (by first | assumption | exact eqI_one (by assumption))) cd54) (fun (cd54 : (agI fA fB (tx n1 c0 c1) (tx n2 d0 d1)) = (0 : Int32)) => ?_)
                  refine k_iconst (z := (1 : Int32)) at_290 rfl (by decide) ?_
                  refine k_goto (pc' := 295) at_291 (by decide) (by decide) ?_
                  exact k_retNar at_295 rfl (by simp) (z' := (1 : Int32)) (by decide) (by decide) (by decide) rfl
                · skip
                  refine k_iload at_266 rfl rfl ?_
                  refine k_ifc (pc1 := 275) (pc' := 271) at_268 (by decide) (by decide) rfl (fun (cd55 : (eqI (tx n1 c0 c1) (tx n2 d0 d1)) = (0 : Int32)) => ?_) (fun (cd55 : ¬ (eqI (tx n1 c0 c1) (tx n2 d0 d1)) = (0 : Int32)) => ?_)
                  · skip
                    refine k_iconst (z := (0 : Int32)) at_275 rfl (by decide) ?_
                    refine k_istore (Ls' := #[.val (.int x), .val (.int y), .val (.int flags), .val (.int n1), .val (.int n2), .val (.int fA), .val (.int fB), .val (.int cpy), .val (.int sf), .val (.int c0), .val (.int c1), .val (.int d0), .val (.int d1), .val (.ref a1), .val (.ref a29), .val (.ref a63), .val (.ref a85), .val (.int (eqI (tx n1 c0 c1) (tx n2 d0 d1))), .val (.int (0 : Int32))]) at_276 rfl rfl ?_
                    refine k_aload at_278 rfl rfl rfl ?_
                    refine k_aload at_280 rfl rfl rfl ?_
                    have f267 := (((((f54.keep K62 (allS ge38 all0)).ext E65).keep K82 (allS ge75 all0)).ext E87).keep K108 (allS ge100 all0))
                    have f268 := ((F83.ext E87).keep K108 (ninS ne98 nin0))
                    have f269 := ((F84.ext E87).keep K108 (ninS ne98 nin0))
                    have f270 := (f104.keep K108 (ninS ne94 nin0) (ninS ne95 nin0))
                    have f271 := (f105.keep K108 (ninS ne96 nin0) (ninS ne97 nin0))
                    have f272 := (f106.keep K108)
                    refine k_callVirtual (argsL := [(.ref a85)]) (rest := []) (W0 := 0) at_282 rfl (mt_ag l Z a0 hw cs hcs SC hEW a63 a85 a1 a29 t26 t60 fA fB (tx n1 c0 c1) (tx n2 d0 d1) h107 n0 f267 f268 f269 F109 F110 f270 f271) (Kp.pure (fun _ _ q => q.2.symm)) f272 (hw _ (List.mem_of_getElem? (i := 53) rfl)) (hw _ (List.mem_of_getElem? (i := 54) rfl)) (hw _ (List.mem_of_getElem? (i := 56) rfl)) (hw _ (List.mem_of_getElem? (i := 56) rfl)) (hw _ (List.mem_of_getElem? (i := 55) rfl)) (hw _ (List.mem_of_getElem? (i := 57) rfl)) (hw _ (List.mem_of_getElem? (i := 39) rfl)) (by decide) pd_ag rfl rfl rfl rfl (by decide) (by decide) (by decide) (by decide) ?_
                    rintro _ _ - ⟨rfl, rfl⟩
                    refine KW.sub (S' := fun _ => False) (fun x hx => hx.elim) ?_
                    show KW true l Z M_law n0 (fun v _ => v = some (.int 1)) (EL, fun _ => False) h107 14 32 285 #[.val (.int x), .val (.int y), .val (.int flags), .val (.int n1), .val (.int n2), .val (.int fA), .val (.int fB), .val (.int cpy), .val (.int sf), .val (.int c0), .val (.int c1), .val (.int d0), .val (.int d1), .val (.ref a1), .val (.ref a29), .val (.ref a63), .val (.ref a85), .val (.int (eqI (tx n1 c0 c1) (tx n2 d0 d1))), .val (.int (0 : Int32))] [(.int (agI fA fB (tx n1 c0 c1) (tx n2 d0 d1)))]
                    refine k_iload at_285 rfl rfl ?_
                    refine k_icmp (pc1 := 294) (pc' := 290) at_287 (by decide) (by decide) rfl (fun (cd56 : ¬ (agI fA fB (tx n1 c0 c1) (tx n2 d0 d1)) = (0 : Int32)) => absurd (by first | exact agI_a (by assumption) | exact agI_b (by assumption) (by assumption) | exact (agI_c (by assumption) (by assumption)).trans (by first | assumption | exact eqI_one (by assumption))) cd56) (fun (cd56 : (agI fA fB (tx n1 c0 c1) (tx n2 d0 d1)) = (0 : Int32)) => ?_)
                    refine k_iconst (z := (1 : Int32)) at_290 rfl (by decide) ?_
                    refine k_goto (pc' := 295) at_291 (by decide) (by decide) ?_
                    exact k_retNar at_295 rfl (by simp) (z' := (1 : Int32)) (by decide) (by decide) (by decide) rfl
                  · skip
                    refine k_iconst (z := (1 : Int32)) at_271 rfl (by decide) ?_
                    refine k_goto (pc' := 276) at_272 (by decide) (by decide) ?_
                    refine k_istore (Ls' := #[.val (.int x), .val (.int y), .val (.int flags), .val (.int n1), .val (.int n2), .val (.int fA), .val (.int fB), .val (.int cpy), .val (.int sf), .val (.int c0), .val (.int c1), .val (.int d0), .val (.int d1), .val (.ref a1), .val (.ref a29), .val (.ref a63), .val (.ref a85), .val (.int (eqI (tx n1 c0 c1) (tx n2 d0 d1))), .val (.int (1 : Int32))]) at_276 rfl rfl ?_
                    refine k_aload at_278 rfl rfl rfl ?_
                    refine k_aload at_280 rfl rfl rfl ?_
                    have f273 := (((((f54.keep K62 (allS ge38 all0)).ext E65).keep K82 (allS ge75 all0)).ext E87).keep K108 (allS ge100 all0))
                    have f274 := ((F83.ext E87).keep K108 (ninS ne98 nin0))
                    have f275 := ((F84.ext E87).keep K108 (ninS ne98 nin0))
                    have f276 := (f104.keep K108 (ninS ne94 nin0) (ninS ne95 nin0))
                    have f277 := (f105.keep K108 (ninS ne96 nin0) (ninS ne97 nin0))
                    have f278 := (f106.keep K108)
                    refine k_callVirtual (argsL := [(.ref a85)]) (rest := []) (W0 := 0) at_282 rfl (mt_ag l Z a0 hw cs hcs SC hEW a63 a85 a1 a29 t26 t60 fA fB (tx n1 c0 c1) (tx n2 d0 d1) h107 n0 f273 f274 f275 F109 F110 f276 f277) (Kp.pure (fun _ _ q => q.2.symm)) f278 (hw _ (List.mem_of_getElem? (i := 53) rfl)) (hw _ (List.mem_of_getElem? (i := 54) rfl)) (hw _ (List.mem_of_getElem? (i := 56) rfl)) (hw _ (List.mem_of_getElem? (i := 56) rfl)) (hw _ (List.mem_of_getElem? (i := 55) rfl)) (hw _ (List.mem_of_getElem? (i := 57) rfl)) (hw _ (List.mem_of_getElem? (i := 39) rfl)) (by decide) pd_ag rfl rfl rfl rfl (by decide) (by decide) (by decide) (by decide) ?_
                    rintro _ _ - ⟨rfl, rfl⟩
                    refine KW.sub (S' := fun _ => False) (fun x hx => hx.elim) ?_
                    show KW true l Z M_law n0 (fun v _ => v = some (.int 1)) (EL, fun _ => False) h107 14 32 285 #[.val (.int x), .val (.int y), .val (.int flags), .val (.int n1), .val (.int n2), .val (.int fA), .val (.int fB), .val (.int cpy), .val (.int sf), .val (.int c0), .val (.int c1), .val (.int d0), .val (.int d1), .val (.ref a1), .val (.ref a29), .val (.ref a63), .val (.ref a85), .val (.int (eqI (tx n1 c0 c1) (tx n2 d0 d1))), .val (.int (1 : Int32))] [(.int (agI fA fB (tx n1 c0 c1) (tx n2 d0 d1)))]
                    refine k_iload at_285 rfl rfl ?_
                    refine k_icmp (pc1 := 294) (pc' := 290) at_287 (by decide) (by decide) rfl (fun (cd57 : ¬ (agI fA fB (tx n1 c0 c1) (tx n2 d0 d1)) = (1 : Int32)) => absurd (by first | exact agI_a (by assumption) | exact agI_b (by assumption) (by assumption) | exact (agI_c (by assumption) (by assumption)).trans (by first | assumption | exact eqI_one (by assumption))) cd57) (fun (cd57 : (agI fA fB (tx n1 c0 c1) (tx n2 d0 d1)) = (1 : Int32)) => ?_)
                    refine k_iconst (z := (1 : Int32)) at_290 rfl (by decide) ?_
                    refine k_goto (pc' := 295) at_291 (by decide) (by decide) ?_
                    exact k_retNar at_295 rfl (by simp) (z' := (1 : Int32)) (by decide) (by decide) (by decide) rfl
            · skip
              refine k_iconst (z := (1 : Int32)) at_249 rfl (by decide) ?_
              refine k_goto (pc' := 254) at_250 (by decide) (by decide) ?_
              have ee : eqI (tx n1 c0 c1) (tx n2 d0 d1) = (1 : Int32) := by
                exact own_s1 hn1 (by assumption) (by first | exact Or.inl (by assumption) | exact Or.inr (by assumption)) (by first | exact Or.inl (by assumption) | exact Or.inr (by assumption))
              refine KW.top (congrArg Value.int ee.symm) ?_
              show KW true l Z M_law n0 (fun v _ => v = some (.int 1)) (EL, fun _ => False) h107 14 32 254 #[.val (.int x), .val (.int y), .val (.int flags), .val (.int n1), .val (.int n2), .val (.int fA), .val (.int fB), .val (.int cpy), .val (.int sf), .val (.int c0), .val (.int c1), .val (.int d0), .val (.int d1), .val (.ref a1), .val (.ref a29), .val (.ref a63), .val (.ref a85), .unset, .unset] [(.int (eqI (tx n1 c0 c1) (tx n2 d0 d1)))]
              refine k_istore (Ls' := #[.val (.int x), .val (.int y), .val (.int flags), .val (.int n1), .val (.int n2), .val (.int fA), .val (.int fB), .val (.int cpy), .val (.int sf), .val (.int c0), .val (.int c1), .val (.int d0), .val (.int d1), .val (.ref a1), .val (.ref a29), .val (.ref a63), .val (.ref a85), .val (.int (eqI (tx n1 c0 c1) (tx n2 d0 d1))), .unset]) at_254 rfl rfl ?_
              refine k_iload at_256 rfl rfl ?_
              refine k_ifc (pc1 := 275) (pc' := 261) at_258 (by decide) (by decide) rfl (fun (cd58 : fA = (0 : Int32)) => ?_) (fun (cd58 : ¬ fA = (0 : Int32)) => ?_)
              · skip
                refine k_iconst (z := (0 : Int32)) at_275 rfl (by decide) ?_
                refine k_istore (Ls' := #[.val (.int x), .val (.int y), .val (.int flags), .val (.int n1), .val (.int n2), .val (.int fA), .val (.int fB), .val (.int cpy), .val (.int sf), .val (.int c0), .val (.int c1), .val (.int d0), .val (.int d1), .val (.ref a1), .val (.ref a29), .val (.ref a63), .val (.ref a85), .val (.int (eqI (tx n1 c0 c1) (tx n2 d0 d1))), .val (.int (0 : Int32))]) at_276 rfl rfl ?_
                refine k_aload at_278 rfl rfl rfl ?_
                refine k_aload at_280 rfl rfl rfl ?_
                have f279 := (((((f54.keep K62 (allS ge38 all0)).ext E65).keep K82 (allS ge75 all0)).ext E87).keep K108 (allS ge100 all0))
                have f280 := ((F83.ext E87).keep K108 (ninS ne98 nin0))
                have f281 := ((F84.ext E87).keep K108 (ninS ne98 nin0))
                have f282 := (f104.keep K108 (ninS ne94 nin0) (ninS ne95 nin0))
                have f283 := (f105.keep K108 (ninS ne96 nin0) (ninS ne97 nin0))
                have f284 := (f106.keep K108)
                refine k_callVirtual (argsL := [(.ref a85)]) (rest := []) (W0 := 0) at_282 rfl (mt_ag l Z a0 hw cs hcs SC hEW a63 a85 a1 a29 t26 t60 fA fB (tx n1 c0 c1) (tx n2 d0 d1) h107 n0 f279 f280 f281 F109 F110 f282 f283) (Kp.pure (fun _ _ q => q.2.symm)) f284 (hw _ (List.mem_of_getElem? (i := 53) rfl)) (hw _ (List.mem_of_getElem? (i := 54) rfl)) (hw _ (List.mem_of_getElem? (i := 56) rfl)) (hw _ (List.mem_of_getElem? (i := 56) rfl)) (hw _ (List.mem_of_getElem? (i := 55) rfl)) (hw _ (List.mem_of_getElem? (i := 57) rfl)) (hw _ (List.mem_of_getElem? (i := 39) rfl)) (by decide) pd_ag rfl rfl rfl rfl (by decide) (by decide) (by decide) (by decide) ?_
                rintro _ _ - ⟨rfl, rfl⟩
                refine KW.sub (S' := fun _ => False) (fun x hx => hx.elim) ?_
                show KW true l Z M_law n0 (fun v _ => v = some (.int 1)) (EL, fun _ => False) h107 14 32 285 #[.val (.int x), .val (.int y), .val (.int flags), .val (.int n1), .val (.int n2), .val (.int fA), .val (.int fB), .val (.int cpy), .val (.int sf), .val (.int c0), .val (.int c1), .val (.int d0), .val (.int d1), .val (.ref a1), .val (.ref a29), .val (.ref a63), .val (.ref a85), .val (.int (eqI (tx n1 c0 c1) (tx n2 d0 d1))), .val (.int (0 : Int32))] [(.int (agI fA fB (tx n1 c0 c1) (tx n2 d0 d1)))]
                refine k_iload at_285 rfl rfl ?_
                refine k_icmp (pc1 := 294) (pc' := 290) at_287 (by decide) (by decide) rfl (fun (cd59 : ¬ (agI fA fB (tx n1 c0 c1) (tx n2 d0 d1)) = (0 : Int32)) => absurd (by first | exact agI_a (by assumption) | exact agI_b (by assumption) (by assumption) | exact (agI_c (by assumption) (by assumption)).trans (by first | assumption | exact eqI_one (by assumption))) cd59) (fun (cd59 : (agI fA fB (tx n1 c0 c1) (tx n2 d0 d1)) = (0 : Int32)) => ?_)
                refine k_iconst (z := (1 : Int32)) at_290 rfl (by decide) ?_
                refine k_goto (pc' := 295) at_291 (by decide) (by decide) ?_
                exact k_retNar at_295 rfl (by simp) (z' := (1 : Int32)) (by decide) (by decide) (by decide) rfl
              · skip
                refine k_iload at_261 rfl rfl ?_
                refine k_ifc (pc1 := 275) (pc' := 266) at_263 (by decide) (by decide) rfl (fun (cd60 : fB = (0 : Int32)) => ?_) (fun (cd60 : ¬ fB = (0 : Int32)) => ?_)
                · skip
                  refine k_iconst (z := (0 : Int32)) at_275 rfl (by decide) ?_
                  refine k_istore (Ls' := #[.val (.int x), .val (.int y), .val (.int flags), .val (.int n1), .val (.int n2), .val (.int fA), .val (.int fB), .val (.int cpy), .val (.int sf), .val (.int c0), .val (.int c1), .val (.int d0), .val (.int d1), .val (.ref a1), .val (.ref a29), .val (.ref a63), .val (.ref a85), .val (.int (eqI (tx n1 c0 c1) (tx n2 d0 d1))), .val (.int (0 : Int32))]) at_276 rfl rfl ?_
                  refine k_aload at_278 rfl rfl rfl ?_
                  refine k_aload at_280 rfl rfl rfl ?_
                  have f285 := (((((f54.keep K62 (allS ge38 all0)).ext E65).keep K82 (allS ge75 all0)).ext E87).keep K108 (allS ge100 all0))
                  have f286 := ((F83.ext E87).keep K108 (ninS ne98 nin0))
                  have f287 := ((F84.ext E87).keep K108 (ninS ne98 nin0))
                  have f288 := (f104.keep K108 (ninS ne94 nin0) (ninS ne95 nin0))
                  have f289 := (f105.keep K108 (ninS ne96 nin0) (ninS ne97 nin0))
                  have f290 := (f106.keep K108)
                  refine k_callVirtual (argsL := [(.ref a85)]) (rest := []) (W0 := 0) at_282 rfl (mt_ag l Z a0 hw cs hcs SC hEW a63 a85 a1 a29 t26 t60 fA fB (tx n1 c0 c1) (tx n2 d0 d1) h107 n0 f285 f286 f287 F109 F110 f288 f289) (Kp.pure (fun _ _ q => q.2.symm)) f290 (hw _ (List.mem_of_getElem? (i := 53) rfl)) (hw _ (List.mem_of_getElem? (i := 54) rfl)) (hw _ (List.mem_of_getElem? (i := 56) rfl)) (hw _ (List.mem_of_getElem? (i := 56) rfl)) (hw _ (List.mem_of_getElem? (i := 55) rfl)) (hw _ (List.mem_of_getElem? (i := 57) rfl)) (hw _ (List.mem_of_getElem? (i := 39) rfl)) (by decide) pd_ag rfl rfl rfl rfl (by decide) (by decide) (by decide) (by decide) ?_
                  rintro _ _ - ⟨rfl, rfl⟩
                  refine KW.sub (S' := fun _ => False) (fun x hx => hx.elim) ?_
                  show KW true l Z M_law n0 (fun v _ => v = some (.int 1)) (EL, fun _ => False) h107 14 32 285 #[.val (.int x), .val (.int y), .val (.int flags), .val (.int n1), .val (.int n2), .val (.int fA), .val (.int fB), .val (.int cpy), .val (.int sf), .val (.int c0), .val (.int c1), .val (.int d0), .val (.int d1), .val (.ref a1), .val (.ref a29), .val (.ref a63), .val (.ref a85), .val (.int (eqI (tx n1 c0 c1) (tx n2 d0 d1))), .val (.int (0 : Int32))] [(.int (agI fA fB (tx n1 c0 c1) (tx n2 d0 d1)))]
                  refine k_iload at_285 rfl rfl ?_
                  refine k_icmp (pc1 := 294) (pc' := 290) at_287 (by decide) (by decide) rfl (fun (cd61 : ¬ (agI fA fB (tx n1 c0 c1) (tx n2 d0 d1)) = (0 : Int32)) => absurd (by first | exact agI_a (by assumption) | exact agI_b (by assumption) (by assumption) | exact (agI_c (by assumption) (by assumption)).trans (by first | assumption | exact eqI_one (by assumption))) cd61) (fun (cd61 : (agI fA fB (tx n1 c0 c1) (tx n2 d0 d1)) = (0 : Int32)) => ?_)
                  refine k_iconst (z := (1 : Int32)) at_290 rfl (by decide) ?_
                  refine k_goto (pc' := 295) at_291 (by decide) (by decide) ?_
                  exact k_retNar at_295 rfl (by simp) (z' := (1 : Int32)) (by decide) (by decide) (by decide) rfl
                · skip
                  refine k_iload at_266 rfl rfl ?_
                  refine k_ifc (pc1 := 275) (pc' := 271) at_268 (by decide) (by decide) rfl (fun (cd62 : (eqI (tx n1 c0 c1) (tx n2 d0 d1)) = (0 : Int32)) => ?_) (fun (cd62 : ¬ (eqI (tx n1 c0 c1) (tx n2 d0 d1)) = (0 : Int32)) => ?_)
                  · skip
                    refine k_iconst (z := (0 : Int32)) at_275 rfl (by decide) ?_
                    refine k_istore (Ls' := #[.val (.int x), .val (.int y), .val (.int flags), .val (.int n1), .val (.int n2), .val (.int fA), .val (.int fB), .val (.int cpy), .val (.int sf), .val (.int c0), .val (.int c1), .val (.int d0), .val (.int d1), .val (.ref a1), .val (.ref a29), .val (.ref a63), .val (.ref a85), .val (.int (eqI (tx n1 c0 c1) (tx n2 d0 d1))), .val (.int (0 : Int32))]) at_276 rfl rfl ?_
                    refine k_aload at_278 rfl rfl rfl ?_
                    refine k_aload at_280 rfl rfl rfl ?_
                    have f291 := (((((f54.keep K62 (allS ge38 all0)).ext E65).keep K82 (allS ge75 all0)).ext E87).keep K108 (allS ge100 all0))
                    have f292 := ((F83.ext E87).keep K108 (ninS ne98 nin0))
                    have f293 := ((F84.ext E87).keep K108 (ninS ne98 nin0))
                    have f294 := (f104.keep K108 (ninS ne94 nin0) (ninS ne95 nin0))
                    have f295 := (f105.keep K108 (ninS ne96 nin0) (ninS ne97 nin0))
                    have f296 := (f106.keep K108)
                    refine k_callVirtual (argsL := [(.ref a85)]) (rest := []) (W0 := 0) at_282 rfl (mt_ag l Z a0 hw cs hcs SC hEW a63 a85 a1 a29 t26 t60 fA fB (tx n1 c0 c1) (tx n2 d0 d1) h107 n0 f291 f292 f293 F109 F110 f294 f295) (Kp.pure (fun _ _ q => q.2.symm)) f296 (hw _ (List.mem_of_getElem? (i := 53) rfl)) (hw _ (List.mem_of_getElem? (i := 54) rfl)) (hw _ (List.mem_of_getElem? (i := 56) rfl)) (hw _ (List.mem_of_getElem? (i := 56) rfl)) (hw _ (List.mem_of_getElem? (i := 55) rfl)) (hw _ (List.mem_of_getElem? (i := 57) rfl)) (hw _ (List.mem_of_getElem? (i := 39) rfl)) (by decide) pd_ag rfl rfl rfl rfl (by decide) (by decide) (by decide) (by decide) ?_
                    rintro _ _ - ⟨rfl, rfl⟩
                    refine KW.sub (S' := fun _ => False) (fun x hx => hx.elim) ?_
                    show KW true l Z M_law n0 (fun v _ => v = some (.int 1)) (EL, fun _ => False) h107 14 32 285 #[.val (.int x), .val (.int y), .val (.int flags), .val (.int n1), .val (.int n2), .val (.int fA), .val (.int fB), .val (.int cpy), .val (.int sf), .val (.int c0), .val (.int c1), .val (.int d0), .val (.int d1), .val (.ref a1), .val (.ref a29), .val (.ref a63), .val (.ref a85), .val (.int (eqI (tx n1 c0 c1) (tx n2 d0 d1))), .val (.int (0 : Int32))] [(.int (agI fA fB (tx n1 c0 c1) (tx n2 d0 d1)))]
                    refine k_iload at_285 rfl rfl ?_
                    refine k_icmp (pc1 := 294) (pc' := 290) at_287 (by decide) (by decide) rfl (fun (cd63 : ¬ (agI fA fB (tx n1 c0 c1) (tx n2 d0 d1)) = (0 : Int32)) => absurd (by first | exact agI_a (by assumption) | exact agI_b (by assumption) (by assumption) | exact (agI_c (by assumption) (by assumption)).trans (by first | assumption | exact eqI_one (by assumption))) cd63) (fun (cd63 : (agI fA fB (tx n1 c0 c1) (tx n2 d0 d1)) = (0 : Int32)) => ?_)
                    refine k_iconst (z := (1 : Int32)) at_290 rfl (by decide) ?_
                    refine k_goto (pc' := 295) at_291 (by decide) (by decide) ?_
                    exact k_retNar at_295 rfl (by simp) (z' := (1 : Int32)) (by decide) (by decide) (by decide) rfl
                  · skip
                    refine k_iconst (z := (1 : Int32)) at_271 rfl (by decide) ?_
                    refine k_goto (pc' := 276) at_272 (by decide) (by decide) ?_
                    refine k_istore (Ls' := #[.val (.int x), .val (.int y), .val (.int flags), .val (.int n1), .val (.int n2), .val (.int fA), .val (.int fB), .val (.int cpy), .val (.int sf), .val (.int c0), .val (.int c1), .val (.int d0), .val (.int d1), .val (.ref a1), .val (.ref a29), .val (.ref a63), .val (.ref a85), .val (.int (eqI (tx n1 c0 c1) (tx n2 d0 d1))), .val (.int (1 : Int32))]) at_276 rfl rfl ?_
                    refine k_aload at_278 rfl rfl rfl ?_
                    refine k_aload at_280 rfl rfl rfl ?_
                    have f297 := (((((f54.keep K62 (allS ge38 all0)).ext E65).keep K82 (allS ge75 all0)).ext E87).keep K108 (allS ge100 all0))
                    have f298 := ((F83.ext E87).keep K108 (ninS ne98 nin0))
                    have f299 := ((F84.ext E87).keep K108 (ninS ne98 nin0))
                    have f300 := (f104.keep K108 (ninS ne94 nin0) (ninS ne95 nin0))
                    have f301 := (f105.keep K108 (ninS ne96 nin0) (ninS ne97 nin0))
                    have f302 := (f106.keep K108)
                    refine k_callVirtual (argsL := [(.ref a85)]) (rest := []) (W0 := 0) at_282 rfl (mt_ag l Z a0 hw cs hcs SC hEW a63 a85 a1 a29 t26 t60 fA fB (tx n1 c0 c1) (tx n2 d0 d1) h107 n0 f297 f298 f299 F109 F110 f300 f301) (Kp.pure (fun _ _ q => q.2.symm)) f302 (hw _ (List.mem_of_getElem? (i := 53) rfl)) (hw _ (List.mem_of_getElem? (i := 54) rfl)) (hw _ (List.mem_of_getElem? (i := 56) rfl)) (hw _ (List.mem_of_getElem? (i := 56) rfl)) (hw _ (List.mem_of_getElem? (i := 55) rfl)) (hw _ (List.mem_of_getElem? (i := 57) rfl)) (hw _ (List.mem_of_getElem? (i := 39) rfl)) (by decide) pd_ag rfl rfl rfl rfl (by decide) (by decide) (by decide) (by decide) ?_
                    rintro _ _ - ⟨rfl, rfl⟩
                    refine KW.sub (S' := fun _ => False) (fun x hx => hx.elim) ?_
                    show KW true l Z M_law n0 (fun v _ => v = some (.int 1)) (EL, fun _ => False) h107 14 32 285 #[.val (.int x), .val (.int y), .val (.int flags), .val (.int n1), .val (.int n2), .val (.int fA), .val (.int fB), .val (.int cpy), .val (.int sf), .val (.int c0), .val (.int c1), .val (.int d0), .val (.int d1), .val (.ref a1), .val (.ref a29), .val (.ref a63), .val (.ref a85), .val (.int (eqI (tx n1 c0 c1) (tx n2 d0 d1))), .val (.int (1 : Int32))] [(.int (agI fA fB (tx n1 c0 c1) (tx n2 d0 d1)))]
                    refine k_iload at_285 rfl rfl ?_
                    refine k_icmp (pc1 := 294) (pc' := 290) at_287 (by decide) (by decide) rfl (fun (cd64 : ¬ (agI fA fB (tx n1 c0 c1) (tx n2 d0 d1)) = (1 : Int32)) => absurd (by first | exact agI_a (by assumption) | exact agI_b (by assumption) (by assumption) | exact (agI_c (by assumption) (by assumption)).trans (by first | assumption | exact eqI_one (by assumption))) cd64) (fun (cd64 : (agI fA fB (tx n1 c0 c1) (tx n2 d0 d1)) = (1 : Int32)) => ?_)
                    refine k_iconst (z := (1 : Int32)) at_290 rfl (by decide) ?_
                    refine k_goto (pc' := 295) at_291 (by decide) (by decide) ?_
                    exact k_retNar at_295 rfl (by simp) (z' := (1 : Int32)) (by decide) (by decide) (by decide) rfl
  · skip
    refine k_aload at_184 rfl rfl rfl ?_
    refine k_aload at_186 rfl rfl rfl ?_
    have f303 := (((f54.keep K62 (allS ge38 all0)).ext E65).keep K82 (allS ge75 all0))
    have f304 := (f79.keep K82 (ninS ne70 nin0) (ninS ne71 nin0))
    have f305 := (A66.keep K82)
    refine k_callVirtual (argsL := [(.ref a63)]) (rest := []) (W0 := 0) at_188 rfl (mt_ag l Z a0 hw cs hcs SC hEW a63 a63 a1 a1 t26 t26 fA fA (tx n1 c0 c1) (tx n1 c0 c1) h81 n0 f303 F83 F84 F83 F84 f304 f304) (Kp.pure (fun _ _ q => q.2.symm)) f305 (hw _ (List.mem_of_getElem? (i := 53) rfl)) (hw _ (List.mem_of_getElem? (i := 54) rfl)) (hw _ (List.mem_of_getElem? (i := 56) rfl)) (hw _ (List.mem_of_getElem? (i := 56) rfl)) (hw _ (List.mem_of_getElem? (i := 55) rfl)) (hw _ (List.mem_of_getElem? (i := 57) rfl)) (hw _ (List.mem_of_getElem? (i := 39) rfl)) (by decide) pd_ag rfl rfl rfl rfl (by decide) (by decide) (by decide) (by decide) ?_
    rintro _ _ - ⟨rfl, rfl⟩
    refine KW.sub (S' := fun _ => False) (fun x hx => hx.elim) ?_
    show KW true l Z M_law n0 (fun v _ => v = some (.int 1)) (EL, fun _ => False) h81 13 30 191 #[.val (.int x), .val (.int y), .val (.int flags), .val (.int n1), .val (.int n2), .val (.int fA), .val (.int fB), .val (.int cpy), .val (.int sf), .val (.int c0), .val (.int c1), .val (.int d0), .val (.int d1), .val (.ref a1), .val (.ref a29), .val (.ref a63), .unset, .unset, .unset] [(.int (agI fA fA (tx n1 c0 c1) (tx n1 c0 c1)))]
    refine k_istore (Ls' := #[.val (.int x), .val (.int y), .val (.int flags), .val (.int n1), .val (.int n2), .val (.int fA), .val (.int fB), .val (.int cpy), .val (.int sf), .val (.int c0), .val (.int c1), .val (.int d0), .val (.int d1), .val (.ref a1), .val (.ref a29), .val (.ref a63), .val (.int (agI fA fA (tx n1 c0 c1) (tx n1 c0 c1))), .unset, .unset]) at_191 rfl rfl ?_
    refine k_iload at_193 rfl rfl ?_
    refine k_iload at_195 rfl rfl ?_
    refine k_icmp (pc1 := 204) (pc' := 200) at_197 (by decide) (by decide) rfl (fun (cd65 : ¬ (agI fA fA (tx n1 c0 c1) (tx n1 c0 c1)) = fA) => absurd (by exact agI_self hfA _) cd65) (fun (cd65 : (agI fA fA (tx n1 c0 c1) (tx n1 c0 c1)) = fA) => ?_)
    refine k_iconst (z := (1 : Int32)) at_200 rfl (by decide) ?_
    refine k_goto (pc' := 205) at_201 (by decide) (by decide) ?_
    exact k_retNar at_205 rfl (by simp) (z' := (1 : Int32)) (by decide) (by decide) (by decide) rfl
set_option maxRecDepth 65536 in
set_option maxHeartbeats 40000000 in
theorem kw_77 (l : Launch) (Z : State) (a0 : Array Value) (hw : ∀ d ∈ tables_1, d.before a0 Z = true) (cs : Int32) (hcs : ¬ cs = 0) (SC : Sta Z Z.heap "java/lang/String" "COMPACT_STRINGS" "Z" (.int cs)) (hEW : EW Z a0 EL) (x y flags : Int32) (n1 n2 fA fB cpy sf : Int32) (h0 : Heap) (n0 : Nat) (OD : Old Z n0 h0) (hn1 : N3 n1) (hn2 : N3 n2) (hfA : B2 fA) (hfB : B2 fB) : KW true l Z M_law n0 (fun v _ => v = some (.int 1)) (EL, fun _ => False) h0 0 0 77 #[.val (.int x), .val (.int y), .val (.int flags), .val (.int n1), .val (.int n2), .val (.int fA), .val (.int fB), .val (.int cpy), .val (.int sf), .unset, .unset, .unset, .unset, .unset, .unset, .unset, .unset, .unset, .unset] [] := by
  refine k_iloadN at_77 rfl rfl ?_
  refine k_sipush (z := (255 : Int32)) at_78 rfl (by decide) ?_
  refine k_iand at_81 rfl ?_
  refine k_i2c at_82 rfl ?_
  refine k_istore (Ls' := #[.val (.int x), .val (.int y), .val (.int flags), .val (.int n1), .val (.int n2), .val (.int fA), .val (.int fB), .val (.int cpy), .val (.int sf), .val (.int (UInt32.toInt32 (UInt16.toUInt32 (UInt32.toUInt16 (Int32.toUInt32 (x &&& (255 : Int32))))))), .unset, .unset, .unset, .unset, .unset, .unset, .unset, .unset, .unset]) at_83 rfl rfl ?_
  refine k_iloadN at_85 rfl rfl ?_
  refine k_bipush (z := (8 : Int32)) at_86 rfl (by decide) ?_
  refine k_ishr at_88 rfl ?_
  refine k_sipush (z := (255 : Int32)) at_89 rfl (by decide) ?_
  refine k_iand at_92 rfl ?_
  refine k_i2c at_93 rfl ?_
  refine k_istore (Ls' := #[.val (.int x), .val (.int y), .val (.int flags), .val (.int n1), .val (.int n2), .val (.int fA), .val (.int fB), .val (.int cpy), .val (.int sf), .val (.int (UInt32.toInt32 (UInt16.toUInt32 (UInt32.toUInt16 (Int32.toUInt32 (x &&& (255 : Int32))))))), .val (.int (UInt32.toInt32 (UInt16.toUInt32 (UInt32.toUInt16 (Int32.toUInt32 ((x >>> ((8 : Int32) &&& 31)) &&& (255 : Int32))))))), .unset, .unset, .unset, .unset, .unset, .unset, .unset, .unset]) at_94 rfl rfl ?_
  refine k_iloadN at_96 rfl rfl ?_
  refine k_sipush (z := (255 : Int32)) at_97 rfl (by decide) ?_
  refine k_iand at_100 rfl ?_
  refine k_i2c at_101 rfl ?_
  refine k_istore (Ls' := #[.val (.int x), .val (.int y), .val (.int flags), .val (.int n1), .val (.int n2), .val (.int fA), .val (.int fB), .val (.int cpy), .val (.int sf), .val (.int (UInt32.toInt32 (UInt16.toUInt32 (UInt32.toUInt16 (Int32.toUInt32 (x &&& (255 : Int32))))))), .val (.int (UInt32.toInt32 (UInt16.toUInt32 (UInt32.toUInt16 (Int32.toUInt32 ((x >>> ((8 : Int32) &&& 31)) &&& (255 : Int32))))))), .val (.int (UInt32.toInt32 (UInt16.toUInt32 (UInt32.toUInt16 (Int32.toUInt32 (y &&& (255 : Int32))))))), .unset, .unset, .unset, .unset, .unset, .unset, .unset]) at_102 rfl rfl ?_
  refine k_iloadN at_104 rfl rfl ?_
  refine k_bipush (z := (8 : Int32)) at_105 rfl (by decide) ?_
  refine k_ishr at_107 rfl ?_
  refine k_sipush (z := (255 : Int32)) at_108 rfl (by decide) ?_
  refine k_iand at_111 rfl ?_
  refine k_i2c at_112 rfl ?_
  refine k_istore (Ls' := #[.val (.int x), .val (.int y), .val (.int flags), .val (.int n1), .val (.int n2), .val (.int fA), .val (.int fB), .val (.int cpy), .val (.int sf), .val (.int (UInt32.toInt32 (UInt16.toUInt32 (UInt32.toUInt16 (Int32.toUInt32 (x &&& (255 : Int32))))))), .val (.int (UInt32.toInt32 (UInt16.toUInt32 (UInt32.toUInt16 (Int32.toUInt32 ((x >>> ((8 : Int32) &&& 31)) &&& (255 : Int32))))))), .val (.int (UInt32.toInt32 (UInt16.toUInt32 (UInt32.toUInt16 (Int32.toUInt32 (y &&& (255 : Int32))))))), .val (.int (UInt32.toInt32 (UInt16.toUInt32 (UInt32.toUInt16 (Int32.toUInt32 ((y >>> ((8 : Int32) &&& 31)) &&& (255 : Int32))))))), .unset, .unset, .unset, .unset, .unset, .unset]) at_113 rfl rfl ?_
  refine k_iload at_115 rfl rfl ?_
  refine k_ifc (pc1 := 131) (pc' := 120) at_117 (by decide) (by decide) rfl (fun (cd66 : cpy = (0 : Int32)) => ?_) (fun (cd66 : ¬ cpy = (0 : Int32)) => ?_)
  · skip
    exact kw_131 l Z a0 hw cs hcs SC hEW x y flags _ _ fA fB cpy sf _ _ _ _ h0 n0 OD hn1 (by first | exact hn1 | exact hn2) hfA hfB (own_ch _) (own_ch _) (own_ch _) (own_ch _)
  · skip
    refine k_iload at_120 rfl rfl ?_
    refine k_istore (Ls' := #[.val (.int x), .val (.int y), .val (.int flags), .val (.int n1), .val (.int n2), .val (.int fA), .val (.int fB), .val (.int cpy), .val (.int sf), .val (.int (UInt32.toInt32 (UInt16.toUInt32 (UInt32.toUInt16 (Int32.toUInt32 (x &&& (255 : Int32))))))), .val (.int (UInt32.toInt32 (UInt16.toUInt32 (UInt32.toUInt16 (Int32.toUInt32 ((x >>> ((8 : Int32) &&& 31)) &&& (255 : Int32))))))), .val (.int (UInt32.toInt32 (UInt16.toUInt32 (UInt32.toUInt16 (Int32.toUInt32 (x &&& (255 : Int32))))))), .val (.int (UInt32.toInt32 (UInt16.toUInt32 (UInt32.toUInt16 (Int32.toUInt32 ((y >>> ((8 : Int32) &&& 31)) &&& (255 : Int32))))))), .unset, .unset, .unset, .unset, .unset, .unset]) at_122 rfl rfl ?_
    refine k_iload at_124 rfl rfl ?_
    refine k_istore (Ls' := #[.val (.int x), .val (.int y), .val (.int flags), .val (.int n1), .val (.int n2), .val (.int fA), .val (.int fB), .val (.int cpy), .val (.int sf), .val (.int (UInt32.toInt32 (UInt16.toUInt32 (UInt32.toUInt16 (Int32.toUInt32 (x &&& (255 : Int32))))))), .val (.int (UInt32.toInt32 (UInt16.toUInt32 (UInt32.toUInt16 (Int32.toUInt32 ((x >>> ((8 : Int32) &&& 31)) &&& (255 : Int32))))))), .val (.int (UInt32.toInt32 (UInt16.toUInt32 (UInt32.toUInt16 (Int32.toUInt32 (x &&& (255 : Int32))))))), .val (.int (UInt32.toInt32 (UInt16.toUInt32 (UInt32.toUInt16 (Int32.toUInt32 ((x >>> ((8 : Int32) &&& 31)) &&& (255 : Int32))))))), .unset, .unset, .unset, .unset, .unset, .unset]) at_126 rfl rfl ?_
    refine k_iloadN at_128 rfl rfl ?_
    refine k_istore (Ls' := #[.val (.int x), .val (.int y), .val (.int flags), .val (.int n1), .val (.int n1), .val (.int fA), .val (.int fB), .val (.int cpy), .val (.int sf), .val (.int (UInt32.toInt32 (UInt16.toUInt32 (UInt32.toUInt16 (Int32.toUInt32 (x &&& (255 : Int32))))))), .val (.int (UInt32.toInt32 (UInt16.toUInt32 (UInt32.toUInt16 (Int32.toUInt32 ((x >>> ((8 : Int32) &&& 31)) &&& (255 : Int32))))))), .val (.int (UInt32.toInt32 (UInt16.toUInt32 (UInt32.toUInt16 (Int32.toUInt32 (x &&& (255 : Int32))))))), .val (.int (UInt32.toInt32 (UInt16.toUInt32 (UInt32.toUInt16 (Int32.toUInt32 ((x >>> ((8 : Int32) &&& 31)) &&& (255 : Int32))))))), .unset, .unset, .unset, .unset, .unset, .unset]) at_129 rfl rfl ?_
    exact kw_131 l Z a0 hw cs hcs SC hEW x y flags _ _ fA fB cpy sf _ _ _ _ h0 n0 OD hn1 (by first | exact hn1 | exact hn2) hfA hfB (own_ch _) (own_ch _) (own_ch _) (own_ch _)
set_option maxRecDepth 65536 in
set_option maxHeartbeats 40000000 in
theorem kw_61 (l : Launch) (Z : State) (a0 : Array Value) (hw : ∀ d ∈ tables_1, d.before a0 Z = true) (cs : Int32) (hcs : ¬ cs = 0) (SC : Sta Z Z.heap "java/lang/String" "COMPACT_STRINGS" "Z" (.int cs)) (hEW : EW Z a0 EL) (x y flags : Int32) (n1 n2 fA fB cpy : Int32) (h0 : Heap) (n0 : Nat) (OD : Old Z n0 h0) (hn1 : N3 n1) (hn2 : N3 n2) (hfA : B2 fA) (hfB : B2 fB) : KW true l Z M_law n0 (fun v _ => v = some (.int 1)) (EL, fun _ => False) h0 0 0 61 #[.val (.int x), .val (.int y), .val (.int flags), .val (.int n1), .val (.int n2), .val (.int fA), .val (.int fB), .val (.int cpy), .unset, .unset, .unset, .unset, .unset, .unset, .unset, .unset, .unset, .unset, .unset] [] := by
  refine k_iloadN at_61 rfl rfl ?_
  refine k_bipush (z := (7 : Int32)) at_62 rfl (by decide) ?_
  refine k_ishr at_64 rfl ?_
  refine k_iconst (z := (1 : Int32)) at_65 rfl (by decide) ?_
  refine k_iand at_66 rfl ?_
  refine k_ifc (pc1 := 74) (pc' := 70) at_67 (by decide) (by decide) rfl (fun (cd67 : ((flags >>> ((7 : Int32) &&& 31)) &&& (1 : Int32)) = (0 : Int32)) => ?_) (fun (cd67 : ¬ ((flags >>> ((7 : Int32) &&& 31)) &&& (1 : Int32)) = (0 : Int32)) => ?_)
  · skip
    refine k_iconst (z := (0 : Int32)) at_74 rfl (by decide) ?_
    refine k_istore (Ls' := #[.val (.int x), .val (.int y), .val (.int flags), .val (.int n1), .val (.int n2), .val (.int fA), .val (.int fB), .val (.int cpy), .val (.int (0 : Int32)), .unset, .unset, .unset, .unset, .unset, .unset, .unset, .unset, .unset, .unset]) at_75 rfl rfl ?_
    exact kw_77 l Z a0 hw cs hcs SC hEW x y flags n1 n2 fA fB cpy _ h0 n0 OD hn1 hn2 hfA hfB
  · skip
    refine k_iconst (z := (1 : Int32)) at_70 rfl (by decide) ?_
    refine k_goto (pc' := 75) at_71 (by decide) (by decide) ?_
    refine k_istore (Ls' := #[.val (.int x), .val (.int y), .val (.int flags), .val (.int n1), .val (.int n2), .val (.int fA), .val (.int fB), .val (.int cpy), .val (.int (1 : Int32)), .unset, .unset, .unset, .unset, .unset, .unset, .unset, .unset, .unset, .unset]) at_75 rfl rfl ?_
    exact kw_77 l Z a0 hw cs hcs SC hEW x y flags n1 n2 fA fB cpy _ h0 n0 OD hn1 hn2 hfA hfB
set_option maxRecDepth 65536 in
set_option maxHeartbeats 40000000 in
theorem kw_45 (l : Launch) (Z : State) (a0 : Array Value) (hw : ∀ d ∈ tables_1, d.before a0 Z = true) (cs : Int32) (hcs : ¬ cs = 0) (SC : Sta Z Z.heap "java/lang/String" "COMPACT_STRINGS" "Z" (.int cs)) (hEW : EW Z a0 EL) (x y flags : Int32) (n1 n2 fA fB : Int32) (h0 : Heap) (n0 : Nat) (OD : Old Z n0 h0) (hn1 : N3 n1) (hn2 : N3 n2) (hfA : B2 fA) (hfB : B2 fB) : KW true l Z M_law n0 (fun v _ => v = some (.int 1)) (EL, fun _ => False) h0 0 0 45 #[.val (.int x), .val (.int y), .val (.int flags), .val (.int n1), .val (.int n2), .val (.int fA), .val (.int fB), .unset, .unset, .unset, .unset, .unset, .unset, .unset, .unset, .unset, .unset, .unset, .unset] [] := by
  refine k_iloadN at_45 rfl rfl ?_
  refine k_bipush (z := (6 : Int32)) at_46 rfl (by decide) ?_
  refine k_ishr at_48 rfl ?_
  refine k_iconst (z := (1 : Int32)) at_49 rfl (by decide) ?_
  refine k_iand at_50 rfl ?_
  refine k_ifc (pc1 := 58) (pc' := 54) at_51 (by decide) (by decide) rfl (fun (cd68 : ((flags >>> ((6 : Int32) &&& 31)) &&& (1 : Int32)) = (0 : Int32)) => ?_) (fun (cd68 : ¬ ((flags >>> ((6 : Int32) &&& 31)) &&& (1 : Int32)) = (0 : Int32)) => ?_)
  · skip
    refine k_iconst (z := (0 : Int32)) at_58 rfl (by decide) ?_
    refine k_istore (Ls' := #[.val (.int x), .val (.int y), .val (.int flags), .val (.int n1), .val (.int n2), .val (.int fA), .val (.int fB), .val (.int (0 : Int32)), .unset, .unset, .unset, .unset, .unset, .unset, .unset, .unset, .unset, .unset, .unset]) at_59 rfl rfl ?_
    exact kw_61 l Z a0 hw cs hcs SC hEW x y flags n1 n2 fA fB _ h0 n0 OD hn1 hn2 hfA hfB
  · skip
    refine k_iconst (z := (1 : Int32)) at_54 rfl (by decide) ?_
    refine k_goto (pc' := 59) at_55 (by decide) (by decide) ?_
    refine k_istore (Ls' := #[.val (.int x), .val (.int y), .val (.int flags), .val (.int n1), .val (.int n2), .val (.int fA), .val (.int fB), .val (.int (1 : Int32)), .unset, .unset, .unset, .unset, .unset, .unset, .unset, .unset, .unset, .unset, .unset]) at_59 rfl rfl ?_
    exact kw_61 l Z a0 hw cs hcs SC hEW x y flags n1 n2 fA fB _ h0 n0 OD hn1 hn2 hfA hfB
set_option maxRecDepth 65536 in
set_option maxHeartbeats 40000000 in
theorem kw_30 (l : Launch) (Z : State) (a0 : Array Value) (hw : ∀ d ∈ tables_1, d.before a0 Z = true) (cs : Int32) (hcs : ¬ cs = 0) (SC : Sta Z Z.heap "java/lang/String" "COMPACT_STRINGS" "Z" (.int cs)) (hEW : EW Z a0 EL) (x y flags : Int32) (n1 n2 fA : Int32) (h0 : Heap) (n0 : Nat) (OD : Old Z n0 h0) (hn1 : N3 n1) (hn2 : N3 n2) (hfA : B2 fA) : KW true l Z M_law n0 (fun v _ => v = some (.int 1)) (EL, fun _ => False) h0 0 0 30 #[.val (.int x), .val (.int y), .val (.int flags), .val (.int n1), .val (.int n2), .val (.int fA), .unset, .unset, .unset, .unset, .unset, .unset, .unset, .unset, .unset, .unset, .unset, .unset, .unset] [] := by
  refine k_iloadN at_30 rfl rfl ?_
  refine k_iconst (z := (5 : Int32)) at_31 rfl (by decide) ?_
  refine k_ishr at_32 rfl ?_
  refine k_iconst (z := (1 : Int32)) at_33 rfl (by decide) ?_
  refine k_iand at_34 rfl ?_
  refine k_ifc (pc1 := 42) (pc' := 38) at_35 (by decide) (by decide) rfl (fun (cd69 : ((flags >>> ((5 : Int32) &&& 31)) &&& (1 : Int32)) = (0 : Int32)) => ?_) (fun (cd69 : ¬ ((flags >>> ((5 : Int32) &&& 31)) &&& (1 : Int32)) = (0 : Int32)) => ?_)
  · skip
    refine k_iconst (z := (0 : Int32)) at_42 rfl (by decide) ?_
    refine k_istore (Ls' := #[.val (.int x), .val (.int y), .val (.int flags), .val (.int n1), .val (.int n2), .val (.int fA), .val (.int (0 : Int32)), .unset, .unset, .unset, .unset, .unset, .unset, .unset, .unset, .unset, .unset, .unset, .unset]) at_43 rfl rfl ?_
    exact kw_45 l Z a0 hw cs hcs SC hEW x y flags n1 n2 fA _ h0 n0 OD hn1 hn2 hfA (by first | exact Or.inl rfl | exact Or.inr rfl)
  · skip
    refine k_iconst (z := (1 : Int32)) at_38 rfl (by decide) ?_
    refine k_goto (pc' := 43) at_39 (by decide) (by decide) ?_
    refine k_istore (Ls' := #[.val (.int x), .val (.int y), .val (.int flags), .val (.int n1), .val (.int n2), .val (.int fA), .val (.int (1 : Int32)), .unset, .unset, .unset, .unset, .unset, .unset, .unset, .unset, .unset, .unset, .unset, .unset]) at_43 rfl rfl ?_
    exact kw_45 l Z a0 hw cs hcs SC hEW x y flags n1 n2 fA _ h0 n0 OD hn1 hn2 hfA (by first | exact Or.inl rfl | exact Or.inr rfl)
set_option maxRecDepth 65536 in
set_option maxHeartbeats 40000000 in
theorem kw_law (l : Launch) (Z : State) (a0 : Array Value) (hw : ∀ d ∈ tables_1, d.before a0 Z = true) (cs : Int32) (hcs : ¬ cs = 0) (SC : Sta Z Z.heap "java/lang/String" "COMPACT_STRINGS" "Z" (.int cs)) (hEW : EW Z a0 EL) (x y flags : Int32) (h0 : Heap) (n0 : Nat) (OD : Old Z n0 h0) : KW true l Z M_law n0 (fun v _ => v = some (.int 1)) (EL, fun _ => False) h0 0 0 0 #[.val (.int x), .val (.int y), .val (.int flags), .unset, .unset, .unset, .unset, .unset, .unset, .unset, .unset, .unset, .unset, .unset, .unset, .unset, .unset, .unset, .unset] [] := by
  refine k_iloadN at_0 rfl rfl ?_
  refine k_iconst (z := (3 : Int32)) at_1 rfl (by decide) ?_
  refine k_iand at_2 rfl ?_
  refine k_iconst (z := (3 : Int32)) at_3 rfl (by decide) ?_
  refine k_irem at_4 rfl (by decide) ?_
  refine k_istoreN (Ls' := #[.val (.int x), .val (.int y), .val (.int flags), .val (.int ((flags &&& (3 : Int32)) % (3 : Int32))), .unset, .unset, .unset, .unset, .unset, .unset, .unset, .unset, .unset, .unset, .unset, .unset, .unset, .unset, .unset]) at_5 rfl rfl ?_
  refine k_iloadN at_6 rfl rfl ?_
  refine k_iconst (z := (2 : Int32)) at_7 rfl (by decide) ?_
  refine k_ishr at_8 rfl ?_
  refine k_iconst (z := (3 : Int32)) at_9 rfl (by decide) ?_
  refine k_iand at_10 rfl ?_
  refine k_iconst (z := (3 : Int32)) at_11 rfl (by decide) ?_
  refine k_irem at_12 rfl (by decide) ?_
  refine k_istore (Ls' := #[.val (.int x), .val (.int y), .val (.int flags), .val (.int ((flags &&& (3 : Int32)) % (3 : Int32))), .val (.int (((flags >>> ((2 : Int32) &&& 31)) &&& (3 : Int32)) % (3 : Int32))), .unset, .unset, .unset, .unset, .unset, .unset, .unset, .unset, .unset, .unset, .unset, .unset, .unset, .unset]) at_13 rfl rfl ?_
  refine k_iloadN at_15 rfl rfl ?_
  refine k_iconst (z := (4 : Int32)) at_16 rfl (by decide) ?_
  refine k_ishr at_17 rfl ?_
  refine k_iconst (z := (1 : Int32)) at_18 rfl (by decide) ?_
  refine k_iand at_19 rfl ?_
  refine k_ifc (pc1 := 27) (pc' := 23) at_20 (by decide) (by decide) rfl (fun (cd70 : ((flags >>> ((4 : Int32) &&& 31)) &&& (1 : Int32)) = (0 : Int32)) => ?_) (fun (cd70 : ¬ ((flags >>> ((4 : Int32) &&& 31)) &&& (1 : Int32)) = (0 : Int32)) => ?_)
  · skip
    refine k_iconst (z := (0 : Int32)) at_27 rfl (by decide) ?_
    refine k_istore (Ls' := #[.val (.int x), .val (.int y), .val (.int flags), .val (.int ((flags &&& (3 : Int32)) % (3 : Int32))), .val (.int (((flags >>> ((2 : Int32) &&& 31)) &&& (3 : Int32)) % (3 : Int32))), .val (.int (0 : Int32)), .unset, .unset, .unset, .unset, .unset, .unset, .unset, .unset, .unset, .unset, .unset, .unset, .unset]) at_28 rfl rfl ?_
    exact kw_30 l Z a0 hw cs hcs SC hEW x y flags _ _ _ h0 n0 OD (own_n3 _) (own_n3 _) (by first | exact Or.inl rfl | exact Or.inr rfl)
  · skip
    refine k_iconst (z := (1 : Int32)) at_23 rfl (by decide) ?_
    refine k_goto (pc' := 28) at_24 (by decide) (by decide) ?_
    refine k_istore (Ls' := #[.val (.int x), .val (.int y), .val (.int flags), .val (.int ((flags &&& (3 : Int32)) % (3 : Int32))), .val (.int (((flags >>> ((2 : Int32) &&& 31)) &&& (3 : Int32)) % (3 : Int32))), .val (.int (1 : Int32)), .unset, .unset, .unset, .unset, .unset, .unset, .unset, .unset, .unset, .unset, .unset, .unset, .unset]) at_28 rfl rfl ?_
    exact kw_30 l Z a0 hw cs hcs SC hEW x y flags _ _ _ h0 n0 OD (own_n3 _) (own_n3 _) (by first | exact Or.inl rfl | exact Or.inr rfl)
set_option maxRecDepth 65536 in
set_option maxHeartbeats 40000000 in
theorem comes_1 {Post : Tables → Env → Array Value → State → Outcome → State → Prop} (hpost : ∀ tb e args s v u, (limb_1_1.after args s (.returned v) u = true ∧ limb_1_2.after args s (.returned v) u = true ∧ True) → FramedW s (.returned v) u (Jvm.fieldLocs frame_1_writes args s ++ Jvm.arrayLocs frame_1_arrays args s ++ Jvm.staticLocs frame_1_statics s) 32 1152 → Post tb e args s (.returned v) u) :
    ArmFor flags0 classFile x code maxLocals ret World_1 tables_1 room_1 Calls_1 rest_1 Pre_1 Post := by
  intro l hfl _ _ p e ha hc hk s m args below hf hA hF happ hP
  obtain ⟨hcalls, hrest, hpre⟩ := hP
  obtain ⟨-, -, -, hnamed, -, -, -, hat⟩ := (Spec.applies_iff hf).mp happ
  obtain ⟨hg, hn⟩ := and_e (Cond.before_iff.mp (show (Jvm.Cond.and given_1 narrow_1).before args s = true from hpre))
  obtain ⟨hcount, g0⟩ := and_e hg
  obtain ⟨g0, g1⟩ := and_e g0
  obtain ⟨g1, g2⟩ := and_e g1
  obtain ⟨w0, w1, w2, rfl⟩ : ∃ w0 w1 w2 : Value, args = #[w0, w1, w2] := by
    have hs : args.size = 3 := by simpa [Cond.value, given_1] using hcount
    obtain ⟨L⟩ := args
    match L, hs with
    | [w0, w1, w2], _ => exact ⟨w0, w1, w2, rfl⟩
  have hw := fun d (hd : d ∈ tables_1) => atoms_spec (ws := Jvm.Cond.code x code maxLocals ret :: tables_1) hat d (List.mem_cons_of_mem _ hd)
  obtain ⟨x0, e0⟩ := is_v g0
  obtain rfl : w0 = (.int x0) := Option.some.inj e0
  obtain ⟨x1, e1⟩ := is_v g1
  obtain rfl : w1 = (.int x1) := Option.some.inj e1
  obtain ⟨x2, e2⟩ := is_v g2
  obtain rfl : w2 = (.int x2) := Option.some.inj e2
  have q0 := Cond.before_iff.mp (show rest_1_c.before _ s = true from hrest)
  obtain ⟨r0, q1⟩ := and_e q0
  obtain ⟨r1, q2⟩ := and_e q1
  obtain ⟨r2, q3⟩ := and_e q2
  obtain ⟨r3, q4⟩ := and_e q3
  obtain ⟨r4, q5⟩ := and_e q4
  obtain ⟨r5, q6⟩ := and_e q5
  obtain ⟨r6, q7⟩ := and_e q6
  obtain ⟨r7, q8⟩ := and_e q7
  obtain ⟨r8, q9⟩ := and_e q8
  obtain ⟨cs, ecs⟩ := is_v r1
  have SC : Sta s s.heap "java/lang/String" "COMPACT_STRINGS" "Z" (.int cs) := Sta.start ecs (Or.inl (Cond.before_iff.mpr r0))
  have hcs : ¬ cs = (0 : Int32) := gotF (Cond.eq_ints ecs (Term.int_eval (0))) (not_v r2)
  have hEW : EW s _ EL := (EW.cons (hw _ (List.mem_of_getElem? (i := 34) rfl)) (by decide) EW.nil)
  have hCH : CHv s EL s.vm s.heap := CHv.start hEW (fun p hp => hcalls.1 p hp) (Cond.before_iff.mpr r2) (hw _ (List.mem_of_getElem? (i := 23) rfl)) (hw _ (List.mem_of_getElem? (i := 1) rfl))
  obtain ⟨n, o, h1, h2, h3, _, L, rfl, ⟨N, -, rfl⟩, -, hq⟩ := mtw_of_kw (a0 := _) (ws := tables_1) (P := (EL, fun _ => False)) pf_law hEW (fun m => by first | (simp [entryFrame, mkF, argsToLocals, Value.category, maxLocals]; done) | rfl) (kw_law l s _ hw cs hcs SC hEW x0 x1 x2 s.heap s.heap.size (Old.start s)) p e ha hc hk s m _ below hf ((Spec.applies_iff_loose hf).mp happ).1 ⟨rfl, State.Warmed39.refl s, rfl, hCH, fun _ hx => hx.elim⟩ trivial
  refine ⟨n, _, h1, h2, h3, hpost _ _ _ _ _ _ ⟨Cond.after_iff.mpr rfl, Cond.after_iff.mpr (eq_i res_at (Term.int_eval (1)) rfl), trivial⟩ ⟨hq.1, hq.2.1, hq.2.2.1, (hq.2.2.2.sift fun y hy => Or.inr (N y hy)).mono (by decide) (by decide)⟩⟩
theorem main_1_1 : Claimed_1_1 := comes_1 fun _ _ _ _ _ _ h hF => ⟨h.1, hF⟩
theorem main_1_2 : Claimed_1_2 := comes_1 fun _ _ _ _ _ _ h hF => ⟨h.2.1, hF⟩
end Jvm.Pilot.@@N@@
namespace Jvm.Pilot.@@N@@
open Jvm Jvm.ClassFile Sem Op Lib Jvm.Free Jvm.Stand Jvm.Pilot.@@N@@.Jvm.D
/-! MADE BY PROGRAM (witnessworld.py) out of the Statement's table words and the real class files: 21 classes; the members and pool entries that the words name. The judged class is class 1, her method 2. -/
namespace start1
open Jvm.ClassFile
def u (s : String) : CpInfo := .utf8 (stringToUtf16 s)
/-- a pool by its gaps: so many unusable entries, then the entry; so many at the end -/
def gap : Nat → List CpInfo → List CpInfo
  | 0, r => r
  | n + 1, r => .unusable :: gap n r
def poolList (es : List (Nat × CpInfo)) (last : Nat) : List CpInfo := es.foldr (fun e r => gap e.1 (e.2 :: r)) (gap last [])
def pool (es : List (Nat × CpInfo)) (last : Nat) : Array CpInfo := ⟨poolList es last⟩
def fileOf (pool : Array CpInfo) (this : Nat) (attrs : Array Attribute := #[]) (ms : Array MethodInfo := #[]) (fl : Nat := 33) (sup : Nat := 0) (ifs : Array Nat := #[]) (fds : Array FieldInfo := #[]) : ClassFile where
  minorVersion := 0
  majorVersion := 65
  constantPool := pool
  accessFlags := fl
  thisClass := this
  superClass := sup
  interfaces := ifs
  fields := fds
  methods := ms
  attributes := attrs
def plain (name : String) (sup : Option ClassId) : Class where
  name := name
  kind := .ordinary
  loader := none
  accessFlags := 33
  super := sup
  interfaces := #[]
  cf := none
  fields := #[]
  methods := #[]
  instanceTypes := #[]
  staticTypes := #[]
  resolved := #[]
  callSites := []
  init := .initialized
  statics := none
  mirror := none

def pool0 : Array CpInfo := pool [(5, u "<init>"), (0, u "()V"), (1, .class_ 10), (1, u "java/lang/Object")] 113

def k0c0 : Code := { maxStack := 0, maxLocals := 1, code := object_method_1_code, exceptionTable := #[], attributes := #[] }
def k0m0 : Method := { name := "<init>", desc := "()V", sig := { parameters := [], returnType := none }, accessFlags := 1, code := some k0c0 }
/-- java/lang/Object -/
def k0 : Class := { plain "java/lang/Object" none with
  accessFlags := 33
  interfaces := #[]
  cf := some (fileOf pool0 8 #[] #[{ accessFlags := 1, nameIndex := 5, descriptorIndex := 6, attributes := #[] }] 33 0 #[] #[])
  fields := #[]
  methods := #[k0m0]
  instanceTypes := #[]
  staticTypes := #[]
  resolved := Array.replicate 124 none
  statics := none }

def pool1 : Array CpInfo := pool [(2, .class_ 4), (1, u "java/lang/Object"), (0, u "<init>"), (0, u "()V"), (0, .class_ 8), (0, u "java/lang/String"), (0, .methodref 10 11), (0, .class_ 12), (0, .nameAndType 13 14), (0, u "com/example/custody/custody/report/ComparandAgreesWithPinLaw"), (0, u "chars"), (0, u "(ICC)[C"), (0, .methodref 7 16), (0, .nameAndType 5 17), (0, u "([C)V"), (0, .class_ 19), (0, u "com/example/custody/custody/report/Comparand"), (0, .methodref 18 21), (0, .nameAndType 5 22), (0, u "(Ljava/lang/String;Z)V"), (0, .methodref 18 24), (0, .nameAndType 25 26), (0, u "agreesWith"), (0, u "(Lcom/example/custody/custody/report/Comparand;)Z"), (3, u "law"), (0, u "(III)Z")] 2

def k1m0 : Method := { name := "<init>", desc := "()V", sig := { parameters := [], returnType := none }, accessFlags := 1, code := none }
def k1c1 : Code := { maxStack := 4, maxLocals := 3, code := method_2_code, exceptionTable := #[], attributes := #[] }
def k1m1 : Method := { name := "chars", desc := "(ICC)[C", sig := { parameters := [.int, .char, .char], returnType := some (.array .char) }, accessFlags := 10, code := some k1c1 }
def k1c2 : Code := { maxStack := 5, maxLocals := 19, code := code, exceptionTable := #[], attributes := #[] }
def k1m2 : Method := { name := "law", desc := "(III)Z", sig := { parameters := [.int, .int, .int], returnType := some .boolean }, accessFlags := 9, code := some k1c2 }
/-- com/example/custody/custody/report/ComparandAgreesWithPinLaw -/
def k1 : Class := { plain "com/example/custody/custody/report/ComparandAgreesWithPinLaw" (some 0) with
  accessFlags := 49
  interfaces := #[]
  cf := some (fileOf pool1 10 #[] #[{ accessFlags := 1, nameIndex := 5, descriptorIndex := 6, attributes := #[] }, { accessFlags := 10, nameIndex := 13, descriptorIndex := 14, attributes := #[] }, { accessFlags := 9, nameIndex := 30, descriptorIndex := 31, attributes := #[] }] 49 2 #[] #[])
  fields := #[]
  methods := #[k1m0, k1m1, k1m2]
  instanceTypes := #[]
  staticTypes := #[]
  resolved := Array.replicate 34 none
  statics := none }

def pool2 : Array CpInfo := pool [(1, .class_ 2), (0, u "java/io/Serializable"), (0, .class_ 4), (0, u "java/lang/Object")] 2

/-- java/io/Serializable -/
def k2 : Class := { plain "java/io/Serializable" (some 0) with
  accessFlags := 1537
  interfaces := #[]
  cf := some (fileOf pool2 1 #[] #[] 1537 3 #[] #[])
  fields := #[]
  methods := #[]
  instanceTypes := #[]
  staticTypes := #[]
  resolved := Array.replicate 7 none
  statics := none }

def pool3 : Array CpInfo := pool [(1, .class_ 2), (0, u "java/lang/Comparable"), (0, .class_ 4), (0, u "java/lang/Object")] 7

/-- java/lang/Comparable -/
def k3 : Class := { plain "java/lang/Comparable" (some 0) with
  accessFlags := 1537
  interfaces := #[]
  cf := some (fileOf pool3 1 #[] #[] 1537 3 #[] #[])
  fields := #[]
  methods := #[]
  instanceTypes := #[]
  staticTypes := #[]
  resolved := Array.replicate 12 none
  statics := none }

def pool4 : Array CpInfo := pool [(2, .class_ 4), (1, u "java/lang/CharSequence"), (42, .class_ 48), (0, u "java/lang/CharSequence$1CodePointIterator"), (10, .class_ 60), (0, u "java/lang/CharSequence$1CharIterator"), (5, .class_ 67), (0, u "java/lang/Object")] 63

/-- java/lang/CharSequence -/
def k4 : Class := { plain "java/lang/CharSequence" (some 0) with
  accessFlags := 1537
  interfaces := #[]
  cf := some (fileOf pool4 2 #[.nestMembers #[47, 59]] #[] 1537 66 #[] #[])
  fields := #[]
  methods := #[]
  instanceTypes := #[]
  staticTypes := #[]
  resolved := Array.replicate 131 none
  statics := none }

def pool5 : Array CpInfo := pool [(1, .class_ 2), (0, u "java/lang/constant/Constable"), (0, .class_ 4), (0, u "java/lang/Object")] 6

/-- java/lang/constant/Constable -/
def k5 : Class := { plain "java/lang/constant/Constable" (some 0) with
  accessFlags := 1537
  interfaces := #[]
  cf := some (fileOf pool5 1 #[] #[] 1537 3 #[] #[])
  fields := #[]
  methods := #[]
  instanceTypes := #[]
  staticTypes := #[]
  resolved := Array.replicate 11 none
  statics := none }

def pool6 : Array CpInfo := pool [(1, .class_ 2), (0, u "java/lang/constant/ConstantDesc"), (0, .class_ 4), (0, u "java/lang/Object")] 32

/-- java/lang/constant/ConstantDesc -/
def k6 : Class := { plain "java/lang/constant/ConstantDesc" (some 0) with
  accessFlags := 1537
  interfaces := #[]
  cf := some (fileOf pool6 1 #[] #[] 1537 3 #[] #[])
  fields := #[]
  methods := #[]
  instanceTypes := #[]
  staticTypes := #[]
  resolved := Array.replicate 37 none
  statics := none }

def pool7 : Array CpInfo := pool [(1, .methodref 2 3), (0, .class_ 4), (0, .nameAndType 5 6), (0, u "java/lang/Object"), (0, u "<init>"), (0, u "()V"), (0, .string 8), (0, u ""), (0, .fieldref 10 11), (0, .class_ 12), (0, .nameAndType 13 14), (0, u "java/lang/String"), (0, u "value"), (0, u "[B"), (0, .fieldref 10 16), (0, .nameAndType 17 18), (0, u "coder"), (0, u "B"), (2, u "hash"), (0, u "I"), (2, u "hashIsZero"), (0, u "Z"), (0, .methodref 10 28), (0, .nameAndType 5 29), (0, u "([CIILjava/lang/Void;)V"), (8, .fieldref 10 39), (0, .nameAndType 40 26), (0, u "COMPACT_STRINGS"), (1, .class_ 44), (1, u "java/lang/StringUTF16"), (0, u "compress"), (1, .methodref 42 48), (0, .nameAndType 49 50), (0, u "coderFromArrayLen"), (0, u "([BI)B"), (56, .class_ 109), (1, u "java/lang/StringLatin1"), (67, .methodref 42 178), (0, .nameAndType 45 179), (0, u "([CII)[B"), (361, .methodref 107 542), (0, .nameAndType 543 544), (0, u "equals"), (0, u "([B[B)Z"), (28, u "(Ljava/lang/Object;)Z"), (1, .class_ 576), (0, u "java/lang/CharSequence"), (22, u "CASE_INSENSITIVE_ORDER"), (0, u "Ljava/util/Comparator;"), (409, u "([C)V"), (90, u "serialPersistentFields"), (0, u "[Ljava/io/ObjectStreamField;"), (0, .class_ 1104), (0, u "java/lang/String$CaseInsensitiveComparator"), (1, .class_ 1107), (0, u "java/io/Serializable"), (0, .class_ 1109), (0, u "java/lang/Comparable"), (0, .class_ 1111), (0, u "java/lang/constant/Constable"), (0, .class_ 1113), (0, u "java/lang/constant/ConstantDesc"), (2, u "serialVersionUID"), (0, u "J"), (3, u "REPL"), (0, u "C"), (2, u "LATIN1"), (1, u "UTF16")] 323

def k7m0 : Method := { name := "<init>", desc := "()V", sig := { parameters := [], returnType := none }, accessFlags := 1, code := none }
def k7c1 : Code := { maxStack := 5, maxLocals := 2, code := jdk_42_method_3_code, exceptionTable := #[], attributes := #[] }
def k7m1 : Method := { name := "<init>", desc := "([C)V", sig := { parameters := [(.array .char)], returnType := none }, accessFlags := 1, code := some k7c1 }
def k7c2 : Code := { maxStack := 2, maxLocals := 3, code := jdk_42_method_66_code, exceptionTable := #[], attributes := #[] }
def k7m2 : Method := { name := "equals", desc := "(Ljava/lang/Object;)Z", sig := { parameters := [(.object "java/lang/Object")], returnType := some .boolean }, accessFlags := 1, code := some k7c2 }
def k7c3 : Code := { maxStack := 4, maxLocals := 6, code := jdk_42_method_149_code, exceptionTable := #[], attributes := #[] }
def k7m3 : Method := { name := "<init>", desc := "([CIILjava/lang/Void;)V", sig := { parameters := [(.array .char), .int, .int, (.object "java/lang/Void")], returnType := none }, accessFlags := 2, code := some k7c3 }
/-- java/lang/String -/
def k7 : Class := { plain "java/lang/String" (some 0) with
  accessFlags := 49
  interfaces := #[2, 3, 4, 5, 6]
  cf := some (fileOf pool7 10 #[.nestMembers #[1103]] #[{ accessFlags := 1, nameIndex := 5, descriptorIndex := 6, attributes := #[] }, { accessFlags := 1, nameIndex := 5, descriptorIndex := 1010, attributes := #[] }, { accessFlags := 1, nameIndex := 543, descriptorIndex := 573, attributes := #[] }, { accessFlags := 2, nameIndex := 5, descriptorIndex := 29, attributes := #[] }] 49 2 #[1106, 1108, 575, 1110, 1112] #[{ accessFlags := 18, nameIndex := 13, descriptorIndex := 14, attributes := #[] }, { accessFlags := 18, nameIndex := 17, descriptorIndex := 18, attributes := #[] }, { accessFlags := 2, nameIndex := 21, descriptorIndex := 22, attributes := #[] }, { accessFlags := 2, nameIndex := 25, descriptorIndex := 26, attributes := #[] }, { accessFlags := 26, nameIndex := 1116, descriptorIndex := 1117, attributes := #[] }, { accessFlags := 24, nameIndex := 40, descriptorIndex := 26, attributes := #[] }, { accessFlags := 26, nameIndex := 1101, descriptorIndex := 1102, attributes := #[] }, { accessFlags := 26, nameIndex := 1121, descriptorIndex := 1122, attributes := #[] }, { accessFlags := 25, nameIndex := 599, descriptorIndex := 600, attributes := #[] }, { accessFlags := 24, nameIndex := 1125, descriptorIndex := 18, attributes := #[] }, { accessFlags := 24, nameIndex := 1127, descriptorIndex := 18, attributes := #[] }])
  fields := #[{ name := "value", type := (.array .byte), accessFlags := 18, slot := 0, constantValue := 0 }, { name := "coder", type := .byte, accessFlags := 18, slot := 1, constantValue := 0 }, { name := "hash", type := .int, accessFlags := 2, slot := 2, constantValue := 0 }, { name := "hashIsZero", type := .boolean, accessFlags := 2, slot := 3, constantValue := 0 }, { name := "serialVersionUID", type := .long, accessFlags := 26, slot := 0, constantValue := 0 }, { name := "COMPACT_STRINGS", type := .boolean, accessFlags := 24, slot := 1, constantValue := 0 }, { name := "serialPersistentFields", type := (.array (.object "java/io/ObjectStreamField")), accessFlags := 26, slot := 2, constantValue := 0 }, { name := "REPL", type := .char, accessFlags := 26, slot := 3, constantValue := 0 }, { name := "CASE_INSENSITIVE_ORDER", type := (.object "java/util/Comparator"), accessFlags := 25, slot := 4, constantValue := 0 }, { name := "LATIN1", type := .byte, accessFlags := 24, slot := 5, constantValue := 0 }, { name := "UTF16", type := .byte, accessFlags := 24, slot := 6, constantValue := 0 }]
  methods := #[k7m0, k7m1, k7m2, k7m3]
  instanceTypes := #[(.array .byte), .byte, .int, .boolean]
  staticTypes := #[.long, .boolean, (.array (.object "java/io/ObjectStreamField")), .char, (.object "java/util/Comparator"), .byte, .byte]
  resolved := Array.replicate 1451 none
  statics := some 0 }

def pool8 : Array CpInfo := pool [(6, .class_ 8), (1, u "java/lang/Object"), (0, u "<init>"), (0, u "()V"), (1, .class_ 14), (1, u "java/lang/StringUTF16"), (31, u "$assertionsDisabled"), (0, u "Z"), (13, u "HI_BYTE_SHIFT"), (0, u "I"), (2, u "LO_BYTE_SHIFT"), (49, .methodref 12 116), (0, .nameAndType 117 118), (0, u "compress"), (0, u "([CI[BII)I"), (3, u "([CII)[B"), (138, u "coderFromArrayLen"), (0, u "([BI)B"), (106, .class_ 371), (1, u "java/lang/StringUTF16$LinesSpliterator"), (58, u "MAX_LENGTH"), (196, .class_ 628), (0, u "java/lang/StringUTF16$CodePointsSpliterator"), (0, .class_ 630), (0, u "java/lang/StringUTF16$CharsSpliterator")] 4

def k8m0 : Method := { name := "<init>", desc := "()V", sig := { parameters := [], returnType := none }, accessFlags := 0, code := none }
def k8c1 : Code := { maxStack := 2, maxLocals := 2, code := jdk_52_method_15_code, exceptionTable := #[], attributes := #[] }
def k8m1 : Method := { name := "coderFromArrayLen", desc := "([BI)B", sig := { parameters := [(.array .byte), .int], returnType := some .byte }, accessFlags := 8, code := some k8c1 }
def k8c2 : Code := { maxStack := 5, maxLocals := 6, code := jdk_52_method_16_code, exceptionTable := #[], attributes := #[] }
def k8m2 : Method := { name := "compress", desc := "([CII)[B", sig := { parameters := [(.array .char), .int, .int], returnType := some (.array .byte) }, accessFlags := 9, code := some k8c2 }
def k8c3 : Code := { maxStack := 3, maxLocals := 7, code := jdk_52_method_21_code, exceptionTable := #[], attributes := #[] }
def k8m3 : Method := { name := "compress", desc := "([CI[BII)I", sig := { parameters := [(.array .char), .int, (.array .byte), .int, .int], returnType := some .int }, accessFlags := 9, code := some k8c3 }
/-- java/lang/StringUTF16 -/
def k8 : Class := { plain "java/lang/StringUTF16" (some 0) with
  accessFlags := 48
  interfaces := #[]
  cf := some (fileOf pool8 12 #[.nestMembers #[627, 629, 369]] #[{ accessFlags := 0, nameIndex := 9, descriptorIndex := 10, attributes := #[] }, { accessFlags := 8, nameIndex := 261, descriptorIndex := 262, attributes := #[] }, { accessFlags := 9, nameIndex := 117, descriptorIndex := 122, attributes := #[] }, { accessFlags := 9, nameIndex := 117, descriptorIndex := 118, attributes := #[] }] 48 6 #[] #[{ accessFlags := 26, nameIndex := 61, descriptorIndex := 62, attributes := #[] }, { accessFlags := 26, nameIndex := 65, descriptorIndex := 62, attributes := #[] }, { accessFlags := 24, nameIndex := 430, descriptorIndex := 62, attributes := #[] }, { accessFlags := 4120, nameIndex := 46, descriptorIndex := 47, attributes := #[] }])
  fields := #[{ name := "HI_BYTE_SHIFT", type := .int, accessFlags := 26, slot := 0, constantValue := 0 }, { name := "LO_BYTE_SHIFT", type := .int, accessFlags := 26, slot := 1, constantValue := 0 }, { name := "MAX_LENGTH", type := .int, accessFlags := 24, slot := 2, constantValue := 0 }, { name := "$assertionsDisabled", type := .boolean, accessFlags := 4120, slot := 3, constantValue := 0 }]
  methods := #[k8m0, k8m1, k8m2, k8m3]
  instanceTypes := #[]
  staticTypes := #[.int, .int, .int, .boolean]
  resolved := Array.replicate 635 none
  statics := none }

def pool9 : Array CpInfo := pool [(1, .methodref 2 3), (0, .class_ 4), (0, .nameAndType 5 6), (0, u "java/lang/Object"), (0, u "<init>"), (0, u "()V"), (0, .class_ 8), (0, u "java/lang/Record")] 13

def k9c0 : Code := { maxStack := 1, maxLocals := 1, code := jdk_30_method_1_code, exceptionTable := #[], attributes := #[] }
def k9m0 : Method := { name := "<init>", desc := "()V", sig := { parameters := [], returnType := none }, accessFlags := 4, code := some k9c0 }
/-- java/lang/Record -/
def k9 : Class := { plain "java/lang/Record" (some 0) with
  accessFlags := 1057
  interfaces := #[]
  cf := some (fileOf pool9 7 #[] #[{ accessFlags := 4, nameIndex := 5, descriptorIndex := 6, attributes := #[] }] 1057 2 #[] #[])
  fields := #[]
  methods := #[k9m0]
  instanceTypes := #[]
  staticTypes := #[]
  resolved := Array.replicate 22 none
  statics := none }

def pool10 : Array CpInfo := pool [(1, .methodref 2 3), (0, .class_ 4), (0, .nameAndType 5 6), (0, u "java/lang/Record"), (0, u "<init>"), (0, u "()V"), (0, .fieldref 8 9), (0, .class_ 10), (0, .nameAndType 11 12), (0, u "com/example/custody/custody/report/Comparand"), (0, u "text"), (0, u "Ljava/lang/String;"), (0, .fieldref 8 14), (0, .nameAndType 15 16), (0, u "found"), (0, u "Z"), (2, u "(Ljava/lang/String;Z)V"), (16, .methodref 37 38), (0, .class_ 39), (0, .nameAndType 40 41), (0, u "java/lang/String"), (0, u "equals"), (0, u "(Ljava/lang/Object;)Z"), (17, u "agreesWith"), (0, u "(Lcom/example/custody/custody/report/Comparand;)Z")] 26

def k10c0 : Code := { maxStack := 2, maxLocals := 3, code := prog_30_method_1_code, exceptionTable := #[], attributes := #[] }
def k10m0 : Method := { name := "<init>", desc := "(Ljava/lang/String;Z)V", sig := { parameters := [(.object "java/lang/String"), .boolean], returnType := none }, accessFlags := 0, code := some k10c0 }
def k10c1 : Code := { maxStack := 2, maxLocals := 2, code := prog_30_method_5_code, exceptionTable := #[], attributes := #[] }
def k10m1 : Method := { name := "agreesWith", desc := "(Lcom/example/custody/custody/report/Comparand;)Z", sig := { parameters := [(.object "com/example/custody/custody/report/Comparand")], returnType := some .boolean }, accessFlags := 0, code := some k10c1 }
/-- com/example/custody/custody/report/Comparand -/
def k10 : Class := { plain "com/example/custody/custody/report/Comparand" (some 9) with
  accessFlags := 48
  interfaces := #[]
  cf := some (fileOf pool10 8 #[] #[{ accessFlags := 0, nameIndex := 5, descriptorIndex := 19, attributes := #[] }, { accessFlags := 0, nameIndex := 59, descriptorIndex := 60, attributes := #[] }] 48 2 #[] #[{ accessFlags := 18, nameIndex := 11, descriptorIndex := 12, attributes := #[] }, { accessFlags := 18, nameIndex := 15, descriptorIndex := 16, attributes := #[] }])
  fields := #[{ name := "text", type := (.object "java/lang/String"), accessFlags := 18, slot := 0, constantValue := 0 }, { name := "found", type := .boolean, accessFlags := 18, slot := 1, constantValue := 0 }]
  methods := #[k10m0, k10m1]
  instanceTypes := #[(.object "java/lang/String"), .boolean]
  staticTypes := #[]
  resolved := Array.replicate 87 none
  statics := none }

def pool11 : Array CpInfo := pool [(4, .class_ 6), (1, u "java/lang/Object"), (0, u "<init>"), (0, u "()V"), (5, .class_ 16), (1, u "java/lang/StringLatin1"), (104, u "$assertionsDisabled"), (0, u "Z"), (98, .class_ 223), (1, u "java/lang/StringLatin1$LinesSpliterator"), (57, u "equals"), (0, u "([B[B)Z"), (107, .class_ 391), (0, u "java/lang/StringLatin1$CharsSpliterator")] 3

def k11m0 : Method := { name := "<init>", desc := "()V", sig := { parameters := [], returnType := none }, accessFlags := 0, code := none }
def k11c1 : Code := { maxStack := 3, maxLocals := 3, code := jdk_43_method_13_code, exceptionTable := #[], attributes := #[] }
def k11m1 : Method := { name := "equals", desc := "([B[B)Z", sig := { parameters := [(.array .byte), (.array .byte)], returnType := some .boolean }, accessFlags := 9, code := some k11c1 }
/-- java/lang/StringLatin1 -/
def k11 : Class := { plain "java/lang/StringLatin1" (some 0) with
  accessFlags := 48
  interfaces := #[]
  cf := some (fileOf pool11 14 #[.nestMembers #[390, 221]] #[{ accessFlags := 0, nameIndex := 7, descriptorIndex := 8, attributes := #[] }, { accessFlags := 9, nameIndex := 281, descriptorIndex := 282, attributes := #[] }] 48 4 #[] #[{ accessFlags := 4120, nameIndex := 121, descriptorIndex := 122, attributes := #[] }])
  fields := #[{ name := "$assertionsDisabled", type := .boolean, accessFlags := 4120, slot := 0, constantValue := 0 }]
  methods := #[k11m0, k11m1]
  instanceTypes := #[]
  staticTypes := #[.boolean]
  resolved := Array.replicate 395 none
  statics := none }

def pool12 : Array CpInfo := pool [(2, .class_ 4), (1, u "java/lang/Object"), (0, u "<init>"), (0, u "()V"), (17, .class_ 26), (1, u "jdk/internal/util/Preconditions"), (28, .class_ 56), (0, u "jdk/internal/util/Preconditions$4"), (57, .class_ 115), (0, u "jdk/internal/util/Preconditions$1"), (7, u "SIOOBE_FORMATTER"), (0, u "Ljava/util/function/BiFunction;"), (0, .class_ 126), (0, u "jdk/internal/util/Preconditions$2"), (3, u "AIOOBE_FORMATTER"), (0, .class_ 132), (0, u "jdk/internal/util/Preconditions$3"), (3, u "IOOBE_FORMATTER")] 57

def k12m0 : Method := { name := "<init>", desc := "()V", sig := { parameters := [], returnType := none }, accessFlags := 1, code := none }
/-- jdk/internal/util/Preconditions -/
def k12 : Class := { plain "jdk/internal/util/Preconditions" (some 0) with
  accessFlags := 33
  interfaces := #[]
  cf := some (fileOf pool12 24 #[.nestMembers #[55, 131, 125, 114]] #[{ accessFlags := 1, nameIndex := 5, descriptorIndex := 6, attributes := #[] }] 33 2 #[] #[{ accessFlags := 25, nameIndex := 123, descriptorIndex := 124, attributes := #[] }, { accessFlags := 25, nameIndex := 130, descriptorIndex := 124, attributes := #[] }, { accessFlags := 25, nameIndex := 136, descriptorIndex := 124, attributes := #[] }])
  fields := #[{ name := "SIOOBE_FORMATTER", type := (.object "java/util/function/BiFunction"), accessFlags := 25, slot := 0, constantValue := 0 }, { name := "AIOOBE_FORMATTER", type := (.object "java/util/function/BiFunction"), accessFlags := 25, slot := 1, constantValue := 0 }, { name := "IOOBE_FORMATTER", type := (.object "java/util/function/BiFunction"), accessFlags := 25, slot := 2, constantValue := 0 }]
  methods := #[k12m0]
  instanceTypes := #[]
  staticTypes := #[(.object "java/util/function/BiFunction"), (.object "java/util/function/BiFunction"), (.object "java/util/function/BiFunction")]
  resolved := Array.replicate 194 none
  statics := some 1 }

def pool13 : Array CpInfo := pool [(9, u "<init>"), (6, .class_ 18), (1, u "java/lang/Object"), (0, u "()V"), (1, .class_ 23), (1, u "jdk/internal/util/ArraysSupport"), (0, u "LOG2_ARRAY_LONG_INDEX_SCALE"), (0, u "I"), (2, u "U"), (0, u "Ljdk/internal/misc/Unsafe;"), (8, u "BIG_ENDIAN"), (0, u "Z"), (8, u "LOG2_BYTE_BIT_SIZE"), (4, u "LOG2_ARRAY_INT_INDEX_SCALE"), (54, u "JLA"), (0, u "Ljdk/internal/access/JavaLangAccess;"), (11, u "LOG2_ARRAY_BOOLEAN_INDEX_SCALE"), (9, u "LOG2_ARRAY_BYTE_INDEX_SCALE"), (5, u "LOG2_ARRAY_CHAR_INDEX_SCALE"), (5, u "LOG2_ARRAY_SHORT_INDEX_SCALE"), (18, u "LOG2_ARRAY_FLOAT_INDEX_SCALE"), (24, u "LOG2_ARRAY_DOUBLE_INDEX_SCALE"), (89, u "T_BOOLEAN"), (2, u "T_CHAR"), (1, u "T_FLOAT"), (1, u "T_DOUBLE"), (1, u "T_BYTE"), (1, u "T_SHORT"), (1, u "T_INT"), (1, u "T_LONG"), (1, u "SOFT_MAX_ARRAY_LENGTH")] 83

def k13m0 : Method := { name := "<init>", desc := "()V", sig := { parameters := [], returnType := none }, accessFlags := 2, code := none }
/-- jdk/internal/util/ArraysSupport -/
def k13 : Class := { plain "jdk/internal/util/ArraysSupport" (some 0) with
  accessFlags := 33
  interfaces := #[]
  cf := some (fileOf pool13 21 #[] #[{ accessFlags := 2, nameIndex := 9, descriptorIndex := 19, attributes := #[] }] 33 16 #[] #[{ accessFlags := 24, nameIndex := 28, descriptorIndex := 29, attributes := #[] }, { accessFlags := 26, nameIndex := 38, descriptorIndex := 39, attributes := #[] }, { accessFlags := 25, nameIndex := 121, descriptorIndex := 25, attributes := #[] }, { accessFlags := 25, nameIndex := 131, descriptorIndex := 25, attributes := #[] }, { accessFlags := 25, nameIndex := 137, descriptorIndex := 25, attributes := #[] }, { accessFlags := 25, nameIndex := 143, descriptorIndex := 25, attributes := #[] }, { accessFlags := 25, nameIndex := 53, descriptorIndex := 25, attributes := #[] }, { accessFlags := 25, nameIndex := 24, descriptorIndex := 25, attributes := #[] }, { accessFlags := 25, nameIndex := 162, descriptorIndex := 25, attributes := #[] }, { accessFlags := 25, nameIndex := 187, descriptorIndex := 25, attributes := #[] }, { accessFlags := 26, nameIndex := 48, descriptorIndex := 25, attributes := #[] }, { accessFlags := 25, nameIndex := 277, descriptorIndex := 25, attributes := #[] }, { accessFlags := 25, nameIndex := 280, descriptorIndex := 25, attributes := #[] }, { accessFlags := 25, nameIndex := 282, descriptorIndex := 25, attributes := #[] }, { accessFlags := 25, nameIndex := 284, descriptorIndex := 25, attributes := #[] }, { accessFlags := 25, nameIndex := 286, descriptorIndex := 25, attributes := #[] }, { accessFlags := 25, nameIndex := 288, descriptorIndex := 25, attributes := #[] }, { accessFlags := 25, nameIndex := 290, descriptorIndex := 25, attributes := #[] }, { accessFlags := 25, nameIndex := 292, descriptorIndex := 25, attributes := #[] }, { accessFlags := 26, nameIndex := 108, descriptorIndex := 109, attributes := #[] }, { accessFlags := 25, nameIndex := 294, descriptorIndex := 25, attributes := #[] }])
  fields := #[{ name := "U", type := (.object "jdk/internal/misc/Unsafe"), accessFlags := 24, slot := 0, constantValue := 0 }, { name := "BIG_ENDIAN", type := .boolean, accessFlags := 26, slot := 1, constantValue := 0 }, { name := "LOG2_ARRAY_BOOLEAN_INDEX_SCALE", type := .int, accessFlags := 25, slot := 2, constantValue := 0 }, { name := "LOG2_ARRAY_BYTE_INDEX_SCALE", type := .int, accessFlags := 25, slot := 3, constantValue := 0 }, { name := "LOG2_ARRAY_CHAR_INDEX_SCALE", type := .int, accessFlags := 25, slot := 4, constantValue := 0 }, { name := "LOG2_ARRAY_SHORT_INDEX_SCALE", type := .int, accessFlags := 25, slot := 5, constantValue := 0 }, { name := "LOG2_ARRAY_INT_INDEX_SCALE", type := .int, accessFlags := 25, slot := 6, constantValue := 0 }, { name := "LOG2_ARRAY_LONG_INDEX_SCALE", type := .int, accessFlags := 25, slot := 7, constantValue := 0 }, { name := "LOG2_ARRAY_FLOAT_INDEX_SCALE", type := .int, accessFlags := 25, slot := 8, constantValue := 0 }, { name := "LOG2_ARRAY_DOUBLE_INDEX_SCALE", type := .int, accessFlags := 25, slot := 9, constantValue := 0 }, { name := "LOG2_BYTE_BIT_SIZE", type := .int, accessFlags := 26, slot := 10, constantValue := 0 }, { name := "T_BOOLEAN", type := .int, accessFlags := 25, slot := 11, constantValue := 0 }, { name := "T_CHAR", type := .int, accessFlags := 25, slot := 12, constantValue := 0 }, { name := "T_FLOAT", type := .int, accessFlags := 25, slot := 13, constantValue := 0 }, { name := "T_DOUBLE", type := .int, accessFlags := 25, slot := 14, constantValue := 0 }, { name := "T_BYTE", type := .int, accessFlags := 25, slot := 15, constantValue := 0 }, { name := "T_SHORT", type := .int, accessFlags := 25, slot := 16, constantValue := 0 }, { name := "T_INT", type := .int, accessFlags := 25, slot := 17, constantValue := 0 }, { name := "T_LONG", type := .int, accessFlags := 25, slot := 18, constantValue := 0 }, { name := "JLA", type := (.object "jdk/internal/access/JavaLangAccess"), accessFlags := 26, slot := 19, constantValue := 0 }, { name := "SOFT_MAX_ARRAY_LENGTH", type := .int, accessFlags := 25, slot := 20, constantValue := 0 }]
  methods := #[k13m0]
  instanceTypes := #[]
  staticTypes := #[(.object "jdk/internal/misc/Unsafe"), .boolean, .int, .int, .int, .int, .int, .int, .int, .int, .int, .int, .int, .int, .int, .int, .int, .int, .int, (.object "jdk/internal/access/JavaLangAccess"), .int]
  resolved := Array.replicate 378 none
  statics := none }

def pool14 : Array CpInfo := pool [(1, u "java/lang/Cloneable"), (0, .class_ 1), (0, u "java/lang/Object"), (0, .class_ 3)] 3

/-- java/lang/Cloneable -/
def k14 : Class := { plain "java/lang/Cloneable" (some 0) with
  accessFlags := 1537
  interfaces := #[]
  cf := some (fileOf pool14 2 #[] #[] 1537 4 #[] #[])
  fields := #[]
  methods := #[]
  instanceTypes := #[]
  staticTypes := #[]
  resolved := Array.replicate 8 none
  statics := none }

/-- the primitive byte -/
def k15 : Class := { plain "byte" none with kind := .primitive 'B', accessFlags := 0x411 }
/-- [B -/
def k16 : Class := { plain "[B" (some 0) with kind := .array 15 .byte, interfaces := #[14, 2], accessFlags := 1041 }

/-- the primitive char -/
def k17 : Class := { plain "char" none with kind := .primitive 'C', accessFlags := 0x411 }
/-- [C -/
def k18 : Class := { plain "[C" (some 0) with kind := .array 17 .char, interfaces := #[14, 2], accessFlags := 1041 }

/-- the primitive int -/
def k19 : Class := { plain "int" none with kind := .primitive 'I', accessFlags := 0x411 }
/-- [I -/
def k20 : Class := { plain "[I" (some 0) with kind := .array 19 .int, interfaces := #[14, 2], accessFlags := 1041 }

def heap : Heap := #[{ cls := 7, slots := #[.long 0, .int 1, .null, .int 0, .null, .int 0, .int 0], vm := .statics 7 },
  { cls := 12, slots := #[.null, .null, .null], vm := .statics 12 }]
def classes : Array Class := #[k0, k1, k2, k3, k4, k5, k6, k7, k8, k9, k10, k11, k12, k13, k14, k15, k16, k17, k18, k19, k20]
def interned : List (Array UInt16 × Addr) := []
def slotsUsed : Nat := 10
def theMethod : MethodId := ⟨1, 2⟩
def args0 : Array Value := #[.int 65, .int 66, .int 53]
def aboutOver (below : List Frame) : State where
  vm := { classes := classes, interned := interned.toArray }
  heap := heap
  slotsUsed := slotsUsed
  threads := #[{ frames := .invoking theMethod args0 :: below }]
def below0 : List Frame := [.native { method := ⟨0, 0⟩, args := #[] }]
def about1 : State := aboutOver below0
def p0 : Program := .bare "" "" ""
def e0 : Env := launch0.env 0 0 0
theorem w_frames : about1.frames = Frame.invoking theMethod args0 :: below0 := rfl
set_option maxRecDepth 65536 in
theorem w_args : argsFit about1.vm theMethod args0 = true := by decide +kernel
set_option maxRecDepth 65536 in
theorem w_heap : heapFits about1 = true := by decide +kernel
set_option maxRecDepth 65536 in
theorem w_runnable : about1.curStatus? = some .runnable := by decide +kernel
set_option maxRecDepth 65536 in
theorem w_alone : about1.alone = true := by decide +kernel
set_option maxRecDepth 65536 in
theorem w_named : about1.methodNamed? x = some theMethod := by decide +kernel
set_option maxRecDepth 65536 in
theorem w_hears : about1.hears theMethod below0 = true := by decide +kernel
set_option maxRecDepth 65536 in
theorem w_ripe : about1.ripe theMethod args0 below0 = true := by decide +kernel
theorem w_running : about1.status = .running := rfl
set_option maxRecDepth 65536 in
theorem w_room : about1.hasRoom e0.platform room_1 = true :=
  launch0.hasRoom_least _ room_1 (by decide +kernel) (by decide +kernel) (by decide +kernel) (by decide +kernel) (by decide +kernel) (by decide +kernel)
theorem allAtoms_all (ts : List Jvm.Cond) (a : Array Jvm.Value) (st : Jvm.State) : (allAtoms ts).before a st = ts.all (fun c => c.before a st) := by
  induction ts with
  | nil => rfl
  | cons c t ih =>
    show (Jvm.Cond.and c (allAtoms t)).before a st = _
    rw [Jvm.Cond.before_and, ih, List.all_cons]
def words1 : List Jvm.Cond := Jvm.Cond.code x code maxLocals ret :: tables_1
/-- a 'code' word, met by the world's own term for the bytes: nothing is compared byte by byte -/
theorem code_word {y : MethodName} {bytes : ByteArray} {mx : Nat} {rt : Option FieldType} {a : Array Value} {s : State} {m : MethodId} {meth : Method} {c : Code} (h1 : s.methodNamed? y = some m) (h2 : s.vm.method? m = some meth) (h3 : meth.code = some c) (h4 : c.code = bytes)
    (h5 : (c.maxLocals == mx && c.exceptionTable.isEmpty && decide (c.maxStack ≤ mostOperands) && decide (meth.sig.returnType = rt) && !meth.locks && decide (parseMethodDescriptor y.desc = some meth.sig)) = true) : (Jvm.Cond.code y bytes mx rt).before a s = true := by
  simp only [Bool.and_eq_true, beq_iff_eq, Bool.not_eq_true', decide_eq_true_eq] at h5
  obtain ⟨⟨⟨⟨⟨g1, g2⟩, g3⟩, g4⟩, g5⟩, g6⟩ := h5
  simp [Cond.before, Cond.holds, Cond.value, h1, h2, h3, h4, g1, g2, g3, g4, g5, g6]
def isCode : Jvm.Cond → Bool
  | .code _ _ _ _ => true
  | _ => false
theorem all_split {L : List Jvm.Cond} {P : Jvm.Cond → Bool} (h1 : L.all (fun c => isCode c || P c) = true) (h2 : ∀ c ∈ L.filter isCode, P c = true) : L.all P = true := by
  refine List.all_eq_true.mpr fun c hc => ?_
  have h := List.all_eq_true.mp h1 c hc
  rcases Bool.eq_false_or_eq_true (isCode c) with hi | hi
  · exact h2 c (List.mem_filter.mpr ⟨hc, hi⟩)
  · simpa [hi] using h
set_option maxRecDepth 65536 in
theorem w_c0 : (Jvm.Cond.code x code maxLocals ret).before args0 about1 = true := code_word (m := ⟨1, 2⟩) (meth := k1m2) (c := k1c2) (by decide +kernel) rfl rfl rfl (by decide +kernel)
set_option maxRecDepth 65536 in
theorem w_c1 : (Jvm.Cond.code ({ cls := "com/example/custody/custody/report/ComparandAgreesWithPinLaw", name := "chars", desc := "(ICC)[C" } : Jvm.MethodName) method_2_code (3 : Nat) (Option.some (Jvm.ClassFile.FieldType.array Jvm.ClassFile.FieldType.char))).before args0 about1 = true := code_word (m := ⟨1, 1⟩) (meth := k1m1) (c := k1c1) (by decide +kernel) rfl rfl rfl (by decide +kernel)
set_option maxRecDepth 65536 in
theorem w_c2 : (Jvm.Cond.code ({ cls := "java/lang/String", name := "<init>", desc := "([C)V" } : Jvm.MethodName) jdk_42_method_3_code (2 : Nat) (Option.none : Option Jvm.ClassFile.FieldType)).before args0 about1 = true := code_word (m := ⟨7, 1⟩) (meth := k7m1) (c := k7c1) (by decide +kernel) rfl rfl rfl (by decide +kernel)
set_option maxRecDepth 65536 in
theorem w_c3 : (Jvm.Cond.code ({ cls := "java/lang/String", name := "<init>", desc := "([CIILjava/lang/Void;)V" } : Jvm.MethodName) jdk_42_method_149_code (6 : Nat) (Option.none : Option Jvm.ClassFile.FieldType)).before args0 about1 = true := code_word (m := ⟨7, 3⟩) (meth := k7m3) (c := k7c3) (by decide +kernel) rfl rfl rfl (by decide +kernel)
set_option maxRecDepth 65536 in
theorem w_c4 : (Jvm.Cond.code ({ cls := "java/lang/Object", name := "<init>", desc := "()V" } : Jvm.MethodName) object_method_1_code (1 : Nat) (Option.none : Option Jvm.ClassFile.FieldType)).before args0 about1 = true := code_word (m := ⟨0, 0⟩) (meth := k0m0) (c := k0c0) (by decide +kernel) rfl rfl rfl (by decide +kernel)
set_option maxRecDepth 65536 in
theorem w_c5 : (Jvm.Cond.code ({ cls := "java/lang/StringUTF16", name := "compress", desc := "([CII)[B" } : Jvm.MethodName) jdk_52_method_16_code (6 : Nat) (Option.some (Jvm.ClassFile.FieldType.array Jvm.ClassFile.FieldType.byte))).before args0 about1 = true := code_word (m := ⟨8, 2⟩) (meth := k8m2) (c := k8c2) (by decide +kernel) rfl rfl rfl (by decide +kernel)
set_option maxRecDepth 65536 in
theorem w_c6 : (Jvm.Cond.code ({ cls := "java/lang/StringUTF16", name := "compress", desc := "([CI[BII)I" } : Jvm.MethodName) jdk_52_method_21_code (7 : Nat) (Option.some Jvm.ClassFile.FieldType.int)).before args0 about1 = true := code_word (m := ⟨8, 3⟩) (meth := k8m3) (c := k8c3) (by decide +kernel) rfl rfl rfl (by decide +kernel)
set_option maxRecDepth 65536 in
theorem w_c7 : (Jvm.Cond.code ({ cls := "java/lang/StringUTF16", name := "coderFromArrayLen", desc := "([BI)B" } : Jvm.MethodName) jdk_52_method_15_code (2 : Nat) (Option.some Jvm.ClassFile.FieldType.byte)).before args0 about1 = true := code_word (m := ⟨8, 1⟩) (meth := k8m1) (c := k8c1) (by decide +kernel) rfl rfl rfl (by decide +kernel)
set_option maxRecDepth 65536 in
theorem w_c8 : (Jvm.Cond.code ({ cls := "com/example/custody/custody/report/Comparand", name := "<init>", desc := "(Ljava/lang/String;Z)V" } : Jvm.MethodName) prog_30_method_1_code (3 : Nat) (Option.none : Option Jvm.ClassFile.FieldType)).before args0 about1 = true := code_word (m := ⟨10, 0⟩) (meth := k10m0) (c := k10c0) (by decide +kernel) rfl rfl rfl (by decide +kernel)
set_option maxRecDepth 65536 in
theorem w_c9 : (Jvm.Cond.code ({ cls := "java/lang/Record", name := "<init>", desc := "()V" } : Jvm.MethodName) jdk_30_method_1_code (1 : Nat) (Option.none : Option Jvm.ClassFile.FieldType)).before args0 about1 = true := code_word (m := ⟨9, 0⟩) (meth := k9m0) (c := k9c0) (by decide +kernel) rfl rfl rfl (by decide +kernel)
set_option maxRecDepth 65536 in
theorem w_c10 : (Jvm.Cond.code ({ cls := "com/example/custody/custody/report/Comparand", name := "agreesWith", desc := "(Lcom/example/custody/custody/report/Comparand;)Z" } : Jvm.MethodName) prog_30_method_5_code (2 : Nat) (Option.some Jvm.ClassFile.FieldType.boolean)).before args0 about1 = true := code_word (m := ⟨10, 1⟩) (meth := k10m1) (c := k10c1) (by decide +kernel) rfl rfl rfl (by decide +kernel)
set_option maxRecDepth 65536 in
theorem w_c11 : (Jvm.Cond.code ({ cls := "java/lang/String", name := "equals", desc := "(Ljava/lang/Object;)Z" } : Jvm.MethodName) jdk_42_method_66_code (3 : Nat) (Option.some Jvm.ClassFile.FieldType.boolean)).before args0 about1 = true := code_word (m := ⟨7, 2⟩) (meth := k7m2) (c := k7c2) (by decide +kernel) rfl rfl rfl (by decide +kernel)
set_option maxRecDepth 65536 in
theorem w_c12 : (Jvm.Cond.code ({ cls := "java/lang/StringLatin1", name := "equals", desc := "([B[B)Z" } : Jvm.MethodName) jdk_43_method_13_code (3 : Nat) (Option.some Jvm.ClassFile.FieldType.boolean)).before args0 about1 = true := code_word (m := ⟨11, 1⟩) (meth := k11m1) (c := k11c1) (by decide +kernel) rfl rfl rfl (by decide +kernel)
def codes1 : List Jvm.Cond := [Jvm.Cond.code x code maxLocals ret, Jvm.Cond.code ({ cls := "com/example/custody/custody/report/ComparandAgreesWithPinLaw", name := "chars", desc := "(ICC)[C" } : Jvm.MethodName) method_2_code (3 : Nat) (Option.some (Jvm.ClassFile.FieldType.array Jvm.ClassFile.FieldType.char)), Jvm.Cond.code ({ cls := "java/lang/String", name := "<init>", desc := "([C)V" } : Jvm.MethodName) jdk_42_method_3_code (2 : Nat) (Option.none : Option Jvm.ClassFile.FieldType), Jvm.Cond.code ({ cls := "java/lang/String", name := "<init>", desc := "([CIILjava/lang/Void;)V" } : Jvm.MethodName) jdk_42_method_149_code (6 : Nat) (Option.none : Option Jvm.ClassFile.FieldType), Jvm.Cond.code ({ cls := "java/lang/Object", name := "<init>", desc := "()V" } : Jvm.MethodName) object_method_1_code (1 : Nat) (Option.none : Option Jvm.ClassFile.FieldType), Jvm.Cond.code ({ cls := "java/lang/StringUTF16", name := "compress", desc := "([CII)[B" } : Jvm.MethodName) jdk_52_method_16_code (6 : Nat) (Option.some (Jvm.ClassFile.FieldType.array Jvm.ClassFile.FieldType.byte)), Jvm.Cond.code ({ cls := "java/lang/StringUTF16", name := "compress", desc := "([CI[BII)I" } : Jvm.MethodName) jdk_52_method_21_code (7 : Nat) (Option.some Jvm.ClassFile.FieldType.int), Jvm.Cond.code ({ cls := "java/lang/StringUTF16", name := "coderFromArrayLen", desc := "([BI)B" } : Jvm.MethodName) jdk_52_method_15_code (2 : Nat) (Option.some Jvm.ClassFile.FieldType.byte), Jvm.Cond.code ({ cls := "com/example/custody/custody/report/Comparand", name := "<init>", desc := "(Ljava/lang/String;Z)V" } : Jvm.MethodName) prog_30_method_1_code (3 : Nat) (Option.none : Option Jvm.ClassFile.FieldType), Jvm.Cond.code ({ cls := "java/lang/Record", name := "<init>", desc := "()V" } : Jvm.MethodName) jdk_30_method_1_code (1 : Nat) (Option.none : Option Jvm.ClassFile.FieldType), Jvm.Cond.code ({ cls := "com/example/custody/custody/report/Comparand", name := "agreesWith", desc := "(Lcom/example/custody/custody/report/Comparand;)Z" } : Jvm.MethodName) prog_30_method_5_code (2 : Nat) (Option.some Jvm.ClassFile.FieldType.boolean), Jvm.Cond.code ({ cls := "java/lang/String", name := "equals", desc := "(Ljava/lang/Object;)Z" } : Jvm.MethodName) jdk_42_method_66_code (3 : Nat) (Option.some Jvm.ClassFile.FieldType.boolean), Jvm.Cond.code ({ cls := "java/lang/StringLatin1", name := "equals", desc := "([B[B)Z" } : Jvm.MethodName) jdk_43_method_13_code (3 : Nat) (Option.some Jvm.ClassFile.FieldType.boolean)]
set_option maxRecDepth 65536 in
theorem codes_eq : words1.filter isCode = codes1 := rfl
theorem w_codes : ∀ c ∈ words1.filter isCode, c.before args0 about1 = true := by
  rw [codes_eq]
  intro c hc
  simp only [codes1, List.mem_cons, List.not_mem_nil, or_false] at hc
  rcases hc with rfl | rfl | rfl | rfl | rfl | rfl | rfl | rfl | rfl | rfl | rfl | rfl | rfl
  · exact w_c0
  · exact w_c1
  · exact w_c2
  · exact w_c3
  · exact w_c4
  · exact w_c5
  · exact w_c6
  · exact w_c7
  · exact w_c8
  · exact w_c9
  · exact w_c10
  · exact w_c11
  · exact w_c12
set_option maxRecDepth 65536 in
theorem w_t1 : (words1.take 24).all (fun c => isCode c || c.before args0 about1) = true := by decide +kernel
set_option maxRecDepth 65536 in
theorem w_t2 : ((words1.drop 24).take 24).all (fun c => isCode c || c.before args0 about1) = true := by decide +kernel
set_option maxRecDepth 65536 in
theorem w_t3 : ((words1.drop 24).drop 24).all (fun c => isCode c || c.before args0 about1) = true := by decide +kernel
theorem w_tables : (allAtoms (Jvm.Cond.code x code maxLocals ret :: tables_1)).before args0 about1 = true := by
  rw [allAtoms_all]
  show words1.all (fun c => c.before args0 about1) = true
  refine all_split ?_ w_codes
  rw [← List.take_append_drop 24 words1, List.all_append, w_t1, ← List.take_append_drop 24 (words1.drop 24), List.all_append, w_t2, w_t3]
  rfl
set_option maxRecDepth 65536 in
theorem w_rest : rest_1_c.before args0 about1 = true := by decide +kernel
set_option maxRecDepth 65536 in
theorem w_case : (Jvm.Cond.and given_1 narrow_1).before args0 about1 = true := by decide +kernel
set_option maxRecDepth 65536 in
theorem w_consts : constsHeld consts_1 about1 := Jvm.Lit.constsHeldB_iff.mp (by decide +kernel)
theorem w_applies : (headSpec (Jvm.Cond.code x code maxLocals ret :: tables_1) room_1).applies x e0.platform about1 = true :=
  (Spec.applies_iff w_frames).mpr ⟨w_running, w_runnable, w_alone, w_named, w_hears, w_ripe, w_room, w_tables⟩
theorem atStart : AtStart classFile x code maxLocals ret World_1 tables_1 room_1 Calls_1 rest_1 Pre_1 launch0 p0 e0 about1 theMethod args0 below0 :=
  ⟨lists_1, trivial, launch0.admits_env _ _ _, launch0.least_env, fairChoices_fair.cas, fairChoices_fair.clock, w_frames, w_args, w_heap, w_applies, ⟨w_consts, trivial⟩, w_rest, w_case⟩
end start1
theorem witness_1 : WitnessClaimed_1 := ⟨start1.p0, start1.e0, start1.about1, start1.theMethod, start1.args0, start1.below0, start1.atStart⟩
end Jvm.Pilot.@@N@@
