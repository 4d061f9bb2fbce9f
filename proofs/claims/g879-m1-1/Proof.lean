import JvmDerived
import JvmDerived.Pilot.@@N@@Statement
import JvmDerived.Pilot.@@N@@Code
set_option linter.unusedVariables false
set_option linter.unusedSimpArgs false

namespace Jvm.OwnW
open Sem ClassFile Op Lib Jvm.Stand Jvm.Free Jvm.LawKit Jvm.RoadKit
/-- a method: its name, bytes, number of variables, return type, room -/
abbrev MD := MethodName × ByteArray × Nat × Option FieldType × Room
/-- what a wide walk knows besides: the String constants that it reads, and addresses that are no such String's -/
abbrev PX := List (String × Nat) × (Addr → Prop)
abbrev PX.grow (P : PX) (h h' : Heap) : PX := (P.1, fun x => P.2 x ∨ (h.size ≤ x ∧ x < h'.size))
/-- x is none of the constants' cells -/
def Sf (Z : State) (P : PX) (h : Heap) (x : Addr) : Prop := P.2 x ∨ ∀ vm, Z.vm.Alike vm → Safe Z P.1 vm h x
/-- the state over which the walk stands: the start itself, or (wide) the start with later tables -/
def KB (wd : Bool) (Z : State) (P : PX) (s s' : State) (h : Heap) : Prop :=
  (wd = false ∧ s' = s) ∨ (wd = true ∧ ∃ vm0 k0, s' = s.setVm vm0 ∧ s.Since vm0 k0 ∧ k0 ≤ h.size ∧ CHr Z P.1 s.vm s.heap vm0 h ∧ ∀ x, P.2 x → Safe Z P.1 vm0 h x ∧ x < h.size)
theorem KB.keep {wd : Bool} {Z : State} {P : PX} {s s' : State} {h h' : Heap} {ws : List Addr} (B : KB wd Z P s s' h) (hZ : Z.Warmed39 s'.vm) (K : Keep h h' ws) (q : wd = true → ∀ x ∈ ws, Sf Z P h x) : KB wd Z (P.grow h h') s s' h' := by
  rcases B with ⟨a, b⟩ | ⟨a, vm0, k0, rfl, c, d, e, f⟩
  · exact Or.inl ⟨a, b⟩
  · have hs : ∀ x ∈ ws, Safe Z P.1 vm0 h x := fun x hx => (q a x hx).elim (fun r => (f x r).1) (fun r => r vm0 hZ.alike)
    refine Or.inr ⟨a, vm0, k0, rfl, c, Nat.le_trans d K.1, e.trans (CHr.keep K hs e.1), fun x hx => ?_⟩
    rcases hx with hx | ⟨hx, hx'⟩
    · exact ⟨Safe.keep K hs e.1 (f x hx).1, Nat.lt_of_lt_of_le (f x hx).2 K.1⟩
    · exact ⟨Safe.keep K hs e.1 (Safe.new hx), hx'⟩
theorem KB.ext {wd : Bool} {Z : State} {P : PX} {s s' : State} {h h' : Heap} (B : KB wd Z P s s' h) (E : Ext h h') : KB wd Z (P.grow h h') s s' h' := by
  rcases B with ⟨a, b⟩ | ⟨a, vm0, k0, rfl, c, d, e, f⟩
  · exact Or.inl ⟨a, b⟩
  · refine Or.inr ⟨a, vm0, k0, rfl, c, Nat.le_trans d E.1, e.trans (CHr.ext E e.1), fun x hx => ?_⟩
    rcases hx with hx | ⟨hx, hx'⟩
    · exact ⟨Safe.ext E e.1 (f x hx).1, Nat.lt_of_lt_of_le (f x hx).2 E.1⟩
    · exact ⟨Safe.ext E e.1 (Safe.new hx), hx'⟩
theorem KB.wr {wd : Bool} {Z : State} {P : PX} {s s' : State} {h h' : Heap} {a : Addr} {sl : Nat} {v : Value} (B : KB wd Z P s s' h) (hZ : Z.Warmed39 s'.vm) (W : Wr h h' a sl v) (q : wd = true → Sf Z P h a) : KB wd Z P s s' h' := by
  rcases B with ⟨a, b⟩ | ⟨a, vm0, k0, rfl, c, d, e, f⟩
  · exact Or.inl ⟨a, b⟩
  · have hs : Safe Z P.1 vm0 h _ := (q a).elim (fun r => (f _ r).1) (fun r => r vm0 hZ.alike)
    exact Or.inr ⟨a, vm0, k0, rfl, c, by rw [W.size]; exact d, e.trans (CHr.wr W hs e.1), fun x hx => ⟨Safe.wr W hs e.1 (f x hx).1, by rw [W.size]; exact (f x hx).2⟩⟩
theorem KB.sub {wd : Bool} {Z : State} {P : PX} {S' : Addr → Prop} {s s' : State} {h : Heap} (B : KB wd Z P s s' h) (q : ∀ x, S' x → P.2 x) : KB wd Z (P.1, S') s s' h :=
  B.imp id fun ⟨a, vm0, k0, b, c, d, e, f⟩ => ⟨a, vm0, k0, b, c, d, e, fun x hx => f x (q x hx)⟩
def KE (wd : Bool) (Z s : State) (v : Option Value) (t : State) (L : List Loc) (EL : List (String × Nat)) (k n : Nat) : Prop :=
  (wd = false ∧ FrameEnd s (.returned v) t L k n) ∨ (wd = true ∧ CHr Z EL s.vm s.heap t.vm t.heap ∧ ReturnedEndW s (.returned v) t L k n)
/-- the walk's judgement: from here the method returns, and what it leaves meets Q -/
def KW (wd : Bool) (l : Launch) (Z : State) (M : MD) (n0 : Nat) (Q : Option Value → Heap → Prop) (P : PX) (h : Heap) (k n : Nat) (pc : Nat) (Ls : Array Slot) (st : List Value) : Prop :=
  ∀ (p : Program) (e : Env) (s s' : State) (m : MethodId) (args : Array Value) (below : List Frame) (meth : Method) (c : Code),
    p.tables.exec = Jvm.exec → c.code = M.2.1 → c.maxLocals = M.2.2.1 → s'.vm.findClass M.1.cls = some m.cls → meth.name = M.1.name → meth.sig.returnType = M.2.2.2.1 → meth.locks = false → Z.Warmed39 s'.vm → KB wd Z P s s' h → (wd = true → ∃ a0, EW Z a0 P.1) →
    ∀ (T : State) (locs : List Loc), Stand p l e M.2.2.2.2 s' m args below meth c T locs k n → Fr n0 locs → T.heap = h →
    ∃ t v L, Steps p.tables e below (T.setTop (mkF m pc Ls st)) t ∧ t.status = .running ∧ Ended t below (.returned v) ∧ Fr n0 L ∧ Q v t.heap ∧ KE wd Z s v t L P.1 M.2.2.2.2.cells M.2.2.2.2.slots
section
variable {wd : Bool} {l : Launch} {Z : State} {M : MD} {n0 : Nat} {Q : Option Value → Heap → Prop} {P : PX} {h : Heap} {k n pc pc' : Nat} {Ls Ls' : Array Slot} {st st' rest : List Value} {a0 : Array Value}
theorem KW.step (W : KW wd l Z M n0 Q P h k n pc' Ls' st') (f : ∀ (p : Program) (e : Env) (s' T : State) (m : MethodId) (args : Array Value) (below : List Frame) (meth : Method) (c : Code) (locs : List Loc), p.tables.exec = Jvm.exec → c.code = M.2.1 → s'.vm.findClass M.1.cls = some m.cls → Z.Warmed39 s'.vm → Stand p l e M.2.2.2.2 s' m args below meth c T locs k n →
    ∀ target, Steps p.tables e below (T.setTop (mkF m pc' Ls' st')) target → Steps p.tables e below (T.setTop (mkF m pc Ls st)) target) : KW wd l Z M n0 Q P h k n pc Ls st := by
  intro p e s s' m args below meth c hx hby hml hown hnm hret hlk hZ hB hI T locs X N eT
  obtain ⟨t, v, L, r, rr⟩ := W p e s s' m args below meth c hx hby hml hown hnm hret hlk hZ hB hI T locs X N eT
  exact ⟨t, v, L, f p e s' T m args below meth c locs hx hby hown hZ X t r, rr⟩
theorem KW.move (W : KW wd l Z M n0 Q P h k n pc' Ls' st') (f : ∀ (p : Program) (e : Env) (s' T : State) (m : MethodId) (args : Array Value) (below : List Frame) (meth : Method) (c : Code) (locs : List Loc), p.tables.exec = Jvm.exec → c.code = M.2.1 → c.maxLocals = M.2.2.1 → s'.vm.findClass M.1.cls = some m.cls → Z.Warmed39 s'.vm → Stand p l e M.2.2.2.2 s' m args below meth c T locs k n → T.heap = h →
    ∃ T', Stand p l e M.2.2.2.2 s' m args below meth c T' locs k n ∧ T'.heap = h ∧ ∀ target, Steps p.tables e below (T'.setTop (mkF m pc' Ls' st')) target → Steps p.tables e below (T.setTop (mkF m pc Ls st)) target) : KW wd l Z M n0 Q P h k n pc Ls st := by
  intro p e s s' m args below meth c hx hby hml hown hnm hret hlk hZ hB hI T locs X N eT
  obtain ⟨T', X', eT', st⟩ := f p e s' T m args below meth c locs hx hby hml hown hZ X eT
  obtain ⟨t, v, L, r, rr⟩ := W p e s s' m args below meth c hx hby hml hown hnm hret hlk hZ hB hI T' locs X' N eT'
  exact ⟨t, v, L, st t r, rr⟩
theorem k_aloadN {i : Fin 4} {v : Value} (hd : decode M.2.1 pc = .ok (.aload_n i, 1)) (hp : pc + 1 = pc') (hl : Ls[i.val]? = some (.val v)) (hv : v.isRef = true) (W : KW wd l Z M n0 Q P h k n pc' Ls (v :: st)) : KW wd l Z M n0 Q P h k n pc Ls st := by
  subst hp; exact W.step fun p e s' T m args below meth c locs hx hby hown hZ X target r => XS.aloadN X.here hx rfl (hb hby hd) hl hv r
theorem k_aload {i : Nat} {v : Value} (hd : decode M.2.1 pc = .ok (.aload i, 2)) (hp : pc + 2 = pc') (hl : Ls[i]? = some (.val v)) (hv : v.isRef = true) (W : KW wd l Z M n0 Q P h k n pc' Ls (v :: st)) : KW wd l Z M n0 Q P h k n pc Ls st := by
  subst hp; exact W.step fun p e s' T m args below meth c locs hx hby hown hZ X target r => XS.aload X.here hx rfl (hb hby hd) hl hv r
theorem k_iloadN {i : Fin 4} {v : Int32} (hd : decode M.2.1 pc = .ok (.iload_n i, 1)) (hp : pc + 1 = pc') (hl : Ls[i.val]? = some (.val (.int v))) (W : KW wd l Z M n0 Q P h k n pc' Ls (.int v :: st)) : KW wd l Z M n0 Q P h k n pc Ls st := by
  subst hp; exact W.step fun p e s' T m args below meth c locs hx hby hown hZ X target r => XS.iloadN X.here hx rfl (hb hby hd) hl r
theorem k_iload {i : Nat} {v : Int32} (hd : decode M.2.1 pc = .ok (.iload i, 2)) (hp : pc + 2 = pc') (hl : Ls[i]? = some (.val (.int v))) (W : KW wd l Z M n0 Q P h k n pc' Ls (.int v :: st)) : KW wd l Z M n0 Q P h k n pc Ls st := by
  subst hp; exact W.step fun p e s' T m args below meth c locs hx hby hown hZ X target r => XS.iload X.here hx rfl (hb hby hd) hl r
theorem k_lloadN {i : Fin 4} {v : Int64} (hd : decode M.2.1 pc = .ok (.lload_n i, 1)) (hp : pc + 1 = pc') (hl : Ls[i.val]? = some (.val (.long v))) (W : KW wd l Z M n0 Q P h k n pc' Ls (.long v :: st)) : KW wd l Z M n0 Q P h k n pc Ls st := by
  subst hp; exact W.step fun p e s' T m args below meth c locs hx hby hown hZ X target r => XS.lloadN X.here hx rfl (hb hby hd) hl r
theorem k_lload {i : Nat} {v : Int64} (hd : decode M.2.1 pc = .ok (.lload i, 2)) (hp : pc + 2 = pc') (hl : Ls[i]? = some (.val (.long v))) (W : KW wd l Z M n0 Q P h k n pc' Ls (.long v :: st)) : KW wd l Z M n0 Q P h k n pc Ls st := by
  subst hp; exact W.step fun p e s' T m args below meth c locs hx hby hown hZ X target r => XS.lload X.here hx rfl (hb hby hd) hl r
theorem k_istoreN {i : Fin 4} {x : Int32} (hd : decode M.2.1 pc = .ok (.istore_n i, 1)) (hp : pc + 1 = pc') (hl : storeLocals Ls i.val (.int x) = some Ls') (W : KW wd l Z M n0 Q P h k n pc' Ls' st) : KW wd l Z M n0 Q P h k n pc Ls (.int x :: st) := by
  subst hp; exact W.step fun p e s' T m args below meth c locs hx hby hown hZ X target r => XS.istoreN X.here hx rfl (hb hby hd) rfl hl r
theorem k_istore {i : Nat} {x : Int32} (hd : decode M.2.1 pc = .ok (.istore i, 2)) (hp : pc + 2 = pc') (hl : storeLocals Ls i (.int x) = some Ls') (W : KW wd l Z M n0 Q P h k n pc' Ls' st) : KW wd l Z M n0 Q P h k n pc Ls (.int x :: st) := by
  subst hp; exact W.step fun p e s' T m args below meth c locs hx hby hown hZ X target r => XS.istore X.here hx rfl (hb hby hd) rfl hl r
theorem k_lstoreN {i : Fin 4} {x : Int64} (hd : decode M.2.1 pc = .ok (.lstore_n i, 1)) (hp : pc + 1 = pc') (hl : storeLocals Ls i.val (.long x) = some Ls') (W : KW wd l Z M n0 Q P h k n pc' Ls' st) : KW wd l Z M n0 Q P h k n pc Ls (.long x :: st) := by
  subst hp; exact W.step fun p e s' T m args below meth c locs hx hby hown hZ X target r => XS.lstoreN X.here hx rfl (hb hby hd) rfl hl r
theorem k_lstore {i : Nat} {x : Int64} (hd : decode M.2.1 pc = .ok (.lstore i, 2)) (hp : pc + 2 = pc') (hl : storeLocals Ls i (.long x) = some Ls') (W : KW wd l Z M n0 Q P h k n pc' Ls' st) : KW wd l Z M n0 Q P h k n pc Ls (.long x :: st) := by
  subst hp; exact W.step fun p e s' T m args below meth c locs hx hby hown hZ X target r => XS.lstore X.here hx rfl (hb hby hd) rfl hl r
theorem k_astoreN {i : Fin 4} {x : Value} (hd : decode M.2.1 pc = .ok (.astore_n i, 1)) (hp : pc + 1 = pc') (hv : x.isRef = true) (hl : storeLocals Ls i.val x = some Ls') (W : KW wd l Z M n0 Q P h k n pc' Ls' st) : KW wd l Z M n0 Q P h k n pc Ls (x :: st) := by
  subst hp; exact W.step fun p e s' T m args below meth c locs hx hby hown hZ X target r => XS.astoreN X.here hx rfl (hb hby hd) rfl hv hl r
theorem k_astore {i : Nat} {x : Value} (hd : decode M.2.1 pc = .ok (.astore i, 2)) (hp : pc + 2 = pc') (hv : x.isRef = true) (hl : storeLocals Ls i x = some Ls') (W : KW wd l Z M n0 Q P h k n pc' Ls' st) : KW wd l Z M n0 Q P h k n pc Ls (x :: st) := by
  subst hp; exact W.step fun p e s' T m args below meth c locs hx hby hown hZ X target r => XS.astore X.here hx rfl (hb hby hd) rfl hv hl r
theorem k_iconst {i : Int} {z : Int32} (hd : decode M.2.1 pc = .ok (.iconst i, 1)) (hp : pc + 1 = pc') (hz : Int32.ofInt i = z) (W : KW wd l Z M n0 Q P h k n pc' Ls (.int z :: st)) : KW wd l Z M n0 Q P h k n pc Ls st := by
  subst hp; exact W.step fun p e s' T m args below meth c locs hx hby hown hZ X target r => XS.iconst X.here hx rfl (hb hby hd) (by rw [hz]; exact r)
theorem k_bipush {i : Int} {z : Int32} (hd : decode M.2.1 pc = .ok (.bipush i, 2)) (hp : pc + 2 = pc') (hz : (Int8.ofInt i).toInt32 = z) (W : KW wd l Z M n0 Q P h k n pc' Ls (.int z :: st)) : KW wd l Z M n0 Q P h k n pc Ls st := by
  subst hp; exact W.step fun p e s' T m args below meth c locs hx hby hown hZ X target r => XS.bipush X.here hx rfl (hb hby hd) (by rw [hz]; exact r)
theorem k_sipush {i : Int} {z : Int32} (hd : decode M.2.1 pc = .ok (.sipush i, 3)) (hp : pc + 3 = pc') (hz : (Int16.ofInt i).toInt32 = z) (W : KW wd l Z M n0 Q P h k n pc' Ls (.int z :: st)) : KW wd l Z M n0 Q P h k n pc Ls st := by
  subst hp; exact W.step fun p e s' T m args below meth c locs hx hby hown hZ X target r => XS.sipush X.here hx rfl (hb hby hd) (by rw [hz]; exact r)
theorem k_lconst {i : Fin 2} {z : Int64} (hd : decode M.2.1 pc = .ok (.lconst i, 1)) (hp : pc + 1 = pc') (hz : Int64.ofNat i = z) (W : KW wd l Z M n0 Q P h k n pc' Ls (.long z :: st)) : KW wd l Z M n0 Q P h k n pc Ls st := by
  subst hp; exact W.step fun p e s' T m args below meth c locs hx hby hown hZ X target r => XS.lconst X.here hx rfl (hb hby hd) (by rw [hz]; exact r)
theorem k_aconstNull (hd : decode M.2.1 pc = .ok (.aconst_null, 1)) (hp : pc + 1 = pc') (W : KW wd l Z M n0 Q P h k n pc' Ls (.null :: st)) : KW wd l Z M n0 Q P h k n pc Ls st := by
  subst hp; exact W.step fun p e s' T m args below meth c locs hx hby hown hZ X target r => XS.aconstNull X.here hx rfl (hb hby hd) r
theorem k_iadd {x y : Int32} (hd : decode M.2.1 pc = .ok (.iadd, 1)) (hp : pc + 1 = pc') (W : KW wd l Z M n0 Q P h k n pc' Ls (.int (x + y) :: st)) : KW wd l Z M n0 Q P h k n pc Ls (.int y :: .int x :: st) := by
  subst hp; exact W.step fun p e s' T m args below meth c locs hx hby hown hZ X target r => XS.iadd X.here hx rfl (hb hby hd) rfl r
theorem k_isub {x y : Int32} (hd : decode M.2.1 pc = .ok (.isub, 1)) (hp : pc + 1 = pc') (W : KW wd l Z M n0 Q P h k n pc' Ls (.int (x - y) :: st)) : KW wd l Z M n0 Q P h k n pc Ls (.int y :: .int x :: st) := by
  subst hp; exact W.step fun p e s' T m args below meth c locs hx hby hown hZ X target r => XS.isub X.here hx rfl (hb hby hd) rfl r
theorem k_iand {x y : Int32} (hd : decode M.2.1 pc = .ok (.iand, 1)) (hp : pc + 1 = pc') (W : KW wd l Z M n0 Q P h k n pc' Ls (.int (x &&& y) :: st)) : KW wd l Z M n0 Q P h k n pc Ls (.int y :: .int x :: st) := by
  subst hp; exact W.step fun p e s' T m args below meth c locs hx hby hown hZ X target r => XS.iand X.here hx rfl (hb hby hd) rfl r
theorem k_imul {x y : Int32} (hd : decode M.2.1 pc = .ok (.imul, 1)) (hp : pc + 1 = pc') (W : KW wd l Z M n0 Q P h k n pc' Ls (.int (x * y) :: st)) : KW wd l Z M n0 Q P h k n pc Ls (.int y :: .int x :: st) := by
  subst hp; exact W.step fun p e s' T m args below meth c locs hx hby hown hZ X target r => XS.imul X.here hx rfl (hb hby hd) rfl r
theorem k_ixor {x y : Int32} (hd : decode M.2.1 pc = .ok (.ixor, 1)) (hp : pc + 1 = pc') (W : KW wd l Z M n0 Q P h k n pc' Ls (.int (x ^^^ y) :: st)) : KW wd l Z M n0 Q P h k n pc Ls (.int y :: .int x :: st) := by
  subst hp; exact W.step fun p e s' T m args below meth c locs hx hby hown hZ X target r => XS.ixor X.here hx rfl (hb hby hd) rfl r
theorem k_ior {x y : Int32} (hd : decode M.2.1 pc = .ok (.ior, 1)) (hp : pc + 1 = pc') (W : KW wd l Z M n0 Q P h k n pc' Ls (.int (x ||| y) :: st)) : KW wd l Z M n0 Q P h k n pc Ls (.int y :: .int x :: st) := by
  subst hp; exact W.step fun p e s' T m args below meth c locs hx hby hown hZ X target r => XS.ior X.here hx rfl (hb hby hd) rfl r
theorem k_ishl {x y : Int32} (hd : decode M.2.1 pc = .ok (.ishl, 1)) (hp : pc + 1 = pc') (W : KW wd l Z M n0 Q P h k n pc' Ls (.int (x <<< (y &&& 31)) :: st)) : KW wd l Z M n0 Q P h k n pc Ls (.int y :: .int x :: st) := by
  subst hp; exact W.step fun p e s' T m args below meth c locs hx hby hown hZ X target r => XS.ishl X.here hx rfl (hb hby hd) rfl r
theorem k_ishr {x y : Int32} (hd : decode M.2.1 pc = .ok (.ishr, 1)) (hp : pc + 1 = pc') (W : KW wd l Z M n0 Q P h k n pc' Ls (.int (x >>> (y &&& 31)) :: st)) : KW wd l Z M n0 Q P h k n pc Ls (.int y :: .int x :: st) := by
  subst hp; exact W.step fun p e s' T m args below meth c locs hx hby hown hZ X target r => XS.ishr X.here hx rfl (hb hby hd) rfl r
theorem k_iushr {x y : Int32} (hd : decode M.2.1 pc = .ok (.iushr, 1)) (hp : pc + 1 = pc') (W : KW wd l Z M n0 Q P h k n pc' Ls (.int ((x.toUInt32 >>> (y &&& 31).toUInt32).toInt32) :: st)) : KW wd l Z M n0 Q P h k n pc Ls (.int y :: .int x :: st) := by
  subst hp; exact W.step fun p e s' T m args below meth c locs hx hby hown hZ X target r => XS.iushr X.here hx rfl (hb hby hd) rfl r
theorem k_idiv {x y : Int32} (hd : decode M.2.1 pc = .ok (.idiv, 1)) (hp : pc + 1 = pc') (hy : y ≠ 0) (W : KW wd l Z M n0 Q P h k n pc' Ls (.int (x / y) :: st)) : KW wd l Z M n0 Q P h k n pc Ls (.int y :: .int x :: st) := by
  subst hp; exact W.step fun p e s' T m args below meth c locs hx hby hown hZ X target r => XS.idiv X.here hx rfl (hb hby hd) rfl hy r
theorem k_irem {x y : Int32} (hd : decode M.2.1 pc = .ok (.irem, 1)) (hp : pc + 1 = pc') (hy : y ≠ 0) (W : KW wd l Z M n0 Q P h k n pc' Ls (.int (x % y) :: st)) : KW wd l Z M n0 Q P h k n pc Ls (.int y :: .int x :: st) := by
  subst hp; exact W.step fun p e s' T m args below meth c locs hx hby hown hZ X target r => iremM X hx rfl (hb hby hd) rfl hy r
theorem k_ineg {x : Int32} (hd : decode M.2.1 pc = .ok (.ineg, 1)) (hp : pc + 1 = pc') (W : KW wd l Z M n0 Q P h k n pc' Ls (.int (-x) :: st)) : KW wd l Z M n0 Q P h k n pc Ls (.int x :: st) := by
  subst hp; exact W.step fun p e s' T m args below meth c locs hx hby hown hZ X target r => XS.ineg X.here hx rfl (hb hby hd) rfl r
theorem k_ladd {x y : Int64} (hd : decode M.2.1 pc = .ok (.ladd, 1)) (hp : pc + 1 = pc') (W : KW wd l Z M n0 Q P h k n pc' Ls (.long (x + y) :: st)) : KW wd l Z M n0 Q P h k n pc Ls (.long y :: .long x :: st) := by
  subst hp; exact W.step fun p e s' T m args below meth c locs hx hby hown hZ X target r => XS.ladd X.here hx rfl (hb hby hd) rfl r
theorem k_lsub {x y : Int64} (hd : decode M.2.1 pc = .ok (.lsub, 1)) (hp : pc + 1 = pc') (W : KW wd l Z M n0 Q P h k n pc' Ls (.long (x - y) :: st)) : KW wd l Z M n0 Q P h k n pc Ls (.long y :: .long x :: st) := by
  subst hp; exact W.step fun p e s' T m args below meth c locs hx hby hown hZ X target r => XS.lsub X.here hx rfl (hb hby hd) rfl r
theorem k_lmul {x y : Int64} (hd : decode M.2.1 pc = .ok (.lmul, 1)) (hp : pc + 1 = pc') (W : KW wd l Z M n0 Q P h k n pc' Ls (.long (x * y) :: st)) : KW wd l Z M n0 Q P h k n pc Ls (.long y :: .long x :: st) := by
  subst hp; exact W.step fun p e s' T m args below meth c locs hx hby hown hZ X target r => XS.lmul X.here hx rfl (hb hby hd) rfl r
theorem k_land {x y : Int64} (hd : decode M.2.1 pc = .ok (.land, 1)) (hp : pc + 1 = pc') (W : KW wd l Z M n0 Q P h k n pc' Ls (.long (x &&& y) :: st)) : KW wd l Z M n0 Q P h k n pc Ls (.long y :: .long x :: st) := by
  subst hp; exact W.step fun p e s' T m args below meth c locs hx hby hown hZ X target r => XS.land X.here hx rfl (hb hby hd) rfl r
theorem k_lor {x y : Int64} (hd : decode M.2.1 pc = .ok (.lor, 1)) (hp : pc + 1 = pc') (W : KW wd l Z M n0 Q P h k n pc' Ls (.long (x ||| y) :: st)) : KW wd l Z M n0 Q P h k n pc Ls (.long y :: .long x :: st) := by
  subst hp; exact W.step fun p e s' T m args below meth c locs hx hby hown hZ X target r => XS.lor X.here hx rfl (hb hby hd) rfl r
theorem k_lxor {x y : Int64} (hd : decode M.2.1 pc = .ok (.lxor, 1)) (hp : pc + 1 = pc') (W : KW wd l Z M n0 Q P h k n pc' Ls (.long (x ^^^ y) :: st)) : KW wd l Z M n0 Q P h k n pc Ls (.long y :: .long x :: st) := by
  subst hp; exact W.step fun p e s' T m args below meth c locs hx hby hown hZ X target r => XS.lxor X.here hx rfl (hb hby hd) rfl r
theorem k_ldiv {x y : Int64} (hd : decode M.2.1 pc = .ok (.ldiv, 1)) (hp : pc + 1 = pc') (hy : y ≠ 0) (W : KW wd l Z M n0 Q P h k n pc' Ls (.long (x / y) :: st)) : KW wd l Z M n0 Q P h k n pc Ls (.long y :: .long x :: st) := by
  subst hp; exact W.step fun p e s' T m args below meth c locs hx hby hown hZ X target r => XS.ldiv X.here hx rfl (hb hby hd) rfl hy r
theorem k_lrem {x y : Int64} (hd : decode M.2.1 pc = .ok (.lrem, 1)) (hp : pc + 1 = pc') (hy : y ≠ 0) (W : KW wd l Z M n0 Q P h k n pc' Ls (.long (x % y) :: st)) : KW wd l Z M n0 Q P h k n pc Ls (.long y :: .long x :: st) := by
  subst hp; exact W.step fun p e s' T m args below meth c locs hx hby hown hZ X target r => XS.lrem X.here hx rfl (hb hby hd) rfl hy (by rw [lrem_mod]; exact r)
theorem k_lshl {x : Int64} {y : Int32} (hd : decode M.2.1 pc = .ok (.lshl, 1)) (hp : pc + 1 = pc') (W : KW wd l Z M n0 Q P h k n pc' Ls (.long (x <<< (y &&& 63).toInt64) :: st)) : KW wd l Z M n0 Q P h k n pc Ls (.int y :: .long x :: st) := by
  subst hp; exact W.step fun p e s' T m args below meth c locs hx hby hown hZ X target r => XS.lshl X.here hx rfl (hb hby hd) rfl r
theorem k_lshr {x : Int64} {y : Int32} (hd : decode M.2.1 pc = .ok (.lshr, 1)) (hp : pc + 1 = pc') (W : KW wd l Z M n0 Q P h k n pc' Ls (.long (x >>> (y &&& 63).toInt64) :: st)) : KW wd l Z M n0 Q P h k n pc Ls (.int y :: .long x :: st) := by
  subst hp; exact W.step fun p e s' T m args below meth c locs hx hby hown hZ X target r => XS.lshr X.here hx rfl (hb hby hd) rfl r
theorem k_lushr {x : Int64} {y : Int32} (hd : decode M.2.1 pc = .ok (.lushr, 1)) (hp : pc + 1 = pc') (W : KW wd l Z M n0 Q P h k n pc' Ls (.long ((x.toUInt64 >>> (y &&& 63).toInt64.toUInt64).toInt64) :: st)) : KW wd l Z M n0 Q P h k n pc Ls (.int y :: .long x :: st) := by
  subst hp; exact W.step fun p e s' T m args below meth c locs hx hby hown hZ X target r => XS.lushr X.here hx rfl (hb hby hd) rfl r
theorem k_i2l {x : Int32} (hd : decode M.2.1 pc = .ok (.i2l, 1)) (hp : pc + 1 = pc') (W : KW wd l Z M n0 Q P h k n pc' Ls (.long (x.toInt64) :: st)) : KW wd l Z M n0 Q P h k n pc Ls (.int x :: st) := by
  subst hp; exact W.step fun p e s' T m args below meth c locs hx hby hown hZ X target r => XS.i2l X.here hx rfl (hb hby hd) rfl r
theorem k_i2b {x : Int32} (hd : decode M.2.1 pc = .ok (.i2b, 1)) (hp : pc + 1 = pc') (W : KW wd l Z M n0 Q P h k n pc' Ls (.int (x.toInt8.toInt32) :: st)) : KW wd l Z M n0 Q P h k n pc Ls (.int x :: st) := by
  subst hp; exact W.step fun p e s' T m args below meth c locs hx hby hown hZ X target r => XS.i2b X.here hx rfl (hb hby hd) rfl r
theorem k_i2c {x : Int32} (hd : decode M.2.1 pc = .ok (.i2c, 1)) (hp : pc + 1 = pc') (W : KW wd l Z M n0 Q P h k n pc' Ls (.int (x.toUInt32.toUInt16.toUInt32.toInt32) :: st)) : KW wd l Z M n0 Q P h k n pc Ls (.int x :: st) := by
  subst hp; exact W.step fun p e s' T m args below meth c locs hx hby hown hZ X target r => XS.i2c X.here hx rfl (hb hby hd) rfl r
theorem k_i2s {x : Int32} (hd : decode M.2.1 pc = .ok (.i2s, 1)) (hp : pc + 1 = pc') (W : KW wd l Z M n0 Q P h k n pc' Ls (.int (x.toInt16.toInt32) :: st)) : KW wd l Z M n0 Q P h k n pc Ls (.int x :: st) := by
  subst hp; exact W.step fun p e s' T m args below meth c locs hx hby hown hZ X target r => XS.i2s X.here hx rfl (hb hby hd) rfl r
theorem k_l2i {x : Int64} (hd : decode M.2.1 pc = .ok (.l2i, 1)) (hp : pc + 1 = pc') (W : KW wd l Z M n0 Q P h k n pc' Ls (.int (x.toInt32) :: st)) : KW wd l Z M n0 Q P h k n pc Ls (.long x :: st) := by
  subst hp; exact W.step fun p e s' T m args below meth c locs hx hby hown hZ X target r => XS.l2i X.here hx rfl (hb hby hd) rfl r
def cmpLV (x y : Int64) : Int32 := if y < x then 1 else if x = y then 0 else -1
theorem k_lcmp {x y : Int64} (hd : decode M.2.1 pc = .ok (.lcmp, 1)) (hp : pc + 1 = pc') (W : KW wd l Z M n0 Q P h k n pc' Ls (.int (cmpLV x y) :: st)) : KW wd l Z M n0 Q P h k n pc Ls (.long y :: .long x :: st) := by
  subst hp; exact W.step fun p e s' T m args below meth c locs hx hby hown hZ X target r => XS.lcmp X.here hx rfl (hb hby hd) rfl r
theorem k_dup {x : Value} (hd : decode M.2.1 pc = .ok (.dup, 1)) (hp : pc + 1 = pc') (hc : x.category = 1) (W : KW wd l Z M n0 Q P h k n pc' Ls (x :: x :: st)) : KW wd l Z M n0 Q P h k n pc Ls (x :: st) := by
  subst hp; exact W.step fun p e s' T m args below meth c locs hx hby hown hZ X target r => XS.dup X.here hx rfl (hb hby hd) rfl hc r
theorem k_pop {x : Value} (hd : decode M.2.1 pc = .ok (.pop, 1)) (hp : pc + 1 = pc') (hc : x.category = 1) (W : KW wd l Z M n0 Q P h k n pc' Ls st) : KW wd l Z M n0 Q P h k n pc Ls (x :: st) := by
  subst hp; exact W.step fun p e s' T m args below meth c locs hx hby hown hZ X target r => XS.pop X.here hx rfl (hb hby hd) rfl hc r
theorem k_dupX1 {x y : Value} (hd : decode M.2.1 pc = .ok (.dup_x1, 1)) (hp : pc + 1 = pc') (hc : x.category = 1) (hc' : y.category = 1) (W : KW wd l Z M n0 Q P h k n pc' Ls (x :: y :: x :: st)) : KW wd l Z M n0 Q P h k n pc Ls (x :: y :: st) := by
  subst hp; exact W.step fun p e s' T m args below meth c locs hx hby hown hZ X target r => XS.dupX1 X.here hx rfl (hb hby hd) rfl hc hc' r
theorem k_dup2 {x y : Value} (hd : decode M.2.1 pc = .ok (.dup2, 1)) (hp : pc + 1 = pc') (hc : x.category = 1) (hc' : y.category = 1) (W : KW wd l Z M n0 Q P h k n pc' Ls (x :: y :: x :: y :: st)) : KW wd l Z M n0 Q P h k n pc Ls (x :: y :: st) := by
  subst hp; exact W.step fun p e s' T m args below meth c locs hx hby hown hZ X target r => XT.dup2 X.here hx rfl (hb hby hd) rfl hc hc' r
theorem k_iinc {i : Nat} {cst : Int} {x z : Int32} (hd : decode M.2.1 pc = .ok (.iinc i cst, 3)) (hp : pc + 3 = pc') (hz : Int32.ofInt cst = z) (hl : Ls[i]? = some (.val (.int x))) (hl' : storeLocals Ls i (.int (x + z)) = some Ls') (W : KW wd l Z M n0 Q P h k n pc' Ls' st) : KW wd l Z M n0 Q P h k n pc Ls st := by
  subst hp; exact W.step fun p e s' T m args below meth c locs hx hby hown hZ X target r => XS.iinc X.here hx rfl (hb hby hd) hl (by rw [hz]; exact hl') r
theorem k_goto {o : Int} (hd : decode M.2.1 pc = .ok (.goto o, 3)) (ho : 0 ≤ (pc : Int) + o) (hp : ((pc : Int) + o).toNat = pc') (W : KW wd l Z M n0 Q P h k n pc' Ls st) : KW wd l Z M n0 Q P h k n pc Ls st :=
  W.step fun p e s' T m args below meth c locs hx hby hown hZ X target r => XS.goto X.here hx rfl rfl (hb hby hd) ho hp r
/-- what a comparison says where it is taken, and where it isn't -/
def icY : ClassFile.Cond → Int32 → Int32 → Prop
  | .eq, x, y => x = y | .ne, x, y => ¬ x = y | .lt, x, y => x < y | .ge, x, y => ¬ x < y | .gt, x, y => y < x | .le, x, y => ¬ y < x
def icN : ClassFile.Cond → Int32 → Int32 → Prop
  | .eq, x, y => ¬ x = y | .ne, x, y => x = y | .lt, x, y => ¬ x < y | .ge, x, y => x < y | .gt, x, y => ¬ y < x | .le, x, y => y < x
theorem ic_t {cd : ClassFile.Cond} {x y : Int32} (q : if_icmp.holds cd x y = true) : icY cd x y := by
  cases cd <;> simp [if_icmp.holds] at q <;> simp only [icY] <;> first | exact q | exact Int32.not_lt.mpr q
theorem ic_f {cd : ClassFile.Cond} {x y : Int32} (q : if_icmp.holds cd x y = false) : icN cd x y := by
  cases cd <;> simp [if_icmp.holds] at q <;> simp only [icN] <;> first | exact q | exact Int32.not_lt.mpr q | exact Int32.not_le.mp q
theorem k_icmp {cd : ClassFile.Cond} {o : Int} {x y : Int32} {pc1 : Nat} (hd : decode M.2.1 pc = .ok (.if_icmp cd o, 3)) (ho : 0 ≤ (pc : Int) + o) (hp1 : ((pc : Int) + o).toNat = pc1) (hp : pc + 3 = pc')
    (W1 : icY cd x y → KW wd l Z M n0 Q P h k n pc1 Ls st) (W2 : icN cd x y → KW wd l Z M n0 Q P h k n pc' Ls st) : KW wd l Z M n0 Q P h k n pc Ls (.int y :: .int x :: st) := by
  cases q : if_icmp.holds cd x y
  · subst hp; exact (W2 (ic_f q)).step fun p e s' T m args below meth c locs hx hby hown hZ X target r => XS.icmpNo X.here hx rfl (hb hby hd) rfl q r
  · exact (W1 (ic_t q)).step fun p e s' T m args below meth c locs hx hby hown hZ X target r => XS.icmpYes X.here hx rfl rfl (hb hby hd) rfl q ho hp1 r
theorem k_ifc {cd : ClassFile.Cond} {o : Int} {x : Int32} {pc1 : Nat} (hd : decode M.2.1 pc = .ok (.ifCond cd o, 3)) (ho : 0 ≤ (pc : Int) + o) (hp1 : ((pc : Int) + o).toNat = pc1) (hp : pc + 3 = pc')
    (W1 : icY cd x 0 → KW wd l Z M n0 Q P h k n pc1 Ls st) (W2 : icN cd x 0 → KW wd l Z M n0 Q P h k n pc' Ls st) : KW wd l Z M n0 Q P h k n pc Ls (.int x :: st) := by
  cases q : ifCond.holds cd x
  · subst hp; exact (W2 (ic_f (by rw [← if0]; exact q))).step fun p e s' T m args below meth c locs hx hby hown hZ X target r => XS.ifNo X.here hx rfl (hb hby hd) rfl q r
  · exact (W1 (ic_t (by rw [← if0]; exact q))).step fun p e s' T m args below meth c locs hx hby hown hZ X target r => XS.ifYes X.here hx rfl rfl (hb hby hd) rfl q ho hp1 r
/-- lcmp and the branch behind it, in one -/
def lcY : ClassFile.Cond → Int64 → Int64 → Prop
  | .eq, x, y => x = y | .ne, x, y => ¬ x = y | .lt, x, y => x < y | .ge, x, y => ¬ x < y | .gt, x, y => y < x | .le, x, y => ¬ y < x
def lcN : ClassFile.Cond → Int64 → Int64 → Prop
  | .eq, x, y => ¬ x = y | .ne, x, y => x = y | .lt, x, y => ¬ x < y | .ge, x, y => x < y | .gt, x, y => ¬ y < x | .le, x, y => y < x
theorem cmpL_V (x y : Int64) : cmpLV x y = lcmpV x y := by simp [cmpLV, lcmpV]
theorem lc_t {cd : ClassFile.Cond} {x y : Int64} (q : icY cd (cmpLV x y) 0) : lcY cd x y := by
  rw [cmpL_V] at q
  cases cd <;> simp only [icY, lcY] at q ⊢
  · exact (lc_eq x y).mp q
  · exact fun e => q ((lc_eq x y).mpr e)
  · exact (lc_lt x y).mp q
  · exact fun e => q ((lc_lt x y).mpr e)
  · exact (lc_gt x y).mp q
  · exact fun e => q ((lc_gt x y).mpr e)
theorem lc_f {cd : ClassFile.Cond} {x y : Int64} (q : icN cd (cmpLV x y) 0) : lcN cd x y := by
  rw [cmpL_V] at q
  cases cd <;> simp only [icN, lcN] at q ⊢
  · exact fun e => q ((lc_eq x y).mpr e)
  · exact (lc_eq x y).mp q
  · exact fun e => q ((lc_lt x y).mpr e)
  · exact (lc_lt x y).mp q
  · exact fun e => q ((lc_gt x y).mpr e)
  · exact (lc_gt x y).mp q
theorem k_lcmpIf {cd : ClassFile.Cond} {o : Int} {x y : Int64} {pc1 pc2 : Nat} (hd0 : decode M.2.1 pc = .ok (.lcmp, 1)) (hp0 : pc + 1 = pc') (hd : decode M.2.1 pc' = .ok (.ifCond cd o, 3)) (ho : 0 ≤ (pc' : Int) + o) (hp1 : ((pc' : Int) + o).toNat = pc1) (hp : pc' + 3 = pc2)
    (W1 : lcY cd x y → KW wd l Z M n0 Q P h k n pc1 Ls st) (W2 : lcN cd x y → KW wd l Z M n0 Q P h k n pc2 Ls st) : KW wd l Z M n0 Q P h k n pc Ls (.long y :: .long x :: st) :=
  k_lcmp hd0 hp0 (k_ifc hd ho hp1 hp (fun q => W1 (lc_t q)) (fun q => W2 (lc_f q)))
theorem k_acmpNe {o : Int} {x y : Value} {pc1 : Nat} (hd : decode M.2.1 pc = .ok (.if_acmp .ne o, 3)) (hx' : x.isRef = true) (hy' : y.isRef = true) (ho : 0 ≤ (pc : Int) + o) (hp1 : ((pc : Int) + o).toNat = pc1) (hp : pc + 3 = pc')
    (W1 : ¬ x = y → KW wd l Z M n0 Q P h k n pc1 Ls st) (W2 : x = y → KW wd l Z M n0 Q P h k n pc' Ls st) : KW wd l Z M n0 Q P h k n pc Ls (y :: x :: st) := by
  by_cases q : x = y
  · subst hp; exact (W2 q).step fun p e s' T m args below meth c locs hx hby hown hZ X target r => XT.acmpNo X.here hx rfl (hb hby hd) rfl hx' hy' (by simp [XT.acmp, q]) r
  · exact (W1 q).step fun p e s' T m args below meth c locs hx hby hown hZ X target r => XT.acmpYes X.here hx rfl rfl (hb hby hd) rfl hx' hy' (by simp [XT.acmp, q]) ho hp1 r
theorem k_acmpEq {o : Int} {x y : Value} {pc1 : Nat} (hd : decode M.2.1 pc = .ok (.if_acmp .eq o, 3)) (hx' : x.isRef = true) (hy' : y.isRef = true) (ho : 0 ≤ (pc : Int) + o) (hp1 : ((pc : Int) + o).toNat = pc1) (hp : pc + 3 = pc')
    (W1 : x = y → KW wd l Z M n0 Q P h k n pc1 Ls st) (W2 : ¬ x = y → KW wd l Z M n0 Q P h k n pc' Ls st) : KW wd l Z M n0 Q P h k n pc Ls (y :: x :: st) := by
  by_cases q : x = y
  · exact (W1 q).step fun p e s' T m args below meth c locs hx hby hown hZ X target r => XT.acmpYes X.here hx rfl rfl (hb hby hd) rfl hx' hy' (by simp [XT.acmp, q]) ho hp1 r
  · subst hp; exact (W2 q).step fun p e s' T m args below meth c locs hx hby hown hZ X target r => XT.acmpNo X.here hx rfl (hb hby hd) rfl hx' hy' (by simp [XT.acmp, q]) r
theorem k_ifnullY {o : Int} (hd : decode M.2.1 pc = .ok (.ifnull o, 3)) (ho : 0 ≤ (pc : Int) + o) (hp : ((pc : Int) + o).toNat = pc') (W : KW wd l Z M n0 Q P h k n pc' Ls st) : KW wd l Z M n0 Q P h k n pc Ls (.null :: st) :=
  W.step fun p e s' T m args below meth c locs hx hby hown hZ X target r => XS.ifnullYes X.here hx rfl rfl (hb hby hd) rfl ho hp r
theorem k_ifnullN {o : Int} {a : Addr} (hd : decode M.2.1 pc = .ok (.ifnull o, 3)) (hp : pc + 3 = pc') (W : KW wd l Z M n0 Q P h k n pc' Ls st) : KW wd l Z M n0 Q P h k n pc Ls (.ref a :: st) := by
  subst hp; exact W.step fun p e s' T m args below meth c locs hx hby hown hZ X target r => XS.ifnullNo X.here hx rfl (hb hby hd) rfl r
theorem k_ifnonnullY {o : Int} {a : Addr} (hd : decode M.2.1 pc = .ok (.ifnonnull o, 3)) (ho : 0 ≤ (pc : Int) + o) (hp : ((pc : Int) + o).toNat = pc') (W : KW wd l Z M n0 Q P h k n pc' Ls st) : KW wd l Z M n0 Q P h k n pc Ls (.ref a :: st) :=
  W.step fun p e s' T m args below meth c locs hx hby hown hZ X target r => XS.ifnonnullYes X.here hx rfl rfl (hb hby hd) rfl ho hp r
theorem k_ifnonnullN {o : Int} (hd : decode M.2.1 pc = .ok (.ifnonnull o, 3)) (hp : pc + 3 = pc') (W : KW wd l Z M n0 Q P h k n pc' Ls st) : KW wd l Z M n0 Q P h k n pc Ls (.null :: st) := by
  subst hp; exact W.step fun p e s' T m args below meth c locs hx hby hown hZ X target r => XS.ifnonnullNo X.here hx rfl (hb hby hd) rfl r
theorem k_ldc2J {i : Nat} {v : Int64} (hd : decode M.2.1 pc = .ok (.ldc2_w i, 3)) (hp : pc + 3 = pc') (w : (Cond.constantLong M.1.cls i v).before a0 Z = true) (W : KW wd l Z M n0 Q P h k n pc' Ls (.long v :: st)) : KW wd l Z M n0 Q P h k n pc Ls st := by
  subst hp; exact W.step fun p e s' T m args below meth c locs hx hby hown hZ X target r => X.ldc2J hx hown (mvT hZ w) rfl (hb hby hd) r
theorem k_ldcI {i : Nat} {v : Int32} (hd : decode M.2.1 pc = .ok (.ldc i, 2)) (hp : pc + 2 = pc') (w : (Cond.constant M.1.cls i v).before a0 Z = true) (W : KW wd l Z M n0 Q P h k n pc' Ls (.int v :: st)) : KW wd l Z M n0 Q P h k n pc Ls st := by
  subst hp; exact W.step fun p e s' T m args below meth c locs hx hby hown hZ X target r => X.ldcI hx hown (mvT hZ w) rfl (hb hby hd) r
theorem k_getStatic {i : Nat} {O f d : String} {v : Value} (hd : decode M.2.1 pc = .ok (.getstatic i, 3)) (hp : pc + 3 = pc') (w : (Cond.fieldLink M.1.cls i O f d).before a0 Z = true) (F : Sta Z h O f d v) (W : KW wd l Z M n0 Q P h k n pc' Ls (v :: st)) : KW wd l Z M n0 Q P h k n pc Ls st := by
  subst hp; exact W.move fun p e s' T m args below meth c locs hx hby hml hown hZ X eT => getS X hx hZ hown (host := "") w Via.refl eT F (g := mkF m pc Ls st) rfl (hb hby hd)
theorem k_getField {i : Nat} {R0 O f d : String} {a : Addr} {v : Value} (hd : decode M.2.1 pc = .ok (.getfield i, 3)) (hp : pc + 3 = pc') (w : (Cond.fieldLink M.1.cls i R0 f d).before a0 Z = true) (via : Via Z R0 O f d) (F : Fld Z h a O f d v) (W : KW wd l Z M n0 Q P h k n pc' Ls (v :: st)) : KW wd l Z M n0 Q P h k n pc Ls (.ref a :: st) := by
  subst hp; exact W.move fun p e s' T m args below meth c locs hx hby hml hown hZ X eT => getF X hx hZ hown (host := "") (Or.inl w) via eT F (g := mkF m pc Ls (.ref a :: st)) rfl rfl (hb hby hd)
/-- the return -/
theorem KW.top {v v' : Value} (e : v = v') (W : KW wd l Z M n0 Q P h k n pc Ls (v' :: st)) : KW wd l Z M n0 Q P h k n pc Ls (v :: st) := e ▸ W
theorem KW.sub {S' : Addr → Prop} (q : ∀ x, S' x → P.2 x) (W : KW wd l Z M n0 Q (P.1, S') h k n pc Ls st) : KW wd l Z M n0 Q P h k n pc Ls st :=
  fun p e s s' m args below meth c hx hby hml hown hnm hret hlk hZ hB hI T locs X N eT => W p e s s' m args below meth c hx hby hml hown hnm hret hlk hZ (hB.sub q) hI T locs X N eT
theorem KW.any {P' : PX} (W : KW false l Z M n0 Q P' h k n pc Ls st) : KW false l Z M n0 Q P h k n pc Ls st :=
  fun p e s s' m args below meth c hx hby hml hown hnm hret hlk hZ hB hI T locs X N eT => by
    obtain ⟨t, v, L, r, h1, h2, h3, h4, h5⟩ := W p e s s' m args below meth c hx hby hml hown hnm hret hlk hZ (hB.elim (fun q => Or.inl q) (fun q => by cases q.1)) (fun q => by cases q) T locs X N eT
    exact ⟨t, v, L, r, h1, h2, h3, h4, h5.elim (fun q => Or.inl q) (fun q => by cases q.1)⟩
theorem KW.ret {v : Option Value} (q : Q v h) (hk : k ≤ M.2.2.2.2.cells) (hn : n ≤ M.2.2.2.2.slots) (hv : M.2.2.2.1 = none → v = none)
    (f : ∀ (p : Program) (e : Env) (s' T : State) (m : MethodId) (args : Array Value) (below : List Frame) (meth : Method) (c : Code) (locs : List Loc), p.tables.exec = Jvm.exec → c.code = M.2.1 → meth.sig.returnType = M.2.2.2.1 → Stand p l e M.2.2.2.2 s' m args below meth c T locs k n →
      ∀ fs : List Frame, (∀ (f : JFrame) (acts : List Action), f.method = m → f.locked = none → f.entered = [] → (doReturn e (T.setTop f) acts v).1 = T.setFrames fs) → Steps p.tables e below (T.setTop (mkF m pc Ls st)) (T.setFrames fs)) : KW wd l Z M n0 Q P h k n pc Ls st := by
  intro p e s s' m args below meth c hx hby hml hown hnm hret hlk hZ hB hI T locs X N eT
  obtain ⟨fs, hr, hrun, hended, hW, hsame⟩ := X.leave (v := v) (fun q => hv (by rw [← hret]; exact q)) hlk
  refine ⟨T.setFrames fs, v, locs, f p e s' T m args below meth c locs hx hby hret X fs hr, hrun, hended, N, by show Q v T.heap; rw [eT]; exact q, ?_⟩
  rcases hB with ⟨rfl, rfl⟩ | ⟨rfl, vm0, k0, rfl, hS, hk0, hC, -⟩
  · exact Or.inl ⟨rfl, ⟨_, rfl⟩, hW, hsame.mono hk hn⟩
  · obtain ⟨e1, e2, e3⟩ := hS.ended hW (by show k0 ≤ T.heap.size; rw [eT]; exact hk0) hsame
    obtain ⟨a1, hEW⟩ := hI rfl
    have hCT : CHr Z P.1 s.vm s.heap T.vm T.heap := hC.trans (by rw [eT]; exact CHv.at X hZ hEW hC.1)
    exact Or.inr ⟨rfl, hCT, ⟨_, rfl⟩, e1, e2, e3.mono hk hn⟩
theorem k_retInt {z : Int32} (hd : decode M.2.1 pc = .ok (.ireturn, 1)) (hr : M.2.2.2.1 = some .int) (hk : k ≤ M.2.2.2.2.cells) (hn : n ≤ M.2.2.2.2.slots) (q : Q (some (.int z)) h) : KW wd l Z M n0 Q P h k n pc Ls (.int z :: st) :=
  KW.ret q hk hn (fun x => by rw [hr] at x; cases x) fun p e s' T m args below meth c locs hx hby hret X fs hl => retOut X hx (t := .int) (i := .ireturn) (hret.trans hr) rfl (Or.inl ⟨rfl, Or.inl rfl, _, rfl⟩) (hb hby hd) hl
theorem k_retNar {z z' : Int32} {t : FieldType} (hd : decode M.2.1 pc = .ok (.ireturn, 1)) (hr : M.2.2.2.1 = some t) (ht : t = .boolean ∨ t = .byte ∨ t = .char ∨ t = .short) (hz : nar t z = z') (hk : k ≤ M.2.2.2.2.cells) (hn : n ≤ M.2.2.2.2.slots) (q : Q (some (.int z')) h) : KW wd l Z M n0 Q P h k n pc Ls (.int z :: st) := by
  subst hz; exact KW.ret q hk hn (fun x => by rw [hr] at x; cases x) fun p e s' T m args below meth c locs hx hby hret X fs hl => retN X hx (hret.trans hr) ht (hb hby hd) hl
theorem k_retLong {z : Int64} (hd : decode M.2.1 pc = .ok (.lreturn, 1)) (hr : M.2.2.2.1 = some .long) (hk : k ≤ M.2.2.2.2.cells) (hn : n ≤ M.2.2.2.2.slots) (q : Q (some (.long z)) h) : KW wd l Z M n0 Q P h k n pc Ls (.long z :: st) :=
  KW.ret q hk hn (fun x => by rw [hr] at x; cases x) fun p e s' T m args below meth c locs hx hby hret X fs hl => retOut X hx (t := .long) (i := .lreturn) (hret.trans hr) rfl (Or.inr (Or.inl ⟨rfl, rfl, _, rfl⟩)) (hb hby hd) hl
theorem k_retRef {v : Value} {t : FieldType} (hd : decode M.2.1 pc = .ok (.areturn, 1)) (hr : M.2.2.2.1 = some t) (ht : t.isReference = true) (hv : v.isRef = true) (hk : k ≤ M.2.2.2.2.cells) (hn : n ≤ M.2.2.2.2.slots) (q : Q (some v) h) : KW wd l Z M n0 Q P h k n pc Ls (v :: st) :=
  KW.ret q hk hn (fun x => by rw [hr] at x; cases x) fun p e s' T m args below meth c locs hx hby hret X fs hl => retOut X hx (t := t) (i := .areturn) (hret.trans hr) (by cases t <;> first | rfl | cases ht) (Or.inr (Or.inr (Or.inr (Or.inr ⟨rfl, ht, hv⟩)))) (hb hby hd) hl
theorem k_retVoid (hd : decode M.2.1 pc = .ok (.return_, 1)) (hr : M.2.2.2.1 = none) (hk : k ≤ M.2.2.2.2.cells) (hn : n ≤ M.2.2.2.2.slots) (q : Q none h) : KW wd l Z M n0 Q P h k n pc Ls [] :=
  KW.ret q hk hn (fun x => rfl) fun p e s' T m args below meth c locs hx hby hret X fs hl => X.returnOut hx (hret.trans hr) (hb hby hd) hl
/-- a method's contract: entered with these arguments and this heap, it returns, and Q holds -/
def Mt (l : Launch) (Z : State) (M : MD) (ws : List Jvm.Cond) (n0 : Nat) (as' : Array Value) (h0 : Heap) (Q : Option Value → Heap → Prop) : Prop :=
  MetFree l M.1 (head1 (Jvm.Cond.code M.1 M.2.1 M.2.2.1 M.2.2.2.1 :: ws) M.2.2.2.2) (fun a U => a = as' ∧ Z.Warmed39 U.vm ∧ U.heap = h0) (fun _ _ _ _ _ => True) (fun _ U o U' => ∃ v L, o = .returned v ∧ (Fr n0 L ∧ h0.size ≤ U'.heap.size ∧ Q v U'.heap) ∧ FrameEnd U o U' L M.2.2.2.2.cells M.2.2.2.2.slots)
theorem mt_of_kw {ws : List Jvm.Cond} {as' : Array Value} (hn : plainFor M.1 = true) (hef : ∀ m, entryFrame m as' M.2.2.1 = mkF m 0 Ls []) (W : KW false l Z M n0 Q P h 0 0 0 Ls []) : Mt l Z M ws n0 as' h Q := by
  refine MetFree.of_bodySF hn hisR ?_
  intro p e s m args below meth c s₁ Bd hml0 hP hK
  obtain ⟨rfl, hZ, hh⟩ := hP
  have e0 : s₁.heap = h := by rw [← hh, Bd.state]; rfl
  obtain ⟨t, v, L, r, h1, h2, h3, h4, h5⟩ := W p e s s m _ below meth c Bd.exec Bd.bytes hml0 (findClass_of_methodNamed Bd.named) (name_of_methodNamed Bd.named Bd.method).1 Bd.returns Bd.notSynchronized hZ (Or.inl ⟨rfl, rfl⟩) (fun q => by cases q) s₁ [] (Stand.of_body Bd) (Fr.nil n0) e0
  rcases h5 with ⟨-, h5⟩ | ⟨h5, -⟩
  · refine ⟨t, _, castTop (hef m) r, h1, h2, v, L, rfl, ⟨h3, ?_, h4⟩, h5⟩
    have q : s.heap.size ≤ t.heap.size := h5.2.2.2.1
    rw [← hh]; exact q
  · cases h5
/-- what a strict callee has done to the heap, for a wide caller -/
def Kp (wd : Bool) (Z : State) (P : PX) (h : Heap) (Q' : Option Value → Heap → Prop) : Prop := wd = true → ∀ v h', Q' v h' → ∃ ws, Keep h h' ws ∧ ∀ x ∈ ws, Sf Z P h x
theorem Kp.strict {Q' : Option Value → Heap → Prop} : Kp false Z P h Q' := fun q => by cases q
theorem Kp.pure {Q' : Option Value → Heap → Prop} (q : ∀ v h', Q' v h' → h' = h) : Kp wd Z P h Q' := fun _ v h' hq => ⟨[], by rw [q v h' hq]; exact Keep.refl _ _, fun _ z => nomatch z⟩
theorem KB.call {s s' : State} {h' : Heap} {v : Option Value} {Q' : Option Value → Heap → Prop} (B : KB wd Z P s s' h) (hZ : Z.Warmed39 s'.vm) (hk : Kp wd Z P h Q') (q : Q' v h') : KB wd Z (P.grow h h') s s' h' := by
  cases wd
  · exact B.elim (fun r => Or.inl r) (fun r => by cases r.1)
  · obtain ⟨ws, K, hs⟩ := hk rfl v h' q
    exact B.keep hZ K (fun _ => hs)
/-- a static method by its contract -/
theorem k_callStatic {y : MD} {i W0 : Nat} {argsL : List Value} {Q' : Option Value → Heap → Prop} {ps : List FieldType} {r : Option FieldType} (hd : decode M.2.1 pc = .ok (.invokestatic i, 3)) (hp : pc + 3 = pc') (K : Mt l Z y [] n0 argsL.toArray h Q') (hkp : Kp wd Z P h Q')
    (w1 : (Cond.methodLink M.1.cls i y.1).before a0 Z = true) (w2 : (Cond.static y.1).before a0 Z = true) (w3 : (Cond.initialized y.1.cls).before a0 Z = true) (w4 : (Cond.code y.1 y.2.1 y.2.2.1 y.2.2.2.1).before a0 Z = true) (hy : y.1.cls ≠ "java/lang/invoke/MethodHandle" ∧ y.1.cls ≠ "java/lang/invoke/VarHandle")
    (hpd : parseMethodDescriptor y.1.desc = some ⟨ps, r⟩) (hlen : argsL.length = ps.length) (hst : st = argsL.reverse ++ rest) (hsz : Ls.size = M.2.2.1) (hW : (rest.map fun v => v.category).sum = W0)
    (hfr : y.2.2.2.2.frames + 1 ≤ M.2.2.2.2.frames) (hlo : W0 + (y.2.2.1 + 11) + y.2.2.2.2.locals ≤ M.2.2.2.2.locals) (hc : k + y.2.2.2.2.cells ≤ M.2.2.2.2.cells) (hs : n + y.2.2.2.2.slots ≤ M.2.2.2.2.slots)
    (W : ∀ v h', h.size ≤ h'.size → Q' v h' → KW wd l Z M n0 Q (P.grow h h') h' (k + y.2.2.2.2.cells) (n + y.2.2.2.2.slots) pc' Ls (v.toList ++ rest)) : KW wd l Z M n0 Q P h k n pc Ls st := by
  intro p e s s' m args below meth c hx hby hml hown hnm hret hlk hZ hB hI T locs X N eT
  subst hp
  obtain ⟨v, _, ⟨T', L', k', n'⟩, -, X', ⟨Lc, ⟨q1, q2, q3⟩, l1, l2, l3⟩, stp⟩ := Jvm.LawKit.callS X hx (y := y.1) hown (mvT hZ w1) (mvT hZ w2) (mvT hZ w3) (mvT hZ w4) hy (backOf (W := W0) (Q := fun v h' L => Fr n0 L ∧ h.size ≤ h'.size ∧ Q' v h') K hZ w4 w3 hfr hlo) (g := mkF m pc Ls st) rfl (hsz.trans hml.symm) (argsL := argsL) (rest := rest) (lenOf hpd hlen) hst (by show 2 * 0 + _ ≤ _; omega) (hb hby hd) (fun _ _ => ⟨rfl, eT, hc, hs⟩)
  dsimp only [Pt.U, Pt.locs, Pt.cells, Pt.slots] at X' l1 l2 l3 stp q2 q3
  subst l1 l2 l3
  obtain ⟨t, v', L, r, rr⟩ := W v T'.heap q2 q3 p e s s' m args below meth c hx hby hml hown hnm hret hlk hZ (hB.call hZ hkp q3) hI T' _ X' (Fr.app N q1) rfl
  exact ⟨t, v', L, stp _ r, rr⟩
/-- a constructor by its contract -/
theorem k_callInit {y : MD} {i W0 : Nat} {a : Addr} {argsL : List Value} {Q' : Option Value → Heap → Prop} {ps : List FieldType} {r : Option FieldType} (hd : decode M.2.1 pc = .ok (.invokespecial i, 3)) (hp : pc + 3 = pc') (K : Mt l Z y [] n0 (.ref a :: argsL).toArray h Q') (hkp : Kp wd Z P h Q') (hi : y.1.name = "<init>") (hr0 : y.2.2.2.1 = none)
    (w1 : (Cond.methodLink M.1.cls i y.1).before a0 Z = true) (w2 : (Cond.instanceMethod y.1).before a0 Z = true) (w3 : (Cond.initialized y.1.cls).before a0 Z = true) (w4 : (Cond.code y.1 y.2.1 y.2.2.1 y.2.2.2.1).before a0 Z = true) (hy : y.1.cls ≠ "java/lang/invoke/MethodHandle" ∧ y.1.cls ≠ "java/lang/invoke/VarHandle")
    (hpd : parseMethodDescriptor y.1.desc = some ⟨ps, r⟩) (hlen : argsL.length = ps.length) (hst : st = argsL.reverse ++ .ref a :: rest) (hsz : Ls.size = M.2.2.1) (hW : (rest.map fun v => v.category).sum = W0)
    (hfr : y.2.2.2.2.frames + 1 ≤ M.2.2.2.2.frames) (hlo : W0 + (y.2.2.1 + 11) + y.2.2.2.2.locals ≤ M.2.2.2.2.locals) (hc : k + y.2.2.2.2.cells ≤ M.2.2.2.2.cells) (hs : n + y.2.2.2.2.slots ≤ M.2.2.2.2.slots)
    (W : ∀ v h', h.size ≤ h'.size → Q' v h' → KW wd l Z M n0 Q (P.grow h h') h' (k + y.2.2.2.2.cells) (n + y.2.2.2.2.slots) pc' Ls (v.toList ++ rest)) : KW wd l Z M n0 Q P h k n pc Ls st := by
  intro p e s s' m args below meth c hx hby hml hown hnm hret hlk hZ hB hI T locs X N eT
  subst hp
  obtain ⟨v, _, ⟨T', L', k', n'⟩, -, X', ⟨Lc, ⟨q1, q2, q3⟩, l1, l2, l3⟩, stp⟩ := X.specialBack hx (y := y.1) hi hown (mvT hZ w1) (mvT hZ w2) (bytes := y.2.1) (maxL := y.2.2.1) (by rw [← hr0]; exact mvT hZ w4) hy (backOf (W := W0) (Q := fun v h' L => Fr n0 L ∧ h.size ≤ h'.size ∧ Q' v h') K hZ w4 w3 hfr hlo) (g := mkF m pc Ls st) rfl (hsz.trans hml.symm) (Steps.refl _) (a := a) (argsL := argsL) (rest := rest) (lenOf hpd hlen) hst (by show 2 * 0 + _ ≤ _; omega) (hb hby hd) (fun _ _ => ⟨rfl, eT, hc, hs⟩)
  dsimp only [Pt.U, Pt.locs, Pt.cells, Pt.slots] at X' l1 l2 l3 stp q2 q3
  subst l1 l2 l3
  obtain ⟨t, v', L, r, rr⟩ := W v T'.heap q2 q3 p e s s' m args below meth c hx hby hml hown hnm hret hlk hZ (hB.call hZ hkp q3) hI T' _ X' (Fr.app N q1) rfl
  exact ⟨t, v', L, stp.trans r, rr⟩
/-- an instance method by its contract; the receiver is exactly a C -/
theorem k_callVirtual {y : MD} {x : MethodName} {C : String} {i W0 : Nat} {a : Addr} {argsL : List Value} {Q' : Option Value → Heap → Prop} {ps : List FieldType} {r : Option FieldType} (hd : decode M.2.1 pc = .ok (.invokevirtual i, 3)) (hp : pc + 3 = pc') (K : Mt l Z y [] n0 (.ref a :: argsL).toArray h Q') (hkp : Kp wd Z P h Q') (E : Exa Z h a C)
    (w1 : (Cond.methodLink M.1.cls i x).before a0 Z = true) (w2 : (Cond.declares x).before a0 Z = true) (w3 : (Cond.selects C x y.1).before a0 Z = true) {C7 : String} (w7 : (Cond.selects C7 x x).before a0 Z = true) (w4 : (Cond.instanceMethod y.1).before a0 Z = true) (w5 : (Cond.code y.1 y.2.1 y.2.2.1 y.2.2.2.1).before a0 Z = true) (w6 : (Cond.initialized y.1.cls).before a0 Z = true) (hy : x.cls ≠ "java/lang/invoke/MethodHandle" ∧ x.cls ≠ "java/lang/invoke/VarHandle")
    (hpd : parseMethodDescriptor x.desc = some ⟨ps, r⟩) (hlen : argsL.length = ps.length) (hst : st = argsL.reverse ++ .ref a :: rest) (hsz : Ls.size = M.2.2.1) (hW : (rest.map fun v => v.category).sum = W0)
    (hfr : y.2.2.2.2.frames + 1 ≤ M.2.2.2.2.frames) (hlo : W0 + (y.2.2.1 + 11) + y.2.2.2.2.locals ≤ M.2.2.2.2.locals) (hc : k + y.2.2.2.2.cells ≤ M.2.2.2.2.cells) (hs : n + y.2.2.2.2.slots ≤ M.2.2.2.2.slots)
    (W : ∀ v h', h.size ≤ h'.size → Q' v h' → KW wd l Z M n0 Q (P.grow h h') h' (k + y.2.2.2.2.cells) (n + y.2.2.2.2.slots) pc' Ls (v.toList ++ rest)) : KW wd l Z M n0 Q P h k n pc Ls st := by
  intro p e s s' m args below meth c hx hby hml hown hnm hret hlk hZ hB hI T locs X N eT
  subst hp
  obtain ⟨cq, kq, qa, qb, qc⟩ := isOf hZ eT E
  obtain ⟨v, _, ⟨T', L', k', n'⟩, -, X', ⟨Lc, ⟨q1, q2, q3⟩, l1, l2, l3⟩, stp⟩ := X.virtualBack hx (y := x) (z := y.1) hown (mvT hZ w1) (mvT hZ w2) (notFace_of_selects (args := #[]) (mvT hZ w7)) (mvT hZ w3) (mvT hZ w4) hy (backOf (W := W0) (Q := fun v h' L => Fr n0 L ∧ h.size ≤ h'.size ∧ Q' v h') K hZ w5 w6 hfr hlo) qa qc (g := mkF m pc Ls st) rfl (hsz.trans hml.symm) (Steps.refl _) (argsL := argsL) (rest := rest) (lenOf hpd hlen) hst (by show 2 * 0 + _ ≤ _; omega) (hb hby hd) (fun _ _ => ⟨rfl, eT, hc, hs⟩)
  dsimp only [Pt.U, Pt.locs, Pt.cells, Pt.slots] at X' l1 l2 l3 stp q2 q3
  subst l1 l2 l3
  obtain ⟨t, v', L, r, rr⟩ := W v T'.heap q2 q3 p e s s' m args below meth c hx hby hml hown hnm hret hlk hZ (hB.call hZ hkp q3) hI T' _ X' (Fr.app N q1) rfl
  exact ⟨t, v', L, stp.trans r, rr⟩
end
end Jvm.OwnW

namespace Jvm.OwnW
open Sem ClassFile Op Lib Jvm.Stand Jvm.Free Jvm.LawKit Jvm.RoadKit
section
variable {wd : Bool} {l : Launch} {Z : State} {M : MD} {n0 : Nat} {Q : Option Value → Heap → Prop} {P : PX} {h : Heap} {k n pc pc' : Nat} {Ls Ls' : Array Slot} {st st' rest : List Value} {a0 : Array Value}
theorem k_new {i sz : Nat} {C : String} (hd : decode M.2.1 pc = .ok (.new i, 3)) (hp : pc + 3 = pc') (w : (Cond.classLink M.1.cls i C).before a0 Z = true) (wi : (Cond.instantiable C sz).before a0 Z = true) (wz : (Cond.initialized C).before a0 Z = true) (hc : k + 1 ≤ M.2.2.2.2.cells) (hs : n + sz ≤ M.2.2.2.2.slots)
    (W : ∀ h' a, a = h.size → Ext h h' → Exa Z h' a C → (∀ {O nm d : String} {ty : FieldType}, Laid Z a0 C O nm d → parseFieldDescriptor d = some ty → Fld Z h' a O nm d (defaultValue ty)) → KW wd l Z M n0 Q (P.grow h h') h' (k + 1) (n + sz) pc' Ls (.ref a :: st)) : KW wd l Z M n0 Q P h k n pc Ls st := by
  intro p e s s' m args below meth c hx hby hml hown hnm hret hlk hZ hB hI T locs X N eT
  subst hp
  obtain ⟨T', h', X', e', E, A, D, -, stp⟩ := newO X hx hZ hown w wi wz eT (g := mkF m pc Ls st) rfl (hb hby hd) hc hs
  obtain ⟨t, v, L, r, rr⟩ := W h' h.size rfl E A D p e s s' m args below meth c hx hby hml hown hnm hret hlk hZ (hB.ext E) hI T' locs X' N e'
  exact ⟨t, v, L, stp t r, rr⟩
theorem k_initObj {i W0 : Nat} {a : Addr} (hd : decode M.2.1 pc = .ok (.invokespecial i, 3)) (hp : pc + 3 = pc') (w1 : (Cond.methodLink M.1.cls i Lib.objectInit).before a0 Z = true) (w2 : (Cond.instanceMethod Lib.objectInit).before a0 Z = true) (w3 : (Cond.code Lib.objectInit ⟨#[0xb1]⟩ 1 none).before a0 Z = true)
    (hsz : Ls.size = M.2.2.1) (hW : (st.map fun v => v.category).sum = W0) (hf : 1 ≤ M.2.2.2.2.frames) (hl : W0 + 12 ≤ M.2.2.2.2.locals) (W : KW wd l Z M n0 Q P h k n pc' Ls st) : KW wd l Z M n0 Q P h k n pc Ls (.ref a :: st) := by
  subst hp; exact W.move fun p e s' T m args below meth c locs hx hby hml hown hZ X eT => initO X hx hZ hown w1 w2 w3 eT (g := mkF m pc Ls (.ref a :: st)) rfl (hsz.trans hml.symm) rfl (hb hby hd) hf (W := W0) (by show 2 * 0 + _ ≤ _; omega) hl
theorem k_put {i kk : Nat} {R0 O f d C : String} {ty : FieldType} {a : Addr} {v v' old : Value} (hd : decode M.2.1 pc = .ok (.putfield i, 3)) (hp : pc + 3 = pc') (w : (Cond.fieldLink M.1.cls i R0 f d).before a0 Z = true) (via : Via Z R0 O f d) (F : Fld Z h a O f d old) (E : Exa Z h a C)
    (L : (Cond.lays C O f d).before a0 Z = true ∨ ((Cond.laysFinal C O f d).before a0 Z = true ∧ M.1.cls = O ∧ M.1.name = "<init>")) (wi : (Cond.instantiable C kk).before a0 Z = true) (hty : parseFieldDescriptor d = some ty) (hn : narrow ty v = v') (hf : fits ty v' = true) (ha : n0 ≤ a) (hsf : wd = true → Sf Z P h a)
    (W : ∀ h', Wr h h' a (Jvm.RoadKit.slotOf Z O f d) v' → KW wd l Z M n0 Q P h' k n pc' Ls st) : KW wd l Z M n0 Q P h k n pc Ls (v :: .ref a :: st) := by
  intro p e s s' m args below meth c hx hby hml hown hnm hret hlk hZ hB hI T locs X N eT
  subst hp
  obtain ⟨T', h', X', e', Wr', stp⟩ := putFN X hx hZ hown w via eT F E (L.imp id fun q => ⟨q.1, q.2.1, hnm.trans q.2.2⟩) wi hty hn hf (g := mkF m pc Ls (v :: .ref a :: st)) rfl rfl (hb hby hd)
  obtain ⟨t, v, L, r, rr⟩ := W h' Wr' p e s s' m args below meth c hx hby hml hown hnm hret hlk hZ (hB.wr hZ Wr' hsf) hI T' _ X' (Fr.snoc X' N ha) e'
  exact ⟨t, v, L, stp t r, rr⟩
theorem k_newarr {aty : ArrayType} {z : Int32} {cap : Nat} (hd : decode M.2.1 pc = .ok (.newarray aty, 2)) (hp : pc + 2 = pc') (w : (Cond.arrayClass (newarray.typeOf aty)).before a0 Z = true) (hz : ¬ z < 0) (hcap : z.toNatClampNeg ≤ cap) (hb8 : cap * 8 ≤ 536870912) (hc : k + 1 ≤ M.2.2.2.2.cells) (hs : n + cap ≤ M.2.2.2.2.slots)
    (W : ∀ h' a cA, a = h.size → Ext h h' → Arv Z h' a cA (newarray.typeOf aty) z [] (defaultValue (newarray.typeOf aty)) → KW wd l Z M n0 Q (P.grow h h') h' (k + 1) (n + cap) pc' Ls (.ref a :: st)) : KW wd l Z M n0 Q P h k n pc Ls (.int z :: st) := by
  intro p e s s' m args below meth c hx hby hml hown hnm hret hlk hZ hB hI T locs X N eT
  subst hp
  obtain ⟨T', h', cA, X', e', E, A, stp⟩ := newP X hx hZ w eT (g := mkF m pc Ls (.int z :: st)) rfl (hb hby hd) rfl hz hcap hb8 hc hs
  obtain ⟨t, v, L, r, rr⟩ := W h' h.size cA rfl E (Arv.new A hz) p e s s' m args below meth c hx hby hml hown hnm hret hlk hZ (hB.ext E) hI T' locs X' N e'
  exact ⟨t, v, L, stp t r, rr⟩
theorem k_arrlen {a : Addr} {ck : ClassId} {ty : FieldType} {z : Int32} {vs : List Value} {dv : Value} (hd : decode M.2.1 pc = .ok (.arraylength, 1)) (hp : pc + 1 = pc') (V : Arv Z h a ck ty z vs dv) (W : KW wd l Z M n0 Q P h k n pc' Ls (.int z :: st)) : KW wd l Z M n0 Q P h k n pc Ls (.ref a :: st) := by
  subst hp
  obtain ⟨cl, Ar, -, S, Mz, -⟩ := V
  exact W.move fun p e s' T m args below meth c locs hx hby hml hown hZ X eT => ⟨T, X, eT, fun target r => X.arraylength hx (by rw [eT]; exact Ar.1) (State.isArrayOf_alike hZ.alike Ar.2.1) (g := mkF m pc Ls (.ref a :: st)) rfl rfl (hb hby hd) target (by rw [len_of S Mz]; exact r)⟩
theorem k_baload {a : Addr} {ck : ClassId} {z j : Int32} {vs : List Value} {dv v : Value} (hd : decode M.2.1 pc = .ok (.baload, 1)) (hp : pc + 1 = pc') (V : Arv Z h a ck .byte z vs dv) (hj : ¬ j < 0 ∧ j < z) (hv : vs.getD j.toNatClampNeg dv = v) (W : KW wd l Z M n0 Q P h k n pc' Ls (v :: st)) : KW wd l Z M n0 Q P h k n pc Ls (.int j :: .ref a :: st) := by
  subst hp
  obtain ⟨cl, Ar, -, S, Mz, H, -⟩ := V
  exact W.move fun p e s' T m args below meth c locs hx hby hml hown hZ X eT => ⟨T, X, eT, fun target r => X.baloadBytes hx (j := j) (v := v) (by rw [eT]; exact Ar.1) (State.isArrayOf_alike hZ.alike Ar.2.1) Ar.2.2 (inb_of S hj) (H.at (inb_of S hj) hv) (g := mkF m pc Ls (.int j :: .ref a :: st)) rfl rfl (hb hby hd) target r⟩
theorem k_caload {a : Addr} {ck : ClassId} {z j : Int32} {vs : List Value} {dv v : Value} (hd : decode M.2.1 pc = .ok (.caload, 1)) (hp : pc + 1 = pc') (V : Arv Z h a ck .char z vs dv) (hj : ¬ j < 0 ∧ j < z) (hv : vs.getD j.toNatClampNeg dv = v) (W : KW wd l Z M n0 Q P h k n pc' Ls (v :: st)) : KW wd l Z M n0 Q P h k n pc Ls (.int j :: .ref a :: st) := by
  subst hp
  obtain ⟨cl, Ar, -, S, Mz, H, -⟩ := V
  exact W.move fun p e s' T m args below meth c locs hx hby hml hown hZ X eT => ⟨T, X, eT, fun target r => X.caload hx (j := j) (v := v) (by rw [eT]; exact Ar.1) (State.isArrayOf_alike hZ.alike Ar.2.1) Ar.2.2 (inb_of S hj) (H.at (inb_of S hj) hv) (g := mkF m pc Ls (.int j :: .ref a :: st)) rfl rfl (hb hby hd) target r⟩
theorem k_castore {a : Addr} {ck : ClassId} {z j x : Int32} {vs : List Value} {dv : Value} {i : Nat} (hd : decode M.2.1 pc = .ok (.castore, 1)) (hp : pc + 1 = pc') (V : Arv Z h a ck .char z vs dv) (hj : ¬ j < 0 ∧ j < z) (hi : j.toNatClampNeg = i) (hil : i < vs.length) (ha : n0 ≤ a) (hsf : wd = true → Sf Z P h a)
    (W : ∀ h', Wr h h' a i (.int (nar .char x)) → Arv Z h' a ck .char z (vs.set i (.int (nar .char x))) dv → KW wd l Z M n0 Q P h' k n pc' Ls st) : KW wd l Z M n0 Q P h k n pc Ls (.int x :: .int j :: .ref a :: st) := by
  intro p e s s' m args below meth c hx hby hml hown hnm hret hlk hZ hB hI T locs X N eT
  subst hp
  obtain ⟨cl, Ar, q1, S, Mz, H, G⟩ := V
  obtain ⟨T', h', X', e', Wr', stp⟩ := stC X hx hZ eT Ar (inb_of S hj) (g := mkF m pc Ls (.int x :: .int j :: .ref a :: st)) rfl rfl (hb hby hd)
  have V' := Arv.set Ar q1 S Mz H G (fits_nar_char x) Wr' i hi hil
  rw [hi] at Wr'
  obtain ⟨t, v, L, r, rr⟩ := W h' Wr' V' p e s s' m args below meth c hx hby hml hown hnm hret hlk hZ (hB.wr hZ Wr' hsf) hI T' _ X' (Fr.snoc X' N ha) e'
  exact ⟨t, v, L, stp t r, rr⟩
theorem k_bastore {a : Addr} {ck : ClassId} {z j x : Int32} {vs : List Value} {dv : Value} {i : Nat} (hd : decode M.2.1 pc = .ok (.bastore, 1)) (hp : pc + 1 = pc') (V : Arv Z h a ck .byte z vs dv) (hj : ¬ j < 0 ∧ j < z) (hi : j.toNatClampNeg = i) (hil : i < vs.length) (ha : n0 ≤ a) (hsf : wd = true → Sf Z P h a)
    (W : ∀ h', Wr h h' a i (.int (nar .byte x)) → Arv Z h' a ck .byte z (vs.set i (.int (nar .byte x))) dv → KW wd l Z M n0 Q P h' k n pc' Ls st) : KW wd l Z M n0 Q P h k n pc Ls (.int x :: .int j :: .ref a :: st) := by
  intro p e s s' m args below meth c hx hby hml hown hnm hret hlk hZ hB hI T locs X N eT
  subst hp
  obtain ⟨cl, Ar, q1, S, Mz, H, G⟩ := V
  obtain ⟨T', h', X', e', Wr', stp⟩ := stB X hx hZ eT Ar (inb_of S hj) (g := mkF m pc Ls (.int x :: .int j :: .ref a :: st)) rfl rfl (hb hby hd)
  have V' := Arv.set Ar q1 S Mz H G (fits_nar_byte x) Wr' i hi hil
  rw [hi] at Wr'
  obtain ⟨t, v, L, r, rr⟩ := W h' Wr' V' p e s s' m args below meth c hx hby hml hown hnm hret hlk hZ (hB.wr hZ Wr' hsf) hI T' _ X' (Fr.snoc X' N ha) e'
  exact ⟨t, v, L, stp t r, rr⟩
theorem k_cast {i : Nat} {K : String} {a : Addr} (hd : decode M.2.1 pc = .ok (.checkcast i, 3)) (hp : pc + 3 = pc') (w : (Cond.classLink M.1.cls i K).before a0 Z = true) (F : Ins Z h a K true) (W : KW wd l Z M n0 Q P h k n pc' Ls (.ref a :: st)) : KW wd l Z M n0 Q P h k n pc Ls (.ref a :: st) := by
  subst hp; exact W.move fun p e s' T m args below meth c locs hx hby hml hown hZ X eT => castY X hx hZ hown w eT F (g := mkF m pc Ls (.ref a :: st)) rfl rfl (hb hby hd)
theorem k_instY {i : Nat} {K : String} {a : Addr} (hd : decode M.2.1 pc = .ok (.instanceof i, 3)) (hp : pc + 3 = pc') (w : (Cond.classLink M.1.cls i K).before a0 Z = true) (F : Ins Z h a K true) (W : KW wd l Z M n0 Q P h k n pc' Ls (.int 1 :: st)) : KW wd l Z M n0 Q P h k n pc Ls (.ref a :: st) := by
  subst hp; exact W.move fun p e s' T m args below meth c locs hx hby hml hown hZ X eT => instY X hx hZ hown w eT F (g := mkF m pc Ls (.ref a :: st)) rfl rfl (hb hby hd)
theorem Sf.exa {a : Addr} {C : String} (E : Exa Z h a C) (h1 : C ≠ "java/lang/String") (h2 : C ≠ "[B") : Sf Z P h a := Or.inr fun vm hal => Safe.exa hal E h1 h2
theorem Sf.arv {a : Addr} {ck : ClassId} {ty : FieldType} {z : Int32} {vs : List Value} {dv : Value} (F : Arv Z h a ck ty z vs dv) (ht : ty ≠ .byte) : Sf Z P h a := Or.inr fun vm hal => Safe.arv hal F ht
/-! the wide contracts: a callee that may intern -/
def MtW (l : Launch) (Z : State) (M : MD) (ws : List Jvm.Cond) (n0 : Nat) (as' : Array Value) (P : PX) (h0 : Heap) (Q : Option Value → Heap → Prop) : Prop :=
  MetFree l M.1 (head1 (Jvm.Cond.code M.1 M.2.1 M.2.2.1 M.2.2.2.1 :: ws) M.2.2.2.2) (fun a U => a = as' ∧ Z.Warmed39 U.vm ∧ U.heap = h0 ∧ CHv Z P.1 U.vm h0 ∧ ∀ x, P.2 x → Safe Z P.1 U.vm h0 x ∧ x < h0.size) (fun _ _ _ _ _ => True)
    (fun _ U o U' => ∃ v L, o = .returned v ∧ (Fr n0 L ∧ h0.size ≤ U'.heap.size ∧ Q v U'.heap) ∧ CHr Z P.1 U.vm U.heap U'.vm U'.heap ∧ ReturnedEndW U o U' L M.2.2.2.2.cells M.2.2.2.2.slots)
theorem mtw_of_kw {ws : List Jvm.Cond} {as' : Array Value} (hn : plainFor M.1 = true) (hEW : EW Z a0 P.1) (hef : ∀ m, entryFrame m as' M.2.2.1 = mkF m 0 Ls []) (W : KW true l Z M n0 Q P h 0 0 0 Ls []) : MtW l Z M ws n0 as' P h Q := by
  refine MetFree.of_bodySF hn hisR ?_
  intro p e s m args below meth c s₁ Bd hml0 hP hK
  obtain ⟨rfl, hZ, hh, hC, hS⟩ := hP
  have e0 : s₁.heap = h := by rw [← hh, Bd.state]; rfl
  obtain ⟨t, v, L, r, h1, h2, h3, h4, h5⟩ := W p e s (s.setVm s.vm) m _ below meth c Bd.exec Bd.bytes hml0 (findClass_of_methodNamed Bd.named) (name_of_methodNamed Bd.named Bd.method).1 Bd.returns Bd.notSynchronized hZ (Or.inr ⟨rfl, s.vm, 0, rfl, (State.WarmedH.refl s).since 0, Nat.zero_le _, by rw [hh]; exact CHr.refl hC, hS⟩) (fun _ => ⟨a0, hEW⟩) s₁ [] (Stand.of_body Bd) (Fr.nil n0) e0
  rcases h5 with ⟨h5, -⟩ | ⟨-, b1, b2⟩
  · cases h5
  · refine ⟨t, _, castTop (hef m) r, h1, h2, v, L, rfl, ⟨h3, ?_, h4⟩, b1, b2⟩
    have q : s.heap.size ≤ t.heap.size := b2.2.2.2.2.1
    rw [← hh]; exact q
/-- what a wide contract pays at a call -/
theorem backW {y : MD} {p : Program} {e : Env} {s : State} {vm0 : Vm} {args as' : Array Value} {below : List Frame} {R : Room} {W0 len : Nat} {Q' : Option Value → Heap → Prop}
    (K : MtW l Z y [] n0 as' P h Q') (hZ : Z.Warmed39 vm0) (w4 : (Cond.code y.1 y.2.1 y.2.2.1 y.2.2.2.1).before a0 Z = true) (w3 : (Cond.initialized y.1.cls).before a0 Z = true) (hf : y.2.2.2.2.frames + 1 ≤ R.frames) (hl : W0 + (y.2.2.1 + 11) + y.2.2.2.2.locals ≤ R.locals) {a1 : Array Value} (hEL : EW Z a1 P.1) (H : CHv Z P.1 vm0 h) (hS : ∀ x, P.2 x → Safe Z P.1 vm0 h x ∧ x < h.size) :
    BackS l R p e below (s.setVm vm0) args y.1 len W0 (fun A a => a = as' ∧ A.U.heap = h ∧ A.cells + y.2.2.2.2.cells ≤ R.cells ∧ A.slots + y.2.2.2.2.slots ≤ R.slots)
      (fun A _ v B => ∃ L, (Fr n0 L ∧ h.size ≤ B.U.heap.size ∧ Q' v B.U.heap) ∧ B.locs = A.locs ++ L ∧ B.cells = A.cells + y.2.2.2.2.cells ∧ B.slots = A.slots + y.2.2.2.2.slots ∧ CHr Z P.1 vm0 h B.U.vm B.U.heap) :=
  BackS.of_freeW (bytes := y.2.1) (maxL := y.2.2.1) (ret := y.2.2.2.1) (E := fun _ first o t L k n => k = y.2.2.2.2.cells ∧ n = y.2.2.2.2.slots ∧ (∃ v, o = .returned v ∧ (Fr n0 L ∧ h.size ≤ t.heap.size ∧ Q' v t.heap)) ∧ CHr Z P.1 first.vm first.heap t.vm t.heap) K hf hl
    (fun m meth c A a Y hp => have hU : Z.Warmed39 A.U.vm := wtrans (s := s.setVm vm0) hZ Y.warmed
      ⟨by show (Cond.and _ .tt).before a A.U = true; rw [Cond.before_and, mv hU w4]; rfl, mv hU w4, mv hU w3, hp.2.2.1, hp.2.2.2⟩)
    (fun m meth c A a g mk Y hp => ⟨hp.1, wtrans (s := s.setVm vm0) hZ Y.warmed, hp.2.1, (CHv.at Y hZ hEL H).1, fun x hx => ⟨(CHv.at Y hZ hEL H).safe (hS x hx).2 (hS x hx).1, (hS x hx).2⟩⟩) (fun _ _ _ _ _ _ _ _ _ => trivial)
    (fun _ _ _ _ ⟨v, L, h1, h2, h3, h4⟩ => ⟨L, _, _, h4, rfl, rfl, ⟨v, h1, h2⟩, h3⟩)
    (fun m meth c A a g mk v t L k n Y hp _ _ ⟨e1, e2, ⟨v', e3, e4⟩, e5⟩ => by
      cases e3; subst e1 e2
      refine ⟨L, e4, rfl, rfl, rfl, (CHv.at Y hZ hEL H).trans ?_⟩
      rw [← hp.2.1]; exact e5)
/-- the walk goes on over the start with the tables that the callee left -/
theorem KW.after {p : Program} {e : Env} {s : State} {vm0 : Vm} {k0 : Nat} {m : MethodId} {args : Array Value} {below : List Frame} {meth : Method} {c : Code} {T' : State} {locs : List Loc} {h' : Heap} {k' n' : Nat} (W : KW true l Z M n0 Q P h' k' n' pc' Ls st')
    (hx : p.tables.exec = Jvm.exec) (hby : c.code = M.2.1) (hml : c.maxLocals = M.2.2.1) (hown : (s.setVm vm0).vm.findClass M.1.cls = some m.cls) (hnm : meth.name = M.1.name) (hret : meth.sig.returnType = M.2.2.2.1) (hlk : meth.locks = false) (hZ : Z.Warmed39 (s.setVm vm0).vm)
    (hS0 : s.Since vm0 k0) (hk0 : k0 ≤ h.size) (hC : CHr Z P.1 s.vm s.heap vm0 h) (hS : ∀ x, P.2 x → Safe Z P.1 vm0 h x ∧ x < h.size) (hI : true = true → ∃ a0, EW Z a0 P.1)
    (X' : Stand p l e M.2.2.2.2 (s.setVm T'.vm) m args below meth c T' locs k' n') (hS' : (s.setVm vm0).Since T'.vm T'.heap.size) (N : Fr n0 locs) (hz : h.size ≤ h'.size) (eT : T'.heap = h') (hC' : CHr Z P.1 vm0 h T'.vm h') :
    ∃ t v L, Steps p.tables e below (T'.setTop (mkF m pc' Ls st')) t ∧ t.status = .running ∧ Ended t below (.returned v) ∧ Fr n0 L ∧ Q v t.heap ∧ KE true Z s v t L P.1 M.2.2.2.2.cells M.2.2.2.2.slots :=
  W p e s (s.setVm T'.vm) m args below meth c hx hby hml (by show T'.vm.findClass _ = _; rw [hS'.1.alike.findClass]; exact hown) hnm hret hlk (State.Warmed39.trans (t := s.setVm vm0) hZ hS'.1)
    (Or.inr ⟨rfl, T'.vm, T'.heap.size, rfl, hS0.trans hS' (by rw [eT]; exact Nat.le_trans hk0 hz), by rw [eT]; exact Nat.le_refl _, hC.trans hC', fun x hx => ⟨hC'.safe (hS x hx).2 (hS x hx).1, Nat.lt_of_lt_of_le (hS x hx).2 hz⟩⟩) hI T' locs X' N eT
theorem k_callStaticW {y : MD} {i W0 : Nat} {argsL : List Value} {Q' : Option Value → Heap → Prop} {ps : List FieldType} {r : Option FieldType} (hd : decode M.2.1 pc = .ok (.invokestatic i, 3)) (hp : pc + 3 = pc') (K : MtW l Z y [] n0 argsL.toArray P h Q')
    (w1 : (Cond.methodLink M.1.cls i y.1).before a0 Z = true) (w2 : (Cond.static y.1).before a0 Z = true) (w3 : (Cond.initialized y.1.cls).before a0 Z = true) (w4 : (Cond.code y.1 y.2.1 y.2.2.1 y.2.2.2.1).before a0 Z = true) (hy : y.1.cls ≠ "java/lang/invoke/MethodHandle" ∧ y.1.cls ≠ "java/lang/invoke/VarHandle")
    (hpd : parseMethodDescriptor y.1.desc = some ⟨ps, r⟩) (hlen : argsL.length = ps.length) (hst : st = argsL.reverse ++ rest) (hsz : Ls.size = M.2.2.1) (hW : (rest.map fun v => v.category).sum = W0)
    (hfr : y.2.2.2.2.frames + 1 ≤ M.2.2.2.2.frames) (hlo : W0 + (y.2.2.1 + 11) + y.2.2.2.2.locals ≤ M.2.2.2.2.locals) (hc : k + y.2.2.2.2.cells ≤ M.2.2.2.2.cells) (hs : n + y.2.2.2.2.slots ≤ M.2.2.2.2.slots)
    (W : ∀ v h', h.size ≤ h'.size → Q' v h' → KW true l Z M n0 Q P h' (k + y.2.2.2.2.cells) (n + y.2.2.2.2.slots) pc' Ls (v.toList ++ rest)) : KW true l Z M n0 Q P h k n pc Ls st := by
  intro p e s s' m args below meth c hx hby hml hown hnm hret hlk hZ hB hI T locs X N eT
  subst hp
  rcases hB with ⟨q, -⟩ | ⟨-, vm0, k0, rfl, hS0, hk0, hC, hSf⟩
  · cases q
  obtain ⟨a1, hEW⟩ := hI rfl
  obtain ⟨v, _, ⟨T', L', k', n'⟩, -, X', hS', hgr, ⟨Lc, ⟨q1, q2, q3⟩, l1, l2, l3, hC'⟩, stp⟩ := callSS X hx (y := y.1) hown (mvT hZ w1) (mvT hZ w2) (mvT hZ w3) (mvT hZ w4) hy (backW (W0 := W0) K hZ w4 w3 hfr hlo hEW hC.1 hSf) (g := mkF m pc Ls st) rfl (hsz.trans hml.symm) (argsL := argsL) (rest := rest) (lenOf hpd hlen) hst (by show 2 * 0 + _ ≤ _; omega) (hb hby hd) (fun _ _ => ⟨rfl, eT, hc, hs⟩)
  dsimp only [Pt.U, Pt.locs, Pt.cells, Pt.slots] at X' l1 l2 l3 stp q2 q3 hS' hC'
  subst l1 l2 l3
  obtain ⟨t, v', L, r, rr⟩ := (W v T'.heap q2 q3).after (h := h) hx hby hml hown hnm hret hlk hZ hS0 hk0 hC hSf hI X' hS' (Fr.app N q1) q2 rfl hC'
  exact ⟨t, v', L, stp.trans r, rr⟩
theorem k_callInitW {y : MD} {i W0 : Nat} {a : Addr} {argsL : List Value} {Q' : Option Value → Heap → Prop} {ps : List FieldType} {r : Option FieldType} (hd : decode M.2.1 pc = .ok (.invokespecial i, 3)) (hp : pc + 3 = pc') (K : MtW l Z y [] n0 (.ref a :: argsL).toArray P h Q') (hi : y.1.name = "<init>") (hr0 : y.2.2.2.1 = none)
    (w1 : (Cond.methodLink M.1.cls i y.1).before a0 Z = true) (w2 : (Cond.instanceMethod y.1).before a0 Z = true) (w3 : (Cond.initialized y.1.cls).before a0 Z = true) (w4 : (Cond.code y.1 y.2.1 y.2.2.1 y.2.2.2.1).before a0 Z = true) (hy : y.1.cls ≠ "java/lang/invoke/MethodHandle" ∧ y.1.cls ≠ "java/lang/invoke/VarHandle")
    (hpd : parseMethodDescriptor y.1.desc = some ⟨ps, r⟩) (hlen : argsL.length = ps.length) (hst : st = argsL.reverse ++ .ref a :: rest) (hsz : Ls.size = M.2.2.1) (hW : (rest.map fun v => v.category).sum = W0)
    (hfr : y.2.2.2.2.frames + 1 ≤ M.2.2.2.2.frames) (hlo : W0 + (y.2.2.1 + 11) + y.2.2.2.2.locals ≤ M.2.2.2.2.locals) (hc : k + y.2.2.2.2.cells ≤ M.2.2.2.2.cells) (hs : n + y.2.2.2.2.slots ≤ M.2.2.2.2.slots)
    (W : ∀ v h', h.size ≤ h'.size → Q' v h' → KW true l Z M n0 Q P h' (k + y.2.2.2.2.cells) (n + y.2.2.2.2.slots) pc' Ls (v.toList ++ rest)) : KW true l Z M n0 Q P h k n pc Ls st := by
  intro p e s s' m args below meth c hx hby hml hown hnm hret hlk hZ hB hI T locs X N eT
  subst hp
  rcases hB with ⟨q, -⟩ | ⟨-, vm0, k0, rfl, hS0, hk0, hC, hSf⟩
  · cases q
  obtain ⟨a1, hEW⟩ := hI rfl
  obtain ⟨v, _, ⟨T', L', k', n'⟩, -, X', hS', hgr, ⟨Lc, ⟨q1, q2, q3⟩, l1, l2, l3, hC'⟩, stp⟩ := X.specialBackS hx (y := y.1) hi hown (mvT hZ w1) (mvT hZ w2) (bytes := y.2.1) (maxL := y.2.2.1) (by rw [← hr0]; exact mvT hZ w4) hy (backW (W0 := W0) K hZ w4 w3 hfr hlo hEW hC.1 hSf) (g := mkF m pc Ls st) rfl (hsz.trans hml.symm) (Steps.refl _) (a := a) (argsL := argsL) (rest := rest) (lenOf hpd hlen) hst (by show 2 * 0 + _ ≤ _; omega) (hb hby hd) (fun _ _ => ⟨rfl, eT, hc, hs⟩)
  dsimp only [Pt.U, Pt.locs, Pt.cells, Pt.slots] at X' l1 l2 l3 stp q2 q3 hS' hC'
  subst l1 l2 l3
  obtain ⟨t, v', L, r, rr⟩ := (W v T'.heap q2 q3).after (h := h) hx hby hml hown hnm hret hlk hZ hS0 hk0 hC hSf hI X' hS' (Fr.app N q1) q2 rfl hC'
  exact ⟨t, v', L, stp.trans r, rr⟩
theorem k_callVirtualW {y : MD} {x : MethodName} {C : String} {i W0 : Nat} {a : Addr} {argsL : List Value} {Q' : Option Value → Heap → Prop} {ps : List FieldType} {r : Option FieldType} (hd : decode M.2.1 pc = .ok (.invokevirtual i, 3)) (hp : pc + 3 = pc') (K : MtW l Z y [] n0 (.ref a :: argsL).toArray P h Q') (E : Exa Z h a C)
    (w1 : (Cond.methodLink M.1.cls i x).before a0 Z = true) (w2 : (Cond.declares x).before a0 Z = true) (w3 : (Cond.selects C x y.1).before a0 Z = true) {C7 : String} (w7 : (Cond.selects C7 x x).before a0 Z = true) (w4 : (Cond.instanceMethod y.1).before a0 Z = true) (w5 : (Cond.code y.1 y.2.1 y.2.2.1 y.2.2.2.1).before a0 Z = true) (w6 : (Cond.initialized y.1.cls).before a0 Z = true) (hy : x.cls ≠ "java/lang/invoke/MethodHandle" ∧ x.cls ≠ "java/lang/invoke/VarHandle")
    (hpd : parseMethodDescriptor x.desc = some ⟨ps, r⟩) (hlen : argsL.length = ps.length) (hst : st = argsL.reverse ++ .ref a :: rest) (hsz : Ls.size = M.2.2.1) (hW : (rest.map fun v => v.category).sum = W0)
    (hfr : y.2.2.2.2.frames + 1 ≤ M.2.2.2.2.frames) (hlo : W0 + (y.2.2.1 + 11) + y.2.2.2.2.locals ≤ M.2.2.2.2.locals) (hc : k + y.2.2.2.2.cells ≤ M.2.2.2.2.cells) (hs : n + y.2.2.2.2.slots ≤ M.2.2.2.2.slots)
    (W : ∀ v h', h.size ≤ h'.size → Q' v h' → KW true l Z M n0 Q P h' (k + y.2.2.2.2.cells) (n + y.2.2.2.2.slots) pc' Ls (v.toList ++ rest)) : KW true l Z M n0 Q P h k n pc Ls st := by
  intro p e s s' m args below meth c hx hby hml hown hnm hret hlk hZ hB hI T locs X N eT
  subst hp
  rcases hB with ⟨q, -⟩ | ⟨-, vm0, k0, rfl, hS0, hk0, hC, hSf⟩
  · cases q
  obtain ⟨a1, hEW⟩ := hI rfl
  obtain ⟨cq, kq, qa, qb, qc⟩ := isOf hZ eT E
  obtain ⟨v, _, ⟨T', L', k', n'⟩, -, X', hS', hgr, ⟨Lc, ⟨q1, q2, q3⟩, l1, l2, l3, hC'⟩, stp⟩ := X.virtualBackS hx (y := x) (z := y.1) hown (mvT hZ w1) (mvT hZ w2) (notFace_of_selects (args := #[]) (mvT hZ w7)) (mvT hZ w3) (mvT hZ w4) hy (backW (W0 := W0) K hZ w5 w6 hfr hlo hEW hC.1 hSf) qa qc (g := mkF m pc Ls st) rfl (hsz.trans hml.symm) (Steps.refl _) (argsL := argsL) (rest := rest) (lenOf hpd hlen) hst (by show 2 * 0 + _ ≤ _; omega) (hb hby hd) (fun _ _ => ⟨rfl, eT, hc, hs⟩)
  dsimp only [Pt.U, Pt.locs, Pt.cells, Pt.slots] at X' l1 l2 l3 stp q2 q3 hS' hC'
  subst l1 l2 l3
  obtain ⟨t, v', L, r, rr⟩ := (W v T'.heap q2 q3).after (h := h) hx hby hml hown hnm hret hlk hZ hS0 hk0 hC hSf hI X' hS' (Fr.app N q1) q2 rfl hC'
  exact ⟨t, v', L, stp.trans r, rr⟩
/-- a String constant whose text is read -/
theorem k_ldcS {i sl : Nat} {text : String} {vs : List Value} {z : Int32} (hd : decode M.2.1 pc = .ok (.ldc i, 2)) (hp : pc + 2 = pc') (w : (Cond.stringLink M.1.cls i text).before a0 Z = true) (wS : ∀ a ∈ Bundle.stringAtoms, a.before a0 Z = true) (hmem : (M.1.cls, i) ∈ P.1)
    (ht : (∀ c ∈ text.toList, c.toNat < 256) ∧ text.toList.map (fun c => Value.int (Jvm.Lit.byteI c.toNat.toUInt16)) = vs) (hz : ¬ z < 0) (hl : z.toNatClampNeg = vs.length) (hn : 4 * text.toList.length ≤ sl) (hbig : sl ≤ 536870912) (hc : k + 2 ≤ M.2.2.2.2.cells) (hs : n + (sl + 4) ≤ M.2.2.2.2.slots)
    (W : ∀ a b ck h', Ext h h' → Exa Z h' a "java/lang/String" → Fld Z h' a "java/lang/String" "coder" "B" (.int 0) → Fld Z h' a "java/lang/String" "value" "[B" (.ref b) → Arv Z h' b ck .byte z vs (.int 0) → (∀ x, P.2 x → x ≠ a ∧ x ≠ b) → KW true l Z M n0 Q P h' (k + 2) (n + (sl + 4)) pc' Ls (.ref a :: st)) : KW true l Z M n0 Q P h k n pc Ls st := by
  intro p e s s' m args below meth c hx hby hml hown hnm hret hlk hZ hB hI T locs X N eT
  subst hp
  rcases hB with ⟨q, -⟩ | ⟨-, vm0, k0, rfl, hS0, hk0, hC, hSf⟩
  · cases q
  obtain ⟨a1, hEW⟩ := hI rfl
  have hEW0 : EW Z a0 P.1 := fun p hp => by
    obtain ⟨text, w1, w2⟩ := hEW p hp
    exact ⟨text, by simpa only [Cond.before, Cond.holds, Cond.value] using w1, w2⟩
  obtain ⟨a, T', h', k1, b, ck, X', e', E, hS', hk', hZ', hown', A, F1, F2, V, -, -, hC', -, hne, stp⟩ := ldcCH X hx hZ hown w wS eT hS0 hk0 hEW0 hmem hC.1 ht hz hl (g := mkF m pc Ls st) rfl (hb hby hd) hn hbig hc hs
  obtain ⟨t, v', L, r, rr⟩ := W a b ck h' E A F1 F2 V (fun x hx => hne x (hC'.safe (hSf x hx).2 (hSf x hx).1)) p e s (s.setVm T'.vm) m args below meth c hx hby hml hown' hnm hret hlk hZ' (Or.inr ⟨rfl, T'.vm, k1, rfl, hS', hk', hC.trans hC', fun x hx => ⟨hC'.safe (hSf x hx).2 (hSf x hx).1, Nat.lt_of_lt_of_le (hSf x hx).2 E.1⟩⟩) hI T' locs X' N e'
  exact ⟨t, v', L, stp t r, rr⟩
/-- a String constant whose text isn't read -/
theorem k_ldcO {i sl : Nat} {text : String} (hd : decode M.2.1 pc = .ok (.ldc i, 2)) (hp : pc + 2 = pc') (w : (Cond.stringLink M.1.cls i text).before a0 Z = true) (wS : ∀ a ∈ Bundle.stringAtoms, a.before a0 Z = true)
    (hn : 4 * text.toList.length ≤ sl) (hbig : sl ≤ 536870912) (hc : k + 2 ≤ M.2.2.2.2.cells) (hs : n + (sl + 4) ≤ M.2.2.2.2.slots)
    (W : ∀ a h', Ext h h' → KW true l Z M n0 Q P h' (k + 2) (n + (sl + 4)) pc' Ls (.ref a :: st)) : KW true l Z M n0 Q P h k n pc Ls st := by
  intro p e s s' m args below meth c hx hby hml hown hnm hret hlk hZ hB hI T locs X N eT
  subst hp
  rcases hB with ⟨q, -⟩ | ⟨-, vm0, k0, rfl, hS0, hk0, hC, hSf⟩
  · cases q
  obtain ⟨a1, hEW⟩ := hI rfl
  have hEW0 : EW Z a0 P.1 := fun p hp => by
    obtain ⟨text, w1, w2⟩ := hEW p hp
    exact ⟨text, by simpa only [Cond.before, Cond.holds, Cond.value] using w1, w2⟩
  obtain ⟨a, T', h', k1, X', e', E, hS', hk', hZ', hown', hC', -, stp⟩ := ldcOH X hx hZ hown w wS eT hS0 hk0 hEW0 hC.1 (g := mkF m pc Ls st) rfl (hb hby hd) hn hbig hc hs
  obtain ⟨t, v', L, r, rr⟩ := W a h' E p e s (s.setVm T'.vm) m args below meth c hx hby hml hown' hnm hret hlk hZ' (Or.inr ⟨rfl, T'.vm, k1, rfl, hS', hk', hC.trans hC', fun x hx => ⟨hC'.safe (hSf x hx).2 (hSf x hx).1, Nat.lt_of_lt_of_le (hSf x hx).2 E.1⟩⟩) hI T' locs X' N e'
  exact ⟨t, v', L, stp t r, rr⟩
end
end Jvm.OwnW

namespace Jvm.OwnW
open Sem ClassFile Op Lib Jvm.Stand Jvm.Free Jvm.LawKit Jvm.RoadKit
theorem ix_int {j : Nat} (h : j < 2147483648) : (Int32.ofNat j).toInt = (j : Int) := Int32.toInt_ofNat_of_lt h
theorem ix_nat {j : Nat} (h : j < 2147483648) : (Int32.ofNat j).toNatClampNeg = j := by
  show (Int32.ofNat j).toInt.toNat = j
  rw [ix_int h]; rfl
theorem ix_nn {j : Nat} (h : j < 2147483648) : ¬ Int32.ofNat j < 0 := by
  rw [Int32.lt_iff_toInt_lt, ix_int h]; show ¬ (j : Int) < 0; omega
theorem ix_lt {i j : Nat} (hj : j < 2147483648) (h : i < j) : Int32.ofNat i < Int32.ofNat j := by
  rw [Int32.lt_iff_toInt_lt, ix_int hj, ix_int (by omega)]; omega
theorem ix_irr {j : Nat} : ¬ Int32.ofNat j < Int32.ofNat j := by rw [Int32.lt_iff_toInt_lt]; omega
theorem ix_succ (j : Nat) : Int32.ofNat j + 1 = Int32.ofNat (j + 1) := (Int32.ofNat_add j 1).symm
theorem ix_inb {j n : Nat} (hn : n < 2147483648) (h : j < n) : ¬ Int32.ofNat j < 0 ∧ Int32.ofNat j < Int32.ofNat n := ⟨ix_nn (by omega), ix_lt hn h⟩
theorem ix_ne {i j : Nat} (hi : i < 2147483648) (hj : j < 2147483648) (h : i ≠ j) : ¬ Int32.ofNat i = Int32.ofNat j := fun q => h (by
  have := congrArg Int32.toInt q; rw [ix_int hi, ix_int hj] at this; omega)
theorem get_mid (f : Int32 → Value) (ps rs : List Int32) (q : Int32) (d : Value) {j : Nat} (hj : j = ps.length) : ((ps ++ q :: rs).map f).getD j d = f q := by
  subst hj; induction ps with
  | nil => rfl
  | cons p ps ih => simpa using ih
theorem set_mid (A B : List Value) (w v : Value) {j : Nat} (hj : j = A.length) : (A ++ w :: B).set j v = (A ++ [v]) ++ B := by
  subst hj; induction A with
  | nil => rfl
  | cons p ps ih => simpa using ih
/-- a byte of a sign -/
abbrev nbI (q : Int32) : Int32 := nar .byte (Int8.toInt32 (Int32.toInt8 q))
theorem nbI_inj {p q : Int32} (hp : 0 ≤ p.toInt ∧ p.toInt < 256) (hq : 0 ≤ q.toInt ∧ q.toInt < 256) (h : nbI p = nbI q) : p = q := by
  have e1 := c_i2b p; have e2 := c_i2b q
  have e3 := c_i2b (Int8.toInt32 (Int32.toInt8 p)); have e4 := c_i2b (Int8.toInt32 (Int32.toInt8 q))
  have h' : (Int8.toInt32 (Int32.toInt8 (Int8.toInt32 (Int32.toInt8 p)))).toInt = (Int8.toInt32 (Int32.toInt8 (Int8.toInt32 (Int32.toInt8 q)))).toInt := congrArg Int32.toInt h
  refine Int32.toInt_inj.mp ?_
  omega
def Latin (xs : List Int32) : Prop := ∀ q ∈ xs, 0 ≤ q.toInt ∧ q.toInt < 256
theorem Latin.nil : Latin [] := fun _ q => nomatch q
theorem Latin.cons {q : Int32} {xs : List Int32} (h : 0 ≤ q.toInt ∧ q.toInt < 256) (r : Latin xs) : Latin (q :: xs) := fun x hx => (List.mem_cons.mp hx).elim (fun e => e ▸ h) (r x)
theorem latin_inj : ∀ {xs ys : List Int32}, Latin xs → Latin ys → xs.map nbI = ys.map nbI → xs = ys
  | [], [], _, _, _ => rfl
  | [], _ :: _, _, _, h => by simp at h
  | _ :: _, [], _, _, h => by simp at h
  | x :: xs, y :: ys, hx, hy, h => by
    simp only [List.map_cons, List.cons.injEq] at h
    rw [nbI_inj (hx x (by simp)) (hy y (by simp)) h.1, latin_inj (fun q hq => hx q (by simp [hq])) (fun q hq => hy q (by simp [hq])) h.2]
/-- a String of Latin-1 signs, by its bytes -/
def Sg (Z : State) (h : Heap) (a t : Addr) (bs : List Int32) : Prop := ∃ ck, Exa Z h a "java/lang/String" ∧ Fld Z h a "java/lang/String" "coder" "B" (.int 0) ∧ Fld Z h a "java/lang/String" "value" "[B" (.ref t) ∧ Arv Z h t ck .byte (Int32.ofNat bs.length) (bs.map Value.int) (.int 0) ∧ bs.length < 2147483648
section
variable {Z : State} {h h' : Heap} {a t x : Addr} {bs : List Int32} {ws : List Addr} {sl : Nat} {v : Value}
theorem Sg.ext (S : Sg Z h a t bs) (E : Ext h h') : Sg Z h' a t bs := by
  obtain ⟨ck, A, B, C, D, F⟩ := S; exact ⟨ck, A.ext E, B.ext E, C.ext E, D.ext E, F⟩
theorem Sg.keep (S : Sg Z h a t bs) (K : Keep h h' ws) (q : a ∉ ws) (r : t ∉ ws) : Sg Z h' a t bs := by
  obtain ⟨ck, A, B, C, D, F⟩ := S; exact ⟨ck, A.keep K, B.keep K q, C.keep K q, D.keep K r, F⟩
theorem Sg.wr (S : Sg Z h a t bs) (W : Wr h h' x sl v) (q : a ≠ x) (r : t ≠ x) : Sg Z h' a t bs := by
  obtain ⟨ck, A, B, C, D, F⟩ := S; exact ⟨ck, A.wr W, B.other W (Or.inl q), C.other W (Or.inl q), D.other W r, F⟩
theorem Sg.lt (S : Sg Z h a t bs) : a < h.size := by obtain ⟨ck, A, -⟩ := S; exact A.lt
theorem Sg.ltv (S : Sg Z h a t bs) : t < h.size := by obtain ⟨ck, -, -, -, D, -⟩ := S; exact D.lt
theorem Sg.exa (S : Sg Z h a t bs) : Exa Z h a "java/lang/String" := by obtain ⟨ck, A, -⟩ := S; exact A
end
theorem Fld.uniq {Z : State} {h : Heap} {a : Addr} {C n d : String} {v w : Value} (F : Fld Z h a C n d v) (G : Fld Z h a C n d w) : v = w :=
  Classical.byContradiction fun q => (Fld.ne F G q) rfl
theorem Arv.uniq {Z : State} {h : Heap} {t : Addr} {ck ck' : ClassId} {xs ys : List Int32} (hx : xs.length < 2147483648) (hy : ys.length < 2147483648) (A : Arv Z h t ck .byte (Int32.ofNat xs.length) (xs.map Value.int) (.int 0)) (B : Arv Z h t ck' .byte (Int32.ofNat ys.length) (ys.map Value.int) (.int 0)) : xs = ys := by
  obtain ⟨c, A1, -, A3, -, A5, -⟩ := A
  obtain ⟨c', B1, -, B3, -, B5, -⟩ := B
  cases A1.1.symm.trans B1.1
  rw [ix_nat hx] at A3
  rw [ix_nat hy] at B3
  have hl : xs.length = ys.length := A3.symm.trans B3
  apply List.ext_getElem hl
  intro i h1 h2
  have e1 := A5 i (by omega)
  have e2 := B5 i (by omega)
  have e3 := Option.some.inj (e1.symm.trans e2)
  simp only [List.getD_eq_getElem?_getD, List.getElem?_map, List.getElem?_eq_getElem h1, List.getElem?_eq_getElem h2, Option.map_some, Option.getD_some] at e3
  exact Value.int.inj e3
theorem Sg.uniq {Z : State} {h : Heap} {a t u : Addr} {xs ys : List Int32} (S : Sg Z h a t xs) (T : Sg Z h a u ys) : xs = ys := by
  obtain ⟨ck, -, -, C, D, F⟩ := S
  obtain ⟨ck', -, -, C', D', F'⟩ := T
  cases Value.ref.inj (Fld.uniq C C')
  exact Arv.uniq F F' D D'
/-- the answer of equals -/
def eqI (xs ys : List Int32) : Int32 := if xs = ys then 1 else 0
theorem eqI_one {xs ys : List Int32} (h : ¬ eqI xs ys = 0) : eqI xs ys = 1 := by
  unfold eqI at *; split at h
  · rename_i q; rw [if_pos q]
  · exact absurd rfl h
theorem eqI_self (xs : List Int32) : eqI xs xs = 1 := by simp [eqI]
theorem eqI_nar (xs ys : List Int32) : nar .boolean (eqI xs ys) = eqI xs ys := by unfold eqI; split <;> decide
theorem eqI_mid {ps rs rs' : List Int32} {q q' : Int32} (h : ¬ q = q') : eqI (ps ++ q :: rs) (ps ++ q' :: rs') = 0 := by
  unfold eqI; rw [if_neg]; intro e
  exact h (List.cons.inj (List.append_cancel_left e)).1
theorem eqI_len {xs ys : List Int32} (h : ¬ Int32.ofNat xs.length = Int32.ofNat ys.length) : eqI xs ys = 0 := by
  unfold eqI; rw [if_neg]; intro e; exact h (by rw [e])
end Jvm.OwnW

namespace Jvm.OwnW
open Sem ClassFile Op Lib Jvm.Stand Jvm.Free Jvm.LawKit Jvm.RoadKit
section
variable {wd : Bool} {l : Launch} {Z : State} {M : MD} {n0 : Nat} {Q : Option Value → Heap → Prop} {P : PX} {h : Heap} {k n k' n' pc pc' : Nat} {Ls Ls' : Array Slot} {st st' rest : List Value} {a0 : Array Value}
/-- fewer cells made are as good -/
theorem KW.more (hk : k ≤ k') (hn : n ≤ n') (W : KW wd l Z M n0 Q P h k' n' pc Ls st) : KW wd l Z M n0 Q P h k n pc Ls st :=
  fun p e s s' m args below meth c hx hby hml hown hnm hret hlk hZ hB hI T locs X N eT => W p e s s' m args below meth c hx hby hml hown hnm hret hlk hZ hB hI T locs (X.more hk hn) N eT
theorem k_instNo {i : Nat} {K C : String} {a : Addr} (hd : decode M.2.1 pc = .ok (.instanceof i, 3)) (hp : pc + 3 = pc') (w : (Cond.classLink M.1.cls i K).before a0 Z = true) (E : Exa Z h a C) (F : ∃ c t, Z.vm.findClass C = some c ∧ Z.vm.findClass K = some t ∧ Z.vm.assignable c t = false) (W : KW wd l Z M n0 Q P h k n pc' Ls (.int 0 :: st)) : KW wd l Z M n0 Q P h k n pc Ls (.ref a :: st) := by
  subst hp; exact W.move fun p e s' T m args below meth c locs hx hby hml hown hZ X eT => instNo X hx hZ hown w eT E F (g := mkF m pc Ls (.ref a :: st)) rfl rfl (hb hby hd)
theorem k_instNull {i : Nat} (hd : decode M.2.1 pc = .ok (.instanceof i, 3)) (hp : pc + 3 = pc') (W : KW wd l Z M n0 Q P h k n pc' Ls (.int 0 :: st)) : KW wd l Z M n0 Q P h k n pc Ls (.null :: st) := by
  subst hp; exact W.step fun p e s' T m args below meth c locs hx hby hown hZ X target r => X.instanceofNull hx (g := mkF m pc Ls (.null :: st)) rfl rfl (hb hby hd) target r
theorem own_apart {C O K : String} {n : Nat} (wC : (Cond.superclass C O).before a0 Z = true) (wO : (Cond.noSuperclass O).before a0 Z = true) (wK : (Cond.instantiable K n).before a0 Z = true) (h1 : C ≠ K) (h2 : O ≠ K) : ∃ c t, Z.vm.findClass C = some c ∧ Z.vm.findClass K = some t ∧ Z.vm.assignable c t = false := by
  obtain ⟨t, kt, k1, k2, k3, k4, -, -⟩ := Cond.instantiable_spec wK
  obtain ⟨o, ko, o1, o2, o3, -, -⟩ := Cond.noSuperclass_spec wO
  obtain ⟨c, c0⟩ := found_sup wC
  obtain ⟨p, kc, kp, s1, s2, s3, s4, s5, -, s7⟩ := Cond.superclass_spec c0 wC
  cases o1.symm.trans s1
  have n1 := ids_ne c0 k1 h1
  have n2 := ids_ne o1 k1 h2
  have hroot : ∀ f, Z.vm.isSubclassAux f o t = false := fun f => by
    cases f with
    | zero => rfl
    | succ f => simp [Vm.isSubclassAux, n2, o2, o3]
  have hsub : ∀ f, Z.vm.isSubclassAux f c t = false := fun f => by
    cases f with
    | zero => rfl
    | succ f => simp [Vm.isSubclassAux, n1, s2, s4, hroot]
  have hi : kt.isInterface = false := by simp at k4; exact k4.1
  refine ⟨c, t, c0, k1, ?_⟩
  show Z.vm.assignableAux (255 + 1) c t = false
  simp [Vm.assignableAux, n1, s2, k2, s5, k3, hi, Vm.isSubclass, hsub]
end
theorem cat_R (a : Addr) : (Value.ref a).category = 1 := rfl
theorem cat_ref {v : Value} (h : v.isRef = true) : v.category = 1 := by rcases ref_cases h with rfl | ⟨_, rfl⟩ <;> rfl
theorem fit_ref {v : Value} {C : String} (h : v.isRef = true) : fits (.object C) v = true := by rcases ref_cases h with rfl | ⟨_, rfl⟩ <;> rfl
theorem nar_ref {v : Value} {C : String} (h : v.isRef = true) : narrow (.object C) v = v := by rcases ref_cases h with rfl | ⟨_, rfl⟩ <;> rfl
theorem eqI_comm (xs ys : List Int32) : eqI xs ys = eqI ys xs := by
  unfold eqI; by_cases h : xs = ys
  · rw [if_pos h, if_pos h.symm]
  · rw [if_neg h, if_neg (fun e => h e.symm)]
end Jvm.OwnW

namespace Jvm.Pilot.@@N@@
open Jvm Jvm.ClassFile Sem Op Lib Jvm.Free Jvm.Stand Jvm.LawKit Jvm.RoadKit Bundle Jvm.OwnW Jvm.Pilot.@@N@@.Jvm.D

abbrev EL : List (String × Nat) := consts_1
theorem own_wS (Z : State) (a0 : Array Value) (hw : ∀ d ∈ tables_1, d.before a0 Z = true) : ∀ a ∈ Bundle.stringAtoms, a.before a0 Z = true := by
  intro a ha
  simp only [Bundle.stringAtoms, List.mem_cons, List.not_mem_nil, or_false] at ha
  rcases ha with rfl | rfl | rfl | rfl | rfl | rfl | rfl
  · exact (hw _ (List.mem_of_getElem? (i := 6) rfl))
  · exact (hw _ (List.mem_of_getElem? (i := 5) rfl))
  · exact (hw _ (List.mem_of_getElem? (i := 19) rfl))
  · exact (hw _ (List.mem_of_getElem? (i := 20) rfl))
  · exact (hw _ (List.mem_of_getElem? (i := 21) rfl))
  · exact (hw _ (List.mem_of_getElem? (i := 22) rfl))
  · exact (hw _ (List.mem_of_getElem? (i := 23) rfl))
abbrev M_leq : MD := ((⟨"java/lang/StringLatin1", "equals", "([B[B)Z"⟩ : MethodName), jdk_43_method_13_code, 3, (some .boolean), { frames := 0, cells := 0, slots := 0, locals := 0 })
theorem d_leq_0 : decode jdk_43_method_13_code 0 = .ok (.aload_n 0, 1) := by decide +kernel
theorem d_leq_1 : decode jdk_43_method_13_code 1 = .ok (.arraylength, 1) := by decide +kernel
theorem d_leq_2 : decode jdk_43_method_13_code 2 = .ok (.aload_n 1, 1) := by decide +kernel
theorem d_leq_3 : decode jdk_43_method_13_code 3 = .ok (.arraylength, 1) := by decide +kernel
theorem d_leq_4 : decode jdk_43_method_13_code 4 = .ok (.if_icmp .ne 30, 3) := by decide +kernel
theorem d_leq_7 : decode jdk_43_method_13_code 7 = .ok (.iconst 0, 1) := by decide +kernel
theorem d_leq_8 : decode jdk_43_method_13_code 8 = .ok (.istore_n 2, 1) := by decide +kernel
theorem d_leq_9 : decode jdk_43_method_13_code 9 = .ok (.iload_n 2, 1) := by decide +kernel
theorem d_leq_10 : decode jdk_43_method_13_code 10 = .ok (.aload_n 0, 1) := by decide +kernel
theorem d_leq_11 : decode jdk_43_method_13_code 11 = .ok (.arraylength, 1) := by decide +kernel
theorem d_leq_12 : decode jdk_43_method_13_code 12 = .ok (.if_icmp .ge 20, 3) := by decide +kernel
theorem d_leq_15 : decode jdk_43_method_13_code 15 = .ok (.aload_n 0, 1) := by decide +kernel
theorem d_leq_16 : decode jdk_43_method_13_code 16 = .ok (.iload_n 2, 1) := by decide +kernel
theorem d_leq_17 : decode jdk_43_method_13_code 17 = .ok (.baload, 1) := by decide +kernel
theorem d_leq_18 : decode jdk_43_method_13_code 18 = .ok (.aload_n 1, 1) := by decide +kernel
theorem d_leq_19 : decode jdk_43_method_13_code 19 = .ok (.iload_n 2, 1) := by decide +kernel
theorem d_leq_20 : decode jdk_43_method_13_code 20 = .ok (.baload, 1) := by decide +kernel
theorem d_leq_21 : decode jdk_43_method_13_code 21 = .ok (.if_icmp .eq 5, 3) := by decide +kernel
theorem d_leq_24 : decode jdk_43_method_13_code 24 = .ok (.iconst 0, 1) := by decide +kernel
theorem d_leq_25 : decode jdk_43_method_13_code 25 = .ok (.ireturn, 1) := by decide +kernel
theorem d_leq_26 : decode jdk_43_method_13_code 26 = .ok (.iinc 2 1, 3) := by decide +kernel
theorem d_leq_29 : decode jdk_43_method_13_code 29 = .ok (.goto (-20), 3) := by decide +kernel
theorem d_leq_32 : decode jdk_43_method_13_code 32 = .ok (.iconst 1, 1) := by decide +kernel
theorem d_leq_33 : decode jdk_43_method_13_code 33 = .ok (.ireturn, 1) := by decide +kernel
theorem d_leq_34 : decode jdk_43_method_13_code 34 = .ok (.iconst 0, 1) := by decide +kernel
theorem d_leq_35 : decode jdk_43_method_13_code 35 = .ok (.ireturn, 1) := by decide +kernel
theorem pd_leq : parseMethodDescriptor "([B[B)Z" = some ⟨[(.array .byte), (.array .byte)], (some .boolean)⟩ := by decide +kernel
theorem pf_leq : plainFor (⟨"java/lang/StringLatin1", "equals", "([B[B)Z"⟩ : MethodName) = true := by first | exact plainFor_of_name (by first | (simp [plainName, overriddenIn]; done) | decide +kernel) | decide +kernel
set_option maxRecDepth 65536 in
set_option maxHeartbeats 40000000 in
theorem kw_leqL (l : Launch) (Z : State) (a0 : Array Value) (hw : ∀ d ∈ tables_1, d.before a0 Z = true) (cs : Int32) (hcs : ¬ cs = 0) (SC : Sta Z Z.heap "java/lang/String" "COMPACT_STRINGS" "Z" (.int cs)) (hEW : EW Z a0 EL) (a b : Addr) (ck ck' : ClassId) (xs ys : List Int32) (h0 : Heap) (n0 : Nat) (hx : xs.length < 2147483648) (hy : ys.length < 2147483648) (A : Arv Z h0 a ck .byte (Int32.ofNat xs.length) (xs.map Value.int) (.int 0)) (B : Arv Z h0 b ck' .byte (Int32.ofNat ys.length) (ys.map Value.int) (.int 0)) (hl : xs.length = ys.length) : ∀ (rs rs' ps : List Int32), xs = ps ++ rs → ys = ps ++ rs' → KW false l Z M_leq n0 (fun v h => v = some (.int (eqI xs ys)) ∧ h0 = h) ([], fun _ => False) h0 0 0 9 #[.val (.ref a), .val (.ref b), .val (.int (Int32.ofNat ps.length))] [] := by
  intro rs
  induction rs with
  | nil =>
      intro rs' ps e e'
      have z : rs' = [] := by
        have := hl; rw [e, e'] at this; simp at this; exact this
      subst z
      refine k_iloadN d_leq_9 rfl rfl ?_
      refine k_aloadN d_leq_10 rfl rfl rfl ?_
      refine k_arrlen d_leq_11 rfl A ?_
      refine k_icmp (pc1 := 32) (pc' := 15) d_leq_12 (by decide) (by decide) rfl (fun (cd1 : ¬ (Int32.ofNat ps.length) < (Int32.ofNat xs.length)) => ?_) (fun (cd1 : (Int32.ofNat ps.length) < (Int32.ofNat xs.length)) => False.elim (by rw [e, List.append_nil] at cd1; exact ix_irr cd1))
      refine k_iconst (z := (1 : Int32)) d_leq_32 rfl (by decide) ?_
      exact k_retNar d_leq_33 rfl (by simp) (z' := (1 : Int32)) (by decide) (by decide) (by decide) ⟨by rw [e, e', eqI_self], rfl⟩
  | cons q rs ih =>
      intro rs' ps e e'
      obtain ⟨q', rs', rfl⟩ : ∃ q' r, rs' = q' :: r := by
        cases rs' with
        | nil => have := hl; rw [e, e'] at this; simp at this
        | cons q' r => exact ⟨q', r, rfl⟩
      have LT : ps.length < xs.length := by rw [e, List.length_append, List.length_cons]; omega
      have LT' : ps.length < ys.length := by rw [e', List.length_append, List.length_cons]; omega
      refine k_iloadN d_leq_9 rfl rfl ?_
      refine k_aloadN d_leq_10 rfl rfl rfl ?_
      refine k_arrlen d_leq_11 rfl A ?_
      refine k_icmp (pc1 := 32) (pc' := 15) d_leq_12 (by decide) (by decide) rfl (fun (cd2 : ¬ (Int32.ofNat ps.length) < (Int32.ofNat xs.length)) => absurd (by exact ix_lt hx LT) cd2) (fun (cd2 : (Int32.ofNat ps.length) < (Int32.ofNat xs.length)) => ?_)
      refine k_aloadN d_leq_15 rfl rfl rfl ?_
      refine k_iloadN d_leq_16 rfl rfl ?_
      refine k_baload (v := (.int q)) d_leq_17 rfl A (ix_inb hx LT) (by rw [ix_nat (Nat.lt_trans LT hx), e]; exact get_mid _ _ _ _ _ rfl) ?_
      refine k_aloadN d_leq_18 rfl rfl rfl ?_
      refine k_iloadN d_leq_19 rfl rfl ?_
      refine k_baload (v := (.int q')) d_leq_20 rfl B (ix_inb hy LT') (by rw [ix_nat (Nat.lt_trans LT hx), e']; exact get_mid _ _ _ _ _ rfl) ?_
      refine k_icmp (pc1 := 26) (pc' := 24) d_leq_21 (by decide) (by decide) rfl (fun (cd3 : q = q') => ?_) (fun (cd3 : ¬ q = q') => ?_)
      · skip
        refine k_iinc (z := (1 : Int32)) (Ls' := #[.val (.ref a), .val (.ref b), .val (.int ((Int32.ofNat ps.length) + (1 : Int32)))]) d_leq_26 rfl (by decide) rfl rfl ?_
        refine k_goto (pc' := 9) d_leq_29 (by decide) (by decide) ?_
        subst cd3
        have J := ih rs' (ps ++ [q]) (by rw [e]; simp) (by rw [e']; simp)
        rw [show (ps ++ [q]).length = ps.length + 1 by simp, ← ix_succ] at J
        exact J
      · skip
        refine k_iconst (z := (0 : Int32)) d_leq_24 rfl (by decide) ?_
        exact k_retNar d_leq_25 rfl (by simp) (z' := (0 : Int32)) (by decide) (by decide) (by decide) ⟨by rw [e, e', eqI_mid (by assumption)], rfl⟩
set_option maxRecDepth 65536 in
set_option maxHeartbeats 40000000 in
theorem kw_leq (l : Launch) (Z : State) (a0 : Array Value) (hw : ∀ d ∈ tables_1, d.before a0 Z = true) (cs : Int32) (hcs : ¬ cs = 0) (SC : Sta Z Z.heap "java/lang/String" "COMPACT_STRINGS" "Z" (.int cs)) (hEW : EW Z a0 EL) (a b : Addr) (ck ck' : ClassId) (xs ys : List Int32) (h0 : Heap) (n0 : Nat) (hx : xs.length < 2147483648) (hy : ys.length < 2147483648) (A : Arv Z h0 a ck .byte (Int32.ofNat xs.length) (xs.map Value.int) (.int 0)) (B : Arv Z h0 b ck' .byte (Int32.ofNat ys.length) (ys.map Value.int) (.int 0)) : KW false l Z M_leq n0 (fun v h => v = some (.int (eqI xs ys)) ∧ h0 = h) ([], fun _ => False) h0 0 0 0 #[.val (.ref a), .val (.ref b), .unset] [] := by
  refine k_aloadN d_leq_0 rfl rfl rfl ?_
  refine k_arrlen d_leq_1 rfl A ?_
  refine k_aloadN d_leq_2 rfl rfl rfl ?_
  refine k_arrlen d_leq_3 rfl B ?_
  refine k_icmp (pc1 := 34) (pc' := 7) d_leq_4 (by decide) (by decide) rfl (fun (cd4 : ¬ (Int32.ofNat xs.length) = (Int32.ofNat ys.length)) => ?_) (fun (cd4 : (Int32.ofNat xs.length) = (Int32.ofNat ys.length)) => ?_)
  · skip
    refine k_iconst (z := (0 : Int32)) d_leq_34 rfl (by decide) ?_
    exact k_retNar d_leq_35 rfl (by simp) (z' := (0 : Int32)) (by decide) (by decide) (by decide) ⟨by rw [eqI_len (by assumption)], rfl⟩
  · skip
    refine k_iconst (z := (0 : Int32)) d_leq_7 rfl (by decide) ?_
    refine k_istoreN (Ls' := #[.val (.ref a), .val (.ref b), .val (.int (0 : Int32))]) d_leq_8 rfl rfl ?_
    exact kw_leqL l Z a0 hw cs hcs SC hEW a b ck ck' xs ys h0 n0 hx hy A B (Classical.byContradiction fun z => ix_ne hx hy z cd4) xs ys [] rfl rfl
theorem mt_leq (l : Launch) (Z : State) (a0 : Array Value) (hw : ∀ d ∈ tables_1, d.before a0 Z = true) (cs : Int32) (hcs : ¬ cs = 0) (SC : Sta Z Z.heap "java/lang/String" "COMPACT_STRINGS" "Z" (.int cs)) (hEW : EW Z a0 EL) (a b : Addr) (ck ck' : ClassId) (xs ys : List Int32) (h0 : Heap) (n0 : Nat) (hx : xs.length < 2147483648) (hy : ys.length < 2147483648) (A : Arv Z h0 a ck .byte (Int32.ofNat xs.length) (xs.map Value.int) (.int 0)) (B : Arv Z h0 b ck' .byte (Int32.ofNat ys.length) (ys.map Value.int) (.int 0)) : Mt l Z M_leq [] n0 #[(.ref a), (.ref b)] h0 (fun v h => v = some (.int (eqI xs ys)) ∧ h0 = h) :=
  mt_of_kw (P := ([], fun _ => False)) pf_leq (fun m => by first | (simp [entryFrame, mkF, argsToLocals, Value.category]; done) | rfl) (kw_leq l Z a0 hw cs hcs SC hEW a b ck ck' xs ys h0 n0 hx hy A B)
abbrev M_seq : MD := ((⟨"java/lang/String", "equals", "(Ljava/lang/Object;)Z"⟩ : MethodName), jdk_42_method_66_code, 3, (some .boolean), { frames := 1, cells := 0, slots := 0, locals := 20 })
theorem d_seq_0 : decode jdk_42_method_66_code 0 = .ok (.aload_n 0, 1) := by decide +kernel
theorem d_seq_1 : decode jdk_42_method_66_code 1 = .ok (.aload_n 1, 1) := by decide +kernel
theorem d_seq_2 : decode jdk_42_method_66_code 2 = .ok (.if_acmp .ne 5, 3) := by decide +kernel
theorem d_seq_5 : decode jdk_42_method_66_code 5 = .ok (.iconst 1, 1) := by decide +kernel
theorem d_seq_6 : decode jdk_42_method_66_code 6 = .ok (.ireturn, 1) := by decide +kernel
theorem d_seq_7 : decode jdk_42_method_66_code 7 = .ok (.aload_n 1, 1) := by decide +kernel
theorem d_seq_8 : decode jdk_42_method_66_code 8 = .ok (.instanceof 10, 3) := by decide +kernel
theorem d_seq_11 : decode jdk_42_method_66_code 11 = .ok (.ifCond .eq 43, 3) := by decide +kernel
theorem d_seq_14 : decode jdk_42_method_66_code 14 = .ok (.aload_n 1, 1) := by decide +kernel
theorem d_seq_15 : decode jdk_42_method_66_code 15 = .ok (.checkcast 10, 3) := by decide +kernel
theorem d_seq_18 : decode jdk_42_method_66_code 18 = .ok (.astore_n 2, 1) := by decide +kernel
theorem d_seq_19 : decode jdk_42_method_66_code 19 = .ok (.getstatic 38, 3) := by decide +kernel
theorem d_seq_22 : decode jdk_42_method_66_code 22 = .ok (.ifCond .eq 14, 3) := by decide +kernel
theorem d_seq_25 : decode jdk_42_method_66_code 25 = .ok (.aload_n 0, 1) := by decide +kernel
theorem d_seq_26 : decode jdk_42_method_66_code 26 = .ok (.getfield 15, 3) := by decide +kernel
theorem d_seq_29 : decode jdk_42_method_66_code 29 = .ok (.aload_n 2, 1) := by decide +kernel
theorem d_seq_30 : decode jdk_42_method_66_code 30 = .ok (.getfield 15, 3) := by decide +kernel
theorem d_seq_33 : decode jdk_42_method_66_code 33 = .ok (.if_icmp .ne 21, 3) := by decide +kernel
theorem d_seq_36 : decode jdk_42_method_66_code 36 = .ok (.aload_n 0, 1) := by decide +kernel
theorem d_seq_37 : decode jdk_42_method_66_code 37 = .ok (.getfield 9, 3) := by decide +kernel
theorem d_seq_40 : decode jdk_42_method_66_code 40 = .ok (.aload_n 2, 1) := by decide +kernel
theorem d_seq_41 : decode jdk_42_method_66_code 41 = .ok (.getfield 9, 3) := by decide +kernel
theorem d_seq_44 : decode jdk_42_method_66_code 44 = .ok (.invokestatic 541, 3) := by decide +kernel
theorem d_seq_47 : decode jdk_42_method_66_code 47 = .ok (.ifCond .eq 7, 3) := by decide +kernel
theorem d_seq_50 : decode jdk_42_method_66_code 50 = .ok (.iconst 1, 1) := by decide +kernel
theorem d_seq_51 : decode jdk_42_method_66_code 51 = .ok (.goto 4, 3) := by decide +kernel
theorem d_seq_54 : decode jdk_42_method_66_code 54 = .ok (.iconst 0, 1) := by decide +kernel
theorem d_seq_55 : decode jdk_42_method_66_code 55 = .ok (.ireturn, 1) := by decide +kernel
theorem pd_seq : parseMethodDescriptor "(Ljava/lang/Object;)Z" = some ⟨[(.object "java/lang/Object")], (some .boolean)⟩ := by decide +kernel
theorem pf_seq : plainFor (⟨"java/lang/String", "equals", "(Ljava/lang/Object;)Z"⟩ : MethodName) = true := by first | exact plainFor_of_name (by first | (simp [plainName, overriddenIn]; done) | decide +kernel) | decide +kernel
set_option maxRecDepth 65536 in
set_option maxHeartbeats 40000000 in
theorem kw_seq (l : Launch) (Z : State) (a0 : Array Value) (hw : ∀ d ∈ tables_1, d.before a0 Z = true) (cs : Int32) (hcs : ¬ cs = 0) (SC : Sta Z Z.heap "java/lang/String" "COMPACT_STRINGS" "Z" (.int cs)) (hEW : EW Z a0 EL) (a b t u : Addr) (xs ys : List Int32) (h0 : Heap) (n0 : Nat) (OD : Old Z n0 h0) (SA : Sg Z h0 a t xs) (SB : Sg Z h0 b u ys) : KW false l Z M_seq n0 (fun v h => v = some (.int (eqI xs ys)) ∧ h0 = h) ([], fun _ => False) h0 0 0 0 #[.val (.ref a), .val (.ref b), .unset] [] := by
  obtain ⟨ckA, EA, CA, VA, AA, lA⟩ := id SA
  obtain ⟨ckB, EB, CB, VB, AB, lB⟩ := id SB
  refine k_aloadN d_seq_0 rfl rfl rfl ?_
  refine k_aloadN d_seq_1 rfl rfl rfl ?_
  refine k_acmpNe (pc1 := 7) (pc' := 5) d_seq_2 rfl rfl (by decide) (by decide) rfl (fun (cd1 : ¬ (Value.ref a) = (Value.ref b)) => ?_) (fun (cd1 : (Value.ref a) = (Value.ref b)) => ?_)
  · skip
    refine k_aloadN d_seq_7 rfl rfl rfl ?_
    refine k_instY d_seq_8 rfl (hw _ (List.mem_of_getElem? (i := 62) rfl)) (Ins.self EB) ?_
    refine k_ifc (pc1 := 54) (pc' := 14) d_seq_11 (by decide) (by decide) rfl (fun (cd2 : (1 : Int32) = (0 : Int32)) => False.elim (by exact absurd cd2 (by decide))) (fun (cd2 : ¬ (1 : Int32) = (0 : Int32)) => ?_)
    refine k_aloadN d_seq_14 rfl rfl rfl ?_
    refine k_cast d_seq_15 rfl (hw _ (List.mem_of_getElem? (i := 62) rfl)) (Ins.self EB) ?_
    refine k_astoreN (Ls' := #[.val (.ref a), .val (.ref b), .val (.ref b)]) d_seq_18 rfl rfl rfl ?_
    refine k_getStatic d_seq_19 rfl (hw _ (List.mem_of_getElem? (i := 63) rfl)) (Sta.ext OD.2 SC) ?_
    refine k_ifc (pc1 := 36) (pc' := 25) d_seq_22 (by decide) (by decide) rfl (fun (cd3 : cs = (0 : Int32)) => False.elim (by exact hcs cd3)) (fun (cd3 : ¬ cs = (0 : Int32)) => ?_)
    refine k_aloadN d_seq_25 rfl rfl rfl ?_
    refine k_getField d_seq_26 rfl (hw _ (List.mem_of_getElem? (i := 25) rfl)) Via.refl CA ?_
    refine k_aloadN d_seq_29 rfl rfl rfl ?_
    refine k_getField d_seq_30 rfl (hw _ (List.mem_of_getElem? (i := 25) rfl)) Via.refl CB ?_
    refine k_icmp (pc1 := 54) (pc' := 36) d_seq_33 (by decide) (by decide) rfl (fun (cd4 : ¬ (0 : Int32) = (0 : Int32)) => False.elim (by exact absurd cd4 (by decide))) (fun (cd4 : (0 : Int32) = (0 : Int32)) => ?_)
    refine k_aloadN d_seq_36 rfl rfl rfl ?_
    refine k_getField d_seq_37 rfl (hw _ (List.mem_of_getElem? (i := 24) rfl)) Via.refl VA ?_
    refine k_aloadN d_seq_40 rfl rfl rfl ?_
    refine k_getField d_seq_41 rfl (hw _ (List.mem_of_getElem? (i := 24) rfl)) Via.refl VB ?_
    refine k_callStatic (argsL := [(.ref t), (.ref u)]) (rest := []) (W0 := 0) d_seq_44 rfl (mt_leq l Z a0 hw cs hcs SC hEW t u _ _ xs ys h0 n0 lA lB AA AB) Kp.strict (hw _ (List.mem_of_getElem? (i := 64) rfl)) (hw _ (List.mem_of_getElem? (i := 65) rfl)) (hw _ (List.mem_of_getElem? (i := 66) rfl)) (hw _ (List.mem_of_getElem? (i := 67) rfl)) (by decide) pd_leq rfl rfl rfl rfl (by decide) (by decide) (by decide) (by decide) ?_
    rintro _ _ - ⟨rfl, rfl⟩
    refine KW.any (P' := ([], fun _ => False)) ?_
    show KW false l Z M_seq n0 (fun v h => v = some (.int (eqI xs ys)) ∧ h0 = h) ([], fun _ => False) h0 0 0 47 #[.val (.ref a), .val (.ref b), .val (.ref b)] [(.int (eqI xs ys))]
    refine k_ifc (pc1 := 54) (pc' := 50) d_seq_47 (by decide) (by decide) rfl (fun (cd5 : (eqI xs ys) = (0 : Int32)) => ?_) (fun (cd5 : ¬ (eqI xs ys) = (0 : Int32)) => ?_)
    · skip
      refine k_iconst (z := (0 : Int32)) d_seq_54 rfl (by decide) ?_
      exact k_retNar d_seq_55 rfl (by simp) (z' := (0 : Int32)) (by decide) (by decide) (by decide) ⟨by first | rw [eqI_one (by assumption)] | rw [show eqI xs ys = 0 by assumption], rfl⟩
    · skip
      refine k_iconst (z := (1 : Int32)) d_seq_50 rfl (by decide) ?_
      refine k_goto (pc' := 55) d_seq_51 (by decide) (by decide) ?_
      exact k_retNar d_seq_55 rfl (by simp) (z' := (1 : Int32)) (by decide) (by decide) (by decide) ⟨by first | rw [eqI_one (by assumption)] | rw [show eqI xs ys = 0 by assumption], rfl⟩
  · skip
    refine k_iconst (z := (1 : Int32)) d_seq_5 rfl (by decide) ?_
    exact k_retNar d_seq_6 rfl (by simp) (z' := (1 : Int32)) (by decide) (by decide) (by decide) ⟨by obtain rfl := Value.ref.inj (by assumption); rw [SA.uniq SB, eqI_self], rfl⟩
theorem mt_seq (l : Launch) (Z : State) (a0 : Array Value) (hw : ∀ d ∈ tables_1, d.before a0 Z = true) (cs : Int32) (hcs : ¬ cs = 0) (SC : Sta Z Z.heap "java/lang/String" "COMPACT_STRINGS" "Z" (.int cs)) (hEW : EW Z a0 EL) (a b t u : Addr) (xs ys : List Int32) (h0 : Heap) (n0 : Nat) (OD : Old Z n0 h0) (SA : Sg Z h0 a t xs) (SB : Sg Z h0 b u ys) : Mt l Z M_seq [] n0 #[(.ref a), (.ref b)] h0 (fun v h => v = some (.int (eqI xs ys)) ∧ h0 = h) :=
  mt_of_kw (P := ([], fun _ => False)) pf_seq (fun m => by first | (simp [entryFrame, mkF, argsToLocals, Value.category]; done) | rfl) (kw_seq l Z a0 hw cs hcs SC hEW a b t u xs ys h0 n0 OD SA SB)
abbrev M_cfl : MD := ((⟨"java/lang/StringUTF16", "coderFromArrayLen", "([BI)B"⟩ : MethodName), jdk_52_method_15_code, 2, (some .byte), { frames := 0, cells := 0, slots := 0, locals := 0 })
theorem d_cfl_0 : decode jdk_52_method_15_code 0 = .ok (.iload_n 1, 1) := by decide +kernel
theorem d_cfl_1 : decode jdk_52_method_15_code 1 = .ok (.aload_n 0, 1) := by decide +kernel
theorem d_cfl_2 : decode jdk_52_method_15_code 2 = .ok (.arraylength, 1) := by decide +kernel
theorem d_cfl_3 : decode jdk_52_method_15_code 3 = .ok (.isub, 1) := by decide +kernel
theorem d_cfl_4 : decode jdk_52_method_15_code 4 = .ok (.bipush 31, 2) := by decide +kernel
theorem d_cfl_6 : decode jdk_52_method_15_code 6 = .ok (.iushr, 1) := by decide +kernel
theorem d_cfl_7 : decode jdk_52_method_15_code 7 = .ok (.i2b, 1) := by decide +kernel
theorem d_cfl_8 : decode jdk_52_method_15_code 8 = .ok (.ireturn, 1) := by decide +kernel
theorem pd_cfl : parseMethodDescriptor "([BI)B" = some ⟨[(.array .byte), .int], (some .byte)⟩ := by decide +kernel
theorem pf_cfl : plainFor (⟨"java/lang/StringUTF16", "coderFromArrayLen", "([BI)B"⟩ : MethodName) = true := by first | exact plainFor_of_name (by first | (simp [plainName, overriddenIn]; done) | decide +kernel) | decide +kernel
set_option maxRecDepth 65536 in
set_option maxHeartbeats 40000000 in
theorem kw_cfl (l : Launch) (Z : State) (a0 : Array Value) (hw : ∀ d ∈ tables_1, d.before a0 Z = true) (cs : Int32) (hcs : ¬ cs = 0) (SC : Sta Z Z.heap "java/lang/String" "COMPACT_STRINGS" "Z" (.int cs)) (hEW : EW Z a0 EL) (t : Addr) (ck : ClassId) (z : Int32) (vs : List Value) (dv : Value) (h0 : Heap) (n0 : Nat) (A : Arv Z h0 t ck .byte z vs dv) : KW false l Z M_cfl n0 (fun v h => v = some (.int 0) ∧ h0 = h) ([], fun _ => False) h0 0 0 0 #[.val (.ref t), .val (.int z)] [] := by
  refine k_iloadN d_cfl_0 rfl rfl ?_
  refine k_aloadN d_cfl_1 rfl rfl rfl ?_
  refine k_arrlen d_cfl_2 rfl A ?_
  refine k_isub d_cfl_3 rfl ?_
  refine k_bipush (z := (31 : Int32)) d_cfl_4 rfl (by decide) ?_
  refine k_iushr d_cfl_6 rfl ?_
  refine k_i2b d_cfl_7 rfl ?_
  exact k_retNar d_cfl_8 rfl (by simp) (z' := (0 : Int32)) (by rw [Int32.sub_self]; decide) (by decide) (by decide) ⟨rfl, rfl⟩
theorem mt_cfl (l : Launch) (Z : State) (a0 : Array Value) (hw : ∀ d ∈ tables_1, d.before a0 Z = true) (cs : Int32) (hcs : ¬ cs = 0) (SC : Sta Z Z.heap "java/lang/String" "COMPACT_STRINGS" "Z" (.int cs)) (hEW : EW Z a0 EL) (t : Addr) (ck : ClassId) (z : Int32) (vs : List Value) (dv : Value) (h0 : Heap) (n0 : Nat) (A : Arv Z h0 t ck .byte z vs dv) : Mt l Z M_cfl [] n0 #[(.ref t), (.int z)] h0 (fun v h => v = some (.int 0) ∧ h0 = h) :=
  mt_of_kw (P := ([], fun _ => False)) pf_cfl (fun m => by first | (simp [entryFrame, mkF, argsToLocals, Value.category]; done) | rfl) (kw_cfl l Z a0 hw cs hcs SC hEW t ck z vs dv h0 n0 A)
abbrev M_cmp : MD := ((⟨"java/lang/StringUTF16", "compress", "([CI[BII)I"⟩ : MethodName), jdk_52_method_21_code, 7, (some .int), { frames := 0, cells := 0, slots := 0, locals := 0 })
theorem d_cmp_0 : decode jdk_52_method_21_code 0 = .ok (.iconst 0, 1) := by decide +kernel
theorem d_cmp_1 : decode jdk_52_method_21_code 1 = .ok (.istore 5, 2) := by decide +kernel
theorem d_cmp_3 : decode jdk_52_method_21_code 3 = .ok (.iload 5, 2) := by decide +kernel
theorem d_cmp_5 : decode jdk_52_method_21_code 5 = .ok (.iload 4, 2) := by decide +kernel
theorem d_cmp_7 : decode jdk_52_method_21_code 7 = .ok (.if_icmp .ge 37, 3) := by decide +kernel
theorem d_cmp_10 : decode jdk_52_method_21_code 10 = .ok (.aload_n 0, 1) := by decide +kernel
theorem d_cmp_11 : decode jdk_52_method_21_code 11 = .ok (.iload_n 1, 1) := by decide +kernel
theorem d_cmp_12 : decode jdk_52_method_21_code 12 = .ok (.caload, 1) := by decide +kernel
theorem d_cmp_13 : decode jdk_52_method_21_code 13 = .ok (.istore 6, 2) := by decide +kernel
theorem d_cmp_15 : decode jdk_52_method_21_code 15 = .ok (.iload 6, 2) := by decide +kernel
theorem d_cmp_17 : decode jdk_52_method_21_code 17 = .ok (.sipush 255, 3) := by decide +kernel
theorem d_cmp_20 : decode jdk_52_method_21_code 20 = .ok (.if_icmp .le 6, 3) := by decide +kernel
theorem d_cmp_23 : decode jdk_52_method_21_code 23 = .ok (.iload 5, 2) := by decide +kernel
theorem d_cmp_25 : decode jdk_52_method_21_code 25 = .ok (.ireturn, 1) := by decide +kernel
theorem d_cmp_26 : decode jdk_52_method_21_code 26 = .ok (.aload_n 2, 1) := by decide +kernel
theorem d_cmp_27 : decode jdk_52_method_21_code 27 = .ok (.iload_n 3, 1) := by decide +kernel
theorem d_cmp_28 : decode jdk_52_method_21_code 28 = .ok (.iload 6, 2) := by decide +kernel
theorem d_cmp_30 : decode jdk_52_method_21_code 30 = .ok (.i2b, 1) := by decide +kernel
theorem d_cmp_31 : decode jdk_52_method_21_code 31 = .ok (.bastore, 1) := by decide +kernel
theorem d_cmp_32 : decode jdk_52_method_21_code 32 = .ok (.iinc 1 1, 3) := by decide +kernel
theorem d_cmp_35 : decode jdk_52_method_21_code 35 = .ok (.iinc 3 1, 3) := by decide +kernel
theorem d_cmp_38 : decode jdk_52_method_21_code 38 = .ok (.iinc 5 1, 3) := by decide +kernel
theorem d_cmp_41 : decode jdk_52_method_21_code 41 = .ok (.goto (-38), 3) := by decide +kernel
theorem d_cmp_44 : decode jdk_52_method_21_code 44 = .ok (.iload 4, 2) := by decide +kernel
theorem d_cmp_46 : decode jdk_52_method_21_code 46 = .ok (.ireturn, 1) := by decide +kernel
theorem pd_cmp : parseMethodDescriptor "([CI[BII)I" = some ⟨[(.array .char), .int, (.array .byte), .int, .int], (some .int)⟩ := by decide +kernel
theorem pf_cmp : plainFor (⟨"java/lang/StringUTF16", "compress", "([CI[BII)I"⟩ : MethodName) = true := by first | exact plainFor_of_name (by first | (simp [plainName, overriddenIn]; done) | decide +kernel) | decide +kernel
theorem own_255 {q : Int32} (h : 0 ≤ q.toInt ∧ q.toInt < 256) (k : (255 : Int32) < q) : False := by
  rw [Int32.lt_iff_toInt_lt, show (255 : Int32).toInt = 255 from rfl] at k; omega
set_option maxRecDepth 65536 in
set_option maxHeartbeats 40000000 in
theorem kw_cmpL (l : Launch) (Z : State) (a0 : Array Value) (hw : ∀ d ∈ tables_1, d.before a0 Z = true) (cs : Int32) (hcs : ¬ cs = 0) (SC : Sta Z Z.heap "java/lang/String" "COMPACT_STRINGS" "Z" (.int cs)) (hEW : EW Z a0 EL) (c d : Addr) (ck ck' : ClassId) (xs : List Int32) (h0 : Heap) (n0 : Nat) (hx : xs.length < 2147483648) (hL : Latin xs) (hne : c ≠ d) (hd : n0 ≤ d) : ∀ (rs ps : List Int32) (X6 : Slot) (h : Heap), (X6 = .unset ∨ ∃ q, X6 = .val (.int q)) → xs = ps ++ rs → Arv Z h c ck .char (Int32.ofNat xs.length) (xs.map Value.int) (.int 0) → Arv Z h d ck' .byte (Int32.ofNat xs.length) ((ps.map nbI).map Value.int ++ List.replicate rs.length (Value.int 0)) (.int 0) → Keep h0 h [d] → KW false l Z M_cmp n0 (fun v h => v = some (.int (Int32.ofNat xs.length)) ∧ Keep h0 h [d] ∧ Arv Z h d ck' .byte (Int32.ofNat xs.length) ((xs.map nbI).map Value.int) (.int 0)) ([], fun _ => False) h 0 0 3 #[.val (.ref c), .val (.int (Int32.ofNat ps.length)), .val (.ref d), .val (.int (Int32.ofNat ps.length)), .val (.int (Int32.ofNat xs.length)), .val (.int (Int32.ofNat ps.length)), X6] [] := by
  intro rs
  induction rs with
  | nil =>
      intro ps X6 h hX e C D K
      refine k_iload d_cmp_3 rfl rfl ?_
      refine k_iload d_cmp_5 rfl rfl ?_
      refine k_icmp (pc1 := 44) (pc' := 10) d_cmp_7 (by decide) (by decide) rfl (fun (cd1 : ¬ (Int32.ofNat ps.length) < (Int32.ofNat xs.length)) => ?_) (fun (cd1 : (Int32.ofNat ps.length) < (Int32.ofNat xs.length)) => False.elim (by rw [e, List.append_nil] at cd1; exact ix_irr cd1))
      refine k_iload d_cmp_44 rfl rfl ?_
      exact k_retInt d_cmp_46 rfl (by decide) (by decide) ⟨rfl, K, by rw [List.append_nil] at e; subst e; simpa using D⟩
  | cons q rs ih =>
      intro ps X6 h hX e C D K
      have LT : ps.length < xs.length := by rw [e, List.length_append, List.length_cons]; omega
      refine k_iload d_cmp_3 rfl rfl ?_
      refine k_iload d_cmp_5 rfl rfl ?_
      refine k_icmp (pc1 := 44) (pc' := 10) d_cmp_7 (by decide) (by decide) rfl (fun (cd2 : ¬ (Int32.ofNat ps.length) < (Int32.ofNat xs.length)) => absurd (by exact ix_lt hx LT) cd2) (fun (cd2 : (Int32.ofNat ps.length) < (Int32.ofNat xs.length)) => ?_)
      refine k_aloadN d_cmp_10 rfl rfl rfl ?_
      refine k_iloadN d_cmp_11 rfl rfl ?_
      refine k_caload (v := (.int q)) d_cmp_12 rfl C (ix_inb hx LT) (by rw [ix_nat (Nat.lt_trans LT hx), e]; exact get_mid _ _ _ _ _ rfl) ?_
      refine k_istore (Ls' := #[.val (.ref c), .val (.int (Int32.ofNat ps.length)), .val (.ref d), .val (.int (Int32.ofNat ps.length)), .val (.int (Int32.ofNat xs.length)), .val (.int (Int32.ofNat ps.length)), .val (.int q)]) d_cmp_13 rfl (by rcases hX with rfl | ⟨_, rfl⟩ <;> rfl) ?_
      refine k_iload d_cmp_15 rfl rfl ?_
      refine k_sipush (z := (255 : Int32)) d_cmp_17 rfl (by decide) ?_
      refine k_icmp (pc1 := 26) (pc' := 23) d_cmp_20 (by decide) (by decide) rfl (fun (cd3 : ¬ (255 : Int32) < q) => ?_) (fun (cd3 : (255 : Int32) < q) => False.elim (by exact own_255 (hL q (by rw [e]; simp)) cd3))
      refine k_aloadN d_cmp_26 rfl rfl rfl ?_
      refine k_iloadN d_cmp_27 rfl rfl ?_
      refine k_iload d_cmp_28 rfl rfl ?_
      refine k_i2b d_cmp_30 rfl ?_
      refine k_bastore (i := ps.length) d_cmp_31 rfl D (ix_inb hx LT) (ix_nat (Nat.lt_trans LT hx)) (by simp) hd (fun q => by cases q) ?_
      intro h2 W V2
      rw [show List.replicate (q :: rs).length (Value.int 0) = Value.int 0 :: List.replicate rs.length (Value.int 0) from rfl, set_mid _ _ _ _ (by simp)] at V2
      have C2 := C.other W hne
      show KW false l Z M_cmp n0 (fun v h => v = some (.int (Int32.ofNat xs.length)) ∧ Keep h0 h [d] ∧ Arv Z h d ck' .byte (Int32.ofNat xs.length) ((xs.map nbI).map Value.int) (.int 0)) ([], fun _ => False) h2 0 0 32 #[.val (.ref c), .val (.int (Int32.ofNat ps.length)), .val (.ref d), .val (.int (Int32.ofNat ps.length)), .val (.int (Int32.ofNat xs.length)), .val (.int (Int32.ofNat ps.length)), .val (.int q)] []
      refine k_iinc (z := (1 : Int32)) (Ls' := #[.val (.ref c), .val (.int ((Int32.ofNat ps.length) + (1 : Int32))), .val (.ref d), .val (.int (Int32.ofNat ps.length)), .val (.int (Int32.ofNat xs.length)), .val (.int (Int32.ofNat ps.length)), .val (.int q)]) d_cmp_32 rfl (by decide) rfl rfl ?_
      refine k_iinc (z := (1 : Int32)) (Ls' := #[.val (.ref c), .val (.int ((Int32.ofNat ps.length) + (1 : Int32))), .val (.ref d), .val (.int ((Int32.ofNat ps.length) + (1 : Int32))), .val (.int (Int32.ofNat xs.length)), .val (.int (Int32.ofNat ps.length)), .val (.int q)]) d_cmp_35 rfl (by decide) rfl rfl ?_
      refine k_iinc (z := (1 : Int32)) (Ls' := #[.val (.ref c), .val (.int ((Int32.ofNat ps.length) + (1 : Int32))), .val (.ref d), .val (.int ((Int32.ofNat ps.length) + (1 : Int32))), .val (.int (Int32.ofNat xs.length)), .val (.int ((Int32.ofNat ps.length) + (1 : Int32))), .val (.int q)]) d_cmp_38 rfl (by decide) rfl rfl ?_
      refine k_goto (pc' := 3) d_cmp_41 (by decide) (by decide) ?_
      have J := ih (ps ++ [q]) (.val (.int q)) h2 (Or.inr ⟨_, rfl⟩) (by rw [e]; simp) C2 (by simpa using V2) (K.wr W (Or.inl (by simp)))
      rw [show (ps ++ [q]).length = ps.length + 1 by simp, ← ix_succ] at J
      exact J
set_option maxRecDepth 65536 in
set_option maxHeartbeats 40000000 in
theorem kw_cmp (l : Launch) (Z : State) (a0 : Array Value) (hw : ∀ d ∈ tables_1, d.before a0 Z = true) (cs : Int32) (hcs : ¬ cs = 0) (SC : Sta Z Z.heap "java/lang/String" "COMPACT_STRINGS" "Z" (.int cs)) (hEW : EW Z a0 EL) (c d : Addr) (ck ck' : ClassId) (xs : List Int32) (h0 : Heap) (n0 : Nat) (hx : xs.length < 2147483648) (hL : Latin xs) (hne : c ≠ d) (hd : n0 ≤ d) (C : Arv Z h0 c ck .char (Int32.ofNat xs.length) (xs.map Value.int) (.int 0)) (D : Arv Z h0 d ck' .byte (Int32.ofNat xs.length) [] (.int 0)) : KW false l Z M_cmp n0 (fun v h => v = some (.int (Int32.ofNat xs.length)) ∧ Keep h0 h [d] ∧ Arv Z h d ck' .byte (Int32.ofNat xs.length) ((xs.map nbI).map Value.int) (.int 0)) ([], fun _ => False) h0 0 0 0 #[.val (.ref c), .val (.int (0 : Int32)), .val (.ref d), .val (.int (0 : Int32)), .val (.int (Int32.ofNat xs.length)), .unset, .unset] [] := by
  refine k_iconst (z := (0 : Int32)) d_cmp_0 rfl (by decide) ?_
  refine k_istore (Ls' := #[.val (.ref c), .val (.int (0 : Int32)), .val (.ref d), .val (.int (0 : Int32)), .val (.int (Int32.ofNat xs.length)), .val (.int (0 : Int32)), .unset]) d_cmp_1 rfl rfl ?_
  exact kw_cmpL l Z a0 hw cs hcs SC hEW c d ck ck' xs h0 n0 hx hL hne hd xs [] _ h0 (Or.inl rfl) rfl C (Arv.pad D (pad_rep [] _ _)) (Keep.refl _ _)
theorem mt_cmp (l : Launch) (Z : State) (a0 : Array Value) (hw : ∀ d ∈ tables_1, d.before a0 Z = true) (cs : Int32) (hcs : ¬ cs = 0) (SC : Sta Z Z.heap "java/lang/String" "COMPACT_STRINGS" "Z" (.int cs)) (hEW : EW Z a0 EL) (c d : Addr) (ck ck' : ClassId) (xs : List Int32) (h0 : Heap) (n0 : Nat) (hx : xs.length < 2147483648) (hL : Latin xs) (hne : c ≠ d) (hd : n0 ≤ d) (C : Arv Z h0 c ck .char (Int32.ofNat xs.length) (xs.map Value.int) (.int 0)) (D : Arv Z h0 d ck' .byte (Int32.ofNat xs.length) [] (.int 0)) : Mt l Z M_cmp [] n0 #[(.ref c), (.int (0 : Int32)), (.ref d), (.int (0 : Int32)), (.int (Int32.ofNat xs.length))] h0 (fun v h => v = some (.int (Int32.ofNat xs.length)) ∧ Keep h0 h [d] ∧ Arv Z h d ck' .byte (Int32.ofNat xs.length) ((xs.map nbI).map Value.int) (.int 0)) :=
  mt_of_kw (P := ([], fun _ => False)) pf_cmp (fun m => by first | (simp [entryFrame, mkF, argsToLocals, Value.category]; done) | rfl) (kw_cmp l Z a0 hw cs hcs SC hEW c d ck ck' xs h0 n0 hx hL hne hd C D)
abbrev M_cp : MD := ((⟨"java/lang/StringUTF16", "compress", "([CII)[B"⟩ : MethodName), jdk_52_method_16_code, 6, (some (.array .byte)), { frames := 1, cells := 1, slots := 2, locals := 24 })
theorem d_cp_0 : decode jdk_52_method_16_code 0 = .ok (.iload_n 2, 1) := by decide +kernel
theorem d_cp_1 : decode jdk_52_method_16_code 1 = .ok (.newarray .byte, 2) := by decide +kernel
theorem d_cp_3 : decode jdk_52_method_16_code 3 = .ok (.astore_n 3, 1) := by decide +kernel
theorem d_cp_4 : decode jdk_52_method_16_code 4 = .ok (.aload_n 0, 1) := by decide +kernel
theorem d_cp_5 : decode jdk_52_method_16_code 5 = .ok (.iload_n 1, 1) := by decide +kernel
theorem d_cp_6 : decode jdk_52_method_16_code 6 = .ok (.aload_n 3, 1) := by decide +kernel
theorem d_cp_7 : decode jdk_52_method_16_code 7 = .ok (.iconst 0, 1) := by decide +kernel
theorem d_cp_8 : decode jdk_52_method_16_code 8 = .ok (.iload_n 2, 1) := by decide +kernel
theorem d_cp_9 : decode jdk_52_method_16_code 9 = .ok (.invokestatic 115, 3) := by decide +kernel
theorem d_cp_12 : decode jdk_52_method_16_code 12 = .ok (.istore 4, 2) := by decide +kernel
theorem d_cp_14 : decode jdk_52_method_16_code 14 = .ok (.iload 4, 2) := by decide +kernel
theorem d_cp_16 : decode jdk_52_method_16_code 16 = .ok (.iload_n 2, 1) := by decide +kernel
theorem d_cp_17 : decode jdk_52_method_16_code 17 = .ok (.if_icmp .eq 40, 3) := by decide +kernel
theorem d_cp_20 : decode jdk_52_method_16_code 20 = .ok (.aload_n 0, 1) := by decide +kernel
theorem d_cp_21 : decode jdk_52_method_16_code 21 = .ok (.iload_n 1, 1) := by decide +kernel
theorem d_cp_22 : decode jdk_52_method_16_code 22 = .ok (.iload_n 2, 1) := by decide +kernel
theorem d_cp_23 : decode jdk_52_method_16_code 23 = .ok (.invokestatic 119, 3) := by decide +kernel
theorem d_cp_26 : decode jdk_52_method_16_code 26 = .ok (.astore 5, 2) := by decide +kernel
theorem d_cp_28 : decode jdk_52_method_16_code 28 = .ok (.aload 5, 2) := by decide +kernel
theorem d_cp_30 : decode jdk_52_method_16_code 30 = .ok (.iload 4, 2) := by decide +kernel
theorem d_cp_32 : decode jdk_52_method_16_code 32 = .ok (.invokestatic 71, 3) := by decide +kernel
theorem d_cp_35 : decode jdk_52_method_16_code 35 = .ok (.sipush 255, 3) := by decide +kernel
theorem d_cp_38 : decode jdk_52_method_16_code 38 = .ok (.if_icmp .gt 16, 3) := by decide +kernel
theorem d_cp_41 : decode jdk_52_method_16_code 41 = .ok (.aload 5, 2) := by decide +kernel
theorem d_cp_43 : decode jdk_52_method_16_code 43 = .ok (.iconst 0, 1) := by decide +kernel
theorem d_cp_44 : decode jdk_52_method_16_code 44 = .ok (.aload_n 3, 1) := by decide +kernel
theorem d_cp_45 : decode jdk_52_method_16_code 45 = .ok (.iconst 0, 1) := by decide +kernel
theorem d_cp_46 : decode jdk_52_method_16_code 46 = .ok (.iload_n 2, 1) := by decide +kernel
theorem d_cp_47 : decode jdk_52_method_16_code 47 = .ok (.invokestatic 123, 3) := by decide +kernel
theorem d_cp_50 : decode jdk_52_method_16_code 50 = .ok (.iload_n 2, 1) := by decide +kernel
theorem d_cp_51 : decode jdk_52_method_16_code 51 = .ok (.if_icmp .eq 6, 3) := by decide +kernel
theorem d_cp_54 : decode jdk_52_method_16_code 54 = .ok (.aload 5, 2) := by decide +kernel
theorem d_cp_56 : decode jdk_52_method_16_code 56 = .ok (.areturn, 1) := by decide +kernel
theorem d_cp_57 : decode jdk_52_method_16_code 57 = .ok (.aload_n 3, 1) := by decide +kernel
theorem d_cp_58 : decode jdk_52_method_16_code 58 = .ok (.areturn, 1) := by decide +kernel
theorem pd_cp : parseMethodDescriptor "([CII)[B" = some ⟨[(.array .char), .int, .int], (some (.array .byte))⟩ := by decide +kernel
theorem pf_cp : plainFor (⟨"java/lang/StringUTF16", "compress", "([CII)[B"⟩ : MethodName) = true := by first | exact plainFor_of_name (by first | (simp [plainName, overriddenIn]; done) | decide +kernel) | decide +kernel
set_option maxRecDepth 65536 in
set_option maxHeartbeats 40000000 in
theorem kw_cp (l : Launch) (Z : State) (a0 : Array Value) (hw : ∀ d ∈ tables_1, d.before a0 Z = true) (cs : Int32) (hcs : ¬ cs = 0) (SC : Sta Z Z.heap "java/lang/String" "COMPACT_STRINGS" "Z" (.int cs)) (hEW : EW Z a0 EL) (c : Addr) (ck : ClassId) (xs : List Int32) (h0 : Heap) (n0 : Nat) (hx : xs.length ≤ 2) (hL : Latin xs) (OD : Old Z n0 h0) (C : Arv Z h0 c ck .char (Int32.ofNat xs.length) (xs.map Value.int) (.int 0)) : KW false l Z M_cp n0 (fun v h => ∃ d ck', v = some (.ref d) ∧ h0.size ≤ d ∧ n0 ≤ d ∧ Keep h0 h [] ∧ Arv Z h d ck' .byte (Int32.ofNat xs.length) ((xs.map nbI).map Value.int) (.int 0)) ([], fun _ => False) h0 0 0 0 #[.val (.ref c), .val (.int (0 : Int32)), .val (.int (Int32.ofNat xs.length)), .unset, .unset, .unset] [] := by
  have Z0 := OD.1 ▸ OD.2.1
  refine k_iloadN d_cp_0 rfl rfl ?_
  refine k_newarr (cap := 2) d_cp_1 rfl (hw _ (List.mem_of_getElem? (i := 19) rfl)) (ix_nn (by omega)) (by rw [ix_nat (by omega)]; exact hx) (by decide) (by decide) (by decide) ?_
  intro h2 a1 ck6 g5 E3 V4
  have ne7 : c ≠ a1 := Nat.ne_of_lt (Nat.lt_of_lt_of_eq C.lt g5.symm)
  have z9 : n0 ≤ h0.size := Z0
  have ge8 : n0 ≤ a1 := Nat.le_trans z9 (Nat.le_of_eq g5.symm)
  have gl10 : h0.size ≤ a1 := Nat.le_of_eq g5.symm
  refine KW.any (P' := ([], fun _ => False)) ?_
  show KW false l Z M_cp n0 (fun v h => ∃ d ck', v = some (.ref d) ∧ h0.size ≤ d ∧ n0 ≤ d ∧ Keep h0 h [] ∧ Arv Z h d ck' .byte (Int32.ofNat xs.length) ((xs.map nbI).map Value.int) (.int 0)) ([], fun _ => False) h2 1 2 3 #[.val (.ref c), .val (.int (0 : Int32)), .val (.int (Int32.ofNat xs.length)), .unset, .unset, .unset] [(.ref a1)]
  refine k_astoreN (Ls' := #[.val (.ref c), .val (.int (0 : Int32)), .val (.int (Int32.ofNat xs.length)), .val (.ref a1), .unset, .unset]) d_cp_3 rfl rfl rfl ?_
  refine k_aloadN d_cp_4 rfl rfl rfl ?_
  refine k_iloadN d_cp_5 rfl rfl ?_
  refine k_aloadN d_cp_6 rfl rfl rfl ?_
  refine k_iconst (z := (0 : Int32)) d_cp_7 rfl (by decide) ?_
  refine k_iloadN d_cp_8 rfl rfl ?_
  have f11 := (C.ext E3)
  refine k_callStatic (argsL := [(.ref c), (.int (0 : Int32)), (.ref a1), (.int (0 : Int32)), (.int (Int32.ofNat xs.length))]) (rest := []) (W0 := 0) d_cp_9 rfl (mt_cmp l Z a0 hw cs hcs SC hEW c a1 _ _ xs h2 n0 (by omega) hL ne7 ge8 f11 V4) Kp.strict (hw _ (List.mem_of_getElem? (i := 86) rfl)) (hw _ (List.mem_of_getElem? (i := 87) rfl)) (hw _ (List.mem_of_getElem? (i := 84) rfl)) (hw _ (List.mem_of_getElem? (i := 88) rfl)) (by decide) pd_cmp rfl rfl rfl rfl (by decide) (by decide) (by decide) (by decide) ?_
  rintro _ hN - ⟨rfl, KN, DN⟩
  refine KW.any (P' := ([], fun _ => False)) ?_
  show KW false l Z M_cp n0 (fun v h => ∃ d ck', v = some (.ref d) ∧ h0.size ≤ d ∧ n0 ≤ d ∧ Keep h0 h [] ∧ Arv Z h d ck' .byte (Int32.ofNat xs.length) ((xs.map nbI).map Value.int) (.int 0)) ([], fun _ => False) hN 1 2 12 #[.val (.ref c), .val (.int (0 : Int32)), .val (.int (Int32.ofNat xs.length)), .val (.ref a1), .unset, .unset] [(.int (Int32.ofNat xs.length))]
  refine k_istore (Ls' := #[.val (.ref c), .val (.int (0 : Int32)), .val (.int (Int32.ofNat xs.length)), .val (.ref a1), .val (.int (Int32.ofNat xs.length)), .unset]) d_cp_12 rfl rfl ?_
  refine k_iload d_cp_14 rfl rfl ?_
  refine k_iloadN d_cp_16 rfl rfl ?_
  refine k_icmp (pc1 := 57) (pc' := 20) d_cp_17 (by decide) (by decide) rfl (fun (cd1 : (Int32.ofNat xs.length) = (Int32.ofNat xs.length)) => ?_) (fun (cd1 : ¬ (Int32.ofNat xs.length) = (Int32.ofNat xs.length)) => False.elim (by exact cd1 rfl))
  refine k_aloadN d_cp_57 rfl rfl rfl ?_
  exact k_retRef d_cp_58 rfl rfl rfl (by decide) (by decide) ⟨a1, _, rfl, gl10, ge8, (Keep.ext (Keep.refl _ _) E3).trans KN (allS (Or.inr gl10) all0), DN⟩
theorem mt_cp (l : Launch) (Z : State) (a0 : Array Value) (hw : ∀ d ∈ tables_1, d.before a0 Z = true) (cs : Int32) (hcs : ¬ cs = 0) (SC : Sta Z Z.heap "java/lang/String" "COMPACT_STRINGS" "Z" (.int cs)) (hEW : EW Z a0 EL) (c : Addr) (ck : ClassId) (xs : List Int32) (h0 : Heap) (n0 : Nat) (hx : xs.length ≤ 2) (hL : Latin xs) (OD : Old Z n0 h0) (C : Arv Z h0 c ck .char (Int32.ofNat xs.length) (xs.map Value.int) (.int 0)) : Mt l Z M_cp [] n0 #[(.ref c), (.int (0 : Int32)), (.int (Int32.ofNat xs.length))] h0 (fun v h => ∃ d ck', v = some (.ref d) ∧ h0.size ≤ d ∧ n0 ≤ d ∧ Keep h0 h [] ∧ Arv Z h d ck' .byte (Int32.ofNat xs.length) ((xs.map nbI).map Value.int) (.int 0)) :=
  mt_of_kw (P := ([], fun _ => False)) pf_cp (fun m => by first | (simp [entryFrame, mkF, argsToLocals, Value.category]; done) | rfl) (kw_cp l Z a0 hw cs hcs SC hEW c ck xs h0 n0 hx hL OD C)
abbrev M_si : MD := ((⟨"java/lang/String", "<init>", "([CIILjava/lang/Void;)V"⟩ : MethodName), jdk_42_method_149_code, 6, none, { frames := 2, cells := 4, slots := 8, locals := 48 })
theorem d_si_0 : decode jdk_42_method_149_code 0 = .ok (.aload_n 0, 1) := by decide +kernel
theorem d_si_1 : decode jdk_42_method_149_code 1 = .ok (.invokespecial 1, 3) := by decide +kernel
theorem d_si_4 : decode jdk_42_method_149_code 4 = .ok (.iload_n 3, 1) := by decide +kernel
theorem d_si_5 : decode jdk_42_method_149_code 5 = .ok (.ifCond .ne 22, 3) := by decide +kernel
theorem d_si_8 : decode jdk_42_method_149_code 8 = .ok (.aload_n 0, 1) := by decide +kernel
theorem d_si_9 : decode jdk_42_method_149_code 9 = .ok (.ldc 7, 2) := by decide +kernel
theorem d_si_11 : decode jdk_42_method_149_code 11 = .ok (.getfield 9, 3) := by decide +kernel
theorem d_si_14 : decode jdk_42_method_149_code 14 = .ok (.putfield 9, 3) := by decide +kernel
theorem d_si_17 : decode jdk_42_method_149_code 17 = .ok (.aload_n 0, 1) := by decide +kernel
theorem d_si_18 : decode jdk_42_method_149_code 18 = .ok (.ldc 7, 2) := by decide +kernel
theorem d_si_20 : decode jdk_42_method_149_code 20 = .ok (.getfield 15, 3) := by decide +kernel
theorem d_si_23 : decode jdk_42_method_149_code 23 = .ok (.putfield 15, 3) := by decide +kernel
theorem d_si_26 : decode jdk_42_method_149_code 26 = .ok (.return_, 1) := by decide +kernel
theorem d_si_27 : decode jdk_42_method_149_code 27 = .ok (.getstatic 38, 3) := by decide +kernel
theorem d_si_30 : decode jdk_42_method_149_code 30 = .ok (.ifCond .eq 28, 3) := by decide +kernel
theorem d_si_33 : decode jdk_42_method_149_code 33 = .ok (.aload_n 1, 1) := by decide +kernel
theorem d_si_34 : decode jdk_42_method_149_code 34 = .ok (.iload_n 2, 1) := by decide +kernel
theorem d_si_35 : decode jdk_42_method_149_code 35 = .ok (.iload_n 3, 1) := by decide +kernel
theorem d_si_36 : decode jdk_42_method_149_code 36 = .ok (.invokestatic 177, 3) := by decide +kernel
theorem d_si_39 : decode jdk_42_method_149_code 39 = .ok (.astore 5, 2) := by decide +kernel
theorem d_si_41 : decode jdk_42_method_149_code 41 = .ok (.aload_n 0, 1) := by decide +kernel
theorem d_si_42 : decode jdk_42_method_149_code 42 = .ok (.aload 5, 2) := by decide +kernel
theorem d_si_44 : decode jdk_42_method_149_code 44 = .ok (.iload_n 3, 1) := by decide +kernel
theorem d_si_45 : decode jdk_42_method_149_code 45 = .ok (.invokestatic 47, 3) := by decide +kernel
theorem d_si_48 : decode jdk_42_method_149_code 48 = .ok (.putfield 15, 3) := by decide +kernel
theorem d_si_51 : decode jdk_42_method_149_code 51 = .ok (.aload_n 0, 1) := by decide +kernel
theorem d_si_52 : decode jdk_42_method_149_code 52 = .ok (.aload 5, 2) := by decide +kernel
theorem d_si_54 : decode jdk_42_method_149_code 54 = .ok (.putfield 9, 3) := by decide +kernel
theorem d_si_57 : decode jdk_42_method_149_code 57 = .ok (.return_, 1) := by decide +kernel
theorem d_si_58 : decode jdk_42_method_149_code 58 = .ok (.aload_n 0, 1) := by decide +kernel
theorem d_si_59 : decode jdk_42_method_149_code 59 = .ok (.iconst 1, 1) := by decide +kernel
theorem d_si_60 : decode jdk_42_method_149_code 60 = .ok (.putfield 15, 3) := by decide +kernel
theorem d_si_63 : decode jdk_42_method_149_code 63 = .ok (.aload_n 0, 1) := by decide +kernel
theorem d_si_64 : decode jdk_42_method_149_code 64 = .ok (.aload_n 1, 1) := by decide +kernel
theorem d_si_65 : decode jdk_42_method_149_code 65 = .ok (.iload_n 2, 1) := by decide +kernel
theorem d_si_66 : decode jdk_42_method_149_code 66 = .ok (.iload_n 3, 1) := by decide +kernel
theorem d_si_67 : decode jdk_42_method_149_code 67 = .ok (.invokestatic 180, 3) := by decide +kernel
theorem d_si_70 : decode jdk_42_method_149_code 70 = .ok (.putfield 9, 3) := by decide +kernel
theorem d_si_73 : decode jdk_42_method_149_code 73 = .ok (.return_, 1) := by decide +kernel
theorem pd_si : parseMethodDescriptor "([CIILjava/lang/Void;)V" = some ⟨[(.array .char), .int, .int, (.object "java/lang/Void")], none⟩ := by decide +kernel
theorem pf_si : plainFor (⟨"java/lang/String", "<init>", "([CIILjava/lang/Void;)V"⟩ : MethodName) = true := by first | exact plainFor_of_name (by first | (simp [plainName, overriddenIn]; done) | decide +kernel) | decide +kernel
set_option maxRecDepth 65536 in
set_option maxHeartbeats 40000000 in
theorem kw_si0 (l : Launch) (Z : State) (a0 : Array Value) (hw : ∀ d ∈ tables_1, d.before a0 Z = true) (cs : Int32) (hcs : ¬ cs = 0) (SC : Sta Z Z.heap "java/lang/String" "COMPACT_STRINGS" "Z" (.int cs)) (hEW : EW Z a0 EL) (a c : Addr) (h0 : Heap) (n0 : Nat) (OD : Old Z n0 h0) (EA : Exa Z h0 a "java/lang/String") (FC : Fld Z h0 a "java/lang/String" "coder" "B" (.int 0)) (FV : Fld Z h0 a "java/lang/String" "value" "[B" .null) (ga : n0 ≤ a) : KW true l Z M_si n0 (fun v h => v = none ∧ ∃ t, Sg Z h a t [] ∧ Keep h0 h [a]) (EL, fun x => x = a) h0 0 0 0 #[.val (.ref a), .val (.ref c), .val (.int (0 : Int32)), .val (.int (0 : Int32)), .val .null, .unset] [] := by
  have K0 : Keep h0 h0 [a] := Keep.refl _ _
  refine k_aloadN d_si_0 rfl rfl rfl ?_
  refine k_initObj (W0 := 0) d_si_1 rfl (hw _ (List.mem_of_getElem? (i := 15) rfl)) (hw _ (List.mem_of_getElem? (i := 16) rfl)) (hw _ (List.mem_of_getElem? (i := 17) rfl)) rfl rfl (by decide) (by decide) ?_
  refine k_iloadN d_si_4 rfl rfl ?_
  refine k_ifc (pc1 := 27) (pc' := 8) d_si_5 (by decide) (by decide) rfl (fun (cd1 : ¬ (0 : Int32) = (0 : Int32)) => False.elim (by exact absurd cd1 (by decide))) (fun (cd1 : (0 : Int32) = (0 : Int32)) => ?_)
  refine k_aloadN d_si_8 rfl rfl rfl ?_
  refine k_ldcS (sl := 0) (vs := []) (z := (0 : Int32)) d_si_9 rfl (hw _ (List.mem_of_getElem? (i := 18) rfl)) (own_wS Z a0 hw) (List.mem_of_getElem? (i := 1) rfl) ⟨by decide, by decide⟩ (by decide) (by decide) (by decide) (by decide) (by decide) (by decide) ?_
  intro a1 b2 ck3 h4 E5 X6 F7 F8 A9 N10
  show KW true l Z M_si n0 (fun v h => v = none ∧ ∃ t, Sg Z h a t [] ∧ Keep h0 h [a]) (EL, fun x => x = a) h4 2 4 11 #[.val (.ref a), .val (.ref c), .val (.int (0 : Int32)), .val (.int (0 : Int32)), .val .null, .unset] [(.ref a1), (.ref a)]
  refine k_getField d_si_11 rfl (hw _ (List.mem_of_getElem? (i := 24) rfl)) Via.refl F8 ?_
  have f13 := (FV.ext E5)
  have f14 := (EA.ext E5)
  refine k_put (v' := (.ref b2)) (ty := (.array .byte)) d_si_14 rfl (hw _ (List.mem_of_getElem? (i := 24) rfl)) Via.refl f13 f14 (Or.inr ⟨(hw _ (List.mem_of_getElem? (i := 20) rfl)), rfl, rfl⟩) (hw _ (List.mem_of_getElem? (i := 5) rfl)) (by decide) rfl rfl ga (fun _ => Or.inl rfl) ?_
  intro h11 W12
  have F15 := f13.same W12
  show KW true l Z M_si n0 (fun v h => v = none ∧ ∃ t, Sg Z h a t [] ∧ Keep h0 h [a]) (EL, fun x => x = a) h11 2 4 17 #[.val (.ref a), .val (.ref c), .val (.int (0 : Int32)), .val (.int (0 : Int32)), .val .null, .unset] []
  refine k_aloadN d_si_17 rfl rfl rfl ?_
  have f16 := (f14.wr W12)
  have f17 := (X6.wr W12)
  have f18 := (A9.other W12 (Ne.symm (N10 a rfl).2))
  refine k_ldcS (sl := 0) (vs := []) (z := (0 : Int32)) d_si_18 rfl (hw _ (List.mem_of_getElem? (i := 18) rfl)) (own_wS Z a0 hw) (List.mem_of_getElem? (i := 1) rfl) ⟨by decide, by decide⟩ (by decide) (by decide) (by decide) (by decide) (by decide) (by decide) ?_
  intro a19 b20 ck21 h22 E23 X24 F25 F26 A27 N28
  show KW true l Z M_si n0 (fun v h => v = none ∧ ∃ t, Sg Z h a t [] ∧ Keep h0 h [a]) (EL, fun x => x = a) h22 4 8 20 #[.val (.ref a), .val (.ref c), .val (.int (0 : Int32)), .val (.int (0 : Int32)), .val .null, .unset] [(.ref a19), (.ref a)]
  refine k_getField d_si_20 rfl (hw _ (List.mem_of_getElem? (i := 25) rfl)) Via.refl F25 ?_
  have f31 := (((FC.ext E5).other W12 (Or.inr (slot_ne (t := .byte) (t' := (.array .byte)) (Or.inr (hw _ (List.mem_of_getElem? (i := 21) rfl))) (Or.inr (hw _ (List.mem_of_getElem? (i := 20) rfl))) (by decide) (by decide) (by decide)))).ext E23)
  have f32 := (f16.ext E23)
  refine k_put (v' := (.int (0 : Int32))) (ty := .byte) d_si_23 rfl (hw _ (List.mem_of_getElem? (i := 25) rfl)) Via.refl f31 f32 (Or.inr ⟨(hw _ (List.mem_of_getElem? (i := 21) rfl)), rfl, rfl⟩) (hw _ (List.mem_of_getElem? (i := 5) rfl)) (by decide) rfl rfl ga (fun _ => Or.inl rfl) ?_
  intro h29 W30
  have F33 := f31.same W30
  show KW true l Z M_si n0 (fun v h => v = none ∧ ∃ t, Sg Z h a t [] ∧ Keep h0 h [a]) (EL, fun x => x = a) h29 4 8 26 #[.val (.ref a), .val (.ref c), .val (.int (0 : Int32)), .val (.int (0 : Int32)), .val .null, .unset] []
  have f34 := (f32.wr W30)
  have f35 := ((F15.ext E23).other W30 (Or.inr (slot_ne (t := (.array .byte)) (t' := .byte) (Or.inr (hw _ (List.mem_of_getElem? (i := 20) rfl))) (Or.inr (hw _ (List.mem_of_getElem? (i := 21) rfl))) (by decide) (by decide) (by decide))))
  have f36 := ((f18.ext E23).other W30 (Ne.symm (N10 a rfl).2))
  have f37 := ((((K0.ext E5).wr W12 (Or.inl (by simp))).ext E23).wr W30 (Or.inl (by simp)))
  exact k_retVoid d_si_26 rfl (by decide) (by decide) ⟨rfl, b2, ⟨ck3, f34, F33, f35, f36, by decide⟩, f37⟩
set_option maxRecDepth 65536 in
set_option maxHeartbeats 40000000 in
theorem kw_si1 (l : Launch) (Z : State) (a0 : Array Value) (hw : ∀ d ∈ tables_1, d.before a0 Z = true) (cs : Int32) (hcs : ¬ cs = 0) (SC : Sta Z Z.heap "java/lang/String" "COMPACT_STRINGS" "Z" (.int cs)) (hEW : EW Z a0 EL) (a c : Addr) (ck : ClassId) (xs : List Int32) (h0 : Heap) (n0 : Nat) (hx : xs.length ≤ 2) (hL : Latin xs) (OD : Old Z n0 h0) (EA : Exa Z h0 a "java/lang/String") (FC : Fld Z h0 a "java/lang/String" "coder" "B" (.int 0)) (FV : Fld Z h0 a "java/lang/String" "value" "[B" .null) (C : Arv Z h0 c ck .char (Int32.ofNat xs.length) (xs.map Value.int) (.int 0)) (ga : n0 ≤ a) (hn : xs.length ≠ 0) : KW true l Z M_si n0 (fun v h => v = none ∧ ∃ t, Sg Z h a t (xs.map nbI) ∧ Keep h0 h [a]) (EL, fun x => x = a) h0 0 0 0 #[.val (.ref a), .val (.ref c), .val (.int (0 : Int32)), .val (.int (Int32.ofNat xs.length)), .val .null, .unset] [] := by
  have K0 : Keep h0 h0 [a] := Keep.refl _ _
  refine k_aloadN d_si_0 rfl rfl rfl ?_
  refine k_initObj (W0 := 0) d_si_1 rfl (hw _ (List.mem_of_getElem? (i := 15) rfl)) (hw _ (List.mem_of_getElem? (i := 16) rfl)) (hw _ (List.mem_of_getElem? (i := 17) rfl)) rfl rfl (by decide) (by decide) ?_
  refine k_iloadN d_si_4 rfl rfl ?_
  refine k_ifc (pc1 := 27) (pc' := 8) d_si_5 (by decide) (by decide) rfl (fun (cd2 : ¬ (Int32.ofNat xs.length) = (0 : Int32)) => ?_) (fun (cd2 : (Int32.ofNat xs.length) = (0 : Int32)) => False.elim (by exact ix_ne (i := xs.length) (j := 0) (by omega) (by decide) hn cd2))
  refine k_getStatic d_si_27 rfl (hw _ (List.mem_of_getElem? (i := 63) rfl)) (Sta.ext OD.2 SC) ?_
  refine k_ifc (pc1 := 58) (pc' := 33) d_si_30 (by decide) (by decide) rfl (fun (cd3 : cs = (0 : Int32)) => False.elim (by exact hcs cd3)) (fun (cd3 : ¬ cs = (0 : Int32)) => ?_)
  refine k_aloadN d_si_33 rfl rfl rfl ?_
  refine k_iloadN d_si_34 rfl rfl ?_
  refine k_iloadN d_si_35 rfl rfl ?_
  refine k_callStatic (argsL := [(.ref c), (.int (0 : Int32)), (.int (Int32.ofNat xs.length))]) (rest := []) (W0 := 0) d_si_36 rfl (mt_cp l Z a0 hw cs hcs SC hEW c ck xs h0 n0 hx hL OD C) (fun _ _ _ q => by obtain ⟨_, _, -, -, -, K, -⟩ := q; exact ⟨[], K, fun _ z => nomatch z⟩) (hw _ (List.mem_of_getElem? (i := 82) rfl)) (hw _ (List.mem_of_getElem? (i := 83) rfl)) (hw _ (List.mem_of_getElem? (i := 84) rfl)) (hw _ (List.mem_of_getElem? (i := 85) rfl)) (by decide) pd_cp rfl rfl rfl rfl (by decide) (by decide) (by decide) (by decide) ?_
  rintro _ h39 - ⟨d38, ck44, rfl, gd42, g43, K40, D41⟩
  have ne45 : a ≠ d38 := Nat.ne_of_lt (Nat.lt_of_lt_of_le EA.lt gd42)
  refine KW.sub (S' := fun x => x = a) (fun x hx => Or.inl hx) ?_
  show KW true l Z M_si n0 (fun v h => v = none ∧ ∃ t, Sg Z h a t (xs.map nbI) ∧ Keep h0 h [a]) (EL, fun x => x = a) h39 1 2 39 #[.val (.ref a), .val (.ref c), .val (.int (0 : Int32)), .val (.int (Int32.ofNat xs.length)), .val .null, .unset] [(.ref d38)]
  refine k_astore (Ls' := #[.val (.ref a), .val (.ref c), .val (.int (0 : Int32)), .val (.int (Int32.ofNat xs.length)), .val .null, .val (.ref d38)]) d_si_39 rfl rfl rfl ?_
  refine k_aloadN d_si_41 rfl rfl rfl ?_
  refine k_aload d_si_42 rfl rfl rfl ?_
  refine k_iloadN d_si_44 rfl rfl ?_
  refine k_callStatic (argsL := [(.ref d38), (.int (Int32.ofNat xs.length))]) (rest := [(.ref a)]) (W0 := 1) d_si_45 rfl (mt_cfl l Z a0 hw cs hcs SC hEW d38 _ _ _ _ h39 n0 D41) (Kp.pure (fun _ _ q => q.2.symm)) (hw _ (List.mem_of_getElem? (i := 89) rfl)) (hw _ (List.mem_of_getElem? (i := 90) rfl)) (hw _ (List.mem_of_getElem? (i := 84) rfl)) (hw _ (List.mem_of_getElem? (i := 91) rfl)) (by decide) pd_cfl rfl rfl rfl rfl (by decide) (by decide) (by decide) (by decide) ?_
  rintro _ _ - ⟨rfl, rfl⟩
  refine KW.sub (S' := fun x => x = a) (fun x hx => Or.inl hx) ?_
  show KW true l Z M_si n0 (fun v h => v = none ∧ ∃ t, Sg Z h a t (xs.map nbI) ∧ Keep h0 h [a]) (EL, fun x => x = a) h39 1 2 48 #[.val (.ref a), .val (.ref c), .val (.int (0 : Int32)), .val (.int (Int32.ofNat xs.length)), .val .null, .val (.ref d38)] [(.int (0 : Int32)), (.ref a)]
  have f48 := (FC.keep K40 nin0)
  have f49 := (EA.keep K40)
  refine k_put (v' := (.int (0 : Int32))) (ty := .byte) d_si_48 rfl (hw _ (List.mem_of_getElem? (i := 25) rfl)) Via.refl f48 f49 (Or.inr ⟨(hw _ (List.mem_of_getElem? (i := 21) rfl)), rfl, rfl⟩) (hw _ (List.mem_of_getElem? (i := 5) rfl)) (by decide) rfl rfl ga (fun _ => Or.inl rfl) ?_
  intro h46 W47
  have F50 := f48.same W47
  show KW true l Z M_si n0 (fun v h => v = none ∧ ∃ t, Sg Z h a t (xs.map nbI) ∧ Keep h0 h [a]) (EL, fun x => x = a) h46 1 2 51 #[.val (.ref a), .val (.ref c), .val (.int (0 : Int32)), .val (.int (Int32.ofNat xs.length)), .val .null, .val (.ref d38)] []
  refine k_aloadN d_si_51 rfl rfl rfl ?_
  refine k_aload d_si_52 rfl rfl rfl ?_
  have f53 := ((FV.keep K40 nin0).other W47 (Or.inr (slot_ne (t := (.array .byte)) (t' := .byte) (Or.inr (hw _ (List.mem_of_getElem? (i := 20) rfl))) (Or.inr (hw _ (List.mem_of_getElem? (i := 21) rfl))) (by decide) (by decide) (by decide))))
  have f54 := (f49.wr W47)
  refine k_put (v' := (.ref d38)) (ty := (.array .byte)) d_si_54 rfl (hw _ (List.mem_of_getElem? (i := 24) rfl)) Via.refl f53 f54 (Or.inr ⟨(hw _ (List.mem_of_getElem? (i := 20) rfl)), rfl, rfl⟩) (hw _ (List.mem_of_getElem? (i := 5) rfl)) (by decide) rfl rfl ga (fun _ => Or.inl rfl) ?_
  intro h51 W52
  have F55 := f53.same W52
  show KW true l Z M_si n0 (fun v h => v = none ∧ ∃ t, Sg Z h a t (xs.map nbI) ∧ Keep h0 h [a]) (EL, fun x => x = a) h51 1 2 57 #[.val (.ref a), .val (.ref c), .val (.int (0 : Int32)), .val (.int (Int32.ofNat xs.length)), .val .null, .val (.ref d38)] []
  have f56 := (f54.wr W52)
  have f57 := (F50.other W52 (Or.inr (slot_ne (t := .byte) (t' := (.array .byte)) (Or.inr (hw _ (List.mem_of_getElem? (i := 21) rfl))) (Or.inr (hw _ (List.mem_of_getElem? (i := 20) rfl))) (by decide) (by decide) (by decide))))
  have f58 := ((D41.other W47 (Ne.symm ne45)).other W52 (Ne.symm ne45))
  have f59 := (((K0.trans K40 all0).wr W47 (Or.inl (by simp))).wr W52 (Or.inl (by simp)))
  exact k_retVoid d_si_57 rfl (by decide) (by decide) ⟨rfl, d38, ⟨ck44, f56, f57, F55, by rw [List.length_map]; exact f58, by rw [List.length_map]; omega⟩, f59⟩
set_option maxRecDepth 65536 in
set_option maxHeartbeats 40000000 in
theorem kw_si (l : Launch) (Z : State) (a0 : Array Value) (hw : ∀ d ∈ tables_1, d.before a0 Z = true) (cs : Int32) (hcs : ¬ cs = 0) (SC : Sta Z Z.heap "java/lang/String" "COMPACT_STRINGS" "Z" (.int cs)) (hEW : EW Z a0 EL) (a c : Addr) (ck : ClassId) (xs : List Int32) (h0 : Heap) (n0 : Nat) (hx : xs.length ≤ 2) (hL : Latin xs) (OD : Old Z n0 h0) (EA : Exa Z h0 a "java/lang/String") (FC : Fld Z h0 a "java/lang/String" "coder" "B" (.int 0)) (FV : Fld Z h0 a "java/lang/String" "value" "[B" .null) (C : Arv Z h0 c ck .char (Int32.ofNat xs.length) (xs.map Value.int) (.int 0)) (ga : n0 ≤ a) : KW true l Z M_si n0 (fun v h => v = none ∧ ∃ t, Sg Z h a t (xs.map nbI) ∧ Keep h0 h [a]) (EL, fun x => x = a) h0 0 0 0 #[.val (.ref a), .val (.ref c), .val (.int (0 : Int32)), .val (.int (Int32.ofNat xs.length)), .val .null, .unset] [] := by
  cases xs with
  | nil => exact kw_si0 l Z a0 hw cs hcs SC hEW a c h0 n0 OD EA FC FV ga
  | cons q xs => exact kw_si1 l Z a0 hw cs hcs SC hEW a c ck (q :: xs) h0 n0 hx hL OD EA FC FV C ga (by simp)
theorem mt_si (l : Launch) (Z : State) (a0 : Array Value) (hw : ∀ d ∈ tables_1, d.before a0 Z = true) (cs : Int32) (hcs : ¬ cs = 0) (SC : Sta Z Z.heap "java/lang/String" "COMPACT_STRINGS" "Z" (.int cs)) (hEW : EW Z a0 EL) (a c : Addr) (ck : ClassId) (xs : List Int32) (h0 : Heap) (n0 : Nat) (hx : xs.length ≤ 2) (hL : Latin xs) (OD : Old Z n0 h0) (EA : Exa Z h0 a "java/lang/String") (FC : Fld Z h0 a "java/lang/String" "coder" "B" (.int 0)) (FV : Fld Z h0 a "java/lang/String" "value" "[B" .null) (C : Arv Z h0 c ck .char (Int32.ofNat xs.length) (xs.map Value.int) (.int 0)) (ga : n0 ≤ a) : MtW l Z M_si [] n0 #[(.ref a), (.ref c), (.int (0 : Int32)), (.int (Int32.ofNat xs.length)), .null] (EL, fun x => x = a) h0 (fun v h => v = none ∧ ∃ t, Sg Z h a t (xs.map nbI) ∧ Keep h0 h [a]) :=
  mtw_of_kw (a0 := a0) (P := (EL, fun x => x = a)) pf_si hEW (fun m => by first | (simp [entryFrame, mkF, argsToLocals, Value.category]; done) | rfl) (kw_si l Z a0 hw cs hcs SC hEW a c ck xs h0 n0 hx hL OD EA FC FV C ga)
abbrev M_s1 : MD := ((⟨"java/lang/String", "<init>", "([C)V"⟩ : MethodName), jdk_42_method_3_code, 2, none, { frames := 3, cells := 4, slots := 8, locals := 72 })
theorem d_s1_0 : decode jdk_42_method_3_code 0 = .ok (.aload_n 0, 1) := by decide +kernel
theorem d_s1_1 : decode jdk_42_method_3_code 1 = .ok (.aload_n 1, 1) := by decide +kernel
theorem d_s1_2 : decode jdk_42_method_3_code 2 = .ok (.iconst 0, 1) := by decide +kernel
theorem d_s1_3 : decode jdk_42_method_3_code 3 = .ok (.aload_n 1, 1) := by decide +kernel
theorem d_s1_4 : decode jdk_42_method_3_code 4 = .ok (.arraylength, 1) := by decide +kernel
theorem d_s1_5 : decode jdk_42_method_3_code 5 = .ok (.aconst_null, 1) := by decide +kernel
theorem d_s1_6 : decode jdk_42_method_3_code 6 = .ok (.invokespecial 27, 3) := by decide +kernel
theorem d_s1_9 : decode jdk_42_method_3_code 9 = .ok (.return_, 1) := by decide +kernel
theorem pd_s1 : parseMethodDescriptor "([C)V" = some ⟨[(.array .char)], none⟩ := by decide +kernel
theorem pf_s1 : plainFor (⟨"java/lang/String", "<init>", "([C)V"⟩ : MethodName) = true := by first | exact plainFor_of_name (by first | (simp [plainName, overriddenIn]; done) | decide +kernel) | decide +kernel
set_option maxRecDepth 65536 in
set_option maxHeartbeats 40000000 in
theorem kw_s1 (l : Launch) (Z : State) (a0 : Array Value) (hw : ∀ d ∈ tables_1, d.before a0 Z = true) (cs : Int32) (hcs : ¬ cs = 0) (SC : Sta Z Z.heap "java/lang/String" "COMPACT_STRINGS" "Z" (.int cs)) (hEW : EW Z a0 EL) (a c : Addr) (ck : ClassId) (xs : List Int32) (h0 : Heap) (n0 : Nat) (hx : xs.length ≤ 2) (hL : Latin xs) (OD : Old Z n0 h0) (EA : Exa Z h0 a "java/lang/String") (FC : Fld Z h0 a "java/lang/String" "coder" "B" (.int 0)) (FV : Fld Z h0 a "java/lang/String" "value" "[B" .null) (C : Arv Z h0 c ck .char (Int32.ofNat xs.length) (xs.map Value.int) (.int 0)) (ga : n0 ≤ a) : KW true l Z M_s1 n0 (fun v h => v = none ∧ ∃ t, Sg Z h a t (xs.map nbI) ∧ Keep h0 h [a]) (EL, fun x => x = a) h0 0 0 0 #[.val (.ref a), .val (.ref c)] [] := by
  refine k_aloadN d_s1_0 rfl rfl rfl ?_
  refine k_aloadN d_s1_1 rfl rfl rfl ?_
  refine k_iconst (z := (0 : Int32)) d_s1_2 rfl (by decide) ?_
  refine k_aloadN d_s1_3 rfl rfl rfl ?_
  refine k_arrlen d_s1_4 rfl C ?_
  refine k_aconstNull d_s1_5 rfl ?_
  refine k_callInitW (a := a) (argsL := [(.ref c), (.int (0 : Int32)), (.int (Int32.ofNat xs.length)), .null]) (rest := []) (W0 := 0) d_s1_6 rfl (mt_si l Z a0 hw cs hcs SC hEW a c ck xs h0 n0 hx hL OD EA FC FV C ga) rfl rfl (hw _ (List.mem_of_getElem? (i := 11) rfl)) (hw _ (List.mem_of_getElem? (i := 12) rfl)) (hw _ (List.mem_of_getElem? (i := 6) rfl)) (hw _ (List.mem_of_getElem? (i := 14) rfl)) (by decide) pd_si rfl rfl rfl rfl (by decide) (by decide) (by decide) (by decide) ?_
  rintro _ hN - ⟨rfl, t, SG, K⟩
  show KW true l Z M_s1 n0 (fun v h => v = none ∧ ∃ t, Sg Z h a t (xs.map nbI) ∧ Keep h0 h [a]) (EL, fun x => x = a) hN 4 8 9 #[.val (.ref a), .val (.ref c)] []
  exact k_retVoid d_s1_9 rfl (by decide) (by decide) ⟨rfl, t, SG, K⟩
theorem mt_s1 (l : Launch) (Z : State) (a0 : Array Value) (hw : ∀ d ∈ tables_1, d.before a0 Z = true) (cs : Int32) (hcs : ¬ cs = 0) (SC : Sta Z Z.heap "java/lang/String" "COMPACT_STRINGS" "Z" (.int cs)) (hEW : EW Z a0 EL) (a c : Addr) (ck : ClassId) (xs : List Int32) (h0 : Heap) (n0 : Nat) (hx : xs.length ≤ 2) (hL : Latin xs) (OD : Old Z n0 h0) (EA : Exa Z h0 a "java/lang/String") (FC : Fld Z h0 a "java/lang/String" "coder" "B" (.int 0)) (FV : Fld Z h0 a "java/lang/String" "value" "[B" .null) (C : Arv Z h0 c ck .char (Int32.ofNat xs.length) (xs.map Value.int) (.int 0)) (ga : n0 ≤ a) : MtW l Z M_s1 [] n0 #[(.ref a), (.ref c)] (EL, fun x => x = a) h0 (fun v h => v = none ∧ ∃ t, Sg Z h a t (xs.map nbI) ∧ Keep h0 h [a]) :=
  mtw_of_kw (a0 := a0) (P := (EL, fun x => x = a)) pf_s1 hEW (fun m => by first | (simp [entryFrame, mkF, argsToLocals, Value.category]; done) | rfl) (kw_s1 l Z a0 hw cs hcs SC hEW a c ck xs h0 n0 hx hL OD EA FC FV C ga)
def N3 (n : Int32) : Prop := n = 0 ∨ n = 1 ∨ n = 2
def B2 (n : Int32) : Prop := n = 0 ∨ n = 1
def Ch (p : Int32) : Prop := 0 ≤ p.toInt ∧ p.toInt < 256
def chs (n p q : Int32) : List Int32 := if n = 0 then [] else if n = 1 then [p] else [p, q]
theorem narc {p : Int32} (h : Ch p) : nar .char p = p := by
  have e := c_i2c p; have h' : 0 ≤ p.toInt ∧ p.toInt < 256 := h
  refine Int32.toInt_inj.mp ?_
  show (p.toUInt32.toUInt16.toUInt32.toInt32).toInt = p.toInt
  omega
theorem chs_len (n p q : Int32) : (chs n p q).length ≤ 2 := by
  unfold chs
  split
  · simp
  · split <;> simp
theorem chs_lat {n p q : Int32} (hp : Ch p) (hq : Ch q) : Latin (chs n p q) := by
  unfold chs
  split
  · exact Latin.nil
  · split
    · exact Latin.cons hp Latin.nil
    · exact Latin.cons hp (Latin.cons hq Latin.nil)
theorem chs0 {n p q : Int32} (h : n = 0) : chs n p q = [] := by unfold chs; rw [if_pos h]
theorem chs1 {n p q : Int32} (h : ¬ n = 0) (h' : n = 1) : chs n p q = [p] := by unfold chs; rw [if_neg h, if_pos h']
theorem chs2 {n p q : Int32} (h : ¬ n = 0) (h' : ¬ n = 1) : chs n p q = [p, q] := by unfold chs; rw [if_neg h, if_neg h']
theorem nb_inj {p q : Int32} (hp : Ch p) (hq : Ch q) (h : nbI p = nbI q) : p = q := by
  exact nbI_inj hp hq h
abbrev tx (n p q : Int32) : List Int32 := (chs n p q).map nbI
theorem own_s1 {n n' p q p' q' : Int32} (hn : N3 n) (h : n = n') (h1 : n < 1 ∨ p = p') (h2 : n < 2 ∨ q = q') : eqI (tx n p q) (tx n' p' q') = 1 := by
  subst h
  unfold tx
  rcases hn with rfl | rfl | rfl
  · rw [chs0 rfl, chs0 rfl]; exact eqI_self _
  · rw [chs1 (by decide) rfl, chs1 (by decide) rfl, h1.resolve_left (by decide)]; exact eqI_self _
  · rw [chs2 (by decide) (by decide), chs2 (by decide) (by decide), h1.resolve_left (by decide), h2.resolve_left (by decide)]; exact eqI_self _
theorem tx_len {n p q : Int32} (hn : N3 n) : ((tx n p q).length : Int) = n.toInt := by
  unfold tx; rw [List.length_map]
  rcases hn with rfl | rfl | rfl
  · rw [chs0 rfl]; rfl
  · rw [chs1 (by decide) rfl]; rfl
  · rw [chs2 (by decide) (by decide)]; rfl
theorem own_s0 {n n' p q p' q' : Int32} (hn : N3 n) (hn' : N3 n') (h : ¬ n = n') : eqI (tx n p q) (tx n' p' q') = 0 := by
  unfold eqI; rw [if_neg]; intro e
  have h1 := tx_len (p := p) (q := q) hn; have h2 := tx_len (p := p') (q := q') hn'
  rw [e] at h1
  exact h (Int32.toInt_inj.mp (h1.symm.trans h2))
theorem own_s0a {n n' p q p' q' : Int32} (hn : N3 n) (e : n = n') (hp : Ch p) (hp' : Ch p') (h1 : ¬ n < 1) (h : ¬ p = p') : eqI (tx n p q) (tx n' p' q') = 0 := by
  subst e
  unfold eqI; rw [if_neg]; intro e
  unfold tx at e
  rcases hn with rfl | rfl | rfl
  · exact h1 (by decide)
  · rw [chs1 (by decide) rfl, chs1 (by decide) rfl] at e; exact h (nb_inj hp hp' (List.cons.inj e).1)
  · rw [chs2 (by decide) (by decide), chs2 (by decide) (by decide)] at e; exact h (nb_inj hp hp' (List.cons.inj e).1)
theorem own_s0b {n n' p q p' q' : Int32} (hn : N3 n) (e : n = n') (hp : Ch q) (hp' : Ch q') (h1 : ¬ n < 2) (h : ¬ q = q') : eqI (tx n p q) (tx n' p' q') = 0 := by
  subst e
  unfold eqI; rw [if_neg]; intro e
  unfold tx at e
  rcases hn with rfl | rfl | rfl
  · exact h1 (by decide)
  · exact h1 (by decide)
  · rw [chs2 (by decide) (by decide), chs2 (by decide) (by decide)] at e; exact h (nb_inj hp hp' (List.cons.inj (List.cons.inj e).2).1)
theorem own_ch (x : Int32) : Ch (UInt32.toInt32 (UInt16.toUInt32 (UInt32.toUInt16 (Int32.toUInt32 (x &&& (255 : Int32)))))) := by
  have h1 := c_mask x 255 8 (by decide) (by decide)
  have h2 := c_i2c (x &&& (255 : Int32))
  unfold Ch
  omega
theorem own_n3 (x : Int32) : N3 ((x &&& (3 : Int32)) % (3 : Int32)) := by
  have h1 := c_mask x 3 2 (by decide) (by decide)
  have h2 := (c_irem (x &&& (3 : Int32)) 3 3 (by decide)).1 (by omega)
  unfold N3
  simp only [← Int32.toInt_inj, h2, show (0 : Int32).toInt = 0 from rfl, show (1 : Int32).toInt = 1 from rfl, show (2 : Int32).toInt = 2 from rfl]
  omega
abbrev M_cen : MD := ((⟨"java/lang/StringLatin1", "canEncode", "(C)Z"⟩ : MethodName), jdk_43_method_3_code, 1, (some .boolean), { frames := 0, cells := 0, slots := 0, locals := 0 })
theorem d_cen_0 : decode jdk_43_method_3_code 0 = .ok (.iload_n 0, 1) := by decide +kernel
theorem d_cen_1 : decode jdk_43_method_3_code 1 = .ok (.sipush 255, 3) := by decide +kernel
theorem d_cen_4 : decode jdk_43_method_3_code 4 = .ok (.if_icmp .gt 7, 3) := by decide +kernel
theorem d_cen_7 : decode jdk_43_method_3_code 7 = .ok (.iconst 1, 1) := by decide +kernel
theorem d_cen_8 : decode jdk_43_method_3_code 8 = .ok (.goto 4, 3) := by decide +kernel
theorem d_cen_11 : decode jdk_43_method_3_code 11 = .ok (.iconst 0, 1) := by decide +kernel
theorem d_cen_12 : decode jdk_43_method_3_code 12 = .ok (.ireturn, 1) := by decide +kernel
theorem pd_cen : parseMethodDescriptor "(C)Z" = some ⟨[.char], (some .boolean)⟩ := by decide +kernel
theorem pf_cen : plainFor (⟨"java/lang/StringLatin1", "canEncode", "(C)Z"⟩ : MethodName) = true := by first | exact plainFor_of_name (by first | (simp [plainName, overriddenIn]; done) | decide +kernel) | decide +kernel
set_option maxRecDepth 65536 in
set_option maxHeartbeats 40000000 in
theorem kw_cen (l : Launch) (Z : State) (a0 : Array Value) (hw : ∀ d ∈ tables_1, d.before a0 Z = true) (cs : Int32) (hcs : ¬ cs = 0) (SC : Sta Z Z.heap "java/lang/String" "COMPACT_STRINGS" "Z" (.int cs)) (hEW : EW Z a0 EL) (p : Int32) (h0 : Heap) (n0 : Nat) (hp : Ch p) : KW false l Z M_cen n0 (fun v h => v = some (.int 1) ∧ h0 = h) ([], fun _ => False) h0 0 0 0 #[.val (.int p)] [] := by
  refine k_iloadN d_cen_0 rfl rfl ?_
  refine k_sipush (z := (255 : Int32)) d_cen_1 rfl (by decide) ?_
  refine k_icmp (pc1 := 11) (pc' := 7) d_cen_4 (by decide) (by decide) rfl (fun (cd1 : (255 : Int32) < p) => False.elim (by exact own_255 hp cd1)) (fun (cd1 : ¬ (255 : Int32) < p) => ?_)
  refine k_iconst (z := (1 : Int32)) d_cen_7 rfl (by decide) ?_
  refine k_goto (pc' := 12) d_cen_8 (by decide) (by decide) ?_
  exact k_retNar d_cen_12 rfl (by simp) (z' := (1 : Int32)) (by decide) (by decide) (by decide) ⟨rfl, rfl⟩
theorem mt_cen (l : Launch) (Z : State) (a0 : Array Value) (hw : ∀ d ∈ tables_1, d.before a0 Z = true) (cs : Int32) (hcs : ¬ cs = 0) (SC : Sta Z Z.heap "java/lang/String" "COMPACT_STRINGS" "Z" (.int cs)) (hEW : EW Z a0 EL) (p : Int32) (h0 : Heap) (n0 : Nat) (hp : Ch p) : Mt l Z M_cen [] n0 #[(.int p)] h0 (fun v h => v = some (.int 1) ∧ h0 = h) :=
  mt_of_kw (P := ([], fun _ => False)) pf_cen (fun m => by first | (simp [entryFrame, mkF, argsToLocals, Value.category]; done) | rfl) (kw_cen l Z a0 hw cs hcs SC hEW p h0 n0 hp)
abbrev M_tob : MD := ((⟨"java/lang/StringLatin1", "toBytes", "(C)[B"⟩ : MethodName), jdk_43_method_46_code, 1, (some (.array .byte)), { frames := 0, cells := 1, slots := 1, locals := 0 })
theorem d_tob_0 : decode jdk_43_method_46_code 0 = .ok (.iconst 1, 1) := by decide +kernel
theorem d_tob_1 : decode jdk_43_method_46_code 1 = .ok (.newarray .byte, 2) := by decide +kernel
theorem d_tob_3 : decode jdk_43_method_46_code 3 = .ok (.dup, 1) := by decide +kernel
theorem d_tob_4 : decode jdk_43_method_46_code 4 = .ok (.iconst 0, 1) := by decide +kernel
theorem d_tob_5 : decode jdk_43_method_46_code 5 = .ok (.iload_n 0, 1) := by decide +kernel
theorem d_tob_6 : decode jdk_43_method_46_code 6 = .ok (.i2b, 1) := by decide +kernel
theorem d_tob_7 : decode jdk_43_method_46_code 7 = .ok (.bastore, 1) := by decide +kernel
theorem d_tob_8 : decode jdk_43_method_46_code 8 = .ok (.areturn, 1) := by decide +kernel
theorem pd_tob : parseMethodDescriptor "(C)[B" = some ⟨[.char], (some (.array .byte))⟩ := by decide +kernel
theorem pf_tob : plainFor (⟨"java/lang/StringLatin1", "toBytes", "(C)[B"⟩ : MethodName) = true := by first | exact plainFor_of_name (by first | (simp [plainName, overriddenIn]; done) | decide +kernel) | decide +kernel
set_option maxRecDepth 65536 in
set_option maxHeartbeats 40000000 in
theorem kw_tob (l : Launch) (Z : State) (a0 : Array Value) (hw : ∀ d ∈ tables_1, d.before a0 Z = true) (cs : Int32) (hcs : ¬ cs = 0) (SC : Sta Z Z.heap "java/lang/String" "COMPACT_STRINGS" "Z" (.int cs)) (hEW : EW Z a0 EL) (p : Int32) (h0 : Heap) (n0 : Nat) (OD : Old Z n0 h0) : KW false l Z M_tob n0 (fun v h => ∃ d ck', v = some (.ref d) ∧ h0.size ≤ d ∧ n0 ≤ d ∧ Keep h0 h [] ∧ Arv Z h d ck' .byte (1 : Int32) [.int (nbI p)] (.int 0)) ([], fun _ => False) h0 0 0 0 #[.val (.int p)] [] := by
  have Z0 := OD.1 ▸ OD.2.1
  have K0 : Keep h0 h0 [] := Keep.refl _ _
  refine k_iconst (z := (1 : Int32)) d_tob_0 rfl (by decide) ?_
  refine k_newarr (cap := 1) d_tob_1 rfl (hw _ (List.mem_of_getElem? (i := 19) rfl)) (by decide) (by decide) (by decide) (by decide) (by decide) ?_
  intro h2 a1 ck6 g5 E3 V4
  have z8 : n0 ≤ h0.size := Z0
  have ge7 : n0 ≤ a1 := Nat.le_trans z8 (Nat.le_of_eq g5.symm)
  have gl9 : h0.size ≤ a1 := Nat.le_of_eq g5.symm
  have gh10 := Nat.le_trans K0.1 gl9
  have V11 : Arv Z h2 a1 ck6 .byte (1 : Int32) [(.int (0 : Int32))] (.int (0 : Int32)) := Arv.pad V4 (pad_rep [] _ 1)
  refine KW.any (P' := ([], fun _ => False)) ?_
  show KW false l Z M_tob n0 (fun v h => ∃ d ck', v = some (.ref d) ∧ h0.size ≤ d ∧ n0 ≤ d ∧ Keep h0 h [] ∧ Arv Z h d ck' .byte (1 : Int32) [.int (nbI p)] (.int 0)) ([], fun _ => False) h2 1 1 3 #[.val (.int p)] [(.ref a1)]
  refine k_dup d_tob_3 rfl rfl ?_
  refine k_iconst (z := (0 : Int32)) d_tob_4 rfl (by decide) ?_
  refine k_iloadN d_tob_5 rfl rfl ?_
  refine k_i2b d_tob_6 rfl ?_
  refine k_bastore (i := 0) d_tob_7 rfl V11 (by decide) (by decide) (by simp) ge7 (fun q => by cases q) ?_
  intro h12 W13 V14
  have V15 : Arv Z h12 a1 ck6 .byte (1 : Int32) [(.int (nar .byte (Int8.toInt32 (Int32.toInt8 p))))] (.int (0 : Int32)) := V14
  show KW false l Z M_tob n0 (fun v h => ∃ d ck', v = some (.ref d) ∧ h0.size ≤ d ∧ n0 ≤ d ∧ Keep h0 h [] ∧ Arv Z h d ck' .byte (1 : Int32) [.int (nbI p)] (.int 0)) ([], fun _ => False) h12 1 1 8 #[.val (.int p)] [(.ref a1)]
  have f16 := ((K0.ext E3).wr W13 (Or.inr gh10))
  exact k_retRef d_tob_8 rfl rfl rfl (by decide) (by decide) ⟨a1, ck6, rfl, gl9, ge7, f16, V15⟩
theorem mt_tob (l : Launch) (Z : State) (a0 : Array Value) (hw : ∀ d ∈ tables_1, d.before a0 Z = true) (cs : Int32) (hcs : ¬ cs = 0) (SC : Sta Z Z.heap "java/lang/String" "COMPACT_STRINGS" "Z" (.int cs)) (hEW : EW Z a0 EL) (p : Int32) (h0 : Heap) (n0 : Nat) (OD : Old Z n0 h0) : Mt l Z M_tob [] n0 #[(.int p)] h0 (fun v h => ∃ d ck', v = some (.ref d) ∧ h0.size ≤ d ∧ n0 ≤ d ∧ Keep h0 h [] ∧ Arv Z h d ck' .byte (1 : Int32) [.int (nbI p)] (.int 0)) :=
  mt_of_kw (P := ([], fun _ => False)) pf_tob (fun m => by first | (simp [entryFrame, mkF, argsToLocals, Value.category]; done) | rfl) (kw_tob l Z a0 hw cs hcs SC hEW p h0 n0 OD)
abbrev M_sbb : MD := ((⟨"java/lang/String", "<init>", "([BB)V"⟩ : MethodName), jdk_42_method_151_code, 3, none, { frames := 1, cells := 0, slots := 0, locals := 12 })
theorem d_sbb_0 : decode jdk_42_method_151_code 0 = .ok (.aload_n 0, 1) := by decide +kernel
theorem d_sbb_1 : decode jdk_42_method_151_code 1 = .ok (.invokespecial 1, 3) := by decide +kernel
theorem d_sbb_4 : decode jdk_42_method_151_code 4 = .ok (.aload_n 0, 1) := by decide +kernel
theorem d_sbb_5 : decode jdk_42_method_151_code 5 = .ok (.aload_n 1, 1) := by decide +kernel
theorem d_sbb_6 : decode jdk_42_method_151_code 6 = .ok (.putfield 9, 3) := by decide +kernel
theorem d_sbb_9 : decode jdk_42_method_151_code 9 = .ok (.aload_n 0, 1) := by decide +kernel
theorem d_sbb_10 : decode jdk_42_method_151_code 10 = .ok (.iload_n 2, 1) := by decide +kernel
theorem d_sbb_11 : decode jdk_42_method_151_code 11 = .ok (.putfield 15, 3) := by decide +kernel
theorem d_sbb_14 : decode jdk_42_method_151_code 14 = .ok (.return_, 1) := by decide +kernel
theorem pd_sbb : parseMethodDescriptor "([BB)V" = some ⟨[(.array .byte), .byte], none⟩ := by decide +kernel
theorem pf_sbb : plainFor (⟨"java/lang/String", "<init>", "([BB)V"⟩ : MethodName) = true := by first | exact plainFor_of_name (by first | (simp [plainName, overriddenIn]; done) | decide +kernel) | decide +kernel
set_option maxRecDepth 65536 in
set_option maxHeartbeats 40000000 in
theorem kw_sbb (l : Launch) (Z : State) (a0 : Array Value) (hw : ∀ d ∈ tables_1, d.before a0 Z = true) (cs : Int32) (hcs : ¬ cs = 0) (SC : Sta Z Z.heap "java/lang/String" "COMPACT_STRINGS" "Z" (.int cs)) (hEW : EW Z a0 EL) (a d : Addr) (h0 : Heap) (n0 : Nat) (ga : n0 ≤ a) (EA : Exa Z h0 a "java/lang/String") (FC : Fld Z h0 a "java/lang/String" "coder" "B" (.int 0)) (FV : Fld Z h0 a "java/lang/String" "value" "[B" .null) : KW false l Z M_sbb n0 (fun v h => v = none ∧ Keep h0 h [a] ∧ Fld Z h a "java/lang/String" "coder" "B" (.int 0) ∧ Fld Z h a "java/lang/String" "value" "[B" (.ref d)) ([], fun _ => False) h0 0 0 0 #[.val (.ref a), .val (.ref d), .val (.int (0 : Int32))] [] := by
  have K0 : Keep h0 h0 [a] := Keep.refl _ _
  refine k_aloadN d_sbb_0 rfl rfl rfl ?_
  refine k_initObj (W0 := 0) d_sbb_1 rfl (hw _ (List.mem_of_getElem? (i := 15) rfl)) (hw _ (List.mem_of_getElem? (i := 16) rfl)) (hw _ (List.mem_of_getElem? (i := 17) rfl)) rfl rfl (by decide) (by decide) ?_
  refine k_aloadN d_sbb_4 rfl rfl rfl ?_
  refine k_aloadN d_sbb_5 rfl rfl rfl ?_
  refine k_put (v' := (.ref d)) (ty := (.array .byte)) d_sbb_6 rfl (hw _ (List.mem_of_getElem? (i := 24) rfl)) Via.refl FV EA (Or.inr ⟨(hw _ (List.mem_of_getElem? (i := 20) rfl)), rfl, rfl⟩) (hw _ (List.mem_of_getElem? (i := 5) rfl)) (by decide) rfl rfl ga (fun q => by cases q) ?_
  intro h1 W2
  have F3 := FV.same W2
  show KW false l Z M_sbb n0 (fun v h => v = none ∧ Keep h0 h [a] ∧ Fld Z h a "java/lang/String" "coder" "B" (.int 0) ∧ Fld Z h a "java/lang/String" "value" "[B" (.ref d)) ([], fun _ => False) h1 0 0 9 #[.val (.ref a), .val (.ref d), .val (.int (0 : Int32))] []
  refine k_aloadN d_sbb_9 rfl rfl rfl ?_
  refine k_iloadN d_sbb_10 rfl rfl ?_
  have f6 := (FC.other W2 (Or.inr (slot_ne (t := .byte) (t' := (.array .byte)) (Or.inr (hw _ (List.mem_of_getElem? (i := 21) rfl))) (Or.inr (hw _ (List.mem_of_getElem? (i := 20) rfl))) (by decide) (by decide) (by decide))))
  have f7 := (EA.wr W2)
  refine k_put (v' := (.int (0 : Int32))) (ty := .byte) d_sbb_11 rfl (hw _ (List.mem_of_getElem? (i := 25) rfl)) Via.refl f6 f7 (Or.inr ⟨(hw _ (List.mem_of_getElem? (i := 21) rfl)), rfl, rfl⟩) (hw _ (List.mem_of_getElem? (i := 5) rfl)) (by decide) rfl rfl ga (fun q => by cases q) ?_
  intro h4 W5
  have F8 := f6.same W5
  show KW false l Z M_sbb n0 (fun v h => v = none ∧ Keep h0 h [a] ∧ Fld Z h a "java/lang/String" "coder" "B" (.int 0) ∧ Fld Z h a "java/lang/String" "value" "[B" (.ref d)) ([], fun _ => False) h4 0 0 14 #[.val (.ref a), .val (.ref d), .val (.int (0 : Int32))] []
  have f9 := ((K0.wr W2 (Or.inl (by simp))).wr W5 (Or.inl (by simp)))
  have f10 := (F3.other W5 (Or.inr (slot_ne (t := (.array .byte)) (t' := .byte) (Or.inr (hw _ (List.mem_of_getElem? (i := 20) rfl))) (Or.inr (hw _ (List.mem_of_getElem? (i := 21) rfl))) (by decide) (by decide) (by decide))))
  exact k_retVoid d_sbb_14 rfl (by decide) (by decide) ⟨rfl, f9, F8, f10⟩
theorem mt_sbb (l : Launch) (Z : State) (a0 : Array Value) (hw : ∀ d ∈ tables_1, d.before a0 Z = true) (cs : Int32) (hcs : ¬ cs = 0) (SC : Sta Z Z.heap "java/lang/String" "COMPACT_STRINGS" "Z" (.int cs)) (hEW : EW Z a0 EL) (a d : Addr) (h0 : Heap) (n0 : Nat) (ga : n0 ≤ a) (EA : Exa Z h0 a "java/lang/String") (FC : Fld Z h0 a "java/lang/String" "coder" "B" (.int 0)) (FV : Fld Z h0 a "java/lang/String" "value" "[B" .null) : Mt l Z M_sbb [] n0 #[(.ref a), (.ref d), (.int (0 : Int32))] h0 (fun v h => v = none ∧ Keep h0 h [a] ∧ Fld Z h a "java/lang/String" "coder" "B" (.int 0) ∧ Fld Z h a "java/lang/String" "value" "[B" (.ref d)) :=
  mt_of_kw (P := ([], fun _ => False)) pf_sbb (fun m => by first | (simp [entryFrame, mkF, argsToLocals, Value.category]; done) | rfl) (kw_sbb l Z a0 hw cs hcs SC hEW a d h0 n0 ga EA FC FV)
abbrev M_vof : MD := ((⟨"java/lang/String", "valueOf", "(C)Ljava/lang/String;"⟩ : MethodName), jdk_42_method_139_code, 1, (some (.object "java/lang/String")), { frames := 2, cells := 2, slots := 5, locals := 28 })
theorem d_vof_0 : decode jdk_42_method_139_code 0 = .ok (.getstatic 38, 3) := by decide +kernel
theorem d_vof_3 : decode jdk_42_method_139_code 3 = .ok (.ifCond .eq 23, 3) := by decide +kernel
theorem d_vof_6 : decode jdk_42_method_139_code 6 = .ok (.iload_n 0, 1) := by decide +kernel
theorem d_vof_7 : decode jdk_42_method_139_code 7 = .ok (.invokestatic 1015, 3) := by decide +kernel
theorem d_vof_10 : decode jdk_42_method_139_code 10 = .ok (.ifCond .eq 16, 3) := by decide +kernel
theorem d_vof_13 : decode jdk_42_method_139_code 13 = .ok (.new 10, 3) := by decide +kernel
theorem d_vof_16 : decode jdk_42_method_139_code 16 = .ok (.dup, 1) := by decide +kernel
theorem d_vof_17 : decode jdk_42_method_139_code 17 = .ok (.iload_n 0, 1) := by decide +kernel
theorem d_vof_18 : decode jdk_42_method_139_code 18 = .ok (.invokestatic 1018, 3) := by decide +kernel
theorem d_vof_21 : decode jdk_42_method_139_code 21 = .ok (.iconst 0, 1) := by decide +kernel
theorem d_vof_22 : decode jdk_42_method_139_code 22 = .ok (.invokespecial 209, 3) := by decide +kernel
theorem d_vof_25 : decode jdk_42_method_139_code 25 = .ok (.areturn, 1) := by decide +kernel
theorem d_vof_26 : decode jdk_42_method_139_code 26 = .ok (.new 10, 3) := by decide +kernel
theorem d_vof_29 : decode jdk_42_method_139_code 29 = .ok (.dup, 1) := by decide +kernel
theorem d_vof_30 : decode jdk_42_method_139_code 30 = .ok (.iload_n 0, 1) := by decide +kernel
theorem d_vof_31 : decode jdk_42_method_139_code 31 = .ok (.invokestatic 1021, 3) := by decide +kernel
theorem d_vof_34 : decode jdk_42_method_139_code 34 = .ok (.iconst 1, 1) := by decide +kernel
theorem d_vof_35 : decode jdk_42_method_139_code 35 = .ok (.invokespecial 209, 3) := by decide +kernel
theorem d_vof_38 : decode jdk_42_method_139_code 38 = .ok (.areturn, 1) := by decide +kernel
theorem pd_vof : parseMethodDescriptor "(C)Ljava/lang/String;" = some ⟨[.char], (some (.object "java/lang/String"))⟩ := by decide +kernel
theorem pf_vof : plainFor (⟨"java/lang/String", "valueOf", "(C)Ljava/lang/String;"⟩ : MethodName) = true := by first | exact plainFor_of_name (by first | (simp [plainName, overriddenIn]; done) | decide +kernel) | decide +kernel
set_option maxRecDepth 65536 in
set_option maxHeartbeats 40000000 in
theorem kw_vof (l : Launch) (Z : State) (a0 : Array Value) (hw : ∀ d ∈ tables_1, d.before a0 Z = true) (cs : Int32) (hcs : ¬ cs = 0) (SC : Sta Z Z.heap "java/lang/String" "COMPACT_STRINGS" "Z" (.int cs)) (hEW : EW Z a0 EL) (p : Int32) (h0 : Heap) (n0 : Nat) (OD : Old Z n0 h0) (hp : Ch p) : KW false l Z M_vof n0 (fun v h => ∃ a t, v = some (.ref a) ∧ Keep h0 h [] ∧ Sg Z h a t [nbI p]) ([], fun _ => False) h0 0 0 0 #[.val (.int p)] [] := by
  have Z0 := OD.1 ▸ OD.2.1
  have K0 : Keep h0 h0 [] := Keep.refl _ _
  refine k_getStatic d_vof_0 rfl (hw _ (List.mem_of_getElem? (i := 63) rfl)) (Sta.ext OD.2 SC) ?_
  refine k_ifc (pc1 := 26) (pc' := 6) d_vof_3 (by decide) (by decide) rfl (fun (cd1 : cs = (0 : Int32)) => False.elim (by exact hcs cd1)) (fun (cd1 : ¬ cs = (0 : Int32)) => ?_)
  refine k_iloadN d_vof_6 rfl rfl ?_
  refine k_callStatic (argsL := [(.int p)]) (rest := []) (W0 := 0) d_vof_7 rfl (mt_cen l Z a0 hw cs hcs SC hEW p h0 n0 hp) Kp.strict (hw _ (List.mem_of_getElem? (i := 73) rfl)) (hw _ (List.mem_of_getElem? (i := 74) rfl)) (hw _ (List.mem_of_getElem? (i := 66) rfl)) (hw _ (List.mem_of_getElem? (i := 75) rfl)) (by decide) pd_cen rfl rfl rfl rfl (by decide) (by decide) (by decide) (by decide) ?_
  rintro _ _ - ⟨rfl, rfl⟩
  refine KW.any (P' := ([], fun _ => False)) ?_
  show KW false l Z M_vof n0 (fun v h => ∃ a t, v = some (.ref a) ∧ Keep h0 h [] ∧ Sg Z h a t [nbI p]) ([], fun _ => False) h0 0 0 10 #[.val (.int p)] [(.int (1 : Int32))]
  refine k_ifc (pc1 := 26) (pc' := 13) d_vof_10 (by decide) (by decide) rfl (fun (cd2 : (1 : Int32) = (0 : Int32)) => False.elim (by exact absurd cd2 (by decide))) (fun (cd2 : ¬ (1 : Int32) = (0 : Int32)) => ?_)
  refine k_new d_vof_13 rfl (hw _ (List.mem_of_getElem? (i := 62) rfl)) (hw _ (List.mem_of_getElem? (i := 5) rfl)) (hw _ (List.mem_of_getElem? (i := 6) rfl)) (by decide) (by decide) ?_
  intro h2 a1 g6 E3 A4 D5
  have z7 : n0 ≤ h0.size := Z0
  have ge8 : n0 ≤ a1 := Nat.le_trans z7 (Nat.le_of_eq g6.symm)
  have gl9 : h0.size ≤ a1 := Nat.le_of_eq g6.symm
  have gh10 := Nat.le_trans K0.1 gl9
  have F11 : Fld Z h2 a1 "java/lang/String" "value" "[B" .null := D5 (Or.inr (hw _ (List.mem_of_getElem? (i := 20) rfl))) (ty := (.array .byte)) (by decide)
  have F12 : Fld Z h2 a1 "java/lang/String" "coder" "B" (.int (0 : Int32)) := D5 (Or.inr (hw _ (List.mem_of_getElem? (i := 21) rfl))) (ty := .byte) (by decide)
  refine KW.any (P' := ([], fun _ => False)) ?_
  show KW false l Z M_vof n0 (fun v h => ∃ a t, v = some (.ref a) ∧ Keep h0 h [] ∧ Sg Z h a t [nbI p]) ([], fun _ => False) h2 1 4 16 #[.val (.int p)] [(.ref a1)]
  refine k_dup d_vof_16 rfl rfl ?_
  refine k_iloadN d_vof_17 rfl rfl ?_
  have f13 := (OD.ext E3)
  refine k_callStatic (argsL := [(.int p)]) (rest := [(.ref a1), (.ref a1)]) (W0 := 2) d_vof_18 rfl (mt_tob l Z a0 hw cs hcs SC hEW p h2 n0 f13) Kp.strict (hw _ (List.mem_of_getElem? (i := 76) rfl)) (hw _ (List.mem_of_getElem? (i := 77) rfl)) (hw _ (List.mem_of_getElem? (i := 66) rfl)) (hw _ (List.mem_of_getElem? (i := 78) rfl)) (by decide) pd_tob rfl rfl rfl rfl (by decide) (by decide) (by decide) (by decide) ?_
  have f22 := (K0.ext E3)
  rintro _ h15 - ⟨d14, ck20, rfl, gd18, g19, K16, D17⟩
  have ne23 : a1 ≠ d14 := Nat.ne_of_lt (Nat.lt_of_lt_of_le A4.lt gd18)
  refine KW.any (P' := ([], fun _ => False)) ?_
  show KW false l Z M_vof n0 (fun v h => ∃ a t, v = some (.ref a) ∧ Keep h0 h [] ∧ Sg Z h a t [nbI p]) ([], fun _ => False) h15 2 5 21 #[.val (.int p)] [(.ref d14), (.ref a1), (.ref a1)]
  refine k_iconst (z := (0 : Int32)) d_vof_21 rfl (by decide) ?_
  have f24 := (A4.keep K16)
  have f25 := (F12.keep K16 nin0)
  have f26 := (F11.keep K16 nin0)
  have f27 := (f22.trans K16 all0)
  refine k_callInit (a := a1) (argsL := [(.ref d14), (.int (0 : Int32))]) (rest := [(.ref a1)]) (W0 := 1) d_vof_22 rfl (mt_sbb l Z a0 hw cs hcs SC hEW a1 d14 h15 n0 ge8 f24 f25 f26) Kp.strict rfl rfl (hw _ (List.mem_of_getElem? (i := 79) rfl)) (hw _ (List.mem_of_getElem? (i := 80) rfl)) (hw _ (List.mem_of_getElem? (i := 6) rfl)) (hw _ (List.mem_of_getElem? (i := 81) rfl)) (by decide) pd_sbb rfl rfl rfl rfl (by decide) (by decide) (by decide) (by decide) ?_
  rintro _ h28 - ⟨rfl, K29, F30, F31⟩
  refine KW.any (P' := ([], fun _ => False)) ?_
  show KW false l Z M_vof n0 (fun v h => ∃ a t, v = some (.ref a) ∧ Keep h0 h [] ∧ Sg Z h a t [nbI p]) ([], fun _ => False) h28 2 5 25 #[.val (.int p)] [(.ref a1)]
  have f32 := (f27.trans K29 (allS (Or.inr gh10) all0))
  have f33 := (f24.keep K29)
  have f34 := (D17.keep K29 (ninS (Ne.symm ne23) nin0))
  exact k_retRef d_vof_25 rfl rfl rfl (by decide) (by decide) ⟨a1, d14, rfl, f32, ⟨ck20, f33, F30, F31, f34, by simp⟩⟩
theorem mt_vof (l : Launch) (Z : State) (a0 : Array Value) (hw : ∀ d ∈ tables_1, d.before a0 Z = true) (cs : Int32) (hcs : ¬ cs = 0) (SC : Sta Z Z.heap "java/lang/String" "COMPACT_STRINGS" "Z" (.int cs)) (hEW : EW Z a0 EL) (p : Int32) (h0 : Heap) (n0 : Nat) (OD : Old Z n0 h0) (hp : Ch p) : Mt l Z M_vof [] n0 #[(.int p)] h0 (fun v h => ∃ a t, v = some (.ref a) ∧ Keep h0 h [] ∧ Sg Z h a t [nbI p]) :=
  mt_of_kw (P := ([], fun _ => False)) pf_vof (fun m => by first | (simp [entryFrame, mkF, argsToLocals, Value.category]; done) | rfl) (kw_vof l Z a0 hw cs hcs SC hEW p h0 n0 OD hp)
abbrev M_txt : MD := ((⟨"com/example/liburiref/liburiref/UriReferenceEqualsPinLaw", "text", "(ICC)Ljava/lang/String;"⟩ : MethodName), method_2_code, 3, (some (.object "java/lang/String")), { frames := 4, cells := 6, slots := 14, locals := 96 })
theorem d_txt_0 : decode method_2_code 0 = .ok (.iload_n 0, 1) := by decide +kernel
theorem d_txt_1 : decode method_2_code 1 = .ok (.ifCond .ne 14, 3) := by decide +kernel
theorem d_txt_4 : decode method_2_code 4 = .ok (.new 7, 3) := by decide +kernel
theorem d_txt_7 : decode method_2_code 7 = .ok (.dup, 1) := by decide +kernel
theorem d_txt_8 : decode method_2_code 8 = .ok (.iconst 0, 1) := by decide +kernel
theorem d_txt_9 : decode method_2_code 9 = .ok (.newarray .char, 2) := by decide +kernel
theorem d_txt_11 : decode method_2_code 11 = .ok (.invokespecial 9, 3) := by decide +kernel
theorem d_txt_14 : decode method_2_code 14 = .ok (.areturn, 1) := by decide +kernel
theorem d_txt_15 : decode method_2_code 15 = .ok (.iload_n 0, 1) := by decide +kernel
theorem d_txt_16 : decode method_2_code 16 = .ok (.iconst 1, 1) := by decide +kernel
theorem d_txt_17 : decode method_2_code 17 = .ok (.if_icmp .ne 8, 3) := by decide +kernel
theorem d_txt_20 : decode method_2_code 20 = .ok (.iload_n 1, 1) := by decide +kernel
theorem d_txt_21 : decode method_2_code 21 = .ok (.invokestatic 12, 3) := by decide +kernel
theorem d_txt_24 : decode method_2_code 24 = .ok (.areturn, 1) := by decide +kernel
theorem d_txt_25 : decode method_2_code 25 = .ok (.new 7, 3) := by decide +kernel
theorem d_txt_28 : decode method_2_code 28 = .ok (.dup, 1) := by decide +kernel
theorem d_txt_29 : decode method_2_code 29 = .ok (.iconst 2, 1) := by decide +kernel
theorem d_txt_30 : decode method_2_code 30 = .ok (.newarray .char, 2) := by decide +kernel
theorem d_txt_32 : decode method_2_code 32 = .ok (.dup, 1) := by decide +kernel
theorem d_txt_33 : decode method_2_code 33 = .ok (.iconst 0, 1) := by decide +kernel
theorem d_txt_34 : decode method_2_code 34 = .ok (.iload_n 1, 1) := by decide +kernel
theorem d_txt_35 : decode method_2_code 35 = .ok (.castore, 1) := by decide +kernel
theorem d_txt_36 : decode method_2_code 36 = .ok (.dup, 1) := by decide +kernel
theorem d_txt_37 : decode method_2_code 37 = .ok (.iconst 1, 1) := by decide +kernel
theorem d_txt_38 : decode method_2_code 38 = .ok (.iload_n 2, 1) := by decide +kernel
theorem d_txt_39 : decode method_2_code 39 = .ok (.castore, 1) := by decide +kernel
theorem d_txt_40 : decode method_2_code 40 = .ok (.invokespecial 9, 3) := by decide +kernel
theorem d_txt_43 : decode method_2_code 43 = .ok (.areturn, 1) := by decide +kernel
theorem pd_txt : parseMethodDescriptor "(ICC)Ljava/lang/String;" = some ⟨[.int, .char, .char], (some (.object "java/lang/String"))⟩ := by decide +kernel
theorem pf_txt : plainFor (⟨"com/example/liburiref/liburiref/UriReferenceEqualsPinLaw", "text", "(ICC)Ljava/lang/String;"⟩ : MethodName) = true := by first | exact plainFor_of_name (by first | (simp [plainName, overriddenIn]; done) | decide +kernel) | decide +kernel
set_option maxRecDepth 65536 in
set_option maxHeartbeats 40000000 in
theorem kw_txt (l : Launch) (Z : State) (a0 : Array Value) (hw : ∀ d ∈ tables_1, d.before a0 Z = true) (cs : Int32) (hcs : ¬ cs = 0) (SC : Sta Z Z.heap "java/lang/String" "COMPACT_STRINGS" "Z" (.int cs)) (hEW : EW Z a0 EL) (n p q : Int32) (h0 : Heap) (n0 : Nat) (OD : Old Z n0 h0) (hp : Ch p) (hq : Ch q) : KW true l Z M_txt n0 (fun v h => ∃ a t, v = some (.ref a) ∧ Keep h0 h [] ∧ Sg Z h a t (tx n p q)) (EL, fun _ => False) h0 0 0 0 #[.val (.int n), .val (.int p), .val (.int q)] [] := by
  have Z0 := OD.1 ▸ OD.2.1
  have K0 : Keep h0 h0 [] := Keep.refl _ _
  refine k_iloadN d_txt_0 rfl rfl ?_
  refine k_ifc (pc1 := 15) (pc' := 4) d_txt_1 (by decide) (by decide) rfl (fun (cd1 : ¬ n = (0 : Int32)) => ?_) (fun (cd1 : n = (0 : Int32)) => ?_)
  · skip
    refine k_iloadN d_txt_15 rfl rfl ?_
    refine k_iconst (z := (1 : Int32)) d_txt_16 rfl (by decide) ?_
    refine k_icmp (pc1 := 25) (pc' := 20) d_txt_17 (by decide) (by decide) rfl (fun (cd2 : ¬ n = (1 : Int32)) => ?_) (fun (cd2 : n = (1 : Int32)) => ?_)
    · skip
      refine k_new d_txt_25 rfl (hw _ (List.mem_of_getElem? (i := 4) rfl)) (hw _ (List.mem_of_getElem? (i := 5) rfl)) (hw _ (List.mem_of_getElem? (i := 6) rfl)) (by decide) (by decide) ?_
      intro h2 a1 g6 E3 A4 D5
      have z7 : n0 ≤ h0.size := Z0
      have ge8 : n0 ≤ a1 := Nat.le_trans z7 (Nat.le_of_eq g6.symm)
      have gl9 : h0.size ≤ a1 := Nat.le_of_eq g6.symm
      have gh10 := Nat.le_trans K0.1 gl9
      have F11 : Fld Z h2 a1 "java/lang/String" "value" "[B" .null := D5 (Or.inr (hw _ (List.mem_of_getElem? (i := 20) rfl))) (ty := (.array .byte)) (by decide)
      have F12 : Fld Z h2 a1 "java/lang/String" "coder" "B" (.int (0 : Int32)) := D5 (Or.inr (hw _ (List.mem_of_getElem? (i := 21) rfl))) (ty := .byte) (by decide)
      refine KW.sub (S' := fun x => x = a1) (fun x hx => ?_) ?_
      · rcases hx with rfl
        · exact Or.inr ⟨gl9, A4.lt⟩
      show KW true l Z M_txt n0 (fun v h => ∃ a t, v = some (.ref a) ∧ Keep h0 h [] ∧ Sg Z h a t (tx n p q)) (EL, fun x => x = a1) h2 1 4 28 #[.val (.int n), .val (.int p), .val (.int q)] [(.ref a1)]
      refine k_dup d_txt_28 rfl rfl ?_
      refine k_iconst (z := (2 : Int32)) d_txt_29 rfl (by decide) ?_
      refine k_newarr (cap := 2) d_txt_30 rfl (hw _ (List.mem_of_getElem? (i := 7) rfl)) (by decide) (by decide) (by decide) (by decide) (by decide) ?_
      intro h14 a13 ck18 g17 E15 V16
      have ne19 : a1 ≠ a13 := Nat.ne_of_lt (Nat.lt_of_lt_of_eq A4.lt g17.symm)
      have z21 : n0 ≤ h2.size := (Nat.le_trans z7 E3.1)
      have ge20 : n0 ≤ a13 := Nat.le_trans z21 (Nat.le_of_eq g17.symm)
      have gl22 : h2.size ≤ a13 := Nat.le_of_eq g17.symm
      have f23 := (K0.ext E3)
      have gh24 := Nat.le_trans f23.1 gl22
      have V25 : Arv Z h14 a13 ck18 .char (2 : Int32) [(.int (0 : Int32)), (.int (0 : Int32))] (.int (0 : Int32)) := Arv.pad V16 (pad_rep [] _ 2)
      refine KW.sub (S' := fun x => x = a1 ∨ x = a13) (fun x hx => ?_) ?_
      · rcases hx with rfl | rfl
        · exact Or.inl rfl
        · exact Or.inr ⟨gl22, V25.lt⟩
      show KW true l Z M_txt n0 (fun v h => ∃ a t, v = some (.ref a) ∧ Keep h0 h [] ∧ Sg Z h a t (tx n p q)) (EL, fun x => x = a1 ∨ x = a13) h14 2 6 32 #[.val (.int n), .val (.int p), .val (.int q)] [(.ref a13), (.ref a1), (.ref a1)]
      refine k_dup d_txt_32 rfl rfl ?_
      refine k_iconst (z := (0 : Int32)) d_txt_33 rfl (by decide) ?_
      refine k_iloadN d_txt_34 rfl rfl ?_
      refine k_castore (i := 0) d_txt_35 rfl V25 (by decide) (by decide) (by simp) ge20 (fun _ => Or.inl (Or.inr rfl)) ?_
      intro h26 W27 V28
      have V29 : Arv Z h26 a13 ck18 .char (2 : Int32) [(.int (nar .char p)), (.int (0 : Int32))] (.int (0 : Int32)) := V28
      show KW true l Z M_txt n0 (fun v h => ∃ a t, v = some (.ref a) ∧ Keep h0 h [] ∧ Sg Z h a t (tx n p q)) (EL, fun x => x = a1 ∨ x = a13) h26 2 6 36 #[.val (.int n), .val (.int p), .val (.int q)] [(.ref a13), (.ref a1), (.ref a1)]
      refine k_dup d_txt_36 rfl rfl ?_
      refine k_iconst (z := (1 : Int32)) d_txt_37 rfl (by decide) ?_
      refine k_iloadN d_txt_38 rfl rfl ?_
      refine k_castore (i := 1) d_txt_39 rfl V29 (by decide) (by decide) (by simp) ge20 (fun _ => Or.inl (Or.inr rfl)) ?_
      intro h30 W31 V32
      have V33 : Arv Z h30 a13 ck18 .char (2 : Int32) [(.int (nar .char p)), (.int (nar .char q))] (.int (0 : Int32)) := V32
      show KW true l Z M_txt n0 (fun v h => ∃ a t, v = some (.ref a) ∧ Keep h0 h [] ∧ Sg Z h a t (tx n p q)) (EL, fun x => x = a1 ∨ x = a13) h30 2 6 40 #[.val (.int n), .val (.int p), .val (.int q)] [(.ref a13), (.ref a1), (.ref a1)]
      refine KW.sub (S' := fun x => x = a1) (fun x hx => (Or.inl hx)) ?_
      show KW true l Z M_txt n0 (fun v h => ∃ a t, v = some (.ref a) ∧ Keep h0 h [] ∧ Sg Z h a t (tx n p q)) (EL, fun x => x = a1) h30 2 6 40 #[.val (.int n), .val (.int p), .val (.int q)] [(.ref a13), (.ref a1), (.ref a1)]
      have A34 := V33
      rw [narc hp, narc hq] at A34
      have f35 := ((((OD.ext E3).ext E15).wr W27 ge20).wr W31 ge20)
      have f36 := (((A4.ext E15).wr W27).wr W31)
      have f37 := (((F12.ext E15).other W27 (Or.inl ne19)).other W31 (Or.inl ne19))
      have f38 := (((F11.ext E15).other W27 (Or.inl ne19)).other W31 (Or.inl ne19))
      have f39 := (((f23.ext E15).wr W27 (Or.inr gh24)).wr W31 (Or.inr gh24))
      refine k_callInitW (a := a1) (argsL := [(.ref a13)]) (rest := [(.ref a1)]) (W0 := 1) d_txt_40 rfl (mt_s1 l Z a0 hw cs hcs SC hEW a1 a13 ck18 [p, q] h30 n0 (by simp) (Latin.cons hp (Latin.cons hq Latin.nil)) f35 f36 f37 f38 A34 ge8) rfl rfl (hw _ (List.mem_of_getElem? (i := 8) rfl)) (hw _ (List.mem_of_getElem? (i := 9) rfl)) (hw _ (List.mem_of_getElem? (i := 6) rfl)) (hw _ (List.mem_of_getElem? (i := 10) rfl)) (by decide) pd_s1 rfl rfl rfl rfl (by decide) (by decide) (by decide) (by decide) ?_
      rintro _ h40 - ⟨rfl, t41, SG42, K43⟩
      show KW true l Z M_txt n0 (fun v h => ∃ a t, v = some (.ref a) ∧ Keep h0 h [] ∧ Sg Z h a t (tx n p q)) (EL, fun x => x = a1) h40 6 14 43 #[.val (.int n), .val (.int p), .val (.int q)] [(.ref a1)]
      have f44 := (f39.trans K43 (allS (Or.inr gh10) all0))
      exact k_retRef d_txt_43 rfl rfl rfl (by decide) (by decide) ⟨a1, t41, rfl, f44, by rw [show tx n p q = _ from congrArg (List.map nbI) (chs2 (by assumption) (by assumption))]; exact SG42⟩
    · skip
      refine k_iloadN d_txt_20 rfl rfl ?_
      refine k_callStatic (argsL := [(.int p)]) (rest := []) (W0 := 0) d_txt_21 rfl (mt_vof l Z a0 hw cs hcs SC hEW p h0 n0 OD hp) (fun _ _ _ q => by obtain ⟨_, _, -, K, -⟩ := q; exact ⟨[], K, fun _ z => nomatch z⟩) (hw _ (List.mem_of_getElem? (i := 70) rfl)) (hw _ (List.mem_of_getElem? (i := 71) rfl)) (hw _ (List.mem_of_getElem? (i := 6) rfl)) (hw _ (List.mem_of_getElem? (i := 72) rfl)) (by decide) pd_vof rfl rfl rfl rfl (by decide) (by decide) (by decide) (by decide) ?_
      rintro _ h45 - ⟨a46, t47, rfl, K49, SG48⟩
      refine KW.sub (S' := fun _ => False) (fun x hx => hx.elim) ?_
      show KW true l Z M_txt n0 (fun v h => ∃ a t, v = some (.ref a) ∧ Keep h0 h [] ∧ Sg Z h a t (tx n p q)) (EL, fun _ => False) h45 2 5 24 #[.val (.int n), .val (.int p), .val (.int q)] [(.ref a46)]
      have f50 := (K0.trans K49 all0)
      exact k_retRef d_txt_24 rfl rfl rfl (by decide) (by decide) ⟨a46, t47, rfl, f50, by rw [show tx n p q = _ from congrArg (List.map nbI) (chs1 (by assumption) (by assumption))]; exact SG48⟩
  · skip
    refine k_new d_txt_4 rfl (hw _ (List.mem_of_getElem? (i := 4) rfl)) (hw _ (List.mem_of_getElem? (i := 5) rfl)) (hw _ (List.mem_of_getElem? (i := 6) rfl)) (by decide) (by decide) ?_
    intro h52 a51 g56 E53 A54 D55
    have z57 : n0 ≤ h0.size := Z0
    have ge58 : n0 ≤ a51 := Nat.le_trans z57 (Nat.le_of_eq g56.symm)
    have gl59 : h0.size ≤ a51 := Nat.le_of_eq g56.symm
    have gh60 := Nat.le_trans K0.1 gl59
    have F61 : Fld Z h52 a51 "java/lang/String" "value" "[B" .null := D55 (Or.inr (hw _ (List.mem_of_getElem? (i := 20) rfl))) (ty := (.array .byte)) (by decide)
    have F62 : Fld Z h52 a51 "java/lang/String" "coder" "B" (.int (0 : Int32)) := D55 (Or.inr (hw _ (List.mem_of_getElem? (i := 21) rfl))) (ty := .byte) (by decide)
    refine KW.sub (S' := fun x => x = a51) (fun x hx => ?_) ?_
    · rcases hx with rfl
      · exact Or.inr ⟨gl59, A54.lt⟩
    show KW true l Z M_txt n0 (fun v h => ∃ a t, v = some (.ref a) ∧ Keep h0 h [] ∧ Sg Z h a t (tx n p q)) (EL, fun x => x = a51) h52 1 4 7 #[.val (.int n), .val (.int p), .val (.int q)] [(.ref a51)]
    refine k_dup d_txt_7 rfl rfl ?_
    refine k_iconst (z := (0 : Int32)) d_txt_8 rfl (by decide) ?_
    refine k_newarr (cap := 0) d_txt_9 rfl (hw _ (List.mem_of_getElem? (i := 7) rfl)) (by decide) (by decide) (by decide) (by decide) (by decide) ?_
    intro h64 a63 ck68 g67 E65 V66
    have ne69 : a51 ≠ a63 := Nat.ne_of_lt (Nat.lt_of_lt_of_eq A54.lt g67.symm)
    have z71 : n0 ≤ h52.size := (Nat.le_trans z57 E53.1)
    have ge70 : n0 ≤ a63 := Nat.le_trans z71 (Nat.le_of_eq g67.symm)
    have gl72 : h52.size ≤ a63 := Nat.le_of_eq g67.symm
    have f73 := (K0.ext E53)
    have gh74 := Nat.le_trans f73.1 gl72
    refine KW.sub (S' := fun x => x = a51 ∨ x = a63) (fun x hx => ?_) ?_
    · rcases hx with rfl | rfl
      · exact Or.inl rfl
      · exact Or.inr ⟨gl72, V66.lt⟩
    show KW true l Z M_txt n0 (fun v h => ∃ a t, v = some (.ref a) ∧ Keep h0 h [] ∧ Sg Z h a t (tx n p q)) (EL, fun x => x = a51 ∨ x = a63) h64 2 4 11 #[.val (.int n), .val (.int p), .val (.int q)] [(.ref a63), (.ref a51), (.ref a51)]
    refine KW.sub (S' := fun x => x = a51) (fun x hx => (Or.inl hx)) ?_
    show KW true l Z M_txt n0 (fun v h => ∃ a t, v = some (.ref a) ∧ Keep h0 h [] ∧ Sg Z h a t (tx n p q)) (EL, fun x => x = a51) h64 2 4 11 #[.val (.int n), .val (.int p), .val (.int q)] [(.ref a63), (.ref a51), (.ref a51)]
    have f75 := ((OD.ext E53).ext E65)
    have f76 := (A54.ext E65)
    have f77 := (F62.ext E65)
    have f78 := (F61.ext E65)
    have f79 := (f73.ext E65)
    refine k_callInitW (a := a51) (argsL := [(.ref a63)]) (rest := [(.ref a51)]) (W0 := 1) d_txt_11 rfl (mt_s1 l Z a0 hw cs hcs SC hEW a51 a63 ck68 [] h64 n0 (by simp) Latin.nil f75 f76 f77 f78 V66 ge58) rfl rfl (hw _ (List.mem_of_getElem? (i := 8) rfl)) (hw _ (List.mem_of_getElem? (i := 9) rfl)) (hw _ (List.mem_of_getElem? (i := 6) rfl)) (hw _ (List.mem_of_getElem? (i := 10) rfl)) (by decide) pd_s1 rfl rfl rfl rfl (by decide) (by decide) (by decide) (by decide) ?_
    rintro _ h80 - ⟨rfl, t81, SG82, K83⟩
    show KW true l Z M_txt n0 (fun v h => ∃ a t, v = some (.ref a) ∧ Keep h0 h [] ∧ Sg Z h a t (tx n p q)) (EL, fun x => x = a51) h80 6 12 14 #[.val (.int n), .val (.int p), .val (.int q)] [(.ref a51)]
    have f84 := (f79.trans K83 (allS (Or.inr gh60) all0))
    exact k_retRef d_txt_14 rfl rfl rfl (by decide) (by decide) ⟨a51, t81, rfl, f84, by rw [show tx n p q = _ from congrArg (List.map nbI) (chs0 (by assumption))]; exact SG82⟩
theorem mt_txt (l : Launch) (Z : State) (a0 : Array Value) (hw : ∀ d ∈ tables_1, d.before a0 Z = true) (cs : Int32) (hcs : ¬ cs = 0) (SC : Sta Z Z.heap "java/lang/String" "COMPACT_STRINGS" "Z" (.int cs)) (hEW : EW Z a0 EL) (n p q : Int32) (h0 : Heap) (n0 : Nat) (OD : Old Z n0 h0) (hp : Ch p) (hq : Ch q) : MtW l Z M_txt [] n0 #[(.int n), (.int p), (.int q)] (EL, fun _ => False) h0 (fun v h => ∃ a t, v = some (.ref a) ∧ Keep h0 h [] ∧ Sg Z h a t (tx n p q)) :=
  mtw_of_kw (a0 := a0) (P := (EL, fun _ => False)) pf_txt hEW (fun m => by first | (simp [entryFrame, mkF, argsToLocals, Value.category]; done) | rfl) (kw_txt l Z a0 hw cs hcs SC hEW n p q h0 n0 OD hp hq)
abbrev M_ui : MD := ((⟨"com/example/liburiref/liburiref/UriReference", "<init>", "(Ljava/lang/String;Ljava/lang/String;Ljava/lang/String;Ljava/lang/String;Ljava/lang/String;Ljava/lang/String;Ljava/lang/String;Ljava/lang/String;)V"⟩ : MethodName), prog_7_method_1_code, 9, none, { frames := 1, cells := 0, slots := 0, locals := 12 })
theorem d_ui_0 : decode prog_7_method_1_code 0 = .ok (.aload_n 0, 1) := by decide +kernel
theorem d_ui_1 : decode prog_7_method_1_code 1 = .ok (.invokespecial 1, 3) := by decide +kernel
theorem d_ui_4 : decode prog_7_method_1_code 4 = .ok (.aload_n 0, 1) := by decide +kernel
theorem d_ui_5 : decode prog_7_method_1_code 5 = .ok (.aload_n 1, 1) := by decide +kernel
theorem d_ui_6 : decode prog_7_method_1_code 6 = .ok (.putfield 7, 3) := by decide +kernel
theorem d_ui_9 : decode prog_7_method_1_code 9 = .ok (.aload_n 0, 1) := by decide +kernel
theorem d_ui_10 : decode prog_7_method_1_code 10 = .ok (.aload_n 2, 1) := by decide +kernel
theorem d_ui_11 : decode prog_7_method_1_code 11 = .ok (.putfield 13, 3) := by decide +kernel
theorem d_ui_14 : decode prog_7_method_1_code 14 = .ok (.aload_n 0, 1) := by decide +kernel
theorem d_ui_15 : decode prog_7_method_1_code 15 = .ok (.aload_n 3, 1) := by decide +kernel
theorem d_ui_16 : decode prog_7_method_1_code 16 = .ok (.putfield 16, 3) := by decide +kernel
theorem d_ui_19 : decode prog_7_method_1_code 19 = .ok (.aload_n 0, 1) := by decide +kernel
theorem d_ui_20 : decode prog_7_method_1_code 20 = .ok (.aload 4, 2) := by decide +kernel
theorem d_ui_22 : decode prog_7_method_1_code 22 = .ok (.putfield 19, 3) := by decide +kernel
theorem d_ui_25 : decode prog_7_method_1_code 25 = .ok (.aload_n 0, 1) := by decide +kernel
theorem d_ui_26 : decode prog_7_method_1_code 26 = .ok (.aload 5, 2) := by decide +kernel
theorem d_ui_28 : decode prog_7_method_1_code 28 = .ok (.putfield 22, 3) := by decide +kernel
theorem d_ui_31 : decode prog_7_method_1_code 31 = .ok (.aload_n 0, 1) := by decide +kernel
theorem d_ui_32 : decode prog_7_method_1_code 32 = .ok (.aload 6, 2) := by decide +kernel
theorem d_ui_34 : decode prog_7_method_1_code 34 = .ok (.putfield 25, 3) := by decide +kernel
theorem d_ui_37 : decode prog_7_method_1_code 37 = .ok (.aload_n 0, 1) := by decide +kernel
theorem d_ui_38 : decode prog_7_method_1_code 38 = .ok (.aload 7, 2) := by decide +kernel
theorem d_ui_40 : decode prog_7_method_1_code 40 = .ok (.putfield 28, 3) := by decide +kernel
theorem d_ui_43 : decode prog_7_method_1_code 43 = .ok (.aload_n 0, 1) := by decide +kernel
theorem d_ui_44 : decode prog_7_method_1_code 44 = .ok (.aload 8, 2) := by decide +kernel
theorem d_ui_46 : decode prog_7_method_1_code 46 = .ok (.putfield 31, 3) := by decide +kernel
theorem d_ui_49 : decode prog_7_method_1_code 49 = .ok (.return_, 1) := by decide +kernel
theorem pd_ui : parseMethodDescriptor "(Ljava/lang/String;Ljava/lang/String;Ljava/lang/String;Ljava/lang/String;Ljava/lang/String;Ljava/lang/String;Ljava/lang/String;Ljava/lang/String;)V" = some ⟨[(.object "java/lang/String"), (.object "java/lang/String"), (.object "java/lang/String"), (.object "java/lang/String"), (.object "java/lang/String"), (.object "java/lang/String"), (.object "java/lang/String"), (.object "java/lang/String")], none⟩ := by decide +kernel
theorem pf_ui : plainFor (⟨"com/example/liburiref/liburiref/UriReference", "<init>", "(Ljava/lang/String;Ljava/lang/String;Ljava/lang/String;Ljava/lang/String;Ljava/lang/String;Ljava/lang/String;Ljava/lang/String;Ljava/lang/String;)V"⟩ : MethodName) = true := by first | exact plainFor_of_name (by first | (simp [plainName, overriddenIn]; done) | decide +kernel) | decide +kernel
set_option maxRecDepth 65536 in
set_option maxHeartbeats 40000000 in
theorem kw_ui (l : Launch) (Z : State) (a0 : Array Value) (hw : ∀ d ∈ tables_1, d.before a0 Z = true) (cs : Int32) (hcs : ¬ cs = 0) (SC : Sta Z Z.heap "java/lang/String" "COMPACT_STRINGS" "Z" (.int cs)) (hEW : EW Z a0 EL) (o u : Addr) (w2 w3 w4 w5 w6 w7 w8 : Value) (hw2 : w2.isRef = true) (hw3 : w3.isRef = true) (hw4 : w4.isRef = true) (hw5 : w5.isRef = true) (hw6 : w6.isRef = true) (hw7 : w7.isRef = true) (hw8 : w8.isRef = true) (h0 : Heap) (n0 : Nat) (go : n0 ≤ o) (EO : Exa Z h0 o "com/example/liburiref/liburiref/UriReference") (GF0 : Fld Z h0 o "com/example/liburiref/liburiref/UriReference" "text" "Ljava/lang/String;" .null) (GF1 : Fld Z h0 o "com/example/liburiref/liburiref/UriReference" "scheme" "Ljava/lang/String;" .null) (GF2 : Fld Z h0 o "com/example/liburiref/liburiref/UriReference" "userInfo" "Ljava/lang/String;" .null) (GF3 : Fld Z h0 o "com/example/liburiref/liburiref/UriReference" "host" "Ljava/lang/String;" .null) (GF4 : Fld Z h0 o "com/example/liburiref/liburiref/UriReference" "port" "Ljava/lang/String;" .null) (GF5 : Fld Z h0 o "com/example/liburiref/liburiref/UriReference" "path" "Ljava/lang/String;" .null) (GF6 : Fld Z h0 o "com/example/liburiref/liburiref/UriReference" "query" "Ljava/lang/String;" .null) (GF7 : Fld Z h0 o "com/example/liburiref/liburiref/UriReference" "fragment" "Ljava/lang/String;" .null) : KW false l Z M_ui n0 (fun v h => v = none ∧ Keep h0 h [o] ∧ Fld Z h o "com/example/liburiref/liburiref/UriReference" "text" "Ljava/lang/String;" (.ref u)) ([], fun _ => False) h0 0 0 0 #[.val (.ref o), .val (.ref u), .val w2, .val w3, .val w4, .val w5, .val w6, .val w7, .val w8] [] := by
  have K0 : Keep h0 h0 [o] := Keep.refl _ _
  refine k_aloadN d_ui_0 rfl rfl rfl ?_
  refine k_initObj (W0 := 0) d_ui_1 rfl (hw _ (List.mem_of_getElem? (i := 33) rfl)) (hw _ (List.mem_of_getElem? (i := 16) rfl)) (hw _ (List.mem_of_getElem? (i := 17) rfl)) rfl rfl (by decide) (by decide) ?_
  refine k_aloadN d_ui_4 rfl rfl rfl ?_
  refine k_aloadN d_ui_5 rfl rfl rfl ?_
  refine k_put (v' := (.ref u)) (ty := (.object "java/lang/String")) d_ui_6 rfl (hw _ (List.mem_of_getElem? (i := 34) rfl)) Via.refl GF0 EO (Or.inr ⟨(hw _ (List.mem_of_getElem? (i := 35) rfl)), rfl, rfl⟩) (hw _ (List.mem_of_getElem? (i := 28) rfl)) (by decide) rfl rfl go (fun q => by cases q) ?_
  intro h1 W2
  have F3 := GF0.same W2
  show KW false l Z M_ui n0 (fun v h => v = none ∧ Keep h0 h [o] ∧ Fld Z h o "com/example/liburiref/liburiref/UriReference" "text" "Ljava/lang/String;" (.ref u)) ([], fun _ => False) h1 0 0 9 #[.val (.ref o), .val (.ref u), .val w2, .val w3, .val w4, .val w5, .val w6, .val w7, .val w8] []
  refine k_aloadN d_ui_9 rfl rfl rfl ?_
  refine k_aloadN d_ui_10 rfl rfl hw2 ?_
  have f6 := (GF1.other W2 (Or.inr (slot_ne (t := (.object "java/lang/String")) (t' := (.object "java/lang/String")) (Or.inr (hw _ (List.mem_of_getElem? (i := 37) rfl))) (Or.inr (hw _ (List.mem_of_getElem? (i := 35) rfl))) (by decide) (by decide) (by decide))))
  have f7 := (EO.wr W2)
  refine k_put (v' := w2) (ty := (.object "java/lang/String")) d_ui_11 rfl (hw _ (List.mem_of_getElem? (i := 36) rfl)) Via.refl f6 f7 (Or.inr ⟨(hw _ (List.mem_of_getElem? (i := 37) rfl)), rfl, rfl⟩) (hw _ (List.mem_of_getElem? (i := 28) rfl)) (by decide) (nar_ref hw2) (fit_ref hw2) go (fun q => by cases q) ?_
  intro h4 W5
  have F8 := f6.same W5
  show KW false l Z M_ui n0 (fun v h => v = none ∧ Keep h0 h [o] ∧ Fld Z h o "com/example/liburiref/liburiref/UriReference" "text" "Ljava/lang/String;" (.ref u)) ([], fun _ => False) h4 0 0 14 #[.val (.ref o), .val (.ref u), .val w2, .val w3, .val w4, .val w5, .val w6, .val w7, .val w8] []
  refine k_aloadN d_ui_14 rfl rfl rfl ?_
  refine k_aloadN d_ui_15 rfl rfl hw3 ?_
  have f11 := ((GF2.other W2 (Or.inr (slot_ne (t := (.object "java/lang/String")) (t' := (.object "java/lang/String")) (Or.inr (hw _ (List.mem_of_getElem? (i := 39) rfl))) (Or.inr (hw _ (List.mem_of_getElem? (i := 35) rfl))) (by decide) (by decide) (by decide)))).other W5 (Or.inr (slot_ne (t := (.object "java/lang/String")) (t' := (.object "java/lang/String")) (Or.inr (hw _ (List.mem_of_getElem? (i := 39) rfl))) (Or.inr (hw _ (List.mem_of_getElem? (i := 37) rfl))) (by decide) (by decide) (by decide))))
  have f12 := (f7.wr W5)
  refine k_put (v' := w3) (ty := (.object "java/lang/String")) d_ui_16 rfl (hw _ (List.mem_of_getElem? (i := 38) rfl)) Via.refl f11 f12 (Or.inr ⟨(hw _ (List.mem_of_getElem? (i := 39) rfl)), rfl, rfl⟩) (hw _ (List.mem_of_getElem? (i := 28) rfl)) (by decide) (nar_ref hw3) (fit_ref hw3) go (fun q => by cases q) ?_
  intro h9 W10
  have F13 := f11.same W10
  show KW false l Z M_ui n0 (fun v h => v = none ∧ Keep h0 h [o] ∧ Fld Z h o "com/example/liburiref/liburiref/UriReference" "text" "Ljava/lang/String;" (.ref u)) ([], fun _ => False) h9 0 0 19 #[.val (.ref o), .val (.ref u), .val w2, .val w3, .val w4, .val w5, .val w6, .val w7, .val w8] []
  refine k_aloadN d_ui_19 rfl rfl rfl ?_
  refine k_aload d_ui_20 rfl rfl hw4 ?_
  have f16 := (((GF3.other W2 (Or.inr (slot_ne (t := (.object "java/lang/String")) (t' := (.object "java/lang/String")) (Or.inr (hw _ (List.mem_of_getElem? (i := 41) rfl))) (Or.inr (hw _ (List.mem_of_getElem? (i := 35) rfl))) (by decide) (by decide) (by decide)))).other W5 (Or.inr (slot_ne (t := (.object "java/lang/String")) (t' := (.object "java/lang/String")) (Or.inr (hw _ (List.mem_of_getElem? (i := 41) rfl))) (Or.inr (hw _ (List.mem_of_getElem? (i := 37) rfl))) (by decide) (by decide) (by decide)))).other W10 (Or.inr (slot_ne (t := (.object "java/lang/String")) (t' := (.object "java/lang/String")) (Or.inr (hw _ (List.mem_of_getElem? (i := 41) rfl))) (Or.inr (hw _ (List.mem_of_getElem? (i := 39) rfl))) (by decide) (by decide) (by decide))))
  have f17 := (f12.wr W10)
  refine k_put (v' := w4) (ty := (.object "java/lang/String")) d_ui_22 rfl (hw _ (List.mem_of_getElem? (i := 40) rfl)) Via.refl f16 f17 (Or.inr ⟨(hw _ (List.mem_of_getElem? (i := 41) rfl)), rfl, rfl⟩) (hw _ (List.mem_of_getElem? (i := 28) rfl)) (by decide) (nar_ref hw4) (fit_ref hw4) go (fun q => by cases q) ?_
  intro h14 W15
  have F18 := f16.same W15
  show KW false l Z M_ui n0 (fun v h => v = none ∧ Keep h0 h [o] ∧ Fld Z h o "com/example/liburiref/liburiref/UriReference" "text" "Ljava/lang/String;" (.ref u)) ([], fun _ => False) h14 0 0 25 #[.val (.ref o), .val (.ref u), .val w2, .val w3, .val w4, .val w5, .val w6, .val w7, .val w8] []
  refine k_aloadN d_ui_25 rfl rfl rfl ?_
  refine k_aload d_ui_26 rfl rfl hw5 ?_
  have f21 := ((((GF4.other W2 (Or.inr (slot_ne (t := (.object "java/lang/String")) (t' := (.object "java/lang/String")) (Or.inr (hw _ (List.mem_of_getElem? (i := 43) rfl))) (Or.inr (hw _ (List.mem_of_getElem? (i := 35) rfl))) (by decide) (by decide) (by decide)))).other W5 (Or.inr (slot_ne (t := (.object "java/lang/String")) (t' := (.object "java/lang/String")) (Or.inr (hw _ (List.mem_of_getElem? (i := 43) rfl))) (Or.inr (hw _ (List.mem_of_getElem? (i := 37) rfl))) (by decide) (by decide) (by decide)))).other W10 (Or.inr (slot_ne (t := (.object "java/lang/String")) (t' := (.object "java/lang/String")) (Or.inr (hw _ (List.mem_of_getElem? (i := 43) rfl))) (Or.inr (hw _ (List.mem_of_getElem? (i := 39) rfl))) (by decide) (by decide) (by decide)))).other W15 (Or.inr (slot_ne (t := (.object "java/lang/String")) (t' := (.object "java/lang/String")) (Or.inr (hw _ (List.mem_of_getElem? (i := 43) rfl))) (Or.inr (hw _ (List.mem_of_getElem? (i := 41) rfl))) (by decide) (by decide) (by decide))))
  have f22 := (f17.wr W15)
  refine k_put (v' := w5) (ty := (.object "java/lang/String")) d_ui_28 rfl (hw _ (List.mem_of_getElem? (i := 42) rfl)) Via.refl f21 f22 (Or.inr ⟨(hw _ (List.mem_of_getElem? (i := 43) rfl)), rfl, rfl⟩) (hw _ (List.mem_of_getElem? (i := 28) rfl)) (by decide) (nar_ref hw5) (fit_ref hw5) go (fun q => by cases q) ?_
  intro h19 W20
  have F23 := f21.same W20
  show KW false l Z M_ui n0 (fun v h => v = none ∧ Keep h0 h [o] ∧ Fld Z h o "com/example/liburiref/liburiref/UriReference" "text" "Ljava/lang/String;" (.ref u)) ([], fun _ => False) h19 0 0 31 #[.val (.ref o), .val (.ref u), .val w2, .val w3, .val w4, .val w5, .val w6, .val w7, .val w8] []
  refine k_aloadN d_ui_31 rfl rfl rfl ?_
  refine k_aload d_ui_32 rfl rfl hw6 ?_
  have f26 := (((((GF5.other W2 (Or.inr (slot_ne (t := (.object "java/lang/String")) (t' := (.object "java/lang/String")) (Or.inr (hw _ (List.mem_of_getElem? (i := 45) rfl))) (Or.inr (hw _ (List.mem_of_getElem? (i := 35) rfl))) (by decide) (by decide) (by decide)))).other W5 (Or.inr (slot_ne (t := (.object "java/lang/String")) (t' := (.object "java/lang/String")) (Or.inr (hw _ (List.mem_of_getElem? (i := 45) rfl))) (Or.inr (hw _ (List.mem_of_getElem? (i := 37) rfl))) (by decide) (by decide) (by decide)))).other W10 (Or.inr (slot_ne (t := (.object "java/lang/String")) (t' := (.object "java/lang/String")) (Or.inr (hw _ (List.mem_of_getElem? (i := 45) rfl))) (Or.inr (hw _ (List.mem_of_getElem? (i := 39) rfl))) (by decide) (by decide) (by decide)))).other W15 (Or.inr (slot_ne (t := (.object "java/lang/String")) (t' := (.object "java/lang/String")) (Or.inr (hw _ (List.mem_of_getElem? (i := 45) rfl))) (Or.inr (hw _ (List.mem_of_getElem? (i := 41) rfl))) (by decide) (by decide) (by decide)))).other W20 (Or.inr (slot_ne (t := (.object "java/lang/String")) (t' := (.object "java/lang/String")) (Or.inr (hw _ (List.mem_of_getElem? (i := 45) rfl))) (Or.inr (hw _ (List.mem_of_getElem? (i := 43) rfl))) (by decide) (by decide) (by decide))))
  have f27 := (f22.wr W20)
  refine k_put (v' := w6) (ty := (.object "java/lang/String")) d_ui_34 rfl (hw _ (List.mem_of_getElem? (i := 44) rfl)) Via.refl f26 f27 (Or.inr ⟨(hw _ (List.mem_of_getElem? (i := 45) rfl)), rfl, rfl⟩) (hw _ (List.mem_of_getElem? (i := 28) rfl)) (by decide) (nar_ref hw6) (fit_ref hw6) go (fun q => by cases q) ?_
  intro h24 W25
  have F28 := f26.same W25
  show KW false l Z M_ui n0 (fun v h => v = none ∧ Keep h0 h [o] ∧ Fld Z h o "com/example/liburiref/liburiref/UriReference" "text" "Ljava/lang/String;" (.ref u)) ([], fun _ => False) h24 0 0 37 #[.val (.ref o), .val (.ref u), .val w2, .val w3, .val w4, .val w5, .val w6, .val w7, .val w8] []
  refine k_aloadN d_ui_37 rfl rfl rfl ?_
  refine k_aload d_ui_38 rfl rfl hw7 ?_
  have f31 := ((((((GF6.other W2 (Or.inr (slot_ne (t := (.object "java/lang/String")) (t' := (.object "java/lang/String")) (Or.inr (hw _ (List.mem_of_getElem? (i := 47) rfl))) (Or.inr (hw _ (List.mem_of_getElem? (i := 35) rfl))) (by decide) (by decide) (by decide)))).other W5 (Or.inr (slot_ne (t := (.object "java/lang/String")) (t' := (.object "java/lang/String")) (Or.inr (hw _ (List.mem_of_getElem? (i := 47) rfl))) (Or.inr (hw _ (List.mem_of_getElem? (i := 37) rfl))) (by decide) (by decide) (by decide)))).other W10 (Or.inr (slot_ne (t := (.object "java/lang/String")) (t' := (.object "java/lang/String")) (Or.inr (hw _ (List.mem_of_getElem? (i := 47) rfl))) (Or.inr (hw _ (List.mem_of_getElem? (i := 39) rfl))) (by decide) (by decide) (by decide)))).other W15 (Or.inr (slot_ne (t := (.object "java/lang/String")) (t' := (.object "java/lang/String")) (Or.inr (hw _ (List.mem_of_getElem? (i := 47) rfl))) (Or.inr (hw _ (List.mem_of_getElem? (i := 41) rfl))) (by decide) (by decide) (by decide)))).other W20 (Or.inr (slot_ne (t := (.object "java/lang/String")) (t' := (.object "java/lang/String")) (Or.inr (hw _ (List.mem_of_getElem? (i := 47) rfl))) (Or.inr (hw _ (List.mem_of_getElem? (i := 43) rfl))) (by decide) (by decide) (by decide)))).other W25 (Or.inr (slot_ne (t := (.object "java/lang/String")) (t' := (.object "java/lang/String")) (Or.inr (hw _ (List.mem_of_getElem? (i := 47) rfl))) (Or.inr (hw _ (List.mem_of_getElem? (i := 45) rfl))) (by decide) (by decide) (by decide))))
  have f32 := (f27.wr W25)
  refine k_put (v' := w7) (ty := (.object "java/lang/String")) d_ui_40 rfl (hw _ (List.mem_of_getElem? (i := 46) rfl)) Via.refl f31 f32 (Or.inr ⟨(hw _ (List.mem_of_getElem? (i := 47) rfl)), rfl, rfl⟩) (hw _ (List.mem_of_getElem? (i := 28) rfl)) (by decide) (nar_ref hw7) (fit_ref hw7) go (fun q => by cases q) ?_
  intro h29 W30
  have F33 := f31.same W30
  show KW false l Z M_ui n0 (fun v h => v = none ∧ Keep h0 h [o] ∧ Fld Z h o "com/example/liburiref/liburiref/UriReference" "text" "Ljava/lang/String;" (.ref u)) ([], fun _ => False) h29 0 0 43 #[.val (.ref o), .val (.ref u), .val w2, .val w3, .val w4, .val w5, .val w6, .val w7, .val w8] []
  refine k_aloadN d_ui_43 rfl rfl rfl ?_
  refine k_aload d_ui_44 rfl rfl hw8 ?_
  have f36 := (((((((GF7.other W2 (Or.inr (slot_ne (t := (.object "java/lang/String")) (t' := (.object "java/lang/String")) (Or.inr (hw _ (List.mem_of_getElem? (i := 49) rfl))) (Or.inr (hw _ (List.mem_of_getElem? (i := 35) rfl))) (by decide) (by decide) (by decide)))).other W5 (Or.inr (slot_ne (t := (.object "java/lang/String")) (t' := (.object "java/lang/String")) (Or.inr (hw _ (List.mem_of_getElem? (i := 49) rfl))) (Or.inr (hw _ (List.mem_of_getElem? (i := 37) rfl))) (by decide) (by decide) (by decide)))).other W10 (Or.inr (slot_ne (t := (.object "java/lang/String")) (t' := (.object "java/lang/String")) (Or.inr (hw _ (List.mem_of_getElem? (i := 49) rfl))) (Or.inr (hw _ (List.mem_of_getElem? (i := 39) rfl))) (by decide) (by decide) (by decide)))).other W15 (Or.inr (slot_ne (t := (.object "java/lang/String")) (t' := (.object "java/lang/String")) (Or.inr (hw _ (List.mem_of_getElem? (i := 49) rfl))) (Or.inr (hw _ (List.mem_of_getElem? (i := 41) rfl))) (by decide) (by decide) (by decide)))).other W20 (Or.inr (slot_ne (t := (.object "java/lang/String")) (t' := (.object "java/lang/String")) (Or.inr (hw _ (List.mem_of_getElem? (i := 49) rfl))) (Or.inr (hw _ (List.mem_of_getElem? (i := 43) rfl))) (by decide) (by decide) (by decide)))).other W25 (Or.inr (slot_ne (t := (.object "java/lang/String")) (t' := (.object "java/lang/String")) (Or.inr (hw _ (List.mem_of_getElem? (i := 49) rfl))) (Or.inr (hw _ (List.mem_of_getElem? (i := 45) rfl))) (by decide) (by decide) (by decide)))).other W30 (Or.inr (slot_ne (t := (.object "java/lang/String")) (t' := (.object "java/lang/String")) (Or.inr (hw _ (List.mem_of_getElem? (i := 49) rfl))) (Or.inr (hw _ (List.mem_of_getElem? (i := 47) rfl))) (by decide) (by decide) (by decide))))
  have f37 := (f32.wr W30)
  refine k_put (v' := w8) (ty := (.object "java/lang/String")) d_ui_46 rfl (hw _ (List.mem_of_getElem? (i := 48) rfl)) Via.refl f36 f37 (Or.inr ⟨(hw _ (List.mem_of_getElem? (i := 49) rfl)), rfl, rfl⟩) (hw _ (List.mem_of_getElem? (i := 28) rfl)) (by decide) (nar_ref hw8) (fit_ref hw8) go (fun q => by cases q) ?_
  intro h34 W35
  have F38 := f36.same W35
  show KW false l Z M_ui n0 (fun v h => v = none ∧ Keep h0 h [o] ∧ Fld Z h o "com/example/liburiref/liburiref/UriReference" "text" "Ljava/lang/String;" (.ref u)) ([], fun _ => False) h34 0 0 49 #[.val (.ref o), .val (.ref u), .val w2, .val w3, .val w4, .val w5, .val w6, .val w7, .val w8] []
  have f39 := ((((((((K0.wr W2 (Or.inl (by simp))).wr W5 (Or.inl (by simp))).wr W10 (Or.inl (by simp))).wr W15 (Or.inl (by simp))).wr W20 (Or.inl (by simp))).wr W25 (Or.inl (by simp))).wr W30 (Or.inl (by simp))).wr W35 (Or.inl (by simp)))
  have f40 := (((((((F3.other W5 (Or.inr (slot_ne (t := (.object "java/lang/String")) (t' := (.object "java/lang/String")) (Or.inr (hw _ (List.mem_of_getElem? (i := 35) rfl))) (Or.inr (hw _ (List.mem_of_getElem? (i := 37) rfl))) (by decide) (by decide) (by decide)))).other W10 (Or.inr (slot_ne (t := (.object "java/lang/String")) (t' := (.object "java/lang/String")) (Or.inr (hw _ (List.mem_of_getElem? (i := 35) rfl))) (Or.inr (hw _ (List.mem_of_getElem? (i := 39) rfl))) (by decide) (by decide) (by decide)))).other W15 (Or.inr (slot_ne (t := (.object "java/lang/String")) (t' := (.object "java/lang/String")) (Or.inr (hw _ (List.mem_of_getElem? (i := 35) rfl))) (Or.inr (hw _ (List.mem_of_getElem? (i := 41) rfl))) (by decide) (by decide) (by decide)))).other W20 (Or.inr (slot_ne (t := (.object "java/lang/String")) (t' := (.object "java/lang/String")) (Or.inr (hw _ (List.mem_of_getElem? (i := 35) rfl))) (Or.inr (hw _ (List.mem_of_getElem? (i := 43) rfl))) (by decide) (by decide) (by decide)))).other W25 (Or.inr (slot_ne (t := (.object "java/lang/String")) (t' := (.object "java/lang/String")) (Or.inr (hw _ (List.mem_of_getElem? (i := 35) rfl))) (Or.inr (hw _ (List.mem_of_getElem? (i := 45) rfl))) (by decide) (by decide) (by decide)))).other W30 (Or.inr (slot_ne (t := (.object "java/lang/String")) (t' := (.object "java/lang/String")) (Or.inr (hw _ (List.mem_of_getElem? (i := 35) rfl))) (Or.inr (hw _ (List.mem_of_getElem? (i := 47) rfl))) (by decide) (by decide) (by decide)))).other W35 (Or.inr (slot_ne (t := (.object "java/lang/String")) (t' := (.object "java/lang/String")) (Or.inr (hw _ (List.mem_of_getElem? (i := 35) rfl))) (Or.inr (hw _ (List.mem_of_getElem? (i := 49) rfl))) (by decide) (by decide) (by decide))))
  exact k_retVoid d_ui_49 rfl (by decide) (by decide) ⟨rfl, f39, f40⟩
theorem mt_ui (l : Launch) (Z : State) (a0 : Array Value) (hw : ∀ d ∈ tables_1, d.before a0 Z = true) (cs : Int32) (hcs : ¬ cs = 0) (SC : Sta Z Z.heap "java/lang/String" "COMPACT_STRINGS" "Z" (.int cs)) (hEW : EW Z a0 EL) (o u : Addr) (w2 w3 w4 w5 w6 w7 w8 : Value) (hw2 : w2.isRef = true) (hw3 : w3.isRef = true) (hw4 : w4.isRef = true) (hw5 : w5.isRef = true) (hw6 : w6.isRef = true) (hw7 : w7.isRef = true) (hw8 : w8.isRef = true) (h0 : Heap) (n0 : Nat) (go : n0 ≤ o) (EO : Exa Z h0 o "com/example/liburiref/liburiref/UriReference") (GF0 : Fld Z h0 o "com/example/liburiref/liburiref/UriReference" "text" "Ljava/lang/String;" .null) (GF1 : Fld Z h0 o "com/example/liburiref/liburiref/UriReference" "scheme" "Ljava/lang/String;" .null) (GF2 : Fld Z h0 o "com/example/liburiref/liburiref/UriReference" "userInfo" "Ljava/lang/String;" .null) (GF3 : Fld Z h0 o "com/example/liburiref/liburiref/UriReference" "host" "Ljava/lang/String;" .null) (GF4 : Fld Z h0 o "com/example/liburiref/liburiref/UriReference" "port" "Ljava/lang/String;" .null) (GF5 : Fld Z h0 o "com/example/liburiref/liburiref/UriReference" "path" "Ljava/lang/String;" .null) (GF6 : Fld Z h0 o "com/example/liburiref/liburiref/UriReference" "query" "Ljava/lang/String;" .null) (GF7 : Fld Z h0 o "com/example/liburiref/liburiref/UriReference" "fragment" "Ljava/lang/String;" .null) : Mt l Z M_ui [] n0 #[(.ref o), (.ref u), w2, w3, w4, w5, w6, w7, w8] h0 (fun v h => v = none ∧ Keep h0 h [o] ∧ Fld Z h o "com/example/liburiref/liburiref/UriReference" "text" "Ljava/lang/String;" (.ref u)) :=
  mt_of_kw (P := ([], fun _ => False)) pf_ui (fun m => by simp [entryFrame, mkF, argsToLocals, cat_R, cat_ref hw2, cat_ref hw3, cat_ref hw4, cat_ref hw5, cat_ref hw6, cat_ref hw7, cat_ref hw8]) (kw_ui l Z a0 hw cs hcs SC hEW o u w2 w3 w4 w5 w6 w7 w8 hw2 hw3 hw4 hw5 hw6 hw7 hw8 h0 n0 go EO GF0 GF1 GF2 GF3 GF4 GF5 GF6 GF7)
abbrev M_ueq : MD := ((⟨"com/example/liburiref/liburiref/UriReference", "equals", "(Ljava/lang/Object;)Z"⟩ : MethodName), prog_7_method_41_code, 3, (some .boolean), { frames := 2, cells := 0, slots := 0, locals := 40 })
theorem d_ueq_0 : decode prog_7_method_41_code 0 = .ok (.aload_n 1, 1) := by decide +kernel
theorem d_ueq_1 : decode prog_7_method_41_code 1 = .ok (.instanceof 8, 3) := by decide +kernel
theorem d_ueq_4 : decode prog_7_method_41_code 4 = .ok (.ifCond .eq 26, 3) := by decide +kernel
theorem d_ueq_7 : decode prog_7_method_41_code 7 = .ok (.aload_n 1, 1) := by decide +kernel
theorem d_ueq_8 : decode prog_7_method_41_code 8 = .ok (.checkcast 8, 3) := by decide +kernel
theorem d_ueq_11 : decode prog_7_method_41_code 11 = .ok (.astore_n 2, 1) := by decide +kernel
theorem d_ueq_12 : decode prog_7_method_41_code 12 = .ok (.aload_n 0, 1) := by decide +kernel
theorem d_ueq_13 : decode prog_7_method_41_code 13 = .ok (.getfield 7, 3) := by decide +kernel
theorem d_ueq_16 : decode prog_7_method_41_code 16 = .ok (.aload_n 2, 1) := by decide +kernel
theorem d_ueq_17 : decode prog_7_method_41_code 17 = .ok (.getfield 7, 3) := by decide +kernel
theorem d_ueq_20 : decode prog_7_method_41_code 20 = .ok (.invokevirtual 162, 3) := by decide +kernel
theorem d_ueq_23 : decode prog_7_method_41_code 23 = .ok (.ifCond .eq 7, 3) := by decide +kernel
theorem d_ueq_26 : decode prog_7_method_41_code 26 = .ok (.iconst 1, 1) := by decide +kernel
theorem d_ueq_27 : decode prog_7_method_41_code 27 = .ok (.goto 4, 3) := by decide +kernel
theorem d_ueq_30 : decode prog_7_method_41_code 30 = .ok (.iconst 0, 1) := by decide +kernel
theorem d_ueq_31 : decode prog_7_method_41_code 31 = .ok (.ireturn, 1) := by decide +kernel
theorem pd_ueq : parseMethodDescriptor "(Ljava/lang/Object;)Z" = some ⟨[(.object "java/lang/Object")], (some .boolean)⟩ := by decide +kernel
theorem pf_ueq : plainFor (⟨"com/example/liburiref/liburiref/UriReference", "equals", "(Ljava/lang/Object;)Z"⟩ : MethodName) = true := by first | exact plainFor_of_name (by first | (simp [plainName, overriddenIn]; done) | decide +kernel) | decide +kernel
set_option maxRecDepth 65536 in
set_option maxHeartbeats 40000000 in
theorem kw_ueq (l : Launch) (Z : State) (a0 : Array Value) (hw : ∀ d ∈ tables_1, d.before a0 Z = true) (cs : Int32) (hcs : ¬ cs = 0) (SC : Sta Z Z.heap "java/lang/String" "COMPACT_STRINGS" "Z" (.int cs)) (hEW : EW Z a0 EL) (o p u w t t2 : Addr) (xs ys : List Int32) (h0 : Heap) (n0 : Nat) (OD : Old Z n0 h0) (EP : Exa Z h0 p "com/example/liburiref/liburiref/UriReference") (FT : Fld Z h0 o "com/example/liburiref/liburiref/UriReference" "text" "Ljava/lang/String;" (.ref u)) (GT : Fld Z h0 p "com/example/liburiref/liburiref/UriReference" "text" "Ljava/lang/String;" (.ref w)) (SU : Sg Z h0 u t xs) (SW : Sg Z h0 w t2 ys) : KW false l Z M_ueq n0 (fun v h => v = some (.int (eqI xs ys)) ∧ h0 = h) ([], fun _ => False) h0 0 0 0 #[.val (.ref o), .val (.ref p), .unset] [] := by
  refine k_aloadN d_ueq_0 rfl rfl rfl ?_
  refine k_instY d_ueq_1 rfl (hw _ (List.mem_of_getElem? (i := 55) rfl)) (Ins.self EP) ?_
  refine k_ifc (pc1 := 30) (pc' := 7) d_ueq_4 (by decide) (by decide) rfl (fun (cd1 : (1 : Int32) = (0 : Int32)) => False.elim (by exact absurd cd1 (by decide))) (fun (cd1 : ¬ (1 : Int32) = (0 : Int32)) => ?_)
  refine k_aloadN d_ueq_7 rfl rfl rfl ?_
  refine k_cast d_ueq_8 rfl (hw _ (List.mem_of_getElem? (i := 55) rfl)) (Ins.self EP) ?_
  refine k_astoreN (Ls' := #[.val (.ref o), .val (.ref p), .val (.ref p)]) d_ueq_11 rfl rfl rfl ?_
  refine k_aloadN d_ueq_12 rfl rfl rfl ?_
  refine k_getField d_ueq_13 rfl (hw _ (List.mem_of_getElem? (i := 34) rfl)) Via.refl FT ?_
  refine k_aloadN d_ueq_16 rfl rfl rfl ?_
  refine k_getField d_ueq_17 rfl (hw _ (List.mem_of_getElem? (i := 34) rfl)) Via.refl GT ?_
  refine k_callVirtual (argsL := [(.ref w)]) (rest := []) (W0 := 0) d_ueq_20 rfl (mt_seq l Z a0 hw cs hcs SC hEW u w t t2 xs ys h0 n0 OD SU SW) Kp.strict SU.exa (hw _ (List.mem_of_getElem? (i := 57) rfl)) (hw _ (List.mem_of_getElem? (i := 58) rfl)) (hw _ (List.mem_of_getElem? (i := 60) rfl)) (hw _ (List.mem_of_getElem? (i := 60) rfl)) (hw _ (List.mem_of_getElem? (i := 59) rfl)) (hw _ (List.mem_of_getElem? (i := 61) rfl)) (hw _ (List.mem_of_getElem? (i := 6) rfl)) (by decide) pd_seq rfl rfl rfl rfl (by decide) (by decide) (by decide) (by decide) ?_
  rintro _ _ - ⟨rfl, rfl⟩
  refine KW.any (P' := ([], fun _ => False)) ?_
  show KW false l Z M_ueq n0 (fun v h => v = some (.int (eqI xs ys)) ∧ h0 = h) ([], fun _ => False) h0 0 0 23 #[.val (.ref o), .val (.ref p), .val (.ref p)] [(.int (eqI xs ys))]
  refine k_ifc (pc1 := 30) (pc' := 26) d_ueq_23 (by decide) (by decide) rfl (fun (cd2 : (eqI xs ys) = (0 : Int32)) => ?_) (fun (cd2 : ¬ (eqI xs ys) = (0 : Int32)) => ?_)
  · skip
    refine k_iconst (z := (0 : Int32)) d_ueq_30 rfl (by decide) ?_
    exact k_retNar d_ueq_31 rfl (by simp) (z' := (0 : Int32)) (by decide) (by decide) (by decide) ⟨congrArg (fun z => some (Value.int z)) (by first | exact (eqI_one (by assumption)).symm | exact (show eqI xs ys = 0 by assumption).symm), rfl⟩
  · skip
    refine k_iconst (z := (1 : Int32)) d_ueq_26 rfl (by decide) ?_
    refine k_goto (pc' := 31) d_ueq_27 (by decide) (by decide) ?_
    exact k_retNar d_ueq_31 rfl (by simp) (z' := (1 : Int32)) (by decide) (by decide) (by decide) ⟨congrArg (fun z => some (Value.int z)) (by first | exact (eqI_one (by assumption)).symm | exact (show eqI xs ys = 0 by assumption).symm), rfl⟩
theorem mt_ueq (l : Launch) (Z : State) (a0 : Array Value) (hw : ∀ d ∈ tables_1, d.before a0 Z = true) (cs : Int32) (hcs : ¬ cs = 0) (SC : Sta Z Z.heap "java/lang/String" "COMPACT_STRINGS" "Z" (.int cs)) (hEW : EW Z a0 EL) (o p u w t t2 : Addr) (xs ys : List Int32) (h0 : Heap) (n0 : Nat) (OD : Old Z n0 h0) (EP : Exa Z h0 p "com/example/liburiref/liburiref/UriReference") (FT : Fld Z h0 o "com/example/liburiref/liburiref/UriReference" "text" "Ljava/lang/String;" (.ref u)) (GT : Fld Z h0 p "com/example/liburiref/liburiref/UriReference" "text" "Ljava/lang/String;" (.ref w)) (SU : Sg Z h0 u t xs) (SW : Sg Z h0 w t2 ys) : Mt l Z M_ueq [] n0 #[(.ref o), (.ref p)] h0 (fun v h => v = some (.int (eqI xs ys)) ∧ h0 = h) :=
  mt_of_kw (P := ([], fun _ => False)) pf_ueq (fun m => by first | (simp [entryFrame, mkF, argsToLocals, Value.category]; done) | rfl) (kw_ueq l Z a0 hw cs hcs SC hEW o p u w t t2 xs ys h0 n0 OD EP FT GT SU SW)
set_option maxRecDepth 65536 in
set_option maxHeartbeats 40000000 in
theorem kw_ueqN (l : Launch) (Z : State) (a0 : Array Value) (hw : ∀ d ∈ tables_1, d.before a0 Z = true) (cs : Int32) (hcs : ¬ cs = 0) (SC : Sta Z Z.heap "java/lang/String" "COMPACT_STRINGS" "Z" (.int cs)) (hEW : EW Z a0 EL) (o : Addr) (h0 : Heap) (n0 : Nat) : KW false l Z M_ueq n0 (fun v h => v = some (.int 0) ∧ h0 = h) ([], fun _ => False) h0 0 0 0 #[.val (.ref o), .val .null, .unset] [] := by
  refine k_aloadN d_ueq_0 rfl rfl rfl ?_
  refine k_instNull d_ueq_1 rfl ?_
  refine k_ifc (pc1 := 30) (pc' := 7) d_ueq_4 (by decide) (by decide) rfl (fun (cd3 : (0 : Int32) = (0 : Int32)) => ?_) (fun (cd3 : ¬ (0 : Int32) = (0 : Int32)) => False.elim (by exact absurd cd3 (by decide)))
  refine k_iconst (z := (0 : Int32)) d_ueq_30 rfl (by decide) ?_
  exact k_retNar d_ueq_31 rfl (by simp) (z' := (0 : Int32)) (by decide) (by decide) (by decide) ⟨rfl, rfl⟩
theorem mt_ueqN (l : Launch) (Z : State) (a0 : Array Value) (hw : ∀ d ∈ tables_1, d.before a0 Z = true) (cs : Int32) (hcs : ¬ cs = 0) (SC : Sta Z Z.heap "java/lang/String" "COMPACT_STRINGS" "Z" (.int cs)) (hEW : EW Z a0 EL) (o : Addr) (h0 : Heap) (n0 : Nat) : Mt l Z M_ueq [] n0 #[(.ref o), .null] h0 (fun v h => v = some (.int 0) ∧ h0 = h) :=
  mt_of_kw (P := ([], fun _ => False)) pf_ueq (fun m => by first | (simp [entryFrame, mkF, argsToLocals, Value.category]; done) | rfl) (kw_ueqN l Z a0 hw cs hcs SC hEW o h0 n0)
set_option maxRecDepth 65536 in
set_option maxHeartbeats 40000000 in
theorem kw_ueqS (l : Launch) (Z : State) (a0 : Array Value) (hw : ∀ d ∈ tables_1, d.before a0 Z = true) (cs : Int32) (hcs : ¬ cs = 0) (SC : Sta Z Z.heap "java/lang/String" "COMPACT_STRINGS" "Z" (.int cs)) (hEW : EW Z a0 EL) (o x : Addr) (h0 : Heap) (n0 : Nat) (EX : Exa Z h0 x "java/lang/String") : KW false l Z M_ueq n0 (fun v h => v = some (.int 0) ∧ h0 = h) ([], fun _ => False) h0 0 0 0 #[.val (.ref o), .val (.ref x), .unset] [] := by
  refine k_aloadN d_ueq_0 rfl rfl rfl ?_
  refine k_instNo d_ueq_1 rfl (hw _ (List.mem_of_getElem? (i := 55) rfl)) EX (own_apart (hw _ (List.mem_of_getElem? (i := 68) rfl)) (hw _ (List.mem_of_getElem? (i := 69) rfl)) (hw _ (List.mem_of_getElem? (i := 28) rfl)) (by decide) (by decide)) ?_
  refine k_ifc (pc1 := 30) (pc' := 7) d_ueq_4 (by decide) (by decide) rfl (fun (cd4 : (0 : Int32) = (0 : Int32)) => ?_) (fun (cd4 : ¬ (0 : Int32) = (0 : Int32)) => False.elim (by exact absurd cd4 (by decide)))
  refine k_iconst (z := (0 : Int32)) d_ueq_30 rfl (by decide) ?_
  exact k_retNar d_ueq_31 rfl (by simp) (z' := (0 : Int32)) (by decide) (by decide) (by decide) ⟨rfl, rfl⟩
theorem mt_ueqS (l : Launch) (Z : State) (a0 : Array Value) (hw : ∀ d ∈ tables_1, d.before a0 Z = true) (cs : Int32) (hcs : ¬ cs = 0) (SC : Sta Z Z.heap "java/lang/String" "COMPACT_STRINGS" "Z" (.int cs)) (hEW : EW Z a0 EL) (o x : Addr) (h0 : Heap) (n0 : Nat) (EX : Exa Z h0 x "java/lang/String") : Mt l Z M_ueq [] n0 #[(.ref o), (.ref x)] h0 (fun v h => v = some (.int 0) ∧ h0 = h) :=
  mt_of_kw (P := ([], fun _ => False)) pf_ueq (fun m => by first | (simp [entryFrame, mkF, argsToLocals, Value.category]; done) | rfl) (kw_ueqS l Z a0 hw cs hcs SC hEW o x h0 n0 EX)
abbrev M_law : MD := (x, code, maxLocals, ret, room_1)
theorem pd_law : parseMethodDescriptor "(III)Z" = some ⟨[.int, .int, .int], (some .boolean)⟩ := by decide +kernel
theorem pf_law : plainFor (⟨"com/example/liburiref/liburiref/UriReferenceEqualsPinLaw", "law", "(III)Z"⟩ : MethodName) = true := by first | exact plainFor_of_name (by first | (simp [plainName, overriddenIn]; done) | decide +kernel) | decide +kernel
set_option maxRecDepth 65536 in
set_option maxHeartbeats 40000000 in
theorem kw_156 (l : Launch) (Z : State) (a0 : Array Value) (hw : ∀ d ∈ tables_1, d.before a0 Z = true) (cs : Int32) (hcs : ¬ cs = 0) (SC : Sta Z Z.heap "java/lang/String" "COMPACT_STRINGS" "Z" (.int cs)) (hEW : EW Z a0 EL) (x y z n1 c0 c1 n2 d0 d1 : Int32) (ta t1 tb t2 : Addr) (w1 w2 w3 w4 : Value) (hw1 : w1.isRef = true) (hw2 : w2.isRef = true) (hw3 : w3.isRef = true) (hw4 : w4.isRef = true) (h0 : Heap) (n0 : Nat) (OD : Old Z n0 h0) (SA : Sg Z h0 ta t1 (tx n1 c0 c1)) (SB : Sg Z h0 tb t2 (tx n2 d0 d1)) (hn1 : N3 n1) (hn2 : N3 n2) (hc0 : Ch c0) (hc1 : Ch c1) (hd0 : Ch d0) (hd1 : Ch d1) : KW true l Z M_law n0 (fun v _ => v = some (.int 1)) (EL, fun _ => False) h0 14 40 156 #[.val (.int x), .val (.int y), .val (.int z), .val (.int n1), .val (.int c0), .val (.int c1), .val (.int n2), .val (.int d0), .val (.int d1), .val (.ref ta), .val (.ref tb), .val w1, .val w2, .val w3, .val w4, .unset, .unset, .unset, .unset, .unset, .unset, .unset, .unset] [] := by
  have Z0 := OD.1 ▸ OD.2.1
  refine k_new at_156 rfl (hw _ (List.mem_of_getElem? (i := 27) rfl)) (hw _ (List.mem_of_getElem? (i := 28) rfl)) (hw _ (List.mem_of_getElem? (i := 29) rfl)) (by decide) (by decide) ?_
  intro h2 a1 g6 E3 A4 D5
  have ne7 : ta ≠ a1 := Nat.ne_of_lt (Nat.lt_of_lt_of_eq SA.lt g6.symm)
  have ne8 : t1 ≠ a1 := Nat.ne_of_lt (Nat.lt_of_lt_of_eq SA.ltv g6.symm)
  have ne9 : tb ≠ a1 := Nat.ne_of_lt (Nat.lt_of_lt_of_eq SB.lt g6.symm)
  have ne10 : t2 ≠ a1 := Nat.ne_of_lt (Nat.lt_of_lt_of_eq SB.ltv g6.symm)
  have z11 : n0 ≤ h0.size := Z0
  have ge12 : n0 ≤ a1 := Nat.le_trans z11 (Nat.le_of_eq g6.symm)
  have gl13 : h0.size ≤ a1 := Nat.le_of_eq g6.symm
  have F14 : Fld Z h2 a1 "com/example/liburiref/liburiref/UriReference" "text" "Ljava/lang/String;" .null := D5 (Or.inr (hw _ (List.mem_of_getElem? (i := 35) rfl))) (ty := (.object "java/lang/String")) (by decide)
  have F15 : Fld Z h2 a1 "com/example/liburiref/liburiref/UriReference" "scheme" "Ljava/lang/String;" .null := D5 (Or.inr (hw _ (List.mem_of_getElem? (i := 37) rfl))) (ty := (.object "java/lang/String")) (by decide)
  have F16 : Fld Z h2 a1 "com/example/liburiref/liburiref/UriReference" "userInfo" "Ljava/lang/String;" .null := D5 (Or.inr (hw _ (List.mem_of_getElem? (i := 39) rfl))) (ty := (.object "java/lang/String")) (by decide)
  have F17 : Fld Z h2 a1 "com/example/liburiref/liburiref/UriReference" "host" "Ljava/lang/String;" .null := D5 (Or.inr (hw _ (List.mem_of_getElem? (i := 41) rfl))) (ty := (.object "java/lang/String")) (by decide)
  have F18 : Fld Z h2 a1 "com/example/liburiref/liburiref/UriReference" "port" "Ljava/lang/String;" .null := D5 (Or.inr (hw _ (List.mem_of_getElem? (i := 43) rfl))) (ty := (.object "java/lang/String")) (by decide)
  have F19 : Fld Z h2 a1 "com/example/liburiref/liburiref/UriReference" "path" "Ljava/lang/String;" .null := D5 (Or.inr (hw _ (List.mem_of_getElem? (i := 45) rfl))) (ty := (.object "java/lang/String")) (by decide)
  have F20 : Fld Z h2 a1 "com/example/liburiref/liburiref/UriReference" "query" "Ljava/lang/String;" .null := D5 (Or.inr (hw _ (List.mem_of_getElem? (i := 47) rfl))) (ty := (.object "java/lang/String")) (by decide)
  have F21 : Fld Z h2 a1 "com/example/liburiref/liburiref/UriReference" "fragment" "Ljava/lang/String;" .null := D5 (Or.inr (hw _ (List.mem_of_getElem? (i := 49) rfl))) (ty := (.object "java/lang/String")) (by decide)
  refine KW.sub (S' := fun x => x = a1) (fun x hx => ?_) ?_
  · rcases hx with rfl
    · exact Or.inr ⟨gl13, A4.lt⟩
  show KW true l Z M_law n0 (fun v _ => v = some (.int 1)) (EL, fun x => x = a1) h2 15 48 159 #[.val (.int x), .val (.int y), .val (.int z), .val (.int n1), .val (.int c0), .val (.int c1), .val (.int n2), .val (.int d0), .val (.int d1), .val (.ref ta), .val (.ref tb), .val w1, .val w2, .val w3, .val w4, .unset, .unset, .unset, .unset, .unset, .unset, .unset, .unset] [(.ref a1)]
  refine k_dup at_159 rfl rfl ?_
  refine k_aload at_160 rfl rfl rfl ?_
  refine k_aload at_162 rfl rfl rfl ?_
  refine k_aconstNull at_164 rfl ?_
  refine k_aload at_165 rfl rfl rfl ?_
  refine k_aconstNull at_167 rfl ?_
  refine k_aload at_168 rfl rfl rfl ?_
  refine k_aconstNull at_170 rfl ?_
  refine k_aload at_171 rfl rfl rfl ?_
  have f22 := (SA.ext E3)
  have f23 := (SB.ext E3)
  refine k_callInit (a := a1) (argsL := [(.ref ta), (.ref ta), .null, (.ref ta), .null, (.ref ta), .null, (.ref ta)]) (rest := [(.ref a1)]) (W0 := 1) at_173 rfl (mt_ui l Z a0 hw cs hcs SC hEW a1 ta (Value.ref ta) Value.null (Value.ref ta) Value.null (Value.ref ta) Value.null (Value.ref ta) rfl rfl rfl rfl rfl rfl rfl h2 n0 ge12 A4 F14 F15 F16 F17 F18 F19 F20 F21) (fun _ _ _ q => ⟨[a1], q.2.1, fun x hx => by cases List.mem_singleton.mp hx; exact Sf.exa A4 (by decide) (by decide)⟩) rfl rfl (hw _ (List.mem_of_getElem? (i := 30) rfl)) (hw _ (List.mem_of_getElem? (i := 31) rfl)) (hw _ (List.mem_of_getElem? (i := 29) rfl)) (hw _ (List.mem_of_getElem? (i := 32) rfl)) (by decide) pd_ui rfl rfl rfl rfl (by decide) (by decide) (by decide) (by decide) ?_
  rintro _ h24 - ⟨rfl, K25, F26⟩
  refine KW.sub (S' := fun _ => False) (fun x hx => hx.elim) ?_
  show KW true l Z M_law n0 (fun v _ => v = some (.int 1)) (EL, fun _ => False) h24 15 48 176 #[.val (.int x), .val (.int y), .val (.int z), .val (.int n1), .val (.int c0), .val (.int c1), .val (.int n2), .val (.int d0), .val (.int d1), .val (.ref ta), .val (.ref tb), .val w1, .val w2, .val w3, .val w4, .unset, .unset, .unset, .unset, .unset, .unset, .unset, .unset] [(.ref a1)]
  refine k_astore (Ls' := #[.val (.int x), .val (.int y), .val (.int z), .val (.int n1), .val (.int c0), .val (.int c1), .val (.int n2), .val (.int d0), .val (.int d1), .val (.ref ta), .val (.ref tb), .val w1, .val w2, .val w3, .val w4, .val (.ref a1), .unset, .unset, .unset, .unset, .unset, .unset, .unset]) at_176 rfl rfl rfl ?_
  have f33 := (f22.keep K25 (ninS ne7 nin0) (ninS ne8 nin0))
  have f34 := (f23.keep K25 (ninS ne9 nin0) (ninS ne10 nin0))
  have f35 := (A4.keep K25)
  refine k_new at_178 rfl (hw _ (List.mem_of_getElem? (i := 27) rfl)) (hw _ (List.mem_of_getElem? (i := 28) rfl)) (hw _ (List.mem_of_getElem? (i := 29) rfl)) (by decide) (by decide) ?_
  intro h28 a27 g32 E29 A30 D31
  have ne36 : ta ≠ a27 := Nat.ne_of_lt (Nat.lt_of_lt_of_eq f33.lt g32.symm)
  have ne37 : t1 ≠ a27 := Nat.ne_of_lt (Nat.lt_of_lt_of_eq f33.ltv g32.symm)
  have ne38 : tb ≠ a27 := Nat.ne_of_lt (Nat.lt_of_lt_of_eq f34.lt g32.symm)
  have ne39 : t2 ≠ a27 := Nat.ne_of_lt (Nat.lt_of_lt_of_eq f34.ltv g32.symm)
  have ne40 : a1 ≠ a27 := Nat.ne_of_lt (Nat.lt_of_lt_of_eq f35.lt g32.symm)
  have z41 : n0 ≤ h24.size := (Nat.le_trans (Nat.le_trans z11 E3.1) K25.1)
  have ge42 : n0 ≤ a27 := Nat.le_trans z41 (Nat.le_of_eq g32.symm)
  have gl43 : h24.size ≤ a27 := Nat.le_of_eq g32.symm
  have F44 : Fld Z h28 a27 "com/example/liburiref/liburiref/UriReference" "text" "Ljava/lang/String;" .null := D31 (Or.inr (hw _ (List.mem_of_getElem? (i := 35) rfl))) (ty := (.object "java/lang/String")) (by decide)
  have F45 : Fld Z h28 a27 "com/example/liburiref/liburiref/UriReference" "scheme" "Ljava/lang/String;" .null := D31 (Or.inr (hw _ (List.mem_of_getElem? (i := 37) rfl))) (ty := (.object "java/lang/String")) (by decide)
  have F46 : Fld Z h28 a27 "com/example/liburiref/liburiref/UriReference" "userInfo" "Ljava/lang/String;" .null := D31 (Or.inr (hw _ (List.mem_of_getElem? (i := 39) rfl))) (ty := (.object "java/lang/String")) (by decide)
  have F47 : Fld Z h28 a27 "com/example/liburiref/liburiref/UriReference" "host" "Ljava/lang/String;" .null := D31 (Or.inr (hw _ (List.mem_of_getElem? (i := 41) rfl))) (ty := (.object "java/lang/String")) (by decide)
  have F48 : Fld Z h28 a27 "com/example/liburiref/liburiref/UriReference" "port" "Ljava/lang/String;" .null := D31 (Or.inr (hw _ (List.mem_of_getElem? (i := 43) rfl))) (ty := (.object "java/lang/String")) (by decide)
  have F49 : Fld Z h28 a27 "com/example/liburiref/liburiref/UriReference" "path" "Ljava/lang/String;" .null := D31 (Or.inr (hw _ (List.mem_of_getElem? (i := 45) rfl))) (ty := (.object "java/lang/String")) (by decide)
  have F50 : Fld Z h28 a27 "com/example/liburiref/liburiref/UriReference" "query" "Ljava/lang/String;" .null := D31 (Or.inr (hw _ (List.mem_of_getElem? (i := 47) rfl))) (ty := (.object "java/lang/String")) (by decide)
  have F51 : Fld Z h28 a27 "com/example/liburiref/liburiref/UriReference" "fragment" "Ljava/lang/String;" .null := D31 (Or.inr (hw _ (List.mem_of_getElem? (i := 49) rfl))) (ty := (.object "java/lang/String")) (by decide)
  refine KW.sub (S' := fun x => x = a27) (fun x hx => ?_) ?_
  · rcases hx with rfl
    · exact Or.inr ⟨gl43, A30.lt⟩
  show KW true l Z M_law n0 (fun v _ => v = some (.int 1)) (EL, fun x => x = a27) h28 16 56 181 #[.val (.int x), .val (.int y), .val (.int z), .val (.int n1), .val (.int c0), .val (.int c1), .val (.int n2), .val (.int d0), .val (.int d1), .val (.ref ta), .val (.ref tb), .val w1, .val w2, .val w3, .val w4, .val (.ref a1), .unset, .unset, .unset, .unset, .unset, .unset, .unset] [(.ref a27)]
  refine k_dup at_181 rfl rfl ?_
  refine k_aload at_182 rfl rfl rfl ?_
  refine k_aload at_184 rfl rfl hw1 ?_
  refine k_aconstNull at_186 rfl ?_
  refine k_aload at_187 rfl rfl hw3 ?_
  refine k_aconstNull at_189 rfl ?_
  refine k_aload at_190 rfl rfl hw2 ?_
  refine k_aload at_192 rfl rfl rfl ?_
  refine k_aload at_194 rfl rfl hw4 ?_
  have f52 := (f33.ext E29)
  have f53 := (f34.ext E29)
  have f54 := (f35.ext E29)
  refine k_callInit (a := a27) (argsL := [(.ref tb), w1, .null, w3, .null, w2, (.ref tb), w4]) (rest := [(.ref a27)]) (W0 := 1) at_196 rfl (mt_ui l Z a0 hw cs hcs SC hEW a27 tb w1 Value.null w3 Value.null w2 (Value.ref tb) w4 hw1 rfl hw3 rfl hw2 rfl hw4 h28 n0 ge42 A30 F44 F45 F46 F47 F48 F49 F50 F51) (fun _ _ _ q => ⟨[a27], q.2.1, fun x hx => by cases List.mem_singleton.mp hx; exact Sf.exa A30 (by decide) (by decide)⟩) rfl rfl (hw _ (List.mem_of_getElem? (i := 30) rfl)) (hw _ (List.mem_of_getElem? (i := 31) rfl)) (hw _ (List.mem_of_getElem? (i := 29) rfl)) (hw _ (List.mem_of_getElem? (i := 32) rfl)) (by decide) pd_ui rfl rfl rfl rfl (by decide) (by decide) (by decide) (by decide) ?_
  rintro _ h55 - ⟨rfl, K56, F57⟩
  refine KW.sub (S' := fun _ => False) (fun x hx => hx.elim) ?_
  show KW true l Z M_law n0 (fun v _ => v = some (.int 1)) (EL, fun _ => False) h55 16 56 199 #[.val (.int x), .val (.int y), .val (.int z), .val (.int n1), .val (.int c0), .val (.int c1), .val (.int n2), .val (.int d0), .val (.int d1), .val (.ref ta), .val (.ref tb), .val w1, .val w2, .val w3, .val w4, .val (.ref a1), .unset, .unset, .unset, .unset, .unset, .unset, .unset] [(.ref a27)]
  refine k_astore (Ls' := #[.val (.int x), .val (.int y), .val (.int z), .val (.int n1), .val (.int c0), .val (.int c1), .val (.int n2), .val (.int d0), .val (.int d1), .val (.ref ta), .val (.ref tb), .val w1, .val w2, .val w3, .val w4, .val (.ref a1), .val (.ref a27), .unset, .unset, .unset, .unset, .unset, .unset]) at_199 rfl rfl rfl ?_
  refine k_iloadN at_201 rfl rfl ?_
  refine k_iload at_202 rfl rfl ?_
  refine k_icmp (pc1 := 235) (pc' := 207) at_204 (by decide) (by decide) rfl (fun (cd1 : ¬ n1 = n2) => ?_) (fun (cd1 : n1 = n2) => ?_)
  · skip
    refine k_iconst (z := (0 : Int32)) at_235 rfl (by decide) ?_
    have ee : eqI (tx n1 c0 c1) (tx n2 d0 d1) = (0 : Int32) := by
      first | exact own_s0 hn1 hn2 (by assumption) | exact own_s0a hn1 (by assumption) hc0 hd0 (by assumption) (by assumption) | exact own_s0b hn1 (by assumption) hc1 hd1 (by assumption) (by assumption)
    refine KW.top (congrArg Value.int ee.symm) ?_
    show KW true l Z M_law n0 (fun v _ => v = some (.int 1)) (EL, fun _ => False) h55 16 56 236 #[.val (.int x), .val (.int y), .val (.int z), .val (.int n1), .val (.int c0), .val (.int c1), .val (.int n2), .val (.int d0), .val (.int d1), .val (.ref ta), .val (.ref tb), .val w1, .val w2, .val w3, .val w4, .val (.ref a1), .val (.ref a27), .unset, .unset, .unset, .unset, .unset, .unset] [(.int (eqI (tx n1 c0 c1) (tx n2 d0 d1)))]
    refine k_istore (Ls' := #[.val (.int x), .val (.int y), .val (.int z), .val (.int n1), .val (.int c0), .val (.int c1), .val (.int n2), .val (.int d0), .val (.int d1), .val (.ref ta), .val (.ref tb), .val w1, .val w2, .val w3, .val w4, .val (.ref a1), .val (.ref a27), .val (.int (eqI (tx n1 c0 c1) (tx n2 d0 d1))), .unset, .unset, .unset, .unset, .unset]) at_236 rfl rfl ?_
    refine k_aload at_238 rfl rfl rfl ?_
    refine k_aload at_240 rfl rfl rfl ?_
    have f58 := ((((OD.ext E3).keep K25 (allS ge12 all0)).ext E29).keep K56 (allS ge42 all0))
    have f59 := (A30.keep K56)
    have f60 := ((F26.ext E29).keep K56 (ninS ne40 nin0))
    have f61 := (f52.keep K56 (ninS ne36 nin0) (ninS ne37 nin0))
    have f62 := (f53.keep K56 (ninS ne38 nin0) (ninS ne39 nin0))
    have f63 := (f54.keep K56)
    refine k_callVirtual (argsL := [(.ref a27)]) (rest := []) (W0 := 0) at_242 rfl (mt_ueq l Z a0 hw cs hcs SC hEW a1 a27 ta tb t1 t2 (tx n1 c0 c1) (tx n2 d0 d1) h55 n0 f58 f59 f60 F57 f61 f62) (Kp.pure (fun _ _ q => q.2.symm)) f63 (hw _ (List.mem_of_getElem? (i := 50) rfl)) (hw _ (List.mem_of_getElem? (i := 51) rfl)) (hw _ (List.mem_of_getElem? (i := 53) rfl)) (hw _ (List.mem_of_getElem? (i := 53) rfl)) (hw _ (List.mem_of_getElem? (i := 52) rfl)) (hw _ (List.mem_of_getElem? (i := 54) rfl)) (hw _ (List.mem_of_getElem? (i := 29) rfl)) (by decide) pd_ueq rfl rfl rfl rfl (by decide) (by decide) (by decide) (by decide) ?_
    rintro _ _ - ⟨rfl, rfl⟩
    refine KW.sub (S' := fun _ => False) (fun x hx => hx.elim) ?_
    show KW true l Z M_law n0 (fun v _ => v = some (.int 1)) (EL, fun _ => False) h55 16 56 245 #[.val (.int x), .val (.int y), .val (.int z), .val (.int n1), .val (.int c0), .val (.int c1), .val (.int n2), .val (.int d0), .val (.int d1), .val (.ref ta), .val (.ref tb), .val w1, .val w2, .val w3, .val w4, .val (.ref a1), .val (.ref a27), .val (.int (eqI (tx n1 c0 c1) (tx n2 d0 d1))), .unset, .unset, .unset, .unset, .unset] [(.int (eqI (tx n1 c0 c1) (tx n2 d0 d1)))]
    refine k_istore (Ls' := #[.val (.int x), .val (.int y), .val (.int z), .val (.int n1), .val (.int c0), .val (.int c1), .val (.int n2), .val (.int d0), .val (.int d1), .val (.ref ta), .val (.ref tb), .val w1, .val w2, .val w3, .val w4, .val (.ref a1), .val (.ref a27), .val (.int (eqI (tx n1 c0 c1) (tx n2 d0 d1))), .val (.int (eqI (tx n1 c0 c1) (tx n2 d0 d1))), .unset, .unset, .unset, .unset]) at_245 rfl rfl ?_
    refine k_aload at_247 rfl rfl rfl ?_
    refine k_aload at_249 rfl rfl rfl ?_
    refine k_callVirtual (argsL := [(.ref a1)]) (rest := []) (W0 := 0) at_251 rfl (mt_ueq l Z a0 hw cs hcs SC hEW a27 a1 tb ta t2 t1 (tx n2 d0 d1) (tx n1 c0 c1) h55 n0 f58 f63 F57 f60 f62 f61) (Kp.pure (fun _ _ q => q.2.symm)) f59 (hw _ (List.mem_of_getElem? (i := 50) rfl)) (hw _ (List.mem_of_getElem? (i := 51) rfl)) (hw _ (List.mem_of_getElem? (i := 53) rfl)) (hw _ (List.mem_of_getElem? (i := 53) rfl)) (hw _ (List.mem_of_getElem? (i := 52) rfl)) (hw _ (List.mem_of_getElem? (i := 54) rfl)) (hw _ (List.mem_of_getElem? (i := 29) rfl)) (by decide) pd_ueq rfl rfl rfl rfl (by decide) (by decide) (by decide) (by decide) ?_
    rintro _ _ - ⟨rfl, rfl⟩
    refine KW.sub (S' := fun _ => False) (fun x hx => hx.elim) ?_
    show KW true l Z M_law n0 (fun v _ => v = some (.int 1)) (EL, fun _ => False) h55 16 56 254 #[.val (.int x), .val (.int y), .val (.int z), .val (.int n1), .val (.int c0), .val (.int c1), .val (.int n2), .val (.int d0), .val (.int d1), .val (.ref ta), .val (.ref tb), .val w1, .val w2, .val w3, .val w4, .val (.ref a1), .val (.ref a27), .val (.int (eqI (tx n1 c0 c1) (tx n2 d0 d1))), .val (.int (eqI (tx n1 c0 c1) (tx n2 d0 d1))), .unset, .unset, .unset, .unset] [(.int (eqI (tx n2 d0 d1) (tx n1 c0 c1)))]
    refine k_istore (Ls' := #[.val (.int x), .val (.int y), .val (.int z), .val (.int n1), .val (.int c0), .val (.int c1), .val (.int n2), .val (.int d0), .val (.int d1), .val (.ref ta), .val (.ref tb), .val w1, .val w2, .val w3, .val w4, .val (.ref a1), .val (.ref a27), .val (.int (eqI (tx n1 c0 c1) (tx n2 d0 d1))), .val (.int (eqI (tx n1 c0 c1) (tx n2 d0 d1))), .val (.int (eqI (tx n2 d0 d1) (tx n1 c0 c1))), .unset, .unset, .unset]) at_254 rfl rfl ?_
    refine k_aload at_256 rfl rfl rfl ?_
    refine k_aload at_258 rfl rfl rfl ?_
    refine k_callVirtual (argsL := [(.ref a1)]) (rest := []) (W0 := 0) at_260 rfl (mt_ueq l Z a0 hw cs hcs SC hEW a1 a1 ta ta t1 t1 (tx n1 c0 c1) (tx n1 c0 c1) h55 n0 f58 f63 f60 f60 f61 f61) (Kp.pure (fun _ _ q => q.2.symm)) f63 (hw _ (List.mem_of_getElem? (i := 50) rfl)) (hw _ (List.mem_of_getElem? (i := 51) rfl)) (hw _ (List.mem_of_getElem? (i := 53) rfl)) (hw _ (List.mem_of_getElem? (i := 53) rfl)) (hw _ (List.mem_of_getElem? (i := 52) rfl)) (hw _ (List.mem_of_getElem? (i := 54) rfl)) (hw _ (List.mem_of_getElem? (i := 29) rfl)) (by decide) pd_ueq rfl rfl rfl rfl (by decide) (by decide) (by decide) (by decide) ?_
    rintro _ _ - ⟨rfl, rfl⟩
    refine KW.sub (S' := fun _ => False) (fun x hx => hx.elim) ?_
    show KW true l Z M_law n0 (fun v _ => v = some (.int 1)) (EL, fun _ => False) h55 16 56 263 #[.val (.int x), .val (.int y), .val (.int z), .val (.int n1), .val (.int c0), .val (.int c1), .val (.int n2), .val (.int d0), .val (.int d1), .val (.ref ta), .val (.ref tb), .val w1, .val w2, .val w3, .val w4, .val (.ref a1), .val (.ref a27), .val (.int (eqI (tx n1 c0 c1) (tx n2 d0 d1))), .val (.int (eqI (tx n1 c0 c1) (tx n2 d0 d1))), .val (.int (eqI (tx n2 d0 d1) (tx n1 c0 c1))), .unset, .unset, .unset] [(.int (eqI (tx n1 c0 c1) (tx n1 c0 c1)))]
    refine k_istore (Ls' := #[.val (.int x), .val (.int y), .val (.int z), .val (.int n1), .val (.int c0), .val (.int c1), .val (.int n2), .val (.int d0), .val (.int d1), .val (.ref ta), .val (.ref tb), .val w1, .val w2, .val w3, .val w4, .val (.ref a1), .val (.ref a27), .val (.int (eqI (tx n1 c0 c1) (tx n2 d0 d1))), .val (.int (eqI (tx n1 c0 c1) (tx n2 d0 d1))), .val (.int (eqI (tx n2 d0 d1) (tx n1 c0 c1))), .val (.int (eqI (tx n1 c0 c1) (tx n1 c0 c1))), .unset, .unset]) at_263 rfl rfl ?_
    refine k_aload at_265 rfl rfl rfl ?_
    refine k_aconstNull at_267 rfl ?_
    refine k_callVirtual (argsL := [.null]) (rest := []) (W0 := 0) at_268 rfl (mt_ueqN l Z a0 hw cs hcs SC hEW a1 h55 n0) (Kp.pure (fun _ _ q => q.2.symm)) f63 (hw _ (List.mem_of_getElem? (i := 50) rfl)) (hw _ (List.mem_of_getElem? (i := 51) rfl)) (hw _ (List.mem_of_getElem? (i := 53) rfl)) (hw _ (List.mem_of_getElem? (i := 53) rfl)) (hw _ (List.mem_of_getElem? (i := 52) rfl)) (hw _ (List.mem_of_getElem? (i := 54) rfl)) (hw _ (List.mem_of_getElem? (i := 29) rfl)) (by decide) pd_ueq rfl rfl rfl rfl (by decide) (by decide) (by decide) (by decide) ?_
    rintro _ _ - ⟨rfl, rfl⟩
    refine KW.sub (S' := fun _ => False) (fun x hx => hx.elim) ?_
    show KW true l Z M_law n0 (fun v _ => v = some (.int 1)) (EL, fun _ => False) h55 16 56 271 #[.val (.int x), .val (.int y), .val (.int z), .val (.int n1), .val (.int c0), .val (.int c1), .val (.int n2), .val (.int d0), .val (.int d1), .val (.ref ta), .val (.ref tb), .val w1, .val w2, .val w3, .val w4, .val (.ref a1), .val (.ref a27), .val (.int (eqI (tx n1 c0 c1) (tx n2 d0 d1))), .val (.int (eqI (tx n1 c0 c1) (tx n2 d0 d1))), .val (.int (eqI (tx n2 d0 d1) (tx n1 c0 c1))), .val (.int (eqI (tx n1 c0 c1) (tx n1 c0 c1))), .unset, .unset] [(.int (0 : Int32))]
    refine k_istore (Ls' := #[.val (.int x), .val (.int y), .val (.int z), .val (.int n1), .val (.int c0), .val (.int c1), .val (.int n2), .val (.int d0), .val (.int d1), .val (.ref ta), .val (.ref tb), .val w1, .val w2, .val w3, .val w4, .val (.ref a1), .val (.ref a27), .val (.int (eqI (tx n1 c0 c1) (tx n2 d0 d1))), .val (.int (eqI (tx n1 c0 c1) (tx n2 d0 d1))), .val (.int (eqI (tx n2 d0 d1) (tx n1 c0 c1))), .val (.int (eqI (tx n1 c0 c1) (tx n1 c0 c1))), .val (.int (0 : Int32)), .unset]) at_271 rfl rfl ?_
    refine k_aload at_273 rfl rfl rfl ?_
    refine k_aload at_275 rfl rfl rfl ?_
    refine k_callVirtual (argsL := [(.ref ta)]) (rest := []) (W0 := 0) at_277 rfl (mt_ueqS l Z a0 hw cs hcs SC hEW a1 ta h55 n0 f61.exa) (Kp.pure (fun _ _ q => q.2.symm)) f63 (hw _ (List.mem_of_getElem? (i := 50) rfl)) (hw _ (List.mem_of_getElem? (i := 51) rfl)) (hw _ (List.mem_of_getElem? (i := 53) rfl)) (hw _ (List.mem_of_getElem? (i := 53) rfl)) (hw _ (List.mem_of_getElem? (i := 52) rfl)) (hw _ (List.mem_of_getElem? (i := 54) rfl)) (hw _ (List.mem_of_getElem? (i := 29) rfl)) (by decide) pd_ueq rfl rfl rfl rfl (by decide) (by decide) (by decide) (by decide) ?_
    rintro _ _ - ⟨rfl, rfl⟩
    refine KW.sub (S' := fun _ => False) (fun x hx => hx.elim) ?_
    show KW true l Z M_law n0 (fun v _ => v = some (.int 1)) (EL, fun _ => False) h55 16 56 280 #[.val (.int x), .val (.int y), .val (.int z), .val (.int n1), .val (.int c0), .val (.int c1), .val (.int n2), .val (.int d0), .val (.int d1), .val (.ref ta), .val (.ref tb), .val w1, .val w2, .val w3, .val w4, .val (.ref a1), .val (.ref a27), .val (.int (eqI (tx n1 c0 c1) (tx n2 d0 d1))), .val (.int (eqI (tx n1 c0 c1) (tx n2 d0 d1))), .val (.int (eqI (tx n2 d0 d1) (tx n1 c0 c1))), .val (.int (eqI (tx n1 c0 c1) (tx n1 c0 c1))), .val (.int (0 : Int32)), .unset] [(.int (0 : Int32))]
    refine k_istore (Ls' := #[.val (.int x), .val (.int y), .val (.int z), .val (.int n1), .val (.int c0), .val (.int c1), .val (.int n2), .val (.int d0), .val (.int d1), .val (.ref ta), .val (.ref tb), .val w1, .val w2, .val w3, .val w4, .val (.ref a1), .val (.ref a27), .val (.int (eqI (tx n1 c0 c1) (tx n2 d0 d1))), .val (.int (eqI (tx n1 c0 c1) (tx n2 d0 d1))), .val (.int (eqI (tx n2 d0 d1) (tx n1 c0 c1))), .val (.int (eqI (tx n1 c0 c1) (tx n1 c0 c1))), .val (.int (0 : Int32)), .val (.int (0 : Int32))]) at_280 rfl rfl ?_
    refine k_iload at_282 rfl rfl ?_
    refine k_iload at_284 rfl rfl ?_
    refine k_icmp (pc1 := 315) (pc' := 289) at_286 (by decide) (by decide) rfl (fun (cd2 : ¬ (eqI (tx n1 c0 c1) (tx n2 d0 d1)) = (eqI (tx n1 c0 c1) (tx n2 d0 d1))) => False.elim (by exact cd2 rfl)) (fun (cd2 : (eqI (tx n1 c0 c1) (tx n2 d0 d1)) = (eqI (tx n1 c0 c1) (tx n2 d0 d1))) => ?_)
    refine k_iload at_289 rfl rfl ?_
    refine k_iload at_291 rfl rfl ?_
    refine k_icmp (pc1 := 315) (pc' := 296) at_293 (by decide) (by decide) rfl (fun (cd3 : ¬ (eqI (tx n2 d0 d1) (tx n1 c0 c1)) = (eqI (tx n1 c0 c1) (tx n2 d0 d1))) => False.elim (by exact cd3 (eqI_comm _ _))) (fun (cd3 : (eqI (tx n2 d0 d1) (tx n1 c0 c1)) = (eqI (tx n1 c0 c1) (tx n2 d0 d1))) => ?_)
    refine k_iload at_296 rfl rfl ?_
    refine k_ifc (pc1 := 315) (pc' := 301) at_298 (by decide) (by decide) rfl (fun (cd4 : (eqI (tx n1 c0 c1) (tx n1 c0 c1)) = (0 : Int32)) => False.elim (by rw [eqI_self] at cd4; exact absurd cd4 (by decide))) (fun (cd4 : ¬ (eqI (tx n1 c0 c1) (tx n1 c0 c1)) = (0 : Int32)) => ?_)
    refine k_iload at_301 rfl rfl ?_
    refine k_ifc (pc1 := 315) (pc' := 306) at_303 (by decide) (by decide) rfl (fun (cd5 : ¬ (0 : Int32) = (0 : Int32)) => False.elim (by exact absurd cd5 (by decide))) (fun (cd5 : (0 : Int32) = (0 : Int32)) => ?_)
    refine k_iload at_306 rfl rfl ?_
    refine k_ifc (pc1 := 315) (pc' := 311) at_308 (by decide) (by decide) rfl (fun (cd6 : ¬ (0 : Int32) = (0 : Int32)) => False.elim (by exact absurd cd6 (by decide))) (fun (cd6 : (0 : Int32) = (0 : Int32)) => ?_)
    refine k_iconst (z := (1 : Int32)) at_311 rfl (by decide) ?_
    refine k_goto (pc' := 316) at_312 (by decide) (by decide) ?_
    exact k_retNar at_316 rfl (by simp) (z' := (1 : Int32)) (by decide) (by decide) (by decide) rfl
  · skip
    refine k_iloadN at_207 rfl rfl ?_
    refine k_iconst (z := (1 : Int32)) at_208 rfl (by decide) ?_
    refine k_icmp (pc1 := 219) (pc' := 212) at_209 (by decide) (by decide) rfl (fun (cd7 : n1 < (1 : Int32)) => ?_) (fun (cd7 : ¬ n1 < (1 : Int32)) => ?_)
    · skip
      refine k_iloadN at_219 rfl rfl ?_
      refine k_iconst (z := (2 : Int32)) at_220 rfl (by decide) ?_
      refine k_icmp (pc1 := 231) (pc' := 224) at_221 (by decide) (by decide) rfl (fun (cd8 : n1 < (2 : Int32)) => ?_) (fun (cd8 : ¬ n1 < (2 : Int32)) => ?_)
      · skip
        refine k_iconst (z := (1 : Int32)) at_231 rfl (by decide) ?_
        refine k_goto (pc' := 236) at_232 (by decide) (by decide) ?_
        have ee : eqI (tx n1 c0 c1) (tx n2 d0 d1) = (1 : Int32) := by
          exact own_s1 hn1 (by assumption) (by first | exact Or.inl (by assumption) | exact Or.inr (by assumption)) (by first | exact Or.inl (by assumption) | exact Or.inr (by assumption))
        refine KW.top (congrArg Value.int ee.symm) ?_
        show KW true l Z M_law n0 (fun v _ => v = some (.int 1)) (EL, fun _ => False) h55 16 56 236 #[.val (.int x), .val (.int y), .val (.int z), .val (.int n1), .val (.int c0), .val (.int c1), .val (.int n2), .val (.int d0), .val (.int d1), .val (.ref ta), .val (.ref tb), .val w1, .val w2, .val w3, .val w4, .val (.ref a1), .val (.ref a27), .unset, .unset, .unset, .unset, .unset, .unset] [(.int (eqI (tx n1 c0 c1) (tx n2 d0 d1)))]
        refine k_istore (Ls' := #[.val (.int x), .val (.int y), .val (.int z), .val (.int n1), .val (.int c0), .val (.int c1), .val (.int n2), .val (.int d0), .val (.int d1), .val (.ref ta), .val (.ref tb), .val w1, .val w2, .val w3, .val w4, .val (.ref a1), .val (.ref a27), .val (.int (eqI (tx n1 c0 c1) (tx n2 d0 d1))), .unset, .unset, .unset, .unset, .unset]) at_236 rfl rfl ?_
        refine k_aload at_238 rfl rfl rfl ?_
        refine k_aload at_240 rfl rfl rfl ?_
        have f64 := ((((OD.ext E3).keep K25 (allS ge12 all0)).ext E29).keep K56 (allS ge42 all0))
        have f65 := (A30.keep K56)
        have f66 := ((F26.ext E29).keep K56 (ninS ne40 nin0))
        have f67 := (f52.keep K56 (ninS ne36 nin0) (ninS ne37 nin0))
        have f68 := (f53.keep K56 (ninS ne38 nin0) (ninS ne39 nin0))
        have f69 := (f54.keep K56)
        refine k_callVirtual (argsL := [(.ref a27)]) (rest := []) (W0 := 0) at_242 rfl (mt_ueq l Z a0 hw cs hcs SC hEW a1 a27 ta tb t1 t2 (tx n1 c0 c1) (tx n2 d0 d1) h55 n0 f64 f65 f66 F57 f67 f68) (Kp.pure (fun _ _ q => q.2.symm)) f69 (hw _ (List.mem_of_getElem? (i := 50) rfl)) (hw _ (List.mem_of_getElem? (i := 51) rfl)) (hw _ (List.mem_of_getElem? (i := 53) rfl)) (hw _ (List.mem_of_getElem? (i := 53) rfl)) (hw _ (List.mem_of_getElem? (i := 52) rfl)) (hw _ (List.mem_of_getElem? (i := 54) rfl)) (hw _ (List.mem_of_getElem? (i := 29) rfl)) (by decide) pd_ueq rfl rfl rfl rfl (by decide) (by decide) (by decide) (by decide) ?_
        rintro _ _ - ⟨rfl, rfl⟩
        refine KW.sub (S' := fun _ => False) (fun x hx => hx.elim) ?_
        show KW true l Z M_law n0 (fun v _ => v = some (.int 1)) (EL, fun _ => False) h55 16 56 245 #[.val (.int x), .val (.int y), .val (.int z), .val (.int n1), .val (.int c0), .val (.int c1), .val (.int n2), .val (.int d0), .val (.int d1), .val (.ref ta), .val (.ref tb), .val w1, .val w2, .val w3, .val w4, .val (.ref a1), .val (.ref a27), .val (.int (eqI (tx n1 c0 c1) (tx n2 d0 d1))), .unset, .unset, .unset, .unset, .unset] [(.int (eqI (tx n1 c0 c1) (tx n2 d0 d1)))]
        refine k_istore (Ls' := #[.val (.int x), .val (.int y), .val (.int z), .val (.int n1), .val (.int c0), .val (.int c1), .val (.int n2), .val (.int d0), .val (.int d1), .val (.ref ta), .val (.ref tb), .val w1, .val w2, .val w3, .val w4, .val (.ref a1), .val (.ref a27), .val (.int (eqI (tx n1 c0 c1) (tx n2 d0 d1))), .val (.int (eqI (tx n1 c0 c1) (tx n2 d0 d1))), .unset, .unset, .unset, .unset]) at_245 rfl rfl ?_
        refine k_aload at_247 rfl rfl rfl ?_
        refine k_aload at_249 rfl rfl rfl ?_
        refine k_callVirtual (argsL := [(.ref a1)]) (rest := []) (W0 := 0) at_251 rfl (mt_ueq l Z a0 hw cs hcs SC hEW a27 a1 tb ta t2 t1 (tx n2 d0 d1) (tx n1 c0 c1) h55 n0 f64 f69 F57 f66 f68 f67) (Kp.pure (fun _ _ q => q.2.symm)) f65 (hw _ (List.mem_of_getElem? (i := 50) rfl)) (hw _ (List.mem_of_getElem? (i := 51) rfl)) (hw _ (List.mem_of_getElem? (i := 53) rfl)) (hw _ (List.mem_of_getElem? (i := 53) rfl)) (hw _ (List.mem_of_getElem? (i := 52) rfl)) (hw _ (List.mem_of_getElem? (i := 54) rfl)) (hw _ (List.mem_of_getElem? (i := 29) rfl)) (by decide) pd_ueq rfl rfl rfl rfl (by decide) (by decide) (by decide) (by decide) ?_
        rintro _ _ - ⟨rfl, rfl⟩
        refine KW.sub (S' := fun _ => False) (fun x hx => hx.elim) ?_
        show KW true l Z M_law n0 (fun v _ => v = some (.int 1)) (EL, fun _ => False) h55 16 56 254 #[.val (.int x), .val (.int y), .val (.int z), .val (.int n1), .val (.int c0), .val (.int c1), .val (.int n2), .val (.int d0), .val (.int d1), .val (.ref ta), .val (.ref tb), .val w1, .val w2, .val w3, .val w4, .val (.ref a1), .val (.ref a27), .val (.int (eqI (tx n1 c0 c1) (tx n2 d0 d1))), .val (.int (eqI (tx n1 c0 c1) (tx n2 d0 d1))), .unset, .unset, .unset, .unset] [(.int (eqI (tx n2 d0 d1) (tx n1 c0 c1)))]
        refine k_istore (Ls' := #[.val (.int x), .val (.int y), .val (.int z), .val (.int n1), .val (.int c0), .val (.int c1), .val (.int n2), .val (.int d0), .val (.int d1), .val (.ref ta), .val (.ref tb), .val w1, .val w2, .val w3, .val w4, .val (.ref a1), .val (.ref a27), .val (.int (eqI (tx n1 c0 c1) (tx n2 d0 d1))), .val (.int (eqI (tx n1 c0 c1) (tx n2 d0 d1))), .val (.int (eqI (tx n2 d0 d1) (tx n1 c0 c1))), .unset, .unset, .unset]) at_254 rfl rfl ?_
        refine k_aload at_256 rfl rfl rfl ?_
        refine k_aload at_258 rfl rfl rfl ?_
        refine k_callVirtual (argsL := [(.ref a1)]) (rest := []) (W0 := 0) at_260 rfl (mt_ueq l Z a0 hw cs hcs SC hEW a1 a1 ta ta t1 t1 (tx n1 c0 c1) (tx n1 c0 c1) h55 n0 f64 f69 f66 f66 f67 f67) (Kp.pure (fun _ _ q => q.2.symm)) f69 (hw _ (List.mem_of_getElem? (i := 50) rfl)) (hw _ (List.mem_of_getElem? (i := 51) rfl)) (hw _ (List.mem_of_getElem? (i := 53) rfl)) (hw _ (List.mem_of_getElem? (i := 53) rfl)) (hw _ (List.mem_of_getElem? (i := 52) rfl)) (hw _ (List.mem_of_getElem? (i := 54) rfl)) (hw _ (List.mem_of_getElem? (i := 29) rfl)) (by decide) pd_ueq rfl rfl rfl rfl (by decide) (by decide) (by decide) (by decide) ?_
        rintro _ _ - ⟨rfl, rfl⟩
        refine KW.sub (S' := fun _ => False) (fun x hx => hx.elim) ?_
        show KW true l Z M_law n0 (fun v _ => v = some (.int 1)) (EL, fun _ => False) h55 16 56 263 #[.val (.int x), .val (.int y), .val (.int z), .val (.int n1), .val (.int c0), .val (.int c1), .val (.int n2), .val (.int d0), .val (.int d1), .val (.ref ta), .val (.ref tb), .val w1, .val w2, .val w3, .val w4, .val (.ref a1), .val (.ref a27), .val (.int (eqI (tx n1 c0 c1) (tx n2 d0 d1))), .val (.int (eqI (tx n1 c0 c1) (tx n2 d0 d1))), .val (.int (eqI (tx n2 d0 d1) (tx n1 c0 c1))), .unset, .unset, .unset] [(.int (eqI (tx n1 c0 c1) (tx n1 c0 c1)))]
        refine k_istore (Ls' := #[.val (.int x), .val (.int y), .val (.int z), .val (.int n1), .val (.int c0), .val (.int c1), .val (.int n2), .val (.int d0), .val (.int d1), .val (.ref ta), .val (.ref tb), .val w1, .val w2, .val w3, .val w4, .val (.ref a1), .val (.ref a27), .val (.int (eqI (tx n1 c0 c1) (tx n2 d0 d1))), .val (.int (eqI (tx n1 c0 c1) (tx n2 d0 d1))), .val (.int (eqI (tx n2 d0 d1) (tx n1 c0 c1))), .val (.int (eqI (tx n1 c0 c1) (tx n1 c0 c1))), .unset, .unset]) at_263 rfl rfl ?_
        refine k_aload at_265 rfl rfl rfl ?_
        refine k_aconstNull at_267 rfl ?_
        refine k_callVirtual (argsL := [.null]) (rest := []) (W0 := 0) at_268 rfl (mt_ueqN l Z a0 hw cs hcs SC hEW a1 h55 n0) (Kp.pure (fun _ _ q => q.2.symm)) f69 (hw _ (List.mem_of_getElem? (i := 50) rfl)) (hw _ (List.mem_of_getElem? (i := 51) rfl)) (hw _ (List.mem_of_getElem? (i := 53) rfl)) (hw _ (List.mem_of_getElem? (i := 53) rfl)) (hw _ (List.mem_of_getElem? (i := 52) rfl)) (hw _ (List.mem_of_getElem? (i := 54) rfl)) (hw _ (List.mem_of_getElem? (i := 29) rfl)) (by decide) pd_ueq rfl rfl rfl rfl (by decide) (by decide) (by decide) (by decide) ?_
        rintro _ _ - ⟨rfl, rfl⟩
        refine KW.sub (S' := fun _ => False) (fun x hx => hx.elim) ?_
        show KW true l Z M_law n0 (fun v _ => v = some (.int 1)) (EL, fun _ => False) h55 16 56 271 #[.val (.int x), .val (.int y), .val (.int z), .val (.int n1), .val (.int c0), .val (.int c1), .val (.int n2), .val (.int d0), .val (.int d1), .val (.ref ta), .val (.ref tb), .val w1, .val w2, .val w3, .val w4, .val (.ref a1), .val (.ref a27), .val (.int (eqI (tx n1 c0 c1) (tx n2 d0 d1))), .val (.int (eqI (tx n1 c0 c1) (tx n2 d0 d1))), .val (.int (eqI (tx n2 d0 d1) (tx n1 c0 c1))), .val (.int (eqI (tx n1 c0 c1) (tx n1 c0 c1))), .unset, .unset] [(.int (0 : Int32))]
        refine k_istore (Ls' := #[.val (.int x), .val (.int y), .val (.int z), .val (.int n1), .val (.int c0), .val (.int c1), .val (.int n2), .val (.int d0), .val (.int d1), .val (.ref ta), .val (.ref tb), .val w1, .val w2, .val w3, .val w4, .val (.ref a1), .val (.ref a27), .val (.int (eqI (tx n1 c0 c1) (tx n2 d0 d1))), .val (.int (eqI (tx n1 c0 c1) (tx n2 d0 d1))), .val (.int (eqI (tx n2 d0 d1) (tx n1 c0 c1))), .val (.int (eqI (tx n1 c0 c1) (tx n1 c0 c1))), .val (.int (0 : Int32)), .unset]) at_271 rfl rfl ?_
        refine k_aload at_273 rfl rfl rfl ?_
        refine k_aload at_275 rfl rfl rfl ?_
        refine k_callVirtual (argsL := [(.ref ta)]) (rest := []) (W0 := 0) at_277 rfl (mt_ueqS l Z a0 hw cs hcs SC hEW a1 ta h55 n0 f67.exa) (Kp.pure (fun _ _ q => q.2.symm)) f69 (hw _ (List.mem_of_getElem? (i := 50) rfl)) (hw _ (List.mem_of_getElem? (i := 51) rfl)) (hw _ (List.mem_of_getElem? (i := 53) rfl)) (hw _ (List.mem_of_getElem? (i := 53) rfl)) (hw _ (List.mem_of_getElem? (i := 52) rfl)) (hw _ (List.mem_of_getElem? (i := 54) rfl)) (hw _ (List.mem_of_getElem? (i := 29) rfl)) (by decide) pd_ueq rfl rfl rfl rfl (by decide) (by decide) (by decide) (by decide) ?_
        rintro _ _ - ⟨rfl, rfl⟩
        refine KW.sub (S' := fun _ => False) (fun x hx => hx.elim) ?_
        show KW true l Z M_law n0 (fun v _ => v = some (.int 1)) (EL, fun _ => False) h55 16 56 280 #[.val (.int x), .val (.int y), .val (.int z), .val (.int n1), .val (.int c0), .val (.int c1), .val (.int n2), .val (.int d0), .val (.int d1), .val (.ref ta), .val (.ref tb), .val w1, .val w2, .val w3, .val w4, .val (.ref a1), .val (.ref a27), .val (.int (eqI (tx n1 c0 c1) (tx n2 d0 d1))), .val (.int (eqI (tx n1 c0 c1) (tx n2 d0 d1))), .val (.int (eqI (tx n2 d0 d1) (tx n1 c0 c1))), .val (.int (eqI (tx n1 c0 c1) (tx n1 c0 c1))), .val (.int (0 : Int32)), .unset] [(.int (0 : Int32))]
        refine k_istore (Ls' := #[.val (.int x), .val (.int y), .val (.int z), .val (.int n1), .val (.int c0), .val (.int c1), .val (.int n2), .val (.int d0), .val (.int d1), .val (.ref ta), .val (.ref tb), .val w1, .val w2, .val w3, .val w4, .val (.ref a1), .val (.ref a27), .val (.int (eqI (tx n1 c0 c1) (tx n2 d0 d1))), .val (.int (eqI (tx n1 c0 c1) (tx n2 d0 d1))), .val (.int (eqI (tx n2 d0 d1) (tx n1 c0 c1))), .val (.int (eqI (tx n1 c0 c1) (tx n1 c0 c1))), .val (.int (0 : Int32)), .val (.int (0 : Int32))]) at_280 rfl rfl ?_
        refine k_iload at_282 rfl rfl ?_
        refine k_iload at_284 rfl rfl ?_
        refine k_icmp (pc1 := 315) (pc' := 289) at_286 (by decide) (by decide) rfl (fun (cd9 : ¬ (eqI (tx n1 c0 c1) (tx n2 d0 d1)) = (eqI (tx n1 c0 c1) (tx n2 d0 d1))) => False.elim (by exact cd9 rfl)) (fun (cd9 : (eqI (tx n1 c0 c1) (tx n2 d0 d1)) = (eqI (tx n1 c0 c1) (tx n2 d0 d1))) => ?_)
        refine k_iload at_289 rfl rfl ?_
        refine k_iload at_291 rfl rfl ?_
        refine k_icmp (pc1 := 315) (pc' := 296) at_293 (by decide) (by decide) rfl (fun (cd10 : ¬ (eqI (tx n2 d0 d1) (tx n1 c0 c1)) = (eqI (tx n1 c0 c1) (tx n2 d0 d1))) => False.elim (by exact cd10 (eqI_comm _ _))) (fun (cd10 : (eqI (tx n2 d0 d1) (tx n1 c0 c1)) = (eqI (tx n1 c0 c1) (tx n2 d0 d1))) => ?_)
        refine k_iload at_296 rfl rfl ?_
        refine k_ifc (pc1 := 315) (pc' := 301) at_298 (by decide) (by decide) rfl (fun (cd11 : (eqI (tx n1 c0 c1) (tx n1 c0 c1)) = (0 : Int32)) => False.elim (by rw [eqI_self] at cd11; exact absurd cd11 (by decide))) (fun (cd11 : ¬ (eqI (tx n1 c0 c1) (tx n1 c0 c1)) = (0 : Int32)) => ?_)
        refine k_iload at_301 rfl rfl ?_
        refine k_ifc (pc1 := 315) (pc' := 306) at_303 (by decide) (by decide) rfl (fun (cd12 : ¬ (0 : Int32) = (0 : Int32)) => False.elim (by exact absurd cd12 (by decide))) (fun (cd12 : (0 : Int32) = (0 : Int32)) => ?_)
        refine k_iload at_306 rfl rfl ?_
        refine k_ifc (pc1 := 315) (pc' := 311) at_308 (by decide) (by decide) rfl (fun (cd13 : ¬ (0 : Int32) = (0 : Int32)) => False.elim (by exact absurd cd13 (by decide))) (fun (cd13 : (0 : Int32) = (0 : Int32)) => ?_)
        refine k_iconst (z := (1 : Int32)) at_311 rfl (by decide) ?_
        refine k_goto (pc' := 316) at_312 (by decide) (by decide) ?_
        exact k_retNar at_316 rfl (by simp) (z' := (1 : Int32)) (by decide) (by decide) (by decide) rfl
      · skip
        refine k_iload at_224 rfl rfl ?_
        refine k_iload at_226 rfl rfl ?_
        refine k_icmp (pc1 := 235) (pc' := 231) at_228 (by decide) (by decide) rfl (fun (cd14 : ¬ c1 = d1) => ?_) (fun (cd14 : c1 = d1) => ?_)
        · skip
          refine k_iconst (z := (0 : Int32)) at_235 rfl (by decide) ?_
          have ee : eqI (tx n1 c0 c1) (tx n2 d0 d1) = (0 : Int32) := by
            first | exact own_s0 hn1 hn2 (by assumption) | exact own_s0a hn1 (by assumption) hc0 hd0 (by assumption) (by assumption) | exact own_s0b hn1 (by assumption) hc1 hd1 (by assumption) (by assumption)
          refine KW.top (congrArg Value.int ee.symm) ?_
          show KW true l Z M_law n0 (fun v _ => v = some (.int 1)) (EL, fun _ => False) h55 16 56 236 #[.val (.int x), .val (.int y), .val (.int z), .val (.int n1), .val (.int c0), .val (.int c1), .val (.int n2), .val (.int d0), .val (.int d1), .val (.ref ta), .val (.ref tb), .val w1, .val w2, .val w3, .val w4, .val (.ref a1), .val (.ref a27), .unset, .unset, .unset, .unset, .unset, .unset] [(.int (eqI (tx n1 c0 c1) (tx n2 d0 d1)))]
          refine k_istore (Ls' := #[.val (.int x), .val (.int y), .val (.int z), .val (.int n1), .val (.int c0), .val (.int c1), .val (.int n2), .val (.int d0), .val (.int d1), .val (.ref ta), .val (.ref tb), .val w1, .val w2, .val w3, .val w4, .val (.ref a1), .val (.ref a27), .val (.int (eqI (tx n1 c0 c1) (tx n2 d0 d1))), .unset, .unset, .unset, .unset, .unset]) at_236 rfl rfl ?_
          refine k_aload at_238 rfl rfl rfl ?_
          refine k_aload at_240 rfl rfl rfl ?_
          have f70 := ((((OD.ext E3).keep K25 (allS ge12 all0)).ext E29).keep K56 (allS ge42 all0))
          have f71 := (A30.keep K56)
          have f72 := ((F26.ext E29).keep K56 (ninS ne40 nin0))
          have f73 := (f52.keep K56 (ninS ne36 nin0) (ninS ne37 nin0))
          have f74 := (f53.keep K56 (ninS ne38 nin0) (ninS ne39 nin0))
          have f75 := (f54.keep K56)
          refine k_callVirtual (argsL := [(.ref a27)]) (rest := []) (W0 := 0) at_242 rfl (mt_ueq l Z a0 hw cs hcs SC hEW a1 a27 ta tb t1 t2 (tx n1 c0 c1) (tx n2 d0 d1) h55 n0 f70 f71 f72 F57 f73 f74) (Kp.pure (fun _ _ q => q.2.symm)) f75 (hw _ (List.mem_of_getElem? (i := 50) rfl)) (hw _ (List.mem_of_getElem? (i := 51) rfl)) (hw _ (List.mem_of_getElem? (i := 53) rfl)) (hw _ (List.mem_of_getElem? (i := 53) rfl)) (hw _ (List.mem_of_getElem? (i := 52) rfl)) (hw _ (List.mem_of_getElem? (i := 54) rfl)) (hw _ (List.mem_of_getElem? (i := 29) rfl)) (by decide) pd_ueq rfl rfl rfl rfl (by decide) (by decide) (by decide) (by decide) ?_
          rintro _ _ - ⟨rfl, rfl⟩
          refine KW.sub (S' := fun _ => False) (fun x hx => hx.elim) ?_
          show KW true l Z M_law n0 (fun v _ => v = some (.int 1)) (EL, fun _ => False) h55 16 56 245 #[.val (.int x), .val (.int y), .val (.int z), .val (.int n1), .val (.int c0), .val (.int c1), .val (.int n2), .val (.int d0), .val (.int d1), .val (.ref ta), .val (.ref tb), .val w1, .val w2, .val w3, .val w4, .val (.ref a1), .val (.ref a27), .val (.int (eqI (tx n1 c0 c1) (tx n2 d0 d1))), .unset, .unset, .unset, .unset, .unset] [(.int (eqI (tx n1 c0 c1) (tx n2 d0 d1)))]
          refine k_istore (Ls' := #[.val (.int x), .val (.int y), .val (.int z), .val (.int n1), .val (.int c0), .val (.int c1), .val (.int n2), .val (.int d0), .val (.int d1), .val (.ref ta), .val (.ref tb), .val w1, .val w2, .val w3, .val w4, .val (.ref a1), .val (.ref a27), .val (.int (eqI (tx n1 c0 c1) (tx n2 d0 d1))), .val (.int (eqI (tx n1 c0 c1) (tx n2 d0 d1))), .unset, .unset, .unset, .unset]) at_245 rfl rfl ?_
          refine k_aload at_247 rfl rfl rfl ?_
          refine k_aload at_249 rfl rfl rfl ?_
          refine k_callVirtual (argsL := [(.ref a1)]) (rest := []) (W0 := 0) at_251 rfl (mt_ueq l Z a0 hw cs hcs SC hEW a27 a1 tb ta t2 t1 (tx n2 d0 d1) (tx n1 c0 c1) h55 n0 f70 f75 F57 f72 f74 f73) (Kp.pure (fun _ _ q => q.2.symm)) f71 (hw _ (List.mem_of_getElem? (i := 50) rfl)) (hw _ (List.mem_of_getElem? (i := 51) rfl)) (hw _ (List.mem_of_getElem? (i := 53) rfl)) (hw _ (List.mem_of_getElem? (i := 53) rfl)) (hw _ (List.mem_of_getElem? (i := 52) rfl)) (hw _ (List.mem_of_getElem? (i := 54) rfl)) (hw _ (List.mem_of_getElem? (i := 29) rfl)) (by decide) pd_ueq rfl rfl rfl rfl (by decide) (by decide) (by decide) (by decide) ?_
          rintro _ _ - ⟨rfl, rfl⟩
          refine KW.sub (S' := fun _ => False) (fun x hx => hx.elim) ?_
          show KW true l Z M_law n0 (fun v _ => v = some (.int 1)) (EL, fun _ => False) h55 16 56 254 #[.val (.int x), .val (.int y), .val (.int z), .val (.int n1), .val (.int c0), .val (.int c1), .val (.int n2), .val (.int d0), .val (.int d1), .val (.ref ta), .val (.ref tb), .val w1, .val w2, .val w3, .val w4, .val (.ref a1), .val (.ref a27), .val (.int (eqI (tx n1 c0 c1) (tx n2 d0 d1))), .val (.int (eqI (tx n1 c0 c1) (tx n2 d0 d1))), .unset, .unset, .unset, .unset] [(.int (eqI (tx n2 d0 d1) (tx n1 c0 c1)))]
          refine k_istore (Ls' := #[.val (.int x), .val (.int y), .val (.int z), .val (.int n1), .val (.int c0), .val (.int c1), .val (.int n2), .val (.int d0), .val (.int d1), .val (.ref ta), .val (.ref tb), .val w1, .val w2, .val w3, .val w4, .val (.ref a1), .val (.ref a27), .val (.int (eqI (tx n1 c0 c1) (tx n2 d0 d1))), .val (.int (eqI (tx n1 c0 c1) (tx n2 d0 d1))), .val (.int (eqI (tx n2 d0 d1) (tx n1 c0 c1))), .unset, .unset, .unset]) at_254 rfl rfl ?_
          refine k_aload at_256 rfl rfl rfl ?_
          refine k_aload at_258 rfl rfl rfl ?_
          refine k_callVirtual (argsL := [(.ref a1)]) (rest := []) (W0 := 0) at_260 rfl (mt_ueq l Z a0 hw cs hcs SC hEW a1 a1 ta ta t1 t1 (tx n1 c0 c1) (tx n1 c0 c1) h55 n0 f70 f75 f72 f72 f73 f73) (Kp.pure (fun _ _ q => q.2.symm)) f75 (hw _ (List.mem_of_getElem? (i := 50) rfl)) (hw _ (List.mem_of_getElem? (i := 51) rfl)) (hw _ (List.mem_of_getElem? (i := 53) rfl)) (hw _ (List.mem_of_getElem? (i := 53) rfl)) (hw _ (List.mem_of_getElem? (i := 52) rfl)) (hw _ (List.mem_of_getElem? (i := 54) rfl)) (hw _ (List.mem_of_getElem? (i := 29) rfl)) (by decide) pd_ueq rfl rfl rfl rfl (by decide) (by decide) (by decide) (by decide) ?_
          rintro _ _ - ⟨rfl, rfl⟩
          refine KW.sub (S' := fun _ => False) (fun x hx => hx.elim) ?_
          show KW true l Z M_law n0 (fun v _ => v = some (.int 1)) (EL, fun _ => False) h55 16 56 263 #[.val (.int x), .val (.int y), .val (.int z), .val (.int n1), .val (.int c0), .val (.int c1), .val (.int n2), .val (.int d0), .val (.int d1), .val (.ref ta), .val (.ref tb), .val w1, .val w2, .val w3, .val w4, .val (.ref a1), .val (.ref a27), .val (.int (eqI (tx n1 c0 c1) (tx n2 d0 d1))), .val (.int (eqI (tx n1 c0 c1) (tx n2 d0 d1))), .val (.int (eqI (tx n2 d0 d1) (tx n1 c0 c1))), .unset, .unset, .unset] [(.int (eqI (tx n1 c0 c1) (tx n1 c0 c1)))]
          refine k_istore (Ls' := #[.val (.int x), .val (.int y), .val (.int z), .val (.int n1), .val (.int c0), .val (.int c1), .val (.int n2), .val (.int d0), .val (.int d1), .val (.ref ta), .val (.ref tb), .val w1, .val w2, .val w3, .val w4, .val (.ref a1), .val (.ref a27), .val (.int (eqI (tx n1 c0 c1) (tx n2 d0 d1))), .val (.int (eqI (tx n1 c0 c1) (tx n2 d0 d1))), .val (.int (eqI (tx n2 d0 d1) (tx n1 c0 c1))), .val (.int (eqI (tx n1 c0 c1) (tx n1 c0 c1))), .unset, .unset]) at_263 rfl rfl ?_
          refine k_aload at_265 rfl rfl rfl ?_
          refine k_aconstNull at_267 rfl ?_
          refine k_callVirtual (argsL := [.null]) (rest := []) (W0 := 0) at_268 rfl (mt_ueqN l Z a0 hw cs hcs SC hEW a1 h55 n0) (Kp.pure (fun _ _ q => q.2.symm)) f75 (hw _ (List.mem_of_getElem? (i := 50) rfl)) (hw _ (List.mem_of_getElem? (i := 51) rfl)) (hw _ (List.mem_of_getElem? (i := 53) rfl)) (hw _ (List.mem_of_getElem? (i := 53) rfl)) (hw _ (List.mem_of_getElem? (i := 52) rfl)) (hw _ (List.mem_of_getElem? (i := 54) rfl)) (hw _ (List.mem_of_getElem? (i := 29) rfl)) (by decide) pd_ueq rfl rfl rfl rfl (by decide) (by decide) (by decide) (by decide) ?_
          rintro _ _ - ⟨rfl, rfl⟩
          refine KW.sub (S' := fun _ => False) (fun x hx => hx.elim) ?_
          show KW true l Z M_law n0 (fun v _ => v = some (.int 1)) (EL, fun _ => False) h55 16 56 271 #[.val (.int x), .val (.int y), .val (.int z), .val (.int n1), .val (.int c0), .val (.int c1), .val (.int n2), .val (.int d0), .val (.int d1), .val (.ref ta), .val (.ref tb), .val w1, .val w2, .val w3, .val w4, .val (.ref a1), .val (.ref a27), .val (.int (eqI (tx n1 c0 c1) (tx n2 d0 d1))), .val (.int (eqI (tx n1 c0 c1) (tx n2 d0 d1))), .val (.int (eqI (tx n2 d0 d1) (tx n1 c0 c1))), .val (.int (eqI (tx n1 c0 c1) (tx n1 c0 c1))), .unset, .unset] [(.int (0 : Int32))]
          refine k_istore (Ls' := #[.val (.int x), .val (.int y), .val (.int z), .val (.int n1), .val (.int c0), .val (.int c1), .val (.int n2), .val (.int d0), .val (.int d1), .val (.ref ta), .val (.ref tb), .val w1, .val w2, .val w3, .val w4, .val (.ref a1), .val (.ref a27), .val (.int (eqI (tx n1 c0 c1) (tx n2 d0 d1))), .val (.int (eqI (tx n1 c0 c1) (tx n2 d0 d1))), .val (.int (eqI (tx n2 d0 d1) (tx n1 c0 c1))), .val (.int (eqI (tx n1 c0 c1) (tx n1 c0 c1))), .val (.int (0 : Int32)), .unset]) at_271 rfl rfl ?_
          refine k_aload at_273 rfl rfl rfl ?_
          refine k_aload at_275 rfl rfl rfl ?_
          refine k_callVirtual (argsL := [(.ref ta)]) (rest := []) (W0 := 0) at_277 rfl (mt_ueqS l Z a0 hw cs hcs SC hEW a1 ta h55 n0 f73.exa) (Kp.pure (fun _ _ q => q.2.symm)) f75 (hw _ (List.mem_of_getElem? (i := 50) rfl)) (hw _ (List.mem_of_getElem? (i := 51) rfl)) (hw _ (List.mem_of_getElem? (i := 53) rfl)) (hw _ (List.mem_of_getElem? (i := 53) rfl)) (hw _ (List.mem_of_getElem? (i := 52) rfl)) (hw _ (List.mem_of_getElem? (i := 54) rfl)) (hw _ (List.mem_of_getElem? (i := 29) rfl)) (by decide) pd_ueq rfl rfl rfl rfl (by decide) (by decide) (by decide) (by decide) ?_
          rintro _ _ - ⟨rfl, rfl⟩
          refine KW.sub (S' := fun _ => False) (fun x hx => hx.elim) ?_
          show KW true l Z M_law n0 (fun v _ => v = some (.int 1)) (EL, fun _ => False) h55 16 56 280 #[.val (.int x), .val (.int y), .val (.int z), .val (.int n1), .val (.int c0), .val (.int c1), .val (.int n2), .val (.int d0), .val (.int d1), .val (.ref ta), .val (.ref tb), .val w1, .val w2, .val w3, .val w4, .val (.ref a1), .val (.ref a27), .val (.int (eqI (tx n1 c0 c1) (tx n2 d0 d1))), .val (.int (eqI (tx n1 c0 c1) (tx n2 d0 d1))), .val (.int (eqI (tx n2 d0 d1) (tx n1 c0 c1))), .val (.int (eqI (tx n1 c0 c1) (tx n1 c0 c1))), .val (.int (0 : Int32)), .unset] [(.int (0 : Int32))]
          refine k_istore (Ls' := #[.val (.int x), .val (.int y), .val (.int z), .val (.int n1), .val (.int c0), .val (.int c1), .val (.int n2), .val (.int d0), .val (.int d1), .val (.ref ta), .val (.ref tb), .val w1, .val w2, .val w3, .val w4, .val (.ref a1), .val (.ref a27), .val (.int (eqI (tx n1 c0 c1) (tx n2 d0 d1))), .val (.int (eqI (tx n1 c0 c1) (tx n2 d0 d1))), .val (.int (eqI (tx n2 d0 d1) (tx n1 c0 c1))), .val (.int (eqI (tx n1 c0 c1) (tx n1 c0 c1))), .val (.int (0 : Int32)), .val (.int (0 : Int32))]) at_280 rfl rfl ?_
          refine k_iload at_282 rfl rfl ?_
          refine k_iload at_284 rfl rfl ?_
          refine k_icmp (pc1 := 315) (pc' := 289) at_286 (by decide) (by decide) rfl (fun (cd15 : ¬ (eqI (tx n1 c0 c1) (tx n2 d0 d1)) = (eqI (tx n1 c0 c1) (tx n2 d0 d1))) => False.elim (by exact cd15 rfl)) (fun (cd15 : (eqI (tx n1 c0 c1) (tx n2 d0 d1)) = (eqI (tx n1 c0 c1) (tx n2 d0 d1))) => ?_)
          refine k_iload at_289 rfl rfl ?_
          refine k_iload at_291 rfl rfl ?_
          refine k_icmp (pc1 := 315) (pc' := 296) at_293 (by decide) (by decide) rfl (fun (cd16 : ¬ (eqI (tx n2 d0 d1) (tx n1 c0 c1)) = (eqI (tx n1 c0 c1) (tx n2 d0 d1))) => False.elim (by exact cd16 (eqI_comm _ _))) (fun (cd16 : (eqI (tx n2 d0 d1) (tx n1 c0 c1)) = (eqI (tx n1 c0 c1) (tx n2 d0 d1))) => ?_)
          refine k_iload at_296 rfl rfl ?_
          refine k_ifc (pc1 := 315) (pc' := 301) at_298 (by decide) (by decide) rfl (fun (cd17 : (eqI (tx n1 c0 c1) (tx n1 c0 c1)) = (0 : Int32)) => False.elim (by rw [eqI_self] at cd17; exact absurd cd17 (by decide))) (fun (cd17 : ¬ (eqI (tx n1 c0 c1) (tx n1 c0 c1)) = (0 : Int32)) => ?_)
          refine k_iload at_301 rfl rfl ?_
          refine k_ifc (pc1 := 315) (pc' := 306) at_303 (by decide) (by decide) rfl (fun (cd18 : ¬ (0 : Int32) = (0 : Int32)) => False.elim (by exact absurd cd18 (by decide))) (fun (cd18 : (0 : Int32) = (0 : Int32)) => ?_)
          refine k_iload at_306 rfl rfl ?_
          refine k_ifc (pc1 := 315) (pc' := 311) at_308 (by decide) (by decide) rfl (fun (cd19 : ¬ (0 : Int32) = (0 : Int32)) => False.elim (by exact absurd cd19 (by decide))) (fun (cd19 : (0 : Int32) = (0 : Int32)) => ?_)
          refine k_iconst (z := (1 : Int32)) at_311 rfl (by decide) ?_
          refine k_goto (pc' := 316) at_312 (by decide) (by decide) ?_
          exact k_retNar at_316 rfl (by simp) (z' := (1 : Int32)) (by decide) (by decide) (by decide) rfl
        · skip
          refine k_iconst (z := (1 : Int32)) at_231 rfl (by decide) ?_
          refine k_goto (pc' := 236) at_232 (by decide) (by decide) ?_
          have ee : eqI (tx n1 c0 c1) (tx n2 d0 d1) = (1 : Int32) := by
            exact own_s1 hn1 (by assumption) (by first | exact Or.inl (by assumption) | exact Or.inr (by assumption)) (by first | exact Or.inl (by assumption) | exact Or.inr (by assumption))
          refine KW.top (congrArg Value.int ee.symm) ?_
          show KW true l Z M_law n0 (fun v _ => v = some (.int 1)) (EL, fun _ => False) h55 16 56 236 #[.val (.int x), .val (.int y), .val (.int z), .val (.int n1), .val (.int c0), .val (.int c1), .val (.int n2), .val (.int d0), .val (.int d1), .val (.ref ta), .val (.ref tb), .val w1, .val w2, .val w3, .val w4, .val (.ref a1), .val (.ref a27), .unset, .unset, .unset, .unset, .unset, .unset] [(.int (eqI (tx n1 c0 c1) (tx n2 d0 d1)))]
          refine k_istore (Ls' := #[.val (.int x), .val (.int y), .val (.int z), .val (.int n1), .val (.int c0), .val (.int c1), .val (.int n2), .val (.int d0), .val (.int d1), .val (.ref ta), .val (.ref tb), .val w1, .val w2, .val w3, .val w4, .val (.ref a1), .val (.ref a27), .val (.int (eqI (tx n1 c0 c1) (tx n2 d0 d1))), .unset, .unset, .unset, .unset, .unset]) at_236 rfl rfl ?_
          refine k_aload at_238 rfl rfl rfl ?_
          refine k_aload at_240 rfl rfl rfl ?_
          have f76 := ((((OD.ext E3).keep K25 (allS ge12 all0)).ext E29).keep K56 (allS ge42 all0))
          have f77 := (A30.keep K56)
          have f78 := ((F26.ext E29).keep K56 (ninS ne40 nin0))
          have f79 := (f52.keep K56 (ninS ne36 nin0) (ninS ne37 nin0))
          have f80 := (f53.keep K56 (ninS ne38 nin0) (ninS ne39 nin0))
          have f81 := (f54.keep K56)
          refine k_callVirtual (argsL := [(.ref a27)]) (rest := []) (W0 := 0) at_242 rfl (mt_ueq l Z a0 hw cs hcs SC hEW a1 a27 ta tb t1 t2 (tx n1 c0 c1) (tx n2 d0 d1) h55 n0 f76 f77 f78 F57 f79 f80) (Kp.pure (fun _ _ q => q.2.symm)) f81 (hw _ (List.mem_of_getElem? (i := 50) rfl)) (hw _ (List.mem_of_getElem? (i := 51) rfl)) (hw _ (List.mem_of_getElem? (i := 53) rfl)) (hw _ (List.mem_of_getElem? (i := 53) rfl)) (hw _ (List.mem_of_getElem? (i := 52) rfl)) (hw _ (List.mem_of_getElem? (i := 54) rfl)) (hw _ (List.mem_of_getElem? (i := 29) rfl)) (by decide) pd_ueq rfl rfl rfl rfl (by decide) (by decide) (by decide) (by decide) ?_
          rintro _ _ - ⟨rfl, rfl⟩
          refine KW.sub (S' := fun _ => False) (fun x hx => hx.elim) ?_
          show KW true l Z M_law n0 (fun v _ => v = some (.int 1)) (EL, fun _ => False) h55 16 56 245 #[.val (.int x), .val (.int y), .val (.int z), .val (.int n1), .val (.int c0), .val (.int c1), .val (.int n2), .val (.int d0), .val (.int d1), .val (.ref ta), .val (.ref tb), .val w1, .val w2, .val w3, .val w4, .val (.ref a1), .val (.ref a27), .val (.int (eqI (tx n1 c0 c1) (tx n2 d0 d1))), .unset, .unset, .unset, .unset, .unset] [(.int (eqI (tx n1 c0 c1) (tx n2 d0 d1)))]
          refine k_istore (Ls' := #[.val (.int x), .val (.int y), .val (.int z), .val (.int n1), .val (.int c0), .val (.int c1), .val (.int n2), .val (.int d0), .val (.int d1), .val (.ref ta), .val (.ref tb), .val w1, .val w2, .val w3, .val w4, .val (.ref a1), .val (.ref a27), .val (.int (eqI (tx n1 c0 c1) (tx n2 d0 d1))), .val (.int (eqI (tx n1 c0 c1) (tx n2 d0 d1))), .unset, .unset, .unset, .unset]) at_245 rfl rfl ?_
          refine k_aload at_247 rfl rfl rfl ?_
          refine k_aload at_249 rfl rfl rfl ?_
          refine k_callVirtual (argsL := [(.ref a1)]) (rest := []) (W0 := 0) at_251 rfl (mt_ueq l Z a0 hw cs hcs SC hEW a27 a1 tb ta t2 t1 (tx n2 d0 d1) (tx n1 c0 c1) h55 n0 f76 f81 F57 f78 f80 f79) (Kp.pure (fun _ _ q => q.2.symm)) f77 (hw _ (List.mem_of_getElem? (i := 50) rfl)) (hw _ (List.mem_of_getElem? (i := 51) rfl)) (hw _ (List.mem_of_getElem? (i := 53) rfl)) (hw _ (List.mem_of_getElem? (i := 53) rfl)) (hw _ (List.mem_of_getElem? (i := 52) rfl)) (hw _ (List.mem_of_getElem? (i := 54) rfl)) (hw _ (List.mem_of_getElem? (i := 29) rfl)) (by decide) pd_ueq rfl rfl rfl rfl (by decide) (by decide) (by decide) (by decide) ?_
          rintro _ _ - ⟨rfl, rfl⟩
          refine KW.sub (S' := fun _ => False) (fun x hx => hx.elim) ?_
          show KW true l Z M_law n0 (fun v _ => v = some (.int 1)) (EL, fun _ => False) h55 16 56 254 #[.val (.int x), .val (.int y), .val (.int z), .val (.int n1), .val (.int c0), .val (.int c1), .val (.int n2), .val (.int d0), .val (.int d1), .val (.ref ta), .val (.ref tb), .val w1, .val w2, .val w3, .val w4, .val (.ref a1), .val (.ref a27), .val (.int (eqI (tx n1 c0 c1) (tx n2 d0 d1))), .val (.int (eqI (tx n1 c0 c1) (tx n2 d0 d1))), .unset, .unset, .unset, .unset] [(.int (eqI (tx n2 d0 d1) (tx n1 c0 c1)))]
          refine k_istore (Ls' := #[.val (.int x), .val (.int y), .val (.int z), .val (.int n1), .val (.int c0), .val (.int c1), .val (.int n2), .val (.int d0), .val (.int d1), .val (.ref ta), .val (.ref tb), .val w1, .val w2, .val w3, .val w4, .val (.ref a1), .val (.ref a27), .val (.int (eqI (tx n1 c0 c1) (tx n2 d0 d1))), .val (.int (eqI (tx n1 c0 c1) (tx n2 d0 d1))), .val (.int (eqI (tx n2 d0 d1) (tx n1 c0 c1))), .unset, .unset, .unset]) at_254 rfl rfl ?_
          refine k_aload at_256 rfl rfl rfl ?_
          refine k_aload at_258 rfl rfl rfl ?_
          refine k_callVirtual (argsL := [(.ref a1)]) (rest := []) (W0 := 0) at_260 rfl (mt_ueq l Z a0 hw cs hcs SC hEW a1 a1 ta ta t1 t1 (tx n1 c0 c1) (tx n1 c0 c1) h55 n0 f76 f81 f78 f78 f79 f79) (Kp.pure (fun _ _ q => q.2.symm)) f81 (hw _ (List.mem_of_getElem? (i := 50) rfl)) (hw _ (List.mem_of_getElem? (i := 51) rfl)) (hw _ (List.mem_of_getElem? (i := 53) rfl)) (hw _ (List.mem_of_getElem? (i := 53) rfl)) (hw _ (List.mem_of_getElem? (i := 52) rfl)) (hw _ (List.mem_of_getElem? (i := 54) rfl)) (hw _ (List.mem_of_getElem? (i := 29) rfl)) (by decide) pd_ueq rfl rfl rfl rfl (by decide) (by decide) (by decide) (by decide) ?_
          rintro _ _ - ⟨rfl, rfl⟩
          refine KW.sub (S' := fun _ => False) (fun x hx => hx.elim) ?_
          show KW true l Z M_law n0 (fun v _ => v = some (.int 1)) (EL, fun _ => False) h55 16 56 263 #[.val (.int x), .val (.int y), .val (.int z), .val (.int n1), .val (.int c0), .val (.int c1), .val (.int n2), .val (.int d0), .val (.int d1), .val (.ref ta), .val (.ref tb), .val w1, .val w2, .val w3, .val w4, .val (.ref a1), .val (.ref a27), .val (.int (eqI (tx n1 c0 c1) (tx n2 d0 d1))), .val (.int (eqI (tx n1 c0 c1) (tx n2 d0 d1))), .val (.int (eqI (tx n2 d0 d1) (tx n1 c0 c1))), .unset, .unset, .unset] [(.int (eqI (tx n1 c0 c1) (tx n1 c0 c1)))]
          refine k_istore (Ls' := #[.val (.int x), .val (.int y), .val (.int z), .val (.int n1), .val (.int c0), .val (.int c1), .val (.int n2), .val (.int d0), .val (.int d1), .val (.ref ta), .val (.ref tb), .val w1, .val w2, .val w3, .val w4, .val (.ref a1), .val (.ref a27), .val (.int (eqI (tx n1 c0 c1) (tx n2 d0 d1))), .val (.int (eqI (tx n1 c0 c1) (tx n2 d0 d1))), .val (.int (eqI (tx n2 d0 d1) (tx n1 c0 c1))), .val (.int (eqI (tx n1 c0 c1) (tx n1 c0 c1))), .unset, .unset]) at_263 rfl rfl ?_
          refine k_aload at_265 rfl rfl rfl ?_
          refine k_aconstNull at_267 rfl ?_
          refine k_callVirtual (argsL := [.null]) (rest := []) (W0 := 0) at_268 rfl (mt_ueqN l Z a0 hw cs hcs SC hEW a1 h55 n0) (Kp.pure (fun _ _ q => q.2.symm)) f81 (hw _ (List.mem_of_getElem? (i := 50) rfl)) (hw _ (List.mem_of_getElem? (i := 51) rfl)) (hw _ (List.mem_of_getElem? (i := 53) rfl)) (hw _ (List.mem_of_getElem? (i := 53) rfl)) (hw _ (List.mem_of_getElem? (i := 52) rfl)) (hw _ (List.mem_of_getElem? (i := 54) rfl)) (hw _ (List.mem_of_getElem? (i := 29) rfl)) (by decide) pd_ueq rfl rfl rfl rfl (by decide) (by decide) (by decide) (by decide) ?_
          rintro _ _ - ⟨rfl, rfl⟩
          refine KW.sub (S' := fun _ => False) (fun x hx => hx.elim) ?_
          show KW true l Z M_law n0 (fun v _ => v = some (.int 1)) (EL, fun _ => False) h55 16 56 271 #[.val (.int x), .val (.int y), .val (.int z), .val (.int n1), .val (.int c0), .val (.int c1), .val (.int n2), .val (.int d0), .val (.int d1), .val (.ref ta), .val (.ref tb), .val w1, .val w2, .val w3, .val w4, .val (.ref a1), .val (.ref a27), .val (.int (eqI (tx n1 c0 c1) (tx n2 d0 d1))), .val (.int (eqI (tx n1 c0 c1) (tx n2 d0 d1))), .val (.int (eqI (tx n2 d0 d1) (tx n1 c0 c1))), .val (.int (eqI (tx n1 c0 c1) (tx n1 c0 c1))), .unset, .unset] [(.int (0 : Int32))]
          refine k_istore (Ls' := #[.val (.int x), .val (.int y), .val (.int z), .val (.int n1), .val (.int c0), .val (.int c1), .val (.int n2), .val (.int d0), .val (.int d1), .val (.ref ta), .val (.ref tb), .val w1, .val w2, .val w3, .val w4, .val (.ref a1), .val (.ref a27), .val (.int (eqI (tx n1 c0 c1) (tx n2 d0 d1))), .val (.int (eqI (tx n1 c0 c1) (tx n2 d0 d1))), .val (.int (eqI (tx n2 d0 d1) (tx n1 c0 c1))), .val (.int (eqI (tx n1 c0 c1) (tx n1 c0 c1))), .val (.int (0 : Int32)), .unset]) at_271 rfl rfl ?_
          refine k_aload at_273 rfl rfl rfl ?_
          refine k_aload at_275 rfl rfl rfl ?_
          refine k_callVirtual (argsL := [(.ref ta)]) (rest := []) (W0 := 0) at_277 rfl (mt_ueqS l Z a0 hw cs hcs SC hEW a1 ta h55 n0 f79.exa) (Kp.pure (fun _ _ q => q.2.symm)) f81 (hw _ (List.mem_of_getElem? (i := 50) rfl)) (hw _ (List.mem_of_getElem? (i := 51) rfl)) (hw _ (List.mem_of_getElem? (i := 53) rfl)) (hw _ (List.mem_of_getElem? (i := 53) rfl)) (hw _ (List.mem_of_getElem? (i := 52) rfl)) (hw _ (List.mem_of_getElem? (i := 54) rfl)) (hw _ (List.mem_of_getElem? (i := 29) rfl)) (by decide) pd_ueq rfl rfl rfl rfl (by decide) (by decide) (by decide) (by decide) ?_
          rintro _ _ - ⟨rfl, rfl⟩
          refine KW.sub (S' := fun _ => False) (fun x hx => hx.elim) ?_
          show KW true l Z M_law n0 (fun v _ => v = some (.int 1)) (EL, fun _ => False) h55 16 56 280 #[.val (.int x), .val (.int y), .val (.int z), .val (.int n1), .val (.int c0), .val (.int c1), .val (.int n2), .val (.int d0), .val (.int d1), .val (.ref ta), .val (.ref tb), .val w1, .val w2, .val w3, .val w4, .val (.ref a1), .val (.ref a27), .val (.int (eqI (tx n1 c0 c1) (tx n2 d0 d1))), .val (.int (eqI (tx n1 c0 c1) (tx n2 d0 d1))), .val (.int (eqI (tx n2 d0 d1) (tx n1 c0 c1))), .val (.int (eqI (tx n1 c0 c1) (tx n1 c0 c1))), .val (.int (0 : Int32)), .unset] [(.int (0 : Int32))]
          refine k_istore (Ls' := #[.val (.int x), .val (.int y), .val (.int z), .val (.int n1), .val (.int c0), .val (.int c1), .val (.int n2), .val (.int d0), .val (.int d1), .val (.ref ta), .val (.ref tb), .val w1, .val w2, .val w3, .val w4, .val (.ref a1), .val (.ref a27), .val (.int (eqI (tx n1 c0 c1) (tx n2 d0 d1))), .val (.int (eqI (tx n1 c0 c1) (tx n2 d0 d1))), .val (.int (eqI (tx n2 d0 d1) (tx n1 c0 c1))), .val (.int (eqI (tx n1 c0 c1) (tx n1 c0 c1))), .val (.int (0 : Int32)), .val (.int (0 : Int32))]) at_280 rfl rfl ?_
          refine k_iload at_282 rfl rfl ?_
          refine k_iload at_284 rfl rfl ?_
          refine k_icmp (pc1 := 315) (pc' := 289) at_286 (by decide) (by decide) rfl (fun (cd20 : ¬ (eqI (tx n1 c0 c1) (tx n2 d0 d1)) = (eqI (tx n1 c0 c1) (tx n2 d0 d1))) => False.elim (by exact cd20 rfl)) (fun (cd20 : (eqI (tx n1 c0 c1) (tx n2 d0 d1)) = (eqI (tx n1 c0 c1) (tx n2 d0 d1))) => ?_)
          refine k_iload at_289 rfl rfl ?_
          refine k_iload at_291 rfl rfl ?_
          refine k_icmp (pc1 := 315) (pc' := 296) at_293 (by decide) (by decide) rfl (fun (cd21 : ¬ (eqI (tx n2 d0 d1) (tx n1 c0 c1)) = (eqI (tx n1 c0 c1) (tx n2 d0 d1))) => False.elim (by exact cd21 (eqI_comm _ _))) (fun (cd21 : (eqI (tx n2 d0 d1) (tx n1 c0 c1)) = (eqI (tx n1 c0 c1) (tx n2 d0 d1))) => ?_)
          refine k_iload at_296 rfl rfl ?_
          refine k_ifc (pc1 := 315) (pc' := 301) at_298 (by decide) (by decide) rfl (fun (cd22 : (eqI (tx n1 c0 c1) (tx n1 c0 c1)) = (0 : Int32)) => False.elim (by rw [eqI_self] at cd22; exact absurd cd22 (by decide))) (fun (cd22 : ¬ (eqI (tx n1 c0 c1) (tx n1 c0 c1)) = (0 : Int32)) => ?_)
          refine k_iload at_301 rfl rfl ?_
          refine k_ifc (pc1 := 315) (pc' := 306) at_303 (by decide) (by decide) rfl (fun (cd23 : ¬ (0 : Int32) = (0 : Int32)) => False.elim (by exact absurd cd23 (by decide))) (fun (cd23 : (0 : Int32) = (0 : Int32)) => ?_)
          refine k_iload at_306 rfl rfl ?_
          refine k_ifc (pc1 := 315) (pc' := 311) at_308 (by decide) (by decide) rfl (fun (cd24 : ¬ (0 : Int32) = (0 : Int32)) => False.elim (by exact absurd cd24 (by decide))) (fun (cd24 : (0 : Int32) = (0 : Int32)) => ?_)
          refine k_iconst (z := (1 : Int32)) at_311 rfl (by decide) ?_
          refine k_goto (pc' := 316) at_312 (by decide) (by decide) ?_
          exact k_retNar at_316 rfl (by simp) (z' := (1 : Int32)) (by decide) (by decide) (by decide) rfl
    · skip
      refine k_iload at_212 rfl rfl ?_
      refine k_iload at_214 rfl rfl ?_
      refine k_icmp (pc1 := 235) (pc' := 219) at_216 (by decide) (by decide) rfl (fun (cd25 : ¬ c0 = d0) => ?_) (fun (cd25 : c0 = d0) => ?_)
      · skip
        refine k_iconst (z := (0 : Int32)) at_235 rfl (by decide) ?_
        have ee : eqI (tx n1 c0 c1) (tx n2 d0 d1) = (0 : Int32) := by
          first | exact own_s0 hn1 hn2 (by assumption) | exact own_s0a hn1 (by assumption) hc0 hd0 (by assumption) (by assumption) | exact own_s0b hn1 (by assumption) hc1 hd1 (by assumption) (by assumption)
        refine KW.top (congrArg Value.int ee.symm) ?_
        show KW true l Z M_law n0 (fun v _ => v = some (.int 1)) (EL, fun _ => False) h55 16 56 236 #[.val (.int x), .val (.int y), .val (.int z), .val (.int n1), .val (.int c0), .val (.int c1), .val (.int n2), .val (.int d0), .val (.int d1), .val (.ref ta), .val (.ref tb), .val w1, .val w2, .val w3, .val w4, .val (.ref a1), .val (.ref a27), .unset, .unset, .unset, .unset, .unset, .unset] [(.int (eqI (tx n1 c0 c1) (tx n2 d0 d1)))]
        refine k_istore (Ls' := #[.val (.int x), .val (.int y), .val (.int z), .val (.int n1), .val (.int c0), .val (.int c1), .val (.int n2), .val (.int d0), .val (.int d1), .val (.ref ta), .val (.ref tb), .val w1, .val w2, .val w3, .val w4, .val (.ref a1), .val (.ref a27), .val (.int (eqI (tx n1 c0 c1) (tx n2 d0 d1))), .unset, .unset, .unset, .unset, .unset]) at_236 rfl rfl ?_
        refine k_aload at_238 rfl rfl rfl ?_
        refine k_aload at_240 rfl rfl rfl ?_
        have f82 := ((((OD.ext E3).keep K25 (allS ge12 all0)).ext E29).keep K56 (allS ge42 all0))
        have f83 := (A30.keep K56)
        have f84 := ((F26.ext E29).keep K56 (ninS ne40 nin0))
        have f85 := (f52.keep K56 (ninS ne36 nin0) (ninS ne37 nin0))
        have f86 := (f53.keep K56 (ninS ne38 nin0) (ninS ne39 nin0))
        have f87 := (f54.keep K56)
        refine k_callVirtual (argsL := [(.ref a27)]) (rest := []) (W0 := 0) at_242 rfl (mt_ueq l Z a0 hw cs hcs SC hEW a1 a27 ta tb t1 t2 (tx n1 c0 c1) (tx n2 d0 d1) h55 n0 f82 f83 f84 F57 f85 f86) (Kp.pure (fun _ _ q => q.2.symm)) f87 (hw _ (List.mem_of_getElem? (i := 50) rfl)) (hw _ (List.mem_of_getElem? (i := 51) rfl)) (hw _ (List.mem_of_getElem? (i := 53) rfl)) (hw _ (List.mem_of_getElem? (i := 53) rfl)) (hw _ (List.mem_of_getElem? (i := 52) rfl)) (hw _ (List.mem_of_getElem? (i := 54) rfl)) (hw _ (List.mem_of_getElem? (i := 29) rfl)) (by decide) pd_ueq rfl rfl rfl rfl (by decide) (by decide) (by decide) (by decide) ?_
        rintro _ _ - ⟨rfl, rfl⟩
        refine KW.sub (S' := fun _ => False) (fun x hx => hx.elim) ?_
        show KW true l Z M_law n0 (fun v _ => v = some (.int 1)) (EL, fun _ => False) h55 16 56 245 #[.val (.int x), .val (.int y), .val (.int z), .val (.int n1), .val (.int c0), .val (.int c1), .val (.int n2), .val (.int d0), .val (.int d1), .val (.ref ta), .val (.ref tb), .val w1, .val w2, .val w3, .val w4, .val (.ref a1), .val (.ref a27), .val (.int (eqI (tx n1 c0 c1) (tx n2 d0 d1))), .unset, .unset, .unset, .unset, .unset] [(.int (eqI (tx n1 c0 c1) (tx n2 d0 d1)))]
        refine k_istore (Ls' := #[.val (.int x), .val (.int y), .val (.int z), .val (.int n1), .val (.int c0), .val (.int c1), .val (.int n2), .val (.int d0), .val (.int d1), .val (.ref ta), .val (.ref tb), .val w1, .val w2, .val w3, .val w4, .val (.ref a1), .val (.ref a27), .val (.int (eqI (tx n1 c0 c1) (tx n2 d0 d1))), .val (.int (eqI (tx n1 c0 c1) (tx n2 d0 d1))), .unset, .unset, .unset, .unset]) at_245 rfl rfl ?_
        refine k_aload at_247 rfl rfl rfl ?_
        refine k_aload at_249 rfl rfl rfl ?_
        refine k_callVirtual (argsL := [(.ref a1)]) (rest := []) (W0 := 0) at_251 rfl (mt_ueq l Z a0 hw cs hcs SC hEW a27 a1 tb ta t2 t1 (tx n2 d0 d1) (tx n1 c0 c1) h55 n0 f82 f87 F57 f84 f86 f85) (Kp.pure (fun _ _ q => q.2.symm)) f83 (hw _ (List.mem_of_getElem? (i := 50) rfl)) (hw _ (List.mem_of_getElem? (i := 51) rfl)) (hw _ (List.mem_of_getElem? (i := 53) rfl)) (hw _ (List.mem_of_getElem? (i := 53) rfl)) (hw _ (List.mem_of_getElem? (i := 52) rfl)) (hw _ (List.mem_of_getElem? (i := 54) rfl)) (hw _ (List.mem_of_getElem? (i := 29) rfl)) (by decide) pd_ueq rfl rfl rfl rfl (by decide) (by decide) (by decide) (by decide) ?_
        rintro _ _ - ⟨rfl, rfl⟩
        refine KW.sub (S' := fun _ => False) (fun x hx => hx.elim) ?_
        show KW true l Z M_law n0 (fun v _ => v = some (.int 1)) (EL, fun _ => False) h55 16 56 254 #[.val (.int x), .val (.int y), .val (.int z), .val (.int n1), .val (.int c0), .val (.int c1), .val (.int n2), .val (.int d0), .val (.int d1), .val (.ref ta), .val (.ref tb), .val w1, .val w2, .val w3, .val w4, .val (.ref a1), .val (.ref a27), .val (.int (eqI (tx n1 c0 c1) (tx n2 d0 d1))), .val (.int (eqI (tx n1 c0 c1) (tx n2 d0 d1))), .unset, .unset, .unset, .unset] [(.int (eqI (tx n2 d0 d1) (tx n1 c0 c1)))]
        refine k_istore (Ls' := #[.val (.int x), .val (.int y), .val (.int z), .val (.int n1), .val (.int c0), .val (.int c1), .val (.int n2), .val (.int d0), .val (.int d1), .val (.ref ta), .val (.ref tb), .val w1, .val w2, .val w3, .val w4, .val (.ref a1), .val (.ref a27), .val (.int (eqI (tx n1 c0 c1) (tx n2 d0 d1))), .val (.int (eqI (tx n1 c0 c1) (tx n2 d0 d1))), .val (.int (eqI (tx n2 d0 d1) (tx n1 c0 c1))), .unset, .unset, .unset]) at_254 rfl rfl ?_
        refine k_aload at_256 rfl rfl rfl ?_
        refine k_aload at_258 rfl rfl rfl ?_
        refine k_callVirtual (argsL := [(.ref a1)]) (rest := []) (W0 := 0) at_260 rfl (mt_ueq l Z a0 hw cs hcs SC hEW a1 a1 ta ta t1 t1 (tx n1 c0 c1) (tx n1 c0 c1) h55 n0 f82 f87 f84 f84 f85 f85) (Kp.pure (fun _ _ q => q.2.symm)) f87 (hw _ (List.mem_of_getElem? (i := 50) rfl)) (hw _ (List.mem_of_getElem? (i := 51) rfl)) (hw _ (List.mem_of_getElem? (i := 53) rfl)) (hw _ (List.mem_of_getElem? (i := 53) rfl)) (hw _ (List.mem_of_getElem? (i := 52) rfl)) (hw _ (List.mem_of_getElem? (i := 54) rfl)) (hw _ (List.mem_of_getElem? (i := 29) rfl)) (by decide) pd_ueq rfl rfl rfl rfl (by decide) (by decide) (by decide) (by decide) ?_
        rintro _ _ - ⟨rfl, rfl⟩
        refine KW.sub (S' := fun _ => False) (fun x hx => hx.elim) ?_
        show KW true l Z M_law n0 (fun v _ => v = some (.int 1)) (EL, fun _ => False) h55 16 56 263 #[.val (.int x), .val (.int y), .val (.int z), .val (.int n1), .val (.int c0), .val (.int c1), .val (.int n2), .val (.int d0), .val (.int d1), .val (.ref ta), .val (.ref tb), .val w1, .val w2, .val w3, .val w4, .val (.ref a1), .val (.ref a27), .val (.int (eqI (tx n1 c0 c1) (tx n2 d0 d1))), .val (.int (eqI (tx n1 c0 c1) (tx n2 d0 d1))), .val (.int (eqI (tx n2 d0 d1) (tx n1 c0 c1))), .unset, .unset, .unset] [(.int (eqI (tx n1 c0 c1) (tx n1 c0 c1)))]
        refine k_istore (Ls' := #[.val (.int x), .val (.int y), .val (.int z), .val (.int n1), .val (.int c0), .val (.int c1), .val (.int n2), .val (.int d0), .val (.int d1), .val (.ref ta), .val (.ref tb), .val w1, .val w2, .val w3, .val w4, .val (.ref a1), .val (.ref a27), .val (.int (eqI (tx n1 c0 c1) (tx n2 d0 d1))), .val (.int (eqI (tx n1 c0 c1) (tx n2 d0 d1))), .val (.int (eqI (tx n2 d0 d1) (tx n1 c0 c1))), .val (.int (eqI (tx n1 c0 c1) (tx n1 c0 c1))), .unset, .unset]) at_263 rfl rfl ?_
        refine k_aload at_265 rfl rfl rfl ?_
        refine k_aconstNull at_267 rfl ?_
        refine k_callVirtual (argsL := [.null]) (rest := []) (W0 := 0) at_268 rfl (mt_ueqN l Z a0 hw cs hcs SC hEW a1 h55 n0) (Kp.pure (fun _ _ q => q.2.symm)) f87 (hw _ (List.mem_of_getElem? (i := 50) rfl)) (hw _ (List.mem_of_getElem? (i := 51) rfl)) (hw _ (List.mem_of_getElem? (i := 53) rfl)) (hw _ (List.mem_of_getElem? (i := 53) rfl)) (hw _ (List.mem_of_getElem? (i := 52) rfl)) (hw _ (List.mem_of_getElem? (i := 54) rfl)) (hw _ (List.mem_of_getElem? (i := 29) rfl)) (by decide) pd_ueq rfl rfl rfl rfl (by decide) (by decide) (by decide) (by decide) ?_
        rintro _ _ - ⟨rfl, rfl⟩
        refine KW.sub (S' := fun _ => False) (fun x hx => hx.elim) ?_
        show KW true l Z M_law n0 (fun v _ => v = some (.int 1)) (EL, fun _ => False) h55 16 56 271 #[.val (.int x), .val (.int y), .val (.int z), .val (.int n1), .val (.int c0), .val (.int c1), .val (.int n2), .val (.int d0), .val (.int d1), .val (.ref ta), .val (.ref tb), .val w1, .val w2, .val w3, .val w4, .val (.ref a1), .val (.ref a27), .val (.int (eqI (tx n1 c0 c1) (tx n2 d0 d1))), .val (.int (eqI (tx n1 c0 c1) (tx n2 d0 d1))), .val (.int (eqI (tx n2 d0 d1) (tx n1 c0 c1))), .val (.int (eqI (tx n1 c0 c1) (tx n1 c0 c1))), .unset, .unset] [(.int (0 : Int32))]
        refine k_istore (Ls' := #[.val (.int x), .val (.int y), .val (.int z), .val (.int n1), .val (.int c0), .val (.int c1), .val (.int n2), .val (.int d0), .val (.int d1), .val (.ref ta), .val (.ref tb), .val w1, .val w2, .val w3, .val w4, .val (.ref a1), .val (.ref a27), .val (.int (eqI (tx n1 c0 c1) (tx n2 d0 d1))), .val (.int (eqI (tx n1 c0 c1) (tx n2 d0 d1))), .val (.int (eqI (tx n2 d0 d1) (tx n1 c0 c1))), .val (.int (eqI (tx n1 c0 c1) (tx n1 c0 c1))), .val (.int (0 : Int32)), .unset]) at_271 rfl rfl ?_
        refine k_aload at_273 rfl rfl rfl ?_
        refine k_aload at_275 rfl rfl rfl ?_
        refine k_callVirtual (argsL := [(.ref ta)]) (rest := []) (W0 := 0) at_277 rfl (mt_ueqS l Z a0 hw cs hcs SC hEW a1 ta h55 n0 f85.exa) (Kp.pure (fun _ _ q => q.2.symm)) f87 (hw _ (List.mem_of_getElem? (i := 50) rfl)) (hw _ (List.mem_of_getElem? (i := 51) rfl)) (hw _ (List.mem_of_getElem? (i := 53) rfl)) (hw _ (List.mem_of_getElem? (i := 53) rfl)) (hw _ (List.mem_of_getElem? (i := 52) rfl)) (hw _ (List.mem_of_getElem? (i := 54) rfl)) (hw _ (List.mem_of_getElem? (i := 29) rfl)) (by decide) pd_ueq rfl rfl rfl rfl (by decide) (by decide) (by decide) (by decide) ?_
        rintro _ _ - ⟨rfl, rfl⟩
        refine KW.sub (S' := fun _ => False) (fun x hx => hx.elim) ?_
        show KW true l Z M_law n0 (fun v _ => v = some (.int 1)) (EL, fun _ => False) h55 16 56 280 #[.val (.int x), .val (.int y), .val (.int z), .val (.int n1), .val (.int c0), .val (.int c1), .val (.int n2), .val (.int d0), .val (.int d1), .val (.ref ta), .val (.ref tb), .val w1, .val w2, .val w3, .val w4, .val (.ref a1), .val (.ref a27), .val (.int (eqI (tx n1 c0 c1) (tx n2 d0 d1))), .val (.int (eqI (tx n1 c0 c1) (tx n2 d0 d1))), .val (.int (eqI (tx n2 d0 d1) (tx n1 c0 c1))), .val (.int (eqI (tx n1 c0 c1) (tx n1 c0 c1))), .val (.int (0 : Int32)), .unset] [(.int (0 : Int32))]
        refine k_istore (Ls' := #[.val (.int x), .val (.int y), .val (.int z), .val (.int n1), .val (.int c0), .val (.int c1), .val (.int n2), .val (.int d0), .val (.int d1), .val (.ref ta), .val (.ref tb), .val w1, .val w2, .val w3, .val w4, .val (.ref a1), .val (.ref a27), .val (.int (eqI (tx n1 c0 c1) (tx n2 d0 d1))), .val (.int (eqI (tx n1 c0 c1) (tx n2 d0 d1))), .val (.int (eqI (tx n2 d0 d1) (tx n1 c0 c1))), .val (.int (eqI (tx n1 c0 c1) (tx n1 c0 c1))), .val (.int (0 : Int32)), .val (.int (0 : Int32))]) at_280 rfl rfl ?_
        refine k_iload at_282 rfl rfl ?_
        refine k_iload at_284 rfl rfl ?_
        refine k_icmp (pc1 := 315) (pc' := 289) at_286 (by decide) (by decide) rfl (fun (cd26 : ¬ (eqI (tx n1 c0 c1) (tx n2 d0 d1)) = (eqI (tx n1 c0 c1) (tx n2 d0 d1))) => False.elim (by exact cd26 rfl)) (fun (cd26 : (eqI (tx n1 c0 c1) (tx n2 d0 d1)) = (eqI (tx n1 c0 c1) (tx n2 d0 d1))) => ?_)
        refine k_iload at_289 rfl rfl ?_
        refine k_iload at_291 rfl rfl ?_
        refine k_icmp (pc1 := 315) (pc' := 296) at_293 (by decide) (by decide) rfl (fun (cd27 : ¬ (eqI (tx n2 d0 d1) (tx n1 c0 c1)) = (eqI (tx n1 c0 c1) (tx n2 d0 d1))) => False.elim (by exact cd27 (eqI_comm _ _))) (fun (cd27 : (eqI (tx n2 d0 d1) (tx n1 c0 c1)) = (eqI (tx n1 c0 c1) (tx n2 d0 d1))) => ?_)
        refine k_iload at_296 rfl rfl ?_
        refine k_ifc (pc1 := 315) (pc' := 301) at_298 (by decide) (by decide) rfl (fun (cd28 : (eqI (tx n1 c0 c1) (tx n1 c0 c1)) = (0 : Int32)) => False.elim (by rw [eqI_self] at cd28; exact absurd cd28 (by decide))) (fun (cd28 : ¬ (eqI (tx n1 c0 c1) (tx n1 c0 c1)) = (0 : Int32)) => ?_)
        refine k_iload at_301 rfl rfl ?_
        refine k_ifc (pc1 := 315) (pc' := 306) at_303 (by decide) (by decide) rfl (fun (cd29 : ¬ (0 : Int32) = (0 : Int32)) => False.elim (by exact absurd cd29 (by decide))) (fun (cd29 : (0 : Int32) = (0 : Int32)) => ?_)
        refine k_iload at_306 rfl rfl ?_
        refine k_ifc (pc1 := 315) (pc' := 311) at_308 (by decide) (by decide) rfl (fun (cd30 : ¬ (0 : Int32) = (0 : Int32)) => False.elim (by exact absurd cd30 (by decide))) (fun (cd30 : (0 : Int32) = (0 : Int32)) => ?_)
        refine k_iconst (z := (1 : Int32)) at_311 rfl (by decide) ?_
        refine k_goto (pc' := 316) at_312 (by decide) (by decide) ?_
        exact k_retNar at_316 rfl (by simp) (z' := (1 : Int32)) (by decide) (by decide) (by decide) rfl
      · skip
        refine k_iloadN at_219 rfl rfl ?_
        refine k_iconst (z := (2 : Int32)) at_220 rfl (by decide) ?_
        refine k_icmp (pc1 := 231) (pc' := 224) at_221 (by decide) (by decide) rfl (fun (cd31 : n1 < (2 : Int32)) => ?_) (fun (cd31 : ¬ n1 < (2 : Int32)) => ?_)
        · skip
          refine k_iconst (z := (1 : Int32)) at_231 rfl (by decide) ?_
          refine k_goto (pc' := 236) at_232 (by decide) (by decide) ?_
          have ee : eqI (tx n1 c0 c1) (tx n2 d0 d1) = (1 : Int32) := by
            exact own_s1 hn1 (by assumption) (by first | exact Or.inl (by assumption) | exact Or.inr (by assumption)) (by first | exact Or.inl (by assumption) | exact Or.inr (by assumption))
          refine KW.top (congrArg Value.int ee.symm) ?_
          show KW true l Z M_law n0 (fun v _ => v = some (.int 1)) (EL, fun _ => False) h55 16 56 236 #[.val (.int x), .val (.int y), .val (.int z), .val (.int n1), .val (.int c0), .val (.int c1), .val (.int n2), .val (.int d0), .val (.int d1), .val (.ref ta), .val (.ref tb), .val w1, .val w2, .val w3, .val w4, .val (.ref a1), .val (.ref a27), .unset, .unset, .unset, .unset, .unset, .unset] [(.int (eqI (tx n1 c0 c1) (tx n2 d0 d1)))]
          refine k_istore (Ls' := #[.val (.int x), .val (.int y), .val (.int z), .val (.int n1), .val (.int c0), .val (.int c1), .val (.int n2), .val (.int d0), .val (.int d1), .val (.ref ta), .val (.ref tb), .val w1, .val w2, .val w3, .val w4, .val (.ref a1), .val (.ref a27), .val (.int (eqI (tx n1 c0 c1) (tx n2 d0 d1))), .unset, .unset, .unset, .unset, .unset]) at_236 rfl rfl ?_
          refine k_aload at_238 rfl rfl rfl ?_
          refine k_aload at_240 rfl rfl rfl ?_
          have f88 := ((((OD.ext E3).keep K25 (allS ge12 all0)).ext E29).keep K56 (allS ge42 all0))
          have f89 := (A30.keep K56)
          have f90 := ((F26.ext E29).keep K56 (ninS ne40 nin0))
          have f91 := (f52.keep K56 (ninS ne36 nin0) (ninS ne37 nin0))
          have f92 := (f53.keep K56 (ninS ne38 nin0) (ninS ne39 nin0))
          have f93 := (f54.keep K56)
          refine k_callVirtual (argsL := [(.ref a27)]) (rest := []) (W0 := 0) at_242 rfl (mt_ueq l Z a0 hw cs hcs SC hEW a1 a27 ta tb t1 t2 (tx n1 c0 c1) (tx n2 d0 d1) h55 n0 f88 f89 f90 F57 f91 f92) (Kp.pure (fun _ _ q => q.2.symm)) f93 (hw _ (List.mem_of_getElem? (i := 50) rfl)) (hw _ (List.mem_of_getElem? (i := 51) rfl)) (hw _ (List.mem_of_getElem? (i := 53) rfl)) (hw _ (List.mem_of_getElem? (i := 53) rfl)) (hw _ (List.mem_of_getElem? (i := 52) rfl)) (hw _ (List.mem_of_getElem? (i := 54) rfl)) (hw _ (List.mem_of_getElem? (i := 29) rfl)) (by decide) pd_ueq rfl rfl rfl rfl (by decide) (by decide) (by decide) (by decide) ?_
          rintro _ _ - ⟨rfl, rfl⟩
          refine KW.sub (S' := fun _ => False) (fun x hx => hx.elim) ?_
          show KW true l Z M_law n0 (fun v _ => v = some (.int 1)) (EL, fun _ => False) h55 16 56 245 #[.val (.int x), .val (.int y), .val (.int z), .val (.int n1), .val (.int c0), .val (.int c1), .val (.int n2), .val (.int d0), .val (.int d1), .val (.ref ta), .val (.ref tb), .val w1, .val w2, .val w3, .val w4, .val (.ref a1), .val (.ref a27), .val (.int (eqI (tx n1 c0 c1) (tx n2 d0 d1))), .unset, .unset, .unset, .unset, .unset] [(.int (eqI (tx n1 c0 c1) (tx n2 d0 d1)))]
          refine k_istore (Ls' := #[.val (.int x), .val (.int y), .val (.int z), .val (.int n1), .val (.int c0), .val (.int c1), .val (.int n2), .val (.int d0), .val (.int d1), .val (.ref ta), .val (.ref tb), .val w1, .val w2, .val w3, .val w4, .val (.ref a1), .val (.ref a27), .val (.int (eqI (tx n1 c0 c1) (tx n2 d0 d1))), .val (.int (eqI (tx n1 c0 c1) (tx n2 d0 d1))), .unset, .unset, .unset, .unset]) at_245 rfl rfl ?_
          refine k_aload at_247 rfl rfl rfl ?_
          refine k_aload at_249 rfl rfl rfl ?_
          refine k_callVirtual (argsL := [(.ref a1)]) (rest := []) (W0 := 0) at_251 rfl (mt_ueq l Z a0 hw cs hcs SC hEW a27 a1 tb ta t2 t1 (tx n2 d0 d1) (tx n1 c0 c1) h55 n0 f88 f93 F57 f90 f92 f91) (Kp.pure (fun _ _ q => q.2.symm)) f89 (hw _ (List.mem_of_getElem? (i := 50) rfl)) (hw _ (List.mem_of_getElem? (i := 51) rfl)) (hw _ (List.mem_of_getElem? (i := 53) rfl)) (hw _ (List.mem_of_getElem? (i := 53) rfl)) (hw _ (List.mem_of_getElem? (i := 52) rfl)) (hw _ (List.mem_of_getElem? (i := 54) rfl)) (hw _ (List.mem_of_getElem? (i := 29) rfl)) (by decide) pd_ueq rfl rfl rfl rfl (by decide) (by decide) (by decide) (by decide) ?_
          rintro _ _ - ⟨rfl, rfl⟩
          refine KW.sub (S' := fun _ => False) (fun x hx => hx.elim) ?_
          show KW true l Z M_law n0 (fun v _ => v = some (.int 1)) (EL, fun _ => False) h55 16 56 254 #[.val (.int x), .val (.int y), .val (.int z), .val (.int n1), .val (.int c0), .val (.int c1), .val (.int n2), .val (.int d0), .val (.int d1), .val (.ref ta), .val (.ref tb), .val w1, .val w2, .val w3, .val w4, .val (.ref a1), .val (.ref a27), .val (.int (eqI (tx n1 c0 c1) (tx n2 d0 d1))), .val (.int (eqI (tx n1 c0 c1) (tx n2 d0 d1))), .unset, .unset, .unset, .unset] [(.int (eqI (tx n2 d0 d1) (tx n1 c0 c1)))]
          refine k_istore (Ls' := #[.val (.int x), .val (.int y), .val (.int z), .val (.int n1), .val (.int c0), .val (.int c1), .val (.int n2), .val (.int d0), .val (.int d1), .val (.ref ta), .val (.ref tb), .val w1, .val w2, .val w3, .val w4, .val (.ref a1), .val (.ref a27), .val (.int (eqI (tx n1 c0 c1) (tx n2 d0 d1))), .val (.int (eqI (tx n1 c0 c1) (tx n2 d0 d1))), .val (.int (eqI (tx n2 d0 d1) (tx n1 c0 c1))), .unset, .unset, .unset]) at_254 rfl rfl ?_
          refine k_aload at_256 rfl rfl rfl ?_
          refine k_aload at_258 rfl rfl rfl ?_
          refine k_callVirtual (argsL := [(.ref a1)]) (rest := []) (W0 := 0) at_260 rfl (mt_ueq l Z a0 hw cs hcs SC hEW a1 a1 ta ta t1 t1 (tx n1 c0 c1) (tx n1 c0 c1) h55 n0 f88 f93 f90 f90 f91 f91) (Kp.pure (fun _ _ q => q.2.symm)) f93 (hw _ (List.mem_of_getElem? (i := 50) rfl)) (hw _ (List.mem_of_getElem? (i := 51) rfl)) (hw _ (List.mem_of_getElem? (i := 53) rfl)) (hw _ (List.mem_of_getElem? (i := 53) rfl)) (hw _ (List.mem_of_getElem? (i := 52) rfl)) (hw _ (List.mem_of_getElem? (i := 54) rfl)) (hw _ (List.mem_of_getElem? (i := 29) rfl)) (by decide) pd_ueq rfl rfl rfl rfl (by decide) (by decide) (by decide) (by decide) ?_
          rintro _ _ - ⟨rfl, rfl⟩
          refine KW.sub (S' := fun _ => False) (fun x hx => hx.elim) ?_
          show KW true l Z M_law n0 (fun v _ => v = some (.int 1)) (EL, fun _ => False) h55 16 56 263 #[.val (.int x), .val (.int y), .val (.int z), .val (.int n1), .val (.int c0), .val (.int c1), .val (.int n2), .val (.int d0), .val (.int d1), .val (.ref ta), .val (.ref tb), .val w1, .val w2, .val w3, .val w4, .val (.ref a1), .val (.ref a27), .val (.int (eqI (tx n1 c0 c1) (tx n2 d0 d1))), .val (.int (eqI (tx n1 c0 c1) (tx n2 d0 d1))), .val (.int (eqI (tx n2 d0 d1) (tx n1 c0 c1))), .unset, .unset, .unset] [(.int (eqI (tx n1 c0 c1) (tx n1 c0 c1)))]
          refine k_istore (Ls' := #[.val (.int x), .val (.int y), .val (.int z), .val (.int n1), .val (.int c0), .val (.int c1), .val (.int n2), .val (.int d0), .val (.int d1), .val (.ref ta), .val (.ref tb), .val w1, .val w2, .val w3, .val w4, .val (.ref a1), .val (.ref a27), .val (.int (eqI (tx n1 c0 c1) (tx n2 d0 d1))), .val (.int (eqI (tx n1 c0 c1) (tx n2 d0 d1))), .val (.int (eqI (tx n2 d0 d1) (tx n1 c0 c1))), .val (.int (eqI (tx n1 c0 c1) (tx n1 c0 c1))), .unset, .unset]) at_263 rfl rfl ?_
          refine k_aload at_265 rfl rfl rfl ?_
          refine k_aconstNull at_267 rfl ?_
          refine k_callVirtual (argsL := [.null]) (rest := []) (W0 := 0) at_268 rfl (mt_ueqN l Z a0 hw cs hcs SC hEW a1 h55 n0) (Kp.pure (fun _ _ q => q.2.symm)) f93 (hw _ (List.mem_of_getElem? (i := 50) rfl)) (hw _ (List.mem_of_getElem? (i := 51) rfl)) (hw _ (List.mem_of_getElem? (i := 53) rfl)) (hw _ (List.mem_of_getElem? (i := 53) rfl)) (hw _ (List.mem_of_getElem? (i := 52) rfl)) (hw _ (List.mem_of_getElem? (i := 54) rfl)) (hw _ (List.mem_of_getElem? (i := 29) rfl)) (by decide) pd_ueq rfl rfl rfl rfl (by decide) (by decide) (by decide) (by decide) ?_
          rintro _ _ - ⟨rfl, rfl⟩
          refine KW.sub (S' := fun _ => False) (fun x hx => hx.elim) ?_
          show KW true l Z M_law n0 (fun v _ => v = some (.int 1)) (EL, fun _ => False) h55 16 56 271 #[.val (.int x), .val (.int y), .val (.int z), .val (.int n1), .val (.int c0), .val (.int c1), .val (.int n2), .val (.int d0), .val (.int d1), .val (.ref ta), .val (.ref tb), .val w1, .val w2, .val w3, .val w4, .val (.ref a1), .val (.ref a27), .val (.int (eqI (tx n1 c0 c1) (tx n2 d0 d1))), .val (.int (eqI (tx n1 c0 c1) (tx n2 d0 d1))), .val (.int (eqI (tx n2 d0 d1) (tx n1 c0 c1))), .val (.int (eqI (tx n1 c0 c1) (tx n1 c0 c1))), .unset, .unset] [(.int (0 : Int32))]
          refine k_istore (Ls' := #[.val (.int x), .val (.int y), .val (.int z), .val (.int n1), .val (.int c0), .val (.int c1), .val (.int n2), .val (.int d0), .val (.int d1), .val (.ref ta), .val (.ref tb), .val w1, .val w2, .val w3, .val w4, .val (.ref a1), .val (.ref a27), .val (.int (eqI (tx n1 c0 c1) (tx n2 d0 d1))), .val (.int (eqI (tx n1 c0 c1) (tx n2 d0 d1))), .val (.int (eqI (tx n2 d0 d1) (tx n1 c0 c1))), .val (.int (eqI (tx n1 c0 c1) (tx n1 c0 c1))), .val (.int (0 : Int32)), .unset]) at_271 rfl rfl ?_
          refine k_aload at_273 rfl rfl rfl ?_
          refine k_aload at_275 rfl rfl rfl ?_
          refine k_callVirtual (argsL := [(.ref ta)]) (rest := []) (W0 := 0) at_277 rfl (mt_ueqS l Z a0 hw cs hcs SC hEW a1 ta h55 n0 f91.exa) (Kp.pure (fun _ _ q => q.2.symm)) f93 (hw _ (List.mem_of_getElem? (i := 50) rfl)) (hw _ (List.mem_of_getElem? (i := 51) rfl)) (hw _ (List.mem_of_getElem? (i := 53) rfl)) (hw _ (List.mem_of_getElem? (i := 53) rfl)) (hw _ (List.mem_of_getElem? (i := 52) rfl)) (hw _ (List.mem_of_getElem? (i := 54) rfl)) (hw _ (List.mem_of_getElem? (i := 29) rfl)) (by decide) pd_ueq rfl rfl rfl rfl (by decide) (by decide) (by decide) (by decide) ?_
          rintro _ _ - ⟨rfl, rfl⟩
          refine KW.sub (S' := fun _ => False) (fun x hx => hx.elim) ?_
          show KW true l Z M_law n0 (fun v _ => v = some (.int 1)) (EL, fun _ => False) h55 16 56 280 #[.val (.int x), .val (.int y), .val (.int z), .val (.int n1), .val (.int c0), .val (.int c1), .val (.int n2), .val (.int d0), .val (.int d1), .val (.ref ta), .val (.ref tb), .val w1, .val w2, .val w3, .val w4, .val (.ref a1), .val (.ref a27), .val (.int (eqI (tx n1 c0 c1) (tx n2 d0 d1))), .val (.int (eqI (tx n1 c0 c1) (tx n2 d0 d1))), .val (.int (eqI (tx n2 d0 d1) (tx n1 c0 c1))), .val (.int (eqI (tx n1 c0 c1) (tx n1 c0 c1))), .val (.int (0 : Int32)), .unset] [(.int (0 : Int32))]
          refine k_istore (Ls' := #[.val (.int x), .val (.int y), .val (.int z), .val (.int n1), .val (.int c0), .val (.int c1), .val (.int n2), .val (.int d0), .val (.int d1), .val (.ref ta), .val (.ref tb), .val w1, .val w2, .val w3, .val w4, .val (.ref a1), .val (.ref a27), .val (.int (eqI (tx n1 c0 c1) (tx n2 d0 d1))), .val (.int (eqI (tx n1 c0 c1) (tx n2 d0 d1))), .val (.int (eqI (tx n2 d0 d1) (tx n1 c0 c1))), .val (.int (eqI (tx n1 c0 c1) (tx n1 c0 c1))), .val (.int (0 : Int32)), .val (.int (0 : Int32))]) at_280 rfl rfl ?_
          refine k_iload at_282 rfl rfl ?_
          refine k_iload at_284 rfl rfl ?_
          refine k_icmp (pc1 := 315) (pc' := 289) at_286 (by decide) (by decide) rfl (fun (cd32 : ¬ (eqI (tx n1 c0 c1) (tx n2 d0 d1)) = (eqI (tx n1 c0 c1) (tx n2 d0 d1))) => False.elim (by exact cd32 rfl)) (fun (cd32 : (eqI (tx n1 c0 c1) (tx n2 d0 d1)) = (eqI (tx n1 c0 c1) (tx n2 d0 d1))) => ?_)
          refine k_iload at_289 rfl rfl ?_
          refine k_iload at_291 rfl rfl ?_
          refine k_icmp (pc1 := 315) (pc' := 296) at_293 (by decide) (by decide) rfl (fun (cd33 : ¬ (eqI (tx n2 d0 d1) (tx n1 c0 c1)) = (eqI (tx n1 c0 c1) (tx n2 d0 d1))) => False.elim (by exact cd33 (eqI_comm _ _))) (fun (cd33 : (eqI (tx n2 d0 d1) (tx n1 c0 c1)) = (eqI (tx n1 c0 c1) (tx n2 d0 d1))) => ?_)
          refine k_iload at_296 rfl rfl ?_
          refine k_ifc (pc1 := 315) (pc' := 301) at_298 (by decide) (by decide) rfl (fun (cd34 : (eqI (tx n1 c0 c1) (tx n1 c0 c1)) = (0 : Int32)) => False.elim (by rw [eqI_self] at cd34; exact absurd cd34 (by decide))) (fun (cd34 : ¬ (eqI (tx n1 c0 c1) (tx n1 c0 c1)) = (0 : Int32)) => ?_)
          refine k_iload at_301 rfl rfl ?_
          refine k_ifc (pc1 := 315) (pc' := 306) at_303 (by decide) (by decide) rfl (fun (cd35 : ¬ (0 : Int32) = (0 : Int32)) => False.elim (by exact absurd cd35 (by decide))) (fun (cd35 : (0 : Int32) = (0 : Int32)) => ?_)
          refine k_iload at_306 rfl rfl ?_
          refine k_ifc (pc1 := 315) (pc' := 311) at_308 (by decide) (by decide) rfl (fun (cd36 : ¬ (0 : Int32) = (0 : Int32)) => False.elim (by exact absurd cd36 (by decide))) (fun (cd36 : (0 : Int32) = (0 : Int32)) => ?_)
          refine k_iconst (z := (1 : Int32)) at_311 rfl (by decide) ?_
          refine k_goto (pc' := 316) at_312 (by decide) (by decide) ?_
          exact k_retNar at_316 rfl (by simp) (z' := (1 : Int32)) (by decide) (by decide) (by decide) rfl
        · skip
          refine k_iload at_224 rfl rfl ?_
          refine k_iload at_226 rfl rfl ?_
          refine k_icmp (pc1 := 235) (pc' := 231) at_228 (by decide) (by decide) rfl (fun (cd37 : ¬ c1 = d1) => ?_) (fun (cd37 : c1 = d1) => ?_)
          · skip
            refine k_iconst (z := (0 : Int32)) at_235 rfl (by decide) ?_
            have ee : eqI (tx n1 c0 c1) (tx n2 d0 d1) = (0 : Int32) := by
              first | exact own_s0 hn1 hn2 (by assumption) | exact own_s0a hn1 (by assumption) hc0 hd0 (by assumption) (by assumption) | exact own_s0b hn1 (by assumption) hc1 hd1 (by assumption) (by assumption)
            refine KW.top (congrArg Value.int ee.symm) ?_
            show KW true l Z M_law n0 (fun v _ => v = some (.int 1)) (EL, fun _ => False) h55 16 56 236 #[.val (.int x), .val (.int y), .val (.int z), .val (.int n1), .val (.int c0), .val (.int c1), .val (.int n2), .val (.int d0), .val (.int d1), .val (.ref ta), .val (.ref tb), .val w1, .val w2, .val w3, .val w4, .val (.ref a1), .val (.ref a27), .unset, .unset, .unset, .unset, .unset, .unset] [(.int (eqI (tx n1 c0 c1) (tx n2 d0 d1)))]
            refine k_istore (Ls' := #[.val (.int x), .val (.int y), .val (.int z), .val (.int n1), .val (.int c0), .val (.int c1), .val (.int n2), .val (.int d0), .val (.int d1), .val (.ref ta), .val (.ref tb), .val w1, .val w2, .val w3, .val w4, .val (.ref a1), .val (.ref a27), .val (.int (eqI (tx n1 c0 c1) (tx n2 d0 d1))), .unset, .unset, .unset, .unset, .unset]) at_236 rfl rfl ?_
            refine k_aload at_238 rfl rfl rfl ?_
            refine k_aload at_240 rfl rfl rfl ?_
            have f94 := ((((OD.ext E3).keep K25 (allS ge12 all0)).ext E29).keep K56 (allS ge42 all0))
            have f95 := (A30.keep K56)
            have f96 := ((F26.ext E29).keep K56 (ninS ne40 nin0))
            have f97 := (f52.keep K56 (ninS ne36 nin0) (ninS ne37 nin0))
            have f98 := (f53.keep K56 (ninS ne38 nin0) (ninS ne39 nin0))
            have f99 := (f54.keep K56)
            refine k_callVirtual (argsL := [(.ref a27)]) (rest := []) (W0 := 0) at_242 rfl (mt_ueq l Z a0 hw cs hcs SC hEW a1 a27 ta tb t1 t2 (tx n1 c0 c1) (tx n2 d0 d1) h55 n0 f94 f95 f96 F57 f97 f98) (Kp.pure (fun _ _ q => q.2.symm)) f99 (hw _ (List.mem_of_getElem? (i := 50) rfl)) (hw _ (List.mem_of_getElem? (i := 51) rfl)) (hw _ (List.mem_of_getElem? (i := 53) rfl)) (hw _ (List.mem_of_getElem? (i := 53) rfl)) (hw _ (List.mem_of_getElem? (i := 52) rfl)) (hw _ (List.mem_of_getElem? (i := 54) rfl)) (hw _ (List.mem_of_getElem? (i := 29) rfl)) (by decide) pd_ueq rfl rfl rfl rfl (by decide) (by decide) (by decide) (by decide) ?_
            rintro _ _ - ⟨rfl, rfl⟩
            refine KW.sub (S' := fun _ => False) (fun x hx => hx.elim) ?_
            show KW true l Z M_law n0 (fun v _ => v = some (.int 1)) (EL, fun _ => False) h55 16 56 245 #[.val (.int x), .val (.int y), .val (.int z), .val (.int n1), .val (.int c0), .val (.int c1), .val (.int n2), .val (.int d0), .val (.int d1), .val (.ref ta), .val (.ref tb), .val w1, .val w2, .val w3, .val w4, .val (.ref a1), .val (.ref a27), .val (.int (eqI (tx n1 c0 c1) (tx n2 d0 d1))), .unset, .unset, .unset, .unset, .unset] [(.int (eqI (tx n1 c0 c1) (tx n2 d0 d1)))]
            refine k_istore (Ls' := #[.val (.int x), .val (.int y), .val (.int z), .val (.int n1), .val (.int c0), .val (.int c1), .val (.int n2), .val (.int d0), .val (.int d1), .val (.ref ta), .val (.ref tb), .val w1, .val w2, .val w3, .val w4, .val (.ref a1), .val (.ref a27), .val (.int (eqI (tx n1 c0 c1) (tx n2 d0 d1))), .val (.int (eqI (tx n1 c0 c1) (tx n2 d0 d1))), .unset, .unset, .unset, .unset]) at_245 rfl rfl ?_
            refine k_aload at_247 rfl rfl rfl ?_
            refine k_aload at_249 rfl rfl rfl ?_
            refine k_callVirtual (argsL := [(.ref a1)]) (rest := []) (W0 := 0) at_251 rfl (mt_ueq l Z a0 hw cs hcs SC hEW a27 a1 tb ta t2 t1 (tx n2 d0 d1) (tx n1 c0 c1) h55 n0 f94 f99 F57 f96 f98 f97) (Kp.pure (fun _ _ q => q.2.symm)) f95 (hw _ (List.mem_of_getElem? (i := 50) rfl)) (hw _ (List.mem_of_getElem? (i := 51) rfl)) (hw _ (List.mem_of_getElem? (i := 53) rfl)) (hw _ (List.mem_of_getElem? (i := 53) rfl)) (hw _ (List.mem_of_getElem? (i := 52) rfl)) (hw _ (List.mem_of_getElem? (i := 54) rfl)) (hw _ (List.mem_of_getElem? (i := 29) rfl)) (by decide) pd_ueq rfl rfl rfl rfl (by decide) (by decide) (by decide) (by decide) ?_
            rintro _ _ - ⟨rfl, rfl⟩
            refine KW.sub (S' := fun _ => False) (fun x hx => hx.elim) ?_
            show KW true l Z M_law n0 (fun v _ => v = some (.int 1)) (EL, fun _ => False) h55 16 56 254 #[.val (.int x), .val (.int y), .val (.int z), .val (.int n1), .val (.int c0), .val (.int c1), .val (.int n2), .val (.int d0), .val (.int d1), .val (.ref ta), .val (.ref tb), .val w1, .val w2, .val w3, .val w4, .val (.ref a1), .val (.ref a27), .val (.int (eqI (tx n1 c0 c1) (tx n2 d0 d1))), .val (.int (eqI (tx n1 c0 c1) (tx n2 d0 d1))), .unset, .unset, .unset, .unset] [(.int (eqI (tx n2 d0 d1) (tx n1 c0 c1)))]
            refine k_istore (Ls' := #[.val (.int x), .val (.int y), .val (.int z), .val (.int n1), .val (.int c0), .val (.int c1), .val (.int n2), .val (.int d0), .val (.int d1), .val (.ref ta), .val (.ref tb), .val w1, .val w2, .val w3, .val w4, .val (.ref a1), .val (.ref a27), .val (.int (eqI (tx n1 c0 c1) (tx n2 d0 d1))), .val (.int (eqI (tx n1 c0 c1) (tx n2 d0 d1))), .val (.int (eqI (tx n2 d0 d1) (tx n1 c0 c1))), .unset, .unset, .unset]) at_254 rfl rfl ?_
            refine k_aload at_256 rfl rfl rfl ?_
            refine k_aload at_258 rfl rfl rfl ?_
            refine k_callVirtual (argsL := [(.ref a1)]) (rest := []) (W0 := 0) at_260 rfl (mt_ueq l Z a0 hw cs hcs SC hEW a1 a1 ta ta t1 t1 (tx n1 c0 c1) (tx n1 c0 c1) h55 n0 f94 f99 f96 f96 f97 f97) (Kp.pure (fun _ _ q => q.2.symm)) f99 (hw _ (List.mem_of_getElem? (i := 50) rfl)) (hw _ (List.mem_of_getElem? (i := 51) rfl)) (hw _ (List.mem_of_getElem? (i := 53) rfl)) (hw _ (List.mem_of_getElem? (i := 53) rfl)) (hw _ (List.mem_of_getElem? (i := 52) rfl)) (hw _ (List.mem_of_getElem? (i := 54) rfl)) (hw _ (List.mem_of_getElem? (i := 29) rfl)) (by decide) pd_ueq rfl rfl rfl rfl (by decide) (by decide) (by decide) (by decide) ?_
            rintro _ _ - ⟨rfl, rfl⟩
            refine KW.sub (S' := fun _ => False) (fun x hx => hx.elim) ?_
            show KW true l Z M_law n0 (fun v _ => v = some (.int 1)) (EL, fun _ => False) h55 16 56 263 #[.val (.int x), .val (.int y), .val (.int z), .val (.int n1), .val (.int c0), .val (.int c1), .val (.int n2), .val (.int d0), .val (.int d1), .val (.ref ta), .val (.ref tb), .val w1, .val w2, .val w3, .val w4, .val (.ref a1), .val (.ref a27), .val (.int (eqI (tx n1 c0 c1) (tx n2 d0 d1))), .val (.int (eqI (tx n1 c0 c1) (tx n2 d0 d1))), .val (.int (eqI (tx n2 d0 d1) (tx n1 c0 c1))), .unset, .unset, .unset] [(.int (eqI (tx n1 c0 c1) (tx n1 c0 c1)))]
            refine k_istore (Ls' := #[.val (.int x), .val (.int y), .val (.int z), .val (.int n1), .val (.int c0), .val (.int c1), .val (.int n2), .val (.int d0), .val (.int d1), .val (.ref ta), .val (.ref tb), .val w1, .val w2, .val w3, .val w4, .val (.ref a1), .val (.ref a27), .val (.int (eqI (tx n1 c0 c1) (tx n2 d0 d1))), .val (.int (eqI (tx n1 c0 c1) (tx n2 d0 d1))), .val (.int (eqI (tx n2 d0 d1) (tx n1 c0 c1))), .val (.int (eqI (tx n1 c0 c1) (tx n1 c0 c1))), .unset, .unset]) at_263 rfl rfl ?_
            refine k_aload at_265 rfl rfl rfl ?_
            refine k_aconstNull at_267 rfl ?_
            refine k_callVirtual (argsL := [.null]) (rest := []) (W0 := 0) at_268 rfl (mt_ueqN l Z a0 hw cs hcs SC hEW a1 h55 n0) (Kp.pure (fun _ _ q => q.2.symm)) f99 (hw _ (List.mem_of_getElem? (i := 50) rfl)) (hw _ (List.mem_of_getElem? (i := 51) rfl)) (hw _ (List.mem_of_getElem? (i := 53) rfl)) (hw _ (List.mem_of_getElem? (i := 53) rfl)) (hw _ (List.mem_of_getElem? (i := 52) rfl)) (hw _ (List.mem_of_getElem? (i := 54) rfl)) (hw _ (List.mem_of_getElem? (i := 29) rfl)) (by decide) pd_ueq rfl rfl rfl rfl (by decide) (by decide) (by decide) (by decide) ?_
            rintro _ _ - ⟨rfl, rfl⟩
            refine KW.sub (S' := fun _ => False) (fun x hx => hx.elim) ?_
            show KW true l Z M_law n0 (fun v _ => v = some (.int 1)) (EL, fun _ => False) h55 16 56 271 #[.val (.int x), .val (.int y), .val (.int z), .val (.int n1), .val (.int c0), .val (.int c1), .val (.int n2), .val (.int d0), .val (.int d1), .val (.ref ta), .val (.ref tb), .val w1, .val w2, .val w3, .val w4, .val (.ref a1), .val (.ref a27), .val (.int (eqI (tx n1 c0 c1) (tx n2 d0 d1))), .val (.int (eqI (tx n1 c0 c1) (tx n2 d0 d1))), .val (.int (eqI (tx n2 d0 d1) (tx n1 c0 c1))), .val (.int (eqI (tx n1 c0 c1) (tx n1 c0 c1))), .unset, .unset] [(.int (0 : Int32))]
            refine k_istore (Ls' := #[.val (.int x), .val (.int y), .val (.int z), .val (.int n1), .val (.int c0), .val (.int c1), .val (.int n2), .val (.int d0), .val (.int d1), .val (.ref ta), .val (.ref tb), .val w1, .val w2, .val w3, .val w4, .val (.ref a1), .val (.ref a27), .val (.int (eqI (tx n1 c0 c1) (tx n2 d0 d1))), .val (.int (eqI (tx n1 c0 c1) (tx n2 d0 d1))), .val (.int (eqI (tx n2 d0 d1) (tx n1 c0 c1))), .val (.int (eqI (tx n1 c0 c1) (tx n1 c0 c1))), .val (.int (0 : Int32)), .unset]) at_271 rfl rfl ?_
            refine k_aload at_273 rfl rfl rfl ?_
            refine k_aload at_275 rfl rfl rfl ?_
            refine k_callVirtual (argsL := [(.ref ta)]) (rest := []) (W0 := 0) at_277 rfl (mt_ueqS l Z a0 hw cs hcs SC hEW a1 ta h55 n0 f97.exa) (Kp.pure (fun _ _ q => q.2.symm)) f99 (hw _ (List.mem_of_getElem? (i := 50) rfl)) (hw _ (List.mem_of_getElem? (i := 51) rfl)) (hw _ (List.mem_of_getElem? (i := 53) rfl)) (hw _ (List.mem_of_getElem? (i := 53) rfl)) (hw _ (List.mem_of_getElem? (i := 52) rfl)) (hw _ (List.mem_of_getElem? (i := 54) rfl)) (hw _ (List.mem_of_getElem? (i := 29) rfl)) (by decide) pd_ueq rfl rfl rfl rfl (by decide) (by decide) (by decide) (by decide) ?_
            rintro _ _ - ⟨rfl, rfl⟩
            refine KW.sub (S' := fun _ => False) (fun x hx => hx.elim) ?_
            show KW true l Z M_law n0 (fun v _ => v = some (.int 1)) (EL, fun _ => False) h55 16 56 280 #[.val (.int x), .val (.int y), .val (.int z), .val (.int n1), .val (.int c0), .val (.int c1), .val (.int n2), .val (.int d0), .val (.int d1), .val (.ref ta), .val (.ref tb), .val w1, .val w2, .val w3, .val w4, .val (.ref a1), .val (.ref a27), .val (.int (eqI (tx n1 c0 c1) (tx n2 d0 d1))), .val (.int (eqI (tx n1 c0 c1) (tx n2 d0 d1))), .val (.int (eqI (tx n2 d0 d1) (tx n1 c0 c1))), .val (.int (eqI (tx n1 c0 c1) (tx n1 c0 c1))), .val (.int (0 : Int32)), .unset] [(.int (0 : Int32))]
            refine k_istore (Ls' := #[.val (.int x), .val (.int y), .val (.int z), .val (.int n1), .val (.int c0), .val (.int c1), .val (.int n2), .val (.int d0), .val (.int d1), .val (.ref ta), .val (.ref tb), .val w1, .val w2, .val w3, .val w4, .val (.ref a1), .val (.ref a27), .val (.int (eqI (tx n1 c0 c1) (tx n2 d0 d1))), .val (.int (eqI (tx n1 c0 c1) (tx n2 d0 d1))), .val (.int (eqI (tx n2 d0 d1) (tx n1 c0 c1))), .val (.int (eqI (tx n1 c0 c1) (tx n1 c0 c1))), .val (.int (0 : Int32)), .val (.int (0 : Int32))]) at_280 rfl rfl ?_
            refine k_iload at_282 rfl rfl ?_
            refine k_iload at_284 rfl rfl ?_
            refine k_icmp (pc1 := 315) (pc' := 289) at_286 (by decide) (by decide) rfl (fun (cd38 : ¬ (eqI (tx n1 c0 c1) (tx n2 d0 d1)) = (eqI (tx n1 c0 c1) (tx n2 d0 d1))) => False.elim (by exact cd38 rfl)) (fun (cd38 : (eqI (tx n1 c0 c1) (tx n2 d0 d1)) = (eqI (tx n1 c0 c1) (tx n2 d0 d1))) => ?_)
            refine k_iload at_289 rfl rfl ?_
            refine k_iload at_291 rfl rfl ?_
            refine k_icmp (pc1 := 315) (pc' := 296) at_293 (by decide) (by decide) rfl (fun (cd39 : ¬ (eqI (tx n2 d0 d1) (tx n1 c0 c1)) = (eqI (tx n1 c0 c1) (tx n2 d0 d1))) => False.elim (by exact cd39 (eqI_comm _ _))) (fun (cd39 : (eqI (tx n2 d0 d1) (tx n1 c0 c1)) = (eqI (tx n1 c0 c1) (tx n2 d0 d1))) => ?_)
            refine k_iload at_296 rfl rfl ?_
            refine k_ifc (pc1 := 315) (pc' := 301) at_298 (by decide) (by decide) rfl (fun (cd40 : (eqI (tx n1 c0 c1) (tx n1 c0 c1)) = (0 : Int32)) => False.elim (by rw [eqI_self] at cd40; exact absurd cd40 (by decide))) (fun (cd40 : ¬ (eqI (tx n1 c0 c1) (tx n1 c0 c1)) = (0 : Int32)) => ?_)
            refine k_iload at_301 rfl rfl ?_
            refine k_ifc (pc1 := 315) (pc' := 306) at_303 (by decide) (by decide) rfl (fun (cd41 : ¬ (0 : Int32) = (0 : Int32)) => False.elim (by exact absurd cd41 (by decide))) (fun (cd41 : (0 : Int32) = (0 : Int32)) => ?_)
            refine k_iload at_306 rfl rfl ?_
            refine k_ifc (pc1 := 315) (pc' := 311) at_308 (by decide) (by decide) rfl (fun (cd42 : ¬ (0 : Int32) = (0 : Int32)) => False.elim (by exact absurd cd42 (by decide))) (fun (cd42 : (0 : Int32) = (0 : Int32)) => ?_)
            refine k_iconst (z := (1 : Int32)) at_311 rfl (by decide) ?_
            refine k_goto (pc' := 316) at_312 (by decide) (by decide) ?_
            exact k_retNar at_316 rfl (by simp) (z' := (1 : Int32)) (by decide) (by decide) (by decide) rfl
          · skip
            refine k_iconst (z := (1 : Int32)) at_231 rfl (by decide) ?_
            refine k_goto (pc' := 236) at_232 (by decide) (by decide) ?_
            have ee : eqI (tx n1 c0 c1) (tx n2 d0 d1) = (1 : Int32) := by
              exact own_s1 hn1 (by assumption) (by first | exact Or.inl (by assumption) | exact Or.inr (by assumption)) (by first | exact Or.inl (by assumption) | exact Or.inr (by assumption))
            refine KW.top (congrArg Value.int ee.symm) ?_
            show KW true l Z M_law n0 (fun v _ => v = some (.int 1)) (EL, fun _ => False) h55 16 56 236 #[.val (.int x), .val (.int y), .val (.int z), .val (.int n1), .val (.int c0), .val (.int c1), .val (.int n2), .val (.int d0), .val (.int d1), .val (.ref ta), .val (.ref tb), .val w1, .val w2, .val w3, .val w4, .val (.ref a1), .val (.ref a27), .unset, .unset, .unset, .unset, .unset, .unset] [(.int (eqI (tx n1 c0 c1) (tx n2 d0 d1)))]
            refine k_istore (Ls' := #[.val (.int x), .val (.int y), .val (.int z), .val (.int n1), .val (.int c0), .val (.int c1), .val (.int n2), .val (.int d0), .val (.int d1), .val (.ref ta), .val (.ref tb), .val w1, .val w2, .val w3, .val w4, .val (.ref a1), .val (.ref a27), .val (.int (eqI (tx n1 c0 c1) (tx n2 d0 d1))), .unset, .unset, .unset, .unset, .unset]) at_236 rfl rfl ?_
            refine k_aload at_238 rfl rfl rfl ?_
            refine k_aload at_240 rfl rfl rfl ?_
            have f100 := ((((OD.ext E3).keep K25 (allS ge12 all0)).ext E29).keep K56 (allS ge42 all0))
            have f101 := (A30.keep K56)
            have f102 := ((F26.ext E29).keep K56 (ninS ne40 nin0))
            have f103 := (f52.keep K56 (ninS ne36 nin0) (ninS ne37 nin0))
            have f104 := (f53.keep K56 (ninS ne38 nin0) (ninS ne39 nin0))
            have f105 := (f54.keep K56)
            refine k_callVirtual (argsL := [(.ref a27)]) (rest := []) (W0 := 0) at_242 rfl (mt_ueq l Z a0 hw cs hcs SC hEW a1 a27 ta tb t1 t2 (tx n1 c0 c1) (tx n2 d0 d1) h55 n0 f100 f101 f102 F57 f103 f104) (Kp.pure (fun _ _ q => q.2.symm)) f105 (hw _ (List.mem_of_getElem? (i := 50) rfl)) (hw _ (List.mem_of_getElem? (i := 51) rfl)) (hw _ (List.mem_of_getElem? (i := 53) rfl)) (hw _ (List.mem_of_getElem? (i := 53) rfl)) (hw _ (List.mem_of_getElem? (i := 52) rfl)) (hw _ (List.mem_of_getElem? (i := 54) rfl)) (hw _ (List.mem_of_getElem? (i := 29) rfl)) (by decide) pd_ueq rfl rfl rfl rfl (by decide) (by decide) (by decide) (by decide) ?_
            rintro _ _ - ⟨rfl, rfl⟩
            refine KW.sub (S' := fun _ => False) (fun x hx => hx.elim) ?_
            show KW true l Z M_law n0 (fun v _ => v = some (.int 1)) (EL, fun _ => False) h55 16 56 245 #[.val (.int x), .val (.int y), .val (.int z), .val (.int n1), .val (.int c0), .val (.int c1), .val (.int n2), .val (.int d0), .val (.int d1), .val (.ref ta), .val (.ref tb), .val w1, .val w2, .val w3, .val w4, .val (.ref a1), .val (.ref a27), .val (.int (eqI (tx n1 c0 c1) (tx n2 d0 d1))), .unset, .unset, .unset, .unset, .unset] [(.int (eqI (tx n1 c0 c1) (tx n2 d0 d1)))]
            refine k_istore (Ls' := #[.val (.int x), .val (.int y), .val (.int z), .val (.int n1), .val (.int c0), .val (.int c1), .val (.int n2), .val (.int d0), .val (.int d1), .val (.ref ta), .val (.ref tb), .val w1, .val w2, .val w3, .val w4, .val (.ref a1), .val (.ref a27), .val (.int (eqI (tx n1 c0 c1) (tx n2 d0 d1))), .val (.int (eqI (tx n1 c0 c1) (tx n2 d0 d1))), .unset, .unset, .unset, .unset]) at_245 rfl rfl ?_
            refine k_aload at_247 rfl rfl rfl ?_
            refine k_aload at_249 rfl rfl rfl ?_
            refine k_callVirtual (argsL := [(.ref a1)]) (rest := []) (W0 := 0) at_251 rfl (mt_ueq l Z a0 hw cs hcs SC hEW a27 a1 tb ta t2 t1 (tx n2 d0 d1) (tx n1 c0 c1) h55 n0 f100 f105 F57 f102 f104 f103) (Kp.pure (fun _ _ q => q.2.symm)) f101 (hw _ (List.mem_of_getElem? (i := 50) rfl)) (hw _ (List.mem_of_getElem? (i := 51) rfl)) (hw _ (List.mem_of_getElem? (i := 53) rfl)) (hw _ (List.mem_of_getElem? (i := 53) rfl)) (hw _ (List.mem_of_getElem? (i := 52) rfl)) (hw _ (List.mem_of_getElem? (i := 54) rfl)) (hw _ (List.mem_of_getElem? (i := 29) rfl)) (by decide) pd_ueq rfl rfl rfl rfl (by decide) (by decide) (by decide) (by decide) ?_
            rintro _ _ - ⟨rfl, rfl⟩
            refine KW.sub (S' := fun _ => False) (fun x hx => hx.elim) ?_
            show KW true l Z M_law n0 (fun v _ => v = some (.int 1)) (EL, fun _ => False) h55 16 56 254 #[.val (.int x), .val (.int y), .val (.int z), .val (.int n1), .val (.int c0), .val (.int c1), .val (.int n2), .val (.int d0), .val (.int d1), .val (.ref ta), .val (.ref tb), .val w1, .val w2, .val w3, .val w4, .val (.ref a1), .val (.ref a27), .val (.int (eqI (tx n1 c0 c1) (tx n2 d0 d1))), .val (.int (eqI (tx n1 c0 c1) (tx n2 d0 d1))), .unset, .unset, .unset, .unset] [(.int (eqI (tx n2 d0 d1) (tx n1 c0 c1)))]
            refine k_istore (Ls' := #[.val (.int x), .val (.int y), .val (.int z), .val (.int n1), .val (.int c0), .val (.int c1), .val (.int n2), .val (.int d0), .val (.int d1), .val (.ref ta), .val (.ref tb), .val w1, .val w2, .val w3, .val w4, .val (.ref a1), .val (.ref a27), .val (.int (eqI (tx n1 c0 c1) (tx n2 d0 d1))), .val (.int (eqI (tx n1 c0 c1) (tx n2 d0 d1))), .val (.int (eqI (tx n2 d0 d1) (tx n1 c0 c1))), .unset, .unset, .unset]) at_254 rfl rfl ?_
            refine k_aload at_256 rfl rfl rfl ?_
            refine k_aload at_258 rfl rfl rfl ?_
            refine k_callVirtual (argsL := [(.ref a1)]) (rest := []) (W0 := 0) at_260 rfl (mt_ueq l Z a0 hw cs hcs SC hEW a1 a1 ta ta t1 t1 (tx n1 c0 c1) (tx n1 c0 c1) h55 n0 f100 f105 f102 f102 f103 f103) (Kp.pure (fun _ _ q => q.2.symm)) f105 (hw _ (List.mem_of_getElem? (i := 50) rfl)) (hw _ (List.mem_of_getElem? (i := 51) rfl)) (hw _ (List.mem_of_getElem? (i := 53) rfl)) (hw _ (List.mem_of_getElem? (i := 53) rfl)) (hw _ (List.mem_of_getElem? (i := 52) rfl)) (hw _ (List.mem_of_getElem? (i := 54) rfl)) (hw _ (List.mem_of_getElem? (i := 29) rfl)) (by decide) pd_ueq rfl rfl rfl rfl (by decide) (by decide) (by decide) (by decide) ?_
            rintro _ _ - ⟨rfl, rfl⟩
            refine KW.sub (S' := fun _ => False) (fun x hx => hx.elim) ?_
            show KW true l Z M_law n0 (fun v _ => v = some (.int 1)) (EL, fun _ => False) h55 16 56 263 #[.val (.int x), .val (.int y), .val (.int z), .val (.int n1), .val (.int c0), .val (.int c1), .val (.int n2), .val (.int d0), .val (.int d1), .val (.ref ta), .val (.ref tb), .val w1, .val w2, .val w3, .val w4, .val (.ref a1), .val (.ref a27), .val (.int (eqI (tx n1 c0 c1) (tx n2 d0 d1))), .val (.int (eqI (tx n1 c0 c1) (tx n2 d0 d1))), .val (.int (eqI (tx n2 d0 d1) (tx n1 c0 c1))), .unset, .unset, .unset] [(.int (eqI (tx n1 c0 c1) (tx n1 c0 c1)))]
            refine k_istore (Ls' := #[.val (.int x), .val (.int y), .val (.int z), .val (.int n1), .val (.int c0), .val (.int c1), .val (.int n2), .val (.int d0), .val (.int d1), .val (.ref ta), .val (.ref tb), .val w1, .val w2, .val w3, .val w4, .val (.ref a1), .val (.ref a27), .val (.int (eqI (tx n1 c0 c1) (tx n2 d0 d1))), .val (.int (eqI (tx n1 c0 c1) (tx n2 d0 d1))), .val (.int (eqI (tx n2 d0 d1) (tx n1 c0 c1))), .val (.int (eqI (tx n1 c0 c1) (tx n1 c0 c1))), .unset, .unset]) at_263 rfl rfl ?_
            refine k_aload at_265 rfl rfl rfl ?_
            refine k_aconstNull at_267 rfl ?_
            refine k_callVirtual (argsL := [.null]) (rest := []) (W0 := 0) at_268 rfl (mt_ueqN l Z a0 hw cs hcs SC hEW a1 h55 n0) (Kp.pure (fun _ _ q => q.2.symm)) f105 (hw _ (List.mem_of_getElem? (i := 50) rfl)) (hw _ (List.mem_of_getElem? (i := 51) rfl)) (hw _ (List.mem_of_getElem? (i := 53) rfl)) (hw _ (List.mem_of_getElem? (i := 53) rfl)) (hw _ (List.mem_of_getElem? (i := 52) rfl)) (hw _ (List.mem_of_getElem? (i := 54) rfl)) (hw _ (List.mem_of_getElem? (i := 29) rfl)) (by decide) pd_ueq rfl rfl rfl rfl (by decide) (by decide) (by decide) (by decide) ?_
            rintro _ _ - ⟨rfl, rfl⟩
            refine KW.sub (S' := fun _ => False) (fun x hx => hx.elim) ?_
            show KW true l Z M_law n0 (fun v _ => v = some (.int 1)) (EL, fun _ => False) h55 16 56 271 #[.val (.int x), .val (.int y), .val (.int z), .val (.int n1), .val (.int c0), .val (.int c1), .val (.int n2), .val (.int d0), .val (.int d1), .val (.ref ta), .val (.ref tb), .val w1, .val w2, .val w3, .val w4, .val (.ref a1), .val (.ref a27), .val (.int (eqI (tx n1 c0 c1) (tx n2 d0 d1))), .val (.int (eqI (tx n1 c0 c1) (tx n2 d0 d1))), .val (.int (eqI (tx n2 d0 d1) (tx n1 c0 c1))), .val (.int (eqI (tx n1 c0 c1) (tx n1 c0 c1))), .unset, .unset] [(.int (0 : Int32))]
            refine k_istore (Ls' := #[.val (.int x), .val (.int y), .val (.int z), .val (.int n1), .val (.int c0), .val (.int c1), .val (.int n2), .val (.int d0), .val (.int d1), .val (.ref ta), .val (.ref tb), .val w1, .val w2, .val w3, .val w4, .val (.ref a1), .val (.ref a27), .val (.int (eqI (tx n1 c0 c1) (tx n2 d0 d1))), .val (.int (eqI (tx n1 c0 c1) (tx n2 d0 d1))), .val (.int (eqI (tx n2 d0 d1) (tx n1 c0 c1))), .val (.int (eqI (tx n1 c0 c1) (tx n1 c0 c1))), .val (.int (0 : Int32)), .unset]) at_271 rfl rfl ?_
            refine k_aload at_273 rfl rfl rfl ?_
            refine k_aload at_275 rfl rfl rfl ?_
            refine k_callVirtual (argsL := [(.ref ta)]) (rest := []) (W0 := 0) at_277 rfl (mt_ueqS l Z a0 hw cs hcs SC hEW a1 ta h55 n0 f103.exa) (Kp.pure (fun _ _ q => q.2.symm)) f105 (hw _ (List.mem_of_getElem? (i := 50) rfl)) (hw _ (List.mem_of_getElem? (i := 51) rfl)) (hw _ (List.mem_of_getElem? (i := 53) rfl)) (hw _ (List.mem_of_getElem? (i := 53) rfl)) (hw _ (List.mem_of_getElem? (i := 52) rfl)) (hw _ (List.mem_of_getElem? (i := 54) rfl)) (hw _ (List.mem_of_getElem? (i := 29) rfl)) (by decide) pd_ueq rfl rfl rfl rfl (by decide) (by decide) (by decide) (by decide) ?_
            rintro _ _ - ⟨rfl, rfl⟩
            refine KW.sub (S' := fun _ => False) (fun x hx => hx.elim) ?_
            show KW true l Z M_law n0 (fun v _ => v = some (.int 1)) (EL, fun _ => False) h55 16 56 280 #[.val (.int x), .val (.int y), .val (.int z), .val (.int n1), .val (.int c0), .val (.int c1), .val (.int n2), .val (.int d0), .val (.int d1), .val (.ref ta), .val (.ref tb), .val w1, .val w2, .val w3, .val w4, .val (.ref a1), .val (.ref a27), .val (.int (eqI (tx n1 c0 c1) (tx n2 d0 d1))), .val (.int (eqI (tx n1 c0 c1) (tx n2 d0 d1))), .val (.int (eqI (tx n2 d0 d1) (tx n1 c0 c1))), .val (.int (eqI (tx n1 c0 c1) (tx n1 c0 c1))), .val (.int (0 : Int32)), .unset] [(.int (0 : Int32))]
            refine k_istore (Ls' := #[.val (.int x), .val (.int y), .val (.int z), .val (.int n1), .val (.int c0), .val (.int c1), .val (.int n2), .val (.int d0), .val (.int d1), .val (.ref ta), .val (.ref tb), .val w1, .val w2, .val w3, .val w4, .val (.ref a1), .val (.ref a27), .val (.int (eqI (tx n1 c0 c1) (tx n2 d0 d1))), .val (.int (eqI (tx n1 c0 c1) (tx n2 d0 d1))), .val (.int (eqI (tx n2 d0 d1) (tx n1 c0 c1))), .val (.int (eqI (tx n1 c0 c1) (tx n1 c0 c1))), .val (.int (0 : Int32)), .val (.int (0 : Int32))]) at_280 rfl rfl ?_
            refine k_iload at_282 rfl rfl ?_
            refine k_iload at_284 rfl rfl ?_
            refine k_icmp (pc1 := 315) (pc' := 289) at_286 (by decide) (by decide) rfl (fun (cd43 : ¬ (eqI (tx n1 c0 c1) (tx n2 d0 d1)) = (eqI (tx n1 c0 c1) (tx n2 d0 d1))) => False.elim (by exact cd43 rfl)) (fun (cd43 : (eqI (tx n1 c0 c1) (tx n2 d0 d1)) = (eqI (tx n1 c0 c1) (tx n2 d0 d1))) => ?_)
            refine k_iload at_289 rfl rfl ?_
            refine k_iload at_291 rfl rfl ?_
            refine k_icmp (pc1 := 315) (pc' := 296) at_293 (by decide) (by decide) rfl (fun (cd44 : ¬ (eqI (tx n2 d0 d1) (tx n1 c0 c1)) = (eqI (tx n1 c0 c1) (tx n2 d0 d1))) => False.elim (by exact cd44 (eqI_comm _ _))) (fun (cd44 : (eqI (tx n2 d0 d1) (tx n1 c0 c1)) = (eqI (tx n1 c0 c1) (tx n2 d0 d1))) => ?_)
            refine k_iload at_296 rfl rfl ?_
            refine k_ifc (pc1 := 315) (pc' := 301) at_298 (by decide) (by decide) rfl (fun (cd45 : (eqI (tx n1 c0 c1) (tx n1 c0 c1)) = (0 : Int32)) => False.elim (by rw [eqI_self] at cd45; exact absurd cd45 (by decide))) (fun (cd45 : ¬ (eqI (tx n1 c0 c1) (tx n1 c0 c1)) = (0 : Int32)) => ?_)
            refine k_iload at_301 rfl rfl ?_
            refine k_ifc (pc1 := 315) (pc' := 306) at_303 (by decide) (by decide) rfl (fun (cd46 : ¬ (0 : Int32) = (0 : Int32)) => False.elim (by exact absurd cd46 (by decide))) (fun (cd46 : (0 : Int32) = (0 : Int32)) => ?_)
            refine k_iload at_306 rfl rfl ?_
            refine k_ifc (pc1 := 315) (pc' := 311) at_308 (by decide) (by decide) rfl (fun (cd47 : ¬ (0 : Int32) = (0 : Int32)) => False.elim (by exact absurd cd47 (by decide))) (fun (cd47 : (0 : Int32) = (0 : Int32)) => ?_)
            refine k_iconst (z := (1 : Int32)) at_311 rfl (by decide) ?_
            refine k_goto (pc' := 316) at_312 (by decide) (by decide) ?_
            exact k_retNar at_316 rfl (by simp) (z' := (1 : Int32)) (by decide) (by decide) (by decide) rfl
set_option maxRecDepth 65536 in
set_option maxHeartbeats 40000000 in
theorem kw_75 (l : Launch) (Z : State) (a0 : Array Value) (hw : ∀ d ∈ tables_1, d.before a0 Z = true) (cs : Int32) (hcs : ¬ cs = 0) (SC : Sta Z Z.heap "java/lang/String" "COMPACT_STRINGS" "Z" (.int cs)) (hEW : EW Z a0 EL) (x y z n1 c0 c1 n2 d0 d1 : Int32) (h0 : Heap) (n0 : Nat) (OD : Old Z n0 h0) (hn1 : N3 n1) (hn2 : N3 n2) (hc0 : Ch c0) (hc1 : Ch c1) (hd0 : Ch d0) (hd1 : Ch d1) : KW true l Z M_law n0 (fun v _ => v = some (.int 1)) (EL, fun _ => False) h0 0 0 75 #[.val (.int x), .val (.int y), .val (.int z), .val (.int n1), .val (.int c0), .val (.int c1), .val (.int n2), .val (.int d0), .val (.int d1), .unset, .unset, .unset, .unset, .unset, .unset, .unset, .unset, .unset, .unset, .unset, .unset, .unset, .unset] [] := by
  refine k_iloadN at_75 rfl rfl ?_
  refine k_iload at_76 rfl rfl ?_
  refine k_iload at_78 rfl rfl ?_
  refine k_callStaticW (argsL := [(.int n1), (.int c0), (.int c1)]) (rest := []) (W0 := 0) at_80 rfl (mt_txt l Z a0 hw cs hcs SC hEW n1 c0 c1 h0 n0 OD hc0 hc1) (hw _ (List.mem_of_getElem? (i := 0) rfl)) (hw _ (List.mem_of_getElem? (i := 1) rfl)) (hw _ (List.mem_of_getElem? (i := 2) rfl)) (hw _ (List.mem_of_getElem? (i := 3) rfl)) (by decide) pd_txt rfl rfl rfl rfl (by decide) (by decide) (by decide) (by decide) ?_
  rintro _ h106 - ⟨a107, t108, rfl, K109, SG110⟩
  show KW true l Z M_law n0 (fun v _ => v = some (.int 1)) (EL, fun _ => False) h106 6 14 83 #[.val (.int x), .val (.int y), .val (.int z), .val (.int n1), .val (.int c0), .val (.int c1), .val (.int n2), .val (.int d0), .val (.int d1), .unset, .unset, .unset, .unset, .unset, .unset, .unset, .unset, .unset, .unset, .unset, .unset, .unset, .unset] [(.ref a107)]
  refine k_astore (Ls' := #[.val (.int x), .val (.int y), .val (.int z), .val (.int n1), .val (.int c0), .val (.int c1), .val (.int n2), .val (.int d0), .val (.int d1), .val (.ref a107), .unset, .unset, .unset, .unset, .unset, .unset, .unset, .unset, .unset, .unset, .unset, .unset, .unset]) at_83 rfl rfl rfl ?_
  refine k_iload at_85 rfl rfl ?_
  refine k_iload at_87 rfl rfl ?_
  refine k_iload at_89 rfl rfl ?_
  have f111 := (OD.keep K109 all0)
  refine k_callStaticW (argsL := [(.int n2), (.int d0), (.int d1)]) (rest := []) (W0 := 0) at_91 rfl (mt_txt l Z a0 hw cs hcs SC hEW n2 d0 d1 h106 n0 f111 hd0 hd1) (hw _ (List.mem_of_getElem? (i := 0) rfl)) (hw _ (List.mem_of_getElem? (i := 1) rfl)) (hw _ (List.mem_of_getElem? (i := 2) rfl)) (hw _ (List.mem_of_getElem? (i := 3) rfl)) (by decide) pd_txt rfl rfl rfl rfl (by decide) (by decide) (by decide) (by decide) ?_
  rintro _ h112 - ⟨a113, t114, rfl, K115, SG116⟩
  show KW true l Z M_law n0 (fun v _ => v = some (.int 1)) (EL, fun _ => False) h112 12 28 94 #[.val (.int x), .val (.int y), .val (.int z), .val (.int n1), .val (.int c0), .val (.int c1), .val (.int n2), .val (.int d0), .val (.int d1), .val (.ref a107), .unset, .unset, .unset, .unset, .unset, .unset, .unset, .unset, .unset, .unset, .unset, .unset, .unset] [(.ref a113)]
  refine k_astore (Ls' := #[.val (.int x), .val (.int y), .val (.int z), .val (.int n1), .val (.int c0), .val (.int c1), .val (.int n2), .val (.int d0), .val (.int d1), .val (.ref a107), .val (.ref a113), .unset, .unset, .unset, .unset, .unset, .unset, .unset, .unset, .unset, .unset, .unset, .unset]) at_94 rfl rfl rfl ?_
  refine k_iloadN at_96 rfl rfl ?_
  refine k_iconst (z := (4 : Int32)) at_97 rfl (by decide) ?_
  refine k_iand at_98 rfl ?_
  refine k_ifc (pc1 := 107) (pc' := 102) at_99 (by decide) (by decide) rfl (fun (cd48 : (z &&& (4 : Int32)) = (0 : Int32)) => ?_) (fun (cd48 : ¬ (z &&& (4 : Int32)) = (0 : Int32)) => ?_)
  · skip
    refine k_aconstNull at_107 rfl ?_
    refine k_astore (Ls' := #[.val (.int x), .val (.int y), .val (.int z), .val (.int n1), .val (.int c0), .val (.int c1), .val (.int n2), .val (.int d0), .val (.int d1), .val (.ref a107), .val (.ref a113), .val .null, .unset, .unset, .unset, .unset, .unset, .unset, .unset, .unset, .unset, .unset, .unset]) at_108 rfl rfl rfl ?_
    refine k_iloadN at_110 rfl rfl ?_
    refine k_bipush (z := (8 : Int32)) at_111 rfl (by decide) ?_
    refine k_iand at_113 rfl ?_
    refine k_ifc (pc1 := 122) (pc' := 117) at_114 (by decide) (by decide) rfl (fun (cd49 : (z &&& (8 : Int32)) = (0 : Int32)) => ?_) (fun (cd49 : ¬ (z &&& (8 : Int32)) = (0 : Int32)) => ?_)
    · skip
      refine k_ldcO (sl := 0) at_122 rfl (hw _ (List.mem_of_getElem? (i := 26) rfl)) (own_wS Z a0 hw) (by decide) (by decide) (by decide) (by decide) ?_
      intro a117 h118 E119
      show KW true l Z M_law n0 (fun v _ => v = some (.int 1)) (EL, fun _ => False) h118 14 32 124 #[.val (.int x), .val (.int y), .val (.int z), .val (.int n1), .val (.int c0), .val (.int c1), .val (.int n2), .val (.int d0), .val (.int d1), .val (.ref a107), .val (.ref a113), .val .null, .unset, .unset, .unset, .unset, .unset, .unset, .unset, .unset, .unset, .unset, .unset] [(.ref a117)]
      refine k_astore (Ls' := #[.val (.int x), .val (.int y), .val (.int z), .val (.int n1), .val (.int c0), .val (.int c1), .val (.int n2), .val (.int d0), .val (.int d1), .val (.ref a107), .val (.ref a113), .val .null, .val (.ref a117), .unset, .unset, .unset, .unset, .unset, .unset, .unset, .unset, .unset, .unset]) at_124 rfl rfl rfl ?_
      refine k_iloadN at_126 rfl rfl ?_
      refine k_bipush (z := (16 : Int32)) at_127 rfl (by decide) ?_
      refine k_iand at_129 rfl ?_
      refine k_ifc (pc1 := 138) (pc' := 133) at_130 (by decide) (by decide) rfl (fun (cd50 : (z &&& (16 : Int32)) = (0 : Int32)) => ?_) (fun (cd50 : ¬ (z &&& (16 : Int32)) = (0 : Int32)) => ?_)
      · skip
        refine k_aconstNull at_138 rfl ?_
        refine k_astore (Ls' := #[.val (.int x), .val (.int y), .val (.int z), .val (.int n1), .val (.int c0), .val (.int c1), .val (.int n2), .val (.int d0), .val (.int d1), .val (.ref a107), .val (.ref a113), .val .null, .val (.ref a117), .val .null, .unset, .unset, .unset, .unset, .unset, .unset, .unset, .unset, .unset]) at_139 rfl rfl rfl ?_
        refine k_iloadN at_141 rfl rfl ?_
        refine k_bipush (z := (32 : Int32)) at_142 rfl (by decide) ?_
        refine k_iand at_144 rfl ?_
        refine k_ifc (pc1 := 153) (pc' := 148) at_145 (by decide) (by decide) rfl (fun (cd51 : (z &&& (32 : Int32)) = (0 : Int32)) => ?_) (fun (cd51 : ¬ (z &&& (32 : Int32)) = (0 : Int32)) => ?_)
        · skip
          refine k_aconstNull at_153 rfl ?_
          refine k_astore (Ls' := #[.val (.int x), .val (.int y), .val (.int z), .val (.int n1), .val (.int c0), .val (.int c1), .val (.int n2), .val (.int d0), .val (.int d1), .val (.ref a107), .val (.ref a113), .val .null, .val (.ref a117), .val .null, .val .null, .unset, .unset, .unset, .unset, .unset, .unset, .unset, .unset]) at_154 rfl rfl rfl ?_
          refine KW.more (k' := 14) (n' := 40) (by decide) (by decide) ?_
          have f120 := ((f111.keep K115 all0).ext E119)
          have f121 := ((SG110.keep K115 nin0 nin0).ext E119)
          have f122 := (SG116.ext E119)
          exact kw_156 l Z a0 hw cs hcs SC hEW x y z n1 c0 c1 n2 d0 d1 a107 t108 a113 t114 Value.null (Value.ref a117) Value.null Value.null rfl rfl rfl rfl h118 n0 f120 f121 f122 hn1 hn2 hc0 hc1 hd0 hd1
        · skip
          refine k_aload at_148 rfl rfl rfl ?_
          refine k_goto (pc' := 154) at_150 (by decide) (by decide) ?_
          refine k_astore (Ls' := #[.val (.int x), .val (.int y), .val (.int z), .val (.int n1), .val (.int c0), .val (.int c1), .val (.int n2), .val (.int d0), .val (.int d1), .val (.ref a107), .val (.ref a113), .val .null, .val (.ref a117), .val .null, .val (.ref a107), .unset, .unset, .unset, .unset, .unset, .unset, .unset, .unset]) at_154 rfl rfl rfl ?_
          refine KW.more (k' := 14) (n' := 40) (by decide) (by decide) ?_
          have f123 := ((f111.keep K115 all0).ext E119)
          have f124 := ((SG110.keep K115 nin0 nin0).ext E119)
          have f125 := (SG116.ext E119)
          exact kw_156 l Z a0 hw cs hcs SC hEW x y z n1 c0 c1 n2 d0 d1 a107 t108 a113 t114 Value.null (Value.ref a117) Value.null (Value.ref a107) rfl rfl rfl rfl h118 n0 f123 f124 f125 hn1 hn2 hc0 hc1 hd0 hd1
      · skip
        refine k_aload at_133 rfl rfl rfl ?_
        refine k_goto (pc' := 139) at_135 (by decide) (by decide) ?_
        refine k_astore (Ls' := #[.val (.int x), .val (.int y), .val (.int z), .val (.int n1), .val (.int c0), .val (.int c1), .val (.int n2), .val (.int d0), .val (.int d1), .val (.ref a107), .val (.ref a113), .val .null, .val (.ref a117), .val (.ref a107), .unset, .unset, .unset, .unset, .unset, .unset, .unset, .unset, .unset]) at_139 rfl rfl rfl ?_
        refine k_iloadN at_141 rfl rfl ?_
        refine k_bipush (z := (32 : Int32)) at_142 rfl (by decide) ?_
        refine k_iand at_144 rfl ?_
        refine k_ifc (pc1 := 153) (pc' := 148) at_145 (by decide) (by decide) rfl (fun (cd52 : (z &&& (32 : Int32)) = (0 : Int32)) => ?_) (fun (cd52 : ¬ (z &&& (32 : Int32)) = (0 : Int32)) => ?_)
        · skip
          refine k_aconstNull at_153 rfl ?_
          refine k_astore (Ls' := #[.val (.int x), .val (.int y), .val (.int z), .val (.int n1), .val (.int c0), .val (.int c1), .val (.int n2), .val (.int d0), .val (.int d1), .val (.ref a107), .val (.ref a113), .val .null, .val (.ref a117), .val (.ref a107), .val .null, .unset, .unset, .unset, .unset, .unset, .unset, .unset, .unset]) at_154 rfl rfl rfl ?_
          refine KW.more (k' := 14) (n' := 40) (by decide) (by decide) ?_
          have f126 := ((f111.keep K115 all0).ext E119)
          have f127 := ((SG110.keep K115 nin0 nin0).ext E119)
          have f128 := (SG116.ext E119)
          exact kw_156 l Z a0 hw cs hcs SC hEW x y z n1 c0 c1 n2 d0 d1 a107 t108 a113 t114 Value.null (Value.ref a117) (Value.ref a107) Value.null rfl rfl rfl rfl h118 n0 f126 f127 f128 hn1 hn2 hc0 hc1 hd0 hd1
        · skip
          refine k_aload at_148 rfl rfl rfl ?_
          refine k_goto (pc' := 154) at_150 (by decide) (by decide) ?_
          refine k_astore (Ls' := #[.val (.int x), .val (.int y), .val (.int z), .val (.int n1), .val (.int c0), .val (.int c1), .val (.int n2), .val (.int d0), .val (.int d1), .val (.ref a107), .val (.ref a113), .val .null, .val (.ref a117), .val (.ref a107), .val (.ref a107), .unset, .unset, .unset, .unset, .unset, .unset, .unset, .unset]) at_154 rfl rfl rfl ?_
          refine KW.more (k' := 14) (n' := 40) (by decide) (by decide) ?_
          have f129 := ((f111.keep K115 all0).ext E119)
          have f130 := ((SG110.keep K115 nin0 nin0).ext E119)
          have f131 := (SG116.ext E119)
          exact kw_156 l Z a0 hw cs hcs SC hEW x y z n1 c0 c1 n2 d0 d1 a107 t108 a113 t114 Value.null (Value.ref a117) (Value.ref a107) (Value.ref a107) rfl rfl rfl rfl h118 n0 f129 f130 f131 hn1 hn2 hc0 hc1 hd0 hd1
    · skip
      refine k_aload at_117 rfl rfl rfl ?_
      refine k_goto (pc' := 124) at_119 (by decide) (by decide) ?_
      refine k_astore (Ls' := #[.val (.int x), .val (.int y), .val (.int z), .val (.int n1), .val (.int c0), .val (.int c1), .val (.int n2), .val (.int d0), .val (.int d1), .val (.ref a107), .val (.ref a113), .val .null, .val (.ref a107), .unset, .unset, .unset, .unset, .unset, .unset, .unset, .unset, .unset, .unset]) at_124 rfl rfl rfl ?_
      refine k_iloadN at_126 rfl rfl ?_
      refine k_bipush (z := (16 : Int32)) at_127 rfl (by decide) ?_
      refine k_iand at_129 rfl ?_
      refine k_ifc (pc1 := 138) (pc' := 133) at_130 (by decide) (by decide) rfl (fun (cd53 : (z &&& (16 : Int32)) = (0 : Int32)) => ?_) (fun (cd53 : ¬ (z &&& (16 : Int32)) = (0 : Int32)) => ?_)
      · skip
        refine k_aconstNull at_138 rfl ?_
        refine k_astore (Ls' := #[.val (.int x), .val (.int y), .val (.int z), .val (.int n1), .val (.int c0), .val (.int c1), .val (.int n2), .val (.int d0), .val (.int d1), .val (.ref a107), .val (.ref a113), .val .null, .val (.ref a107), .val .null, .unset, .unset, .unset, .unset, .unset, .unset, .unset, .unset, .unset]) at_139 rfl rfl rfl ?_
        refine k_iloadN at_141 rfl rfl ?_
        refine k_bipush (z := (32 : Int32)) at_142 rfl (by decide) ?_
        refine k_iand at_144 rfl ?_
        refine k_ifc (pc1 := 153) (pc' := 148) at_145 (by decide) (by decide) rfl (fun (cd54 : (z &&& (32 : Int32)) = (0 : Int32)) => ?_) (fun (cd54 : ¬ (z &&& (32 : Int32)) = (0 : Int32)) => ?_)
        · skip
          refine k_aconstNull at_153 rfl ?_
          refine k_astore (Ls' := #[.val (.int x), .val (.int y), .val (.int z), .val (.int n1), .val (.int c0), .val (.int c1), .val (.int n2), .val (.int d0), .val (.int d1), .val (.ref a107), .val (.ref a113), .val .null, .val (.ref a107), .val .null, .val .null, .unset, .unset, .unset, .unset, .unset, .unset, .unset, .unset]) at_154 rfl rfl rfl ?_
          refine KW.more (k' := 14) (n' := 40) (by decide) (by decide) ?_
          have f132 := (f111.keep K115 all0)
          have f133 := (SG110.keep K115 nin0 nin0)
          exact kw_156 l Z a0 hw cs hcs SC hEW x y z n1 c0 c1 n2 d0 d1 a107 t108 a113 t114 Value.null (Value.ref a107) Value.null Value.null rfl rfl rfl rfl h112 n0 f132 f133 SG116 hn1 hn2 hc0 hc1 hd0 hd1
        · skip
          refine k_aload at_148 rfl rfl rfl ?_
          refine k_goto (pc' := 154) at_150 (by decide) (by decide) ?_
          refine k_astore (Ls' := #[.val (.int x), .val (.int y), .val (.int z), .val (.int n1), .val (.int c0), .val (.int c1), .val (.int n2), .val (.int d0), .val (.int d1), .val (.ref a107), .val (.ref a113), .val .null, .val (.ref a107), .val .null, .val (.ref a107), .unset, .unset, .unset, .unset, .unset, .unset, .unset, .unset]) at_154 rfl rfl rfl ?_
          refine KW.more (k' := 14) (n' := 40) (by decide) (by decide) ?_
          have f134 := (f111.keep K115 all0)
          have f135 := (SG110.keep K115 nin0 nin0)
          exact kw_156 l Z a0 hw cs hcs SC hEW x y z n1 c0 c1 n2 d0 d1 a107 t108 a113 t114 Value.null (Value.ref a107) Value.null (Value.ref a107) rfl rfl rfl rfl h112 n0 f134 f135 SG116 hn1 hn2 hc0 hc1 hd0 hd1
      · skip
        refine k_aload at_133 rfl rfl rfl ?_
        refine k_goto (pc' := 139) at_135 (by decide) (by decide) ?_
        refine k_astore (Ls' := #[.val (.int x), .val (.int y), .val (.int z), .val (.int n1), .val (.int c0), .val (.int c1), .val (.int n2), .val (.int d0), .val (.int d1), .val (.ref a107), .val (.ref a113), .val .null, .val (.ref a107), .val (.ref a107), .unset, .unset, .unset, .unset, .unset, .unset, .unset, .unset, .unset]) at_139 rfl rfl rfl ?_
        refine k_iloadN at_141 rfl rfl ?_
        refine k_bipush (z := (32 : Int32)) at_142 rfl (by decide) ?_
        refine k_iand at_144 rfl ?_
        refine k_ifc (pc1 := 153) (pc' := 148) at_145 (by decide) (by decide) rfl (fun (cd55 : (z &&& (32 : Int32)) = (0 : Int32)) => ?_) (fun (cd55 : ¬ (z &&& (32 : Int32)) = (0 : Int32)) => ?_)
        · skip
          refine k_aconstNull at_153 rfl ?_
          refine k_astore (Ls' := #[.val (.int x), .val (.int y), .val (.int z), .val (.int n1), .val (.int c0), .val (.int c1), .val (.int n2), .val (.int d0), .val (.int d1), .val (.ref a107), .val (.ref a113), .val .null, .val (.ref a107), .val (.ref a107), .val .null, .unset, .unset, .unset, .unset, .unset, .unset, .unset, .unset]) at_154 rfl rfl rfl ?_
          refine KW.more (k' := 14) (n' := 40) (by decide) (by decide) ?_
          have f136 := (f111.keep K115 all0)
          have f137 := (SG110.keep K115 nin0 nin0)
          exact kw_156 l Z a0 hw cs hcs SC hEW x y z n1 c0 c1 n2 d0 d1 a107 t108 a113 t114 Value.null (Value.ref a107) (Value.ref a107) Value.null rfl rfl rfl rfl h112 n0 f136 f137 SG116 hn1 hn2 hc0 hc1 hd0 hd1
        · skip
          refine k_aload at_148 rfl rfl rfl ?_
          refine k_goto (pc' := 154) at_150 (by decide) (by decide) ?_
          refine k_astore (Ls' := #[.val (.int x), .val (.int y), .val (.int z), .val (.int n1), .val (.int c0), .val (.int c1), .val (.int n2), .val (.int d0), .val (.int d1), .val (.ref a107), .val (.ref a113), .val .null, .val (.ref a107), .val (.ref a107), .val (.ref a107), .unset, .unset, .unset, .unset, .unset, .unset, .unset, .unset]) at_154 rfl rfl rfl ?_
          refine KW.more (k' := 14) (n' := 40) (by decide) (by decide) ?_
          have f138 := (f111.keep K115 all0)
          have f139 := (SG110.keep K115 nin0 nin0)
          exact kw_156 l Z a0 hw cs hcs SC hEW x y z n1 c0 c1 n2 d0 d1 a107 t108 a113 t114 Value.null (Value.ref a107) (Value.ref a107) (Value.ref a107) rfl rfl rfl rfl h112 n0 f138 f139 SG116 hn1 hn2 hc0 hc1 hd0 hd1
  · skip
    refine k_aload at_102 rfl rfl rfl ?_
    refine k_goto (pc' := 108) at_104 (by decide) (by decide) ?_
    refine k_astore (Ls' := #[.val (.int x), .val (.int y), .val (.int z), .val (.int n1), .val (.int c0), .val (.int c1), .val (.int n2), .val (.int d0), .val (.int d1), .val (.ref a107), .val (.ref a113), .val (.ref a107), .unset, .unset, .unset, .unset, .unset, .unset, .unset, .unset, .unset, .unset, .unset]) at_108 rfl rfl rfl ?_
    refine k_iloadN at_110 rfl rfl ?_
    refine k_bipush (z := (8 : Int32)) at_111 rfl (by decide) ?_
    refine k_iand at_113 rfl ?_
    refine k_ifc (pc1 := 122) (pc' := 117) at_114 (by decide) (by decide) rfl (fun (cd56 : (z &&& (8 : Int32)) = (0 : Int32)) => ?_) (fun (cd56 : ¬ (z &&& (8 : Int32)) = (0 : Int32)) => ?_)
    · skip
      refine k_ldcO (sl := 0) at_122 rfl (hw _ (List.mem_of_getElem? (i := 26) rfl)) (own_wS Z a0 hw) (by decide) (by decide) (by decide) (by decide) ?_
      intro a140 h141 E142
      show KW true l Z M_law n0 (fun v _ => v = some (.int 1)) (EL, fun _ => False) h141 14 32 124 #[.val (.int x), .val (.int y), .val (.int z), .val (.int n1), .val (.int c0), .val (.int c1), .val (.int n2), .val (.int d0), .val (.int d1), .val (.ref a107), .val (.ref a113), .val (.ref a107), .unset, .unset, .unset, .unset, .unset, .unset, .unset, .unset, .unset, .unset, .unset] [(.ref a140)]
      refine k_astore (Ls' := #[.val (.int x), .val (.int y), .val (.int z), .val (.int n1), .val (.int c0), .val (.int c1), .val (.int n2), .val (.int d0), .val (.int d1), .val (.ref a107), .val (.ref a113), .val (.ref a107), .val (.ref a140), .unset, .unset, .unset, .unset, .unset, .unset, .unset, .unset, .unset, .unset]) at_124 rfl rfl rfl ?_
      refine k_iloadN at_126 rfl rfl ?_
      refine k_bipush (z := (16 : Int32)) at_127 rfl (by decide) ?_
      refine k_iand at_129 rfl ?_
      refine k_ifc (pc1 := 138) (pc' := 133) at_130 (by decide) (by decide) rfl (fun (cd57 : (z &&& (16 : Int32)) = (0 : Int32)) => ?_) (fun (cd57 : ¬ (z &&& (16 : Int32)) = (0 : Int32)) => ?_)
      · skip
        refine k_aconstNull at_138 rfl ?_
        refine k_astore (Ls' := #[.val (.int x), .val (.int y), .val (.int z), .val (.int n1), .val (.int c0), .val (.int c1), .val (.int n2), .val (.int d0), .val (.int d1), .val (.ref a107), .val (.ref a113), .val (.ref a107), .val (.ref a140), .val .null, .unset, .unset, .unset, .unset, .unset, .unset, .unset, .unset, .unset]) at_139 rfl rfl rfl ?_
        refine k_iloadN at_141 rfl rfl ?_
        refine k_bipush (z := (32 : Int32)) at_142 rfl (by decide) ?_
        refine k_iand at_144 rfl ?_
        refine k_ifc (pc1 := 153) (pc' := 148) at_145 (by decide) (by decide) rfl (fun (cd58 : (z &&& (32 : Int32)) = (0 : Int32)) => ?_) (fun (cd58 : ¬ (z &&& (32 : Int32)) = (0 : Int32)) => ?_)
        · skip
          refine k_aconstNull at_153 rfl ?_
          refine k_astore (Ls' := #[.val (.int x), .val (.int y), .val (.int z), .val (.int n1), .val (.int c0), .val (.int c1), .val (.int n2), .val (.int d0), .val (.int d1), .val (.ref a107), .val (.ref a113), .val (.ref a107), .val (.ref a140), .val .null, .val .null, .unset, .unset, .unset, .unset, .unset, .unset, .unset, .unset]) at_154 rfl rfl rfl ?_
          refine KW.more (k' := 14) (n' := 40) (by decide) (by decide) ?_
          have f143 := ((f111.keep K115 all0).ext E142)
          have f144 := ((SG110.keep K115 nin0 nin0).ext E142)
          have f145 := (SG116.ext E142)
          exact kw_156 l Z a0 hw cs hcs SC hEW x y z n1 c0 c1 n2 d0 d1 a107 t108 a113 t114 (Value.ref a107) (Value.ref a140) Value.null Value.null rfl rfl rfl rfl h141 n0 f143 f144 f145 hn1 hn2 hc0 hc1 hd0 hd1
        · skip
          refine k_aload at_148 rfl rfl rfl ?_
          refine k_goto (pc' := 154) at_150 (by decide) (by decide) ?_
          refine k_astore (Ls' := #[.val (.int x), .val (.int y), .val (.int z), .val (.int n1), .val (.int c0), .val (.int c1), .val (.int n2), .val (.int d0), .val (.int d1), .val (.ref a107), .val (.ref a113), .val (.ref a107), .val (.ref a140), .val .null, .val (.ref a107), .unset, .unset, .unset, .unset, .unset, .unset, .unset, .unset]) at_154 rfl rfl rfl ?_
          refine KW.more (k' := 14) (n' := 40) (by decide) (by decide) ?_
          have f146 := ((f111.keep K115 all0).ext E142)
          have f147 := ((SG110.keep K115 nin0 nin0).ext E142)
          have f148 := (SG116.ext E142)
          exact kw_156 l Z a0 hw cs hcs SC hEW x y z n1 c0 c1 n2 d0 d1 a107 t108 a113 t114 (Value.ref a107) (Value.ref a140) Value.null (Value.ref a107) rfl rfl rfl rfl h141 n0 f146 f147 f148 hn1 hn2 hc0 hc1 hd0 hd1
      · skip
        refine k_aload at_133 rfl rfl rfl ?_
        refine k_goto (pc' := 139) at_135 (by decide) (by decide) ?_
        refine k_astore (Ls' := #[.val (.int x), .val (.int y), .val (.int z), .val (.int n1), .val (.int c0), .val (.int c1), .val (.int n2), .val (.int d0), .val (.int d1), .val (.ref a107), .val (.ref a113), .val (.ref a107), .val (.ref a140), .val (.ref a107), .unset, .unset, .unset, .unset, .unset, .unset, .unset, .unset, .unset]) at_139 rfl rfl rfl ?_
        refine k_iloadN at_141 rfl rfl ?_
        refine k_bipush (z := (32 : Int32)) at_142 rfl (by decide) ?_
        refine k_iand at_144 rfl ?_
        refine k_ifc (pc1 := 153) (pc' := 148) at_145 (by decide) (by decide) rfl (fun (cd59 : (z &&& (32 : Int32)) = (0 : Int32)) => ?_) (fun (cd59 : ¬ (z &&& (32 : Int32)) = (0 : Int32)) => ?_)
        · skip
          refine k_aconstNull at_153 rfl ?_
          refine k_astore (Ls' := #[.val (.int x), .val (.int y), .val (.int z), .val (.int n1), .val (.int c0), .val (.int c1), .val (.int n2), .val (.int d0), .val (.int d1), .val (.ref a107), .val (.ref a113), .val (.ref a107), .val (.ref a140), .val (.ref a107), .val .null, .unset, .unset, .unset, .unset, .unset, .unset, .unset, .unset]) at_154 rfl rfl rfl ?_
          refine KW.more (k' := 14) (n' := 40) (by decide) (by decide) ?_
          have f149 := ((f111.keep K115 all0).ext E142)
          have f150 := ((SG110.keep K115 nin0 nin0).ext E142)
          have f151 := (SG116.ext E142)
          exact kw_156 l Z a0 hw cs hcs SC hEW x y z n1 c0 c1 n2 d0 d1 a107 t108 a113 t114 (Value.ref a107) (Value.ref a140) (Value.ref a107) Value.null rfl rfl rfl rfl h141 n0 f149 f150 f151 hn1 hn2 hc0 hc1 hd0 hd1
        · skip
          refine k_aload at_148 rfl rfl rfl ?_
          refine k_goto (pc' := 154) at_150 (by decide) (by decide) ?_
          refine k_astore (Ls' := #[.val (.int x), .val (.int y), .val (.int z), .val (.int n1), .val (.int c0), .val (.int c1), .val (.int n2), .val (.int d0), .val (.int d1), .val (.ref a107), .val (.ref a113), .val (.ref a107), .val (.ref a140), .val (.ref a107), .val (.ref a107), .unset, .unset, .unset, .unset, .unset, .unset, .unset, .unset]) at_154 rfl rfl rfl ?_
          refine KW.more (k' := 14) (n' := 40) (by decide) (by decide) ?_
          have f152 := ((f111.keep K115 all0).ext E142)
          have f153 := ((SG110.keep K115 nin0 nin0).ext E142)
          have f154 := (SG116.ext E142)
          exact kw_156 l Z a0 hw cs hcs SC hEW x y z n1 c0 c1 n2 d0 d1 a107 t108 a113 t114 (Value.ref a107) (Value.ref a140) (Value.ref a107) (Value.ref a107) rfl rfl rfl rfl h141 n0 f152 f153 f154 hn1 hn2 hc0 hc1 hd0 hd1
    · skip
      refine k_aload at_117 rfl rfl rfl ?_
      refine k_goto (pc' := 124) at_119 (by decide) (by decide) ?_
      refine k_astore (Ls' := #[.val (.int x), .val (.int y), .val (.int z), .val (.int n1), .val (.int c0), .val (.int c1), .val (.int n2), .val (.int d0), .val (.int d1), .val (.ref a107), .val (.ref a113), .val (.ref a107), .val (.ref a107), .unset, .unset, .unset, .unset, .unset, .unset, .unset, .unset, .unset, .unset]) at_124 rfl rfl rfl ?_
      refine k_iloadN at_126 rfl rfl ?_
      refine k_bipush (z := (16 : Int32)) at_127 rfl (by decide) ?_
      refine k_iand at_129 rfl ?_
      refine k_ifc (pc1 := 138) (pc' := 133) at_130 (by decide) (by decide) rfl (fun (cd60 : (z &&& (16 : Int32)) = (0 : Int32)) => ?_) (fun (cd60 : ¬ (z &&& (16 : Int32)) = (0 : Int32)) => ?_)
      · skip
        refine k_aconstNull at_138 rfl ?_
        refine k_astore (Ls' := #[.val (.int x), .val (.int y), .val (.int z), .val (.int n1), .val (.int c0), .val (.int c1), .val (.int n2), .val (.int d0), .val (.int d1), .val (.ref a107), .val (.ref a113), .val (.ref a107), .val (.ref a107), .val .null, .unset, .unset, .unset, .unset, .unset, .unset, .unset, .unset, .unset]) at_139 rfl rfl rfl ?_
        refine k_iloadN at_141 rfl rfl ?_
        refine k_bipush (z := (32 : Int32)) at_142 rfl (by decide) ?_
        refine k_iand at_144 rfl ?_
        refine k_ifc (pc1 := 153) (pc' := 148) at_145 (by decide) (by decide) rfl (fun (cd61 : (z &&& (32 : Int32)) = (0 : Int32)) => ?_) (fun (cd61 : ¬ (z &&& (32 : Int32)) = (0 : Int32)) => ?_)
        · skip
          refine k_aconstNull at_153 rfl ?_
          refine k_astore (Ls' := #[.val (.int x), .val (.int y), .val (.int z), .val (.int n1), .val (.int c0), .val (.int c1), .val (.int n2), .val (.int d0), .val (.int d1), .val (.ref a107), .val (.ref a113), .val (.ref a107), .val (.ref a107), .val .null, .val .null, .unset, .unset, .unset, .unset, .unset, .unset, .unset, .unset]) at_154 rfl rfl rfl ?_
          refine KW.more (k' := 14) (n' := 40) (by decide) (by decide) ?_
          have f155 := (f111.keep K115 all0)
          have f156 := (SG110.keep K115 nin0 nin0)
          exact kw_156 l Z a0 hw cs hcs SC hEW x y z n1 c0 c1 n2 d0 d1 a107 t108 a113 t114 (Value.ref a107) (Value.ref a107) Value.null Value.null rfl rfl rfl rfl h112 n0 f155 f156 SG116 hn1 hn2 hc0 hc1 hd0 hd1
        · skip
          refine k_aload at_148 rfl rfl rfl ?_
          refine k_goto (pc' := 154) at_150 (by decide) (by decide) ?_
          refine k_astore (Ls' := #[.val (.int x), .val (.int y), .val (.int z), .val (.int n1), .val (.int c0), .val (.int c1), .val (.int n2), .val (.int d0), .val (.int d1), .val (.ref a107), .val (.ref a113), .val (.ref a107), .val (.ref a107), .val .null, .val (.ref a107), .unset, .unset, .unset, .unset, .unset, .unset, .unset, .unset]) at_154 rfl rfl rfl ?_
          refine KW.more (k' := 14) (n' := 40) (by decide) (by decide) ?_
          have f157 := (f111.keep K115 all0)
          have f158 := (SG110.keep K115 nin0 nin0)
          exact kw_156 l Z a0 hw cs hcs SC hEW x y z n1 c0 c1 n2 d0 d1 a107 t108 a113 t114 (Value.ref a107) (Value.ref a107) Value.null (Value.ref a107) rfl rfl rfl rfl h112 n0 f157 f158 SG116 hn1 hn2 hc0 hc1 hd0 hd1
      · skip
        refine k_aload at_133 rfl rfl rfl ?_
        refine k_goto (pc' := 139) at_135 (by decide) (by decide) ?_
        refine k_astore (Ls' := #[.val (.int x), .val (.int y), .val (.int z), .val (.int n1), .val (.int c0), .val (.int c1), .val (.int n2), .val (.int d0), .val (.int d1), .val (.ref a107), .val (.ref a113), .val (.ref a107), .val (.ref a107), .val (.ref a107), .unset, .unset, .unset, .unset, .unset, .unset, .unset, .unset, .unset]) at_139 rfl rfl rfl ?_
        refine k_iloadN at_141 rfl rfl ?_
        refine k_bipush (z := (32 : Int32)) at_142 rfl (by decide) ?_
        refine k_iand at_144 rfl ?_
        refine k_ifc (pc1 := 153) (pc' := 148) at_145 (by decide) (by decide) rfl (fun (cd62 : (z &&& (32 : Int32)) = (0 : Int32)) => ?_) (fun (cd62 : ¬ (z &&& (32 : Int32)) = (0 : Int32)) => ?_)
        · skip
          refine k_aconstNull at_153 rfl ?_
          refine k_astore (Ls' := #[.val (.int x), .val (.int y), .val (.int z), .val (.int n1), .val (.int c0), .val (.int c1), .val (.int n2), .val (.int d0), .val (.int d1), .val (.ref a107), .val (.ref a113), .val (.ref a107), .val (.ref a107), .val (.ref a107), .val .null, .unset, .unset, .unset, .unset, .unset, .unset, .unset, .unset]) at_154 rfl rfl rfl ?_
          refine KW.more (k' := 14) (n' := 40) (by decide) (by decide) ?_
          have f159 := (f111.keep K115 all0)
          have f160 := (SG110.keep K115 nin0 nin0)
          exact kw_156 l Z a0 hw cs hcs SC hEW x y z n1 c0 c1 n2 d0 d1 a107 t108 a113 t114 (Value.ref a107) (Value.ref a107) (Value.ref a107) Value.null rfl rfl rfl rfl h112 n0 f159 f160 SG116 hn1 hn2 hc0 hc1 hd0 hd1
        · skip
          refine k_aload at_148 rfl rfl rfl ?_
          refine k_goto (pc' := 154) at_150 (by decide) (by decide) ?_
          refine k_astore (Ls' := #[.val (.int x), .val (.int y), .val (.int z), .val (.int n1), .val (.int c0), .val (.int c1), .val (.int n2), .val (.int d0), .val (.int d1), .val (.ref a107), .val (.ref a113), .val (.ref a107), .val (.ref a107), .val (.ref a107), .val (.ref a107), .unset, .unset, .unset, .unset, .unset, .unset, .unset, .unset]) at_154 rfl rfl rfl ?_
          refine KW.more (k' := 14) (n' := 40) (by decide) (by decide) ?_
          have f161 := (f111.keep K115 all0)
          have f162 := (SG110.keep K115 nin0 nin0)
          exact kw_156 l Z a0 hw cs hcs SC hEW x y z n1 c0 c1 n2 d0 d1 a107 t108 a113 t114 (Value.ref a107) (Value.ref a107) (Value.ref a107) (Value.ref a107) rfl rfl rfl rfl h112 n0 f161 f162 SG116 hn1 hn2 hc0 hc1 hd0 hd1
set_option maxRecDepth 65536 in
set_option maxHeartbeats 40000000 in
theorem kw_law (l : Launch) (Z : State) (a0 : Array Value) (hw : ∀ d ∈ tables_1, d.before a0 Z = true) (cs : Int32) (hcs : ¬ cs = 0) (SC : Sta Z Z.heap "java/lang/String" "COMPACT_STRINGS" "Z" (.int cs)) (hEW : EW Z a0 EL) (x y z : Int32) (h0 : Heap) (n0 : Nat) (OD : Old Z n0 h0) : KW true l Z M_law n0 (fun v _ => v = some (.int 1)) (EL, fun _ => False) h0 0 0 0 #[.val (.int x), .val (.int y), .val (.int z), .unset, .unset, .unset, .unset, .unset, .unset, .unset, .unset, .unset, .unset, .unset, .unset, .unset, .unset, .unset, .unset, .unset, .unset, .unset, .unset] [] := by
  refine k_iloadN at_0 rfl rfl ?_
  refine k_iconst (z := (3 : Int32)) at_1 rfl (by decide) ?_
  refine k_iand at_2 rfl ?_
  refine k_iconst (z := (3 : Int32)) at_3 rfl (by decide) ?_
  refine k_irem at_4 rfl (by decide) ?_
  refine k_istoreN (Ls' := #[.val (.int x), .val (.int y), .val (.int z), .val (.int ((x &&& (3 : Int32)) % (3 : Int32))), .unset, .unset, .unset, .unset, .unset, .unset, .unset, .unset, .unset, .unset, .unset, .unset, .unset, .unset, .unset, .unset, .unset, .unset, .unset]) at_5 rfl rfl ?_
  refine k_iloadN at_6 rfl rfl ?_
  refine k_iconst (z := (2 : Int32)) at_7 rfl (by decide) ?_
  refine k_iushr at_8 rfl ?_
  refine k_sipush (z := (255 : Int32)) at_9 rfl (by decide) ?_
  refine k_iand at_12 rfl ?_
  refine k_i2c at_13 rfl ?_
  refine k_istore (Ls' := #[.val (.int x), .val (.int y), .val (.int z), .val (.int ((x &&& (3 : Int32)) % (3 : Int32))), .val (.int (UInt32.toInt32 (UInt16.toUInt32 (UInt32.toUInt16 (Int32.toUInt32 ((UInt32.toInt32 (Int32.toUInt32 x >>> Int32.toUInt32 ((2 : Int32) &&& 31))) &&& (255 : Int32))))))), .unset, .unset, .unset, .unset, .unset, .unset, .unset, .unset, .unset, .unset, .unset, .unset, .unset, .unset, .unset, .unset, .unset, .unset]) at_14 rfl rfl ?_
  refine k_iloadN at_16 rfl rfl ?_
  refine k_bipush (z := (10 : Int32)) at_17 rfl (by decide) ?_
  refine k_iushr at_19 rfl ?_
  refine k_sipush (z := (255 : Int32)) at_20 rfl (by decide) ?_
  refine k_iand at_23 rfl ?_
  refine k_i2c at_24 rfl ?_
  refine k_istore (Ls' := #[.val (.int x), .val (.int y), .val (.int z), .val (.int ((x &&& (3 : Int32)) % (3 : Int32))), .val (.int (UInt32.toInt32 (UInt16.toUInt32 (UInt32.toUInt16 (Int32.toUInt32 ((UInt32.toInt32 (Int32.toUInt32 x >>> Int32.toUInt32 ((2 : Int32) &&& 31))) &&& (255 : Int32))))))), .val (.int (UInt32.toInt32 (UInt16.toUInt32 (UInt32.toUInt16 (Int32.toUInt32 ((UInt32.toInt32 (Int32.toUInt32 x >>> Int32.toUInt32 ((10 : Int32) &&& 31))) &&& (255 : Int32))))))), .unset, .unset, .unset, .unset, .unset, .unset, .unset, .unset, .unset, .unset, .unset, .unset, .unset, .unset, .unset, .unset, .unset]) at_25 rfl rfl ?_
  refine k_iloadN at_27 rfl rfl ?_
  refine k_iconst (z := (1 : Int32)) at_28 rfl (by decide) ?_
  refine k_iand at_29 rfl ?_
  refine k_ifc (pc1 := 47) (pc' := 33) at_30 (by decide) (by decide) rfl (fun (cd63 : (z &&& (1 : Int32)) = (0 : Int32)) => ?_) (fun (cd63 : ¬ (z &&& (1 : Int32)) = (0 : Int32)) => ?_)
  · skip
    refine k_iloadN at_47 rfl rfl ?_
    refine k_iconst (z := (3 : Int32)) at_48 rfl (by decide) ?_
    refine k_iand at_49 rfl ?_
    refine k_iconst (z := (3 : Int32)) at_50 rfl (by decide) ?_
    refine k_irem at_51 rfl (by decide) ?_
    refine k_istore (Ls' := #[.val (.int x), .val (.int y), .val (.int z), .val (.int ((x &&& (3 : Int32)) % (3 : Int32))), .val (.int (UInt32.toInt32 (UInt16.toUInt32 (UInt32.toUInt16 (Int32.toUInt32 ((UInt32.toInt32 (Int32.toUInt32 x >>> Int32.toUInt32 ((2 : Int32) &&& 31))) &&& (255 : Int32))))))), .val (.int (UInt32.toInt32 (UInt16.toUInt32 (UInt32.toUInt16 (Int32.toUInt32 ((UInt32.toInt32 (Int32.toUInt32 x >>> Int32.toUInt32 ((10 : Int32) &&& 31))) &&& (255 : Int32))))))), .val (.int ((y &&& (3 : Int32)) % (3 : Int32))), .unset, .unset, .unset, .unset, .unset, .unset, .unset, .unset, .unset, .unset, .unset, .unset, .unset, .unset, .unset, .unset]) at_52 rfl rfl ?_
    refine k_iloadN at_54 rfl rfl ?_
    refine k_iconst (z := (2 : Int32)) at_55 rfl (by decide) ?_
    refine k_iushr at_56 rfl ?_
    refine k_sipush (z := (255 : Int32)) at_57 rfl (by decide) ?_
    refine k_iand at_60 rfl ?_
    refine k_i2c at_61 rfl ?_
    refine k_istore (Ls' := #[.val (.int x), .val (.int y), .val (.int z), .val (.int ((x &&& (3 : Int32)) % (3 : Int32))), .val (.int (UInt32.toInt32 (UInt16.toUInt32 (UInt32.toUInt16 (Int32.toUInt32 ((UInt32.toInt32 (Int32.toUInt32 x >>> Int32.toUInt32 ((2 : Int32) &&& 31))) &&& (255 : Int32))))))), .val (.int (UInt32.toInt32 (UInt16.toUInt32 (UInt32.toUInt16 (Int32.toUInt32 ((UInt32.toInt32 (Int32.toUInt32 x >>> Int32.toUInt32 ((10 : Int32) &&& 31))) &&& (255 : Int32))))))), .val (.int ((y &&& (3 : Int32)) % (3 : Int32))), .val (.int (UInt32.toInt32 (UInt16.toUInt32 (UInt32.toUInt16 (Int32.toUInt32 ((UInt32.toInt32 (Int32.toUInt32 y >>> Int32.toUInt32 ((2 : Int32) &&& 31))) &&& (255 : Int32))))))), .unset, .unset, .unset, .unset, .unset, .unset, .unset, .unset, .unset, .unset, .unset, .unset, .unset, .unset, .unset]) at_62 rfl rfl ?_
    refine k_iloadN at_64 rfl rfl ?_
    refine k_bipush (z := (10 : Int32)) at_65 rfl (by decide) ?_
    refine k_iushr at_67 rfl ?_
    refine k_sipush (z := (255 : Int32)) at_68 rfl (by decide) ?_
    refine k_iand at_71 rfl ?_
    refine k_i2c at_72 rfl ?_
    refine k_istore (Ls' := #[.val (.int x), .val (.int y), .val (.int z), .val (.int ((x &&& (3 : Int32)) % (3 : Int32))), .val (.int (UInt32.toInt32 (UInt16.toUInt32 (UInt32.toUInt16 (Int32.toUInt32 ((UInt32.toInt32 (Int32.toUInt32 x >>> Int32.toUInt32 ((2 : Int32) &&& 31))) &&& (255 : Int32))))))), .val (.int (UInt32.toInt32 (UInt16.toUInt32 (UInt32.toUInt16 (Int32.toUInt32 ((UInt32.toInt32 (Int32.toUInt32 x >>> Int32.toUInt32 ((10 : Int32) &&& 31))) &&& (255 : Int32))))))), .val (.int ((y &&& (3 : Int32)) % (3 : Int32))), .val (.int (UInt32.toInt32 (UInt16.toUInt32 (UInt32.toUInt16 (Int32.toUInt32 ((UInt32.toInt32 (Int32.toUInt32 y >>> Int32.toUInt32 ((2 : Int32) &&& 31))) &&& (255 : Int32))))))), .val (.int (UInt32.toInt32 (UInt16.toUInt32 (UInt32.toUInt16 (Int32.toUInt32 ((UInt32.toInt32 (Int32.toUInt32 y >>> Int32.toUInt32 ((10 : Int32) &&& 31))) &&& (255 : Int32))))))), .unset, .unset, .unset, .unset, .unset, .unset, .unset, .unset, .unset, .unset, .unset, .unset, .unset, .unset]) at_73 rfl rfl ?_
    exact kw_75 l Z a0 hw cs hcs SC hEW x y z _ _ _ _ _ _ h0 n0 OD (own_n3 _) (own_n3 _) (own_ch _) (own_ch _) (own_ch _) (own_ch _)
  · skip
    refine k_iloadN at_33 rfl rfl ?_
    refine k_istore (Ls' := #[.val (.int x), .val (.int y), .val (.int z), .val (.int ((x &&& (3 : Int32)) % (3 : Int32))), .val (.int (UInt32.toInt32 (UInt16.toUInt32 (UInt32.toUInt16 (Int32.toUInt32 ((UInt32.toInt32 (Int32.toUInt32 x >>> Int32.toUInt32 ((2 : Int32) &&& 31))) &&& (255 : Int32))))))), .val (.int (UInt32.toInt32 (UInt16.toUInt32 (UInt32.toUInt16 (Int32.toUInt32 ((UInt32.toInt32 (Int32.toUInt32 x >>> Int32.toUInt32 ((10 : Int32) &&& 31))) &&& (255 : Int32))))))), .val (.int ((x &&& (3 : Int32)) % (3 : Int32))), .unset, .unset, .unset, .unset, .unset, .unset, .unset, .unset, .unset, .unset, .unset, .unset, .unset, .unset, .unset, .unset]) at_34 rfl rfl ?_
    refine k_iload at_36 rfl rfl ?_
    refine k_istore (Ls' := #[.val (.int x), .val (.int y), .val (.int z), .val (.int ((x &&& (3 : Int32)) % (3 : Int32))), .val (.int (UInt32.toInt32 (UInt16.toUInt32 (UInt32.toUInt16 (Int32.toUInt32 ((UInt32.toInt32 (Int32.toUInt32 x >>> Int32.toUInt32 ((2 : Int32) &&& 31))) &&& (255 : Int32))))))), .val (.int (UInt32.toInt32 (UInt16.toUInt32 (UInt32.toUInt16 (Int32.toUInt32 ((UInt32.toInt32 (Int32.toUInt32 x >>> Int32.toUInt32 ((10 : Int32) &&& 31))) &&& (255 : Int32))))))), .val (.int ((x &&& (3 : Int32)) % (3 : Int32))), .val (.int (UInt32.toInt32 (UInt16.toUInt32 (UInt32.toUInt16 (Int32.toUInt32 ((UInt32.toInt32 (Int32.toUInt32 x >>> Int32.toUInt32 ((2 : Int32) &&& 31))) &&& (255 : Int32))))))), .unset, .unset, .unset, .unset, .unset, .unset, .unset, .unset, .unset, .unset, .unset, .unset, .unset, .unset, .unset]) at_38 rfl rfl ?_
    refine k_iload at_40 rfl rfl ?_
    refine k_istore (Ls' := #[.val (.int x), .val (.int y), .val (.int z), .val (.int ((x &&& (3 : Int32)) % (3 : Int32))), .val (.int (UInt32.toInt32 (UInt16.toUInt32 (UInt32.toUInt16 (Int32.toUInt32 ((UInt32.toInt32 (Int32.toUInt32 x >>> Int32.toUInt32 ((2 : Int32) &&& 31))) &&& (255 : Int32))))))), .val (.int (UInt32.toInt32 (UInt16.toUInt32 (UInt32.toUInt16 (Int32.toUInt32 ((UInt32.toInt32 (Int32.toUInt32 x >>> Int32.toUInt32 ((10 : Int32) &&& 31))) &&& (255 : Int32))))))), .val (.int ((x &&& (3 : Int32)) % (3 : Int32))), .val (.int (UInt32.toInt32 (UInt16.toUInt32 (UInt32.toUInt16 (Int32.toUInt32 ((UInt32.toInt32 (Int32.toUInt32 x >>> Int32.toUInt32 ((2 : Int32) &&& 31))) &&& (255 : Int32))))))), .val (.int (UInt32.toInt32 (UInt16.toUInt32 (UInt32.toUInt16 (Int32.toUInt32 ((UInt32.toInt32 (Int32.toUInt32 x >>> Int32.toUInt32 ((10 : Int32) &&& 31))) &&& (255 : Int32))))))), .unset, .unset, .unset, .unset, .unset, .unset, .unset, .unset, .unset, .unset, .unset, .unset, .unset, .unset]) at_42 rfl rfl ?_
    refine k_goto (pc' := 75) at_44 (by decide) (by decide) ?_
    exact kw_75 l Z a0 hw cs hcs SC hEW x y z _ _ _ _ _ _ h0 n0 OD (own_n3 _) (own_n3 _) (own_ch _) (own_ch _) (own_ch _) (own_ch _)
set_option maxRecDepth 65536 in
set_option maxHeartbeats 40000000 in
theorem comes_1 {Post : Tables → Env → Array Value → State → Outcome → State → Prop} (hpost : ∀ tb e args s v u, (limb_1_1.after args s (.returned v) u = true ∧ limb_1_2.after args s (.returned v) u = true ∧ True) → FramedW s (.returned v) u (Jvm.fieldLocs frame_1_writes args s ++ Jvm.arrayLocs frame_1_arrays args s ++ Jvm.staticLocs frame_1_statics s) 32 2240 → Post tb e args s (.returned v) u) :
    ArmFor flags0 classFile x code maxLocals ret World_1 tables_1 room_1 Calls_1 rest_1 Pre_1 Post := by
  intro l hfl _ _ p e ha hc hk s m args below hf hA hF happ hP
  obtain ⟨hcalls, hrest, hpre⟩ := hP
  obtain ⟨-, -, -, hnamed, -, -, -, hat⟩ := (Spec.applies_iff hf).mp happ
  obtain ⟨hg, hn⟩ := and_e (Cond.before_iff.mp (show (Jvm.Cond.and given_1 narrow_1).before args s = true from hpre))
  obtain ⟨hcount, g0⟩ := and_e hg
  obtain ⟨g0, g1⟩ := and_e g0
  obtain ⟨g1, g2⟩ := and_e g1
  obtain ⟨w0, w1, w2, rfl⟩ : ∃ w0 w1 w2 : Value, args = #[w0, w1, w2] := by
    have hs : args.size = 3 := by simpa [Cond.value, given_1] using hcount
    obtain ⟨L⟩ := args
    match L, hs with
    | [w0, w1, w2], _ => exact ⟨w0, w1, w2, rfl⟩
  have hw := fun d (hd : d ∈ tables_1) => atoms_spec (ws := Jvm.Cond.code x code maxLocals ret :: tables_1) hat d (List.mem_cons_of_mem _ hd)
  obtain ⟨x0, e0⟩ := is_v g0
  obtain rfl : w0 = (.int x0) := Option.some.inj e0
  obtain ⟨x1, e1⟩ := is_v g1
  obtain rfl : w1 = (.int x1) := Option.some.inj e1
  obtain ⟨x2, e2⟩ := is_v g2
  obtain rfl : w2 = (.int x2) := Option.some.inj e2
  have q0 := Cond.before_iff.mp (show rest_1_c.before _ s = true from hrest)
  obtain ⟨r0, q1⟩ := and_e q0
  obtain ⟨r1, q2⟩ := and_e q1
  obtain ⟨r2, q3⟩ := and_e q2
  obtain ⟨r3, q4⟩ := and_e q3
  obtain ⟨r4, q5⟩ := and_e q4
  obtain ⟨r5, q6⟩ := and_e q5
  obtain ⟨r6, q7⟩ := and_e q6
  obtain ⟨r7, q8⟩ := and_e q7
  obtain ⟨r8, q9⟩ := and_e q8
  obtain ⟨cs, ecs⟩ := is_v r1
  have SC : Sta s s.heap "java/lang/String" "COMPACT_STRINGS" "Z" (.int cs) := Sta.start ecs (Or.inl (Cond.before_iff.mpr r0))
  have hcs : ¬ cs = (0 : Int32) := gotF (Cond.eq_ints ecs (Term.int_eval (0))) (not_v r2)
  have hEW : EW s _ EL := (EW.cons (hw _ (List.mem_of_getElem? (i := 26) rfl)) (by decide) (EW.cons (hw _ (List.mem_of_getElem? (i := 18) rfl)) (by decide) EW.nil))
  have hCH : CHv s EL s.vm s.heap := CHv.start hEW (fun p hp => hcalls.1 p hp) (Cond.before_iff.mpr r2) (hw _ (List.mem_of_getElem? (i := 19) rfl)) (hw _ (List.mem_of_getElem? (i := 5) rfl))
  obtain ⟨n, o, h1, h2, h3, _, L, rfl, ⟨N, -, rfl⟩, -, hq⟩ := mtw_of_kw (a0 := _) (ws := tables_1) (P := (EL, fun _ => False)) pf_law hEW (fun m => by first | (simp [entryFrame, mkF, argsToLocals, Value.category, maxLocals]; done) | rfl) (kw_law l s _ hw cs hcs SC hEW x0 x1 x2 s.heap s.heap.size (Old.start s)) p e ha hc hk s m _ below hf ((Spec.applies_iff_loose hf).mp happ).1 ⟨rfl, State.Warmed39.refl s, rfl, hCH, fun _ hx => hx.elim⟩ trivial
  refine ⟨n, _, h1, h2, h3, hpost _ _ _ _ _ _ ⟨Cond.after_iff.mpr rfl, Cond.after_iff.mpr (eq_i res_at (Term.int_eval (1)) rfl), trivial⟩ ⟨hq.1, hq.2.1, hq.2.2.1, (hq.2.2.2.sift fun y hy => Or.inr (N y hy)).mono (by decide) (by decide)⟩⟩
theorem main_1_1 : Claimed_1_1 := comes_1 fun _ _ _ _ _ _ h hF => ⟨h.1, hF⟩
theorem main_1_2 : Claimed_1_2 := comes_1 fun _ _ _ _ _ _ h hF => ⟨h.2.1, hF⟩
end Jvm.Pilot.@@N@@
namespace Jvm.Pilot.@@N@@
open Jvm Jvm.ClassFile Sem Op Lib Jvm.Free Jvm.Stand Jvm.Pilot.@@N@@.Jvm.D
/-! MADE BY PROGRAM (witnessworld.py) out of the Statement's table words and the real class files: 20 classes; the members and pool entries that the words name. The judged class is class 1, her method 2. -/
namespace start1
open Jvm.ClassFile
def u (s : String) : CpInfo := .utf8 (stringToUtf16 s)
/-- a pool by its gaps: so many unusable entries, then the entry; so many at the end -/
def gap : Nat → List CpInfo → List CpInfo
  | 0, r => r
  | n + 1, r => .unusable :: gap n r
def poolList (es : List (Nat × CpInfo)) (last : Nat) : List CpInfo := es.foldr (fun e r => gap e.1 (e.2 :: r)) (gap last [])
def pool (es : List (Nat × CpInfo)) (last : Nat) : Array CpInfo := ⟨poolList es last⟩
def fileOf (pool : Array CpInfo) (this : Nat) (attrs : Array Attribute := #[]) (ms : Array MethodInfo := #[]) (fl : Nat := 33) (sup : Nat := 0) (ifs : Array Nat := #[]) (fds : Array FieldInfo := #[]) : ClassFile where
  minorVersion := 0
  majorVersion := 65
  constantPool := pool
  accessFlags := fl
  thisClass := this
  superClass := sup
  interfaces := ifs
  fields := fds
  methods := ms
  attributes := attrs
def plain (name : String) (sup : Option ClassId) : Class where
  name := name
  kind := .ordinary
  loader := none
  accessFlags := 33
  super := sup
  interfaces := #[]
  cf := none
  fields := #[]
  methods := #[]
  instanceTypes := #[]
  staticTypes := #[]
  resolved := #[]
  callSites := []
  init := .initialized
  statics := none
  mirror := none

def pool0 : Array CpInfo := pool [(5, u "<init>"), (0, u "()V"), (1, .class_ 10), (1, u "java/lang/Object")] 113

def k0c0 : Code := { maxStack := 0, maxLocals := 1, code := object_method_1_code, exceptionTable := #[], attributes := #[] }
def k0m0 : Method := { name := "<init>", desc := "()V", sig := { parameters := [], returnType := none }, accessFlags := 1, code := some k0c0 }
/-- java/lang/Object -/
def k0 : Class := { plain "java/lang/Object" none with
  accessFlags := 33
  interfaces := #[]
  cf := some (fileOf pool0 8 #[] #[{ accessFlags := 1, nameIndex := 5, descriptorIndex := 6, attributes := #[] }] 33 0 #[] #[])
  fields := #[]
  methods := #[k0m0]
  instanceTypes := #[]
  staticTypes := #[]
  resolved := Array.replicate 124 none
  statics := none }

def pool1 : Array CpInfo := pool [(2, .class_ 4), (1, u "java/lang/Object"), (0, u "<init>"), (0, u "()V"), (0, .class_ 8), (0, u "java/lang/String"), (0, .methodref 7 10), (0, .nameAndType 5 11), (0, u "([C)V"), (0, .methodref 7 13), (0, .nameAndType 14 15), (0, u "valueOf"), (0, u "(C)Ljava/lang/String;"), (0, .methodref 17 18), (0, .class_ 19), (0, .nameAndType 20 21), (0, u "com/example/liburiref/liburiref/UriReferenceEqualsPinLaw"), (0, u "text"), (0, u "(ICC)Ljava/lang/String;"), (0, .string 23), (0, u ""), (0, .class_ 25), (0, u "com/example/liburiref/liburiref/UriReference"), (0, .methodref 24 27), (0, .nameAndType 5 28), (0, u "(Ljava/lang/String;Ljava/lang/String;Ljava/lang/String;Ljava/lang/String;Ljava/lang/String;Ljava/lang/String;Ljava/lang/String;Ljava/lang/String;)V"), (0, .methodref 24 30), (0, .nameAndType 31 32), (0, u "equals"), (0, u "(Ljava/lang/Object;)Z"), (3, u "law"), (0, u "(III)Z")] 2

def k1m0 : Method := { name := "<init>", desc := "()V", sig := { parameters := [], returnType := none }, accessFlags := 1, code := none }
def k1c1 : Code := { maxStack := 6, maxLocals := 3, code := method_2_code, exceptionTable := #[], attributes := #[] }
def k1m1 : Method := { name := "text", desc := "(ICC)Ljava/lang/String;", sig := { parameters := [.int, .char, .char], returnType := some (.object "java/lang/String") }, accessFlags := 10, code := some k1c1 }
def k1c2 : Code := { maxStack := 10, maxLocals := 23, code := code, exceptionTable := #[], attributes := #[] }
def k1m2 : Method := { name := "law", desc := "(III)Z", sig := { parameters := [.int, .int, .int], returnType := some .boolean }, accessFlags := 9, code := some k1c2 }
/-- com/example/liburiref/liburiref/UriReferenceEqualsPinLaw -/
def k1 : Class := { plain "com/example/liburiref/liburiref/UriReferenceEqualsPinLaw" (some 0) with
  accessFlags := 49
  interfaces := #[]
  cf := some (fileOf pool1 17 #[] #[{ accessFlags := 1, nameIndex := 5, descriptorIndex := 6, attributes := #[] }, { accessFlags := 10, nameIndex := 20, descriptorIndex := 21, attributes := #[] }, { accessFlags := 9, nameIndex := 36, descriptorIndex := 37, attributes := #[] }] 49 2 #[] #[])
  fields := #[]
  methods := #[k1m0, k1m1, k1m2]
  instanceTypes := #[]
  staticTypes := #[]
  resolved := Array.replicate 40 none
  statics := none }

def pool2 : Array CpInfo := pool [(1, .class_ 2), (0, u "java/io/Serializable"), (0, .class_ 4), (0, u "java/lang/Object")] 2

/-- java/io/Serializable -/
def k2 : Class := { plain "java/io/Serializable" (some 0) with
  accessFlags := 1537
  interfaces := #[]
  cf := some (fileOf pool2 1 #[] #[] 1537 3 #[] #[])
  fields := #[]
  methods := #[]
  instanceTypes := #[]
  staticTypes := #[]
  resolved := Array.replicate 7 none
  statics := none }

def pool3 : Array CpInfo := pool [(1, .class_ 2), (0, u "java/lang/Comparable"), (0, .class_ 4), (0, u "java/lang/Object")] 7

/-- java/lang/Comparable -/
def k3 : Class := { plain "java/lang/Comparable" (some 0) with
  accessFlags := 1537
  interfaces := #[]
  cf := some (fileOf pool3 1 #[] #[] 1537 3 #[] #[])
  fields := #[]
  methods := #[]
  instanceTypes := #[]
  staticTypes := #[]
  resolved := Array.replicate 12 none
  statics := none }

def pool4 : Array CpInfo := pool [(2, .class_ 4), (1, u "java/lang/CharSequence"), (42, .class_ 48), (0, u "java/lang/CharSequence$1CodePointIterator"), (10, .class_ 60), (0, u "java/lang/CharSequence$1CharIterator"), (5, .class_ 67), (0, u "java/lang/Object")] 63

/-- java/lang/CharSequence -/
def k4 : Class := { plain "java/lang/CharSequence" (some 0) with
  accessFlags := 1537
  interfaces := #[]
  cf := some (fileOf pool4 2 #[.nestMembers #[47, 59]] #[] 1537 66 #[] #[])
  fields := #[]
  methods := #[]
  instanceTypes := #[]
  staticTypes := #[]
  resolved := Array.replicate 131 none
  statics := none }

def pool5 : Array CpInfo := pool [(1, .class_ 2), (0, u "java/lang/constant/Constable"), (0, .class_ 4), (0, u "java/lang/Object")] 6

/-- java/lang/constant/Constable -/
def k5 : Class := { plain "java/lang/constant/Constable" (some 0) with
  accessFlags := 1537
  interfaces := #[]
  cf := some (fileOf pool5 1 #[] #[] 1537 3 #[] #[])
  fields := #[]
  methods := #[]
  instanceTypes := #[]
  staticTypes := #[]
  resolved := Array.replicate 11 none
  statics := none }

def pool6 : Array CpInfo := pool [(1, .class_ 2), (0, u "java/lang/constant/ConstantDesc"), (0, .class_ 4), (0, u "java/lang/Object")] 32

/-- java/lang/constant/ConstantDesc -/
def k6 : Class := { plain "java/lang/constant/ConstantDesc" (some 0) with
  accessFlags := 1537
  interfaces := #[]
  cf := some (fileOf pool6 1 #[] #[] 1537 3 #[] #[])
  fields := #[]
  methods := #[]
  instanceTypes := #[]
  staticTypes := #[]
  resolved := Array.replicate 37 none
  statics := none }

def pool7 : Array CpInfo := pool [(1, .methodref 2 3), (0, .class_ 4), (0, .nameAndType 5 6), (0, u "java/lang/Object"), (0, u "<init>"), (0, u "()V"), (0, .string 8), (0, u ""), (0, .fieldref 10 11), (0, .class_ 12), (0, .nameAndType 13 14), (0, u "java/lang/String"), (0, u "value"), (0, u "[B"), (0, .fieldref 10 16), (0, .nameAndType 17 18), (0, u "coder"), (0, u "B"), (2, u "hash"), (0, u "I"), (2, u "hashIsZero"), (0, u "Z"), (0, .methodref 10 28), (0, .nameAndType 5 29), (0, u "([CIILjava/lang/Void;)V"), (8, .fieldref 10 39), (0, .nameAndType 40 26), (0, u "COMPACT_STRINGS"), (1, .class_ 44), (1, u "java/lang/StringUTF16"), (0, u "compress"), (1, .methodref 42 48), (0, .nameAndType 49 50), (0, u "coderFromArrayLen"), (0, u "([BI)B"), (2, u "toBytes"), (53, .class_ 109), (1, u "java/lang/StringLatin1"), (67, .methodref 42 178), (0, .nameAndType 45 179), (0, u "([CII)[B"), (29, .methodref 10 210), (0, .nameAndType 5 211), (0, u "([BB)V"), (157, u "(C)Z"), (171, .methodref 107 542), (0, .nameAndType 543 544), (0, u "equals"), (0, u "([B[B)Z"), (28, u "(Ljava/lang/Object;)Z"), (1, .class_ 576), (0, u "java/lang/CharSequence"), (22, u "CASE_INSENSITIVE_ORDER"), (0, u "Ljava/util/Comparator;"), (181, u "valueOf"), (0, u "(C)Ljava/lang/String;"), (226, u "([C)V"), (4, .methodref 107 1016), (0, .nameAndType 1017 369), (0, u "canEncode"), (0, .methodref 107 1019), (0, .nameAndType 53 1020), (0, u "(C)[B"), (80, u "serialPersistentFields"), (0, u "[Ljava/io/ObjectStreamField;"), (0, .class_ 1104), (0, u "java/lang/String$CaseInsensitiveComparator"), (1, .class_ 1107), (0, u "java/io/Serializable"), (0, .class_ 1109), (0, u "java/lang/Comparable"), (0, .class_ 1111), (0, u "java/lang/constant/Constable"), (0, .class_ 1113), (0, u "java/lang/constant/ConstantDesc"), (2, u "serialVersionUID"), (0, u "J"), (3, u "REPL"), (0, u "C"), (2, u "LATIN1"), (1, u "UTF16")] 323

def k7m0 : Method := { name := "<init>", desc := "()V", sig := { parameters := [], returnType := none }, accessFlags := 1, code := none }
def k7c1 : Code := { maxStack := 5, maxLocals := 2, code := jdk_42_method_3_code, exceptionTable := #[], attributes := #[] }
def k7m1 : Method := { name := "<init>", desc := "([C)V", sig := { parameters := [(.array .char)], returnType := none }, accessFlags := 1, code := some k7c1 }
def k7c2 : Code := { maxStack := 2, maxLocals := 3, code := jdk_42_method_66_code, exceptionTable := #[], attributes := #[] }
def k7m2 : Method := { name := "equals", desc := "(Ljava/lang/Object;)Z", sig := { parameters := [(.object "java/lang/Object")], returnType := some .boolean }, accessFlags := 1, code := some k7c2 }
def k7c3 : Code := { maxStack := 4, maxLocals := 1, code := jdk_42_method_139_code, exceptionTable := #[], attributes := #[] }
def k7m3 : Method := { name := "valueOf", desc := "(C)Ljava/lang/String;", sig := { parameters := [.char], returnType := some (.object "java/lang/String") }, accessFlags := 9, code := some k7c3 }
def k7c4 : Code := { maxStack := 4, maxLocals := 6, code := jdk_42_method_149_code, exceptionTable := #[], attributes := #[] }
def k7m4 : Method := { name := "<init>", desc := "([CIILjava/lang/Void;)V", sig := { parameters := [(.array .char), .int, .int, (.object "java/lang/Void")], returnType := none }, accessFlags := 2, code := some k7c4 }
def k7c5 : Code := { maxStack := 2, maxLocals := 3, code := jdk_42_method_151_code, exceptionTable := #[], attributes := #[] }
def k7m5 : Method := { name := "<init>", desc := "([BB)V", sig := { parameters := [(.array .byte), .byte], returnType := none }, accessFlags := 0, code := some k7c5 }
/-- java/lang/String -/
def k7 : Class := { plain "java/lang/String" (some 0) with
  accessFlags := 49
  interfaces := #[2, 3, 4, 5, 6]
  cf := some (fileOf pool7 10 #[.nestMembers #[1103]] #[{ accessFlags := 1, nameIndex := 5, descriptorIndex := 6, attributes := #[] }, { accessFlags := 1, nameIndex := 5, descriptorIndex := 1010, attributes := #[] }, { accessFlags := 1, nameIndex := 543, descriptorIndex := 573, attributes := #[] }, { accessFlags := 9, nameIndex := 782, descriptorIndex := 783, attributes := #[] }, { accessFlags := 2, nameIndex := 5, descriptorIndex := 29, attributes := #[] }, { accessFlags := 0, nameIndex := 5, descriptorIndex := 211, attributes := #[] }] 49 2 #[1106, 1108, 575, 1110, 1112] #[{ accessFlags := 18, nameIndex := 13, descriptorIndex := 14, attributes := #[] }, { accessFlags := 18, nameIndex := 17, descriptorIndex := 18, attributes := #[] }, { accessFlags := 2, nameIndex := 21, descriptorIndex := 22, attributes := #[] }, { accessFlags := 2, nameIndex := 25, descriptorIndex := 26, attributes := #[] }, { accessFlags := 26, nameIndex := 1116, descriptorIndex := 1117, attributes := #[] }, { accessFlags := 24, nameIndex := 40, descriptorIndex := 26, attributes := #[] }, { accessFlags := 26, nameIndex := 1101, descriptorIndex := 1102, attributes := #[] }, { accessFlags := 26, nameIndex := 1121, descriptorIndex := 1122, attributes := #[] }, { accessFlags := 25, nameIndex := 599, descriptorIndex := 600, attributes := #[] }, { accessFlags := 24, nameIndex := 1125, descriptorIndex := 18, attributes := #[] }, { accessFlags := 24, nameIndex := 1127, descriptorIndex := 18, attributes := #[] }])
  fields := #[{ name := "value", type := (.array .byte), accessFlags := 18, slot := 0, constantValue := 0 }, { name := "coder", type := .byte, accessFlags := 18, slot := 1, constantValue := 0 }, { name := "hash", type := .int, accessFlags := 2, slot := 2, constantValue := 0 }, { name := "hashIsZero", type := .boolean, accessFlags := 2, slot := 3, constantValue := 0 }, { name := "serialVersionUID", type := .long, accessFlags := 26, slot := 0, constantValue := 0 }, { name := "COMPACT_STRINGS", type := .boolean, accessFlags := 24, slot := 1, constantValue := 0 }, { name := "serialPersistentFields", type := (.array (.object "java/io/ObjectStreamField")), accessFlags := 26, slot := 2, constantValue := 0 }, { name := "REPL", type := .char, accessFlags := 26, slot := 3, constantValue := 0 }, { name := "CASE_INSENSITIVE_ORDER", type := (.object "java/util/Comparator"), accessFlags := 25, slot := 4, constantValue := 0 }, { name := "LATIN1", type := .byte, accessFlags := 24, slot := 5, constantValue := 0 }, { name := "UTF16", type := .byte, accessFlags := 24, slot := 6, constantValue := 0 }]
  methods := #[k7m0, k7m1, k7m2, k7m3, k7m4, k7m5]
  instanceTypes := #[(.array .byte), .byte, .int, .boolean]
  staticTypes := #[.long, .boolean, (.array (.object "java/io/ObjectStreamField")), .char, (.object "java/util/Comparator"), .byte, .byte]
  resolved := Array.replicate 1451 none
  statics := some 0 }

def pool8 : Array CpInfo := pool [(1, .methodref 2 3), (0, .class_ 4), (0, .nameAndType 5 6), (0, u "java/lang/Object"), (0, u "<init>"), (0, u "()V"), (0, .fieldref 8 9), (0, .class_ 10), (0, .nameAndType 11 12), (0, u "com/example/liburiref/liburiref/UriReference"), (0, u "text"), (0, u "Ljava/lang/String;"), (0, .fieldref 8 14), (0, .nameAndType 15 12), (0, u "scheme"), (0, .fieldref 8 17), (0, .nameAndType 18 12), (0, u "userInfo"), (0, .fieldref 8 20), (0, .nameAndType 21 12), (0, u "host"), (0, .fieldref 8 23), (0, .nameAndType 24 12), (0, u "port"), (0, .fieldref 8 26), (0, .nameAndType 27 12), (0, u "path"), (0, .fieldref 8 29), (0, .nameAndType 30 12), (0, u "query"), (0, .fieldref 8 32), (0, .nameAndType 33 12), (0, u "fragment"), (46, .class_ 82), (1, u "com/example/liburiref/liburiref/UriReference$Component"), (77, .class_ 161), (0, u "java/lang/String"), (0, .methodref 160 163), (0, .nameAndType 164 165), (0, u "equals"), (0, u "(Ljava/lang/Object;)Z"), (18, .class_ 185), (0, u "com/example/liburiref/liburiref/UriReference$Builder"), (79, u "DEFAULT_PORTS"), (0, u "Ljava/util/Map;"), (19, u "ROOT_FOR_EMPTY_PATH"), (0, u "Ljava/util/Set;"), (162, u "(Ljava/lang/String;Ljava/lang/String;Ljava/lang/String;Ljava/lang/String;Ljava/lang/String;Ljava/lang/String;Ljava/lang/String;Ljava/lang/String;)V"), (29, u "FILE_SCHEME"), (1, u "LOCAL_HOST")] 72

def k8c0 : Code := { maxStack := 2, maxLocals := 9, code := prog_7_method_1_code, exceptionTable := #[], attributes := #[] }
def k8m0 : Method := { name := "<init>", desc := "(Ljava/lang/String;Ljava/lang/String;Ljava/lang/String;Ljava/lang/String;Ljava/lang/String;Ljava/lang/String;Ljava/lang/String;Ljava/lang/String;)V", sig := { parameters := [(.object "java/lang/String"), (.object "java/lang/String"), (.object "java/lang/String"), (.object "java/lang/String"), (.object "java/lang/String"), (.object "java/lang/String"), (.object "java/lang/String"), (.object "java/lang/String")], returnType := none }, accessFlags := 0, code := some k8c0 }
def k8c1 : Code := { maxStack := 2, maxLocals := 3, code := prog_7_method_41_code, exceptionTable := #[], attributes := #[] }
def k8m1 : Method := { name := "equals", desc := "(Ljava/lang/Object;)Z", sig := { parameters := [(.object "java/lang/Object")], returnType := some .boolean }, accessFlags := 1, code := some k8c1 }
/-- com/example/liburiref/liburiref/UriReference -/
def k8 : Class := { plain "com/example/liburiref/liburiref/UriReference" (some 0) with
  accessFlags := 33
  interfaces := #[]
  cf := some (fileOf pool8 8 #[.nestMembers #[184, 80]] #[{ accessFlags := 0, nameIndex := 5, descriptorIndex := 450, attributes := #[] }, { accessFlags := 1, nameIndex := 164, descriptorIndex := 165, attributes := #[] }] 33 2 #[] #[{ accessFlags := 26, nameIndex := 265, descriptorIndex := 266, attributes := #[] }, { accessFlags := 26, nameIndex := 286, descriptorIndex := 287, attributes := #[] }, { accessFlags := 26, nameIndex := 480, descriptorIndex := 12, attributes := #[] }, { accessFlags := 26, nameIndex := 482, descriptorIndex := 12, attributes := #[] }, { accessFlags := 18, nameIndex := 11, descriptorIndex := 12, attributes := #[] }, { accessFlags := 18, nameIndex := 15, descriptorIndex := 12, attributes := #[] }, { accessFlags := 18, nameIndex := 18, descriptorIndex := 12, attributes := #[] }, { accessFlags := 18, nameIndex := 21, descriptorIndex := 12, attributes := #[] }, { accessFlags := 18, nameIndex := 24, descriptorIndex := 12, attributes := #[] }, { accessFlags := 18, nameIndex := 27, descriptorIndex := 12, attributes := #[] }, { accessFlags := 18, nameIndex := 30, descriptorIndex := 12, attributes := #[] }, { accessFlags := 18, nameIndex := 33, descriptorIndex := 12, attributes := #[] }])
  fields := #[{ name := "DEFAULT_PORTS", type := (.object "java/util/Map"), accessFlags := 26, slot := 0, constantValue := 0 }, { name := "ROOT_FOR_EMPTY_PATH", type := (.object "java/util/Set"), accessFlags := 26, slot := 1, constantValue := 0 }, { name := "FILE_SCHEME", type := (.object "java/lang/String"), accessFlags := 26, slot := 2, constantValue := 0 }, { name := "LOCAL_HOST", type := (.object "java/lang/String"), accessFlags := 26, slot := 3, constantValue := 0 }, { name := "text", type := (.object "java/lang/String"), accessFlags := 18, slot := 0, constantValue := 0 }, { name := "scheme", type := (.object "java/lang/String"), accessFlags := 18, slot := 1, constantValue := 0 }, { name := "userInfo", type := (.object "java/lang/String"), accessFlags := 18, slot := 2, constantValue := 0 }, { name := "host", type := (.object "java/lang/String"), accessFlags := 18, slot := 3, constantValue := 0 }, { name := "port", type := (.object "java/lang/String"), accessFlags := 18, slot := 4, constantValue := 0 }, { name := "path", type := (.object "java/lang/String"), accessFlags := 18, slot := 5, constantValue := 0 }, { name := "query", type := (.object "java/lang/String"), accessFlags := 18, slot := 6, constantValue := 0 }, { name := "fragment", type := (.object "java/lang/String"), accessFlags := 18, slot := 7, constantValue := 0 }]
  methods := #[k8m0, k8m1]
  instanceTypes := #[(.object "java/lang/String"), (.object "java/lang/String"), (.object "java/lang/String"), (.object "java/lang/String"), (.object "java/lang/String"), (.object "java/lang/String"), (.object "java/lang/String"), (.object "java/lang/String")]
  staticTypes := #[(.object "java/util/Map"), (.object "java/util/Set"), (.object "java/lang/String"), (.object "java/lang/String")]
  resolved := Array.replicate 555 none
  statics := none }

def pool9 : Array CpInfo := pool [(4, .class_ 6), (1, u "java/lang/Object"), (0, u "<init>"), (0, u "()V"), (5, .class_ 16), (1, u "java/lang/StringLatin1"), (73, u "canEncode"), (14, u "(C)Z"), (15, u "$assertionsDisabled"), (0, u "Z"), (98, .class_ 223), (1, u "java/lang/StringLatin1$LinesSpliterator"), (57, u "equals"), (0, u "([B[B)Z"), (97, u "toBytes"), (1, u "(C)[B"), (7, .class_ 391), (0, u "java/lang/StringLatin1$CharsSpliterator")] 3

def k9m0 : Method := { name := "<init>", desc := "()V", sig := { parameters := [], returnType := none }, accessFlags := 0, code := none }
def k9c1 : Code := { maxStack := 2, maxLocals := 1, code := jdk_43_method_3_code, exceptionTable := #[], attributes := #[] }
def k9m1 : Method := { name := "canEncode", desc := "(C)Z", sig := { parameters := [.char], returnType := some .boolean }, accessFlags := 9, code := some k9c1 }
def k9c2 : Code := { maxStack := 3, maxLocals := 3, code := jdk_43_method_13_code, exceptionTable := #[], attributes := #[] }
def k9m2 : Method := { name := "equals", desc := "([B[B)Z", sig := { parameters := [(.array .byte), (.array .byte)], returnType := some .boolean }, accessFlags := 9, code := some k9c2 }
def k9c3 : Code := { maxStack := 4, maxLocals := 1, code := jdk_43_method_46_code, exceptionTable := #[], attributes := #[] }
def k9m3 : Method := { name := "toBytes", desc := "(C)[B", sig := { parameters := [.char], returnType := some (.array .byte) }, accessFlags := 9, code := some k9c3 }
/-- java/lang/StringLatin1 -/
def k9 : Class := { plain "java/lang/StringLatin1" (some 0) with
  accessFlags := 48
  interfaces := #[]
  cf := some (fileOf pool9 14 #[.nestMembers #[390, 221]] #[{ accessFlags := 0, nameIndex := 7, descriptorIndex := 8, attributes := #[] }, { accessFlags := 9, nameIndex := 90, descriptorIndex := 105, attributes := #[] }, { accessFlags := 9, nameIndex := 281, descriptorIndex := 282, attributes := #[] }, { accessFlags := 9, nameIndex := 380, descriptorIndex := 382, attributes := #[] }] 48 4 #[] #[{ accessFlags := 4120, nameIndex := 121, descriptorIndex := 122, attributes := #[] }])
  fields := #[{ name := "$assertionsDisabled", type := .boolean, accessFlags := 4120, slot := 0, constantValue := 0 }]
  methods := #[k9m0, k9m1, k9m2, k9m3]
  instanceTypes := #[]
  staticTypes := #[.boolean]
  resolved := Array.replicate 395 none
  statics := none }

def pool10 : Array CpInfo := pool [(6, .class_ 8), (1, u "java/lang/Object"), (0, u "<init>"), (0, u "()V"), (1, .class_ 14), (1, u "java/lang/StringUTF16"), (31, u "$assertionsDisabled"), (0, u "Z"), (13, u "HI_BYTE_SHIFT"), (0, u "I"), (2, u "LO_BYTE_SHIFT"), (49, .methodref 12 116), (0, .nameAndType 117 118), (0, u "compress"), (0, u "([CI[BII)I"), (3, u "([CII)[B"), (138, u "coderFromArrayLen"), (0, u "([BI)B"), (106, .class_ 371), (1, u "java/lang/StringUTF16$LinesSpliterator"), (58, u "MAX_LENGTH"), (196, .class_ 628), (0, u "java/lang/StringUTF16$CodePointsSpliterator"), (0, .class_ 630), (0, u "java/lang/StringUTF16$CharsSpliterator")] 4

def k10m0 : Method := { name := "<init>", desc := "()V", sig := { parameters := [], returnType := none }, accessFlags := 0, code := none }
def k10c1 : Code := { maxStack := 2, maxLocals := 2, code := jdk_52_method_15_code, exceptionTable := #[], attributes := #[] }
def k10m1 : Method := { name := "coderFromArrayLen", desc := "([BI)B", sig := { parameters := [(.array .byte), .int], returnType := some .byte }, accessFlags := 8, code := some k10c1 }
def k10c2 : Code := { maxStack := 5, maxLocals := 6, code := jdk_52_method_16_code, exceptionTable := #[], attributes := #[] }
def k10m2 : Method := { name := "compress", desc := "([CII)[B", sig := { parameters := [(.array .char), .int, .int], returnType := some (.array .byte) }, accessFlags := 9, code := some k10c2 }
def k10c3 : Code := { maxStack := 3, maxLocals := 7, code := jdk_52_method_21_code, exceptionTable := #[], attributes := #[] }
def k10m3 : Method := { name := "compress", desc := "([CI[BII)I", sig := { parameters := [(.array .char), .int, (.array .byte), .int, .int], returnType := some .int }, accessFlags := 9, code := some k10c3 }
/-- java/lang/StringUTF16 -/
def k10 : Class := { plain "java/lang/StringUTF16" (some 0) with
  accessFlags := 48
  interfaces := #[]
  cf := some (fileOf pool10 12 #[.nestMembers #[627, 629, 369]] #[{ accessFlags := 0, nameIndex := 9, descriptorIndex := 10, attributes := #[] }, { accessFlags := 8, nameIndex := 261, descriptorIndex := 262, attributes := #[] }, { accessFlags := 9, nameIndex := 117, descriptorIndex := 122, attributes := #[] }, { accessFlags := 9, nameIndex := 117, descriptorIndex := 118, attributes := #[] }] 48 6 #[] #[{ accessFlags := 26, nameIndex := 61, descriptorIndex := 62, attributes := #[] }, { accessFlags := 26, nameIndex := 65, descriptorIndex := 62, attributes := #[] }, { accessFlags := 24, nameIndex := 430, descriptorIndex := 62, attributes := #[] }, { accessFlags := 4120, nameIndex := 46, descriptorIndex := 47, attributes := #[] }])
  fields := #[{ name := "HI_BYTE_SHIFT", type := .int, accessFlags := 26, slot := 0, constantValue := 0 }, { name := "LO_BYTE_SHIFT", type := .int, accessFlags := 26, slot := 1, constantValue := 0 }, { name := "MAX_LENGTH", type := .int, accessFlags := 24, slot := 2, constantValue := 0 }, { name := "$assertionsDisabled", type := .boolean, accessFlags := 4120, slot := 3, constantValue := 0 }]
  methods := #[k10m0, k10m1, k10m2, k10m3]
  instanceTypes := #[]
  staticTypes := #[.int, .int, .int, .boolean]
  resolved := Array.replicate 635 none
  statics := none }

def pool11 : Array CpInfo := pool [(2, .class_ 4), (1, u "java/lang/Object"), (0, u "<init>"), (0, u "()V"), (17, .class_ 26), (1, u "jdk/internal/util/Preconditions"), (28, .class_ 56), (0, u "jdk/internal/util/Preconditions$4"), (57, .class_ 115), (0, u "jdk/internal/util/Preconditions$1"), (7, u "SIOOBE_FORMATTER"), (0, u "Ljava/util/function/BiFunction;"), (0, .class_ 126), (0, u "jdk/internal/util/Preconditions$2"), (3, u "AIOOBE_FORMATTER"), (0, .class_ 132), (0, u "jdk/internal/util/Preconditions$3"), (3, u "IOOBE_FORMATTER")] 57

def k11m0 : Method := { name := "<init>", desc := "()V", sig := { parameters := [], returnType := none }, accessFlags := 1, code := none }
/-- jdk/internal/util/Preconditions -/
def k11 : Class := { plain "jdk/internal/util/Preconditions" (some 0) with
  accessFlags := 33
  interfaces := #[]
  cf := some (fileOf pool11 24 #[.nestMembers #[55, 131, 125, 114]] #[{ accessFlags := 1, nameIndex := 5, descriptorIndex := 6, attributes := #[] }] 33 2 #[] #[{ accessFlags := 25, nameIndex := 123, descriptorIndex := 124, attributes := #[] }, { accessFlags := 25, nameIndex := 130, descriptorIndex := 124, attributes := #[] }, { accessFlags := 25, nameIndex := 136, descriptorIndex := 124, attributes := #[] }])
  fields := #[{ name := "SIOOBE_FORMATTER", type := (.object "java/util/function/BiFunction"), accessFlags := 25, slot := 0, constantValue := 0 }, { name := "AIOOBE_FORMATTER", type := (.object "java/util/function/BiFunction"), accessFlags := 25, slot := 1, constantValue := 0 }, { name := "IOOBE_FORMATTER", type := (.object "java/util/function/BiFunction"), accessFlags := 25, slot := 2, constantValue := 0 }]
  methods := #[k11m0]
  instanceTypes := #[]
  staticTypes := #[(.object "java/util/function/BiFunction"), (.object "java/util/function/BiFunction"), (.object "java/util/function/BiFunction")]
  resolved := Array.replicate 194 none
  statics := some 1 }

def pool12 : Array CpInfo := pool [(9, u "<init>"), (6, .class_ 18), (1, u "java/lang/Object"), (0, u "()V"), (1, .class_ 23), (1, u "jdk/internal/util/ArraysSupport"), (0, u "LOG2_ARRAY_LONG_INDEX_SCALE"), (0, u "I"), (2, u "U"), (0, u "Ljdk/internal/misc/Unsafe;"), (8, u "BIG_ENDIAN"), (0, u "Z"), (8, u "LOG2_BYTE_BIT_SIZE"), (4, u "LOG2_ARRAY_INT_INDEX_SCALE"), (54, u "JLA"), (0, u "Ljdk/internal/access/JavaLangAccess;"), (11, u "LOG2_ARRAY_BOOLEAN_INDEX_SCALE"), (9, u "LOG2_ARRAY_BYTE_INDEX_SCALE"), (5, u "LOG2_ARRAY_CHAR_INDEX_SCALE"), (5, u "LOG2_ARRAY_SHORT_INDEX_SCALE"), (18, u "LOG2_ARRAY_FLOAT_INDEX_SCALE"), (24, u "LOG2_ARRAY_DOUBLE_INDEX_SCALE"), (89, u "T_BOOLEAN"), (2, u "T_CHAR"), (1, u "T_FLOAT"), (1, u "T_DOUBLE"), (1, u "T_BYTE"), (1, u "T_SHORT"), (1, u "T_INT"), (1, u "T_LONG"), (1, u "SOFT_MAX_ARRAY_LENGTH")] 83

def k12m0 : Method := { name := "<init>", desc := "()V", sig := { parameters := [], returnType := none }, accessFlags := 2, code := none }
/-- jdk/internal/util/ArraysSupport -/
def k12 : Class := { plain "jdk/internal/util/ArraysSupport" (some 0) with
  accessFlags := 33
  interfaces := #[]
  cf := some (fileOf pool12 21 #[] #[{ accessFlags := 2, nameIndex := 9, descriptorIndex := 19, attributes := #[] }] 33 16 #[] #[{ accessFlags := 24, nameIndex := 28, descriptorIndex := 29, attributes := #[] }, { accessFlags := 26, nameIndex := 38, descriptorIndex := 39, attributes := #[] }, { accessFlags := 25, nameIndex := 121, descriptorIndex := 25, attributes := #[] }, { accessFlags := 25, nameIndex := 131, descriptorIndex := 25, attributes := #[] }, { accessFlags := 25, nameIndex := 137, descriptorIndex := 25, attributes := #[] }, { accessFlags := 25, nameIndex := 143, descriptorIndex := 25, attributes := #[] }, { accessFlags := 25, nameIndex := 53, descriptorIndex := 25, attributes := #[] }, { accessFlags := 25, nameIndex := 24, descriptorIndex := 25, attributes := #[] }, { accessFlags := 25, nameIndex := 162, descriptorIndex := 25, attributes := #[] }, { accessFlags := 25, nameIndex := 187, descriptorIndex := 25, attributes := #[] }, { accessFlags := 26, nameIndex := 48, descriptorIndex := 25, attributes := #[] }, { accessFlags := 25, nameIndex := 277, descriptorIndex := 25, attributes := #[] }, { accessFlags := 25, nameIndex := 280, descriptorIndex := 25, attributes := #[] }, { accessFlags := 25, nameIndex := 282, descriptorIndex := 25, attributes := #[] }, { accessFlags := 25, nameIndex := 284, descriptorIndex := 25, attributes := #[] }, { accessFlags := 25, nameIndex := 286, descriptorIndex := 25, attributes := #[] }, { accessFlags := 25, nameIndex := 288, descriptorIndex := 25, attributes := #[] }, { accessFlags := 25, nameIndex := 290, descriptorIndex := 25, attributes := #[] }, { accessFlags := 25, nameIndex := 292, descriptorIndex := 25, attributes := #[] }, { accessFlags := 26, nameIndex := 108, descriptorIndex := 109, attributes := #[] }, { accessFlags := 25, nameIndex := 294, descriptorIndex := 25, attributes := #[] }])
  fields := #[{ name := "U", type := (.object "jdk/internal/misc/Unsafe"), accessFlags := 24, slot := 0, constantValue := 0 }, { name := "BIG_ENDIAN", type := .boolean, accessFlags := 26, slot := 1, constantValue := 0 }, { name := "LOG2_ARRAY_BOOLEAN_INDEX_SCALE", type := .int, accessFlags := 25, slot := 2, constantValue := 0 }, { name := "LOG2_ARRAY_BYTE_INDEX_SCALE", type := .int, accessFlags := 25, slot := 3, constantValue := 0 }, { name := "LOG2_ARRAY_CHAR_INDEX_SCALE", type := .int, accessFlags := 25, slot := 4, constantValue := 0 }, { name := "LOG2_ARRAY_SHORT_INDEX_SCALE", type := .int, accessFlags := 25, slot := 5, constantValue := 0 }, { name := "LOG2_ARRAY_INT_INDEX_SCALE", type := .int, accessFlags := 25, slot := 6, constantValue := 0 }, { name := "LOG2_ARRAY_LONG_INDEX_SCALE", type := .int, accessFlags := 25, slot := 7, constantValue := 0 }, { name := "LOG2_ARRAY_FLOAT_INDEX_SCALE", type := .int, accessFlags := 25, slot := 8, constantValue := 0 }, { name := "LOG2_ARRAY_DOUBLE_INDEX_SCALE", type := .int, accessFlags := 25, slot := 9, constantValue := 0 }, { name := "LOG2_BYTE_BIT_SIZE", type := .int, accessFlags := 26, slot := 10, constantValue := 0 }, { name := "T_BOOLEAN", type := .int, accessFlags := 25, slot := 11, constantValue := 0 }, { name := "T_CHAR", type := .int, accessFlags := 25, slot := 12, constantValue := 0 }, { name := "T_FLOAT", type := .int, accessFlags := 25, slot := 13, constantValue := 0 }, { name := "T_DOUBLE", type := .int, accessFlags := 25, slot := 14, constantValue := 0 }, { name := "T_BYTE", type := .int, accessFlags := 25, slot := 15, constantValue := 0 }, { name := "T_SHORT", type := .int, accessFlags := 25, slot := 16, constantValue := 0 }, { name := "T_INT", type := .int, accessFlags := 25, slot := 17, constantValue := 0 }, { name := "T_LONG", type := .int, accessFlags := 25, slot := 18, constantValue := 0 }, { name := "JLA", type := (.object "jdk/internal/access/JavaLangAccess"), accessFlags := 26, slot := 19, constantValue := 0 }, { name := "SOFT_MAX_ARRAY_LENGTH", type := .int, accessFlags := 25, slot := 20, constantValue := 0 }]
  methods := #[k12m0]
  instanceTypes := #[]
  staticTypes := #[(.object "jdk/internal/misc/Unsafe"), .boolean, .int, .int, .int, .int, .int, .int, .int, .int, .int, .int, .int, .int, .int, .int, .int, .int, .int, (.object "jdk/internal/access/JavaLangAccess"), .int]
  resolved := Array.replicate 378 none
  statics := none }

def pool13 : Array CpInfo := pool [(1, u "java/lang/Cloneable"), (0, .class_ 1), (0, u "java/lang/Object"), (0, .class_ 3)] 3

/-- java/lang/Cloneable -/
def k13 : Class := { plain "java/lang/Cloneable" (some 0) with
  accessFlags := 1537
  interfaces := #[]
  cf := some (fileOf pool13 2 #[] #[] 1537 4 #[] #[])
  fields := #[]
  methods := #[]
  instanceTypes := #[]
  staticTypes := #[]
  resolved := Array.replicate 8 none
  statics := none }

/-- the primitive byte -/
def k14 : Class := { plain "byte" none with kind := .primitive 'B', accessFlags := 0x411 }
/-- [B -/
def k15 : Class := { plain "[B" (some 0) with kind := .array 14 .byte, interfaces := #[13, 2], accessFlags := 1041 }

/-- the primitive char -/
def k16 : Class := { plain "char" none with kind := .primitive 'C', accessFlags := 0x411 }
/-- [C -/
def k17 : Class := { plain "[C" (some 0) with kind := .array 16 .char, interfaces := #[13, 2], accessFlags := 1041 }

/-- the primitive int -/
def k18 : Class := { plain "int" none with kind := .primitive 'I', accessFlags := 0x411 }
/-- [I -/
def k19 : Class := { plain "[I" (some 0) with kind := .array 18 .int, interfaces := #[13, 2], accessFlags := 1041 }

def heap : Heap := #[{ cls := 7, slots := #[.long 0, .int 1, .null, .int 0, .null, .int 0, .int 0], vm := .statics 7 },
  { cls := 11, slots := #[.null, .null, .null], vm := .statics 11 }]
def classes : Array Class := #[k0, k1, k2, k3, k4, k5, k6, k7, k8, k9, k10, k11, k12, k13, k14, k15, k16, k17, k18, k19]
def interned : List (Array UInt16 × Addr) := []
def slotsUsed : Nat := 10
def theMethod : MethodId := ⟨1, 2⟩
def args0 : Array Value := #[.int 261, .int 517, .int 12]
def aboutOver (below : List Frame) : State where
  vm := { classes := classes, interned := interned.toArray }
  heap := heap
  slotsUsed := slotsUsed
  threads := #[{ frames := .invoking theMethod args0 :: below }]
def below0 : List Frame := [.native { method := ⟨0, 0⟩, args := #[] }]
def about1 : State := aboutOver below0
def p0 : Program := .bare "" "" ""
def e0 : Env := launch0.env 0 0 0
theorem w_frames : about1.frames = Frame.invoking theMethod args0 :: below0 := rfl
set_option maxRecDepth 65536 in
theorem w_args : argsFit about1.vm theMethod args0 = true := by decide +kernel
set_option maxRecDepth 65536 in
theorem w_heap : heapFits about1 = true := by decide +kernel
set_option maxRecDepth 65536 in
theorem w_runnable : about1.curStatus? = some .runnable := by decide +kernel
set_option maxRecDepth 65536 in
theorem w_alone : about1.alone = true := by decide +kernel
set_option maxRecDepth 65536 in
theorem w_named : about1.methodNamed? x = some theMethod := by decide +kernel
set_option maxRecDepth 65536 in
theorem w_hears : about1.hears theMethod below0 = true := by decide +kernel
set_option maxRecDepth 65536 in
theorem w_ripe : about1.ripe theMethod args0 below0 = true := by decide +kernel
theorem w_running : about1.status = .running := rfl
set_option maxRecDepth 65536 in
theorem w_room : about1.hasRoom e0.platform room_1 = true :=
  launch0.hasRoom_least _ room_1 (by decide +kernel) (by decide +kernel) (by decide +kernel) (by decide +kernel) (by decide +kernel) (by decide +kernel)
theorem allAtoms_all (ts : List Jvm.Cond) (a : Array Jvm.Value) (st : Jvm.State) : (allAtoms ts).before a st = ts.all (fun c => c.before a st) := by
  induction ts with
  | nil => rfl
  | cons c t ih =>
    show (Jvm.Cond.and c (allAtoms t)).before a st = _
    rw [Jvm.Cond.before_and, ih, List.all_cons]
def words1 : List Jvm.Cond := Jvm.Cond.code x code maxLocals ret :: tables_1
/-- a 'code' word, met by the world's own term for the bytes: nothing is compared byte by byte -/
theorem code_word {y : MethodName} {bytes : ByteArray} {mx : Nat} {rt : Option FieldType} {a : Array Value} {s : State} {m : MethodId} {meth : Method} {c : Code} (h1 : s.methodNamed? y = some m) (h2 : s.vm.method? m = some meth) (h3 : meth.code = some c) (h4 : c.code = bytes)
    (h5 : (c.maxLocals == mx && c.exceptionTable.isEmpty && decide (c.maxStack ≤ mostOperands) && decide (meth.sig.returnType = rt) && !meth.locks && decide (parseMethodDescriptor y.desc = some meth.sig)) = true) : (Jvm.Cond.code y bytes mx rt).before a s = true := by
  simp only [Bool.and_eq_true, beq_iff_eq, Bool.not_eq_true', decide_eq_true_eq] at h5
  obtain ⟨⟨⟨⟨⟨g1, g2⟩, g3⟩, g4⟩, g5⟩, g6⟩ := h5
  simp [Cond.before, Cond.holds, Cond.value, h1, h2, h3, h4, g1, g2, g3, g4, g5, g6]
def isCode : Jvm.Cond → Bool
  | .code _ _ _ _ => true
  | _ => false
theorem all_split {L : List Jvm.Cond} {P : Jvm.Cond → Bool} (h1 : L.all (fun c => isCode c || P c) = true) (h2 : ∀ c ∈ L.filter isCode, P c = true) : L.all P = true := by
  refine List.all_eq_true.mpr fun c hc => ?_
  have h := List.all_eq_true.mp h1 c hc
  rcases Bool.eq_false_or_eq_true (isCode c) with hi | hi
  · exact h2 c (List.mem_filter.mpr ⟨hc, hi⟩)
  · simpa [hi] using h
set_option maxRecDepth 65536 in
theorem w_c0 : (Jvm.Cond.code x code maxLocals ret).before args0 about1 = true := code_word (m := ⟨1, 2⟩) (meth := k1m2) (c := k1c2) (by decide +kernel) rfl rfl rfl (by decide +kernel)
set_option maxRecDepth 65536 in
theorem w_c1 : (Jvm.Cond.code ({ cls := "com/example/liburiref/liburiref/UriReferenceEqualsPinLaw", name := "text", desc := "(ICC)Ljava/lang/String;" } : Jvm.MethodName) method_2_code (3 : Nat) (Option.some (Jvm.ClassFile.FieldType.object "java/lang/String"))).before args0 about1 = true := code_word (m := ⟨1, 1⟩) (meth := k1m1) (c := k1c1) (by decide +kernel) rfl rfl rfl (by decide +kernel)
set_option maxRecDepth 65536 in
theorem w_c2 : (Jvm.Cond.code ({ cls := "java/lang/String", name := "<init>", desc := "([C)V" } : Jvm.MethodName) jdk_42_method_3_code (2 : Nat) (Option.none : Option Jvm.ClassFile.FieldType)).before args0 about1 = true := code_word (m := ⟨7, 1⟩) (meth := k7m1) (c := k7c1) (by decide +kernel) rfl rfl rfl (by decide +kernel)
set_option maxRecDepth 65536 in
theorem w_c3 : (Jvm.Cond.code ({ cls := "java/lang/String", name := "<init>", desc := "([CIILjava/lang/Void;)V" } : Jvm.MethodName) jdk_42_method_149_code (6 : Nat) (Option.none : Option Jvm.ClassFile.FieldType)).before args0 about1 = true := code_word (m := ⟨7, 4⟩) (meth := k7m4) (c := k7c4) (by decide +kernel) rfl rfl rfl (by decide +kernel)
set_option maxRecDepth 65536 in
theorem w_c4 : (Jvm.Cond.code ({ cls := "java/lang/Object", name := "<init>", desc := "()V" } : Jvm.MethodName) object_method_1_code (1 : Nat) (Option.none : Option Jvm.ClassFile.FieldType)).before args0 about1 = true := code_word (m := ⟨0, 0⟩) (meth := k0m0) (c := k0c0) (by decide +kernel) rfl rfl rfl (by decide +kernel)
set_option maxRecDepth 65536 in
theorem w_c5 : (Jvm.Cond.code ({ cls := "com/example/liburiref/liburiref/UriReference", name := "<init>", desc := "(Ljava/lang/String;Ljava/lang/String;Ljava/lang/String;Ljava/lang/String;Ljava/lang/String;Ljava/lang/String;Ljava/lang/String;Ljava/lang/String;)V" } : Jvm.MethodName) prog_7_method_1_code (9 : Nat) (Option.none : Option Jvm.ClassFile.FieldType)).before args0 about1 = true := code_word (m := ⟨8, 0⟩) (meth := k8m0) (c := k8c0) (by decide +kernel) rfl rfl rfl (by decide +kernel)
set_option maxRecDepth 65536 in
theorem w_c6 : (Jvm.Cond.code ({ cls := "com/example/liburiref/liburiref/UriReference", name := "equals", desc := "(Ljava/lang/Object;)Z" } : Jvm.MethodName) prog_7_method_41_code (3 : Nat) (Option.some Jvm.ClassFile.FieldType.boolean)).before args0 about1 = true := code_word (m := ⟨8, 1⟩) (meth := k8m1) (c := k8c1) (by decide +kernel) rfl rfl rfl (by decide +kernel)
set_option maxRecDepth 65536 in
theorem w_c7 : (Jvm.Cond.code ({ cls := "java/lang/String", name := "equals", desc := "(Ljava/lang/Object;)Z" } : Jvm.MethodName) jdk_42_method_66_code (3 : Nat) (Option.some Jvm.ClassFile.FieldType.boolean)).before args0 about1 = true := code_word (m := ⟨7, 2⟩) (meth := k7m2) (c := k7c2) (by decide +kernel) rfl rfl rfl (by decide +kernel)
set_option maxRecDepth 65536 in
theorem w_c8 : (Jvm.Cond.code ({ cls := "java/lang/StringLatin1", name := "equals", desc := "([B[B)Z" } : Jvm.MethodName) jdk_43_method_13_code (3 : Nat) (Option.some Jvm.ClassFile.FieldType.boolean)).before args0 about1 = true := code_word (m := ⟨9, 2⟩) (meth := k9m2) (c := k9c2) (by decide +kernel) rfl rfl rfl (by decide +kernel)
set_option maxRecDepth 65536 in
theorem w_c9 : (Jvm.Cond.code ({ cls := "java/lang/String", name := "valueOf", desc := "(C)Ljava/lang/String;" } : Jvm.MethodName) jdk_42_method_139_code (1 : Nat) (Option.some (Jvm.ClassFile.FieldType.object "java/lang/String"))).before args0 about1 = true := code_word (m := ⟨7, 3⟩) (meth := k7m3) (c := k7c3) (by decide +kernel) rfl rfl rfl (by decide +kernel)
set_option maxRecDepth 65536 in
theorem w_c10 : (Jvm.Cond.code ({ cls := "java/lang/StringLatin1", name := "canEncode", desc := "(C)Z" } : Jvm.MethodName) jdk_43_method_3_code (1 : Nat) (Option.some Jvm.ClassFile.FieldType.boolean)).before args0 about1 = true := code_word (m := ⟨9, 1⟩) (meth := k9m1) (c := k9c1) (by decide +kernel) rfl rfl rfl (by decide +kernel)
set_option maxRecDepth 65536 in
theorem w_c11 : (Jvm.Cond.code ({ cls := "java/lang/StringLatin1", name := "toBytes", desc := "(C)[B" } : Jvm.MethodName) jdk_43_method_46_code (1 : Nat) (Option.some (Jvm.ClassFile.FieldType.array Jvm.ClassFile.FieldType.byte))).before args0 about1 = true := code_word (m := ⟨9, 3⟩) (meth := k9m3) (c := k9c3) (by decide +kernel) rfl rfl rfl (by decide +kernel)
set_option maxRecDepth 65536 in
theorem w_c12 : (Jvm.Cond.code ({ cls := "java/lang/String", name := "<init>", desc := "([BB)V" } : Jvm.MethodName) jdk_42_method_151_code (3 : Nat) (Option.none : Option Jvm.ClassFile.FieldType)).before args0 about1 = true := code_word (m := ⟨7, 5⟩) (meth := k7m5) (c := k7c5) (by decide +kernel) rfl rfl rfl (by decide +kernel)
set_option maxRecDepth 65536 in
theorem w_c13 : (Jvm.Cond.code ({ cls := "java/lang/StringUTF16", name := "compress", desc := "([CII)[B" } : Jvm.MethodName) jdk_52_method_16_code (6 : Nat) (Option.some (Jvm.ClassFile.FieldType.array Jvm.ClassFile.FieldType.byte))).before args0 about1 = true := code_word (m := ⟨10, 2⟩) (meth := k10m2) (c := k10c2) (by decide +kernel) rfl rfl rfl (by decide +kernel)
set_option maxRecDepth 65536 in
theorem w_c14 : (Jvm.Cond.code ({ cls := "java/lang/StringUTF16", name := "compress", desc := "([CI[BII)I" } : Jvm.MethodName) jdk_52_method_21_code (7 : Nat) (Option.some Jvm.ClassFile.FieldType.int)).before args0 about1 = true := code_word (m := ⟨10, 3⟩) (meth := k10m3) (c := k10c3) (by decide +kernel) rfl rfl rfl (by decide +kernel)
set_option maxRecDepth 65536 in
theorem w_c15 : (Jvm.Cond.code ({ cls := "java/lang/StringUTF16", name := "coderFromArrayLen", desc := "([BI)B" } : Jvm.MethodName) jdk_52_method_15_code (2 : Nat) (Option.some Jvm.ClassFile.FieldType.byte)).before args0 about1 = true := code_word (m := ⟨10, 1⟩) (meth := k10m1) (c := k10c1) (by decide +kernel) rfl rfl rfl (by decide +kernel)
def codes1 : List Jvm.Cond := [Jvm.Cond.code x code maxLocals ret, Jvm.Cond.code ({ cls := "com/example/liburiref/liburiref/UriReferenceEqualsPinLaw", name := "text", desc := "(ICC)Ljava/lang/String;" } : Jvm.MethodName) method_2_code (3 : Nat) (Option.some (Jvm.ClassFile.FieldType.object "java/lang/String")), Jvm.Cond.code ({ cls := "java/lang/String", name := "<init>", desc := "([C)V" } : Jvm.MethodName) jdk_42_method_3_code (2 : Nat) (Option.none : Option Jvm.ClassFile.FieldType), Jvm.Cond.code ({ cls := "java/lang/String", name := "<init>", desc := "([CIILjava/lang/Void;)V" } : Jvm.MethodName) jdk_42_method_149_code (6 : Nat) (Option.none : Option Jvm.ClassFile.FieldType), Jvm.Cond.code ({ cls := "java/lang/Object", name := "<init>", desc := "()V" } : Jvm.MethodName) object_method_1_code (1 : Nat) (Option.none : Option Jvm.ClassFile.FieldType), Jvm.Cond.code ({ cls := "com/example/liburiref/liburiref/UriReference", name := "<init>", desc := "(Ljava/lang/String;Ljava/lang/String;Ljava/lang/String;Ljava/lang/String;Ljava/lang/String;Ljava/lang/String;Ljava/lang/String;Ljava/lang/String;)V" } : Jvm.MethodName) prog_7_method_1_code (9 : Nat) (Option.none : Option Jvm.ClassFile.FieldType), Jvm.Cond.code ({ cls := "com/example/liburiref/liburiref/UriReference", name := "equals", desc := "(Ljava/lang/Object;)Z" } : Jvm.MethodName) prog_7_method_41_code (3 : Nat) (Option.some Jvm.ClassFile.FieldType.boolean), Jvm.Cond.code ({ cls := "java/lang/String", name := "equals", desc := "(Ljava/lang/Object;)Z" } : Jvm.MethodName) jdk_42_method_66_code (3 : Nat) (Option.some Jvm.ClassFile.FieldType.boolean), Jvm.Cond.code ({ cls := "java/lang/StringLatin1", name := "equals", desc := "([B[B)Z" } : Jvm.MethodName) jdk_43_method_13_code (3 : Nat) (Option.some Jvm.ClassFile.FieldType.boolean), Jvm.Cond.code ({ cls := "java/lang/String", name := "valueOf", desc := "(C)Ljava/lang/String;" } : Jvm.MethodName) jdk_42_method_139_code (1 : Nat) (Option.some (Jvm.ClassFile.FieldType.object "java/lang/String")), Jvm.Cond.code ({ cls := "java/lang/StringLatin1", name := "canEncode", desc := "(C)Z" } : Jvm.MethodName) jdk_43_method_3_code (1 : Nat) (Option.some Jvm.ClassFile.FieldType.boolean), Jvm.Cond.code ({ cls := "java/lang/StringLatin1", name := "toBytes", desc := "(C)[B" } : Jvm.MethodName) jdk_43_method_46_code (1 : Nat) (Option.some (Jvm.ClassFile.FieldType.array Jvm.ClassFile.FieldType.byte)), Jvm.Cond.code ({ cls := "java/lang/String", name := "<init>", desc := "([BB)V" } : Jvm.MethodName) jdk_42_method_151_code (3 : Nat) (Option.none : Option Jvm.ClassFile.FieldType), Jvm.Cond.code ({ cls := "java/lang/StringUTF16", name := "compress", desc := "([CII)[B" } : Jvm.MethodName) jdk_52_method_16_code (6 : Nat) (Option.some (Jvm.ClassFile.FieldType.array Jvm.ClassFile.FieldType.byte)), Jvm.Cond.code ({ cls := "java/lang/StringUTF16", name := "compress", desc := "([CI[BII)I" } : Jvm.MethodName) jdk_52_method_21_code (7 : Nat) (Option.some Jvm.ClassFile.FieldType.int), Jvm.Cond.code ({ cls := "java/lang/StringUTF16", name := "coderFromArrayLen", desc := "([BI)B" } : Jvm.MethodName) jdk_52_method_15_code (2 : Nat) (Option.some Jvm.ClassFile.FieldType.byte)]
set_option maxRecDepth 65536 in
theorem codes_eq : words1.filter isCode = codes1 := rfl
theorem w_codes : ∀ c ∈ words1.filter isCode, c.before args0 about1 = true := by
  rw [codes_eq]
  intro c hc
  simp only [codes1, List.mem_cons, List.not_mem_nil, or_false] at hc
  rcases hc with rfl | rfl | rfl | rfl | rfl | rfl | rfl | rfl | rfl | rfl | rfl | rfl | rfl | rfl | rfl | rfl
  · exact w_c0
  · exact w_c1
  · exact w_c2
  · exact w_c3
  · exact w_c4
  · exact w_c5
  · exact w_c6
  · exact w_c7
  · exact w_c8
  · exact w_c9
  · exact w_c10
  · exact w_c11
  · exact w_c12
  · exact w_c13
  · exact w_c14
  · exact w_c15
set_option maxRecDepth 65536 in
theorem w_t1 : (words1.take 24).all (fun c => isCode c || c.before args0 about1) = true := by decide +kernel
set_option maxRecDepth 65536 in
theorem w_t2 : ((words1.drop 24).take 24).all (fun c => isCode c || c.before args0 about1) = true := by decide +kernel
set_option maxRecDepth 65536 in
theorem w_t3 : (((words1.drop 24).drop 24).take 24).all (fun c => isCode c || c.before args0 about1) = true := by decide +kernel
set_option maxRecDepth 65536 in
theorem w_t4 : (((words1.drop 24).drop 24).drop 24).all (fun c => isCode c || c.before args0 about1) = true := by decide +kernel
theorem w_tables : (allAtoms (Jvm.Cond.code x code maxLocals ret :: tables_1)).before args0 about1 = true := by
  rw [allAtoms_all]
  show words1.all (fun c => c.before args0 about1) = true
  refine all_split ?_ w_codes
  rw [← List.take_append_drop 24 words1, List.all_append, w_t1, ← List.take_append_drop 24 (words1.drop 24), List.all_append, w_t2, ← List.take_append_drop 24 ((words1.drop 24).drop 24), List.all_append, w_t3, w_t4]
  rfl
set_option maxRecDepth 65536 in
theorem w_rest : rest_1_c.before args0 about1 = true := by decide +kernel
set_option maxRecDepth 65536 in
theorem w_case : (Jvm.Cond.and given_1 narrow_1).before args0 about1 = true := by decide +kernel
set_option maxRecDepth 65536 in
theorem w_consts : constsHeld consts_1 about1 := Jvm.Lit.constsHeldB_iff.mp (by decide +kernel)
theorem w_applies : (headSpec (Jvm.Cond.code x code maxLocals ret :: tables_1) room_1).applies x e0.platform about1 = true :=
  (Spec.applies_iff w_frames).mpr ⟨w_running, w_runnable, w_alone, w_named, w_hears, w_ripe, w_room, w_tables⟩
theorem atStart : AtStart classFile x code maxLocals ret World_1 tables_1 room_1 Calls_1 rest_1 Pre_1 launch0 p0 e0 about1 theMethod args0 below0 :=
  ⟨lists_1, trivial, launch0.admits_env _ _ _, launch0.least_env, fairChoices_fair.cas, fairChoices_fair.clock, w_frames, w_args, w_heap, w_applies, ⟨w_consts, trivial⟩, w_rest, w_case⟩
end start1
theorem witness_1 : WitnessClaimed_1 := ⟨start1.p0, start1.e0, start1.about1, start1.theMethod, start1.args0, start1.below0, start1.atStart⟩
end Jvm.Pilot.@@N@@
