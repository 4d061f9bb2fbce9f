import JvmDerived
import JvmDerived.Pilot.@@N@@Statement
import JvmDerived.Pilot.@@N@@Code
set_option linter.unusedVariables false
set_option linter.unusedSimpArgs false

namespace Jvm.OwnW
open Sem ClassFile Op Lib Jvm.Stand Jvm.Free Jvm.LawKit Jvm.RoadKit
theorem own_notFace {s : State} {args : Array Value} {C7 : String} {x7 z7 y : MethodName} (w : (Cond.selects C7 x7 z7).before args s = true) (hc : z7.cls = y.cls) : NotFace s y := fun r0 h0 => by
  obtain ⟨c, r, m, q1, q2, q3, q4, mk, q5, q6⟩ := Cond.selects_spec w
  have e1 := findClass_of_methodNamed q3
  have e2 := findClass_of_methodNamed h0
  rw [hc] at e1
  have e3 : m.cls = r0.cls := Option.some.inj (e1.symm.trans e2)
  exact ⟨mk, e3 ▸ q5, q6⟩
/-- a method: its name, bytes, number of variables, return type, room -/
abbrev MD := MethodName × ByteArray × Nat × Option FieldType × Room
/-- what a wide walk knows besides: the String constants that it reads, and addresses that are no such String's -/
abbrev PX := List (String × Nat) × (Addr → Prop)
abbrev PX.grow (P : PX) (h h' : Heap) : PX := (P.1, fun x => P.2 x ∨ (h.size ≤ x ∧ x < h'.size))
/-- x is none of the constants' cells -/
def Sf (Z : State) (P : PX) (h : Heap) (x : Addr) : Prop := P.2 x ∨ ∀ vm, Z.vm.Alike vm → Safe Z P.1 vm h x
/-- the state over which the walk stands: the start itself, or (wide) the start with later tables -/
def KB (wd : Bool) (Z : State) (P : PX) (s s' : State) (h : Heap) : Prop :=
  (wd = false ∧ s' = s) ∨ (wd = true ∧ ∃ vm0 k0, s' = s.setVm vm0 ∧ s.Since vm0 k0 ∧ k0 ≤ h.size ∧ CHr Z P.1 s.vm s.heap vm0 h ∧ ∀ x, P.2 x → Safe Z P.1 vm0 h x ∧ x < h.size)
theorem KB.keep {wd : Bool} {Z : State} {P : PX} {s s' : State} {h h' : Heap} {ws : List Addr} (B : KB wd Z P s s' h) (hZ : Z.Warmed39 s'.vm) (K : Keep h h' ws) (q : wd = true → ∀ x ∈ ws, Sf Z P h x) : KB wd Z (P.grow h h') s s' h' := by
  rcases B with ⟨a, b⟩ | ⟨a, vm0, k0, rfl, c, d, e, f⟩
  · exact Or.inl ⟨a, b⟩
  · have hs : ∀ x ∈ ws, Safe Z P.1 vm0 h x := fun x hx => (q a x hx).elim (fun r => (f x r).1) (fun r => r vm0 hZ.alike)
    refine Or.inr ⟨a, vm0, k0, rfl, c, Nat.le_trans d K.1, e.trans (CHr.keep K hs e.1), fun x hx => ?_⟩
    rcases hx with hx | ⟨hx, hx'⟩
    · exact ⟨Safe.keep K hs e.1 (f x hx).1, Nat.lt_of_lt_of_le (f x hx).2 K.1⟩
    · exact ⟨Safe.keep K hs e.1 (Safe.new hx), hx'⟩
theorem KB.ext {wd : Bool} {Z : State} {P : PX} {s s' : State} {h h' : Heap} (B : KB wd Z P s s' h) (E : Ext h h') : KB wd Z (P.grow h h') s s' h' := by
  rcases B with ⟨a, b⟩ | ⟨a, vm0, k0, rfl, c, d, e, f⟩
  · exact Or.inl ⟨a, b⟩
  · refine Or.inr ⟨a, vm0, k0, rfl, c, Nat.le_trans d E.1, e.trans (CHr.ext E e.1), fun x hx => ?_⟩
    rcases hx with hx | ⟨hx, hx'⟩
    · exact ⟨Safe.ext E e.1 (f x hx).1, Nat.lt_of_lt_of_le (f x hx).2 E.1⟩
    · exact ⟨Safe.ext E e.1 (Safe.new hx), hx'⟩
theorem KB.wr {wd : Bool} {Z : State} {P : PX} {s s' : State} {h h' : Heap} {a : Addr} {sl : Nat} {v : Value} (B : KB wd Z P s s' h) (hZ : Z.Warmed39 s'.vm) (W : Wr h h' a sl v) (q : wd = true → Sf Z P h a) : KB wd Z P s s' h' := by
  rcases B with ⟨a, b⟩ | ⟨a, vm0, k0, rfl, c, d, e, f⟩
  · exact Or.inl ⟨a, b⟩
  · have hs : Safe Z P.1 vm0 h _ := (q a).elim (fun r => (f _ r).1) (fun r => r vm0 hZ.alike)
    exact Or.inr ⟨a, vm0, k0, rfl, c, by rw [W.size]; exact d, e.trans (CHr.wr W hs e.1), fun x hx => ⟨Safe.wr W hs e.1 (f x hx).1, by rw [W.size]; exact (f x hx).2⟩⟩
theorem KB.sub {wd : Bool} {Z : State} {P : PX} {S' : Addr → Prop} {s s' : State} {h : Heap} (B : KB wd Z P s s' h) (q : ∀ x, S' x → P.2 x) : KB wd Z (P.1, S') s s' h :=
  B.imp id fun ⟨a, vm0, k0, b, c, d, e, f⟩ => ⟨a, vm0, k0, b, c, d, e, fun x hx => f x (q x hx)⟩
def KE (wd : Bool) (Z s : State) (v : Option Value) (t : State) (L : List Loc) (EL : List (String × Nat)) (k n : Nat) : Prop :=
  (wd = false ∧ FrameEnd s (.returned v) t L k n) ∨ (wd = true ∧ CHr Z EL s.vm s.heap t.vm t.heap ∧ ReturnedEndW s (.returned v) t L k n)
/-- the walk's judgement: from here the method returns, and what it leaves meets Q -/
def KW (wd : Bool) (l : Launch) (Z : State) (M : MD) (n0 : Nat) (Q : Option Value → Heap → Prop) (P : PX) (h : Heap) (k n : Nat) (pc : Nat) (Ls : Array Slot) (st : List Value) : Prop :=
  ∀ (p : Program) (e : Env) (s s' : State) (m : MethodId) (args : Array Value) (below : List Frame) (meth : Method) (c : Code),
    p.tables.exec = Jvm.exec → c.code = M.2.1 → c.maxLocals = M.2.2.1 → s'.vm.findClass M.1.cls = some m.cls → meth.name = M.1.name → meth.sig.returnType = M.2.2.2.1 → meth.locks = false → Z.Warmed39 s'.vm → KB wd Z P s s' h → (wd = true → ∃ a0, EW Z a0 P.1) →
    ∀ (T : State) (locs : List Loc), Stand p l e M.2.2.2.2 s' m args below meth c T locs k n → Fr n0 locs → T.heap = h →
    ∃ t v L, Steps p.tables e below (T.setTop (mkF m pc Ls st)) t ∧ t.status = .running ∧ Ended t below (.returned v) ∧ Fr n0 L ∧ Q v t.heap ∧ KE wd Z s v t L P.1 M.2.2.2.2.cells M.2.2.2.2.slots
section
variable {wd : Bool} {l : Launch} {Z : State} {M : MD} {n0 : Nat} {Q : Option Value → Heap → Prop} {P : PX} {h : Heap} {k n pc pc' : Nat} {Ls Ls' : Array Slot} {st st' rest : List Value} {a0 : Array Value}
theorem KW.step (W : KW wd l Z M n0 Q P h k n pc' Ls' st') (f : ∀ (p : Program) (e : Env) (s' T : State) (m : MethodId) (args : Array Value) (below : List Frame) (meth : Method) (c : Code) (locs : List Loc), p.tables.exec = Jvm.exec → c.code = M.2.1 → s'.vm.findClass M.1.cls = some m.cls → Z.Warmed39 s'.vm → Stand p l e M.2.2.2.2 s' m args below meth c T locs k n →
    ∀ target, Steps p.tables e below (T.setTop (mkF m pc' Ls' st')) target → Steps p.tables e below (T.setTop (mkF m pc Ls st)) target) : KW wd l Z M n0 Q P h k n pc Ls st := by
  intro p e s s' m args below meth c hx hby hml hown hnm hret hlk hZ hB hI T locs X N eT
  obtain ⟨t, v, L, r, rr⟩ := W p e s s' m args below meth c hx hby hml hown hnm hret hlk hZ hB hI T locs X N eT
  exact ⟨t, v, L, f p e s' T m args below meth c locs hx hby hown hZ X t r, rr⟩
theorem KW.move (W : KW wd l Z M n0 Q P h k n pc' Ls' st') (f : ∀ (p : Program) (e : Env) (s' T : State) (m : MethodId) (args : Array Value) (below : List Frame) (meth : Method) (c : Code) (locs : List Loc), p.tables.exec = Jvm.exec → c.code = M.2.1 → c.maxLocals = M.2.2.1 → s'.vm.findClass M.1.cls = some m.cls → Z.Warmed39 s'.vm → Stand p l e M.2.2.2.2 s' m args below meth c T locs k n → T.heap = h →
    ∃ T', Stand p l e M.2.2.2.2 s' m args below meth c T' locs k n ∧ T'.heap = h ∧ ∀ target, Steps p.tables e below (T'.setTop (mkF m pc' Ls' st')) target → Steps p.tables e below (T.setTop (mkF m pc Ls st)) target) : KW wd l Z M n0 Q P h k n pc Ls st := by
  intro p e s s' m args below meth c hx hby hml hown hnm hret hlk hZ hB hI T locs X N eT
  obtain ⟨T', X', eT', st⟩ := f p e s' T m args below meth c locs hx hby hml hown hZ X eT
  obtain ⟨t, v, L, r, rr⟩ := W p e s s' m args below meth c hx hby hml hown hnm hret hlk hZ hB hI T' locs X' N eT'
  exact ⟨t, v, L, st t r, rr⟩
theorem k_aloadN {i : Fin 4} {v : Value} (hd : decode M.2.1 pc = .ok (.aload_n i, 1)) (hp : pc + 1 = pc') (hl : Ls[i.val]? = some (.val v)) (hv : v.isRef = true) (W : KW wd l Z M n0 Q P h k n pc' Ls (v :: st)) : KW wd l Z M n0 Q P h k n pc Ls st := by
  subst hp; exact W.step fun p e s' T m args below meth c locs hx hby hown hZ X target r => XS.aloadN X.here hx rfl (hb hby hd) hl hv r
theorem k_aload {i : Nat} {v : Value} (hd : decode M.2.1 pc = .ok (.aload i, 2)) (hp : pc + 2 = pc') (hl : Ls[i]? = some (.val v)) (hv : v.isRef = true) (W : KW wd l Z M n0 Q P h k n pc' Ls (v :: st)) : KW wd l Z M n0 Q P h k n pc Ls st := by
  subst hp; exact W.step fun p e s' T m args below meth c locs hx hby hown hZ X target r => XS.aload X.here hx rfl (hb hby hd) hl hv r
theorem k_iloadN {i : Fin 4} {v : Int32} (hd : decode M.2.1 pc = .ok (.iload_n i, 1)) (hp : pc + 1 = pc') (hl : Ls[i.val]? = some (.val (.int v))) (W : KW wd l Z M n0 Q P h k n pc' Ls (.int v :: st)) : KW wd l Z M n0 Q P h k n pc Ls st := by
  subst hp; exact W.step fun p e s' T m args below meth c locs hx hby hown hZ X target r => XS.iloadN X.here hx rfl (hb hby hd) hl r
theorem k_iload {i : Nat} {v : Int32} (hd : decode M.2.1 pc = .ok (.iload i, 2)) (hp : pc + 2 = pc') (hl : Ls[i]? = some (.val (.int v))) (W : KW wd l Z M n0 Q P h k n pc' Ls (.int v :: st)) : KW wd l Z M n0 Q P h k n pc Ls st := by
  subst hp; exact W.step fun p e s' T m args below meth c locs hx hby hown hZ X target r => XS.iload X.here hx rfl (hb hby hd) hl r
theorem k_lloadN {i : Fin 4} {v : Int64} (hd : decode M.2.1 pc = .ok (.lload_n i, 1)) (hp : pc + 1 = pc') (hl : Ls[i.val]? = some (.val (.long v))) (W : KW wd l Z M n0 Q P h k n pc' Ls (.long v :: st)) : KW wd l Z M n0 Q P h k n pc Ls st := by
  subst hp; exact W.step fun p e s' T m args below meth c locs hx hby hown hZ X target r => XS.lloadN X.here hx rfl (hb hby hd) hl r
theorem k_lload {i : Nat} {v : Int64} (hd : decode M.2.1 pc = .ok (.lload i, 2)) (hp : pc + 2 = pc') (hl : Ls[i]? = some (.val (.long v))) (W : KW wd l Z M n0 Q P h k n pc' Ls (.long v :: st)) : KW wd l Z M n0 Q P h k n pc Ls st := by
  subst hp; exact W.step fun p e s' T m args below meth c locs hx hby hown hZ X target r => XS.lload X.here hx rfl (hb hby hd) hl r
theorem k_istoreN {i : Fin 4} {x : Int32} (hd : decode M.2.1 pc = .ok (.istore_n i, 1)) (hp : pc + 1 = pc') (hl : storeLocals Ls i.val (.int x) = some Ls') (W : KW wd l Z M n0 Q P h k n pc' Ls' st) : KW wd l Z M n0 Q P h k n pc Ls (.int x :: st) := by
  subst hp; exact W.step fun p e s' T m args below meth c locs hx hby hown hZ X target r => XS.istoreN X.here hx rfl (hb hby hd) rfl hl r
theorem k_istore {i : Nat} {x : Int32} (hd : decode M.2.1 pc = .ok (.istore i, 2)) (hp : pc + 2 = pc') (hl : storeLocals Ls i (.int x) = some Ls') (W : KW wd l Z M n0 Q P h k n pc' Ls' st) : KW wd l Z M n0 Q P h k n pc Ls (.int x :: st) := by
  subst hp; exact W.step fun p e s' T m args below meth c locs hx hby hown hZ X target r => XS.istore X.here hx rfl (hb hby hd) rfl hl r
theorem k_lstoreN {i : Fin 4} {x : Int64} (hd : decode M.2.1 pc = .ok (.lstore_n i, 1)) (hp : pc + 1 = pc') (hl : storeLocals Ls i.val (.long x) = some Ls') (W : KW wd l Z M n0 Q P h k n pc' Ls' st) : KW wd l Z M n0 Q P h k n pc Ls (.long x :: st) := by
  subst hp; exact W.step fun p e s' T m args below meth c locs hx hby hown hZ X target r => XS.lstoreN X.here hx rfl (hb hby hd) rfl hl r
theorem k_lstore {i : Nat} {x : Int64} (hd : decode M.2.1 pc = .ok (.lstore i, 2)) (hp : pc + 2 = pc') (hl : storeLocals Ls i (.long x) = some Ls') (W : KW wd l Z M n0 Q P h k n pc' Ls' st) : KW wd l Z M n0 Q P h k n pc Ls (.long x :: st) := by
  subst hp; exact W.step fun p e s' T m args below meth c locs hx hby hown hZ X target r => XS.lstore X.here hx rfl (hb hby hd) rfl hl r
theorem k_astoreN {i : Fin 4} {x : Value} (hd : decode M.2.1 pc = .ok (.astore_n i, 1)) (hp : pc + 1 = pc') (hv : x.isRef = true) (hl : storeLocals Ls i.val x = some Ls') (W : KW wd l Z M n0 Q P h k n pc' Ls' st) : KW wd l Z M n0 Q P h k n pc Ls (x :: st) := by
  subst hp; exact W.step fun p e s' T m args below meth c locs hx hby hown hZ X target r => XS.astoreN X.here hx rfl (hb hby hd) rfl hv hl r
theorem k_astore {i : Nat} {x : Value} (hd : decode M.2.1 pc = .ok (.astore i, 2)) (hp : pc + 2 = pc') (hv : x.isRef = true) (hl : storeLocals Ls i x = some Ls') (W : KW wd l Z M n0 Q P h k n pc' Ls' st) : KW wd l Z M n0 Q P h k n pc Ls (x :: st) := by
  subst hp; exact W.step fun p e s' T m args below meth c locs hx hby hown hZ X target r => XS.astore X.here hx rfl (hb hby hd) rfl hv hl r
theorem k_iconst {i : Int} {z : Int32} (hd : decode M.2.1 pc = .ok (.iconst i, 1)) (hp : pc + 1 = pc') (hz : Int32.ofInt i = z) (W : KW wd l Z M n0 Q P h k n pc' Ls (.int z :: st)) : KW wd l Z M n0 Q P h k n pc Ls st := by
  subst hp; exact W.step fun p e s' T m args below meth c locs hx hby hown hZ X target r => XS.iconst X.here hx rfl (hb hby hd) (by rw [hz]; exact r)
theorem k_bipush {i : Int} {z : Int32} (hd : decode M.2.1 pc = .ok (.bipush i, 2)) (hp : pc + 2 = pc') (hz : (Int8.ofInt i).toInt32 = z) (W : KW wd l Z M n0 Q P h k n pc' Ls (.int z :: st)) : KW wd l Z M n0 Q P h k n pc Ls st := by
  subst hp; exact W.step fun p e s' T m args below meth c locs hx hby hown hZ X target r => XS.bipush X.here hx rfl (hb hby hd) (by rw [hz]; exact r)
theorem k_sipush {i : Int} {z : Int32} (hd : decode M.2.1 pc = .ok (.sipush i, 3)) (hp : pc + 3 = pc') (hz : (Int16.ofInt i).toInt32 = z) (W : KW wd l Z M n0 Q P h k n pc' Ls (.int z :: st)) : KW wd l Z M n0 Q P h k n pc Ls st := by
  subst hp; exact W.step fun p e s' T m args below meth c locs hx hby hown hZ X target r => XS.sipush X.here hx rfl (hb hby hd) (by rw [hz]; exact r)
theorem k_lconst {i : Fin 2} {z : Int64} (hd : decode M.2.1 pc = .ok (.lconst i, 1)) (hp : pc + 1 = pc') (hz : Int64.ofNat i = z) (W : KW wd l Z M n0 Q P h k n pc' Ls (.long z :: st)) : KW wd l Z M n0 Q P h k n pc Ls st := by
  subst hp; exact W.step fun p e s' T m args below meth c locs hx hby hown hZ X target r => XS.lconst X.here hx rfl (hb hby hd) (by rw [hz]; exact r)
theorem k_aconstNull (hd : decode M.2.1 pc = .ok (.aconst_null, 1)) (hp : pc + 1 = pc') (W : KW wd l Z M n0 Q P h k n pc' Ls (.null :: st)) : KW wd l Z M n0 Q P h k n pc Ls st := by
  subst hp; exact W.step fun p e s' T m args below meth c locs hx hby hown hZ X target r => XS.aconstNull X.here hx rfl (hb hby hd) r
theorem k_iadd {x y : Int32} (hd : decode M.2.1 pc = .ok (.iadd, 1)) (hp : pc + 1 = pc') (W : KW wd l Z M n0 Q P h k n pc' Ls (.int (x + y) :: st)) : KW wd l Z M n0 Q P h k n pc Ls (.int y :: .int x :: st) := by
  subst hp; exact W.step fun p e s' T m args below meth c locs hx hby hown hZ X target r => XS.iadd X.here hx rfl (hb hby hd) rfl r
theorem k_isub {x y : Int32} (hd : decode M.2.1 pc = .ok (.isub, 1)) (hp : pc + 1 = pc') (W : KW wd l Z M n0 Q P h k n pc' Ls (.int (x - y) :: st)) : KW wd l Z M n0 Q P h k n pc Ls (.int y :: .int x :: st) := by
  subst hp; exact W.step fun p e s' T m args below meth c locs hx hby hown hZ X target r => XS.isub X.here hx rfl (hb hby hd) rfl r
theorem k_iand {x y : Int32} (hd : decode M.2.1 pc = .ok (.iand, 1)) (hp : pc + 1 = pc') (W : KW wd l Z M n0 Q P h k n pc' Ls (.int (x &&& y) :: st)) : KW wd l Z M n0 Q P h k n pc Ls (.int y :: .int x :: st) := by
  subst hp; exact W.step fun p e s' T m args below meth c locs hx hby hown hZ X target r => XS.iand X.here hx rfl (hb hby hd) rfl r
theorem k_imul {x y : Int32} (hd : decode M.2.1 pc = .ok (.imul, 1)) (hp : pc + 1 = pc') (W : KW wd l Z M n0 Q P h k n pc' Ls (.int (x * y) :: st)) : KW wd l Z M n0 Q P h k n pc Ls (.int y :: .int x :: st) := by
  subst hp; exact W.step fun p e s' T m args below meth c locs hx hby hown hZ X target r => XS.imul X.here hx rfl (hb hby hd) rfl r
theorem k_ixor {x y : Int32} (hd : decode M.2.1 pc = .ok (.ixor, 1)) (hp : pc + 1 = pc') (W : KW wd l Z M n0 Q P h k n pc' Ls (.int (x ^^^ y) :: st)) : KW wd l Z M n0 Q P h k n pc Ls (.int y :: .int x :: st) := by
  subst hp; exact W.step fun p e s' T m args below meth c locs hx hby hown hZ X target r => XS.ixor X.here hx rfl (hb hby hd) rfl r
theorem k_ior {x y : Int32} (hd : decode M.2.1 pc = .ok (.ior, 1)) (hp : pc + 1 = pc') (W : KW wd l Z M n0 Q P h k n pc' Ls (.int (x ||| y) :: st)) : KW wd l Z M n0 Q P h k n pc Ls (.int y :: .int x :: st) := by
  subst hp; exact W.step fun p e s' T m args below meth c locs hx hby hown hZ X target r => XS.ior X.here hx rfl (hb hby hd) rfl r
theorem k_ishl {x y : Int32} (hd : decode M.2.1 pc = .ok (.ishl, 1)) (hp : pc + 1 = pc') (W : KW wd l Z M n0 Q P h k n pc' Ls (.int (x <<< (y &&& 31)) :: st)) : KW wd l Z M n0 Q P h k n pc Ls (.int y :: .int x :: st) := by
  subst hp; exact W.step fun p e s' T m args below meth c locs hx hby hown hZ X target r => XS.ishl X.here hx rfl (hb hby hd) rfl r
theorem k_ishr {x y : Int32} (hd : decode M.2.1 pc = .ok (.ishr, 1)) (hp : pc + 1 = pc') (W : KW wd l Z M n0 Q P h k n pc' Ls (.int (x >>> (y &&& 31)) :: st)) : KW wd l Z M n0 Q P h k n pc Ls (.int y :: .int x :: st) := by
  subst hp; exact W.step fun p e s' T m args below meth c locs hx hby hown hZ X target r => XS.ishr X.here hx rfl (hb hby hd) rfl r
theorem k_iushr {x y : Int32} (hd : decode M.2.1 pc = .ok (.iushr, 1)) (hp : pc + 1 = pc') (W : KW wd l Z M n0 Q P h k n pc' Ls (.int ((x.toUInt32 >>> (y &&& 31).toUInt32).toInt32) :: st)) : KW wd l Z M n0 Q P h k n pc Ls (.int y :: .int x :: st) := by
  subst hp; exact W.step fun p e s' T m args below meth c locs hx hby hown hZ X target r => XS.iushr X.here hx rfl (hb hby hd) rfl r
theorem k_idiv {x y : Int32} (hd : decode M.2.1 pc = .ok (.idiv, 1)) (hp : pc + 1 = pc') (hy : y ≠ 0) (W : KW wd l Z M n0 Q P h k n pc' Ls (.int (x / y) :: st)) : KW wd l Z M n0 Q P h k n pc Ls (.int y :: .int x :: st) := by
  subst hp; exact W.step fun p e s' T m args below meth c locs hx hby hown hZ X target r => XS.idiv X.here hx rfl (hb hby hd) rfl hy r
theorem k_irem {x y : Int32} (hd : decode M.2.1 pc = .ok (.irem, 1)) (hp : pc + 1 = pc') (hy : y ≠ 0) (W : KW wd l Z M n0 Q P h k n pc' Ls (.int (x % y) :: st)) : KW wd l Z M n0 Q P h k n pc Ls (.int y :: .int x :: st) := by
  subst hp; exact W.step fun p e s' T m args below meth c locs hx hby hown hZ X target r => iremM X hx rfl (hb hby hd) rfl hy r
theorem k_ineg {x : Int32} (hd : decode M.2.1 pc = .ok (.ineg, 1)) (hp : pc + 1 = pc') (W : KW wd l Z M n0 Q P h k n pc' Ls (.int (-x) :: st)) : KW wd l Z M n0 Q P h k n pc Ls (.int x :: st) := by
  subst hp; exact W.step fun p e s' T m args below meth c locs hx hby hown hZ X target r => XS.ineg X.here hx rfl (hb hby hd) rfl r
theorem k_ladd {x y : Int64} (hd : decode M.2.1 pc = .ok (.ladd, 1)) (hp : pc + 1 = pc') (W : KW wd l Z M n0 Q P h k n pc' Ls (.long (x + y) :: st)) : KW wd l Z M n0 Q P h k n pc Ls (.long y :: .long x :: st) := by
  subst hp; exact W.step fun p e s' T m args below meth c locs hx hby hown hZ X target r => XS.ladd X.here hx rfl (hb hby hd) rfl r
theorem k_lsub {x y : Int64} (hd : decode M.2.1 pc = .ok (.lsub, 1)) (hp : pc + 1 = pc') (W : KW wd l Z M n0 Q P h k n pc' Ls (.long (x - y) :: st)) : KW wd l Z M n0 Q P h k n pc Ls (.long y :: .long x :: st) := by
  subst hp; exact W.step fun p e s' T m args below meth c locs hx hby hown hZ X target r => XS.lsub X.here hx rfl (hb hby hd) rfl r
theorem k_lmul {x y : Int64} (hd : decode M.2.1 pc = .ok (.lmul, 1)) (hp : pc + 1 = pc') (W : KW wd l Z M n0 Q P h k n pc' Ls (.long (x * y) :: st)) : KW wd l Z M n0 Q P h k n pc Ls (.long y :: .long x :: st) := by
  subst hp; exact W.step fun p e s' T m args below meth c locs hx hby hown hZ X target r => XS.lmul X.here hx rfl (hb hby hd) rfl r
theorem k_land {x y : Int64} (hd : decode M.2.1 pc = .ok (.land, 1)) (hp : pc + 1 = pc') (W : KW wd l Z M n0 Q P h k n pc' Ls (.long (x &&& y) :: st)) : KW wd l Z M n0 Q P h k n pc Ls (.long y :: .long x :: st) := by
  subst hp; exact W.step fun p e s' T m args below meth c locs hx hby hown hZ X target r => XS.land X.here hx rfl (hb hby hd) rfl r
theorem k_lor {x y : Int64} (hd : decode M.2.1 pc = .ok (.lor, 1)) (hp : pc + 1 = pc') (W : KW wd l Z M n0 Q P h k n pc' Ls (.long (x ||| y) :: st)) : KW wd l Z M n0 Q P h k n pc Ls (.long y :: .long x :: st) := by
  subst hp; exact W.step fun p e s' T m args below meth c locs hx hby hown hZ X target r => XS.lor X.here hx rfl (hb hby hd) rfl r
theorem k_lxor {x y : Int64} (hd : decode M.2.1 pc = .ok (.lxor, 1)) (hp : pc + 1 = pc') (W : KW wd l Z M n0 Q P h k n pc' Ls (.long (x ^^^ y) :: st)) : KW wd l Z M n0 Q P h k n pc Ls (.long y :: .long x :: st) := by
  subst hp; exact W.step fun p e s' T m args below meth c locs hx hby hown hZ X target r => XS.lxor X.here hx rfl (hb hby hd) rfl r
theorem k_ldiv {x y : Int64} (hd : decode M.2.1 pc = .ok (.ldiv, 1)) (hp : pc + 1 = pc') (hy : y ≠ 0) (W : KW wd l Z M n0 Q P h k n pc' Ls (.long (x / y) :: st)) : KW wd l Z M n0 Q P h k n pc Ls (.long y :: .long x :: st) := by
  subst hp; exact W.step fun p e s' T m args below meth c locs hx hby hown hZ X target r => XS.ldiv X.here hx rfl (hb hby hd) rfl hy r
theorem k_lrem {x y : Int64} (hd : decode M.2.1 pc = .ok (.lrem, 1)) (hp : pc + 1 = pc') (hy : y ≠ 0) (W : KW wd l Z M n0 Q P h k n pc' Ls (.long (x % y) :: st)) : KW wd l Z M n0 Q P h k n pc Ls (.long y :: .long x :: st) := by
  subst hp; exact W.step fun p e s' T m args below meth c locs hx hby hown hZ X target r => XS.lrem X.here hx rfl (hb hby hd) rfl hy (by rw [lrem_mod]; exact r)
theorem k_lshl {x : Int64} {y : Int32} (hd : decode M.2.1 pc = .ok (.lshl, 1)) (hp : pc + 1 = pc') (W : KW wd l Z M n0 Q P h k n pc' Ls (.long (x <<< (y &&& 63).toInt64) :: st)) : KW wd l Z M n0 Q P h k n pc Ls (.int y :: .long x :: st) := by
  subst hp; exact W.step fun p e s' T m args below meth c locs hx hby hown hZ X target r => XS.lshl X.here hx rfl (hb hby hd) rfl r
theorem k_lshr {x : Int64} {y : Int32} (hd : decode M.2.1 pc = .ok (.lshr, 1)) (hp : pc + 1 = pc') (W : KW wd l Z M n0 Q P h k n pc' Ls (.long (x >>> (y &&& 63).toInt64) :: st)) : KW wd l Z M n0 Q P h k n pc Ls (.int y :: .long x :: st) := by
  subst hp; exact W.step fun p e s' T m args below meth c locs hx hby hown hZ X target r => XS.lshr X.here hx rfl (hb hby hd) rfl r
theorem k_lushr {x : Int64} {y : Int32} (hd : decode M.2.1 pc = .ok (.lushr, 1)) (hp : pc + 1 = pc') (W : KW wd l Z M n0 Q P h k n pc' Ls (.long ((x.toUInt64 >>> (y &&& 63).toInt64.toUInt64).toInt64) :: st)) : KW wd l Z M n0 Q P h k n pc Ls (.int y :: .long x :: st) := by
  subst hp; exact W.step fun p e s' T m args below meth c locs hx hby hown hZ X target r => XS.lushr X.here hx rfl (hb hby hd) rfl r
theorem k_i2l {x : Int32} (hd : decode M.2.1 pc = .ok (.i2l, 1)) (hp : pc + 1 = pc') (W : KW wd l Z M n0 Q P h k n pc' Ls (.long (x.toInt64) :: st)) : KW wd l Z M n0 Q P h k n pc Ls (.int x :: st) := by
  subst hp; exact W.step fun p e s' T m args below meth c locs hx hby hown hZ X target r => XS.i2l X.here hx rfl (hb hby hd) rfl r
theorem k_i2b {x : Int32} (hd : decode M.2.1 pc = .ok (.i2b, 1)) (hp : pc + 1 = pc') (W : KW wd l Z M n0 Q P h k n pc' Ls (.int (x.toInt8.toInt32) :: st)) : KW wd l Z M n0 Q P h k n pc Ls (.int x :: st) := by
  subst hp; exact W.step fun p e s' T m args below meth c locs hx hby hown hZ X target r => XS.i2b X.here hx rfl (hb hby hd) rfl r
theorem k_i2c {x : Int32} (hd : decode M.2.1 pc = .ok (.i2c, 1)) (hp : pc + 1 = pc') (W : KW wd l Z M n0 Q P h k n pc' Ls (.int (x.toUInt32.toUInt16.toUInt32.toInt32) :: st)) : KW wd l Z M n0 Q P h k n pc Ls (.int x :: st) := by
  subst hp; exact W.step fun p e s' T m args below meth c locs hx hby hown hZ X target r => XS.i2c X.here hx rfl (hb hby hd) rfl r
theorem k_i2s {x : Int32} (hd : decode M.2.1 pc = .ok (.i2s, 1)) (hp : pc + 1 = pc') (W : KW wd l Z M n0 Q P h k n pc' Ls (.int (x.toInt16.toInt32) :: st)) : KW wd l Z M n0 Q P h k n pc Ls (.int x :: st) := by
  subst hp; exact W.step fun p e s' T m args below meth c locs hx hby hown hZ X target r => XS.i2s X.here hx rfl (hb hby hd) rfl r
theorem k_l2i {x : Int64} (hd : decode M.2.1 pc = .ok (.l2i, 1)) (hp : pc + 1 = pc') (W : KW wd l Z M n0 Q P h k n pc' Ls (.int (x.toInt32) :: st)) : KW wd l Z M n0 Q P h k n pc Ls (.long x :: st) := by
  subst hp; exact W.step fun p e s' T m args below meth c locs hx hby hown hZ X target r => XS.l2i X.here hx rfl (hb hby hd) rfl r
def cmpLV (x y : Int64) : Int32 := if y < x then 1 else if x = y then 0 else -1
theorem k_lcmp {x y : Int64} (hd : decode M.2.1 pc = .ok (.lcmp, 1)) (hp : pc + 1 = pc') (W : KW wd l Z M n0 Q P h k n pc' Ls (.int (cmpLV x y) :: st)) : KW wd l Z M n0 Q P h k n pc Ls (.long y :: .long x :: st) := by
  subst hp; exact W.step fun p e s' T m args below meth c locs hx hby hown hZ X target r => XS.lcmp X.here hx rfl (hb hby hd) rfl r
theorem k_dup {x : Value} (hd : decode M.2.1 pc = .ok (.dup, 1)) (hp : pc + 1 = pc') (hc : x.category = 1) (W : KW wd l Z M n0 Q P h k n pc' Ls (x :: x :: st)) : KW wd l Z M n0 Q P h k n pc Ls (x :: st) := by
  subst hp; exact W.step fun p e s' T m args below meth c locs hx hby hown hZ X target r => XS.dup X.here hx rfl (hb hby hd) rfl hc r
theorem k_pop {x : Value} (hd : decode M.2.1 pc = .ok (.pop, 1)) (hp : pc + 1 = pc') (hc : x.category = 1) (W : KW wd l Z M n0 Q P h k n pc' Ls st) : KW wd l Z M n0 Q P h k n pc Ls (x :: st) := by
  subst hp; exact W.step fun p e s' T m args below meth c locs hx hby hown hZ X target r => XS.pop X.here hx rfl (hb hby hd) rfl hc r
theorem k_dupX1 {x y : Value} (hd : decode M.2.1 pc = .ok (.dup_x1, 1)) (hp : pc + 1 = pc') (hc : x.category = 1) (hc' : y.category = 1) (W : KW wd l Z M n0 Q P h k n pc' Ls (x :: y :: x :: st)) : KW wd l Z M n0 Q P h k n pc Ls (x :: y :: st) := by
  subst hp; exact W.step fun p e s' T m args below meth c locs hx hby hown hZ X target r => XS.dupX1 X.here hx rfl (hb hby hd) rfl hc hc' r
theorem k_dup2 {x y : Value} (hd : decode M.2.1 pc = .ok (.dup2, 1)) (hp : pc + 1 = pc') (hc : x.category = 1) (hc' : y.category = 1) (W : KW wd l Z M n0 Q P h k n pc' Ls (x :: y :: x :: y :: st)) : KW wd l Z M n0 Q P h k n pc Ls (x :: y :: st) := by
  subst hp; exact W.step fun p e s' T m args below meth c locs hx hby hown hZ X target r => XT.dup2 X.here hx rfl (hb hby hd) rfl hc hc' r
theorem k_iinc {i : Nat} {cst : Int} {x z : Int32} (hd : decode M.2.1 pc = .ok (.iinc i cst, 3)) (hp : pc + 3 = pc') (hz : Int32.ofInt cst = z) (hl : Ls[i]? = some (.val (.int x))) (hl' : storeLocals Ls i (.int (x + z)) = some Ls') (W : KW wd l Z M n0 Q P h k n pc' Ls' st) : KW wd l Z M n0 Q P h k n pc Ls st := by
  subst hp; exact W.step fun p e s' T m args below meth c locs hx hby hown hZ X target r => XS.iinc X.here hx rfl (hb hby hd) hl (by rw [hz]; exact hl') r
theorem k_goto {o : Int} (hd : decode M.2.1 pc = .ok (.goto o, 3)) (ho : 0 ≤ (pc : Int) + o) (hp : ((pc : Int) + o).toNat = pc') (W : KW wd l Z M n0 Q P h k n pc' Ls st) : KW wd l Z M n0 Q P h k n pc Ls st :=
  W.step fun p e s' T m args below meth c locs hx hby hown hZ X target r => XS.goto X.here hx rfl rfl (hb hby hd) ho hp r
/-- what a comparison says where it is taken, and where it isn't -/
def icY : ClassFile.Cond → Int32 → Int32 → Prop
  | .eq, x, y => x = y | .ne, x, y => ¬ x = y | .lt, x, y => x < y | .ge, x, y => ¬ x < y | .gt, x, y => y < x | .le, x, y => ¬ y < x
def icN : ClassFile.Cond → Int32 → Int32 → Prop
  | .eq, x, y => ¬ x = y | .ne, x, y => x = y | .lt, x, y => ¬ x < y | .ge, x, y => x < y | .gt, x, y => ¬ y < x | .le, x, y => y < x
theorem ic_t {cd : ClassFile.Cond} {x y : Int32} (q : if_icmp.holds cd x y = true) : icY cd x y := by
  cases cd <;> simp [if_icmp.holds] at q <;> simp only [icY] <;> first | exact q | exact Int32.not_lt.mpr q
theorem ic_f {cd : ClassFile.Cond} {x y : Int32} (q : if_icmp.holds cd x y = false) : icN cd x y := by
  cases cd <;> simp [if_icmp.holds] at q <;> simp only [icN] <;> first | exact q | exact Int32.not_lt.mpr q | exact Int32.not_le.mp q
theorem k_icmp {cd : ClassFile.Cond} {o : Int} {x y : Int32} {pc1 : Nat} (hd : decode M.2.1 pc = .ok (.if_icmp cd o, 3)) (ho : 0 ≤ (pc : Int) + o) (hp1 : ((pc : Int) + o).toNat = pc1) (hp : pc + 3 = pc')
    (W1 : icY cd x y → KW wd l Z M n0 Q P h k n pc1 Ls st) (W2 : icN cd x y → KW wd l Z M n0 Q P h k n pc' Ls st) : KW wd l Z M n0 Q P h k n pc Ls (.int y :: .int x :: st) := by
  cases q : if_icmp.holds cd x y
  · subst hp; exact (W2 (ic_f q)).step fun p e s' T m args below meth c locs hx hby hown hZ X target r => XS.icmpNo X.here hx rfl (hb hby hd) rfl q r
  · exact (W1 (ic_t q)).step fun p e s' T m args below meth c locs hx hby hown hZ X target r => XS.icmpYes X.here hx rfl rfl (hb hby hd) rfl q ho hp1 r
theorem k_ifc {cd : ClassFile.Cond} {o : Int} {x : Int32} {pc1 : Nat} (hd : decode M.2.1 pc = .ok (.ifCond cd o, 3)) (ho : 0 ≤ (pc : Int) + o) (hp1 : ((pc : Int) + o).toNat = pc1) (hp : pc + 3 = pc')
    (W1 : icY cd x 0 → KW wd l Z M n0 Q P h k n pc1 Ls st) (W2 : icN cd x 0 → KW wd l Z M n0 Q P h k n pc' Ls st) : KW wd l Z M n0 Q P h k n pc Ls (.int x :: st) := by
  cases q : ifCond.holds cd x
  · subst hp; exact (W2 (ic_f (by rw [← if0]; exact q))).step fun p e s' T m args below meth c locs hx hby hown hZ X target r => XS.ifNo X.here hx rfl (hb hby hd) rfl q r
  · exact (W1 (ic_t (by rw [← if0]; exact q))).step fun p e s' T m args below meth c locs hx hby hown hZ X target r => XS.ifYes X.here hx rfl rfl (hb hby hd) rfl q ho hp1 r
/-- lcmp and the branch behind it, in one -/
def lcY : ClassFile.Cond → Int64 → Int64 → Prop
  | .eq, x, y => x = y | .ne, x, y => ¬ x = y | .lt, x, y => x < y | .ge, x, y => ¬ x < y | .gt, x, y => y < x | .le, x, y => ¬ y < x
def lcN : ClassFile.Cond → Int64 → Int64 → Prop
  | .eq, x, y => ¬ x = y | .ne, x, y => x = y | .lt, x, y => ¬ x < y | .ge, x, y => x < y | .gt, x, y => ¬ y < x | .le, x, y => y < x
theorem cmpL_V (x y : Int64) : cmpLV x y = lcmpV x y := by simp [cmpLV, lcmpV]
theorem lc_t {cd : ClassFile.Cond} {x y : Int64} (q : icY cd (cmpLV x y) 0) : lcY cd x y := by
  rw [cmpL_V] at q
  cases cd <;> simp only [icY, lcY] at q ⊢
  · exact (lc_eq x y).mp q
  · exact fun e => q ((lc_eq x y).mpr e)
  · exact (lc_lt x y).mp q
  · exact fun e => q ((lc_lt x y).mpr e)
  · exact (lc_gt x y).mp q
  · exact fun e => q ((lc_gt x y).mpr e)
theorem lc_f {cd : ClassFile.Cond} {x y : Int64} (q : icN cd (cmpLV x y) 0) : lcN cd x y := by
  rw [cmpL_V] at q
  cases cd <;> simp only [icN, lcN] at q ⊢
  · exact fun e => q ((lc_eq x y).mpr e)
  · exact (lc_eq x y).mp q
  · exact fun e => q ((lc_lt x y).mpr e)
  · exact (lc_lt x y).mp q
  · exact fun e => q ((lc_gt x y).mpr e)
  · exact (lc_gt x y).mp q
theorem k_lcmpIf {cd : ClassFile.Cond} {o : Int} {x y : Int64} {pc1 pc2 : Nat} (hd0 : decode M.2.1 pc = .ok (.lcmp, 1)) (hp0 : pc + 1 = pc') (hd : decode M.2.1 pc' = .ok (.ifCond cd o, 3)) (ho : 0 ≤ (pc' : Int) + o) (hp1 : ((pc' : Int) + o).toNat = pc1) (hp : pc' + 3 = pc2)
    (W1 : lcY cd x y → KW wd l Z M n0 Q P h k n pc1 Ls st) (W2 : lcN cd x y → KW wd l Z M n0 Q P h k n pc2 Ls st) : KW wd l Z M n0 Q P h k n pc Ls (.long y :: .long x :: st) :=
  k_lcmp hd0 hp0 (k_ifc hd ho hp1 hp (fun q => W1 (lc_t q)) (fun q => W2 (lc_f q)))
theorem k_acmpNe {o : Int} {x y : Value} {pc1 : Nat} (hd : decode M.2.1 pc = .ok (.if_acmp .ne o, 3)) (hx' : x.isRef = true) (hy' : y.isRef = true) (ho : 0 ≤ (pc : Int) + o) (hp1 : ((pc : Int) + o).toNat = pc1) (hp : pc + 3 = pc')
    (W1 : ¬ x = y → KW wd l Z M n0 Q P h k n pc1 Ls st) (W2 : x = y → KW wd l Z M n0 Q P h k n pc' Ls st) : KW wd l Z M n0 Q P h k n pc Ls (y :: x :: st) := by
  by_cases q : x = y
  · subst hp; exact (W2 q).step fun p e s' T m args below meth c locs hx hby hown hZ X target r => XT.acmpNo X.here hx rfl (hb hby hd) rfl hx' hy' (by simp [XT.acmp, q]) r
  · exact (W1 q).step fun p e s' T m args below meth c locs hx hby hown hZ X target r => XT.acmpYes X.here hx rfl rfl (hb hby hd) rfl hx' hy' (by simp [XT.acmp, q]) ho hp1 r
theorem k_acmpEq {o : Int} {x y : Value} {pc1 : Nat} (hd : decode M.2.1 pc = .ok (.if_acmp .eq o, 3)) (hx' : x.isRef = true) (hy' : y.isRef = true) (ho : 0 ≤ (pc : Int) + o) (hp1 : ((pc : Int) + o).toNat = pc1) (hp : pc + 3 = pc')
    (W1 : x = y → KW wd l Z M n0 Q P h k n pc1 Ls st) (W2 : ¬ x = y → KW wd l Z M n0 Q P h k n pc' Ls st) : KW wd l Z M n0 Q P h k n pc Ls (y :: x :: st) := by
  by_cases q : x = y
  · exact (W1 q).step fun p e s' T m args below meth c locs hx hby hown hZ X target r => XT.acmpYes X.here hx rfl rfl (hb hby hd) rfl hx' hy' (by simp [XT.acmp, q]) ho hp1 r
  · subst hp; exact (W2 q).step fun p e s' T m args below meth c locs hx hby hown hZ X target r => XT.acmpNo X.here hx rfl (hb hby hd) rfl hx' hy' (by simp [XT.acmp, q]) r
theorem k_ifnullY {o : Int} (hd : decode M.2.1 pc = .ok (.ifnull o, 3)) (ho : 0 ≤ (pc : Int) + o) (hp : ((pc : Int) + o).toNat = pc') (W : KW wd l Z M n0 Q P h k n pc' Ls st) : KW wd l Z M n0 Q P h k n pc Ls (.null :: st) :=
  W.step fun p e s' T m args below meth c locs hx hby hown hZ X target r => XS.ifnullYes X.here hx rfl rfl (hb hby hd) rfl ho hp r
theorem k_ifnullN {o : Int} {a : Addr} (hd : decode M.2.1 pc = .ok (.ifnull o, 3)) (hp : pc + 3 = pc') (W : KW wd l Z M n0 Q P h k n pc' Ls st) : KW wd l Z M n0 Q P h k n pc Ls (.ref a :: st) := by
  subst hp; exact W.step fun p e s' T m args below meth c locs hx hby hown hZ X target r => XS.ifnullNo X.here hx rfl (hb hby hd) rfl r
theorem k_ifnonnullY {o : Int} {a : Addr} (hd : decode M.2.1 pc = .ok (.ifnonnull o, 3)) (ho : 0 ≤ (pc : Int) + o) (hp : ((pc : Int) + o).toNat = pc') (W : KW wd l Z M n0 Q P h k n pc' Ls st) : KW wd l Z M n0 Q P h k n pc Ls (.ref a :: st) :=
  W.step fun p e s' T m args below meth c locs hx hby hown hZ X target r => XS.ifnonnullYes X.here hx rfl rfl (hb hby hd) rfl ho hp r
theorem k_ifnonnullN {o : Int} (hd : decode M.2.1 pc = .ok (.ifnonnull o, 3)) (hp : pc + 3 = pc') (W : KW wd l Z M n0 Q P h k n pc' Ls st) : KW wd l Z M n0 Q P h k n pc Ls (.null :: st) := by
  subst hp; exact W.step fun p e s' T m args below meth c locs hx hby hown hZ X target r => XS.ifnonnullNo X.here hx rfl (hb hby hd) rfl r
theorem k_ldc2J {i : Nat} {v : Int64} (hd : decode M.2.1 pc = .ok (.ldc2_w i, 3)) (hp : pc + 3 = pc') (w : (Cond.constantLong M.1.cls i v).before a0 Z = true) (W : KW wd l Z M n0 Q P h k n pc' Ls (.long v :: st)) : KW wd l Z M n0 Q P h k n pc Ls st := by
  subst hp; exact W.step fun p e s' T m args below meth c locs hx hby hown hZ X target r => X.ldc2J hx hown (mvT hZ w) rfl (hb hby hd) r
theorem k_ldcI {i : Nat} {v : Int32} (hd : decode M.2.1 pc = .ok (.ldc i, 2)) (hp : pc + 2 = pc') (w : (Cond.constant M.1.cls i v).before a0 Z = true) (W : KW wd l Z M n0 Q P h k n pc' Ls (.int v :: st)) : KW wd l Z M n0 Q P h k n pc Ls st := by
  subst hp; exact W.step fun p e s' T m args below meth c locs hx hby hown hZ X target r => X.ldcI hx hown (mvT hZ w) rfl (hb hby hd) r
theorem k_getStatic {i : Nat} {O f d : String} {v : Value} (hd : decode M.2.1 pc = .ok (.getstatic i, 3)) (hp : pc + 3 = pc') (w : (Cond.fieldLink M.1.cls i O f d).before a0 Z = true) (F : Sta Z h O f d v) (W : KW wd l Z M n0 Q P h k n pc' Ls (v :: st)) : KW wd l Z M n0 Q P h k n pc Ls st := by
  subst hp; exact W.move fun p e s' T m args below meth c locs hx hby hml hown hZ X eT => getS X hx hZ hown (host := "") w Via.refl eT F (g := mkF m pc Ls st) rfl (hb hby hd)
theorem k_getField {i : Nat} {R0 O f d : String} {a : Addr} {v : Value} (hd : decode M.2.1 pc = .ok (.getfield i, 3)) (hp : pc + 3 = pc') (w : (Cond.fieldLink M.1.cls i R0 f d).before a0 Z = true) (via : Via Z R0 O f d) (F : Fld Z h a O f d v) (W : KW wd l Z M n0 Q P h k n pc' Ls (v :: st)) : KW wd l Z M n0 Q P h k n pc Ls (.ref a :: st) := by
  subst hp; exact W.move fun p e s' T m args below meth c locs hx hby hml hown hZ X eT => getF X hx hZ hown (host := "") (Or.inl w) via eT F (g := mkF m pc Ls (.ref a :: st)) rfl rfl (hb hby hd)
/-- the return -/
theorem KW.top {v v' : Value} (e : v = v') (W : KW wd l Z M n0 Q P h k n pc Ls (v' :: st)) : KW wd l Z M n0 Q P h k n pc Ls (v :: st) := e ▸ W
theorem KW.sub {S' : Addr → Prop} (q : ∀ x, S' x → P.2 x) (W : KW wd l Z M n0 Q (P.1, S') h k n pc Ls st) : KW wd l Z M n0 Q P h k n pc Ls st :=
  fun p e s s' m args below meth c hx hby hml hown hnm hret hlk hZ hB hI T locs X N eT => W p e s s' m args below meth c hx hby hml hown hnm hret hlk hZ (hB.sub q) hI T locs X N eT
theorem KW.any {P' : PX} (W : KW false l Z M n0 Q P' h k n pc Ls st) : KW false l Z M n0 Q P h k n pc Ls st :=
  fun p e s s' m args below meth c hx hby hml hown hnm hret hlk hZ hB hI T locs X N eT => by
    obtain ⟨t, v, L, r, h1, h2, h3, h4, h5⟩ := W p e s s' m args below meth c hx hby hml hown hnm hret hlk hZ (hB.elim (fun q => Or.inl q) (fun q => by cases q.1)) (fun q => by cases q) T locs X N eT
    exact ⟨t, v, L, r, h1, h2, h3, h4, h5.elim (fun q => Or.inl q) (fun q => by cases q.1)⟩
theorem KW.ret {v : Option Value} (q : Q v h) (hk : k ≤ M.2.2.2.2.cells) (hn : n ≤ M.2.2.2.2.slots) (hv : M.2.2.2.1 = none → v = none)
    (f : ∀ (p : Program) (e : Env) (s' T : State) (m : MethodId) (args : Array Value) (below : List Frame) (meth : Method) (c : Code) (locs : List Loc), p.tables.exec = Jvm.exec → c.code = M.2.1 → meth.sig.returnType = M.2.2.2.1 → Stand p l e M.2.2.2.2 s' m args below meth c T locs k n →
      ∀ fs : List Frame, (∀ (f : JFrame) (acts : List Action), f.method = m → f.locked = none → f.entered = [] → (doReturn e (T.setTop f) acts v).1 = T.setFrames fs) → Steps p.tables e below (T.setTop (mkF m pc Ls st)) (T.setFrames fs)) : KW wd l Z M n0 Q P h k n pc Ls st := by
  intro p e s s' m args below meth c hx hby hml hown hnm hret hlk hZ hB hI T locs X N eT
  obtain ⟨fs, hr, hrun, hended, hW, hsame⟩ := X.leave (v := v) (fun q => hv (by rw [← hret]; exact q)) hlk
  refine ⟨T.setFrames fs, v, locs, f p e s' T m args below meth c locs hx hby hret X fs hr, hrun, hended, N, by show Q v T.heap; rw [eT]; exact q, ?_⟩
  rcases hB with ⟨rfl, rfl⟩ | ⟨rfl, vm0, k0, rfl, hS, hk0, hC, -⟩
  · exact Or.inl ⟨rfl, ⟨_, rfl⟩, hW, hsame.mono hk hn⟩
  · obtain ⟨e1, e2, e3⟩ := hS.ended hW (by show k0 ≤ T.heap.size; rw [eT]; exact hk0) hsame
    obtain ⟨a1, hEW⟩ := hI rfl
    have hCT : CHr Z P.1 s.vm s.heap T.vm T.heap := hC.trans (by rw [eT]; exact CHv.at X hZ hEW hC.1)
    exact Or.inr ⟨rfl, hCT, ⟨_, rfl⟩, e1, e2, e3.mono hk hn⟩
theorem k_retInt {z : Int32} (hd : decode M.2.1 pc = .ok (.ireturn, 1)) (hr : M.2.2.2.1 = some .int) (hk : k ≤ M.2.2.2.2.cells) (hn : n ≤ M.2.2.2.2.slots) (q : Q (some (.int z)) h) : KW wd l Z M n0 Q P h k n pc Ls (.int z :: st) :=
  KW.ret q hk hn (fun x => by rw [hr] at x; cases x) fun p e s' T m args below meth c locs hx hby hret X fs hl => retOut X hx (t := .int) (i := .ireturn) (hret.trans hr) rfl (Or.inl ⟨rfl, Or.inl rfl, _, rfl⟩) (hb hby hd) hl
theorem k_retNar {z z' : Int32} {t : FieldType} (hd : decode M.2.1 pc = .ok (.ireturn, 1)) (hr : M.2.2.2.1 = some t) (ht : t = .boolean ∨ t = .byte ∨ t = .char ∨ t = .short) (hz : nar t z = z') (hk : k ≤ M.2.2.2.2.cells) (hn : n ≤ M.2.2.2.2.slots) (q : Q (some (.int z')) h) : KW wd l Z M n0 Q P h k n pc Ls (.int z :: st) := by
  subst hz; exact KW.ret q hk hn (fun x => by rw [hr] at x; cases x) fun p e s' T m args below meth c locs hx hby hret X fs hl => retN X hx (hret.trans hr) ht (hb hby hd) hl
theorem k_retLong {z : Int64} (hd : decode M.2.1 pc = .ok (.lreturn, 1)) (hr : M.2.2.2.1 = some .long) (hk : k ≤ M.2.2.2.2.cells) (hn : n ≤ M.2.2.2.2.slots) (q : Q (some (.long z)) h) : KW wd l Z M n0 Q P h k n pc Ls (.long z :: st) :=
  KW.ret q hk hn (fun x => by rw [hr] at x; cases x) fun p e s' T m args below meth c locs hx hby hret X fs hl => retOut X hx (t := .long) (i := .lreturn) (hret.trans hr) rfl (Or.inr (Or.inl ⟨rfl, rfl, _, rfl⟩)) (hb hby hd) hl
theorem k_retRef {v : Value} {t : FieldType} (hd : decode M.2.1 pc = .ok (.areturn, 1)) (hr : M.2.2.2.1 = some t) (ht : t.isReference = true) (hv : v.isRef = true) (hk : k ≤ M.2.2.2.2.cells) (hn : n ≤ M.2.2.2.2.slots) (q : Q (some v) h) : KW wd l Z M n0 Q P h k n pc Ls (v :: st) :=
  KW.ret q hk hn (fun x => by rw [hr] at x; cases x) fun p e s' T m args below meth c locs hx hby hret X fs hl => retOut X hx (t := t) (i := .areturn) (hret.trans hr) (by cases t <;> first | rfl | cases ht) (Or.inr (Or.inr (Or.inr (Or.inr ⟨rfl, ht, hv⟩)))) (hb hby hd) hl
theorem k_retVoid (hd : decode M.2.1 pc = .ok (.return_, 1)) (hr : M.2.2.2.1 = none) (hk : k ≤ M.2.2.2.2.cells) (hn : n ≤ M.2.2.2.2.slots) (q : Q none h) : KW wd l Z M n0 Q P h k n pc Ls [] :=
  KW.ret q hk hn (fun x => rfl) fun p e s' T m args below meth c locs hx hby hret X fs hl => X.returnOut hx (hret.trans hr) (hb hby hd) hl
/-- a method's contract: entered with these arguments and this heap, it returns, and Q holds -/
def Mt (l : Launch) (Z : State) (M : MD) (ws : List Jvm.Cond) (n0 : Nat) (as' : Array Value) (h0 : Heap) (Q : Option Value → Heap → Prop) : Prop :=
  MetFree l M.1 (head1 (Jvm.Cond.code M.1 M.2.1 M.2.2.1 M.2.2.2.1 :: ws) M.2.2.2.2) (fun a U => a = as' ∧ Z.Warmed39 U.vm ∧ U.heap = h0) (fun _ _ _ _ _ => True) (fun _ U o U' => ∃ v L, o = .returned v ∧ (Fr n0 L ∧ h0.size ≤ U'.heap.size ∧ Q v U'.heap) ∧ FrameEnd U o U' L M.2.2.2.2.cells M.2.2.2.2.slots)
theorem mt_of_kw {ws : List Jvm.Cond} {as' : Array Value} (hn : plainFor M.1 = true) (hef : ∀ m, entryFrame m as' M.2.2.1 = mkF m 0 Ls []) (W : KW false l Z M n0 Q P h 0 0 0 Ls []) : Mt l Z M ws n0 as' h Q := by
  refine MetFree.of_bodySF hn hisR ?_
  intro p e s m args below meth c s₁ Bd hml0 hP hK
  obtain ⟨rfl, hZ, hh⟩ := hP
  have e0 : s₁.heap = h := by rw [← hh, Bd.state]; rfl
  obtain ⟨t, v, L, r, h1, h2, h3, h4, h5⟩ := W p e s s m _ below meth c Bd.exec Bd.bytes hml0 (findClass_of_methodNamed Bd.named) (name_of_methodNamed Bd.named Bd.method).1 Bd.returns Bd.notSynchronized hZ (Or.inl ⟨rfl, rfl⟩) (fun q => by cases q) s₁ [] (Stand.of_body Bd) (Fr.nil n0) e0
  rcases h5 with ⟨-, h5⟩ | ⟨h5, -⟩
  · refine ⟨t, _, castTop (hef m) r, h1, h2, v, L, rfl, ⟨h3, ?_, h4⟩, h5⟩
    have q : s.heap.size ≤ t.heap.size := h5.2.2.2.1
    rw [← hh]; exact q
  · cases h5
/-- what a strict callee has done to the heap, for a wide caller -/
def Kp (wd : Bool) (Z : State) (P : PX) (h : Heap) (Q' : Option Value → Heap → Prop) : Prop := wd = true → ∀ v h', Q' v h' → ∃ ws, Keep h h' ws ∧ ∀ x ∈ ws, Sf Z P h x
theorem Kp.strict {Q' : Option Value → Heap → Prop} : Kp false Z P h Q' := fun q => by cases q
theorem Kp.pure {Q' : Option Value → Heap → Prop} (q : ∀ v h', Q' v h' → h' = h) : Kp wd Z P h Q' := fun _ v h' hq => ⟨[], by rw [q v h' hq]; exact Keep.refl _ _, fun _ z => nomatch z⟩
theorem KB.call {s s' : State} {h' : Heap} {v : Option Value} {Q' : Option Value → Heap → Prop} (B : KB wd Z P s s' h) (hZ : Z.Warmed39 s'.vm) (hk : Kp wd Z P h Q') (q : Q' v h') : KB wd Z (P.grow h h') s s' h' := by
  cases wd
  · exact B.elim (fun r => Or.inl r) (fun r => by cases r.1)
  · obtain ⟨ws, K, hs⟩ := hk rfl v h' q
    exact B.keep hZ K (fun _ => hs)
/-- a static method by its contract -/
theorem k_callStatic {y : MD} {i W0 : Nat} {argsL : List Value} {Q' : Option Value → Heap → Prop} {ps : List FieldType} {r : Option FieldType} (hd : decode M.2.1 pc = .ok (.invokestatic i, 3)) (hp : pc + 3 = pc') (K : Mt l Z y [] n0 argsL.toArray h Q') (hkp : Kp wd Z P h Q')
    (w1 : (Cond.methodLink M.1.cls i y.1).before a0 Z = true) (w2 : (Cond.static y.1).before a0 Z = true) (w3 : (Cond.initialized y.1.cls).before a0 Z = true) (w4 : (Cond.code y.1 y.2.1 y.2.2.1 y.2.2.2.1).before a0 Z = true) (hy : y.1.cls ≠ "java/lang/invoke/MethodHandle" ∧ y.1.cls ≠ "java/lang/invoke/VarHandle")
    (hpd : parseMethodDescriptor y.1.desc = some ⟨ps, r⟩) (hlen : argsL.length = ps.length) (hst : st = argsL.reverse ++ rest) (hsz : Ls.size = M.2.2.1) (hW : (rest.map fun v => v.category).sum = W0)
    (hfr : y.2.2.2.2.frames + 1 ≤ M.2.2.2.2.frames) (hlo : W0 + (y.2.2.1 + 11) + y.2.2.2.2.locals ≤ M.2.2.2.2.locals) (hc : k + y.2.2.2.2.cells ≤ M.2.2.2.2.cells) (hs : n + y.2.2.2.2.slots ≤ M.2.2.2.2.slots)
    (W : ∀ v h', h.size ≤ h'.size → Q' v h' → KW wd l Z M n0 Q (P.grow h h') h' (k + y.2.2.2.2.cells) (n + y.2.2.2.2.slots) pc' Ls (v.toList ++ rest)) : KW wd l Z M n0 Q P h k n pc Ls st := by
  intro p e s s' m args below meth c hx hby hml hown hnm hret hlk hZ hB hI T locs X N eT
  subst hp
  obtain ⟨v, _, ⟨T', L', k', n'⟩, -, X', ⟨Lc, ⟨q1, q2, q3⟩, l1, l2, l3⟩, stp⟩ := Jvm.LawKit.callS X hx (y := y.1) hown (mvT hZ w1) (mvT hZ w2) (mvT hZ w3) (mvT hZ w4) hy (backOf (W := W0) (Q := fun v h' L => Fr n0 L ∧ h.size ≤ h'.size ∧ Q' v h') K hZ w4 w3 hfr hlo) (g := mkF m pc Ls st) rfl (hsz.trans hml.symm) (argsL := argsL) (rest := rest) (lenOf hpd hlen) hst (by show 2 * 0 + _ ≤ _; omega) (hb hby hd) (fun _ _ => ⟨rfl, eT, hc, hs⟩)
  dsimp only [Pt.U, Pt.locs, Pt.cells, Pt.slots] at X' l1 l2 l3 stp q2 q3
  subst l1 l2 l3
  obtain ⟨t, v', L, r, rr⟩ := W v T'.heap q2 q3 p e s s' m args below meth c hx hby hml hown hnm hret hlk hZ (hB.call hZ hkp q3) hI T' _ X' (Fr.app N q1) rfl
  exact ⟨t, v', L, stp _ r, rr⟩
/-- a constructor by its contract -/
theorem k_callInit {y : MD} {i W0 : Nat} {a : Addr} {argsL : List Value} {Q' : Option Value → Heap → Prop} {ps : List FieldType} {r : Option FieldType} (hd : decode M.2.1 pc = .ok (.invokespecial i, 3)) (hp : pc + 3 = pc') (K : Mt l Z y [] n0 (.ref a :: argsL).toArray h Q') (hkp : Kp wd Z P h Q') (hi : y.1.name = "<init>") (hr0 : y.2.2.2.1 = none)
    (w1 : (Cond.methodLink M.1.cls i y.1).before a0 Z = true) (w2 : (Cond.instanceMethod y.1).before a0 Z = true) (w3 : (Cond.initialized y.1.cls).before a0 Z = true) (w4 : (Cond.code y.1 y.2.1 y.2.2.1 y.2.2.2.1).before a0 Z = true) (hy : y.1.cls ≠ "java/lang/invoke/MethodHandle" ∧ y.1.cls ≠ "java/lang/invoke/VarHandle")
    (hpd : parseMethodDescriptor y.1.desc = some ⟨ps, r⟩) (hlen : argsL.length = ps.length) (hst : st = argsL.reverse ++ .ref a :: rest) (hsz : Ls.size = M.2.2.1) (hW : (rest.map fun v => v.category).sum = W0)
    (hfr : y.2.2.2.2.frames + 1 ≤ M.2.2.2.2.frames) (hlo : W0 + (y.2.2.1 + 11) + y.2.2.2.2.locals ≤ M.2.2.2.2.locals) (hc : k + y.2.2.2.2.cells ≤ M.2.2.2.2.cells) (hs : n + y.2.2.2.2.slots ≤ M.2.2.2.2.slots)
    (W : ∀ v h', h.size ≤ h'.size → Q' v h' → KW wd l Z M n0 Q (P.grow h h') h' (k + y.2.2.2.2.cells) (n + y.2.2.2.2.slots) pc' Ls (v.toList ++ rest)) : KW wd l Z M n0 Q P h k n pc Ls st := by
  intro p e s s' m args below meth c hx hby hml hown hnm hret hlk hZ hB hI T locs X N eT
  subst hp
  obtain ⟨v, _, ⟨T', L', k', n'⟩, -, X', ⟨Lc, ⟨q1, q2, q3⟩, l1, l2, l3⟩, stp⟩ := X.specialBack hx (y := y.1) hi hown (mvT hZ w1) (mvT hZ w2) (bytes := y.2.1) (maxL := y.2.2.1) (by rw [← hr0]; exact mvT hZ w4) hy (backOf (W := W0) (Q := fun v h' L => Fr n0 L ∧ h.size ≤ h'.size ∧ Q' v h') K hZ w4 w3 hfr hlo) (g := mkF m pc Ls st) rfl (hsz.trans hml.symm) (Steps.refl _) (a := a) (argsL := argsL) (rest := rest) (lenOf hpd hlen) hst (by show 2 * 0 + _ ≤ _; omega) (hb hby hd) (fun _ _ => ⟨rfl, eT, hc, hs⟩)
  dsimp only [Pt.U, Pt.locs, Pt.cells, Pt.slots] at X' l1 l2 l3 stp q2 q3
  subst l1 l2 l3
  obtain ⟨t, v', L, r, rr⟩ := W v T'.heap q2 q3 p e s s' m args below meth c hx hby hml hown hnm hret hlk hZ (hB.call hZ hkp q3) hI T' _ X' (Fr.app N q1) rfl
  exact ⟨t, v', L, stp.trans r, rr⟩
/-- an instance method by its contract; the receiver is exactly a C -/
theorem k_callVirtual {y : MD} {x : MethodName} {C : String} {i W0 : Nat} {a : Addr} {argsL : List Value} {Q' : Option Value → Heap → Prop} {ps : List FieldType} {r : Option FieldType} (hd : decode M.2.1 pc = .ok (.invokevirtual i, 3)) (hp : pc + 3 = pc') (K : Mt l Z y [] n0 (.ref a :: argsL).toArray h Q') (hkp : Kp wd Z P h Q') (E : Exa Z h a C)
    (w1 : (Cond.methodLink M.1.cls i x).before a0 Z = true) (w2 : (Cond.declares x).before a0 Z = true) (w3 : (Cond.selects C x y.1).before a0 Z = true) {C7 : String} {x7 z7 : MethodName} (w7 : (Cond.selects C7 x7 z7).before a0 Z = true) (hz7 : z7.cls = x.cls) (w4 : (Cond.instanceMethod y.1).before a0 Z = true) (w5 : (Cond.code y.1 y.2.1 y.2.2.1 y.2.2.2.1).before a0 Z = true) (w6 : (Cond.initialized y.1.cls).before a0 Z = true) (hy : x.cls ≠ "java/lang/invoke/MethodHandle" ∧ x.cls ≠ "java/lang/invoke/VarHandle")
    (hpd : parseMethodDescriptor x.desc = some ⟨ps, r⟩) (hlen : argsL.length = ps.length) (hst : st = argsL.reverse ++ .ref a :: rest) (hsz : Ls.size = M.2.2.1) (hW : (rest.map fun v => v.category).sum = W0)
    (hfr : y.2.2.2.2.frames + 1 ≤ M.2.2.2.2.frames) (hlo : W0 + (y.2.2.1 + 11) + y.2.2.2.2.locals ≤ M.2.2.2.2.locals) (hc : k + y.2.2.2.2.cells ≤ M.2.2.2.2.cells) (hs : n + y.2.2.2.2.slots ≤ M.2.2.2.2.slots)
    (W : ∀ v h', h.size ≤ h'.size → Q' v h' → KW wd l Z M n0 Q (P.grow h h') h' (k + y.2.2.2.2.cells) (n + y.2.2.2.2.slots) pc' Ls (v.toList ++ rest)) : KW wd l Z M n0 Q P h k n pc Ls st := by
  intro p e s s' m args below meth c hx hby hml hown hnm hret hlk hZ hB hI T locs X N eT
  subst hp
  obtain ⟨cq, kq, qa, qb, qc⟩ := isOf hZ eT E
  obtain ⟨v, _, ⟨T', L', k', n'⟩, -, X', ⟨Lc, ⟨q1, q2, q3⟩, l1, l2, l3⟩, stp⟩ := X.virtualBack hx (y := x) (z := y.1) hown (mvT hZ w1) (mvT hZ w2) (own_notFace (args := #[]) (mvT hZ w7) hz7) (mvT hZ w3) (mvT hZ w4) hy (backOf (W := W0) (Q := fun v h' L => Fr n0 L ∧ h.size ≤ h'.size ∧ Q' v h') K hZ w5 w6 hfr hlo) qa qc (g := mkF m pc Ls st) rfl (hsz.trans hml.symm) (Steps.refl _) (argsL := argsL) (rest := rest) (lenOf hpd hlen) hst (by show 2 * 0 + _ ≤ _; omega) (hb hby hd) (fun _ _ => ⟨rfl, eT, hc, hs⟩)
  dsimp only [Pt.U, Pt.locs, Pt.cells, Pt.slots] at X' l1 l2 l3 stp q2 q3
  subst l1 l2 l3
  obtain ⟨t, v', L, r, rr⟩ := W v T'.heap q2 q3 p e s s' m args below meth c hx hby hml hown hnm hret hlk hZ (hB.call hZ hkp q3) hI T' _ X' (Fr.app N q1) rfl
  exact ⟨t, v', L, stp.trans r, rr⟩
end
end Jvm.OwnW

namespace Jvm.OwnW
open Sem ClassFile Op Lib Jvm.Stand Jvm.Free Jvm.LawKit Jvm.RoadKit
section
variable {wd : Bool} {l : Launch} {Z : State} {M : MD} {n0 : Nat} {Q : Option Value → Heap → Prop} {P : PX} {h : Heap} {k n pc pc' : Nat} {Ls Ls' : Array Slot} {st st' rest : List Value} {a0 : Array Value}
theorem k_new {i sz : Nat} {C : String} (hd : decode M.2.1 pc = .ok (.new i, 3)) (hp : pc + 3 = pc') (w : (Cond.classLink M.1.cls i C).before a0 Z = true) (wi : (Cond.instantiable C sz).before a0 Z = true) (wz : (Cond.initialized C).before a0 Z = true) (hc : k + 1 ≤ M.2.2.2.2.cells) (hs : n + sz ≤ M.2.2.2.2.slots)
    (W : ∀ h' a, a = h.size → Ext h h' → Exa Z h' a C → (∀ {O nm d : String} {ty : FieldType}, Laid Z a0 C O nm d → parseFieldDescriptor d = some ty → Fld Z h' a O nm d (defaultValue ty)) → KW wd l Z M n0 Q (P.grow h h') h' (k + 1) (n + sz) pc' Ls (.ref a :: st)) : KW wd l Z M n0 Q P h k n pc Ls st := by
  intro p e s s' m args below meth c hx hby hml hown hnm hret hlk hZ hB hI T locs X N eT
  subst hp
  obtain ⟨T', h', X', e', E, A, D, -, stp⟩ := newO X hx hZ hown w wi wz eT (g := mkF m pc Ls st) rfl (hb hby hd) hc hs
  obtain ⟨t, v, L, r, rr⟩ := W h' h.size rfl E A D p e s s' m args below meth c hx hby hml hown hnm hret hlk hZ (hB.ext E) hI T' locs X' N e'
  exact ⟨t, v, L, stp t r, rr⟩
theorem k_initObj {i W0 : Nat} {a : Addr} (hd : decode M.2.1 pc = .ok (.invokespecial i, 3)) (hp : pc + 3 = pc') (w1 : (Cond.methodLink M.1.cls i Lib.objectInit).before a0 Z = true) (w2 : (Cond.instanceMethod Lib.objectInit).before a0 Z = true) (w3 : (Cond.code Lib.objectInit ⟨#[0xb1]⟩ 1 none).before a0 Z = true)
    (hsz : Ls.size = M.2.2.1) (hW : (st.map fun v => v.category).sum = W0) (hf : 1 ≤ M.2.2.2.2.frames) (hl : W0 + 12 ≤ M.2.2.2.2.locals) (W : KW wd l Z M n0 Q P h k n pc' Ls st) : KW wd l Z M n0 Q P h k n pc Ls (.ref a :: st) := by
  subst hp; exact W.move fun p e s' T m args below meth c locs hx hby hml hown hZ X eT => initO X hx hZ hown w1 w2 w3 eT (g := mkF m pc Ls (.ref a :: st)) rfl (hsz.trans hml.symm) rfl (hb hby hd) hf (W := W0) (by show 2 * 0 + _ ≤ _; omega) hl
theorem k_put {i kk : Nat} {R0 O f d C : String} {ty : FieldType} {a : Addr} {v v' old : Value} (hd : decode M.2.1 pc = .ok (.putfield i, 3)) (hp : pc + 3 = pc') (w : (Cond.fieldLink M.1.cls i R0 f d).before a0 Z = true) (via : Via Z R0 O f d) (F : Fld Z h a O f d old) (E : Exa Z h a C)
    (L : (Cond.lays C O f d).before a0 Z = true ∨ ((Cond.laysFinal C O f d).before a0 Z = true ∧ M.1.cls = O ∧ M.1.name = "<init>")) (wi : (Cond.instantiable C kk).before a0 Z = true) (hty : parseFieldDescriptor d = some ty) (hn : narrow ty v = v') (hf : fits ty v' = true) (ha : n0 ≤ a) (hsf : wd = true → Sf Z P h a)
    (W : ∀ h', Wr h h' a (Jvm.RoadKit.slotOf Z O f d) v' → KW wd l Z M n0 Q P h' k n pc' Ls st) : KW wd l Z M n0 Q P h k n pc Ls (v :: .ref a :: st) := by
  intro p e s s' m args below meth c hx hby hml hown hnm hret hlk hZ hB hI T locs X N eT
  subst hp
  obtain ⟨T', h', X', e', Wr', stp⟩ := putFN X hx hZ hown w via eT F E (L.imp id fun q => ⟨q.1, q.2.1, hnm.trans q.2.2⟩) wi hty hn hf (g := mkF m pc Ls (v :: .ref a :: st)) rfl rfl (hb hby hd)
  obtain ⟨t, v, L, r, rr⟩ := W h' Wr' p e s s' m args below meth c hx hby hml hown hnm hret hlk hZ (hB.wr hZ Wr' hsf) hI T' _ X' (Fr.snoc X' N ha) e'
  exact ⟨t, v, L, stp t r, rr⟩
theorem k_newarr {aty : ArrayType} {z : Int32} {cap : Nat} (hd : decode M.2.1 pc = .ok (.newarray aty, 2)) (hp : pc + 2 = pc') (w : (Cond.arrayClass (newarray.typeOf aty)).before a0 Z = true) (hz : ¬ z < 0) (hcap : z.toNatClampNeg ≤ cap) (hb8 : cap * 8 ≤ 536870912) (hc : k + 1 ≤ M.2.2.2.2.cells) (hs : n + cap ≤ M.2.2.2.2.slots)
    (W : ∀ h' a cA, a = h.size → Ext h h' → Arv Z h' a cA (newarray.typeOf aty) z [] (defaultValue (newarray.typeOf aty)) → KW wd l Z M n0 Q (P.grow h h') h' (k + 1) (n + cap) pc' Ls (.ref a :: st)) : KW wd l Z M n0 Q P h k n pc Ls (.int z :: st) := by
  intro p e s s' m args below meth c hx hby hml hown hnm hret hlk hZ hB hI T locs X N eT
  subst hp
  obtain ⟨T', h', cA, X', e', E, A, stp⟩ := newP X hx hZ w eT (g := mkF m pc Ls (.int z :: st)) rfl (hb hby hd) rfl hz hcap hb8 hc hs
  obtain ⟨t, v, L, r, rr⟩ := W h' h.size cA rfl E (Arv.new A hz) p e s s' m args below meth c hx hby hml hown hnm hret hlk hZ (hB.ext E) hI T' locs X' N e'
  exact ⟨t, v, L, stp t r, rr⟩
theorem k_arrlen {a : Addr} {ck : ClassId} {ty : FieldType} {z : Int32} {vs : List Value} {dv : Value} (hd : decode M.2.1 pc = .ok (.arraylength, 1)) (hp : pc + 1 = pc') (V : Arv Z h a ck ty z vs dv) (W : KW wd l Z M n0 Q P h k n pc' Ls (.int z :: st)) : KW wd l Z M n0 Q P h k n pc Ls (.ref a :: st) := by
  subst hp
  obtain ⟨cl, Ar, -, S, Mz, -⟩ := V
  exact W.move fun p e s' T m args below meth c locs hx hby hml hown hZ X eT => ⟨T, X, eT, fun target r => X.arraylength hx (by rw [eT]; exact Ar.1) (State.isArrayOf_alike hZ.alike Ar.2.1) (g := mkF m pc Ls (.ref a :: st)) rfl rfl (hb hby hd) target (by rw [len_of S Mz]; exact r)⟩
theorem k_baload {a : Addr} {ck : ClassId} {z j : Int32} {vs : List Value} {dv v : Value} (hd : decode M.2.1 pc = .ok (.baload, 1)) (hp : pc + 1 = pc') (V : Arv Z h a ck .byte z vs dv) (hj : ¬ j < 0 ∧ j < z) (hv : vs.getD j.toNatClampNeg dv = v) (W : KW wd l Z M n0 Q P h k n pc' Ls (v :: st)) : KW wd l Z M n0 Q P h k n pc Ls (.int j :: .ref a :: st) := by
  subst hp
  obtain ⟨cl, Ar, -, S, Mz, H, -⟩ := V
  exact W.move fun p e s' T m args below meth c locs hx hby hml hown hZ X eT => ⟨T, X, eT, fun target r => X.baloadBytes hx (j := j) (v := v) (by rw [eT]; exact Ar.1) (State.isArrayOf_alike hZ.alike Ar.2.1) Ar.2.2 (inb_of S hj) (H.at (inb_of S hj) hv) (g := mkF m pc Ls (.int j :: .ref a :: st)) rfl rfl (hb hby hd) target r⟩
theorem k_caload {a : Addr} {ck : ClassId} {z j : Int32} {vs : List Value} {dv v : Value} (hd : decode M.2.1 pc = .ok (.caload, 1)) (hp : pc + 1 = pc') (V : Arv Z h a ck .char z vs dv) (hj : ¬ j < 0 ∧ j < z) (hv : vs.getD j.toNatClampNeg dv = v) (W : KW wd l Z M n0 Q P h k n pc' Ls (v :: st)) : KW wd l Z M n0 Q P h k n pc Ls (.int j :: .ref a :: st) := by
  subst hp
  obtain ⟨cl, Ar, -, S, Mz, H, -⟩ := V
  exact W.move fun p e s' T m args below meth c locs hx hby hml hown hZ X eT => ⟨T, X, eT, fun target r => X.caload hx (j := j) (v := v) (by rw [eT]; exact Ar.1) (State.isArrayOf_alike hZ.alike Ar.2.1) Ar.2.2 (inb_of S hj) (H.at (inb_of S hj) hv) (g := mkF m pc Ls (.int j :: .ref a :: st)) rfl rfl (hb hby hd) target r⟩
theorem k_castore {a : Addr} {ck : ClassId} {z j x : Int32} {vs : List Value} {dv : Value} {i : Nat} (hd : decode M.2.1 pc = .ok (.castore, 1)) (hp : pc + 1 = pc') (V : Arv Z h a ck .char z vs dv) (hj : ¬ j < 0 ∧ j < z) (hi : j.toNatClampNeg = i) (hil : i < vs.length) (ha : n0 ≤ a) (hsf : wd = true → Sf Z P h a)
    (W : ∀ h', Wr h h' a i (.int (nar .char x)) → Arv Z h' a ck .char z (vs.set i (.int (nar .char x))) dv → KW wd l Z M n0 Q P h' k n pc' Ls st) : KW wd l Z M n0 Q P h k n pc Ls (.int x :: .int j :: .ref a :: st) := by
  intro p e s s' m args below meth c hx hby hml hown hnm hret hlk hZ hB hI T locs X N eT
  subst hp
  obtain ⟨cl, Ar, q1, S, Mz, H, G⟩ := V
  obtain ⟨T', h', X', e', Wr', stp⟩ := stC X hx hZ eT Ar (inb_of S hj) (g := mkF m pc Ls (.int x :: .int j :: .ref a :: st)) rfl rfl (hb hby hd)
  have V' := Arv.set Ar q1 S Mz H G (fits_nar_char x) Wr' i hi hil
  rw [hi] at Wr'
  obtain ⟨t, v, L, r, rr⟩ := W h' Wr' V' p e s s' m args below meth c hx hby hml hown hnm hret hlk hZ (hB.wr hZ Wr' hsf) hI T' _ X' (Fr.snoc X' N ha) e'
  exact ⟨t, v, L, stp t r, rr⟩
theorem k_bastore {a : Addr} {ck : ClassId} {z j x : Int32} {vs : List Value} {dv : Value} {i : Nat} (hd : decode M.2.1 pc = .ok (.bastore, 1)) (hp : pc + 1 = pc') (V : Arv Z h a ck .byte z vs dv) (hj : ¬ j < 0 ∧ j < z) (hi : j.toNatClampNeg = i) (hil : i < vs.length) (ha : n0 ≤ a) (hsf : wd = true → Sf Z P h a)
    (W : ∀ h', Wr h h' a i (.int (nar .byte x)) → Arv Z h' a ck .byte z (vs.set i (.int (nar .byte x))) dv → KW wd l Z M n0 Q P h' k n pc' Ls st) : KW wd l Z M n0 Q P h k n pc Ls (.int x :: .int j :: .ref a :: st) := by
  intro p e s s' m args below meth c hx hby hml hown hnm hret hlk hZ hB hI T locs X N eT
  subst hp
  obtain ⟨cl, Ar, q1, S, Mz, H, G⟩ := V
  obtain ⟨T', h', X', e', Wr', stp⟩ := stB X hx hZ eT Ar (inb_of S hj) (g := mkF m pc Ls (.int x :: .int j :: .ref a :: st)) rfl rfl (hb hby hd)
  have V' := Arv.set Ar q1 S Mz H G (fits_nar_byte x) Wr' i hi hil
  rw [hi] at Wr'
  obtain ⟨t, v, L, r, rr⟩ := W h' Wr' V' p e s s' m args below meth c hx hby hml hown hnm hret hlk hZ (hB.wr hZ Wr' hsf) hI T' _ X' (Fr.snoc X' N ha) e'
  exact ⟨t, v, L, stp t r, rr⟩
theorem k_cast {i : Nat} {K : String} {a : Addr} (hd : decode M.2.1 pc = .ok (.checkcast i, 3)) (hp : pc + 3 = pc') (w : (Cond.classLink M.1.cls i K).before a0 Z = true) (F : Ins Z h a K true) (W : KW wd l Z M n0 Q P h k n pc' Ls (.ref a :: st)) : KW wd l Z M n0 Q P h k n pc Ls (.ref a :: st) := by
  subst hp; exact W.move fun p e s' T m args below meth c locs hx hby hml hown hZ X eT => castY X hx hZ hown w eT F (g := mkF m pc Ls (.ref a :: st)) rfl rfl (hb hby hd)
theorem k_instY {i : Nat} {K : String} {a : Addr} (hd : decode M.2.1 pc = .ok (.instanceof i, 3)) (hp : pc + 3 = pc') (w : (Cond.classLink M.1.cls i K).before a0 Z = true) (F : Ins Z h a K true) (W : KW wd l Z M n0 Q P h k n pc' Ls (.int 1 :: st)) : KW wd l Z M n0 Q P h k n pc Ls (.ref a :: st) := by
  subst hp; exact W.move fun p e s' T m args below meth c locs hx hby hml hown hZ X eT => instY X hx hZ hown w eT F (g := mkF m pc Ls (.ref a :: st)) rfl rfl (hb hby hd)
theorem Sf.exa {a : Addr} {C : String} (E : Exa Z h a C) (h1 : C ≠ "java/lang/String") (h2 : C ≠ "[B") : Sf Z P h a := Or.inr fun vm hal => Safe.exa hal E h1 h2
theorem Sf.arv {a : Addr} {ck : ClassId} {ty : FieldType} {z : Int32} {vs : List Value} {dv : Value} (F : Arv Z h a ck ty z vs dv) (ht : ty ≠ .byte) : Sf Z P h a := Or.inr fun vm hal => Safe.arv hal F ht
/-! the wide contracts: a callee that may intern -/
def MtW (l : Launch) (Z : State) (M : MD) (ws : List Jvm.Cond) (n0 : Nat) (as' : Array Value) (P : PX) (h0 : Heap) (Q : Option Value → Heap → Prop) : Prop :=
  MetFree l M.1 (head1 (Jvm.Cond.code M.1 M.2.1 M.2.2.1 M.2.2.2.1 :: ws) M.2.2.2.2) (fun a U => a = as' ∧ Z.Warmed39 U.vm ∧ U.heap = h0 ∧ CHv Z P.1 U.vm h0 ∧ ∀ x, P.2 x → Safe Z P.1 U.vm h0 x ∧ x < h0.size) (fun _ _ _ _ _ => True)
    (fun _ U o U' => ∃ v L, o = .returned v ∧ (Fr n0 L ∧ h0.size ≤ U'.heap.size ∧ Q v U'.heap) ∧ CHr Z P.1 U.vm U.heap U'.vm U'.heap ∧ ReturnedEndW U o U' L M.2.2.2.2.cells M.2.2.2.2.slots)
theorem mtw_of_kw {ws : List Jvm.Cond} {as' : Array Value} (hn : plainFor M.1 = true) (hEW : EW Z a0 P.1) (hef : ∀ m, entryFrame m as' M.2.2.1 = mkF m 0 Ls []) (W : KW true l Z M n0 Q P h 0 0 0 Ls []) : MtW l Z M ws n0 as' P h Q := by
  refine MetFree.of_bodySF hn hisR ?_
  intro p e s m args below meth c s₁ Bd hml0 hP hK
  obtain ⟨rfl, hZ, hh, hC, hS⟩ := hP
  have e0 : s₁.heap = h := by rw [← hh, Bd.state]; rfl
  obtain ⟨t, v, L, r, h1, h2, h3, h4, h5⟩ := W p e s (s.setVm s.vm) m _ below meth c Bd.exec Bd.bytes hml0 (findClass_of_methodNamed Bd.named) (name_of_methodNamed Bd.named Bd.method).1 Bd.returns Bd.notSynchronized hZ (Or.inr ⟨rfl, s.vm, 0, rfl, (State.WarmedH.refl s).since 0, Nat.zero_le _, by rw [hh]; exact CHr.refl hC, hS⟩) (fun _ => ⟨a0, hEW⟩) s₁ [] (Stand.of_body Bd) (Fr.nil n0) e0
  rcases h5 with ⟨h5, -⟩ | ⟨-, b1, b2⟩
  · cases h5
  · refine ⟨t, _, castTop (hef m) r, h1, h2, v, L, rfl, ⟨h3, ?_, h4⟩, b1, b2⟩
    have q : s.heap.size ≤ t.heap.size := b2.2.2.2.2.1
    rw [← hh]; exact q
/-- what a wide contract pays at a call -/
theorem backW {y : MD} {p : Program} {e : Env} {s : State} {vm0 : Vm} {args as' : Array Value} {below : List Frame} {R : Room} {W0 len : Nat} {Q' : Option Value → Heap → Prop}
    (K : MtW l Z y [] n0 as' P h Q') (hZ : Z.Warmed39 vm0) (w4 : (Cond.code y.1 y.2.1 y.2.2.1 y.2.2.2.1).before a0 Z = true) (w3 : (Cond.initialized y.1.cls).before a0 Z = true) (hf : y.2.2.2.2.frames + 1 ≤ R.frames) (hl : W0 + (y.2.2.1 + 11) + y.2.2.2.2.locals ≤ R.locals) {a1 : Array Value} (hEL : EW Z a1 P.1) (H : CHv Z P.1 vm0 h) (hS : ∀ x, P.2 x → Safe Z P.1 vm0 h x ∧ x < h.size) :
    BackS l R p e below (s.setVm vm0) args y.1 len W0 (fun A a => a = as' ∧ A.U.heap = h ∧ A.cells + y.2.2.2.2.cells ≤ R.cells ∧ A.slots + y.2.2.2.2.slots ≤ R.slots)
      (fun A _ v B => ∃ L, (Fr n0 L ∧ h.size ≤ B.U.heap.size ∧ Q' v B.U.heap) ∧ B.locs = A.locs ++ L ∧ B.cells = A.cells + y.2.2.2.2.cells ∧ B.slots = A.slots + y.2.2.2.2.slots ∧ CHr Z P.1 vm0 h B.U.vm B.U.heap) :=
  BackS.of_freeW (bytes := y.2.1) (maxL := y.2.2.1) (ret := y.2.2.2.1) (E := fun _ first o t L k n => k = y.2.2.2.2.cells ∧ n = y.2.2.2.2.slots ∧ (∃ v, o = .returned v ∧ (Fr n0 L ∧ h.size ≤ t.heap.size ∧ Q' v t.heap)) ∧ CHr Z P.1 first.vm first.heap t.vm t.heap) K hf hl
    (fun m meth c A a Y hp => have hU : Z.Warmed39 A.U.vm := wtrans (s := s.setVm vm0) hZ Y.warmed
      ⟨by show (Cond.and _ .tt).before a A.U = true; rw [Cond.before_and, mv hU w4]; rfl, mv hU w4, mv hU w3, hp.2.2.1, hp.2.2.2⟩)
    (fun m meth c A a g mk Y hp => ⟨hp.1, wtrans (s := s.setVm vm0) hZ Y.warmed, hp.2.1, (CHv.at Y hZ hEL H).1, fun x hx => ⟨(CHv.at Y hZ hEL H).safe (hS x hx).2 (hS x hx).1, (hS x hx).2⟩⟩) (fun _ _ _ _ _ _ _ _ _ => trivial)
    (fun _ _ _ _ ⟨v, L, h1, h2, h3, h4⟩ => ⟨L, _, _, h4, rfl, rfl, ⟨v, h1, h2⟩, h3⟩)
    (fun m meth c A a g mk v t L k n Y hp _ _ ⟨e1, e2, ⟨v', e3, e4⟩, e5⟩ => by
      cases e3; subst e1 e2
      refine ⟨L, e4, rfl, rfl, rfl, (CHv.at Y hZ hEL H).trans ?_⟩
      rw [← hp.2.1]; exact e5)
/-- the walk goes on over the start with the tables that the callee left -/
theorem KW.after {p : Program} {e : Env} {s : State} {vm0 : Vm} {k0 : Nat} {m : MethodId} {args : Array Value} {below : List Frame} {meth : Method} {c : Code} {T' : State} {locs : List Loc} {h' : Heap} {k' n' : Nat} (W : KW true l Z M n0 Q P h' k' n' pc' Ls st')
    (hx : p.tables.exec = Jvm.exec) (hby : c.code = M.2.1) (hml : c.maxLocals = M.2.2.1) (hown : (s.setVm vm0).vm.findClass M.1.cls = some m.cls) (hnm : meth.name = M.1.name) (hret : meth.sig.returnType = M.2.2.2.1) (hlk : meth.locks = false) (hZ : Z.Warmed39 (s.setVm vm0).vm)
    (hS0 : s.Since vm0 k0) (hk0 : k0 ≤ h.size) (hC : CHr Z P.1 s.vm s.heap vm0 h) (hS : ∀ x, P.2 x → Safe Z P.1 vm0 h x ∧ x < h.size) (hI : true = true → ∃ a0, EW Z a0 P.1)
    (X' : Stand p l e M.2.2.2.2 (s.setVm T'.vm) m args below meth c T' locs k' n') (hS' : (s.setVm vm0).Since T'.vm T'.heap.size) (N : Fr n0 locs) (hz : h.size ≤ h'.size) (eT : T'.heap = h') (hC' : CHr Z P.1 vm0 h T'.vm h') :
    ∃ t v L, Steps p.tables e below (T'.setTop (mkF m pc' Ls st')) t ∧ t.status = .running ∧ Ended t below (.returned v) ∧ Fr n0 L ∧ Q v t.heap ∧ KE true Z s v t L P.1 M.2.2.2.2.cells M.2.2.2.2.slots :=
  W p e s (s.setVm T'.vm) m args below meth c hx hby hml (by show T'.vm.findClass _ = _; rw [hS'.1.alike.findClass]; exact hown) hnm hret hlk (State.Warmed39.trans (t := s.setVm vm0) hZ hS'.1)
    (Or.inr ⟨rfl, T'.vm, T'.heap.size, rfl, hS0.trans hS' (by rw [eT]; exact Nat.le_trans hk0 hz), by rw [eT]; exact Nat.le_refl _, hC.trans hC', fun x hx => ⟨hC'.safe (hS x hx).2 (hS x hx).1, Nat.lt_of_lt_of_le (hS x hx).2 hz⟩⟩) hI T' locs X' N eT
theorem k_callStaticW {y : MD} {i W0 : Nat} {argsL : List Value} {Q' : Option Value → Heap → Prop} {ps : List FieldType} {r : Option FieldType} (hd : decode M.2.1 pc = .ok (.invokestatic i, 3)) (hp : pc + 3 = pc') (K : MtW l Z y [] n0 argsL.toArray P h Q')
    (w1 : (Cond.methodLink M.1.cls i y.1).before a0 Z = true) (w2 : (Cond.static y.1).before a0 Z = true) (w3 : (Cond.initialized y.1.cls).before a0 Z = true) (w4 : (Cond.code y.1 y.2.1 y.2.2.1 y.2.2.2.1).before a0 Z = true) (hy : y.1.cls ≠ "java/lang/invoke/MethodHandle" ∧ y.1.cls ≠ "java/lang/invoke/VarHandle")
    (hpd : parseMethodDescriptor y.1.desc = some ⟨ps, r⟩) (hlen : argsL.length = ps.length) (hst : st = argsL.reverse ++ rest) (hsz : Ls.size = M.2.2.1) (hW : (rest.map fun v => v.category).sum = W0)
    (hfr : y.2.2.2.2.frames + 1 ≤ M.2.2.2.2.frames) (hlo : W0 + (y.2.2.1 + 11) + y.2.2.2.2.locals ≤ M.2.2.2.2.locals) (hc : k + y.2.2.2.2.cells ≤ M.2.2.2.2.cells) (hs : n + y.2.2.2.2.slots ≤ M.2.2.2.2.slots)
    (W : ∀ v h', h.size ≤ h'.size → Q' v h' → KW true l Z M n0 Q P h' (k + y.2.2.2.2.cells) (n + y.2.2.2.2.slots) pc' Ls (v.toList ++ rest)) : KW true l Z M n0 Q P h k n pc Ls st := by
  intro p e s s' m args below meth c hx hby hml hown hnm hret hlk hZ hB hI T locs X N eT
  subst hp
  rcases hB with ⟨q, -⟩ | ⟨-, vm0, k0, rfl, hS0, hk0, hC, hSf⟩
  · cases q
  obtain ⟨a1, hEW⟩ := hI rfl
  obtain ⟨v, _, ⟨T', L', k', n'⟩, -, X', hS', hgr, ⟨Lc, ⟨q1, q2, q3⟩, l1, l2, l3, hC'⟩, stp⟩ := callSS X hx (y := y.1) hown (mvT hZ w1) (mvT hZ w2) (mvT hZ w3) (mvT hZ w4) hy (backW (W0 := W0) K hZ w4 w3 hfr hlo hEW hC.1 hSf) (g := mkF m pc Ls st) rfl (hsz.trans hml.symm) (argsL := argsL) (rest := rest) (lenOf hpd hlen) hst (by show 2 * 0 + _ ≤ _; omega) (hb hby hd) (fun _ _ => ⟨rfl, eT, hc, hs⟩)
  dsimp only [Pt.U, Pt.locs, Pt.cells, Pt.slots] at X' l1 l2 l3 stp q2 q3 hS' hC'
  subst l1 l2 l3
  obtain ⟨t, v', L, r, rr⟩ := (W v T'.heap q2 q3).after (h := h) hx hby hml hown hnm hret hlk hZ hS0 hk0 hC hSf hI X' hS' (Fr.app N q1) q2 rfl hC'
  exact ⟨t, v', L, stp.trans r, rr⟩
theorem k_callInitW {y : MD} {i W0 : Nat} {a : Addr} {argsL : List Value} {Q' : Option Value → Heap → Prop} {ps : List FieldType} {r : Option FieldType} (hd : decode M.2.1 pc = .ok (.invokespecial i, 3)) (hp : pc + 3 = pc') (K : MtW l Z y [] n0 (.ref a :: argsL).toArray P h Q') (hi : y.1.name = "<init>") (hr0 : y.2.2.2.1 = none)
    (w1 : (Cond.methodLink M.1.cls i y.1).before a0 Z = true) (w2 : (Cond.instanceMethod y.1).before a0 Z = true) (w3 : (Cond.initialized y.1.cls).before a0 Z = true) (w4 : (Cond.code y.1 y.2.1 y.2.2.1 y.2.2.2.1).before a0 Z = true) (hy : y.1.cls ≠ "java/lang/invoke/MethodHandle" ∧ y.1.cls ≠ "java/lang/invoke/VarHandle")
    (hpd : parseMethodDescriptor y.1.desc = some ⟨ps, r⟩) (hlen : argsL.length = ps.length) (hst : st = argsL.reverse ++ .ref a :: rest) (hsz : Ls.size = M.2.2.1) (hW : (rest.map fun v => v.category).sum = W0)
    (hfr : y.2.2.2.2.frames + 1 ≤ M.2.2.2.2.frames) (hlo : W0 + (y.2.2.1 + 11) + y.2.2.2.2.locals ≤ M.2.2.2.2.locals) (hc : k + y.2.2.2.2.cells ≤ M.2.2.2.2.cells) (hs : n + y.2.2.2.2.slots ≤ M.2.2.2.2.slots)
    (W : ∀ v h', h.size ≤ h'.size → Q' v h' → KW true l Z M n0 Q P h' (k + y.2.2.2.2.cells) (n + y.2.2.2.2.slots) pc' Ls (v.toList ++ rest)) : KW true l Z M n0 Q P h k n pc Ls st := by
  intro p e s s' m args below meth c hx hby hml hown hnm hret hlk hZ hB hI T locs X N eT
  subst hp
  rcases hB with ⟨q, -⟩ | ⟨-, vm0, k0, rfl, hS0, hk0, hC, hSf⟩
  · cases q
  obtain ⟨a1, hEW⟩ := hI rfl
  obtain ⟨v, _, ⟨T', L', k', n'⟩, -, X', hS', hgr, ⟨Lc, ⟨q1, q2, q3⟩, l1, l2, l3, hC'⟩, stp⟩ := X.specialBackS hx (y := y.1) hi hown (mvT hZ w1) (mvT hZ w2) (bytes := y.2.1) (maxL := y.2.2.1) (by rw [← hr0]; exact mvT hZ w4) hy (backW (W0 := W0) K hZ w4 w3 hfr hlo hEW hC.1 hSf) (g := mkF m pc Ls st) rfl (hsz.trans hml.symm) (Steps.refl _) (a := a) (argsL := argsL) (rest := rest) (lenOf hpd hlen) hst (by show 2 * 0 + _ ≤ _; omega) (hb hby hd) (fun _ _ => ⟨rfl, eT, hc, hs⟩)
  dsimp only [Pt.U, Pt.locs, Pt.cells, Pt.slots] at X' l1 l2 l3 stp q2 q3 hS' hC'
  subst l1 l2 l3
  obtain ⟨t, v', L, r, rr⟩ := (W v T'.heap q2 q3).after (h := h) hx hby hml hown hnm hret hlk hZ hS0 hk0 hC hSf hI X' hS' (Fr.app N q1) q2 rfl hC'
  exact ⟨t, v', L, stp.trans r, rr⟩
theorem k_callVirtualW {y : MD} {x : MethodName} {C : String} {i W0 : Nat} {a : Addr} {argsL : List Value} {Q' : Option Value → Heap → Prop} {ps : List FieldType} {r : Option FieldType} (hd : decode M.2.1 pc = .ok (.invokevirtual i, 3)) (hp : pc + 3 = pc') (K : MtW l Z y [] n0 (.ref a :: argsL).toArray P h Q') (E : Exa Z h a C)
    (w1 : (Cond.methodLink M.1.cls i x).before a0 Z = true) (w2 : (Cond.declares x).before a0 Z = true) (w3 : (Cond.selects C x y.1).before a0 Z = true) {C7 : String} {x7 z7 : MethodName} (w7 : (Cond.selects C7 x7 z7).before a0 Z = true) (hz7 : z7.cls = x.cls) (w4 : (Cond.instanceMethod y.1).before a0 Z = true) (w5 : (Cond.code y.1 y.2.1 y.2.2.1 y.2.2.2.1).before a0 Z = true) (w6 : (Cond.initialized y.1.cls).before a0 Z = true) (hy : x.cls ≠ "java/lang/invoke/MethodHandle" ∧ x.cls ≠ "java/lang/invoke/VarHandle")
    (hpd : parseMethodDescriptor x.desc = some ⟨ps, r⟩) (hlen : argsL.length = ps.length) (hst : st = argsL.reverse ++ .ref a :: rest) (hsz : Ls.size = M.2.2.1) (hW : (rest.map fun v => v.category).sum = W0)
    (hfr : y.2.2.2.2.frames + 1 ≤ M.2.2.2.2.frames) (hlo : W0 + (y.2.2.1 + 11) + y.2.2.2.2.locals ≤ M.2.2.2.2.locals) (hc : k + y.2.2.2.2.cells ≤ M.2.2.2.2.cells) (hs : n + y.2.2.2.2.slots ≤ M.2.2.2.2.slots)
    (W : ∀ v h', h.size ≤ h'.size → Q' v h' → KW true l Z M n0 Q P h' (k + y.2.2.2.2.cells) (n + y.2.2.2.2.slots) pc' Ls (v.toList ++ rest)) : KW true l Z M n0 Q P h k n pc Ls st := by
  intro p e s s' m args below meth c hx hby hml hown hnm hret hlk hZ hB hI T locs X N eT
  subst hp
  rcases hB with ⟨q, -⟩ | ⟨-, vm0, k0, rfl, hS0, hk0, hC, hSf⟩
  · cases q
  obtain ⟨a1, hEW⟩ := hI rfl
  obtain ⟨cq, kq, qa, qb, qc⟩ := isOf hZ eT E
  obtain ⟨v, _, ⟨T', L', k', n'⟩, -, X', hS', hgr, ⟨Lc, ⟨q1, q2, q3⟩, l1, l2, l3, hC'⟩, stp⟩ := X.virtualBackS hx (y := x) (z := y.1) hown (mvT hZ w1) (mvT hZ w2) (own_notFace (args := #[]) (mvT hZ w7) hz7) (mvT hZ w3) (mvT hZ w4) hy (backW (W0 := W0) K hZ w5 w6 hfr hlo hEW hC.1 hSf) qa qc (g := mkF m pc Ls st) rfl (hsz.trans hml.symm) (Steps.refl _) (argsL := argsL) (rest := rest) (lenOf hpd hlen) hst (by show 2 * 0 + _ ≤ _; omega) (hb hby hd) (fun _ _ => ⟨rfl, eT, hc, hs⟩)
  dsimp only [Pt.U, Pt.locs, Pt.cells, Pt.slots] at X' l1 l2 l3 stp q2 q3 hS' hC'
  subst l1 l2 l3
  obtain ⟨t, v', L, r, rr⟩ := (W v T'.heap q2 q3).after (h := h) hx hby hml hown hnm hret hlk hZ hS0 hk0 hC hSf hI X' hS' (Fr.app N q1) q2 rfl hC'
  exact ⟨t, v', L, stp.trans r, rr⟩
/-- a String constant whose text is read -/
theorem k_ldcS {i sl : Nat} {text : String} {vs : List Value} {z : Int32} (hd : decode M.2.1 pc = .ok (.ldc i, 2)) (hp : pc + 2 = pc') (w : (Cond.stringLink M.1.cls i text).before a0 Z = true) (wS : ∀ a ∈ Bundle.stringAtoms, a.before a0 Z = true) (hmem : (M.1.cls, i) ∈ P.1)
    (ht : (∀ c ∈ text.toList, c.toNat < 256) ∧ text.toList.map (fun c => Value.int (Jvm.Lit.byteI c.toNat.toUInt16)) = vs) (hz : ¬ z < 0) (hl : z.toNatClampNeg = vs.length) (hn : 4 * text.toList.length ≤ sl) (hbig : sl ≤ 536870912) (hc : k + 2 ≤ M.2.2.2.2.cells) (hs : n + (sl + 4) ≤ M.2.2.2.2.slots)
    (W : ∀ a b ck h', Ext h h' → Exa Z h' a "java/lang/String" → Fld Z h' a "java/lang/String" "coder" "B" (.int 0) → Fld Z h' a "java/lang/String" "value" "[B" (.ref b) → Arv Z h' b ck .byte z vs (.int 0) → (∀ x, P.2 x → x ≠ a ∧ x ≠ b) → KW true l Z M n0 Q P h' (k + 2) (n + (sl + 4)) pc' Ls (.ref a :: st)) : KW true l Z M n0 Q P h k n pc Ls st := by
  intro p e s s' m args below meth c hx hby hml hown hnm hret hlk hZ hB hI T locs X N eT
  subst hp
  rcases hB with ⟨q, -⟩ | ⟨-, vm0, k0, rfl, hS0, hk0, hC, hSf⟩
  · cases q
  obtain ⟨a1, hEW⟩ := hI rfl
  have hEW0 : EW Z a0 P.1 := fun p hp => by
    obtain ⟨text, w1, w2⟩ := hEW p hp
    exact ⟨text, by simpa only [Cond.before, Cond.holds, Cond.value] using w1, w2⟩
  obtain ⟨a, T', h', k1, b, ck, X', e', E, hS', hk', hZ', hown', A, F1, F2, V, -, -, hC', -, hne, stp⟩ := ldcCH X hx hZ hown w wS eT hS0 hk0 hEW0 hmem hC.1 ht hz hl (g := mkF m pc Ls st) rfl (hb hby hd) hn hbig hc hs
  obtain ⟨t, v', L, r, rr⟩ := W a b ck h' E A F1 F2 V (fun x hx => hne x (hC'.safe (hSf x hx).2 (hSf x hx).1)) p e s (s.setVm T'.vm) m args below meth c hx hby hml hown' hnm hret hlk hZ' (Or.inr ⟨rfl, T'.vm, k1, rfl, hS', hk', hC.trans hC', fun x hx => ⟨hC'.safe (hSf x hx).2 (hSf x hx).1, Nat.lt_of_lt_of_le (hSf x hx).2 E.1⟩⟩) hI T' locs X' N e'
  exact ⟨t, v', L, stp t r, rr⟩
/-- a String constant whose text isn't read -/
theorem k_ldcO {i sl : Nat} {text : String} (hd : decode M.2.1 pc = .ok (.ldc i, 2)) (hp : pc + 2 = pc') (w : (Cond.stringLink M.1.cls i text).before a0 Z = true) (wS : ∀ a ∈ Bundle.stringAtoms, a.before a0 Z = true)
    (hn : 4 * text.toList.length ≤ sl) (hbig : sl ≤ 536870912) (hc : k + 2 ≤ M.2.2.2.2.cells) (hs : n + (sl + 4) ≤ M.2.2.2.2.slots)
    (W : ∀ a h', Ext h h' → KW true l Z M n0 Q P h' (k + 2) (n + (sl + 4)) pc' Ls (.ref a :: st)) : KW true l Z M n0 Q P h k n pc Ls st := by
  intro p e s s' m args below meth c hx hby hml hown hnm hret hlk hZ hB hI T locs X N eT
  subst hp
  rcases hB with ⟨q, -⟩ | ⟨-, vm0, k0, rfl, hS0, hk0, hC, hSf⟩
  · cases q
  obtain ⟨a1, hEW⟩ := hI rfl
  have hEW0 : EW Z a0 P.1 := fun p hp => by
    obtain ⟨text, w1, w2⟩ := hEW p hp
    exact ⟨text, by simpa only [Cond.before, Cond.holds, Cond.value] using w1, w2⟩
  obtain ⟨a, T', h', k1, X', e', E, hS', hk', hZ', hown', hC', -, stp⟩ := ldcOH X hx hZ hown w wS eT hS0 hk0 hEW0 hC.1 (g := mkF m pc Ls st) rfl (hb hby hd) hn hbig hc hs
  obtain ⟨t, v', L, r, rr⟩ := W a h' E p e s (s.setVm T'.vm) m args below meth c hx hby hml hown' hnm hret hlk hZ' (Or.inr ⟨rfl, T'.vm, k1, rfl, hS', hk', hC.trans hC', fun x hx => ⟨hC'.safe (hSf x hx).2 (hSf x hx).1, Nat.lt_of_lt_of_le (hSf x hx).2 E.1⟩⟩) hI T' locs X' N e'
  exact ⟨t, v', L, stp t r, rr⟩
end
end Jvm.OwnW

namespace Jvm.OwnW
open Sem ClassFile Op Lib Jvm.Stand Jvm.Free Jvm.LawKit Jvm.RoadKit
theorem ix_int {j : Nat} (h : j < 2147483648) : (Int32.ofNat j).toInt = (j : Int) := Int32.toInt_ofNat_of_lt h
theorem ix_nat {j : Nat} (h : j < 2147483648) : (Int32.ofNat j).toNatClampNeg = j := by
  show (Int32.ofNat j).toInt.toNat = j
  rw [ix_int h]; rfl
theorem ix_nn {j : Nat} (h : j < 2147483648) : ¬ Int32.ofNat j < 0 := by
  rw [Int32.lt_iff_toInt_lt, ix_int h]; show ¬ (j : Int) < 0; omega
theorem ix_lt {i j : Nat} (hj : j < 2147483648) (h : i < j) : Int32.ofNat i < Int32.ofNat j := by
  rw [Int32.lt_iff_toInt_lt, ix_int hj, ix_int (by omega)]; omega
theorem ix_irr {j : Nat} : ¬ Int32.ofNat j < Int32.ofNat j := by rw [Int32.lt_iff_toInt_lt]; omega
theorem ix_succ (j : Nat) : Int32.ofNat j + 1 = Int32.ofNat (j + 1) := (Int32.ofNat_add j 1).symm
theorem ix_inb {j n : Nat} (hn : n < 2147483648) (h : j < n) : ¬ Int32.ofNat j < 0 ∧ Int32.ofNat j < Int32.ofNat n := ⟨ix_nn (by omega), ix_lt hn h⟩
theorem ix_ne {i j : Nat} (hi : i < 2147483648) (hj : j < 2147483648) (h : i ≠ j) : ¬ Int32.ofNat i = Int32.ofNat j := fun q => h (by
  have := congrArg Int32.toInt q; rw [ix_int hi, ix_int hj] at this; omega)
theorem get_mid (f : Int32 → Value) (ps rs : List Int32) (q : Int32) (d : Value) {j : Nat} (hj : j = ps.length) : ((ps ++ q :: rs).map f).getD j d = f q := by
  subst hj; induction ps with
  | nil => rfl
  | cons p ps ih => simpa using ih
theorem set_mid (A B : List Value) (w v : Value) {j : Nat} (hj : j = A.length) : (A ++ w :: B).set j v = (A ++ [v]) ++ B := by
  subst hj; induction A with
  | nil => rfl
  | cons p ps ih => simpa using ih
/-- a byte of a sign -/
abbrev nbI (q : Int32) : Int32 := nar .byte (Int8.toInt32 (Int32.toInt8 q))
theorem nbI_inj {p q : Int32} (hp : 0 ≤ p.toInt ∧ p.toInt < 256) (hq : 0 ≤ q.toInt ∧ q.toInt < 256) (h : nbI p = nbI q) : p = q := by
  have e1 := c_i2b p; have e2 := c_i2b q
  have e3 := c_i2b (Int8.toInt32 (Int32.toInt8 p)); have e4 := c_i2b (Int8.toInt32 (Int32.toInt8 q))
  have h' : (Int8.toInt32 (Int32.toInt8 (Int8.toInt32 (Int32.toInt8 p)))).toInt = (Int8.toInt32 (Int32.toInt8 (Int8.toInt32 (Int32.toInt8 q)))).toInt := congrArg Int32.toInt h
  refine Int32.toInt_inj.mp ?_
  omega
def Latin (xs : List Int32) : Prop := ∀ q ∈ xs, 0 ≤ q.toInt ∧ q.toInt < 256
theorem Latin.nil : Latin [] := fun _ q => nomatch q
theorem Latin.cons {q : Int32} {xs : List Int32} (h : 0 ≤ q.toInt ∧ q.toInt < 256) (r : Latin xs) : Latin (q :: xs) := fun x hx => (List.mem_cons.mp hx).elim (fun e => e ▸ h) (r x)
theorem latin_inj : ∀ {xs ys : List Int32}, Latin xs → Latin ys → xs.map nbI = ys.map nbI → xs = ys
  | [], [], _, _, _ => rfl
  | [], _ :: _, _, _, h => by simp at h
  | _ :: _, [], _, _, h => by simp at h
  | x :: xs, y :: ys, hx, hy, h => by
    simp only [List.map_cons, List.cons.injEq] at h
    rw [nbI_inj (hx x (by simp)) (hy y (by simp)) h.1, latin_inj (fun q hq => hx q (by simp [hq])) (fun q hq => hy q (by simp [hq])) h.2]
/-- a String of Latin-1 signs, by its bytes -/
def Sg (Z : State) (h : Heap) (a t : Addr) (bs : List Int32) : Prop := ∃ ck, Exa Z h a "java/lang/String" ∧ Fld Z h a "java/lang/String" "coder" "B" (.int 0) ∧ Fld Z h a "java/lang/String" "value" "[B" (.ref t) ∧ Arv Z h t ck .byte (Int32.ofNat bs.length) (bs.map Value.int) (.int 0) ∧ bs.length < 2147483648
section
variable {Z : State} {h h' : Heap} {a t x : Addr} {bs : List Int32} {ws : List Addr} {sl : Nat} {v : Value}
theorem Sg.ext (S : Sg Z h a t bs) (E : Ext h h') : Sg Z h' a t bs := by
  obtain ⟨ck, A, B, C, D, F⟩ := S; exact ⟨ck, A.ext E, B.ext E, C.ext E, D.ext E, F⟩
theorem Sg.keep (S : Sg Z h a t bs) (K : Keep h h' ws) (q : a ∉ ws) (r : t ∉ ws) : Sg Z h' a t bs := by
  obtain ⟨ck, A, B, C, D, F⟩ := S; exact ⟨ck, A.keep K, B.keep K q, C.keep K q, D.keep K r, F⟩
theorem Sg.wr (S : Sg Z h a t bs) (W : Wr h h' x sl v) (q : a ≠ x) (r : t ≠ x) : Sg Z h' a t bs := by
  obtain ⟨ck, A, B, C, D, F⟩ := S; exact ⟨ck, A.wr W, B.other W (Or.inl q), C.other W (Or.inl q), D.other W r, F⟩
theorem Sg.lt (S : Sg Z h a t bs) : a < h.size := by obtain ⟨ck, A, -⟩ := S; exact A.lt
theorem Sg.ltv (S : Sg Z h a t bs) : t < h.size := by obtain ⟨ck, -, -, -, D, -⟩ := S; exact D.lt
theorem Sg.exa (S : Sg Z h a t bs) : Exa Z h a "java/lang/String" := by obtain ⟨ck, A, -⟩ := S; exact A
end
theorem Fld.uniq {Z : State} {h : Heap} {a : Addr} {C n d : String} {v w : Value} (F : Fld Z h a C n d v) (G : Fld Z h a C n d w) : v = w :=
  Classical.byContradiction fun q => (Fld.ne F G q) rfl
theorem Arv.uniq {Z : State} {h : Heap} {t : Addr} {ck ck' : ClassId} {xs ys : List Int32} (hx : xs.length < 2147483648) (hy : ys.length < 2147483648) (A : Arv Z h t ck .byte (Int32.ofNat xs.length) (xs.map Value.int) (.int 0)) (B : Arv Z h t ck' .byte (Int32.ofNat ys.length) (ys.map Value.int) (.int 0)) : xs = ys := by
  obtain ⟨c, A1, -, A3, -, A5, -⟩ := A
  obtain ⟨c', B1, -, B3, -, B5, -⟩ := B
  cases A1.1.symm.trans B1.1
  rw [ix_nat hx] at A3
  rw [ix_nat hy] at B3
  have hl : xs.length = ys.length := A3.symm.trans B3
  apply List.ext_getElem hl
  intro i h1 h2
  have e1 := A5 i (by omega)
  have e2 := B5 i (by omega)
  have e3 := Option.some.inj (e1.symm.trans e2)
  simp only [List.getD_eq_getElem?_getD, List.getElem?_map, List.getElem?_eq_getElem h1, List.getElem?_eq_getElem h2, Option.map_some, Option.getD_some] at e3
  exact Value.int.inj e3
theorem Sg.uniq {Z : State} {h : Heap} {a t u : Addr} {xs ys : List Int32} (S : Sg Z h a t xs) (T : Sg Z h a u ys) : xs = ys := by
  obtain ⟨ck, -, -, C, D, F⟩ := S
  obtain ⟨ck', -, -, C', D', F'⟩ := T
  cases Value.ref.inj (Fld.uniq C C')
  exact Arv.uniq F F' D D'
/-- the answer of equals -/
def eqI (xs ys : List Int32) : Int32 := if xs = ys then 1 else 0
theorem eqI_one {xs ys : List Int32} (h : ¬ eqI xs ys = 0) : eqI xs ys = 1 := by
  unfold eqI at *; split at h
  · rename_i q; rw [if_pos q]
  · exact absurd rfl h
theorem eqI_self (xs : List Int32) : eqI xs xs = 1 := by simp [eqI]
theorem eqI_nar (xs ys : List Int32) : nar .boolean (eqI xs ys) = eqI xs ys := by unfold eqI; split <;> decide
theorem eqI_mid {ps rs rs' : List Int32} {q q' : Int32} (h : ¬ q = q') : eqI (ps ++ q :: rs) (ps ++ q' :: rs') = 0 := by
  unfold eqI; rw [if_neg]; intro e
  exact h (List.cons.inj (List.append_cancel_left e)).1
theorem eqI_len {xs ys : List Int32} (h : ¬ Int32.ofNat xs.length = Int32.ofNat ys.length) : eqI xs ys = 0 := by
  unfold eqI; rw [if_neg]; intro e; exact h (by rw [e])
end Jvm.OwnW

namespace Jvm.OwnW
open Sem ClassFile Op Lib Jvm.Stand Jvm.Free Jvm.LawKit Jvm.RoadKit
section
variable {wd : Bool} {l : Launch} {Z : State} {M : MD} {n0 : Nat} {Q : Option Value → Heap → Prop} {P : PX} {h : Heap} {k n k' n' pc pc' : Nat} {Ls Ls' : Array Slot} {st st' rest : List Value} {a0 : Array Value}
/-- fewer cells made are as good -/
theorem KW.more (hk : k ≤ k') (hn : n ≤ n') (W : KW wd l Z M n0 Q P h k' n' pc Ls st) : KW wd l Z M n0 Q P h k n pc Ls st :=
  fun p e s s' m args below meth c hx hby hml hown hnm hret hlk hZ hB hI T locs X N eT => W p e s s' m args below meth c hx hby hml hown hnm hret hlk hZ hB hI T locs (X.more hk hn) N eT
theorem k_instNo {i : Nat} {K C : String} {a : Addr} (hd : decode M.2.1 pc = .ok (.instanceof i, 3)) (hp : pc + 3 = pc') (w : (Cond.classLink M.1.cls i K).before a0 Z = true) (E : Exa Z h a C) (F : ∃ c t, Z.vm.findClass C = some c ∧ Z.vm.findClass K = some t ∧ Z.vm.assignable c t = false) (W : KW wd l Z M n0 Q P h k n pc' Ls (.int 0 :: st)) : KW wd l Z M n0 Q P h k n pc Ls (.ref a :: st) := by
  subst hp; exact W.move fun p e s' T m args below meth c locs hx hby hml hown hZ X eT => instNo X hx hZ hown w eT E F (g := mkF m pc Ls (.ref a :: st)) rfl rfl (hb hby hd)
theorem k_instNull {i : Nat} (hd : decode M.2.1 pc = .ok (.instanceof i, 3)) (hp : pc + 3 = pc') (W : KW wd l Z M n0 Q P h k n pc' Ls (.int 0 :: st)) : KW wd l Z M n0 Q P h k n pc Ls (.null :: st) := by
  subst hp; exact W.step fun p e s' T m args below meth c locs hx hby hown hZ X target r => X.instanceofNull hx (g := mkF m pc Ls (.null :: st)) rfl rfl (hb hby hd) target r
theorem own_apart {C O K : String} {n : Nat} (wC : (Cond.superclass C O).before a0 Z = true) (wO : (Cond.noSuperclass O).before a0 Z = true) (wK : (Cond.instantiable K n).before a0 Z = true) (h1 : C ≠ K) (h2 : O ≠ K) : ∃ c t, Z.vm.findClass C = some c ∧ Z.vm.findClass K = some t ∧ Z.vm.assignable c t = false := by
  obtain ⟨t, kt, k1, k2, k3, k4, -, -⟩ := Cond.instantiable_spec wK
  obtain ⟨o, ko, o1, o2, o3, -, -⟩ := Cond.noSuperclass_spec wO
  obtain ⟨c, c0⟩ := found_sup wC
  obtain ⟨p, kc, kp, s1, s2, s3, s4, s5, -, s7⟩ := Cond.superclass_spec c0 wC
  cases o1.symm.trans s1
  have n1 := ids_ne c0 k1 h1
  have n2 := ids_ne o1 k1 h2
  have hroot : ∀ f, Z.vm.isSubclassAux f o t = false := fun f => by
    cases f with
    | zero => rfl
    | succ f => simp [Vm.isSubclassAux, n2, o2, o3]
  have hsub : ∀ f, Z.vm.isSubclassAux f c t = false := fun f => by
    cases f with
    | zero => rfl
    | succ f => simp [Vm.isSubclassAux, n1, s2, s4, hroot]
  have hi : kt.isInterface = false := by simp at k4; exact k4.1
  refine ⟨c, t, c0, k1, ?_⟩
  show Z.vm.assignableAux (255 + 1) c t = false
  simp [Vm.assignableAux, n1, s2, k2, s5, k3, hi, Vm.isSubclass, hsub]
end
theorem cat_R (a : Addr) : (Value.ref a).category = 1 := rfl
theorem cat_ref {v : Value} (h : v.isRef = true) : v.category = 1 := by rcases ref_cases h with rfl | ⟨_, rfl⟩ <;> rfl
theorem fit_ref {v : Value} {C : String} (h : v.isRef = true) : fits (.object C) v = true := by rcases ref_cases h with rfl | ⟨_, rfl⟩ <;> rfl
theorem nar_ref {v : Value} {C : String} (h : v.isRef = true) : narrow (.object C) v = v := by rcases ref_cases h with rfl | ⟨_, rfl⟩ <;> rfl
theorem eqI_comm (xs ys : List Int32) : eqI xs ys = eqI ys xs := by
  unfold eqI; by_cases h : xs = ys
  · rw [if_pos h, if_pos h.symm]
  · rw [if_neg h, if_neg (fun e => h e.symm)]
end Jvm.OwnW

namespace Jvm.OwnW
open Sem ClassFile Op Lib Jvm.Stand Jvm.Free Jvm.LawKit Jvm.RoadKit
section
variable {wd : Bool} {l : Launch} {Z : State} {M : MD} {n0 : Nat} {Q : Option Value → Heap → Prop} {P : PX} {h : Heap} {k n pc pc' : Nat} {Ls Ls' : Array Slot} {st st' rest : List Value} {a0 : Array Value}
theorem getD_int (L : List Int32) (j : Nat) : (L.map Value.int).getD j (.int 0) = .int (L.getD j 0) := by
  simp only [List.getD_eq_getElem?_getD, List.getElem?_map]
  cases L[j]? <;> rfl
theorem Arv.bytes {a : Addr} {ck : ClassId} {L : List Int32} (hL : L.length < 2147483648) (A : Arv Z h a ck .byte (Int32.ofNat L.length) (L.map Value.int) (.int 0)) : ∃ c : Cell, Arr Z h a c .byte ∧ c.cls = ck ∧ c.slots.size = L.length ∧ (∀ j, j < L.length → c.slots[j]? = some (.int (L.getD j 0))) ∧ ∀ j, j < L.length → fits .byte (.int (L.getD j 0)) = true := by
  obtain ⟨c, A1, A2, A3, -, A5, A6⟩ := A
  rw [ix_nat hL] at A3
  refine ⟨c, A1, A2, A3, fun j hj => ?_, fun j hj => ?_⟩
  · have := A5 j (by omega); rw [getD_int] at this; exact this
  · have := A6 j (by omega); rw [getD_int] at this; exact this
theorem Arv.ofBytes {a : Addr} {ck : ClassId} {L : List Int32} {c : Cell} (hL : L.length < 2147483648) (A1 : Arr Z h a c .byte) (A2 : c.cls = ck) (A3 : c.slots.size = L.length) (A5 : ∀ j, j < L.length → c.slots[j]? = some (.int (L.getD j 0))) (A6 : ∀ j, j < L.length → fits .byte (.int (L.getD j 0)) = true) : Arv Z h a ck .byte (Int32.ofNat L.length) (L.map Value.int) (.int 0) :=
  ⟨c, A1, A2, by rw [ix_nat hL]; exact A3, ix_nn hL, fun j hj => by rw [getD_int]; exact A5 j (by omega), fun j hj => by rw [getD_int]; exact A6 j (by omega)⟩
/-- ys with n of xs from o on laid in at q -/
def laid (xs ys : List Int32) (o q n : Nat) : List Int32 := ys.take q ++ ((xs.drop o).take n ++ ys.drop (q + n))
theorem laid_len {xs ys : List Int32} {o q n : Nat} (h4 : o + n ≤ xs.length) (h5 : q + n ≤ ys.length) : (laid xs ys o q n).length = ys.length := by
  unfold laid; simp only [List.length_append, List.length_take, List.length_drop]; omega
theorem laid_at {xs ys : List Int32} {o q n : Nat} (h4 : o + n ≤ xs.length) (h5 : q + n ≤ ys.length) (j : Nat) : (laid xs ys o q n).getD j 0 = if q ≤ j ∧ j < q + n then xs.getD (o + (j - q)) 0 else ys.getD j 0 := by
  unfold laid
  simp only [List.getD_eq_getElem?_getD]
  by_cases a : j < q
  · rw [if_neg (by omega), List.getElem?_append_left (by simp only [List.length_take]; omega), List.getElem?_take_of_lt a]
  · rw [List.getElem?_append_right (by simp only [List.length_take]; omega)]
    have e1 : (ys.take q).length = q := by simp only [List.length_take]; omega
    rw [e1]
    by_cases b : j < q + n
    · rw [if_pos ⟨by omega, b⟩, List.getElem?_append_left (by simp only [List.length_take, List.length_drop]; omega), List.getElem?_take_of_lt (by omega), List.getElem?_drop]
    · rw [if_neg (by omega), List.getElem?_append_right (by simp only [List.length_take, List.length_drop]; omega), List.getElem?_drop]
      congr 2
      simp only [List.length_take, List.length_drop]; omega
/-- System.arraycopy between two byte arrays -/
theorem k_acopy {i W0 o q m' : Nat} {a b : Addr} {ck ck' : ClassId} {xs ys : List Int32} (hd : decode M.2.1 pc = .ok (.invokestatic i, 3)) (hp : pc + 3 = pc') (w1 : (Cond.methodLink M.1.cls i acN).before a0 Z = true) (w2 : (Cond.native acN).before a0 Z = true) (w3 : (Cond.static acN).before a0 Z = true) (w4 : (Cond.initialized "java/lang/System").before a0 Z = true)
    (hx0 : xs.length < 2147483648) (hy0 : ys.length < 2147483648) (A : Arv Z h a ck .byte (Int32.ofNat xs.length) (xs.map Value.int) (.int 0)) (B : Arv Z h b ck' .byte (Int32.ofNat ys.length) (ys.map Value.int) (.int 0)) (h4 : o + m' ≤ xs.length) (h5 : q + m' ≤ ys.length) (hb0 : n0 ≤ b) (hsf : wd = true → Sf Z P h b)
    (hsz : Ls.size = M.2.2.1) (hW : (st.map fun v => v.category).sum = W0) (hfr : 1 ≤ M.2.2.2.2.frames) (hlo : W0 + 40 ≤ M.2.2.2.2.locals)
    (W : ∀ h', Keep h h' [b] → Arv Z h' b ck' .byte (Int32.ofNat ys.length) ((laid xs ys o q m').map Value.int) (.int 0) → KW wd l Z M n0 Q (P.grow h h') h' k n pc' Ls st) : KW wd l Z M n0 Q P h k n pc Ls (.int (Int32.ofNat m') :: .int (Int32.ofNat q) :: .ref b :: .int (Int32.ofNat o) :: .ref a :: st) := by
  intro p e s s' m args below meth c hx hby hml hown hnm hret hlk hZ hB hI T locs X N eT
  subst hp
  obtain ⟨cA, A1, A2, A3, A5, A6⟩ := Arv.bytes hx0 A
  obtain ⟨cB, B1, B2, B3, B5, B6⟩ := Arv.bytes hy0 B
  have hw : ∀ w ∈ XT.acW M.1.cls i, w.before args s' = true := by
    intro w hw
    simp only [XT.acW, List.mem_cons, List.not_mem_nil, or_false] at hw
    rcases hw with rfl | rfl | rfl | rfl
    · exact mvT hZ w1
    · exact mvT hZ w2
    · exact mvT hZ w3
    · exact mvT hZ w4
  have hA : XT.Arr .byte a cA T := ⟨by rw [eT]; exact A1.1, State.isArrayOf_alike (hZ.trans (t := s') X.warmed.wide).alike A1.2.1, A1.2.2, by omega⟩
  have hBt : XT.Arr .byte b cB T := ⟨by rw [eT]; exact B1.1, State.isArrayOf_alike (hZ.trans (t := s') X.warmed.wide).alike B1.2.1, B1.2.2, by omega⟩
  have hgo : XT.Goes .byte cA o m' cB T := fun j hj => by
    have e1 : cA.slots.getD (o + j) .null = .int (xs.getD (o + j) 0) := by
      rw [Array.getD_eq_getD_getElem?, A5 (o + j) (by omega)]; rfl
    rw [e1]
    exact ⟨A6 (o + j) (by omega), fun q => by cases q⟩
  obtain ⟨T', B', X', hput, c1, c2, c3, c4, stp⟩ := X.acopy hx hown hw hA hBt (by decide) (o := o) (q := q) (n := m') rfl rfl rfl (by omega) (by omega) hgo (g := mkF m pc Ls (.int (Int32.ofNat m') :: .int (Int32.ofNat q) :: .ref b :: .int (Int32.ofNat o) :: .ref a :: st)) rfl (hsz.trans hml.symm) (rest := st) rfl (hb hby hd) (W := W0) (by show 2 * 0 + _ ≤ _; omega) hfr hlo
  have hK : Keep h T'.heap [b] := by
    rw [← eT]
    refine ⟨Nat.le_of_eq hput.2.2.symm, fun x cx q r => hput.other (fun z => r (by simp [z])) q, fun x cx q => ?_⟩
    by_cases z : x = b
    · subst z
      cases q.symm.trans hBt.1
      exact ⟨B', hput.1, c1, c2, c3⟩
    · exact ⟨cx, hput.other z q, rfl, rfl, rfl⟩
  have hAr : Arr Z T'.heap b B' .byte := ⟨hput.1, by
    obtain ⟨z1, z2⟩ := B1.2.1
    exact ⟨by rw [c2]; exact z1, by rw [c1]; exact z2⟩, by rw [c2]; exact B1.2.2⟩
  have hl := laid_len h4 h5
  have hV : Arv Z T'.heap b ck' .byte (Int32.ofNat ys.length) ((laid xs ys o q m').map Value.int) (.int 0) := by
    have V := Arv.ofBytes (L := laid xs ys o q m') (ck := ck') (by omega) hAr (c1.trans B2) (by rw [c3, B3, hl]) (fun j hj => by
      rw [c4 j, laid_at h4 h5]
      by_cases z : q ≤ j ∧ j < q + m'
      · rw [if_pos z, if_pos z, Array.getD_eq_getD_getElem?, A5 _ (by omega)]; rfl
      · rw [if_neg z, if_neg z]; exact B5 j (by omega)) (fun j hj => by
      rw [laid_at h4 h5]
      by_cases z : q ≤ j ∧ j < q + m'
      · rw [if_pos z]; exact A6 _ (by omega)
      · rw [if_neg z]; exact B6 j (by omega))
    rw [hl] at V
    exact V
  obtain ⟨t, v, L, r, rr⟩ := W T'.heap hK hV p e s s' m args below meth c hx hby hml hown hnm hret hlk hZ (hB.keep hZ hK (fun u x hx => by cases List.mem_singleton.mp hx; exact hsf u)) hI T' _ X' (Fr.app N (fun y hy => by rw [copyLocs_base hy]; exact hb0)) rfl
  exact ⟨t, v, L, stp t r, rr⟩
end
end Jvm.OwnW

namespace Jvm.OwnW
open Sem ClassFile Op Lib Jvm.Stand Jvm.Free Jvm.LawKit Jvm.RoadKit
section
variable {wd : Bool} {l : Launch} {Z : State} {M : MD} {n0 : Nat} {Q : Option Value → Heap → Prop} {P : PX} {h : Heap} {k n pc pc' : Nat} {Ls Ls' : Array Slot} {st st' rest : List Value} {a0 : Array Value}
theorem own_same {y x7 z7 : MethodName} {C7 : String} (wd : (Cond.declares y).before a0 Z = true) (w7 : (Cond.selects C7 x7 z7).before a0 Z = true) (hz : z7.cls = y.cls) (hy : y.cls ≠ "java/lang/invoke/MethodHandle" ∧ y.cls ≠ "java/lang/invoke/VarHandle") : (Cond.sameMethod y.cls y.cls y.name y.desc).before a0 Z = true := by
  obtain ⟨m, meth, h1, -, -, -⟩ := Cond.declares_spec wd
  have hf := State.methodFound?_of_named h1 hy
  obtain ⟨kr, k1, k2⟩ := own_notFace w7 hz m h1
  have hc := findClass_of_methodNamed h1
  have h1' : Z.methodNamed? ⟨y.cls, y.name, y.desc⟩ = some m := h1
  simp [Cond.before, Cond.holds, Cond.value, hc, hf, h1', k1, k2]
theorem own_decl {y : MethodName} {bytes : ByteArray} {mx : Nat} {ret : Option FieldType} (w3 : (Cond.instanceMethod y).before a0 Z = true) (w5 : (Cond.code y bytes mx ret).before a0 Z = true) : (Cond.declares y).before a0 Z = true := by
  obtain ⟨mk, meth, hn, hm, hst, hab⟩ := Cond.instanceMethod_spec w3
  obtain ⟨m2, cM, q1, -, -, -, -, -, -, hsig⟩ := Cond.code_spec hn w5
  cases hm.symm.trans q1
  simp [Cond.before, Cond.holds, Cond.value, hn, hm, hst, hsig]
theorem shl0 (z : Int32) : z <<< ((0 : Int32) &&& 31) = z := by
  have h := c_ishl z 0 0 (by decide)
  have h1 := rng32 (z <<< ((0 : Int32) &&& 31)); have h2 := rng32 z
  refine Int32.toInt_inj.mp ?_
  simp only [Nat.pow_zero] at h
  omega
/-- a superclass's method by its contract -/
theorem k_callSuper {y : MD} {C : String} {i W0 : Nat} {a : Addr} {argsL : List Value} {Q' : Option Value → Heap → Prop} {ps : List FieldType} {r : Option FieldType} {C7 : String} {x7 z7 : MethodName} (hd : decode M.2.1 pc = .ok (.invokespecial i, 3)) (hp : pc + 3 = pc') (K : Mt l Z y [] n0 (.ref a :: argsL).toArray h Q') (hkp : Kp wd Z P h Q') (E : Exa Z h a C)
    (w1 : (Cond.methodLink M.1.cls i y.1).before a0 Z = true) (w2 : (Cond.declares y.1).before a0 Z = true) (w7 : (Cond.selects C7 x7 z7).before a0 Z = true) (hz7 : z7.cls = y.1.cls) (w3 : (Cond.instanceMethod y.1).before a0 Z = true) (w4 : (Cond.superclass M.1.cls y.1.cls).before a0 Z = true) (w5 : (Cond.code y.1 y.2.1 y.2.2.1 y.2.2.2.1).before a0 Z = true) (w6 : (Cond.initialized y.1.cls).before a0 Z = true) (hn : y.1.name ≠ "<init>") (hy : y.1.cls ≠ "java/lang/invoke/MethodHandle" ∧ y.1.cls ≠ "java/lang/invoke/VarHandle")
    (hpd : parseMethodDescriptor y.1.desc = some ⟨ps, r⟩) (hlen : argsL.length = ps.length) (hst : st = argsL.reverse ++ .ref a :: rest) (hsz : Ls.size = M.2.2.1) (hW : (rest.map fun v => v.category).sum = W0)
    (hfr : y.2.2.2.2.frames + 1 ≤ M.2.2.2.2.frames) (hlo : W0 + (y.2.2.1 + 11) + y.2.2.2.2.locals ≤ M.2.2.2.2.locals) (hc : k + y.2.2.2.2.cells ≤ M.2.2.2.2.cells) (hs : n + y.2.2.2.2.slots ≤ M.2.2.2.2.slots)
    (W : ∀ v h', h.size ≤ h'.size → Q' v h' → KW wd l Z M n0 Q (P.grow h h') h' (k + y.2.2.2.2.cells) (n + y.2.2.2.2.slots) pc' Ls (v.toList ++ rest)) : KW wd l Z M n0 Q P h k n pc Ls st := by
  intro p e s s' m args below meth c hx hby hml hown hnm hret hlk hZ hB hI T locs X N eT
  subst hp
  obtain ⟨v, _, ⟨T', L', k', n'⟩, -, X', ⟨Lc, ⟨q1, q2, q3⟩, l1, l2, l3⟩, stp⟩ := superBack X hx hZ (y := y.1) hown w1 (own_same w2 w7 hz7 hy) w3 w4 hn (backOf (W := W0) (Q := fun v h' L => Fr n0 L ∧ h.size ≤ h'.size ∧ Q' v h') K hZ w5 w6 hfr hlo) eT (Ins.self E) (g := mkF m pc Ls st) rfl (hsz.trans hml.symm) w5 (argsL := argsL) (rest := rest) (lenOf hpd hlen) hst (by show 2 * 0 + _ ≤ _; omega) (hb hby hd) (fun _ _ => ⟨rfl, eT, hc, hs⟩)
  dsimp only [Pt.U, Pt.locs, Pt.cells, Pt.slots] at X' l1 l2 l3 stp q2 q3
  subst l1 l2 l3
  obtain ⟨t, v', L, r, rr⟩ := W v T'.heap q2 q3 p e s s' m args below meth c hx hby hml hown hnm hret hlk hZ (hB.call hZ hkp q3) hI T' _ X' (Fr.app N q1) rfl
  exact ⟨t, v', L, stp.trans r, rr⟩
end
/-- a StringBuilder of Latin-1 signs: her bytes, and the array of N bytes -/
def Sb (Z : State) (h : Heap) (b d : Addr) (N : Nat) (bs : List Int32) : Prop := ∃ ck zs, Exa Z h b "java/lang/StringBuilder" ∧ Fld Z h b "java/lang/AbstractStringBuilder" "value" "[B" (.ref d) ∧ Fld Z h b "java/lang/AbstractStringBuilder" "coder" "B" (.int 0) ∧ Fld Z h b "java/lang/AbstractStringBuilder" "count" "I" (.int (Int32.ofNat bs.length)) ∧ Arv Z h d ck .byte (Int32.ofNat N) ((bs ++ zs).map Value.int) (.int 0) ∧ (bs ++ zs).length = N ∧ N < 2147483648
theorem Sb.lt {Z : State} {h : Heap} {b d : Addr} {N : Nat} {bs : List Int32} (S : Sb Z h b d N bs) : b < h.size := by obtain ⟨_, _, A, -⟩ := S; exact A.lt
theorem Sb.ltv {Z : State} {h : Heap} {b d : Addr} {N : Nat} {bs : List Int32} (S : Sb Z h b d N bs) : d < h.size := by obtain ⟨_, _, -, -, -, -, A, -⟩ := S; exact A.lt
theorem Sb.keep {Z : State} {h h' : Heap} {b d : Addr} {N : Nat} {bs : List Int32} {ws : List Addr} (S : Sb Z h b d N bs) (K : Keep h h' ws) (q : b ∉ ws) (r : d ∉ ws) : Sb Z h' b d N bs := by
  obtain ⟨ck, zs, A, B, C, D, E, F⟩ := S; exact ⟨ck, zs, A.keep K, B.keep K q, C.keep K q, D.keep K q, E.keep K r, F⟩
theorem Sb.ext {Z : State} {h h' : Heap} {b d : Addr} {N : Nat} {bs : List Int32} (S : Sb Z h b d N bs) (K : Ext h h') : Sb Z h' b d N bs := by
  obtain ⟨ck, zs, A, B, C, D, E, F⟩ := S; exact ⟨ck, zs, A.ext K, B.ext K, C.ext K, D.ext K, E.ext K, F⟩
theorem Sb.exa {Z : State} {h : Heap} {b d : Addr} {N : Nat} {bs : List Int32} (S : Sb Z h b d N bs) : Exa Z h b "java/lang/StringBuilder" := by obtain ⟨_, _, A, -⟩ := S; exact A
theorem ix_add (a b : Nat) : Int32.ofNat a + Int32.ofNat b = Int32.ofNat (a + b) := (Int32.ofNat_add a b).symm
theorem ix_room {a b : Nat} (hb : b < 2147483648) (h : a ≤ b) : ¬ (0 : Int32) < Int32.ofNat a - (Int32.ofNat b >>> ((0 : Int32) &&& 31)) := by
  have e : Int32.ofNat b >>> ((0 : Int32) &&& 31) = Int32.ofNat b := by
    have h := c_ishr (Int32.ofNat b) 0 0 (by decide)
    refine Int32.toInt_inj.mp ?_
    rw [h]; simp
  rw [e, Int32.lt_iff_toInt_lt]
  have h1 := c_isub (Int32.ofNat a) (Int32.ofNat b); have h2 := rng32 (Int32.ofNat a - Int32.ofNat b)
  rw [ix_int hb, ix_int (by omega)] at h1
  show ¬ (0 : Int) < _
  omega
/-- a text laid in behind the text -/
theorem laid_app (xs bs zs : List Int32) (h : xs.length ≤ zs.length) : laid xs (bs ++ zs) 0 bs.length xs.length = (bs ++ xs) ++ zs.drop xs.length := by
  unfold laid
  rw [List.take_left, List.drop_zero, List.take_length, List.drop_append]
  simp
theorem keep_of_wr {h h' : Heap} {a : Addr} {i : Nat} {v : Value} (W : Wr h h' a i v) : Keep h h' [a] := (Keep.refl h [a]).wr W (Or.inl (by simp))
theorem Sb.wr {Z : State} {h h' : Heap} {b d x : Addr} {i N : Nat} {v : Value} {bs : List Int32} (S : Sb Z h b d N bs) (W : Wr h h' x i v) (q : b ≠ x) (r : d ≠ x) : Sb Z h' b d N bs := S.keep (keep_of_wr W) (by simpa using q) (by simpa using r)
end Jvm.OwnW

namespace Jvm.OwnW
open Sem ClassFile Op Lib Jvm.Stand Jvm.Free Jvm.LawKit Jvm.RoadKit
section
variable {wd : Bool} {l : Launch} {Z : State} {M : MD} {n0 : Nat} {Q : Option Value → Heap → Prop} {P : PX} {h : Heap} {k n pc pc' : Nat} {Ls Ls' : Array Slot} {st st' rest : List Value} {a0 : Array Value}
theorem k_newR {i : Nat} {C : String} {z : Int32} {cap : Nat} (hd : decode M.2.1 pc = .ok (.anewarray i, 3)) (hp : pc + 3 = pc') (w1 : (Cond.classLink M.1.cls i C).before a0 Z = true) (w2 : (Cond.arrayOver (.object C)).before a0 Z = true) (hz : ¬ z < 0) (hcap : z.toNatClampNeg ≤ cap) (hb8 : cap * 8 ≤ 536870912) (hc : k + 1 ≤ M.2.2.2.2.cells) (hs : n + cap ≤ M.2.2.2.2.slots)
    (W : ∀ h' a cA, a = h.size → Ext h h' → Arv Z h' a cA (.object C) z [] .null → Ovr Z cA C → KW wd l Z M n0 Q (P.grow h h') h' (k + 1) (n + cap) pc' Ls (.ref a :: st)) : KW wd l Z M n0 Q P h k n pc Ls (.int z :: st) := by
  intro p e s s' m args below meth c hx hby hml hown hnm hret hlk hZ hB hI T locs X N eT
  subst hp
  obtain ⟨T', h', cA, X', e', E, A, O, stp⟩ := newR X hx hZ hown w1 w2 eT (g := mkF m pc Ls (.int z :: st)) rfl (hb hby hd) rfl hz hcap hb8 hc hs
  obtain ⟨t, v, L, r, rr⟩ := W h' h.size cA rfl E (Arv.new A hz) O p e s s' m args below meth c hx hby hml hown hnm hret hlk hZ (hB.ext E) hI T' locs X' N e'
  exact ⟨t, v, L, stp t r, rr⟩
theorem k_aastore {a y : Addr} {ck : ClassId} {ty : FieldType} {C : String} {z j : Int32} {vs : List Value} {dv : Value} {i : Nat} (hd : decode M.2.1 pc = .ok (.aastore, 1)) (hp : pc + 1 = pc') (V : Arv Z h a ck ty z vs dv) (hty : ty.isReference = true) (hft : fits ty (.ref y) = true) (hj : ¬ j < 0 ∧ j < z) (hi : j.toNatClampNeg = i) (hil : i < vs.length) (O : Ovr Z ck C) (I : Ins Z h y C true) (ha : n0 ≤ a) (hsf : wd = true → Sf Z P h a)
    (W : ∀ h', Wr h h' a i (.ref y) → Arv Z h' a ck ty z (vs.set i (.ref y)) dv → KW wd l Z M n0 Q P h' k n pc' Ls st) : KW wd l Z M n0 Q P h k n pc Ls (.ref y :: .int j :: .ref a :: st) := by
  intro p e s s' m args below meth c hx hby hml hown hnm hret hlk hZ hB hI T locs X N eT
  subst hp
  obtain ⟨cl, Ar, q1, S, Mz, H, G⟩ := V
  obtain ⟨T', h', X', e', Wr', stp⟩ := stR X hx hZ eT Ar (inb_of S hj) hty (Sto.ofV Ar q1 O I) (g := mkF m pc Ls (.ref y :: .int j :: .ref a :: st)) rfl rfl (hb hby hd)
  have V' := Arv.set Ar q1 S Mz H G hft Wr' i hi hil
  rw [hi] at Wr'
  obtain ⟨t, v, L, r, rr⟩ := W h' Wr' V' p e s s' m args below meth c hx hby hml hown hnm hret hlk hZ (hB.wr hZ Wr' hsf) hI T' _ X' (Fr.snoc X' N ha) e'
  exact ⟨t, v, L, stp t r, rr⟩
theorem k_aaload {a : Addr} {ck : ClassId} {C : String} {z : Int32} {j : Nat} {vs : List Value} {dv v : Value} (hd : decode M.2.1 pc = .ok (.aaload, 1)) (hp : pc + 1 = pc') (V : Arv Z h a ck (.object C) z vs dv) (hj31 : j < 2147483648) (hj : ¬ Int32.ofNat j < 0 ∧ Int32.ofNat j < z) (hv : vs.getD j dv = v) (W : KW wd l Z M n0 Q P h k n pc' Ls (v :: st)) : KW wd l Z M n0 Q P h k n pc Ls (.int (Int32.ofNat j) :: .ref a :: st) := by
  subst hp
  obtain ⟨cl, Ar, q1, S, Mz, H, G⟩ := V
  have hb31 : cl.slots.size < 2 ^ 31 := by rw [S]; have := rng32 z; show z.toInt.toNat < _; omega
  have hin := inb_of S hj
  have hlt : j < cl.slots.size := by
    have := Nat.lt_of_not_le fun q => hin (Or.inr q)
    rw [ix_nat hj31] at this; exact this
  exact W.move fun p e s' T m args below meth c locs hx hby hml hown hZ X eT => ⟨T, X, eT, fun target r => X.aget hx (t := .object C) (a := a) (A := cl) ⟨by rw [eT]; exact Ar.1, State.isArrayOf_alike (hZ.trans (t := s') X.warmed.wide).alike Ar.2.1, Ar.2.2, hb31⟩ (k := j) rfl (by rw [H j hlt, hv]) (g := mkF m pc Ls (.int (Int32.ofNat j) :: .ref a :: st)) rfl rfl (hb hby hd) r⟩
theorem k_getFieldN {i : Nat} {R0 O f d host : String} {a : Addr} {v : Value} (hd : decode M.2.1 pc = .ok (.getfield i, 3)) (hp : pc + 3 = pc') (w : (Cond.fieldLinkNest M.1.cls i R0 f d host).before a0 Z = true) (via : Via Z R0 O f d) (F : Fld Z h a O f d v) (W : KW wd l Z M n0 Q P h k n pc' Ls (v :: st)) : KW wd l Z M n0 Q P h k n pc Ls (.ref a :: st) := by
  subst hp; exact W.move fun p e s' T m args below meth c locs hx hby hml hown hZ X eT => getF X hx hZ hown (host := host) (Or.inr w) via eT F (g := mkF m pc Ls (.ref a :: st)) rfl rfl (hb hby hd)
/-- an interface's method by its contract; the receiver is exactly a C -/
theorem k_callFace {y : MD} {x : MethodName} {C : String} {i cnt W0 : Nat} {a : Addr} {argsL : List Value} {Q' : Option Value → Heap → Prop} {ps : List FieldType} {r : Option FieldType} (hd : decode M.2.1 pc = .ok (.invokeinterface i cnt, 5)) (hp : pc + 5 = pc') (K : Mt l Z y [] n0 (.ref a :: argsL).toArray h Q') (hkp : Kp wd Z P h Q') (E : Exa Z h a C)
    (w1 : (Cond.methodLink M.1.cls i x).before a0 Z = true) (w2 : (Cond.declares x).before a0 Z = true) (wf : (Cond.interfaceMethod x.cls x.cls x.name x.desc).before a0 Z = true) (w3 : (Cond.selects C x y.1).before a0 Z = true) (w4 : (Cond.instanceMethod y.1).before a0 Z = true) (wp : (Cond.publicMethod y.1).before a0 Z = true) (wu : (Cond.unhidden C x.name x.desc).before a0 Z = true) (wc : (Cond.castable C x.cls).before a0 Z = true) (w5 : (Cond.code y.1 y.2.1 y.2.2.1 y.2.2.2.1).before a0 Z = true) (w6 : (Cond.initialized y.1.cls).before a0 Z = true) (hy : x.cls ≠ "java/lang/invoke/MethodHandle" ∧ x.cls ≠ "java/lang/invoke/VarHandle") (kf : ((Cond.interfaceMethod x.cls x.cls x.name x.desc).onTables && (Cond.interfaceMethod x.cls x.cls x.name x.desc).keepsFace) = true)
    (hpd : parseMethodDescriptor x.desc = some ⟨ps, r⟩) (hlen : argsL.length = ps.length) (hst : st = argsL.reverse ++ .ref a :: rest) (hsz : Ls.size = M.2.2.1) (hW : (rest.map fun v => v.category).sum = W0)
    (hfr : y.2.2.2.2.frames + 1 ≤ M.2.2.2.2.frames) (hlo : W0 + (y.2.2.1 + 11) + y.2.2.2.2.locals ≤ M.2.2.2.2.locals) (hc : k + y.2.2.2.2.cells ≤ M.2.2.2.2.cells) (hs : n + y.2.2.2.2.slots ≤ M.2.2.2.2.slots)
    (W : ∀ v h', h.size ≤ h'.size → Q' v h' → KW wd l Z M n0 Q (P.grow h h') h' (k + y.2.2.2.2.cells) (n + y.2.2.2.2.slots) pc' Ls (v.toList ++ rest)) : KW wd l Z M n0 Q P h k n pc Ls st := by
  intro p e s s' m args below meth c hx hby hml hown hnm hret hlk hZ hB hI T locs X N eT
  subst hp
  obtain ⟨cq, kq, qa, qb, qc⟩ := isOf hZ eT E
  obtain ⟨v, _, ⟨T', L', k', n'⟩, -, X', ⟨Lc, ⟨q1, q2, q3⟩, l1, l2, l3⟩, stp⟩ := X.interfaceBack hx (xi := x) (y := y.1) hown (mvT hZ w1) (mvT hZ w2) (mvT hZ wf kf) (mvT hZ w3) (mvT hZ w4) (mvT hZ wp) (mvT hZ wu) (mvT hZ wc) hy (backOf (W := W0) (Q := fun v h' L => Fr n0 L ∧ h.size ≤ h'.size ∧ Q' v h') K hZ w5 w6 hfr hlo) qa qb qc (g := mkF m pc Ls st) rfl (hsz.trans hml.symm) (Steps.refl _) (argsL := argsL) (rest := rest) (lenOf hpd hlen) hst (by show 2 * 0 + _ ≤ _; omega) (hb hby hd) (fun _ _ => ⟨rfl, eT, hc, hs⟩)
  dsimp only [Pt.U, Pt.locs, Pt.cells, Pt.slots] at X' l1 l2 l3 stp q2 q3
  subst l1 l2 l3
  obtain ⟨t, v', L, r, rr⟩ := W v T'.heap q2 q3 p e s s' m args below meth c hx hby hml hown hnm hret hlk hZ (hB.call hZ hkp q3) hI T' _ X' (Fr.app N q1) rfl
  exact ⟨t, v', L, stp.trans r, rr⟩
end
end Jvm.OwnW
namespace Jvm.OwnW
open Sem ClassFile Op Lib Jvm.Stand Jvm.Free Jvm.LawKit Jvm.RoadKit
theorem own_apart2 {Z : State} {a0 : Array Value} {C S O K : String} {n : Nat} (wC : (Cond.superclass C S).before a0 Z = true) (wS : (Cond.superclass S O).before a0 Z = true) (wO : (Cond.noSuperclass O).before a0 Z = true) (wK : (Cond.instantiable K n).before a0 Z = true) (h1 : C ≠ K) (h2 : S ≠ K) (h3 : O ≠ K) : ∃ c t, Z.vm.findClass C = some c ∧ Z.vm.findClass K = some t ∧ Z.vm.assignable c t = false := by
  obtain ⟨t, kt, k1, k2, k3, k4, -, -⟩ := Cond.instantiable_spec wK
  obtain ⟨o, ko, o1, o2, o3, -, -⟩ := Cond.noSuperclass_spec wO
  obtain ⟨c, c0⟩ := found_sup wC
  obtain ⟨p, kc, kp, s1, s2, s3, s4, s5, -, s7⟩ := Cond.superclass_spec c0 wC
  obtain ⟨p', kc', kp', u1, u2, u3, u4, u5, -, u7⟩ := Cond.superclass_spec s1 wS
  cases o1.symm.trans u1
  have n1 := ids_ne c0 k1 h1
  have n2 := ids_ne s1 k1 h2
  have n3 := ids_ne o1 k1 h3
  have hroot : ∀ f, Z.vm.isSubclassAux f o t = false := fun f => by
    cases f with
    | zero => rfl
    | succ f => simp [Vm.isSubclassAux, n3, o2, o3]
  have hmid : ∀ f, Z.vm.isSubclassAux f p t = false := fun f => by
    cases f with
    | zero => rfl
    | succ f => simp [Vm.isSubclassAux, n2, u2, u4, hroot]
  have hsub : ∀ f, Z.vm.isSubclassAux f c t = false := fun f => by
    cases f with
    | zero => rfl
    | succ f => simp [Vm.isSubclassAux, n1, s2, s4, hmid]
  have hi : kt.isInterface = false := by simp at k4; exact k4.1
  refine ⟨c, t, c0, k1, ?_⟩
  show Z.vm.assignableAux (255 + 1) c t = false
  simp [Vm.assignableAux, n1, s2, k2, s5, k3, hi, Vm.isSubclass, hsub]
end Jvm.OwnW

namespace Jvm.OwnW
open Sem ClassFile Op Lib Bundle Jvm.Stand Jvm.Free Jvm.LawKit Jvm.RoadKit Jvm.Free.SB Jvm.Free.SBG
/-- each entry of EL names a Latin-1 text of fewer than N signs -/
def EN (Z : State) (a0 : Array Value) (N : Nat) (EL : List (String × Nat)) : Prop := ∀ p ∈ EL, ∃ text : String, (Cond.stringLink p.1 p.2 text).before a0 Z = true ∧ (∀ c ∈ text.toList, c.toNat < 256) ∧ text.toList.length < N
theorem EN.nil {Z : State} {a0 : Array Value} {N : Nat} : EN Z a0 N [] := fun _ hp => by cases hp
theorem EN.cons {Z : State} {a0 : Array Value} {N index : Nat} {own text : String} {EL : List (String × Nat)} (w : (Cond.stringLink own index text).before a0 Z = true) (ht : ∀ c ∈ text.toList, c.toNat < 256) (hl : text.toList.length < N) (E : EN Z a0 N EL) : EN Z a0 N ((own, index) :: EL) := fun p hp => by
  rcases List.mem_cons.mp hp with rfl | hp
  · exact ⟨text, w, ht, hl⟩
  · exact E p hp
/-- a byte array at least as long as N is none of the constants' -/
theorem Safe.len {Z : State} {a0 : Array Value} {EL : List (String × Nat)} {vm : Vm} {h : Heap} {x : Addr} {ck : ClassId} {z : Int32} {vs : List Value} {dv : Value} {N : Nat} (hal : Z.vm.Alike vm) (E : EN Z a0 N EL) (A : Arv Z h x ck .byte z vs dv) (hN : N ≤ z.toNatClampNeg) : Safe Z EL vm h x := fun B => by
  obtain ⟨cl, ⟨A1, ⟨-, kA, hkA, compA, hkindA⟩, -⟩, -, hsz, -⟩ := A
  obtain ⟨kA', hkA', ekA⟩ := hal.2.2 _ _ hkA
  obtain ⟨p, hp, u, a, hb, q, -, F, rfl | rfl⟩ := B
  · cases (show h[q.sa]? = some q.sC from F.ha).symm.trans A1
    obtain ⟨cS, ⟨-, -, e⟩, ⟨kS, g1, g2, -⟩, -⟩ := F
    subst e
    cases (show vm.classes[q.sC.cls]? = some kS from g1).symm.trans hkA'
    rw [ekA] at g2
    have := hkindA.symm.trans g2
    cases this
  · cases (show h[q.sd]? = some q.SA from F.hd).symm.trans A1
    obtain ⟨text, w, ht, hl⟩ := E p hp
    obtain ⟨c, k', cf, i, hc', hk', hcf', hpool, hu, -⟩ := hb
    have hc : Z.vm.findClass p.1 = some c := by rw [← hal.findClass]; exact hc'
    obtain ⟨k, cf0, i0, units0, hk, hcf, hp0, hu0, -, htext, -⟩ := Cond.stringLink_spec (s := Z) hc w
    obtain ⟨k'', hk'', hke⟩ := hal.2.2 _ _ hk
    cases hk'.symm.trans hk''
    have hcfk : k'.cf = k.cf := by rw [hke]
    cases (hcfk ▸ hcf').symm.trans hcf
    cases hpool.symm.trans hp0
    cases hu.symm.trans hu0
    obtain ⟨cS, -, -, -, hsl⟩ := F
    have e1 : u.size = text.toList.length := by
      have := congrArg List.length (Jvm.ClassFile.units_of_text htext ht)
      rw [List.length_map] at this
      simpa using this
    have e2 : q.SA.slots.size = u.size := by
      rw [hsl, stringBytes_lat (Jvm.ClassFile.lat_of_text htext ht)]; simp
    omega
theorem Sf.len {Z : State} {a0 : Array Value} {P : PX} {h : Heap} {x : Addr} {ck : ClassId} {z : Int32} {vs : List Value} {dv : Value} {N : Nat} (E : EN Z a0 N P.1) (A : Arv Z h x ck .byte z vs dv) (hN : N ≤ z.toNatClampNeg) : Sf Z P h x := Or.inr fun vm hal => Safe.len hal E A hN
theorem allC {α : Type} {P : α → Prop} {y : α} {L : List α} (q : P y) (r : ∀ x ∈ L, P x) : ∀ x ∈ y :: L, P x := fun x z => (List.mem_cons.mp z).elim (fun u => u ▸ q) (r x)
theorem allC0 {α : Type} {P : α → Prop} : ∀ x ∈ ([] : List α), P x := fun _ q => nomatch q
end Jvm.OwnW
namespace Jvm.OwnW
open Sem ClassFile Op Lib Jvm.Stand Jvm.Free Jvm.LawKit Jvm.RoadKit
section
variable {wd : Bool} {l : Launch} {Z : State} {M : MD} {n0 : Nat} {Q : Option Value → Heap → Prop} {P : PX} {h : Heap} {k n pc pc' : Nat} {Ls Ls' : Array Slot} {st st' rest : List Value} {a0 : Array Value}
/-- a private method by its wide contract -/
theorem k_callPrivateW {y : MD} {C : String} {i W0 : Nat} {a : Addr} {argsL : List Value} {Q' : Option Value → Heap → Prop} {ps : List FieldType} {r : Option FieldType} (hd : decode M.2.1 pc = .ok (.invokevirtual i, 3)) (hp : pc + 3 = pc') (K : MtW l Z y [] n0 (.ref a :: argsL).toArray P h Q') (E : Exa Z h a C)
    (w1 : (Cond.methodLink M.1.cls i y.1).before a0 Z = true) (wp : (Cond.privateMethod y.1).before a0 Z = true) {C7 : String} {x7 z7 : MethodName} (w7 : (Cond.selects C7 x7 z7).before a0 Z = true) (hz7 : z7.cls = y.1.cls) (w4 : (Cond.instanceMethod y.1).before a0 Z = true) (w5 : (Cond.code y.1 y.2.1 y.2.2.1 y.2.2.2.1).before a0 Z = true) (w6 : (Cond.initialized y.1.cls).before a0 Z = true) (hy : y.1.cls ≠ "java/lang/invoke/MethodHandle" ∧ y.1.cls ≠ "java/lang/invoke/VarHandle")
    (hpd : parseMethodDescriptor y.1.desc = some ⟨ps, r⟩) (hlen : argsL.length = ps.length) (hst : st = argsL.reverse ++ .ref a :: rest) (hsz : Ls.size = M.2.2.1) (hW : (rest.map fun v => v.category).sum = W0)
    (hfr : y.2.2.2.2.frames + 1 ≤ M.2.2.2.2.frames) (hlo : W0 + (y.2.2.1 + 11) + y.2.2.2.2.locals ≤ M.2.2.2.2.locals) (hc : k + y.2.2.2.2.cells ≤ M.2.2.2.2.cells) (hs : n + y.2.2.2.2.slots ≤ M.2.2.2.2.slots)
    (W : ∀ v h', h.size ≤ h'.size → Q' v h' → KW true l Z M n0 Q P h' (k + y.2.2.2.2.cells) (n + y.2.2.2.2.slots) pc' Ls (v.toList ++ rest)) : KW true l Z M n0 Q P h k n pc Ls st := by
  intro p e s s' m args below meth c hx hby hml hown hnm hret hlk hZ hB hI T locs X N eT
  subst hp
  rcases hB with ⟨q, -⟩ | ⟨-, vm0, k0, rfl, hS0, hk0, hC, hSf⟩
  · cases q
  obtain ⟨a1, hEW⟩ := hI rfl
  obtain ⟨cl, q1, q2⟩ := Exa.cell E
  have w4' : (Cond.instanceMethod y.1).before args (s.setVm vm0) = true := mvT hZ w4
  have w7' : (Cond.selects C7 x7 z7).before args (s.setVm vm0) = true := mvT hZ w7
  have wp' : (Cond.privateMethod y.1).before args (s.setVm vm0) = true := mvP hZ wp
  obtain ⟨mk, methM, hn1, -, -, -⟩ := Cond.instanceMethod_spec w4'
  obtain ⟨kr, k1, k2⟩ := own_notFace w7' hz7 mk hn1
  have hsel := selects_self_of_private (args := args) (findClass_of_methodNamed hn1) k1 k2 (Cond.privateMethod_at wp') w4' hy
  obtain ⟨v, _, ⟨T', L', k', n'⟩, -, X', hS', hgr, ⟨Lc, ⟨q1', q2', q3'⟩, l1, l2, l3, hC'⟩, stp⟩ := X.privateBackS hx (y := y.1) hown (mvT hZ w1) w4' hsel (Cond.privateMethod_at wp') (mvT hZ w5) hy (backW (W0 := W0) K hZ w5 w6 hfr hlo hEW hC.1 hSf) (g := mkF m pc Ls st) rfl (hsz.trans hml.symm) (Steps.refl _) (by rw [eT]; exact q1) q2 (argsL := argsL) (rest := rest) (lenOf hpd hlen) hst (by show 2 * 0 + _ ≤ _; omega) (hb hby hd) (fun _ _ => ⟨rfl, eT, hc, hs⟩)
  dsimp only [Pt.U, Pt.locs, Pt.cells, Pt.slots] at X' l1 l2 l3 stp q2' q3' hS' hC'
  subst l1 l2 l3
  obtain ⟨t, v', L, r, rr⟩ := (W v T'.heap q2' q3').after (h := h) hx hby hml hown hnm hret hlk hZ hS0 hk0 hC hSf hI X' hS' (Fr.app N q1') q2' rfl hC'
  exact ⟨t, v', L, stp.trans r, rr⟩
end
end Jvm.OwnW

namespace Jvm.OwnW
open Sem ClassFile Op Lib Jvm.Stand Jvm.Free Jvm.LawKit Jvm.RoadKit
section
variable {wd : Bool} {l : Launch} {Z : State} {M : MD} {n0 : Nat} {Q : Option Value → Heap → Prop} {P : PX} {h : Heap} {k n pc pc' : Nat} {Ls Ls' : Array Slot} {st st' rest : List Value} {a0 : Array Value}
/-- newarray, the new array's class said too -/
theorem k_newarrE {aty : ArrayType} {ad : String} {z : Int32} {cap : Nat} (hd : decode M.2.1 pc = .ok (.newarray aty, 2)) (hp : pc + 2 = pc') (w : (Cond.arrayClass (newarray.typeOf aty)).before a0 Z = true) (hz : ¬ z < 0) (hcap : z.toNatClampNeg ≤ cap) (hb8 : cap * 8 ≤ 536870912) (hc : k + 1 ≤ M.2.2.2.2.cells) (hs : n + cap ≤ M.2.2.2.2.slots) (had : "[" ++ (newarray.typeOf aty).toString = ad)
    (W : ∀ h' a cA, a = h.size → Ext h h' → Arv Z h' a cA (newarray.typeOf aty) z [] (defaultValue (newarray.typeOf aty)) → Exa Z h' a ad → KW wd l Z M n0 Q (P.grow h h') h' (k + 1) (n + cap) pc' Ls (.ref a :: st)) : KW wd l Z M n0 Q P h k n pc Ls (.int z :: st) := by
  intro p e s s' m args below meth c hx hby hml hown hnm hret hlk hZ hB hI T locs X N eT
  subst hp
  obtain ⟨T', h', cA, X', e', E, A, EX, stp⟩ := newPE X hx hZ w eT (g := mkF m pc Ls (.int z :: st)) rfl (hb hby hd) rfl hz hcap hb8 hc hs had
  obtain ⟨t, v, L, r, rr⟩ := W h' h.size cA rfl E (Arv.new A hz) EX p e s s' m args below meth c hx hby hml hown hnm hret hlk hZ (hB.ext E) hI T' locs X' N e'
  exact ⟨t, v, L, stp t r, rr⟩
/-- array.clone() -/
theorem k_clone {i W0 cap : Nat} {a : Addr} {ad : String} {ck : ClassId} {ty : FieldType} {z : Int32} {vs : List Value} {dv : Value} (hd : decode M.2.1 pc = .ok (.invokevirtual i, 3)) (hp : pc + 3 = pc') (w1 : (Cond.methodLink M.1.cls i ⟨ad, "clone", "()Ljava/lang/Object;"⟩).before a0 Z = true) (w2 : (Cond.sameMethod ad "java/lang/Object" "clone" "()Ljava/lang/Object;").before a0 Z = true) (w3 : (Cond.native ⟨"java/lang/Object", "clone", "()Ljava/lang/Object;"⟩).before a0 Z = true)
    (w4 : (Cond.instanceMethod ⟨"java/lang/Object", "clone", "()Ljava/lang/Object;"⟩).before a0 Z = true) (w5 : (Cond.selects ad ⟨ad, "clone", "()Ljava/lang/Object;"⟩ ⟨"java/lang/Object", "clone", "()Ljava/lang/Object;"⟩).before a0 Z = true) (w6 : (Cond.castable ad "java/lang/Cloneable").before a0 Z = true)
    (F : Arv Z h a ck ty z vs dv) (E : Exa Z h a ad) (hsz : Ls.size = M.2.2.1) (hW : (rest.map fun v => v.category).sum = W0) (hfr : 1 ≤ M.2.2.2.2.frames) (hlo : W0 + 14 ≤ M.2.2.2.2.locals) (hcap : z.toNatClampNeg ≤ cap) (hc : k + 1 ≤ M.2.2.2.2.cells) (hs : n + cap ≤ M.2.2.2.2.slots)
    (W : ∀ h' b, b = h.size → Ext h h' → Arv Z h' b ck ty z vs dv → Exa Z h' b ad → KW wd l Z M n0 Q (P.grow h h') h' (k + 1) (n + cap) pc' Ls (.ref b :: rest)) : KW wd l Z M n0 Q P h k n pc Ls (.ref a :: rest) := by
  intro p e s s' m args below meth c hx hby hml hown hnm hret hlk hZ hB hI T locs X N eT
  subst hp
  obtain ⟨cl, A, q1, S, q3, H, G⟩ := F
  have FC : FitC Z cl := fitC_of A fun i hi v hv => by rw [H i hi] at hv; cases hv; exact G i hi
  obtain ⟨T', h', X', e', ex, A', E', stp⟩ := cloneA X hx hZ hown w1 w2 w3 w4 w5 w6 eT A E FC (g := mkF m pc Ls (.ref a :: rest)) rfl (hsz.trans hml.symm) rfl (hb hby hd) hfr (W := W0) (cap := cap) (by show 2 * 0 + _ ≤ _; omega) hlo (by rw [S]; exact hcap) hc hs
  obtain ⟨t, v, L, r, rr⟩ := W h' h.size rfl ex ⟨cloneOf cl, A', q1, S, q3, H, G⟩ E' p e s s' m args below meth c hx hby hml hown hnm hret hlk hZ (hB.ext ex) hI T' locs X' N e'
  exact ⟨t, v, L, stp t r, rr⟩
/-- a contract of a method with an exception table, whose walk throws nothing -/
def MtH (l : Launch) (Z : State) (M : MD) (hs : List (Nat × Nat × Nat × Nat)) (n0 : Nat) (as' : Array Value) (h0 : Heap) (Q : Option Value → Heap → Prop) : Prop :=
  MetFree l M.1 (head1 [Jvm.Cond.codeWith M.1 M.2.1 M.2.2.1 M.2.2.2.1 hs] M.2.2.2.2) (fun a U => a = as' ∧ Z.Warmed39 U.vm ∧ U.heap = h0) (fun _ _ _ _ _ => True) (fun _ U o U' => ∃ v L, o = .returned v ∧ (Fr n0 L ∧ h0.size ≤ U'.heap.size ∧ Q v U'.heap) ∧ FrameEnd U o U' L M.2.2.2.2.cells M.2.2.2.2.slots)
theorem mtH_of_kw {hs : List (Nat × Nat × Nat × Nat)} {as' : Array Value} (hn : plainFor M.1 = true) (hef : ∀ m, entryFrame m as' M.2.2.1 = mkF m 0 Ls []) (W : KW false l Z M n0 Q P h 0 0 0 Ls []) : MtH l Z M hs n0 as' h Q := by
  refine MetFree.of_bodySF hn hisWith ?_
  intro p e s m args below meth c s₁ Bd hml0 hP hK
  obtain ⟨rfl, hZ, hh⟩ := hP
  have e0 : s₁.heap = h := by rw [← hh, Bd.state]; rfl
  obtain ⟨t, v, L, r, h1, h2, h3, h4, h5⟩ := W p e s s m _ below meth c Bd.exec Bd.bytes hml0 (findClass_of_methodNamed Bd.named) (name_of_methodNamed Bd.named Bd.method).1 Bd.returns Bd.notSynchronized hZ (Or.inl ⟨rfl, rfl⟩) (fun q => by cases q) s₁ [] (Stand.of_body Bd) (Fr.nil n0) e0
  rcases h5 with ⟨-, h5⟩ | ⟨h5, -⟩
  · refine ⟨t, _, castTop (hef m) r, h1, h2, v, L, rfl, ⟨h3, ?_, h4⟩, h5⟩
    have q : s.heap.size ≤ t.heap.size := h5.2.2.2.1
    rw [← hh]; exact q
  · cases h5
/-- a virtual call of such a method -/
theorem k_callVirtualH {y : MD} {hs' : List (Nat × Nat × Nat × Nat)} {x : MethodName} {C : String} {i W0 : Nat} {a : Addr} {argsL : List Value} {Q' : Option Value → Heap → Prop} {ps : List FieldType} {r : Option FieldType} (hd : decode M.2.1 pc = .ok (.invokevirtual i, 3)) (hp : pc + 3 = pc') (K : MtH l Z y hs' n0 (.ref a :: argsL).toArray h Q') (hkp : Kp wd Z P h Q') (E : Exa Z h a C)
    (w1 : (Cond.methodLink M.1.cls i x).before a0 Z = true) (w2 : (Cond.declares x).before a0 Z = true) (w3 : (Cond.selects C x y.1).before a0 Z = true) {C7 : String} {x7 z7 : MethodName} (w7 : (Cond.selects C7 x7 z7).before a0 Z = true) (hz7 : z7.cls = x.cls) (w4 : (Cond.instanceMethod y.1).before a0 Z = true) (w5 : (Cond.codeWith y.1 y.2.1 y.2.2.1 y.2.2.2.1 hs').before a0 Z = true) (w6 : (Cond.initialized y.1.cls).before a0 Z = true) (hy : x.cls ≠ "java/lang/invoke/MethodHandle" ∧ x.cls ≠ "java/lang/invoke/VarHandle")
    (hpd : parseMethodDescriptor x.desc = some ⟨ps, r⟩) (hlen : argsL.length = ps.length) (hst : st = argsL.reverse ++ .ref a :: rest) (hsz : Ls.size = M.2.2.1) (hW : (rest.map fun v => v.category).sum = W0)
    (hfr : y.2.2.2.2.frames + 1 ≤ M.2.2.2.2.frames) (hlo : W0 + (y.2.2.1 + 11) + y.2.2.2.2.locals ≤ M.2.2.2.2.locals) (hc : k + y.2.2.2.2.cells ≤ M.2.2.2.2.cells) (hs : n + y.2.2.2.2.slots ≤ M.2.2.2.2.slots)
    (W : ∀ v h', h.size ≤ h'.size → Q' v h' → KW wd l Z M n0 Q (P.grow h h') h' (k + y.2.2.2.2.cells) (n + y.2.2.2.2.slots) pc' Ls (v.toList ++ rest)) : KW wd l Z M n0 Q P h k n pc Ls st := by
  intro p e s s' m args below meth c hx hby hml hown hnm hret hlk hZ hB hI T locs X N eT
  subst hp
  obtain ⟨cq, kq, qa, qb, qc⟩ := isOf hZ eT E
  obtain ⟨v, _, ⟨T', L', k', n'⟩, -, X', ⟨Lc, ⟨q1, q2, q3⟩, l1, l2, l3⟩, stp⟩ := X.virtualBack hx (y := x) (z := y.1) hown (mvT hZ w1) (mvT hZ w2) (own_notFace (args := #[]) (mvT hZ w7) hz7) (mvT hZ w3) (mvT hZ w4) hy (backOfWith (W := W0) (Q := fun v h' L => Fr n0 L ∧ h.size ≤ h'.size ∧ Q' v h') K hZ w5 w6 hfr hlo) qa qc (g := mkF m pc Ls st) rfl (hsz.trans hml.symm) (Steps.refl _) (argsL := argsL) (rest := rest) (lenOf hpd hlen) hst (by show 2 * 0 + _ ≤ _; omega) (hb hby hd) (fun _ _ => ⟨rfl, eT, hc, hs⟩)
  dsimp only [Pt.U, Pt.locs, Pt.cells, Pt.slots] at X' l1 l2 l3 stp q2 q3
  subst l1 l2 l3
  obtain ⟨t, v', L, r, rr⟩ := W v T'.heap q2 q3 p e s s' m args below meth c hx hby hml hown hnm hret hlk hZ (hB.call hZ hkp q3) hI T' _ X' (Fr.app N q1) rfl
  exact ⟨t, v', L, stp.trans r, rr⟩
theorem own_declH {y : MethodName} {bytes : ByteArray} {mx : Nat} {ret : Option FieldType} {hs : List (Nat × Nat × Nat × Nat)} (w3 : (Cond.instanceMethod y).before a0 Z = true) (w5 : (Cond.codeWith y bytes mx ret hs).before a0 Z = true) : (Cond.declares y).before a0 Z = true := by
  obtain ⟨mk, meth, hn, hm, hst, hab⟩ := Cond.instanceMethod_spec w3
  obtain ⟨m2, meth2, cM, q0, q1, -, -, -, -, -, -, hsig⟩ := Cond.codeWith_spec w5
  cases hn.symm.trans q0
  cases hm.symm.trans q1
  simp [Cond.before, Cond.holds, Cond.value, hn, hm, hst, hsig]
/-- a char array that is being filled from the left: its first i signs are A; since h1 nothing else has been written -/
def Ca (Z : State) (h1 h : Heap) (a : Addr) (ck : ClassId) (N : Nat) (A : List Int32) (i : Nat) : Prop := A.length = i ∧ i ≤ N ∧ N < 2147483648 ∧ Keep h1 h [a] ∧ Arv Z h a ck .char (Int32.ofNat N) (A.map Value.int ++ List.replicate (N - i) (.int 0)) (.int 0)
theorem k_castA {a : Addr} {ck : ClassId} {h1 : Heap} {N i : Nat} {A : List Int32} {j x y : Int32} (hd : decode M.2.1 pc = .ok (.castore, 1)) (hp : pc + 1 = pc') (C : Ca Z h1 h a ck N A i) (hlt : i < N) (hj : j = Int32.ofNat i) (hy : nar .char x = y) (ha : n0 ≤ a) (hsf : wd = true → Sf Z P h a)
    (W : ∀ h', Ca Z h1 h' a ck N (A ++ [y]) (i + 1) → KW wd l Z M n0 Q P h' k n pc' Ls st) : KW wd l Z M n0 Q P h k n pc Ls (.int x :: .int j :: .ref a :: st) := by
  obtain ⟨c1, c2, c3, K, V⟩ := C
  subst hj
  rw [show N - i = (N - (i + 1)) + 1 by omega, List.replicate_succ] at V
  refine k_castore (i := i) hd hp V (ix_inb c3 hlt) (ix_nat (by omega)) (by simp; omega) ha hsf (fun h' W' V' => W h' ⟨by simp [c1], by omega, c3, K.wr W' (Or.inl (by simp)), ?_⟩)
  rw [set_mid _ _ _ _ (by simp [c1]), hy] at V'
  simpa using V'
end
end Jvm.OwnW

namespace Jvm.Pilot.@@N@@
open Jvm Jvm.ClassFile Sem Op Lib Jvm.Free Jvm.Stand Jvm.LawKit Jvm.RoadKit Bundle Jvm.OwnW Jvm.Pilot.@@N@@.Jvm.D

abbrev EL : List (String × Nat) := consts_1
theorem own_wS (Z : State) (a0 : Array Value) (hw : ∀ d ∈ tables_1, d.before a0 Z = true) : ∀ a ∈ Bundle.stringAtoms, a.before a0 Z = true := by
  intro a ha
  simp only [Bundle.stringAtoms, List.mem_cons, List.not_mem_nil, or_false] at ha
  rcases ha with rfl | rfl | rfl | rfl | rfl | rfl | rfl
  · exact (hw _ (List.mem_of_getElem? (i := 43) rfl))
  · exact (hw _ (List.mem_of_getElem? (i := 49) rfl))
  · exact (hw _ (List.mem_of_getElem? (i := 0) rfl))
  · exact (hw _ (List.mem_of_getElem? (i := 50) rfl))
  · exact (hw _ (List.mem_of_getElem? (i := 51) rfl))
  · exact (hw _ (List.mem_of_getElem? (i := 52) rfl))
  · exact (hw _ (List.mem_of_getElem? (i := 53) rfl))
abbrev M_leq : MD := ((⟨"java/lang/StringLatin1", "equals", "([B[B)Z"⟩ : MethodName), jdk_43_method_13_code, 3, (some .boolean), { frames := 0, cells := 0, slots := 0, locals := 0 })
theorem d_leq_0 : decode jdk_43_method_13_code 0 = .ok (.aload_n 0, 1) := by decide +kernel
theorem d_leq_1 : decode jdk_43_method_13_code 1 = .ok (.arraylength, 1) := by decide +kernel
theorem d_leq_2 : decode jdk_43_method_13_code 2 = .ok (.aload_n 1, 1) := by decide +kernel
theorem d_leq_3 : decode jdk_43_method_13_code 3 = .ok (.arraylength, 1) := by decide +kernel
theorem d_leq_4 : decode jdk_43_method_13_code 4 = .ok (.if_icmp .ne 30, 3) := by decide +kernel
theorem d_leq_7 : decode jdk_43_method_13_code 7 = .ok (.iconst 0, 1) := by decide +kernel
theorem d_leq_8 : decode jdk_43_method_13_code 8 = .ok (.istore_n 2, 1) := by decide +kernel
theorem d_leq_9 : decode jdk_43_method_13_code 9 = .ok (.iload_n 2, 1) := by decide +kernel
theorem d_leq_10 : decode jdk_43_method_13_code 10 = .ok (.aload_n 0, 1) := by decide +kernel
theorem d_leq_11 : decode jdk_43_method_13_code 11 = .ok (.arraylength, 1) := by decide +kernel
theorem d_leq_12 : decode jdk_43_method_13_code 12 = .ok (.if_icmp .ge 20, 3) := by decide +kernel
theorem d_leq_15 : decode jdk_43_method_13_code 15 = .ok (.aload_n 0, 1) := by decide +kernel
theorem d_leq_16 : decode jdk_43_method_13_code 16 = .ok (.iload_n 2, 1) := by decide +kernel
theorem d_leq_17 : decode jdk_43_method_13_code 17 = .ok (.baload, 1) := by decide +kernel
theorem d_leq_18 : decode jdk_43_method_13_code 18 = .ok (.aload_n 1, 1) := by decide +kernel
theorem d_leq_19 : decode jdk_43_method_13_code 19 = .ok (.iload_n 2, 1) := by decide +kernel
theorem d_leq_20 : decode jdk_43_method_13_code 20 = .ok (.baload, 1) := by decide +kernel
theorem d_leq_21 : decode jdk_43_method_13_code 21 = .ok (.if_icmp .eq 5, 3) := by decide +kernel
theorem d_leq_24 : decode jdk_43_method_13_code 24 = .ok (.iconst 0, 1) := by decide +kernel
theorem d_leq_25 : decode jdk_43_method_13_code 25 = .ok (.ireturn, 1) := by decide +kernel
theorem d_leq_26 : decode jdk_43_method_13_code 26 = .ok (.iinc 2 1, 3) := by decide +kernel
theorem d_leq_29 : decode jdk_43_method_13_code 29 = .ok (.goto (-20), 3) := by decide +kernel
theorem d_leq_32 : decode jdk_43_method_13_code 32 = .ok (.iconst 1, 1) := by decide +kernel
theorem d_leq_33 : decode jdk_43_method_13_code 33 = .ok (.ireturn, 1) := by decide +kernel
theorem d_leq_34 : decode jdk_43_method_13_code 34 = .ok (.iconst 0, 1) := by decide +kernel
theorem d_leq_35 : decode jdk_43_method_13_code 35 = .ok (.ireturn, 1) := by decide +kernel
theorem pd_leq : parseMethodDescriptor "([B[B)Z" = some ⟨[(.array .byte), (.array .byte)], (some .boolean)⟩ := by decide +kernel
theorem pf_leq : plainFor (⟨"java/lang/StringLatin1", "equals", "([B[B)Z"⟩ : MethodName) = true := by first | exact plainFor_of_name (by first | (simp [plainName, overriddenIn]; done) | decide +kernel) | decide +kernel
set_option maxRecDepth 65536 in
set_option maxHeartbeats 40000000 in
theorem kw_leqL (l : Launch) (Z : State) (a0 : Array Value) (hw : ∀ d ∈ tables_1, d.before a0 Z = true) (cs : Int32) (hcs : ¬ cs = 0) (SC : Sta Z Z.heap "java/lang/String" "COMPACT_STRINGS" "Z" (.int cs)) (hEW : EW Z a0 EL) (a b : Addr) (ck ck' : ClassId) (xs ys : List Int32) (h0 : Heap) (n0 : Nat) (hx : xs.length < 2147483648) (hy : ys.length < 2147483648) (A : Arv Z h0 a ck .byte (Int32.ofNat xs.length) (xs.map Value.int) (.int 0)) (B : Arv Z h0 b ck' .byte (Int32.ofNat ys.length) (ys.map Value.int) (.int 0)) (hl : xs.length = ys.length) : ∀ (rs rs' ps : List Int32), xs = ps ++ rs → ys = ps ++ rs' → KW false l Z M_leq n0 (fun v h => v = some (.int (eqI xs ys)) ∧ h0 = h) ([], fun _ => False) h0 0 0 9 #[.val (.ref a), .val (.ref b), .val (.int (Int32.ofNat ps.length))] [] := by
  intro rs
  induction rs with
  | nil =>
      intro rs' ps e e'
      have z : rs' = [] := by
        have := hl; rw [e, e'] at this; simp at this; exact this
      subst z
      refine k_iloadN d_leq_9 rfl rfl ?_
      refine k_aloadN d_leq_10 rfl rfl rfl ?_
      refine k_arrlen d_leq_11 rfl A ?_
      refine k_icmp (pc1 := 32) (pc' := 15) d_leq_12 (by decide) (by decide) rfl (fun (cd1 : ¬ (Int32.ofNat ps.length) < (Int32.ofNat xs.length)) => ?_) (fun (cd1 : (Int32.ofNat ps.length) < (Int32.ofNat xs.length)) => False.elim (by rw [e, List.append_nil] at cd1; exact ix_irr cd1))
      refine k_iconst (z := (1 : Int32)) d_leq_32 rfl (by decide) ?_
      exact k_retNar d_leq_33 rfl (by simp) (z' := (1 : Int32)) (by decide) (by decide) (by decide) ⟨by rw [e, e', eqI_self], rfl⟩
  | cons q rs ih =>
      intro rs' ps e e'
      obtain ⟨q', rs', rfl⟩ : ∃ q' r, rs' = q' :: r := by
        cases rs' with
        | nil => have := hl; rw [e, e'] at this; simp at this
        | cons q' r => exact ⟨q', r, rfl⟩
      have LT : ps.length < xs.length := by rw [e, List.length_append, List.length_cons]; omega
      have LT' : ps.length < ys.length := by rw [e', List.length_append, List.length_cons]; omega
      refine k_iloadN d_leq_9 rfl rfl ?_
      refine k_aloadN d_leq_10 rfl rfl rfl ?_
      refine k_arrlen d_leq_11 rfl A ?_
      refine k_icmp (pc1 := 32) (pc' := 15) d_leq_12 (by decide) (by decide) rfl (fun (cd2 : ¬ (Int32.ofNat ps.length) < (Int32.ofNat xs.length)) => absurd (by exact ix_lt hx LT) cd2) (fun (cd2 : (Int32.ofNat ps.length) < (Int32.ofNat xs.length)) => ?_)
      refine k_aloadN d_leq_15 rfl rfl rfl ?_
      refine k_iloadN d_leq_16 rfl rfl ?_
      refine k_baload (v := (.int q)) d_leq_17 rfl A (ix_inb hx LT) (by rw [ix_nat (Nat.lt_trans LT hx), e]; exact get_mid _ _ _ _ _ rfl) ?_
      refine k_aloadN d_leq_18 rfl rfl rfl ?_
      refine k_iloadN d_leq_19 rfl rfl ?_
      refine k_baload (v := (.int q')) d_leq_20 rfl B (ix_inb hy LT') (by rw [ix_nat (Nat.lt_trans LT hx), e']; exact get_mid _ _ _ _ _ rfl) ?_
      refine k_icmp (pc1 := 26) (pc' := 24) d_leq_21 (by decide) (by decide) rfl (fun (cd3 : q = q') => ?_) (fun (cd3 : ¬ q = q') => ?_)
      · skip
        refine k_iinc (z := (1 : Int32)) (Ls' := #[.val (.ref a), .val (.ref b), .val (.int ((Int32.ofNat ps.length) + (1 : Int32)))]) d_leq_26 rfl (by decide) rfl rfl ?_
        refine k_goto (pc' := 9) d_leq_29 (by decide) (by decide) ?_
        subst cd3
        have J := ih rs' (ps ++ [q]) (by rw [e]; simp) (by rw [e']; simp)
        rw [show (ps ++ [q]).length = ps.length + 1 by simp, ← ix_succ] at J
        exact J
      · skip
        refine k_iconst (z := (0 : Int32)) d_leq_24 rfl (by decide) ?_
        exact k_retNar d_leq_25 rfl (by simp) (z' := (0 : Int32)) (by decide) (by decide) (by decide) ⟨by rw [e, e', eqI_mid (by assumption)], rfl⟩
set_option maxRecDepth 65536 in
set_option maxHeartbeats 40000000 in
theorem kw_leq (l : Launch) (Z : State) (a0 : Array Value) (hw : ∀ d ∈ tables_1, d.before a0 Z = true) (cs : Int32) (hcs : ¬ cs = 0) (SC : Sta Z Z.heap "java/lang/String" "COMPACT_STRINGS" "Z" (.int cs)) (hEW : EW Z a0 EL) (a b : Addr) (ck ck' : ClassId) (xs ys : List Int32) (h0 : Heap) (n0 : Nat) (hx : xs.length < 2147483648) (hy : ys.length < 2147483648) (A : Arv Z h0 a ck .byte (Int32.ofNat xs.length) (xs.map Value.int) (.int 0)) (B : Arv Z h0 b ck' .byte (Int32.ofNat ys.length) (ys.map Value.int) (.int 0)) : KW false l Z M_leq n0 (fun v h => v = some (.int (eqI xs ys)) ∧ h0 = h) ([], fun _ => False) h0 0 0 0 #[.val (.ref a), .val (.ref b), .unset] [] := by
  refine k_aloadN d_leq_0 rfl rfl rfl ?_
  refine k_arrlen d_leq_1 rfl A ?_
  refine k_aloadN d_leq_2 rfl rfl rfl ?_
  refine k_arrlen d_leq_3 rfl B ?_
  refine k_icmp (pc1 := 34) (pc' := 7) d_leq_4 (by decide) (by decide) rfl (fun (cd4 : ¬ (Int32.ofNat xs.length) = (Int32.ofNat ys.length)) => ?_) (fun (cd4 : (Int32.ofNat xs.length) = (Int32.ofNat ys.length)) => ?_)
  · skip
    refine k_iconst (z := (0 : Int32)) d_leq_34 rfl (by decide) ?_
    exact k_retNar d_leq_35 rfl (by simp) (z' := (0 : Int32)) (by decide) (by decide) (by decide) ⟨by rw [eqI_len (by assumption)], rfl⟩
  · skip
    refine k_iconst (z := (0 : Int32)) d_leq_7 rfl (by decide) ?_
    refine k_istoreN (Ls' := #[.val (.ref a), .val (.ref b), .val (.int (0 : Int32))]) d_leq_8 rfl rfl ?_
    exact kw_leqL l Z a0 hw cs hcs SC hEW a b ck ck' xs ys h0 n0 hx hy A B (Classical.byContradiction fun z => ix_ne hx hy z cd4) xs ys [] rfl rfl
theorem mt_leq (l : Launch) (Z : State) (a0 : Array Value) (hw : ∀ d ∈ tables_1, d.before a0 Z = true) (cs : Int32) (hcs : ¬ cs = 0) (SC : Sta Z Z.heap "java/lang/String" "COMPACT_STRINGS" "Z" (.int cs)) (hEW : EW Z a0 EL) (a b : Addr) (ck ck' : ClassId) (xs ys : List Int32) (h0 : Heap) (n0 : Nat) (hx : xs.length < 2147483648) (hy : ys.length < 2147483648) (A : Arv Z h0 a ck .byte (Int32.ofNat xs.length) (xs.map Value.int) (.int 0)) (B : Arv Z h0 b ck' .byte (Int32.ofNat ys.length) (ys.map Value.int) (.int 0)) : Mt l Z M_leq [] n0 #[(.ref a), (.ref b)] h0 (fun v h => v = some (.int (eqI xs ys)) ∧ h0 = h) :=
  mt_of_kw (P := ([], fun _ => False)) pf_leq (fun m => by first | (simp [entryFrame, mkF, argsToLocals, Value.category]; done) | rfl) (kw_leq l Z a0 hw cs hcs SC hEW a b ck ck' xs ys h0 n0 hx hy A B)
abbrev M_seq : MD := ((⟨"java/lang/String", "equals", "(Ljava/lang/Object;)Z"⟩ : MethodName), jdk_42_method_66_code, 3, (some .boolean), { frames := 1, cells := 0, slots := 0, locals := 20 })
theorem d_seq_0 : decode jdk_42_method_66_code 0 = .ok (.aload_n 0, 1) := by decide +kernel
theorem d_seq_1 : decode jdk_42_method_66_code 1 = .ok (.aload_n 1, 1) := by decide +kernel
theorem d_seq_2 : decode jdk_42_method_66_code 2 = .ok (.if_acmp .ne 5, 3) := by decide +kernel
theorem d_seq_5 : decode jdk_42_method_66_code 5 = .ok (.iconst 1, 1) := by decide +kernel
theorem d_seq_6 : decode jdk_42_method_66_code 6 = .ok (.ireturn, 1) := by decide +kernel
theorem d_seq_7 : decode jdk_42_method_66_code 7 = .ok (.aload_n 1, 1) := by decide +kernel
theorem d_seq_8 : decode jdk_42_method_66_code 8 = .ok (.instanceof 10, 3) := by decide +kernel
theorem d_seq_11 : decode jdk_42_method_66_code 11 = .ok (.ifCond .eq 43, 3) := by decide +kernel
theorem d_seq_14 : decode jdk_42_method_66_code 14 = .ok (.aload_n 1, 1) := by decide +kernel
theorem d_seq_15 : decode jdk_42_method_66_code 15 = .ok (.checkcast 10, 3) := by decide +kernel
theorem d_seq_18 : decode jdk_42_method_66_code 18 = .ok (.astore_n 2, 1) := by decide +kernel
theorem d_seq_19 : decode jdk_42_method_66_code 19 = .ok (.getstatic 38, 3) := by decide +kernel
theorem d_seq_22 : decode jdk_42_method_66_code 22 = .ok (.ifCond .eq 14, 3) := by decide +kernel
theorem d_seq_25 : decode jdk_42_method_66_code 25 = .ok (.aload_n 0, 1) := by decide +kernel
theorem d_seq_26 : decode jdk_42_method_66_code 26 = .ok (.getfield 15, 3) := by decide +kernel
theorem d_seq_29 : decode jdk_42_method_66_code 29 = .ok (.aload_n 2, 1) := by decide +kernel
theorem d_seq_30 : decode jdk_42_method_66_code 30 = .ok (.getfield 15, 3) := by decide +kernel
theorem d_seq_33 : decode jdk_42_method_66_code 33 = .ok (.if_icmp .ne 21, 3) := by decide +kernel
theorem d_seq_36 : decode jdk_42_method_66_code 36 = .ok (.aload_n 0, 1) := by decide +kernel
theorem d_seq_37 : decode jdk_42_method_66_code 37 = .ok (.getfield 9, 3) := by decide +kernel
theorem d_seq_40 : decode jdk_42_method_66_code 40 = .ok (.aload_n 2, 1) := by decide +kernel
theorem d_seq_41 : decode jdk_42_method_66_code 41 = .ok (.getfield 9, 3) := by decide +kernel
theorem d_seq_44 : decode jdk_42_method_66_code 44 = .ok (.invokestatic 541, 3) := by decide +kernel
theorem d_seq_47 : decode jdk_42_method_66_code 47 = .ok (.ifCond .eq 7, 3) := by decide +kernel
theorem d_seq_50 : decode jdk_42_method_66_code 50 = .ok (.iconst 1, 1) := by decide +kernel
theorem d_seq_51 : decode jdk_42_method_66_code 51 = .ok (.goto 4, 3) := by decide +kernel
theorem d_seq_54 : decode jdk_42_method_66_code 54 = .ok (.iconst 0, 1) := by decide +kernel
theorem d_seq_55 : decode jdk_42_method_66_code 55 = .ok (.ireturn, 1) := by decide +kernel
theorem pd_seq : parseMethodDescriptor "(Ljava/lang/Object;)Z" = some ⟨[(.object "java/lang/Object")], (some .boolean)⟩ := by decide +kernel
theorem pf_seq : plainFor (⟨"java/lang/String", "equals", "(Ljava/lang/Object;)Z"⟩ : MethodName) = true := by first | exact plainFor_of_name (by first | (simp [plainName, overriddenIn]; done) | decide +kernel) | decide +kernel
set_option maxRecDepth 65536 in
set_option maxHeartbeats 40000000 in
theorem kw_seq (l : Launch) (Z : State) (a0 : Array Value) (hw : ∀ d ∈ tables_1, d.before a0 Z = true) (cs : Int32) (hcs : ¬ cs = 0) (SC : Sta Z Z.heap "java/lang/String" "COMPACT_STRINGS" "Z" (.int cs)) (hEW : EW Z a0 EL) (a b t u : Addr) (xs ys : List Int32) (h0 : Heap) (n0 : Nat) (OD : Old Z n0 h0) (SA : Sg Z h0 a t xs) (SB : Sg Z h0 b u ys) : KW false l Z M_seq n0 (fun v h => v = some (.int (eqI xs ys)) ∧ h0 = h) ([], fun _ => False) h0 0 0 0 #[.val (.ref a), .val (.ref b), .unset] [] := by
  obtain ⟨ckA, EA, CA, VA, AA, lA⟩ := id SA
  obtain ⟨ckB, EB, CB, VB, AB, lB⟩ := id SB
  refine k_aloadN d_seq_0 rfl rfl rfl ?_
  refine k_aloadN d_seq_1 rfl rfl rfl ?_
  refine k_acmpNe (pc1 := 7) (pc' := 5) d_seq_2 rfl rfl (by decide) (by decide) rfl (fun (cd1 : ¬ (Value.ref a) = (Value.ref b)) => ?_) (fun (cd1 : (Value.ref a) = (Value.ref b)) => ?_)
  · skip
    refine k_aloadN d_seq_7 rfl rfl rfl ?_
    refine k_instY d_seq_8 rfl (hw _ (List.mem_of_getElem? (i := 261) rfl)) (Ins.self EB) ?_
    refine k_ifc (pc1 := 54) (pc' := 14) d_seq_11 (by decide) (by decide) rfl (fun (cd2 : (1 : Int32) = (0 : Int32)) => False.elim (by exact absurd cd2 (by decide))) (fun (cd2 : ¬ (1 : Int32) = (0 : Int32)) => ?_)
    refine k_aloadN d_seq_14 rfl rfl rfl ?_
    refine k_cast d_seq_15 rfl (hw _ (List.mem_of_getElem? (i := 261) rfl)) (Ins.self EB) ?_
    refine k_astoreN (Ls' := #[.val (.ref a), .val (.ref b), .val (.ref b)]) d_seq_18 rfl rfl rfl ?_
    refine k_getStatic d_seq_19 rfl (hw _ (List.mem_of_getElem? (i := 75) rfl)) (Sta.ext OD.2 SC) ?_
    refine k_ifc (pc1 := 36) (pc' := 25) d_seq_22 (by decide) (by decide) rfl (fun (cd3 : cs = (0 : Int32)) => False.elim (by exact hcs cd3)) (fun (cd3 : ¬ cs = (0 : Int32)) => ?_)
    refine k_aloadN d_seq_25 rfl rfl rfl ?_
    refine k_getField d_seq_26 rfl (hw _ (List.mem_of_getElem? (i := 76) rfl)) Via.refl CA ?_
    refine k_aloadN d_seq_29 rfl rfl rfl ?_
    refine k_getField d_seq_30 rfl (hw _ (List.mem_of_getElem? (i := 76) rfl)) Via.refl CB ?_
    refine k_icmp (pc1 := 54) (pc' := 36) d_seq_33 (by decide) (by decide) rfl (fun (cd4 : ¬ (0 : Int32) = (0 : Int32)) => False.elim (by exact absurd cd4 (by decide))) (fun (cd4 : (0 : Int32) = (0 : Int32)) => ?_)
    refine k_aloadN d_seq_36 rfl rfl rfl ?_
    refine k_getField d_seq_37 rfl (hw _ (List.mem_of_getElem? (i := 69) rfl)) Via.refl VA ?_
    refine k_aloadN d_seq_40 rfl rfl rfl ?_
    refine k_getField d_seq_41 rfl (hw _ (List.mem_of_getElem? (i := 69) rfl)) Via.refl VB ?_
    refine k_callStatic (argsL := [(.ref t), (.ref u)]) (rest := []) (W0 := 0) d_seq_44 rfl (mt_leq l Z a0 hw cs hcs SC hEW t u _ _ xs ys h0 n0 lA lB AA AB) Kp.strict (hw _ (List.mem_of_getElem? (i := 262) rfl)) (hw _ (List.mem_of_getElem? (i := 263) rfl)) (hw _ (List.mem_of_getElem? (i := 264) rfl)) (hw _ (List.mem_of_getElem? (i := 265) rfl)) (by decide) pd_leq rfl rfl rfl rfl (by decide) (by decide) (by decide) (by decide) ?_
    rintro _ _ - ⟨rfl, rfl⟩
    refine KW.any (P' := ([], fun _ => False)) ?_
    show KW false l Z M_seq n0 (fun v h => v = some (.int (eqI xs ys)) ∧ h0 = h) ([], fun _ => False) h0 0 0 47 #[.val (.ref a), .val (.ref b), .val (.ref b)] [(.int (eqI xs ys))]
    refine k_ifc (pc1 := 54) (pc' := 50) d_seq_47 (by decide) (by decide) rfl (fun (cd5 : (eqI xs ys) = (0 : Int32)) => ?_) (fun (cd5 : ¬ (eqI xs ys) = (0 : Int32)) => ?_)
    · skip
      refine k_iconst (z := (0 : Int32)) d_seq_54 rfl (by decide) ?_
      exact k_retNar d_seq_55 rfl (by simp) (z' := (0 : Int32)) (by decide) (by decide) (by decide) ⟨by first | rw [eqI_one (by assumption)] | rw [show eqI xs ys = 0 by assumption], rfl⟩
    · skip
      refine k_iconst (z := (1 : Int32)) d_seq_50 rfl (by decide) ?_
      refine k_goto (pc' := 55) d_seq_51 (by decide) (by decide) ?_
      exact k_retNar d_seq_55 rfl (by simp) (z' := (1 : Int32)) (by decide) (by decide) (by decide) ⟨by first | rw [eqI_one (by assumption)] | rw [show eqI xs ys = 0 by assumption], rfl⟩
  · skip
    refine k_iconst (z := (1 : Int32)) d_seq_5 rfl (by decide) ?_
    exact k_retNar d_seq_6 rfl (by simp) (z' := (1 : Int32)) (by decide) (by decide) (by decide) ⟨by obtain rfl := Value.ref.inj (by assumption); rw [SA.uniq SB, eqI_self], rfl⟩
theorem mt_seq (l : Launch) (Z : State) (a0 : Array Value) (hw : ∀ d ∈ tables_1, d.before a0 Z = true) (cs : Int32) (hcs : ¬ cs = 0) (SC : Sta Z Z.heap "java/lang/String" "COMPACT_STRINGS" "Z" (.int cs)) (hEW : EW Z a0 EL) (a b t u : Addr) (xs ys : List Int32) (h0 : Heap) (n0 : Nat) (OD : Old Z n0 h0) (SA : Sg Z h0 a t xs) (SB : Sg Z h0 b u ys) : Mt l Z M_seq [] n0 #[(.ref a), (.ref b)] h0 (fun v h => v = some (.int (eqI xs ys)) ∧ h0 = h) :=
  mt_of_kw (P := ([], fun _ => False)) pf_seq (fun m => by first | (simp [entryFrame, mkF, argsToLocals, Value.category]; done) | rfl) (kw_seq l Z a0 hw cs hcs SC hEW a b t u xs ys h0 n0 OD SA SB)
abbrev M_cfl : MD := ((⟨"java/lang/StringUTF16", "coderFromArrayLen", "([BI)B"⟩ : MethodName), jdk_52_method_15_code, 2, (some .byte), { frames := 0, cells := 0, slots := 0, locals := 0 })
theorem d_cfl_0 : decode jdk_52_method_15_code 0 = .ok (.iload_n 1, 1) := by decide +kernel
theorem d_cfl_1 : decode jdk_52_method_15_code 1 = .ok (.aload_n 0, 1) := by decide +kernel
theorem d_cfl_2 : decode jdk_52_method_15_code 2 = .ok (.arraylength, 1) := by decide +kernel
theorem d_cfl_3 : decode jdk_52_method_15_code 3 = .ok (.isub, 1) := by decide +kernel
theorem d_cfl_4 : decode jdk_52_method_15_code 4 = .ok (.bipush 31, 2) := by decide +kernel
theorem d_cfl_6 : decode jdk_52_method_15_code 6 = .ok (.iushr, 1) := by decide +kernel
theorem d_cfl_7 : decode jdk_52_method_15_code 7 = .ok (.i2b, 1) := by decide +kernel
theorem d_cfl_8 : decode jdk_52_method_15_code 8 = .ok (.ireturn, 1) := by decide +kernel
theorem pd_cfl : parseMethodDescriptor "([BI)B" = some ⟨[(.array .byte), .int], (some .byte)⟩ := by decide +kernel
theorem pf_cfl : plainFor (⟨"java/lang/StringUTF16", "coderFromArrayLen", "([BI)B"⟩ : MethodName) = true := by first | exact plainFor_of_name (by first | (simp [plainName, overriddenIn]; done) | decide +kernel) | decide +kernel
set_option maxRecDepth 65536 in
set_option maxHeartbeats 40000000 in
theorem kw_cfl (l : Launch) (Z : State) (a0 : Array Value) (hw : ∀ d ∈ tables_1, d.before a0 Z = true) (cs : Int32) (hcs : ¬ cs = 0) (SC : Sta Z Z.heap "java/lang/String" "COMPACT_STRINGS" "Z" (.int cs)) (hEW : EW Z a0 EL) (t : Addr) (ck : ClassId) (z : Int32) (vs : List Value) (dv : Value) (h0 : Heap) (n0 : Nat) (A : Arv Z h0 t ck .byte z vs dv) : KW false l Z M_cfl n0 (fun v h => v = some (.int 0) ∧ h0 = h) ([], fun _ => False) h0 0 0 0 #[.val (.ref t), .val (.int z)] [] := by
  refine k_iloadN d_cfl_0 rfl rfl ?_
  refine k_aloadN d_cfl_1 rfl rfl rfl ?_
  refine k_arrlen d_cfl_2 rfl A ?_
  refine k_isub d_cfl_3 rfl ?_
  refine k_bipush (z := (31 : Int32)) d_cfl_4 rfl (by decide) ?_
  refine k_iushr d_cfl_6 rfl ?_
  refine k_i2b d_cfl_7 rfl ?_
  exact k_retNar d_cfl_8 rfl (by simp) (z' := (0 : Int32)) (by rw [Int32.sub_self]; decide) (by decide) (by decide) ⟨rfl, rfl⟩
theorem mt_cfl (l : Launch) (Z : State) (a0 : Array Value) (hw : ∀ d ∈ tables_1, d.before a0 Z = true) (cs : Int32) (hcs : ¬ cs = 0) (SC : Sta Z Z.heap "java/lang/String" "COMPACT_STRINGS" "Z" (.int cs)) (hEW : EW Z a0 EL) (t : Addr) (ck : ClassId) (z : Int32) (vs : List Value) (dv : Value) (h0 : Heap) (n0 : Nat) (A : Arv Z h0 t ck .byte z vs dv) : Mt l Z M_cfl [] n0 #[(.ref t), (.int z)] h0 (fun v h => v = some (.int 0) ∧ h0 = h) :=
  mt_of_kw (P := ([], fun _ => False)) pf_cfl (fun m => by first | (simp [entryFrame, mkF, argsToLocals, Value.category]; done) | rfl) (kw_cfl l Z a0 hw cs hcs SC hEW t ck z vs dv h0 n0 A)
abbrev M_cmp : MD := ((⟨"java/lang/StringUTF16", "compress", "([CI[BII)I"⟩ : MethodName), jdk_52_method_21_code, 7, (some .int), { frames := 0, cells := 0, slots := 0, locals := 0 })
theorem d_cmp_0 : decode jdk_52_method_21_code 0 = .ok (.iconst 0, 1) := by decide +kernel
theorem d_cmp_1 : decode jdk_52_method_21_code 1 = .ok (.istore 5, 2) := by decide +kernel
theorem d_cmp_3 : decode jdk_52_method_21_code 3 = .ok (.iload 5, 2) := by decide +kernel
theorem d_cmp_5 : decode jdk_52_method_21_code 5 = .ok (.iload 4, 2) := by decide +kernel
theorem d_cmp_7 : decode jdk_52_method_21_code 7 = .ok (.if_icmp .ge 37, 3) := by decide +kernel
theorem d_cmp_10 : decode jdk_52_method_21_code 10 = .ok (.aload_n 0, 1) := by decide +kernel
theorem d_cmp_11 : decode jdk_52_method_21_code 11 = .ok (.iload_n 1, 1) := by decide +kernel
theorem d_cmp_12 : decode jdk_52_method_21_code 12 = .ok (.caload, 1) := by decide +kernel
theorem d_cmp_13 : decode jdk_52_method_21_code 13 = .ok (.istore 6, 2) := by decide +kernel
theorem d_cmp_15 : decode jdk_52_method_21_code 15 = .ok (.iload 6, 2) := by decide +kernel
theorem d_cmp_17 : decode jdk_52_method_21_code 17 = .ok (.sipush 255, 3) := by decide +kernel
theorem d_cmp_20 : decode jdk_52_method_21_code 20 = .ok (.if_icmp .le 6, 3) := by decide +kernel
theorem d_cmp_23 : decode jdk_52_method_21_code 23 = .ok (.iload 5, 2) := by decide +kernel
theorem d_cmp_25 : decode jdk_52_method_21_code 25 = .ok (.ireturn, 1) := by decide +kernel
theorem d_cmp_26 : decode jdk_52_method_21_code 26 = .ok (.aload_n 2, 1) := by decide +kernel
theorem d_cmp_27 : decode jdk_52_method_21_code 27 = .ok (.iload_n 3, 1) := by decide +kernel
theorem d_cmp_28 : decode jdk_52_method_21_code 28 = .ok (.iload 6, 2) := by decide +kernel
theorem d_cmp_30 : decode jdk_52_method_21_code 30 = .ok (.i2b, 1) := by decide +kernel
theorem d_cmp_31 : decode jdk_52_method_21_code 31 = .ok (.bastore, 1) := by decide +kernel
theorem d_cmp_32 : decode jdk_52_method_21_code 32 = .ok (.iinc 1 1, 3) := by decide +kernel
theorem d_cmp_35 : decode jdk_52_method_21_code 35 = .ok (.iinc 3 1, 3) := by decide +kernel
theorem d_cmp_38 : decode jdk_52_method_21_code 38 = .ok (.iinc 5 1, 3) := by decide +kernel
theorem d_cmp_41 : decode jdk_52_method_21_code 41 = .ok (.goto (-38), 3) := by decide +kernel
theorem d_cmp_44 : decode jdk_52_method_21_code 44 = .ok (.iload 4, 2) := by decide +kernel
theorem d_cmp_46 : decode jdk_52_method_21_code 46 = .ok (.ireturn, 1) := by decide +kernel
theorem pd_cmp : parseMethodDescriptor "([CI[BII)I" = some ⟨[(.array .char), .int, (.array .byte), .int, .int], (some .int)⟩ := by decide +kernel
theorem pf_cmp : plainFor (⟨"java/lang/StringUTF16", "compress", "([CI[BII)I"⟩ : MethodName) = true := by first | exact plainFor_of_name (by first | (simp [plainName, overriddenIn]; done) | decide +kernel) | decide +kernel
theorem own_255 {q : Int32} (h : 0 ≤ q.toInt ∧ q.toInt < 256) (k : (255 : Int32) < q) : False := by
  rw [Int32.lt_iff_toInt_lt, show (255 : Int32).toInt = 255 from rfl] at k; omega
set_option maxRecDepth 65536 in
set_option maxHeartbeats 40000000 in
theorem kw_cmpL (l : Launch) (Z : State) (a0 : Array Value) (hw : ∀ d ∈ tables_1, d.before a0 Z = true) (cs : Int32) (hcs : ¬ cs = 0) (SC : Sta Z Z.heap "java/lang/String" "COMPACT_STRINGS" "Z" (.int cs)) (hEW : EW Z a0 EL) (c d : Addr) (ck ck' : ClassId) (xs : List Int32) (h0 : Heap) (n0 : Nat) (hx : xs.length < 2147483648) (hL : Latin xs) (hne : c ≠ d) (hd : n0 ≤ d) : ∀ (rs ps : List Int32) (X6 : Slot) (h : Heap), (X6 = .unset ∨ ∃ q, X6 = .val (.int q)) → xs = ps ++ rs → Arv Z h c ck .char (Int32.ofNat xs.length) (xs.map Value.int) (.int 0) → Arv Z h d ck' .byte (Int32.ofNat xs.length) ((ps.map nbI).map Value.int ++ List.replicate rs.length (Value.int 0)) (.int 0) → Keep h0 h [d] → KW false l Z M_cmp n0 (fun v h => v = some (.int (Int32.ofNat xs.length)) ∧ Keep h0 h [d] ∧ Arv Z h d ck' .byte (Int32.ofNat xs.length) ((xs.map nbI).map Value.int) (.int 0)) ([], fun _ => False) h 0 0 3 #[.val (.ref c), .val (.int (Int32.ofNat ps.length)), .val (.ref d), .val (.int (Int32.ofNat ps.length)), .val (.int (Int32.ofNat xs.length)), .val (.int (Int32.ofNat ps.length)), X6] [] := by
  intro rs
  induction rs with
  | nil =>
      intro ps X6 h hX e C D K
      refine k_iload d_cmp_3 rfl rfl ?_
      refine k_iload d_cmp_5 rfl rfl ?_
      refine k_icmp (pc1 := 44) (pc' := 10) d_cmp_7 (by decide) (by decide) rfl (fun (cd1 : ¬ (Int32.ofNat ps.length) < (Int32.ofNat xs.length)) => ?_) (fun (cd1 : (Int32.ofNat ps.length) < (Int32.ofNat xs.length)) => False.elim (by rw [e, List.append_nil] at cd1; exact ix_irr cd1))
      refine k_iload d_cmp_44 rfl rfl ?_
      exact k_retInt d_cmp_46 rfl (by decide) (by decide) ⟨rfl, K, by rw [List.append_nil] at e; subst e; simpa using D⟩
  | cons q rs ih =>
      intro ps X6 h hX e C D K
      have LT : ps.length < xs.length := by rw [e, List.length_append, List.length_cons]; omega
      refine k_iload d_cmp_3 rfl rfl ?_
      refine k_iload d_cmp_5 rfl rfl ?_
      refine k_icmp (pc1 := 44) (pc' := 10) d_cmp_7 (by decide) (by decide) rfl (fun (cd2 : ¬ (Int32.ofNat ps.length) < (Int32.ofNat xs.length)) => absurd (by exact ix_lt hx LT) cd2) (fun (cd2 : (Int32.ofNat ps.length) < (Int32.ofNat xs.length)) => ?_)
      refine k_aloadN d_cmp_10 rfl rfl rfl ?_
      refine k_iloadN d_cmp_11 rfl rfl ?_
      refine k_caload (v := (.int q)) d_cmp_12 rfl C (ix_inb hx LT) (by rw [ix_nat (Nat.lt_trans LT hx), e]; exact get_mid _ _ _ _ _ rfl) ?_
      refine k_istore (Ls' := #[.val (.ref c), .val (.int (Int32.ofNat ps.length)), .val (.ref d), .val (.int (Int32.ofNat ps.length)), .val (.int (Int32.ofNat xs.length)), .val (.int (Int32.ofNat ps.length)), .val (.int q)]) d_cmp_13 rfl (by rcases hX with rfl | ⟨_, rfl⟩ <;> rfl) ?_
      refine k_iload d_cmp_15 rfl rfl ?_
      refine k_sipush (z := (255 : Int32)) d_cmp_17 rfl (by decide) ?_
      refine k_icmp (pc1 := 26) (pc' := 23) d_cmp_20 (by decide) (by decide) rfl (fun (cd3 : ¬ (255 : Int32) < q) => ?_) (fun (cd3 : (255 : Int32) < q) => False.elim (by exact own_255 (hL q (by rw [e]; simp)) cd3))
      refine k_aloadN d_cmp_26 rfl rfl rfl ?_
      refine k_iloadN d_cmp_27 rfl rfl ?_
      refine k_iload d_cmp_28 rfl rfl ?_
      refine k_i2b d_cmp_30 rfl ?_
      refine k_bastore (i := ps.length) d_cmp_31 rfl D (ix_inb hx LT) (ix_nat (Nat.lt_trans LT hx)) (by simp) hd (fun q => by cases q) ?_
      intro h2 W V2
      rw [show List.replicate (q :: rs).length (Value.int 0) = Value.int 0 :: List.replicate rs.length (Value.int 0) from rfl, set_mid _ _ _ _ (by simp)] at V2
      have C2 := C.other W hne
      show KW false l Z M_cmp n0 (fun v h => v = some (.int (Int32.ofNat xs.length)) ∧ Keep h0 h [d] ∧ Arv Z h d ck' .byte (Int32.ofNat xs.length) ((xs.map nbI).map Value.int) (.int 0)) ([], fun _ => False) h2 0 0 32 #[.val (.ref c), .val (.int (Int32.ofNat ps.length)), .val (.ref d), .val (.int (Int32.ofNat ps.length)), .val (.int (Int32.ofNat xs.length)), .val (.int (Int32.ofNat ps.length)), .val (.int q)] []
      refine k_iinc (z := (1 : Int32)) (Ls' := #[.val (.ref c), .val (.int ((Int32.ofNat ps.length) + (1 : Int32))), .val (.ref d), .val (.int (Int32.ofNat ps.length)), .val (.int (Int32.ofNat xs.length)), .val (.int (Int32.ofNat ps.length)), .val (.int q)]) d_cmp_32 rfl (by decide) rfl rfl ?_
      refine k_iinc (z := (1 : Int32)) (Ls' := #[.val (.ref c), .val (.int ((Int32.ofNat ps.length) + (1 : Int32))), .val (.ref d), .val (.int ((Int32.ofNat ps.length) + (1 : Int32))), .val (.int (Int32.ofNat xs.length)), .val (.int (Int32.ofNat ps.length)), .val (.int q)]) d_cmp_35 rfl (by decide) rfl rfl ?_
      refine k_iinc (z := (1 : Int32)) (Ls' := #[.val (.ref c), .val (.int ((Int32.ofNat ps.length) + (1 : Int32))), .val (.ref d), .val (.int ((Int32.ofNat ps.length) + (1 : Int32))), .val (.int (Int32.ofNat xs.length)), .val (.int ((Int32.ofNat ps.length) + (1 : Int32))), .val (.int q)]) d_cmp_38 rfl (by decide) rfl rfl ?_
      refine k_goto (pc' := 3) d_cmp_41 (by decide) (by decide) ?_
      have J := ih (ps ++ [q]) (.val (.int q)) h2 (Or.inr ⟨_, rfl⟩) (by rw [e]; simp) C2 (by simpa using V2) (K.wr W (Or.inl (by simp)))
      rw [show (ps ++ [q]).length = ps.length + 1 by simp, ← ix_succ] at J
      exact J
set_option maxRecDepth 65536 in
set_option maxHeartbeats 40000000 in
theorem kw_cmp (l : Launch) (Z : State) (a0 : Array Value) (hw : ∀ d ∈ tables_1, d.before a0 Z = true) (cs : Int32) (hcs : ¬ cs = 0) (SC : Sta Z Z.heap "java/lang/String" "COMPACT_STRINGS" "Z" (.int cs)) (hEW : EW Z a0 EL) (c d : Addr) (ck ck' : ClassId) (xs : List Int32) (h0 : Heap) (n0 : Nat) (hx : xs.length < 2147483648) (hL : Latin xs) (hne : c ≠ d) (hd : n0 ≤ d) (C : Arv Z h0 c ck .char (Int32.ofNat xs.length) (xs.map Value.int) (.int 0)) (D : Arv Z h0 d ck' .byte (Int32.ofNat xs.length) [] (.int 0)) : KW false l Z M_cmp n0 (fun v h => v = some (.int (Int32.ofNat xs.length)) ∧ Keep h0 h [d] ∧ Arv Z h d ck' .byte (Int32.ofNat xs.length) ((xs.map nbI).map Value.int) (.int 0)) ([], fun _ => False) h0 0 0 0 #[.val (.ref c), .val (.int (0 : Int32)), .val (.ref d), .val (.int (0 : Int32)), .val (.int (Int32.ofNat xs.length)), .unset, .unset] [] := by
  refine k_iconst (z := (0 : Int32)) d_cmp_0 rfl (by decide) ?_
  refine k_istore (Ls' := #[.val (.ref c), .val (.int (0 : Int32)), .val (.ref d), .val (.int (0 : Int32)), .val (.int (Int32.ofNat xs.length)), .val (.int (0 : Int32)), .unset]) d_cmp_1 rfl rfl ?_
  exact kw_cmpL l Z a0 hw cs hcs SC hEW c d ck ck' xs h0 n0 hx hL hne hd xs [] _ h0 (Or.inl rfl) rfl C (Arv.pad D (pad_rep [] _ _)) (Keep.refl _ _)
theorem mt_cmp (l : Launch) (Z : State) (a0 : Array Value) (hw : ∀ d ∈ tables_1, d.before a0 Z = true) (cs : Int32) (hcs : ¬ cs = 0) (SC : Sta Z Z.heap "java/lang/String" "COMPACT_STRINGS" "Z" (.int cs)) (hEW : EW Z a0 EL) (c d : Addr) (ck ck' : ClassId) (xs : List Int32) (h0 : Heap) (n0 : Nat) (hx : xs.length < 2147483648) (hL : Latin xs) (hne : c ≠ d) (hd : n0 ≤ d) (C : Arv Z h0 c ck .char (Int32.ofNat xs.length) (xs.map Value.int) (.int 0)) (D : Arv Z h0 d ck' .byte (Int32.ofNat xs.length) [] (.int 0)) : Mt l Z M_cmp [] n0 #[(.ref c), (.int (0 : Int32)), (.ref d), (.int (0 : Int32)), (.int (Int32.ofNat xs.length))] h0 (fun v h => v = some (.int (Int32.ofNat xs.length)) ∧ Keep h0 h [d] ∧ Arv Z h d ck' .byte (Int32.ofNat xs.length) ((xs.map nbI).map Value.int) (.int 0)) :=
  mt_of_kw (P := ([], fun _ => False)) pf_cmp (fun m => by first | (simp [entryFrame, mkF, argsToLocals, Value.category]; done) | rfl) (kw_cmp l Z a0 hw cs hcs SC hEW c d ck ck' xs h0 n0 hx hL hne hd C D)
abbrev M_cp : MD := ((⟨"java/lang/StringUTF16", "compress", "([CII)[B"⟩ : MethodName), jdk_52_method_16_code, 6, (some (.array .byte)), { frames := 1, cells := 1, slots := 122, locals := 24 })
theorem d_cp_0 : decode jdk_52_method_16_code 0 = .ok (.iload_n 2, 1) := by decide +kernel
theorem d_cp_1 : decode jdk_52_method_16_code 1 = .ok (.newarray .byte, 2) := by decide +kernel
theorem d_cp_3 : decode jdk_52_method_16_code 3 = .ok (.astore_n 3, 1) := by decide +kernel
theorem d_cp_4 : decode jdk_52_method_16_code 4 = .ok (.aload_n 0, 1) := by decide +kernel
theorem d_cp_5 : decode jdk_52_method_16_code 5 = .ok (.iload_n 1, 1) := by decide +kernel
theorem d_cp_6 : decode jdk_52_method_16_code 6 = .ok (.aload_n 3, 1) := by decide +kernel
theorem d_cp_7 : decode jdk_52_method_16_code 7 = .ok (.iconst 0, 1) := by decide +kernel
theorem d_cp_8 : decode jdk_52_method_16_code 8 = .ok (.iload_n 2, 1) := by decide +kernel
theorem d_cp_9 : decode jdk_52_method_16_code 9 = .ok (.invokestatic 115, 3) := by decide +kernel
theorem d_cp_12 : decode jdk_52_method_16_code 12 = .ok (.istore 4, 2) := by decide +kernel
theorem d_cp_14 : decode jdk_52_method_16_code 14 = .ok (.iload 4, 2) := by decide +kernel
theorem d_cp_16 : decode jdk_52_method_16_code 16 = .ok (.iload_n 2, 1) := by decide +kernel
theorem d_cp_17 : decode jdk_52_method_16_code 17 = .ok (.if_icmp .eq 40, 3) := by decide +kernel
theorem d_cp_20 : decode jdk_52_method_16_code 20 = .ok (.aload_n 0, 1) := by decide +kernel
theorem d_cp_21 : decode jdk_52_method_16_code 21 = .ok (.iload_n 1, 1) := by decide +kernel
theorem d_cp_22 : decode jdk_52_method_16_code 22 = .ok (.iload_n 2, 1) := by decide +kernel
theorem d_cp_23 : decode jdk_52_method_16_code 23 = .ok (.invokestatic 119, 3) := by decide +kernel
theorem d_cp_26 : decode jdk_52_method_16_code 26 = .ok (.astore 5, 2) := by decide +kernel
theorem d_cp_28 : decode jdk_52_method_16_code 28 = .ok (.aload 5, 2) := by decide +kernel
theorem d_cp_30 : decode jdk_52_method_16_code 30 = .ok (.iload 4, 2) := by decide +kernel
theorem d_cp_32 : decode jdk_52_method_16_code 32 = .ok (.invokestatic 71, 3) := by decide +kernel
theorem d_cp_35 : decode jdk_52_method_16_code 35 = .ok (.sipush 255, 3) := by decide +kernel
theorem d_cp_38 : decode jdk_52_method_16_code 38 = .ok (.if_icmp .gt 16, 3) := by decide +kernel
theorem d_cp_41 : decode jdk_52_method_16_code 41 = .ok (.aload 5, 2) := by decide +kernel
theorem d_cp_43 : decode jdk_52_method_16_code 43 = .ok (.iconst 0, 1) := by decide +kernel
theorem d_cp_44 : decode jdk_52_method_16_code 44 = .ok (.aload_n 3, 1) := by decide +kernel
theorem d_cp_45 : decode jdk_52_method_16_code 45 = .ok (.iconst 0, 1) := by decide +kernel
theorem d_cp_46 : decode jdk_52_method_16_code 46 = .ok (.iload_n 2, 1) := by decide +kernel
theorem d_cp_47 : decode jdk_52_method_16_code 47 = .ok (.invokestatic 123, 3) := by decide +kernel
theorem d_cp_50 : decode jdk_52_method_16_code 50 = .ok (.iload_n 2, 1) := by decide +kernel
theorem d_cp_51 : decode jdk_52_method_16_code 51 = .ok (.if_icmp .eq 6, 3) := by decide +kernel
theorem d_cp_54 : decode jdk_52_method_16_code 54 = .ok (.aload 5, 2) := by decide +kernel
theorem d_cp_56 : decode jdk_52_method_16_code 56 = .ok (.areturn, 1) := by decide +kernel
theorem d_cp_57 : decode jdk_52_method_16_code 57 = .ok (.aload_n 3, 1) := by decide +kernel
theorem d_cp_58 : decode jdk_52_method_16_code 58 = .ok (.areturn, 1) := by decide +kernel
theorem pd_cp : parseMethodDescriptor "([CII)[B" = some ⟨[(.array .char), .int, .int], (some (.array .byte))⟩ := by decide +kernel
theorem pf_cp : plainFor (⟨"java/lang/StringUTF16", "compress", "([CII)[B"⟩ : MethodName) = true := by first | exact plainFor_of_name (by first | (simp [plainName, overriddenIn]; done) | decide +kernel) | decide +kernel
set_option maxRecDepth 65536 in
set_option maxHeartbeats 40000000 in
theorem kw_cp (l : Launch) (Z : State) (a0 : Array Value) (hw : ∀ d ∈ tables_1, d.before a0 Z = true) (cs : Int32) (hcs : ¬ cs = 0) (SC : Sta Z Z.heap "java/lang/String" "COMPACT_STRINGS" "Z" (.int cs)) (hEW : EW Z a0 EL) (c : Addr) (ck : ClassId) (xs : List Int32) (h0 : Heap) (n0 : Nat) (hx : xs.length ≤ 122) (hL : Latin xs) (OD : Old Z n0 h0) (C : Arv Z h0 c ck .char (Int32.ofNat xs.length) (xs.map Value.int) (.int 0)) : KW false l Z M_cp n0 (fun v h => ∃ d ck', v = some (.ref d) ∧ h0.size ≤ d ∧ n0 ≤ d ∧ Keep h0 h [] ∧ Arv Z h d ck' .byte (Int32.ofNat xs.length) ((xs.map nbI).map Value.int) (.int 0)) ([], fun _ => False) h0 0 0 0 #[.val (.ref c), .val (.int (0 : Int32)), .val (.int (Int32.ofNat xs.length)), .unset, .unset, .unset] [] := by
  have Z0 := OD.1 ▸ OD.2.1
  refine k_iloadN d_cp_0 rfl rfl ?_
  refine k_newarr (cap := 122) d_cp_1 rfl (hw _ (List.mem_of_getElem? (i := 0) rfl)) (ix_nn (by omega)) (by rw [ix_nat (by omega)]; exact hx) (by decide) (by decide) (by decide) ?_
  intro h2 a1 ck6 g5 E3 V4
  have ne7 : c ≠ a1 := Nat.ne_of_lt (Nat.lt_of_lt_of_eq C.lt g5.symm)
  have z9 : n0 ≤ h0.size := Z0
  have ge8 : n0 ≤ a1 := Nat.le_trans z9 (Nat.le_of_eq g5.symm)
  have gl10 : h0.size ≤ a1 := Nat.le_of_eq g5.symm
  refine KW.any (P' := ([], fun _ => False)) ?_
  show KW false l Z M_cp n0 (fun v h => ∃ d ck', v = some (.ref d) ∧ h0.size ≤ d ∧ n0 ≤ d ∧ Keep h0 h [] ∧ Arv Z h d ck' .byte (Int32.ofNat xs.length) ((xs.map nbI).map Value.int) (.int 0)) ([], fun _ => False) h2 1 122 3 #[.val (.ref c), .val (.int (0 : Int32)), .val (.int (Int32.ofNat xs.length)), .unset, .unset, .unset] [(.ref a1)]
  refine k_astoreN (Ls' := #[.val (.ref c), .val (.int (0 : Int32)), .val (.int (Int32.ofNat xs.length)), .val (.ref a1), .unset, .unset]) d_cp_3 rfl rfl rfl ?_
  refine k_aloadN d_cp_4 rfl rfl rfl ?_
  refine k_iloadN d_cp_5 rfl rfl ?_
  refine k_aloadN d_cp_6 rfl rfl rfl ?_
  refine k_iconst (z := (0 : Int32)) d_cp_7 rfl (by decide) ?_
  refine k_iloadN d_cp_8 rfl rfl ?_
  have f11 := (C.ext E3)
  refine k_callStatic (argsL := [(.ref c), (.int (0 : Int32)), (.ref a1), (.int (0 : Int32)), (.int (Int32.ofNat xs.length))]) (rest := []) (W0 := 0) d_cp_9 rfl (mt_cmp l Z a0 hw cs hcs SC hEW c a1 _ _ xs h2 n0 (by omega) hL ne7 ge8 f11 V4) Kp.strict (hw _ (List.mem_of_getElem? (i := 250) rfl)) (hw _ (List.mem_of_getElem? (i := 251) rfl)) (hw _ (List.mem_of_getElem? (i := 248) rfl)) (hw _ (List.mem_of_getElem? (i := 252) rfl)) (by decide) pd_cmp rfl rfl rfl rfl (by decide) (by decide) (by decide) (by decide) ?_
  rintro _ hN - ⟨rfl, KN, DN⟩
  refine KW.any (P' := ([], fun _ => False)) ?_
  show KW false l Z M_cp n0 (fun v h => ∃ d ck', v = some (.ref d) ∧ h0.size ≤ d ∧ n0 ≤ d ∧ Keep h0 h [] ∧ Arv Z h d ck' .byte (Int32.ofNat xs.length) ((xs.map nbI).map Value.int) (.int 0)) ([], fun _ => False) hN 1 122 12 #[.val (.ref c), .val (.int (0 : Int32)), .val (.int (Int32.ofNat xs.length)), .val (.ref a1), .unset, .unset] [(.int (Int32.ofNat xs.length))]
  refine k_istore (Ls' := #[.val (.ref c), .val (.int (0 : Int32)), .val (.int (Int32.ofNat xs.length)), .val (.ref a1), .val (.int (Int32.ofNat xs.length)), .unset]) d_cp_12 rfl rfl ?_
  refine k_iload d_cp_14 rfl rfl ?_
  refine k_iloadN d_cp_16 rfl rfl ?_
  refine k_icmp (pc1 := 57) (pc' := 20) d_cp_17 (by decide) (by decide) rfl (fun (cd1 : (Int32.ofNat xs.length) = (Int32.ofNat xs.length)) => ?_) (fun (cd1 : ¬ (Int32.ofNat xs.length) = (Int32.ofNat xs.length)) => False.elim (by exact cd1 rfl))
  refine k_aloadN d_cp_57 rfl rfl rfl ?_
  exact k_retRef d_cp_58 rfl rfl rfl (by decide) (by decide) ⟨a1, _, rfl, gl10, ge8, (Keep.ext (Keep.refl _ _) E3).trans KN (allS (Or.inr gl10) all0), DN⟩
theorem mt_cp (l : Launch) (Z : State) (a0 : Array Value) (hw : ∀ d ∈ tables_1, d.before a0 Z = true) (cs : Int32) (hcs : ¬ cs = 0) (SC : Sta Z Z.heap "java/lang/String" "COMPACT_STRINGS" "Z" (.int cs)) (hEW : EW Z a0 EL) (c : Addr) (ck : ClassId) (xs : List Int32) (h0 : Heap) (n0 : Nat) (hx : xs.length ≤ 122) (hL : Latin xs) (OD : Old Z n0 h0) (C : Arv Z h0 c ck .char (Int32.ofNat xs.length) (xs.map Value.int) (.int 0)) : Mt l Z M_cp [] n0 #[(.ref c), (.int (0 : Int32)), (.int (Int32.ofNat xs.length))] h0 (fun v h => ∃ d ck', v = some (.ref d) ∧ h0.size ≤ d ∧ n0 ≤ d ∧ Keep h0 h [] ∧ Arv Z h d ck' .byte (Int32.ofNat xs.length) ((xs.map nbI).map Value.int) (.int 0)) :=
  mt_of_kw (P := ([], fun _ => False)) pf_cp (fun m => by first | (simp [entryFrame, mkF, argsToLocals, Value.category]; done) | rfl) (kw_cp l Z a0 hw cs hcs SC hEW c ck xs h0 n0 hx hL OD C)
abbrev M_si : MD := ((⟨"java/lang/String", "<init>", "([CIILjava/lang/Void;)V"⟩ : MethodName), jdk_42_method_149_code, 6, none, { frames := 2, cells := 4, slots := 122, locals := 48 })
theorem d_si_0 : decode jdk_42_method_149_code 0 = .ok (.aload_n 0, 1) := by decide +kernel
theorem d_si_1 : decode jdk_42_method_149_code 1 = .ok (.invokespecial 1, 3) := by decide +kernel
theorem d_si_4 : decode jdk_42_method_149_code 4 = .ok (.iload_n 3, 1) := by decide +kernel
theorem d_si_5 : decode jdk_42_method_149_code 5 = .ok (.ifCond .ne 22, 3) := by decide +kernel
theorem d_si_8 : decode jdk_42_method_149_code 8 = .ok (.aload_n 0, 1) := by decide +kernel
theorem d_si_9 : decode jdk_42_method_149_code 9 = .ok (.ldc 7, 2) := by decide +kernel
theorem d_si_11 : decode jdk_42_method_149_code 11 = .ok (.getfield 9, 3) := by decide +kernel
theorem d_si_14 : decode jdk_42_method_149_code 14 = .ok (.putfield 9, 3) := by decide +kernel
theorem d_si_17 : decode jdk_42_method_149_code 17 = .ok (.aload_n 0, 1) := by decide +kernel
theorem d_si_18 : decode jdk_42_method_149_code 18 = .ok (.ldc 7, 2) := by decide +kernel
theorem d_si_20 : decode jdk_42_method_149_code 20 = .ok (.getfield 15, 3) := by decide +kernel
theorem d_si_23 : decode jdk_42_method_149_code 23 = .ok (.putfield 15, 3) := by decide +kernel
theorem d_si_26 : decode jdk_42_method_149_code 26 = .ok (.return_, 1) := by decide +kernel
theorem d_si_27 : decode jdk_42_method_149_code 27 = .ok (.getstatic 38, 3) := by decide +kernel
theorem d_si_30 : decode jdk_42_method_149_code 30 = .ok (.ifCond .eq 28, 3) := by decide +kernel
theorem d_si_33 : decode jdk_42_method_149_code 33 = .ok (.aload_n 1, 1) := by decide +kernel
theorem d_si_34 : decode jdk_42_method_149_code 34 = .ok (.iload_n 2, 1) := by decide +kernel
theorem d_si_35 : decode jdk_42_method_149_code 35 = .ok (.iload_n 3, 1) := by decide +kernel
theorem d_si_36 : decode jdk_42_method_149_code 36 = .ok (.invokestatic 177, 3) := by decide +kernel
theorem d_si_39 : decode jdk_42_method_149_code 39 = .ok (.astore 5, 2) := by decide +kernel
theorem d_si_41 : decode jdk_42_method_149_code 41 = .ok (.aload_n 0, 1) := by decide +kernel
theorem d_si_42 : decode jdk_42_method_149_code 42 = .ok (.aload 5, 2) := by decide +kernel
theorem d_si_44 : decode jdk_42_method_149_code 44 = .ok (.iload_n 3, 1) := by decide +kernel
theorem d_si_45 : decode jdk_42_method_149_code 45 = .ok (.invokestatic 47, 3) := by decide +kernel
theorem d_si_48 : decode jdk_42_method_149_code 48 = .ok (.putfield 15, 3) := by decide +kernel
theorem d_si_51 : decode jdk_42_method_149_code 51 = .ok (.aload_n 0, 1) := by decide +kernel
theorem d_si_52 : decode jdk_42_method_149_code 52 = .ok (.aload 5, 2) := by decide +kernel
theorem d_si_54 : decode jdk_42_method_149_code 54 = .ok (.putfield 9, 3) := by decide +kernel
theorem d_si_57 : decode jdk_42_method_149_code 57 = .ok (.return_, 1) := by decide +kernel
theorem d_si_58 : decode jdk_42_method_149_code 58 = .ok (.aload_n 0, 1) := by decide +kernel
theorem d_si_59 : decode jdk_42_method_149_code 59 = .ok (.iconst 1, 1) := by decide +kernel
theorem d_si_60 : decode jdk_42_method_149_code 60 = .ok (.putfield 15, 3) := by decide +kernel
theorem d_si_63 : decode jdk_42_method_149_code 63 = .ok (.aload_n 0, 1) := by decide +kernel
theorem d_si_64 : decode jdk_42_method_149_code 64 = .ok (.aload_n 1, 1) := by decide +kernel
theorem d_si_65 : decode jdk_42_method_149_code 65 = .ok (.iload_n 2, 1) := by decide +kernel
theorem d_si_66 : decode jdk_42_method_149_code 66 = .ok (.iload_n 3, 1) := by decide +kernel
theorem d_si_67 : decode jdk_42_method_149_code 67 = .ok (.invokestatic 180, 3) := by decide +kernel
theorem d_si_70 : decode jdk_42_method_149_code 70 = .ok (.putfield 9, 3) := by decide +kernel
theorem d_si_73 : decode jdk_42_method_149_code 73 = .ok (.return_, 1) := by decide +kernel
theorem pd_si : parseMethodDescriptor "([CIILjava/lang/Void;)V" = some ⟨[(.array .char), .int, .int, (.object "java/lang/Void")], none⟩ := by decide +kernel
theorem pf_si : plainFor (⟨"java/lang/String", "<init>", "([CIILjava/lang/Void;)V"⟩ : MethodName) = true := by first | exact plainFor_of_name (by first | (simp [plainName, overriddenIn]; done) | decide +kernel) | decide +kernel
set_option maxRecDepth 65536 in
set_option maxHeartbeats 40000000 in
theorem kw_si0 (l : Launch) (Z : State) (a0 : Array Value) (hw : ∀ d ∈ tables_1, d.before a0 Z = true) (cs : Int32) (hcs : ¬ cs = 0) (SC : Sta Z Z.heap "java/lang/String" "COMPACT_STRINGS" "Z" (.int cs)) (hEW : EW Z a0 EL) (a c : Addr) (h0 : Heap) (n0 : Nat) (OD : Old Z n0 h0) (EA : Exa Z h0 a "java/lang/String") (FC : Fld Z h0 a "java/lang/String" "coder" "B" (.int 0)) (FV : Fld Z h0 a "java/lang/String" "value" "[B" .null) (ga : n0 ≤ a) : KW true l Z M_si n0 (fun v h => v = none ∧ ∃ t, Sg Z h a t [] ∧ Keep h0 h [a]) (EL, fun x => x = a) h0 0 0 0 #[.val (.ref a), .val (.ref c), .val (.int (0 : Int32)), .val (.int (0 : Int32)), .val .null, .unset] [] := by
  have K0 : Keep h0 h0 [a] := Keep.refl _ _
  refine k_aloadN d_si_0 rfl rfl rfl ?_
  refine k_initObj (W0 := 0) d_si_1 rfl (hw _ (List.mem_of_getElem? (i := 151) rfl)) (hw _ (List.mem_of_getElem? (i := 8) rfl)) (hw _ (List.mem_of_getElem? (i := 9) rfl)) rfl rfl (by decide) (by decide) ?_
  refine k_iloadN d_si_4 rfl rfl ?_
  refine k_ifc (pc1 := 27) (pc' := 8) d_si_5 (by decide) (by decide) rfl (fun (cd1 : ¬ (0 : Int32) = (0 : Int32)) => False.elim (by exact absurd cd1 (by decide))) (fun (cd1 : (0 : Int32) = (0 : Int32)) => ?_)
  refine k_aloadN d_si_8 rfl rfl rfl ?_
  refine k_ldcS (sl := 0) (vs := []) (z := (0 : Int32)) d_si_9 rfl (hw _ (List.mem_of_getElem? (i := 197) rfl)) (own_wS Z a0 hw) (List.mem_of_getElem? (i := 6) rfl) ⟨by decide, by decide⟩ (by decide) (by decide) (by decide) (by decide) (by decide) (by decide) ?_
  intro a1 b2 ck3 h4 E5 X6 F7 F8 A9 N10
  show KW true l Z M_si n0 (fun v h => v = none ∧ ∃ t, Sg Z h a t [] ∧ Keep h0 h [a]) (EL, fun x => x = a) h4 2 4 11 #[.val (.ref a), .val (.ref c), .val (.int (0 : Int32)), .val (.int (0 : Int32)), .val .null, .unset] [(.ref a1), (.ref a)]
  refine k_getField d_si_11 rfl (hw _ (List.mem_of_getElem? (i := 69) rfl)) Via.refl F8 ?_
  have f13 := (FV.ext E5)
  have f14 := (EA.ext E5)
  refine k_put (v' := (.ref b2)) (ty := (.array .byte)) d_si_14 rfl (hw _ (List.mem_of_getElem? (i := 69) rfl)) Via.refl f13 f14 (Or.inr ⟨(hw _ (List.mem_of_getElem? (i := 50) rfl)), rfl, rfl⟩) (hw _ (List.mem_of_getElem? (i := 49) rfl)) (by decide) rfl rfl ga (fun _ => Or.inl rfl) ?_
  intro h11 W12
  have F15 := f13.same W12
  show KW true l Z M_si n0 (fun v h => v = none ∧ ∃ t, Sg Z h a t [] ∧ Keep h0 h [a]) (EL, fun x => x = a) h11 2 4 17 #[.val (.ref a), .val (.ref c), .val (.int (0 : Int32)), .val (.int (0 : Int32)), .val .null, .unset] []
  refine k_aloadN d_si_17 rfl rfl rfl ?_
  have f16 := (f14.wr W12)
  have f17 := (X6.wr W12)
  have f18 := (A9.other W12 (Ne.symm (N10 a rfl).2))
  refine k_ldcS (sl := 0) (vs := []) (z := (0 : Int32)) d_si_18 rfl (hw _ (List.mem_of_getElem? (i := 197) rfl)) (own_wS Z a0 hw) (List.mem_of_getElem? (i := 6) rfl) ⟨by decide, by decide⟩ (by decide) (by decide) (by decide) (by decide) (by decide) (by decide) ?_
  intro a19 b20 ck21 h22 E23 X24 F25 F26 A27 N28
  show KW true l Z M_si n0 (fun v h => v = none ∧ ∃ t, Sg Z h a t [] ∧ Keep h0 h [a]) (EL, fun x => x = a) h22 4 8 20 #[.val (.ref a), .val (.ref c), .val (.int (0 : Int32)), .val (.int (0 : Int32)), .val .null, .unset] [(.ref a19), (.ref a)]
  refine k_getField d_si_20 rfl (hw _ (List.mem_of_getElem? (i := 76) rfl)) Via.refl F25 ?_
  have f31 := (((FC.ext E5).other W12 (Or.inr (slot_ne (t := .byte) (t' := (.array .byte)) (Or.inr (hw _ (List.mem_of_getElem? (i := 51) rfl))) (Or.inr (hw _ (List.mem_of_getElem? (i := 50) rfl))) (by decide) (by decide) (by decide)))).ext E23)
  have f32 := (f16.ext E23)
  refine k_put (v' := (.int (0 : Int32))) (ty := .byte) d_si_23 rfl (hw _ (List.mem_of_getElem? (i := 76) rfl)) Via.refl f31 f32 (Or.inr ⟨(hw _ (List.mem_of_getElem? (i := 51) rfl)), rfl, rfl⟩) (hw _ (List.mem_of_getElem? (i := 49) rfl)) (by decide) rfl rfl ga (fun _ => Or.inl rfl) ?_
  intro h29 W30
  have F33 := f31.same W30
  show KW true l Z M_si n0 (fun v h => v = none ∧ ∃ t, Sg Z h a t [] ∧ Keep h0 h [a]) (EL, fun x => x = a) h29 4 8 26 #[.val (.ref a), .val (.ref c), .val (.int (0 : Int32)), .val (.int (0 : Int32)), .val .null, .unset] []
  have f34 := (f32.wr W30)
  have f35 := ((F15.ext E23).other W30 (Or.inr (slot_ne (t := (.array .byte)) (t' := .byte) (Or.inr (hw _ (List.mem_of_getElem? (i := 50) rfl))) (Or.inr (hw _ (List.mem_of_getElem? (i := 51) rfl))) (by decide) (by decide) (by decide))))
  have f36 := ((f18.ext E23).other W30 (Ne.symm (N10 a rfl).2))
  have f37 := ((((K0.ext E5).wr W12 (Or.inl (by simp))).ext E23).wr W30 (Or.inl (by simp)))
  exact k_retVoid d_si_26 rfl (by decide) (by decide) ⟨rfl, b2, ⟨ck3, f34, F33, f35, f36, by decide⟩, f37⟩
set_option maxRecDepth 65536 in
set_option maxHeartbeats 40000000 in
theorem kw_si1 (l : Launch) (Z : State) (a0 : Array Value) (hw : ∀ d ∈ tables_1, d.before a0 Z = true) (cs : Int32) (hcs : ¬ cs = 0) (SC : Sta Z Z.heap "java/lang/String" "COMPACT_STRINGS" "Z" (.int cs)) (hEW : EW Z a0 EL) (a c : Addr) (ck : ClassId) (xs : List Int32) (h0 : Heap) (n0 : Nat) (hx : xs.length ≤ 122) (hL : Latin xs) (OD : Old Z n0 h0) (EA : Exa Z h0 a "java/lang/String") (FC : Fld Z h0 a "java/lang/String" "coder" "B" (.int 0)) (FV : Fld Z h0 a "java/lang/String" "value" "[B" .null) (C : Arv Z h0 c ck .char (Int32.ofNat xs.length) (xs.map Value.int) (.int 0)) (ga : n0 ≤ a) (hn : xs.length ≠ 0) : KW true l Z M_si n0 (fun v h => v = none ∧ ∃ t, Sg Z h a t (xs.map nbI) ∧ Keep h0 h [a]) (EL, fun x => x = a) h0 0 0 0 #[.val (.ref a), .val (.ref c), .val (.int (0 : Int32)), .val (.int (Int32.ofNat xs.length)), .val .null, .unset] [] := by
  have K0 : Keep h0 h0 [a] := Keep.refl _ _
  refine k_aloadN d_si_0 rfl rfl rfl ?_
  refine k_initObj (W0 := 0) d_si_1 rfl (hw _ (List.mem_of_getElem? (i := 151) rfl)) (hw _ (List.mem_of_getElem? (i := 8) rfl)) (hw _ (List.mem_of_getElem? (i := 9) rfl)) rfl rfl (by decide) (by decide) ?_
  refine k_iloadN d_si_4 rfl rfl ?_
  refine k_ifc (pc1 := 27) (pc' := 8) d_si_5 (by decide) (by decide) rfl (fun (cd2 : ¬ (Int32.ofNat xs.length) = (0 : Int32)) => ?_) (fun (cd2 : (Int32.ofNat xs.length) = (0 : Int32)) => False.elim (by exact ix_ne (i := xs.length) (j := 0) (by omega) (by decide) hn cd2))
  refine k_getStatic d_si_27 rfl (hw _ (List.mem_of_getElem? (i := 75) rfl)) (Sta.ext OD.2 SC) ?_
  refine k_ifc (pc1 := 58) (pc' := 33) d_si_30 (by decide) (by decide) rfl (fun (cd3 : cs = (0 : Int32)) => False.elim (by exact hcs cd3)) (fun (cd3 : ¬ cs = (0 : Int32)) => ?_)
  refine k_aloadN d_si_33 rfl rfl rfl ?_
  refine k_iloadN d_si_34 rfl rfl ?_
  refine k_iloadN d_si_35 rfl rfl ?_
  refine k_callStatic (argsL := [(.ref c), (.int (0 : Int32)), (.int (Int32.ofNat xs.length))]) (rest := []) (W0 := 0) d_si_36 rfl (mt_cp l Z a0 hw cs hcs SC hEW c ck xs h0 n0 hx hL OD C) (fun _ _ _ q => by obtain ⟨_, _, -, -, -, K, -⟩ := q; exact ⟨[], K, fun _ z => nomatch z⟩) (hw _ (List.mem_of_getElem? (i := 246) rfl)) (hw _ (List.mem_of_getElem? (i := 247) rfl)) (hw _ (List.mem_of_getElem? (i := 248) rfl)) (hw _ (List.mem_of_getElem? (i := 249) rfl)) (by decide) pd_cp rfl rfl rfl rfl (by decide) (by decide) (by decide) (by decide) ?_
  rintro _ h39 - ⟨d38, ck44, rfl, gd42, g43, K40, D41⟩
  have ne45 : a ≠ d38 := Nat.ne_of_lt (Nat.lt_of_lt_of_le EA.lt gd42)
  refine KW.sub (S' := fun x => x = a) (fun x hx => Or.inl hx) ?_
  show KW true l Z M_si n0 (fun v h => v = none ∧ ∃ t, Sg Z h a t (xs.map nbI) ∧ Keep h0 h [a]) (EL, fun x => x = a) h39 1 122 39 #[.val (.ref a), .val (.ref c), .val (.int (0 : Int32)), .val (.int (Int32.ofNat xs.length)), .val .null, .unset] [(.ref d38)]
  refine k_astore (Ls' := #[.val (.ref a), .val (.ref c), .val (.int (0 : Int32)), .val (.int (Int32.ofNat xs.length)), .val .null, .val (.ref d38)]) d_si_39 rfl rfl rfl ?_
  refine k_aloadN d_si_41 rfl rfl rfl ?_
  refine k_aload d_si_42 rfl rfl rfl ?_
  refine k_iloadN d_si_44 rfl rfl ?_
  refine k_callStatic (argsL := [(.ref d38), (.int (Int32.ofNat xs.length))]) (rest := [(.ref a)]) (W0 := 1) d_si_45 rfl (mt_cfl l Z a0 hw cs hcs SC hEW d38 _ _ _ _ h39 n0 D41) (Kp.pure (fun _ _ q => q.2.symm)) (hw _ (List.mem_of_getElem? (i := 253) rfl)) (hw _ (List.mem_of_getElem? (i := 254) rfl)) (hw _ (List.mem_of_getElem? (i := 248) rfl)) (hw _ (List.mem_of_getElem? (i := 255) rfl)) (by decide) pd_cfl rfl rfl rfl rfl (by decide) (by decide) (by decide) (by decide) ?_
  rintro _ _ - ⟨rfl, rfl⟩
  refine KW.sub (S' := fun x => x = a) (fun x hx => Or.inl hx) ?_
  show KW true l Z M_si n0 (fun v h => v = none ∧ ∃ t, Sg Z h a t (xs.map nbI) ∧ Keep h0 h [a]) (EL, fun x => x = a) h39 1 122 48 #[.val (.ref a), .val (.ref c), .val (.int (0 : Int32)), .val (.int (Int32.ofNat xs.length)), .val .null, .val (.ref d38)] [(.int (0 : Int32)), (.ref a)]
  have f48 := (FC.keep K40 nin0)
  have f49 := (EA.keep K40)
  refine k_put (v' := (.int (0 : Int32))) (ty := .byte) d_si_48 rfl (hw _ (List.mem_of_getElem? (i := 76) rfl)) Via.refl f48 f49 (Or.inr ⟨(hw _ (List.mem_of_getElem? (i := 51) rfl)), rfl, rfl⟩) (hw _ (List.mem_of_getElem? (i := 49) rfl)) (by decide) rfl rfl ga (fun _ => Or.inl rfl) ?_
  intro h46 W47
  have F50 := f48.same W47
  show KW true l Z M_si n0 (fun v h => v = none ∧ ∃ t, Sg Z h a t (xs.map nbI) ∧ Keep h0 h [a]) (EL, fun x => x = a) h46 1 122 51 #[.val (.ref a), .val (.ref c), .val (.int (0 : Int32)), .val (.int (Int32.ofNat xs.length)), .val .null, .val (.ref d38)] []
  refine k_aloadN d_si_51 rfl rfl rfl ?_
  refine k_aload d_si_52 rfl rfl rfl ?_
  have f53 := ((FV.keep K40 nin0).other W47 (Or.inr (slot_ne (t := (.array .byte)) (t' := .byte) (Or.inr (hw _ (List.mem_of_getElem? (i := 50) rfl))) (Or.inr (hw _ (List.mem_of_getElem? (i := 51) rfl))) (by decide) (by decide) (by decide))))
  have f54 := (f49.wr W47)
  refine k_put (v' := (.ref d38)) (ty := (.array .byte)) d_si_54 rfl (hw _ (List.mem_of_getElem? (i := 69) rfl)) Via.refl f53 f54 (Or.inr ⟨(hw _ (List.mem_of_getElem? (i := 50) rfl)), rfl, rfl⟩) (hw _ (List.mem_of_getElem? (i := 49) rfl)) (by decide) rfl rfl ga (fun _ => Or.inl rfl) ?_
  intro h51 W52
  have F55 := f53.same W52
  show KW true l Z M_si n0 (fun v h => v = none ∧ ∃ t, Sg Z h a t (xs.map nbI) ∧ Keep h0 h [a]) (EL, fun x => x = a) h51 1 122 57 #[.val (.ref a), .val (.ref c), .val (.int (0 : Int32)), .val (.int (Int32.ofNat xs.length)), .val .null, .val (.ref d38)] []
  have f56 := (f54.wr W52)
  have f57 := (F50.other W52 (Or.inr (slot_ne (t := .byte) (t' := (.array .byte)) (Or.inr (hw _ (List.mem_of_getElem? (i := 51) rfl))) (Or.inr (hw _ (List.mem_of_getElem? (i := 50) rfl))) (by decide) (by decide) (by decide))))
  have f58 := ((D41.other W47 (Ne.symm ne45)).other W52 (Ne.symm ne45))
  have f59 := (((K0.trans K40 all0).wr W47 (Or.inl (by simp))).wr W52 (Or.inl (by simp)))
  exact k_retVoid d_si_57 rfl (by decide) (by decide) ⟨rfl, d38, ⟨ck44, f56, f57, F55, by rw [List.length_map]; exact f58, by rw [List.length_map]; omega⟩, f59⟩
set_option maxRecDepth 65536 in
set_option maxHeartbeats 40000000 in
theorem kw_si (l : Launch) (Z : State) (a0 : Array Value) (hw : ∀ d ∈ tables_1, d.before a0 Z = true) (cs : Int32) (hcs : ¬ cs = 0) (SC : Sta Z Z.heap "java/lang/String" "COMPACT_STRINGS" "Z" (.int cs)) (hEW : EW Z a0 EL) (a c : Addr) (ck : ClassId) (xs : List Int32) (h0 : Heap) (n0 : Nat) (hx : xs.length ≤ 122) (hL : Latin xs) (OD : Old Z n0 h0) (EA : Exa Z h0 a "java/lang/String") (FC : Fld Z h0 a "java/lang/String" "coder" "B" (.int 0)) (FV : Fld Z h0 a "java/lang/String" "value" "[B" .null) (C : Arv Z h0 c ck .char (Int32.ofNat xs.length) (xs.map Value.int) (.int 0)) (ga : n0 ≤ a) : KW true l Z M_si n0 (fun v h => v = none ∧ ∃ t, Sg Z h a t (xs.map nbI) ∧ Keep h0 h [a]) (EL, fun x => x = a) h0 0 0 0 #[.val (.ref a), .val (.ref c), .val (.int (0 : Int32)), .val (.int (Int32.ofNat xs.length)), .val .null, .unset] [] := by
  cases xs with
  | nil => exact kw_si0 l Z a0 hw cs hcs SC hEW a c h0 n0 OD EA FC FV ga
  | cons q xs => exact kw_si1 l Z a0 hw cs hcs SC hEW a c ck (q :: xs) h0 n0 hx hL OD EA FC FV C ga (by simp)
theorem mt_si (l : Launch) (Z : State) (a0 : Array Value) (hw : ∀ d ∈ tables_1, d.before a0 Z = true) (cs : Int32) (hcs : ¬ cs = 0) (SC : Sta Z Z.heap "java/lang/String" "COMPACT_STRINGS" "Z" (.int cs)) (hEW : EW Z a0 EL) (a c : Addr) (ck : ClassId) (xs : List Int32) (h0 : Heap) (n0 : Nat) (hx : xs.length ≤ 122) (hL : Latin xs) (OD : Old Z n0 h0) (EA : Exa Z h0 a "java/lang/String") (FC : Fld Z h0 a "java/lang/String" "coder" "B" (.int 0)) (FV : Fld Z h0 a "java/lang/String" "value" "[B" .null) (C : Arv Z h0 c ck .char (Int32.ofNat xs.length) (xs.map Value.int) (.int 0)) (ga : n0 ≤ a) : MtW l Z M_si [] n0 #[(.ref a), (.ref c), (.int (0 : Int32)), (.int (Int32.ofNat xs.length)), .null] (EL, fun x => x = a) h0 (fun v h => v = none ∧ ∃ t, Sg Z h a t (xs.map nbI) ∧ Keep h0 h [a]) :=
  mtw_of_kw (a0 := a0) (P := (EL, fun x => x = a)) pf_si hEW (fun m => by first | (simp [entryFrame, mkF, argsToLocals, Value.category]; done) | rfl) (kw_si l Z a0 hw cs hcs SC hEW a c ck xs h0 n0 hx hL OD EA FC FV C ga)
abbrev M_s1 : MD := ((⟨"java/lang/String", "<init>", "([C)V"⟩ : MethodName), jdk_42_method_3_code, 2, none, { frames := 3, cells := 4, slots := 122, locals := 72 })
theorem d_s1_0 : decode jdk_42_method_3_code 0 = .ok (.aload_n 0, 1) := by decide +kernel
theorem d_s1_1 : decode jdk_42_method_3_code 1 = .ok (.aload_n 1, 1) := by decide +kernel
theorem d_s1_2 : decode jdk_42_method_3_code 2 = .ok (.iconst 0, 1) := by decide +kernel
theorem d_s1_3 : decode jdk_42_method_3_code 3 = .ok (.aload_n 1, 1) := by decide +kernel
theorem d_s1_4 : decode jdk_42_method_3_code 4 = .ok (.arraylength, 1) := by decide +kernel
theorem d_s1_5 : decode jdk_42_method_3_code 5 = .ok (.aconst_null, 1) := by decide +kernel
theorem d_s1_6 : decode jdk_42_method_3_code 6 = .ok (.invokespecial 27, 3) := by decide +kernel
theorem d_s1_9 : decode jdk_42_method_3_code 9 = .ok (.return_, 1) := by decide +kernel
theorem pd_s1 : parseMethodDescriptor "([C)V" = some ⟨[(.array .char)], none⟩ := by decide +kernel
theorem pf_s1 : plainFor (⟨"java/lang/String", "<init>", "([C)V"⟩ : MethodName) = true := by first | exact plainFor_of_name (by first | (simp [plainName, overriddenIn]; done) | decide +kernel) | decide +kernel
set_option maxRecDepth 65536 in
set_option maxHeartbeats 40000000 in
theorem kw_s1 (l : Launch) (Z : State) (a0 : Array Value) (hw : ∀ d ∈ tables_1, d.before a0 Z = true) (cs : Int32) (hcs : ¬ cs = 0) (SC : Sta Z Z.heap "java/lang/String" "COMPACT_STRINGS" "Z" (.int cs)) (hEW : EW Z a0 EL) (a c : Addr) (ck : ClassId) (xs : List Int32) (h0 : Heap) (n0 : Nat) (hx : xs.length ≤ 122) (hL : Latin xs) (OD : Old Z n0 h0) (EA : Exa Z h0 a "java/lang/String") (FC : Fld Z h0 a "java/lang/String" "coder" "B" (.int 0)) (FV : Fld Z h0 a "java/lang/String" "value" "[B" .null) (C : Arv Z h0 c ck .char (Int32.ofNat xs.length) (xs.map Value.int) (.int 0)) (ga : n0 ≤ a) : KW true l Z M_s1 n0 (fun v h => v = none ∧ ∃ t, Sg Z h a t (xs.map nbI) ∧ Keep h0 h [a]) (EL, fun x => x = a) h0 0 0 0 #[.val (.ref a), .val (.ref c)] [] := by
  refine k_aloadN d_s1_0 rfl rfl rfl ?_
  refine k_aloadN d_s1_1 rfl rfl rfl ?_
  refine k_iconst (z := (0 : Int32)) d_s1_2 rfl (by decide) ?_
  refine k_aloadN d_s1_3 rfl rfl rfl ?_
  refine k_arrlen d_s1_4 rfl C ?_
  refine k_aconstNull d_s1_5 rfl ?_
  refine k_callInitW (a := a) (argsL := [(.ref c), (.int (0 : Int32)), (.int (Int32.ofNat xs.length)), .null]) (rest := []) (W0 := 0) d_s1_6 rfl (mt_si l Z a0 hw cs hcs SC hEW a c ck xs h0 n0 hx hL OD EA FC FV C ga) rfl rfl (hw _ (List.mem_of_getElem? (i := 243) rfl)) (hw _ (List.mem_of_getElem? (i := 244) rfl)) (hw _ (List.mem_of_getElem? (i := 43) rfl)) (hw _ (List.mem_of_getElem? (i := 245) rfl)) (by decide) pd_si rfl rfl rfl rfl (by decide) (by decide) (by decide) (by decide) ?_
  rintro _ hN - ⟨rfl, t, SG, K⟩
  show KW true l Z M_s1 n0 (fun v h => v = none ∧ ∃ t, Sg Z h a t (xs.map nbI) ∧ Keep h0 h [a]) (EL, fun x => x = a) hN 4 122 9 #[.val (.ref a), .val (.ref c)] []
  exact k_retVoid d_s1_9 rfl (by decide) (by decide) ⟨rfl, t, SG, K⟩
theorem mt_s1 (l : Launch) (Z : State) (a0 : Array Value) (hw : ∀ d ∈ tables_1, d.before a0 Z = true) (cs : Int32) (hcs : ¬ cs = 0) (SC : Sta Z Z.heap "java/lang/String" "COMPACT_STRINGS" "Z" (.int cs)) (hEW : EW Z a0 EL) (a c : Addr) (ck : ClassId) (xs : List Int32) (h0 : Heap) (n0 : Nat) (hx : xs.length ≤ 122) (hL : Latin xs) (OD : Old Z n0 h0) (EA : Exa Z h0 a "java/lang/String") (FC : Fld Z h0 a "java/lang/String" "coder" "B" (.int 0)) (FV : Fld Z h0 a "java/lang/String" "value" "[B" .null) (C : Arv Z h0 c ck .char (Int32.ofNat xs.length) (xs.map Value.int) (.int 0)) (ga : n0 ≤ a) : MtW l Z M_s1 [] n0 #[(.ref a), (.ref c)] (EL, fun x => x = a) h0 (fun v h => v = none ∧ ∃ t, Sg Z h a t (xs.map nbI) ∧ Keep h0 h [a]) :=
  mtw_of_kw (a0 := a0) (P := (EL, fun x => x = a)) pf_s1 hEW (fun m => by first | (simp [entryFrame, mkF, argsToLocals, Value.category]; done) | rfl) (kw_s1 l Z a0 hw cs hcs SC hEW a c ck xs h0 n0 hx hL OD EA FC FV C ga)
abbrev M_cdr : MD := ((⟨"java/lang/String", "coder", "()B"⟩ : MethodName), jdk_42_method_152_code, 1, (some .byte), { frames := 0, cells := 0, slots := 0, locals := 0 })
theorem d_cdr_0 : decode jdk_42_method_152_code 0 = .ok (.getstatic 38, 3) := by decide +kernel
theorem d_cdr_3 : decode jdk_42_method_152_code 3 = .ok (.ifCond .eq 10, 3) := by decide +kernel
theorem d_cdr_6 : decode jdk_42_method_152_code 6 = .ok (.aload_n 0, 1) := by decide +kernel
theorem d_cdr_7 : decode jdk_42_method_152_code 7 = .ok (.getfield 15, 3) := by decide +kernel
theorem d_cdr_10 : decode jdk_42_method_152_code 10 = .ok (.goto 4, 3) := by decide +kernel
theorem d_cdr_13 : decode jdk_42_method_152_code 13 = .ok (.iconst 1, 1) := by decide +kernel
theorem d_cdr_14 : decode jdk_42_method_152_code 14 = .ok (.ireturn, 1) := by decide +kernel
theorem pd_cdr : parseMethodDescriptor "()B" = some ⟨[], (some .byte)⟩ := by decide +kernel
theorem pf_cdr : plainFor (⟨"java/lang/String", "coder", "()B"⟩ : MethodName) = true := by first | exact plainFor_of_name (by first | (simp [plainName, overriddenIn]; done) | decide +kernel) | decide +kernel
set_option maxRecDepth 65536 in
set_option maxHeartbeats 40000000 in
theorem kw_cdr (l : Launch) (Z : State) (a0 : Array Value) (hw : ∀ d ∈ tables_1, d.before a0 Z = true) (cs : Int32) (hcs : ¬ cs = 0) (SC : Sta Z Z.heap "java/lang/String" "COMPACT_STRINGS" "Z" (.int cs)) (hEW : EW Z a0 EL) (a t : Addr) (bs : List Int32) (h0 : Heap) (n0 : Nat) (OD : Old Z n0 h0) (SA : Sg Z h0 a t bs) : KW false l Z M_cdr n0 (fun v h => v = some (.int 0) ∧ h0 = h) ([], fun _ => False) h0 0 0 0 #[.val (.ref a)] [] := by
  obtain ⟨ckA, EA, CA, VA, AA, lA⟩ := id SA
  refine k_getStatic d_cdr_0 rfl (hw _ (List.mem_of_getElem? (i := 75) rfl)) (Sta.ext OD.2 SC) ?_
  refine k_ifc (pc1 := 13) (pc' := 6) d_cdr_3 (by decide) (by decide) rfl (fun (cd1 : cs = (0 : Int32)) => False.elim (by exact hcs cd1)) (fun (cd1 : ¬ cs = (0 : Int32)) => ?_)
  refine k_aloadN d_cdr_6 rfl rfl rfl ?_
  refine k_getField d_cdr_7 rfl (hw _ (List.mem_of_getElem? (i := 76) rfl)) Via.refl CA ?_
  refine k_goto (pc' := 14) d_cdr_10 (by decide) (by decide) ?_
  exact k_retNar d_cdr_14 rfl (by simp) (z' := (0 : Int32)) (by decide) (by decide) (by decide) ⟨rfl, rfl⟩
theorem mt_cdr (l : Launch) (Z : State) (a0 : Array Value) (hw : ∀ d ∈ tables_1, d.before a0 Z = true) (cs : Int32) (hcs : ¬ cs = 0) (SC : Sta Z Z.heap "java/lang/String" "COMPACT_STRINGS" "Z" (.int cs)) (hEW : EW Z a0 EL) (a t : Addr) (bs : List Int32) (h0 : Heap) (n0 : Nat) (OD : Old Z n0 h0) (SA : Sg Z h0 a t bs) : Mt l Z M_cdr [] n0 #[(.ref a)] h0 (fun v h => v = some (.int 0) ∧ h0 = h) :=
  mt_of_kw (P := ([], fun _ => False)) pf_cdr (fun m => by first | (simp [entryFrame, mkF, argsToLocals, Value.category]; done) | rfl) (kw_cdr l Z a0 hw cs hcs SC hEW a t bs h0 n0 OD SA)
theorem shr0 (z : Int32) : z >>> ((0 : Int32) &&& 31) = z := by
  have h := c_ishr z 0 0 (by decide)
  refine Int32.toInt_inj.mp ?_
  rw [h]; simp
abbrev M_len : MD := ((⟨"java/lang/String", "length", "()I"⟩ : MethodName), jdk_42_method_54_code, 1, (some .int), { frames := 1, cells := 0, slots := 0, locals := 16 })
theorem d_len_0 : decode jdk_42_method_54_code 0 = .ok (.aload_n 0, 1) := by decide +kernel
theorem d_len_1 : decode jdk_42_method_54_code 1 = .ok (.getfield 9, 3) := by decide +kernel
theorem d_len_4 : decode jdk_42_method_54_code 4 = .ok (.arraylength, 1) := by decide +kernel
theorem d_len_5 : decode jdk_42_method_54_code 5 = .ok (.aload_n 0, 1) := by decide +kernel
theorem d_len_6 : decode jdk_42_method_54_code 6 = .ok (.invokevirtual 335, 3) := by decide +kernel
theorem d_len_9 : decode jdk_42_method_54_code 9 = .ok (.ishr, 1) := by decide +kernel
theorem d_len_10 : decode jdk_42_method_54_code 10 = .ok (.ireturn, 1) := by decide +kernel
theorem pd_len : parseMethodDescriptor "()I" = some ⟨[], (some .int)⟩ := by decide +kernel
theorem pf_len : plainFor (⟨"java/lang/String", "length", "()I"⟩ : MethodName) = true := by first | exact plainFor_of_name (by first | (simp [plainName, overriddenIn]; done) | decide +kernel) | decide +kernel
set_option maxRecDepth 65536 in
set_option maxHeartbeats 40000000 in
theorem kw_len (l : Launch) (Z : State) (a0 : Array Value) (hw : ∀ d ∈ tables_1, d.before a0 Z = true) (cs : Int32) (hcs : ¬ cs = 0) (SC : Sta Z Z.heap "java/lang/String" "COMPACT_STRINGS" "Z" (.int cs)) (hEW : EW Z a0 EL) (a t : Addr) (bs : List Int32) (h0 : Heap) (n0 : Nat) (OD : Old Z n0 h0) (SA : Sg Z h0 a t bs) : KW false l Z M_len n0 (fun v h => v = some (.int (Int32.ofNat bs.length)) ∧ h0 = h) ([], fun _ => False) h0 0 0 0 #[.val (.ref a)] [] := by
  obtain ⟨ckA, EA, CA, VA, AA, lA⟩ := id SA
  refine k_aloadN d_len_0 rfl rfl rfl ?_
  refine k_getField d_len_1 rfl (hw _ (List.mem_of_getElem? (i := 69) rfl)) Via.refl VA ?_
  refine k_arrlen d_len_4 rfl AA ?_
  refine k_aloadN d_len_5 rfl rfl rfl ?_
  refine k_callVirtual (argsL := []) (rest := [(.int (Int32.ofNat bs.length))]) (W0 := 1) d_len_6 rfl (mt_cdr l Z a0 hw cs hcs SC hEW a t bs h0 n0 OD SA) Kp.strict EA (hw _ (List.mem_of_getElem? (i := 70) rfl)) (hw _ (List.mem_of_getElem? (i := 71) rfl)) (hw _ (List.mem_of_getElem? (i := 73) rfl)) (hw _ (List.mem_of_getElem? (i := 67) rfl)) rfl (hw _ (List.mem_of_getElem? (i := 72) rfl)) (hw _ (List.mem_of_getElem? (i := 74) rfl)) (hw _ (List.mem_of_getElem? (i := 43) rfl)) (by decide) pd_cdr rfl rfl rfl rfl (by decide) (by decide) (by decide) (by decide) ?_
  rintro _ _ - ⟨rfl, rfl⟩
  refine KW.any (P' := ([], fun _ => False)) ?_
  show KW false l Z M_len n0 (fun v h => v = some (.int (Int32.ofNat bs.length)) ∧ h0 = h) ([], fun _ => False) h0 0 0 9 #[.val (.ref a)] [(.int (0 : Int32)), (.int (Int32.ofNat bs.length))]
  refine k_ishr d_len_9 rfl ?_
  exact k_retInt d_len_10 rfl (by decide) (by decide) ⟨by rw [shr0], rfl⟩
theorem mt_len (l : Launch) (Z : State) (a0 : Array Value) (hw : ∀ d ∈ tables_1, d.before a0 Z = true) (cs : Int32) (hcs : ¬ cs = 0) (SC : Sta Z Z.heap "java/lang/String" "COMPACT_STRINGS" "Z" (.int cs)) (hEW : EW Z a0 EL) (a t : Addr) (bs : List Int32) (h0 : Heap) (n0 : Nat) (OD : Old Z n0 h0) (SA : Sg Z h0 a t bs) : Mt l Z M_len [] n0 #[(.ref a)] h0 (fun v h => v = some (.int (Int32.ofNat bs.length)) ∧ h0 = h) :=
  mt_of_kw (P := ([], fun _ => False)) pf_len (fun m => by first | (simp [entryFrame, mkF, argsToLocals, Value.category]; done) | rfl) (kw_len l Z a0 hw cs hcs SC hEW a t bs h0 n0 OD SA)
abbrev M_asi : MD := ((⟨"java/lang/AbstractStringBuilder", "<init>", "(I)V"⟩ : MethodName), jdk_68_method_2_code, 2, none, { frames := 1, cells := 1, slots := 16, locals := 12 })
theorem d_asi_0 : decode jdk_68_method_2_code 0 = .ok (.aload_n 0, 1) := by decide +kernel
theorem d_asi_1 : decode jdk_68_method_2_code 1 = .ok (.invokespecial 3, 3) := by decide +kernel
theorem d_asi_4 : decode jdk_68_method_2_code 4 = .ok (.getstatic 18, 3) := by decide +kernel
theorem d_asi_7 : decode jdk_68_method_2_code 7 = .ok (.ifCond .eq 18, 3) := by decide +kernel
theorem d_asi_10 : decode jdk_68_method_2_code 10 = .ok (.aload_n 0, 1) := by decide +kernel
theorem d_asi_11 : decode jdk_68_method_2_code 11 = .ok (.iload_n 1, 1) := by decide +kernel
theorem d_asi_12 : decode jdk_68_method_2_code 12 = .ok (.newarray .byte, 2) := by decide +kernel
theorem d_asi_14 : decode jdk_68_method_2_code 14 = .ok (.putfield 15, 3) := by decide +kernel
theorem d_asi_17 : decode jdk_68_method_2_code 17 = .ok (.aload_n 0, 1) := by decide +kernel
theorem d_asi_18 : decode jdk_68_method_2_code 18 = .ok (.iconst 0, 1) := by decide +kernel
theorem d_asi_19 : decode jdk_68_method_2_code 19 = .ok (.putfield 22, 3) := by decide +kernel
theorem d_asi_22 : decode jdk_68_method_2_code 22 = .ok (.goto 16, 3) := by decide +kernel
theorem d_asi_25 : decode jdk_68_method_2_code 25 = .ok (.aload_n 0, 1) := by decide +kernel
theorem d_asi_26 : decode jdk_68_method_2_code 26 = .ok (.iload_n 1, 1) := by decide +kernel
theorem d_asi_27 : decode jdk_68_method_2_code 27 = .ok (.invokestatic 26, 3) := by decide +kernel
theorem d_asi_30 : decode jdk_68_method_2_code 30 = .ok (.putfield 15, 3) := by decide +kernel
theorem d_asi_33 : decode jdk_68_method_2_code 33 = .ok (.aload_n 0, 1) := by decide +kernel
theorem d_asi_34 : decode jdk_68_method_2_code 34 = .ok (.iconst 1, 1) := by decide +kernel
theorem d_asi_35 : decode jdk_68_method_2_code 35 = .ok (.putfield 22, 3) := by decide +kernel
theorem d_asi_38 : decode jdk_68_method_2_code 38 = .ok (.return_, 1) := by decide +kernel
theorem pd_asi : parseMethodDescriptor "(I)V" = some ⟨[.int], none⟩ := by decide +kernel
theorem pf_asi : plainFor (⟨"java/lang/AbstractStringBuilder", "<init>", "(I)V"⟩ : MethodName) = true := by first | exact plainFor_of_name (by first | (simp [plainName, overriddenIn]; done) | decide +kernel) | decide +kernel
set_option maxRecDepth 65536 in
set_option maxHeartbeats 40000000 in
theorem kw_asi (l : Launch) (Z : State) (a0 : Array Value) (hw : ∀ d ∈ tables_1, d.before a0 Z = true) (cs : Int32) (hcs : ¬ cs = 0) (SC : Sta Z Z.heap "java/lang/String" "COMPACT_STRINGS" "Z" (.int cs)) (hEW : EW Z a0 EL) (b : Addr) (h0 : Heap) (n0 : Nat) (OD : Old Z n0 h0) (gb : n0 ≤ b) (EB : Exa Z h0 b "java/lang/StringBuilder") (GF1 : Fld Z h0 b "java/lang/AbstractStringBuilder" "value" "[B" .null) (GF2 : Fld Z h0 b "java/lang/AbstractStringBuilder" "coder" "B" (.int 0)) (GF3 : Fld Z h0 b "java/lang/AbstractStringBuilder" "count" "I" (.int 0)) : KW false l Z M_asi n0 (fun v h => v = none ∧ ∃ d, h0.size ≤ d ∧ n0 ≤ d ∧ Keep h0 h [b] ∧ Sb Z h b d 16 []) ([], fun _ => False) h0 0 0 0 #[.val (.ref b), .val (.int (16 : Int32))] [] := by
  have Z0 := OD.1 ▸ OD.2.1
  have K0 : Keep h0 h0 [b] := Keep.refl _ _
  refine k_aloadN d_asi_0 rfl rfl rfl ?_
  refine k_initObj (W0 := 0) d_asi_1 rfl (hw _ (List.mem_of_getElem? (i := 41) rfl)) (hw _ (List.mem_of_getElem? (i := 8) rfl)) (hw _ (List.mem_of_getElem? (i := 9) rfl)) rfl rfl (by decide) (by decide) ?_
  refine k_getStatic d_asi_4 rfl (hw _ (List.mem_of_getElem? (i := 42) rfl)) (Sta.ext OD.2 SC) ?_
  refine k_ifc (pc1 := 25) (pc' := 10) d_asi_7 (by decide) (by decide) rfl (fun (cd1 : cs = (0 : Int32)) => False.elim (by exact hcs cd1)) (fun (cd1 : ¬ cs = (0 : Int32)) => ?_)
  refine k_aloadN d_asi_10 rfl rfl rfl ?_
  refine k_iloadN d_asi_11 rfl rfl ?_
  refine k_newarr (cap := 16) d_asi_12 rfl (hw _ (List.mem_of_getElem? (i := 0) rfl)) (by decide) (by decide) (by decide) (by decide) (by decide) ?_
  intro h2 a1 ck6 g5 E3 V4
  have ne7 : b ≠ a1 := Nat.ne_of_lt (Nat.lt_of_lt_of_eq EB.lt g5.symm)
  have z9 : n0 ≤ h0.size := Z0
  have ge8 : n0 ≤ a1 := Nat.le_trans z9 (Nat.le_of_eq g5.symm)
  have gl10 : h0.size ≤ a1 := Nat.le_of_eq g5.symm
  have gh11 := Nat.le_trans K0.1 gl10
  have V12 : Arv Z h2 a1 ck6 .byte (16 : Int32) [(.int (0 : Int32)), (.int (0 : Int32)), (.int (0 : Int32)), (.int (0 : Int32)), (.int (0 : Int32)), (.int (0 : Int32)), (.int (0 : Int32)), (.int (0 : Int32)), (.int (0 : Int32)), (.int (0 : Int32)), (.int (0 : Int32)), (.int (0 : Int32)), (.int (0 : Int32)), (.int (0 : Int32)), (.int (0 : Int32)), (.int (0 : Int32))] (.int (0 : Int32)) := Arv.pad V4 (pad_rep [] _ 16)
  refine KW.any (P' := ([], fun _ => False)) ?_
  show KW false l Z M_asi n0 (fun v h => v = none ∧ ∃ d, h0.size ≤ d ∧ n0 ≤ d ∧ Keep h0 h [b] ∧ Sb Z h b d 16 []) ([], fun _ => False) h2 1 16 14 #[.val (.ref b), .val (.int (16 : Int32))] [(.ref a1), (.ref b)]
  have f15 := (GF1.ext E3)
  have f16 := (EB.ext E3)
  refine k_put (v' := (.ref a1)) (ty := (.array .byte)) d_asi_14 rfl (hw _ (List.mem_of_getElem? (i := 44) rfl)) Via.refl f15 f16 (Or.inl (hw _ (List.mem_of_getElem? (i := 45) rfl))) (hw _ (List.mem_of_getElem? (i := 30) rfl)) (by decide) rfl rfl gb (fun q => by cases q) ?_
  intro h13 W14
  have F17 := f15.same W14
  show KW false l Z M_asi n0 (fun v h => v = none ∧ ∃ d, h0.size ≤ d ∧ n0 ≤ d ∧ Keep h0 h [b] ∧ Sb Z h b d 16 []) ([], fun _ => False) h13 1 16 17 #[.val (.ref b), .val (.int (16 : Int32))] []
  refine k_aloadN d_asi_17 rfl rfl rfl ?_
  refine k_iconst (z := (0 : Int32)) d_asi_18 rfl (by decide) ?_
  have f20 := ((GF2.ext E3).other W14 (Or.inr (slot_ne (t := .byte) (t' := (.array .byte)) (Or.inl (hw _ (List.mem_of_getElem? (i := 47) rfl))) (Or.inl (hw _ (List.mem_of_getElem? (i := 45) rfl))) (by decide) (by decide) (by decide))))
  have f21 := (f16.wr W14)
  refine k_put (v' := (.int (0 : Int32))) (ty := .byte) d_asi_19 rfl (hw _ (List.mem_of_getElem? (i := 46) rfl)) Via.refl f20 f21 (Or.inl (hw _ (List.mem_of_getElem? (i := 47) rfl))) (hw _ (List.mem_of_getElem? (i := 30) rfl)) (by decide) rfl rfl gb (fun q => by cases q) ?_
  intro h18 W19
  have F22 := f20.same W19
  show KW false l Z M_asi n0 (fun v h => v = none ∧ ∃ d, h0.size ≤ d ∧ n0 ≤ d ∧ Keep h0 h [b] ∧ Sb Z h b d 16 []) ([], fun _ => False) h18 1 16 22 #[.val (.ref b), .val (.int (16 : Int32))] []
  refine k_goto (pc' := 38) d_asi_22 (by decide) (by decide) ?_
  have f23 := (((K0.ext E3).wr W14 (Or.inl (by simp))).wr W19 (Or.inl (by simp)))
  have f24 := (f21.wr W19)
  have f25 := (F17.other W19 (Or.inr (slot_ne (t := (.array .byte)) (t' := .byte) (Or.inl (hw _ (List.mem_of_getElem? (i := 45) rfl))) (Or.inl (hw _ (List.mem_of_getElem? (i := 47) rfl))) (by decide) (by decide) (by decide))))
  have f26 := (((GF3.ext E3).other W14 (Or.inr (slot_ne (t := .int) (t' := (.array .byte)) (Or.inl (hw _ (List.mem_of_getElem? (i := 78) rfl))) (Or.inl (hw _ (List.mem_of_getElem? (i := 45) rfl))) (by decide) (by decide) (by decide)))).other W19 (Or.inr (slot_ne (t := .int) (t' := .byte) (Or.inl (hw _ (List.mem_of_getElem? (i := 78) rfl))) (Or.inl (hw _ (List.mem_of_getElem? (i := 47) rfl))) (by decide) (by decide) (by decide))))
  have f27 := ((V12.other W14 (Ne.symm ne7)).other W19 (Ne.symm ne7))
  exact k_retVoid d_asi_38 rfl (by decide) (by decide) ⟨rfl, a1, gh11, ge8, f23, ⟨ck6, List.replicate 16 0, f24, f25, F22, f26, f27, rfl, by decide⟩⟩
theorem mt_asi (l : Launch) (Z : State) (a0 : Array Value) (hw : ∀ d ∈ tables_1, d.before a0 Z = true) (cs : Int32) (hcs : ¬ cs = 0) (SC : Sta Z Z.heap "java/lang/String" "COMPACT_STRINGS" "Z" (.int cs)) (hEW : EW Z a0 EL) (b : Addr) (h0 : Heap) (n0 : Nat) (OD : Old Z n0 h0) (gb : n0 ≤ b) (EB : Exa Z h0 b "java/lang/StringBuilder") (GF1 : Fld Z h0 b "java/lang/AbstractStringBuilder" "value" "[B" .null) (GF2 : Fld Z h0 b "java/lang/AbstractStringBuilder" "coder" "B" (.int 0)) (GF3 : Fld Z h0 b "java/lang/AbstractStringBuilder" "count" "I" (.int 0)) : Mt l Z M_asi [] n0 #[(.ref b), (.int (16 : Int32))] h0 (fun v h => v = none ∧ ∃ d, h0.size ≤ d ∧ n0 ≤ d ∧ Keep h0 h [b] ∧ Sb Z h b d 16 []) :=
  mt_of_kw (P := ([], fun _ => False)) pf_asi (fun m => by first | (simp [entryFrame, mkF, argsToLocals, Value.category]; done) | rfl) (kw_asi l Z a0 hw cs hcs SC hEW b h0 n0 OD gb EB GF1 GF2 GF3)
abbrev M_sbi : MD := ((⟨"java/lang/StringBuilder", "<init>", "()V"⟩ : MethodName), jdk_67_method_1_code, 1, none, { frames := 2, cells := 1, slots := 16, locals := 28 })
theorem d_sbi_0 : decode jdk_67_method_1_code 0 = .ok (.aload_n 0, 1) := by decide +kernel
theorem d_sbi_1 : decode jdk_67_method_1_code 1 = .ok (.bipush 16, 2) := by decide +kernel
theorem d_sbi_3 : decode jdk_67_method_1_code 3 = .ok (.invokespecial 1, 3) := by decide +kernel
theorem d_sbi_6 : decode jdk_67_method_1_code 6 = .ok (.return_, 1) := by decide +kernel
theorem pd_sbi : parseMethodDescriptor "()V" = some ⟨[], none⟩ := by decide +kernel
theorem pf_sbi : plainFor (⟨"java/lang/StringBuilder", "<init>", "()V"⟩ : MethodName) = true := by first | exact plainFor_of_name (by first | (simp [plainName, overriddenIn]; done) | decide +kernel) | decide +kernel
set_option maxRecDepth 65536 in
set_option maxHeartbeats 40000000 in
theorem kw_sbi (l : Launch) (Z : State) (a0 : Array Value) (hw : ∀ d ∈ tables_1, d.before a0 Z = true) (cs : Int32) (hcs : ¬ cs = 0) (SC : Sta Z Z.heap "java/lang/String" "COMPACT_STRINGS" "Z" (.int cs)) (hEW : EW Z a0 EL) (b : Addr) (h0 : Heap) (n0 : Nat) (OD : Old Z n0 h0) (gb : n0 ≤ b) (EB : Exa Z h0 b "java/lang/StringBuilder") (GF1 : Fld Z h0 b "java/lang/AbstractStringBuilder" "value" "[B" .null) (GF2 : Fld Z h0 b "java/lang/AbstractStringBuilder" "coder" "B" (.int 0)) (GF3 : Fld Z h0 b "java/lang/AbstractStringBuilder" "count" "I" (.int 0)) : KW false l Z M_sbi n0 (fun v h => v = none ∧ ∃ d, h0.size ≤ d ∧ n0 ≤ d ∧ Keep h0 h [b] ∧ Sb Z h b d 16 []) ([], fun _ => False) h0 0 0 0 #[.val (.ref b)] [] := by
  refine k_aloadN d_sbi_0 rfl rfl rfl ?_
  refine k_bipush (z := (16 : Int32)) d_sbi_1 rfl (by decide) ?_
  refine k_callInit (a := b) (argsL := [(.int (16 : Int32))]) (rest := []) (W0 := 0) d_sbi_3 rfl (mt_asi l Z a0 hw cs hcs SC hEW b h0 n0 OD gb EB GF1 GF2 GF3) Kp.strict rfl rfl (hw _ (List.mem_of_getElem? (i := 35) rfl)) (hw _ (List.mem_of_getElem? (i := 36) rfl)) (hw _ (List.mem_of_getElem? (i := 39) rfl)) (hw _ (List.mem_of_getElem? (i := 40) rfl)) (by decide) pd_asi rfl rfl rfl rfl (by decide) (by decide) (by decide) (by decide) ?_
  rintro _ hN - ⟨rfl, R1⟩
  refine KW.any (P' := ([], fun _ => False)) ?_
  show KW false l Z M_sbi n0 (fun v h => v = none ∧ ∃ d, h0.size ≤ d ∧ n0 ≤ d ∧ Keep h0 h [b] ∧ Sb Z h b d 16 []) ([], fun _ => False) hN 1 16 6 #[.val (.ref b)] []
  exact k_retVoid d_sbi_6 rfl (by decide) (by decide) ⟨rfl, R1⟩
theorem mt_sbi (l : Launch) (Z : State) (a0 : Array Value) (hw : ∀ d ∈ tables_1, d.before a0 Z = true) (cs : Int32) (hcs : ¬ cs = 0) (SC : Sta Z Z.heap "java/lang/String" "COMPACT_STRINGS" "Z" (.int cs)) (hEW : EW Z a0 EL) (b : Addr) (h0 : Heap) (n0 : Nat) (OD : Old Z n0 h0) (gb : n0 ≤ b) (EB : Exa Z h0 b "java/lang/StringBuilder") (GF1 : Fld Z h0 b "java/lang/AbstractStringBuilder" "value" "[B" .null) (GF2 : Fld Z h0 b "java/lang/AbstractStringBuilder" "coder" "B" (.int 0)) (GF3 : Fld Z h0 b "java/lang/AbstractStringBuilder" "count" "I" (.int 0)) : Mt l Z M_sbi [] n0 #[(.ref b)] h0 (fun v h => v = none ∧ ∃ d, h0.size ≤ d ∧ n0 ≤ d ∧ Keep h0 h [b] ∧ Sb Z h b d 16 []) :=
  mt_of_kw (P := ([], fun _ => False)) pf_sbi (fun m => by first | (simp [entryFrame, mkF, argsToLocals, Value.category]; done) | rfl) (kw_sbi l Z a0 hw cs hcs SC hEW b h0 n0 OD gb EB GF1 GF2 GF3)
abbrev M_ail : MD := ((⟨"java/lang/AbstractStringBuilder", "isLatin1", "()Z"⟩ : MethodName), jdk_68_method_68_code, 1, (some .boolean), { frames := 0, cells := 0, slots := 0, locals := 0 })
theorem d_ail_0 : decode jdk_68_method_68_code 0 = .ok (.getstatic 18, 3) := by decide +kernel
theorem d_ail_3 : decode jdk_68_method_68_code 3 = .ok (.ifCond .eq 14, 3) := by decide +kernel
theorem d_ail_6 : decode jdk_68_method_68_code 6 = .ok (.aload_n 0, 1) := by decide +kernel
theorem d_ail_7 : decode jdk_68_method_68_code 7 = .ok (.getfield 22, 3) := by decide +kernel
theorem d_ail_10 : decode jdk_68_method_68_code 10 = .ok (.ifCond .ne 7, 3) := by decide +kernel
theorem d_ail_13 : decode jdk_68_method_68_code 13 = .ok (.iconst 1, 1) := by decide +kernel
theorem d_ail_14 : decode jdk_68_method_68_code 14 = .ok (.goto 4, 3) := by decide +kernel
theorem d_ail_17 : decode jdk_68_method_68_code 17 = .ok (.iconst 0, 1) := by decide +kernel
theorem d_ail_18 : decode jdk_68_method_68_code 18 = .ok (.ireturn, 1) := by decide +kernel
theorem pd_ail : parseMethodDescriptor "()Z" = some ⟨[], (some .boolean)⟩ := by decide +kernel
theorem pf_ail : plainFor (⟨"java/lang/AbstractStringBuilder", "isLatin1", "()Z"⟩ : MethodName) = true := by first | exact plainFor_of_name (by first | (simp [plainName, overriddenIn]; done) | decide +kernel) | decide +kernel
set_option maxRecDepth 65536 in
set_option maxHeartbeats 40000000 in
theorem kw_ail (l : Launch) (Z : State) (a0 : Array Value) (hw : ∀ d ∈ tables_1, d.before a0 Z = true) (cs : Int32) (hcs : ¬ cs = 0) (SC : Sta Z Z.heap "java/lang/String" "COMPACT_STRINGS" "Z" (.int cs)) (hEW : EW Z a0 EL) (b d : Addr) (N : Nat) (bs : List Int32) (h0 : Heap) (n0 : Nat) (OD : Old Z n0 h0) (SB : Sb Z h0 b d N bs) : KW false l Z M_ail n0 (fun v h => v = some (.int 1) ∧ h0 = h) ([], fun _ => False) h0 0 0 0 #[.val (.ref b)] [] := by
  obtain ⟨ckB, zs, EB, VB, CB, NB, AB, hN, hN2⟩ := id SB
  refine k_getStatic d_ail_0 rfl (hw _ (List.mem_of_getElem? (i := 42) rfl)) (Sta.ext OD.2 SC) ?_
  refine k_ifc (pc1 := 17) (pc' := 6) d_ail_3 (by decide) (by decide) rfl (fun (cd1 : cs = (0 : Int32)) => False.elim (by exact hcs cd1)) (fun (cd1 : ¬ cs = (0 : Int32)) => ?_)
  refine k_aloadN d_ail_6 rfl rfl rfl ?_
  refine k_getField d_ail_7 rfl (hw _ (List.mem_of_getElem? (i := 46) rfl)) Via.refl CB ?_
  refine k_ifc (pc1 := 17) (pc' := 13) d_ail_10 (by decide) (by decide) rfl (fun (cd2 : ¬ (0 : Int32) = (0 : Int32)) => False.elim (by exact absurd cd2 (by decide))) (fun (cd2 : (0 : Int32) = (0 : Int32)) => ?_)
  refine k_iconst (z := (1 : Int32)) d_ail_13 rfl (by decide) ?_
  refine k_goto (pc' := 18) d_ail_14 (by decide) (by decide) ?_
  exact k_retNar d_ail_18 rfl (by simp) (z' := (1 : Int32)) (by decide) (by decide) (by decide) ⟨rfl, rfl⟩
theorem mt_ail (l : Launch) (Z : State) (a0 : Array Value) (hw : ∀ d ∈ tables_1, d.before a0 Z = true) (cs : Int32) (hcs : ¬ cs = 0) (SC : Sta Z Z.heap "java/lang/String" "COMPACT_STRINGS" "Z" (.int cs)) (hEW : EW Z a0 EL) (b d : Addr) (N : Nat) (bs : List Int32) (h0 : Heap) (n0 : Nat) (OD : Old Z n0 h0) (SB : Sb Z h0 b d N bs) : Mt l Z M_ail [] n0 #[(.ref b)] h0 (fun v h => v = some (.int 1) ∧ h0 = h) :=
  mt_of_kw (P := ([], fun _ => False)) pf_ail (fun m => by first | (simp [entryFrame, mkF, argsToLocals, Value.category]; done) | rfl) (kw_ail l Z a0 hw cs hcs SC hEW b d N bs h0 n0 OD SB)
abbrev M_gvl : MD := ((⟨"java/lang/AbstractStringBuilder", "getValue", "()[B"⟩ : MethodName), jdk_68_method_64_code, 1, (some (.array .byte)), { frames := 0, cells := 0, slots := 0, locals := 0 })
theorem d_gvl_0 : decode jdk_68_method_64_code 0 = .ok (.aload_n 0, 1) := by decide +kernel
theorem d_gvl_1 : decode jdk_68_method_64_code 1 = .ok (.getfield 15, 3) := by decide +kernel
theorem d_gvl_4 : decode jdk_68_method_64_code 4 = .ok (.areturn, 1) := by decide +kernel
theorem pd_gvl : parseMethodDescriptor "()[B" = some ⟨[], (some (.array .byte))⟩ := by decide +kernel
theorem pf_gvl : plainFor (⟨"java/lang/AbstractStringBuilder", "getValue", "()[B"⟩ : MethodName) = true := by first | exact plainFor_of_name (by first | (simp [plainName, overriddenIn]; done) | decide +kernel) | decide +kernel
set_option maxRecDepth 65536 in
set_option maxHeartbeats 40000000 in
theorem kw_gvl (l : Launch) (Z : State) (a0 : Array Value) (hw : ∀ d ∈ tables_1, d.before a0 Z = true) (cs : Int32) (hcs : ¬ cs = 0) (SC : Sta Z Z.heap "java/lang/String" "COMPACT_STRINGS" "Z" (.int cs)) (hEW : EW Z a0 EL) (b d : Addr) (N : Nat) (bs : List Int32) (h0 : Heap) (n0 : Nat) (OD : Old Z n0 h0) (SB : Sb Z h0 b d N bs) : KW false l Z M_gvl n0 (fun v h => v = some (.ref d) ∧ h0 = h) ([], fun _ => False) h0 0 0 0 #[.val (.ref b)] [] := by
  obtain ⟨ckB, zs, EB, VB, CB, NB, AB, hN, hN2⟩ := id SB
  refine k_aloadN d_gvl_0 rfl rfl rfl ?_
  refine k_getField d_gvl_1 rfl (hw _ (List.mem_of_getElem? (i := 44) rfl)) Via.refl VB ?_
  exact k_retRef d_gvl_4 rfl rfl rfl (by decide) (by decide) ⟨rfl, rfl⟩
theorem mt_gvl (l : Launch) (Z : State) (a0 : Array Value) (hw : ∀ d ∈ tables_1, d.before a0 Z = true) (cs : Int32) (hcs : ¬ cs = 0) (SC : Sta Z Z.heap "java/lang/String" "COMPACT_STRINGS" "Z" (.int cs)) (hEW : EW Z a0 EL) (b d : Addr) (N : Nat) (bs : List Int32) (h0 : Heap) (n0 : Nat) (OD : Old Z n0 h0) (SB : Sb Z h0 b d N bs) : Mt l Z M_gvl [] n0 #[(.ref b)] h0 (fun v h => v = some (.ref d) ∧ h0 = h) :=
  mt_of_kw (P := ([], fun _ => False)) pf_gvl (fun m => by first | (simp [entryFrame, mkF, argsToLocals, Value.category]; done) | rfl) (kw_gvl l Z a0 hw cs hcs SC hEW b d N bs h0 n0 OD SB)
abbrev M_aln : MD := ((⟨"java/lang/AbstractStringBuilder", "length", "()I"⟩ : MethodName), jdk_68_method_6_code, 1, (some .int), { frames := 0, cells := 0, slots := 0, locals := 0 })
theorem d_aln_0 : decode jdk_68_method_6_code 0 = .ok (.aload_n 0, 1) := by decide +kernel
theorem d_aln_1 : decode jdk_68_method_6_code 1 = .ok (.getfield 79, 3) := by decide +kernel
theorem d_aln_4 : decode jdk_68_method_6_code 4 = .ok (.ireturn, 1) := by decide +kernel
theorem pd_aln : parseMethodDescriptor "()I" = some ⟨[], (some .int)⟩ := by decide +kernel
theorem pf_aln : plainFor (⟨"java/lang/AbstractStringBuilder", "length", "()I"⟩ : MethodName) = true := by first | exact plainFor_of_name (by first | (simp [plainName, overriddenIn]; done) | decide +kernel) | decide +kernel
set_option maxRecDepth 65536 in
set_option maxHeartbeats 40000000 in
theorem kw_aln (l : Launch) (Z : State) (a0 : Array Value) (hw : ∀ d ∈ tables_1, d.before a0 Z = true) (cs : Int32) (hcs : ¬ cs = 0) (SC : Sta Z Z.heap "java/lang/String" "COMPACT_STRINGS" "Z" (.int cs)) (hEW : EW Z a0 EL) (b d : Addr) (N : Nat) (bs : List Int32) (h0 : Heap) (n0 : Nat) (OD : Old Z n0 h0) (SB : Sb Z h0 b d N bs) : KW false l Z M_aln n0 (fun v h => v = some (.int (Int32.ofNat bs.length)) ∧ h0 = h) ([], fun _ => False) h0 0 0 0 #[.val (.ref b)] [] := by
  obtain ⟨ckB, zs, EB, VB, CB, NB, AB, hN, hN2⟩ := id SB
  refine k_aloadN d_aln_0 rfl rfl rfl ?_
  refine k_getField d_aln_1 rfl (hw _ (List.mem_of_getElem? (i := 77) rfl)) Via.refl NB ?_
  exact k_retInt d_aln_4 rfl (by decide) (by decide) ⟨rfl, rfl⟩
theorem mt_aln (l : Launch) (Z : State) (a0 : Array Value) (hw : ∀ d ∈ tables_1, d.before a0 Z = true) (cs : Int32) (hcs : ¬ cs = 0) (SC : Sta Z Z.heap "java/lang/String" "COMPACT_STRINGS" "Z" (.int cs)) (hEW : EW Z a0 EL) (b d : Addr) (N : Nat) (bs : List Int32) (h0 : Heap) (n0 : Nat) (OD : Old Z n0 h0) (SB : Sb Z h0 b d N bs) : Mt l Z M_aln [] n0 #[(.ref b)] h0 (fun v h => v = some (.int (Int32.ofNat bs.length)) ∧ h0 = h) :=
  mt_of_kw (P := ([], fun _ => False)) pf_aln (fun m => by first | (simp [entryFrame, mkF, argsToLocals, Value.category]; done) | rfl) (kw_aln l Z a0 hw cs hcs SC hEW b d N bs h0 n0 OD SB)
abbrev M_sln : MD := ((⟨"java/lang/StringBuilder", "length", "()I"⟩ : MethodName), jdk_67_method_93_code, 1, (some .int), { frames := 1, cells := 0, slots := 0, locals := 16 })
theorem d_sln_0 : decode jdk_67_method_93_code 0 = .ok (.aload_n 0, 1) := by decide +kernel
theorem d_sln_1 : decode jdk_67_method_93_code 1 = .ok (.invokespecial 343, 3) := by decide +kernel
theorem d_sln_4 : decode jdk_67_method_93_code 4 = .ok (.ireturn, 1) := by decide +kernel
theorem pd_sln : parseMethodDescriptor "()I" = some ⟨[], (some .int)⟩ := by decide +kernel
theorem pf_sln : plainFor (⟨"java/lang/StringBuilder", "length", "()I"⟩ : MethodName) = true := by first | exact plainFor_of_name (by first | (simp [plainName, overriddenIn]; done) | decide +kernel) | decide +kernel
set_option maxRecDepth 65536 in
set_option maxHeartbeats 40000000 in
theorem kw_sln (l : Launch) (Z : State) (a0 : Array Value) (hw : ∀ d ∈ tables_1, d.before a0 Z = true) (cs : Int32) (hcs : ¬ cs = 0) (SC : Sta Z Z.heap "java/lang/String" "COMPACT_STRINGS" "Z" (.int cs)) (hEW : EW Z a0 EL) (b d : Addr) (N : Nat) (bs : List Int32) (h0 : Heap) (n0 : Nat) (OD : Old Z n0 h0) (SB : Sb Z h0 b d N bs) : KW false l Z M_sln n0 (fun v h => v = some (.int (Int32.ofNat bs.length)) ∧ h0 = h) ([], fun _ => False) h0 0 0 0 #[.val (.ref b)] [] := by
  obtain ⟨ckB, zs, EB, VB, CB, NB, AB, hN, hN2⟩ := id SB
  refine k_aloadN d_sln_0 rfl rfl rfl ?_
  refine k_callSuper (argsL := []) (rest := []) (W0 := 0) d_sln_1 rfl (mt_aln l Z a0 hw cs hcs SC hEW b d N bs h0 n0 OD SB) Kp.strict EB (hw _ (List.mem_of_getElem? (i := 221) rfl)) (hw _ (List.mem_of_getElem? (i := 216) rfl)) (hw _ (List.mem_of_getElem? (i := 82) rfl)) rfl (hw _ (List.mem_of_getElem? (i := 217) rfl)) (hw _ (List.mem_of_getElem? (i := 61) rfl)) (hw _ (List.mem_of_getElem? (i := 222) rfl)) (hw _ (List.mem_of_getElem? (i := 39) rfl)) (by decide) (by decide) pd_aln rfl rfl rfl rfl (by decide) (by decide) (by decide) (by decide) ?_
  rintro _ _ - ⟨rfl, rfl⟩
  refine KW.any (P' := ([], fun _ => False)) ?_
  show KW false l Z M_sln n0 (fun v h => v = some (.int (Int32.ofNat bs.length)) ∧ h0 = h) ([], fun _ => False) h0 0 0 4 #[.val (.ref b)] [(.int (Int32.ofNat bs.length))]
  exact k_retInt d_sln_4 rfl (by decide) (by decide) ⟨rfl, rfl⟩
theorem mt_sln (l : Launch) (Z : State) (a0 : Array Value) (hw : ∀ d ∈ tables_1, d.before a0 Z = true) (cs : Int32) (hcs : ¬ cs = 0) (SC : Sta Z Z.heap "java/lang/String" "COMPACT_STRINGS" "Z" (.int cs)) (hEW : EW Z a0 EL) (b d : Addr) (N : Nat) (bs : List Int32) (h0 : Heap) (n0 : Nat) (OD : Old Z n0 h0) (SB : Sb Z h0 b d N bs) : Mt l Z M_sln [] n0 #[(.ref b)] h0 (fun v h => v = some (.int (Int32.ofNat bs.length)) ∧ h0 = h) :=
  mt_of_kw (P := ([], fun _ => False)) pf_sln (fun m => by first | (simp [entryFrame, mkF, argsToLocals, Value.category]; done) | rfl) (kw_sln l Z a0 hw cs hcs SC hEW b d N bs h0 n0 OD SB)
abbrev M_inf : MD := ((⟨"java/lang/AbstractStringBuilder", "inflateIfNeededFor", "(Ljava/lang/String;)V"⟩ : MethodName), jdk_68_method_71_code, 2, none, { frames := 1, cells := 0, slots := 0, locals := 16 })
theorem d_inf_0 : decode jdk_68_method_71_code 0 = .ok (.getstatic 18, 3) := by decide +kernel
theorem d_inf_3 : decode jdk_68_method_71_code 3 = .ok (.ifCond .eq 18, 3) := by decide +kernel
theorem d_inf_6 : decode jdk_68_method_71_code 6 = .ok (.aload_n 0, 1) := by decide +kernel
theorem d_inf_7 : decode jdk_68_method_71_code 7 = .ok (.getfield 22, 3) := by decide +kernel
theorem d_inf_10 : decode jdk_68_method_71_code 10 = .ok (.aload_n 1, 1) := by decide +kernel
theorem d_inf_11 : decode jdk_68_method_71_code 11 = .ok (.invokevirtual 40, 3) := by decide +kernel
theorem d_inf_14 : decode jdk_68_method_71_code 14 = .ok (.if_icmp .eq 7, 3) := by decide +kernel
theorem d_inf_17 : decode jdk_68_method_71_code 17 = .ok (.aload_n 0, 1) := by decide +kernel
theorem d_inf_18 : decode jdk_68_method_71_code 18 = .ok (.invokevirtual 195, 3) := by decide +kernel
theorem d_inf_21 : decode jdk_68_method_71_code 21 = .ok (.return_, 1) := by decide +kernel
theorem pd_inf : parseMethodDescriptor "(Ljava/lang/String;)V" = some ⟨[(.object "java/lang/String")], none⟩ := by decide +kernel
theorem pf_inf : plainFor (⟨"java/lang/AbstractStringBuilder", "inflateIfNeededFor", "(Ljava/lang/String;)V"⟩ : MethodName) = true := by first | exact plainFor_of_name (by first | (simp [plainName, overriddenIn]; done) | decide +kernel) | decide +kernel
set_option maxRecDepth 65536 in
set_option maxHeartbeats 40000000 in
theorem kw_inf (l : Launch) (Z : State) (a0 : Array Value) (hw : ∀ d ∈ tables_1, d.before a0 Z = true) (cs : Int32) (hcs : ¬ cs = 0) (SC : Sta Z Z.heap "java/lang/String" "COMPACT_STRINGS" "Z" (.int cs)) (hEW : EW Z a0 EL) (b s t : Addr) (xs : List Int32) (h0 : Heap) (n0 : Nat) (OD : Old Z n0 h0) (CB : Fld Z h0 b "java/lang/AbstractStringBuilder" "coder" "B" (.int 0)) (SA : Sg Z h0 s t xs) : KW false l Z M_inf n0 (fun v h => v = none ∧ h0 = h) ([], fun _ => False) h0 0 0 0 #[.val (.ref b), .val (.ref s)] [] := by
  refine k_getStatic d_inf_0 rfl (hw _ (List.mem_of_getElem? (i := 42) rfl)) (Sta.ext OD.2 SC) ?_
  refine k_ifc (pc1 := 21) (pc' := 6) d_inf_3 (by decide) (by decide) rfl (fun (cd1 : cs = (0 : Int32)) => False.elim (by exact hcs cd1)) (fun (cd1 : ¬ cs = (0 : Int32)) => ?_)
  refine k_aloadN d_inf_6 rfl rfl rfl ?_
  refine k_getField d_inf_7 rfl (hw _ (List.mem_of_getElem? (i := 46) rfl)) Via.refl CB ?_
  refine k_aloadN d_inf_10 rfl rfl rfl ?_
  refine k_callVirtual (argsL := []) (rest := [(.int (0 : Int32))]) (W0 := 1) d_inf_11 rfl (mt_cdr l Z a0 hw cs hcs SC hEW s t xs h0 n0 OD SA) Kp.strict SA.exa (hw _ (List.mem_of_getElem? (i := 94) rfl)) (hw _ (List.mem_of_getElem? (i := 71) rfl)) (hw _ (List.mem_of_getElem? (i := 73) rfl)) (hw _ (List.mem_of_getElem? (i := 67) rfl)) rfl (hw _ (List.mem_of_getElem? (i := 72) rfl)) (hw _ (List.mem_of_getElem? (i := 74) rfl)) (hw _ (List.mem_of_getElem? (i := 43) rfl)) (by decide) pd_cdr rfl rfl rfl rfl (by decide) (by decide) (by decide) (by decide) ?_
  rintro _ _ - ⟨rfl, rfl⟩
  refine KW.any (P' := ([], fun _ => False)) ?_
  show KW false l Z M_inf n0 (fun v h => v = none ∧ h0 = h) ([], fun _ => False) h0 0 0 14 #[.val (.ref b), .val (.ref s)] [(.int (0 : Int32)), (.int (0 : Int32))]
  refine k_icmp (pc1 := 21) (pc' := 17) d_inf_14 (by decide) (by decide) rfl (fun (cd2 : (0 : Int32) = (0 : Int32)) => ?_) (fun (cd2 : ¬ (0 : Int32) = (0 : Int32)) => False.elim (by exact absurd cd2 (by decide)))
  exact k_retVoid d_inf_21 rfl (by decide) (by decide) ⟨rfl, rfl⟩
theorem mt_inf (l : Launch) (Z : State) (a0 : Array Value) (hw : ∀ d ∈ tables_1, d.before a0 Z = true) (cs : Int32) (hcs : ¬ cs = 0) (SC : Sta Z Z.heap "java/lang/String" "COMPACT_STRINGS" "Z" (.int cs)) (hEW : EW Z a0 EL) (b s t : Addr) (xs : List Int32) (h0 : Heap) (n0 : Nat) (OD : Old Z n0 h0) (CB : Fld Z h0 b "java/lang/AbstractStringBuilder" "coder" "B" (.int 0)) (SA : Sg Z h0 s t xs) : Mt l Z M_inf [] n0 #[(.ref b), (.ref s)] h0 (fun v h => v = none ∧ h0 = h) :=
  mt_of_kw (P := ([], fun _ => False)) pf_inf (fun m => by first | (simp [entryFrame, mkF, argsToLocals, Value.category]; done) | rfl) (kw_inf l Z a0 hw cs hcs SC hEW b s t xs h0 n0 OD CB SA)
abbrev M_gby : MD := ((⟨"java/lang/String", "getBytes", "([BIB)V"⟩ : MethodName), jdk_42_method_147_code, 4, none, { frames := 1, cells := 0, slots := 0, locals := 48 })
theorem d_gby_0 : decode jdk_42_method_147_code 0 = .ok (.aload_n 0, 1) := by decide +kernel
theorem d_gby_1 : decode jdk_42_method_147_code 1 = .ok (.invokevirtual 335, 3) := by decide +kernel
theorem d_gby_4 : decode jdk_42_method_147_code 4 = .ok (.iload_n 3, 1) := by decide +kernel
theorem d_gby_5 : decode jdk_42_method_147_code 5 = .ok (.if_icmp .ne 23, 3) := by decide +kernel
theorem d_gby_8 : decode jdk_42_method_147_code 8 = .ok (.aload_n 0, 1) := by decide +kernel
theorem d_gby_9 : decode jdk_42_method_147_code 9 = .ok (.getfield 9, 3) := by decide +kernel
theorem d_gby_12 : decode jdk_42_method_147_code 12 = .ok (.iconst 0, 1) := by decide +kernel
theorem d_gby_13 : decode jdk_42_method_147_code 13 = .ok (.aload_n 1, 1) := by decide +kernel
theorem d_gby_14 : decode jdk_42_method_147_code 14 = .ok (.iload_n 2, 1) := by decide +kernel
theorem d_gby_15 : decode jdk_42_method_147_code 15 = .ok (.iload_n 3, 1) := by decide +kernel
theorem d_gby_16 : decode jdk_42_method_147_code 16 = .ok (.ishl, 1) := by decide +kernel
theorem d_gby_17 : decode jdk_42_method_147_code 17 = .ok (.aload_n 0, 1) := by decide +kernel
theorem d_gby_18 : decode jdk_42_method_147_code 18 = .ok (.getfield 9, 3) := by decide +kernel
theorem d_gby_21 : decode jdk_42_method_147_code 21 = .ok (.arraylength, 1) := by decide +kernel
theorem d_gby_22 : decode jdk_42_method_147_code 22 = .ok (.invokestatic 212, 3) := by decide +kernel
theorem d_gby_25 : decode jdk_42_method_147_code 25 = .ok (.goto 18, 3) := by decide +kernel
theorem d_gby_28 : decode jdk_42_method_147_code 28 = .ok (.aload_n 0, 1) := by decide +kernel
theorem d_gby_29 : decode jdk_42_method_147_code 29 = .ok (.getfield 9, 3) := by decide +kernel
theorem d_gby_32 : decode jdk_42_method_147_code 32 = .ok (.iconst 0, 1) := by decide +kernel
theorem d_gby_33 : decode jdk_42_method_147_code 33 = .ok (.aload_n 1, 1) := by decide +kernel
theorem d_gby_34 : decode jdk_42_method_147_code 34 = .ok (.iload_n 2, 1) := by decide +kernel
theorem d_gby_35 : decode jdk_42_method_147_code 35 = .ok (.aload_n 0, 1) := by decide +kernel
theorem d_gby_36 : decode jdk_42_method_147_code 36 = .ok (.getfield 9, 3) := by decide +kernel
theorem d_gby_39 : decode jdk_42_method_147_code 39 = .ok (.arraylength, 1) := by decide +kernel
theorem d_gby_40 : decode jdk_42_method_147_code 40 = .ok (.invokestatic 106, 3) := by decide +kernel
theorem d_gby_43 : decode jdk_42_method_147_code 43 = .ok (.return_, 1) := by decide +kernel
theorem pd_gby : parseMethodDescriptor "([BIB)V" = some ⟨[(.array .byte), .int, .byte], none⟩ := by decide +kernel
theorem pf_gby : plainFor (⟨"java/lang/String", "getBytes", "([BIB)V"⟩ : MethodName) = true := by first | exact plainFor_of_name (by first | (simp [plainName, overriddenIn]; done) | decide +kernel) | decide +kernel
set_option maxRecDepth 65536 in
set_option maxHeartbeats 40000000 in
theorem kw_gby (l : Launch) (Z : State) (a0 : Array Value) (hw : ∀ d ∈ tables_1, d.before a0 Z = true) (cs : Int32) (hcs : ¬ cs = 0) (SC : Sta Z Z.heap "java/lang/String" "COMPACT_STRINGS" "Z" (.int cs)) (hEW : EW Z a0 EL) (a t d : Addr) (ck : ClassId) (bs ys : List Int32) (pos : Nat) (h0 : Heap) (n0 : Nat) (OD : Old Z n0 h0) (SA : Sg Z h0 a t bs) (D : Arv Z h0 d ck .byte (Int32.ofNat ys.length) (ys.map Value.int) (.int 0)) (hy : ys.length < 2147483648) (hfit : pos + bs.length ≤ ys.length) (gd : n0 ≤ d) : KW false l Z M_gby n0 (fun v h => v = none ∧ Keep h0 h [d] ∧ Arv Z h d ck .byte (Int32.ofNat ys.length) ((laid bs ys 0 pos bs.length).map Value.int) (.int 0)) ([], fun _ => False) h0 0 0 0 #[.val (.ref a), .val (.ref d), .val (.int (Int32.ofNat pos)), .val (.int (0 : Int32))] [] := by
  obtain ⟨ckA, EA, CA, VA, AA, lA⟩ := id SA
  refine k_aloadN d_gby_0 rfl rfl rfl ?_
  refine k_callVirtual (argsL := []) (rest := []) (W0 := 0) d_gby_1 rfl (mt_cdr l Z a0 hw cs hcs SC hEW a t bs h0 n0 OD SA) Kp.strict EA (hw _ (List.mem_of_getElem? (i := 70) rfl)) (hw _ (List.mem_of_getElem? (i := 71) rfl)) (hw _ (List.mem_of_getElem? (i := 73) rfl)) (hw _ (List.mem_of_getElem? (i := 67) rfl)) rfl (hw _ (List.mem_of_getElem? (i := 72) rfl)) (hw _ (List.mem_of_getElem? (i := 74) rfl)) (hw _ (List.mem_of_getElem? (i := 43) rfl)) (by decide) pd_cdr rfl rfl rfl rfl (by decide) (by decide) (by decide) (by decide) ?_
  rintro _ _ - ⟨rfl, rfl⟩
  refine KW.any (P' := ([], fun _ => False)) ?_
  show KW false l Z M_gby n0 (fun v h => v = none ∧ Keep h0 h [d] ∧ Arv Z h d ck .byte (Int32.ofNat ys.length) ((laid bs ys 0 pos bs.length).map Value.int) (.int 0)) ([], fun _ => False) h0 0 0 4 #[.val (.ref a), .val (.ref d), .val (.int (Int32.ofNat pos)), .val (.int (0 : Int32))] [(.int (0 : Int32))]
  refine k_iloadN d_gby_4 rfl rfl ?_
  refine k_icmp (pc1 := 28) (pc' := 8) d_gby_5 (by decide) (by decide) rfl (fun (cd1 : ¬ (0 : Int32) = (0 : Int32)) => False.elim (by exact absurd cd1 (by decide))) (fun (cd1 : (0 : Int32) = (0 : Int32)) => ?_)
  refine k_aloadN d_gby_8 rfl rfl rfl ?_
  refine k_getField d_gby_9 rfl (hw _ (List.mem_of_getElem? (i := 69) rfl)) Via.refl VA ?_
  refine k_iconst (z := (0 : Int32)) d_gby_12 rfl (by decide) ?_
  refine k_aloadN d_gby_13 rfl rfl rfl ?_
  refine k_iloadN d_gby_14 rfl rfl ?_
  refine k_iloadN d_gby_15 rfl rfl ?_
  refine k_ishl d_gby_16 rfl ?_
  refine KW.top (congrArg Value.int (shl0 _)) ?_
  show KW false l Z M_gby n0 (fun v h => v = none ∧ Keep h0 h [d] ∧ Arv Z h d ck .byte (Int32.ofNat ys.length) ((laid bs ys 0 pos bs.length).map Value.int) (.int 0)) ([], fun _ => False) h0 0 0 17 #[.val (.ref a), .val (.ref d), .val (.int (Int32.ofNat pos)), .val (.int (0 : Int32))] [(.int (Int32.ofNat pos)), (.ref d), (.int (0 : Int32)), (.ref t)]
  refine k_aloadN d_gby_17 rfl rfl rfl ?_
  refine k_getField d_gby_18 rfl (hw _ (List.mem_of_getElem? (i := 69) rfl)) Via.refl VA ?_
  refine k_arrlen d_gby_21 rfl AA ?_
  refine k_acopy (o := 0) (q := pos) (m' := bs.length) (W0 := 0) d_gby_22 rfl (hw _ (List.mem_of_getElem? (i := 100) rfl)) (hw _ (List.mem_of_getElem? (i := 103) rfl)) (hw _ (List.mem_of_getElem? (i := 101) rfl)) (hw _ (List.mem_of_getElem? (i := 102) rfl)) lA hy AA D (by omega) hfit gd (fun q => by cases q) rfl rfl (by decide) (by decide) ?_
  intro hN K V
  refine KW.any (P' := ([], fun _ => False)) ?_
  show KW false l Z M_gby n0 (fun v h => v = none ∧ Keep h0 h [d] ∧ Arv Z h d ck .byte (Int32.ofNat ys.length) ((laid bs ys 0 pos bs.length).map Value.int) (.int 0)) ([], fun _ => False) hN 0 0 25 #[.val (.ref a), .val (.ref d), .val (.int (Int32.ofNat pos)), .val (.int (0 : Int32))] []
  refine k_goto (pc' := 43) d_gby_25 (by decide) (by decide) ?_
  exact k_retVoid d_gby_43 rfl (by decide) (by decide) ⟨rfl, K, V⟩
theorem mt_gby (l : Launch) (Z : State) (a0 : Array Value) (hw : ∀ d ∈ tables_1, d.before a0 Z = true) (cs : Int32) (hcs : ¬ cs = 0) (SC : Sta Z Z.heap "java/lang/String" "COMPACT_STRINGS" "Z" (.int cs)) (hEW : EW Z a0 EL) (a t d : Addr) (ck : ClassId) (bs ys : List Int32) (pos : Nat) (h0 : Heap) (n0 : Nat) (OD : Old Z n0 h0) (SA : Sg Z h0 a t bs) (D : Arv Z h0 d ck .byte (Int32.ofNat ys.length) (ys.map Value.int) (.int 0)) (hy : ys.length < 2147483648) (hfit : pos + bs.length ≤ ys.length) (gd : n0 ≤ d) : Mt l Z M_gby [] n0 #[(.ref a), (.ref d), (.int (Int32.ofNat pos)), (.int (0 : Int32))] h0 (fun v h => v = none ∧ Keep h0 h [d] ∧ Arv Z h d ck .byte (Int32.ofNat ys.length) ((laid bs ys 0 pos bs.length).map Value.int) (.int 0)) :=
  mt_of_kw (P := ([], fun _ => False)) pf_gby (fun m => by first | (simp [entryFrame, mkF, argsToLocals, Value.category]; done) | rfl) (kw_gby l Z a0 hw cs hcs SC hEW a t d ck bs ys pos h0 n0 OD SA D hy hfit gd)
abbrev M_psa : MD := ((⟨"java/lang/AbstractStringBuilder", "putStringAt", "(ILjava/lang/String;)V"⟩ : MethodName), jdk_68_method_73_code, 3, none, { frames := 2, cells := 0, slots := 0, locals := 64 })
theorem d_psa_0 : decode jdk_68_method_73_code 0 = .ok (.aload_n 0, 1) := by decide +kernel
theorem d_psa_1 : decode jdk_68_method_73_code 1 = .ok (.aload_n 2, 1) := by decide +kernel
theorem d_psa_2 : decode jdk_68_method_73_code 2 = .ok (.invokevirtual 397, 3) := by decide +kernel
theorem d_psa_5 : decode jdk_68_method_73_code 5 = .ok (.aload_n 2, 1) := by decide +kernel
theorem d_psa_6 : decode jdk_68_method_73_code 6 = .ok (.aload_n 0, 1) := by decide +kernel
theorem d_psa_7 : decode jdk_68_method_73_code 7 = .ok (.getfield 15, 3) := by decide +kernel
theorem d_psa_10 : decode jdk_68_method_73_code 10 = .ok (.iload_n 1, 1) := by decide +kernel
theorem d_psa_11 : decode jdk_68_method_73_code 11 = .ok (.aload_n 0, 1) := by decide +kernel
theorem d_psa_12 : decode jdk_68_method_73_code 12 = .ok (.getfield 22, 3) := by decide +kernel
theorem d_psa_15 : decode jdk_68_method_73_code 15 = .ok (.invokevirtual 399, 3) := by decide +kernel
theorem d_psa_18 : decode jdk_68_method_73_code 18 = .ok (.return_, 1) := by decide +kernel
theorem pd_psa : parseMethodDescriptor "(ILjava/lang/String;)V" = some ⟨[.int, (.object "java/lang/String")], none⟩ := by decide +kernel
theorem pf_psa : plainFor (⟨"java/lang/AbstractStringBuilder", "putStringAt", "(ILjava/lang/String;)V"⟩ : MethodName) = true := by first | exact plainFor_of_name (by first | (simp [plainName, overriddenIn]; done) | decide +kernel) | decide +kernel
set_option maxRecDepth 65536 in
set_option maxHeartbeats 40000000 in
theorem kw_psa (l : Launch) (Z : State) (a0 : Array Value) (hw : ∀ d ∈ tables_1, d.before a0 Z = true) (cs : Int32) (hcs : ¬ cs = 0) (SC : Sta Z Z.heap "java/lang/String" "COMPACT_STRINGS" "Z" (.int cs)) (hEW : EW Z a0 EL) (b d s t : Addr) (ckB : ClassId) (N : Nat) (bs zs xs : List Int32) (h0 : Heap) (n0 : Nat) (OD : Old Z n0 h0) (EB : Exa Z h0 b "java/lang/StringBuilder") (VB : Fld Z h0 b "java/lang/AbstractStringBuilder" "value" "[B" (.ref d)) (CB : Fld Z h0 b "java/lang/AbstractStringBuilder" "coder" "B" (.int 0)) (AB : Arv Z h0 d ckB .byte (Int32.ofNat N) ((bs ++ zs).map Value.int) (.int 0)) (hN : (bs ++ zs).length = N) (hN2 : N < 2147483648) (SA : Sg Z h0 s t xs) (hfit : xs.length ≤ zs.length) (gd : n0 ≤ d) : KW false l Z M_psa n0 (fun v h => v = none ∧ Keep h0 h [d] ∧ Arv Z h d ckB .byte (Int32.ofNat N) (((bs ++ xs) ++ zs.drop xs.length).map Value.int) (.int 0)) ([], fun _ => False) h0 0 0 0 #[.val (.ref b), .val (.int (Int32.ofNat bs.length)), .val (.ref s)] [] := by
  refine k_aloadN d_psa_0 rfl rfl rfl ?_
  refine k_aloadN d_psa_1 rfl rfl rfl ?_
  refine k_callVirtual (argsL := [(.ref s)]) (rest := []) (W0 := 0) d_psa_2 rfl (mt_inf l Z a0 hw cs hcs SC hEW b s t xs h0 n0 OD CB SA) Kp.strict EB (hw _ (List.mem_of_getElem? (i := 89) rfl)) (own_decl (hw _ (List.mem_of_getElem? (i := 90) rfl)) (hw _ (List.mem_of_getElem? (i := 93) rfl))) (hw _ (List.mem_of_getElem? (i := 92) rfl)) (hw _ (List.mem_of_getElem? (i := 82) rfl)) rfl (hw _ (List.mem_of_getElem? (i := 90) rfl)) (hw _ (List.mem_of_getElem? (i := 93) rfl)) (hw _ (List.mem_of_getElem? (i := 39) rfl)) (by decide) pd_inf rfl rfl rfl rfl (by decide) (by decide) (by decide) (by decide) ?_
  rintro _ _ - ⟨rfl, rfl⟩
  refine KW.any (P' := ([], fun _ => False)) ?_
  show KW false l Z M_psa n0 (fun v h => v = none ∧ Keep h0 h [d] ∧ Arv Z h d ckB .byte (Int32.ofNat N) (((bs ++ xs) ++ zs.drop xs.length).map Value.int) (.int 0)) ([], fun _ => False) h0 0 0 5 #[.val (.ref b), .val (.int (Int32.ofNat bs.length)), .val (.ref s)] []
  refine k_aloadN d_psa_5 rfl rfl rfl ?_
  refine k_aloadN d_psa_6 rfl rfl rfl ?_
  refine k_getField d_psa_7 rfl (hw _ (List.mem_of_getElem? (i := 44) rfl)) Via.refl VB ?_
  refine k_iloadN d_psa_10 rfl rfl ?_
  refine k_aloadN d_psa_11 rfl rfl rfl ?_
  refine k_getField d_psa_12 rfl (hw _ (List.mem_of_getElem? (i := 46) rfl)) Via.refl CB ?_
  refine k_callVirtual (argsL := [(.ref d), (.int (Int32.ofNat bs.length)), (.int (0 : Int32))]) (rest := []) (W0 := 0) d_psa_15 rfl (mt_gby l Z a0 hw cs hcs SC hEW s t d ckB xs (bs ++ zs) bs.length h0 n0 OD SA (by rw [hN]; exact AB) (by omega) (by rw [List.length_append]; omega) gd) Kp.strict SA.exa (hw _ (List.mem_of_getElem? (i := 95) rfl)) (hw _ (List.mem_of_getElem? (i := 96) rfl)) (hw _ (List.mem_of_getElem? (i := 98) rfl)) (hw _ (List.mem_of_getElem? (i := 67) rfl)) rfl (hw _ (List.mem_of_getElem? (i := 97) rfl)) (hw _ (List.mem_of_getElem? (i := 99) rfl)) (hw _ (List.mem_of_getElem? (i := 43) rfl)) (by decide) pd_gby rfl rfl rfl rfl (by decide) (by decide) (by decide) (by decide) ?_
  rintro _ hM - ⟨rfl, K, V⟩
  rw [hN, laid_app xs bs zs hfit] at V
  refine KW.any (P' := ([], fun _ => False)) ?_
  show KW false l Z M_psa n0 (fun v h => v = none ∧ Keep h0 h [d] ∧ Arv Z h d ckB .byte (Int32.ofNat N) (((bs ++ xs) ++ zs.drop xs.length).map Value.int) (.int 0)) ([], fun _ => False) hM 0 0 18 #[.val (.ref b), .val (.int (Int32.ofNat bs.length)), .val (.ref s)] []
  exact k_retVoid d_psa_18 rfl (by decide) (by decide) ⟨rfl, K, V⟩
theorem mt_psa (l : Launch) (Z : State) (a0 : Array Value) (hw : ∀ d ∈ tables_1, d.before a0 Z = true) (cs : Int32) (hcs : ¬ cs = 0) (SC : Sta Z Z.heap "java/lang/String" "COMPACT_STRINGS" "Z" (.int cs)) (hEW : EW Z a0 EL) (b d s t : Addr) (ckB : ClassId) (N : Nat) (bs zs xs : List Int32) (h0 : Heap) (n0 : Nat) (OD : Old Z n0 h0) (EB : Exa Z h0 b "java/lang/StringBuilder") (VB : Fld Z h0 b "java/lang/AbstractStringBuilder" "value" "[B" (.ref d)) (CB : Fld Z h0 b "java/lang/AbstractStringBuilder" "coder" "B" (.int 0)) (AB : Arv Z h0 d ckB .byte (Int32.ofNat N) ((bs ++ zs).map Value.int) (.int 0)) (hN : (bs ++ zs).length = N) (hN2 : N < 2147483648) (SA : Sg Z h0 s t xs) (hfit : xs.length ≤ zs.length) (gd : n0 ≤ d) : Mt l Z M_psa [] n0 #[(.ref b), (.int (Int32.ofNat bs.length)), (.ref s)] h0 (fun v h => v = none ∧ Keep h0 h [d] ∧ Arv Z h d ckB .byte (Int32.ofNat N) (((bs ++ xs) ++ zs.drop xs.length).map Value.int) (.int 0)) :=
  mt_of_kw (P := ([], fun _ => False)) pf_psa (fun m => by first | (simp [entryFrame, mkF, argsToLocals, Value.category]; done) | rfl) (kw_psa l Z a0 hw cs hcs SC hEW b d s t ckB N bs zs xs h0 n0 OD EB VB CB AB hN hN2 SA hfit gd)
def minI (a b : Int32) : Int32 := if b < a then b else a
theorem sub0 (z : Int32) : z - (0 : Int32) = z := by
  have h := c_isub z 0; have h1 := rng32 (z - 0); have h2 := rng32 z
  refine Int32.toInt_inj.mp ?_
  rw [show (0 : Int32).toInt = 0 from rfl] at h; omega
theorem minI_n {n N : Nat} (hN : N < 2147483648) (h : n ≤ N) : minI (Int32.ofNat N) (Int32.ofNat n) = Int32.ofNat n := by
  unfold minI; split
  · rfl
  · rename_i q
    have : ¬ n < N := fun r => q (ix_lt hN r)
    rw [show N = n by omega]
theorem laid_take (xs : List Int32) (n : Nat) (h : n ≤ xs.length) : laid xs (List.replicate n 0) 0 0 n = xs.take n := by
  unfold laid; simp
abbrev M_mnm : MD := ((⟨"java/lang/Math", "min", "(II)I"⟩ : MethodName), jdk_29_method_69_code, 2, (some .int), { frames := 0, cells := 0, slots := 0, locals := 0 })
theorem d_mnm_0 : decode jdk_29_method_69_code 0 = .ok (.iload_n 0, 1) := by decide +kernel
theorem d_mnm_1 : decode jdk_29_method_69_code 1 = .ok (.iload_n 1, 1) := by decide +kernel
theorem d_mnm_2 : decode jdk_29_method_69_code 2 = .ok (.if_icmp .gt 7, 3) := by decide +kernel
theorem d_mnm_5 : decode jdk_29_method_69_code 5 = .ok (.iload_n 0, 1) := by decide +kernel
theorem d_mnm_6 : decode jdk_29_method_69_code 6 = .ok (.goto 4, 3) := by decide +kernel
theorem d_mnm_9 : decode jdk_29_method_69_code 9 = .ok (.iload_n 1, 1) := by decide +kernel
theorem d_mnm_10 : decode jdk_29_method_69_code 10 = .ok (.ireturn, 1) := by decide +kernel
theorem pd_mnm : parseMethodDescriptor "(II)I" = some ⟨[.int, .int], (some .int)⟩ := by decide +kernel
theorem pf_mnm : plainFor (⟨"java/lang/Math", "min", "(II)I"⟩ : MethodName) = true := by first | exact plainFor_of_name (by first | (simp [plainName, overriddenIn]; done) | decide +kernel) | decide +kernel
set_option maxRecDepth 65536 in
set_option maxHeartbeats 40000000 in
theorem kw_mnm (l : Launch) (Z : State) (a0 : Array Value) (hw : ∀ d ∈ tables_1, d.before a0 Z = true) (cs : Int32) (hcs : ¬ cs = 0) (SC : Sta Z Z.heap "java/lang/String" "COMPACT_STRINGS" "Z" (.int cs)) (hEW : EW Z a0 EL) (x y : Int32) (h0 : Heap) (n0 : Nat) : KW false l Z M_mnm n0 (fun v h => v = some (.int (minI x y)) ∧ h0 = h) ([], fun _ => False) h0 0 0 0 #[.val (.int x), .val (.int y)] [] := by
  refine k_iloadN d_mnm_0 rfl rfl ?_
  refine k_iloadN d_mnm_1 rfl rfl ?_
  refine k_icmp (pc1 := 9) (pc' := 5) d_mnm_2 (by decide) (by decide) rfl (fun (cd1 : y < x) => ?_) (fun (cd1 : ¬ y < x) => ?_)
  · skip
    refine k_iloadN d_mnm_9 rfl rfl ?_
    exact k_retInt d_mnm_10 rfl (by decide) (by decide) ⟨by unfold minI; repeat (first | rfl | contradiction | split), rfl⟩
  · skip
    refine k_iloadN d_mnm_5 rfl rfl ?_
    refine k_goto (pc' := 10) d_mnm_6 (by decide) (by decide) ?_
    exact k_retInt d_mnm_10 rfl (by decide) (by decide) ⟨by unfold minI; repeat (first | rfl | contradiction | split), rfl⟩
theorem mt_mnm (l : Launch) (Z : State) (a0 : Array Value) (hw : ∀ d ∈ tables_1, d.before a0 Z = true) (cs : Int32) (hcs : ¬ cs = 0) (SC : Sta Z Z.heap "java/lang/String" "COMPACT_STRINGS" "Z" (.int cs)) (hEW : EW Z a0 EL) (x y : Int32) (h0 : Heap) (n0 : Nat) : Mt l Z M_mnm [] n0 #[(.int x), (.int y)] h0 (fun v h => v = some (.int (minI x y)) ∧ h0 = h) :=
  mt_of_kw (P := ([], fun _ => False)) pf_mnm (fun m => by first | (simp [entryFrame, mkF, argsToLocals, Value.category]; done) | rfl) (kw_mnm l Z a0 hw cs hcs SC hEW x y h0 n0)
abbrev M_chk : MD := ((⟨"java/util/Arrays", "checkLength", "(II)V"⟩ : MethodName), jdk_65_method_131_code, 2, none, { frames := 0, cells := 0, slots := 0, locals := 0 })
theorem d_chk_0 : decode jdk_65_method_131_code 0 = .ok (.iload_n 1, 1) := by decide +kernel
theorem d_chk_1 : decode jdk_65_method_131_code 1 = .ok (.iload_n 0, 1) := by decide +kernel
theorem d_chk_2 : decode jdk_65_method_131_code 2 = .ok (.if_icmp .ge 35, 3) := by decide +kernel
theorem d_chk_5 : decode jdk_65_method_131_code 5 = .ok (.new 43, 3) := by decide +kernel
theorem d_chk_8 : decode jdk_65_method_131_code 8 = .ok (.dup, 1) := by decide +kernel
theorem d_chk_9 : decode jdk_65_method_131_code 9 = .ok (.new 45, 3) := by decide +kernel
theorem d_chk_12 : decode jdk_65_method_131_code 12 = .ok (.dup, 1) := by decide +kernel
theorem d_chk_13 : decode jdk_65_method_131_code 13 = .ok (.invokespecial 47, 3) := by decide +kernel
theorem d_chk_16 : decode jdk_65_method_131_code 16 = .ok (.iload_n 0, 1) := by decide +kernel
theorem d_chk_17 : decode jdk_65_method_131_code 17 = .ok (.invokevirtual 54, 3) := by decide +kernel
theorem d_chk_20 : decode jdk_65_method_131_code 20 = .ok (.ldc_w 337, 3) := by decide +kernel
theorem d_chk_23 : decode jdk_65_method_131_code 23 = .ok (.invokevirtual 50, 3) := by decide +kernel
theorem d_chk_26 : decode jdk_65_method_131_code 26 = .ok (.iload_n 1, 1) := by decide +kernel
theorem d_chk_27 : decode jdk_65_method_131_code 27 = .ok (.invokevirtual 54, 3) := by decide +kernel
theorem d_chk_30 : decode jdk_65_method_131_code 30 = .ok (.invokevirtual 61, 3) := by decide +kernel
theorem d_chk_33 : decode jdk_65_method_131_code 33 = .ok (.invokespecial 65, 3) := by decide +kernel
theorem d_chk_36 : decode jdk_65_method_131_code 36 = .ok (.athrow, 1) := by decide +kernel
theorem d_chk_37 : decode jdk_65_method_131_code 37 = .ok (.return_, 1) := by decide +kernel
theorem pd_chk : parseMethodDescriptor "(II)V" = some ⟨[.int, .int], none⟩ := by decide +kernel
theorem pf_chk : plainFor (⟨"java/util/Arrays", "checkLength", "(II)V"⟩ : MethodName) = true := by first | exact plainFor_of_name (by first | (simp [plainName, overriddenIn]; done) | decide +kernel) | decide +kernel
set_option maxRecDepth 65536 in
set_option maxHeartbeats 40000000 in
theorem kw_chk (l : Launch) (Z : State) (a0 : Array Value) (hw : ∀ d ∈ tables_1, d.before a0 Z = true) (cs : Int32) (hcs : ¬ cs = 0) (SC : Sta Z Z.heap "java/lang/String" "COMPACT_STRINGS" "Z" (.int cs)) (hEW : EW Z a0 EL) (n : Nat) (hn : n < 2147483648) (h0 : Heap) (n0 : Nat) : KW false l Z M_chk n0 (fun v h => v = none ∧ h0 = h) ([], fun _ => False) h0 0 0 0 #[.val (.int (0 : Int32)), .val (.int (Int32.ofNat n))] [] := by
  refine k_iloadN d_chk_0 rfl rfl ?_
  refine k_iloadN d_chk_1 rfl rfl ?_
  refine k_icmp (pc1 := 37) (pc' := 5) d_chk_2 (by decide) (by decide) rfl (fun (cd1 : ¬ (Int32.ofNat n) < (0 : Int32)) => ?_) (fun (cd1 : (Int32.ofNat n) < (0 : Int32)) => False.elim (by exact ix_nn hn cd1))
  exact k_retVoid d_chk_37 rfl (by decide) (by decide) ⟨rfl, rfl⟩
theorem mt_chk (l : Launch) (Z : State) (a0 : Array Value) (hw : ∀ d ∈ tables_1, d.before a0 Z = true) (cs : Int32) (hcs : ¬ cs = 0) (SC : Sta Z Z.heap "java/lang/String" "COMPACT_STRINGS" "Z" (.int cs)) (hEW : EW Z a0 EL) (n : Nat) (hn : n < 2147483648) (h0 : Heap) (n0 : Nat) : Mt l Z M_chk [] n0 #[(.int (0 : Int32)), (.int (Int32.ofNat n))] h0 (fun v h => v = none ∧ h0 = h) :=
  mt_of_kw (P := ([], fun _ => False)) pf_chk (fun m => by first | (simp [entryFrame, mkF, argsToLocals, Value.category]; done) | rfl) (kw_chk l Z a0 hw cs hcs SC hEW n hn h0 n0)
abbrev M_cob : MD := ((⟨"java/util/Arrays", "copyOfRangeByte", "([BII)[B"⟩ : MethodName), jdk_65_method_133_code, 5, (some (.array .byte)), { frames := 1, cells := 1, slots := 142, locals := 48 })
theorem d_cob_0 : decode jdk_65_method_133_code 0 = .ok (.iload_n 1, 1) := by decide +kernel
theorem d_cob_1 : decode jdk_65_method_133_code 1 = .ok (.iload_n 2, 1) := by decide +kernel
theorem d_cob_2 : decode jdk_65_method_133_code 2 = .ok (.invokestatic 343, 3) := by decide +kernel
theorem d_cob_5 : decode jdk_65_method_133_code 5 = .ok (.iload_n 2, 1) := by decide +kernel
theorem d_cob_6 : decode jdk_65_method_133_code 6 = .ok (.iload_n 1, 1) := by decide +kernel
theorem d_cob_7 : decode jdk_65_method_133_code 7 = .ok (.isub, 1) := by decide +kernel
theorem d_cob_8 : decode jdk_65_method_133_code 8 = .ok (.istore_n 3, 1) := by decide +kernel
theorem d_cob_9 : decode jdk_65_method_133_code 9 = .ok (.iload_n 3, 1) := by decide +kernel
theorem d_cob_10 : decode jdk_65_method_133_code 10 = .ok (.newarray .byte, 2) := by decide +kernel
theorem d_cob_12 : decode jdk_65_method_133_code 12 = .ok (.astore 4, 2) := by decide +kernel
theorem d_cob_14 : decode jdk_65_method_133_code 14 = .ok (.aload_n 0, 1) := by decide +kernel
theorem d_cob_15 : decode jdk_65_method_133_code 15 = .ok (.iload_n 1, 1) := by decide +kernel
theorem d_cob_16 : decode jdk_65_method_133_code 16 = .ok (.aload 4, 2) := by decide +kernel
theorem d_cob_18 : decode jdk_65_method_133_code 18 = .ok (.iconst 0, 1) := by decide +kernel
theorem d_cob_19 : decode jdk_65_method_133_code 19 = .ok (.aload_n 0, 1) := by decide +kernel
theorem d_cob_20 : decode jdk_65_method_133_code 20 = .ok (.arraylength, 1) := by decide +kernel
theorem d_cob_21 : decode jdk_65_method_133_code 21 = .ok (.iload_n 1, 1) := by decide +kernel
theorem d_cob_22 : decode jdk_65_method_133_code 22 = .ok (.isub, 1) := by decide +kernel
theorem d_cob_23 : decode jdk_65_method_133_code 23 = .ok (.iload_n 3, 1) := by decide +kernel
theorem d_cob_24 : decode jdk_65_method_133_code 24 = .ok (.invokestatic 304, 3) := by decide +kernel
theorem d_cob_27 : decode jdk_65_method_133_code 27 = .ok (.invokestatic 150, 3) := by decide +kernel
theorem d_cob_30 : decode jdk_65_method_133_code 30 = .ok (.aload 4, 2) := by decide +kernel
theorem d_cob_32 : decode jdk_65_method_133_code 32 = .ok (.areturn, 1) := by decide +kernel
theorem pd_cob : parseMethodDescriptor "([BII)[B" = some ⟨[(.array .byte), .int, .int], (some (.array .byte))⟩ := by decide +kernel
theorem pf_cob : plainFor (⟨"java/util/Arrays", "copyOfRangeByte", "([BII)[B"⟩ : MethodName) = true := by first | exact plainFor_of_name (by first | (simp [plainName, overriddenIn]; done) | decide +kernel) | decide +kernel
set_option maxRecDepth 65536 in
set_option maxHeartbeats 40000000 in
theorem kw_cob (l : Launch) (Z : State) (a0 : Array Value) (hw : ∀ d ∈ tables_1, d.before a0 Z = true) (cs : Int32) (hcs : ¬ cs = 0) (SC : Sta Z Z.heap "java/lang/String" "COMPACT_STRINGS" "Z" (.int cs)) (hEW : EW Z a0 EL) (d : Addr) (ck : ClassId) (L : List Int32) (n : Nat) (h0 : Heap) (n0 : Nat) (OD : Old Z n0 h0) (D : Arv Z h0 d ck .byte (Int32.ofNat L.length) (L.map Value.int) (.int 0)) (hL : L.length < 2147483648) (hn : n < L.length) (hn2 : n ≤ 142) : KW false l Z M_cob n0 (fun v h => ∃ e ck', v = some (.ref e) ∧ h0.size ≤ e ∧ n0 ≤ e ∧ Keep h0 h [] ∧ Arv Z h e ck' .byte (Int32.ofNat n) ((L.take n).map Value.int) (.int 0)) ([], fun _ => False) h0 0 0 0 #[.val (.ref d), .val (.int (0 : Int32)), .val (.int (Int32.ofNat n)), .unset, .unset] [] := by
  have Z0 := OD.1 ▸ OD.2.1
  have K0 : Keep h0 h0 [] := Keep.refl _ _
  refine k_iloadN d_cob_0 rfl rfl ?_
  refine k_iloadN d_cob_1 rfl rfl ?_
  refine k_callStatic (argsL := [(.int (0 : Int32)), (.int (Int32.ofNat n))]) (rest := []) (W0 := 0) d_cob_2 rfl (mt_chk l Z a0 hw cs hcs SC hEW n (by omega) h0 n0) Kp.strict (hw _ (List.mem_of_getElem? (i := 231) rfl)) (hw _ (List.mem_of_getElem? (i := 232) rfl)) (hw _ (List.mem_of_getElem? (i := 162) rfl)) (hw _ (List.mem_of_getElem? (i := 233) rfl)) (by decide) pd_chk rfl rfl rfl rfl (by decide) (by decide) (by decide) (by decide) ?_
  rintro _ _ - ⟨rfl, rfl⟩
  refine KW.any (P' := ([], fun _ => False)) ?_
  show KW false l Z M_cob n0 (fun v h => ∃ e ck', v = some (.ref e) ∧ h0.size ≤ e ∧ n0 ≤ e ∧ Keep h0 h [] ∧ Arv Z h e ck' .byte (Int32.ofNat n) ((L.take n).map Value.int) (.int 0)) ([], fun _ => False) h0 0 0 5 #[.val (.ref d), .val (.int (0 : Int32)), .val (.int (Int32.ofNat n)), .unset, .unset] []
  refine k_iloadN d_cob_5 rfl rfl ?_
  refine k_iloadN d_cob_6 rfl rfl ?_
  refine k_isub d_cob_7 rfl ?_
  refine KW.top (congrArg Value.int (sub0 _)) ?_
  show KW false l Z M_cob n0 (fun v h => ∃ e ck', v = some (.ref e) ∧ h0.size ≤ e ∧ n0 ≤ e ∧ Keep h0 h [] ∧ Arv Z h e ck' .byte (Int32.ofNat n) ((L.take n).map Value.int) (.int 0)) ([], fun _ => False) h0 0 0 8 #[.val (.ref d), .val (.int (0 : Int32)), .val (.int (Int32.ofNat n)), .unset, .unset] [(.int (Int32.ofNat n))]
  refine k_istoreN (Ls' := #[.val (.ref d), .val (.int (0 : Int32)), .val (.int (Int32.ofNat n)), .val (.int (Int32.ofNat n)), .unset]) d_cob_8 rfl rfl ?_
  refine k_iloadN d_cob_9 rfl rfl ?_
  refine k_newarr (cap := 142) d_cob_10 rfl (hw _ (List.mem_of_getElem? (i := 0) rfl)) (ix_nn (by omega)) (by rw [ix_nat (by omega)]; exact hn2) (by decide) (by decide) (by decide) ?_
  intro h2 a1 ck6 g5 E3 V4
  have ne7 : d ≠ a1 := Nat.ne_of_lt (Nat.lt_of_lt_of_eq D.lt g5.symm)
  have z9 : n0 ≤ h0.size := Z0
  have ge8 : n0 ≤ a1 := Nat.le_trans z9 (Nat.le_of_eq g5.symm)
  have gl10 : h0.size ≤ a1 := Nat.le_of_eq g5.symm
  have gh11 := Nat.le_trans K0.1 gl10
  refine KW.any (P' := ([], fun _ => False)) ?_
  show KW false l Z M_cob n0 (fun v h => ∃ e ck', v = some (.ref e) ∧ h0.size ≤ e ∧ n0 ≤ e ∧ Keep h0 h [] ∧ Arv Z h e ck' .byte (Int32.ofNat n) ((L.take n).map Value.int) (.int 0)) ([], fun _ => False) h2 1 142 12 #[.val (.ref d), .val (.int (0 : Int32)), .val (.int (Int32.ofNat n)), .val (.int (Int32.ofNat n)), .unset] [(.ref a1)]
  refine k_astore (Ls' := #[.val (.ref d), .val (.int (0 : Int32)), .val (.int (Int32.ofNat n)), .val (.int (Int32.ofNat n)), .val (.ref a1)]) d_cob_12 rfl rfl rfl ?_
  refine k_aloadN d_cob_14 rfl rfl rfl ?_
  refine k_iloadN d_cob_15 rfl rfl ?_
  refine k_aload d_cob_16 rfl rfl rfl ?_
  refine k_iconst (z := (0 : Int32)) d_cob_18 rfl (by decide) ?_
  refine k_aloadN d_cob_19 rfl rfl rfl ?_
  have f12 := (D.ext E3)
  refine k_arrlen d_cob_20 rfl f12 ?_
  refine k_iloadN d_cob_21 rfl rfl ?_
  refine k_isub d_cob_22 rfl ?_
  refine KW.top (congrArg Value.int (sub0 _)) ?_
  show KW false l Z M_cob n0 (fun v h => ∃ e ck', v = some (.ref e) ∧ h0.size ≤ e ∧ n0 ≤ e ∧ Keep h0 h [] ∧ Arv Z h e ck' .byte (Int32.ofNat n) ((L.take n).map Value.int) (.int 0)) ([], fun _ => False) h2 1 142 23 #[.val (.ref d), .val (.int (0 : Int32)), .val (.int (Int32.ofNat n)), .val (.int (Int32.ofNat n)), .val (.ref a1)] [(.int (Int32.ofNat L.length)), (.int (0 : Int32)), (.ref a1), (.int (0 : Int32)), (.ref d)]
  refine k_iloadN d_cob_23 rfl rfl ?_
  refine k_callStatic (argsL := [(.int (Int32.ofNat L.length)), (.int (Int32.ofNat n))]) (rest := [(.int (0 : Int32)), (.ref a1), (.int (0 : Int32)), (.ref d)]) (W0 := 4) d_cob_24 rfl (mt_mnm l Z a0 hw cs hcs SC hEW _ _ h2 n0) Kp.strict (hw _ (List.mem_of_getElem? (i := 191) rfl)) (hw _ (List.mem_of_getElem? (i := 139) rfl)) (hw _ (List.mem_of_getElem? (i := 123) rfl)) (hw _ (List.mem_of_getElem? (i := 140) rfl)) (by decide) pd_mnm rfl rfl rfl rfl (by decide) (by decide) (by decide) (by decide) ?_
  rintro _ _ - ⟨rfl, rfl⟩
  rw [minI_n hL (by omega)]
  refine KW.any (P' := ([], fun _ => False)) ?_
  show KW false l Z M_cob n0 (fun v h => ∃ e ck', v = some (.ref e) ∧ h0.size ≤ e ∧ n0 ≤ e ∧ Keep h0 h [] ∧ Arv Z h e ck' .byte (Int32.ofNat n) ((L.take n).map Value.int) (.int 0)) ([], fun _ => False) h2 1 142 27 #[.val (.ref d), .val (.int (0 : Int32)), .val (.int (Int32.ofNat n)), .val (.int (Int32.ofNat n)), .val (.ref a1)] [(.int (Int32.ofNat n)), (.int (0 : Int32)), (.ref a1), (.int (0 : Int32)), (.ref d)]
  have f13 := (K0.ext E3)
  have B2 : Arv Z h2 a1 ck6 .byte (Int32.ofNat (List.replicate n (0 : Int32)).length) ((List.replicate n (0 : Int32)).map Value.int) (.int 0) := by rw [List.length_replicate, List.map_replicate]; exact Arv.pad V4 (pad_rep [] _ n)
  refine k_acopy (o := 0) (q := 0) (m' := n) (W0 := 0) d_cob_27 rfl (hw _ (List.mem_of_getElem? (i := 192) rfl)) (hw _ (List.mem_of_getElem? (i := 103) rfl)) (hw _ (List.mem_of_getElem? (i := 101) rfl)) (hw _ (List.mem_of_getElem? (i := 102) rfl)) hL (by rw [List.length_replicate]; omega) f12 B2 (by omega) (by rw [List.length_replicate]; omega) ge8 (fun q => by cases q) rfl rfl (by decide) (by decide) ?_
  intro hM KM VM
  rw [List.length_replicate, laid_take L n (by omega)] at VM
  refine KW.any (P' := ([], fun _ => False)) ?_
  show KW false l Z M_cob n0 (fun v h => ∃ e ck', v = some (.ref e) ∧ h0.size ≤ e ∧ n0 ≤ e ∧ Keep h0 h [] ∧ Arv Z h e ck' .byte (Int32.ofNat n) ((L.take n).map Value.int) (.int 0)) ([], fun _ => False) hM 1 142 30 #[.val (.ref d), .val (.int (0 : Int32)), .val (.int (Int32.ofNat n)), .val (.int (Int32.ofNat n)), .val (.ref a1)] []
  refine k_aload d_cob_30 rfl rfl rfl ?_
  have f14 := (f13.trans KM (allS (Or.inr gh11) all0))
  exact k_retRef d_cob_32 rfl rfl rfl (by decide) (by decide) ⟨a1, ck6, rfl, gl10, ge8, f14, VM⟩
theorem mt_cob (l : Launch) (Z : State) (a0 : Array Value) (hw : ∀ d ∈ tables_1, d.before a0 Z = true) (cs : Int32) (hcs : ¬ cs = 0) (SC : Sta Z Z.heap "java/lang/String" "COMPACT_STRINGS" "Z" (.int cs)) (hEW : EW Z a0 EL) (d : Addr) (ck : ClassId) (L : List Int32) (n : Nat) (h0 : Heap) (n0 : Nat) (OD : Old Z n0 h0) (D : Arv Z h0 d ck .byte (Int32.ofNat L.length) (L.map Value.int) (.int 0)) (hL : L.length < 2147483648) (hn : n < L.length) (hn2 : n ≤ 142) : Mt l Z M_cob [] n0 #[(.ref d), (.int (0 : Int32)), (.int (Int32.ofNat n))] h0 (fun v h => ∃ e ck', v = some (.ref e) ∧ h0.size ≤ e ∧ n0 ≤ e ∧ Keep h0 h [] ∧ Arv Z h e ck' .byte (Int32.ofNat n) ((L.take n).map Value.int) (.int 0)) :=
  mt_of_kw (P := ([], fun _ => False)) pf_cob (fun m => by first | (simp [entryFrame, mkF, argsToLocals, Value.category]; done) | rfl) (kw_cob l Z a0 hw cs hcs SC hEW d ck L n h0 n0 OD D hL hn hn2)
abbrev M_cor : MD := ((⟨"java/util/Arrays", "copyOfRange", "([BII)[B"⟩ : MethodName), jdk_65_method_132_code, 3, (some (.array .byte)), { frames := 2, cells := 1, slots := 142, locals := 64 })
theorem d_cor_0 : decode jdk_65_method_132_code 0 = .ok (.iload_n 1, 1) := by decide +kernel
theorem d_cor_1 : decode jdk_65_method_132_code 1 = .ok (.ifCond .ne 9, 3) := by decide +kernel
theorem d_cor_4 : decode jdk_65_method_132_code 4 = .ok (.iload_n 2, 1) := by decide +kernel
theorem d_cor_5 : decode jdk_65_method_132_code 5 = .ok (.aload_n 0, 1) := by decide +kernel
theorem d_cor_6 : decode jdk_65_method_132_code 6 = .ok (.arraylength, 1) := by decide +kernel
theorem d_cor_7 : decode jdk_65_method_132_code 7 = .ok (.if_icmp .eq 10, 3) := by decide +kernel
theorem d_cor_10 : decode jdk_65_method_132_code 10 = .ok (.aload_n 0, 1) := by decide +kernel
theorem d_cor_11 : decode jdk_65_method_132_code 11 = .ok (.iload_n 1, 1) := by decide +kernel
theorem d_cor_12 : decode jdk_65_method_132_code 12 = .ok (.iload_n 2, 1) := by decide +kernel
theorem d_cor_13 : decode jdk_65_method_132_code 13 = .ok (.invokestatic 339, 3) := by decide +kernel
theorem d_cor_16 : decode jdk_65_method_132_code 16 = .ok (.areturn, 1) := by decide +kernel
theorem d_cor_17 : decode jdk_65_method_132_code 17 = .ok (.aload_n 0, 1) := by decide +kernel
theorem d_cor_18 : decode jdk_65_method_132_code 18 = .ok (.invokevirtual 310, 3) := by decide +kernel
theorem d_cor_21 : decode jdk_65_method_132_code 21 = .ok (.checkcast 311, 3) := by decide +kernel
theorem d_cor_24 : decode jdk_65_method_132_code 24 = .ok (.areturn, 1) := by decide +kernel
theorem pd_cor : parseMethodDescriptor "([BII)[B" = some ⟨[(.array .byte), .int, .int], (some (.array .byte))⟩ := by decide +kernel
theorem pf_cor : plainFor (⟨"java/util/Arrays", "copyOfRange", "([BII)[B"⟩ : MethodName) = true := by first | exact plainFor_of_name (by first | (simp [plainName, overriddenIn]; done) | decide +kernel) | decide +kernel
set_option maxRecDepth 65536 in
set_option maxHeartbeats 40000000 in
theorem kw_cor (l : Launch) (Z : State) (a0 : Array Value) (hw : ∀ d ∈ tables_1, d.before a0 Z = true) (cs : Int32) (hcs : ¬ cs = 0) (SC : Sta Z Z.heap "java/lang/String" "COMPACT_STRINGS" "Z" (.int cs)) (hEW : EW Z a0 EL) (d : Addr) (ck : ClassId) (L : List Int32) (n : Nat) (h0 : Heap) (n0 : Nat) (OD : Old Z n0 h0) (D : Arv Z h0 d ck .byte (Int32.ofNat L.length) (L.map Value.int) (.int 0)) (hL : L.length < 2147483648) (hn : n < L.length) (hn2 : n ≤ 142) : KW false l Z M_cor n0 (fun v h => ∃ e ck', v = some (.ref e) ∧ h0.size ≤ e ∧ n0 ≤ e ∧ Keep h0 h [] ∧ Arv Z h e ck' .byte (Int32.ofNat n) ((L.take n).map Value.int) (.int 0)) ([], fun _ => False) h0 0 0 0 #[.val (.ref d), .val (.int (0 : Int32)), .val (.int (Int32.ofNat n))] [] := by
  refine k_iloadN d_cor_0 rfl rfl ?_
  refine k_ifc (pc1 := 10) (pc' := 4) d_cor_1 (by decide) (by decide) rfl (fun (cd1 : ¬ (0 : Int32) = (0 : Int32)) => False.elim (by exact absurd cd1 (by decide))) (fun (cd1 : (0 : Int32) = (0 : Int32)) => ?_)
  refine k_iloadN d_cor_4 rfl rfl ?_
  refine k_aloadN d_cor_5 rfl rfl rfl ?_
  refine k_arrlen d_cor_6 rfl D ?_
  refine k_icmp (pc1 := 17) (pc' := 10) d_cor_7 (by decide) (by decide) rfl (fun (cd2 : (Int32.ofNat n) = (Int32.ofNat L.length)) => False.elim (by exact ix_ne (by omega) hL (Nat.ne_of_lt hn) cd2)) (fun (cd2 : ¬ (Int32.ofNat n) = (Int32.ofNat L.length)) => ?_)
  refine k_aloadN d_cor_10 rfl rfl rfl ?_
  refine k_iloadN d_cor_11 rfl rfl ?_
  refine k_iloadN d_cor_12 rfl rfl ?_
  refine k_callStatic (argsL := [(.ref d), (.int (0 : Int32)), (.int (Int32.ofNat n))]) (rest := []) (W0 := 0) d_cor_13 rfl (mt_cob l Z a0 hw cs hcs SC hEW d ck L n h0 n0 OD D hL hn hn2) Kp.strict (hw _ (List.mem_of_getElem? (i := 228) rfl)) (hw _ (List.mem_of_getElem? (i := 229) rfl)) (hw _ (List.mem_of_getElem? (i := 162) rfl)) (hw _ (List.mem_of_getElem? (i := 230) rfl)) (by decide) pd_cob rfl rfl rfl rfl (by decide) (by decide) (by decide) (by decide) ?_
  rintro _ hM - ⟨e, ck', rfl, R1⟩
  refine KW.any (P' := ([], fun _ => False)) ?_
  show KW false l Z M_cor n0 (fun v h => ∃ e ck', v = some (.ref e) ∧ h0.size ≤ e ∧ n0 ≤ e ∧ Keep h0 h [] ∧ Arv Z h e ck' .byte (Int32.ofNat n) ((L.take n).map Value.int) (.int 0)) ([], fun _ => False) hM 1 142 16 #[.val (.ref d), .val (.int (0 : Int32)), .val (.int (Int32.ofNat n))] [(.ref e)]
  exact k_retRef d_cor_16 rfl rfl rfl (by decide) (by decide) ⟨e, ck', rfl, R1⟩
theorem mt_cor (l : Launch) (Z : State) (a0 : Array Value) (hw : ∀ d ∈ tables_1, d.before a0 Z = true) (cs : Int32) (hcs : ¬ cs = 0) (SC : Sta Z Z.heap "java/lang/String" "COMPACT_STRINGS" "Z" (.int cs)) (hEW : EW Z a0 EL) (d : Addr) (ck : ClassId) (L : List Int32) (n : Nat) (h0 : Heap) (n0 : Nat) (OD : Old Z n0 h0) (D : Arv Z h0 d ck .byte (Int32.ofNat L.length) (L.map Value.int) (.int 0)) (hL : L.length < 2147483648) (hn : n < L.length) (hn2 : n ≤ 142) : Mt l Z M_cor [] n0 #[(.ref d), (.int (0 : Int32)), (.int (Int32.ofNat n))] h0 (fun v h => ∃ e ck', v = some (.ref e) ∧ h0.size ≤ e ∧ n0 ≤ e ∧ Keep h0 h [] ∧ Arv Z h e ck' .byte (Int32.ofNat n) ((L.take n).map Value.int) (.int 0)) :=
  mt_of_kw (P := ([], fun _ => False)) pf_cor (fun m => by first | (simp [entryFrame, mkF, argsToLocals, Value.category]; done) | rfl) (kw_cor l Z a0 hw cs hcs SC hEW d ck L n h0 n0 OD D hL hn hn2)
abbrev M_sia : MD := ((⟨"java/lang/String", "<init>", "(Ljava/lang/AbstractStringBuilder;Ljava/lang/Void;)V"⟩ : MethodName), jdk_42_method_150_code, 5, none, { frames := 3, cells := 1, slots := 142, locals := 88 })
theorem d_sia_0 : decode jdk_42_method_150_code 0 = .ok (.aload_n 0, 1) := by decide +kernel
theorem d_sia_1 : decode jdk_42_method_150_code 1 = .ok (.invokespecial 1, 3) := by decide +kernel
theorem d_sia_4 : decode jdk_42_method_150_code 4 = .ok (.aload_n 1, 1) := by decide +kernel
theorem d_sia_5 : decode jdk_42_method_150_code 5 = .ok (.invokevirtual 552, 3) := by decide +kernel
theorem d_sia_8 : decode jdk_42_method_150_code 8 = .ok (.astore_n 3, 1) := by decide +kernel
theorem d_sia_9 : decode jdk_42_method_150_code 9 = .ok (.aload_n 1, 1) := by decide +kernel
theorem d_sia_10 : decode jdk_42_method_150_code 10 = .ok (.invokevirtual 549, 3) := by decide +kernel
theorem d_sia_13 : decode jdk_42_method_150_code 13 = .ok (.istore 4, 2) := by decide +kernel
theorem d_sia_15 : decode jdk_42_method_150_code 15 = .ok (.aload_n 1, 1) := by decide +kernel
theorem d_sia_16 : decode jdk_42_method_150_code 16 = .ok (.invokevirtual 1047, 3) := by decide +kernel
theorem d_sia_19 : decode jdk_42_method_150_code 19 = .ok (.ifCond .eq 22, 3) := by decide +kernel
theorem d_sia_22 : decode jdk_42_method_150_code 22 = .ok (.aload_n 0, 1) := by decide +kernel
theorem d_sia_23 : decode jdk_42_method_150_code 23 = .ok (.iconst 0, 1) := by decide +kernel
theorem d_sia_24 : decode jdk_42_method_150_code 24 = .ok (.putfield 15, 3) := by decide +kernel
theorem d_sia_27 : decode jdk_42_method_150_code 27 = .ok (.aload_n 0, 1) := by decide +kernel
theorem d_sia_28 : decode jdk_42_method_150_code 28 = .ok (.aload_n 3, 1) := by decide +kernel
theorem d_sia_29 : decode jdk_42_method_150_code 29 = .ok (.iconst 0, 1) := by decide +kernel
theorem d_sia_30 : decode jdk_42_method_150_code 30 = .ok (.iload 4, 2) := by decide +kernel
theorem d_sia_32 : decode jdk_42_method_150_code 32 = .ok (.invokestatic 54, 3) := by decide +kernel
theorem d_sia_35 : decode jdk_42_method_150_code 35 = .ok (.putfield 9, 3) := by decide +kernel
theorem d_sia_38 : decode jdk_42_method_150_code 38 = .ok (.goto 59, 3) := by decide +kernel
theorem d_sia_41 : decode jdk_42_method_150_code 41 = .ok (.getstatic 38, 3) := by decide +kernel
theorem d_sia_44 : decode jdk_42_method_150_code 44 = .ok (.ifCond .eq 35, 3) := by decide +kernel
theorem d_sia_47 : decode jdk_42_method_150_code 47 = .ok (.aload_n 1, 1) := by decide +kernel
theorem d_sia_48 : decode jdk_42_method_150_code 48 = .ok (.getfield 1048, 3) := by decide +kernel
theorem d_sia_51 : decode jdk_42_method_150_code 51 = .ok (.ifCond .eq 28, 3) := by decide +kernel
theorem d_sia_54 : decode jdk_42_method_150_code 54 = .ok (.aload_n 0, 1) := by decide +kernel
theorem d_sia_55 : decode jdk_42_method_150_code 55 = .ok (.aload_n 3, 1) := by decide +kernel
theorem d_sia_56 : decode jdk_42_method_150_code 56 = .ok (.iconst 0, 1) := by decide +kernel
theorem d_sia_57 : decode jdk_42_method_150_code 57 = .ok (.iload 4, 2) := by decide +kernel
theorem d_sia_59 : decode jdk_42_method_150_code 59 = .ok (.invokestatic 1051, 3) := by decide +kernel
theorem d_sia_62 : decode jdk_42_method_150_code 62 = .ok (.putfield 9, 3) := by decide +kernel
theorem d_sia_65 : decode jdk_42_method_150_code 65 = .ok (.aload_n 0, 1) := by decide +kernel
theorem d_sia_66 : decode jdk_42_method_150_code 66 = .ok (.aload_n 0, 1) := by decide +kernel
theorem d_sia_67 : decode jdk_42_method_150_code 67 = .ok (.getfield 9, 3) := by decide +kernel
theorem d_sia_70 : decode jdk_42_method_150_code 70 = .ok (.iload 4, 2) := by decide +kernel
theorem d_sia_72 : decode jdk_42_method_150_code 72 = .ok (.invokestatic 47, 3) := by decide +kernel
theorem d_sia_75 : decode jdk_42_method_150_code 75 = .ok (.putfield 15, 3) := by decide +kernel
theorem d_sia_78 : decode jdk_42_method_150_code 78 = .ok (.return_, 1) := by decide +kernel
theorem d_sia_79 : decode jdk_42_method_150_code 79 = .ok (.aload_n 0, 1) := by decide +kernel
theorem d_sia_80 : decode jdk_42_method_150_code 80 = .ok (.iconst 1, 1) := by decide +kernel
theorem d_sia_81 : decode jdk_42_method_150_code 81 = .ok (.putfield 15, 3) := by decide +kernel
theorem d_sia_84 : decode jdk_42_method_150_code 84 = .ok (.aload_n 0, 1) := by decide +kernel
theorem d_sia_85 : decode jdk_42_method_150_code 85 = .ok (.aload_n 3, 1) := by decide +kernel
theorem d_sia_86 : decode jdk_42_method_150_code 86 = .ok (.iconst 0, 1) := by decide +kernel
theorem d_sia_87 : decode jdk_42_method_150_code 87 = .ok (.iload 4, 2) := by decide +kernel
theorem d_sia_89 : decode jdk_42_method_150_code 89 = .ok (.iconst 1, 1) := by decide +kernel
theorem d_sia_90 : decode jdk_42_method_150_code 90 = .ok (.ishl, 1) := by decide +kernel
theorem d_sia_91 : decode jdk_42_method_150_code 91 = .ok (.invokestatic 54, 3) := by decide +kernel
theorem d_sia_94 : decode jdk_42_method_150_code 94 = .ok (.putfield 9, 3) := by decide +kernel
theorem d_sia_97 : decode jdk_42_method_150_code 97 = .ok (.return_, 1) := by decide +kernel
theorem pd_sia : parseMethodDescriptor "(Ljava/lang/AbstractStringBuilder;Ljava/lang/Void;)V" = some ⟨[(.object "java/lang/AbstractStringBuilder"), (.object "java/lang/Void")], none⟩ := by decide +kernel
theorem pf_sia : plainFor (⟨"java/lang/String", "<init>", "(Ljava/lang/AbstractStringBuilder;Ljava/lang/Void;)V"⟩ : MethodName) = true := by first | exact plainFor_of_name (by first | (simp [plainName, overriddenIn]; done) | decide +kernel) | decide +kernel
set_option maxRecDepth 65536 in
set_option maxHeartbeats 40000000 in
theorem kw_sia (l : Launch) (Z : State) (a0 : Array Value) (hw : ∀ d ∈ tables_1, d.before a0 Z = true) (cs : Int32) (hcs : ¬ cs = 0) (SC : Sta Z Z.heap "java/lang/String" "COMPACT_STRINGS" "Z" (.int cs)) (hEW : EW Z a0 EL) (a b d : Addr) (N : Nat) (bs : List Int32) (h0 : Heap) (n0 : Nat) (OD : Old Z n0 h0) (SB : Sb Z h0 b d N bs) (ga : n0 ≤ a) (EA : Exa Z h0 a "java/lang/String") (FC : Fld Z h0 a "java/lang/String" "coder" "B" (.int 0)) (FV : Fld Z h0 a "java/lang/String" "value" "[B" .null) (hn : bs.length < N) (hn2 : bs.length ≤ 142) : KW false l Z M_sia n0 (fun v h => v = none ∧ Keep h0 h [a] ∧ ∃ e, Sg Z h a e bs) ([], fun _ => False) h0 0 0 0 #[.val (.ref a), .val (.ref b), .val .null, .unset, .unset] [] := by
  obtain ⟨ckB, zs, EB, VB, CB, NB, AB, hN, hN2⟩ := id SB
  have K0 : Keep h0 h0 [a] := Keep.refl _ _
  have had : a ≠ d := Exa.neArv EA AB (hw _ (List.mem_of_getElem? (i := 49) rfl))
  have hab : a ≠ b := Exa.ne EA EB (by decide)
  refine k_aloadN d_sia_0 rfl rfl rfl ?_
  refine k_initObj (W0 := 0) d_sia_1 rfl (hw _ (List.mem_of_getElem? (i := 151) rfl)) (hw _ (List.mem_of_getElem? (i := 8) rfl)) (hw _ (List.mem_of_getElem? (i := 9) rfl)) rfl rfl (by decide) (by decide) ?_
  refine k_aloadN d_sia_4 rfl rfl rfl ?_
  refine k_callVirtual (argsL := []) (rest := []) (W0 := 0) d_sia_5 rfl (mt_gvl l Z a0 hw cs hcs SC hEW b d N bs h0 n0 OD SB) Kp.strict EB (hw _ (List.mem_of_getElem? (i := 210) rfl)) (hw _ (List.mem_of_getElem? (i := 211) rfl)) (hw _ (List.mem_of_getElem? (i := 213) rfl)) (hw _ (List.mem_of_getElem? (i := 82) rfl)) rfl (hw _ (List.mem_of_getElem? (i := 212) rfl)) (hw _ (List.mem_of_getElem? (i := 214) rfl)) (hw _ (List.mem_of_getElem? (i := 39) rfl)) (by decide) pd_gvl rfl rfl rfl rfl (by decide) (by decide) (by decide) (by decide) ?_
  rintro _ _ - ⟨rfl, rfl⟩
  refine KW.any (P' := ([], fun _ => False)) ?_
  show KW false l Z M_sia n0 (fun v h => v = none ∧ Keep h0 h [a] ∧ ∃ e, Sg Z h a e bs) ([], fun _ => False) h0 0 0 8 #[.val (.ref a), .val (.ref b), .val .null, .unset, .unset] [(.ref d)]
  refine k_astoreN (Ls' := #[.val (.ref a), .val (.ref b), .val .null, .val (.ref d), .unset]) d_sia_8 rfl rfl rfl ?_
  refine k_aloadN d_sia_9 rfl rfl rfl ?_
  refine k_callVirtual (argsL := []) (rest := []) (W0 := 0) d_sia_10 rfl (mt_sln l Z a0 hw cs hcs SC hEW b d N bs h0 n0 OD SB) Kp.strict EB (hw _ (List.mem_of_getElem? (i := 215) rfl)) (hw _ (List.mem_of_getElem? (i := 216) rfl)) (hw _ (List.mem_of_getElem? (i := 218) rfl)) (hw _ (List.mem_of_getElem? (i := 82) rfl)) rfl (hw _ (List.mem_of_getElem? (i := 219) rfl)) (hw _ (List.mem_of_getElem? (i := 220) rfl)) (hw _ (List.mem_of_getElem? (i := 31) rfl)) (by decide) pd_sln rfl rfl rfl rfl (by decide) (by decide) (by decide) (by decide) ?_
  rintro _ _ - ⟨rfl, rfl⟩
  refine KW.any (P' := ([], fun _ => False)) ?_
  show KW false l Z M_sia n0 (fun v h => v = none ∧ Keep h0 h [a] ∧ ∃ e, Sg Z h a e bs) ([], fun _ => False) h0 0 0 13 #[.val (.ref a), .val (.ref b), .val .null, .val (.ref d), .unset] [(.int (Int32.ofNat bs.length))]
  refine k_istore (Ls' := #[.val (.ref a), .val (.ref b), .val .null, .val (.ref d), .val (.int (Int32.ofNat bs.length))]) d_sia_13 rfl rfl ?_
  refine k_aloadN d_sia_15 rfl rfl rfl ?_
  refine k_callVirtual (argsL := []) (rest := []) (W0 := 0) d_sia_16 rfl (mt_ail l Z a0 hw cs hcs SC hEW b d N bs h0 n0 OD SB) Kp.strict EB (hw _ (List.mem_of_getElem? (i := 223) rfl)) (hw _ (List.mem_of_getElem? (i := 224) rfl)) (hw _ (List.mem_of_getElem? (i := 226) rfl)) (hw _ (List.mem_of_getElem? (i := 82) rfl)) rfl (hw _ (List.mem_of_getElem? (i := 225) rfl)) (hw _ (List.mem_of_getElem? (i := 227) rfl)) (hw _ (List.mem_of_getElem? (i := 39) rfl)) (by decide) pd_ail rfl rfl rfl rfl (by decide) (by decide) (by decide) (by decide) ?_
  rintro _ _ - ⟨rfl, rfl⟩
  refine KW.any (P' := ([], fun _ => False)) ?_
  show KW false l Z M_sia n0 (fun v h => v = none ∧ Keep h0 h [a] ∧ ∃ e, Sg Z h a e bs) ([], fun _ => False) h0 0 0 19 #[.val (.ref a), .val (.ref b), .val .null, .val (.ref d), .val (.int (Int32.ofNat bs.length))] [(.int (1 : Int32))]
  refine k_ifc (pc1 := 41) (pc' := 22) d_sia_19 (by decide) (by decide) rfl (fun (cd1 : (1 : Int32) = (0 : Int32)) => False.elim (by exact absurd cd1 (by decide))) (fun (cd1 : ¬ (1 : Int32) = (0 : Int32)) => ?_)
  refine k_aloadN d_sia_22 rfl rfl rfl ?_
  refine k_iconst (z := (0 : Int32)) d_sia_23 rfl (by decide) ?_
  refine k_put (v' := (.int (0 : Int32))) (ty := .byte) d_sia_24 rfl (hw _ (List.mem_of_getElem? (i := 76) rfl)) Via.refl FC EA (Or.inr ⟨(hw _ (List.mem_of_getElem? (i := 51) rfl)), rfl, rfl⟩) (hw _ (List.mem_of_getElem? (i := 49) rfl)) (by decide) rfl rfl ga (fun q => by cases q) ?_
  intro h1 W2
  have F3 := FC.same W2
  show KW false l Z M_sia n0 (fun v h => v = none ∧ Keep h0 h [a] ∧ ∃ e, Sg Z h a e bs) ([], fun _ => False) h1 0 0 27 #[.val (.ref a), .val (.ref b), .val .null, .val (.ref d), .val (.int (Int32.ofNat bs.length))] []
  refine k_aloadN d_sia_27 rfl rfl rfl ?_
  refine k_aloadN d_sia_28 rfl rfl rfl ?_
  refine k_iconst (z := (0 : Int32)) d_sia_29 rfl (by decide) ?_
  refine k_iload d_sia_30 rfl rfl ?_
  have f4 := (AB.other W2 (Ne.symm had))
  have f5 := (EA.wr W2)
  have f6 := (FV.other W2 (Or.inr (slot_ne (t := (.array .byte)) (t' := .byte) (Or.inr (hw _ (List.mem_of_getElem? (i := 50) rfl))) (Or.inr (hw _ (List.mem_of_getElem? (i := 51) rfl))) (by decide) (by decide) (by decide))))
  have f7 := (K0.wr W2 (Or.inl (by simp)))
  have f8 := (OD.wr W2 ga)
  refine k_callStatic (argsL := [(.ref d), (.int (0 : Int32)), (.int (Int32.ofNat bs.length))]) (rest := [(.ref a)]) (W0 := 1) d_sia_32 rfl (mt_cor l Z a0 hw cs hcs SC hEW d ckB (bs ++ zs) bs.length h1 n0 f8 (by rw [hN]; exact f4) (by omega) (by omega) hn2) Kp.strict (hw _ (List.mem_of_getElem? (i := 160) rfl)) (hw _ (List.mem_of_getElem? (i := 161) rfl)) (hw _ (List.mem_of_getElem? (i := 162) rfl)) (hw _ (List.mem_of_getElem? (i := 163) rfl)) (by decide) pd_cor rfl rfl rfl rfl (by decide) (by decide) (by decide) (by decide) ?_
  rintro _ hM - ⟨e, ck', rfl, ge1, ge2, KM, VM⟩
  rw [List.take_left] at VM
  have ne9 : a ≠ e := Nat.ne_of_lt (Nat.lt_of_lt_of_le f5.lt ge1)
  refine KW.any (P' := ([], fun _ => False)) ?_
  show KW false l Z M_sia n0 (fun v h => v = none ∧ Keep h0 h [a] ∧ ∃ e, Sg Z h a e bs) ([], fun _ => False) hM 1 142 35 #[.val (.ref a), .val (.ref b), .val .null, .val (.ref d), .val (.int (Int32.ofNat bs.length))] [(.ref e), (.ref a)]
  have f12 := (f6.keep KM nin0)
  have f13 := (f5.keep KM)
  refine k_put (v' := (.ref e)) (ty := (.array .byte)) d_sia_35 rfl (hw _ (List.mem_of_getElem? (i := 69) rfl)) Via.refl f12 f13 (Or.inr ⟨(hw _ (List.mem_of_getElem? (i := 50) rfl)), rfl, rfl⟩) (hw _ (List.mem_of_getElem? (i := 49) rfl)) (by decide) rfl rfl ga (fun q => by cases q) ?_
  intro h10 W11
  have F14 := f12.same W11
  show KW false l Z M_sia n0 (fun v h => v = none ∧ Keep h0 h [a] ∧ ∃ e, Sg Z h a e bs) ([], fun _ => False) h10 1 142 38 #[.val (.ref a), .val (.ref b), .val .null, .val (.ref d), .val (.int (Int32.ofNat bs.length))] []
  refine k_goto (pc' := 97) d_sia_38 (by decide) (by decide) ?_
  have f15 := ((f7.trans KM all0).wr W11 (Or.inl (by simp)))
  have f16 := (f13.wr W11)
  have f17 := ((F3.keep KM nin0).other W11 (Or.inr (slot_ne (t := .byte) (t' := (.array .byte)) (Or.inr (hw _ (List.mem_of_getElem? (i := 51) rfl))) (Or.inr (hw _ (List.mem_of_getElem? (i := 50) rfl))) (by decide) (by decide) (by decide))))
  have f18 := (VM.other W11 (Ne.symm ne9))
  exact k_retVoid d_sia_97 rfl (by decide) (by decide) ⟨rfl, f15, e, ⟨ck', f16, f17, F14, f18, by omega⟩⟩
theorem mt_sia (l : Launch) (Z : State) (a0 : Array Value) (hw : ∀ d ∈ tables_1, d.before a0 Z = true) (cs : Int32) (hcs : ¬ cs = 0) (SC : Sta Z Z.heap "java/lang/String" "COMPACT_STRINGS" "Z" (.int cs)) (hEW : EW Z a0 EL) (a b d : Addr) (N : Nat) (bs : List Int32) (h0 : Heap) (n0 : Nat) (OD : Old Z n0 h0) (SB : Sb Z h0 b d N bs) (ga : n0 ≤ a) (EA : Exa Z h0 a "java/lang/String") (FC : Fld Z h0 a "java/lang/String" "coder" "B" (.int 0)) (FV : Fld Z h0 a "java/lang/String" "value" "[B" .null) (hn : bs.length < N) (hn2 : bs.length ≤ 142) : Mt l Z M_sia [] n0 #[(.ref a), (.ref b), .null] h0 (fun v h => v = none ∧ Keep h0 h [a] ∧ ∃ e, Sg Z h a e bs) :=
  mt_of_kw (P := ([], fun _ => False)) pf_sia (fun m => by first | (simp [entryFrame, mkF, argsToLocals, Value.category]; done) | rfl) (kw_sia l Z a0 hw cs hcs SC hEW a b d N bs h0 n0 OD SB ga EA FC FV hn hn2)
abbrev M_sis : MD := ((⟨"java/lang/String", "<init>", "(Ljava/lang/StringBuilder;)V"⟩ : MethodName), jdk_42_method_53_code, 2, none, { frames := 4, cells := 1, slots := 142, locals := 108 })
theorem d_sis_0 : decode jdk_42_method_53_code 0 = .ok (.aload_n 0, 1) := by decide +kernel
theorem d_sis_1 : decode jdk_42_method_53_code 1 = .ok (.aload_n 1, 1) := by decide +kernel
theorem d_sis_2 : decode jdk_42_method_53_code 2 = .ok (.aconst_null, 1) := by decide +kernel
theorem d_sis_3 : decode jdk_42_method_53_code 3 = .ok (.invokespecial 489, 3) := by decide +kernel
theorem d_sis_6 : decode jdk_42_method_53_code 6 = .ok (.return_, 1) := by decide +kernel
theorem pd_sis : parseMethodDescriptor "(Ljava/lang/StringBuilder;)V" = some ⟨[(.object "java/lang/StringBuilder")], none⟩ := by decide +kernel
theorem pf_sis : plainFor (⟨"java/lang/String", "<init>", "(Ljava/lang/StringBuilder;)V"⟩ : MethodName) = true := by first | exact plainFor_of_name (by first | (simp [plainName, overriddenIn]; done) | decide +kernel) | decide +kernel
set_option maxRecDepth 65536 in
set_option maxHeartbeats 40000000 in
theorem kw_sis (l : Launch) (Z : State) (a0 : Array Value) (hw : ∀ d ∈ tables_1, d.before a0 Z = true) (cs : Int32) (hcs : ¬ cs = 0) (SC : Sta Z Z.heap "java/lang/String" "COMPACT_STRINGS" "Z" (.int cs)) (hEW : EW Z a0 EL) (a b d : Addr) (N : Nat) (bs : List Int32) (h0 : Heap) (n0 : Nat) (OD : Old Z n0 h0) (SB : Sb Z h0 b d N bs) (ga : n0 ≤ a) (EA : Exa Z h0 a "java/lang/String") (FC : Fld Z h0 a "java/lang/String" "coder" "B" (.int 0)) (FV : Fld Z h0 a "java/lang/String" "value" "[B" .null) (hn : bs.length < N) (hn2 : bs.length ≤ 142) : KW false l Z M_sis n0 (fun v h => v = none ∧ Keep h0 h [a] ∧ ∃ e, Sg Z h a e bs) ([], fun _ => False) h0 0 0 0 #[.val (.ref a), .val (.ref b)] [] := by
  refine k_aloadN d_sis_0 rfl rfl rfl ?_
  refine k_aloadN d_sis_1 rfl rfl rfl ?_
  refine k_aconstNull d_sis_2 rfl ?_
  refine k_callInit (a := a) (argsL := [(.ref b), .null]) (rest := []) (W0 := 0) d_sis_3 rfl (mt_sia l Z a0 hw cs hcs SC hEW a b d N bs h0 n0 OD SB ga EA FC FV hn hn2) Kp.strict rfl rfl (hw _ (List.mem_of_getElem? (i := 207) rfl)) (hw _ (List.mem_of_getElem? (i := 208) rfl)) (hw _ (List.mem_of_getElem? (i := 43) rfl)) (hw _ (List.mem_of_getElem? (i := 209) rfl)) (by decide) pd_sia rfl rfl rfl rfl (by decide) (by decide) (by decide) (by decide) ?_
  rintro _ hM - ⟨rfl, R1⟩
  refine KW.any (P' := ([], fun _ => False)) ?_
  show KW false l Z M_sis n0 (fun v h => v = none ∧ Keep h0 h [a] ∧ ∃ e, Sg Z h a e bs) ([], fun _ => False) hM 1 142 6 #[.val (.ref a), .val (.ref b)] []
  exact k_retVoid d_sis_6 rfl (by decide) (by decide) ⟨rfl, R1⟩
theorem mt_sis (l : Launch) (Z : State) (a0 : Array Value) (hw : ∀ d ∈ tables_1, d.before a0 Z = true) (cs : Int32) (hcs : ¬ cs = 0) (SC : Sta Z Z.heap "java/lang/String" "COMPACT_STRINGS" "Z" (.int cs)) (hEW : EW Z a0 EL) (a b d : Addr) (N : Nat) (bs : List Int32) (h0 : Heap) (n0 : Nat) (OD : Old Z n0 h0) (SB : Sb Z h0 b d N bs) (ga : n0 ≤ a) (EA : Exa Z h0 a "java/lang/String") (FC : Fld Z h0 a "java/lang/String" "coder" "B" (.int 0)) (FV : Fld Z h0 a "java/lang/String" "value" "[B" .null) (hn : bs.length < N) (hn2 : bs.length ≤ 142) : Mt l Z M_sis [] n0 #[(.ref a), (.ref b)] h0 (fun v h => v = none ∧ Keep h0 h [a] ∧ ∃ e, Sg Z h a e bs) :=
  mt_of_kw (P := ([], fun _ => False)) pf_sis (fun m => by first | (simp [entryFrame, mkF, argsToLocals, Value.category]; done) | rfl) (kw_sis l Z a0 hw cs hcs SC hEW a b d N bs h0 n0 OD SB ga EA FC FV hn hn2)
abbrev M_tos : MD := ((⟨"java/lang/StringBuilder", "toString", "()Ljava/lang/String;"⟩ : MethodName), jdk_67_method_42_code, 1, (some (.object "java/lang/String")), { frames := 5, cells := 2, slots := 146, locals := 124 })
theorem d_tos_0 : decode jdk_67_method_42_code 0 = .ok (.new 18, 3) := by decide +kernel
theorem d_tos_3 : decode jdk_67_method_42_code 3 = .ok (.dup, 1) := by decide +kernel
theorem d_tos_4 : decode jdk_67_method_42_code 4 = .ok (.aload_n 0, 1) := by decide +kernel
theorem d_tos_5 : decode jdk_67_method_42_code 5 = .ok (.invokespecial 137, 3) := by decide +kernel
theorem d_tos_8 : decode jdk_67_method_42_code 8 = .ok (.areturn, 1) := by decide +kernel
theorem pd_tos : parseMethodDescriptor "()Ljava/lang/String;" = some ⟨[], (some (.object "java/lang/String"))⟩ := by decide +kernel
theorem pf_tos : plainFor (⟨"java/lang/StringBuilder", "toString", "()Ljava/lang/String;"⟩ : MethodName) = true := by first | exact plainFor_of_name (by first | (simp [plainName, overriddenIn]; done) | decide +kernel) | decide +kernel
set_option maxRecDepth 65536 in
set_option maxHeartbeats 40000000 in
theorem kw_tos (l : Launch) (Z : State) (a0 : Array Value) (hw : ∀ d ∈ tables_1, d.before a0 Z = true) (cs : Int32) (hcs : ¬ cs = 0) (SC : Sta Z Z.heap "java/lang/String" "COMPACT_STRINGS" "Z" (.int cs)) (hEW : EW Z a0 EL) (b d : Addr) (N : Nat) (bs : List Int32) (h0 : Heap) (n0 : Nat) (OD : Old Z n0 h0) (SB : Sb Z h0 b d N bs) (hn : bs.length < N) (hn2 : bs.length ≤ 142) : KW false l Z M_tos n0 (fun v h => ∃ a e, v = some (.ref a) ∧ Keep h0 h [] ∧ Sg Z h a e bs) ([], fun _ => False) h0 0 0 0 #[.val (.ref b)] [] := by
  have Z0 := OD.1 ▸ OD.2.1
  have K0 : Keep h0 h0 [] := Keep.refl _ _
  refine k_new d_tos_0 rfl (hw _ (List.mem_of_getElem? (i := 203) rfl)) (hw _ (List.mem_of_getElem? (i := 49) rfl)) (hw _ (List.mem_of_getElem? (i := 43) rfl)) (by decide) (by decide) ?_
  intro h2 a1 g6 E3 A4 D5
  have z7 : n0 ≤ h0.size := Z0
  have ge8 : n0 ≤ a1 := Nat.le_trans z7 (Nat.le_of_eq g6.symm)
  have gl9 : h0.size ≤ a1 := Nat.le_of_eq g6.symm
  have gh10 := Nat.le_trans K0.1 gl9
  have F11 : Fld Z h2 a1 "java/lang/String" "value" "[B" .null := D5 (Or.inr (hw _ (List.mem_of_getElem? (i := 50) rfl))) (ty := (.array .byte)) (by decide)
  have F12 : Fld Z h2 a1 "java/lang/String" "coder" "B" (.int (0 : Int32)) := D5 (Or.inr (hw _ (List.mem_of_getElem? (i := 51) rfl))) (ty := .byte) (by decide)
  refine KW.any (P' := ([], fun _ => False)) ?_
  show KW false l Z M_tos n0 (fun v h => ∃ a e, v = some (.ref a) ∧ Keep h0 h [] ∧ Sg Z h a e bs) ([], fun _ => False) h2 1 4 3 #[.val (.ref b)] [(.ref a1)]
  refine k_dup d_tos_3 rfl rfl ?_
  refine k_aloadN d_tos_4 rfl rfl rfl ?_
  have f13 := (K0.ext E3)
  have f14 := (OD.ext E3)
  refine k_callInit (a := a1) (argsL := [(.ref b)]) (rest := [(.ref a1)]) (W0 := 1) d_tos_5 rfl (mt_sis l Z a0 hw cs hcs SC hEW a1 b d N bs h2 n0 f14 (SB.ext E3) ge8 A4 F12 F11 hn hn2) Kp.strict rfl rfl (hw _ (List.mem_of_getElem? (i := 204) rfl)) (hw _ (List.mem_of_getElem? (i := 205) rfl)) (hw _ (List.mem_of_getElem? (i := 43) rfl)) (hw _ (List.mem_of_getElem? (i := 206) rfl)) (by decide) pd_sis rfl rfl rfl rfl (by decide) (by decide) (by decide) (by decide) ?_
  rintro _ hM - ⟨rfl, KM, e, SG⟩
  refine KW.any (P' := ([], fun _ => False)) ?_
  show KW false l Z M_tos n0 (fun v h => ∃ a e, v = some (.ref a) ∧ Keep h0 h [] ∧ Sg Z h a e bs) ([], fun _ => False) hM 2 146 8 #[.val (.ref b)] [(.ref a1)]
  have f15 := (f13.trans KM (allS (Or.inr gh10) all0))
  exact k_retRef d_tos_8 rfl rfl rfl (by decide) (by decide) ⟨a1, e, rfl, f15, SG⟩
theorem mt_tos (l : Launch) (Z : State) (a0 : Array Value) (hw : ∀ d ∈ tables_1, d.before a0 Z = true) (cs : Int32) (hcs : ¬ cs = 0) (SC : Sta Z Z.heap "java/lang/String" "COMPACT_STRINGS" "Z" (.int cs)) (hEW : EW Z a0 EL) (b d : Addr) (N : Nat) (bs : List Int32) (h0 : Heap) (n0 : Nat) (OD : Old Z n0 h0) (SB : Sb Z h0 b d N bs) (hn : bs.length < N) (hn2 : bs.length ≤ 142) : Mt l Z M_tos [] n0 #[(.ref b)] h0 (fun v h => ∃ a e, v = some (.ref a) ∧ Keep h0 h [] ∧ Sg Z h a e bs) :=
  mt_of_kw (P := ([], fun _ => False)) pf_tos (fun m => by first | (simp [entryFrame, mkF, argsToLocals, Value.category]; done) | rfl) (kw_tos l Z a0 hw cs hcs SC hEW b d N bs h0 n0 OD SB hn hn2)
theorem Mt.mono {l : Launch} {Z : State} {M : MD} {ws : List Jvm.Cond} {n0 : Nat} {as' : Array Value} {h0 : Heap} {Q Q' : Option Value → Heap → Prop} (K : Mt l Z M ws n0 as' h0 Q) (f : ∀ v h, Q v h → Q' v h) : Mt l Z M ws n0 as' h0 Q' := by
  intro p e ha hc hk s m args below hf hap hP hK
  obtain ⟨n, o, h1, h2, h3, v, L, e1, ⟨q1, q2, q3⟩, h5⟩ := K p e ha hc hk s m args below hf hap hP hK
  exact ⟨n, o, h1, h2, h3, v, L, e1, ⟨q1, q2, f _ _ q3⟩, h5⟩
def maxI (a b : Int32) : Int32 := if a < b then b else a
theorem maxI_le {g : Int32} {K : Nat} (hK : K < 2147483648) (h : g.toInt ≤ K) : maxI g (Int32.ofNat K) = Int32.ofNat K := by
  unfold maxI; split
  · rfl
  · rename_i q
    rw [Int32.lt_iff_toInt_lt, ix_int hK] at q
    refine Int32.toInt_inj.mp ?_
    rw [ix_int hK]; omega
theorem minI_l {n N : Nat} (hN : N < 2147483648) (h : n ≤ N) : minI (Int32.ofNat n) (Int32.ofNat N) = Int32.ofNat n := by
  unfold minI; split
  · rename_i q
    rw [Int32.lt_iff_toInt_lt, ix_int hN, ix_int (by omega)] at q; omega
  · rfl
theorem laid_pre (xs : List Int32) (N : Nat) (h : xs.length ≤ N) : laid xs (List.replicate N 0) 0 0 xs.length = xs ++ List.replicate (N - xs.length) 0 := by
  unfold laid; simp
theorem own_pos {M : Nat} (h : M < 2147483648) (h0 : 0 < M) (q : ¬ (0 : Int32) < Int32.ofNat M) : False := by
  rw [Int32.lt_iff_toInt_lt, ix_int h, show (0 : Int32).toInt = 0 from rfl] at q; omega
theorem own_nmax {M : Nat} (h : M < 2147483639) (q : (2147483639 : Int32) < Int32.ofNat M) : False := by
  rw [Int32.lt_iff_toInt_lt, ix_int (by omega), show (2147483639 : Int32).toInt = 2147483639 from rfl] at q; omega
theorem own_nemax {M : Nat} (h : M < 2147483639) (q : Int32.ofNat M = (2147483647 : Int32)) : False := by
  have := congrArg Int32.toInt q
  rw [ix_int (by omega), show (2147483647 : Int32).toInt = 2147483647 from rfl] at this; omega
theorem own_gN {mm N : Nat} {m1 : Int32} (hm : m1 = Int32.ofNat mm) (h1 : N < mm) (h2 : mm ≤ N + (N + 2)) (h3 : N + (N + 2) ≤ 142) : (m1 - Int32.ofNat N).toInt ≤ (N + 2 : Nat) := by
  subst hm
  have e := c_isub (Int32.ofNat mm) (Int32.ofNat N); have r := rng32 (Int32.ofNat mm - Int32.ofNat N)
  rw [ix_int (by omega), ix_int (by omega)] at e; omega
theorem own_growN {mm N : Nat} {m1 : Int32} (hm : m1 = Int32.ofNat mm) (h1 : N < mm) (h2 : mm ≤ 1000) : (0 : Int32) < m1 - (Int32.ofNat N >>> ((0 : Int32) &&& 31)) := by
  subst hm
  have e0 : Int32.ofNat N >>> ((0 : Int32) &&& 31) = Int32.ofNat N := shr0 _
  rw [e0, Int32.lt_iff_toInt_lt]
  have e := c_isub (Int32.ofNat mm) (Int32.ofNat N); have r := rng32 (Int32.ofNat mm - Int32.ofNat N)
  rw [ix_int (by omega), ix_int (by omega)] at e
  show (0 : Int) < _
  omega
abbrev M_mxm : MD := ((⟨"java/lang/Math", "max", "(II)I"⟩ : MethodName), jdk_29_method_65_code, 2, (some .int), { frames := 0, cells := 0, slots := 0, locals := 0 })
theorem d_mxm_0 : decode jdk_29_method_65_code 0 = .ok (.iload_n 0, 1) := by decide +kernel
theorem d_mxm_1 : decode jdk_29_method_65_code 1 = .ok (.iload_n 1, 1) := by decide +kernel
theorem d_mxm_2 : decode jdk_29_method_65_code 2 = .ok (.if_icmp .lt 7, 3) := by decide +kernel
theorem d_mxm_5 : decode jdk_29_method_65_code 5 = .ok (.iload_n 0, 1) := by decide +kernel
theorem d_mxm_6 : decode jdk_29_method_65_code 6 = .ok (.goto 4, 3) := by decide +kernel
theorem d_mxm_9 : decode jdk_29_method_65_code 9 = .ok (.iload_n 1, 1) := by decide +kernel
theorem d_mxm_10 : decode jdk_29_method_65_code 10 = .ok (.ireturn, 1) := by decide +kernel
theorem pd_mxm : parseMethodDescriptor "(II)I" = some ⟨[.int, .int], (some .int)⟩ := by decide +kernel
theorem pf_mxm : plainFor (⟨"java/lang/Math", "max", "(II)I"⟩ : MethodName) = true := by first | exact plainFor_of_name (by first | (simp [plainName, overriddenIn]; done) | decide +kernel) | decide +kernel
set_option maxRecDepth 65536 in
set_option maxHeartbeats 40000000 in
theorem kw_mxm (l : Launch) (Z : State) (a0 : Array Value) (hw : ∀ d ∈ tables_1, d.before a0 Z = true) (cs : Int32) (hcs : ¬ cs = 0) (SC : Sta Z Z.heap "java/lang/String" "COMPACT_STRINGS" "Z" (.int cs)) (hEW : EW Z a0 EL) (x y : Int32) (h0 : Heap) (n0 : Nat) : KW false l Z M_mxm n0 (fun v h => v = some (.int (maxI x y)) ∧ h0 = h) ([], fun _ => False) h0 0 0 0 #[.val (.int x), .val (.int y)] [] := by
  refine k_iloadN d_mxm_0 rfl rfl ?_
  refine k_iloadN d_mxm_1 rfl rfl ?_
  refine k_icmp (pc1 := 9) (pc' := 5) d_mxm_2 (by decide) (by decide) rfl (fun (cd1 : x < y) => ?_) (fun (cd1 : ¬ x < y) => ?_)
  · skip
    refine k_iloadN d_mxm_9 rfl rfl ?_
    exact k_retInt d_mxm_10 rfl (by decide) (by decide) ⟨by unfold maxI; repeat (first | rfl | contradiction | split), rfl⟩
  · skip
    refine k_iloadN d_mxm_5 rfl rfl ?_
    refine k_goto (pc' := 10) d_mxm_6 (by decide) (by decide) ?_
    exact k_retInt d_mxm_10 rfl (by decide) (by decide) ⟨by unfold maxI; repeat (first | rfl | contradiction | split), rfl⟩
theorem mt_mxm (l : Launch) (Z : State) (a0 : Array Value) (hw : ∀ d ∈ tables_1, d.before a0 Z = true) (cs : Int32) (hcs : ¬ cs = 0) (SC : Sta Z Z.heap "java/lang/String" "COMPACT_STRINGS" "Z" (.int cs)) (hEW : EW Z a0 EL) (x y : Int32) (h0 : Heap) (n0 : Nat) : Mt l Z M_mxm [] n0 #[(.int x), (.int y)] h0 (fun v h => v = some (.int (maxI x y)) ∧ h0 = h) :=
  mt_of_kw (P := ([], fun _ => False)) pf_mxm (fun m => by first | (simp [entryFrame, mkF, argsToLocals, Value.category]; done) | rfl) (kw_mxm l Z a0 hw cs hcs SC hEW x y h0 n0)
abbrev M_nle : MD := ((⟨"jdk/internal/util/ArraysSupport", "newLength", "(III)I"⟩ : MethodName), jdk_48_method_27_code, 4, (some .int), { frames := 1, cells := 0, slots := 0, locals := 16 })
theorem d_nle_0 : decode jdk_48_method_27_code 0 = .ok (.iload_n 0, 1) := by decide +kernel
theorem d_nle_1 : decode jdk_48_method_27_code 1 = .ok (.iload_n 1, 1) := by decide +kernel
theorem d_nle_2 : decode jdk_48_method_27_code 2 = .ok (.iload_n 2, 1) := by decide +kernel
theorem d_nle_3 : decode jdk_48_method_27_code 3 = .ok (.invokestatic 194, 3) := by decide +kernel
theorem d_nle_6 : decode jdk_48_method_27_code 6 = .ok (.iadd, 1) := by decide +kernel
theorem d_nle_7 : decode jdk_48_method_27_code 7 = .ok (.istore_n 3, 1) := by decide +kernel
theorem d_nle_8 : decode jdk_48_method_27_code 8 = .ok (.iconst 0, 1) := by decide +kernel
theorem d_nle_9 : decode jdk_48_method_27_code 9 = .ok (.iload_n 3, 1) := by decide +kernel
theorem d_nle_10 : decode jdk_48_method_27_code 10 = .ok (.if_icmp .ge 11, 3) := by decide +kernel
theorem d_nle_13 : decode jdk_48_method_27_code 13 = .ok (.iload_n 3, 1) := by decide +kernel
theorem d_nle_14 : decode jdk_48_method_27_code 14 = .ok (.ldc 200, 2) := by decide +kernel
theorem d_nle_16 : decode jdk_48_method_27_code 16 = .ok (.if_icmp .gt 5, 3) := by decide +kernel
theorem d_nle_19 : decode jdk_48_method_27_code 19 = .ok (.iload_n 3, 1) := by decide +kernel
theorem d_nle_20 : decode jdk_48_method_27_code 20 = .ok (.ireturn, 1) := by decide +kernel
theorem d_nle_21 : decode jdk_48_method_27_code 21 = .ok (.iload_n 0, 1) := by decide +kernel
theorem d_nle_22 : decode jdk_48_method_27_code 22 = .ok (.iload_n 1, 1) := by decide +kernel
theorem d_nle_23 : decode jdk_48_method_27_code 23 = .ok (.invokestatic 201, 3) := by decide +kernel
theorem d_nle_26 : decode jdk_48_method_27_code 26 = .ok (.ireturn, 1) := by decide +kernel
theorem pd_nle : parseMethodDescriptor "(III)I" = some ⟨[.int, .int, .int], (some .int)⟩ := by decide +kernel
theorem pf_nle : plainFor (⟨"jdk/internal/util/ArraysSupport", "newLength", "(III)I"⟩ : MethodName) = true := by first | exact plainFor_of_name (by first | (simp [plainName, overriddenIn]; done) | decide +kernel) | decide +kernel
set_option maxRecDepth 65536 in
set_option maxHeartbeats 40000000 in
theorem kw_nle (l : Launch) (Z : State) (a0 : Array Value) (hw : ∀ d ∈ tables_1, d.before a0 Z = true) (cs : Int32) (hcs : ¬ cs = 0) (SC : Sta Z Z.heap "java/lang/String" "COMPACT_STRINGS" "Z" (.int cs)) (hEW : EW Z a0 EL) (N : Nat) (g : Int32) (h0 : Heap) (n0 : Nat) (hg : g.toInt ≤ (N + 2 : Nat)) (h3 : N + (N + 2) ≤ 142) : KW false l Z M_nle n0 (fun v h => v = some (.int (Int32.ofNat (N + (N + 2)))) ∧ h0 = h) ([], fun _ => False) h0 0 0 0 #[.val (.int (Int32.ofNat N)), .val (.int g), .val (.int (Int32.ofNat (N + 2))), .unset] [] := by
  refine k_iloadN d_nle_0 rfl rfl ?_
  refine k_iloadN d_nle_1 rfl rfl ?_
  refine k_iloadN d_nle_2 rfl rfl ?_
  refine k_callStatic (argsL := [(.int g), (.int (Int32.ofNat (N + 2)))]) (rest := [(.int (Int32.ofNat N))]) (W0 := 1) d_nle_3 rfl (mt_mxm l Z a0 hw cs hcs SC hEW g (Int32.ofNat (N + 2)) h0 n0) Kp.strict (hw _ (List.mem_of_getElem? (i := 183) rfl)) (hw _ (List.mem_of_getElem? (i := 184) rfl)) (hw _ (List.mem_of_getElem? (i := 123) rfl)) (hw _ (List.mem_of_getElem? (i := 185) rfl)) (by decide) pd_mxm rfl rfl rfl rfl (by decide) (by decide) (by decide) (by decide) ?_
  rintro _ _ - ⟨rfl, rfl⟩
  rw [maxI_le (by omega) hg]
  refine KW.any (P' := ([], fun _ => False)) ?_
  show KW false l Z M_nle n0 (fun v h => v = some (.int (Int32.ofNat (N + (N + 2)))) ∧ h0 = h) ([], fun _ => False) h0 0 0 6 #[.val (.int (Int32.ofNat N)), .val (.int g), .val (.int (Int32.ofNat (N + 2))), .unset] [(.int (Int32.ofNat (N + 2))), (.int (Int32.ofNat N))]
  refine k_iadd d_nle_6 rfl ?_
  refine KW.top (congrArg Value.int (ix_add N (N + 2))) ?_
  show KW false l Z M_nle n0 (fun v h => v = some (.int (Int32.ofNat (N + (N + 2)))) ∧ h0 = h) ([], fun _ => False) h0 0 0 7 #[.val (.int (Int32.ofNat N)), .val (.int g), .val (.int (Int32.ofNat (N + 2))), .unset] [(.int (Int32.ofNat (N + (N + 2))))]
  refine k_istoreN (Ls' := #[.val (.int (Int32.ofNat N)), .val (.int g), .val (.int (Int32.ofNat (N + 2))), .val (.int (Int32.ofNat (N + (N + 2))))]) d_nle_7 rfl rfl ?_
  refine k_iconst (z := (0 : Int32)) d_nle_8 rfl (by decide) ?_
  refine k_iloadN d_nle_9 rfl rfl ?_
  refine k_icmp (pc1 := 21) (pc' := 13) d_nle_10 (by decide) (by decide) rfl (fun (cd1 : ¬ (0 : Int32) < (Int32.ofNat (N + (N + 2)))) => False.elim (by exact own_pos (by omega) (by omega) cd1)) (fun (cd1 : (0 : Int32) < (Int32.ofNat (N + (N + 2)))) => ?_)
  refine k_iloadN d_nle_13 rfl rfl ?_
  refine k_ldcI d_nle_14 rfl (hw _ (List.mem_of_getElem? (i := 186) rfl)) ?_
  refine k_icmp (pc1 := 21) (pc' := 19) d_nle_16 (by decide) (by decide) rfl (fun (cd2 : (2147483639 : Int32) < (Int32.ofNat (N + (N + 2)))) => False.elim (by exact own_nmax (by omega) cd2)) (fun (cd2 : ¬ (2147483639 : Int32) < (Int32.ofNat (N + (N + 2)))) => ?_)
  refine k_iloadN d_nle_19 rfl rfl ?_
  exact k_retInt d_nle_20 rfl (by decide) (by decide) ⟨rfl, rfl⟩
theorem mt_nle (l : Launch) (Z : State) (a0 : Array Value) (hw : ∀ d ∈ tables_1, d.before a0 Z = true) (cs : Int32) (hcs : ¬ cs = 0) (SC : Sta Z Z.heap "java/lang/String" "COMPACT_STRINGS" "Z" (.int cs)) (hEW : EW Z a0 EL) (N : Nat) (g : Int32) (h0 : Heap) (n0 : Nat) (hg : g.toInt ≤ (N + 2 : Nat)) (h3 : N + (N + 2) ≤ 142) : Mt l Z M_nle [] n0 #[(.int (Int32.ofNat N)), (.int g), (.int (Int32.ofNat (N + 2)))] h0 (fun v h => v = some (.int (Int32.ofNat (N + (N + 2)))) ∧ h0 = h) :=
  mt_of_kw (P := ([], fun _ => False)) pf_nle (fun m => by first | (simp [entryFrame, mkF, argsToLocals, Value.category]; done) | rfl) (kw_nle l Z a0 hw cs hcs SC hEW N g h0 n0 hg h3)
abbrev M_ncp : MD := ((⟨"java/lang/AbstractStringBuilder", "newCapacity", "(I)I"⟩ : MethodName), jdk_68_method_10_code, 6, (some .int), { frames := 2, cells := 0, slots := 0, locals := 36 })
theorem d_ncp_0 : decode jdk_68_method_10_code 0 = .ok (.aload_n 0, 1) := by decide +kernel
theorem d_ncp_1 : decode jdk_68_method_10_code 1 = .ok (.getfield 15, 3) := by decide +kernel
theorem d_ncp_4 : decode jdk_68_method_10_code 4 = .ok (.arraylength, 1) := by decide +kernel
theorem d_ncp_5 : decode jdk_68_method_10_code 5 = .ok (.istore_n 2, 1) := by decide +kernel
theorem d_ncp_6 : decode jdk_68_method_10_code 6 = .ok (.iload_n 1, 1) := by decide +kernel
theorem d_ncp_7 : decode jdk_68_method_10_code 7 = .ok (.aload_n 0, 1) := by decide +kernel
theorem d_ncp_8 : decode jdk_68_method_10_code 8 = .ok (.getfield 22, 3) := by decide +kernel
theorem d_ncp_11 : decode jdk_68_method_10_code 11 = .ok (.ishl, 1) := by decide +kernel
theorem d_ncp_12 : decode jdk_68_method_10_code 12 = .ok (.istore_n 3, 1) := by decide +kernel
theorem d_ncp_13 : decode jdk_68_method_10_code 13 = .ok (.iload_n 3, 1) := by decide +kernel
theorem d_ncp_14 : decode jdk_68_method_10_code 14 = .ok (.iload_n 2, 1) := by decide +kernel
theorem d_ncp_15 : decode jdk_68_method_10_code 15 = .ok (.isub, 1) := by decide +kernel
theorem d_ncp_16 : decode jdk_68_method_10_code 16 = .ok (.istore 4, 2) := by decide +kernel
theorem d_ncp_18 : decode jdk_68_method_10_code 18 = .ok (.iload_n 2, 1) := by decide +kernel
theorem d_ncp_19 : decode jdk_68_method_10_code 19 = .ok (.iload 4, 2) := by decide +kernel
theorem d_ncp_21 : decode jdk_68_method_10_code 21 = .ok (.iload_n 2, 1) := by decide +kernel
theorem d_ncp_22 : decode jdk_68_method_10_code 22 = .ok (.iconst 2, 1) := by decide +kernel
theorem d_ncp_23 : decode jdk_68_method_10_code 23 = .ok (.aload_n 0, 1) := by decide +kernel
theorem d_ncp_24 : decode jdk_68_method_10_code 24 = .ok (.getfield 22, 3) := by decide +kernel
theorem d_ncp_27 : decode jdk_68_method_10_code 27 = .ok (.ishl, 1) := by decide +kernel
theorem d_ncp_28 : decode jdk_68_method_10_code 28 = .ok (.iadd, 1) := by decide +kernel
theorem d_ncp_29 : decode jdk_68_method_10_code 29 = .ok (.invokestatic 114, 3) := by decide +kernel
theorem d_ncp_32 : decode jdk_68_method_10_code 32 = .ok (.istore 5, 2) := by decide +kernel
theorem d_ncp_34 : decode jdk_68_method_10_code 34 = .ok (.iload 5, 2) := by decide +kernel
theorem d_ncp_36 : decode jdk_68_method_10_code 36 = .ok (.ldc 39, 2) := by decide +kernel
theorem d_ncp_38 : decode jdk_68_method_10_code 38 = .ok (.if_icmp .ne 13, 3) := by decide +kernel
theorem d_ncp_41 : decode jdk_68_method_10_code 41 = .ok (.new 120, 3) := by decide +kernel
theorem d_ncp_44 : decode jdk_68_method_10_code 44 = .ok (.dup, 1) := by decide +kernel
theorem d_ncp_45 : decode jdk_68_method_10_code 45 = .ok (.ldc 122, 2) := by decide +kernel
theorem d_ncp_47 : decode jdk_68_method_10_code 47 = .ok (.invokespecial 124, 3) := by decide +kernel
theorem d_ncp_50 : decode jdk_68_method_10_code 50 = .ok (.athrow, 1) := by decide +kernel
theorem d_ncp_51 : decode jdk_68_method_10_code 51 = .ok (.iload 5, 2) := by decide +kernel
theorem d_ncp_53 : decode jdk_68_method_10_code 53 = .ok (.aload_n 0, 1) := by decide +kernel
theorem d_ncp_54 : decode jdk_68_method_10_code 54 = .ok (.getfield 22, 3) := by decide +kernel
theorem d_ncp_57 : decode jdk_68_method_10_code 57 = .ok (.ishr, 1) := by decide +kernel
theorem d_ncp_58 : decode jdk_68_method_10_code 58 = .ok (.ireturn, 1) := by decide +kernel
theorem pd_ncp : parseMethodDescriptor "(I)I" = some ⟨[.int], (some .int)⟩ := by decide +kernel
theorem pf_ncp : plainFor (⟨"java/lang/AbstractStringBuilder", "newCapacity", "(I)I"⟩ : MethodName) = true := by first | exact plainFor_of_name (by first | (simp [plainName, overriddenIn]; done) | decide +kernel) | decide +kernel
set_option maxRecDepth 65536 in
set_option maxHeartbeats 40000000 in
theorem kw_ncp (l : Launch) (Z : State) (a0 : Array Value) (hw : ∀ d ∈ tables_1, d.before a0 Z = true) (cs : Int32) (hcs : ¬ cs = 0) (SC : Sta Z Z.heap "java/lang/String" "COMPACT_STRINGS" "Z" (.int cs)) (hEW : EW Z a0 EL) (b d : Addr) (N : Nat) (bs : List Int32) (h0 : Heap) (n0 : Nat) (OD : Old Z n0 h0) (SB : Sb Z h0 b d N bs) (mm : Nat) (m1 : Int32) (hm : m1 = Int32.ofNat mm) (h1 : N < mm) (h2 : mm ≤ N + (N + 2)) (h3 : N + (N + 2) ≤ 142) : KW false l Z M_ncp n0 (fun v h => v = some (.int (Int32.ofNat (N + (N + 2)))) ∧ h0 = h) ([], fun _ => False) h0 0 0 0 #[.val (.ref b), .val (.int m1), .unset, .unset, .unset, .unset] [] := by
  obtain ⟨ckB, zs, EB, VB, CB, NB, AB, hN, hN2⟩ := id SB
  refine k_aloadN d_ncp_0 rfl rfl rfl ?_
  refine k_getField d_ncp_1 rfl (hw _ (List.mem_of_getElem? (i := 44) rfl)) Via.refl VB ?_
  refine k_arrlen d_ncp_4 rfl AB ?_
  refine k_istoreN (Ls' := #[.val (.ref b), .val (.int m1), .val (.int (Int32.ofNat N)), .unset, .unset, .unset]) d_ncp_5 rfl rfl ?_
  refine k_iloadN d_ncp_6 rfl rfl ?_
  refine k_aloadN d_ncp_7 rfl rfl rfl ?_
  refine k_getField d_ncp_8 rfl (hw _ (List.mem_of_getElem? (i := 46) rfl)) Via.refl CB ?_
  refine k_ishl d_ncp_11 rfl ?_
  refine KW.top (congrArg Value.int (shl0 _)) ?_
  show KW false l Z M_ncp n0 (fun v h => v = some (.int (Int32.ofNat (N + (N + 2)))) ∧ h0 = h) ([], fun _ => False) h0 0 0 12 #[.val (.ref b), .val (.int m1), .val (.int (Int32.ofNat N)), .unset, .unset, .unset] [(.int m1)]
  refine k_istoreN (Ls' := #[.val (.ref b), .val (.int m1), .val (.int (Int32.ofNat N)), .val (.int m1), .unset, .unset]) d_ncp_12 rfl rfl ?_
  refine k_iloadN d_ncp_13 rfl rfl ?_
  refine k_iloadN d_ncp_14 rfl rfl ?_
  refine k_isub d_ncp_15 rfl ?_
  refine k_istore (Ls' := #[.val (.ref b), .val (.int m1), .val (.int (Int32.ofNat N)), .val (.int m1), .val (.int (m1 - (Int32.ofNat N))), .unset]) d_ncp_16 rfl rfl ?_
  refine k_iloadN d_ncp_18 rfl rfl ?_
  refine k_iload d_ncp_19 rfl rfl ?_
  refine k_iloadN d_ncp_21 rfl rfl ?_
  refine k_iconst (z := (2 : Int32)) d_ncp_22 rfl (by decide) ?_
  refine k_aloadN d_ncp_23 rfl rfl rfl ?_
  refine k_getField d_ncp_24 rfl (hw _ (List.mem_of_getElem? (i := 46) rfl)) Via.refl CB ?_
  refine k_ishl d_ncp_27 rfl ?_
  refine KW.top (congrArg Value.int (show (2 : Int32) <<< ((0 : Int32) &&& 31) = Int32.ofNat 2 by decide)) ?_
  show KW false l Z M_ncp n0 (fun v h => v = some (.int (Int32.ofNat (N + (N + 2)))) ∧ h0 = h) ([], fun _ => False) h0 0 0 28 #[.val (.ref b), .val (.int m1), .val (.int (Int32.ofNat N)), .val (.int m1), .val (.int (m1 - (Int32.ofNat N))), .unset] [(.int (Int32.ofNat 2)), (.int (Int32.ofNat N)), (.int (m1 - (Int32.ofNat N))), (.int (Int32.ofNat N))]
  refine k_iadd d_ncp_28 rfl ?_
  refine KW.top (congrArg Value.int (ix_add N 2)) ?_
  show KW false l Z M_ncp n0 (fun v h => v = some (.int (Int32.ofNat (N + (N + 2)))) ∧ h0 = h) ([], fun _ => False) h0 0 0 29 #[.val (.ref b), .val (.int m1), .val (.int (Int32.ofNat N)), .val (.int m1), .val (.int (m1 - (Int32.ofNat N))), .unset] [(.int (Int32.ofNat (N + 2))), (.int (m1 - (Int32.ofNat N))), (.int (Int32.ofNat N))]
  refine k_callStatic (argsL := [(.int (Int32.ofNat N)), (.int (m1 - (Int32.ofNat N))), (.int (Int32.ofNat (N + 2)))]) (rest := []) (W0 := 0) d_ncp_29 rfl (mt_nle l Z a0 hw cs hcs SC hEW N (m1 - (Int32.ofNat N)) h0 n0 (own_gN hm h1 h2 h3) h3) Kp.strict (hw _ (List.mem_of_getElem? (i := 179) rfl)) (hw _ (List.mem_of_getElem? (i := 180) rfl)) (hw _ (List.mem_of_getElem? (i := 181) rfl)) (hw _ (List.mem_of_getElem? (i := 182) rfl)) (by decide) pd_nle rfl rfl rfl rfl (by decide) (by decide) (by decide) (by decide) ?_
  rintro _ _ - ⟨rfl, rfl⟩
  refine KW.any (P' := ([], fun _ => False)) ?_
  show KW false l Z M_ncp n0 (fun v h => v = some (.int (Int32.ofNat (N + (N + 2)))) ∧ h0 = h) ([], fun _ => False) h0 0 0 32 #[.val (.ref b), .val (.int m1), .val (.int (Int32.ofNat N)), .val (.int m1), .val (.int (m1 - (Int32.ofNat N))), .unset] [(.int (Int32.ofNat (N + (N + 2))))]
  refine k_istore (Ls' := #[.val (.ref b), .val (.int m1), .val (.int (Int32.ofNat N)), .val (.int m1), .val (.int (m1 - (Int32.ofNat N))), .val (.int (Int32.ofNat (N + (N + 2))))]) d_ncp_32 rfl rfl ?_
  refine k_iload d_ncp_34 rfl rfl ?_
  refine k_ldcI d_ncp_36 rfl (hw _ (List.mem_of_getElem? (i := 187) rfl)) ?_
  refine k_icmp (pc1 := 51) (pc' := 41) d_ncp_38 (by decide) (by decide) rfl (fun (cd1 : ¬ (Int32.ofNat (N + (N + 2))) = (2147483647 : Int32)) => ?_) (fun (cd1 : (Int32.ofNat (N + (N + 2))) = (2147483647 : Int32)) => False.elim (by exact own_nemax (by omega) cd1))
  refine k_iload d_ncp_51 rfl rfl ?_
  refine k_aloadN d_ncp_53 rfl rfl rfl ?_
  refine k_getField d_ncp_54 rfl (hw _ (List.mem_of_getElem? (i := 46) rfl)) Via.refl CB ?_
  refine k_ishr d_ncp_57 rfl ?_
  refine KW.top (congrArg Value.int (shr0 _)) ?_
  show KW false l Z M_ncp n0 (fun v h => v = some (.int (Int32.ofNat (N + (N + 2)))) ∧ h0 = h) ([], fun _ => False) h0 0 0 58 #[.val (.ref b), .val (.int m1), .val (.int (Int32.ofNat N)), .val (.int m1), .val (.int (m1 - (Int32.ofNat N))), .val (.int (Int32.ofNat (N + (N + 2))))] [(.int (Int32.ofNat (N + (N + 2))))]
  exact k_retInt d_ncp_58 rfl (by decide) (by decide) ⟨rfl, rfl⟩
theorem mt_ncp (l : Launch) (Z : State) (a0 : Array Value) (hw : ∀ d ∈ tables_1, d.before a0 Z = true) (cs : Int32) (hcs : ¬ cs = 0) (SC : Sta Z Z.heap "java/lang/String" "COMPACT_STRINGS" "Z" (.int cs)) (hEW : EW Z a0 EL) (b d : Addr) (N : Nat) (bs : List Int32) (h0 : Heap) (n0 : Nat) (OD : Old Z n0 h0) (SB : Sb Z h0 b d N bs) (mm : Nat) (m1 : Int32) (hm : m1 = Int32.ofNat mm) (h1 : N < mm) (h2 : mm ≤ N + (N + 2)) (h3 : N + (N + 2) ≤ 142) : Mt l Z M_ncp [] n0 #[(.ref b), (.int m1)] h0 (fun v h => v = some (.int (Int32.ofNat (N + (N + 2)))) ∧ h0 = h) :=
  mt_of_kw (P := ([], fun _ => False)) pf_ncp (fun m => by first | (simp [entryFrame, mkF, argsToLocals, Value.category]; done) | rfl) (kw_ncp l Z a0 hw cs hcs SC hEW b d N bs h0 n0 OD SB mm m1 hm h1 h2 h3)
abbrev M_cpo : MD := ((⟨"java/util/Arrays", "copyOf", "([BI)[B"⟩ : MethodName), jdk_65_method_121_code, 3, (some (.array .byte)), { frames := 1, cells := 1, slots := 142, locals := 48 })
theorem d_cpo_0 : decode jdk_65_method_121_code 0 = .ok (.iload_n 1, 1) := by decide +kernel
theorem d_cpo_1 : decode jdk_65_method_121_code 1 = .ok (.aload_n 0, 1) := by decide +kernel
theorem d_cpo_2 : decode jdk_65_method_121_code 2 = .ok (.arraylength, 1) := by decide +kernel
theorem d_cpo_3 : decode jdk_65_method_121_code 3 = .ok (.if_icmp .ne 11, 3) := by decide +kernel
theorem d_cpo_6 : decode jdk_65_method_121_code 6 = .ok (.aload_n 0, 1) := by decide +kernel
theorem d_cpo_7 : decode jdk_65_method_121_code 7 = .ok (.invokevirtual 310, 3) := by decide +kernel
theorem d_cpo_10 : decode jdk_65_method_121_code 10 = .ok (.checkcast 311, 3) := by decide +kernel
theorem d_cpo_13 : decode jdk_65_method_121_code 13 = .ok (.areturn, 1) := by decide +kernel
theorem d_cpo_14 : decode jdk_65_method_121_code 14 = .ok (.iload_n 1, 1) := by decide +kernel
theorem d_cpo_15 : decode jdk_65_method_121_code 15 = .ok (.newarray .byte, 2) := by decide +kernel
theorem d_cpo_17 : decode jdk_65_method_121_code 17 = .ok (.astore_n 2, 1) := by decide +kernel
theorem d_cpo_18 : decode jdk_65_method_121_code 18 = .ok (.aload_n 0, 1) := by decide +kernel
theorem d_cpo_19 : decode jdk_65_method_121_code 19 = .ok (.iconst 0, 1) := by decide +kernel
theorem d_cpo_20 : decode jdk_65_method_121_code 20 = .ok (.aload_n 2, 1) := by decide +kernel
theorem d_cpo_21 : decode jdk_65_method_121_code 21 = .ok (.iconst 0, 1) := by decide +kernel
theorem d_cpo_22 : decode jdk_65_method_121_code 22 = .ok (.aload_n 0, 1) := by decide +kernel
theorem d_cpo_23 : decode jdk_65_method_121_code 23 = .ok (.arraylength, 1) := by decide +kernel
theorem d_cpo_24 : decode jdk_65_method_121_code 24 = .ok (.iload_n 1, 1) := by decide +kernel
theorem d_cpo_25 : decode jdk_65_method_121_code 25 = .ok (.invokestatic 304, 3) := by decide +kernel
theorem d_cpo_28 : decode jdk_65_method_121_code 28 = .ok (.invokestatic 150, 3) := by decide +kernel
theorem d_cpo_31 : decode jdk_65_method_121_code 31 = .ok (.aload_n 2, 1) := by decide +kernel
theorem d_cpo_32 : decode jdk_65_method_121_code 32 = .ok (.areturn, 1) := by decide +kernel
theorem pd_cpo : parseMethodDescriptor "([BI)[B" = some ⟨[(.array .byte), .int], (some (.array .byte))⟩ := by decide +kernel
theorem pf_cpo : plainFor (⟨"java/util/Arrays", "copyOf", "([BI)[B"⟩ : MethodName) = true := by first | exact plainFor_of_name (by first | (simp [plainName, overriddenIn]; done) | decide +kernel) | decide +kernel
set_option maxRecDepth 65536 in
set_option maxHeartbeats 40000000 in
theorem kw_cpo (l : Launch) (Z : State) (a0 : Array Value) (hw : ∀ d ∈ tables_1, d.before a0 Z = true) (cs : Int32) (hcs : ¬ cs = 0) (SC : Sta Z Z.heap "java/lang/String" "COMPACT_STRINGS" "Z" (.int cs)) (hEW : EW Z a0 EL) (d : Addr) (ck : ClassId) (L : List Int32) (M : Nat) (h0 : Heap) (n0 : Nat) (OD : Old Z n0 h0) (D : Arv Z h0 d ck .byte (Int32.ofNat L.length) (L.map Value.int) (.int 0)) (hL : L.length < M) (hM : M ≤ 142) : KW false l Z M_cpo n0 (fun v h => ∃ e ck', v = some (.ref e) ∧ h0.size ≤ e ∧ n0 ≤ e ∧ Keep h0 h [] ∧ Arv Z h e ck' .byte (Int32.ofNat M) ((L ++ List.replicate (M - L.length) 0).map Value.int) (.int 0)) ([], fun _ => False) h0 0 0 0 #[.val (.ref d), .val (.int (Int32.ofNat M)), .unset] [] := by
  have Z0 := OD.1 ▸ OD.2.1
  have K0 : Keep h0 h0 [] := Keep.refl _ _
  refine k_iloadN d_cpo_0 rfl rfl ?_
  refine k_aloadN d_cpo_1 rfl rfl rfl ?_
  refine k_arrlen d_cpo_2 rfl D ?_
  refine k_icmp (pc1 := 14) (pc' := 6) d_cpo_3 (by decide) (by decide) rfl (fun (cd1 : ¬ (Int32.ofNat M) = (Int32.ofNat L.length)) => ?_) (fun (cd1 : (Int32.ofNat M) = (Int32.ofNat L.length)) => False.elim (by exact ix_ne (i := M) (by omega) (by omega) (by omega) cd1))
  refine k_iloadN d_cpo_14 rfl rfl ?_
  refine k_newarr (cap := 142) d_cpo_15 rfl (hw _ (List.mem_of_getElem? (i := 0) rfl)) (ix_nn (by omega)) (by rw [ix_nat (by omega)]; exact hM) (by decide) (by decide) (by decide) ?_
  intro h2 a1 ck6 g5 E3 V4
  have ne7 : d ≠ a1 := Nat.ne_of_lt (Nat.lt_of_lt_of_eq D.lt g5.symm)
  have z9 : n0 ≤ h0.size := Z0
  have ge8 : n0 ≤ a1 := Nat.le_trans z9 (Nat.le_of_eq g5.symm)
  have gl10 : h0.size ≤ a1 := Nat.le_of_eq g5.symm
  have gh11 := Nat.le_trans K0.1 gl10
  refine KW.any (P' := ([], fun _ => False)) ?_
  show KW false l Z M_cpo n0 (fun v h => ∃ e ck', v = some (.ref e) ∧ h0.size ≤ e ∧ n0 ≤ e ∧ Keep h0 h [] ∧ Arv Z h e ck' .byte (Int32.ofNat M) ((L ++ List.replicate (M - L.length) 0).map Value.int) (.int 0)) ([], fun _ => False) h2 1 142 17 #[.val (.ref d), .val (.int (Int32.ofNat M)), .unset] [(.ref a1)]
  refine k_astoreN (Ls' := #[.val (.ref d), .val (.int (Int32.ofNat M)), .val (.ref a1)]) d_cpo_17 rfl rfl rfl ?_
  refine k_aloadN d_cpo_18 rfl rfl rfl ?_
  refine k_iconst (z := (0 : Int32)) d_cpo_19 rfl (by decide) ?_
  refine k_aloadN d_cpo_20 rfl rfl rfl ?_
  refine k_iconst (z := (0 : Int32)) d_cpo_21 rfl (by decide) ?_
  refine k_aloadN d_cpo_22 rfl rfl rfl ?_
  have f12 := (D.ext E3)
  refine k_arrlen d_cpo_23 rfl f12 ?_
  refine k_iloadN d_cpo_24 rfl rfl ?_
  refine k_callStatic (argsL := [(.int (Int32.ofNat L.length)), (.int (Int32.ofNat M))]) (rest := [(.int (0 : Int32)), (.ref a1), (.int (0 : Int32)), (.ref d)]) (W0 := 4) d_cpo_25 rfl (mt_mnm l Z a0 hw cs hcs SC hEW _ _ h2 n0) Kp.strict (hw _ (List.mem_of_getElem? (i := 191) rfl)) (hw _ (List.mem_of_getElem? (i := 139) rfl)) (hw _ (List.mem_of_getElem? (i := 123) rfl)) (hw _ (List.mem_of_getElem? (i := 140) rfl)) (by decide) pd_mnm rfl rfl rfl rfl (by decide) (by decide) (by decide) (by decide) ?_
  rintro _ _ - ⟨rfl, rfl⟩
  rw [minI_l (by omega) (by omega)]
  refine KW.any (P' := ([], fun _ => False)) ?_
  show KW false l Z M_cpo n0 (fun v h => ∃ e ck', v = some (.ref e) ∧ h0.size ≤ e ∧ n0 ≤ e ∧ Keep h0 h [] ∧ Arv Z h e ck' .byte (Int32.ofNat M) ((L ++ List.replicate (M - L.length) 0).map Value.int) (.int 0)) ([], fun _ => False) h2 1 142 28 #[.val (.ref d), .val (.int (Int32.ofNat M)), .val (.ref a1)] [(.int (Int32.ofNat L.length)), (.int (0 : Int32)), (.ref a1), (.int (0 : Int32)), (.ref d)]
  have f13 := (K0.ext E3)
  have B2 : Arv Z h2 a1 ck6 .byte (Int32.ofNat (List.replicate M (0 : Int32)).length) ((List.replicate M (0 : Int32)).map Value.int) (.int 0) := by rw [List.length_replicate, List.map_replicate]; exact Arv.pad V4 (pad_rep [] _ M)
  refine k_acopy (o := 0) (q := 0) (m' := L.length) (W0 := 0) d_cpo_28 rfl (hw _ (List.mem_of_getElem? (i := 192) rfl)) (hw _ (List.mem_of_getElem? (i := 103) rfl)) (hw _ (List.mem_of_getElem? (i := 101) rfl)) (hw _ (List.mem_of_getElem? (i := 102) rfl)) (by omega) (by rw [List.length_replicate]; omega) f12 B2 (by omega) (by rw [List.length_replicate]; omega) ge8 (fun q => by cases q) rfl rfl (by decide) (by decide) ?_
  intro hM_ KM VM
  rw [List.length_replicate, laid_pre L M (by omega)] at VM
  refine KW.any (P' := ([], fun _ => False)) ?_
  show KW false l Z M_cpo n0 (fun v h => ∃ e ck', v = some (.ref e) ∧ h0.size ≤ e ∧ n0 ≤ e ∧ Keep h0 h [] ∧ Arv Z h e ck' .byte (Int32.ofNat M) ((L ++ List.replicate (M - L.length) 0).map Value.int) (.int 0)) ([], fun _ => False) hM_ 1 142 31 #[.val (.ref d), .val (.int (Int32.ofNat M)), .val (.ref a1)] []
  refine k_aloadN d_cpo_31 rfl rfl rfl ?_
  have f14 := (f13.trans KM (allS (Or.inr gh11) all0))
  exact k_retRef d_cpo_32 rfl rfl rfl (by decide) (by decide) ⟨a1, ck6, rfl, gl10, ge8, f14, VM⟩
theorem mt_cpo (l : Launch) (Z : State) (a0 : Array Value) (hw : ∀ d ∈ tables_1, d.before a0 Z = true) (cs : Int32) (hcs : ¬ cs = 0) (SC : Sta Z Z.heap "java/lang/String" "COMPACT_STRINGS" "Z" (.int cs)) (hEW : EW Z a0 EL) (d : Addr) (ck : ClassId) (L : List Int32) (M : Nat) (h0 : Heap) (n0 : Nat) (OD : Old Z n0 h0) (D : Arv Z h0 d ck .byte (Int32.ofNat L.length) (L.map Value.int) (.int 0)) (hL : L.length < M) (hM : M ≤ 142) : Mt l Z M_cpo [] n0 #[(.ref d), (.int (Int32.ofNat M))] h0 (fun v h => ∃ e ck', v = some (.ref e) ∧ h0.size ≤ e ∧ n0 ≤ e ∧ Keep h0 h [] ∧ Arv Z h e ck' .byte (Int32.ofNat M) ((L ++ List.replicate (M - L.length) 0).map Value.int) (.int 0)) :=
  mt_of_kw (P := ([], fun _ => False)) pf_cpo (fun m => by first | (simp [entryFrame, mkF, argsToLocals, Value.category]; done) | rfl) (kw_cpo l Z a0 hw cs hcs SC hEW d ck L M h0 n0 OD D hL hM)
abbrev M_ece : MD := ((⟨"java/lang/AbstractStringBuilder", "ensureCapacityInternal", "(I)V"⟩ : MethodName), jdk_68_method_9_code, 3, none, { frames := 3, cells := 1, slots := 142, locals := 64 })
theorem d_ece_0 : decode jdk_68_method_9_code 0 = .ok (.aload_n 0, 1) := by decide +kernel
theorem d_ece_1 : decode jdk_68_method_9_code 1 = .ok (.getfield 15, 3) := by decide +kernel
theorem d_ece_4 : decode jdk_68_method_9_code 4 = .ok (.arraylength, 1) := by decide +kernel
theorem d_ece_5 : decode jdk_68_method_9_code 5 = .ok (.aload_n 0, 1) := by decide +kernel
theorem d_ece_6 : decode jdk_68_method_9_code 6 = .ok (.getfield 22, 3) := by decide +kernel
theorem d_ece_9 : decode jdk_68_method_9_code 9 = .ok (.ishr, 1) := by decide +kernel
theorem d_ece_10 : decode jdk_68_method_9_code 10 = .ok (.istore_n 2, 1) := by decide +kernel
theorem d_ece_11 : decode jdk_68_method_9_code 11 = .ok (.iload_n 1, 1) := by decide +kernel
theorem d_ece_12 : decode jdk_68_method_9_code 12 = .ok (.iload_n 2, 1) := by decide +kernel
theorem d_ece_13 : decode jdk_68_method_9_code 13 = .ok (.isub, 1) := by decide +kernel
theorem d_ece_14 : decode jdk_68_method_9_code 14 = .ok (.ifCond .le 24, 3) := by decide +kernel
theorem d_ece_17 : decode jdk_68_method_9_code 17 = .ok (.aload_n 0, 1) := by decide +kernel
theorem d_ece_18 : decode jdk_68_method_9_code 18 = .ok (.aload_n 0, 1) := by decide +kernel
theorem d_ece_19 : decode jdk_68_method_9_code 19 = .ok (.getfield 15, 3) := by decide +kernel
theorem d_ece_22 : decode jdk_68_method_9_code 22 = .ok (.aload_n 0, 1) := by decide +kernel
theorem d_ece_23 : decode jdk_68_method_9_code 23 = .ok (.iload_n 1, 1) := by decide +kernel
theorem d_ece_24 : decode jdk_68_method_9_code 24 = .ok (.invokevirtual 104, 3) := by decide +kernel
theorem d_ece_27 : decode jdk_68_method_9_code 27 = .ok (.aload_n 0, 1) := by decide +kernel
theorem d_ece_28 : decode jdk_68_method_9_code 28 = .ok (.getfield 22, 3) := by decide +kernel
theorem d_ece_31 : decode jdk_68_method_9_code 31 = .ok (.ishl, 1) := by decide +kernel
theorem d_ece_32 : decode jdk_68_method_9_code 32 = .ok (.invokestatic 108, 3) := by decide +kernel
theorem d_ece_35 : decode jdk_68_method_9_code 35 = .ok (.putfield 15, 3) := by decide +kernel
theorem d_ece_38 : decode jdk_68_method_9_code 38 = .ok (.return_, 1) := by decide +kernel
theorem pd_ece : parseMethodDescriptor "(I)V" = some ⟨[.int], none⟩ := by decide +kernel
theorem pf_ece : plainFor (⟨"java/lang/AbstractStringBuilder", "ensureCapacityInternal", "(I)V"⟩ : MethodName) = true := by first | exact plainFor_of_name (by first | (simp [plainName, overriddenIn]; done) | decide +kernel) | decide +kernel
set_option maxRecDepth 65536 in
set_option maxHeartbeats 40000000 in
theorem kw_eceS (l : Launch) (Z : State) (a0 : Array Value) (hw : ∀ d ∈ tables_1, d.before a0 Z = true) (cs : Int32) (hcs : ¬ cs = 0) (SC : Sta Z Z.heap "java/lang/String" "COMPACT_STRINGS" "Z" (.int cs)) (hEW : EW Z a0 EL) (b d : Addr) (N : Nat) (bs : List Int32) (h0 : Heap) (n0 : Nat) (OD : Old Z n0 h0) (SB : Sb Z h0 b d N bs) (mm : Nat) (m1 : Int32) (hm : m1 = Int32.ofNat mm) (hmm : mm ≤ N)  : KW false l Z M_ece n0 (fun v h => v = none ∧ h0 = h) ([], fun _ => False) h0 0 0 0 #[.val (.ref b), .val (.int m1), .unset] [] := by
  obtain ⟨ckB, zs, EB, VB, CB, NB, AB, hN, hN2⟩ := id SB
  refine k_aloadN d_ece_0 rfl rfl rfl ?_
  refine k_getField d_ece_1 rfl (hw _ (List.mem_of_getElem? (i := 44) rfl)) Via.refl VB ?_
  refine k_arrlen d_ece_4 rfl AB ?_
  refine k_aloadN d_ece_5 rfl rfl rfl ?_
  refine k_getField d_ece_6 rfl (hw _ (List.mem_of_getElem? (i := 46) rfl)) Via.refl CB ?_
  refine k_ishr d_ece_9 rfl ?_
  refine k_istoreN (Ls' := #[.val (.ref b), .val (.int m1), .val (.int ((Int32.ofNat N) >>> ((0 : Int32) &&& 31)))]) d_ece_10 rfl rfl ?_
  refine k_iloadN d_ece_11 rfl rfl ?_
  refine k_iloadN d_ece_12 rfl rfl ?_
  refine k_isub d_ece_13 rfl ?_
  refine k_ifc (pc1 := 38) (pc' := 17) d_ece_14 (by decide) (by decide) rfl (fun (cd1 : ¬ (0 : Int32) < (m1 - ((Int32.ofNat N) >>> ((0 : Int32) &&& 31)))) => ?_) (fun (cd1 : (0 : Int32) < (m1 - ((Int32.ofNat N) >>> ((0 : Int32) &&& 31)))) => False.elim (by subst hm; exact ix_room hN2 hmm cd1))
  exact k_retVoid d_ece_38 rfl (by decide) (by decide) ⟨rfl, rfl⟩
theorem mt_eceS (l : Launch) (Z : State) (a0 : Array Value) (hw : ∀ d ∈ tables_1, d.before a0 Z = true) (cs : Int32) (hcs : ¬ cs = 0) (SC : Sta Z Z.heap "java/lang/String" "COMPACT_STRINGS" "Z" (.int cs)) (hEW : EW Z a0 EL) (b d : Addr) (N : Nat) (bs : List Int32) (h0 : Heap) (n0 : Nat) (OD : Old Z n0 h0) (SB : Sb Z h0 b d N bs) (mm : Nat) (m1 : Int32) (hm : m1 = Int32.ofNat mm) (hmm : mm ≤ N)  : Mt l Z M_ece [] n0 #[(.ref b), (.int m1)] h0 (fun v h => v = none ∧ h0 = h) :=
  mt_of_kw (P := ([], fun _ => False)) pf_ece (fun m => by first | (simp [entryFrame, mkF, argsToLocals, Value.category]; done) | rfl) (kw_eceS l Z a0 hw cs hcs SC hEW b d N bs h0 n0 OD SB mm m1 hm hmm)
set_option maxRecDepth 65536 in
set_option maxHeartbeats 40000000 in
theorem kw_eceG (l : Launch) (Z : State) (a0 : Array Value) (hw : ∀ d ∈ tables_1, d.before a0 Z = true) (cs : Int32) (hcs : ¬ cs = 0) (SC : Sta Z Z.heap "java/lang/String" "COMPACT_STRINGS" "Z" (.int cs)) (hEW : EW Z a0 EL) (b d : Addr) (N : Nat) (bs : List Int32) (h0 : Heap) (n0 : Nat) (OD : Old Z n0 h0) (SB : Sb Z h0 b d N bs) (mm : Nat) (m1 : Int32) (hm : m1 = Int32.ofNat mm) (h1 : N < mm) (h2 : mm ≤ N + (N + 2)) (h3 : N + (N + 2) ≤ 142) (gb : n0 ≤ b) : KW false l Z M_ece n0 (fun v h => v = none ∧ ∃ e, h0.size ≤ e ∧ n0 ≤ e ∧ Keep h0 h [b] ∧ Sb Z h b e (N + (N + 2)) bs) ([], fun _ => False) h0 0 0 0 #[.val (.ref b), .val (.int m1), .unset] [] := by
  obtain ⟨ckB, zs, EB, VB, CB, NB, AB, hN, hN2⟩ := id SB
  have K0 : Keep h0 h0 [b] := Keep.refl _ _
  refine k_aloadN d_ece_0 rfl rfl rfl ?_
  refine k_getField d_ece_1 rfl (hw _ (List.mem_of_getElem? (i := 44) rfl)) Via.refl VB ?_
  refine k_arrlen d_ece_4 rfl AB ?_
  refine k_aloadN d_ece_5 rfl rfl rfl ?_
  refine k_getField d_ece_6 rfl (hw _ (List.mem_of_getElem? (i := 46) rfl)) Via.refl CB ?_
  refine k_ishr d_ece_9 rfl ?_
  refine k_istoreN (Ls' := #[.val (.ref b), .val (.int m1), .val (.int ((Int32.ofNat N) >>> ((0 : Int32) &&& 31)))]) d_ece_10 rfl rfl ?_
  refine k_iloadN d_ece_11 rfl rfl ?_
  refine k_iloadN d_ece_12 rfl rfl ?_
  refine k_isub d_ece_13 rfl ?_
  refine k_ifc (pc1 := 38) (pc' := 17) d_ece_14 (by decide) (by decide) rfl (fun (cd2 : ¬ (0 : Int32) < (m1 - ((Int32.ofNat N) >>> ((0 : Int32) &&& 31)))) => absurd (by exact own_growN hm h1 (by omega)) cd2) (fun (cd2 : (0 : Int32) < (m1 - ((Int32.ofNat N) >>> ((0 : Int32) &&& 31)))) => ?_)
  refine k_aloadN d_ece_17 rfl rfl rfl ?_
  refine k_aloadN d_ece_18 rfl rfl rfl ?_
  refine k_getField d_ece_19 rfl (hw _ (List.mem_of_getElem? (i := 44) rfl)) Via.refl VB ?_
  refine k_aloadN d_ece_22 rfl rfl rfl ?_
  refine k_iloadN d_ece_23 rfl rfl ?_
  refine k_callVirtual (argsL := [(.int m1)]) (rest := [(.ref d), (.ref b)]) (W0 := 2) d_ece_24 rfl (mt_ncp l Z a0 hw cs hcs SC hEW b d N bs h0 n0 OD SB mm m1 hm h1 h2 h3) Kp.strict EB (hw _ (List.mem_of_getElem? (i := 174) rfl)) (own_decl (hw _ (List.mem_of_getElem? (i := 175) rfl)) (hw _ (List.mem_of_getElem? (i := 178) rfl))) (hw _ (List.mem_of_getElem? (i := 177) rfl)) (hw _ (List.mem_of_getElem? (i := 82) rfl)) rfl (hw _ (List.mem_of_getElem? (i := 175) rfl)) (hw _ (List.mem_of_getElem? (i := 178) rfl)) (hw _ (List.mem_of_getElem? (i := 39) rfl)) (by decide) pd_ncp rfl rfl rfl rfl (by decide) (by decide) (by decide) (by decide) ?_
  rintro _ _ - ⟨rfl, rfl⟩
  refine KW.any (P' := ([], fun _ => False)) ?_
  show KW false l Z M_ece n0 (fun v h => v = none ∧ ∃ e, h0.size ≤ e ∧ n0 ≤ e ∧ Keep h0 h [b] ∧ Sb Z h b e (N + (N + 2)) bs) ([], fun _ => False) h0 0 0 27 #[.val (.ref b), .val (.int m1), .val (.int ((Int32.ofNat N) >>> ((0 : Int32) &&& 31)))] [(.int (Int32.ofNat (N + (N + 2)))), (.ref d), (.ref b)]
  refine k_aloadN d_ece_27 rfl rfl rfl ?_
  refine k_getField d_ece_28 rfl (hw _ (List.mem_of_getElem? (i := 46) rfl)) Via.refl CB ?_
  refine k_ishl d_ece_31 rfl ?_
  refine KW.top (congrArg Value.int (shl0 _)) ?_
  show KW false l Z M_ece n0 (fun v h => v = none ∧ ∃ e, h0.size ≤ e ∧ n0 ≤ e ∧ Keep h0 h [b] ∧ Sb Z h b e (N + (N + 2)) bs) ([], fun _ => False) h0 0 0 32 #[.val (.ref b), .val (.int m1), .val (.int ((Int32.ofNat N) >>> ((0 : Int32) &&& 31)))] [(.int (Int32.ofNat (N + (N + 2)))), (.ref d), (.ref b)]
  refine k_callStatic (argsL := [(.ref d), (.int (Int32.ofNat (N + (N + 2))))]) (rest := [(.ref b)]) (W0 := 1) d_ece_32 rfl (mt_cpo l Z a0 hw cs hcs SC hEW d ckB (bs ++ zs) (N + (N + 2)) h0 n0 OD (by rw [hN]; exact AB) (by omega) h3) Kp.strict (hw _ (List.mem_of_getElem? (i := 188) rfl)) (hw _ (List.mem_of_getElem? (i := 189) rfl)) (hw _ (List.mem_of_getElem? (i := 162) rfl)) (hw _ (List.mem_of_getElem? (i := 190) rfl)) (by decide) pd_cpo rfl rfl rfl rfl (by decide) (by decide) (by decide) (by decide) ?_
  rintro _ hM - ⟨e, ck', rfl, ge1, ge2, KM, VM⟩
  have ne1 : b ≠ e := Nat.ne_of_lt (Nat.lt_of_lt_of_le EB.lt ge1)
  refine KW.any (P' := ([], fun _ => False)) ?_
  show KW false l Z M_ece n0 (fun v h => v = none ∧ ∃ e, h0.size ≤ e ∧ n0 ≤ e ∧ Keep h0 h [b] ∧ Sb Z h b e (N + (N + 2)) bs) ([], fun _ => False) hM 1 142 35 #[.val (.ref b), .val (.int m1), .val (.int ((Int32.ofNat N) >>> ((0 : Int32) &&& 31)))] [(.ref e), (.ref b)]
  have f4 := (VB.keep KM nin0)
  have f5 := (EB.keep KM)
  refine k_put (v' := (.ref e)) (ty := (.array .byte)) d_ece_35 rfl (hw _ (List.mem_of_getElem? (i := 44) rfl)) Via.refl f4 f5 (Or.inl (hw _ (List.mem_of_getElem? (i := 45) rfl))) (hw _ (List.mem_of_getElem? (i := 30) rfl)) (by decide) rfl rfl gb (fun q => by cases q) ?_
  intro h2 W3
  have F6 := f4.same W3
  show KW false l Z M_ece n0 (fun v h => v = none ∧ ∃ e, h0.size ≤ e ∧ n0 ≤ e ∧ Keep h0 h [b] ∧ Sb Z h b e (N + (N + 2)) bs) ([], fun _ => False) h2 1 142 38 #[.val (.ref b), .val (.int m1), .val (.int ((Int32.ofNat N) >>> ((0 : Int32) &&& 31)))] []
  have f7 := ((K0.trans KM all0).wr W3 (Or.inl (by simp)))
  have f8 := (f5.wr W3)
  have f9 := ((CB.keep KM nin0).other W3 (Or.inr (slot_ne (t := .byte) (t' := (.array .byte)) (Or.inl (hw _ (List.mem_of_getElem? (i := 47) rfl))) (Or.inl (hw _ (List.mem_of_getElem? (i := 45) rfl))) (by decide) (by decide) (by decide))))
  have f10 := ((NB.keep KM nin0).other W3 (Or.inr (slot_ne (t := .int) (t' := (.array .byte)) (Or.inl (hw _ (List.mem_of_getElem? (i := 78) rfl))) (Or.inl (hw _ (List.mem_of_getElem? (i := 45) rfl))) (by decide) (by decide) (by decide))))
  have f11 := (VM.other W3 (Ne.symm ne1))
  exact k_retVoid d_ece_38 rfl (by decide) (by decide) ⟨rfl, e, ge1, ge2, f7, ⟨ck', zs ++ List.replicate (N + (N + 2) - (bs ++ zs).length) 0, f8, F6, f9, f10, by rw [← List.append_assoc]; exact f11, by rw [← List.append_assoc, List.length_append, List.length_replicate]; omega, by omega⟩⟩
theorem mt_eceG (l : Launch) (Z : State) (a0 : Array Value) (hw : ∀ d ∈ tables_1, d.before a0 Z = true) (cs : Int32) (hcs : ¬ cs = 0) (SC : Sta Z Z.heap "java/lang/String" "COMPACT_STRINGS" "Z" (.int cs)) (hEW : EW Z a0 EL) (b d : Addr) (N : Nat) (bs : List Int32) (h0 : Heap) (n0 : Nat) (OD : Old Z n0 h0) (SB : Sb Z h0 b d N bs) (mm : Nat) (m1 : Int32) (hm : m1 = Int32.ofNat mm) (h1 : N < mm) (h2 : mm ≤ N + (N + 2)) (h3 : N + (N + 2) ≤ 142) (gb : n0 ≤ b) : Mt l Z M_ece [] n0 #[(.ref b), (.int m1)] h0 (fun v h => v = none ∧ ∃ e, h0.size ≤ e ∧ n0 ≤ e ∧ Keep h0 h [b] ∧ Sb Z h b e (N + (N + 2)) bs) :=
  mt_of_kw (P := ([], fun _ => False)) pf_ece (fun m => by first | (simp [entryFrame, mkF, argsToLocals, Value.category]; done) | rfl) (kw_eceG l Z a0 hw cs hcs SC hEW b d N bs h0 n0 OD SB mm m1 hm h1 h2 h3 gb)
theorem mt_ece (l : Launch) (Z : State) (a0 : Array Value) (hw : ∀ d ∈ tables_1, d.before a0 Z = true) (cs : Int32) (hcs : ¬ cs = 0) (SC : Sta Z Z.heap "java/lang/String" "COMPACT_STRINGS" "Z" (.int cs)) (hEW : EW Z a0 EL) (b d : Addr) (N : Nat) (bs : List Int32) (h0 : Heap) (n0 : Nat) (OD : Old Z n0 h0) (SB : Sb Z h0 b d N bs) (N' mm : Nat) (m1 : Int32) (hm : m1 = Int32.ofNat mm) (hcap : (mm ≤ N ∧ N' = N) ∨ (N < mm ∧ mm ≤ N + (N + 2) ∧ N + (N + 2) ≤ 142 ∧ N' = N + (N + 2))) (gb : n0 ≤ b) (gd : n0 ≤ d) : Mt l Z M_ece [] n0 #[.ref b, .int m1] h0 (fun v h => v = none ∧ ∃ e, (e = d ∨ h0.size ≤ e) ∧ n0 ≤ e ∧ Keep h0 h [b] ∧ Sb Z h b e N' bs) := by
  rcases hcap with ⟨a, e⟩ | ⟨h1, h2, h3, e⟩ <;> rw [e]
  · refine Mt.mono (mt_eceS l Z a0 hw cs hcs SC hEW b d N bs h0 n0 OD SB mm m1 hm a) (fun v h q => ?_)
    obtain ⟨q1, rfl⟩ := q
    exact ⟨q1, d, Or.inl rfl, gd, Keep.refl _ _, SB⟩
  · refine Mt.mono (mt_eceG l Z a0 hw cs hcs SC hEW b d N bs h0 n0 OD SB mm m1 hm h1 h2 h3 gb) (fun v h q => ?_)
    obtain ⟨q1, e, q2, q3, q4, q5⟩ := q
    exact ⟨q1, e, Or.inr q2, q3, q4, q5⟩
abbrev M_aas : MD := ((⟨"java/lang/AbstractStringBuilder", "append", "(Ljava/lang/String;)Ljava/lang/AbstractStringBuilder;"⟩ : MethodName), jdk_68_method_22_code, 3, (some (.object "java/lang/AbstractStringBuilder")), { frames := 4, cells := 1, slots := 142, locals := 84 })
theorem d_aas_0 : decode jdk_68_method_22_code 0 = .ok (.aload_n 1, 1) := by decide +kernel
theorem d_aas_1 : decode jdk_68_method_22_code 1 = .ok (.ifnonnull 8, 3) := by decide +kernel
theorem d_aas_4 : decode jdk_68_method_22_code 4 = .ok (.aload_n 0, 1) := by decide +kernel
theorem d_aas_5 : decode jdk_68_method_22_code 5 = .ok (.invokevirtual 204, 3) := by decide +kernel
theorem d_aas_8 : decode jdk_68_method_22_code 8 = .ok (.areturn, 1) := by decide +kernel
theorem d_aas_9 : decode jdk_68_method_22_code 9 = .ok (.aload_n 1, 1) := by decide +kernel
theorem d_aas_10 : decode jdk_68_method_22_code 10 = .ok (.invokevirtual 32, 3) := by decide +kernel
theorem d_aas_13 : decode jdk_68_method_22_code 13 = .ok (.istore_n 2, 1) := by decide +kernel
theorem d_aas_14 : decode jdk_68_method_22_code 14 = .ok (.aload_n 0, 1) := by decide +kernel
theorem d_aas_15 : decode jdk_68_method_22_code 15 = .ok (.aload_n 0, 1) := by decide +kernel
theorem d_aas_16 : decode jdk_68_method_22_code 16 = .ok (.getfield 79, 3) := by decide +kernel
theorem d_aas_19 : decode jdk_68_method_22_code 19 = .ok (.iload_n 2, 1) := by decide +kernel
theorem d_aas_20 : decode jdk_68_method_22_code 20 = .ok (.iadd, 1) := by decide +kernel
theorem d_aas_21 : decode jdk_68_method_22_code 21 = .ok (.invokevirtual 100, 3) := by decide +kernel
theorem d_aas_24 : decode jdk_68_method_22_code 24 = .ok (.aload_n 0, 1) := by decide +kernel
theorem d_aas_25 : decode jdk_68_method_22_code 25 = .ok (.aload_n 0, 1) := by decide +kernel
theorem d_aas_26 : decode jdk_68_method_22_code 26 = .ok (.getfield 79, 3) := by decide +kernel
theorem d_aas_29 : decode jdk_68_method_22_code 29 = .ok (.aload_n 1, 1) := by decide +kernel
theorem d_aas_30 : decode jdk_68_method_22_code 30 = .ok (.invokevirtual 208, 3) := by decide +kernel
theorem d_aas_33 : decode jdk_68_method_22_code 33 = .ok (.aload_n 0, 1) := by decide +kernel
theorem d_aas_34 : decode jdk_68_method_22_code 34 = .ok (.dup, 1) := by decide +kernel
theorem d_aas_35 : decode jdk_68_method_22_code 35 = .ok (.getfield 79, 3) := by decide +kernel
theorem d_aas_38 : decode jdk_68_method_22_code 38 = .ok (.iload_n 2, 1) := by decide +kernel
theorem d_aas_39 : decode jdk_68_method_22_code 39 = .ok (.iadd, 1) := by decide +kernel
theorem d_aas_40 : decode jdk_68_method_22_code 40 = .ok (.putfield 79, 3) := by decide +kernel
theorem d_aas_43 : decode jdk_68_method_22_code 43 = .ok (.aload_n 0, 1) := by decide +kernel
theorem d_aas_44 : decode jdk_68_method_22_code 44 = .ok (.areturn, 1) := by decide +kernel
theorem pd_aas : parseMethodDescriptor "(Ljava/lang/String;)Ljava/lang/AbstractStringBuilder;" = some ⟨[(.object "java/lang/String")], (some (.object "java/lang/AbstractStringBuilder"))⟩ := by decide +kernel
theorem pf_aas : plainFor (⟨"java/lang/AbstractStringBuilder", "append", "(Ljava/lang/String;)Ljava/lang/AbstractStringBuilder;"⟩ : MethodName) = true := by first | exact plainFor_of_name (by first | (simp [plainName, overriddenIn]; done) | decide +kernel) | decide +kernel
set_option maxRecDepth 65536 in
set_option maxHeartbeats 40000000 in
theorem kw_aas (l : Launch) (Z : State) (a0 : Array Value) (hw : ∀ d ∈ tables_1, d.before a0 Z = true) (cs : Int32) (hcs : ¬ cs = 0) (SC : Sta Z Z.heap "java/lang/String" "COMPACT_STRINGS" "Z" (.int cs)) (hEW : EW Z a0 EL) (b d s t : Addr) (N : Nat) (bs xs : List Int32) (h0 : Heap) (n0 : Nat) (OD : Old Z n0 h0) (SB : Sb Z h0 b d N bs) (N' : Nat) (SA : Sg Z h0 s t xs) (hbd : b ≠ d) (gb : n0 ≤ b) (gd : n0 ≤ d) (hcap : (bs.length + xs.length ≤ N ∧ N' = N) ∨ (N < bs.length + xs.length ∧ bs.length + xs.length ≤ N + (N + 2) ∧ N + (N + 2) ≤ 142 ∧ N' = N + (N + 2))) : KW false l Z M_aas n0 (fun v h => v = some (.ref b) ∧ ∃ e, (e = d ∨ h0.size ≤ e) ∧ n0 ≤ e ∧ b ≠ e ∧ Keep h0 h [b, d] ∧ Sb Z h b e N' (bs ++ xs)) ([], fun _ => False) h0 0 0 0 #[.val (.ref b), .val (.ref s), .unset] [] := by
  obtain ⟨ckB, zs, EB, VB, CB, NB, AB, hN, hN2⟩ := id SB
  have K0 : Keep h0 h0 [b, d] := Keep.refl _ _
  have hsb : s ≠ b := Exa.ne SA.exa EB (by decide)
  have htb : t ≠ b := by
    obtain ⟨ckT, -, -, -, AT, -⟩ := id SA
    exact (Exa.neArv EB AT (hw _ (List.mem_of_getElem? (i := 30) rfl))).symm
  refine k_aloadN d_aas_0 rfl rfl rfl ?_
  refine k_ifnonnullY (pc' := 9) d_aas_1 (by decide) (by decide) ?_
  refine k_aloadN d_aas_9 rfl rfl rfl ?_
  refine k_callVirtual (argsL := []) (rest := []) (W0 := 0) d_aas_10 rfl (mt_len l Z a0 hw cs hcs SC hEW s t xs h0 n0 OD SA) Kp.strict SA.exa (hw _ (List.mem_of_getElem? (i := 64) rfl)) (hw _ (List.mem_of_getElem? (i := 65) rfl)) (hw _ (List.mem_of_getElem? (i := 67) rfl)) (hw _ (List.mem_of_getElem? (i := 67) rfl)) rfl (hw _ (List.mem_of_getElem? (i := 66) rfl)) (hw _ (List.mem_of_getElem? (i := 68) rfl)) (hw _ (List.mem_of_getElem? (i := 43) rfl)) (by decide) pd_len rfl rfl rfl rfl (by decide) (by decide) (by decide) (by decide) ?_
  rintro _ _ - ⟨rfl, rfl⟩
  refine KW.any (P' := ([], fun _ => False)) ?_
  show KW false l Z M_aas n0 (fun v h => v = some (.ref b) ∧ ∃ e, (e = d ∨ h0.size ≤ e) ∧ n0 ≤ e ∧ b ≠ e ∧ Keep h0 h [b, d] ∧ Sb Z h b e N' (bs ++ xs)) ([], fun _ => False) h0 0 0 13 #[.val (.ref b), .val (.ref s), .unset] [(.int (Int32.ofNat xs.length))]
  refine k_istoreN (Ls' := #[.val (.ref b), .val (.ref s), .val (.int (Int32.ofNat xs.length))]) d_aas_13 rfl rfl ?_
  refine k_aloadN d_aas_14 rfl rfl rfl ?_
  refine k_aloadN d_aas_15 rfl rfl rfl ?_
  refine k_getField d_aas_16 rfl (hw _ (List.mem_of_getElem? (i := 77) rfl)) Via.refl NB ?_
  refine k_iloadN d_aas_19 rfl rfl ?_
  refine k_iadd d_aas_20 rfl ?_
  refine k_callVirtual (argsL := [(.int ((Int32.ofNat bs.length) + (Int32.ofNat xs.length)))]) (rest := []) (W0 := 0) d_aas_21 rfl (mt_ece l Z a0 hw cs hcs SC hEW b d N bs h0 n0 OD SB N' (bs.length + xs.length) _ (ix_add _ _) hcap gb gd) Kp.strict EB (hw _ (List.mem_of_getElem? (i := 79) rfl)) (own_decl (hw _ (List.mem_of_getElem? (i := 80) rfl)) (hw _ (List.mem_of_getElem? (i := 83) rfl))) (hw _ (List.mem_of_getElem? (i := 82) rfl)) (hw _ (List.mem_of_getElem? (i := 82) rfl)) rfl (hw _ (List.mem_of_getElem? (i := 80) rfl)) (hw _ (List.mem_of_getElem? (i := 83) rfl)) (hw _ (List.mem_of_getElem? (i := 39) rfl)) (by decide) pd_ece rfl rfl rfl rfl (by decide) (by decide) (by decide) (by decide) ?_
  rintro _ hM - ⟨rfl, e, he, ge, KM, SBM⟩
  obtain ⟨ck2, zs2, EB2, VB2, CB2, NB2, AB2, hN3, hN4⟩ := id SBM
  have hbe : b ≠ e := by
    rcases he with he | he
    · rw [he]; exact hbd
    · exact Nat.ne_of_lt (Nat.lt_of_lt_of_le SB.lt he)
  refine KW.any (P' := ([], fun _ => False)) ?_
  show KW false l Z M_aas n0 (fun v h => v = some (.ref b) ∧ ∃ e, (e = d ∨ h0.size ≤ e) ∧ n0 ≤ e ∧ b ≠ e ∧ Keep h0 h [b, d] ∧ Sb Z h b e N' (bs ++ xs)) ([], fun _ => False) hM 1 142 24 #[.val (.ref b), .val (.ref s), .val (.int (Int32.ofNat xs.length))] []
  refine k_aloadN d_aas_24 rfl rfl rfl ?_
  refine k_aloadN d_aas_25 rfl rfl rfl ?_
  refine k_getField d_aas_26 rfl (hw _ (List.mem_of_getElem? (i := 77) rfl)) Via.refl NB2 ?_
  refine k_aloadN d_aas_29 rfl rfl rfl ?_
  have fit : xs.length ≤ zs2.length := by rw [List.length_append] at hN3; omega
  have f1 := (OD.keep KM (allS gb all0))
  have f2 := (SA.keep KM (ninS hsb nin0) (ninS htb nin0))
  have f3 := (K0.trans KM (allS (Or.inl (by simp)) all0))
  refine k_callVirtual (argsL := [(.int (Int32.ofNat bs.length)), (.ref s)]) (rest := []) (W0 := 0) d_aas_30 rfl (mt_psa l Z a0 hw cs hcs SC hEW b e s t ck2 _ bs zs2 xs hM n0 f1 EB2 VB2 CB2 AB2 hN3 hN4 f2 fit ge) Kp.strict EB2 (hw _ (List.mem_of_getElem? (i := 84) rfl)) (own_decl (hw _ (List.mem_of_getElem? (i := 85) rfl)) (hw _ (List.mem_of_getElem? (i := 88) rfl))) (hw _ (List.mem_of_getElem? (i := 87) rfl)) (hw _ (List.mem_of_getElem? (i := 82) rfl)) rfl (hw _ (List.mem_of_getElem? (i := 85) rfl)) (hw _ (List.mem_of_getElem? (i := 88) rfl)) (hw _ (List.mem_of_getElem? (i := 39) rfl)) (by decide) pd_psa rfl rfl rfl rfl (by decide) (by decide) (by decide) (by decide) ?_
  rintro _ hW - ⟨rfl, KW_, VW⟩
  refine KW.any (P' := ([], fun _ => False)) ?_
  show KW false l Z M_aas n0 (fun v h => v = some (.ref b) ∧ ∃ e, (e = d ∨ h0.size ≤ e) ∧ n0 ≤ e ∧ b ≠ e ∧ Keep h0 h [b, d] ∧ Sb Z h b e N' (bs ++ xs)) ([], fun _ => False) hW 1 142 33 #[.val (.ref b), .val (.ref s), .val (.int (Int32.ofNat xs.length))] []
  refine k_aloadN d_aas_33 rfl rfl rfl ?_
  refine k_dup d_aas_34 rfl rfl ?_
  have f4 := (NB2.keep KW_ (ninS hbe nin0))
  refine k_getField d_aas_35 rfl (hw _ (List.mem_of_getElem? (i := 77) rfl)) Via.refl f4 ?_
  refine k_iloadN d_aas_38 rfl rfl ?_
  refine k_iadd d_aas_39 rfl ?_
  have f7 := (EB2.keep KW_)
  refine k_put (v' := (.int ((Int32.ofNat bs.length) + (Int32.ofNat xs.length)))) (ty := .int) d_aas_40 rfl (hw _ (List.mem_of_getElem? (i := 77) rfl)) Via.refl f4 f7 (Or.inl (hw _ (List.mem_of_getElem? (i := 78) rfl))) (hw _ (List.mem_of_getElem? (i := 30) rfl)) (by decide) rfl rfl gb (fun q => by cases q) ?_
  intro h5 W6
  have F8 := f4.same W6
  show KW false l Z M_aas n0 (fun v h => v = some (.ref b) ∧ ∃ e, (e = d ∨ h0.size ≤ e) ∧ n0 ≤ e ∧ b ≠ e ∧ Keep h0 h [b, d] ∧ Sb Z h b e N' (bs ++ xs)) ([], fun _ => False) h5 1 142 43 #[.val (.ref b), .val (.ref s), .val (.int (Int32.ofNat xs.length))] []
  refine k_aloadN d_aas_43 rfl rfl rfl ?_
  have f9 := ((f3.trans KW_ (allS (he.elim (fun q => Or.inl (by simp [q])) Or.inr) all0)).wr W6 (Or.inl (by simp)))
  have f10 := (f7.wr W6)
  have f11 := ((VB2.keep KW_ (ninS hbe nin0)).other W6 (Or.inr (slot_ne (t := (.array .byte)) (t' := .int) (Or.inl (hw _ (List.mem_of_getElem? (i := 45) rfl))) (Or.inl (hw _ (List.mem_of_getElem? (i := 78) rfl))) (by decide) (by decide) (by decide))))
  have f12 := ((CB2.keep KW_ (ninS hbe nin0)).other W6 (Or.inr (slot_ne (t := .byte) (t' := .int) (Or.inl (hw _ (List.mem_of_getElem? (i := 47) rfl))) (Or.inl (hw _ (List.mem_of_getElem? (i := 78) rfl))) (by decide) (by decide) (by decide))))
  have f13 := (VW.other W6 (Ne.symm hbe))
  exact k_retRef d_aas_44 rfl rfl rfl (by decide) (by decide) ⟨rfl, e, he, ge, hbe, f9, ⟨ck2, zs2.drop xs.length, f10, f11, f12, by rw [List.length_append, ← ix_add]; exact F8, f13, (by simp only [List.length_append, List.length_drop] at hN3 ⊢; omega), hN4⟩⟩
theorem mt_aas (l : Launch) (Z : State) (a0 : Array Value) (hw : ∀ d ∈ tables_1, d.before a0 Z = true) (cs : Int32) (hcs : ¬ cs = 0) (SC : Sta Z Z.heap "java/lang/String" "COMPACT_STRINGS" "Z" (.int cs)) (hEW : EW Z a0 EL) (b d s t : Addr) (N : Nat) (bs xs : List Int32) (h0 : Heap) (n0 : Nat) (OD : Old Z n0 h0) (SB : Sb Z h0 b d N bs) (N' : Nat) (SA : Sg Z h0 s t xs) (hbd : b ≠ d) (gb : n0 ≤ b) (gd : n0 ≤ d) (hcap : (bs.length + xs.length ≤ N ∧ N' = N) ∨ (N < bs.length + xs.length ∧ bs.length + xs.length ≤ N + (N + 2) ∧ N + (N + 2) ≤ 142 ∧ N' = N + (N + 2))) : Mt l Z M_aas [] n0 #[(.ref b), (.ref s)] h0 (fun v h => v = some (.ref b) ∧ ∃ e, (e = d ∨ h0.size ≤ e) ∧ n0 ≤ e ∧ b ≠ e ∧ Keep h0 h [b, d] ∧ Sb Z h b e N' (bs ++ xs)) :=
  mt_of_kw (P := ([], fun _ => False)) pf_aas (fun m => by first | (simp [entryFrame, mkF, argsToLocals, Value.category]; done) | rfl) (kw_aas l Z a0 hw cs hcs SC hEW b d s t N bs xs h0 n0 OD SB N' SA hbd gb gd hcap)
abbrev M_sas : MD := ((⟨"java/lang/StringBuilder", "append", "(Ljava/lang/String;)Ljava/lang/StringBuilder;"⟩ : MethodName), jdk_67_method_7_code, 2, (some (.object "java/lang/StringBuilder")), { frames := 5, cells := 1, slots := 142, locals := 100 })
theorem d_sas_0 : decode jdk_67_method_7_code 0 = .ok (.aload_n 0, 1) := by decide +kernel
theorem d_sas_1 : decode jdk_67_method_7_code 1 = .ok (.aload_n 1, 1) := by decide +kernel
theorem d_sas_2 : decode jdk_67_method_7_code 2 = .ok (.invokespecial 29, 3) := by decide +kernel
theorem d_sas_5 : decode jdk_67_method_7_code 5 = .ok (.pop, 1) := by decide +kernel
theorem d_sas_6 : decode jdk_67_method_7_code 6 = .ok (.aload_n 0, 1) := by decide +kernel
theorem d_sas_7 : decode jdk_67_method_7_code 7 = .ok (.areturn, 1) := by decide +kernel
theorem pd_sas : parseMethodDescriptor "(Ljava/lang/String;)Ljava/lang/StringBuilder;" = some ⟨[(.object "java/lang/String")], (some (.object "java/lang/StringBuilder"))⟩ := by decide +kernel
theorem pf_sas : plainFor (⟨"java/lang/StringBuilder", "append", "(Ljava/lang/String;)Ljava/lang/StringBuilder;"⟩ : MethodName) = true := by first | exact plainFor_of_name (by first | (simp [plainName, overriddenIn]; done) | decide +kernel) | decide +kernel
set_option maxRecDepth 65536 in
set_option maxHeartbeats 40000000 in
theorem kw_sas (l : Launch) (Z : State) (a0 : Array Value) (hw : ∀ d ∈ tables_1, d.before a0 Z = true) (cs : Int32) (hcs : ¬ cs = 0) (SC : Sta Z Z.heap "java/lang/String" "COMPACT_STRINGS" "Z" (.int cs)) (hEW : EW Z a0 EL) (b d s t : Addr) (N : Nat) (bs xs : List Int32) (h0 : Heap) (n0 : Nat) (OD : Old Z n0 h0) (SB : Sb Z h0 b d N bs) (N' : Nat) (SA : Sg Z h0 s t xs) (hbd : b ≠ d) (gb : n0 ≤ b) (gd : n0 ≤ d) (hcap : (bs.length + xs.length ≤ N ∧ N' = N) ∨ (N < bs.length + xs.length ∧ bs.length + xs.length ≤ N + (N + 2) ∧ N + (N + 2) ≤ 142 ∧ N' = N + (N + 2))) : KW false l Z M_sas n0 (fun v h => v = some (.ref b) ∧ ∃ e, (e = d ∨ h0.size ≤ e) ∧ n0 ≤ e ∧ b ≠ e ∧ Keep h0 h [b, d] ∧ Sb Z h b e N' (bs ++ xs)) ([], fun _ => False) h0 0 0 0 #[.val (.ref b), .val (.ref s)] [] := by
  obtain ⟨ckB, zs, EB, VB, CB, NB, AB, hN, hN2⟩ := id SB
  refine k_aloadN d_sas_0 rfl rfl rfl ?_
  refine k_aloadN d_sas_1 rfl rfl rfl ?_
  refine k_callSuper (argsL := [(.ref s)]) (rest := []) (W0 := 0) d_sas_2 rfl (mt_aas l Z a0 hw cs hcs SC hEW b d s t N bs xs h0 n0 OD SB N' SA hbd gb gd hcap) Kp.strict EB (hw _ (List.mem_of_getElem? (i := 59) rfl)) (hw _ (List.mem_of_getElem? (i := 62) rfl)) (hw _ (List.mem_of_getElem? (i := 82) rfl)) rfl (hw _ (List.mem_of_getElem? (i := 60) rfl)) (hw _ (List.mem_of_getElem? (i := 61) rfl)) (hw _ (List.mem_of_getElem? (i := 63) rfl)) (hw _ (List.mem_of_getElem? (i := 39) rfl)) (by decide) (by decide) pd_aas rfl rfl rfl rfl (by decide) (by decide) (by decide) (by decide) ?_
  rintro _ hM - ⟨rfl, R1⟩
  refine KW.any (P' := ([], fun _ => False)) ?_
  show KW false l Z M_sas n0 (fun v h => v = some (.ref b) ∧ ∃ e, (e = d ∨ h0.size ≤ e) ∧ n0 ≤ e ∧ b ≠ e ∧ Keep h0 h [b, d] ∧ Sb Z h b e N' (bs ++ xs)) ([], fun _ => False) hM 1 142 5 #[.val (.ref b), .val (.ref s)] [(.ref b)]
  refine k_pop d_sas_5 rfl rfl ?_
  refine k_aloadN d_sas_6 rfl rfl rfl ?_
  exact k_retRef d_sas_7 rfl rfl rfl (by decide) (by decide) ⟨rfl, R1⟩
theorem mt_sas (l : Launch) (Z : State) (a0 : Array Value) (hw : ∀ d ∈ tables_1, d.before a0 Z = true) (cs : Int32) (hcs : ¬ cs = 0) (SC : Sta Z Z.heap "java/lang/String" "COMPACT_STRINGS" "Z" (.int cs)) (hEW : EW Z a0 EL) (b d s t : Addr) (N : Nat) (bs xs : List Int32) (h0 : Heap) (n0 : Nat) (OD : Old Z n0 h0) (SB : Sb Z h0 b d N bs) (N' : Nat) (SA : Sg Z h0 s t xs) (hbd : b ≠ d) (gb : n0 ≤ b) (gd : n0 ≤ d) (hcap : (bs.length + xs.length ≤ N ∧ N' = N) ∨ (N < bs.length + xs.length ∧ bs.length + xs.length ≤ N + (N + 2) ∧ N + (N + 2) ≤ 142 ∧ N' = N + (N + 2))) : Mt l Z M_sas [] n0 #[(.ref b), (.ref s)] h0 (fun v h => v = some (.ref b) ∧ ∃ e, (e = d ∨ h0.size ≤ e) ∧ n0 ≤ e ∧ b ≠ e ∧ Keep h0 h [b, d] ∧ Sb Z h b e N' (bs ++ xs)) :=
  mt_of_kw (P := ([], fun _ => False)) pf_sas (fun m => by first | (simp [entryFrame, mkF, argsToLocals, Value.category]; done) | rfl) (kw_sas l Z a0 hw cs hcs SC hEW b d s t N bs xs h0 n0 OD SB N' SA hbd gb gd hcap)
def T64 : List Int32 := [65, 66, 67, 68, 69, 70, 71, 72, 73, 74, 75, 76, 77, 78, 79, 80, 81, 82, 83, 84, 85, 86, 87, 88, 89, 90, 97, 98, 99, 100, 101, 102, 103, 104, 105, 106, 107, 108, 109, 110, 111, 112, 113, 114, 115, 116, 117, 118, 119, 120, 121, 122, 48, 49, 50, 51, 52, 53, 54, 55, 56, 57, 43, 47]
abbrev tbv (j : Int32) : Int32 := T64.getD j.toNatClampNeg 0
/-- the encoder RFC4648: no URL, no lines, padded -/
def Enc (Z : State) (h : Heap) (en : Addr) : Prop := Exa Z h en "java/util/Base64$Encoder" ∧ Fld Z h en "java/util/Base64$Encoder" "isURL" "Z" (.int 0) ∧ Fld Z h en "java/util/Base64$Encoder" "linemax" "I" (.int (-1)) ∧ Fld Z h en "java/util/Base64$Encoder" "doPadding" "Z" (.int 1)
theorem Enc.ext {Z : State} {h h' : Heap} {en : Addr} (A : Enc Z h en) (E : Ext h h') : Enc Z h' en := ⟨A.1.ext E, A.2.1.ext E, A.2.2.1.ext E, A.2.2.2.ext E⟩
theorem m63 (x : Int32) : ¬ (x &&& (63 : Int32)) < 0 ∧ (x &&& (63 : Int32)) < 64 := by
  have h1 := c_mask x 63 6 (by decide) (by decide)
  constructor
  · rw [Int32.lt_iff_toInt_lt, show (0 : Int32).toInt = 0 from rfl]; omega
  · rw [Int32.lt_iff_toInt_lt, show (64 : Int32).toInt = 64 from rfl]; omega
theorem m6 (x : Int32) : ¬ ((x &&& (255 : Int32)) >>> ((2 : Int32) &&& 31)) < 0 ∧ ((x &&& (255 : Int32)) >>> ((2 : Int32) &&& 31)) < 64 := by
  have h1 := c_mask x 255 8 (by decide) (by decide)
  have h2 := c_ishr (x &&& (255 : Int32)) 2 2 (by decide)
  constructor
  · rw [Int32.lt_iff_toInt_lt, show (0 : Int32).toInt = 0 from rfl]; omega
  · rw [Int32.lt_iff_toInt_lt, show (64 : Int32).toInt = 64 from rfl]; omega
theorem m64 (x y : Int32) : ¬ (((((x &&& (255 : Int32)) <<< ((4 : Int32) &&& 31)) &&& (63 : Int32)) ||| ((y &&& (255 : Int32)) >>> ((4 : Int32) &&& 31)))) < 0 ∧ (((((x &&& (255 : Int32)) <<< ((4 : Int32) &&& 31)) &&& (63 : Int32)) ||| ((y &&& (255 : Int32)) >>> ((4 : Int32) &&& 31)))) < 64 := by
  have h1 := c_mask x 255 8 (by decide) (by decide)
  have h2 := c_mask y 255 8 (by decide) (by decide)
  have h3 := c_ishl (x &&& (255 : Int32)) 4 4 (by decide)
  have h4 := c_mask ((x &&& (255 : Int32)) <<< ((4 : Int32) &&& 31)) 63 6 (by decide) (by decide)
  have h5 := c_ishr (y &&& (255 : Int32)) 4 4 (by decide)
  have h6 := c_or (((x &&& (255 : Int32)) <<< ((4 : Int32) &&& 31)) &&& (63 : Int32)) ((y &&& (255 : Int32)) >>> ((4 : Int32) &&& 31)) 4 (by decide) 16 (by decide) (by omega) (by omega) (by omega)
  have h7 := rng32 ((((x &&& (255 : Int32)) <<< ((4 : Int32) &&& 31)) &&& (63 : Int32)) ||| ((y &&& (255 : Int32)) >>> ((4 : Int32) &&& 31)))
  constructor
  · rw [Int32.lt_iff_toInt_lt, show (0 : Int32).toInt = 0 from rfl]; omega
  · rw [Int32.lt_iff_toInt_lt, show (64 : Int32).toInt = 64 from rfl]; omega
/-- three bytes in one number -/
def w24 (x y z : Int32) : Int32 := ((((x &&& (255 : Int32)) <<< ((16 : Int32) &&& 31)) ||| ((y &&& (255 : Int32)) <<< ((8 : Int32) &&& 31))) ||| (z &&& (255 : Int32)))
theorem own_or3 {n : Nat} (hn : n < 2147483648) : ¬ ((Int32.ofNat n ||| (0 : Int32)) ||| Int32.ofNat n) < 0 := by
  have h1 := ix_int hn
  have h2 := (c_orS (Int32.ofNat n) 0).1 (by omega) (by decide)
  have h3 := (c_orS (Int32.ofNat n ||| (0 : Int32)) (Int32.ofNat n)).1 h2 (by omega)
  rw [Int32.lt_iff_toInt_lt, show (0 : Int32).toInt = 0 from rfl]; omega

abbrev M_adx : MD := ((⟨"java/lang/Math", "addExact", "(II)I"⟩ : MethodName), jdk_29_method_24_code, 3, (some .int), { frames := 0, cells := 0, slots := 0, locals := 0 })
theorem d_adx_0 : decode jdk_29_method_24_code 0 = .ok (.iload_n 0, 1) := by decide +kernel
theorem d_adx_1 : decode jdk_29_method_24_code 1 = .ok (.iload_n 1, 1) := by decide +kernel
theorem d_adx_2 : decode jdk_29_method_24_code 2 = .ok (.iadd, 1) := by decide +kernel
theorem d_adx_3 : decode jdk_29_method_24_code 3 = .ok (.istore_n 2, 1) := by decide +kernel
theorem d_adx_4 : decode jdk_29_method_24_code 4 = .ok (.iload_n 0, 1) := by decide +kernel
theorem d_adx_5 : decode jdk_29_method_24_code 5 = .ok (.iload_n 2, 1) := by decide +kernel
theorem d_adx_6 : decode jdk_29_method_24_code 6 = .ok (.ixor, 1) := by decide +kernel
theorem d_adx_7 : decode jdk_29_method_24_code 7 = .ok (.iload_n 1, 1) := by decide +kernel
theorem d_adx_8 : decode jdk_29_method_24_code 8 = .ok (.iload_n 2, 1) := by decide +kernel
theorem d_adx_9 : decode jdk_29_method_24_code 9 = .ok (.ixor, 1) := by decide +kernel
theorem d_adx_10 : decode jdk_29_method_24_code 10 = .ok (.iand, 1) := by decide +kernel
theorem d_adx_11 : decode jdk_29_method_24_code 11 = .ok (.ifCond .ge 13, 3) := by decide +kernel
theorem d_adx_14 : decode jdk_29_method_24_code 14 = .ok (.new 109, 3) := by decide +kernel
theorem d_adx_17 : decode jdk_29_method_24_code 17 = .ok (.dup, 1) := by decide +kernel
theorem d_adx_18 : decode jdk_29_method_24_code 18 = .ok (.ldc 111, 2) := by decide +kernel
theorem d_adx_20 : decode jdk_29_method_24_code 20 = .ok (.invokespecial 113, 3) := by decide +kernel
theorem d_adx_23 : decode jdk_29_method_24_code 23 = .ok (.athrow, 1) := by decide +kernel
theorem d_adx_24 : decode jdk_29_method_24_code 24 = .ok (.iload_n 2, 1) := by decide +kernel
theorem d_adx_25 : decode jdk_29_method_24_code 25 = .ok (.ireturn, 1) := by decide +kernel
theorem pd_adx : parseMethodDescriptor "(II)I" = some ⟨[.int, .int], (some .int)⟩ := by decide +kernel
theorem pf_adx : plainFor (⟨"java/lang/Math", "addExact", "(II)I"⟩ : MethodName) = true := by first | exact plainFor_of_name (by first | (simp [plainName, overriddenIn]; done) | decide +kernel) | decide +kernel
set_option maxRecDepth 65536 in
set_option maxHeartbeats 40000000 in
theorem kw_adx (l : Launch) (Z : State) (a0 : Array Value) (hw : ∀ d ∈ tables_1, d.before a0 Z = true) (cs : Int32) (hcs : ¬ cs = 0) (SC : Sta Z Z.heap "java/lang/String" "COMPACT_STRINGS" "Z" (.int cs)) (hEW : EW Z a0 EL) (x y : Int32) (h0 : Heap) (n0 : Nat) (hno : ¬ ((x ^^^ (x + y)) &&& (y ^^^ (x + y))) < 0) : KW false l Z M_adx n0 (fun v h => v = some (.int (x + y)) ∧ h0 = h) ([], fun _ => False) h0 0 0 0 #[.val (.int x), .val (.int y), .unset] [] := by
  refine k_iloadN d_adx_0 rfl rfl ?_
  refine k_iloadN d_adx_1 rfl rfl ?_
  refine k_iadd d_adx_2 rfl ?_
  refine k_istoreN (Ls' := #[.val (.int x), .val (.int y), .val (.int (x + y))]) d_adx_3 rfl rfl ?_
  refine k_iloadN d_adx_4 rfl rfl ?_
  refine k_iloadN d_adx_5 rfl rfl ?_
  refine k_ixor d_adx_6 rfl ?_
  refine k_iloadN d_adx_7 rfl rfl ?_
  refine k_iloadN d_adx_8 rfl rfl ?_
  refine k_ixor d_adx_9 rfl ?_
  refine k_iand d_adx_10 rfl ?_
  refine k_ifc (pc1 := 24) (pc' := 14) d_adx_11 (by decide) (by decide) rfl (fun (cd1 : ¬ ((x ^^^ (x + y)) &&& (y ^^^ (x + y))) < (0 : Int32)) => ?_) (fun (cd1 : ((x ^^^ (x + y)) &&& (y ^^^ (x + y))) < (0 : Int32)) => False.elim (by exact hno cd1))
  refine k_iloadN d_adx_24 rfl rfl ?_
  exact k_retInt d_adx_25 rfl (by decide) (by decide) ⟨rfl, rfl⟩
theorem mt_adx (l : Launch) (Z : State) (a0 : Array Value) (hw : ∀ d ∈ tables_1, d.before a0 Z = true) (cs : Int32) (hcs : ¬ cs = 0) (SC : Sta Z Z.heap "java/lang/String" "COMPACT_STRINGS" "Z" (.int cs)) (hEW : EW Z a0 EL) (x y : Int32) (h0 : Heap) (n0 : Nat) (hno : ¬ ((x ^^^ (x + y)) &&& (y ^^^ (x + y))) < 0) : Mt l Z M_adx [] n0 #[(.int x), (.int y)] h0 (fun v h => v = some (.int (x + y)) ∧ h0 = h) :=
  mt_of_kw (P := ([], fun _ => False)) pf_adx (fun m => by first | (simp [entryFrame, mkF, argsToLocals, Value.category]; done) | rfl) (kw_adx l Z a0 hw cs hcs SC hEW x y h0 n0 hno)
abbrev M_mux : MD := ((⟨"java/lang/Math", "multiplyExact", "(II)I"⟩ : MethodName), jdk_29_method_28_code, 4, (some .int), { frames := 0, cells := 0, slots := 0, locals := 0 })
theorem d_mux_0 : decode jdk_29_method_28_code 0 = .ok (.iload_n 0, 1) := by decide +kernel
theorem d_mux_1 : decode jdk_29_method_28_code 1 = .ok (.i2l, 1) := by decide +kernel
theorem d_mux_2 : decode jdk_29_method_28_code 2 = .ok (.iload_n 1, 1) := by decide +kernel
theorem d_mux_3 : decode jdk_29_method_28_code 3 = .ok (.i2l, 1) := by decide +kernel
theorem d_mux_4 : decode jdk_29_method_28_code 4 = .ok (.lmul, 1) := by decide +kernel
theorem d_mux_5 : decode jdk_29_method_28_code 5 = .ok (.lstore_n 2, 1) := by decide +kernel
theorem d_mux_6 : decode jdk_29_method_28_code 6 = .ok (.lload_n 2, 1) := by decide +kernel
theorem d_mux_7 : decode jdk_29_method_28_code 7 = .ok (.l2i, 1) := by decide +kernel
theorem d_mux_8 : decode jdk_29_method_28_code 8 = .ok (.i2l, 1) := by decide +kernel
theorem d_mux_9 : decode jdk_29_method_28_code 9 = .ok (.lload_n 2, 1) := by decide +kernel
theorem d_mux_10 : decode jdk_29_method_28_code 10 = .ok (.lcmp, 1) := by decide +kernel
theorem d_mux_11 : decode jdk_29_method_28_code 11 = .ok (.ifCond .eq 13, 3) := by decide +kernel
theorem d_mux_14 : decode jdk_29_method_28_code 14 = .ok (.new 109, 3) := by decide +kernel
theorem d_mux_17 : decode jdk_29_method_28_code 17 = .ok (.dup, 1) := by decide +kernel
theorem d_mux_18 : decode jdk_29_method_28_code 18 = .ok (.ldc 111, 2) := by decide +kernel
theorem d_mux_20 : decode jdk_29_method_28_code 20 = .ok (.invokespecial 113, 3) := by decide +kernel
theorem d_mux_23 : decode jdk_29_method_28_code 23 = .ok (.athrow, 1) := by decide +kernel
theorem d_mux_24 : decode jdk_29_method_28_code 24 = .ok (.lload_n 2, 1) := by decide +kernel
theorem d_mux_25 : decode jdk_29_method_28_code 25 = .ok (.l2i, 1) := by decide +kernel
theorem d_mux_26 : decode jdk_29_method_28_code 26 = .ok (.ireturn, 1) := by decide +kernel
theorem pd_mux : parseMethodDescriptor "(II)I" = some ⟨[.int, .int], (some .int)⟩ := by decide +kernel
theorem pf_mux : plainFor (⟨"java/lang/Math", "multiplyExact", "(II)I"⟩ : MethodName) = true := by first | exact plainFor_of_name (by first | (simp [plainName, overriddenIn]; done) | decide +kernel) | decide +kernel
set_option maxRecDepth 65536 in
set_option maxHeartbeats 40000000 in
theorem kw_mux (l : Launch) (Z : State) (a0 : Array Value) (hw : ∀ d ∈ tables_1, d.before a0 Z = true) (cs : Int32) (hcs : ¬ cs = 0) (SC : Sta Z Z.heap "java/lang/String" "COMPACT_STRINGS" "Z" (.int cs)) (hEW : EW Z a0 EL) (x y : Int32) (h0 : Heap) (n0 : Nat) (hno : Int32.toInt64 (Int64.toInt32 (Int32.toInt64 x * Int32.toInt64 y)) = (Int32.toInt64 x * Int32.toInt64 y)) : KW false l Z M_mux n0 (fun v h => v = some (.int (Int64.toInt32 (Int32.toInt64 x * Int32.toInt64 y))) ∧ h0 = h) ([], fun _ => False) h0 0 0 0 #[.val (.int x), .val (.int y), .unset, .unset] [] := by
  refine k_iloadN d_mux_0 rfl rfl ?_
  refine k_i2l d_mux_1 rfl ?_
  refine k_iloadN d_mux_2 rfl rfl ?_
  refine k_i2l d_mux_3 rfl ?_
  refine k_lmul d_mux_4 rfl ?_
  refine k_lstoreN (Ls' := #[.val (.int x), .val (.int y), .val (.long ((Int32.toInt64 x) * (Int32.toInt64 y))), .second]) d_mux_5 rfl rfl ?_
  refine k_lloadN d_mux_6 rfl rfl ?_
  refine k_l2i d_mux_7 rfl ?_
  refine k_i2l d_mux_8 rfl ?_
  refine k_lloadN d_mux_9 rfl rfl ?_
  refine k_lcmpIf (pc' := 11) (pc1 := 24) (pc2 := 14) d_mux_10 rfl d_mux_11 (by decide) (by decide) rfl (fun (cd1 : (Int32.toInt64 (Int64.toInt32 ((Int32.toInt64 x) * (Int32.toInt64 y)))) = ((Int32.toInt64 x) * (Int32.toInt64 y))) => ?_) (fun (cd1 : ¬ (Int32.toInt64 (Int64.toInt32 ((Int32.toInt64 x) * (Int32.toInt64 y)))) = ((Int32.toInt64 x) * (Int32.toInt64 y))) => False.elim (by exact cd1 hno))
  refine k_lloadN d_mux_24 rfl rfl ?_
  refine k_l2i d_mux_25 rfl ?_
  exact k_retInt d_mux_26 rfl (by decide) (by decide) ⟨rfl, rfl⟩
theorem mt_mux (l : Launch) (Z : State) (a0 : Array Value) (hw : ∀ d ∈ tables_1, d.before a0 Z = true) (cs : Int32) (hcs : ¬ cs = 0) (SC : Sta Z Z.heap "java/lang/String" "COMPACT_STRINGS" "Z" (.int cs)) (hEW : EW Z a0 EL) (x y : Int32) (h0 : Heap) (n0 : Nat) (hno : Int32.toInt64 (Int64.toInt32 (Int32.toInt64 x * Int32.toInt64 y)) = (Int32.toInt64 x * Int32.toInt64 y)) : Mt l Z M_mux [] n0 #[(.int x), (.int y)] h0 (fun v h => v = some (.int (Int64.toInt32 (Int32.toInt64 x * Int32.toInt64 y))) ∧ h0 = h) :=
  mt_of_kw (P := ([], fun _ => False)) pf_mux (fun m => by first | (simp [entryFrame, mkF, argsToLocals, Value.category]; done) | rfl) (kw_mux l Z a0 hw cs hcs SC hEW x y h0 n0 hno)
abbrev M_eol : MD := ((⟨"java/util/Base64$Encoder", "encodedOutLength", "(IZ)I"⟩ : MethodName), jdk_2452_method_2_code, 5, (some .int), { frames := 1, cells := 0, slots := 0, locals := 20 })
theorem d_eol_0 : decode jdk_2452_method_2_code 0 = .ok (.iconst 0, 1) := by decide +kernel
theorem d_eol_1 : decode jdk_2452_method_2_code 1 = .ok (.istore_n 3, 1) := by decide +kernel
theorem d_eol_2 : decode jdk_2452_method_2_code 2 = .ok (.aload_n 0, 1) := by decide +kernel
theorem d_eol_3 : decode jdk_2452_method_2_code 3 = .ok (.getfield 21, 3) := by decide +kernel
theorem d_eol_6 : decode jdk_2452_method_2_code 6 = .ok (.ifCond .eq 18, 3) := by decide +kernel
theorem d_eol_9 : decode jdk_2452_method_2_code 9 = .ok (.iconst 4, 1) := by decide +kernel
theorem d_eol_10 : decode jdk_2452_method_2_code 10 = .ok (.iload_n 1, 1) := by decide +kernel
theorem d_eol_11 : decode jdk_2452_method_2_code 11 = .ok (.iconst 2, 1) := by decide +kernel
theorem d_eol_12 : decode jdk_2452_method_2_code 12 = .ok (.invokestatic 24, 3) := by decide +kernel
theorem d_eol_15 : decode jdk_2452_method_2_code 15 = .ok (.iconst 3, 1) := by decide +kernel
theorem d_eol_16 : decode jdk_2452_method_2_code 16 = .ok (.idiv, 1) := by decide +kernel
theorem d_eol_17 : decode jdk_2452_method_2_code 17 = .ok (.invokestatic 30, 3) := by decide +kernel
theorem d_eol_20 : decode jdk_2452_method_2_code 20 = .ok (.istore_n 3, 1) := by decide +kernel
theorem d_eol_21 : decode jdk_2452_method_2_code 21 = .ok (.goto 32, 3) := by decide +kernel
theorem d_eol_24 : decode jdk_2452_method_2_code 24 = .ok (.iload_n 1, 1) := by decide +kernel
theorem d_eol_25 : decode jdk_2452_method_2_code 25 = .ok (.iconst 3, 1) := by decide +kernel
theorem d_eol_26 : decode jdk_2452_method_2_code 26 = .ok (.irem, 1) := by decide +kernel
theorem d_eol_27 : decode jdk_2452_method_2_code 27 = .ok (.istore 4, 2) := by decide +kernel
theorem d_eol_29 : decode jdk_2452_method_2_code 29 = .ok (.iconst 4, 1) := by decide +kernel
theorem d_eol_30 : decode jdk_2452_method_2_code 30 = .ok (.iload_n 1, 1) := by decide +kernel
theorem d_eol_31 : decode jdk_2452_method_2_code 31 = .ok (.iconst 3, 1) := by decide +kernel
theorem d_eol_32 : decode jdk_2452_method_2_code 32 = .ok (.idiv, 1) := by decide +kernel
theorem d_eol_33 : decode jdk_2452_method_2_code 33 = .ok (.invokestatic 30, 3) := by decide +kernel
theorem d_eol_36 : decode jdk_2452_method_2_code 36 = .ok (.iload 4, 2) := by decide +kernel
theorem d_eol_38 : decode jdk_2452_method_2_code 38 = .ok (.ifCond .ne 7, 3) := by decide +kernel
theorem d_eol_41 : decode jdk_2452_method_2_code 41 = .ok (.iconst 0, 1) := by decide +kernel
theorem d_eol_42 : decode jdk_2452_method_2_code 42 = .ok (.goto 7, 3) := by decide +kernel
theorem d_eol_45 : decode jdk_2452_method_2_code 45 = .ok (.iload 4, 2) := by decide +kernel
theorem d_eol_47 : decode jdk_2452_method_2_code 47 = .ok (.iconst 1, 1) := by decide +kernel
theorem d_eol_48 : decode jdk_2452_method_2_code 48 = .ok (.iadd, 1) := by decide +kernel
theorem d_eol_49 : decode jdk_2452_method_2_code 49 = .ok (.invokestatic 24, 3) := by decide +kernel
theorem d_eol_52 : decode jdk_2452_method_2_code 52 = .ok (.istore_n 3, 1) := by decide +kernel
theorem d_eol_53 : decode jdk_2452_method_2_code 53 = .ok (.aload_n 0, 1) := by decide +kernel
theorem d_eol_54 : decode jdk_2452_method_2_code 54 = .ok (.getfield 17, 3) := by decide +kernel
theorem d_eol_57 : decode jdk_2452_method_2_code 57 = .ok (.ifCond .le 22, 3) := by decide +kernel
theorem d_eol_60 : decode jdk_2452_method_2_code 60 = .ok (.iload_n 3, 1) := by decide +kernel
theorem d_eol_61 : decode jdk_2452_method_2_code 61 = .ok (.iload_n 3, 1) := by decide +kernel
theorem d_eol_62 : decode jdk_2452_method_2_code 62 = .ok (.iconst 1, 1) := by decide +kernel
theorem d_eol_63 : decode jdk_2452_method_2_code 63 = .ok (.isub, 1) := by decide +kernel
theorem d_eol_64 : decode jdk_2452_method_2_code 64 = .ok (.aload_n 0, 1) := by decide +kernel
theorem d_eol_65 : decode jdk_2452_method_2_code 65 = .ok (.getfield 17, 3) := by decide +kernel
theorem d_eol_68 : decode jdk_2452_method_2_code 68 = .ok (.idiv, 1) := by decide +kernel
theorem d_eol_69 : decode jdk_2452_method_2_code 69 = .ok (.aload_n 0, 1) := by decide +kernel
theorem d_eol_70 : decode jdk_2452_method_2_code 70 = .ok (.getfield 13, 3) := by decide +kernel
theorem d_eol_73 : decode jdk_2452_method_2_code 73 = .ok (.arraylength, 1) := by decide +kernel
theorem d_eol_74 : decode jdk_2452_method_2_code 74 = .ok (.imul, 1) := by decide +kernel
theorem d_eol_75 : decode jdk_2452_method_2_code 75 = .ok (.invokestatic 24, 3) := by decide +kernel
theorem d_eol_78 : decode jdk_2452_method_2_code 78 = .ok (.istore_n 3, 1) := by decide +kernel
theorem d_eol_79 : decode jdk_2452_method_2_code 79 = .ok (.goto 21, 3) := by decide +kernel
theorem d_eol_82 : decode jdk_2452_method_2_code 82 = .ok (.astore 4, 2) := by decide +kernel
theorem d_eol_84 : decode jdk_2452_method_2_code 84 = .ok (.iload_n 2, 1) := by decide +kernel
theorem d_eol_85 : decode jdk_2452_method_2_code 85 = .ok (.ifCond .eq 13, 3) := by decide +kernel
theorem d_eol_88 : decode jdk_2452_method_2_code 88 = .ok (.new 35, 3) := by decide +kernel
theorem d_eol_91 : decode jdk_2452_method_2_code 91 = .ok (.dup, 1) := by decide +kernel
theorem d_eol_92 : decode jdk_2452_method_2_code 92 = .ok (.ldc 37, 2) := by decide +kernel
theorem d_eol_94 : decode jdk_2452_method_2_code 94 = .ok (.invokespecial 39, 3) := by decide +kernel
theorem d_eol_97 : decode jdk_2452_method_2_code 97 = .ok (.athrow, 1) := by decide +kernel
theorem d_eol_98 : decode jdk_2452_method_2_code 98 = .ok (.iconst (-1), 1) := by decide +kernel
theorem d_eol_99 : decode jdk_2452_method_2_code 99 = .ok (.istore_n 3, 1) := by decide +kernel
theorem d_eol_100 : decode jdk_2452_method_2_code 100 = .ok (.iload_n 3, 1) := by decide +kernel
theorem d_eol_101 : decode jdk_2452_method_2_code 101 = .ok (.ireturn, 1) := by decide +kernel
theorem pd_eol : parseMethodDescriptor "(IZ)I" = some ⟨[.int, .boolean], (some .int)⟩ := by decide +kernel
theorem pf_eol : plainFor (⟨"java/util/Base64$Encoder", "encodedOutLength", "(IZ)I"⟩ : MethodName) = true := by first | exact plainFor_of_name (by first | (simp [plainName, overriddenIn]; done) | decide +kernel) | decide +kernel
set_option maxRecDepth 65536 in
set_option maxHeartbeats 40000000 in
theorem kw_eol (l : Launch) (Z : State) (a0 : Array Value) (hw : ∀ d ∈ tables_1, d.before a0 Z = true) (cs : Int32) (hcs : ¬ cs = 0) (SC : Sta Z Z.heap "java/lang/String" "COMPACT_STRINGS" "Z" (.int cs)) (hEW : EW Z a0 EL) (en : Addr) (ENC : Enc Z Z.heap en) (tb : Addr) (ckt : ClassId) (STB : Sta Z Z.heap "java/util/Base64$Encoder" "toBase64" "[C" (.ref tb)) (TB : Arv Z Z.heap tb ckt .char (64 : Int32) (T64.map Value.int) (.int 0)) (z r : Int32) (h0 : Heap) (n0 : Nat) (OD : Old Z n0 h0) (hno : ¬ ((z ^^^ (z + (2 : Int32))) &&& ((2 : Int32) ^^^ (z + (2 : Int32)))) < 0) (hmo : Int32.toInt64 (Int64.toInt32 (Int32.toInt64 (4 : Int32) * Int32.toInt64 ((z + (2 : Int32)) / (3 : Int32)))) = (Int32.toInt64 (4 : Int32) * Int32.toInt64 ((z + (2 : Int32)) / (3 : Int32)))) (hr : Int64.toInt32 (Int32.toInt64 (4 : Int32) * Int32.toInt64 ((z + (2 : Int32)) / (3 : Int32))) = r) : KW false l Z M_eol n0 (fun v h => v = some (.int r) ∧ h0 = h) ([], fun _ => False) h0 0 0 0 #[.val (.ref en), .val (.int z), .val (.int (1 : Int32)), .unset, .unset] [] := by
  have EF := ENC.ext OD.2
  refine k_iconst (z := (0 : Int32)) d_eol_0 rfl (by decide) ?_
  refine k_istoreN (Ls' := #[.val (.ref en), .val (.int z), .val (.int (1 : Int32)), .val (.int (0 : Int32)), .unset]) d_eol_1 rfl rfl ?_
  refine k_aloadN d_eol_2 rfl rfl rfl ?_
  refine k_getField d_eol_3 rfl (hw _ (List.mem_of_getElem? (i := 119) rfl)) Via.refl EF.2.2.2 ?_
  refine k_ifc (pc1 := 24) (pc' := 9) d_eol_6 (by decide) (by decide) rfl (fun (cd1 : (1 : Int32) = (0 : Int32)) => False.elim (by exact absurd cd1 (by decide))) (fun (cd1 : ¬ (1 : Int32) = (0 : Int32)) => ?_)
  refine k_iconst (z := (4 : Int32)) d_eol_9 rfl (by decide) ?_
  refine k_iloadN d_eol_10 rfl rfl ?_
  refine k_iconst (z := (2 : Int32)) d_eol_11 rfl (by decide) ?_
  refine k_callStatic (argsL := [(.int z), (.int (2 : Int32))]) (rest := [(.int (4 : Int32))]) (W0 := 1) d_eol_12 rfl (mt_adx l Z a0 hw cs hcs SC hEW z 2 h0 n0 hno) Kp.strict (hw _ (List.mem_of_getElem? (i := 121) rfl)) (hw _ (List.mem_of_getElem? (i := 122) rfl)) (hw _ (List.mem_of_getElem? (i := 123) rfl)) (hw _ (List.mem_of_getElem? (i := 124) rfl)) (by decide) pd_adx rfl rfl rfl rfl (by decide) (by decide) (by decide) (by decide) ?_
  rintro _ _ - ⟨rfl, rfl⟩
  refine KW.any (P' := ([], fun _ => False)) ?_
  show KW false l Z M_eol n0 (fun v h => v = some (.int r) ∧ h0 = h) ([], fun _ => False) h0 0 0 15 #[.val (.ref en), .val (.int z), .val (.int (1 : Int32)), .val (.int (0 : Int32)), .unset] [(.int (z + (2 : Int32))), (.int (4 : Int32))]
  refine k_iconst (z := (3 : Int32)) d_eol_15 rfl (by decide) ?_
  refine k_idiv d_eol_16 rfl (by decide) ?_
  refine k_callStatic (argsL := [(.int (4 : Int32)), (.int ((z + (2 : Int32)) / (3 : Int32)))]) (rest := []) (W0 := 0) d_eol_17 rfl (mt_mux l Z a0 hw cs hcs SC hEW 4 ((z + (2 : Int32)) / (3 : Int32)) h0 n0 hmo) Kp.strict (hw _ (List.mem_of_getElem? (i := 125) rfl)) (hw _ (List.mem_of_getElem? (i := 126) rfl)) (hw _ (List.mem_of_getElem? (i := 123) rfl)) (hw _ (List.mem_of_getElem? (i := 127) rfl)) (by decide) pd_mux rfl rfl rfl rfl (by decide) (by decide) (by decide) (by decide) ?_
  rintro _ _ - ⟨rfl, rfl⟩
  rw [hr]
  refine KW.any (P' := ([], fun _ => False)) ?_
  show KW false l Z M_eol n0 (fun v h => v = some (.int r) ∧ h0 = h) ([], fun _ => False) h0 0 0 20 #[.val (.ref en), .val (.int z), .val (.int (1 : Int32)), .val (.int (0 : Int32)), .unset] [(.int r)]
  refine k_istoreN (Ls' := #[.val (.ref en), .val (.int z), .val (.int (1 : Int32)), .val (.int r), .unset]) d_eol_20 rfl rfl ?_
  refine k_goto (pc' := 53) d_eol_21 (by decide) (by decide) ?_
  refine k_aloadN d_eol_53 rfl rfl rfl ?_
  refine k_getField d_eol_54 rfl (hw _ (List.mem_of_getElem? (i := 128) rfl)) Via.refl EF.2.2.1 ?_
  refine k_ifc (pc1 := 79) (pc' := 60) d_eol_57 (by decide) (by decide) rfl (fun (cd2 : ¬ (0 : Int32) < (-1 : Int32)) => ?_) (fun (cd2 : (0 : Int32) < (-1 : Int32)) => False.elim (by exact absurd cd2 (by decide)))
  refine k_goto (pc' := 100) d_eol_79 (by decide) (by decide) ?_
  refine k_iloadN d_eol_100 rfl rfl ?_
  exact k_retInt d_eol_101 rfl (by decide) (by decide) ⟨rfl, rfl⟩
theorem mt_eol (l : Launch) (Z : State) (a0 : Array Value) (hw : ∀ d ∈ tables_1, d.before a0 Z = true) (cs : Int32) (hcs : ¬ cs = 0) (SC : Sta Z Z.heap "java/lang/String" "COMPACT_STRINGS" "Z" (.int cs)) (hEW : EW Z a0 EL) (en : Addr) (ENC : Enc Z Z.heap en) (tb : Addr) (ckt : ClassId) (STB : Sta Z Z.heap "java/util/Base64$Encoder" "toBase64" "[C" (.ref tb)) (TB : Arv Z Z.heap tb ckt .char (64 : Int32) (T64.map Value.int) (.int 0)) (z r : Int32) (h0 : Heap) (n0 : Nat) (OD : Old Z n0 h0) (hno : ¬ ((z ^^^ (z + (2 : Int32))) &&& ((2 : Int32) ^^^ (z + (2 : Int32)))) < 0) (hmo : Int32.toInt64 (Int64.toInt32 (Int32.toInt64 (4 : Int32) * Int32.toInt64 ((z + (2 : Int32)) / (3 : Int32)))) = (Int32.toInt64 (4 : Int32) * Int32.toInt64 ((z + (2 : Int32)) / (3 : Int32)))) (hr : Int64.toInt32 (Int32.toInt64 (4 : Int32) * Int32.toInt64 ((z + (2 : Int32)) / (3 : Int32))) = r) : MtH l Z M_eol [((2 : Nat), (79 : Nat), (82 : Nat), (33 : Nat))] n0 #[.ref en, .int z, .int 1] h0 (fun v h => v = some (.int r) ∧ h0 = h) :=
  mtH_of_kw (P := ([], fun _ => False)) pf_eol (fun m => by first | (simp [entryFrame, mkF, argsToLocals, Value.category]; done) | rfl) (kw_eol l Z a0 hw cs hcs SC hEW en ENC tb ckt STB TB z r h0 n0 OD hno hmo hr)
abbrev M_ebl : MD := ((⟨"java/util/Base64$Encoder", "encodeBlock", "([BII[BIZ)V"⟩ : MethodName), jdk_2452_method_9_code, 11, none, { frames := 0, cells := 0, slots := 0, locals := 0 })
theorem d_ebl_0 : decode jdk_2452_method_9_code 0 = .ok (.iload 6, 2) := by decide +kernel
theorem d_ebl_2 : decode jdk_2452_method_9_code 2 = .ok (.ifCond .eq 9, 3) := by decide +kernel
theorem d_ebl_5 : decode jdk_2452_method_9_code 5 = .ok (.getstatic 111, 3) := by decide +kernel
theorem d_ebl_8 : decode jdk_2452_method_9_code 8 = .ok (.goto 6, 3) := by decide +kernel
theorem d_ebl_11 : decode jdk_2452_method_9_code 11 = .ok (.getstatic 115, 3) := by decide +kernel
theorem d_ebl_14 : decode jdk_2452_method_9_code 14 = .ok (.astore 7, 2) := by decide +kernel
theorem d_ebl_16 : decode jdk_2452_method_9_code 16 = .ok (.iload_n 2, 1) := by decide +kernel
theorem d_ebl_17 : decode jdk_2452_method_9_code 17 = .ok (.istore 8, 2) := by decide +kernel
theorem d_ebl_19 : decode jdk_2452_method_9_code 19 = .ok (.iload 5, 2) := by decide +kernel
theorem d_ebl_21 : decode jdk_2452_method_9_code 21 = .ok (.istore 9, 2) := by decide +kernel
theorem d_ebl_23 : decode jdk_2452_method_9_code 23 = .ok (.iload 8, 2) := by decide +kernel
theorem d_ebl_25 : decode jdk_2452_method_9_code 25 = .ok (.iload_n 3, 1) := by decide +kernel
theorem d_ebl_26 : decode jdk_2452_method_9_code 26 = .ok (.if_icmp .ge 126, 3) := by decide +kernel
theorem d_ebl_29 : decode jdk_2452_method_9_code 29 = .ok (.aload_n 1, 1) := by decide +kernel
theorem d_ebl_30 : decode jdk_2452_method_9_code 30 = .ok (.iload 8, 2) := by decide +kernel
theorem d_ebl_32 : decode jdk_2452_method_9_code 32 = .ok (.iinc 8 1, 3) := by decide +kernel
theorem d_ebl_35 : decode jdk_2452_method_9_code 35 = .ok (.baload, 1) := by decide +kernel
theorem d_ebl_36 : decode jdk_2452_method_9_code 36 = .ok (.sipush 255, 3) := by decide +kernel
theorem d_ebl_39 : decode jdk_2452_method_9_code 39 = .ok (.iand, 1) := by decide +kernel
theorem d_ebl_40 : decode jdk_2452_method_9_code 40 = .ok (.bipush 16, 2) := by decide +kernel
theorem d_ebl_42 : decode jdk_2452_method_9_code 42 = .ok (.ishl, 1) := by decide +kernel
theorem d_ebl_43 : decode jdk_2452_method_9_code 43 = .ok (.aload_n 1, 1) := by decide +kernel
theorem d_ebl_44 : decode jdk_2452_method_9_code 44 = .ok (.iload 8, 2) := by decide +kernel
theorem d_ebl_46 : decode jdk_2452_method_9_code 46 = .ok (.iinc 8 1, 3) := by decide +kernel
theorem d_ebl_49 : decode jdk_2452_method_9_code 49 = .ok (.baload, 1) := by decide +kernel
theorem d_ebl_50 : decode jdk_2452_method_9_code 50 = .ok (.sipush 255, 3) := by decide +kernel
theorem d_ebl_53 : decode jdk_2452_method_9_code 53 = .ok (.iand, 1) := by decide +kernel
theorem d_ebl_54 : decode jdk_2452_method_9_code 54 = .ok (.bipush 8, 2) := by decide +kernel
theorem d_ebl_56 : decode jdk_2452_method_9_code 56 = .ok (.ishl, 1) := by decide +kernel
theorem d_ebl_57 : decode jdk_2452_method_9_code 57 = .ok (.ior, 1) := by decide +kernel
theorem d_ebl_58 : decode jdk_2452_method_9_code 58 = .ok (.aload_n 1, 1) := by decide +kernel
theorem d_ebl_59 : decode jdk_2452_method_9_code 59 = .ok (.iload 8, 2) := by decide +kernel
theorem d_ebl_61 : decode jdk_2452_method_9_code 61 = .ok (.iinc 8 1, 3) := by decide +kernel
theorem d_ebl_64 : decode jdk_2452_method_9_code 64 = .ok (.baload, 1) := by decide +kernel
theorem d_ebl_65 : decode jdk_2452_method_9_code 65 = .ok (.sipush 255, 3) := by decide +kernel
theorem d_ebl_68 : decode jdk_2452_method_9_code 68 = .ok (.iand, 1) := by decide +kernel
theorem d_ebl_69 : decode jdk_2452_method_9_code 69 = .ok (.ior, 1) := by decide +kernel
theorem d_ebl_70 : decode jdk_2452_method_9_code 70 = .ok (.istore 10, 2) := by decide +kernel
theorem d_ebl_72 : decode jdk_2452_method_9_code 72 = .ok (.aload 4, 2) := by decide +kernel
theorem d_ebl_74 : decode jdk_2452_method_9_code 74 = .ok (.iload 9, 2) := by decide +kernel
theorem d_ebl_76 : decode jdk_2452_method_9_code 76 = .ok (.iinc 9 1, 3) := by decide +kernel
theorem d_ebl_79 : decode jdk_2452_method_9_code 79 = .ok (.aload 7, 2) := by decide +kernel
theorem d_ebl_81 : decode jdk_2452_method_9_code 81 = .ok (.iload 10, 2) := by decide +kernel
theorem d_ebl_83 : decode jdk_2452_method_9_code 83 = .ok (.bipush 18, 2) := by decide +kernel
theorem d_ebl_85 : decode jdk_2452_method_9_code 85 = .ok (.iushr, 1) := by decide +kernel
theorem d_ebl_86 : decode jdk_2452_method_9_code 86 = .ok (.bipush 63, 2) := by decide +kernel
theorem d_ebl_88 : decode jdk_2452_method_9_code 88 = .ok (.iand, 1) := by decide +kernel
theorem d_ebl_89 : decode jdk_2452_method_9_code 89 = .ok (.caload, 1) := by decide +kernel
theorem d_ebl_90 : decode jdk_2452_method_9_code 90 = .ok (.i2b, 1) := by decide +kernel
theorem d_ebl_91 : decode jdk_2452_method_9_code 91 = .ok (.bastore, 1) := by decide +kernel
theorem d_ebl_92 : decode jdk_2452_method_9_code 92 = .ok (.aload 4, 2) := by decide +kernel
theorem d_ebl_94 : decode jdk_2452_method_9_code 94 = .ok (.iload 9, 2) := by decide +kernel
theorem d_ebl_96 : decode jdk_2452_method_9_code 96 = .ok (.iinc 9 1, 3) := by decide +kernel
theorem d_ebl_99 : decode jdk_2452_method_9_code 99 = .ok (.aload 7, 2) := by decide +kernel
theorem d_ebl_101 : decode jdk_2452_method_9_code 101 = .ok (.iload 10, 2) := by decide +kernel
theorem d_ebl_103 : decode jdk_2452_method_9_code 103 = .ok (.bipush 12, 2) := by decide +kernel
theorem d_ebl_105 : decode jdk_2452_method_9_code 105 = .ok (.iushr, 1) := by decide +kernel
theorem d_ebl_106 : decode jdk_2452_method_9_code 106 = .ok (.bipush 63, 2) := by decide +kernel
theorem d_ebl_108 : decode jdk_2452_method_9_code 108 = .ok (.iand, 1) := by decide +kernel
theorem d_ebl_109 : decode jdk_2452_method_9_code 109 = .ok (.caload, 1) := by decide +kernel
theorem d_ebl_110 : decode jdk_2452_method_9_code 110 = .ok (.i2b, 1) := by decide +kernel
theorem d_ebl_111 : decode jdk_2452_method_9_code 111 = .ok (.bastore, 1) := by decide +kernel
theorem d_ebl_112 : decode jdk_2452_method_9_code 112 = .ok (.aload 4, 2) := by decide +kernel
theorem d_ebl_114 : decode jdk_2452_method_9_code 114 = .ok (.iload 9, 2) := by decide +kernel
theorem d_ebl_116 : decode jdk_2452_method_9_code 116 = .ok (.iinc 9 1, 3) := by decide +kernel
theorem d_ebl_119 : decode jdk_2452_method_9_code 119 = .ok (.aload 7, 2) := by decide +kernel
theorem d_ebl_121 : decode jdk_2452_method_9_code 121 = .ok (.iload 10, 2) := by decide +kernel
theorem d_ebl_123 : decode jdk_2452_method_9_code 123 = .ok (.bipush 6, 2) := by decide +kernel
theorem d_ebl_125 : decode jdk_2452_method_9_code 125 = .ok (.iushr, 1) := by decide +kernel
theorem d_ebl_126 : decode jdk_2452_method_9_code 126 = .ok (.bipush 63, 2) := by decide +kernel
theorem d_ebl_128 : decode jdk_2452_method_9_code 128 = .ok (.iand, 1) := by decide +kernel
theorem d_ebl_129 : decode jdk_2452_method_9_code 129 = .ok (.caload, 1) := by decide +kernel
theorem d_ebl_130 : decode jdk_2452_method_9_code 130 = .ok (.i2b, 1) := by decide +kernel
theorem d_ebl_131 : decode jdk_2452_method_9_code 131 = .ok (.bastore, 1) := by decide +kernel
theorem d_ebl_132 : decode jdk_2452_method_9_code 132 = .ok (.aload 4, 2) := by decide +kernel
theorem d_ebl_134 : decode jdk_2452_method_9_code 134 = .ok (.iload 9, 2) := by decide +kernel
theorem d_ebl_136 : decode jdk_2452_method_9_code 136 = .ok (.iinc 9 1, 3) := by decide +kernel
theorem d_ebl_139 : decode jdk_2452_method_9_code 139 = .ok (.aload 7, 2) := by decide +kernel
theorem d_ebl_141 : decode jdk_2452_method_9_code 141 = .ok (.iload 10, 2) := by decide +kernel
theorem d_ebl_143 : decode jdk_2452_method_9_code 143 = .ok (.bipush 63, 2) := by decide +kernel
theorem d_ebl_145 : decode jdk_2452_method_9_code 145 = .ok (.iand, 1) := by decide +kernel
theorem d_ebl_146 : decode jdk_2452_method_9_code 146 = .ok (.caload, 1) := by decide +kernel
theorem d_ebl_147 : decode jdk_2452_method_9_code 147 = .ok (.i2b, 1) := by decide +kernel
theorem d_ebl_148 : decode jdk_2452_method_9_code 148 = .ok (.bastore, 1) := by decide +kernel
theorem d_ebl_149 : decode jdk_2452_method_9_code 149 = .ok (.goto (-126), 3) := by decide +kernel
theorem d_ebl_152 : decode jdk_2452_method_9_code 152 = .ok (.return_, 1) := by decide +kernel
theorem pd_ebl : parseMethodDescriptor "([BII[BIZ)V" = some ⟨[(.array .byte), .int, .int, (.array .byte), .int, .boolean], none⟩ := by decide +kernel
theorem pf_ebl : plainFor (⟨"java/util/Base64$Encoder", "encodeBlock", "([BII[BIZ)V"⟩ : MethodName) = true := by first | exact plainFor_of_name (by first | (simp [plainName, overriddenIn]; done) | decide +kernel) | decide +kernel
set_option maxRecDepth 65536 in
set_option maxHeartbeats 40000000 in
theorem kw_ebl (l : Launch) (Z : State) (a0 : Array Value) (hw : ∀ d ∈ tables_1, d.before a0 Z = true) (cs : Int32) (hcs : ¬ cs = 0) (SC : Sta Z Z.heap "java/lang/String" "COMPACT_STRINGS" "Z" (.int cs)) (hEW : EW Z a0 EL) (en : Addr) (ENC : Enc Z Z.heap en) (tb : Addr) (ckt : ClassId) (STB : Sta Z Z.heap "java/util/Base64$Encoder" "toBase64" "[C" (.ref tb)) (TB : Arv Z Z.heap tb ckt .char (64 : Int32) (T64.map Value.int) (.int 0)) (sr d : Addr) (cks ckd : ClassId) (x y z : Int32) (h0 : Heap) (n0 : Nat) (OD : Old Z n0 h0) (SR : Arv Z h0 sr cks .byte (3 : Int32) [.int x, .int y, .int z] (.int 0)) (D0 : Arv Z h0 d ckd .byte (4 : Int32) [.int 0, .int 0, .int 0, .int 0] (.int 0)) (gd : n0 ≤ d) (hsd : sr ≠ d) : KW false l Z M_ebl n0 (fun v h => v = none ∧ Keep h0 h [d] ∧ Arv Z h d ckd .byte (4 : Int32) [.int (nbI (tbv ((UInt32.toInt32 (Int32.toUInt32 (w24 x y z) >>> Int32.toUInt32 ((18 : Int32) &&& 31))) &&& (63 : Int32)))), .int (nbI (tbv ((UInt32.toInt32 (Int32.toUInt32 (w24 x y z) >>> Int32.toUInt32 ((12 : Int32) &&& 31))) &&& (63 : Int32)))), .int (nbI (tbv ((UInt32.toInt32 (Int32.toUInt32 (w24 x y z) >>> Int32.toUInt32 ((6 : Int32) &&& 31))) &&& (63 : Int32)))), .int (nbI (tbv ((w24 x y z) &&& (63 : Int32))))] (.int 0)) ([], fun _ => False) h0 0 0 0 #[.val (.ref en), .val (.ref sr), .val (.int (0 : Int32)), .val (.int (3 : Int32)), .val (.ref d), .val (.int (0 : Int32)), .val (.int (0 : Int32)), .unset, .unset, .unset, .unset] [] := by
  have TBh := TB.ext OD.2
  have htd : tb ≠ d := OD.ne TB.lt gd
  have K0 : Keep h0 h0 [d] := Keep.refl _ _
  refine k_iload d_ebl_0 rfl rfl ?_
  refine k_ifc (pc1 := 11) (pc' := 5) d_ebl_2 (by decide) (by decide) rfl (fun (cd1 : (0 : Int32) = (0 : Int32)) => ?_) (fun (cd1 : ¬ (0 : Int32) = (0 : Int32)) => False.elim (by exact absurd cd1 (by decide)))
  refine k_getStatic d_ebl_11 rfl (hw _ (List.mem_of_getElem? (i := 137) rfl)) (Sta.ext OD.2 STB) ?_
  refine k_astore (Ls' := #[.val (.ref en), .val (.ref sr), .val (.int (0 : Int32)), .val (.int (3 : Int32)), .val (.ref d), .val (.int (0 : Int32)), .val (.int (0 : Int32)), .val (.ref tb), .unset, .unset, .unset]) d_ebl_14 rfl rfl rfl ?_
  refine k_iloadN d_ebl_16 rfl rfl ?_
  refine k_istore (Ls' := #[.val (.ref en), .val (.ref sr), .val (.int (0 : Int32)), .val (.int (3 : Int32)), .val (.ref d), .val (.int (0 : Int32)), .val (.int (0 : Int32)), .val (.ref tb), .val (.int (0 : Int32)), .unset, .unset]) d_ebl_17 rfl rfl ?_
  refine k_iload d_ebl_19 rfl rfl ?_
  refine k_istore (Ls' := #[.val (.ref en), .val (.ref sr), .val (.int (0 : Int32)), .val (.int (3 : Int32)), .val (.ref d), .val (.int (0 : Int32)), .val (.int (0 : Int32)), .val (.ref tb), .val (.int (0 : Int32)), .val (.int (0 : Int32)), .unset]) d_ebl_21 rfl rfl ?_
  refine k_iload d_ebl_23 rfl rfl ?_
  refine k_iloadN d_ebl_25 rfl rfl ?_
  refine k_icmp (pc1 := 152) (pc' := 29) d_ebl_26 (by decide) (by decide) rfl (fun (cd2 : ¬ (0 : Int32) < (3 : Int32)) => False.elim (by exact absurd cd2 (by decide))) (fun (cd2 : (0 : Int32) < (3 : Int32)) => ?_)
  refine k_aloadN d_ebl_29 rfl rfl rfl ?_
  refine k_iload d_ebl_30 rfl rfl ?_
  refine k_iinc (z := (1 : Int32)) (Ls' := #[.val (.ref en), .val (.ref sr), .val (.int (0 : Int32)), .val (.int (3 : Int32)), .val (.ref d), .val (.int (0 : Int32)), .val (.int (0 : Int32)), .val (.ref tb), .val (.int ((0 : Int32) + (1 : Int32))), .val (.int (0 : Int32)), .unset]) d_ebl_32 rfl (by decide) rfl rfl ?_
  refine k_baload (v := (.int x)) d_ebl_35 rfl SR (by decide) rfl ?_
  refine k_sipush (z := (255 : Int32)) d_ebl_36 rfl (by decide) ?_
  refine k_iand d_ebl_39 rfl ?_
  refine k_bipush (z := (16 : Int32)) d_ebl_40 rfl (by decide) ?_
  refine k_ishl d_ebl_42 rfl ?_
  refine k_aloadN d_ebl_43 rfl rfl rfl ?_
  refine k_iload d_ebl_44 rfl rfl ?_
  refine k_iinc (z := (1 : Int32)) (Ls' := #[.val (.ref en), .val (.ref sr), .val (.int (0 : Int32)), .val (.int (3 : Int32)), .val (.ref d), .val (.int (0 : Int32)), .val (.int (0 : Int32)), .val (.ref tb), .val (.int (((0 : Int32) + (1 : Int32)) + (1 : Int32))), .val (.int (0 : Int32)), .unset]) d_ebl_46 rfl (by decide) rfl rfl ?_
  refine k_baload (v := (.int y)) d_ebl_49 rfl SR (by decide) (by rw [show Int32.toNatClampNeg ((0 : Int32) + (1 : Int32)) = 1 by decide]; rfl) ?_
  refine k_sipush (z := (255 : Int32)) d_ebl_50 rfl (by decide) ?_
  refine k_iand d_ebl_53 rfl ?_
  refine k_bipush (z := (8 : Int32)) d_ebl_54 rfl (by decide) ?_
  refine k_ishl d_ebl_56 rfl ?_
  refine k_ior d_ebl_57 rfl ?_
  refine k_aloadN d_ebl_58 rfl rfl rfl ?_
  refine k_iload d_ebl_59 rfl rfl ?_
  refine k_iinc (z := (1 : Int32)) (Ls' := #[.val (.ref en), .val (.ref sr), .val (.int (0 : Int32)), .val (.int (3 : Int32)), .val (.ref d), .val (.int (0 : Int32)), .val (.int (0 : Int32)), .val (.ref tb), .val (.int ((((0 : Int32) + (1 : Int32)) + (1 : Int32)) + (1 : Int32))), .val (.int (0 : Int32)), .unset]) d_ebl_61 rfl (by decide) rfl rfl ?_
  refine k_baload (v := (.int z)) d_ebl_64 rfl SR (by decide) (by rw [show Int32.toNatClampNeg (((0 : Int32) + (1 : Int32)) + (1 : Int32)) = 2 by decide]; rfl) ?_
  refine k_sipush (z := (255 : Int32)) d_ebl_65 rfl (by decide) ?_
  refine k_iand d_ebl_68 rfl ?_
  refine k_ior d_ebl_69 rfl ?_
  refine KW.top (congrArg Value.int (show ((((x &&& (255 : Int32)) <<< ((16 : Int32) &&& 31)) ||| ((y &&& (255 : Int32)) <<< ((8 : Int32) &&& 31))) ||| (z &&& (255 : Int32))) = w24 x y z from rfl)) ?_
  show KW false l Z M_ebl n0 (fun v h => v = none ∧ Keep h0 h [d] ∧ Arv Z h d ckd .byte (4 : Int32) [.int (nbI (tbv ((UInt32.toInt32 (Int32.toUInt32 (w24 x y z) >>> Int32.toUInt32 ((18 : Int32) &&& 31))) &&& (63 : Int32)))), .int (nbI (tbv ((UInt32.toInt32 (Int32.toUInt32 (w24 x y z) >>> Int32.toUInt32 ((12 : Int32) &&& 31))) &&& (63 : Int32)))), .int (nbI (tbv ((UInt32.toInt32 (Int32.toUInt32 (w24 x y z) >>> Int32.toUInt32 ((6 : Int32) &&& 31))) &&& (63 : Int32)))), .int (nbI (tbv ((w24 x y z) &&& (63 : Int32))))] (.int 0)) ([], fun _ => False) h0 0 0 70 #[.val (.ref en), .val (.ref sr), .val (.int (0 : Int32)), .val (.int (3 : Int32)), .val (.ref d), .val (.int (0 : Int32)), .val (.int (0 : Int32)), .val (.ref tb), .val (.int ((((0 : Int32) + (1 : Int32)) + (1 : Int32)) + (1 : Int32))), .val (.int (0 : Int32)), .unset] [(.int (w24 x y z))]
  refine k_istore (Ls' := #[.val (.ref en), .val (.ref sr), .val (.int (0 : Int32)), .val (.int (3 : Int32)), .val (.ref d), .val (.int (0 : Int32)), .val (.int (0 : Int32)), .val (.ref tb), .val (.int ((((0 : Int32) + (1 : Int32)) + (1 : Int32)) + (1 : Int32))), .val (.int (0 : Int32)), .val (.int (w24 x y z))]) d_ebl_70 rfl rfl ?_
  refine k_aload d_ebl_72 rfl rfl rfl ?_
  refine k_iload d_ebl_74 rfl rfl ?_
  refine k_iinc (z := (1 : Int32)) (Ls' := #[.val (.ref en), .val (.ref sr), .val (.int (0 : Int32)), .val (.int (3 : Int32)), .val (.ref d), .val (.int (0 : Int32)), .val (.int (0 : Int32)), .val (.ref tb), .val (.int ((((0 : Int32) + (1 : Int32)) + (1 : Int32)) + (1 : Int32))), .val (.int ((0 : Int32) + (1 : Int32))), .val (.int (w24 x y z))]) d_ebl_76 rfl (by decide) rfl rfl ?_
  refine k_aload d_ebl_79 rfl rfl rfl ?_
  refine k_iload d_ebl_81 rfl rfl ?_
  refine k_bipush (z := (18 : Int32)) d_ebl_83 rfl (by decide) ?_
  refine k_iushr d_ebl_85 rfl ?_
  refine k_bipush (z := (63 : Int32)) d_ebl_86 rfl (by decide) ?_
  refine k_iand d_ebl_88 rfl ?_
  refine k_caload (v := (.int (tbv ((UInt32.toInt32 (Int32.toUInt32 (w24 x y z) >>> Int32.toUInt32 ((18 : Int32) &&& 31))) &&& (63 : Int32))))) d_ebl_89 rfl TBh (m63 _) (getD_int T64 _) ?_
  refine k_i2b d_ebl_90 rfl ?_
  refine k_bastore (i := 0) d_ebl_91 rfl D0 (by decide) (by decide) (by simp) gd (fun q => by cases q) ?_
  intro h1 W2 V3
  have V4 : Arv Z h1 d ckd .byte (4 : Int32) [(.int (nar .byte (Int8.toInt32 (Int32.toInt8 (tbv ((UInt32.toInt32 (Int32.toUInt32 (w24 x y z) >>> Int32.toUInt32 ((18 : Int32) &&& 31))) &&& (63 : Int32))))))), (.int 0), (.int 0), (.int 0)] (.int 0) := V3
  show KW false l Z M_ebl n0 (fun v h => v = none ∧ Keep h0 h [d] ∧ Arv Z h d ckd .byte (4 : Int32) [.int (nbI (tbv ((UInt32.toInt32 (Int32.toUInt32 (w24 x y z) >>> Int32.toUInt32 ((18 : Int32) &&& 31))) &&& (63 : Int32)))), .int (nbI (tbv ((UInt32.toInt32 (Int32.toUInt32 (w24 x y z) >>> Int32.toUInt32 ((12 : Int32) &&& 31))) &&& (63 : Int32)))), .int (nbI (tbv ((UInt32.toInt32 (Int32.toUInt32 (w24 x y z) >>> Int32.toUInt32 ((6 : Int32) &&& 31))) &&& (63 : Int32)))), .int (nbI (tbv ((w24 x y z) &&& (63 : Int32))))] (.int 0)) ([], fun _ => False) h1 0 0 92 #[.val (.ref en), .val (.ref sr), .val (.int (0 : Int32)), .val (.int (3 : Int32)), .val (.ref d), .val (.int (0 : Int32)), .val (.int (0 : Int32)), .val (.ref tb), .val (.int ((((0 : Int32) + (1 : Int32)) + (1 : Int32)) + (1 : Int32))), .val (.int ((0 : Int32) + (1 : Int32))), .val (.int (w24 x y z))] []
  refine k_aload d_ebl_92 rfl rfl rfl ?_
  refine k_iload d_ebl_94 rfl rfl ?_
  refine k_iinc (z := (1 : Int32)) (Ls' := #[.val (.ref en), .val (.ref sr), .val (.int (0 : Int32)), .val (.int (3 : Int32)), .val (.ref d), .val (.int (0 : Int32)), .val (.int (0 : Int32)), .val (.ref tb), .val (.int ((((0 : Int32) + (1 : Int32)) + (1 : Int32)) + (1 : Int32))), .val (.int (((0 : Int32) + (1 : Int32)) + (1 : Int32))), .val (.int (w24 x y z))]) d_ebl_96 rfl (by decide) rfl rfl ?_
  refine k_aload d_ebl_99 rfl rfl rfl ?_
  refine k_iload d_ebl_101 rfl rfl ?_
  refine k_bipush (z := (12 : Int32)) d_ebl_103 rfl (by decide) ?_
  refine k_iushr d_ebl_105 rfl ?_
  refine k_bipush (z := (63 : Int32)) d_ebl_106 rfl (by decide) ?_
  refine k_iand d_ebl_108 rfl ?_
  have f5 := (TBh.other W2 htd)
  refine k_caload (v := (.int (tbv ((UInt32.toInt32 (Int32.toUInt32 (w24 x y z) >>> Int32.toUInt32 ((12 : Int32) &&& 31))) &&& (63 : Int32))))) d_ebl_109 rfl f5 (m63 _) (getD_int T64 _) ?_
  refine k_i2b d_ebl_110 rfl ?_
  refine k_bastore (i := 1) d_ebl_111 rfl V4 (by decide) (by decide) (by simp) gd (fun q => by cases q) ?_
  intro h6 W7 V8
  have V9 : Arv Z h6 d ckd .byte (4 : Int32) [(.int (nar .byte (Int8.toInt32 (Int32.toInt8 (tbv ((UInt32.toInt32 (Int32.toUInt32 (w24 x y z) >>> Int32.toUInt32 ((18 : Int32) &&& 31))) &&& (63 : Int32))))))), (.int (nar .byte (Int8.toInt32 (Int32.toInt8 (tbv ((UInt32.toInt32 (Int32.toUInt32 (w24 x y z) >>> Int32.toUInt32 ((12 : Int32) &&& 31))) &&& (63 : Int32))))))), (.int 0), (.int 0)] (.int 0) := V8
  show KW false l Z M_ebl n0 (fun v h => v = none ∧ Keep h0 h [d] ∧ Arv Z h d ckd .byte (4 : Int32) [.int (nbI (tbv ((UInt32.toInt32 (Int32.toUInt32 (w24 x y z) >>> Int32.toUInt32 ((18 : Int32) &&& 31))) &&& (63 : Int32)))), .int (nbI (tbv ((UInt32.toInt32 (Int32.toUInt32 (w24 x y z) >>> Int32.toUInt32 ((12 : Int32) &&& 31))) &&& (63 : Int32)))), .int (nbI (tbv ((UInt32.toInt32 (Int32.toUInt32 (w24 x y z) >>> Int32.toUInt32 ((6 : Int32) &&& 31))) &&& (63 : Int32)))), .int (nbI (tbv ((w24 x y z) &&& (63 : Int32))))] (.int 0)) ([], fun _ => False) h6 0 0 112 #[.val (.ref en), .val (.ref sr), .val (.int (0 : Int32)), .val (.int (3 : Int32)), .val (.ref d), .val (.int (0 : Int32)), .val (.int (0 : Int32)), .val (.ref tb), .val (.int ((((0 : Int32) + (1 : Int32)) + (1 : Int32)) + (1 : Int32))), .val (.int (((0 : Int32) + (1 : Int32)) + (1 : Int32))), .val (.int (w24 x y z))] []
  refine k_aload d_ebl_112 rfl rfl rfl ?_
  refine k_iload d_ebl_114 rfl rfl ?_
  refine k_iinc (z := (1 : Int32)) (Ls' := #[.val (.ref en), .val (.ref sr), .val (.int (0 : Int32)), .val (.int (3 : Int32)), .val (.ref d), .val (.int (0 : Int32)), .val (.int (0 : Int32)), .val (.ref tb), .val (.int ((((0 : Int32) + (1 : Int32)) + (1 : Int32)) + (1 : Int32))), .val (.int ((((0 : Int32) + (1 : Int32)) + (1 : Int32)) + (1 : Int32))), .val (.int (w24 x y z))]) d_ebl_116 rfl (by decide) rfl rfl ?_
  refine k_aload d_ebl_119 rfl rfl rfl ?_
  refine k_iload d_ebl_121 rfl rfl ?_
  refine k_bipush (z := (6 : Int32)) d_ebl_123 rfl (by decide) ?_
  refine k_iushr d_ebl_125 rfl ?_
  refine k_bipush (z := (63 : Int32)) d_ebl_126 rfl (by decide) ?_
  refine k_iand d_ebl_128 rfl ?_
  have f10 := (f5.other W7 htd)
  refine k_caload (v := (.int (tbv ((UInt32.toInt32 (Int32.toUInt32 (w24 x y z) >>> Int32.toUInt32 ((6 : Int32) &&& 31))) &&& (63 : Int32))))) d_ebl_129 rfl f10 (m63 _) (getD_int T64 _) ?_
  refine k_i2b d_ebl_130 rfl ?_
  refine k_bastore (i := 2) d_ebl_131 rfl V9 (by decide) (by decide) (by simp) gd (fun q => by cases q) ?_
  intro h11 W12 V13
  have V14 : Arv Z h11 d ckd .byte (4 : Int32) [(.int (nar .byte (Int8.toInt32 (Int32.toInt8 (tbv ((UInt32.toInt32 (Int32.toUInt32 (w24 x y z) >>> Int32.toUInt32 ((18 : Int32) &&& 31))) &&& (63 : Int32))))))), (.int (nar .byte (Int8.toInt32 (Int32.toInt8 (tbv ((UInt32.toInt32 (Int32.toUInt32 (w24 x y z) >>> Int32.toUInt32 ((12 : Int32) &&& 31))) &&& (63 : Int32))))))), (.int (nar .byte (Int8.toInt32 (Int32.toInt8 (tbv ((UInt32.toInt32 (Int32.toUInt32 (w24 x y z) >>> Int32.toUInt32 ((6 : Int32) &&& 31))) &&& (63 : Int32))))))), (.int 0)] (.int 0) := V13
  show KW false l Z M_ebl n0 (fun v h => v = none ∧ Keep h0 h [d] ∧ Arv Z h d ckd .byte (4 : Int32) [.int (nbI (tbv ((UInt32.toInt32 (Int32.toUInt32 (w24 x y z) >>> Int32.toUInt32 ((18 : Int32) &&& 31))) &&& (63 : Int32)))), .int (nbI (tbv ((UInt32.toInt32 (Int32.toUInt32 (w24 x y z) >>> Int32.toUInt32 ((12 : Int32) &&& 31))) &&& (63 : Int32)))), .int (nbI (tbv ((UInt32.toInt32 (Int32.toUInt32 (w24 x y z) >>> Int32.toUInt32 ((6 : Int32) &&& 31))) &&& (63 : Int32)))), .int (nbI (tbv ((w24 x y z) &&& (63 : Int32))))] (.int 0)) ([], fun _ => False) h11 0 0 132 #[.val (.ref en), .val (.ref sr), .val (.int (0 : Int32)), .val (.int (3 : Int32)), .val (.ref d), .val (.int (0 : Int32)), .val (.int (0 : Int32)), .val (.ref tb), .val (.int ((((0 : Int32) + (1 : Int32)) + (1 : Int32)) + (1 : Int32))), .val (.int ((((0 : Int32) + (1 : Int32)) + (1 : Int32)) + (1 : Int32))), .val (.int (w24 x y z))] []
  refine k_aload d_ebl_132 rfl rfl rfl ?_
  refine k_iload d_ebl_134 rfl rfl ?_
  refine k_iinc (z := (1 : Int32)) (Ls' := #[.val (.ref en), .val (.ref sr), .val (.int (0 : Int32)), .val (.int (3 : Int32)), .val (.ref d), .val (.int (0 : Int32)), .val (.int (0 : Int32)), .val (.ref tb), .val (.int ((((0 : Int32) + (1 : Int32)) + (1 : Int32)) + (1 : Int32))), .val (.int (((((0 : Int32) + (1 : Int32)) + (1 : Int32)) + (1 : Int32)) + (1 : Int32))), .val (.int (w24 x y z))]) d_ebl_136 rfl (by decide) rfl rfl ?_
  refine k_aload d_ebl_139 rfl rfl rfl ?_
  refine k_iload d_ebl_141 rfl rfl ?_
  refine k_bipush (z := (63 : Int32)) d_ebl_143 rfl (by decide) ?_
  refine k_iand d_ebl_145 rfl ?_
  have f15 := (f10.other W12 htd)
  refine k_caload (v := (.int (tbv ((w24 x y z) &&& (63 : Int32))))) d_ebl_146 rfl f15 (m63 _) (getD_int T64 _) ?_
  refine k_i2b d_ebl_147 rfl ?_
  refine k_bastore (i := 3) d_ebl_148 rfl V14 (by decide) (by decide) (by simp) gd (fun q => by cases q) ?_
  intro h16 W17 V18
  have V19 : Arv Z h16 d ckd .byte (4 : Int32) [(.int (nar .byte (Int8.toInt32 (Int32.toInt8 (tbv ((UInt32.toInt32 (Int32.toUInt32 (w24 x y z) >>> Int32.toUInt32 ((18 : Int32) &&& 31))) &&& (63 : Int32))))))), (.int (nar .byte (Int8.toInt32 (Int32.toInt8 (tbv ((UInt32.toInt32 (Int32.toUInt32 (w24 x y z) >>> Int32.toUInt32 ((12 : Int32) &&& 31))) &&& (63 : Int32))))))), (.int (nar .byte (Int8.toInt32 (Int32.toInt8 (tbv ((UInt32.toInt32 (Int32.toUInt32 (w24 x y z) >>> Int32.toUInt32 ((6 : Int32) &&& 31))) &&& (63 : Int32))))))), (.int (nar .byte (Int8.toInt32 (Int32.toInt8 (tbv ((w24 x y z) &&& (63 : Int32)))))))] (.int 0) := V18
  show KW false l Z M_ebl n0 (fun v h => v = none ∧ Keep h0 h [d] ∧ Arv Z h d ckd .byte (4 : Int32) [.int (nbI (tbv ((UInt32.toInt32 (Int32.toUInt32 (w24 x y z) >>> Int32.toUInt32 ((18 : Int32) &&& 31))) &&& (63 : Int32)))), .int (nbI (tbv ((UInt32.toInt32 (Int32.toUInt32 (w24 x y z) >>> Int32.toUInt32 ((12 : Int32) &&& 31))) &&& (63 : Int32)))), .int (nbI (tbv ((UInt32.toInt32 (Int32.toUInt32 (w24 x y z) >>> Int32.toUInt32 ((6 : Int32) &&& 31))) &&& (63 : Int32)))), .int (nbI (tbv ((w24 x y z) &&& (63 : Int32))))] (.int 0)) ([], fun _ => False) h16 0 0 149 #[.val (.ref en), .val (.ref sr), .val (.int (0 : Int32)), .val (.int (3 : Int32)), .val (.ref d), .val (.int (0 : Int32)), .val (.int (0 : Int32)), .val (.ref tb), .val (.int ((((0 : Int32) + (1 : Int32)) + (1 : Int32)) + (1 : Int32))), .val (.int (((((0 : Int32) + (1 : Int32)) + (1 : Int32)) + (1 : Int32)) + (1 : Int32))), .val (.int (w24 x y z))] []
  refine k_goto (pc' := 23) d_ebl_149 (by decide) (by decide) ?_
  refine k_iload d_ebl_23 rfl rfl ?_
  refine k_iloadN d_ebl_25 rfl rfl ?_
  refine k_icmp (pc1 := 152) (pc' := 29) d_ebl_26 (by decide) (by decide) rfl (fun (cd3 : ¬ ((((0 : Int32) + (1 : Int32)) + (1 : Int32)) + (1 : Int32)) < (3 : Int32)) => ?_) (fun (cd3 : ((((0 : Int32) + (1 : Int32)) + (1 : Int32)) + (1 : Int32)) < (3 : Int32)) => False.elim (by exact absurd cd3 (by decide)))
  have f20 := ((((K0.wr W2 (Or.inl (by simp))).wr W7 (Or.inl (by simp))).wr W12 (Or.inl (by simp))).wr W17 (Or.inl (by simp)))
  exact k_retVoid d_ebl_152 rfl (by decide) (by decide) ⟨rfl, f20, V19⟩
theorem mt_ebl (l : Launch) (Z : State) (a0 : Array Value) (hw : ∀ d ∈ tables_1, d.before a0 Z = true) (cs : Int32) (hcs : ¬ cs = 0) (SC : Sta Z Z.heap "java/lang/String" "COMPACT_STRINGS" "Z" (.int cs)) (hEW : EW Z a0 EL) (en : Addr) (ENC : Enc Z Z.heap en) (tb : Addr) (ckt : ClassId) (STB : Sta Z Z.heap "java/util/Base64$Encoder" "toBase64" "[C" (.ref tb)) (TB : Arv Z Z.heap tb ckt .char (64 : Int32) (T64.map Value.int) (.int 0)) (sr d : Addr) (cks ckd : ClassId) (x y z : Int32) (h0 : Heap) (n0 : Nat) (OD : Old Z n0 h0) (SR : Arv Z h0 sr cks .byte (3 : Int32) [.int x, .int y, .int z] (.int 0)) (D0 : Arv Z h0 d ckd .byte (4 : Int32) [.int 0, .int 0, .int 0, .int 0] (.int 0)) (gd : n0 ≤ d) (hsd : sr ≠ d) : Mt l Z M_ebl [] n0 #[(.ref en), (.ref sr), (.int (0 : Int32)), (.int (3 : Int32)), (.ref d), (.int (0 : Int32)), (.int (0 : Int32))] h0 (fun v h => v = none ∧ Keep h0 h [d] ∧ Arv Z h d ckd .byte (4 : Int32) [.int (nbI (tbv ((UInt32.toInt32 (Int32.toUInt32 (w24 x y z) >>> Int32.toUInt32 ((18 : Int32) &&& 31))) &&& (63 : Int32)))), .int (nbI (tbv ((UInt32.toInt32 (Int32.toUInt32 (w24 x y z) >>> Int32.toUInt32 ((12 : Int32) &&& 31))) &&& (63 : Int32)))), .int (nbI (tbv ((UInt32.toInt32 (Int32.toUInt32 (w24 x y z) >>> Int32.toUInt32 ((6 : Int32) &&& 31))) &&& (63 : Int32)))), .int (nbI (tbv ((w24 x y z) &&& (63 : Int32))))] (.int 0)) :=
  mt_of_kw (P := ([], fun _ => False)) pf_ebl (fun m => by first | (simp [entryFrame, mkF, argsToLocals, Value.category]; done) | rfl) (kw_ebl l Z a0 hw cs hcs SC hEW en ENC tb ckt STB TB sr d cks ckd x y z h0 n0 OD SR D0 gd hsd)
abbrev M_en0 : MD := ((⟨"java/util/Base64$Encoder", "encode0", "([BII[B)I"⟩ : MethodName), jdk_2452_method_10_code, 16, (some .int), { frames := 1, cells := 0, slots := 0, locals := 28 })
theorem d_en0_0 : decode jdk_2452_method_10_code 0 = .ok (.aload_n 0, 1) := by decide +kernel
theorem d_en0_1 : decode jdk_2452_method_10_code 1 = .ok (.getfield 7, 3) := by decide +kernel
theorem d_en0_4 : decode jdk_2452_method_10_code 4 = .ok (.ifCond .eq 9, 3) := by decide +kernel
theorem d_en0_7 : decode jdk_2452_method_10_code 7 = .ok (.getstatic 111, 3) := by decide +kernel
theorem d_en0_10 : decode jdk_2452_method_10_code 10 = .ok (.goto 6, 3) := by decide +kernel
theorem d_en0_13 : decode jdk_2452_method_10_code 13 = .ok (.getstatic 115, 3) := by decide +kernel
theorem d_en0_16 : decode jdk_2452_method_10_code 16 = .ok (.astore 5, 2) := by decide +kernel
theorem d_en0_18 : decode jdk_2452_method_10_code 18 = .ok (.iload_n 2, 1) := by decide +kernel
theorem d_en0_19 : decode jdk_2452_method_10_code 19 = .ok (.istore 6, 2) := by decide +kernel
theorem d_en0_21 : decode jdk_2452_method_10_code 21 = .ok (.iload_n 3, 1) := by decide +kernel
theorem d_en0_22 : decode jdk_2452_method_10_code 22 = .ok (.iload_n 2, 1) := by decide +kernel
theorem d_en0_23 : decode jdk_2452_method_10_code 23 = .ok (.isub, 1) := by decide +kernel
theorem d_en0_24 : decode jdk_2452_method_10_code 24 = .ok (.iconst 3, 1) := by decide +kernel
theorem d_en0_25 : decode jdk_2452_method_10_code 25 = .ok (.idiv, 1) := by decide +kernel
theorem d_en0_26 : decode jdk_2452_method_10_code 26 = .ok (.iconst 3, 1) := by decide +kernel
theorem d_en0_27 : decode jdk_2452_method_10_code 27 = .ok (.imul, 1) := by decide +kernel
theorem d_en0_28 : decode jdk_2452_method_10_code 28 = .ok (.istore 7, 2) := by decide +kernel
theorem d_en0_30 : decode jdk_2452_method_10_code 30 = .ok (.iload_n 2, 1) := by decide +kernel
theorem d_en0_31 : decode jdk_2452_method_10_code 31 = .ok (.iload 7, 2) := by decide +kernel
theorem d_en0_33 : decode jdk_2452_method_10_code 33 = .ok (.iadd, 1) := by decide +kernel
theorem d_en0_34 : decode jdk_2452_method_10_code 34 = .ok (.istore 8, 2) := by decide +kernel
theorem d_en0_36 : decode jdk_2452_method_10_code 36 = .ok (.aload_n 0, 1) := by decide +kernel
theorem d_en0_37 : decode jdk_2452_method_10_code 37 = .ok (.getfield 17, 3) := by decide +kernel
theorem d_en0_40 : decode jdk_2452_method_10_code 40 = .ok (.ifCond .le 26, 3) := by decide +kernel
theorem d_en0_43 : decode jdk_2452_method_10_code 43 = .ok (.iload 7, 2) := by decide +kernel
theorem d_en0_45 : decode jdk_2452_method_10_code 45 = .ok (.aload_n 0, 1) := by decide +kernel
theorem d_en0_46 : decode jdk_2452_method_10_code 46 = .ok (.getfield 17, 3) := by decide +kernel
theorem d_en0_49 : decode jdk_2452_method_10_code 49 = .ok (.iconst 4, 1) := by decide +kernel
theorem d_en0_50 : decode jdk_2452_method_10_code 50 = .ok (.idiv, 1) := by decide +kernel
theorem d_en0_51 : decode jdk_2452_method_10_code 51 = .ok (.iconst 3, 1) := by decide +kernel
theorem d_en0_52 : decode jdk_2452_method_10_code 52 = .ok (.imul, 1) := by decide +kernel
theorem d_en0_53 : decode jdk_2452_method_10_code 53 = .ok (.if_icmp .le 13, 3) := by decide +kernel
theorem d_en0_56 : decode jdk_2452_method_10_code 56 = .ok (.aload_n 0, 1) := by decide +kernel
theorem d_en0_57 : decode jdk_2452_method_10_code 57 = .ok (.getfield 17, 3) := by decide +kernel
theorem d_en0_60 : decode jdk_2452_method_10_code 60 = .ok (.iconst 4, 1) := by decide +kernel
theorem d_en0_61 : decode jdk_2452_method_10_code 61 = .ok (.idiv, 1) := by decide +kernel
theorem d_en0_62 : decode jdk_2452_method_10_code 62 = .ok (.iconst 3, 1) := by decide +kernel
theorem d_en0_63 : decode jdk_2452_method_10_code 63 = .ok (.imul, 1) := by decide +kernel
theorem d_en0_64 : decode jdk_2452_method_10_code 64 = .ok (.istore 7, 2) := by decide +kernel
theorem d_en0_66 : decode jdk_2452_method_10_code 66 = .ok (.iconst 0, 1) := by decide +kernel
theorem d_en0_67 : decode jdk_2452_method_10_code 67 = .ok (.istore 9, 2) := by decide +kernel
theorem d_en0_69 : decode jdk_2452_method_10_code 69 = .ok (.iload 6, 2) := by decide +kernel
theorem d_en0_71 : decode jdk_2452_method_10_code 71 = .ok (.iload 8, 2) := by decide +kernel
theorem d_en0_73 : decode jdk_2452_method_10_code 73 = .ok (.if_icmp .ge 116, 3) := by decide +kernel
theorem d_en0_76 : decode jdk_2452_method_10_code 76 = .ok (.iload 6, 2) := by decide +kernel
theorem d_en0_78 : decode jdk_2452_method_10_code 78 = .ok (.iload 7, 2) := by decide +kernel
theorem d_en0_80 : decode jdk_2452_method_10_code 80 = .ok (.iadd, 1) := by decide +kernel
theorem d_en0_81 : decode jdk_2452_method_10_code 81 = .ok (.iload 8, 2) := by decide +kernel
theorem d_en0_83 : decode jdk_2452_method_10_code 83 = .ok (.invokestatic 124, 3) := by decide +kernel
theorem d_en0_86 : decode jdk_2452_method_10_code 86 = .ok (.istore 10, 2) := by decide +kernel
theorem d_en0_88 : decode jdk_2452_method_10_code 88 = .ok (.aload_n 0, 1) := by decide +kernel
theorem d_en0_89 : decode jdk_2452_method_10_code 89 = .ok (.aload_n 1, 1) := by decide +kernel
theorem d_en0_90 : decode jdk_2452_method_10_code 90 = .ok (.iload 6, 2) := by decide +kernel
theorem d_en0_92 : decode jdk_2452_method_10_code 92 = .ok (.iload 10, 2) := by decide +kernel
theorem d_en0_94 : decode jdk_2452_method_10_code 94 = .ok (.aload 4, 2) := by decide +kernel
theorem d_en0_96 : decode jdk_2452_method_10_code 96 = .ok (.iload 9, 2) := by decide +kernel
theorem d_en0_98 : decode jdk_2452_method_10_code 98 = .ok (.aload_n 0, 1) := by decide +kernel
theorem d_en0_99 : decode jdk_2452_method_10_code 99 = .ok (.getfield 7, 3) := by decide +kernel
theorem d_en0_102 : decode jdk_2452_method_10_code 102 = .ok (.invokevirtual 127, 3) := by decide +kernel
theorem d_en0_105 : decode jdk_2452_method_10_code 105 = .ok (.iload 10, 2) := by decide +kernel
theorem d_en0_107 : decode jdk_2452_method_10_code 107 = .ok (.iload 6, 2) := by decide +kernel
theorem d_en0_109 : decode jdk_2452_method_10_code 109 = .ok (.isub, 1) := by decide +kernel
theorem d_en0_110 : decode jdk_2452_method_10_code 110 = .ok (.iconst 3, 1) := by decide +kernel
theorem d_en0_111 : decode jdk_2452_method_10_code 111 = .ok (.idiv, 1) := by decide +kernel
theorem d_en0_112 : decode jdk_2452_method_10_code 112 = .ok (.iconst 4, 1) := by decide +kernel
theorem d_en0_113 : decode jdk_2452_method_10_code 113 = .ok (.imul, 1) := by decide +kernel
theorem d_en0_114 : decode jdk_2452_method_10_code 114 = .ok (.istore 11, 2) := by decide +kernel
theorem d_en0_116 : decode jdk_2452_method_10_code 116 = .ok (.iload 9, 2) := by decide +kernel
theorem d_en0_118 : decode jdk_2452_method_10_code 118 = .ok (.iload 11, 2) := by decide +kernel
theorem d_en0_120 : decode jdk_2452_method_10_code 120 = .ok (.iadd, 1) := by decide +kernel
theorem d_en0_121 : decode jdk_2452_method_10_code 121 = .ok (.istore 9, 2) := by decide +kernel
theorem d_en0_123 : decode jdk_2452_method_10_code 123 = .ok (.iload 10, 2) := by decide +kernel
theorem d_en0_125 : decode jdk_2452_method_10_code 125 = .ok (.istore 6, 2) := by decide +kernel
theorem d_en0_127 : decode jdk_2452_method_10_code 127 = .ok (.iload 11, 2) := by decide +kernel
theorem d_en0_129 : decode jdk_2452_method_10_code 129 = .ok (.aload_n 0, 1) := by decide +kernel
theorem d_en0_130 : decode jdk_2452_method_10_code 130 = .ok (.getfield 17, 3) := by decide +kernel
theorem d_en0_133 : decode jdk_2452_method_10_code 133 = .ok (.if_icmp .ne 53, 3) := by decide +kernel
theorem d_en0_136 : decode jdk_2452_method_10_code 136 = .ok (.iload 6, 2) := by decide +kernel
theorem d_en0_138 : decode jdk_2452_method_10_code 138 = .ok (.iload_n 3, 1) := by decide +kernel
theorem d_en0_139 : decode jdk_2452_method_10_code 139 = .ok (.if_icmp .ge 47, 3) := by decide +kernel
theorem d_en0_142 : decode jdk_2452_method_10_code 142 = .ok (.aload_n 0, 1) := by decide +kernel
theorem d_en0_143 : decode jdk_2452_method_10_code 143 = .ok (.getfield 13, 3) := by decide +kernel
theorem d_en0_146 : decode jdk_2452_method_10_code 146 = .ok (.astore 12, 2) := by decide +kernel
theorem d_en0_148 : decode jdk_2452_method_10_code 148 = .ok (.aload 12, 2) := by decide +kernel
theorem d_en0_150 : decode jdk_2452_method_10_code 150 = .ok (.arraylength, 1) := by decide +kernel
theorem d_en0_151 : decode jdk_2452_method_10_code 151 = .ok (.istore 13, 2) := by decide +kernel
theorem d_en0_153 : decode jdk_2452_method_10_code 153 = .ok (.iconst 0, 1) := by decide +kernel
theorem d_en0_154 : decode jdk_2452_method_10_code 154 = .ok (.istore 14, 2) := by decide +kernel
theorem d_en0_156 : decode jdk_2452_method_10_code 156 = .ok (.iload 14, 2) := by decide +kernel
theorem d_en0_158 : decode jdk_2452_method_10_code 158 = .ok (.iload 13, 2) := by decide +kernel
theorem d_en0_160 : decode jdk_2452_method_10_code 160 = .ok (.if_icmp .ge 26, 3) := by decide +kernel
theorem d_en0_163 : decode jdk_2452_method_10_code 163 = .ok (.aload 12, 2) := by decide +kernel
theorem d_en0_165 : decode jdk_2452_method_10_code 165 = .ok (.iload 14, 2) := by decide +kernel
theorem d_en0_167 : decode jdk_2452_method_10_code 167 = .ok (.baload, 1) := by decide +kernel
theorem d_en0_168 : decode jdk_2452_method_10_code 168 = .ok (.istore 15, 2) := by decide +kernel
theorem d_en0_170 : decode jdk_2452_method_10_code 170 = .ok (.aload 4, 2) := by decide +kernel
theorem d_en0_172 : decode jdk_2452_method_10_code 172 = .ok (.iload 9, 2) := by decide +kernel
theorem d_en0_174 : decode jdk_2452_method_10_code 174 = .ok (.iinc 9 1, 3) := by decide +kernel
theorem d_en0_177 : decode jdk_2452_method_10_code 177 = .ok (.iload 15, 2) := by decide +kernel
theorem d_en0_179 : decode jdk_2452_method_10_code 179 = .ok (.bastore, 1) := by decide +kernel
theorem d_en0_180 : decode jdk_2452_method_10_code 180 = .ok (.iinc 14 1, 3) := by decide +kernel
theorem d_en0_183 : decode jdk_2452_method_10_code 183 = .ok (.goto (-27), 3) := by decide +kernel
theorem d_en0_186 : decode jdk_2452_method_10_code 186 = .ok (.goto (-117), 3) := by decide +kernel
theorem d_en0_189 : decode jdk_2452_method_10_code 189 = .ok (.iload 6, 2) := by decide +kernel
theorem d_en0_191 : decode jdk_2452_method_10_code 191 = .ok (.iload_n 3, 1) := by decide +kernel
theorem d_en0_192 : decode jdk_2452_method_10_code 192 = .ok (.if_icmp .ge 160, 3) := by decide +kernel
theorem d_en0_195 : decode jdk_2452_method_10_code 195 = .ok (.aload_n 1, 1) := by decide +kernel
theorem d_en0_196 : decode jdk_2452_method_10_code 196 = .ok (.iload 6, 2) := by decide +kernel
theorem d_en0_198 : decode jdk_2452_method_10_code 198 = .ok (.iinc 6 1, 3) := by decide +kernel
theorem d_en0_201 : decode jdk_2452_method_10_code 201 = .ok (.baload, 1) := by decide +kernel
theorem d_en0_202 : decode jdk_2452_method_10_code 202 = .ok (.sipush 255, 3) := by decide +kernel
theorem d_en0_205 : decode jdk_2452_method_10_code 205 = .ok (.iand, 1) := by decide +kernel
theorem d_en0_206 : decode jdk_2452_method_10_code 206 = .ok (.istore 10, 2) := by decide +kernel
theorem d_en0_208 : decode jdk_2452_method_10_code 208 = .ok (.aload 4, 2) := by decide +kernel
theorem d_en0_210 : decode jdk_2452_method_10_code 210 = .ok (.iload 9, 2) := by decide +kernel
theorem d_en0_212 : decode jdk_2452_method_10_code 212 = .ok (.iinc 9 1, 3) := by decide +kernel
theorem d_en0_215 : decode jdk_2452_method_10_code 215 = .ok (.aload 5, 2) := by decide +kernel
theorem d_en0_217 : decode jdk_2452_method_10_code 217 = .ok (.iload 10, 2) := by decide +kernel
theorem d_en0_219 : decode jdk_2452_method_10_code 219 = .ok (.iconst 2, 1) := by decide +kernel
theorem d_en0_220 : decode jdk_2452_method_10_code 220 = .ok (.ishr, 1) := by decide +kernel
theorem d_en0_221 : decode jdk_2452_method_10_code 221 = .ok (.caload, 1) := by decide +kernel
theorem d_en0_222 : decode jdk_2452_method_10_code 222 = .ok (.i2b, 1) := by decide +kernel
theorem d_en0_223 : decode jdk_2452_method_10_code 223 = .ok (.bastore, 1) := by decide +kernel
theorem d_en0_224 : decode jdk_2452_method_10_code 224 = .ok (.iload 6, 2) := by decide +kernel
theorem d_en0_226 : decode jdk_2452_method_10_code 226 = .ok (.iload_n 3, 1) := by decide +kernel
theorem d_en0_227 : decode jdk_2452_method_10_code 227 = .ok (.if_icmp .ne 52, 3) := by decide +kernel
theorem d_en0_230 : decode jdk_2452_method_10_code 230 = .ok (.aload 4, 2) := by decide +kernel
theorem d_en0_232 : decode jdk_2452_method_10_code 232 = .ok (.iload 9, 2) := by decide +kernel
theorem d_en0_234 : decode jdk_2452_method_10_code 234 = .ok (.iinc 9 1, 3) := by decide +kernel
theorem d_en0_237 : decode jdk_2452_method_10_code 237 = .ok (.aload 5, 2) := by decide +kernel
theorem d_en0_239 : decode jdk_2452_method_10_code 239 = .ok (.iload 10, 2) := by decide +kernel
theorem d_en0_241 : decode jdk_2452_method_10_code 241 = .ok (.iconst 4, 1) := by decide +kernel
theorem d_en0_242 : decode jdk_2452_method_10_code 242 = .ok (.ishl, 1) := by decide +kernel
theorem d_en0_243 : decode jdk_2452_method_10_code 243 = .ok (.bipush 63, 2) := by decide +kernel
theorem d_en0_245 : decode jdk_2452_method_10_code 245 = .ok (.iand, 1) := by decide +kernel
theorem d_en0_246 : decode jdk_2452_method_10_code 246 = .ok (.caload, 1) := by decide +kernel
theorem d_en0_247 : decode jdk_2452_method_10_code 247 = .ok (.i2b, 1) := by decide +kernel
theorem d_en0_248 : decode jdk_2452_method_10_code 248 = .ok (.bastore, 1) := by decide +kernel
theorem d_en0_249 : decode jdk_2452_method_10_code 249 = .ok (.aload_n 0, 1) := by decide +kernel
theorem d_en0_250 : decode jdk_2452_method_10_code 250 = .ok (.getfield 21, 3) := by decide +kernel
theorem d_en0_253 : decode jdk_2452_method_10_code 253 = .ok (.ifCond .eq 99, 3) := by decide +kernel
theorem d_en0_256 : decode jdk_2452_method_10_code 256 = .ok (.aload 4, 2) := by decide +kernel
theorem d_en0_258 : decode jdk_2452_method_10_code 258 = .ok (.iload 9, 2) := by decide +kernel
theorem d_en0_260 : decode jdk_2452_method_10_code 260 = .ok (.iinc 9 1, 3) := by decide +kernel
theorem d_en0_263 : decode jdk_2452_method_10_code 263 = .ok (.bipush 61, 2) := by decide +kernel
theorem d_en0_265 : decode jdk_2452_method_10_code 265 = .ok (.bastore, 1) := by decide +kernel
theorem d_en0_266 : decode jdk_2452_method_10_code 266 = .ok (.aload 4, 2) := by decide +kernel
theorem d_en0_268 : decode jdk_2452_method_10_code 268 = .ok (.iload 9, 2) := by decide +kernel
theorem d_en0_270 : decode jdk_2452_method_10_code 270 = .ok (.iinc 9 1, 3) := by decide +kernel
theorem d_en0_273 : decode jdk_2452_method_10_code 273 = .ok (.bipush 61, 2) := by decide +kernel
theorem d_en0_275 : decode jdk_2452_method_10_code 275 = .ok (.bastore, 1) := by decide +kernel
theorem d_en0_276 : decode jdk_2452_method_10_code 276 = .ok (.goto 76, 3) := by decide +kernel
theorem d_en0_279 : decode jdk_2452_method_10_code 279 = .ok (.aload_n 1, 1) := by decide +kernel
theorem d_en0_280 : decode jdk_2452_method_10_code 280 = .ok (.iload 6, 2) := by decide +kernel
theorem d_en0_282 : decode jdk_2452_method_10_code 282 = .ok (.iinc 6 1, 3) := by decide +kernel
theorem d_en0_285 : decode jdk_2452_method_10_code 285 = .ok (.baload, 1) := by decide +kernel
theorem d_en0_286 : decode jdk_2452_method_10_code 286 = .ok (.sipush 255, 3) := by decide +kernel
theorem d_en0_289 : decode jdk_2452_method_10_code 289 = .ok (.iand, 1) := by decide +kernel
theorem d_en0_290 : decode jdk_2452_method_10_code 290 = .ok (.istore 11, 2) := by decide +kernel
theorem d_en0_292 : decode jdk_2452_method_10_code 292 = .ok (.aload 4, 2) := by decide +kernel
theorem d_en0_294 : decode jdk_2452_method_10_code 294 = .ok (.iload 9, 2) := by decide +kernel
theorem d_en0_296 : decode jdk_2452_method_10_code 296 = .ok (.iinc 9 1, 3) := by decide +kernel
theorem d_en0_299 : decode jdk_2452_method_10_code 299 = .ok (.aload 5, 2) := by decide +kernel
theorem d_en0_301 : decode jdk_2452_method_10_code 301 = .ok (.iload 10, 2) := by decide +kernel
theorem d_en0_303 : decode jdk_2452_method_10_code 303 = .ok (.iconst 4, 1) := by decide +kernel
theorem d_en0_304 : decode jdk_2452_method_10_code 304 = .ok (.ishl, 1) := by decide +kernel
theorem d_en0_305 : decode jdk_2452_method_10_code 305 = .ok (.bipush 63, 2) := by decide +kernel
theorem d_en0_307 : decode jdk_2452_method_10_code 307 = .ok (.iand, 1) := by decide +kernel
theorem d_en0_308 : decode jdk_2452_method_10_code 308 = .ok (.iload 11, 2) := by decide +kernel
theorem d_en0_310 : decode jdk_2452_method_10_code 310 = .ok (.iconst 4, 1) := by decide +kernel
theorem d_en0_311 : decode jdk_2452_method_10_code 311 = .ok (.ishr, 1) := by decide +kernel
theorem d_en0_312 : decode jdk_2452_method_10_code 312 = .ok (.ior, 1) := by decide +kernel
theorem d_en0_313 : decode jdk_2452_method_10_code 313 = .ok (.caload, 1) := by decide +kernel
theorem d_en0_314 : decode jdk_2452_method_10_code 314 = .ok (.i2b, 1) := by decide +kernel
theorem d_en0_315 : decode jdk_2452_method_10_code 315 = .ok (.bastore, 1) := by decide +kernel
theorem d_en0_316 : decode jdk_2452_method_10_code 316 = .ok (.aload 4, 2) := by decide +kernel
theorem d_en0_318 : decode jdk_2452_method_10_code 318 = .ok (.iload 9, 2) := by decide +kernel
theorem d_en0_320 : decode jdk_2452_method_10_code 320 = .ok (.iinc 9 1, 3) := by decide +kernel
theorem d_en0_323 : decode jdk_2452_method_10_code 323 = .ok (.aload 5, 2) := by decide +kernel
theorem d_en0_325 : decode jdk_2452_method_10_code 325 = .ok (.iload 11, 2) := by decide +kernel
theorem d_en0_327 : decode jdk_2452_method_10_code 327 = .ok (.iconst 2, 1) := by decide +kernel
theorem d_en0_328 : decode jdk_2452_method_10_code 328 = .ok (.ishl, 1) := by decide +kernel
theorem d_en0_329 : decode jdk_2452_method_10_code 329 = .ok (.bipush 63, 2) := by decide +kernel
theorem d_en0_331 : decode jdk_2452_method_10_code 331 = .ok (.iand, 1) := by decide +kernel
theorem d_en0_332 : decode jdk_2452_method_10_code 332 = .ok (.caload, 1) := by decide +kernel
theorem d_en0_333 : decode jdk_2452_method_10_code 333 = .ok (.i2b, 1) := by decide +kernel
theorem d_en0_334 : decode jdk_2452_method_10_code 334 = .ok (.bastore, 1) := by decide +kernel
theorem d_en0_335 : decode jdk_2452_method_10_code 335 = .ok (.aload_n 0, 1) := by decide +kernel
theorem d_en0_336 : decode jdk_2452_method_10_code 336 = .ok (.getfield 21, 3) := by decide +kernel
theorem d_en0_339 : decode jdk_2452_method_10_code 339 = .ok (.ifCond .eq 13, 3) := by decide +kernel
theorem d_en0_342 : decode jdk_2452_method_10_code 342 = .ok (.aload 4, 2) := by decide +kernel
theorem d_en0_344 : decode jdk_2452_method_10_code 344 = .ok (.iload 9, 2) := by decide +kernel
theorem d_en0_346 : decode jdk_2452_method_10_code 346 = .ok (.iinc 9 1, 3) := by decide +kernel
theorem d_en0_349 : decode jdk_2452_method_10_code 349 = .ok (.bipush 61, 2) := by decide +kernel
theorem d_en0_351 : decode jdk_2452_method_10_code 351 = .ok (.bastore, 1) := by decide +kernel
theorem d_en0_352 : decode jdk_2452_method_10_code 352 = .ok (.iload 9, 2) := by decide +kernel
theorem d_en0_354 : decode jdk_2452_method_10_code 354 = .ok (.ireturn, 1) := by decide +kernel
theorem pd_en0 : parseMethodDescriptor "([BII[B)I" = some ⟨[(.array .byte), .int, .int, (.array .byte)], (some .int)⟩ := by decide +kernel
theorem pf_en0 : plainFor (⟨"java/util/Base64$Encoder", "encode0", "([BII[B)I"⟩ : MethodName) = true := by first | exact plainFor_of_name (by first | (simp [plainName, overriddenIn]; done) | decide +kernel) | decide +kernel
set_option maxRecDepth 65536 in
set_option maxHeartbeats 40000000 in
theorem kw_en0_3 (l : Launch) (Z : State) (a0 : Array Value) (hw : ∀ d ∈ tables_1, d.before a0 Z = true) (cs : Int32) (hcs : ¬ cs = 0) (SC : Sta Z Z.heap "java/lang/String" "COMPACT_STRINGS" "Z" (.int cs)) (hEW : EW Z a0 EL) (en : Addr) (ENC : Enc Z Z.heap en) (tb : Addr) (ckt : ClassId) (STB : Sta Z Z.heap "java/util/Base64$Encoder" "toBase64" "[C" (.ref tb)) (TB : Arv Z Z.heap tb ckt .char (64 : Int32) (T64.map Value.int) (.int 0)) (sr d : Addr) (cks ckd : ClassId) (x y z : Int32) (h0 : Heap) (n0 : Nat) (OD : Old Z n0 h0) (SR : Arv Z h0 sr cks .byte (3 : Int32) [.int (x), .int (y), .int (z)] (.int 0)) (D0 : Arv Z h0 d ckd .byte (4 : Int32) [.int (0), .int (0), .int (0), .int (0)] (.int 0)) (gd : n0 ≤ d) (hsd : sr ≠ d) : KW false l Z M_en0 n0 (fun v h => v = some (.int 4) ∧ Keep h0 h [d] ∧ Arv Z h d ckd .byte (4 : Int32) [.int (nbI (tbv ((UInt32.toInt32 (Int32.toUInt32 (w24 x y z) >>> Int32.toUInt32 ((18 : Int32) &&& 31))) &&& (63 : Int32)))), .int (nbI (tbv ((UInt32.toInt32 (Int32.toUInt32 (w24 x y z) >>> Int32.toUInt32 ((12 : Int32) &&& 31))) &&& (63 : Int32)))), .int (nbI (tbv ((UInt32.toInt32 (Int32.toUInt32 (w24 x y z) >>> Int32.toUInt32 ((6 : Int32) &&& 31))) &&& (63 : Int32)))), .int (nbI (tbv ((w24 x y z) &&& (63 : Int32))))] (.int 0)) ([], fun _ => False) h0 0 0 0 #[.val (.ref en), .val (.ref sr), .val (.int (0 : Int32)), .val (.int (3 : Int32)), .val (.ref d), .unset, .unset, .unset, .unset, .unset, .unset, .unset, .unset, .unset, .unset, .unset] [] := by
  have EF := ENC.ext OD.2
  have TBh := TB.ext OD.2
  have htd : tb ≠ d := OD.ne TB.lt gd
  have K0 : Keep h0 h0 [d] := Keep.refl _ _
  have hed : en ≠ d := OD.ne ENC.1.lt gd
  refine k_aloadN d_en0_0 rfl rfl rfl ?_
  refine k_getField d_en0_1 rfl (hw _ (List.mem_of_getElem? (i := 135) rfl)) Via.refl EF.2.1 ?_
  refine k_ifc (pc1 := 13) (pc' := 7) d_en0_4 (by decide) (by decide) rfl (fun (cd1 : (0 : Int32) = (0 : Int32)) => ?_) (fun (cd1 : ¬ (0 : Int32) = (0 : Int32)) => False.elim (by exact absurd cd1 (by decide)))
  refine k_getStatic d_en0_13 rfl (hw _ (List.mem_of_getElem? (i := 137) rfl)) (Sta.ext OD.2 STB) ?_
  refine k_astore (Ls' := #[.val (.ref en), .val (.ref sr), .val (.int (0 : Int32)), .val (.int (3 : Int32)), .val (.ref d), .val (.ref tb), .unset, .unset, .unset, .unset, .unset, .unset, .unset, .unset, .unset, .unset]) d_en0_16 rfl rfl rfl ?_
  refine k_iloadN d_en0_18 rfl rfl ?_
  refine k_istore (Ls' := #[.val (.ref en), .val (.ref sr), .val (.int (0 : Int32)), .val (.int (3 : Int32)), .val (.ref d), .val (.ref tb), .val (.int (0 : Int32)), .unset, .unset, .unset, .unset, .unset, .unset, .unset, .unset, .unset]) d_en0_19 rfl rfl ?_
  refine k_iloadN d_en0_21 rfl rfl ?_
  refine k_iloadN d_en0_22 rfl rfl ?_
  refine k_isub d_en0_23 rfl ?_
  refine k_iconst (z := (3 : Int32)) d_en0_24 rfl (by decide) ?_
  refine k_idiv d_en0_25 rfl (by decide) ?_
  refine k_iconst (z := (3 : Int32)) d_en0_26 rfl (by decide) ?_
  refine k_imul d_en0_27 rfl ?_
  refine k_istore (Ls' := #[.val (.ref en), .val (.ref sr), .val (.int (0 : Int32)), .val (.int (3 : Int32)), .val (.ref d), .val (.ref tb), .val (.int (0 : Int32)), .val (.int ((((3 : Int32) - (0 : Int32)) / (3 : Int32)) * (3 : Int32))), .unset, .unset, .unset, .unset, .unset, .unset, .unset, .unset]) d_en0_28 rfl rfl ?_
  refine k_iloadN d_en0_30 rfl rfl ?_
  refine k_iload d_en0_31 rfl rfl ?_
  refine k_iadd d_en0_33 rfl ?_
  refine k_istore (Ls' := #[.val (.ref en), .val (.ref sr), .val (.int (0 : Int32)), .val (.int (3 : Int32)), .val (.ref d), .val (.ref tb), .val (.int (0 : Int32)), .val (.int ((((3 : Int32) - (0 : Int32)) / (3 : Int32)) * (3 : Int32))), .val (.int ((0 : Int32) + ((((3 : Int32) - (0 : Int32)) / (3 : Int32)) * (3 : Int32)))), .unset, .unset, .unset, .unset, .unset, .unset, .unset]) d_en0_34 rfl rfl ?_
  refine k_aloadN d_en0_36 rfl rfl rfl ?_
  refine k_getField d_en0_37 rfl (hw _ (List.mem_of_getElem? (i := 128) rfl)) Via.refl EF.2.2.1 ?_
  refine k_ifc (pc1 := 66) (pc' := 43) d_en0_40 (by decide) (by decide) rfl (fun (cd2 : ¬ (0 : Int32) < (-1 : Int32)) => ?_) (fun (cd2 : (0 : Int32) < (-1 : Int32)) => False.elim (by exact absurd cd2 (by decide)))
  refine k_iconst (z := (0 : Int32)) d_en0_66 rfl (by decide) ?_
  refine k_istore (Ls' := #[.val (.ref en), .val (.ref sr), .val (.int (0 : Int32)), .val (.int (3 : Int32)), .val (.ref d), .val (.ref tb), .val (.int (0 : Int32)), .val (.int ((((3 : Int32) - (0 : Int32)) / (3 : Int32)) * (3 : Int32))), .val (.int ((0 : Int32) + ((((3 : Int32) - (0 : Int32)) / (3 : Int32)) * (3 : Int32)))), .val (.int (0 : Int32)), .unset, .unset, .unset, .unset, .unset, .unset]) d_en0_67 rfl rfl ?_
  refine k_iload d_en0_69 rfl rfl ?_
  refine k_iload d_en0_71 rfl rfl ?_
  refine k_icmp (pc1 := 189) (pc' := 76) d_en0_73 (by decide) (by decide) rfl (fun (cd3 : ¬ (0 : Int32) < ((0 : Int32) + ((((3 : Int32) - (0 : Int32)) / (3 : Int32)) * (3 : Int32)))) => False.elim (by exact absurd cd3 (by decide))) (fun (cd3 : (0 : Int32) < ((0 : Int32) + ((((3 : Int32) - (0 : Int32)) / (3 : Int32)) * (3 : Int32)))) => ?_)
  refine k_iload d_en0_76 rfl rfl ?_
  refine k_iload d_en0_78 rfl rfl ?_
  refine k_iadd d_en0_80 rfl ?_
  refine k_iload d_en0_81 rfl rfl ?_
  refine k_callStatic (argsL := [(.int ((0 : Int32) + ((((3 : Int32) - (0 : Int32)) / (3 : Int32)) * (3 : Int32)))), (.int ((0 : Int32) + ((((3 : Int32) - (0 : Int32)) / (3 : Int32)) * (3 : Int32))))]) (rest := []) (W0 := 0) d_en0_83 rfl (mt_mnm l Z a0 hw cs hcs SC hEW ((0 : Int32) + ((((3 : Int32) - (0 : Int32)) / (3 : Int32)) * (3 : Int32))) ((0 : Int32) + ((((3 : Int32) - (0 : Int32)) / (3 : Int32)) * (3 : Int32))) h0 n0) Kp.strict (hw _ (List.mem_of_getElem? (i := 138) rfl)) (hw _ (List.mem_of_getElem? (i := 139) rfl)) (hw _ (List.mem_of_getElem? (i := 123) rfl)) (hw _ (List.mem_of_getElem? (i := 140) rfl)) (by decide) pd_mnm rfl rfl rfl rfl (by decide) (by decide) (by decide) (by decide) ?_
  rintro _ _ - ⟨rfl, rfl⟩
  rw [show minI ((0 : Int32) + ((((3 : Int32) - (0 : Int32)) / (3 : Int32)) * (3 : Int32))) ((0 : Int32) + ((((3 : Int32) - (0 : Int32)) / (3 : Int32)) * (3 : Int32))) = (3 : Int32) by decide]
  refine KW.any (P' := ([], fun _ => False)) ?_
  show KW false l Z M_en0 n0 (fun v h => v = some (.int 4) ∧ Keep h0 h [d] ∧ Arv Z h d ckd .byte (4 : Int32) [.int (nbI (tbv ((UInt32.toInt32 (Int32.toUInt32 (w24 x y z) >>> Int32.toUInt32 ((18 : Int32) &&& 31))) &&& (63 : Int32)))), .int (nbI (tbv ((UInt32.toInt32 (Int32.toUInt32 (w24 x y z) >>> Int32.toUInt32 ((12 : Int32) &&& 31))) &&& (63 : Int32)))), .int (nbI (tbv ((UInt32.toInt32 (Int32.toUInt32 (w24 x y z) >>> Int32.toUInt32 ((6 : Int32) &&& 31))) &&& (63 : Int32)))), .int (nbI (tbv ((w24 x y z) &&& (63 : Int32))))] (.int 0)) ([], fun _ => False) h0 0 0 86 #[.val (.ref en), .val (.ref sr), .val (.int (0 : Int32)), .val (.int (3 : Int32)), .val (.ref d), .val (.ref tb), .val (.int (0 : Int32)), .val (.int ((((3 : Int32) - (0 : Int32)) / (3 : Int32)) * (3 : Int32))), .val (.int ((0 : Int32) + ((((3 : Int32) - (0 : Int32)) / (3 : Int32)) * (3 : Int32)))), .val (.int (0 : Int32)), .unset, .unset, .unset, .unset, .unset, .unset] [(.int (3 : Int32))]
  refine k_istore (Ls' := #[.val (.ref en), .val (.ref sr), .val (.int (0 : Int32)), .val (.int (3 : Int32)), .val (.ref d), .val (.ref tb), .val (.int (0 : Int32)), .val (.int ((((3 : Int32) - (0 : Int32)) / (3 : Int32)) * (3 : Int32))), .val (.int ((0 : Int32) + ((((3 : Int32) - (0 : Int32)) / (3 : Int32)) * (3 : Int32)))), .val (.int (0 : Int32)), .val (.int (3 : Int32)), .unset, .unset, .unset, .unset, .unset]) d_en0_86 rfl rfl ?_
  refine k_aloadN d_en0_88 rfl rfl rfl ?_
  refine k_aloadN d_en0_89 rfl rfl rfl ?_
  refine k_iload d_en0_90 rfl rfl ?_
  refine k_iload d_en0_92 rfl rfl ?_
  refine k_aload d_en0_94 rfl rfl rfl ?_
  refine k_iload d_en0_96 rfl rfl ?_
  refine k_aloadN d_en0_98 rfl rfl rfl ?_
  refine k_getField d_en0_99 rfl (hw _ (List.mem_of_getElem? (i := 135) rfl)) Via.refl EF.2.1 ?_
  refine k_callVirtual (argsL := [(.ref sr), (.int (0 : Int32)), (.int (3 : Int32)), (.ref d), (.int (0 : Int32)), (.int (0 : Int32))]) (rest := []) (W0 := 0) d_en0_102 rfl (mt_ebl l Z a0 hw cs hcs SC hEW en ENC tb ckt STB TB sr d cks ckd x y z h0 n0 OD SR D0 gd hsd) Kp.strict EF.1 (hw _ (List.mem_of_getElem? (i := 141) rfl)) (own_decl (hw _ (List.mem_of_getElem? (i := 142) rfl)) (hw _ (List.mem_of_getElem? (i := 145) rfl))) (hw _ (List.mem_of_getElem? (i := 144) rfl)) (hw _ (List.mem_of_getElem? (i := 107) rfl)) rfl (hw _ (List.mem_of_getElem? (i := 142) rfl)) (hw _ (List.mem_of_getElem? (i := 145) rfl)) (hw _ (List.mem_of_getElem? (i := 28) rfl)) (by decide) pd_ebl rfl rfl rfl rfl (by decide) (by decide) (by decide) (by decide) ?_
  rintro _ hM - ⟨rfl, KM, DM⟩
  refine KW.any (P' := ([], fun _ => False)) ?_
  show KW false l Z M_en0 n0 (fun v h => v = some (.int 4) ∧ Keep h0 h [d] ∧ Arv Z h d ckd .byte (4 : Int32) [.int (nbI (tbv ((UInt32.toInt32 (Int32.toUInt32 (w24 x y z) >>> Int32.toUInt32 ((18 : Int32) &&& 31))) &&& (63 : Int32)))), .int (nbI (tbv ((UInt32.toInt32 (Int32.toUInt32 (w24 x y z) >>> Int32.toUInt32 ((12 : Int32) &&& 31))) &&& (63 : Int32)))), .int (nbI (tbv ((UInt32.toInt32 (Int32.toUInt32 (w24 x y z) >>> Int32.toUInt32 ((6 : Int32) &&& 31))) &&& (63 : Int32)))), .int (nbI (tbv ((w24 x y z) &&& (63 : Int32))))] (.int 0)) ([], fun _ => False) hM 0 0 105 #[.val (.ref en), .val (.ref sr), .val (.int (0 : Int32)), .val (.int (3 : Int32)), .val (.ref d), .val (.ref tb), .val (.int (0 : Int32)), .val (.int ((((3 : Int32) - (0 : Int32)) / (3 : Int32)) * (3 : Int32))), .val (.int ((0 : Int32) + ((((3 : Int32) - (0 : Int32)) / (3 : Int32)) * (3 : Int32)))), .val (.int (0 : Int32)), .val (.int (3 : Int32)), .unset, .unset, .unset, .unset, .unset] []
  refine k_iload d_en0_105 rfl rfl ?_
  refine k_iload d_en0_107 rfl rfl ?_
  refine k_isub d_en0_109 rfl ?_
  refine k_iconst (z := (3 : Int32)) d_en0_110 rfl (by decide) ?_
  refine k_idiv d_en0_111 rfl (by decide) ?_
  refine k_iconst (z := (4 : Int32)) d_en0_112 rfl (by decide) ?_
  refine k_imul d_en0_113 rfl ?_
  refine k_istore (Ls' := #[.val (.ref en), .val (.ref sr), .val (.int (0 : Int32)), .val (.int (3 : Int32)), .val (.ref d), .val (.ref tb), .val (.int (0 : Int32)), .val (.int ((((3 : Int32) - (0 : Int32)) / (3 : Int32)) * (3 : Int32))), .val (.int ((0 : Int32) + ((((3 : Int32) - (0 : Int32)) / (3 : Int32)) * (3 : Int32)))), .val (.int (0 : Int32)), .val (.int (3 : Int32)), .val (.int ((((3 : Int32) - (0 : Int32)) / (3 : Int32)) * (4 : Int32))), .unset, .unset, .unset, .unset]) d_en0_114 rfl rfl ?_
  refine k_iload d_en0_116 rfl rfl ?_
  refine k_iload d_en0_118 rfl rfl ?_
  refine k_iadd d_en0_120 rfl ?_
  refine k_istore (Ls' := #[.val (.ref en), .val (.ref sr), .val (.int (0 : Int32)), .val (.int (3 : Int32)), .val (.ref d), .val (.ref tb), .val (.int (0 : Int32)), .val (.int ((((3 : Int32) - (0 : Int32)) / (3 : Int32)) * (3 : Int32))), .val (.int ((0 : Int32) + ((((3 : Int32) - (0 : Int32)) / (3 : Int32)) * (3 : Int32)))), .val (.int ((0 : Int32) + ((((3 : Int32) - (0 : Int32)) / (3 : Int32)) * (4 : Int32)))), .val (.int (3 : Int32)), .val (.int ((((3 : Int32) - (0 : Int32)) / (3 : Int32)) * (4 : Int32))), .unset, .unset, .unset, .unset]) d_en0_121 rfl rfl ?_
  refine k_iload d_en0_123 rfl rfl ?_
  refine k_istore (Ls' := #[.val (.ref en), .val (.ref sr), .val (.int (0 : Int32)), .val (.int (3 : Int32)), .val (.ref d), .val (.ref tb), .val (.int (3 : Int32)), .val (.int ((((3 : Int32) - (0 : Int32)) / (3 : Int32)) * (3 : Int32))), .val (.int ((0 : Int32) + ((((3 : Int32) - (0 : Int32)) / (3 : Int32)) * (3 : Int32)))), .val (.int ((0 : Int32) + ((((3 : Int32) - (0 : Int32)) / (3 : Int32)) * (4 : Int32)))), .val (.int (3 : Int32)), .val (.int ((((3 : Int32) - (0 : Int32)) / (3 : Int32)) * (4 : Int32))), .unset, .unset, .unset, .unset]) d_en0_125 rfl rfl ?_
  refine k_iload d_en0_127 rfl rfl ?_
  refine k_aloadN d_en0_129 rfl rfl rfl ?_
  have f1 := (EF.2.2.1.keep KM (ninS hed nin0))
  refine k_getField d_en0_130 rfl (hw _ (List.mem_of_getElem? (i := 128) rfl)) Via.refl f1 ?_
  refine k_icmp (pc1 := 186) (pc' := 136) d_en0_133 (by decide) (by decide) rfl (fun (cd4 : ¬ ((((3 : Int32) - (0 : Int32)) / (3 : Int32)) * (4 : Int32)) = (-1 : Int32)) => ?_) (fun (cd4 : ((((3 : Int32) - (0 : Int32)) / (3 : Int32)) * (4 : Int32)) = (-1 : Int32)) => False.elim (by exact absurd cd4 (by decide)))
  refine k_goto (pc' := 69) d_en0_186 (by decide) (by decide) ?_
  refine k_iload d_en0_69 rfl rfl ?_
  refine k_iload d_en0_71 rfl rfl ?_
  refine k_icmp (pc1 := 189) (pc' := 76) d_en0_73 (by decide) (by decide) rfl (fun (cd5 : ¬ (3 : Int32) < ((0 : Int32) + ((((3 : Int32) - (0 : Int32)) / (3 : Int32)) * (3 : Int32)))) => ?_) (fun (cd5 : (3 : Int32) < ((0 : Int32) + ((((3 : Int32) - (0 : Int32)) / (3 : Int32)) * (3 : Int32)))) => False.elim (by exact absurd cd5 (by decide)))
  refine k_iload d_en0_189 rfl rfl ?_
  refine k_iloadN d_en0_191 rfl rfl ?_
  refine k_icmp (pc1 := 352) (pc' := 195) d_en0_192 (by decide) (by decide) rfl (fun (cd6 : ¬ (3 : Int32) < (3 : Int32)) => ?_) (fun (cd6 : (3 : Int32) < (3 : Int32)) => False.elim (by exact absurd cd6 (by decide)))
  refine k_iload d_en0_352 rfl rfl ?_
  refine KW.top (congrArg Value.int (show ((0 : Int32) + ((((3 : Int32) - (0 : Int32)) / (3 : Int32)) * (4 : Int32))) = (4 : Int32) by decide)) ?_
  show KW false l Z M_en0 n0 (fun v h => v = some (.int 4) ∧ Keep h0 h [d] ∧ Arv Z h d ckd .byte (4 : Int32) [.int (nbI (tbv ((UInt32.toInt32 (Int32.toUInt32 (w24 x y z) >>> Int32.toUInt32 ((18 : Int32) &&& 31))) &&& (63 : Int32)))), .int (nbI (tbv ((UInt32.toInt32 (Int32.toUInt32 (w24 x y z) >>> Int32.toUInt32 ((12 : Int32) &&& 31))) &&& (63 : Int32)))), .int (nbI (tbv ((UInt32.toInt32 (Int32.toUInt32 (w24 x y z) >>> Int32.toUInt32 ((6 : Int32) &&& 31))) &&& (63 : Int32)))), .int (nbI (tbv ((w24 x y z) &&& (63 : Int32))))] (.int 0)) ([], fun _ => False) hM 0 0 354 #[.val (.ref en), .val (.ref sr), .val (.int (0 : Int32)), .val (.int (3 : Int32)), .val (.ref d), .val (.ref tb), .val (.int (3 : Int32)), .val (.int ((((3 : Int32) - (0 : Int32)) / (3 : Int32)) * (3 : Int32))), .val (.int ((0 : Int32) + ((((3 : Int32) - (0 : Int32)) / (3 : Int32)) * (3 : Int32)))), .val (.int ((0 : Int32) + ((((3 : Int32) - (0 : Int32)) / (3 : Int32)) * (4 : Int32)))), .val (.int (3 : Int32)), .val (.int ((((3 : Int32) - (0 : Int32)) / (3 : Int32)) * (4 : Int32))), .unset, .unset, .unset, .unset] [(.int (4 : Int32))]
  have f2 := (K0.trans KM (allS (Or.inl (by simp)) all0))
  exact k_retInt d_en0_354 rfl (by decide) (by decide) ⟨rfl, f2, DM⟩
theorem mt_en0_3 (l : Launch) (Z : State) (a0 : Array Value) (hw : ∀ d ∈ tables_1, d.before a0 Z = true) (cs : Int32) (hcs : ¬ cs = 0) (SC : Sta Z Z.heap "java/lang/String" "COMPACT_STRINGS" "Z" (.int cs)) (hEW : EW Z a0 EL) (en : Addr) (ENC : Enc Z Z.heap en) (tb : Addr) (ckt : ClassId) (STB : Sta Z Z.heap "java/util/Base64$Encoder" "toBase64" "[C" (.ref tb)) (TB : Arv Z Z.heap tb ckt .char (64 : Int32) (T64.map Value.int) (.int 0)) (sr d : Addr) (cks ckd : ClassId) (x y z : Int32) (h0 : Heap) (n0 : Nat) (OD : Old Z n0 h0) (SR : Arv Z h0 sr cks .byte (3 : Int32) [.int (x), .int (y), .int (z)] (.int 0)) (D0 : Arv Z h0 d ckd .byte (4 : Int32) [.int (0), .int (0), .int (0), .int (0)] (.int 0)) (gd : n0 ≤ d) (hsd : sr ≠ d) : Mt l Z M_en0 [] n0 #[(.ref en), (.ref sr), (.int (0 : Int32)), (.int (3 : Int32)), (.ref d)] h0 (fun v h => v = some (.int 4) ∧ Keep h0 h [d] ∧ Arv Z h d ckd .byte (4 : Int32) [.int (nbI (tbv ((UInt32.toInt32 (Int32.toUInt32 (w24 x y z) >>> Int32.toUInt32 ((18 : Int32) &&& 31))) &&& (63 : Int32)))), .int (nbI (tbv ((UInt32.toInt32 (Int32.toUInt32 (w24 x y z) >>> Int32.toUInt32 ((12 : Int32) &&& 31))) &&& (63 : Int32)))), .int (nbI (tbv ((UInt32.toInt32 (Int32.toUInt32 (w24 x y z) >>> Int32.toUInt32 ((6 : Int32) &&& 31))) &&& (63 : Int32)))), .int (nbI (tbv ((w24 x y z) &&& (63 : Int32))))] (.int 0)) :=
  mt_of_kw (P := ([], fun _ => False)) pf_en0 (fun m => by first | (simp [entryFrame, mkF, argsToLocals, Value.category]; done) | rfl) (kw_en0_3 l Z a0 hw cs hcs SC hEW en ENC tb ckt STB TB sr d cks ckd x y z h0 n0 OD SR D0 gd hsd)
set_option maxRecDepth 65536 in
set_option maxHeartbeats 40000000 in
theorem kw_en0_1 (l : Launch) (Z : State) (a0 : Array Value) (hw : ∀ d ∈ tables_1, d.before a0 Z = true) (cs : Int32) (hcs : ¬ cs = 0) (SC : Sta Z Z.heap "java/lang/String" "COMPACT_STRINGS" "Z" (.int cs)) (hEW : EW Z a0 EL) (en : Addr) (ENC : Enc Z Z.heap en) (tb : Addr) (ckt : ClassId) (STB : Sta Z Z.heap "java/util/Base64$Encoder" "toBase64" "[C" (.ref tb)) (TB : Arv Z Z.heap tb ckt .char (64 : Int32) (T64.map Value.int) (.int 0)) (sr d : Addr) (cks ckd : ClassId) (x : Int32) (h0 : Heap) (n0 : Nat) (OD : Old Z n0 h0) (SR : Arv Z h0 sr cks .byte (1 : Int32) [.int (x)] (.int 0)) (D0 : Arv Z h0 d ckd .byte (4 : Int32) [.int (0), .int (0), .int (0), .int (0)] (.int 0)) (gd : n0 ≤ d) (hsd : sr ≠ d) : KW false l Z M_en0 n0 (fun v h => v = some (.int 4) ∧ Keep h0 h [d] ∧ Arv Z h d ckd .byte (4 : Int32) [.int (nbI (tbv ((x &&& (255 : Int32)) >>> ((2 : Int32) &&& 31)))), .int (nbI (tbv (((x &&& (255 : Int32)) <<< ((4 : Int32) &&& 31)) &&& (63 : Int32)))), .int (nar .byte (61 : Int32)), .int (nar .byte (61 : Int32))] (.int 0)) ([], fun _ => False) h0 0 0 0 #[.val (.ref en), .val (.ref sr), .val (.int (0 : Int32)), .val (.int (1 : Int32)), .val (.ref d), .unset, .unset, .unset, .unset, .unset, .unset, .unset, .unset, .unset, .unset, .unset] [] := by
  have EF := ENC.ext OD.2
  have TBh := TB.ext OD.2
  have htd : tb ≠ d := OD.ne TB.lt gd
  have K0 : Keep h0 h0 [d] := Keep.refl _ _
  have hed : en ≠ d := OD.ne ENC.1.lt gd
  refine k_aloadN d_en0_0 rfl rfl rfl ?_
  refine k_getField d_en0_1 rfl (hw _ (List.mem_of_getElem? (i := 135) rfl)) Via.refl EF.2.1 ?_
  refine k_ifc (pc1 := 13) (pc' := 7) d_en0_4 (by decide) (by decide) rfl (fun (cd7 : (0 : Int32) = (0 : Int32)) => ?_) (fun (cd7 : ¬ (0 : Int32) = (0 : Int32)) => False.elim (by exact absurd cd7 (by decide)))
  refine k_getStatic d_en0_13 rfl (hw _ (List.mem_of_getElem? (i := 137) rfl)) (Sta.ext OD.2 STB) ?_
  refine k_astore (Ls' := #[.val (.ref en), .val (.ref sr), .val (.int (0 : Int32)), .val (.int (1 : Int32)), .val (.ref d), .val (.ref tb), .unset, .unset, .unset, .unset, .unset, .unset, .unset, .unset, .unset, .unset]) d_en0_16 rfl rfl rfl ?_
  refine k_iloadN d_en0_18 rfl rfl ?_
  refine k_istore (Ls' := #[.val (.ref en), .val (.ref sr), .val (.int (0 : Int32)), .val (.int (1 : Int32)), .val (.ref d), .val (.ref tb), .val (.int (0 : Int32)), .unset, .unset, .unset, .unset, .unset, .unset, .unset, .unset, .unset]) d_en0_19 rfl rfl ?_
  refine k_iloadN d_en0_21 rfl rfl ?_
  refine k_iloadN d_en0_22 rfl rfl ?_
  refine k_isub d_en0_23 rfl ?_
  refine k_iconst (z := (3 : Int32)) d_en0_24 rfl (by decide) ?_
  refine k_idiv d_en0_25 rfl (by decide) ?_
  refine k_iconst (z := (3 : Int32)) d_en0_26 rfl (by decide) ?_
  refine k_imul d_en0_27 rfl ?_
  refine k_istore (Ls' := #[.val (.ref en), .val (.ref sr), .val (.int (0 : Int32)), .val (.int (1 : Int32)), .val (.ref d), .val (.ref tb), .val (.int (0 : Int32)), .val (.int ((((1 : Int32) - (0 : Int32)) / (3 : Int32)) * (3 : Int32))), .unset, .unset, .unset, .unset, .unset, .unset, .unset, .unset]) d_en0_28 rfl rfl ?_
  refine k_iloadN d_en0_30 rfl rfl ?_
  refine k_iload d_en0_31 rfl rfl ?_
  refine k_iadd d_en0_33 rfl ?_
  refine k_istore (Ls' := #[.val (.ref en), .val (.ref sr), .val (.int (0 : Int32)), .val (.int (1 : Int32)), .val (.ref d), .val (.ref tb), .val (.int (0 : Int32)), .val (.int ((((1 : Int32) - (0 : Int32)) / (3 : Int32)) * (3 : Int32))), .val (.int ((0 : Int32) + ((((1 : Int32) - (0 : Int32)) / (3 : Int32)) * (3 : Int32)))), .unset, .unset, .unset, .unset, .unset, .unset, .unset]) d_en0_34 rfl rfl ?_
  refine k_aloadN d_en0_36 rfl rfl rfl ?_
  refine k_getField d_en0_37 rfl (hw _ (List.mem_of_getElem? (i := 128) rfl)) Via.refl EF.2.2.1 ?_
  refine k_ifc (pc1 := 66) (pc' := 43) d_en0_40 (by decide) (by decide) rfl (fun (cd8 : ¬ (0 : Int32) < (-1 : Int32)) => ?_) (fun (cd8 : (0 : Int32) < (-1 : Int32)) => False.elim (by exact absurd cd8 (by decide)))
  refine k_iconst (z := (0 : Int32)) d_en0_66 rfl (by decide) ?_
  refine k_istore (Ls' := #[.val (.ref en), .val (.ref sr), .val (.int (0 : Int32)), .val (.int (1 : Int32)), .val (.ref d), .val (.ref tb), .val (.int (0 : Int32)), .val (.int ((((1 : Int32) - (0 : Int32)) / (3 : Int32)) * (3 : Int32))), .val (.int ((0 : Int32) + ((((1 : Int32) - (0 : Int32)) / (3 : Int32)) * (3 : Int32)))), .val (.int (0 : Int32)), .unset, .unset, .unset, .unset, .unset, .unset]) d_en0_67 rfl rfl ?_
  refine k_iload d_en0_69 rfl rfl ?_
  refine k_iload d_en0_71 rfl rfl ?_
  refine k_icmp (pc1 := 189) (pc' := 76) d_en0_73 (by decide) (by decide) rfl (fun (cd9 : ¬ (0 : Int32) < ((0 : Int32) + ((((1 : Int32) - (0 : Int32)) / (3 : Int32)) * (3 : Int32)))) => ?_) (fun (cd9 : (0 : Int32) < ((0 : Int32) + ((((1 : Int32) - (0 : Int32)) / (3 : Int32)) * (3 : Int32)))) => False.elim (by exact absurd cd9 (by decide)))
  refine k_iload d_en0_189 rfl rfl ?_
  refine k_iloadN d_en0_191 rfl rfl ?_
  refine k_icmp (pc1 := 352) (pc' := 195) d_en0_192 (by decide) (by decide) rfl (fun (cd10 : ¬ (0 : Int32) < (1 : Int32)) => False.elim (by exact absurd cd10 (by decide))) (fun (cd10 : (0 : Int32) < (1 : Int32)) => ?_)
  refine k_aloadN d_en0_195 rfl rfl rfl ?_
  refine k_iload d_en0_196 rfl rfl ?_
  refine k_iinc (z := (1 : Int32)) (Ls' := #[.val (.ref en), .val (.ref sr), .val (.int (0 : Int32)), .val (.int (1 : Int32)), .val (.ref d), .val (.ref tb), .val (.int ((0 : Int32) + (1 : Int32))), .val (.int ((((1 : Int32) - (0 : Int32)) / (3 : Int32)) * (3 : Int32))), .val (.int ((0 : Int32) + ((((1 : Int32) - (0 : Int32)) / (3 : Int32)) * (3 : Int32)))), .val (.int (0 : Int32)), .unset, .unset, .unset, .unset, .unset, .unset]) d_en0_198 rfl (by decide) rfl rfl ?_
  refine k_baload (v := (.int x)) d_en0_201 rfl SR (by decide) rfl ?_
  refine k_sipush (z := (255 : Int32)) d_en0_202 rfl (by decide) ?_
  refine k_iand d_en0_205 rfl ?_
  refine k_istore (Ls' := #[.val (.ref en), .val (.ref sr), .val (.int (0 : Int32)), .val (.int (1 : Int32)), .val (.ref d), .val (.ref tb), .val (.int ((0 : Int32) + (1 : Int32))), .val (.int ((((1 : Int32) - (0 : Int32)) / (3 : Int32)) * (3 : Int32))), .val (.int ((0 : Int32) + ((((1 : Int32) - (0 : Int32)) / (3 : Int32)) * (3 : Int32)))), .val (.int (0 : Int32)), .val (.int (x &&& (255 : Int32))), .unset, .unset, .unset, .unset, .unset]) d_en0_206 rfl rfl ?_
  refine k_aload d_en0_208 rfl rfl rfl ?_
  refine k_iload d_en0_210 rfl rfl ?_
  refine k_iinc (z := (1 : Int32)) (Ls' := #[.val (.ref en), .val (.ref sr), .val (.int (0 : Int32)), .val (.int (1 : Int32)), .val (.ref d), .val (.ref tb), .val (.int ((0 : Int32) + (1 : Int32))), .val (.int ((((1 : Int32) - (0 : Int32)) / (3 : Int32)) * (3 : Int32))), .val (.int ((0 : Int32) + ((((1 : Int32) - (0 : Int32)) / (3 : Int32)) * (3 : Int32)))), .val (.int ((0 : Int32) + (1 : Int32))), .val (.int (x &&& (255 : Int32))), .unset, .unset, .unset, .unset, .unset]) d_en0_212 rfl (by decide) rfl rfl ?_
  refine k_aload d_en0_215 rfl rfl rfl ?_
  refine k_iload d_en0_217 rfl rfl ?_
  refine k_iconst (z := (2 : Int32)) d_en0_219 rfl (by decide) ?_
  refine k_ishr d_en0_220 rfl ?_
  refine k_caload (v := (.int (tbv ((x &&& (255 : Int32)) >>> ((2 : Int32) &&& 31))))) d_en0_221 rfl TBh (m6 _) (getD_int T64 _) ?_
  refine k_i2b d_en0_222 rfl ?_
  refine k_bastore (i := 0) d_en0_223 rfl D0 (by decide) (by decide) (by simp) gd (fun q => by cases q) ?_
  intro h3 W4 V5
  have V6 : Arv Z h3 d ckd .byte (4 : Int32) [(.int (nar .byte (Int8.toInt32 (Int32.toInt8 (tbv ((x &&& (255 : Int32)) >>> ((2 : Int32) &&& 31))))))), (.int 0), (.int 0), (.int 0)] (.int 0) := V5
  show KW false l Z M_en0 n0 (fun v h => v = some (.int 4) ∧ Keep h0 h [d] ∧ Arv Z h d ckd .byte (4 : Int32) [.int (nbI (tbv ((x &&& (255 : Int32)) >>> ((2 : Int32) &&& 31)))), .int (nbI (tbv (((x &&& (255 : Int32)) <<< ((4 : Int32) &&& 31)) &&& (63 : Int32)))), .int (nar .byte (61 : Int32)), .int (nar .byte (61 : Int32))] (.int 0)) ([], fun _ => False) h3 0 0 224 #[.val (.ref en), .val (.ref sr), .val (.int (0 : Int32)), .val (.int (1 : Int32)), .val (.ref d), .val (.ref tb), .val (.int ((0 : Int32) + (1 : Int32))), .val (.int ((((1 : Int32) - (0 : Int32)) / (3 : Int32)) * (3 : Int32))), .val (.int ((0 : Int32) + ((((1 : Int32) - (0 : Int32)) / (3 : Int32)) * (3 : Int32)))), .val (.int ((0 : Int32) + (1 : Int32))), .val (.int (x &&& (255 : Int32))), .unset, .unset, .unset, .unset, .unset] []
  refine k_iload d_en0_224 rfl rfl ?_
  refine k_iloadN d_en0_226 rfl rfl ?_
  refine k_icmp (pc1 := 279) (pc' := 230) d_en0_227 (by decide) (by decide) rfl (fun (cd11 : ¬ ((0 : Int32) + (1 : Int32)) = (1 : Int32)) => False.elim (by exact absurd cd11 (by decide))) (fun (cd11 : ((0 : Int32) + (1 : Int32)) = (1 : Int32)) => ?_)
  refine k_aload d_en0_230 rfl rfl rfl ?_
  refine k_iload d_en0_232 rfl rfl ?_
  refine k_iinc (z := (1 : Int32)) (Ls' := #[.val (.ref en), .val (.ref sr), .val (.int (0 : Int32)), .val (.int (1 : Int32)), .val (.ref d), .val (.ref tb), .val (.int ((0 : Int32) + (1 : Int32))), .val (.int ((((1 : Int32) - (0 : Int32)) / (3 : Int32)) * (3 : Int32))), .val (.int ((0 : Int32) + ((((1 : Int32) - (0 : Int32)) / (3 : Int32)) * (3 : Int32)))), .val (.int (((0 : Int32) + (1 : Int32)) + (1 : Int32))), .val (.int (x &&& (255 : Int32))), .unset, .unset, .unset, .unset, .unset]) d_en0_234 rfl (by decide) rfl rfl ?_
  refine k_aload d_en0_237 rfl rfl rfl ?_
  refine k_iload d_en0_239 rfl rfl ?_
  refine k_iconst (z := (4 : Int32)) d_en0_241 rfl (by decide) ?_
  refine k_ishl d_en0_242 rfl ?_
  refine k_bipush (z := (63 : Int32)) d_en0_243 rfl (by decide) ?_
  refine k_iand d_en0_245 rfl ?_
  have f7 := (TBh.other W4 htd)
  refine k_caload (v := (.int (tbv (((x &&& (255 : Int32)) <<< ((4 : Int32) &&& 31)) &&& (63 : Int32))))) d_en0_246 rfl f7 (m63 _) (getD_int T64 _) ?_
  refine k_i2b d_en0_247 rfl ?_
  refine k_bastore (i := 1) d_en0_248 rfl V6 (by decide) (by decide) (by simp) gd (fun q => by cases q) ?_
  intro h8 W9 V10
  have V11 : Arv Z h8 d ckd .byte (4 : Int32) [(.int (nar .byte (Int8.toInt32 (Int32.toInt8 (tbv ((x &&& (255 : Int32)) >>> ((2 : Int32) &&& 31))))))), (.int (nar .byte (Int8.toInt32 (Int32.toInt8 (tbv (((x &&& (255 : Int32)) <<< ((4 : Int32) &&& 31)) &&& (63 : Int32))))))), (.int 0), (.int 0)] (.int 0) := V10
  show KW false l Z M_en0 n0 (fun v h => v = some (.int 4) ∧ Keep h0 h [d] ∧ Arv Z h d ckd .byte (4 : Int32) [.int (nbI (tbv ((x &&& (255 : Int32)) >>> ((2 : Int32) &&& 31)))), .int (nbI (tbv (((x &&& (255 : Int32)) <<< ((4 : Int32) &&& 31)) &&& (63 : Int32)))), .int (nar .byte (61 : Int32)), .int (nar .byte (61 : Int32))] (.int 0)) ([], fun _ => False) h8 0 0 249 #[.val (.ref en), .val (.ref sr), .val (.int (0 : Int32)), .val (.int (1 : Int32)), .val (.ref d), .val (.ref tb), .val (.int ((0 : Int32) + (1 : Int32))), .val (.int ((((1 : Int32) - (0 : Int32)) / (3 : Int32)) * (3 : Int32))), .val (.int ((0 : Int32) + ((((1 : Int32) - (0 : Int32)) / (3 : Int32)) * (3 : Int32)))), .val (.int (((0 : Int32) + (1 : Int32)) + (1 : Int32))), .val (.int (x &&& (255 : Int32))), .unset, .unset, .unset, .unset, .unset] []
  refine k_aloadN d_en0_249 rfl rfl rfl ?_
  have f12 := ((EF.2.2.2.other W4 (Or.inl hed)).other W9 (Or.inl hed))
  refine k_getField d_en0_250 rfl (hw _ (List.mem_of_getElem? (i := 119) rfl)) Via.refl f12 ?_
  refine k_ifc (pc1 := 352) (pc' := 256) d_en0_253 (by decide) (by decide) rfl (fun (cd12 : (1 : Int32) = (0 : Int32)) => False.elim (by exact absurd cd12 (by decide))) (fun (cd12 : ¬ (1 : Int32) = (0 : Int32)) => ?_)
  refine k_aload d_en0_256 rfl rfl rfl ?_
  refine k_iload d_en0_258 rfl rfl ?_
  refine k_iinc (z := (1 : Int32)) (Ls' := #[.val (.ref en), .val (.ref sr), .val (.int (0 : Int32)), .val (.int (1 : Int32)), .val (.ref d), .val (.ref tb), .val (.int ((0 : Int32) + (1 : Int32))), .val (.int ((((1 : Int32) - (0 : Int32)) / (3 : Int32)) * (3 : Int32))), .val (.int ((0 : Int32) + ((((1 : Int32) - (0 : Int32)) / (3 : Int32)) * (3 : Int32)))), .val (.int ((((0 : Int32) + (1 : Int32)) + (1 : Int32)) + (1 : Int32))), .val (.int (x &&& (255 : Int32))), .unset, .unset, .unset, .unset, .unset]) d_en0_260 rfl (by decide) rfl rfl ?_
  refine k_bipush (z := (61 : Int32)) d_en0_263 rfl (by decide) ?_
  refine k_bastore (i := 2) d_en0_265 rfl V11 (by decide) (by decide) (by simp) gd (fun q => by cases q) ?_
  intro h13 W14 V15
  have V16 : Arv Z h13 d ckd .byte (4 : Int32) [(.int (nar .byte (Int8.toInt32 (Int32.toInt8 (tbv ((x &&& (255 : Int32)) >>> ((2 : Int32) &&& 31))))))), (.int (nar .byte (Int8.toInt32 (Int32.toInt8 (tbv (((x &&& (255 : Int32)) <<< ((4 : Int32) &&& 31)) &&& (63 : Int32))))))), (.int (nar .byte (61 : Int32))), (.int 0)] (.int 0) := V15
  show KW false l Z M_en0 n0 (fun v h => v = some (.int 4) ∧ Keep h0 h [d] ∧ Arv Z h d ckd .byte (4 : Int32) [.int (nbI (tbv ((x &&& (255 : Int32)) >>> ((2 : Int32) &&& 31)))), .int (nbI (tbv (((x &&& (255 : Int32)) <<< ((4 : Int32) &&& 31)) &&& (63 : Int32)))), .int (nar .byte (61 : Int32)), .int (nar .byte (61 : Int32))] (.int 0)) ([], fun _ => False) h13 0 0 266 #[.val (.ref en), .val (.ref sr), .val (.int (0 : Int32)), .val (.int (1 : Int32)), .val (.ref d), .val (.ref tb), .val (.int ((0 : Int32) + (1 : Int32))), .val (.int ((((1 : Int32) - (0 : Int32)) / (3 : Int32)) * (3 : Int32))), .val (.int ((0 : Int32) + ((((1 : Int32) - (0 : Int32)) / (3 : Int32)) * (3 : Int32)))), .val (.int ((((0 : Int32) + (1 : Int32)) + (1 : Int32)) + (1 : Int32))), .val (.int (x &&& (255 : Int32))), .unset, .unset, .unset, .unset, .unset] []
  refine k_aload d_en0_266 rfl rfl rfl ?_
  refine k_iload d_en0_268 rfl rfl ?_
  refine k_iinc (z := (1 : Int32)) (Ls' := #[.val (.ref en), .val (.ref sr), .val (.int (0 : Int32)), .val (.int (1 : Int32)), .val (.ref d), .val (.ref tb), .val (.int ((0 : Int32) + (1 : Int32))), .val (.int ((((1 : Int32) - (0 : Int32)) / (3 : Int32)) * (3 : Int32))), .val (.int ((0 : Int32) + ((((1 : Int32) - (0 : Int32)) / (3 : Int32)) * (3 : Int32)))), .val (.int (((((0 : Int32) + (1 : Int32)) + (1 : Int32)) + (1 : Int32)) + (1 : Int32))), .val (.int (x &&& (255 : Int32))), .unset, .unset, .unset, .unset, .unset]) d_en0_270 rfl (by decide) rfl rfl ?_
  refine k_bipush (z := (61 : Int32)) d_en0_273 rfl (by decide) ?_
  refine k_bastore (i := 3) d_en0_275 rfl V16 (by decide) (by decide) (by simp) gd (fun q => by cases q) ?_
  intro h17 W18 V19
  have V20 : Arv Z h17 d ckd .byte (4 : Int32) [(.int (nar .byte (Int8.toInt32 (Int32.toInt8 (tbv ((x &&& (255 : Int32)) >>> ((2 : Int32) &&& 31))))))), (.int (nar .byte (Int8.toInt32 (Int32.toInt8 (tbv (((x &&& (255 : Int32)) <<< ((4 : Int32) &&& 31)) &&& (63 : Int32))))))), (.int (nar .byte (61 : Int32))), (.int (nar .byte (61 : Int32)))] (.int 0) := V19
  show KW false l Z M_en0 n0 (fun v h => v = some (.int 4) ∧ Keep h0 h [d] ∧ Arv Z h d ckd .byte (4 : Int32) [.int (nbI (tbv ((x &&& (255 : Int32)) >>> ((2 : Int32) &&& 31)))), .int (nbI (tbv (((x &&& (255 : Int32)) <<< ((4 : Int32) &&& 31)) &&& (63 : Int32)))), .int (nar .byte (61 : Int32)), .int (nar .byte (61 : Int32))] (.int 0)) ([], fun _ => False) h17 0 0 276 #[.val (.ref en), .val (.ref sr), .val (.int (0 : Int32)), .val (.int (1 : Int32)), .val (.ref d), .val (.ref tb), .val (.int ((0 : Int32) + (1 : Int32))), .val (.int ((((1 : Int32) - (0 : Int32)) / (3 : Int32)) * (3 : Int32))), .val (.int ((0 : Int32) + ((((1 : Int32) - (0 : Int32)) / (3 : Int32)) * (3 : Int32)))), .val (.int (((((0 : Int32) + (1 : Int32)) + (1 : Int32)) + (1 : Int32)) + (1 : Int32))), .val (.int (x &&& (255 : Int32))), .unset, .unset, .unset, .unset, .unset] []
  refine k_goto (pc' := 352) d_en0_276 (by decide) (by decide) ?_
  refine k_iload d_en0_352 rfl rfl ?_
  refine KW.top (congrArg Value.int (show (((((0 : Int32) + (1 : Int32)) + (1 : Int32)) + (1 : Int32)) + (1 : Int32)) = (4 : Int32) by decide)) ?_
  show KW false l Z M_en0 n0 (fun v h => v = some (.int 4) ∧ Keep h0 h [d] ∧ Arv Z h d ckd .byte (4 : Int32) [.int (nbI (tbv ((x &&& (255 : Int32)) >>> ((2 : Int32) &&& 31)))), .int (nbI (tbv (((x &&& (255 : Int32)) <<< ((4 : Int32) &&& 31)) &&& (63 : Int32)))), .int (nar .byte (61 : Int32)), .int (nar .byte (61 : Int32))] (.int 0)) ([], fun _ => False) h17 0 0 354 #[.val (.ref en), .val (.ref sr), .val (.int (0 : Int32)), .val (.int (1 : Int32)), .val (.ref d), .val (.ref tb), .val (.int ((0 : Int32) + (1 : Int32))), .val (.int ((((1 : Int32) - (0 : Int32)) / (3 : Int32)) * (3 : Int32))), .val (.int ((0 : Int32) + ((((1 : Int32) - (0 : Int32)) / (3 : Int32)) * (3 : Int32)))), .val (.int (((((0 : Int32) + (1 : Int32)) + (1 : Int32)) + (1 : Int32)) + (1 : Int32))), .val (.int (x &&& (255 : Int32))), .unset, .unset, .unset, .unset, .unset] [(.int (4 : Int32))]
  have f21 := ((((K0.wr W4 (Or.inl (by simp))).wr W9 (Or.inl (by simp))).wr W14 (Or.inl (by simp))).wr W18 (Or.inl (by simp)))
  exact k_retInt d_en0_354 rfl (by decide) (by decide) ⟨rfl, f21, V20⟩
theorem mt_en0_1 (l : Launch) (Z : State) (a0 : Array Value) (hw : ∀ d ∈ tables_1, d.before a0 Z = true) (cs : Int32) (hcs : ¬ cs = 0) (SC : Sta Z Z.heap "java/lang/String" "COMPACT_STRINGS" "Z" (.int cs)) (hEW : EW Z a0 EL) (en : Addr) (ENC : Enc Z Z.heap en) (tb : Addr) (ckt : ClassId) (STB : Sta Z Z.heap "java/util/Base64$Encoder" "toBase64" "[C" (.ref tb)) (TB : Arv Z Z.heap tb ckt .char (64 : Int32) (T64.map Value.int) (.int 0)) (sr d : Addr) (cks ckd : ClassId) (x : Int32) (h0 : Heap) (n0 : Nat) (OD : Old Z n0 h0) (SR : Arv Z h0 sr cks .byte (1 : Int32) [.int (x)] (.int 0)) (D0 : Arv Z h0 d ckd .byte (4 : Int32) [.int (0), .int (0), .int (0), .int (0)] (.int 0)) (gd : n0 ≤ d) (hsd : sr ≠ d) : Mt l Z M_en0 [] n0 #[(.ref en), (.ref sr), (.int (0 : Int32)), (.int (1 : Int32)), (.ref d)] h0 (fun v h => v = some (.int 4) ∧ Keep h0 h [d] ∧ Arv Z h d ckd .byte (4 : Int32) [.int (nbI (tbv ((x &&& (255 : Int32)) >>> ((2 : Int32) &&& 31)))), .int (nbI (tbv (((x &&& (255 : Int32)) <<< ((4 : Int32) &&& 31)) &&& (63 : Int32)))), .int (nar .byte (61 : Int32)), .int (nar .byte (61 : Int32))] (.int 0)) :=
  mt_of_kw (P := ([], fun _ => False)) pf_en0 (fun m => by first | (simp [entryFrame, mkF, argsToLocals, Value.category]; done) | rfl) (kw_en0_1 l Z a0 hw cs hcs SC hEW en ENC tb ckt STB TB sr d cks ckd x h0 n0 OD SR D0 gd hsd)
set_option maxRecDepth 65536 in
set_option maxHeartbeats 40000000 in
theorem kw_en0_2 (l : Launch) (Z : State) (a0 : Array Value) (hw : ∀ d ∈ tables_1, d.before a0 Z = true) (cs : Int32) (hcs : ¬ cs = 0) (SC : Sta Z Z.heap "java/lang/String" "COMPACT_STRINGS" "Z" (.int cs)) (hEW : EW Z a0 EL) (en : Addr) (ENC : Enc Z Z.heap en) (tb : Addr) (ckt : ClassId) (STB : Sta Z Z.heap "java/util/Base64$Encoder" "toBase64" "[C" (.ref tb)) (TB : Arv Z Z.heap tb ckt .char (64 : Int32) (T64.map Value.int) (.int 0)) (sr d : Addr) (cks ckd : ClassId) (x y : Int32) (h0 : Heap) (n0 : Nat) (OD : Old Z n0 h0) (SR : Arv Z h0 sr cks .byte (2 : Int32) [.int (x), .int (y)] (.int 0)) (D0 : Arv Z h0 d ckd .byte (4 : Int32) [.int (0), .int (0), .int (0), .int (0)] (.int 0)) (gd : n0 ≤ d) (hsd : sr ≠ d) : KW false l Z M_en0 n0 (fun v h => v = some (.int 4) ∧ Keep h0 h [d] ∧ Arv Z h d ckd .byte (4 : Int32) [.int (nbI (tbv ((x &&& (255 : Int32)) >>> ((2 : Int32) &&& 31)))), .int (nbI (tbv ((((x &&& (255 : Int32)) <<< ((4 : Int32) &&& 31)) &&& (63 : Int32)) ||| ((y &&& (255 : Int32)) >>> ((4 : Int32) &&& 31))))), .int (nbI (tbv (((y &&& (255 : Int32)) <<< ((2 : Int32) &&& 31)) &&& (63 : Int32)))), .int (nar .byte (61 : Int32))] (.int 0)) ([], fun _ => False) h0 0 0 0 #[.val (.ref en), .val (.ref sr), .val (.int (0 : Int32)), .val (.int (2 : Int32)), .val (.ref d), .unset, .unset, .unset, .unset, .unset, .unset, .unset, .unset, .unset, .unset, .unset] [] := by
  have EF := ENC.ext OD.2
  have TBh := TB.ext OD.2
  have htd : tb ≠ d := OD.ne TB.lt gd
  have K0 : Keep h0 h0 [d] := Keep.refl _ _
  have hed : en ≠ d := OD.ne ENC.1.lt gd
  refine k_aloadN d_en0_0 rfl rfl rfl ?_
  refine k_getField d_en0_1 rfl (hw _ (List.mem_of_getElem? (i := 135) rfl)) Via.refl EF.2.1 ?_
  refine k_ifc (pc1 := 13) (pc' := 7) d_en0_4 (by decide) (by decide) rfl (fun (cd13 : (0 : Int32) = (0 : Int32)) => ?_) (fun (cd13 : ¬ (0 : Int32) = (0 : Int32)) => False.elim (by exact absurd cd13 (by decide)))
  refine k_getStatic d_en0_13 rfl (hw _ (List.mem_of_getElem? (i := 137) rfl)) (Sta.ext OD.2 STB) ?_
  refine k_astore (Ls' := #[.val (.ref en), .val (.ref sr), .val (.int (0 : Int32)), .val (.int (2 : Int32)), .val (.ref d), .val (.ref tb), .unset, .unset, .unset, .unset, .unset, .unset, .unset, .unset, .unset, .unset]) d_en0_16 rfl rfl rfl ?_
  refine k_iloadN d_en0_18 rfl rfl ?_
  refine k_istore (Ls' := #[.val (.ref en), .val (.ref sr), .val (.int (0 : Int32)), .val (.int (2 : Int32)), .val (.ref d), .val (.ref tb), .val (.int (0 : Int32)), .unset, .unset, .unset, .unset, .unset, .unset, .unset, .unset, .unset]) d_en0_19 rfl rfl ?_
  refine k_iloadN d_en0_21 rfl rfl ?_
  refine k_iloadN d_en0_22 rfl rfl ?_
  refine k_isub d_en0_23 rfl ?_
  refine k_iconst (z := (3 : Int32)) d_en0_24 rfl (by decide) ?_
  refine k_idiv d_en0_25 rfl (by decide) ?_
  refine k_iconst (z := (3 : Int32)) d_en0_26 rfl (by decide) ?_
  refine k_imul d_en0_27 rfl ?_
  refine k_istore (Ls' := #[.val (.ref en), .val (.ref sr), .val (.int (0 : Int32)), .val (.int (2 : Int32)), .val (.ref d), .val (.ref tb), .val (.int (0 : Int32)), .val (.int ((((2 : Int32) - (0 : Int32)) / (3 : Int32)) * (3 : Int32))), .unset, .unset, .unset, .unset, .unset, .unset, .unset, .unset]) d_en0_28 rfl rfl ?_
  refine k_iloadN d_en0_30 rfl rfl ?_
  refine k_iload d_en0_31 rfl rfl ?_
  refine k_iadd d_en0_33 rfl ?_
  refine k_istore (Ls' := #[.val (.ref en), .val (.ref sr), .val (.int (0 : Int32)), .val (.int (2 : Int32)), .val (.ref d), .val (.ref tb), .val (.int (0 : Int32)), .val (.int ((((2 : Int32) - (0 : Int32)) / (3 : Int32)) * (3 : Int32))), .val (.int ((0 : Int32) + ((((2 : Int32) - (0 : Int32)) / (3 : Int32)) * (3 : Int32)))), .unset, .unset, .unset, .unset, .unset, .unset, .unset]) d_en0_34 rfl rfl ?_
  refine k_aloadN d_en0_36 rfl rfl rfl ?_
  refine k_getField d_en0_37 rfl (hw _ (List.mem_of_getElem? (i := 128) rfl)) Via.refl EF.2.2.1 ?_
  refine k_ifc (pc1 := 66) (pc' := 43) d_en0_40 (by decide) (by decide) rfl (fun (cd14 : ¬ (0 : Int32) < (-1 : Int32)) => ?_) (fun (cd14 : (0 : Int32) < (-1 : Int32)) => False.elim (by exact absurd cd14 (by decide)))
  refine k_iconst (z := (0 : Int32)) d_en0_66 rfl (by decide) ?_
  refine k_istore (Ls' := #[.val (.ref en), .val (.ref sr), .val (.int (0 : Int32)), .val (.int (2 : Int32)), .val (.ref d), .val (.ref tb), .val (.int (0 : Int32)), .val (.int ((((2 : Int32) - (0 : Int32)) / (3 : Int32)) * (3 : Int32))), .val (.int ((0 : Int32) + ((((2 : Int32) - (0 : Int32)) / (3 : Int32)) * (3 : Int32)))), .val (.int (0 : Int32)), .unset, .unset, .unset, .unset, .unset, .unset]) d_en0_67 rfl rfl ?_
  refine k_iload d_en0_69 rfl rfl ?_
  refine k_iload d_en0_71 rfl rfl ?_
  refine k_icmp (pc1 := 189) (pc' := 76) d_en0_73 (by decide) (by decide) rfl (fun (cd15 : ¬ (0 : Int32) < ((0 : Int32) + ((((2 : Int32) - (0 : Int32)) / (3 : Int32)) * (3 : Int32)))) => ?_) (fun (cd15 : (0 : Int32) < ((0 : Int32) + ((((2 : Int32) - (0 : Int32)) / (3 : Int32)) * (3 : Int32)))) => False.elim (by exact absurd cd15 (by decide)))
  refine k_iload d_en0_189 rfl rfl ?_
  refine k_iloadN d_en0_191 rfl rfl ?_
  refine k_icmp (pc1 := 352) (pc' := 195) d_en0_192 (by decide) (by decide) rfl (fun (cd16 : ¬ (0 : Int32) < (2 : Int32)) => False.elim (by exact absurd cd16 (by decide))) (fun (cd16 : (0 : Int32) < (2 : Int32)) => ?_)
  refine k_aloadN d_en0_195 rfl rfl rfl ?_
  refine k_iload d_en0_196 rfl rfl ?_
  refine k_iinc (z := (1 : Int32)) (Ls' := #[.val (.ref en), .val (.ref sr), .val (.int (0 : Int32)), .val (.int (2 : Int32)), .val (.ref d), .val (.ref tb), .val (.int ((0 : Int32) + (1 : Int32))), .val (.int ((((2 : Int32) - (0 : Int32)) / (3 : Int32)) * (3 : Int32))), .val (.int ((0 : Int32) + ((((2 : Int32) - (0 : Int32)) / (3 : Int32)) * (3 : Int32)))), .val (.int (0 : Int32)), .unset, .unset, .unset, .unset, .unset, .unset]) d_en0_198 rfl (by decide) rfl rfl ?_
  refine k_baload (v := (.int x)) d_en0_201 rfl SR (by decide) rfl ?_
  refine k_sipush (z := (255 : Int32)) d_en0_202 rfl (by decide) ?_
  refine k_iand d_en0_205 rfl ?_
  refine k_istore (Ls' := #[.val (.ref en), .val (.ref sr), .val (.int (0 : Int32)), .val (.int (2 : Int32)), .val (.ref d), .val (.ref tb), .val (.int ((0 : Int32) + (1 : Int32))), .val (.int ((((2 : Int32) - (0 : Int32)) / (3 : Int32)) * (3 : Int32))), .val (.int ((0 : Int32) + ((((2 : Int32) - (0 : Int32)) / (3 : Int32)) * (3 : Int32)))), .val (.int (0 : Int32)), .val (.int (x &&& (255 : Int32))), .unset, .unset, .unset, .unset, .unset]) d_en0_206 rfl rfl ?_
  refine k_aload d_en0_208 rfl rfl rfl ?_
  refine k_iload d_en0_210 rfl rfl ?_
  refine k_iinc (z := (1 : Int32)) (Ls' := #[.val (.ref en), .val (.ref sr), .val (.int (0 : Int32)), .val (.int (2 : Int32)), .val (.ref d), .val (.ref tb), .val (.int ((0 : Int32) + (1 : Int32))), .val (.int ((((2 : Int32) - (0 : Int32)) / (3 : Int32)) * (3 : Int32))), .val (.int ((0 : Int32) + ((((2 : Int32) - (0 : Int32)) / (3 : Int32)) * (3 : Int32)))), .val (.int ((0 : Int32) + (1 : Int32))), .val (.int (x &&& (255 : Int32))), .unset, .unset, .unset, .unset, .unset]) d_en0_212 rfl (by decide) rfl rfl ?_
  refine k_aload d_en0_215 rfl rfl rfl ?_
  refine k_iload d_en0_217 rfl rfl ?_
  refine k_iconst (z := (2 : Int32)) d_en0_219 rfl (by decide) ?_
  refine k_ishr d_en0_220 rfl ?_
  refine k_caload (v := (.int (tbv ((x &&& (255 : Int32)) >>> ((2 : Int32) &&& 31))))) d_en0_221 rfl TBh (m6 _) (getD_int T64 _) ?_
  refine k_i2b d_en0_222 rfl ?_
  refine k_bastore (i := 0) d_en0_223 rfl D0 (by decide) (by decide) (by simp) gd (fun q => by cases q) ?_
  intro h22 W23 V24
  have V25 : Arv Z h22 d ckd .byte (4 : Int32) [(.int (nar .byte (Int8.toInt32 (Int32.toInt8 (tbv ((x &&& (255 : Int32)) >>> ((2 : Int32) &&& 31))))))), (.int 0), (.int 0), (.int 0)] (.int 0) := V24
  show KW false l Z M_en0 n0 (fun v h => v = some (.int 4) ∧ Keep h0 h [d] ∧ Arv Z h d ckd .byte (4 : Int32) [.int (nbI (tbv ((x &&& (255 : Int32)) >>> ((2 : Int32) &&& 31)))), .int (nbI (tbv ((((x &&& (255 : Int32)) <<< ((4 : Int32) &&& 31)) &&& (63 : Int32)) ||| ((y &&& (255 : Int32)) >>> ((4 : Int32) &&& 31))))), .int (nbI (tbv (((y &&& (255 : Int32)) <<< ((2 : Int32) &&& 31)) &&& (63 : Int32)))), .int (nar .byte (61 : Int32))] (.int 0)) ([], fun _ => False) h22 0 0 224 #[.val (.ref en), .val (.ref sr), .val (.int (0 : Int32)), .val (.int (2 : Int32)), .val (.ref d), .val (.ref tb), .val (.int ((0 : Int32) + (1 : Int32))), .val (.int ((((2 : Int32) - (0 : Int32)) / (3 : Int32)) * (3 : Int32))), .val (.int ((0 : Int32) + ((((2 : Int32) - (0 : Int32)) / (3 : Int32)) * (3 : Int32)))), .val (.int ((0 : Int32) + (1 : Int32))), .val (.int (x &&& (255 : Int32))), .unset, .unset, .unset, .unset, .unset] []
  refine k_iload d_en0_224 rfl rfl ?_
  refine k_iloadN d_en0_226 rfl rfl ?_
  refine k_icmp (pc1 := 279) (pc' := 230) d_en0_227 (by decide) (by decide) rfl (fun (cd17 : ¬ ((0 : Int32) + (1 : Int32)) = (2 : Int32)) => ?_) (fun (cd17 : ((0 : Int32) + (1 : Int32)) = (2 : Int32)) => False.elim (by exact absurd cd17 (by decide)))
  refine k_aloadN d_en0_279 rfl rfl rfl ?_
  refine k_iload d_en0_280 rfl rfl ?_
  refine k_iinc (z := (1 : Int32)) (Ls' := #[.val (.ref en), .val (.ref sr), .val (.int (0 : Int32)), .val (.int (2 : Int32)), .val (.ref d), .val (.ref tb), .val (.int (((0 : Int32) + (1 : Int32)) + (1 : Int32))), .val (.int ((((2 : Int32) - (0 : Int32)) / (3 : Int32)) * (3 : Int32))), .val (.int ((0 : Int32) + ((((2 : Int32) - (0 : Int32)) / (3 : Int32)) * (3 : Int32)))), .val (.int ((0 : Int32) + (1 : Int32))), .val (.int (x &&& (255 : Int32))), .unset, .unset, .unset, .unset, .unset]) d_en0_282 rfl (by decide) rfl rfl ?_
  have f26 := (SR.other W23 hsd)
  refine k_baload (v := (.int y)) d_en0_285 rfl f26 (by decide) (by rw [show Int32.toNatClampNeg ((0 : Int32) + (1 : Int32)) = 1 by decide]; rfl) ?_
  refine k_sipush (z := (255 : Int32)) d_en0_286 rfl (by decide) ?_
  refine k_iand d_en0_289 rfl ?_
  refine k_istore (Ls' := #[.val (.ref en), .val (.ref sr), .val (.int (0 : Int32)), .val (.int (2 : Int32)), .val (.ref d), .val (.ref tb), .val (.int (((0 : Int32) + (1 : Int32)) + (1 : Int32))), .val (.int ((((2 : Int32) - (0 : Int32)) / (3 : Int32)) * (3 : Int32))), .val (.int ((0 : Int32) + ((((2 : Int32) - (0 : Int32)) / (3 : Int32)) * (3 : Int32)))), .val (.int ((0 : Int32) + (1 : Int32))), .val (.int (x &&& (255 : Int32))), .val (.int (y &&& (255 : Int32))), .unset, .unset, .unset, .unset]) d_en0_290 rfl rfl ?_
  refine k_aload d_en0_292 rfl rfl rfl ?_
  refine k_iload d_en0_294 rfl rfl ?_
  refine k_iinc (z := (1 : Int32)) (Ls' := #[.val (.ref en), .val (.ref sr), .val (.int (0 : Int32)), .val (.int (2 : Int32)), .val (.ref d), .val (.ref tb), .val (.int (((0 : Int32) + (1 : Int32)) + (1 : Int32))), .val (.int ((((2 : Int32) - (0 : Int32)) / (3 : Int32)) * (3 : Int32))), .val (.int ((0 : Int32) + ((((2 : Int32) - (0 : Int32)) / (3 : Int32)) * (3 : Int32)))), .val (.int (((0 : Int32) + (1 : Int32)) + (1 : Int32))), .val (.int (x &&& (255 : Int32))), .val (.int (y &&& (255 : Int32))), .unset, .unset, .unset, .unset]) d_en0_296 rfl (by decide) rfl rfl ?_
  refine k_aload d_en0_299 rfl rfl rfl ?_
  refine k_iload d_en0_301 rfl rfl ?_
  refine k_iconst (z := (4 : Int32)) d_en0_303 rfl (by decide) ?_
  refine k_ishl d_en0_304 rfl ?_
  refine k_bipush (z := (63 : Int32)) d_en0_305 rfl (by decide) ?_
  refine k_iand d_en0_307 rfl ?_
  refine k_iload d_en0_308 rfl rfl ?_
  refine k_iconst (z := (4 : Int32)) d_en0_310 rfl (by decide) ?_
  refine k_ishr d_en0_311 rfl ?_
  refine k_ior d_en0_312 rfl ?_
  have f27 := (TBh.other W23 htd)
  refine k_caload (v := (.int (tbv ((((x &&& (255 : Int32)) <<< ((4 : Int32) &&& 31)) &&& (63 : Int32)) ||| ((y &&& (255 : Int32)) >>> ((4 : Int32) &&& 31)))))) d_en0_313 rfl f27 (m64 _ _) (getD_int T64 _) ?_
  refine k_i2b d_en0_314 rfl ?_
  refine k_bastore (i := 1) d_en0_315 rfl V25 (by decide) (by decide) (by simp) gd (fun q => by cases q) ?_
  intro h28 W29 V30
  have V31 : Arv Z h28 d ckd .byte (4 : Int32) [(.int (nar .byte (Int8.toInt32 (Int32.toInt8 (tbv ((x &&& (255 : Int32)) >>> ((2 : Int32) &&& 31))))))), (.int (nar .byte (Int8.toInt32 (Int32.toInt8 (tbv ((((x &&& (255 : Int32)) <<< ((4 : Int32) &&& 31)) &&& (63 : Int32)) ||| ((y &&& (255 : Int32)) >>> ((4 : Int32) &&& 31)))))))), (.int 0), (.int 0)] (.int 0) := V30
  show KW false l Z M_en0 n0 (fun v h => v = some (.int 4) ∧ Keep h0 h [d] ∧ Arv Z h d ckd .byte (4 : Int32) [.int (nbI (tbv ((x &&& (255 : Int32)) >>> ((2 : Int32) &&& 31)))), .int (nbI (tbv ((((x &&& (255 : Int32)) <<< ((4 : Int32) &&& 31)) &&& (63 : Int32)) ||| ((y &&& (255 : Int32)) >>> ((4 : Int32) &&& 31))))), .int (nbI (tbv (((y &&& (255 : Int32)) <<< ((2 : Int32) &&& 31)) &&& (63 : Int32)))), .int (nar .byte (61 : Int32))] (.int 0)) ([], fun _ => False) h28 0 0 316 #[.val (.ref en), .val (.ref sr), .val (.int (0 : Int32)), .val (.int (2 : Int32)), .val (.ref d), .val (.ref tb), .val (.int (((0 : Int32) + (1 : Int32)) + (1 : Int32))), .val (.int ((((2 : Int32) - (0 : Int32)) / (3 : Int32)) * (3 : Int32))), .val (.int ((0 : Int32) + ((((2 : Int32) - (0 : Int32)) / (3 : Int32)) * (3 : Int32)))), .val (.int (((0 : Int32) + (1 : Int32)) + (1 : Int32))), .val (.int (x &&& (255 : Int32))), .val (.int (y &&& (255 : Int32))), .unset, .unset, .unset, .unset] []
  refine k_aload d_en0_316 rfl rfl rfl ?_
  refine k_iload d_en0_318 rfl rfl ?_
  refine k_iinc (z := (1 : Int32)) (Ls' := #[.val (.ref en), .val (.ref sr), .val (.int (0 : Int32)), .val (.int (2 : Int32)), .val (.ref d), .val (.ref tb), .val (.int (((0 : Int32) + (1 : Int32)) + (1 : Int32))), .val (.int ((((2 : Int32) - (0 : Int32)) / (3 : Int32)) * (3 : Int32))), .val (.int ((0 : Int32) + ((((2 : Int32) - (0 : Int32)) / (3 : Int32)) * (3 : Int32)))), .val (.int ((((0 : Int32) + (1 : Int32)) + (1 : Int32)) + (1 : Int32))), .val (.int (x &&& (255 : Int32))), .val (.int (y &&& (255 : Int32))), .unset, .unset, .unset, .unset]) d_en0_320 rfl (by decide) rfl rfl ?_
  refine k_aload d_en0_323 rfl rfl rfl ?_
  refine k_iload d_en0_325 rfl rfl ?_
  refine k_iconst (z := (2 : Int32)) d_en0_327 rfl (by decide) ?_
  refine k_ishl d_en0_328 rfl ?_
  refine k_bipush (z := (63 : Int32)) d_en0_329 rfl (by decide) ?_
  refine k_iand d_en0_331 rfl ?_
  have f32 := (f27.other W29 htd)
  refine k_caload (v := (.int (tbv (((y &&& (255 : Int32)) <<< ((2 : Int32) &&& 31)) &&& (63 : Int32))))) d_en0_332 rfl f32 (m63 _) (getD_int T64 _) ?_
  refine k_i2b d_en0_333 rfl ?_
  refine k_bastore (i := 2) d_en0_334 rfl V31 (by decide) (by decide) (by simp) gd (fun q => by cases q) ?_
  intro h33 W34 V35
  have V36 : Arv Z h33 d ckd .byte (4 : Int32) [(.int (nar .byte (Int8.toInt32 (Int32.toInt8 (tbv ((x &&& (255 : Int32)) >>> ((2 : Int32) &&& 31))))))), (.int (nar .byte (Int8.toInt32 (Int32.toInt8 (tbv ((((x &&& (255 : Int32)) <<< ((4 : Int32) &&& 31)) &&& (63 : Int32)) ||| ((y &&& (255 : Int32)) >>> ((4 : Int32) &&& 31)))))))), (.int (nar .byte (Int8.toInt32 (Int32.toInt8 (tbv (((y &&& (255 : Int32)) <<< ((2 : Int32) &&& 31)) &&& (63 : Int32))))))), (.int 0)] (.int 0) := V35
  show KW false l Z M_en0 n0 (fun v h => v = some (.int 4) ∧ Keep h0 h [d] ∧ Arv Z h d ckd .byte (4 : Int32) [.int (nbI (tbv ((x &&& (255 : Int32)) >>> ((2 : Int32) &&& 31)))), .int (nbI (tbv ((((x &&& (255 : Int32)) <<< ((4 : Int32) &&& 31)) &&& (63 : Int32)) ||| ((y &&& (255 : Int32)) >>> ((4 : Int32) &&& 31))))), .int (nbI (tbv (((y &&& (255 : Int32)) <<< ((2 : Int32) &&& 31)) &&& (63 : Int32)))), .int (nar .byte (61 : Int32))] (.int 0)) ([], fun _ => False) h33 0 0 335 #[.val (.ref en), .val (.ref sr), .val (.int (0 : Int32)), .val (.int (2 : Int32)), .val (.ref d), .val (.ref tb), .val (.int (((0 : Int32) + (1 : Int32)) + (1 : Int32))), .val (.int ((((2 : Int32) - (0 : Int32)) / (3 : Int32)) * (3 : Int32))), .val (.int ((0 : Int32) + ((((2 : Int32) - (0 : Int32)) / (3 : Int32)) * (3 : Int32)))), .val (.int ((((0 : Int32) + (1 : Int32)) + (1 : Int32)) + (1 : Int32))), .val (.int (x &&& (255 : Int32))), .val (.int (y &&& (255 : Int32))), .unset, .unset, .unset, .unset] []
  refine k_aloadN d_en0_335 rfl rfl rfl ?_
  have f37 := (((EF.2.2.2.other W23 (Or.inl hed)).other W29 (Or.inl hed)).other W34 (Or.inl hed))
  refine k_getField d_en0_336 rfl (hw _ (List.mem_of_getElem? (i := 119) rfl)) Via.refl f37 ?_
  refine k_ifc (pc1 := 352) (pc' := 342) d_en0_339 (by decide) (by decide) rfl (fun (cd18 : (1 : Int32) = (0 : Int32)) => False.elim (by exact absurd cd18 (by decide))) (fun (cd18 : ¬ (1 : Int32) = (0 : Int32)) => ?_)
  refine k_aload d_en0_342 rfl rfl rfl ?_
  refine k_iload d_en0_344 rfl rfl ?_
  refine k_iinc (z := (1 : Int32)) (Ls' := #[.val (.ref en), .val (.ref sr), .val (.int (0 : Int32)), .val (.int (2 : Int32)), .val (.ref d), .val (.ref tb), .val (.int (((0 : Int32) + (1 : Int32)) + (1 : Int32))), .val (.int ((((2 : Int32) - (0 : Int32)) / (3 : Int32)) * (3 : Int32))), .val (.int ((0 : Int32) + ((((2 : Int32) - (0 : Int32)) / (3 : Int32)) * (3 : Int32)))), .val (.int (((((0 : Int32) + (1 : Int32)) + (1 : Int32)) + (1 : Int32)) + (1 : Int32))), .val (.int (x &&& (255 : Int32))), .val (.int (y &&& (255 : Int32))), .unset, .unset, .unset, .unset]) d_en0_346 rfl (by decide) rfl rfl ?_
  refine k_bipush (z := (61 : Int32)) d_en0_349 rfl (by decide) ?_
  refine k_bastore (i := 3) d_en0_351 rfl V36 (by decide) (by decide) (by simp) gd (fun q => by cases q) ?_
  intro h38 W39 V40
  have V41 : Arv Z h38 d ckd .byte (4 : Int32) [(.int (nar .byte (Int8.toInt32 (Int32.toInt8 (tbv ((x &&& (255 : Int32)) >>> ((2 : Int32) &&& 31))))))), (.int (nar .byte (Int8.toInt32 (Int32.toInt8 (tbv ((((x &&& (255 : Int32)) <<< ((4 : Int32) &&& 31)) &&& (63 : Int32)) ||| ((y &&& (255 : Int32)) >>> ((4 : Int32) &&& 31)))))))), (.int (nar .byte (Int8.toInt32 (Int32.toInt8 (tbv (((y &&& (255 : Int32)) <<< ((2 : Int32) &&& 31)) &&& (63 : Int32))))))), (.int (nar .byte (61 : Int32)))] (.int 0) := V40
  show KW false l Z M_en0 n0 (fun v h => v = some (.int 4) ∧ Keep h0 h [d] ∧ Arv Z h d ckd .byte (4 : Int32) [.int (nbI (tbv ((x &&& (255 : Int32)) >>> ((2 : Int32) &&& 31)))), .int (nbI (tbv ((((x &&& (255 : Int32)) <<< ((4 : Int32) &&& 31)) &&& (63 : Int32)) ||| ((y &&& (255 : Int32)) >>> ((4 : Int32) &&& 31))))), .int (nbI (tbv (((y &&& (255 : Int32)) <<< ((2 : Int32) &&& 31)) &&& (63 : Int32)))), .int (nar .byte (61 : Int32))] (.int 0)) ([], fun _ => False) h38 0 0 352 #[.val (.ref en), .val (.ref sr), .val (.int (0 : Int32)), .val (.int (2 : Int32)), .val (.ref d), .val (.ref tb), .val (.int (((0 : Int32) + (1 : Int32)) + (1 : Int32))), .val (.int ((((2 : Int32) - (0 : Int32)) / (3 : Int32)) * (3 : Int32))), .val (.int ((0 : Int32) + ((((2 : Int32) - (0 : Int32)) / (3 : Int32)) * (3 : Int32)))), .val (.int (((((0 : Int32) + (1 : Int32)) + (1 : Int32)) + (1 : Int32)) + (1 : Int32))), .val (.int (x &&& (255 : Int32))), .val (.int (y &&& (255 : Int32))), .unset, .unset, .unset, .unset] []
  refine k_iload d_en0_352 rfl rfl ?_
  refine KW.top (congrArg Value.int (show (((((0 : Int32) + (1 : Int32)) + (1 : Int32)) + (1 : Int32)) + (1 : Int32)) = (4 : Int32) by decide)) ?_
  show KW false l Z M_en0 n0 (fun v h => v = some (.int 4) ∧ Keep h0 h [d] ∧ Arv Z h d ckd .byte (4 : Int32) [.int (nbI (tbv ((x &&& (255 : Int32)) >>> ((2 : Int32) &&& 31)))), .int (nbI (tbv ((((x &&& (255 : Int32)) <<< ((4 : Int32) &&& 31)) &&& (63 : Int32)) ||| ((y &&& (255 : Int32)) >>> ((4 : Int32) &&& 31))))), .int (nbI (tbv (((y &&& (255 : Int32)) <<< ((2 : Int32) &&& 31)) &&& (63 : Int32)))), .int (nar .byte (61 : Int32))] (.int 0)) ([], fun _ => False) h38 0 0 354 #[.val (.ref en), .val (.ref sr), .val (.int (0 : Int32)), .val (.int (2 : Int32)), .val (.ref d), .val (.ref tb), .val (.int (((0 : Int32) + (1 : Int32)) + (1 : Int32))), .val (.int ((((2 : Int32) - (0 : Int32)) / (3 : Int32)) * (3 : Int32))), .val (.int ((0 : Int32) + ((((2 : Int32) - (0 : Int32)) / (3 : Int32)) * (3 : Int32)))), .val (.int (((((0 : Int32) + (1 : Int32)) + (1 : Int32)) + (1 : Int32)) + (1 : Int32))), .val (.int (x &&& (255 : Int32))), .val (.int (y &&& (255 : Int32))), .unset, .unset, .unset, .unset] [(.int (4 : Int32))]
  have f42 := ((((K0.wr W23 (Or.inl (by simp))).wr W29 (Or.inl (by simp))).wr W34 (Or.inl (by simp))).wr W39 (Or.inl (by simp)))
  exact k_retInt d_en0_354 rfl (by decide) (by decide) ⟨rfl, f42, V41⟩
theorem mt_en0_2 (l : Launch) (Z : State) (a0 : Array Value) (hw : ∀ d ∈ tables_1, d.before a0 Z = true) (cs : Int32) (hcs : ¬ cs = 0) (SC : Sta Z Z.heap "java/lang/String" "COMPACT_STRINGS" "Z" (.int cs)) (hEW : EW Z a0 EL) (en : Addr) (ENC : Enc Z Z.heap en) (tb : Addr) (ckt : ClassId) (STB : Sta Z Z.heap "java/util/Base64$Encoder" "toBase64" "[C" (.ref tb)) (TB : Arv Z Z.heap tb ckt .char (64 : Int32) (T64.map Value.int) (.int 0)) (sr d : Addr) (cks ckd : ClassId) (x y : Int32) (h0 : Heap) (n0 : Nat) (OD : Old Z n0 h0) (SR : Arv Z h0 sr cks .byte (2 : Int32) [.int (x), .int (y)] (.int 0)) (D0 : Arv Z h0 d ckd .byte (4 : Int32) [.int (0), .int (0), .int (0), .int (0)] (.int 0)) (gd : n0 ≤ d) (hsd : sr ≠ d) : Mt l Z M_en0 [] n0 #[(.ref en), (.ref sr), (.int (0 : Int32)), (.int (2 : Int32)), (.ref d)] h0 (fun v h => v = some (.int 4) ∧ Keep h0 h [d] ∧ Arv Z h d ckd .byte (4 : Int32) [.int (nbI (tbv ((x &&& (255 : Int32)) >>> ((2 : Int32) &&& 31)))), .int (nbI (tbv ((((x &&& (255 : Int32)) <<< ((4 : Int32) &&& 31)) &&& (63 : Int32)) ||| ((y &&& (255 : Int32)) >>> ((4 : Int32) &&& 31))))), .int (nbI (tbv (((y &&& (255 : Int32)) <<< ((2 : Int32) &&& 31)) &&& (63 : Int32)))), .int (nar .byte (61 : Int32))] (.int 0)) :=
  mt_of_kw (P := ([], fun _ => False)) pf_en0 (fun m => by first | (simp [entryFrame, mkF, argsToLocals, Value.category]; done) | rfl) (kw_en0_2 l Z a0 hw cs hcs SC hEW en ENC tb ckt STB TB sr d cks ckd x y h0 n0 OD SR D0 gd hsd)
set_option maxRecDepth 65536 in
set_option maxHeartbeats 40000000 in
theorem kw_en0_0 (l : Launch) (Z : State) (a0 : Array Value) (hw : ∀ d ∈ tables_1, d.before a0 Z = true) (cs : Int32) (hcs : ¬ cs = 0) (SC : Sta Z Z.heap "java/lang/String" "COMPACT_STRINGS" "Z" (.int cs)) (hEW : EW Z a0 EL) (en : Addr) (ENC : Enc Z Z.heap en) (tb : Addr) (ckt : ClassId) (STB : Sta Z Z.heap "java/util/Base64$Encoder" "toBase64" "[C" (.ref tb)) (TB : Arv Z Z.heap tb ckt .char (64 : Int32) (T64.map Value.int) (.int 0)) (sr d : Addr) (cks ckd : ClassId) (h0 : Heap) (n0 : Nat) (OD : Old Z n0 h0) (SR : Arv Z h0 sr cks .byte (0 : Int32) [] (.int 0)) (D0 : Arv Z h0 d ckd .byte (0 : Int32) [] (.int 0)) (gd : n0 ≤ d) (hsd : sr ≠ d) : KW false l Z M_en0 n0 (fun v h => v = some (.int 0) ∧ Keep h0 h [d] ∧ Arv Z h d ckd .byte (0 : Int32) [] (.int 0)) ([], fun _ => False) h0 0 0 0 #[.val (.ref en), .val (.ref sr), .val (.int (0 : Int32)), .val (.int (0 : Int32)), .val (.ref d), .unset, .unset, .unset, .unset, .unset, .unset, .unset, .unset, .unset, .unset, .unset] [] := by
  have EF := ENC.ext OD.2
  have TBh := TB.ext OD.2
  have htd : tb ≠ d := OD.ne TB.lt gd
  have K0 : Keep h0 h0 [d] := Keep.refl _ _
  have hed : en ≠ d := OD.ne ENC.1.lt gd
  refine k_aloadN d_en0_0 rfl rfl rfl ?_
  refine k_getField d_en0_1 rfl (hw _ (List.mem_of_getElem? (i := 135) rfl)) Via.refl EF.2.1 ?_
  refine k_ifc (pc1 := 13) (pc' := 7) d_en0_4 (by decide) (by decide) rfl (fun (cd19 : (0 : Int32) = (0 : Int32)) => ?_) (fun (cd19 : ¬ (0 : Int32) = (0 : Int32)) => False.elim (by exact absurd cd19 (by decide)))
  refine k_getStatic d_en0_13 rfl (hw _ (List.mem_of_getElem? (i := 137) rfl)) (Sta.ext OD.2 STB) ?_
  refine k_astore (Ls' := #[.val (.ref en), .val (.ref sr), .val (.int (0 : Int32)), .val (.int (0 : Int32)), .val (.ref d), .val (.ref tb), .unset, .unset, .unset, .unset, .unset, .unset, .unset, .unset, .unset, .unset]) d_en0_16 rfl rfl rfl ?_
  refine k_iloadN d_en0_18 rfl rfl ?_
  refine k_istore (Ls' := #[.val (.ref en), .val (.ref sr), .val (.int (0 : Int32)), .val (.int (0 : Int32)), .val (.ref d), .val (.ref tb), .val (.int (0 : Int32)), .unset, .unset, .unset, .unset, .unset, .unset, .unset, .unset, .unset]) d_en0_19 rfl rfl ?_
  refine k_iloadN d_en0_21 rfl rfl ?_
  refine k_iloadN d_en0_22 rfl rfl ?_
  refine k_isub d_en0_23 rfl ?_
  refine k_iconst (z := (3 : Int32)) d_en0_24 rfl (by decide) ?_
  refine k_idiv d_en0_25 rfl (by decide) ?_
  refine k_iconst (z := (3 : Int32)) d_en0_26 rfl (by decide) ?_
  refine k_imul d_en0_27 rfl ?_
  refine k_istore (Ls' := #[.val (.ref en), .val (.ref sr), .val (.int (0 : Int32)), .val (.int (0 : Int32)), .val (.ref d), .val (.ref tb), .val (.int (0 : Int32)), .val (.int ((((0 : Int32) - (0 : Int32)) / (3 : Int32)) * (3 : Int32))), .unset, .unset, .unset, .unset, .unset, .unset, .unset, .unset]) d_en0_28 rfl rfl ?_
  refine k_iloadN d_en0_30 rfl rfl ?_
  refine k_iload d_en0_31 rfl rfl ?_
  refine k_iadd d_en0_33 rfl ?_
  refine k_istore (Ls' := #[.val (.ref en), .val (.ref sr), .val (.int (0 : Int32)), .val (.int (0 : Int32)), .val (.ref d), .val (.ref tb), .val (.int (0 : Int32)), .val (.int ((((0 : Int32) - (0 : Int32)) / (3 : Int32)) * (3 : Int32))), .val (.int ((0 : Int32) + ((((0 : Int32) - (0 : Int32)) / (3 : Int32)) * (3 : Int32)))), .unset, .unset, .unset, .unset, .unset, .unset, .unset]) d_en0_34 rfl rfl ?_
  refine k_aloadN d_en0_36 rfl rfl rfl ?_
  refine k_getField d_en0_37 rfl (hw _ (List.mem_of_getElem? (i := 128) rfl)) Via.refl EF.2.2.1 ?_
  refine k_ifc (pc1 := 66) (pc' := 43) d_en0_40 (by decide) (by decide) rfl (fun (cd20 : ¬ (0 : Int32) < (-1 : Int32)) => ?_) (fun (cd20 : (0 : Int32) < (-1 : Int32)) => False.elim (by exact absurd cd20 (by decide)))
  refine k_iconst (z := (0 : Int32)) d_en0_66 rfl (by decide) ?_
  refine k_istore (Ls' := #[.val (.ref en), .val (.ref sr), .val (.int (0 : Int32)), .val (.int (0 : Int32)), .val (.ref d), .val (.ref tb), .val (.int (0 : Int32)), .val (.int ((((0 : Int32) - (0 : Int32)) / (3 : Int32)) * (3 : Int32))), .val (.int ((0 : Int32) + ((((0 : Int32) - (0 : Int32)) / (3 : Int32)) * (3 : Int32)))), .val (.int (0 : Int32)), .unset, .unset, .unset, .unset, .unset, .unset]) d_en0_67 rfl rfl ?_
  refine k_iload d_en0_69 rfl rfl ?_
  refine k_iload d_en0_71 rfl rfl ?_
  refine k_icmp (pc1 := 189) (pc' := 76) d_en0_73 (by decide) (by decide) rfl (fun (cd21 : ¬ (0 : Int32) < ((0 : Int32) + ((((0 : Int32) - (0 : Int32)) / (3 : Int32)) * (3 : Int32)))) => ?_) (fun (cd21 : (0 : Int32) < ((0 : Int32) + ((((0 : Int32) - (0 : Int32)) / (3 : Int32)) * (3 : Int32)))) => False.elim (by exact absurd cd21 (by decide)))
  refine k_iload d_en0_189 rfl rfl ?_
  refine k_iloadN d_en0_191 rfl rfl ?_
  refine k_icmp (pc1 := 352) (pc' := 195) d_en0_192 (by decide) (by decide) rfl (fun (cd22 : ¬ (0 : Int32) < (0 : Int32)) => ?_) (fun (cd22 : (0 : Int32) < (0 : Int32)) => False.elim (by exact absurd cd22 (by decide)))
  refine k_iload d_en0_352 rfl rfl ?_
  exact k_retInt d_en0_354 rfl (by decide) (by decide) ⟨rfl, K0, D0⟩
theorem mt_en0_0 (l : Launch) (Z : State) (a0 : Array Value) (hw : ∀ d ∈ tables_1, d.before a0 Z = true) (cs : Int32) (hcs : ¬ cs = 0) (SC : Sta Z Z.heap "java/lang/String" "COMPACT_STRINGS" "Z" (.int cs)) (hEW : EW Z a0 EL) (en : Addr) (ENC : Enc Z Z.heap en) (tb : Addr) (ckt : ClassId) (STB : Sta Z Z.heap "java/util/Base64$Encoder" "toBase64" "[C" (.ref tb)) (TB : Arv Z Z.heap tb ckt .char (64 : Int32) (T64.map Value.int) (.int 0)) (sr d : Addr) (cks ckd : ClassId) (h0 : Heap) (n0 : Nat) (OD : Old Z n0 h0) (SR : Arv Z h0 sr cks .byte (0 : Int32) [] (.int 0)) (D0 : Arv Z h0 d ckd .byte (0 : Int32) [] (.int 0)) (gd : n0 ≤ d) (hsd : sr ≠ d) : Mt l Z M_en0 [] n0 #[(.ref en), (.ref sr), (.int (0 : Int32)), (.int (0 : Int32)), (.ref d)] h0 (fun v h => v = some (.int 0) ∧ Keep h0 h [d] ∧ Arv Z h d ckd .byte (0 : Int32) [] (.int 0)) :=
  mt_of_kw (P := ([], fun _ => False)) pf_en0 (fun m => by first | (simp [entryFrame, mkF, argsToLocals, Value.category]; done) | rfl) (kw_en0_0 l Z a0 hw cs hcs SC hEW en ENC tb ckt STB TB sr d cks ckd  h0 n0 OD SR D0 gd hsd)
abbrev M_enc : MD := ((⟨"java/util/Base64$Encoder", "encode", "([B)[B"⟩ : MethodName), jdk_2452_method_3_code, 5, (some (.array .byte)), { frames := 2, cells := 1, slots := 4, locals := 64 })
theorem d_enc_0 : decode jdk_2452_method_3_code 0 = .ok (.aload_n 0, 1) := by decide +kernel
theorem d_enc_1 : decode jdk_2452_method_3_code 1 = .ok (.aload_n 1, 1) := by decide +kernel
theorem d_enc_2 : decode jdk_2452_method_3_code 2 = .ok (.arraylength, 1) := by decide +kernel
theorem d_enc_3 : decode jdk_2452_method_3_code 3 = .ok (.iconst 1, 1) := by decide +kernel
theorem d_enc_4 : decode jdk_2452_method_3_code 4 = .ok (.invokevirtual 42, 3) := by decide +kernel
theorem d_enc_7 : decode jdk_2452_method_3_code 7 = .ok (.istore_n 2, 1) := by decide +kernel
theorem d_enc_8 : decode jdk_2452_method_3_code 8 = .ok (.iload_n 2, 1) := by decide +kernel
theorem d_enc_9 : decode jdk_2452_method_3_code 9 = .ok (.newarray .byte, 2) := by decide +kernel
theorem d_enc_11 : decode jdk_2452_method_3_code 11 = .ok (.astore_n 3, 1) := by decide +kernel
theorem d_enc_12 : decode jdk_2452_method_3_code 12 = .ok (.aload_n 0, 1) := by decide +kernel
theorem d_enc_13 : decode jdk_2452_method_3_code 13 = .ok (.aload_n 1, 1) := by decide +kernel
theorem d_enc_14 : decode jdk_2452_method_3_code 14 = .ok (.iconst 0, 1) := by decide +kernel
theorem d_enc_15 : decode jdk_2452_method_3_code 15 = .ok (.aload_n 1, 1) := by decide +kernel
theorem d_enc_16 : decode jdk_2452_method_3_code 16 = .ok (.arraylength, 1) := by decide +kernel
theorem d_enc_17 : decode jdk_2452_method_3_code 17 = .ok (.aload_n 3, 1) := by decide +kernel
theorem d_enc_18 : decode jdk_2452_method_3_code 18 = .ok (.invokevirtual 46, 3) := by decide +kernel
theorem d_enc_21 : decode jdk_2452_method_3_code 21 = .ok (.istore 4, 2) := by decide +kernel
theorem d_enc_23 : decode jdk_2452_method_3_code 23 = .ok (.iload 4, 2) := by decide +kernel
theorem d_enc_25 : decode jdk_2452_method_3_code 25 = .ok (.aload_n 3, 1) := by decide +kernel
theorem d_enc_26 : decode jdk_2452_method_3_code 26 = .ok (.arraylength, 1) := by decide +kernel
theorem d_enc_27 : decode jdk_2452_method_3_code 27 = .ok (.if_icmp .eq 10, 3) := by decide +kernel
theorem d_enc_30 : decode jdk_2452_method_3_code 30 = .ok (.aload_n 3, 1) := by decide +kernel
theorem d_enc_31 : decode jdk_2452_method_3_code 31 = .ok (.iload 4, 2) := by decide +kernel
theorem d_enc_33 : decode jdk_2452_method_3_code 33 = .ok (.invokestatic 50, 3) := by decide +kernel
theorem d_enc_36 : decode jdk_2452_method_3_code 36 = .ok (.areturn, 1) := by decide +kernel
theorem d_enc_37 : decode jdk_2452_method_3_code 37 = .ok (.aload_n 3, 1) := by decide +kernel
theorem d_enc_38 : decode jdk_2452_method_3_code 38 = .ok (.areturn, 1) := by decide +kernel
theorem pd_enc : parseMethodDescriptor "([B)[B" = some ⟨[(.array .byte)], (some (.array .byte))⟩ := by decide +kernel
theorem pf_enc : plainFor (⟨"java/util/Base64$Encoder", "encode", "([B)[B"⟩ : MethodName) = true := by first | exact plainFor_of_name (by first | (simp [plainName, overriddenIn]; done) | decide +kernel) | decide +kernel
set_option maxRecDepth 65536 in
set_option maxHeartbeats 40000000 in
theorem kw_enc_3 (l : Launch) (Z : State) (a0 : Array Value) (hw : ∀ d ∈ tables_1, d.before a0 Z = true) (cs : Int32) (hcs : ¬ cs = 0) (SC : Sta Z Z.heap "java/lang/String" "COMPACT_STRINGS" "Z" (.int cs)) (hEW : EW Z a0 EL) (en : Addr) (ENC : Enc Z Z.heap en) (tb : Addr) (ckt : ClassId) (STB : Sta Z Z.heap "java/util/Base64$Encoder" "toBase64" "[C" (.ref tb)) (TB : Arv Z Z.heap tb ckt .char (64 : Int32) (T64.map Value.int) (.int 0)) (sr : Addr) (cks : ClassId) (x y z : Int32) (h0 : Heap) (n0 : Nat) (OD : Old Z n0 h0) (SR : Arv Z h0 sr cks .byte (3 : Int32) [.int (x), .int (y), .int (z)] (.int 0)) : KW false l Z M_enc n0 (fun v h => ∃ d ckd, v = some (.ref d) ∧ h0.size ≤ d ∧ n0 ≤ d ∧ Keep h0 h [] ∧ Exa Z h d "[B" ∧ Arv Z h d ckd .byte (4 : Int32) [.int (nbI (tbv ((UInt32.toInt32 (Int32.toUInt32 (w24 x y z) >>> Int32.toUInt32 ((18 : Int32) &&& 31))) &&& (63 : Int32)))), .int (nbI (tbv ((UInt32.toInt32 (Int32.toUInt32 (w24 x y z) >>> Int32.toUInt32 ((12 : Int32) &&& 31))) &&& (63 : Int32)))), .int (nbI (tbv ((UInt32.toInt32 (Int32.toUInt32 (w24 x y z) >>> Int32.toUInt32 ((6 : Int32) &&& 31))) &&& (63 : Int32)))), .int (nbI (tbv ((w24 x y z) &&& (63 : Int32))))] (.int 0)) ([], fun _ => False) h0 0 0 0 #[.val (.ref en), .val (.ref sr), .unset, .unset, .unset] [] := by
  have EF := ENC.ext OD.2
  have Z0 := OD.1 ▸ OD.2.1
  have K0 : Keep h0 h0 [] := Keep.refl _ _
  refine k_aloadN d_enc_0 rfl rfl rfl ?_
  refine k_aloadN d_enc_1 rfl rfl rfl ?_
  refine k_arrlen d_enc_2 rfl SR ?_
  refine k_iconst (z := (1 : Int32)) d_enc_3 rfl (by decide) ?_
  refine k_callVirtualH (argsL := [(.int (3 : Int32)), (.int (1 : Int32))]) (rest := []) (W0 := 0) d_enc_4 rfl (mt_eol l Z a0 hw cs hcs SC hEW en ENC tb ckt STB TB 3 4 h0 n0 OD (by decide) (by decide) (by decide)) Kp.strict EF.1 (hw _ (List.mem_of_getElem? (i := 114) rfl)) (own_declH (hw _ (List.mem_of_getElem? (i := 115) rfl)) (hw _ (List.mem_of_getElem? (i := 118) rfl))) (hw _ (List.mem_of_getElem? (i := 117) rfl)) (hw _ (List.mem_of_getElem? (i := 107) rfl)) rfl (hw _ (List.mem_of_getElem? (i := 115) rfl)) (hw _ (List.mem_of_getElem? (i := 118) rfl)) (hw _ (List.mem_of_getElem? (i := 28) rfl)) (by decide) pd_eol rfl rfl rfl rfl (by decide) (by decide) (by decide) (by decide) ?_
  rintro _ _ - ⟨rfl, rfl⟩
  refine KW.any (P' := ([], fun _ => False)) ?_
  show KW false l Z M_enc n0 (fun v h => ∃ d ckd, v = some (.ref d) ∧ h0.size ≤ d ∧ n0 ≤ d ∧ Keep h0 h [] ∧ Exa Z h d "[B" ∧ Arv Z h d ckd .byte (4 : Int32) [.int (nbI (tbv ((UInt32.toInt32 (Int32.toUInt32 (w24 x y z) >>> Int32.toUInt32 ((18 : Int32) &&& 31))) &&& (63 : Int32)))), .int (nbI (tbv ((UInt32.toInt32 (Int32.toUInt32 (w24 x y z) >>> Int32.toUInt32 ((12 : Int32) &&& 31))) &&& (63 : Int32)))), .int (nbI (tbv ((UInt32.toInt32 (Int32.toUInt32 (w24 x y z) >>> Int32.toUInt32 ((6 : Int32) &&& 31))) &&& (63 : Int32)))), .int (nbI (tbv ((w24 x y z) &&& (63 : Int32))))] (.int 0)) ([], fun _ => False) h0 0 0 7 #[.val (.ref en), .val (.ref sr), .unset, .unset, .unset] [(.int (4 : Int32))]
  refine k_istoreN (Ls' := #[.val (.ref en), .val (.ref sr), .val (.int (4 : Int32)), .unset, .unset]) d_enc_7 rfl rfl ?_
  refine k_iloadN d_enc_8 rfl rfl ?_
  refine k_newarrE (cap := 4) (ad := "[B") d_enc_9 rfl (hw _ (List.mem_of_getElem? (i := 0) rfl)) (by decide) (by decide) (by decide) (by decide) (by decide) (by decide) ?_
  intro h1 d ckd g1 E1 V1 X1
  have ne1 : sr ≠ d := Nat.ne_of_lt (Nat.lt_of_lt_of_eq SR.lt g1.symm)
  have z2 : n0 ≤ h0.size := Z0
  have gd : n0 ≤ d := Nat.le_trans z2 (Nat.le_of_eq g1.symm)
  have gl : h0.size ≤ d := Nat.le_of_eq g1.symm
  have gh3 := Nat.le_trans K0.1 gl
  have V2 : Arv Z h1 d ckd .byte (4 : Int32) [.int (0), .int (0), .int (0), .int (0)] (.int 0) := Arv.pad V1 (pad_rep [] _ 4)
  refine KW.any (P' := ([], fun _ => False)) ?_
  show KW false l Z M_enc n0 (fun v h => ∃ d ckd, v = some (.ref d) ∧ h0.size ≤ d ∧ n0 ≤ d ∧ Keep h0 h [] ∧ Exa Z h d "[B" ∧ Arv Z h d ckd .byte (4 : Int32) [.int (nbI (tbv ((UInt32.toInt32 (Int32.toUInt32 (w24 x y z) >>> Int32.toUInt32 ((18 : Int32) &&& 31))) &&& (63 : Int32)))), .int (nbI (tbv ((UInt32.toInt32 (Int32.toUInt32 (w24 x y z) >>> Int32.toUInt32 ((12 : Int32) &&& 31))) &&& (63 : Int32)))), .int (nbI (tbv ((UInt32.toInt32 (Int32.toUInt32 (w24 x y z) >>> Int32.toUInt32 ((6 : Int32) &&& 31))) &&& (63 : Int32)))), .int (nbI (tbv ((w24 x y z) &&& (63 : Int32))))] (.int 0)) ([], fun _ => False) h1 1 4 11 #[.val (.ref en), .val (.ref sr), .val (.int (4 : Int32)), .unset, .unset] [(.ref d)]
  refine k_astoreN (Ls' := #[.val (.ref en), .val (.ref sr), .val (.int (4 : Int32)), .val (.ref d), .unset]) d_enc_11 rfl rfl rfl ?_
  refine k_aloadN d_enc_12 rfl rfl rfl ?_
  refine k_aloadN d_enc_13 rfl rfl rfl ?_
  refine k_iconst (z := (0 : Int32)) d_enc_14 rfl (by decide) ?_
  refine k_aloadN d_enc_15 rfl rfl rfl ?_
  have f4 := (SR.ext E1)
  refine k_arrlen d_enc_16 rfl f4 ?_
  refine k_aloadN d_enc_17 rfl rfl rfl ?_
  have f5 := (OD.ext E1)
  have f6 := (EF.1.ext E1)
  have f7 := (EF.2.1.ext E1)
  have f8 := (EF.2.2.1.ext E1)
  have f9 := (EF.2.2.2.ext E1)
  have f10 := (K0.ext E1)
  refine k_callVirtual (argsL := [(.ref sr), (.int (0 : Int32)), (.int (3 : Int32)), (.ref d)]) (rest := []) (W0 := 0) d_enc_18 rfl (mt_en0_3 l Z a0 hw cs hcs SC hEW en ENC tb ckt STB TB sr d cks ckd x y z h1 n0 f5 f4 V2 gd ne1) Kp.strict f6 (hw _ (List.mem_of_getElem? (i := 130) rfl)) (own_decl (hw _ (List.mem_of_getElem? (i := 131) rfl)) (hw _ (List.mem_of_getElem? (i := 134) rfl))) (hw _ (List.mem_of_getElem? (i := 133) rfl)) (hw _ (List.mem_of_getElem? (i := 107) rfl)) rfl (hw _ (List.mem_of_getElem? (i := 131) rfl)) (hw _ (List.mem_of_getElem? (i := 134) rfl)) (hw _ (List.mem_of_getElem? (i := 28) rfl)) (by decide) pd_en0 rfl rfl rfl rfl (by decide) (by decide) (by decide) (by decide) ?_
  rintro _ hM - ⟨rfl, KM, DM⟩
  refine KW.any (P' := ([], fun _ => False)) ?_
  show KW false l Z M_enc n0 (fun v h => ∃ d ckd, v = some (.ref d) ∧ h0.size ≤ d ∧ n0 ≤ d ∧ Keep h0 h [] ∧ Exa Z h d "[B" ∧ Arv Z h d ckd .byte (4 : Int32) [.int (nbI (tbv ((UInt32.toInt32 (Int32.toUInt32 (w24 x y z) >>> Int32.toUInt32 ((18 : Int32) &&& 31))) &&& (63 : Int32)))), .int (nbI (tbv ((UInt32.toInt32 (Int32.toUInt32 (w24 x y z) >>> Int32.toUInt32 ((12 : Int32) &&& 31))) &&& (63 : Int32)))), .int (nbI (tbv ((UInt32.toInt32 (Int32.toUInt32 (w24 x y z) >>> Int32.toUInt32 ((6 : Int32) &&& 31))) &&& (63 : Int32)))), .int (nbI (tbv ((w24 x y z) &&& (63 : Int32))))] (.int 0)) ([], fun _ => False) hM 1 4 21 #[.val (.ref en), .val (.ref sr), .val (.int (4 : Int32)), .val (.ref d), .unset] [(.int (4 : Int32))]
  refine k_istore (Ls' := #[.val (.ref en), .val (.ref sr), .val (.int (4 : Int32)), .val (.ref d), .val (.int (4 : Int32))]) d_enc_21 rfl rfl ?_
  refine k_iload d_enc_23 rfl rfl ?_
  refine k_aloadN d_enc_25 rfl rfl rfl ?_
  refine k_arrlen d_enc_26 rfl DM ?_
  refine k_icmp (pc1 := 37) (pc' := 30) d_enc_27 (by decide) (by decide) rfl (fun (cd1 : (4 : Int32) = (4 : Int32)) => ?_) (fun (cd1 : ¬ (4 : Int32) = (4 : Int32)) => False.elim (by exact absurd cd1 (by decide)))
  refine k_aloadN d_enc_37 rfl rfl rfl ?_
  have f11 := (f10.trans KM (allS (Or.inr gh3) all0))
  have f12 := (X1.keep KM)
  exact k_retRef d_enc_38 rfl rfl rfl (by decide) (by decide) ⟨d, ckd, rfl, gh3, gd, f11, f12, DM⟩
theorem mt_enc_3 (l : Launch) (Z : State) (a0 : Array Value) (hw : ∀ d ∈ tables_1, d.before a0 Z = true) (cs : Int32) (hcs : ¬ cs = 0) (SC : Sta Z Z.heap "java/lang/String" "COMPACT_STRINGS" "Z" (.int cs)) (hEW : EW Z a0 EL) (en : Addr) (ENC : Enc Z Z.heap en) (tb : Addr) (ckt : ClassId) (STB : Sta Z Z.heap "java/util/Base64$Encoder" "toBase64" "[C" (.ref tb)) (TB : Arv Z Z.heap tb ckt .char (64 : Int32) (T64.map Value.int) (.int 0)) (sr : Addr) (cks : ClassId) (x y z : Int32) (h0 : Heap) (n0 : Nat) (OD : Old Z n0 h0) (SR : Arv Z h0 sr cks .byte (3 : Int32) [.int (x), .int (y), .int (z)] (.int 0)) : Mt l Z M_enc [] n0 #[(.ref en), (.ref sr)] h0 (fun v h => ∃ d ckd, v = some (.ref d) ∧ h0.size ≤ d ∧ n0 ≤ d ∧ Keep h0 h [] ∧ Exa Z h d "[B" ∧ Arv Z h d ckd .byte (4 : Int32) [.int (nbI (tbv ((UInt32.toInt32 (Int32.toUInt32 (w24 x y z) >>> Int32.toUInt32 ((18 : Int32) &&& 31))) &&& (63 : Int32)))), .int (nbI (tbv ((UInt32.toInt32 (Int32.toUInt32 (w24 x y z) >>> Int32.toUInt32 ((12 : Int32) &&& 31))) &&& (63 : Int32)))), .int (nbI (tbv ((UInt32.toInt32 (Int32.toUInt32 (w24 x y z) >>> Int32.toUInt32 ((6 : Int32) &&& 31))) &&& (63 : Int32)))), .int (nbI (tbv ((w24 x y z) &&& (63 : Int32))))] (.int 0)) :=
  mt_of_kw (P := ([], fun _ => False)) pf_enc (fun m => by first | (simp [entryFrame, mkF, argsToLocals, Value.category]; done) | rfl) (kw_enc_3 l Z a0 hw cs hcs SC hEW en ENC tb ckt STB TB sr cks x y z h0 n0 OD SR)
set_option maxRecDepth 65536 in
set_option maxHeartbeats 40000000 in
theorem kw_enc_1 (l : Launch) (Z : State) (a0 : Array Value) (hw : ∀ d ∈ tables_1, d.before a0 Z = true) (cs : Int32) (hcs : ¬ cs = 0) (SC : Sta Z Z.heap "java/lang/String" "COMPACT_STRINGS" "Z" (.int cs)) (hEW : EW Z a0 EL) (en : Addr) (ENC : Enc Z Z.heap en) (tb : Addr) (ckt : ClassId) (STB : Sta Z Z.heap "java/util/Base64$Encoder" "toBase64" "[C" (.ref tb)) (TB : Arv Z Z.heap tb ckt .char (64 : Int32) (T64.map Value.int) (.int 0)) (sr : Addr) (cks : ClassId) (x : Int32) (h0 : Heap) (n0 : Nat) (OD : Old Z n0 h0) (SR : Arv Z h0 sr cks .byte (1 : Int32) [.int (x)] (.int 0)) : KW false l Z M_enc n0 (fun v h => ∃ d ckd, v = some (.ref d) ∧ h0.size ≤ d ∧ n0 ≤ d ∧ Keep h0 h [] ∧ Exa Z h d "[B" ∧ Arv Z h d ckd .byte (4 : Int32) [.int (nbI (tbv ((x &&& (255 : Int32)) >>> ((2 : Int32) &&& 31)))), .int (nbI (tbv (((x &&& (255 : Int32)) <<< ((4 : Int32) &&& 31)) &&& (63 : Int32)))), .int (nar .byte (61 : Int32)), .int (nar .byte (61 : Int32))] (.int 0)) ([], fun _ => False) h0 0 0 0 #[.val (.ref en), .val (.ref sr), .unset, .unset, .unset] [] := by
  have EF := ENC.ext OD.2
  have Z0 := OD.1 ▸ OD.2.1
  have K0 : Keep h0 h0 [] := Keep.refl _ _
  refine k_aloadN d_enc_0 rfl rfl rfl ?_
  refine k_aloadN d_enc_1 rfl rfl rfl ?_
  refine k_arrlen d_enc_2 rfl SR ?_
  refine k_iconst (z := (1 : Int32)) d_enc_3 rfl (by decide) ?_
  refine k_callVirtualH (argsL := [(.int (1 : Int32)), (.int (1 : Int32))]) (rest := []) (W0 := 0) d_enc_4 rfl (mt_eol l Z a0 hw cs hcs SC hEW en ENC tb ckt STB TB 1 4 h0 n0 OD (by decide) (by decide) (by decide)) Kp.strict EF.1 (hw _ (List.mem_of_getElem? (i := 114) rfl)) (own_declH (hw _ (List.mem_of_getElem? (i := 115) rfl)) (hw _ (List.mem_of_getElem? (i := 118) rfl))) (hw _ (List.mem_of_getElem? (i := 117) rfl)) (hw _ (List.mem_of_getElem? (i := 107) rfl)) rfl (hw _ (List.mem_of_getElem? (i := 115) rfl)) (hw _ (List.mem_of_getElem? (i := 118) rfl)) (hw _ (List.mem_of_getElem? (i := 28) rfl)) (by decide) pd_eol rfl rfl rfl rfl (by decide) (by decide) (by decide) (by decide) ?_
  rintro _ _ - ⟨rfl, rfl⟩
  refine KW.any (P' := ([], fun _ => False)) ?_
  show KW false l Z M_enc n0 (fun v h => ∃ d ckd, v = some (.ref d) ∧ h0.size ≤ d ∧ n0 ≤ d ∧ Keep h0 h [] ∧ Exa Z h d "[B" ∧ Arv Z h d ckd .byte (4 : Int32) [.int (nbI (tbv ((x &&& (255 : Int32)) >>> ((2 : Int32) &&& 31)))), .int (nbI (tbv (((x &&& (255 : Int32)) <<< ((4 : Int32) &&& 31)) &&& (63 : Int32)))), .int (nar .byte (61 : Int32)), .int (nar .byte (61 : Int32))] (.int 0)) ([], fun _ => False) h0 0 0 7 #[.val (.ref en), .val (.ref sr), .unset, .unset, .unset] [(.int (4 : Int32))]
  refine k_istoreN (Ls' := #[.val (.ref en), .val (.ref sr), .val (.int (4 : Int32)), .unset, .unset]) d_enc_7 rfl rfl ?_
  refine k_iloadN d_enc_8 rfl rfl ?_
  refine k_newarrE (cap := 4) (ad := "[B") d_enc_9 rfl (hw _ (List.mem_of_getElem? (i := 0) rfl)) (by decide) (by decide) (by decide) (by decide) (by decide) (by decide) ?_
  intro h1 d ckd g1 E1 V1 X1
  have ne13 : sr ≠ d := Nat.ne_of_lt (Nat.lt_of_lt_of_eq SR.lt g1.symm)
  have z14 : n0 ≤ h0.size := Z0
  have gd : n0 ≤ d := Nat.le_trans z14 (Nat.le_of_eq g1.symm)
  have gl : h0.size ≤ d := Nat.le_of_eq g1.symm
  have gh15 := Nat.le_trans K0.1 gl
  have V2 : Arv Z h1 d ckd .byte (4 : Int32) [.int (0), .int (0), .int (0), .int (0)] (.int 0) := Arv.pad V1 (pad_rep [] _ 4)
  refine KW.any (P' := ([], fun _ => False)) ?_
  show KW false l Z M_enc n0 (fun v h => ∃ d ckd, v = some (.ref d) ∧ h0.size ≤ d ∧ n0 ≤ d ∧ Keep h0 h [] ∧ Exa Z h d "[B" ∧ Arv Z h d ckd .byte (4 : Int32) [.int (nbI (tbv ((x &&& (255 : Int32)) >>> ((2 : Int32) &&& 31)))), .int (nbI (tbv (((x &&& (255 : Int32)) <<< ((4 : Int32) &&& 31)) &&& (63 : Int32)))), .int (nar .byte (61 : Int32)), .int (nar .byte (61 : Int32))] (.int 0)) ([], fun _ => False) h1 1 4 11 #[.val (.ref en), .val (.ref sr), .val (.int (4 : Int32)), .unset, .unset] [(.ref d)]
  refine k_astoreN (Ls' := #[.val (.ref en), .val (.ref sr), .val (.int (4 : Int32)), .val (.ref d), .unset]) d_enc_11 rfl rfl rfl ?_
  refine k_aloadN d_enc_12 rfl rfl rfl ?_
  refine k_aloadN d_enc_13 rfl rfl rfl ?_
  refine k_iconst (z := (0 : Int32)) d_enc_14 rfl (by decide) ?_
  refine k_aloadN d_enc_15 rfl rfl rfl ?_
  have f16 := (SR.ext E1)
  refine k_arrlen d_enc_16 rfl f16 ?_
  refine k_aloadN d_enc_17 rfl rfl rfl ?_
  have f17 := (OD.ext E1)
  have f18 := (EF.1.ext E1)
  have f19 := (EF.2.1.ext E1)
  have f20 := (EF.2.2.1.ext E1)
  have f21 := (EF.2.2.2.ext E1)
  have f22 := (K0.ext E1)
  refine k_callVirtual (argsL := [(.ref sr), (.int (0 : Int32)), (.int (1 : Int32)), (.ref d)]) (rest := []) (W0 := 0) d_enc_18 rfl (mt_en0_1 l Z a0 hw cs hcs SC hEW en ENC tb ckt STB TB sr d cks ckd x h1 n0 f17 f16 V2 gd ne13) Kp.strict f18 (hw _ (List.mem_of_getElem? (i := 130) rfl)) (own_decl (hw _ (List.mem_of_getElem? (i := 131) rfl)) (hw _ (List.mem_of_getElem? (i := 134) rfl))) (hw _ (List.mem_of_getElem? (i := 133) rfl)) (hw _ (List.mem_of_getElem? (i := 107) rfl)) rfl (hw _ (List.mem_of_getElem? (i := 131) rfl)) (hw _ (List.mem_of_getElem? (i := 134) rfl)) (hw _ (List.mem_of_getElem? (i := 28) rfl)) (by decide) pd_en0 rfl rfl rfl rfl (by decide) (by decide) (by decide) (by decide) ?_
  rintro _ hM - ⟨rfl, KM, DM⟩
  refine KW.any (P' := ([], fun _ => False)) ?_
  show KW false l Z M_enc n0 (fun v h => ∃ d ckd, v = some (.ref d) ∧ h0.size ≤ d ∧ n0 ≤ d ∧ Keep h0 h [] ∧ Exa Z h d "[B" ∧ Arv Z h d ckd .byte (4 : Int32) [.int (nbI (tbv ((x &&& (255 : Int32)) >>> ((2 : Int32) &&& 31)))), .int (nbI (tbv (((x &&& (255 : Int32)) <<< ((4 : Int32) &&& 31)) &&& (63 : Int32)))), .int (nar .byte (61 : Int32)), .int (nar .byte (61 : Int32))] (.int 0)) ([], fun _ => False) hM 1 4 21 #[.val (.ref en), .val (.ref sr), .val (.int (4 : Int32)), .val (.ref d), .unset] [(.int (4 : Int32))]
  refine k_istore (Ls' := #[.val (.ref en), .val (.ref sr), .val (.int (4 : Int32)), .val (.ref d), .val (.int (4 : Int32))]) d_enc_21 rfl rfl ?_
  refine k_iload d_enc_23 rfl rfl ?_
  refine k_aloadN d_enc_25 rfl rfl rfl ?_
  refine k_arrlen d_enc_26 rfl DM ?_
  refine k_icmp (pc1 := 37) (pc' := 30) d_enc_27 (by decide) (by decide) rfl (fun (cd2 : (4 : Int32) = (4 : Int32)) => ?_) (fun (cd2 : ¬ (4 : Int32) = (4 : Int32)) => False.elim (by exact absurd cd2 (by decide)))
  refine k_aloadN d_enc_37 rfl rfl rfl ?_
  have f23 := (f22.trans KM (allS (Or.inr gh15) all0))
  have f24 := (X1.keep KM)
  exact k_retRef d_enc_38 rfl rfl rfl (by decide) (by decide) ⟨d, ckd, rfl, gh15, gd, f23, f24, DM⟩
theorem mt_enc_1 (l : Launch) (Z : State) (a0 : Array Value) (hw : ∀ d ∈ tables_1, d.before a0 Z = true) (cs : Int32) (hcs : ¬ cs = 0) (SC : Sta Z Z.heap "java/lang/String" "COMPACT_STRINGS" "Z" (.int cs)) (hEW : EW Z a0 EL) (en : Addr) (ENC : Enc Z Z.heap en) (tb : Addr) (ckt : ClassId) (STB : Sta Z Z.heap "java/util/Base64$Encoder" "toBase64" "[C" (.ref tb)) (TB : Arv Z Z.heap tb ckt .char (64 : Int32) (T64.map Value.int) (.int 0)) (sr : Addr) (cks : ClassId) (x : Int32) (h0 : Heap) (n0 : Nat) (OD : Old Z n0 h0) (SR : Arv Z h0 sr cks .byte (1 : Int32) [.int (x)] (.int 0)) : Mt l Z M_enc [] n0 #[(.ref en), (.ref sr)] h0 (fun v h => ∃ d ckd, v = some (.ref d) ∧ h0.size ≤ d ∧ n0 ≤ d ∧ Keep h0 h [] ∧ Exa Z h d "[B" ∧ Arv Z h d ckd .byte (4 : Int32) [.int (nbI (tbv ((x &&& (255 : Int32)) >>> ((2 : Int32) &&& 31)))), .int (nbI (tbv (((x &&& (255 : Int32)) <<< ((4 : Int32) &&& 31)) &&& (63 : Int32)))), .int (nar .byte (61 : Int32)), .int (nar .byte (61 : Int32))] (.int 0)) :=
  mt_of_kw (P := ([], fun _ => False)) pf_enc (fun m => by first | (simp [entryFrame, mkF, argsToLocals, Value.category]; done) | rfl) (kw_enc_1 l Z a0 hw cs hcs SC hEW en ENC tb ckt STB TB sr cks x h0 n0 OD SR)
set_option maxRecDepth 65536 in
set_option maxHeartbeats 40000000 in
theorem kw_enc_2 (l : Launch) (Z : State) (a0 : Array Value) (hw : ∀ d ∈ tables_1, d.before a0 Z = true) (cs : Int32) (hcs : ¬ cs = 0) (SC : Sta Z Z.heap "java/lang/String" "COMPACT_STRINGS" "Z" (.int cs)) (hEW : EW Z a0 EL) (en : Addr) (ENC : Enc Z Z.heap en) (tb : Addr) (ckt : ClassId) (STB : Sta Z Z.heap "java/util/Base64$Encoder" "toBase64" "[C" (.ref tb)) (TB : Arv Z Z.heap tb ckt .char (64 : Int32) (T64.map Value.int) (.int 0)) (sr : Addr) (cks : ClassId) (x y : Int32) (h0 : Heap) (n0 : Nat) (OD : Old Z n0 h0) (SR : Arv Z h0 sr cks .byte (2 : Int32) [.int (x), .int (y)] (.int 0)) : KW false l Z M_enc n0 (fun v h => ∃ d ckd, v = some (.ref d) ∧ h0.size ≤ d ∧ n0 ≤ d ∧ Keep h0 h [] ∧ Exa Z h d "[B" ∧ Arv Z h d ckd .byte (4 : Int32) [.int (nbI (tbv ((x &&& (255 : Int32)) >>> ((2 : Int32) &&& 31)))), .int (nbI (tbv ((((x &&& (255 : Int32)) <<< ((4 : Int32) &&& 31)) &&& (63 : Int32)) ||| ((y &&& (255 : Int32)) >>> ((4 : Int32) &&& 31))))), .int (nbI (tbv (((y &&& (255 : Int32)) <<< ((2 : Int32) &&& 31)) &&& (63 : Int32)))), .int (nar .byte (61 : Int32))] (.int 0)) ([], fun _ => False) h0 0 0 0 #[.val (.ref en), .val (.ref sr), .unset, .unset, .unset] [] := by
  have EF := ENC.ext OD.2
  have Z0 := OD.1 ▸ OD.2.1
  have K0 : Keep h0 h0 [] := Keep.refl _ _
  refine k_aloadN d_enc_0 rfl rfl rfl ?_
  refine k_aloadN d_enc_1 rfl rfl rfl ?_
  refine k_arrlen d_enc_2 rfl SR ?_
  refine k_iconst (z := (1 : Int32)) d_enc_3 rfl (by decide) ?_
  refine k_callVirtualH (argsL := [(.int (2 : Int32)), (.int (1 : Int32))]) (rest := []) (W0 := 0) d_enc_4 rfl (mt_eol l Z a0 hw cs hcs SC hEW en ENC tb ckt STB TB 2 4 h0 n0 OD (by decide) (by decide) (by decide)) Kp.strict EF.1 (hw _ (List.mem_of_getElem? (i := 114) rfl)) (own_declH (hw _ (List.mem_of_getElem? (i := 115) rfl)) (hw _ (List.mem_of_getElem? (i := 118) rfl))) (hw _ (List.mem_of_getElem? (i := 117) rfl)) (hw _ (List.mem_of_getElem? (i := 107) rfl)) rfl (hw _ (List.mem_of_getElem? (i := 115) rfl)) (hw _ (List.mem_of_getElem? (i := 118) rfl)) (hw _ (List.mem_of_getElem? (i := 28) rfl)) (by decide) pd_eol rfl rfl rfl rfl (by decide) (by decide) (by decide) (by decide) ?_
  rintro _ _ - ⟨rfl, rfl⟩
  refine KW.any (P' := ([], fun _ => False)) ?_
  show KW false l Z M_enc n0 (fun v h => ∃ d ckd, v = some (.ref d) ∧ h0.size ≤ d ∧ n0 ≤ d ∧ Keep h0 h [] ∧ Exa Z h d "[B" ∧ Arv Z h d ckd .byte (4 : Int32) [.int (nbI (tbv ((x &&& (255 : Int32)) >>> ((2 : Int32) &&& 31)))), .int (nbI (tbv ((((x &&& (255 : Int32)) <<< ((4 : Int32) &&& 31)) &&& (63 : Int32)) ||| ((y &&& (255 : Int32)) >>> ((4 : Int32) &&& 31))))), .int (nbI (tbv (((y &&& (255 : Int32)) <<< ((2 : Int32) &&& 31)) &&& (63 : Int32)))), .int (nar .byte (61 : Int32))] (.int 0)) ([], fun _ => False) h0 0 0 7 #[.val (.ref en), .val (.ref sr), .unset, .unset, .unset] [(.int (4 : Int32))]
  refine k_istoreN (Ls' := #[.val (.ref en), .val (.ref sr), .val (.int (4 : Int32)), .unset, .unset]) d_enc_7 rfl rfl ?_
  refine k_iloadN d_enc_8 rfl rfl ?_
  refine k_newarrE (cap := 4) (ad := "[B") d_enc_9 rfl (hw _ (List.mem_of_getElem? (i := 0) rfl)) (by decide) (by decide) (by decide) (by decide) (by decide) (by decide) ?_
  intro h1 d ckd g1 E1 V1 X1
  have ne25 : sr ≠ d := Nat.ne_of_lt (Nat.lt_of_lt_of_eq SR.lt g1.symm)
  have z26 : n0 ≤ h0.size := Z0
  have gd : n0 ≤ d := Nat.le_trans z26 (Nat.le_of_eq g1.symm)
  have gl : h0.size ≤ d := Nat.le_of_eq g1.symm
  have gh27 := Nat.le_trans K0.1 gl
  have V2 : Arv Z h1 d ckd .byte (4 : Int32) [.int (0), .int (0), .int (0), .int (0)] (.int 0) := Arv.pad V1 (pad_rep [] _ 4)
  refine KW.any (P' := ([], fun _ => False)) ?_
  show KW false l Z M_enc n0 (fun v h => ∃ d ckd, v = some (.ref d) ∧ h0.size ≤ d ∧ n0 ≤ d ∧ Keep h0 h [] ∧ Exa Z h d "[B" ∧ Arv Z h d ckd .byte (4 : Int32) [.int (nbI (tbv ((x &&& (255 : Int32)) >>> ((2 : Int32) &&& 31)))), .int (nbI (tbv ((((x &&& (255 : Int32)) <<< ((4 : Int32) &&& 31)) &&& (63 : Int32)) ||| ((y &&& (255 : Int32)) >>> ((4 : Int32) &&& 31))))), .int (nbI (tbv (((y &&& (255 : Int32)) <<< ((2 : Int32) &&& 31)) &&& (63 : Int32)))), .int (nar .byte (61 : Int32))] (.int 0)) ([], fun _ => False) h1 1 4 11 #[.val (.ref en), .val (.ref sr), .val (.int (4 : Int32)), .unset, .unset] [(.ref d)]
  refine k_astoreN (Ls' := #[.val (.ref en), .val (.ref sr), .val (.int (4 : Int32)), .val (.ref d), .unset]) d_enc_11 rfl rfl rfl ?_
  refine k_aloadN d_enc_12 rfl rfl rfl ?_
  refine k_aloadN d_enc_13 rfl rfl rfl ?_
  refine k_iconst (z := (0 : Int32)) d_enc_14 rfl (by decide) ?_
  refine k_aloadN d_enc_15 rfl rfl rfl ?_
  have f28 := (SR.ext E1)
  refine k_arrlen d_enc_16 rfl f28 ?_
  refine k_aloadN d_enc_17 rfl rfl rfl ?_
  have f29 := (OD.ext E1)
  have f30 := (EF.1.ext E1)
  have f31 := (EF.2.1.ext E1)
  have f32 := (EF.2.2.1.ext E1)
  have f33 := (EF.2.2.2.ext E1)
  have f34 := (K0.ext E1)
  refine k_callVirtual (argsL := [(.ref sr), (.int (0 : Int32)), (.int (2 : Int32)), (.ref d)]) (rest := []) (W0 := 0) d_enc_18 rfl (mt_en0_2 l Z a0 hw cs hcs SC hEW en ENC tb ckt STB TB sr d cks ckd x y h1 n0 f29 f28 V2 gd ne25) Kp.strict f30 (hw _ (List.mem_of_getElem? (i := 130) rfl)) (own_decl (hw _ (List.mem_of_getElem? (i := 131) rfl)) (hw _ (List.mem_of_getElem? (i := 134) rfl))) (hw _ (List.mem_of_getElem? (i := 133) rfl)) (hw _ (List.mem_of_getElem? (i := 107) rfl)) rfl (hw _ (List.mem_of_getElem? (i := 131) rfl)) (hw _ (List.mem_of_getElem? (i := 134) rfl)) (hw _ (List.mem_of_getElem? (i := 28) rfl)) (by decide) pd_en0 rfl rfl rfl rfl (by decide) (by decide) (by decide) (by decide) ?_
  rintro _ hM - ⟨rfl, KM, DM⟩
  refine KW.any (P' := ([], fun _ => False)) ?_
  show KW false l Z M_enc n0 (fun v h => ∃ d ckd, v = some (.ref d) ∧ h0.size ≤ d ∧ n0 ≤ d ∧ Keep h0 h [] ∧ Exa Z h d "[B" ∧ Arv Z h d ckd .byte (4 : Int32) [.int (nbI (tbv ((x &&& (255 : Int32)) >>> ((2 : Int32) &&& 31)))), .int (nbI (tbv ((((x &&& (255 : Int32)) <<< ((4 : Int32) &&& 31)) &&& (63 : Int32)) ||| ((y &&& (255 : Int32)) >>> ((4 : Int32) &&& 31))))), .int (nbI (tbv (((y &&& (255 : Int32)) <<< ((2 : Int32) &&& 31)) &&& (63 : Int32)))), .int (nar .byte (61 : Int32))] (.int 0)) ([], fun _ => False) hM 1 4 21 #[.val (.ref en), .val (.ref sr), .val (.int (4 : Int32)), .val (.ref d), .unset] [(.int (4 : Int32))]
  refine k_istore (Ls' := #[.val (.ref en), .val (.ref sr), .val (.int (4 : Int32)), .val (.ref d), .val (.int (4 : Int32))]) d_enc_21 rfl rfl ?_
  refine k_iload d_enc_23 rfl rfl ?_
  refine k_aloadN d_enc_25 rfl rfl rfl ?_
  refine k_arrlen d_enc_26 rfl DM ?_
  refine k_icmp (pc1 := 37) (pc' := 30) d_enc_27 (by decide) (by decide) rfl (fun (cd3 : (4 : Int32) = (4 : Int32)) => ?_) (fun (cd3 : ¬ (4 : Int32) = (4 : Int32)) => False.elim (by exact absurd cd3 (by decide)))
  refine k_aloadN d_enc_37 rfl rfl rfl ?_
  have f35 := (f34.trans KM (allS (Or.inr gh27) all0))
  have f36 := (X1.keep KM)
  exact k_retRef d_enc_38 rfl rfl rfl (by decide) (by decide) ⟨d, ckd, rfl, gh27, gd, f35, f36, DM⟩
theorem mt_enc_2 (l : Launch) (Z : State) (a0 : Array Value) (hw : ∀ d ∈ tables_1, d.before a0 Z = true) (cs : Int32) (hcs : ¬ cs = 0) (SC : Sta Z Z.heap "java/lang/String" "COMPACT_STRINGS" "Z" (.int cs)) (hEW : EW Z a0 EL) (en : Addr) (ENC : Enc Z Z.heap en) (tb : Addr) (ckt : ClassId) (STB : Sta Z Z.heap "java/util/Base64$Encoder" "toBase64" "[C" (.ref tb)) (TB : Arv Z Z.heap tb ckt .char (64 : Int32) (T64.map Value.int) (.int 0)) (sr : Addr) (cks : ClassId) (x y : Int32) (h0 : Heap) (n0 : Nat) (OD : Old Z n0 h0) (SR : Arv Z h0 sr cks .byte (2 : Int32) [.int (x), .int (y)] (.int 0)) : Mt l Z M_enc [] n0 #[(.ref en), (.ref sr)] h0 (fun v h => ∃ d ckd, v = some (.ref d) ∧ h0.size ≤ d ∧ n0 ≤ d ∧ Keep h0 h [] ∧ Exa Z h d "[B" ∧ Arv Z h d ckd .byte (4 : Int32) [.int (nbI (tbv ((x &&& (255 : Int32)) >>> ((2 : Int32) &&& 31)))), .int (nbI (tbv ((((x &&& (255 : Int32)) <<< ((4 : Int32) &&& 31)) &&& (63 : Int32)) ||| ((y &&& (255 : Int32)) >>> ((4 : Int32) &&& 31))))), .int (nbI (tbv (((y &&& (255 : Int32)) <<< ((2 : Int32) &&& 31)) &&& (63 : Int32)))), .int (nar .byte (61 : Int32))] (.int 0)) :=
  mt_of_kw (P := ([], fun _ => False)) pf_enc (fun m => by first | (simp [entryFrame, mkF, argsToLocals, Value.category]; done) | rfl) (kw_enc_2 l Z a0 hw cs hcs SC hEW en ENC tb ckt STB TB sr cks x y h0 n0 OD SR)
set_option maxRecDepth 65536 in
set_option maxHeartbeats 40000000 in
theorem kw_enc_0 (l : Launch) (Z : State) (a0 : Array Value) (hw : ∀ d ∈ tables_1, d.before a0 Z = true) (cs : Int32) (hcs : ¬ cs = 0) (SC : Sta Z Z.heap "java/lang/String" "COMPACT_STRINGS" "Z" (.int cs)) (hEW : EW Z a0 EL) (en : Addr) (ENC : Enc Z Z.heap en) (tb : Addr) (ckt : ClassId) (STB : Sta Z Z.heap "java/util/Base64$Encoder" "toBase64" "[C" (.ref tb)) (TB : Arv Z Z.heap tb ckt .char (64 : Int32) (T64.map Value.int) (.int 0)) (sr : Addr) (cks : ClassId) (h0 : Heap) (n0 : Nat) (OD : Old Z n0 h0) (SR : Arv Z h0 sr cks .byte (0 : Int32) [] (.int 0)) : KW false l Z M_enc n0 (fun v h => ∃ d ckd, v = some (.ref d) ∧ h0.size ≤ d ∧ n0 ≤ d ∧ Keep h0 h [] ∧ Exa Z h d "[B" ∧ Arv Z h d ckd .byte (0 : Int32) [] (.int 0)) ([], fun _ => False) h0 0 0 0 #[.val (.ref en), .val (.ref sr), .unset, .unset, .unset] [] := by
  have EF := ENC.ext OD.2
  have Z0 := OD.1 ▸ OD.2.1
  have K0 : Keep h0 h0 [] := Keep.refl _ _
  refine k_aloadN d_enc_0 rfl rfl rfl ?_
  refine k_aloadN d_enc_1 rfl rfl rfl ?_
  refine k_arrlen d_enc_2 rfl SR ?_
  refine k_iconst (z := (1 : Int32)) d_enc_3 rfl (by decide) ?_
  refine k_callVirtualH (argsL := [(.int (0 : Int32)), (.int (1 : Int32))]) (rest := []) (W0 := 0) d_enc_4 rfl (mt_eol l Z a0 hw cs hcs SC hEW en ENC tb ckt STB TB 0 0 h0 n0 OD (by decide) (by decide) (by decide)) Kp.strict EF.1 (hw _ (List.mem_of_getElem? (i := 114) rfl)) (own_declH (hw _ (List.mem_of_getElem? (i := 115) rfl)) (hw _ (List.mem_of_getElem? (i := 118) rfl))) (hw _ (List.mem_of_getElem? (i := 117) rfl)) (hw _ (List.mem_of_getElem? (i := 107) rfl)) rfl (hw _ (List.mem_of_getElem? (i := 115) rfl)) (hw _ (List.mem_of_getElem? (i := 118) rfl)) (hw _ (List.mem_of_getElem? (i := 28) rfl)) (by decide) pd_eol rfl rfl rfl rfl (by decide) (by decide) (by decide) (by decide) ?_
  rintro _ _ - ⟨rfl, rfl⟩
  refine KW.any (P' := ([], fun _ => False)) ?_
  show KW false l Z M_enc n0 (fun v h => ∃ d ckd, v = some (.ref d) ∧ h0.size ≤ d ∧ n0 ≤ d ∧ Keep h0 h [] ∧ Exa Z h d "[B" ∧ Arv Z h d ckd .byte (0 : Int32) [] (.int 0)) ([], fun _ => False) h0 0 0 7 #[.val (.ref en), .val (.ref sr), .unset, .unset, .unset] [(.int (0 : Int32))]
  refine k_istoreN (Ls' := #[.val (.ref en), .val (.ref sr), .val (.int (0 : Int32)), .unset, .unset]) d_enc_7 rfl rfl ?_
  refine k_iloadN d_enc_8 rfl rfl ?_
  refine k_newarrE (cap := 0) (ad := "[B") d_enc_9 rfl (hw _ (List.mem_of_getElem? (i := 0) rfl)) (by decide) (by decide) (by decide) (by decide) (by decide) (by decide) ?_
  intro h1 d ckd g1 E1 V1 X1
  have ne37 : sr ≠ d := Nat.ne_of_lt (Nat.lt_of_lt_of_eq SR.lt g1.symm)
  have z38 : n0 ≤ h0.size := Z0
  have gd : n0 ≤ d := Nat.le_trans z38 (Nat.le_of_eq g1.symm)
  have gl : h0.size ≤ d := Nat.le_of_eq g1.symm
  have gh39 := Nat.le_trans K0.1 gl
  have V2 : Arv Z h1 d ckd .byte (0 : Int32) [] (.int 0) := V1
  refine KW.any (P' := ([], fun _ => False)) ?_
  show KW false l Z M_enc n0 (fun v h => ∃ d ckd, v = some (.ref d) ∧ h0.size ≤ d ∧ n0 ≤ d ∧ Keep h0 h [] ∧ Exa Z h d "[B" ∧ Arv Z h d ckd .byte (0 : Int32) [] (.int 0)) ([], fun _ => False) h1 1 0 11 #[.val (.ref en), .val (.ref sr), .val (.int (0 : Int32)), .unset, .unset] [(.ref d)]
  refine k_astoreN (Ls' := #[.val (.ref en), .val (.ref sr), .val (.int (0 : Int32)), .val (.ref d), .unset]) d_enc_11 rfl rfl rfl ?_
  refine k_aloadN d_enc_12 rfl rfl rfl ?_
  refine k_aloadN d_enc_13 rfl rfl rfl ?_
  refine k_iconst (z := (0 : Int32)) d_enc_14 rfl (by decide) ?_
  refine k_aloadN d_enc_15 rfl rfl rfl ?_
  have f40 := (SR.ext E1)
  refine k_arrlen d_enc_16 rfl f40 ?_
  refine k_aloadN d_enc_17 rfl rfl rfl ?_
  have f41 := (OD.ext E1)
  have f42 := (EF.1.ext E1)
  have f43 := (EF.2.1.ext E1)
  have f44 := (EF.2.2.1.ext E1)
  have f45 := (EF.2.2.2.ext E1)
  have f46 := (K0.ext E1)
  refine k_callVirtual (argsL := [(.ref sr), (.int (0 : Int32)), (.int (0 : Int32)), (.ref d)]) (rest := []) (W0 := 0) d_enc_18 rfl (mt_en0_0 l Z a0 hw cs hcs SC hEW en ENC tb ckt STB TB sr d cks ckd  h1 n0 f41 f40 V2 gd ne37) Kp.strict f42 (hw _ (List.mem_of_getElem? (i := 130) rfl)) (own_decl (hw _ (List.mem_of_getElem? (i := 131) rfl)) (hw _ (List.mem_of_getElem? (i := 134) rfl))) (hw _ (List.mem_of_getElem? (i := 133) rfl)) (hw _ (List.mem_of_getElem? (i := 107) rfl)) rfl (hw _ (List.mem_of_getElem? (i := 131) rfl)) (hw _ (List.mem_of_getElem? (i := 134) rfl)) (hw _ (List.mem_of_getElem? (i := 28) rfl)) (by decide) pd_en0 rfl rfl rfl rfl (by decide) (by decide) (by decide) (by decide) ?_
  rintro _ hM - ⟨rfl, KM, DM⟩
  refine KW.any (P' := ([], fun _ => False)) ?_
  show KW false l Z M_enc n0 (fun v h => ∃ d ckd, v = some (.ref d) ∧ h0.size ≤ d ∧ n0 ≤ d ∧ Keep h0 h [] ∧ Exa Z h d "[B" ∧ Arv Z h d ckd .byte (0 : Int32) [] (.int 0)) ([], fun _ => False) hM 1 0 21 #[.val (.ref en), .val (.ref sr), .val (.int (0 : Int32)), .val (.ref d), .unset] [(.int (0 : Int32))]
  refine k_istore (Ls' := #[.val (.ref en), .val (.ref sr), .val (.int (0 : Int32)), .val (.ref d), .val (.int (0 : Int32))]) d_enc_21 rfl rfl ?_
  refine k_iload d_enc_23 rfl rfl ?_
  refine k_aloadN d_enc_25 rfl rfl rfl ?_
  refine k_arrlen d_enc_26 rfl DM ?_
  refine k_icmp (pc1 := 37) (pc' := 30) d_enc_27 (by decide) (by decide) rfl (fun (cd4 : (0 : Int32) = (0 : Int32)) => ?_) (fun (cd4 : ¬ (0 : Int32) = (0 : Int32)) => False.elim (by exact absurd cd4 (by decide)))
  refine k_aloadN d_enc_37 rfl rfl rfl ?_
  have f47 := (f46.trans KM (allS (Or.inr gh39) all0))
  have f48 := (X1.keep KM)
  exact k_retRef d_enc_38 rfl rfl rfl (by decide) (by decide) ⟨d, ckd, rfl, gh39, gd, f47, f48, DM⟩
theorem mt_enc_0 (l : Launch) (Z : State) (a0 : Array Value) (hw : ∀ d ∈ tables_1, d.before a0 Z = true) (cs : Int32) (hcs : ¬ cs = 0) (SC : Sta Z Z.heap "java/lang/String" "COMPACT_STRINGS" "Z" (.int cs)) (hEW : EW Z a0 EL) (en : Addr) (ENC : Enc Z Z.heap en) (tb : Addr) (ckt : ClassId) (STB : Sta Z Z.heap "java/util/Base64$Encoder" "toBase64" "[C" (.ref tb)) (TB : Arv Z Z.heap tb ckt .char (64 : Int32) (T64.map Value.int) (.int 0)) (sr : Addr) (cks : ClassId) (h0 : Heap) (n0 : Nat) (OD : Old Z n0 h0) (SR : Arv Z h0 sr cks .byte (0 : Int32) [] (.int 0)) : Mt l Z M_enc [] n0 #[(.ref en), (.ref sr)] h0 (fun v h => ∃ d ckd, v = some (.ref d) ∧ h0.size ≤ d ∧ n0 ≤ d ∧ Keep h0 h [] ∧ Exa Z h d "[B" ∧ Arv Z h d ckd .byte (0 : Int32) [] (.int 0)) :=
  mt_of_kw (P := ([], fun _ => False)) pf_enc (fun m => by first | (simp [entryFrame, mkF, argsToLocals, Value.category]; done) | rfl) (kw_enc_0 l Z a0 hw cs hcs SC hEW en ENC tb ckt STB TB sr cks  h0 n0 OD SR)
abbrev M_cfi : MD := ((⟨"jdk/internal/util/Preconditions", "checkFromIndexSize", "(IIILjava/util/function/BiFunction;)I"⟩ : MethodName), jdk_41_method_13_code, 4, (some .int), { frames := 0, cells := 0, slots := 0, locals := 0 })
theorem d_cfi_0 : decode jdk_41_method_13_code 0 = .ok (.iload_n 2, 1) := by decide +kernel
theorem d_cfi_1 : decode jdk_41_method_13_code 1 = .ok (.iload_n 0, 1) := by decide +kernel
theorem d_cfi_2 : decode jdk_41_method_13_code 2 = .ok (.ior, 1) := by decide +kernel
theorem d_cfi_3 : decode jdk_41_method_13_code 3 = .ok (.iload_n 1, 1) := by decide +kernel
theorem d_cfi_4 : decode jdk_41_method_13_code 4 = .ok (.ior, 1) := by decide +kernel
theorem d_cfi_5 : decode jdk_41_method_13_code 5 = .ok (.ifCond .lt 10, 3) := by decide +kernel
theorem d_cfi_8 : decode jdk_41_method_13_code 8 = .ok (.iload_n 1, 1) := by decide +kernel
theorem d_cfi_9 : decode jdk_41_method_13_code 9 = .ok (.iload_n 2, 1) := by decide +kernel
theorem d_cfi_10 : decode jdk_41_method_13_code 10 = .ok (.iload_n 0, 1) := by decide +kernel
theorem d_cfi_11 : decode jdk_41_method_13_code 11 = .ok (.isub, 1) := by decide +kernel
theorem d_cfi_12 : decode jdk_41_method_13_code 12 = .ok (.if_icmp .le 11, 3) := by decide +kernel
theorem d_cfi_15 : decode jdk_41_method_13_code 15 = .ok (.aload_n 3, 1) := by decide +kernel
theorem d_cfi_16 : decode jdk_41_method_13_code 16 = .ok (.iload_n 0, 1) := by decide +kernel
theorem d_cfi_17 : decode jdk_41_method_13_code 17 = .ok (.iload_n 1, 1) := by decide +kernel
theorem d_cfi_18 : decode jdk_41_method_13_code 18 = .ok (.iload_n 2, 1) := by decide +kernel
theorem d_cfi_19 : decode jdk_41_method_13_code 19 = .ok (.invokestatic 103, 3) := by decide +kernel
theorem d_cfi_22 : decode jdk_41_method_13_code 22 = .ok (.athrow, 1) := by decide +kernel
theorem d_cfi_23 : decode jdk_41_method_13_code 23 = .ok (.iload_n 0, 1) := by decide +kernel
theorem d_cfi_24 : decode jdk_41_method_13_code 24 = .ok (.ireturn, 1) := by decide +kernel
theorem pd_cfi : parseMethodDescriptor "(IIILjava/util/function/BiFunction;)I" = some ⟨[.int, .int, .int, (.object "java/util/function/BiFunction")], (some .int)⟩ := by decide +kernel
theorem pf_cfi : plainFor (⟨"jdk/internal/util/Preconditions", "checkFromIndexSize", "(IIILjava/util/function/BiFunction;)I"⟩ : MethodName) = true := by first | exact plainFor_of_name (by first | (simp [plainName, overriddenIn]; done) | decide +kernel) | decide +kernel
set_option maxRecDepth 65536 in
set_option maxHeartbeats 40000000 in
theorem kw_cfi (l : Launch) (Z : State) (a0 : Array Value) (hw : ∀ d ∈ tables_1, d.before a0 Z = true) (cs : Int32) (hcs : ¬ cs = 0) (SC : Sta Z Z.heap "java/lang/String" "COMPACT_STRINGS" "Z" (.int cs)) (hEW : EW Z a0 EL) (n : Nat) (w : Value) (hwr : w.isRef = true) (h0 : Heap) (n0 : Nat) (hn : n < 2147483648) : KW false l Z M_cfi n0 (fun v h => v = some (.int 0) ∧ h0 = h) ([], fun _ => False) h0 0 0 0 #[.val (.int (0 : Int32)), .val (.int (Int32.ofNat n)), .val (.int (Int32.ofNat n)), .val w] [] := by
  refine k_iloadN d_cfi_0 rfl rfl ?_
  refine k_iloadN d_cfi_1 rfl rfl ?_
  refine k_ior d_cfi_2 rfl ?_
  refine k_iloadN d_cfi_3 rfl rfl ?_
  refine k_ior d_cfi_4 rfl ?_
  refine k_ifc (pc1 := 15) (pc' := 8) d_cfi_5 (by decide) (by decide) rfl (fun (cd1 : (((Int32.ofNat n) ||| (0 : Int32)) ||| (Int32.ofNat n)) < (0 : Int32)) => False.elim (by exact own_or3 hn cd1)) (fun (cd1 : ¬ (((Int32.ofNat n) ||| (0 : Int32)) ||| (Int32.ofNat n)) < (0 : Int32)) => ?_)
  refine k_iloadN d_cfi_8 rfl rfl ?_
  refine k_iloadN d_cfi_9 rfl rfl ?_
  refine k_iloadN d_cfi_10 rfl rfl ?_
  refine k_isub d_cfi_11 rfl ?_
  refine k_icmp (pc1 := 23) (pc' := 15) d_cfi_12 (by decide) (by decide) rfl (fun (cd2 : ¬ ((Int32.ofNat n) - (0 : Int32)) < (Int32.ofNat n)) => ?_) (fun (cd2 : ((Int32.ofNat n) - (0 : Int32)) < (Int32.ofNat n)) => False.elim (by rw [sub0] at cd2; exact ix_irr cd2))
  refine k_iloadN d_cfi_23 rfl rfl ?_
  exact k_retInt d_cfi_24 rfl (by decide) (by decide) ⟨rfl, rfl⟩
theorem mt_cfi (l : Launch) (Z : State) (a0 : Array Value) (hw : ∀ d ∈ tables_1, d.before a0 Z = true) (cs : Int32) (hcs : ¬ cs = 0) (SC : Sta Z Z.heap "java/lang/String" "COMPACT_STRINGS" "Z" (.int cs)) (hEW : EW Z a0 EL) (n : Nat) (w : Value) (hwr : w.isRef = true) (h0 : Heap) (n0 : Nat) (hn : n < 2147483648) : Mt l Z M_cfi [] n0 #[(.int (0 : Int32)), (.int (Int32.ofNat n)), (.int (Int32.ofNat n)), w] h0 (fun v h => v = some (.int 0) ∧ h0 = h) :=
  mt_of_kw (P := ([], fun _ => False)) pf_cfi (fun m => by rcases ref_cases hwr with rfl | ⟨_, rfl⟩ <;> first | (simp [entryFrame, mkF, argsToLocals, Value.category]; done) | rfl) (kw_cfi l Z a0 hw cs hcs SC hEW n w hwr h0 n0 hn)
abbrev M_cbo : MD := ((⟨"java/lang/String", "checkBoundsOffCount", "(III)I"⟩ : MethodName), jdk_42_method_157_code, 3, (some .int), { frames := 1, cells := 0, slots := 0, locals := 16 })
theorem d_cbo_0 : decode jdk_42_method_157_code 0 = .ok (.iload_n 0, 1) := by decide +kernel
theorem d_cbo_1 : decode jdk_42_method_157_code 1 = .ok (.iload_n 1, 1) := by decide +kernel
theorem d_cbo_2 : decode jdk_42_method_157_code 2 = .ok (.iload_n 2, 1) := by decide +kernel
theorem d_cbo_3 : decode jdk_42_method_157_code 3 = .ok (.getstatic 1053, 3) := by decide +kernel
theorem d_cbo_6 : decode jdk_42_method_157_code 6 = .ok (.invokestatic 1065, 3) := by decide +kernel
theorem d_cbo_9 : decode jdk_42_method_157_code 9 = .ok (.ireturn, 1) := by decide +kernel
theorem pd_cbo : parseMethodDescriptor "(III)I" = some ⟨[.int, .int, .int], (some .int)⟩ := by decide +kernel
theorem pf_cbo : plainFor (⟨"java/lang/String", "checkBoundsOffCount", "(III)I"⟩ : MethodName) = true := by first | exact plainFor_of_name (by first | (simp [plainName, overriddenIn]; done) | decide +kernel) | decide +kernel
set_option maxRecDepth 65536 in
set_option maxHeartbeats 40000000 in
theorem kw_cbo (l : Launch) (Z : State) (a0 : Array Value) (hw : ∀ d ∈ tables_1, d.before a0 Z = true) (cs : Int32) (hcs : ¬ cs = 0) (SC : Sta Z Z.heap "java/lang/String" "COMPACT_STRINGS" "Z" (.int cs)) (hEW : EW Z a0 EL) (sio : Value) (SIO : Sta Z Z.heap "jdk/internal/util/Preconditions" "SIOOBE_FORMATTER" "Ljava/util/function/BiFunction;" sio) (hsio : sio.isRef = true) (n : Nat) (h0 : Heap) (n0 : Nat) (OD : Old Z n0 h0) (hn : n < 2147483648) : KW false l Z M_cbo n0 (fun v h => v = some (.int 0) ∧ h0 = h) ([], fun _ => False) h0 0 0 0 #[.val (.int (0 : Int32)), .val (.int (Int32.ofNat n)), .val (.int (Int32.ofNat n))] [] := by
  refine k_iloadN d_cbo_0 rfl rfl ?_
  refine k_iloadN d_cbo_1 rfl rfl ?_
  refine k_iloadN d_cbo_2 rfl rfl ?_
  refine k_getStatic d_cbo_3 rfl (hw _ (List.mem_of_getElem? (i := 155) rfl)) (Sta.ext OD.2 SIO) ?_
  refine k_callStatic (argsL := [(.int (0 : Int32)), (.int (Int32.ofNat n)), (.int (Int32.ofNat n)), sio]) (rest := []) (W0 := 0) d_cbo_6 rfl (mt_cfi l Z a0 hw cs hcs SC hEW n sio hsio h0 n0 hn) Kp.strict (hw _ (List.mem_of_getElem? (i := 157) rfl)) (hw _ (List.mem_of_getElem? (i := 158) rfl)) (hw _ (List.mem_of_getElem? (i := 156) rfl)) (hw _ (List.mem_of_getElem? (i := 159) rfl)) (by decide) pd_cfi rfl rfl rfl rfl (by decide) (by decide) (by decide) (by decide) ?_
  rintro _ _ - ⟨rfl, rfl⟩
  refine KW.any (P' := ([], fun _ => False)) ?_
  show KW false l Z M_cbo n0 (fun v h => v = some (.int 0) ∧ h0 = h) ([], fun _ => False) h0 0 0 9 #[.val (.int (0 : Int32)), .val (.int (Int32.ofNat n)), .val (.int (Int32.ofNat n))] [(.int (0 : Int32))]
  exact k_retInt d_cbo_9 rfl (by decide) (by decide) ⟨rfl, rfl⟩
theorem mt_cbo (l : Launch) (Z : State) (a0 : Array Value) (hw : ∀ d ∈ tables_1, d.before a0 Z = true) (cs : Int32) (hcs : ¬ cs = 0) (SC : Sta Z Z.heap "java/lang/String" "COMPACT_STRINGS" "Z" (.int cs)) (hEW : EW Z a0 EL) (sio : Value) (SIO : Sta Z Z.heap "jdk/internal/util/Preconditions" "SIOOBE_FORMATTER" "Ljava/util/function/BiFunction;" sio) (hsio : sio.isRef = true) (n : Nat) (h0 : Heap) (n0 : Nat) (OD : Old Z n0 h0) (hn : n < 2147483648) : Mt l Z M_cbo [] n0 #[(.int (0 : Int32)), (.int (Int32.ofNat n)), (.int (Int32.ofNat n))] h0 (fun v h => v = some (.int 0) ∧ h0 = h) :=
  mt_of_kw (P := ([], fun _ => False)) pf_cbo (fun m => by first | (simp [entryFrame, mkF, argsToLocals, Value.category]; done) | rfl) (kw_cbo l Z a0 hw cs hcs SC hEW sio SIO hsio n h0 n0 OD hn)
abbrev M_cop : MD := ((⟨"java/util/Arrays", "copyOfRange", "([BII)[B"⟩ : MethodName), jdk_65_method_132_code, 3, (some (.array .byte)), { frames := 1, cells := 1, slots := 4, locals := 16 })
theorem d_cop_0 : decode jdk_65_method_132_code 0 = .ok (.iload_n 1, 1) := by decide +kernel
theorem d_cop_1 : decode jdk_65_method_132_code 1 = .ok (.ifCond .ne 9, 3) := by decide +kernel
theorem d_cop_4 : decode jdk_65_method_132_code 4 = .ok (.iload_n 2, 1) := by decide +kernel
theorem d_cop_5 : decode jdk_65_method_132_code 5 = .ok (.aload_n 0, 1) := by decide +kernel
theorem d_cop_6 : decode jdk_65_method_132_code 6 = .ok (.arraylength, 1) := by decide +kernel
theorem d_cop_7 : decode jdk_65_method_132_code 7 = .ok (.if_icmp .eq 10, 3) := by decide +kernel
theorem d_cop_10 : decode jdk_65_method_132_code 10 = .ok (.aload_n 0, 1) := by decide +kernel
theorem d_cop_11 : decode jdk_65_method_132_code 11 = .ok (.iload_n 1, 1) := by decide +kernel
theorem d_cop_12 : decode jdk_65_method_132_code 12 = .ok (.iload_n 2, 1) := by decide +kernel
theorem d_cop_13 : decode jdk_65_method_132_code 13 = .ok (.invokestatic 339, 3) := by decide +kernel
theorem d_cop_16 : decode jdk_65_method_132_code 16 = .ok (.areturn, 1) := by decide +kernel
theorem d_cop_17 : decode jdk_65_method_132_code 17 = .ok (.aload_n 0, 1) := by decide +kernel
theorem d_cop_18 : decode jdk_65_method_132_code 18 = .ok (.invokevirtual 310, 3) := by decide +kernel
theorem d_cop_21 : decode jdk_65_method_132_code 21 = .ok (.checkcast 311, 3) := by decide +kernel
theorem d_cop_24 : decode jdk_65_method_132_code 24 = .ok (.areturn, 1) := by decide +kernel
theorem pd_cop : parseMethodDescriptor "([BII)[B" = some ⟨[(.array .byte), .int, .int], (some (.array .byte))⟩ := by decide +kernel
theorem pf_cop : plainFor (⟨"java/util/Arrays", "copyOfRange", "([BII)[B"⟩ : MethodName) = true := by first | exact plainFor_of_name (by first | (simp [plainName, overriddenIn]; done) | decide +kernel) | decide +kernel
set_option maxRecDepth 65536 in
set_option maxHeartbeats 40000000 in
theorem kw_cop (l : Launch) (Z : State) (a0 : Array Value) (hw : ∀ d ∈ tables_1, d.before a0 Z = true) (cs : Int32) (hcs : ¬ cs = 0) (SC : Sta Z Z.heap "java/lang/String" "COMPACT_STRINGS" "Z" (.int cs)) (hEW : EW Z a0 EL) (d : Addr) (ck : ClassId) (L : List Int32) (h0 : Heap) (n0 : Nat) (OD : Old Z n0 h0) (D : Arv Z h0 d ck .byte (Int32.ofNat L.length) (L.map Value.int) (.int 0)) (ED : Exa Z h0 d "[B") (hL : L.length ≤ 4) : KW false l Z M_cop n0 (fun v h => ∃ e, v = some (.ref e) ∧ h0.size ≤ e ∧ n0 ≤ e ∧ Keep h0 h [] ∧ Arv Z h e ck .byte (Int32.ofNat L.length) (L.map Value.int) (.int 0)) ([], fun _ => False) h0 0 0 0 #[.val (.ref d), .val (.int (0 : Int32)), .val (.int (Int32.ofNat L.length))] [] := by
  have Z0 := OD.1 ▸ OD.2.1
  have K0 : Keep h0 h0 [] := Keep.refl _ _
  refine k_iloadN d_cop_0 rfl rfl ?_
  refine k_ifc (pc1 := 10) (pc' := 4) d_cop_1 (by decide) (by decide) rfl (fun (cd1 : ¬ (0 : Int32) = (0 : Int32)) => False.elim (by exact absurd cd1 (by decide))) (fun (cd1 : (0 : Int32) = (0 : Int32)) => ?_)
  refine k_iloadN d_cop_4 rfl rfl ?_
  refine k_aloadN d_cop_5 rfl rfl rfl ?_
  refine k_arrlen d_cop_6 rfl D ?_
  refine k_icmp (pc1 := 17) (pc' := 10) d_cop_7 (by decide) (by decide) rfl (fun (cd2 : (Int32.ofNat L.length) = (Int32.ofNat L.length)) => ?_) (fun (cd2 : ¬ (Int32.ofNat L.length) = (Int32.ofNat L.length)) => False.elim (by exact cd2 rfl))
  refine k_aloadN d_cop_17 rfl rfl rfl ?_
  refine k_clone (cap := 4) (W0 := 0) d_cop_18 rfl (hw _ (List.mem_of_getElem? (i := 164) rfl)) (hw _ (List.mem_of_getElem? (i := 165) rfl)) (hw _ (List.mem_of_getElem? (i := 169) rfl)) (hw _ (List.mem_of_getElem? (i := 167) rfl)) (hw _ (List.mem_of_getElem? (i := 168) rfl)) (hw _ (List.mem_of_getElem? (i := 170) rfl)) D ED rfl rfl (by decide) (by decide) (by rw [ix_nat (by omega)]; exact hL) (by decide) (by decide) ?_
  intro h1 e g1 E1 V1 X1
  have z1 : n0 ≤ h0.size := Z0
  have ge : n0 ≤ e := Nat.le_trans z1 (Nat.le_of_eq g1.symm)
  have gl : h0.size ≤ e := Nat.le_of_eq g1.symm
  have gh2 := Nat.le_trans K0.1 gl
  refine KW.any (P' := ([], fun _ => False)) ?_
  show KW false l Z M_cop n0 (fun v h => ∃ e, v = some (.ref e) ∧ h0.size ≤ e ∧ n0 ≤ e ∧ Keep h0 h [] ∧ Arv Z h e ck .byte (Int32.ofNat L.length) (L.map Value.int) (.int 0)) ([], fun _ => False) h1 1 4 21 #[.val (.ref d), .val (.int (0 : Int32)), .val (.int (Int32.ofNat L.length))] [(.ref e)]
  refine k_cast d_cop_21 rfl (hw _ (List.mem_of_getElem? (i := 171) rfl)) (Ins.self X1) ?_
  have f3 := (K0.ext E1)
  exact k_retRef d_cop_24 rfl rfl rfl (by decide) (by decide) ⟨e, rfl, gh2, ge, f3, V1⟩
theorem mt_cop (l : Launch) (Z : State) (a0 : Array Value) (hw : ∀ d ∈ tables_1, d.before a0 Z = true) (cs : Int32) (hcs : ¬ cs = 0) (SC : Sta Z Z.heap "java/lang/String" "COMPACT_STRINGS" "Z" (.int cs)) (hEW : EW Z a0 EL) (d : Addr) (ck : ClassId) (L : List Int32) (h0 : Heap) (n0 : Nat) (OD : Old Z n0 h0) (D : Arv Z h0 d ck .byte (Int32.ofNat L.length) (L.map Value.int) (.int 0)) (ED : Exa Z h0 d "[B") (hL : L.length ≤ 4) : Mt l Z M_cop [] n0 #[(.ref d), (.int (0 : Int32)), (.int (Int32.ofNat L.length))] h0 (fun v h => ∃ e, v = some (.ref e) ∧ h0.size ≤ e ∧ n0 ≤ e ∧ Keep h0 h [] ∧ Arv Z h e ck .byte (Int32.ofNat L.length) (L.map Value.int) (.int 0)) :=
  mt_of_kw (P := ([], fun _ => False)) pf_cop (fun m => by first | (simp [entryFrame, mkF, argsToLocals, Value.category]; done) | rfl) (kw_cop l Z a0 hw cs hcs SC hEW d ck L h0 n0 OD D ED hL)
abbrev M_sbq : MD := ((⟨"java/lang/String", "<init>", "([BIII)V"⟩ : MethodName), jdk_42_method_7_code, 7, none, { frames := 2, cells := 1, slots := 4, locals := 44 })
theorem d_sbq_0 : decode jdk_42_method_7_code 0 = .ok (.aload_n 0, 1) := by decide +kernel
theorem d_sbq_1 : decode jdk_42_method_7_code 1 = .ok (.invokespecial 1, 3) := by decide +kernel
theorem d_sbq_4 : decode jdk_42_method_7_code 4 = .ok (.iload_n 3, 1) := by decide +kernel
theorem d_sbq_5 : decode jdk_42_method_7_code 5 = .ok (.iload 4, 2) := by decide +kernel
theorem d_sbq_7 : decode jdk_42_method_7_code 7 = .ok (.aload_n 1, 1) := by decide +kernel
theorem d_sbq_8 : decode jdk_42_method_7_code 8 = .ok (.arraylength, 1) := by decide +kernel
theorem d_sbq_9 : decode jdk_42_method_7_code 9 = .ok (.invokestatic 34, 3) := by decide +kernel
theorem d_sbq_12 : decode jdk_42_method_7_code 12 = .ok (.pop, 1) := by decide +kernel
theorem d_sbq_13 : decode jdk_42_method_7_code 13 = .ok (.iload 4, 2) := by decide +kernel
theorem d_sbq_15 : decode jdk_42_method_7_code 15 = .ok (.ifCond .ne 22, 3) := by decide +kernel
theorem d_sbq_18 : decode jdk_42_method_7_code 18 = .ok (.aload_n 0, 1) := by decide +kernel
theorem d_sbq_19 : decode jdk_42_method_7_code 19 = .ok (.ldc 7, 2) := by decide +kernel
theorem d_sbq_21 : decode jdk_42_method_7_code 21 = .ok (.getfield 9, 3) := by decide +kernel
theorem d_sbq_24 : decode jdk_42_method_7_code 24 = .ok (.putfield 9, 3) := by decide +kernel
theorem d_sbq_27 : decode jdk_42_method_7_code 27 = .ok (.aload_n 0, 1) := by decide +kernel
theorem d_sbq_28 : decode jdk_42_method_7_code 28 = .ok (.ldc 7, 2) := by decide +kernel
theorem d_sbq_30 : decode jdk_42_method_7_code 30 = .ok (.getfield 15, 3) := by decide +kernel
theorem d_sbq_33 : decode jdk_42_method_7_code 33 = .ok (.putfield 15, 3) := by decide +kernel
theorem d_sbq_36 : decode jdk_42_method_7_code 36 = .ok (.return_, 1) := by decide +kernel
theorem d_sbq_37 : decode jdk_42_method_7_code 37 = .ok (.getstatic 38, 3) := by decide +kernel
theorem d_sbq_40 : decode jdk_42_method_7_code 40 = .ok (.ifCond .eq 29, 3) := by decide +kernel
theorem d_sbq_43 : decode jdk_42_method_7_code 43 = .ok (.iload_n 2, 1) := by decide +kernel
theorem d_sbq_44 : decode jdk_42_method_7_code 44 = .ok (.i2b, 1) := by decide +kernel
theorem d_sbq_45 : decode jdk_42_method_7_code 45 = .ok (.ifCond .ne 24, 3) := by decide +kernel
theorem d_sbq_48 : decode jdk_42_method_7_code 48 = .ok (.aload_n 0, 1) := by decide +kernel
theorem d_sbq_49 : decode jdk_42_method_7_code 49 = .ok (.aload_n 1, 1) := by decide +kernel
theorem d_sbq_50 : decode jdk_42_method_7_code 50 = .ok (.iload_n 3, 1) := by decide +kernel
theorem d_sbq_51 : decode jdk_42_method_7_code 51 = .ok (.iload_n 3, 1) := by decide +kernel
theorem d_sbq_52 : decode jdk_42_method_7_code 52 = .ok (.iload 4, 2) := by decide +kernel
theorem d_sbq_54 : decode jdk_42_method_7_code 54 = .ok (.iadd, 1) := by decide +kernel
theorem d_sbq_55 : decode jdk_42_method_7_code 55 = .ok (.invokestatic 54, 3) := by decide +kernel
theorem d_sbq_58 : decode jdk_42_method_7_code 58 = .ok (.putfield 9, 3) := by decide +kernel
theorem d_sbq_61 : decode jdk_42_method_7_code 61 = .ok (.aload_n 0, 1) := by decide +kernel
theorem d_sbq_62 : decode jdk_42_method_7_code 62 = .ok (.iconst 0, 1) := by decide +kernel
theorem d_sbq_63 : decode jdk_42_method_7_code 63 = .ok (.putfield 15, 3) := by decide +kernel
theorem d_sbq_66 : decode jdk_42_method_7_code 66 = .ok (.goto 61, 3) := by decide +kernel
theorem d_sbq_69 : decode jdk_42_method_7_code 69 = .ok (.iload_n 2, 1) := by decide +kernel
theorem d_sbq_70 : decode jdk_42_method_7_code 70 = .ok (.bipush 8, 2) := by decide +kernel
theorem d_sbq_72 : decode jdk_42_method_7_code 72 = .ok (.ishl, 1) := by decide +kernel
theorem d_sbq_73 : decode jdk_42_method_7_code 73 = .ok (.istore_n 2, 1) := by decide +kernel
theorem d_sbq_74 : decode jdk_42_method_7_code 74 = .ok (.iload 4, 2) := by decide +kernel
theorem d_sbq_76 : decode jdk_42_method_7_code 76 = .ok (.invokestatic 60, 3) := by decide +kernel
theorem d_sbq_79 : decode jdk_42_method_7_code 79 = .ok (.astore 5, 2) := by decide +kernel
theorem d_sbq_81 : decode jdk_42_method_7_code 81 = .ok (.iconst 0, 1) := by decide +kernel
theorem d_sbq_82 : decode jdk_42_method_7_code 82 = .ok (.istore 6, 2) := by decide +kernel
theorem d_sbq_84 : decode jdk_42_method_7_code 84 = .ok (.iload 6, 2) := by decide +kernel
theorem d_sbq_86 : decode jdk_42_method_7_code 86 = .ok (.iload 4, 2) := by decide +kernel
theorem d_sbq_88 : decode jdk_42_method_7_code 88 = .ok (.if_icmp .ge 28, 3) := by decide +kernel
theorem d_sbq_91 : decode jdk_42_method_7_code 91 = .ok (.aload 5, 2) := by decide +kernel
theorem d_sbq_93 : decode jdk_42_method_7_code 93 = .ok (.iload 6, 2) := by decide +kernel
theorem d_sbq_95 : decode jdk_42_method_7_code 95 = .ok (.iload_n 2, 1) := by decide +kernel
theorem d_sbq_96 : decode jdk_42_method_7_code 96 = .ok (.aload_n 1, 1) := by decide +kernel
theorem d_sbq_97 : decode jdk_42_method_7_code 97 = .ok (.iload_n 3, 1) := by decide +kernel
theorem d_sbq_98 : decode jdk_42_method_7_code 98 = .ok (.iinc 3 1, 3) := by decide +kernel
theorem d_sbq_101 : decode jdk_42_method_7_code 101 = .ok (.baload, 1) := by decide +kernel
theorem d_sbq_102 : decode jdk_42_method_7_code 102 = .ok (.sipush 255, 3) := by decide +kernel
theorem d_sbq_105 : decode jdk_42_method_7_code 105 = .ok (.iand, 1) := by decide +kernel
theorem d_sbq_106 : decode jdk_42_method_7_code 106 = .ok (.ior, 1) := by decide +kernel
theorem d_sbq_107 : decode jdk_42_method_7_code 107 = .ok (.invokestatic 64, 3) := by decide +kernel
theorem d_sbq_110 : decode jdk_42_method_7_code 110 = .ok (.iinc 6 1, 3) := by decide +kernel
theorem d_sbq_113 : decode jdk_42_method_7_code 113 = .ok (.goto (-29), 3) := by decide +kernel
theorem d_sbq_116 : decode jdk_42_method_7_code 116 = .ok (.aload_n 0, 1) := by decide +kernel
theorem d_sbq_117 : decode jdk_42_method_7_code 117 = .ok (.aload 5, 2) := by decide +kernel
theorem d_sbq_119 : decode jdk_42_method_7_code 119 = .ok (.putfield 9, 3) := by decide +kernel
theorem d_sbq_122 : decode jdk_42_method_7_code 122 = .ok (.aload_n 0, 1) := by decide +kernel
theorem d_sbq_123 : decode jdk_42_method_7_code 123 = .ok (.iconst 1, 1) := by decide +kernel
theorem d_sbq_124 : decode jdk_42_method_7_code 124 = .ok (.putfield 15, 3) := by decide +kernel
theorem d_sbq_127 : decode jdk_42_method_7_code 127 = .ok (.return_, 1) := by decide +kernel
theorem pd_sbq : parseMethodDescriptor "([BIII)V" = some ⟨[(.array .byte), .int, .int, .int], none⟩ := by decide +kernel
theorem pf_sbq : plainFor (⟨"java/lang/String", "<init>", "([BIII)V"⟩ : MethodName) = true := by first | exact plainFor_of_name (by first | (simp [plainName, overriddenIn]; done) | decide +kernel) | decide +kernel
set_option maxRecDepth 65536 in
set_option maxHeartbeats 40000000 in
theorem kw_sbq (l : Launch) (Z : State) (a0 : Array Value) (hw : ∀ d ∈ tables_1, d.before a0 Z = true) (cs : Int32) (hcs : ¬ cs = 0) (SC : Sta Z Z.heap "java/lang/String" "COMPACT_STRINGS" "Z" (.int cs)) (hEW : EW Z a0 EL) (sio : Value) (SIO : Sta Z Z.heap "jdk/internal/util/Preconditions" "SIOOBE_FORMATTER" "Ljava/util/function/BiFunction;" sio) (hsio : sio.isRef = true) (a d : Addr) (ck : ClassId) (L : List Int32) (h0 : Heap) (n0 : Nat) (OD : Old Z n0 h0) (EA : Exa Z h0 a "java/lang/String") (FC : Fld Z h0 a "java/lang/String" "coder" "B" (.int 0)) (FV : Fld Z h0 a "java/lang/String" "value" "[B" .null) (ga : n0 ≤ a) (D : Arv Z h0 d ck .byte (Int32.ofNat L.length) (L.map Value.int) (.int 0)) (ED : Exa Z h0 d "[B") (hL : L.length ≤ 4) (hL0 : L.length ≠ 0) : KW false l Z M_sbq n0 (fun v h => v = none ∧ Keep h0 h [a] ∧ ∃ t, Sg Z h a t L) ([], fun _ => False) h0 0 0 0 #[.val (.ref a), .val (.ref d), .val (.int (0 : Int32)), .val (.int (0 : Int32)), .val (.int (Int32.ofNat L.length)), .unset, .unset] [] := by
  have Z0 := OD.1 ▸ OD.2.1
  have K0 : Keep h0 h0 [a] := Keep.refl _ _
  have had : a ≠ d := Exa.neArv EA D (hw _ (List.mem_of_getElem? (i := 49) rfl))
  refine k_aloadN d_sbq_0 rfl rfl rfl ?_
  refine k_initObj (W0 := 0) d_sbq_1 rfl (hw _ (List.mem_of_getElem? (i := 151) rfl)) (hw _ (List.mem_of_getElem? (i := 8) rfl)) (hw _ (List.mem_of_getElem? (i := 9) rfl)) rfl rfl (by decide) (by decide) ?_
  refine k_iloadN d_sbq_4 rfl rfl ?_
  refine k_iload d_sbq_5 rfl rfl ?_
  refine k_aloadN d_sbq_7 rfl rfl rfl ?_
  refine k_arrlen d_sbq_8 rfl D ?_
  refine k_callStatic (argsL := [(.int (0 : Int32)), (.int (Int32.ofNat L.length)), (.int (Int32.ofNat L.length))]) (rest := []) (W0 := 0) d_sbq_9 rfl (mt_cbo l Z a0 hw cs hcs SC hEW sio SIO hsio L.length h0 n0 OD (by omega)) Kp.strict (hw _ (List.mem_of_getElem? (i := 152) rfl)) (hw _ (List.mem_of_getElem? (i := 153) rfl)) (hw _ (List.mem_of_getElem? (i := 43) rfl)) (hw _ (List.mem_of_getElem? (i := 154) rfl)) (by decide) pd_cbo rfl rfl rfl rfl (by decide) (by decide) (by decide) (by decide) ?_
  rintro _ _ - ⟨rfl, rfl⟩
  refine KW.any (P' := ([], fun _ => False)) ?_
  show KW false l Z M_sbq n0 (fun v h => v = none ∧ Keep h0 h [a] ∧ ∃ t, Sg Z h a t L) ([], fun _ => False) h0 0 0 12 #[.val (.ref a), .val (.ref d), .val (.int (0 : Int32)), .val (.int (0 : Int32)), .val (.int (Int32.ofNat L.length)), .unset, .unset] [(.int (0 : Int32))]
  refine k_pop d_sbq_12 rfl rfl ?_
  refine k_iload d_sbq_13 rfl rfl ?_
  refine k_ifc (pc1 := 37) (pc' := 18) d_sbq_15 (by decide) (by decide) rfl (fun (cd1 : ¬ (Int32.ofNat L.length) = (0 : Int32)) => ?_) (fun (cd1 : (Int32.ofNat L.length) = (0 : Int32)) => False.elim (by exact ix_ne (i := L.length) (j := 0) (by omega) (by decide) hL0 cd1))
  refine k_getStatic d_sbq_37 rfl (hw _ (List.mem_of_getElem? (i := 75) rfl)) (Sta.ext OD.2 SC) ?_
  refine k_ifc (pc1 := 69) (pc' := 43) d_sbq_40 (by decide) (by decide) rfl (fun (cd2 : cs = (0 : Int32)) => False.elim (by exact hcs cd2)) (fun (cd2 : ¬ cs = (0 : Int32)) => ?_)
  refine k_iloadN d_sbq_43 rfl rfl ?_
  refine k_i2b d_sbq_44 rfl ?_
  refine KW.top (congrArg Value.int (show (Int8.toInt32 (Int32.toInt8 (0 : Int32))) = (0 : Int32) by decide)) ?_
  show KW false l Z M_sbq n0 (fun v h => v = none ∧ Keep h0 h [a] ∧ ∃ t, Sg Z h a t L) ([], fun _ => False) h0 0 0 45 #[.val (.ref a), .val (.ref d), .val (.int (0 : Int32)), .val (.int (0 : Int32)), .val (.int (Int32.ofNat L.length)), .unset, .unset] [(.int (0 : Int32))]
  refine k_ifc (pc1 := 69) (pc' := 48) d_sbq_45 (by decide) (by decide) rfl (fun (cd3 : ¬ (0 : Int32) = (0 : Int32)) => False.elim (by exact absurd cd3 (by decide))) (fun (cd3 : (0 : Int32) = (0 : Int32)) => ?_)
  refine k_aloadN d_sbq_48 rfl rfl rfl ?_
  refine k_aloadN d_sbq_49 rfl rfl rfl ?_
  refine k_iloadN d_sbq_50 rfl rfl ?_
  refine k_iloadN d_sbq_51 rfl rfl ?_
  refine k_iload d_sbq_52 rfl rfl ?_
  refine k_iadd d_sbq_54 rfl ?_
  refine KW.top (congrArg Value.int (Int32.zero_add _)) ?_
  show KW false l Z M_sbq n0 (fun v h => v = none ∧ Keep h0 h [a] ∧ ∃ t, Sg Z h a t L) ([], fun _ => False) h0 0 0 55 #[.val (.ref a), .val (.ref d), .val (.int (0 : Int32)), .val (.int (0 : Int32)), .val (.int (Int32.ofNat L.length)), .unset, .unset] [(.int (Int32.ofNat L.length)), (.int (0 : Int32)), (.ref d), (.ref a)]
  refine k_callStatic (argsL := [(.ref d), (.int (0 : Int32)), (.int (Int32.ofNat L.length))]) (rest := [(.ref a)]) (W0 := 1) d_sbq_55 rfl (mt_cop l Z a0 hw cs hcs SC hEW d ck L h0 n0 OD D ED hL) Kp.strict (hw _ (List.mem_of_getElem? (i := 160) rfl)) (hw _ (List.mem_of_getElem? (i := 161) rfl)) (hw _ (List.mem_of_getElem? (i := 162) rfl)) (hw _ (List.mem_of_getElem? (i := 163) rfl)) (by decide) pd_cop rfl rfl rfl rfl (by decide) (by decide) (by decide) (by decide) ?_
  rintro _ hM - ⟨e, rfl, ge1, ge2, KM, DM⟩
  have ne1 : a ≠ e := Nat.ne_of_lt (Nat.lt_of_lt_of_le EA.lt ge1)
  have ne2 : d ≠ e := Nat.ne_of_lt (Nat.lt_of_lt_of_le ED.lt ge1)
  refine KW.any (P' := ([], fun _ => False)) ?_
  show KW false l Z M_sbq n0 (fun v h => v = none ∧ Keep h0 h [a] ∧ ∃ t, Sg Z h a t L) ([], fun _ => False) hM 1 4 58 #[.val (.ref a), .val (.ref d), .val (.int (0 : Int32)), .val (.int (0 : Int32)), .val (.int (Int32.ofNat L.length)), .unset, .unset] [(.ref e), (.ref a)]
  have f5 := (FV.keep KM nin0)
  have f6 := (EA.keep KM)
  refine k_put (v' := (.ref e)) (ty := (.array .byte)) d_sbq_58 rfl (hw _ (List.mem_of_getElem? (i := 69) rfl)) Via.refl f5 f6 (Or.inr ⟨(hw _ (List.mem_of_getElem? (i := 50) rfl)), rfl, rfl⟩) (hw _ (List.mem_of_getElem? (i := 49) rfl)) (by decide) rfl rfl ga (fun q => by cases q) ?_
  intro h3 W4
  have F7 := f5.same W4
  show KW false l Z M_sbq n0 (fun v h => v = none ∧ Keep h0 h [a] ∧ ∃ t, Sg Z h a t L) ([], fun _ => False) h3 1 4 61 #[.val (.ref a), .val (.ref d), .val (.int (0 : Int32)), .val (.int (0 : Int32)), .val (.int (Int32.ofNat L.length)), .unset, .unset] []
  refine k_aloadN d_sbq_61 rfl rfl rfl ?_
  refine k_iconst (z := (0 : Int32)) d_sbq_62 rfl (by decide) ?_
  have f10 := ((FC.keep KM nin0).other W4 (Or.inr (slot_ne (t := .byte) (t' := (.array .byte)) (Or.inr (hw _ (List.mem_of_getElem? (i := 51) rfl))) (Or.inr (hw _ (List.mem_of_getElem? (i := 50) rfl))) (by decide) (by decide) (by decide))))
  have f11 := (f6.wr W4)
  refine k_put (v' := (.int (0 : Int32))) (ty := .byte) d_sbq_63 rfl (hw _ (List.mem_of_getElem? (i := 76) rfl)) Via.refl f10 f11 (Or.inr ⟨(hw _ (List.mem_of_getElem? (i := 51) rfl)), rfl, rfl⟩) (hw _ (List.mem_of_getElem? (i := 49) rfl)) (by decide) rfl rfl ga (fun q => by cases q) ?_
  intro h8 W9
  have F12 := f10.same W9
  show KW false l Z M_sbq n0 (fun v h => v = none ∧ Keep h0 h [a] ∧ ∃ t, Sg Z h a t L) ([], fun _ => False) h8 1 4 66 #[.val (.ref a), .val (.ref d), .val (.int (0 : Int32)), .val (.int (0 : Int32)), .val (.int (Int32.ofNat L.length)), .unset, .unset] []
  refine k_goto (pc' := 127) d_sbq_66 (by decide) (by decide) ?_
  have f13 := (((K0.trans KM all0).wr W4 (Or.inl (by simp))).wr W9 (Or.inl (by simp)))
  have f14 := (f11.wr W9)
  have f15 := (F7.other W9 (Or.inr (slot_ne (t := (.array .byte)) (t' := .byte) (Or.inr (hw _ (List.mem_of_getElem? (i := 50) rfl))) (Or.inr (hw _ (List.mem_of_getElem? (i := 51) rfl))) (by decide) (by decide) (by decide))))
  have f16 := ((DM.other W4 (Ne.symm ne1)).other W9 (Ne.symm ne1))
  exact k_retVoid d_sbq_127 rfl (by decide) (by decide) ⟨rfl, f13, e, ⟨ck, f14, F12, f15, f16, by omega⟩⟩
theorem mt_sbq (l : Launch) (Z : State) (a0 : Array Value) (hw : ∀ d ∈ tables_1, d.before a0 Z = true) (cs : Int32) (hcs : ¬ cs = 0) (SC : Sta Z Z.heap "java/lang/String" "COMPACT_STRINGS" "Z" (.int cs)) (hEW : EW Z a0 EL) (sio : Value) (SIO : Sta Z Z.heap "jdk/internal/util/Preconditions" "SIOOBE_FORMATTER" "Ljava/util/function/BiFunction;" sio) (hsio : sio.isRef = true) (a d : Addr) (ck : ClassId) (L : List Int32) (h0 : Heap) (n0 : Nat) (OD : Old Z n0 h0) (EA : Exa Z h0 a "java/lang/String") (FC : Fld Z h0 a "java/lang/String" "coder" "B" (.int 0)) (FV : Fld Z h0 a "java/lang/String" "value" "[B" .null) (ga : n0 ≤ a) (D : Arv Z h0 d ck .byte (Int32.ofNat L.length) (L.map Value.int) (.int 0)) (ED : Exa Z h0 d "[B") (hL : L.length ≤ 4) (hL0 : L.length ≠ 0) : Mt l Z M_sbq [] n0 #[(.ref a), (.ref d), (.int (0 : Int32)), (.int (0 : Int32)), (.int (Int32.ofNat L.length))] h0 (fun v h => v = none ∧ Keep h0 h [a] ∧ ∃ t, Sg Z h a t L) :=
  mt_of_kw (P := ([], fun _ => False)) pf_sbq (fun m => by first | (simp [entryFrame, mkF, argsToLocals, Value.category]; done) | rfl) (kw_sbq l Z a0 hw cs hcs SC hEW sio SIO hsio a d ck L h0 n0 OD EA FC FV ga D ED hL hL0)
abbrev M_sbe : MD := ((⟨"java/lang/String", "<init>", "([BIII)V"⟩ : MethodName), jdk_42_method_7_code, 7, none, { frames := 2, cells := 4, slots := 8, locals := 44 })
theorem d_sbe_0 : decode jdk_42_method_7_code 0 = .ok (.aload_n 0, 1) := by decide +kernel
theorem d_sbe_1 : decode jdk_42_method_7_code 1 = .ok (.invokespecial 1, 3) := by decide +kernel
theorem d_sbe_4 : decode jdk_42_method_7_code 4 = .ok (.iload_n 3, 1) := by decide +kernel
theorem d_sbe_5 : decode jdk_42_method_7_code 5 = .ok (.iload 4, 2) := by decide +kernel
theorem d_sbe_7 : decode jdk_42_method_7_code 7 = .ok (.aload_n 1, 1) := by decide +kernel
theorem d_sbe_8 : decode jdk_42_method_7_code 8 = .ok (.arraylength, 1) := by decide +kernel
theorem d_sbe_9 : decode jdk_42_method_7_code 9 = .ok (.invokestatic 34, 3) := by decide +kernel
theorem d_sbe_12 : decode jdk_42_method_7_code 12 = .ok (.pop, 1) := by decide +kernel
theorem d_sbe_13 : decode jdk_42_method_7_code 13 = .ok (.iload 4, 2) := by decide +kernel
theorem d_sbe_15 : decode jdk_42_method_7_code 15 = .ok (.ifCond .ne 22, 3) := by decide +kernel
theorem d_sbe_18 : decode jdk_42_method_7_code 18 = .ok (.aload_n 0, 1) := by decide +kernel
theorem d_sbe_19 : decode jdk_42_method_7_code 19 = .ok (.ldc 7, 2) := by decide +kernel
theorem d_sbe_21 : decode jdk_42_method_7_code 21 = .ok (.getfield 9, 3) := by decide +kernel
theorem d_sbe_24 : decode jdk_42_method_7_code 24 = .ok (.putfield 9, 3) := by decide +kernel
theorem d_sbe_27 : decode jdk_42_method_7_code 27 = .ok (.aload_n 0, 1) := by decide +kernel
theorem d_sbe_28 : decode jdk_42_method_7_code 28 = .ok (.ldc 7, 2) := by decide +kernel
theorem d_sbe_30 : decode jdk_42_method_7_code 30 = .ok (.getfield 15, 3) := by decide +kernel
theorem d_sbe_33 : decode jdk_42_method_7_code 33 = .ok (.putfield 15, 3) := by decide +kernel
theorem d_sbe_36 : decode jdk_42_method_7_code 36 = .ok (.return_, 1) := by decide +kernel
theorem d_sbe_37 : decode jdk_42_method_7_code 37 = .ok (.getstatic 38, 3) := by decide +kernel
theorem d_sbe_40 : decode jdk_42_method_7_code 40 = .ok (.ifCond .eq 29, 3) := by decide +kernel
theorem d_sbe_43 : decode jdk_42_method_7_code 43 = .ok (.iload_n 2, 1) := by decide +kernel
theorem d_sbe_44 : decode jdk_42_method_7_code 44 = .ok (.i2b, 1) := by decide +kernel
theorem d_sbe_45 : decode jdk_42_method_7_code 45 = .ok (.ifCond .ne 24, 3) := by decide +kernel
theorem d_sbe_48 : decode jdk_42_method_7_code 48 = .ok (.aload_n 0, 1) := by decide +kernel
theorem d_sbe_49 : decode jdk_42_method_7_code 49 = .ok (.aload_n 1, 1) := by decide +kernel
theorem d_sbe_50 : decode jdk_42_method_7_code 50 = .ok (.iload_n 3, 1) := by decide +kernel
theorem d_sbe_51 : decode jdk_42_method_7_code 51 = .ok (.iload_n 3, 1) := by decide +kernel
theorem d_sbe_52 : decode jdk_42_method_7_code 52 = .ok (.iload 4, 2) := by decide +kernel
theorem d_sbe_54 : decode jdk_42_method_7_code 54 = .ok (.iadd, 1) := by decide +kernel
theorem d_sbe_55 : decode jdk_42_method_7_code 55 = .ok (.invokestatic 54, 3) := by decide +kernel
theorem d_sbe_58 : decode jdk_42_method_7_code 58 = .ok (.putfield 9, 3) := by decide +kernel
theorem d_sbe_61 : decode jdk_42_method_7_code 61 = .ok (.aload_n 0, 1) := by decide +kernel
theorem d_sbe_62 : decode jdk_42_method_7_code 62 = .ok (.iconst 0, 1) := by decide +kernel
theorem d_sbe_63 : decode jdk_42_method_7_code 63 = .ok (.putfield 15, 3) := by decide +kernel
theorem d_sbe_66 : decode jdk_42_method_7_code 66 = .ok (.goto 61, 3) := by decide +kernel
theorem d_sbe_69 : decode jdk_42_method_7_code 69 = .ok (.iload_n 2, 1) := by decide +kernel
theorem d_sbe_70 : decode jdk_42_method_7_code 70 = .ok (.bipush 8, 2) := by decide +kernel
theorem d_sbe_72 : decode jdk_42_method_7_code 72 = .ok (.ishl, 1) := by decide +kernel
theorem d_sbe_73 : decode jdk_42_method_7_code 73 = .ok (.istore_n 2, 1) := by decide +kernel
theorem d_sbe_74 : decode jdk_42_method_7_code 74 = .ok (.iload 4, 2) := by decide +kernel
theorem d_sbe_76 : decode jdk_42_method_7_code 76 = .ok (.invokestatic 60, 3) := by decide +kernel
theorem d_sbe_79 : decode jdk_42_method_7_code 79 = .ok (.astore 5, 2) := by decide +kernel
theorem d_sbe_81 : decode jdk_42_method_7_code 81 = .ok (.iconst 0, 1) := by decide +kernel
theorem d_sbe_82 : decode jdk_42_method_7_code 82 = .ok (.istore 6, 2) := by decide +kernel
theorem d_sbe_84 : decode jdk_42_method_7_code 84 = .ok (.iload 6, 2) := by decide +kernel
theorem d_sbe_86 : decode jdk_42_method_7_code 86 = .ok (.iload 4, 2) := by decide +kernel
theorem d_sbe_88 : decode jdk_42_method_7_code 88 = .ok (.if_icmp .ge 28, 3) := by decide +kernel
theorem d_sbe_91 : decode jdk_42_method_7_code 91 = .ok (.aload 5, 2) := by decide +kernel
theorem d_sbe_93 : decode jdk_42_method_7_code 93 = .ok (.iload 6, 2) := by decide +kernel
theorem d_sbe_95 : decode jdk_42_method_7_code 95 = .ok (.iload_n 2, 1) := by decide +kernel
theorem d_sbe_96 : decode jdk_42_method_7_code 96 = .ok (.aload_n 1, 1) := by decide +kernel
theorem d_sbe_97 : decode jdk_42_method_7_code 97 = .ok (.iload_n 3, 1) := by decide +kernel
theorem d_sbe_98 : decode jdk_42_method_7_code 98 = .ok (.iinc 3 1, 3) := by decide +kernel
theorem d_sbe_101 : decode jdk_42_method_7_code 101 = .ok (.baload, 1) := by decide +kernel
theorem d_sbe_102 : decode jdk_42_method_7_code 102 = .ok (.sipush 255, 3) := by decide +kernel
theorem d_sbe_105 : decode jdk_42_method_7_code 105 = .ok (.iand, 1) := by decide +kernel
theorem d_sbe_106 : decode jdk_42_method_7_code 106 = .ok (.ior, 1) := by decide +kernel
theorem d_sbe_107 : decode jdk_42_method_7_code 107 = .ok (.invokestatic 64, 3) := by decide +kernel
theorem d_sbe_110 : decode jdk_42_method_7_code 110 = .ok (.iinc 6 1, 3) := by decide +kernel
theorem d_sbe_113 : decode jdk_42_method_7_code 113 = .ok (.goto (-29), 3) := by decide +kernel
theorem d_sbe_116 : decode jdk_42_method_7_code 116 = .ok (.aload_n 0, 1) := by decide +kernel
theorem d_sbe_117 : decode jdk_42_method_7_code 117 = .ok (.aload 5, 2) := by decide +kernel
theorem d_sbe_119 : decode jdk_42_method_7_code 119 = .ok (.putfield 9, 3) := by decide +kernel
theorem d_sbe_122 : decode jdk_42_method_7_code 122 = .ok (.aload_n 0, 1) := by decide +kernel
theorem d_sbe_123 : decode jdk_42_method_7_code 123 = .ok (.iconst 1, 1) := by decide +kernel
theorem d_sbe_124 : decode jdk_42_method_7_code 124 = .ok (.putfield 15, 3) := by decide +kernel
theorem d_sbe_127 : decode jdk_42_method_7_code 127 = .ok (.return_, 1) := by decide +kernel
theorem pd_sbe : parseMethodDescriptor "([BIII)V" = some ⟨[(.array .byte), .int, .int, .int], none⟩ := by decide +kernel
theorem pf_sbe : plainFor (⟨"java/lang/String", "<init>", "([BIII)V"⟩ : MethodName) = true := by first | exact plainFor_of_name (by first | (simp [plainName, overriddenIn]; done) | decide +kernel) | decide +kernel
set_option maxRecDepth 65536 in
set_option maxHeartbeats 40000000 in
theorem kw_sbe (l : Launch) (Z : State) (a0 : Array Value) (hw : ∀ d ∈ tables_1, d.before a0 Z = true) (cs : Int32) (hcs : ¬ cs = 0) (SC : Sta Z Z.heap "java/lang/String" "COMPACT_STRINGS" "Z" (.int cs)) (hEW : EW Z a0 EL) (sio : Value) (SIO : Sta Z Z.heap "jdk/internal/util/Preconditions" "SIOOBE_FORMATTER" "Ljava/util/function/BiFunction;" sio) (hsio : sio.isRef = true) (a d : Addr) (ck : ClassId) (h0 : Heap) (n0 : Nat) (OD : Old Z n0 h0) (EA : Exa Z h0 a "java/lang/String") (FC : Fld Z h0 a "java/lang/String" "coder" "B" (.int 0)) (FV : Fld Z h0 a "java/lang/String" "value" "[B" .null) (ga : n0 ≤ a) (D : Arv Z h0 d ck .byte (0 : Int32) [] (.int 0)) : KW true l Z M_sbe n0 (fun v h => v = none ∧ ∃ t, Sg Z h a t [] ∧ Keep h0 h [a]) (EL, fun x => x = a) h0 0 0 0 #[.val (.ref a), .val (.ref d), .val (.int (0 : Int32)), .val (.int (0 : Int32)), .val (.int (0 : Int32)), .unset, .unset] [] := by
  have K0 : Keep h0 h0 [a] := Keep.refl _ _
  refine k_aloadN d_sbe_0 rfl rfl rfl ?_
  refine k_initObj (W0 := 0) d_sbe_1 rfl (hw _ (List.mem_of_getElem? (i := 151) rfl)) (hw _ (List.mem_of_getElem? (i := 8) rfl)) (hw _ (List.mem_of_getElem? (i := 9) rfl)) rfl rfl (by decide) (by decide) ?_
  refine k_iloadN d_sbe_4 rfl rfl ?_
  refine k_iload d_sbe_5 rfl rfl ?_
  refine k_aloadN d_sbe_7 rfl rfl rfl ?_
  refine k_arrlen d_sbe_8 rfl D ?_
  refine k_callStatic (argsL := [(.int (0 : Int32)), (.int (0 : Int32)), (.int (0 : Int32))]) (rest := []) (W0 := 0) d_sbe_9 rfl (mt_cbo l Z a0 hw cs hcs SC hEW sio SIO hsio 0 h0 n0 OD (by decide)) (Kp.pure (fun _ _ q => q.2.symm)) (hw _ (List.mem_of_getElem? (i := 152) rfl)) (hw _ (List.mem_of_getElem? (i := 153) rfl)) (hw _ (List.mem_of_getElem? (i := 43) rfl)) (hw _ (List.mem_of_getElem? (i := 154) rfl)) (by decide) pd_cbo rfl rfl rfl rfl (by decide) (by decide) (by decide) (by decide) ?_
  rintro _ _ - ⟨rfl, rfl⟩
  refine KW.sub (S' := fun x => x = a) (fun x hx => Or.inl hx) ?_
  show KW true l Z M_sbe n0 (fun v h => v = none ∧ ∃ t, Sg Z h a t [] ∧ Keep h0 h [a]) (EL, fun x => x = a) h0 0 0 12 #[.val (.ref a), .val (.ref d), .val (.int (0 : Int32)), .val (.int (0 : Int32)), .val (.int (0 : Int32)), .unset, .unset] [(.int (0 : Int32))]
  refine k_pop d_sbe_12 rfl rfl ?_
  refine k_iload d_sbe_13 rfl rfl ?_
  refine k_ifc (pc1 := 37) (pc' := 18) d_sbe_15 (by decide) (by decide) rfl (fun (cd1 : ¬ (0 : Int32) = (0 : Int32)) => False.elim (by exact absurd cd1 (by decide))) (fun (cd1 : (0 : Int32) = (0 : Int32)) => ?_)
  refine k_aloadN d_sbe_18 rfl rfl rfl ?_
  refine k_ldcS (sl := 0) (vs := []) (z := (0 : Int32)) d_sbe_19 rfl (hw _ (List.mem_of_getElem? (i := 197) rfl)) (own_wS Z a0 hw) (List.mem_of_getElem? (i := 6) rfl) ⟨by decide, by decide⟩ (by decide) (by decide) (by decide) (by decide) (by decide) (by decide) ?_
  intro a1 b2 ck3 h4 E5 X6 F7 F8 A9 N10
  show KW true l Z M_sbe n0 (fun v h => v = none ∧ ∃ t, Sg Z h a t [] ∧ Keep h0 h [a]) (EL, fun x => x = a) h4 2 4 21 #[.val (.ref a), .val (.ref d), .val (.int (0 : Int32)), .val (.int (0 : Int32)), .val (.int (0 : Int32)), .unset, .unset] [(.ref a1), (.ref a)]
  refine k_getField d_sbe_21 rfl (hw _ (List.mem_of_getElem? (i := 69) rfl)) Via.refl F8 ?_
  have f13 := (FV.ext E5)
  have f14 := (EA.ext E5)
  refine k_put (v' := (.ref b2)) (ty := (.array .byte)) d_sbe_24 rfl (hw _ (List.mem_of_getElem? (i := 69) rfl)) Via.refl f13 f14 (Or.inr ⟨(hw _ (List.mem_of_getElem? (i := 50) rfl)), rfl, rfl⟩) (hw _ (List.mem_of_getElem? (i := 49) rfl)) (by decide) rfl rfl ga (fun _ => Or.inl rfl) ?_
  intro h11 W12
  have F15 := f13.same W12
  show KW true l Z M_sbe n0 (fun v h => v = none ∧ ∃ t, Sg Z h a t [] ∧ Keep h0 h [a]) (EL, fun x => x = a) h11 2 4 27 #[.val (.ref a), .val (.ref d), .val (.int (0 : Int32)), .val (.int (0 : Int32)), .val (.int (0 : Int32)), .unset, .unset] []
  refine k_aloadN d_sbe_27 rfl rfl rfl ?_
  have f16 := (f14.wr W12)
  have f17 := (X6.wr W12)
  have f18 := (A9.other W12 (Ne.symm (N10 a rfl).2))
  refine k_ldcS (sl := 0) (vs := []) (z := (0 : Int32)) d_sbe_28 rfl (hw _ (List.mem_of_getElem? (i := 197) rfl)) (own_wS Z a0 hw) (List.mem_of_getElem? (i := 6) rfl) ⟨by decide, by decide⟩ (by decide) (by decide) (by decide) (by decide) (by decide) (by decide) ?_
  intro a19 b20 ck21 h22 E23 X24 F25 F26 A27 N28
  show KW true l Z M_sbe n0 (fun v h => v = none ∧ ∃ t, Sg Z h a t [] ∧ Keep h0 h [a]) (EL, fun x => x = a) h22 4 8 30 #[.val (.ref a), .val (.ref d), .val (.int (0 : Int32)), .val (.int (0 : Int32)), .val (.int (0 : Int32)), .unset, .unset] [(.ref a19), (.ref a)]
  refine k_getField d_sbe_30 rfl (hw _ (List.mem_of_getElem? (i := 76) rfl)) Via.refl F25 ?_
  have f31 := (((FC.ext E5).other W12 (Or.inr (slot_ne (t := .byte) (t' := (.array .byte)) (Or.inr (hw _ (List.mem_of_getElem? (i := 51) rfl))) (Or.inr (hw _ (List.mem_of_getElem? (i := 50) rfl))) (by decide) (by decide) (by decide)))).ext E23)
  have f32 := (f16.ext E23)
  refine k_put (v' := (.int (0 : Int32))) (ty := .byte) d_sbe_33 rfl (hw _ (List.mem_of_getElem? (i := 76) rfl)) Via.refl f31 f32 (Or.inr ⟨(hw _ (List.mem_of_getElem? (i := 51) rfl)), rfl, rfl⟩) (hw _ (List.mem_of_getElem? (i := 49) rfl)) (by decide) rfl rfl ga (fun _ => Or.inl rfl) ?_
  intro h29 W30
  have F33 := f31.same W30
  show KW true l Z M_sbe n0 (fun v h => v = none ∧ ∃ t, Sg Z h a t [] ∧ Keep h0 h [a]) (EL, fun x => x = a) h29 4 8 36 #[.val (.ref a), .val (.ref d), .val (.int (0 : Int32)), .val (.int (0 : Int32)), .val (.int (0 : Int32)), .unset, .unset] []
  have f34 := (f32.wr W30)
  have f35 := ((F15.ext E23).other W30 (Or.inr (slot_ne (t := (.array .byte)) (t' := .byte) (Or.inr (hw _ (List.mem_of_getElem? (i := 50) rfl))) (Or.inr (hw _ (List.mem_of_getElem? (i := 51) rfl))) (by decide) (by decide) (by decide))))
  have f36 := ((f18.ext E23).other W30 (Ne.symm (N10 a rfl).2))
  have f37 := ((((K0.ext E5).wr W12 (Or.inl (by simp))).ext E23).wr W30 (Or.inl (by simp)))
  exact k_retVoid d_sbe_36 rfl (by decide) (by decide) ⟨rfl, b2, ⟨ck3, f34, F33, f35, f36, by decide⟩, f37⟩
theorem mt_sbe (l : Launch) (Z : State) (a0 : Array Value) (hw : ∀ d ∈ tables_1, d.before a0 Z = true) (cs : Int32) (hcs : ¬ cs = 0) (SC : Sta Z Z.heap "java/lang/String" "COMPACT_STRINGS" "Z" (.int cs)) (hEW : EW Z a0 EL) (sio : Value) (SIO : Sta Z Z.heap "jdk/internal/util/Preconditions" "SIOOBE_FORMATTER" "Ljava/util/function/BiFunction;" sio) (hsio : sio.isRef = true) (a d : Addr) (ck : ClassId) (h0 : Heap) (n0 : Nat) (OD : Old Z n0 h0) (EA : Exa Z h0 a "java/lang/String") (FC : Fld Z h0 a "java/lang/String" "coder" "B" (.int 0)) (FV : Fld Z h0 a "java/lang/String" "value" "[B" .null) (ga : n0 ≤ a) (D : Arv Z h0 d ck .byte (0 : Int32) [] (.int 0)) : MtW l Z M_sbe [] n0 #[(.ref a), (.ref d), (.int (0 : Int32)), (.int (0 : Int32)), (.int (0 : Int32))] (EL, fun x => x = a) h0 (fun v h => v = none ∧ ∃ t, Sg Z h a t [] ∧ Keep h0 h [a]) :=
  mtw_of_kw (a0 := a0) (P := (EL, fun x => x = a)) pf_sbe hEW (fun m => by first | (simp [entryFrame, mkF, argsToLocals, Value.category]; done) | rfl) (kw_sbe l Z a0 hw cs hcs SC hEW sio SIO hsio a d ck h0 n0 OD EA FC FV ga D)
abbrev M_ets : MD := ((⟨"java/util/Base64$Encoder", "encodeToString", "([B)Ljava/lang/String;"⟩ : MethodName), jdk_2452_method_5_code, 3, (some (.object "java/lang/String")), { frames := 3, cells := 3, slots := 12, locals := 84 })
theorem d_ets_0 : decode jdk_2452_method_5_code 0 = .ok (.aload_n 0, 1) := by decide +kernel
theorem d_ets_1 : decode jdk_2452_method_5_code 1 = .ok (.aload_n 1, 1) := by decide +kernel
theorem d_ets_2 : decode jdk_2452_method_5_code 2 = .ok (.invokevirtual 61, 3) := by decide +kernel
theorem d_ets_5 : decode jdk_2452_method_5_code 5 = .ok (.astore_n 2, 1) := by decide +kernel
theorem d_ets_6 : decode jdk_2452_method_5_code 6 = .ok (.new 65, 3) := by decide +kernel
theorem d_ets_9 : decode jdk_2452_method_5_code 9 = .ok (.dup, 1) := by decide +kernel
theorem d_ets_10 : decode jdk_2452_method_5_code 10 = .ok (.aload_n 2, 1) := by decide +kernel
theorem d_ets_11 : decode jdk_2452_method_5_code 11 = .ok (.iconst 0, 1) := by decide +kernel
theorem d_ets_12 : decode jdk_2452_method_5_code 12 = .ok (.iconst 0, 1) := by decide +kernel
theorem d_ets_13 : decode jdk_2452_method_5_code 13 = .ok (.aload_n 2, 1) := by decide +kernel
theorem d_ets_14 : decode jdk_2452_method_5_code 14 = .ok (.arraylength, 1) := by decide +kernel
theorem d_ets_15 : decode jdk_2452_method_5_code 15 = .ok (.invokespecial 67, 3) := by decide +kernel
theorem d_ets_18 : decode jdk_2452_method_5_code 18 = .ok (.areturn, 1) := by decide +kernel
theorem pd_ets : parseMethodDescriptor "([B)Ljava/lang/String;" = some ⟨[(.array .byte)], (some (.object "java/lang/String"))⟩ := by decide +kernel
theorem pf_ets : plainFor (⟨"java/util/Base64$Encoder", "encodeToString", "([B)Ljava/lang/String;"⟩ : MethodName) = true := by first | exact plainFor_of_name (by first | (simp [plainName, overriddenIn]; done) | decide +kernel) | decide +kernel
set_option maxRecDepth 65536 in
set_option maxHeartbeats 40000000 in
theorem kw_ets_3 (l : Launch) (Z : State) (a0 : Array Value) (hw : ∀ d ∈ tables_1, d.before a0 Z = true) (cs : Int32) (hcs : ¬ cs = 0) (SC : Sta Z Z.heap "java/lang/String" "COMPACT_STRINGS" "Z" (.int cs)) (hEW : EW Z a0 EL) (sio : Value) (SIO : Sta Z Z.heap "jdk/internal/util/Preconditions" "SIOOBE_FORMATTER" "Ljava/util/function/BiFunction;" sio) (hsio : sio.isRef = true) (en : Addr) (ENC : Enc Z Z.heap en) (tb : Addr) (ckt : ClassId) (STB : Sta Z Z.heap "java/util/Base64$Encoder" "toBase64" "[C" (.ref tb)) (TB : Arv Z Z.heap tb ckt .char (64 : Int32) (T64.map Value.int) (.int 0)) (sr : Addr) (cks : ClassId) (x y z : Int32) (h0 : Heap) (n0 : Nat) (OD : Old Z n0 h0) (SR : Arv Z h0 sr cks .byte (3 : Int32) [.int (x), .int (y), .int (z)] (.int 0)) : KW false l Z M_ets n0 (fun v h => ∃ a t, v = some (.ref a) ∧ Keep h0 h [] ∧ Sg Z h a t [nbI (tbv ((UInt32.toInt32 (Int32.toUInt32 (w24 x y z) >>> Int32.toUInt32 ((18 : Int32) &&& 31))) &&& (63 : Int32))), nbI (tbv ((UInt32.toInt32 (Int32.toUInt32 (w24 x y z) >>> Int32.toUInt32 ((12 : Int32) &&& 31))) &&& (63 : Int32))), nbI (tbv ((UInt32.toInt32 (Int32.toUInt32 (w24 x y z) >>> Int32.toUInt32 ((6 : Int32) &&& 31))) &&& (63 : Int32))), nbI (tbv ((w24 x y z) &&& (63 : Int32)))]) ([], fun _ => False) h0 0 0 0 #[.val (.ref en), .val (.ref sr), .unset] [] := by
  have EF := ENC.ext OD.2
  have Z0 := OD.1 ▸ OD.2.1
  have K0 : Keep h0 h0 [] := Keep.refl _ _
  refine k_aloadN d_ets_0 rfl rfl rfl ?_
  refine k_aloadN d_ets_1 rfl rfl rfl ?_
  refine k_callVirtual (argsL := [(.ref sr)]) (rest := []) (W0 := 0) d_ets_2 rfl (mt_enc_3 l Z a0 hw cs hcs SC hEW en ENC tb ckt STB TB sr cks x y z h0 n0 OD SR) Kp.strict EF.1 (hw _ (List.mem_of_getElem? (i := 109) rfl)) (hw _ (List.mem_of_getElem? (i := 110) rfl)) (hw _ (List.mem_of_getElem? (i := 112) rfl)) (hw _ (List.mem_of_getElem? (i := 107) rfl)) rfl (hw _ (List.mem_of_getElem? (i := 111) rfl)) (hw _ (List.mem_of_getElem? (i := 113) rfl)) (hw _ (List.mem_of_getElem? (i := 28) rfl)) (by decide) pd_enc rfl rfl rfl rfl (by decide) (by decide) (by decide) (by decide) ?_
  rintro _ hM - ⟨d, ckd, rfl, gd1, gd2, KM, ED, DM⟩
  refine KW.any (P' := ([], fun _ => False)) ?_
  show KW false l Z M_ets n0 (fun v h => ∃ a t, v = some (.ref a) ∧ Keep h0 h [] ∧ Sg Z h a t [nbI (tbv ((UInt32.toInt32 (Int32.toUInt32 (w24 x y z) >>> Int32.toUInt32 ((18 : Int32) &&& 31))) &&& (63 : Int32))), nbI (tbv ((UInt32.toInt32 (Int32.toUInt32 (w24 x y z) >>> Int32.toUInt32 ((12 : Int32) &&& 31))) &&& (63 : Int32))), nbI (tbv ((UInt32.toInt32 (Int32.toUInt32 (w24 x y z) >>> Int32.toUInt32 ((6 : Int32) &&& 31))) &&& (63 : Int32))), nbI (tbv ((w24 x y z) &&& (63 : Int32)))]) ([], fun _ => False) hM 1 4 5 #[.val (.ref en), .val (.ref sr), .unset] [(.ref d)]
  refine k_astoreN (Ls' := #[.val (.ref en), .val (.ref sr), .val (.ref d)]) d_ets_5 rfl rfl rfl ?_
  refine k_new d_ets_6 rfl (hw _ (List.mem_of_getElem? (i := 146) rfl)) (hw _ (List.mem_of_getElem? (i := 49) rfl)) (hw _ (List.mem_of_getElem? (i := 43) rfl)) (by decide) (by decide) ?_
  intro h2 a1 g6 E3 A4 D5
  have ne7 : d ≠ a1 := Nat.ne_of_lt (Nat.lt_of_lt_of_eq ED.lt g6.symm)
  have z8 : n0 ≤ hM.size := (Nat.le_trans Z0 KM.1)
  have ge9 : n0 ≤ a1 := Nat.le_trans z8 (Nat.le_of_eq g6.symm)
  have gl10 : hM.size ≤ a1 := Nat.le_of_eq g6.symm
  have f11 := (K0.trans KM all0)
  have gh12 := Nat.le_trans f11.1 gl10
  have F13 : Fld Z h2 a1 "java/lang/String" "value" "[B" .null := D5 (Or.inr (hw _ (List.mem_of_getElem? (i := 50) rfl))) (ty := (.array .byte)) (by decide)
  have F14 : Fld Z h2 a1 "java/lang/String" "coder" "B" (.int (0 : Int32)) := D5 (Or.inr (hw _ (List.mem_of_getElem? (i := 51) rfl))) (ty := .byte) (by decide)
  refine KW.any (P' := ([], fun _ => False)) ?_
  show KW false l Z M_ets n0 (fun v h => ∃ a t, v = some (.ref a) ∧ Keep h0 h [] ∧ Sg Z h a t [nbI (tbv ((UInt32.toInt32 (Int32.toUInt32 (w24 x y z) >>> Int32.toUInt32 ((18 : Int32) &&& 31))) &&& (63 : Int32))), nbI (tbv ((UInt32.toInt32 (Int32.toUInt32 (w24 x y z) >>> Int32.toUInt32 ((12 : Int32) &&& 31))) &&& (63 : Int32))), nbI (tbv ((UInt32.toInt32 (Int32.toUInt32 (w24 x y z) >>> Int32.toUInt32 ((6 : Int32) &&& 31))) &&& (63 : Int32))), nbI (tbv ((w24 x y z) &&& (63 : Int32)))]) ([], fun _ => False) h2 2 8 9 #[.val (.ref en), .val (.ref sr), .val (.ref d)] [(.ref a1)]
  refine k_dup d_ets_9 rfl rfl ?_
  refine k_aloadN d_ets_10 rfl rfl rfl ?_
  refine k_iconst (z := (0 : Int32)) d_ets_11 rfl (by decide) ?_
  refine k_iconst (z := (0 : Int32)) d_ets_12 rfl (by decide) ?_
  refine k_aloadN d_ets_13 rfl rfl rfl ?_
  have f15 := (DM.ext E3)
  refine k_arrlen d_ets_14 rfl f15 ?_
  have f16 := (f11.ext E3)
  have f17 := (ED.ext E3)
  have f18 := ((OD.keep KM all0).ext E3)
  refine k_callInit (a := a1) (argsL := [(.ref d), (.int (0 : Int32)), (.int (0 : Int32)), (.int (4 : Int32))]) (rest := [(.ref a1)]) (W0 := 1) d_ets_15 rfl (mt_sbq l Z a0 hw cs hcs SC hEW sio SIO hsio a1 d ckd [nbI (tbv ((UInt32.toInt32 (Int32.toUInt32 (w24 x y z) >>> Int32.toUInt32 ((18 : Int32) &&& 31))) &&& (63 : Int32))), nbI (tbv ((UInt32.toInt32 (Int32.toUInt32 (w24 x y z) >>> Int32.toUInt32 ((12 : Int32) &&& 31))) &&& (63 : Int32))), nbI (tbv ((UInt32.toInt32 (Int32.toUInt32 (w24 x y z) >>> Int32.toUInt32 ((6 : Int32) &&& 31))) &&& (63 : Int32))), nbI (tbv ((w24 x y z) &&& (63 : Int32)))] h2 n0 f18 A4 F14 F13 ge9 f15 f17 (by simp) (by simp)) Kp.strict rfl rfl (hw _ (List.mem_of_getElem? (i := 147) rfl)) (hw _ (List.mem_of_getElem? (i := 148) rfl)) (hw _ (List.mem_of_getElem? (i := 43) rfl)) (hw _ (List.mem_of_getElem? (i := 150) rfl)) (by decide) pd_sbq rfl rfl rfl rfl (by decide) (by decide) (by decide) (by decide) ?_
  rintro _ hW - ⟨rfl, KW_, t, SG⟩
  refine KW.any (P' := ([], fun _ => False)) ?_
  show KW false l Z M_ets n0 (fun v h => ∃ a t, v = some (.ref a) ∧ Keep h0 h [] ∧ Sg Z h a t [nbI (tbv ((UInt32.toInt32 (Int32.toUInt32 (w24 x y z) >>> Int32.toUInt32 ((18 : Int32) &&& 31))) &&& (63 : Int32))), nbI (tbv ((UInt32.toInt32 (Int32.toUInt32 (w24 x y z) >>> Int32.toUInt32 ((12 : Int32) &&& 31))) &&& (63 : Int32))), nbI (tbv ((UInt32.toInt32 (Int32.toUInt32 (w24 x y z) >>> Int32.toUInt32 ((6 : Int32) &&& 31))) &&& (63 : Int32))), nbI (tbv ((w24 x y z) &&& (63 : Int32)))]) ([], fun _ => False) hW 3 12 18 #[.val (.ref en), .val (.ref sr), .val (.ref d)] [(.ref a1)]
  have f19 := (f16.trans KW_ (allS (Or.inr gh12) all0))
  exact k_retRef d_ets_18 rfl rfl rfl (by decide) (by decide) ⟨a1, t, rfl, f19, SG⟩
theorem mt_ets_3 (l : Launch) (Z : State) (a0 : Array Value) (hw : ∀ d ∈ tables_1, d.before a0 Z = true) (cs : Int32) (hcs : ¬ cs = 0) (SC : Sta Z Z.heap "java/lang/String" "COMPACT_STRINGS" "Z" (.int cs)) (hEW : EW Z a0 EL) (sio : Value) (SIO : Sta Z Z.heap "jdk/internal/util/Preconditions" "SIOOBE_FORMATTER" "Ljava/util/function/BiFunction;" sio) (hsio : sio.isRef = true) (en : Addr) (ENC : Enc Z Z.heap en) (tb : Addr) (ckt : ClassId) (STB : Sta Z Z.heap "java/util/Base64$Encoder" "toBase64" "[C" (.ref tb)) (TB : Arv Z Z.heap tb ckt .char (64 : Int32) (T64.map Value.int) (.int 0)) (sr : Addr) (cks : ClassId) (x y z : Int32) (h0 : Heap) (n0 : Nat) (OD : Old Z n0 h0) (SR : Arv Z h0 sr cks .byte (3 : Int32) [.int (x), .int (y), .int (z)] (.int 0)) : Mt l Z M_ets [] n0 #[(.ref en), (.ref sr)] h0 (fun v h => ∃ a t, v = some (.ref a) ∧ Keep h0 h [] ∧ Sg Z h a t [nbI (tbv ((UInt32.toInt32 (Int32.toUInt32 (w24 x y z) >>> Int32.toUInt32 ((18 : Int32) &&& 31))) &&& (63 : Int32))), nbI (tbv ((UInt32.toInt32 (Int32.toUInt32 (w24 x y z) >>> Int32.toUInt32 ((12 : Int32) &&& 31))) &&& (63 : Int32))), nbI (tbv ((UInt32.toInt32 (Int32.toUInt32 (w24 x y z) >>> Int32.toUInt32 ((6 : Int32) &&& 31))) &&& (63 : Int32))), nbI (tbv ((w24 x y z) &&& (63 : Int32)))]) :=
  mt_of_kw (P := ([], fun _ => False)) pf_ets (fun m => by first | (simp [entryFrame, mkF, argsToLocals, Value.category]; done) | rfl) (kw_ets_3 l Z a0 hw cs hcs SC hEW sio SIO hsio en ENC tb ckt STB TB sr cks x y z h0 n0 OD SR)
set_option maxRecDepth 65536 in
set_option maxHeartbeats 40000000 in
theorem kw_ets_1 (l : Launch) (Z : State) (a0 : Array Value) (hw : ∀ d ∈ tables_1, d.before a0 Z = true) (cs : Int32) (hcs : ¬ cs = 0) (SC : Sta Z Z.heap "java/lang/String" "COMPACT_STRINGS" "Z" (.int cs)) (hEW : EW Z a0 EL) (sio : Value) (SIO : Sta Z Z.heap "jdk/internal/util/Preconditions" "SIOOBE_FORMATTER" "Ljava/util/function/BiFunction;" sio) (hsio : sio.isRef = true) (en : Addr) (ENC : Enc Z Z.heap en) (tb : Addr) (ckt : ClassId) (STB : Sta Z Z.heap "java/util/Base64$Encoder" "toBase64" "[C" (.ref tb)) (TB : Arv Z Z.heap tb ckt .char (64 : Int32) (T64.map Value.int) (.int 0)) (sr : Addr) (cks : ClassId) (x : Int32) (h0 : Heap) (n0 : Nat) (OD : Old Z n0 h0) (SR : Arv Z h0 sr cks .byte (1 : Int32) [.int (x)] (.int 0)) : KW false l Z M_ets n0 (fun v h => ∃ a t, v = some (.ref a) ∧ Keep h0 h [] ∧ Sg Z h a t [nbI (tbv ((x &&& (255 : Int32)) >>> ((2 : Int32) &&& 31))), nbI (tbv (((x &&& (255 : Int32)) <<< ((4 : Int32) &&& 31)) &&& (63 : Int32))), nar .byte (61 : Int32), nar .byte (61 : Int32)]) ([], fun _ => False) h0 0 0 0 #[.val (.ref en), .val (.ref sr), .unset] [] := by
  have EF := ENC.ext OD.2
  have Z0 := OD.1 ▸ OD.2.1
  have K0 : Keep h0 h0 [] := Keep.refl _ _
  refine k_aloadN d_ets_0 rfl rfl rfl ?_
  refine k_aloadN d_ets_1 rfl rfl rfl ?_
  refine k_callVirtual (argsL := [(.ref sr)]) (rest := []) (W0 := 0) d_ets_2 rfl (mt_enc_1 l Z a0 hw cs hcs SC hEW en ENC tb ckt STB TB sr cks x h0 n0 OD SR) Kp.strict EF.1 (hw _ (List.mem_of_getElem? (i := 109) rfl)) (hw _ (List.mem_of_getElem? (i := 110) rfl)) (hw _ (List.mem_of_getElem? (i := 112) rfl)) (hw _ (List.mem_of_getElem? (i := 107) rfl)) rfl (hw _ (List.mem_of_getElem? (i := 111) rfl)) (hw _ (List.mem_of_getElem? (i := 113) rfl)) (hw _ (List.mem_of_getElem? (i := 28) rfl)) (by decide) pd_enc rfl rfl rfl rfl (by decide) (by decide) (by decide) (by decide) ?_
  rintro _ hM - ⟨d, ckd, rfl, gd1, gd2, KM, ED, DM⟩
  refine KW.any (P' := ([], fun _ => False)) ?_
  show KW false l Z M_ets n0 (fun v h => ∃ a t, v = some (.ref a) ∧ Keep h0 h [] ∧ Sg Z h a t [nbI (tbv ((x &&& (255 : Int32)) >>> ((2 : Int32) &&& 31))), nbI (tbv (((x &&& (255 : Int32)) <<< ((4 : Int32) &&& 31)) &&& (63 : Int32))), nar .byte (61 : Int32), nar .byte (61 : Int32)]) ([], fun _ => False) hM 1 4 5 #[.val (.ref en), .val (.ref sr), .unset] [(.ref d)]
  refine k_astoreN (Ls' := #[.val (.ref en), .val (.ref sr), .val (.ref d)]) d_ets_5 rfl rfl rfl ?_
  refine k_new d_ets_6 rfl (hw _ (List.mem_of_getElem? (i := 146) rfl)) (hw _ (List.mem_of_getElem? (i := 49) rfl)) (hw _ (List.mem_of_getElem? (i := 43) rfl)) (by decide) (by decide) ?_
  intro h2 a1 g6 E3 A4 D5
  have ne7 : d ≠ a1 := Nat.ne_of_lt (Nat.lt_of_lt_of_eq ED.lt g6.symm)
  have z8 : n0 ≤ hM.size := (Nat.le_trans Z0 KM.1)
  have ge9 : n0 ≤ a1 := Nat.le_trans z8 (Nat.le_of_eq g6.symm)
  have gl10 : hM.size ≤ a1 := Nat.le_of_eq g6.symm
  have f11 := (K0.trans KM all0)
  have gh12 := Nat.le_trans f11.1 gl10
  have F13 : Fld Z h2 a1 "java/lang/String" "value" "[B" .null := D5 (Or.inr (hw _ (List.mem_of_getElem? (i := 50) rfl))) (ty := (.array .byte)) (by decide)
  have F14 : Fld Z h2 a1 "java/lang/String" "coder" "B" (.int (0 : Int32)) := D5 (Or.inr (hw _ (List.mem_of_getElem? (i := 51) rfl))) (ty := .byte) (by decide)
  refine KW.any (P' := ([], fun _ => False)) ?_
  show KW false l Z M_ets n0 (fun v h => ∃ a t, v = some (.ref a) ∧ Keep h0 h [] ∧ Sg Z h a t [nbI (tbv ((x &&& (255 : Int32)) >>> ((2 : Int32) &&& 31))), nbI (tbv (((x &&& (255 : Int32)) <<< ((4 : Int32) &&& 31)) &&& (63 : Int32))), nar .byte (61 : Int32), nar .byte (61 : Int32)]) ([], fun _ => False) h2 2 8 9 #[.val (.ref en), .val (.ref sr), .val (.ref d)] [(.ref a1)]
  refine k_dup d_ets_9 rfl rfl ?_
  refine k_aloadN d_ets_10 rfl rfl rfl ?_
  refine k_iconst (z := (0 : Int32)) d_ets_11 rfl (by decide) ?_
  refine k_iconst (z := (0 : Int32)) d_ets_12 rfl (by decide) ?_
  refine k_aloadN d_ets_13 rfl rfl rfl ?_
  have f15 := (DM.ext E3)
  refine k_arrlen d_ets_14 rfl f15 ?_
  have f16 := (f11.ext E3)
  have f17 := (ED.ext E3)
  have f18 := ((OD.keep KM all0).ext E3)
  refine k_callInit (a := a1) (argsL := [(.ref d), (.int (0 : Int32)), (.int (0 : Int32)), (.int (4 : Int32))]) (rest := [(.ref a1)]) (W0 := 1) d_ets_15 rfl (mt_sbq l Z a0 hw cs hcs SC hEW sio SIO hsio a1 d ckd [nbI (tbv ((x &&& (255 : Int32)) >>> ((2 : Int32) &&& 31))), nbI (tbv (((x &&& (255 : Int32)) <<< ((4 : Int32) &&& 31)) &&& (63 : Int32))), nar .byte (61 : Int32), nar .byte (61 : Int32)] h2 n0 f18 A4 F14 F13 ge9 f15 f17 (by simp) (by simp)) Kp.strict rfl rfl (hw _ (List.mem_of_getElem? (i := 147) rfl)) (hw _ (List.mem_of_getElem? (i := 148) rfl)) (hw _ (List.mem_of_getElem? (i := 43) rfl)) (hw _ (List.mem_of_getElem? (i := 150) rfl)) (by decide) pd_sbq rfl rfl rfl rfl (by decide) (by decide) (by decide) (by decide) ?_
  rintro _ hW - ⟨rfl, KW_, t, SG⟩
  refine KW.any (P' := ([], fun _ => False)) ?_
  show KW false l Z M_ets n0 (fun v h => ∃ a t, v = some (.ref a) ∧ Keep h0 h [] ∧ Sg Z h a t [nbI (tbv ((x &&& (255 : Int32)) >>> ((2 : Int32) &&& 31))), nbI (tbv (((x &&& (255 : Int32)) <<< ((4 : Int32) &&& 31)) &&& (63 : Int32))), nar .byte (61 : Int32), nar .byte (61 : Int32)]) ([], fun _ => False) hW 3 12 18 #[.val (.ref en), .val (.ref sr), .val (.ref d)] [(.ref a1)]
  have f19 := (f16.trans KW_ (allS (Or.inr gh12) all0))
  exact k_retRef d_ets_18 rfl rfl rfl (by decide) (by decide) ⟨a1, t, rfl, f19, SG⟩
theorem mt_ets_1 (l : Launch) (Z : State) (a0 : Array Value) (hw : ∀ d ∈ tables_1, d.before a0 Z = true) (cs : Int32) (hcs : ¬ cs = 0) (SC : Sta Z Z.heap "java/lang/String" "COMPACT_STRINGS" "Z" (.int cs)) (hEW : EW Z a0 EL) (sio : Value) (SIO : Sta Z Z.heap "jdk/internal/util/Preconditions" "SIOOBE_FORMATTER" "Ljava/util/function/BiFunction;" sio) (hsio : sio.isRef = true) (en : Addr) (ENC : Enc Z Z.heap en) (tb : Addr) (ckt : ClassId) (STB : Sta Z Z.heap "java/util/Base64$Encoder" "toBase64" "[C" (.ref tb)) (TB : Arv Z Z.heap tb ckt .char (64 : Int32) (T64.map Value.int) (.int 0)) (sr : Addr) (cks : ClassId) (x : Int32) (h0 : Heap) (n0 : Nat) (OD : Old Z n0 h0) (SR : Arv Z h0 sr cks .byte (1 : Int32) [.int (x)] (.int 0)) : Mt l Z M_ets [] n0 #[(.ref en), (.ref sr)] h0 (fun v h => ∃ a t, v = some (.ref a) ∧ Keep h0 h [] ∧ Sg Z h a t [nbI (tbv ((x &&& (255 : Int32)) >>> ((2 : Int32) &&& 31))), nbI (tbv (((x &&& (255 : Int32)) <<< ((4 : Int32) &&& 31)) &&& (63 : Int32))), nar .byte (61 : Int32), nar .byte (61 : Int32)]) :=
  mt_of_kw (P := ([], fun _ => False)) pf_ets (fun m => by first | (simp [entryFrame, mkF, argsToLocals, Value.category]; done) | rfl) (kw_ets_1 l Z a0 hw cs hcs SC hEW sio SIO hsio en ENC tb ckt STB TB sr cks x h0 n0 OD SR)
set_option maxRecDepth 65536 in
set_option maxHeartbeats 40000000 in
theorem kw_ets_2 (l : Launch) (Z : State) (a0 : Array Value) (hw : ∀ d ∈ tables_1, d.before a0 Z = true) (cs : Int32) (hcs : ¬ cs = 0) (SC : Sta Z Z.heap "java/lang/String" "COMPACT_STRINGS" "Z" (.int cs)) (hEW : EW Z a0 EL) (sio : Value) (SIO : Sta Z Z.heap "jdk/internal/util/Preconditions" "SIOOBE_FORMATTER" "Ljava/util/function/BiFunction;" sio) (hsio : sio.isRef = true) (en : Addr) (ENC : Enc Z Z.heap en) (tb : Addr) (ckt : ClassId) (STB : Sta Z Z.heap "java/util/Base64$Encoder" "toBase64" "[C" (.ref tb)) (TB : Arv Z Z.heap tb ckt .char (64 : Int32) (T64.map Value.int) (.int 0)) (sr : Addr) (cks : ClassId) (x y : Int32) (h0 : Heap) (n0 : Nat) (OD : Old Z n0 h0) (SR : Arv Z h0 sr cks .byte (2 : Int32) [.int (x), .int (y)] (.int 0)) : KW false l Z M_ets n0 (fun v h => ∃ a t, v = some (.ref a) ∧ Keep h0 h [] ∧ Sg Z h a t [nbI (tbv ((x &&& (255 : Int32)) >>> ((2 : Int32) &&& 31))), nbI (tbv ((((x &&& (255 : Int32)) <<< ((4 : Int32) &&& 31)) &&& (63 : Int32)) ||| ((y &&& (255 : Int32)) >>> ((4 : Int32) &&& 31)))), nbI (tbv (((y &&& (255 : Int32)) <<< ((2 : Int32) &&& 31)) &&& (63 : Int32))), nar .byte (61 : Int32)]) ([], fun _ => False) h0 0 0 0 #[.val (.ref en), .val (.ref sr), .unset] [] := by
  have EF := ENC.ext OD.2
  have Z0 := OD.1 ▸ OD.2.1
  have K0 : Keep h0 h0 [] := Keep.refl _ _
  refine k_aloadN d_ets_0 rfl rfl rfl ?_
  refine k_aloadN d_ets_1 rfl rfl rfl ?_
  refine k_callVirtual (argsL := [(.ref sr)]) (rest := []) (W0 := 0) d_ets_2 rfl (mt_enc_2 l Z a0 hw cs hcs SC hEW en ENC tb ckt STB TB sr cks x y h0 n0 OD SR) Kp.strict EF.1 (hw _ (List.mem_of_getElem? (i := 109) rfl)) (hw _ (List.mem_of_getElem? (i := 110) rfl)) (hw _ (List.mem_of_getElem? (i := 112) rfl)) (hw _ (List.mem_of_getElem? (i := 107) rfl)) rfl (hw _ (List.mem_of_getElem? (i := 111) rfl)) (hw _ (List.mem_of_getElem? (i := 113) rfl)) (hw _ (List.mem_of_getElem? (i := 28) rfl)) (by decide) pd_enc rfl rfl rfl rfl (by decide) (by decide) (by decide) (by decide) ?_
  rintro _ hM - ⟨d, ckd, rfl, gd1, gd2, KM, ED, DM⟩
  refine KW.any (P' := ([], fun _ => False)) ?_
  show KW false l Z M_ets n0 (fun v h => ∃ a t, v = some (.ref a) ∧ Keep h0 h [] ∧ Sg Z h a t [nbI (tbv ((x &&& (255 : Int32)) >>> ((2 : Int32) &&& 31))), nbI (tbv ((((x &&& (255 : Int32)) <<< ((4 : Int32) &&& 31)) &&& (63 : Int32)) ||| ((y &&& (255 : Int32)) >>> ((4 : Int32) &&& 31)))), nbI (tbv (((y &&& (255 : Int32)) <<< ((2 : Int32) &&& 31)) &&& (63 : Int32))), nar .byte (61 : Int32)]) ([], fun _ => False) hM 1 4 5 #[.val (.ref en), .val (.ref sr), .unset] [(.ref d)]
  refine k_astoreN (Ls' := #[.val (.ref en), .val (.ref sr), .val (.ref d)]) d_ets_5 rfl rfl rfl ?_
  refine k_new d_ets_6 rfl (hw _ (List.mem_of_getElem? (i := 146) rfl)) (hw _ (List.mem_of_getElem? (i := 49) rfl)) (hw _ (List.mem_of_getElem? (i := 43) rfl)) (by decide) (by decide) ?_
  intro h2 a1 g6 E3 A4 D5
  have ne7 : d ≠ a1 := Nat.ne_of_lt (Nat.lt_of_lt_of_eq ED.lt g6.symm)
  have z8 : n0 ≤ hM.size := (Nat.le_trans Z0 KM.1)
  have ge9 : n0 ≤ a1 := Nat.le_trans z8 (Nat.le_of_eq g6.symm)
  have gl10 : hM.size ≤ a1 := Nat.le_of_eq g6.symm
  have f11 := (K0.trans KM all0)
  have gh12 := Nat.le_trans f11.1 gl10
  have F13 : Fld Z h2 a1 "java/lang/String" "value" "[B" .null := D5 (Or.inr (hw _ (List.mem_of_getElem? (i := 50) rfl))) (ty := (.array .byte)) (by decide)
  have F14 : Fld Z h2 a1 "java/lang/String" "coder" "B" (.int (0 : Int32)) := D5 (Or.inr (hw _ (List.mem_of_getElem? (i := 51) rfl))) (ty := .byte) (by decide)
  refine KW.any (P' := ([], fun _ => False)) ?_
  show KW false l Z M_ets n0 (fun v h => ∃ a t, v = some (.ref a) ∧ Keep h0 h [] ∧ Sg Z h a t [nbI (tbv ((x &&& (255 : Int32)) >>> ((2 : Int32) &&& 31))), nbI (tbv ((((x &&& (255 : Int32)) <<< ((4 : Int32) &&& 31)) &&& (63 : Int32)) ||| ((y &&& (255 : Int32)) >>> ((4 : Int32) &&& 31)))), nbI (tbv (((y &&& (255 : Int32)) <<< ((2 : Int32) &&& 31)) &&& (63 : Int32))), nar .byte (61 : Int32)]) ([], fun _ => False) h2 2 8 9 #[.val (.ref en), .val (.ref sr), .val (.ref d)] [(.ref a1)]
  refine k_dup d_ets_9 rfl rfl ?_
  refine k_aloadN d_ets_10 rfl rfl rfl ?_
  refine k_iconst (z := (0 : Int32)) d_ets_11 rfl (by decide) ?_
  refine k_iconst (z := (0 : Int32)) d_ets_12 rfl (by decide) ?_
  refine k_aloadN d_ets_13 rfl rfl rfl ?_
  have f15 := (DM.ext E3)
  refine k_arrlen d_ets_14 rfl f15 ?_
  have f16 := (f11.ext E3)
  have f17 := (ED.ext E3)
  have f18 := ((OD.keep KM all0).ext E3)
  refine k_callInit (a := a1) (argsL := [(.ref d), (.int (0 : Int32)), (.int (0 : Int32)), (.int (4 : Int32))]) (rest := [(.ref a1)]) (W0 := 1) d_ets_15 rfl (mt_sbq l Z a0 hw cs hcs SC hEW sio SIO hsio a1 d ckd [nbI (tbv ((x &&& (255 : Int32)) >>> ((2 : Int32) &&& 31))), nbI (tbv ((((x &&& (255 : Int32)) <<< ((4 : Int32) &&& 31)) &&& (63 : Int32)) ||| ((y &&& (255 : Int32)) >>> ((4 : Int32) &&& 31)))), nbI (tbv (((y &&& (255 : Int32)) <<< ((2 : Int32) &&& 31)) &&& (63 : Int32))), nar .byte (61 : Int32)] h2 n0 f18 A4 F14 F13 ge9 f15 f17 (by simp) (by simp)) Kp.strict rfl rfl (hw _ (List.mem_of_getElem? (i := 147) rfl)) (hw _ (List.mem_of_getElem? (i := 148) rfl)) (hw _ (List.mem_of_getElem? (i := 43) rfl)) (hw _ (List.mem_of_getElem? (i := 150) rfl)) (by decide) pd_sbq rfl rfl rfl rfl (by decide) (by decide) (by decide) (by decide) ?_
  rintro _ hW - ⟨rfl, KW_, t, SG⟩
  refine KW.any (P' := ([], fun _ => False)) ?_
  show KW false l Z M_ets n0 (fun v h => ∃ a t, v = some (.ref a) ∧ Keep h0 h [] ∧ Sg Z h a t [nbI (tbv ((x &&& (255 : Int32)) >>> ((2 : Int32) &&& 31))), nbI (tbv ((((x &&& (255 : Int32)) <<< ((4 : Int32) &&& 31)) &&& (63 : Int32)) ||| ((y &&& (255 : Int32)) >>> ((4 : Int32) &&& 31)))), nbI (tbv (((y &&& (255 : Int32)) <<< ((2 : Int32) &&& 31)) &&& (63 : Int32))), nar .byte (61 : Int32)]) ([], fun _ => False) hW 3 12 18 #[.val (.ref en), .val (.ref sr), .val (.ref d)] [(.ref a1)]
  have f19 := (f16.trans KW_ (allS (Or.inr gh12) all0))
  exact k_retRef d_ets_18 rfl rfl rfl (by decide) (by decide) ⟨a1, t, rfl, f19, SG⟩
theorem mt_ets_2 (l : Launch) (Z : State) (a0 : Array Value) (hw : ∀ d ∈ tables_1, d.before a0 Z = true) (cs : Int32) (hcs : ¬ cs = 0) (SC : Sta Z Z.heap "java/lang/String" "COMPACT_STRINGS" "Z" (.int cs)) (hEW : EW Z a0 EL) (sio : Value) (SIO : Sta Z Z.heap "jdk/internal/util/Preconditions" "SIOOBE_FORMATTER" "Ljava/util/function/BiFunction;" sio) (hsio : sio.isRef = true) (en : Addr) (ENC : Enc Z Z.heap en) (tb : Addr) (ckt : ClassId) (STB : Sta Z Z.heap "java/util/Base64$Encoder" "toBase64" "[C" (.ref tb)) (TB : Arv Z Z.heap tb ckt .char (64 : Int32) (T64.map Value.int) (.int 0)) (sr : Addr) (cks : ClassId) (x y : Int32) (h0 : Heap) (n0 : Nat) (OD : Old Z n0 h0) (SR : Arv Z h0 sr cks .byte (2 : Int32) [.int (x), .int (y)] (.int 0)) : Mt l Z M_ets [] n0 #[(.ref en), (.ref sr)] h0 (fun v h => ∃ a t, v = some (.ref a) ∧ Keep h0 h [] ∧ Sg Z h a t [nbI (tbv ((x &&& (255 : Int32)) >>> ((2 : Int32) &&& 31))), nbI (tbv ((((x &&& (255 : Int32)) <<< ((4 : Int32) &&& 31)) &&& (63 : Int32)) ||| ((y &&& (255 : Int32)) >>> ((4 : Int32) &&& 31)))), nbI (tbv (((y &&& (255 : Int32)) <<< ((2 : Int32) &&& 31)) &&& (63 : Int32))), nar .byte (61 : Int32)]) :=
  mt_of_kw (P := ([], fun _ => False)) pf_ets (fun m => by first | (simp [entryFrame, mkF, argsToLocals, Value.category]; done) | rfl) (kw_ets_2 l Z a0 hw cs hcs SC hEW sio SIO hsio en ENC tb ckt STB TB sr cks x y h0 n0 OD SR)
abbrev M_ete : MD := ((⟨"java/util/Base64$Encoder", "encodeToString", "([B)Ljava/lang/String;"⟩ : MethodName), jdk_2452_method_5_code, 3, (some (.object "java/lang/String")), { frames := 3, cells := 6, slots := 16, locals := 84 })
theorem d_ete_0 : decode jdk_2452_method_5_code 0 = .ok (.aload_n 0, 1) := by decide +kernel
theorem d_ete_1 : decode jdk_2452_method_5_code 1 = .ok (.aload_n 1, 1) := by decide +kernel
theorem d_ete_2 : decode jdk_2452_method_5_code 2 = .ok (.invokevirtual 61, 3) := by decide +kernel
theorem d_ete_5 : decode jdk_2452_method_5_code 5 = .ok (.astore_n 2, 1) := by decide +kernel
theorem d_ete_6 : decode jdk_2452_method_5_code 6 = .ok (.new 65, 3) := by decide +kernel
theorem d_ete_9 : decode jdk_2452_method_5_code 9 = .ok (.dup, 1) := by decide +kernel
theorem d_ete_10 : decode jdk_2452_method_5_code 10 = .ok (.aload_n 2, 1) := by decide +kernel
theorem d_ete_11 : decode jdk_2452_method_5_code 11 = .ok (.iconst 0, 1) := by decide +kernel
theorem d_ete_12 : decode jdk_2452_method_5_code 12 = .ok (.iconst 0, 1) := by decide +kernel
theorem d_ete_13 : decode jdk_2452_method_5_code 13 = .ok (.aload_n 2, 1) := by decide +kernel
theorem d_ete_14 : decode jdk_2452_method_5_code 14 = .ok (.arraylength, 1) := by decide +kernel
theorem d_ete_15 : decode jdk_2452_method_5_code 15 = .ok (.invokespecial 67, 3) := by decide +kernel
theorem d_ete_18 : decode jdk_2452_method_5_code 18 = .ok (.areturn, 1) := by decide +kernel
theorem pd_ete : parseMethodDescriptor "([B)Ljava/lang/String;" = some ⟨[(.array .byte)], (some (.object "java/lang/String"))⟩ := by decide +kernel
theorem pf_ete : plainFor (⟨"java/util/Base64$Encoder", "encodeToString", "([B)Ljava/lang/String;"⟩ : MethodName) = true := by first | exact plainFor_of_name (by first | (simp [plainName, overriddenIn]; done) | decide +kernel) | decide +kernel
set_option maxRecDepth 65536 in
set_option maxHeartbeats 40000000 in
theorem kw_ets_0 (l : Launch) (Z : State) (a0 : Array Value) (hw : ∀ d ∈ tables_1, d.before a0 Z = true) (cs : Int32) (hcs : ¬ cs = 0) (SC : Sta Z Z.heap "java/lang/String" "COMPACT_STRINGS" "Z" (.int cs)) (hEW : EW Z a0 EL) (sio : Value) (SIO : Sta Z Z.heap "jdk/internal/util/Preconditions" "SIOOBE_FORMATTER" "Ljava/util/function/BiFunction;" sio) (hsio : sio.isRef = true) (en : Addr) (ENC : Enc Z Z.heap en) (tb : Addr) (ckt : ClassId) (STB : Sta Z Z.heap "java/util/Base64$Encoder" "toBase64" "[C" (.ref tb)) (TB : Arv Z Z.heap tb ckt .char (64 : Int32) (T64.map Value.int) (.int 0)) (sr : Addr) (cks : ClassId) (h0 : Heap) (n0 : Nat) (OD : Old Z n0 h0) (SR : Arv Z h0 sr cks .byte (0 : Int32) [] (.int 0)) : KW true l Z M_ete n0 (fun v h => ∃ a t, v = some (.ref a) ∧ Keep h0 h [] ∧ Sg Z h a t []) (EL, fun _ => False) h0 0 0 0 #[.val (.ref en), .val (.ref sr), .unset] [] := by
  have EF := ENC.ext OD.2
  have Z0 := OD.1 ▸ OD.2.1
  have K0 : Keep h0 h0 [] := Keep.refl _ _
  refine k_aloadN d_ete_0 rfl rfl rfl ?_
  refine k_aloadN d_ete_1 rfl rfl rfl ?_
  refine k_callVirtual (argsL := [(.ref sr)]) (rest := []) (W0 := 0) d_ete_2 rfl (mt_enc_0 l Z a0 hw cs hcs SC hEW en ENC tb ckt STB TB sr cks  h0 n0 OD SR) (fun _ _ _ q => by obtain ⟨_, _, -, -, -, K, -⟩ := q; exact ⟨[], K, fun _ z => nomatch z⟩) EF.1 (hw _ (List.mem_of_getElem? (i := 109) rfl)) (hw _ (List.mem_of_getElem? (i := 110) rfl)) (hw _ (List.mem_of_getElem? (i := 112) rfl)) (hw _ (List.mem_of_getElem? (i := 107) rfl)) rfl (hw _ (List.mem_of_getElem? (i := 111) rfl)) (hw _ (List.mem_of_getElem? (i := 113) rfl)) (hw _ (List.mem_of_getElem? (i := 28) rfl)) (by decide) pd_enc rfl rfl rfl rfl (by decide) (by decide) (by decide) (by decide) ?_
  rintro _ hM - ⟨d, ckd, rfl, gd1, gd2, KM, ED, DM⟩
  refine KW.sub (S' := fun _ => False) (fun x hx => hx.elim) ?_
  show KW true l Z M_ete n0 (fun v h => ∃ a t, v = some (.ref a) ∧ Keep h0 h [] ∧ Sg Z h a t []) (EL, fun _ => False) hM 1 4 5 #[.val (.ref en), .val (.ref sr), .unset] [(.ref d)]
  refine k_astoreN (Ls' := #[.val (.ref en), .val (.ref sr), .val (.ref d)]) d_ete_5 rfl rfl rfl ?_
  refine k_new d_ete_6 rfl (hw _ (List.mem_of_getElem? (i := 146) rfl)) (hw _ (List.mem_of_getElem? (i := 49) rfl)) (hw _ (List.mem_of_getElem? (i := 43) rfl)) (by decide) (by decide) ?_
  intro h2 a1 g6 E3 A4 D5
  have ne7 : d ≠ a1 := Nat.ne_of_lt (Nat.lt_of_lt_of_eq ED.lt g6.symm)
  have z8 : n0 ≤ hM.size := (Nat.le_trans Z0 KM.1)
  have ge9 : n0 ≤ a1 := Nat.le_trans z8 (Nat.le_of_eq g6.symm)
  have gl10 : hM.size ≤ a1 := Nat.le_of_eq g6.symm
  have f11 := (K0.trans KM all0)
  have gh12 := Nat.le_trans f11.1 gl10
  have F13 : Fld Z h2 a1 "java/lang/String" "value" "[B" .null := D5 (Or.inr (hw _ (List.mem_of_getElem? (i := 50) rfl))) (ty := (.array .byte)) (by decide)
  have F14 : Fld Z h2 a1 "java/lang/String" "coder" "B" (.int (0 : Int32)) := D5 (Or.inr (hw _ (List.mem_of_getElem? (i := 51) rfl))) (ty := .byte) (by decide)
  refine KW.sub (S' := fun x => x = a1) (fun x hx => ?_) ?_
  · rcases hx with rfl
    · exact Or.inr ⟨gl10, A4.lt⟩
  show KW true l Z M_ete n0 (fun v h => ∃ a t, v = some (.ref a) ∧ Keep h0 h [] ∧ Sg Z h a t []) (EL, fun x => x = a1) h2 2 8 9 #[.val (.ref en), .val (.ref sr), .val (.ref d)] [(.ref a1)]
  refine k_dup d_ete_9 rfl rfl ?_
  refine k_aloadN d_ete_10 rfl rfl rfl ?_
  refine k_iconst (z := (0 : Int32)) d_ete_11 rfl (by decide) ?_
  refine k_iconst (z := (0 : Int32)) d_ete_12 rfl (by decide) ?_
  refine k_aloadN d_ete_13 rfl rfl rfl ?_
  have f15 := (DM.ext E3)
  refine k_arrlen d_ete_14 rfl f15 ?_
  have f16 := (f11.ext E3)
  have f17 := (ED.ext E3)
  have f18 := ((OD.keep KM all0).ext E3)
  refine k_callInitW (a := a1) (argsL := [(.ref d), (.int (0 : Int32)), (.int (0 : Int32)), (.int (0 : Int32))]) (rest := [(.ref a1)]) (W0 := 1) d_ete_15 rfl (mt_sbe l Z a0 hw cs hcs SC hEW sio SIO hsio a1 d ckd h2 n0 f18 A4 F14 F13 ge9 f15) rfl rfl (hw _ (List.mem_of_getElem? (i := 147) rfl)) (hw _ (List.mem_of_getElem? (i := 148) rfl)) (hw _ (List.mem_of_getElem? (i := 43) rfl)) (hw _ (List.mem_of_getElem? (i := 150) rfl)) (by decide) pd_sbe rfl rfl rfl rfl (by decide) (by decide) (by decide) (by decide) ?_
  rintro _ hW - ⟨rfl, t, SG, KW_⟩
  show KW true l Z M_ete n0 (fun v h => ∃ a t, v = some (.ref a) ∧ Keep h0 h [] ∧ Sg Z h a t []) (EL, fun x => x = a1) hW 6 16 18 #[.val (.ref en), .val (.ref sr), .val (.ref d)] [(.ref a1)]
  have f19 := (f16.trans KW_ (allS (Or.inr gh12) all0))
  exact k_retRef d_ete_18 rfl rfl rfl (by decide) (by decide) ⟨a1, t, rfl, f19, SG⟩
theorem mt_ets_0 (l : Launch) (Z : State) (a0 : Array Value) (hw : ∀ d ∈ tables_1, d.before a0 Z = true) (cs : Int32) (hcs : ¬ cs = 0) (SC : Sta Z Z.heap "java/lang/String" "COMPACT_STRINGS" "Z" (.int cs)) (hEW : EW Z a0 EL) (sio : Value) (SIO : Sta Z Z.heap "jdk/internal/util/Preconditions" "SIOOBE_FORMATTER" "Ljava/util/function/BiFunction;" sio) (hsio : sio.isRef = true) (en : Addr) (ENC : Enc Z Z.heap en) (tb : Addr) (ckt : ClassId) (STB : Sta Z Z.heap "java/util/Base64$Encoder" "toBase64" "[C" (.ref tb)) (TB : Arv Z Z.heap tb ckt .char (64 : Int32) (T64.map Value.int) (.int 0)) (sr : Addr) (cks : ClassId) (h0 : Heap) (n0 : Nat) (OD : Old Z n0 h0) (SR : Arv Z h0 sr cks .byte (0 : Int32) [] (.int 0)) : MtW l Z M_ete [] n0 #[(.ref en), (.ref sr)] (EL, fun _ => False) h0 (fun v h => ∃ a t, v = some (.ref a) ∧ Keep h0 h [] ∧ Sg Z h a t []) :=
  mtw_of_kw (a0 := a0) (P := (EL, fun _ => False)) pf_ete hEW (fun m => by first | (simp [entryFrame, mkF, argsToLocals, Value.category]; done) | rfl) (kw_ets_0 l Z a0 hw cs hcs SC hEW sio SIO hsio en ENC tb ckt STB TB sr cks  h0 n0 OD SR)
theorem own_EN (Z : State) (a0 : Array Value) (hw : ∀ d ∈ tables_1, d.before a0 Z = true) : EN Z a0 36 EL := (EN.cons (hw _ (List.mem_of_getElem? (i := 48) rfl)) (by decide +kernel) (by decide +kernel) (EN.cons (hw _ (List.mem_of_getElem? (i := 173) rfl)) (by decide +kernel) (by decide +kernel) (EN.cons (hw _ (List.mem_of_getElem? (i := 193) rfl)) (by decide +kernel) (by decide +kernel) (EN.cons (hw _ (List.mem_of_getElem? (i := 194) rfl)) (by decide +kernel) (by decide +kernel) (EN.cons (hw _ (List.mem_of_getElem? (i := 195) rfl)) (by decide +kernel) (by decide +kernel) (EN.cons (hw _ (List.mem_of_getElem? (i := 196) rfl)) (by decide +kernel) (by decide +kernel) (EN.cons (hw _ (List.mem_of_getElem? (i := 197) rfl)) (by decide +kernel) (by decide +kernel) EN.nil)))))))
theorem Sb.sfd {Z : State} {a0 : Array Value} {P : PX} {h : Heap} {b d : Addr} {N : Nat} {bs : List Int32} (E : EN Z a0 36 P.1) (S : Sb Z h b d N bs) (hN : 36 ≤ N) : Sf Z P h d := by
  obtain ⟨ck, zs, -, -, -, -, A, -, hN2⟩ := S
  exact Sf.len E A (by rw [ix_nat hN2]; exact hN)

abbrev M_gec : MD := ((⟨"java/util/Base64", "getEncoder", "()Ljava/util/Base64$Encoder;"⟩ : MethodName), jdk_2448_method_2_code, 0, (some (.object "java/util/Base64$Encoder")), { frames := 0, cells := 0, slots := 0, locals := 0 })
theorem d_gec_0 : decode jdk_2448_method_2_code 0 = .ok (.getstatic 7, 3) := by decide +kernel
theorem d_gec_3 : decode jdk_2448_method_2_code 3 = .ok (.areturn, 1) := by decide +kernel
theorem pd_gec : parseMethodDescriptor "()Ljava/util/Base64$Encoder;" = some ⟨[], (some (.object "java/util/Base64$Encoder"))⟩ := by decide +kernel
theorem pf_gec : plainFor (⟨"java/util/Base64", "getEncoder", "()Ljava/util/Base64$Encoder;"⟩ : MethodName) = true := by first | exact plainFor_of_name (by first | (simp [plainName, overriddenIn]; done) | decide +kernel) | decide +kernel
set_option maxRecDepth 65536 in
set_option maxHeartbeats 40000000 in
theorem kw_gec (l : Launch) (Z : State) (a0 : Array Value) (hw : ∀ d ∈ tables_1, d.before a0 Z = true) (cs : Int32) (hcs : ¬ cs = 0) (SC : Sta Z Z.heap "java/lang/String" "COMPACT_STRINGS" "Z" (.int cs)) (hEW : EW Z a0 EL) (en : Addr) (SEN : Sta Z Z.heap "java/util/Base64$Encoder" "RFC4648" "Ljava/util/Base64$Encoder;" (.ref en)) (h0 : Heap) (n0 : Nat) (OD : Old Z n0 h0) : KW false l Z M_gec n0 (fun v h => v = some (.ref en) ∧ h0 = h) ([], fun _ => False) h0 0 0 0 #[] [] := by
  refine k_getStatic d_gec_0 rfl (hw _ (List.mem_of_getElem? (i := 27) rfl)) (Sta.ext OD.2 SEN) ?_
  exact k_retRef d_gec_3 rfl rfl rfl (by decide) (by decide) ⟨rfl, rfl⟩
theorem mt_gec (l : Launch) (Z : State) (a0 : Array Value) (hw : ∀ d ∈ tables_1, d.before a0 Z = true) (cs : Int32) (hcs : ¬ cs = 0) (SC : Sta Z Z.heap "java/lang/String" "COMPACT_STRINGS" "Z" (.int cs)) (hEW : EW Z a0 EL) (en : Addr) (SEN : Sta Z Z.heap "java/util/Base64$Encoder" "RFC4648" "Ljava/util/Base64$Encoder;" (.ref en)) (h0 : Heap) (n0 : Nat) (OD : Old Z n0 h0) : Mt l Z M_gec [] n0 #[] h0 (fun v h => v = some (.ref en) ∧ h0 = h) :=
  mt_of_kw (P := ([], fun _ => False)) pf_gec (fun m => by first | (simp [entryFrame, mkF, argsToLocals, Value.category]; done) | rfl) (kw_gec l Z a0 hw cs hcs SC hEW en SEN h0 n0 OD)
abbrev M_cii : MD := ((⟨"com/example/custody/custody/container/ComputingInformation", "<init>", "([B[B[B[B)V"⟩ : MethodName), prog_11_method_1_code, 5, none, { frames := 1, cells := 0, slots := 0, locals := 12 })
theorem d_cii_0 : decode prog_11_method_1_code 0 = .ok (.aload_n 0, 1) := by decide +kernel
theorem d_cii_1 : decode prog_11_method_1_code 1 = .ok (.invokespecial 1, 3) := by decide +kernel
theorem d_cii_4 : decode prog_11_method_1_code 4 = .ok (.aload_n 0, 1) := by decide +kernel
theorem d_cii_5 : decode prog_11_method_1_code 5 = .ok (.aload_n 1, 1) := by decide +kernel
theorem d_cii_6 : decode prog_11_method_1_code 6 = .ok (.putfield 7, 3) := by decide +kernel
theorem d_cii_9 : decode prog_11_method_1_code 9 = .ok (.aload_n 0, 1) := by decide +kernel
theorem d_cii_10 : decode prog_11_method_1_code 10 = .ok (.aload_n 2, 1) := by decide +kernel
theorem d_cii_11 : decode prog_11_method_1_code 11 = .ok (.putfield 13, 3) := by decide +kernel
theorem d_cii_14 : decode prog_11_method_1_code 14 = .ok (.aload_n 0, 1) := by decide +kernel
theorem d_cii_15 : decode prog_11_method_1_code 15 = .ok (.aload_n 3, 1) := by decide +kernel
theorem d_cii_16 : decode prog_11_method_1_code 16 = .ok (.putfield 16, 3) := by decide +kernel
theorem d_cii_19 : decode prog_11_method_1_code 19 = .ok (.aload_n 0, 1) := by decide +kernel
theorem d_cii_20 : decode prog_11_method_1_code 20 = .ok (.aload 4, 2) := by decide +kernel
theorem d_cii_22 : decode prog_11_method_1_code 22 = .ok (.putfield 19, 3) := by decide +kernel
theorem d_cii_25 : decode prog_11_method_1_code 25 = .ok (.return_, 1) := by decide +kernel
theorem pd_cii : parseMethodDescriptor "([B[B[B[B)V" = some ⟨[(.array .byte), (.array .byte), (.array .byte), (.array .byte)], none⟩ := by decide +kernel
theorem pf_cii : plainFor (⟨"com/example/custody/custody/container/ComputingInformation", "<init>", "([B[B[B[B)V"⟩ : MethodName) = true := by first | exact plainFor_of_name (by first | (simp [plainName, overriddenIn]; done) | decide +kernel) | decide +kernel
set_option maxRecDepth 65536 in
set_option maxHeartbeats 40000000 in
theorem kw_cii (l : Launch) (Z : State) (a0 : Array Value) (hw : ∀ d ∈ tables_1, d.before a0 Z = true) (cs : Int32) (hcs : ¬ cs = 0) (SC : Sta Z Z.heap "java/lang/String" "COMPACT_STRINGS" "Z" (.int cs)) (hEW : EW Z a0 EL) (o ha pa ma ya : Addr) (h0 : Heap) (n0 : Nat) (go : n0 ≤ o) (EO : Exa Z h0 o "com/example/custody/custody/container/ComputingInformation") (G0 : Fld Z h0 o "com/example/custody/custody/container/ComputingInformation" "currentHash" "[B" .null) (G1 : Fld Z h0 o "com/example/custody/custody/container/ComputingInformation" "previousToken" "[B" .null) (G2 : Fld Z h0 o "com/example/custody/custody/container/ComputingInformation" "minusOneMonthToken" "[B" .null) (G3 : Fld Z h0 o "com/example/custody/custody/container/ComputingInformation" "minusOneYearToken" "[B" .null) : KW false l Z M_cii n0 (fun v h => v = none ∧ Keep h0 h [o] ∧ Fld Z h o "com/example/custody/custody/container/ComputingInformation" "currentHash" "[B" (.ref ha) ∧ Fld Z h o "com/example/custody/custody/container/ComputingInformation" "previousToken" "[B" (.ref pa) ∧ Fld Z h o "com/example/custody/custody/container/ComputingInformation" "minusOneMonthToken" "[B" (.ref ma) ∧ Fld Z h o "com/example/custody/custody/container/ComputingInformation" "minusOneYearToken" "[B" (.ref ya)) ([], fun _ => False) h0 0 0 0 #[.val (.ref o), .val (.ref ha), .val (.ref pa), .val (.ref ma), .val (.ref ya)] [] := by
  have K0 : Keep h0 h0 [o] := Keep.refl _ _
  refine k_aloadN d_cii_0 rfl rfl rfl ?_
  refine k_initObj (W0 := 0) d_cii_1 rfl (hw _ (List.mem_of_getElem? (i := 7) rfl)) (hw _ (List.mem_of_getElem? (i := 8) rfl)) (hw _ (List.mem_of_getElem? (i := 9) rfl)) rfl rfl (by decide) (by decide) ?_
  refine k_aloadN d_cii_4 rfl rfl rfl ?_
  refine k_aloadN d_cii_5 rfl rfl rfl ?_
  refine k_put (v' := (.ref ha)) (ty := (.array .byte)) d_cii_6 rfl (hw _ (List.mem_of_getElem? (i := 10) rfl)) Via.refl G0 EO (Or.inr ⟨(hw _ (List.mem_of_getElem? (i := 11) rfl)), rfl, rfl⟩) (hw _ (List.mem_of_getElem? (i := 2) rfl)) (by decide) rfl rfl go (fun q => by cases q) ?_
  intro h1 W2
  have F3 := G0.same W2
  show KW false l Z M_cii n0 (fun v h => v = none ∧ Keep h0 h [o] ∧ Fld Z h o "com/example/custody/custody/container/ComputingInformation" "currentHash" "[B" (.ref ha) ∧ Fld Z h o "com/example/custody/custody/container/ComputingInformation" "previousToken" "[B" (.ref pa) ∧ Fld Z h o "com/example/custody/custody/container/ComputingInformation" "minusOneMonthToken" "[B" (.ref ma) ∧ Fld Z h o "com/example/custody/custody/container/ComputingInformation" "minusOneYearToken" "[B" (.ref ya)) ([], fun _ => False) h1 0 0 9 #[.val (.ref o), .val (.ref ha), .val (.ref pa), .val (.ref ma), .val (.ref ya)] []
  refine k_aloadN d_cii_9 rfl rfl rfl ?_
  refine k_aloadN d_cii_10 rfl rfl rfl ?_
  have f6 := (G1.other W2 (Or.inr (slot_ne (t := (.array .byte)) (t' := (.array .byte)) (Or.inr (hw _ (List.mem_of_getElem? (i := 13) rfl))) (Or.inr (hw _ (List.mem_of_getElem? (i := 11) rfl))) (by decide) (by decide) (by decide))))
  have f7 := (EO.wr W2)
  refine k_put (v' := (.ref pa)) (ty := (.array .byte)) d_cii_11 rfl (hw _ (List.mem_of_getElem? (i := 12) rfl)) Via.refl f6 f7 (Or.inr ⟨(hw _ (List.mem_of_getElem? (i := 13) rfl)), rfl, rfl⟩) (hw _ (List.mem_of_getElem? (i := 2) rfl)) (by decide) rfl rfl go (fun q => by cases q) ?_
  intro h4 W5
  have F8 := f6.same W5
  show KW false l Z M_cii n0 (fun v h => v = none ∧ Keep h0 h [o] ∧ Fld Z h o "com/example/custody/custody/container/ComputingInformation" "currentHash" "[B" (.ref ha) ∧ Fld Z h o "com/example/custody/custody/container/ComputingInformation" "previousToken" "[B" (.ref pa) ∧ Fld Z h o "com/example/custody/custody/container/ComputingInformation" "minusOneMonthToken" "[B" (.ref ma) ∧ Fld Z h o "com/example/custody/custody/container/ComputingInformation" "minusOneYearToken" "[B" (.ref ya)) ([], fun _ => False) h4 0 0 14 #[.val (.ref o), .val (.ref ha), .val (.ref pa), .val (.ref ma), .val (.ref ya)] []
  refine k_aloadN d_cii_14 rfl rfl rfl ?_
  refine k_aloadN d_cii_15 rfl rfl rfl ?_
  have f11 := ((G2.other W2 (Or.inr (slot_ne (t := (.array .byte)) (t' := (.array .byte)) (Or.inr (hw _ (List.mem_of_getElem? (i := 15) rfl))) (Or.inr (hw _ (List.mem_of_getElem? (i := 11) rfl))) (by decide) (by decide) (by decide)))).other W5 (Or.inr (slot_ne (t := (.array .byte)) (t' := (.array .byte)) (Or.inr (hw _ (List.mem_of_getElem? (i := 15) rfl))) (Or.inr (hw _ (List.mem_of_getElem? (i := 13) rfl))) (by decide) (by decide) (by decide))))
  have f12 := (f7.wr W5)
  refine k_put (v' := (.ref ma)) (ty := (.array .byte)) d_cii_16 rfl (hw _ (List.mem_of_getElem? (i := 14) rfl)) Via.refl f11 f12 (Or.inr ⟨(hw _ (List.mem_of_getElem? (i := 15) rfl)), rfl, rfl⟩) (hw _ (List.mem_of_getElem? (i := 2) rfl)) (by decide) rfl rfl go (fun q => by cases q) ?_
  intro h9 W10
  have F13 := f11.same W10
  show KW false l Z M_cii n0 (fun v h => v = none ∧ Keep h0 h [o] ∧ Fld Z h o "com/example/custody/custody/container/ComputingInformation" "currentHash" "[B" (.ref ha) ∧ Fld Z h o "com/example/custody/custody/container/ComputingInformation" "previousToken" "[B" (.ref pa) ∧ Fld Z h o "com/example/custody/custody/container/ComputingInformation" "minusOneMonthToken" "[B" (.ref ma) ∧ Fld Z h o "com/example/custody/custody/container/ComputingInformation" "minusOneYearToken" "[B" (.ref ya)) ([], fun _ => False) h9 0 0 19 #[.val (.ref o), .val (.ref ha), .val (.ref pa), .val (.ref ma), .val (.ref ya)] []
  refine k_aloadN d_cii_19 rfl rfl rfl ?_
  refine k_aload d_cii_20 rfl rfl rfl ?_
  have f16 := (((G3.other W2 (Or.inr (slot_ne (t := (.array .byte)) (t' := (.array .byte)) (Or.inr (hw _ (List.mem_of_getElem? (i := 17) rfl))) (Or.inr (hw _ (List.mem_of_getElem? (i := 11) rfl))) (by decide) (by decide) (by decide)))).other W5 (Or.inr (slot_ne (t := (.array .byte)) (t' := (.array .byte)) (Or.inr (hw _ (List.mem_of_getElem? (i := 17) rfl))) (Or.inr (hw _ (List.mem_of_getElem? (i := 13) rfl))) (by decide) (by decide) (by decide)))).other W10 (Or.inr (slot_ne (t := (.array .byte)) (t' := (.array .byte)) (Or.inr (hw _ (List.mem_of_getElem? (i := 17) rfl))) (Or.inr (hw _ (List.mem_of_getElem? (i := 15) rfl))) (by decide) (by decide) (by decide))))
  have f17 := (f12.wr W10)
  refine k_put (v' := (.ref ya)) (ty := (.array .byte)) d_cii_22 rfl (hw _ (List.mem_of_getElem? (i := 16) rfl)) Via.refl f16 f17 (Or.inr ⟨(hw _ (List.mem_of_getElem? (i := 17) rfl)), rfl, rfl⟩) (hw _ (List.mem_of_getElem? (i := 2) rfl)) (by decide) rfl rfl go (fun q => by cases q) ?_
  intro h14 W15
  have F18 := f16.same W15
  show KW false l Z M_cii n0 (fun v h => v = none ∧ Keep h0 h [o] ∧ Fld Z h o "com/example/custody/custody/container/ComputingInformation" "currentHash" "[B" (.ref ha) ∧ Fld Z h o "com/example/custody/custody/container/ComputingInformation" "previousToken" "[B" (.ref pa) ∧ Fld Z h o "com/example/custody/custody/container/ComputingInformation" "minusOneMonthToken" "[B" (.ref ma) ∧ Fld Z h o "com/example/custody/custody/container/ComputingInformation" "minusOneYearToken" "[B" (.ref ya)) ([], fun _ => False) h14 0 0 25 #[.val (.ref o), .val (.ref ha), .val (.ref pa), .val (.ref ma), .val (.ref ya)] []
  have f19 := ((((K0.wr W2 (Or.inl (by simp))).wr W5 (Or.inl (by simp))).wr W10 (Or.inl (by simp))).wr W15 (Or.inl (by simp)))
  have f20 := (((F3.other W5 (Or.inr (slot_ne (t := (.array .byte)) (t' := (.array .byte)) (Or.inr (hw _ (List.mem_of_getElem? (i := 11) rfl))) (Or.inr (hw _ (List.mem_of_getElem? (i := 13) rfl))) (by decide) (by decide) (by decide)))).other W10 (Or.inr (slot_ne (t := (.array .byte)) (t' := (.array .byte)) (Or.inr (hw _ (List.mem_of_getElem? (i := 11) rfl))) (Or.inr (hw _ (List.mem_of_getElem? (i := 15) rfl))) (by decide) (by decide) (by decide)))).other W15 (Or.inr (slot_ne (t := (.array .byte)) (t' := (.array .byte)) (Or.inr (hw _ (List.mem_of_getElem? (i := 11) rfl))) (Or.inr (hw _ (List.mem_of_getElem? (i := 17) rfl))) (by decide) (by decide) (by decide))))
  have f21 := ((F8.other W10 (Or.inr (slot_ne (t := (.array .byte)) (t' := (.array .byte)) (Or.inr (hw _ (List.mem_of_getElem? (i := 13) rfl))) (Or.inr (hw _ (List.mem_of_getElem? (i := 15) rfl))) (by decide) (by decide) (by decide)))).other W15 (Or.inr (slot_ne (t := (.array .byte)) (t' := (.array .byte)) (Or.inr (hw _ (List.mem_of_getElem? (i := 13) rfl))) (Or.inr (hw _ (List.mem_of_getElem? (i := 17) rfl))) (by decide) (by decide) (by decide))))
  have f22 := (F13.other W15 (Or.inr (slot_ne (t := (.array .byte)) (t' := (.array .byte)) (Or.inr (hw _ (List.mem_of_getElem? (i := 15) rfl))) (Or.inr (hw _ (List.mem_of_getElem? (i := 17) rfl))) (by decide) (by decide) (by decide))))
  exact k_retVoid d_cii_25 rfl (by decide) (by decide) ⟨rfl, f19, f20, f21, f22, F18⟩
theorem mt_cii (l : Launch) (Z : State) (a0 : Array Value) (hw : ∀ d ∈ tables_1, d.before a0 Z = true) (cs : Int32) (hcs : ¬ cs = 0) (SC : Sta Z Z.heap "java/lang/String" "COMPACT_STRINGS" "Z" (.int cs)) (hEW : EW Z a0 EL) (o ha pa ma ya : Addr) (h0 : Heap) (n0 : Nat) (go : n0 ≤ o) (EO : Exa Z h0 o "com/example/custody/custody/container/ComputingInformation") (G0 : Fld Z h0 o "com/example/custody/custody/container/ComputingInformation" "currentHash" "[B" .null) (G1 : Fld Z h0 o "com/example/custody/custody/container/ComputingInformation" "previousToken" "[B" .null) (G2 : Fld Z h0 o "com/example/custody/custody/container/ComputingInformation" "minusOneMonthToken" "[B" .null) (G3 : Fld Z h0 o "com/example/custody/custody/container/ComputingInformation" "minusOneYearToken" "[B" .null) : Mt l Z M_cii [] n0 #[(.ref o), (.ref ha), (.ref pa), (.ref ma), (.ref ya)] h0 (fun v h => v = none ∧ Keep h0 h [o] ∧ Fld Z h o "com/example/custody/custody/container/ComputingInformation" "currentHash" "[B" (.ref ha) ∧ Fld Z h o "com/example/custody/custody/container/ComputingInformation" "previousToken" "[B" (.ref pa) ∧ Fld Z h o "com/example/custody/custody/container/ComputingInformation" "minusOneMonthToken" "[B" (.ref ma) ∧ Fld Z h o "com/example/custody/custody/container/ComputingInformation" "minusOneYearToken" "[B" (.ref ya)) :=
  mt_of_kw (P := ([], fun _ => False)) pf_cii (fun m => by first | (simp [entryFrame, mkF, argsToLocals, Value.category]; done) | rfl) (kw_cii l Z a0 hw cs hcs SC hEW o ha pa ma ya h0 n0 go EO G0 G1 G2 G3)
def TX (x y z p u w : Int32) : List Int32 := [99, 117, 114, 114, 101, 110, 116, 72, 97, 115, 104, 61, nbI (tbv ((UInt32.toInt32 (Int32.toUInt32 (w24 x y z) >>> Int32.toUInt32 ((18 : Int32) &&& 31))) &&& (63 : Int32))), nbI (tbv ((UInt32.toInt32 (Int32.toUInt32 (w24 x y z) >>> Int32.toUInt32 ((12 : Int32) &&& 31))) &&& (63 : Int32))), nbI (tbv ((UInt32.toInt32 (Int32.toUInt32 (w24 x y z) >>> Int32.toUInt32 ((6 : Int32) &&& 31))) &&& (63 : Int32))), nbI (tbv ((w24 x y z) &&& (63 : Int32))), 10, 112, 114, 101, 118, 105, 111, 117, 115, 84, 105, 109, 101, 115, 116, 97, 109, 112, 84, 111, 107, 101, 110, 61, nbI (tbv ((p &&& (255 : Int32)) >>> ((2 : Int32) &&& 31))), nbI (tbv (((p &&& (255 : Int32)) <<< ((4 : Int32) &&& 31)) &&& (63 : Int32))), nar .byte (61 : Int32), nar .byte (61 : Int32), 10, 112, 114, 101, 118, 105, 111, 117, 115, 84, 105, 109, 101, 115, 116, 97, 109, 112, 84, 111, 107, 101, 110, 77, 105, 110, 117, 115, 79, 110, 101, 77, 111, 110, 116, 104, 61, nbI (tbv ((u &&& (255 : Int32)) >>> ((2 : Int32) &&& 31))), nbI (tbv ((((u &&& (255 : Int32)) <<< ((4 : Int32) &&& 31)) &&& (63 : Int32)) ||| ((w &&& (255 : Int32)) >>> ((4 : Int32) &&& 31)))), nbI (tbv (((w &&& (255 : Int32)) <<< ((2 : Int32) &&& 31)) &&& (63 : Int32))), nar .byte (61 : Int32), 10, 112, 114, 101, 118, 105, 111, 117, 115, 84, 105, 109, 101, 115, 116, 97, 109, 112, 84, 111, 107, 101, 110, 77, 105, 110, 117, 115, 79, 110, 101, 89, 101, 97, 114, 61, 10]
abbrev M_txt : MD := ((⟨"com/example/custody/custody/container/ComputingInformation", "text", "()Ljava/lang/String;"⟩ : MethodName), prog_11_method_2_code, 2, (some (.object "java/lang/String")), { frames := 6, cells := 56, slots := 2840, locals := 144 })
theorem d_txt_0 : decode prog_11_method_2_code 0 = .ok (.invokestatic 22, 3) := by decide +kernel
theorem d_txt_3 : decode prog_11_method_2_code 3 = .ok (.astore_n 1, 1) := by decide +kernel
theorem d_txt_4 : decode prog_11_method_2_code 4 = .ok (.new 28, 3) := by decide +kernel
theorem d_txt_7 : decode prog_11_method_2_code 7 = .ok (.dup, 1) := by decide +kernel
theorem d_txt_8 : decode prog_11_method_2_code 8 = .ok (.invokespecial 30, 3) := by decide +kernel
theorem d_txt_11 : decode prog_11_method_2_code 11 = .ok (.ldc 31, 2) := by decide +kernel
theorem d_txt_13 : decode prog_11_method_2_code 13 = .ok (.invokevirtual 33, 3) := by decide +kernel
theorem d_txt_16 : decode prog_11_method_2_code 16 = .ok (.aload_n 1, 1) := by decide +kernel
theorem d_txt_17 : decode prog_11_method_2_code 17 = .ok (.aload_n 0, 1) := by decide +kernel
theorem d_txt_18 : decode prog_11_method_2_code 18 = .ok (.getfield 7, 3) := by decide +kernel
theorem d_txt_21 : decode prog_11_method_2_code 21 = .ok (.invokevirtual 37, 3) := by decide +kernel
theorem d_txt_24 : decode prog_11_method_2_code 24 = .ok (.invokevirtual 33, 3) := by decide +kernel
theorem d_txt_27 : decode prog_11_method_2_code 27 = .ok (.ldc 43, 2) := by decide +kernel
theorem d_txt_29 : decode prog_11_method_2_code 29 = .ok (.invokevirtual 33, 3) := by decide +kernel
theorem d_txt_32 : decode prog_11_method_2_code 32 = .ok (.ldc 45, 2) := by decide +kernel
theorem d_txt_34 : decode prog_11_method_2_code 34 = .ok (.invokevirtual 33, 3) := by decide +kernel
theorem d_txt_37 : decode prog_11_method_2_code 37 = .ok (.ldc 47, 2) := by decide +kernel
theorem d_txt_39 : decode prog_11_method_2_code 39 = .ok (.invokevirtual 33, 3) := by decide +kernel
theorem d_txt_42 : decode prog_11_method_2_code 42 = .ok (.aload_n 1, 1) := by decide +kernel
theorem d_txt_43 : decode prog_11_method_2_code 43 = .ok (.aload_n 0, 1) := by decide +kernel
theorem d_txt_44 : decode prog_11_method_2_code 44 = .ok (.getfield 13, 3) := by decide +kernel
theorem d_txt_47 : decode prog_11_method_2_code 47 = .ok (.invokevirtual 37, 3) := by decide +kernel
theorem d_txt_50 : decode prog_11_method_2_code 50 = .ok (.invokevirtual 33, 3) := by decide +kernel
theorem d_txt_53 : decode prog_11_method_2_code 53 = .ok (.ldc 43, 2) := by decide +kernel
theorem d_txt_55 : decode prog_11_method_2_code 55 = .ok (.invokevirtual 33, 3) := by decide +kernel
theorem d_txt_58 : decode prog_11_method_2_code 58 = .ok (.ldc 49, 2) := by decide +kernel
theorem d_txt_60 : decode prog_11_method_2_code 60 = .ok (.invokevirtual 33, 3) := by decide +kernel
theorem d_txt_63 : decode prog_11_method_2_code 63 = .ok (.ldc 47, 2) := by decide +kernel
theorem d_txt_65 : decode prog_11_method_2_code 65 = .ok (.invokevirtual 33, 3) := by decide +kernel
theorem d_txt_68 : decode prog_11_method_2_code 68 = .ok (.aload_n 1, 1) := by decide +kernel
theorem d_txt_69 : decode prog_11_method_2_code 69 = .ok (.aload_n 0, 1) := by decide +kernel
theorem d_txt_70 : decode prog_11_method_2_code 70 = .ok (.getfield 16, 3) := by decide +kernel
theorem d_txt_73 : decode prog_11_method_2_code 73 = .ok (.invokevirtual 37, 3) := by decide +kernel
theorem d_txt_76 : decode prog_11_method_2_code 76 = .ok (.invokevirtual 33, 3) := by decide +kernel
theorem d_txt_79 : decode prog_11_method_2_code 79 = .ok (.ldc 43, 2) := by decide +kernel
theorem d_txt_81 : decode prog_11_method_2_code 81 = .ok (.invokevirtual 33, 3) := by decide +kernel
theorem d_txt_84 : decode prog_11_method_2_code 84 = .ok (.ldc 51, 2) := by decide +kernel
theorem d_txt_86 : decode prog_11_method_2_code 86 = .ok (.invokevirtual 33, 3) := by decide +kernel
theorem d_txt_89 : decode prog_11_method_2_code 89 = .ok (.ldc 47, 2) := by decide +kernel
theorem d_txt_91 : decode prog_11_method_2_code 91 = .ok (.invokevirtual 33, 3) := by decide +kernel
theorem d_txt_94 : decode prog_11_method_2_code 94 = .ok (.aload_n 1, 1) := by decide +kernel
theorem d_txt_95 : decode prog_11_method_2_code 95 = .ok (.aload_n 0, 1) := by decide +kernel
theorem d_txt_96 : decode prog_11_method_2_code 96 = .ok (.getfield 19, 3) := by decide +kernel
theorem d_txt_99 : decode prog_11_method_2_code 99 = .ok (.invokevirtual 37, 3) := by decide +kernel
theorem d_txt_102 : decode prog_11_method_2_code 102 = .ok (.invokevirtual 33, 3) := by decide +kernel
theorem d_txt_105 : decode prog_11_method_2_code 105 = .ok (.ldc 43, 2) := by decide +kernel
theorem d_txt_107 : decode prog_11_method_2_code 107 = .ok (.invokevirtual 33, 3) := by decide +kernel
theorem d_txt_110 : decode prog_11_method_2_code 110 = .ok (.invokevirtual 53, 3) := by decide +kernel
theorem d_txt_113 : decode prog_11_method_2_code 113 = .ok (.areturn, 1) := by decide +kernel
theorem pd_txt : parseMethodDescriptor "()Ljava/lang/String;" = some ⟨[], (some (.object "java/lang/String"))⟩ := by decide +kernel
theorem pf_txt : plainFor (⟨"com/example/custody/custody/container/ComputingInformation", "text", "()Ljava/lang/String;"⟩ : MethodName) = true := by first | exact plainFor_of_name (by first | (simp [plainName, overriddenIn]; done) | decide +kernel) | decide +kernel
set_option maxRecDepth 65536 in
set_option maxHeartbeats 40000000 in
theorem kw_txt (l : Launch) (Z : State) (a0 : Array Value) (hw : ∀ d ∈ tables_1, d.before a0 Z = true) (cs : Int32) (hcs : ¬ cs = 0) (SC : Sta Z Z.heap "java/lang/String" "COMPACT_STRINGS" "Z" (.int cs)) (hEW : EW Z a0 EL) (sio : Value) (SIO : Sta Z Z.heap "jdk/internal/util/Preconditions" "SIOOBE_FORMATTER" "Ljava/util/function/BiFunction;" sio) (hsio : sio.isRef = true) (en : Addr) (ENC : Enc Z Z.heap en) (tb : Addr) (ckt : ClassId) (STB : Sta Z Z.heap "java/util/Base64$Encoder" "toBase64" "[C" (.ref tb)) (TB : Arv Z Z.heap tb ckt .char (64 : Int32) (T64.map Value.int) (.int 0)) (SEN : Sta Z Z.heap "java/util/Base64$Encoder" "RFC4648" "Ljava/util/Base64$Encoder;" (.ref en)) (o ha pa ma ya : Addr) (c1 c2 c3 c4 : ClassId) (x y z p u w : Int32) (h0 : Heap) (n0 : Nat) (OD : Old Z n0 h0) (FF0 : Fld Z h0 o "com/example/custody/custody/container/ComputingInformation" "currentHash" "[B" (.ref ha)) (FF1 : Fld Z h0 o "com/example/custody/custody/container/ComputingInformation" "previousToken" "[B" (.ref pa)) (FF2 : Fld Z h0 o "com/example/custody/custody/container/ComputingInformation" "minusOneMonthToken" "[B" (.ref ma)) (FF3 : Fld Z h0 o "com/example/custody/custody/container/ComputingInformation" "minusOneYearToken" "[B" (.ref ya)) (AA1 : Arv Z h0 ha c1 .byte (3 : Int32) [.int x, .int y, .int z] (.int 0)) (AA2 : Arv Z h0 pa c2 .byte (1 : Int32) [.int p] (.int 0)) (AA3 : Arv Z h0 ma c3 .byte (2 : Int32) [.int u, .int w] (.int 0)) (AA4 : Arv Z h0 ya c4 .byte (0 : Int32) [] (.int 0)) : KW true l Z M_txt n0 (fun v h => ∃ a t, v = some (.ref a) ∧ Keep h0 h [] ∧ Sg Z h a t (TX x y z p u w)) (EL, fun _ => False) h0 0 0 0 #[.val (.ref o), .unset] [] := by
  have Z0 := OD.1 ▸ OD.2.1
  have K0 : Keep h0 h0 [] := Keep.refl _ _
  refine k_callStatic (argsL := []) (rest := []) (W0 := 0) d_txt_0 rfl (mt_gec l Z a0 hw cs hcs SC hEW en SEN h0 n0 OD) (Kp.pure (fun _ _ q => q.2.symm)) (hw _ (List.mem_of_getElem? (i := 23) rfl)) (hw _ (List.mem_of_getElem? (i := 24) rfl)) (hw _ (List.mem_of_getElem? (i := 25) rfl)) (hw _ (List.mem_of_getElem? (i := 26) rfl)) (by decide) pd_gec rfl rfl rfl rfl (by decide) (by decide) (by decide) (by decide) ?_
  rintro _ _ - ⟨rfl, rfl⟩
  refine KW.sub (S' := fun _ => False) (fun x hx => hx.elim) ?_
  show KW true l Z M_txt n0 (fun v h => ∃ a t, v = some (.ref a) ∧ Keep h0 h [] ∧ Sg Z h a t (TX x y z p u w)) (EL, fun _ => False) h0 0 0 3 #[.val (.ref o), .unset] [(.ref en)]
  refine k_astoreN (Ls' := #[.val (.ref o), .val (.ref en)]) d_txt_3 rfl rfl rfl ?_
  refine k_new d_txt_4 rfl (hw _ (List.mem_of_getElem? (i := 29) rfl)) (hw _ (List.mem_of_getElem? (i := 30) rfl)) (hw _ (List.mem_of_getElem? (i := 31) rfl)) (by decide) (by decide) ?_
  intro h2 a1 g6 E3 A4 D5
  have z7 : n0 ≤ h0.size := Z0
  have ge8 : n0 ≤ a1 := Nat.le_trans z7 (Nat.le_of_eq g6.symm)
  have gl9 : h0.size ≤ a1 := Nat.le_of_eq g6.symm
  have gh10 := Nat.le_trans K0.1 gl9
  have F11 : Fld Z h2 a1 "java/lang/AbstractStringBuilder" "value" "[B" .null := D5 (Or.inl (hw _ (List.mem_of_getElem? (i := 45) rfl))) (ty := (.array .byte)) (by decide)
  have F12 : Fld Z h2 a1 "java/lang/AbstractStringBuilder" "coder" "B" (.int (0 : Int32)) := D5 (Or.inl (hw _ (List.mem_of_getElem? (i := 47) rfl))) (ty := .byte) (by decide)
  have F13 : Fld Z h2 a1 "java/lang/AbstractStringBuilder" "count" "I" (.int (0 : Int32)) := D5 (Or.inl (hw _ (List.mem_of_getElem? (i := 78) rfl))) (ty := .int) (by decide)
  refine KW.sub (S' := fun x => x = a1) (fun x hx => ?_) ?_
  · rcases hx with rfl
    · exact Or.inr ⟨gl9, A4.lt⟩
  show KW true l Z M_txt n0 (fun v h => ∃ a t, v = some (.ref a) ∧ Keep h0 h [] ∧ Sg Z h a t (TX x y z p u w)) (EL, fun x => x = a1) h2 1 4 7 #[.val (.ref o), .val (.ref en)] [(.ref a1)]
  refine k_dup d_txt_7 rfl rfl ?_
  have f14 := (K0.ext E3)
  have f15 := (OD.ext E3)
  refine k_callInit (a := a1) (argsL := []) (rest := [(.ref a1)]) (W0 := 1) d_txt_8 rfl (mt_sbi l Z a0 hw cs hcs SC hEW a1 h2 n0 f15 ge8 A4 F11 F12 F13) (fun _ _ _ q => by obtain ⟨-, _, -, -, K, -⟩ := q; exact ⟨[a1], K, allS (Sf.exa A4 (by decide) (by decide)) all0⟩) rfl rfl (hw _ (List.mem_of_getElem? (i := 32) rfl)) (hw _ (List.mem_of_getElem? (i := 33) rfl)) (hw _ (List.mem_of_getElem? (i := 31) rfl)) (hw _ (List.mem_of_getElem? (i := 34) rfl)) (by decide) pd_sbi rfl rfl rfl rfl (by decide) (by decide) (by decide) (by decide) ?_
  rintro _ hB - ⟨rfl, d, gd1, gd2, KB_, SB0⟩
  have KT0 := f14.trans KB_ (allS (Or.inr gh10) all0)
  have gh0 := Nat.le_trans f14.1 gd1
  have hb0 : a1 ≠ d := Nat.ne_of_lt (Nat.lt_of_lt_of_le A4.lt gd1)
  have hT0 : ([] : List Int32).length = 0 := rfl
  refine KW.sub (S' := fun x => x = a1 ∨ x = d) (fun x hx => ?_) ?_
  · rcases hx with rfl | rfl
    · exact Or.inl rfl
    · exact Or.inr ⟨gd1, SB0.ltv⟩
  show KW true l Z M_txt n0 (fun v h => ∃ a t, v = some (.ref a) ∧ Keep h0 h [] ∧ Sg Z h a t (TX x y z p u w)) (EL, fun x => x = a1 ∨ x = d) hB 2 20 11 #[.val (.ref o), .val (.ref en)] [(.ref a1)]
  refine k_ldcS (sl := 48) (vs := [Value.int (99 : Int32), Value.int (117 : Int32), Value.int (114 : Int32), Value.int (114 : Int32), Value.int (101 : Int32), Value.int (110 : Int32), Value.int (116 : Int32), Value.int (72 : Int32), Value.int (97 : Int32), Value.int (115 : Int32), Value.int (104 : Int32), Value.int (61 : Int32)]) (z := (12 : Int32)) d_txt_11 rfl (hw _ (List.mem_of_getElem? (i := 48) rfl)) (own_wS Z a0 hw) (List.mem_of_getElem? (i := 0) rfl) ⟨by decide +kernel, by decide +kernel⟩ (by decide) (by decide) (by decide +kernel) (by decide) (by decide) (by decide) ?_
  intro a16 b17 ck18 h19 E20 X21 F22 F23 A24 N25
  have SG26 : Sg Z h19 a16 b17 [99, 117, 114, 114, 101, 110, 116, 72, 97, 115, 104, 61] := ⟨ck18, X21, F22, F23, A24, by decide⟩
  have K27 := KT0.ext E20
  have SB28 := SB0.ext E20
  show KW true l Z M_txt n0 (fun v h => ∃ a t, v = some (.ref a) ∧ Keep h0 h [] ∧ Sg Z h a t (TX x y z p u w)) (EL, fun x => x = a1 ∨ x = d) h19 4 72 13 #[.val (.ref o), .val (.ref en)] [(.ref a16), (.ref a1)]
  have f29 := (OD.keep K27 all0)
  refine k_callVirtual (argsL := [(.ref a16)]) (rest := []) (W0 := 0) d_txt_13 rfl (mt_sas l Z a0 hw cs hcs SC hEW a1 d a16 b17 16 ([] : List Int32) [99, 117, 114, 114, 101, 110, 116, 72, 97, 115, 104, 61] h19 n0 f29 SB28 16 SG26 hb0 ge8 gd2 (Or.inl ⟨by rw [hT0]; show 0 + 12 ≤ 16; decide, rfl⟩)) (fun _ _ _ q => by obtain ⟨-, _, -, -, -, K, -⟩ := q; exact ⟨[a1, d], K, allS (Or.inl (Or.inl rfl)) (allS (Or.inl (Or.inr rfl)) all0)⟩) SB28.exa (hw _ (List.mem_of_getElem? (i := 54) rfl)) (hw _ (List.mem_of_getElem? (i := 55) rfl)) (hw _ (List.mem_of_getElem? (i := 57) rfl)) (hw _ (List.mem_of_getElem? (i := 57) rfl)) rfl (hw _ (List.mem_of_getElem? (i := 56) rfl)) (hw _ (List.mem_of_getElem? (i := 58) rfl)) (hw _ (List.mem_of_getElem? (i := 31) rfl)) (by decide) pd_sas rfl rfl rfl rfl (by decide) (by decide) (by decide) (by decide) ?_
  rintro _ h30 - ⟨rfl, e31, he32, ge33, hbe34, K35, SB36⟩
  have KT37 := K27.trans K35 (allS (Or.inr gh10) (allS (Or.inr gh0) all0))
  have gh38 : h0.size ≤ e31 := he32.elim (fun q => q ▸ gh0) (fun q => Nat.le_trans K27.1 q)
  have hT39 : (([] : List Int32) ++ [99, 117, 114, 114, 101, 110, 116, 72, 97, 115, 104, 61]).length = 12 := by rw [List.length_append, hT0]; rfl
  refine KW.sub (S' := fun x => x = a1 ∨ x = e31) (fun x hx => ?_) ?_
  · rcases hx with rfl | rfl
    · exact Or.inl (Or.inl rfl)
    · exact he32.elim (fun q => Or.inl (Or.inr q)) (fun q => Or.inr ⟨q, SB36.ltv⟩)
  show KW true l Z M_txt n0 (fun v h => ∃ a t, v = some (.ref a) ∧ Keep h0 h [] ∧ Sg Z h a t (TX x y z p u w)) (EL, fun x => x = a1 ∨ x = e31) h30 5 214 16 #[.val (.ref o), .val (.ref en)] [(.ref a1)]
  refine k_aloadN d_txt_16 rfl rfl rfl ?_
  refine k_aloadN d_txt_17 rfl rfl rfl ?_
  have f40 := (FF0.keep KT37 nin0)
  refine k_getField d_txt_18 rfl (hw _ (List.mem_of_getElem? (i := 10) rfl)) Via.refl f40 ?_
  have f41 := (AA1.keep KT37 nin0)
  have f42 := (OD.keep KT37 all0)
  have f43 := ((ENC.ext OD.2).1.keep KT37)
  refine k_callVirtual (argsL := [(.ref ha)]) (rest := [(.ref a1)]) (W0 := 1) d_txt_21 rfl (mt_ets_3 l Z a0 hw cs hcs SC hEW sio SIO hsio en ENC tb ckt STB TB ha c1 x y z h30 n0 f42 f41) (fun _ _ _ q => by obtain ⟨_, _, -, K, -⟩ := q; exact ⟨[], K, fun _ z => nomatch z⟩) f43 (hw _ (List.mem_of_getElem? (i := 104) rfl)) (hw _ (List.mem_of_getElem? (i := 105) rfl)) (hw _ (List.mem_of_getElem? (i := 107) rfl)) (hw _ (List.mem_of_getElem? (i := 107) rfl)) rfl (hw _ (List.mem_of_getElem? (i := 106) rfl)) (hw _ (List.mem_of_getElem? (i := 108) rfl)) (hw _ (List.mem_of_getElem? (i := 28) rfl)) (by decide) pd_ets rfl rfl rfl rfl (by decide) (by decide) (by decide) (by decide) ?_
  rintro _ h44 - ⟨a45, t46, rfl, K47, SG48⟩
  have KT49 := KT37.trans K47 all0
  have SB50 := SB36.keep K47 nin0 nin0
  refine KW.sub (S' := fun x => x = a1 ∨ x = e31) (fun x hx => Or.inl hx) ?_
  show KW true l Z M_txt n0 (fun v h => ∃ a t, v = some (.ref a) ∧ Keep h0 h [] ∧ Sg Z h a t (TX x y z p u w)) (EL, fun x => x = a1 ∨ x = e31) h44 8 226 24 #[.val (.ref o), .val (.ref en)] [(.ref a45), (.ref a1)]
  have f51 := (OD.keep KT49 all0)
  refine k_callVirtual (argsL := [(.ref a45)]) (rest := []) (W0 := 0) d_txt_24 rfl (mt_sas l Z a0 hw cs hcs SC hEW a1 e31 a45 t46 16 (([] : List Int32) ++ [99, 117, 114, 114, 101, 110, 116, 72, 97, 115, 104, 61]) [nbI (tbv ((UInt32.toInt32 (Int32.toUInt32 (w24 x y z) >>> Int32.toUInt32 ((18 : Int32) &&& 31))) &&& (63 : Int32))), nbI (tbv ((UInt32.toInt32 (Int32.toUInt32 (w24 x y z) >>> Int32.toUInt32 ((12 : Int32) &&& 31))) &&& (63 : Int32))), nbI (tbv ((UInt32.toInt32 (Int32.toUInt32 (w24 x y z) >>> Int32.toUInt32 ((6 : Int32) &&& 31))) &&& (63 : Int32))), nbI (tbv ((w24 x y z) &&& (63 : Int32)))] h44 n0 f51 SB50 16 SG48 hbe34 ge8 ge33 (Or.inl ⟨by rw [hT39]; show 12 + 4 ≤ 16; decide, rfl⟩)) (fun _ _ _ q => by obtain ⟨-, _, -, -, -, K, -⟩ := q; exact ⟨[a1, e31], K, allS (Or.inl (Or.inl rfl)) (allS (Or.inl (Or.inr rfl)) all0)⟩) SB50.exa (hw _ (List.mem_of_getElem? (i := 54) rfl)) (hw _ (List.mem_of_getElem? (i := 55) rfl)) (hw _ (List.mem_of_getElem? (i := 57) rfl)) (hw _ (List.mem_of_getElem? (i := 57) rfl)) rfl (hw _ (List.mem_of_getElem? (i := 56) rfl)) (hw _ (List.mem_of_getElem? (i := 58) rfl)) (hw _ (List.mem_of_getElem? (i := 31) rfl)) (by decide) pd_sas rfl rfl rfl rfl (by decide) (by decide) (by decide) (by decide) ?_
  rintro _ h52 - ⟨rfl, e53, he54, ge55, hbe56, K57, SB58⟩
  have KT59 := KT49.trans K57 (allS (Or.inr gh10) (allS (Or.inr gh38) all0))
  have gh60 : h0.size ≤ e53 := he54.elim (fun q => q ▸ gh38) (fun q => Nat.le_trans KT49.1 q)
  have hT61 : ((([] : List Int32) ++ [99, 117, 114, 114, 101, 110, 116, 72, 97, 115, 104, 61]) ++ [nbI (tbv ((UInt32.toInt32 (Int32.toUInt32 (w24 x y z) >>> Int32.toUInt32 ((18 : Int32) &&& 31))) &&& (63 : Int32))), nbI (tbv ((UInt32.toInt32 (Int32.toUInt32 (w24 x y z) >>> Int32.toUInt32 ((12 : Int32) &&& 31))) &&& (63 : Int32))), nbI (tbv ((UInt32.toInt32 (Int32.toUInt32 (w24 x y z) >>> Int32.toUInt32 ((6 : Int32) &&& 31))) &&& (63 : Int32))), nbI (tbv ((w24 x y z) &&& (63 : Int32)))]).length = 16 := by rw [List.length_append, hT39]; rfl
  refine KW.sub (S' := fun x => x = a1 ∨ x = e53) (fun x hx => ?_) ?_
  · rcases hx with rfl | rfl
    · exact Or.inl (Or.inl rfl)
    · exact he54.elim (fun q => Or.inl (Or.inr q)) (fun q => Or.inr ⟨q, SB58.ltv⟩)
  show KW true l Z M_txt n0 (fun v h => ∃ a t, v = some (.ref a) ∧ Keep h0 h [] ∧ Sg Z h a t (TX x y z p u w)) (EL, fun x => x = a1 ∨ x = e53) h52 9 368 27 #[.val (.ref o), .val (.ref en)] [(.ref a1)]
  refine k_ldcS (sl := 4) (vs := [Value.int (10 : Int32)]) (z := (1 : Int32)) d_txt_27 rfl (hw _ (List.mem_of_getElem? (i := 173) rfl)) (own_wS Z a0 hw) (List.mem_of_getElem? (i := 1) rfl) ⟨by decide +kernel, by decide +kernel⟩ (by decide) (by decide) (by decide +kernel) (by decide) (by decide) (by decide) ?_
  intro a62 b63 ck64 h65 E66 X67 F68 F69 A70 N71
  have SG72 : Sg Z h65 a62 b63 [10] := ⟨ck64, X67, F68, F69, A70, by decide⟩
  have K73 := KT59.ext E66
  have SB74 := SB58.ext E66
  show KW true l Z M_txt n0 (fun v h => ∃ a t, v = some (.ref a) ∧ Keep h0 h [] ∧ Sg Z h a t (TX x y z p u w)) (EL, fun x => x = a1 ∨ x = e53) h65 11 376 29 #[.val (.ref o), .val (.ref en)] [(.ref a62), (.ref a1)]
  have f75 := (OD.keep K73 all0)
  refine k_callVirtual (argsL := [(.ref a62)]) (rest := []) (W0 := 0) d_txt_29 rfl (mt_sas l Z a0 hw cs hcs SC hEW a1 e53 a62 b63 16 ((([] : List Int32) ++ [99, 117, 114, 114, 101, 110, 116, 72, 97, 115, 104, 61]) ++ [nbI (tbv ((UInt32.toInt32 (Int32.toUInt32 (w24 x y z) >>> Int32.toUInt32 ((18 : Int32) &&& 31))) &&& (63 : Int32))), nbI (tbv ((UInt32.toInt32 (Int32.toUInt32 (w24 x y z) >>> Int32.toUInt32 ((12 : Int32) &&& 31))) &&& (63 : Int32))), nbI (tbv ((UInt32.toInt32 (Int32.toUInt32 (w24 x y z) >>> Int32.toUInt32 ((6 : Int32) &&& 31))) &&& (63 : Int32))), nbI (tbv ((w24 x y z) &&& (63 : Int32)))]) [10] h65 n0 f75 SB74 34 SG72 hbe56 ge8 ge55 (Or.inr ⟨by rw [hT61]; show 16 < 16 + 1; decide, by rw [hT61]; show 16 + 1 ≤ 16 + (16 + 2); decide, by decide, rfl⟩)) (fun _ _ _ q => by obtain ⟨-, _, -, -, -, K, -⟩ := q; exact ⟨[a1, e53], K, allS (Or.inl (Or.inl rfl)) (allS (Or.inl (Or.inr rfl)) all0)⟩) SB74.exa (hw _ (List.mem_of_getElem? (i := 54) rfl)) (hw _ (List.mem_of_getElem? (i := 55) rfl)) (hw _ (List.mem_of_getElem? (i := 57) rfl)) (hw _ (List.mem_of_getElem? (i := 57) rfl)) rfl (hw _ (List.mem_of_getElem? (i := 56) rfl)) (hw _ (List.mem_of_getElem? (i := 58) rfl)) (hw _ (List.mem_of_getElem? (i := 31) rfl)) (by decide) pd_sas rfl rfl rfl rfl (by decide) (by decide) (by decide) (by decide) ?_
  rintro _ h76 - ⟨rfl, e77, he78, ge79, hbe80, K81, SB82⟩
  have KT83 := K73.trans K81 (allS (Or.inr gh10) (allS (Or.inr gh60) all0))
  have gh84 : h0.size ≤ e77 := he78.elim (fun q => q ▸ gh60) (fun q => Nat.le_trans K73.1 q)
  have hT85 : (((([] : List Int32) ++ [99, 117, 114, 114, 101, 110, 116, 72, 97, 115, 104, 61]) ++ [nbI (tbv ((UInt32.toInt32 (Int32.toUInt32 (w24 x y z) >>> Int32.toUInt32 ((18 : Int32) &&& 31))) &&& (63 : Int32))), nbI (tbv ((UInt32.toInt32 (Int32.toUInt32 (w24 x y z) >>> Int32.toUInt32 ((12 : Int32) &&& 31))) &&& (63 : Int32))), nbI (tbv ((UInt32.toInt32 (Int32.toUInt32 (w24 x y z) >>> Int32.toUInt32 ((6 : Int32) &&& 31))) &&& (63 : Int32))), nbI (tbv ((w24 x y z) &&& (63 : Int32)))]) ++ [10]).length = 17 := by rw [List.length_append, hT61]; rfl
  refine KW.sub (S' := fun x => x = a1 ∨ x = e77) (fun x hx => ?_) ?_
  · rcases hx with rfl | rfl
    · exact Or.inl (Or.inl rfl)
    · exact he78.elim (fun q => Or.inl (Or.inr q)) (fun q => Or.inr ⟨q, SB82.ltv⟩)
  show KW true l Z M_txt n0 (fun v h => ∃ a t, v = some (.ref a) ∧ Keep h0 h [] ∧ Sg Z h a t (TX x y z p u w)) (EL, fun x => x = a1 ∨ x = e77) h76 12 518 32 #[.val (.ref o), .val (.ref en)] [(.ref a1)]
  refine k_ldcS (sl := 88) (vs := [Value.int (112 : Int32), Value.int (114 : Int32), Value.int (101 : Int32), Value.int (118 : Int32), Value.int (105 : Int32), Value.int (111 : Int32), Value.int (117 : Int32), Value.int (115 : Int32), Value.int (84 : Int32), Value.int (105 : Int32), Value.int (109 : Int32), Value.int (101 : Int32), Value.int (115 : Int32), Value.int (116 : Int32), Value.int (97 : Int32), Value.int (109 : Int32), Value.int (112 : Int32), Value.int (84 : Int32), Value.int (111 : Int32), Value.int (107 : Int32), Value.int (101 : Int32), Value.int (110 : Int32)]) (z := (22 : Int32)) d_txt_32 rfl (hw _ (List.mem_of_getElem? (i := 193) rfl)) (own_wS Z a0 hw) (List.mem_of_getElem? (i := 2) rfl) ⟨by decide +kernel, by decide +kernel⟩ (by decide) (by decide) (by decide +kernel) (by decide) (by decide) (by decide) ?_
  intro a86 b87 ck88 h89 E90 X91 F92 F93 A94 N95
  have SG96 : Sg Z h89 a86 b87 [112, 114, 101, 118, 105, 111, 117, 115, 84, 105, 109, 101, 115, 116, 97, 109, 112, 84, 111, 107, 101, 110] := ⟨ck88, X91, F92, F93, A94, by decide⟩
  have K97 := KT83.ext E90
  have SB98 := SB82.ext E90
  show KW true l Z M_txt n0 (fun v h => ∃ a t, v = some (.ref a) ∧ Keep h0 h [] ∧ Sg Z h a t (TX x y z p u w)) (EL, fun x => x = a1 ∨ x = e77) h89 14 610 34 #[.val (.ref o), .val (.ref en)] [(.ref a86), (.ref a1)]
  have f99 := (OD.keep K97 all0)
  refine k_callVirtual (argsL := [(.ref a86)]) (rest := []) (W0 := 0) d_txt_34 rfl (mt_sas l Z a0 hw cs hcs SC hEW a1 e77 a86 b87 34 (((([] : List Int32) ++ [99, 117, 114, 114, 101, 110, 116, 72, 97, 115, 104, 61]) ++ [nbI (tbv ((UInt32.toInt32 (Int32.toUInt32 (w24 x y z) >>> Int32.toUInt32 ((18 : Int32) &&& 31))) &&& (63 : Int32))), nbI (tbv ((UInt32.toInt32 (Int32.toUInt32 (w24 x y z) >>> Int32.toUInt32 ((12 : Int32) &&& 31))) &&& (63 : Int32))), nbI (tbv ((UInt32.toInt32 (Int32.toUInt32 (w24 x y z) >>> Int32.toUInt32 ((6 : Int32) &&& 31))) &&& (63 : Int32))), nbI (tbv ((w24 x y z) &&& (63 : Int32)))]) ++ [10]) [112, 114, 101, 118, 105, 111, 117, 115, 84, 105, 109, 101, 115, 116, 97, 109, 112, 84, 111, 107, 101, 110] h89 n0 f99 SB98 70 SG96 hbe80 ge8 ge79 (Or.inr ⟨by rw [hT85]; show 34 < 17 + 22; decide, by rw [hT85]; show 17 + 22 ≤ 34 + (34 + 2); decide, by decide, rfl⟩)) (fun _ _ _ q => by obtain ⟨-, _, -, -, -, K, -⟩ := q; exact ⟨[a1, e77], K, allS (Or.inl (Or.inl rfl)) (allS (Or.inl (Or.inr rfl)) all0)⟩) SB98.exa (hw _ (List.mem_of_getElem? (i := 54) rfl)) (hw _ (List.mem_of_getElem? (i := 55) rfl)) (hw _ (List.mem_of_getElem? (i := 57) rfl)) (hw _ (List.mem_of_getElem? (i := 57) rfl)) rfl (hw _ (List.mem_of_getElem? (i := 56) rfl)) (hw _ (List.mem_of_getElem? (i := 58) rfl)) (hw _ (List.mem_of_getElem? (i := 31) rfl)) (by decide) pd_sas rfl rfl rfl rfl (by decide) (by decide) (by decide) (by decide) ?_
  rintro _ h100 - ⟨rfl, e101, he102, ge103, hbe104, K105, SB106⟩
  have KT107 := K97.trans K105 (allS (Or.inr gh10) (allS (Or.inr gh84) all0))
  have gh108 : h0.size ≤ e101 := he102.elim (fun q => q ▸ gh84) (fun q => Nat.le_trans K97.1 q)
  have hT109 : ((((([] : List Int32) ++ [99, 117, 114, 114, 101, 110, 116, 72, 97, 115, 104, 61]) ++ [nbI (tbv ((UInt32.toInt32 (Int32.toUInt32 (w24 x y z) >>> Int32.toUInt32 ((18 : Int32) &&& 31))) &&& (63 : Int32))), nbI (tbv ((UInt32.toInt32 (Int32.toUInt32 (w24 x y z) >>> Int32.toUInt32 ((12 : Int32) &&& 31))) &&& (63 : Int32))), nbI (tbv ((UInt32.toInt32 (Int32.toUInt32 (w24 x y z) >>> Int32.toUInt32 ((6 : Int32) &&& 31))) &&& (63 : Int32))), nbI (tbv ((w24 x y z) &&& (63 : Int32)))]) ++ [10]) ++ [112, 114, 101, 118, 105, 111, 117, 115, 84, 105, 109, 101, 115, 116, 97, 109, 112, 84, 111, 107, 101, 110]).length = 39 := by rw [List.length_append, hT85]; rfl
  refine KW.sub (S' := fun x => x = a1 ∨ x = e101) (fun x hx => ?_) ?_
  · rcases hx with rfl | rfl
    · exact Or.inl (Or.inl rfl)
    · exact he102.elim (fun q => Or.inl (Or.inr q)) (fun q => Or.inr ⟨q, SB106.ltv⟩)
  show KW true l Z M_txt n0 (fun v h => ∃ a t, v = some (.ref a) ∧ Keep h0 h [] ∧ Sg Z h a t (TX x y z p u w)) (EL, fun x => x = a1 ∨ x = e101) h100 15 752 37 #[.val (.ref o), .val (.ref en)] [(.ref a1)]
  refine k_ldcS (sl := 4) (vs := [Value.int (61 : Int32)]) (z := (1 : Int32)) d_txt_37 rfl (hw _ (List.mem_of_getElem? (i := 194) rfl)) (own_wS Z a0 hw) (List.mem_of_getElem? (i := 3) rfl) ⟨by decide +kernel, by decide +kernel⟩ (by decide) (by decide) (by decide +kernel) (by decide) (by decide) (by decide) ?_
  intro a110 b111 ck112 h113 E114 X115 F116 F117 A118 N119
  have SG120 : Sg Z h113 a110 b111 [61] := ⟨ck112, X115, F116, F117, A118, by decide⟩
  have K121 := KT107.ext E114
  have SB122 := SB106.ext E114
  show KW true l Z M_txt n0 (fun v h => ∃ a t, v = some (.ref a) ∧ Keep h0 h [] ∧ Sg Z h a t (TX x y z p u w)) (EL, fun x => x = a1 ∨ x = e101) h113 17 760 39 #[.val (.ref o), .val (.ref en)] [(.ref a110), (.ref a1)]
  have f123 := (OD.keep K121 all0)
  refine k_callVirtual (argsL := [(.ref a110)]) (rest := []) (W0 := 0) d_txt_39 rfl (mt_sas l Z a0 hw cs hcs SC hEW a1 e101 a110 b111 70 ((((([] : List Int32) ++ [99, 117, 114, 114, 101, 110, 116, 72, 97, 115, 104, 61]) ++ [nbI (tbv ((UInt32.toInt32 (Int32.toUInt32 (w24 x y z) >>> Int32.toUInt32 ((18 : Int32) &&& 31))) &&& (63 : Int32))), nbI (tbv ((UInt32.toInt32 (Int32.toUInt32 (w24 x y z) >>> Int32.toUInt32 ((12 : Int32) &&& 31))) &&& (63 : Int32))), nbI (tbv ((UInt32.toInt32 (Int32.toUInt32 (w24 x y z) >>> Int32.toUInt32 ((6 : Int32) &&& 31))) &&& (63 : Int32))), nbI (tbv ((w24 x y z) &&& (63 : Int32)))]) ++ [10]) ++ [112, 114, 101, 118, 105, 111, 117, 115, 84, 105, 109, 101, 115, 116, 97, 109, 112, 84, 111, 107, 101, 110]) [61] h113 n0 f123 SB122 70 SG120 hbe104 ge8 ge103 (Or.inl ⟨by rw [hT109]; show 39 + 1 ≤ 70; decide, rfl⟩)) (fun _ _ _ q => by obtain ⟨-, _, -, -, -, K, -⟩ := q; exact ⟨[a1, e101], K, allS (Or.inl (Or.inl rfl)) (allS (Or.inl (Or.inr rfl)) all0)⟩) SB122.exa (hw _ (List.mem_of_getElem? (i := 54) rfl)) (hw _ (List.mem_of_getElem? (i := 55) rfl)) (hw _ (List.mem_of_getElem? (i := 57) rfl)) (hw _ (List.mem_of_getElem? (i := 57) rfl)) rfl (hw _ (List.mem_of_getElem? (i := 56) rfl)) (hw _ (List.mem_of_getElem? (i := 58) rfl)) (hw _ (List.mem_of_getElem? (i := 31) rfl)) (by decide) pd_sas rfl rfl rfl rfl (by decide) (by decide) (by decide) (by decide) ?_
  rintro _ h124 - ⟨rfl, e125, he126, ge127, hbe128, K129, SB130⟩
  have KT131 := K121.trans K129 (allS (Or.inr gh10) (allS (Or.inr gh108) all0))
  have gh132 : h0.size ≤ e125 := he126.elim (fun q => q ▸ gh108) (fun q => Nat.le_trans K121.1 q)
  have hT133 : (((((([] : List Int32) ++ [99, 117, 114, 114, 101, 110, 116, 72, 97, 115, 104, 61]) ++ [nbI (tbv ((UInt32.toInt32 (Int32.toUInt32 (w24 x y z) >>> Int32.toUInt32 ((18 : Int32) &&& 31))) &&& (63 : Int32))), nbI (tbv ((UInt32.toInt32 (Int32.toUInt32 (w24 x y z) >>> Int32.toUInt32 ((12 : Int32) &&& 31))) &&& (63 : Int32))), nbI (tbv ((UInt32.toInt32 (Int32.toUInt32 (w24 x y z) >>> Int32.toUInt32 ((6 : Int32) &&& 31))) &&& (63 : Int32))), nbI (tbv ((w24 x y z) &&& (63 : Int32)))]) ++ [10]) ++ [112, 114, 101, 118, 105, 111, 117, 115, 84, 105, 109, 101, 115, 116, 97, 109, 112, 84, 111, 107, 101, 110]) ++ [61]).length = 40 := by rw [List.length_append, hT109]; rfl
  refine KW.sub (S' := fun x => x = a1 ∨ x = e125) (fun x hx => ?_) ?_
  · rcases hx with rfl | rfl
    · exact Or.inl (Or.inl rfl)
    · exact he126.elim (fun q => Or.inl (Or.inr q)) (fun q => Or.inr ⟨q, SB130.ltv⟩)
  show KW true l Z M_txt n0 (fun v h => ∃ a t, v = some (.ref a) ∧ Keep h0 h [] ∧ Sg Z h a t (TX x y z p u w)) (EL, fun x => x = a1 ∨ x = e125) h124 18 902 42 #[.val (.ref o), .val (.ref en)] [(.ref a1)]
  refine k_aloadN d_txt_42 rfl rfl rfl ?_
  refine k_aloadN d_txt_43 rfl rfl rfl ?_
  have f134 := (FF1.keep KT131 nin0)
  refine k_getField d_txt_44 rfl (hw _ (List.mem_of_getElem? (i := 12) rfl)) Via.refl f134 ?_
  have f135 := (AA2.keep KT131 nin0)
  have f136 := (OD.keep KT131 all0)
  have f137 := ((ENC.ext OD.2).1.keep KT131)
  refine k_callVirtual (argsL := [(.ref pa)]) (rest := [(.ref a1)]) (W0 := 1) d_txt_47 rfl (mt_ets_1 l Z a0 hw cs hcs SC hEW sio SIO hsio en ENC tb ckt STB TB pa c2 p h124 n0 f136 f135) (fun _ _ _ q => by obtain ⟨_, _, -, K, -⟩ := q; exact ⟨[], K, fun _ z => nomatch z⟩) f137 (hw _ (List.mem_of_getElem? (i := 104) rfl)) (hw _ (List.mem_of_getElem? (i := 105) rfl)) (hw _ (List.mem_of_getElem? (i := 107) rfl)) (hw _ (List.mem_of_getElem? (i := 107) rfl)) rfl (hw _ (List.mem_of_getElem? (i := 106) rfl)) (hw _ (List.mem_of_getElem? (i := 108) rfl)) (hw _ (List.mem_of_getElem? (i := 28) rfl)) (by decide) pd_ets rfl rfl rfl rfl (by decide) (by decide) (by decide) (by decide) ?_
  rintro _ h138 - ⟨a139, t140, rfl, K141, SG142⟩
  have KT143 := KT131.trans K141 all0
  have SB144 := SB130.keep K141 nin0 nin0
  refine KW.sub (S' := fun x => x = a1 ∨ x = e125) (fun x hx => Or.inl hx) ?_
  show KW true l Z M_txt n0 (fun v h => ∃ a t, v = some (.ref a) ∧ Keep h0 h [] ∧ Sg Z h a t (TX x y z p u w)) (EL, fun x => x = a1 ∨ x = e125) h138 21 914 50 #[.val (.ref o), .val (.ref en)] [(.ref a139), (.ref a1)]
  have f145 := (OD.keep KT143 all0)
  refine k_callVirtual (argsL := [(.ref a139)]) (rest := []) (W0 := 0) d_txt_50 rfl (mt_sas l Z a0 hw cs hcs SC hEW a1 e125 a139 t140 70 (((((([] : List Int32) ++ [99, 117, 114, 114, 101, 110, 116, 72, 97, 115, 104, 61]) ++ [nbI (tbv ((UInt32.toInt32 (Int32.toUInt32 (w24 x y z) >>> Int32.toUInt32 ((18 : Int32) &&& 31))) &&& (63 : Int32))), nbI (tbv ((UInt32.toInt32 (Int32.toUInt32 (w24 x y z) >>> Int32.toUInt32 ((12 : Int32) &&& 31))) &&& (63 : Int32))), nbI (tbv ((UInt32.toInt32 (Int32.toUInt32 (w24 x y z) >>> Int32.toUInt32 ((6 : Int32) &&& 31))) &&& (63 : Int32))), nbI (tbv ((w24 x y z) &&& (63 : Int32)))]) ++ [10]) ++ [112, 114, 101, 118, 105, 111, 117, 115, 84, 105, 109, 101, 115, 116, 97, 109, 112, 84, 111, 107, 101, 110]) ++ [61]) [nbI (tbv ((p &&& (255 : Int32)) >>> ((2 : Int32) &&& 31))), nbI (tbv (((p &&& (255 : Int32)) <<< ((4 : Int32) &&& 31)) &&& (63 : Int32))), nar .byte (61 : Int32), nar .byte (61 : Int32)] h138 n0 f145 SB144 70 SG142 hbe128 ge8 ge127 (Or.inl ⟨by rw [hT133]; show 40 + 4 ≤ 70; decide, rfl⟩)) (fun _ _ _ q => by obtain ⟨-, _, -, -, -, K, -⟩ := q; exact ⟨[a1, e125], K, allS (Or.inl (Or.inl rfl)) (allS (Or.inl (Or.inr rfl)) all0)⟩) SB144.exa (hw _ (List.mem_of_getElem? (i := 54) rfl)) (hw _ (List.mem_of_getElem? (i := 55) rfl)) (hw _ (List.mem_of_getElem? (i := 57) rfl)) (hw _ (List.mem_of_getElem? (i := 57) rfl)) rfl (hw _ (List.mem_of_getElem? (i := 56) rfl)) (hw _ (List.mem_of_getElem? (i := 58) rfl)) (hw _ (List.mem_of_getElem? (i := 31) rfl)) (by decide) pd_sas rfl rfl rfl rfl (by decide) (by decide) (by decide) (by decide) ?_
  rintro _ h146 - ⟨rfl, e147, he148, ge149, hbe150, K151, SB152⟩
  have KT153 := KT143.trans K151 (allS (Or.inr gh10) (allS (Or.inr gh132) all0))
  have gh154 : h0.size ≤ e147 := he148.elim (fun q => q ▸ gh132) (fun q => Nat.le_trans KT143.1 q)
  have hT155 : ((((((([] : List Int32) ++ [99, 117, 114, 114, 101, 110, 116, 72, 97, 115, 104, 61]) ++ [nbI (tbv ((UInt32.toInt32 (Int32.toUInt32 (w24 x y z) >>> Int32.toUInt32 ((18 : Int32) &&& 31))) &&& (63 : Int32))), nbI (tbv ((UInt32.toInt32 (Int32.toUInt32 (w24 x y z) >>> Int32.toUInt32 ((12 : Int32) &&& 31))) &&& (63 : Int32))), nbI (tbv ((UInt32.toInt32 (Int32.toUInt32 (w24 x y z) >>> Int32.toUInt32 ((6 : Int32) &&& 31))) &&& (63 : Int32))), nbI (tbv ((w24 x y z) &&& (63 : Int32)))]) ++ [10]) ++ [112, 114, 101, 118, 105, 111, 117, 115, 84, 105, 109, 101, 115, 116, 97, 109, 112, 84, 111, 107, 101, 110]) ++ [61]) ++ [nbI (tbv ((p &&& (255 : Int32)) >>> ((2 : Int32) &&& 31))), nbI (tbv (((p &&& (255 : Int32)) <<< ((4 : Int32) &&& 31)) &&& (63 : Int32))), nar .byte (61 : Int32), nar .byte (61 : Int32)]).length = 44 := by rw [List.length_append, hT133]; rfl
  refine KW.sub (S' := fun x => x = a1 ∨ x = e147) (fun x hx => ?_) ?_
  · rcases hx with rfl | rfl
    · exact Or.inl (Or.inl rfl)
    · exact he148.elim (fun q => Or.inl (Or.inr q)) (fun q => Or.inr ⟨q, SB152.ltv⟩)
  show KW true l Z M_txt n0 (fun v h => ∃ a t, v = some (.ref a) ∧ Keep h0 h [] ∧ Sg Z h a t (TX x y z p u w)) (EL, fun x => x = a1 ∨ x = e147) h146 22 1056 53 #[.val (.ref o), .val (.ref en)] [(.ref a1)]
  refine k_ldcS (sl := 4) (vs := [Value.int (10 : Int32)]) (z := (1 : Int32)) d_txt_53 rfl (hw _ (List.mem_of_getElem? (i := 173) rfl)) (own_wS Z a0 hw) (List.mem_of_getElem? (i := 1) rfl) ⟨by decide +kernel, by decide +kernel⟩ (by decide) (by decide) (by decide +kernel) (by decide) (by decide) (by decide) ?_
  intro a156 b157 ck158 h159 E160 X161 F162 F163 A164 N165
  have SG166 : Sg Z h159 a156 b157 [10] := ⟨ck158, X161, F162, F163, A164, by decide⟩
  have K167 := KT153.ext E160
  have SB168 := SB152.ext E160
  show KW true l Z M_txt n0 (fun v h => ∃ a t, v = some (.ref a) ∧ Keep h0 h [] ∧ Sg Z h a t (TX x y z p u w)) (EL, fun x => x = a1 ∨ x = e147) h159 24 1064 55 #[.val (.ref o), .val (.ref en)] [(.ref a156), (.ref a1)]
  have f169 := (OD.keep K167 all0)
  refine k_callVirtual (argsL := [(.ref a156)]) (rest := []) (W0 := 0) d_txt_55 rfl (mt_sas l Z a0 hw cs hcs SC hEW a1 e147 a156 b157 70 ((((((([] : List Int32) ++ [99, 117, 114, 114, 101, 110, 116, 72, 97, 115, 104, 61]) ++ [nbI (tbv ((UInt32.toInt32 (Int32.toUInt32 (w24 x y z) >>> Int32.toUInt32 ((18 : Int32) &&& 31))) &&& (63 : Int32))), nbI (tbv ((UInt32.toInt32 (Int32.toUInt32 (w24 x y z) >>> Int32.toUInt32 ((12 : Int32) &&& 31))) &&& (63 : Int32))), nbI (tbv ((UInt32.toInt32 (Int32.toUInt32 (w24 x y z) >>> Int32.toUInt32 ((6 : Int32) &&& 31))) &&& (63 : Int32))), nbI (tbv ((w24 x y z) &&& (63 : Int32)))]) ++ [10]) ++ [112, 114, 101, 118, 105, 111, 117, 115, 84, 105, 109, 101, 115, 116, 97, 109, 112, 84, 111, 107, 101, 110]) ++ [61]) ++ [nbI (tbv ((p &&& (255 : Int32)) >>> ((2 : Int32) &&& 31))), nbI (tbv (((p &&& (255 : Int32)) <<< ((4 : Int32) &&& 31)) &&& (63 : Int32))), nar .byte (61 : Int32), nar .byte (61 : Int32)]) [10] h159 n0 f169 SB168 70 SG166 hbe150 ge8 ge149 (Or.inl ⟨by rw [hT155]; show 44 + 1 ≤ 70; decide, rfl⟩)) (fun _ _ _ q => by obtain ⟨-, _, -, -, -, K, -⟩ := q; exact ⟨[a1, e147], K, allS (Or.inl (Or.inl rfl)) (allS (Or.inl (Or.inr rfl)) all0)⟩) SB168.exa (hw _ (List.mem_of_getElem? (i := 54) rfl)) (hw _ (List.mem_of_getElem? (i := 55) rfl)) (hw _ (List.mem_of_getElem? (i := 57) rfl)) (hw _ (List.mem_of_getElem? (i := 57) rfl)) rfl (hw _ (List.mem_of_getElem? (i := 56) rfl)) (hw _ (List.mem_of_getElem? (i := 58) rfl)) (hw _ (List.mem_of_getElem? (i := 31) rfl)) (by decide) pd_sas rfl rfl rfl rfl (by decide) (by decide) (by decide) (by decide) ?_
  rintro _ h170 - ⟨rfl, e171, he172, ge173, hbe174, K175, SB176⟩
  have KT177 := K167.trans K175 (allS (Or.inr gh10) (allS (Or.inr gh154) all0))
  have gh178 : h0.size ≤ e171 := he172.elim (fun q => q ▸ gh154) (fun q => Nat.le_trans K167.1 q)
  have hT179 : (((((((([] : List Int32) ++ [99, 117, 114, 114, 101, 110, 116, 72, 97, 115, 104, 61]) ++ [nbI (tbv ((UInt32.toInt32 (Int32.toUInt32 (w24 x y z) >>> Int32.toUInt32 ((18 : Int32) &&& 31))) &&& (63 : Int32))), nbI (tbv ((UInt32.toInt32 (Int32.toUInt32 (w24 x y z) >>> Int32.toUInt32 ((12 : Int32) &&& 31))) &&& (63 : Int32))), nbI (tbv ((UInt32.toInt32 (Int32.toUInt32 (w24 x y z) >>> Int32.toUInt32 ((6 : Int32) &&& 31))) &&& (63 : Int32))), nbI (tbv ((w24 x y z) &&& (63 : Int32)))]) ++ [10]) ++ [112, 114, 101, 118, 105, 111, 117, 115, 84, 105, 109, 101, 115, 116, 97, 109, 112, 84, 111, 107, 101, 110]) ++ [61]) ++ [nbI (tbv ((p &&& (255 : Int32)) >>> ((2 : Int32) &&& 31))), nbI (tbv (((p &&& (255 : Int32)) <<< ((4 : Int32) &&& 31)) &&& (63 : Int32))), nar .byte (61 : Int32), nar .byte (61 : Int32)]) ++ [10]).length = 45 := by rw [List.length_append, hT155]; rfl
  refine KW.sub (S' := fun x => x = a1 ∨ x = e171) (fun x hx => ?_) ?_
  · rcases hx with rfl | rfl
    · exact Or.inl (Or.inl rfl)
    · exact he172.elim (fun q => Or.inl (Or.inr q)) (fun q => Or.inr ⟨q, SB176.ltv⟩)
  show KW true l Z M_txt n0 (fun v h => ∃ a t, v = some (.ref a) ∧ Keep h0 h [] ∧ Sg Z h a t (TX x y z p u w)) (EL, fun x => x = a1 ∨ x = e171) h170 25 1206 58 #[.val (.ref o), .val (.ref en)] [(.ref a1)]
  refine k_ldcS (sl := 140) (vs := [Value.int (112 : Int32), Value.int (114 : Int32), Value.int (101 : Int32), Value.int (118 : Int32), Value.int (105 : Int32), Value.int (111 : Int32), Value.int (117 : Int32), Value.int (115 : Int32), Value.int (84 : Int32), Value.int (105 : Int32), Value.int (109 : Int32), Value.int (101 : Int32), Value.int (115 : Int32), Value.int (116 : Int32), Value.int (97 : Int32), Value.int (109 : Int32), Value.int (112 : Int32), Value.int (84 : Int32), Value.int (111 : Int32), Value.int (107 : Int32), Value.int (101 : Int32), Value.int (110 : Int32), Value.int (77 : Int32), Value.int (105 : Int32), Value.int (110 : Int32), Value.int (117 : Int32), Value.int (115 : Int32), Value.int (79 : Int32), Value.int (110 : Int32), Value.int (101 : Int32), Value.int (77 : Int32), Value.int (111 : Int32), Value.int (110 : Int32), Value.int (116 : Int32), Value.int (104 : Int32)]) (z := (35 : Int32)) d_txt_58 rfl (hw _ (List.mem_of_getElem? (i := 195) rfl)) (own_wS Z a0 hw) (List.mem_of_getElem? (i := 4) rfl) ⟨by decide +kernel, by decide +kernel⟩ (by decide) (by decide) (by decide +kernel) (by decide) (by decide) (by decide) ?_
  intro a180 b181 ck182 h183 E184 X185 F186 F187 A188 N189
  have SG190 : Sg Z h183 a180 b181 [112, 114, 101, 118, 105, 111, 117, 115, 84, 105, 109, 101, 115, 116, 97, 109, 112, 84, 111, 107, 101, 110, 77, 105, 110, 117, 115, 79, 110, 101, 77, 111, 110, 116, 104] := ⟨ck182, X185, F186, F187, A188, by decide⟩
  have K191 := KT177.ext E184
  have SB192 := SB176.ext E184
  show KW true l Z M_txt n0 (fun v h => ∃ a t, v = some (.ref a) ∧ Keep h0 h [] ∧ Sg Z h a t (TX x y z p u w)) (EL, fun x => x = a1 ∨ x = e171) h183 27 1350 60 #[.val (.ref o), .val (.ref en)] [(.ref a180), (.ref a1)]
  have f193 := (OD.keep K191 all0)
  refine k_callVirtual (argsL := [(.ref a180)]) (rest := []) (W0 := 0) d_txt_60 rfl (mt_sas l Z a0 hw cs hcs SC hEW a1 e171 a180 b181 70 (((((((([] : List Int32) ++ [99, 117, 114, 114, 101, 110, 116, 72, 97, 115, 104, 61]) ++ [nbI (tbv ((UInt32.toInt32 (Int32.toUInt32 (w24 x y z) >>> Int32.toUInt32 ((18 : Int32) &&& 31))) &&& (63 : Int32))), nbI (tbv ((UInt32.toInt32 (Int32.toUInt32 (w24 x y z) >>> Int32.toUInt32 ((12 : Int32) &&& 31))) &&& (63 : Int32))), nbI (tbv ((UInt32.toInt32 (Int32.toUInt32 (w24 x y z) >>> Int32.toUInt32 ((6 : Int32) &&& 31))) &&& (63 : Int32))), nbI (tbv ((w24 x y z) &&& (63 : Int32)))]) ++ [10]) ++ [112, 114, 101, 118, 105, 111, 117, 115, 84, 105, 109, 101, 115, 116, 97, 109, 112, 84, 111, 107, 101, 110]) ++ [61]) ++ [nbI (tbv ((p &&& (255 : Int32)) >>> ((2 : Int32) &&& 31))), nbI (tbv (((p &&& (255 : Int32)) <<< ((4 : Int32) &&& 31)) &&& (63 : Int32))), nar .byte (61 : Int32), nar .byte (61 : Int32)]) ++ [10]) [112, 114, 101, 118, 105, 111, 117, 115, 84, 105, 109, 101, 115, 116, 97, 109, 112, 84, 111, 107, 101, 110, 77, 105, 110, 117, 115, 79, 110, 101, 77, 111, 110, 116, 104] h183 n0 f193 SB192 142 SG190 hbe174 ge8 ge173 (Or.inr ⟨by rw [hT179]; show 70 < 45 + 35; decide, by rw [hT179]; show 45 + 35 ≤ 70 + (70 + 2); decide, by decide, rfl⟩)) (fun _ _ _ q => by obtain ⟨-, _, -, -, -, K, -⟩ := q; exact ⟨[a1, e171], K, allS (Or.inl (Or.inl rfl)) (allS (Or.inl (Or.inr rfl)) all0)⟩) SB192.exa (hw _ (List.mem_of_getElem? (i := 54) rfl)) (hw _ (List.mem_of_getElem? (i := 55) rfl)) (hw _ (List.mem_of_getElem? (i := 57) rfl)) (hw _ (List.mem_of_getElem? (i := 57) rfl)) rfl (hw _ (List.mem_of_getElem? (i := 56) rfl)) (hw _ (List.mem_of_getElem? (i := 58) rfl)) (hw _ (List.mem_of_getElem? (i := 31) rfl)) (by decide) pd_sas rfl rfl rfl rfl (by decide) (by decide) (by decide) (by decide) ?_
  rintro _ h194 - ⟨rfl, e195, he196, ge197, hbe198, K199, SB200⟩
  have KT201 := K191.trans K199 (allS (Or.inr gh10) (allS (Or.inr gh178) all0))
  have gh202 : h0.size ≤ e195 := he196.elim (fun q => q ▸ gh178) (fun q => Nat.le_trans K191.1 q)
  have hT203 : ((((((((([] : List Int32) ++ [99, 117, 114, 114, 101, 110, 116, 72, 97, 115, 104, 61]) ++ [nbI (tbv ((UInt32.toInt32 (Int32.toUInt32 (w24 x y z) >>> Int32.toUInt32 ((18 : Int32) &&& 31))) &&& (63 : Int32))), nbI (tbv ((UInt32.toInt32 (Int32.toUInt32 (w24 x y z) >>> Int32.toUInt32 ((12 : Int32) &&& 31))) &&& (63 : Int32))), nbI (tbv ((UInt32.toInt32 (Int32.toUInt32 (w24 x y z) >>> Int32.toUInt32 ((6 : Int32) &&& 31))) &&& (63 : Int32))), nbI (tbv ((w24 x y z) &&& (63 : Int32)))]) ++ [10]) ++ [112, 114, 101, 118, 105, 111, 117, 115, 84, 105, 109, 101, 115, 116, 97, 109, 112, 84, 111, 107, 101, 110]) ++ [61]) ++ [nbI (tbv ((p &&& (255 : Int32)) >>> ((2 : Int32) &&& 31))), nbI (tbv (((p &&& (255 : Int32)) <<< ((4 : Int32) &&& 31)) &&& (63 : Int32))), nar .byte (61 : Int32), nar .byte (61 : Int32)]) ++ [10]) ++ [112, 114, 101, 118, 105, 111, 117, 115, 84, 105, 109, 101, 115, 116, 97, 109, 112, 84, 111, 107, 101, 110, 77, 105, 110, 117, 115, 79, 110, 101, 77, 111, 110, 116, 104]).length = 80 := by rw [List.length_append, hT179]; rfl
  refine KW.sub (S' := fun x => x = a1 ∨ x = e195) (fun x hx => ?_) ?_
  · rcases hx with rfl | rfl
    · exact Or.inl (Or.inl rfl)
    · exact he196.elim (fun q => Or.inl (Or.inr q)) (fun q => Or.inr ⟨q, SB200.ltv⟩)
  show KW true l Z M_txt n0 (fun v h => ∃ a t, v = some (.ref a) ∧ Keep h0 h [] ∧ Sg Z h a t (TX x y z p u w)) (EL, fun x => x = a1 ∨ x = e195) h194 28 1492 63 #[.val (.ref o), .val (.ref en)] [(.ref a1)]
  refine k_ldcS (sl := 4) (vs := [Value.int (61 : Int32)]) (z := (1 : Int32)) d_txt_63 rfl (hw _ (List.mem_of_getElem? (i := 194) rfl)) (own_wS Z a0 hw) (List.mem_of_getElem? (i := 3) rfl) ⟨by decide +kernel, by decide +kernel⟩ (by decide) (by decide) (by decide +kernel) (by decide) (by decide) (by decide) ?_
  intro a204 b205 ck206 h207 E208 X209 F210 F211 A212 N213
  have SG214 : Sg Z h207 a204 b205 [61] := ⟨ck206, X209, F210, F211, A212, by decide⟩
  have K215 := KT201.ext E208
  have SB216 := SB200.ext E208
  show KW true l Z M_txt n0 (fun v h => ∃ a t, v = some (.ref a) ∧ Keep h0 h [] ∧ Sg Z h a t (TX x y z p u w)) (EL, fun x => x = a1 ∨ x = e195) h207 30 1500 65 #[.val (.ref o), .val (.ref en)] [(.ref a204), (.ref a1)]
  have f217 := (OD.keep K215 all0)
  refine k_callVirtual (argsL := [(.ref a204)]) (rest := []) (W0 := 0) d_txt_65 rfl (mt_sas l Z a0 hw cs hcs SC hEW a1 e195 a204 b205 142 ((((((((([] : List Int32) ++ [99, 117, 114, 114, 101, 110, 116, 72, 97, 115, 104, 61]) ++ [nbI (tbv ((UInt32.toInt32 (Int32.toUInt32 (w24 x y z) >>> Int32.toUInt32 ((18 : Int32) &&& 31))) &&& (63 : Int32))), nbI (tbv ((UInt32.toInt32 (Int32.toUInt32 (w24 x y z) >>> Int32.toUInt32 ((12 : Int32) &&& 31))) &&& (63 : Int32))), nbI (tbv ((UInt32.toInt32 (Int32.toUInt32 (w24 x y z) >>> Int32.toUInt32 ((6 : Int32) &&& 31))) &&& (63 : Int32))), nbI (tbv ((w24 x y z) &&& (63 : Int32)))]) ++ [10]) ++ [112, 114, 101, 118, 105, 111, 117, 115, 84, 105, 109, 101, 115, 116, 97, 109, 112, 84, 111, 107, 101, 110]) ++ [61]) ++ [nbI (tbv ((p &&& (255 : Int32)) >>> ((2 : Int32) &&& 31))), nbI (tbv (((p &&& (255 : Int32)) <<< ((4 : Int32) &&& 31)) &&& (63 : Int32))), nar .byte (61 : Int32), nar .byte (61 : Int32)]) ++ [10]) ++ [112, 114, 101, 118, 105, 111, 117, 115, 84, 105, 109, 101, 115, 116, 97, 109, 112, 84, 111, 107, 101, 110, 77, 105, 110, 117, 115, 79, 110, 101, 77, 111, 110, 116, 104]) [61] h207 n0 f217 SB216 142 SG214 hbe198 ge8 ge197 (Or.inl ⟨by rw [hT203]; show 80 + 1 ≤ 142; decide, rfl⟩)) (fun _ _ _ q => by obtain ⟨-, _, -, -, -, K, -⟩ := q; exact ⟨[a1, e195], K, allS (Or.inl (Or.inl rfl)) (allS (Or.inl (Or.inr rfl)) all0)⟩) SB216.exa (hw _ (List.mem_of_getElem? (i := 54) rfl)) (hw _ (List.mem_of_getElem? (i := 55) rfl)) (hw _ (List.mem_of_getElem? (i := 57) rfl)) (hw _ (List.mem_of_getElem? (i := 57) rfl)) rfl (hw _ (List.mem_of_getElem? (i := 56) rfl)) (hw _ (List.mem_of_getElem? (i := 58) rfl)) (hw _ (List.mem_of_getElem? (i := 31) rfl)) (by decide) pd_sas rfl rfl rfl rfl (by decide) (by decide) (by decide) (by decide) ?_
  rintro _ h218 - ⟨rfl, e219, he220, ge221, hbe222, K223, SB224⟩
  have KT225 := K215.trans K223 (allS (Or.inr gh10) (allS (Or.inr gh202) all0))
  have gh226 : h0.size ≤ e219 := he220.elim (fun q => q ▸ gh202) (fun q => Nat.le_trans K215.1 q)
  have hT227 : (((((((((([] : List Int32) ++ [99, 117, 114, 114, 101, 110, 116, 72, 97, 115, 104, 61]) ++ [nbI (tbv ((UInt32.toInt32 (Int32.toUInt32 (w24 x y z) >>> Int32.toUInt32 ((18 : Int32) &&& 31))) &&& (63 : Int32))), nbI (tbv ((UInt32.toInt32 (Int32.toUInt32 (w24 x y z) >>> Int32.toUInt32 ((12 : Int32) &&& 31))) &&& (63 : Int32))), nbI (tbv ((UInt32.toInt32 (Int32.toUInt32 (w24 x y z) >>> Int32.toUInt32 ((6 : Int32) &&& 31))) &&& (63 : Int32))), nbI (tbv ((w24 x y z) &&& (63 : Int32)))]) ++ [10]) ++ [112, 114, 101, 118, 105, 111, 117, 115, 84, 105, 109, 101, 115, 116, 97, 109, 112, 84, 111, 107, 101, 110]) ++ [61]) ++ [nbI (tbv ((p &&& (255 : Int32)) >>> ((2 : Int32) &&& 31))), nbI (tbv (((p &&& (255 : Int32)) <<< ((4 : Int32) &&& 31)) &&& (63 : Int32))), nar .byte (61 : Int32), nar .byte (61 : Int32)]) ++ [10]) ++ [112, 114, 101, 118, 105, 111, 117, 115, 84, 105, 109, 101, 115, 116, 97, 109, 112, 84, 111, 107, 101, 110, 77, 105, 110, 117, 115, 79, 110, 101, 77, 111, 110, 116, 104]) ++ [61]).length = 81 := by rw [List.length_append, hT203]; rfl
  refine KW.sub (S' := fun x => x = a1 ∨ x = e219) (fun x hx => ?_) ?_
  · rcases hx with rfl | rfl
    · exact Or.inl (Or.inl rfl)
    · exact he220.elim (fun q => Or.inl (Or.inr q)) (fun q => Or.inr ⟨q, SB224.ltv⟩)
  show KW true l Z M_txt n0 (fun v h => ∃ a t, v = some (.ref a) ∧ Keep h0 h [] ∧ Sg Z h a t (TX x y z p u w)) (EL, fun x => x = a1 ∨ x = e219) h218 31 1642 68 #[.val (.ref o), .val (.ref en)] [(.ref a1)]
  refine k_aloadN d_txt_68 rfl rfl rfl ?_
  refine k_aloadN d_txt_69 rfl rfl rfl ?_
  have f228 := (FF2.keep KT225 nin0)
  refine k_getField d_txt_70 rfl (hw _ (List.mem_of_getElem? (i := 14) rfl)) Via.refl f228 ?_
  have f229 := (AA3.keep KT225 nin0)
  have f230 := (OD.keep KT225 all0)
  have f231 := ((ENC.ext OD.2).1.keep KT225)
  refine k_callVirtual (argsL := [(.ref ma)]) (rest := [(.ref a1)]) (W0 := 1) d_txt_73 rfl (mt_ets_2 l Z a0 hw cs hcs SC hEW sio SIO hsio en ENC tb ckt STB TB ma c3 u w h218 n0 f230 f229) (fun _ _ _ q => by obtain ⟨_, _, -, K, -⟩ := q; exact ⟨[], K, fun _ z => nomatch z⟩) f231 (hw _ (List.mem_of_getElem? (i := 104) rfl)) (hw _ (List.mem_of_getElem? (i := 105) rfl)) (hw _ (List.mem_of_getElem? (i := 107) rfl)) (hw _ (List.mem_of_getElem? (i := 107) rfl)) rfl (hw _ (List.mem_of_getElem? (i := 106) rfl)) (hw _ (List.mem_of_getElem? (i := 108) rfl)) (hw _ (List.mem_of_getElem? (i := 28) rfl)) (by decide) pd_ets rfl rfl rfl rfl (by decide) (by decide) (by decide) (by decide) ?_
  rintro _ h232 - ⟨a233, t234, rfl, K235, SG236⟩
  have KT237 := KT225.trans K235 all0
  have SB238 := SB224.keep K235 nin0 nin0
  refine KW.sub (S' := fun x => x = a1 ∨ x = e219) (fun x hx => Or.inl hx) ?_
  show KW true l Z M_txt n0 (fun v h => ∃ a t, v = some (.ref a) ∧ Keep h0 h [] ∧ Sg Z h a t (TX x y z p u w)) (EL, fun x => x = a1 ∨ x = e219) h232 34 1654 76 #[.val (.ref o), .val (.ref en)] [(.ref a233), (.ref a1)]
  have f239 := (OD.keep KT237 all0)
  refine k_callVirtual (argsL := [(.ref a233)]) (rest := []) (W0 := 0) d_txt_76 rfl (mt_sas l Z a0 hw cs hcs SC hEW a1 e219 a233 t234 142 (((((((((([] : List Int32) ++ [99, 117, 114, 114, 101, 110, 116, 72, 97, 115, 104, 61]) ++ [nbI (tbv ((UInt32.toInt32 (Int32.toUInt32 (w24 x y z) >>> Int32.toUInt32 ((18 : Int32) &&& 31))) &&& (63 : Int32))), nbI (tbv ((UInt32.toInt32 (Int32.toUInt32 (w24 x y z) >>> Int32.toUInt32 ((12 : Int32) &&& 31))) &&& (63 : Int32))), nbI (tbv ((UInt32.toInt32 (Int32.toUInt32 (w24 x y z) >>> Int32.toUInt32 ((6 : Int32) &&& 31))) &&& (63 : Int32))), nbI (tbv ((w24 x y z) &&& (63 : Int32)))]) ++ [10]) ++ [112, 114, 101, 118, 105, 111, 117, 115, 84, 105, 109, 101, 115, 116, 97, 109, 112, 84, 111, 107, 101, 110]) ++ [61]) ++ [nbI (tbv ((p &&& (255 : Int32)) >>> ((2 : Int32) &&& 31))), nbI (tbv (((p &&& (255 : Int32)) <<< ((4 : Int32) &&& 31)) &&& (63 : Int32))), nar .byte (61 : Int32), nar .byte (61 : Int32)]) ++ [10]) ++ [112, 114, 101, 118, 105, 111, 117, 115, 84, 105, 109, 101, 115, 116, 97, 109, 112, 84, 111, 107, 101, 110, 77, 105, 110, 117, 115, 79, 110, 101, 77, 111, 110, 116, 104]) ++ [61]) [nbI (tbv ((u &&& (255 : Int32)) >>> ((2 : Int32) &&& 31))), nbI (tbv ((((u &&& (255 : Int32)) <<< ((4 : Int32) &&& 31)) &&& (63 : Int32)) ||| ((w &&& (255 : Int32)) >>> ((4 : Int32) &&& 31)))), nbI (tbv (((w &&& (255 : Int32)) <<< ((2 : Int32) &&& 31)) &&& (63 : Int32))), nar .byte (61 : Int32)] h232 n0 f239 SB238 142 SG236 hbe222 ge8 ge221 (Or.inl ⟨by rw [hT227]; show 81 + 4 ≤ 142; decide, rfl⟩)) (fun _ _ _ q => by obtain ⟨-, _, -, -, -, K, -⟩ := q; exact ⟨[a1, e219], K, allS (Or.inl (Or.inl rfl)) (allS (Or.inl (Or.inr rfl)) all0)⟩) SB238.exa (hw _ (List.mem_of_getElem? (i := 54) rfl)) (hw _ (List.mem_of_getElem? (i := 55) rfl)) (hw _ (List.mem_of_getElem? (i := 57) rfl)) (hw _ (List.mem_of_getElem? (i := 57) rfl)) rfl (hw _ (List.mem_of_getElem? (i := 56) rfl)) (hw _ (List.mem_of_getElem? (i := 58) rfl)) (hw _ (List.mem_of_getElem? (i := 31) rfl)) (by decide) pd_sas rfl rfl rfl rfl (by decide) (by decide) (by decide) (by decide) ?_
  rintro _ h240 - ⟨rfl, e241, he242, ge243, hbe244, K245, SB246⟩
  have KT247 := KT237.trans K245 (allS (Or.inr gh10) (allS (Or.inr gh226) all0))
  have gh248 : h0.size ≤ e241 := he242.elim (fun q => q ▸ gh226) (fun q => Nat.le_trans KT237.1 q)
  have hT249 : ((((((((((([] : List Int32) ++ [99, 117, 114, 114, 101, 110, 116, 72, 97, 115, 104, 61]) ++ [nbI (tbv ((UInt32.toInt32 (Int32.toUInt32 (w24 x y z) >>> Int32.toUInt32 ((18 : Int32) &&& 31))) &&& (63 : Int32))), nbI (tbv ((UInt32.toInt32 (Int32.toUInt32 (w24 x y z) >>> Int32.toUInt32 ((12 : Int32) &&& 31))) &&& (63 : Int32))), nbI (tbv ((UInt32.toInt32 (Int32.toUInt32 (w24 x y z) >>> Int32.toUInt32 ((6 : Int32) &&& 31))) &&& (63 : Int32))), nbI (tbv ((w24 x y z) &&& (63 : Int32)))]) ++ [10]) ++ [112, 114, 101, 118, 105, 111, 117, 115, 84, 105, 109, 101, 115, 116, 97, 109, 112, 84, 111, 107, 101, 110]) ++ [61]) ++ [nbI (tbv ((p &&& (255 : Int32)) >>> ((2 : Int32) &&& 31))), nbI (tbv (((p &&& (255 : Int32)) <<< ((4 : Int32) &&& 31)) &&& (63 : Int32))), nar .byte (61 : Int32), nar .byte (61 : Int32)]) ++ [10]) ++ [112, 114, 101, 118, 105, 111, 117, 115, 84, 105, 109, 101, 115, 116, 97, 109, 112, 84, 111, 107, 101, 110, 77, 105, 110, 117, 115, 79, 110, 101, 77, 111, 110, 116, 104]) ++ [61]) ++ [nbI (tbv ((u &&& (255 : Int32)) >>> ((2 : Int32) &&& 31))), nbI (tbv ((((u &&& (255 : Int32)) <<< ((4 : Int32) &&& 31)) &&& (63 : Int32)) ||| ((w &&& (255 : Int32)) >>> ((4 : Int32) &&& 31)))), nbI (tbv (((w &&& (255 : Int32)) <<< ((2 : Int32) &&& 31)) &&& (63 : Int32))), nar .byte (61 : Int32)]).length = 85 := by rw [List.length_append, hT227]; rfl
  refine KW.sub (S' := fun x => x = a1 ∨ x = e241) (fun x hx => ?_) ?_
  · rcases hx with rfl | rfl
    · exact Or.inl (Or.inl rfl)
    · exact he242.elim (fun q => Or.inl (Or.inr q)) (fun q => Or.inr ⟨q, SB246.ltv⟩)
  show KW true l Z M_txt n0 (fun v h => ∃ a t, v = some (.ref a) ∧ Keep h0 h [] ∧ Sg Z h a t (TX x y z p u w)) (EL, fun x => x = a1 ∨ x = e241) h240 35 1796 79 #[.val (.ref o), .val (.ref en)] [(.ref a1)]
  refine k_ldcS (sl := 4) (vs := [Value.int (10 : Int32)]) (z := (1 : Int32)) d_txt_79 rfl (hw _ (List.mem_of_getElem? (i := 173) rfl)) (own_wS Z a0 hw) (List.mem_of_getElem? (i := 1) rfl) ⟨by decide +kernel, by decide +kernel⟩ (by decide) (by decide) (by decide +kernel) (by decide) (by decide) (by decide) ?_
  intro a250 b251 ck252 h253 E254 X255 F256 F257 A258 N259
  have SG260 : Sg Z h253 a250 b251 [10] := ⟨ck252, X255, F256, F257, A258, by decide⟩
  have K261 := KT247.ext E254
  have SB262 := SB246.ext E254
  show KW true l Z M_txt n0 (fun v h => ∃ a t, v = some (.ref a) ∧ Keep h0 h [] ∧ Sg Z h a t (TX x y z p u w)) (EL, fun x => x = a1 ∨ x = e241) h253 37 1804 81 #[.val (.ref o), .val (.ref en)] [(.ref a250), (.ref a1)]
  have f263 := (OD.keep K261 all0)
  refine k_callVirtual (argsL := [(.ref a250)]) (rest := []) (W0 := 0) d_txt_81 rfl (mt_sas l Z a0 hw cs hcs SC hEW a1 e241 a250 b251 142 ((((((((((([] : List Int32) ++ [99, 117, 114, 114, 101, 110, 116, 72, 97, 115, 104, 61]) ++ [nbI (tbv ((UInt32.toInt32 (Int32.toUInt32 (w24 x y z) >>> Int32.toUInt32 ((18 : Int32) &&& 31))) &&& (63 : Int32))), nbI (tbv ((UInt32.toInt32 (Int32.toUInt32 (w24 x y z) >>> Int32.toUInt32 ((12 : Int32) &&& 31))) &&& (63 : Int32))), nbI (tbv ((UInt32.toInt32 (Int32.toUInt32 (w24 x y z) >>> Int32.toUInt32 ((6 : Int32) &&& 31))) &&& (63 : Int32))), nbI (tbv ((w24 x y z) &&& (63 : Int32)))]) ++ [10]) ++ [112, 114, 101, 118, 105, 111, 117, 115, 84, 105, 109, 101, 115, 116, 97, 109, 112, 84, 111, 107, 101, 110]) ++ [61]) ++ [nbI (tbv ((p &&& (255 : Int32)) >>> ((2 : Int32) &&& 31))), nbI (tbv (((p &&& (255 : Int32)) <<< ((4 : Int32) &&& 31)) &&& (63 : Int32))), nar .byte (61 : Int32), nar .byte (61 : Int32)]) ++ [10]) ++ [112, 114, 101, 118, 105, 111, 117, 115, 84, 105, 109, 101, 115, 116, 97, 109, 112, 84, 111, 107, 101, 110, 77, 105, 110, 117, 115, 79, 110, 101, 77, 111, 110, 116, 104]) ++ [61]) ++ [nbI (tbv ((u &&& (255 : Int32)) >>> ((2 : Int32) &&& 31))), nbI (tbv ((((u &&& (255 : Int32)) <<< ((4 : Int32) &&& 31)) &&& (63 : Int32)) ||| ((w &&& (255 : Int32)) >>> ((4 : Int32) &&& 31)))), nbI (tbv (((w &&& (255 : Int32)) <<< ((2 : Int32) &&& 31)) &&& (63 : Int32))), nar .byte (61 : Int32)]) [10] h253 n0 f263 SB262 142 SG260 hbe244 ge8 ge243 (Or.inl ⟨by rw [hT249]; show 85 + 1 ≤ 142; decide, rfl⟩)) (fun _ _ _ q => by obtain ⟨-, _, -, -, -, K, -⟩ := q; exact ⟨[a1, e241], K, allS (Or.inl (Or.inl rfl)) (allS (Or.inl (Or.inr rfl)) all0)⟩) SB262.exa (hw _ (List.mem_of_getElem? (i := 54) rfl)) (hw _ (List.mem_of_getElem? (i := 55) rfl)) (hw _ (List.mem_of_getElem? (i := 57) rfl)) (hw _ (List.mem_of_getElem? (i := 57) rfl)) rfl (hw _ (List.mem_of_getElem? (i := 56) rfl)) (hw _ (List.mem_of_getElem? (i := 58) rfl)) (hw _ (List.mem_of_getElem? (i := 31) rfl)) (by decide) pd_sas rfl rfl rfl rfl (by decide) (by decide) (by decide) (by decide) ?_
  rintro _ h264 - ⟨rfl, e265, he266, ge267, hbe268, K269, SB270⟩
  have KT271 := K261.trans K269 (allS (Or.inr gh10) (allS (Or.inr gh248) all0))
  have gh272 : h0.size ≤ e265 := he266.elim (fun q => q ▸ gh248) (fun q => Nat.le_trans K261.1 q)
  have hT273 : (((((((((((([] : List Int32) ++ [99, 117, 114, 114, 101, 110, 116, 72, 97, 115, 104, 61]) ++ [nbI (tbv ((UInt32.toInt32 (Int32.toUInt32 (w24 x y z) >>> Int32.toUInt32 ((18 : Int32) &&& 31))) &&& (63 : Int32))), nbI (tbv ((UInt32.toInt32 (Int32.toUInt32 (w24 x y z) >>> Int32.toUInt32 ((12 : Int32) &&& 31))) &&& (63 : Int32))), nbI (tbv ((UInt32.toInt32 (Int32.toUInt32 (w24 x y z) >>> Int32.toUInt32 ((6 : Int32) &&& 31))) &&& (63 : Int32))), nbI (tbv ((w24 x y z) &&& (63 : Int32)))]) ++ [10]) ++ [112, 114, 101, 118, 105, 111, 117, 115, 84, 105, 109, 101, 115, 116, 97, 109, 112, 84, 111, 107, 101, 110]) ++ [61]) ++ [nbI (tbv ((p &&& (255 : Int32)) >>> ((2 : Int32) &&& 31))), nbI (tbv (((p &&& (255 : Int32)) <<< ((4 : Int32) &&& 31)) &&& (63 : Int32))), nar .byte (61 : Int32), nar .byte (61 : Int32)]) ++ [10]) ++ [112, 114, 101, 118, 105, 111, 117, 115, 84, 105, 109, 101, 115, 116, 97, 109, 112, 84, 111, 107, 101, 110, 77, 105, 110, 117, 115, 79, 110, 101, 77, 111, 110, 116, 104]) ++ [61]) ++ [nbI (tbv ((u &&& (255 : Int32)) >>> ((2 : Int32) &&& 31))), nbI (tbv ((((u &&& (255 : Int32)) <<< ((4 : Int32) &&& 31)) &&& (63 : Int32)) ||| ((w &&& (255 : Int32)) >>> ((4 : Int32) &&& 31)))), nbI (tbv (((w &&& (255 : Int32)) <<< ((2 : Int32) &&& 31)) &&& (63 : Int32))), nar .byte (61 : Int32)]) ++ [10]).length = 86 := by rw [List.length_append, hT249]; rfl
  refine KW.sub (S' := fun x => x = a1 ∨ x = e265) (fun x hx => ?_) ?_
  · rcases hx with rfl | rfl
    · exact Or.inl (Or.inl rfl)
    · exact he266.elim (fun q => Or.inl (Or.inr q)) (fun q => Or.inr ⟨q, SB270.ltv⟩)
  show KW true l Z M_txt n0 (fun v h => ∃ a t, v = some (.ref a) ∧ Keep h0 h [] ∧ Sg Z h a t (TX x y z p u w)) (EL, fun x => x = a1 ∨ x = e265) h264 38 1946 84 #[.val (.ref o), .val (.ref en)] [(.ref a1)]
  refine k_ldcS (sl := 136) (vs := [Value.int (112 : Int32), Value.int (114 : Int32), Value.int (101 : Int32), Value.int (118 : Int32), Value.int (105 : Int32), Value.int (111 : Int32), Value.int (117 : Int32), Value.int (115 : Int32), Value.int (84 : Int32), Value.int (105 : Int32), Value.int (109 : Int32), Value.int (101 : Int32), Value.int (115 : Int32), Value.int (116 : Int32), Value.int (97 : Int32), Value.int (109 : Int32), Value.int (112 : Int32), Value.int (84 : Int32), Value.int (111 : Int32), Value.int (107 : Int32), Value.int (101 : Int32), Value.int (110 : Int32), Value.int (77 : Int32), Value.int (105 : Int32), Value.int (110 : Int32), Value.int (117 : Int32), Value.int (115 : Int32), Value.int (79 : Int32), Value.int (110 : Int32), Value.int (101 : Int32), Value.int (89 : Int32), Value.int (101 : Int32), Value.int (97 : Int32), Value.int (114 : Int32)]) (z := (34 : Int32)) d_txt_84 rfl (hw _ (List.mem_of_getElem? (i := 196) rfl)) (own_wS Z a0 hw) (List.mem_of_getElem? (i := 5) rfl) ⟨by decide +kernel, by decide +kernel⟩ (by decide) (by decide) (by decide +kernel) (by decide) (by decide) (by decide) ?_
  intro a274 b275 ck276 h277 E278 X279 F280 F281 A282 N283
  have SG284 : Sg Z h277 a274 b275 [112, 114, 101, 118, 105, 111, 117, 115, 84, 105, 109, 101, 115, 116, 97, 109, 112, 84, 111, 107, 101, 110, 77, 105, 110, 117, 115, 79, 110, 101, 89, 101, 97, 114] := ⟨ck276, X279, F280, F281, A282, by decide⟩
  have K285 := KT271.ext E278
  have SB286 := SB270.ext E278
  show KW true l Z M_txt n0 (fun v h => ∃ a t, v = some (.ref a) ∧ Keep h0 h [] ∧ Sg Z h a t (TX x y z p u w)) (EL, fun x => x = a1 ∨ x = e265) h277 40 2086 86 #[.val (.ref o), .val (.ref en)] [(.ref a274), (.ref a1)]
  have f287 := (OD.keep K285 all0)
  refine k_callVirtual (argsL := [(.ref a274)]) (rest := []) (W0 := 0) d_txt_86 rfl (mt_sas l Z a0 hw cs hcs SC hEW a1 e265 a274 b275 142 (((((((((((([] : List Int32) ++ [99, 117, 114, 114, 101, 110, 116, 72, 97, 115, 104, 61]) ++ [nbI (tbv ((UInt32.toInt32 (Int32.toUInt32 (w24 x y z) >>> Int32.toUInt32 ((18 : Int32) &&& 31))) &&& (63 : Int32))), nbI (tbv ((UInt32.toInt32 (Int32.toUInt32 (w24 x y z) >>> Int32.toUInt32 ((12 : Int32) &&& 31))) &&& (63 : Int32))), nbI (tbv ((UInt32.toInt32 (Int32.toUInt32 (w24 x y z) >>> Int32.toUInt32 ((6 : Int32) &&& 31))) &&& (63 : Int32))), nbI (tbv ((w24 x y z) &&& (63 : Int32)))]) ++ [10]) ++ [112, 114, 101, 118, 105, 111, 117, 115, 84, 105, 109, 101, 115, 116, 97, 109, 112, 84, 111, 107, 101, 110]) ++ [61]) ++ [nbI (tbv ((p &&& (255 : Int32)) >>> ((2 : Int32) &&& 31))), nbI (tbv (((p &&& (255 : Int32)) <<< ((4 : Int32) &&& 31)) &&& (63 : Int32))), nar .byte (61 : Int32), nar .byte (61 : Int32)]) ++ [10]) ++ [112, 114, 101, 118, 105, 111, 117, 115, 84, 105, 109, 101, 115, 116, 97, 109, 112, 84, 111, 107, 101, 110, 77, 105, 110, 117, 115, 79, 110, 101, 77, 111, 110, 116, 104]) ++ [61]) ++ [nbI (tbv ((u &&& (255 : Int32)) >>> ((2 : Int32) &&& 31))), nbI (tbv ((((u &&& (255 : Int32)) <<< ((4 : Int32) &&& 31)) &&& (63 : Int32)) ||| ((w &&& (255 : Int32)) >>> ((4 : Int32) &&& 31)))), nbI (tbv (((w &&& (255 : Int32)) <<< ((2 : Int32) &&& 31)) &&& (63 : Int32))), nar .byte (61 : Int32)]) ++ [10]) [112, 114, 101, 118, 105, 111, 117, 115, 84, 105, 109, 101, 115, 116, 97, 109, 112, 84, 111, 107, 101, 110, 77, 105, 110, 117, 115, 79, 110, 101, 89, 101, 97, 114] h277 n0 f287 SB286 142 SG284 hbe268 ge8 ge267 (Or.inl ⟨by rw [hT273]; show 86 + 34 ≤ 142; decide, rfl⟩)) (fun _ _ _ q => by obtain ⟨-, _, -, -, -, K, -⟩ := q; exact ⟨[a1, e265], K, allS (Or.inl (Or.inl rfl)) (allS (Or.inl (Or.inr rfl)) all0)⟩) SB286.exa (hw _ (List.mem_of_getElem? (i := 54) rfl)) (hw _ (List.mem_of_getElem? (i := 55) rfl)) (hw _ (List.mem_of_getElem? (i := 57) rfl)) (hw _ (List.mem_of_getElem? (i := 57) rfl)) rfl (hw _ (List.mem_of_getElem? (i := 56) rfl)) (hw _ (List.mem_of_getElem? (i := 58) rfl)) (hw _ (List.mem_of_getElem? (i := 31) rfl)) (by decide) pd_sas rfl rfl rfl rfl (by decide) (by decide) (by decide) (by decide) ?_
  rintro _ h288 - ⟨rfl, e289, he290, ge291, hbe292, K293, SB294⟩
  have KT295 := K285.trans K293 (allS (Or.inr gh10) (allS (Or.inr gh272) all0))
  have gh296 : h0.size ≤ e289 := he290.elim (fun q => q ▸ gh272) (fun q => Nat.le_trans K285.1 q)
  have hT297 : ((((((((((((([] : List Int32) ++ [99, 117, 114, 114, 101, 110, 116, 72, 97, 115, 104, 61]) ++ [nbI (tbv ((UInt32.toInt32 (Int32.toUInt32 (w24 x y z) >>> Int32.toUInt32 ((18 : Int32) &&& 31))) &&& (63 : Int32))), nbI (tbv ((UInt32.toInt32 (Int32.toUInt32 (w24 x y z) >>> Int32.toUInt32 ((12 : Int32) &&& 31))) &&& (63 : Int32))), nbI (tbv ((UInt32.toInt32 (Int32.toUInt32 (w24 x y z) >>> Int32.toUInt32 ((6 : Int32) &&& 31))) &&& (63 : Int32))), nbI (tbv ((w24 x y z) &&& (63 : Int32)))]) ++ [10]) ++ [112, 114, 101, 118, 105, 111, 117, 115, 84, 105, 109, 101, 115, 116, 97, 109, 112, 84, 111, 107, 101, 110]) ++ [61]) ++ [nbI (tbv ((p &&& (255 : Int32)) >>> ((2 : Int32) &&& 31))), nbI (tbv (((p &&& (255 : Int32)) <<< ((4 : Int32) &&& 31)) &&& (63 : Int32))), nar .byte (61 : Int32), nar .byte (61 : Int32)]) ++ [10]) ++ [112, 114, 101, 118, 105, 111, 117, 115, 84, 105, 109, 101, 115, 116, 97, 109, 112, 84, 111, 107, 101, 110, 77, 105, 110, 117, 115, 79, 110, 101, 77, 111, 110, 116, 104]) ++ [61]) ++ [nbI (tbv ((u &&& (255 : Int32)) >>> ((2 : Int32) &&& 31))), nbI (tbv ((((u &&& (255 : Int32)) <<< ((4 : Int32) &&& 31)) &&& (63 : Int32)) ||| ((w &&& (255 : Int32)) >>> ((4 : Int32) &&& 31)))), nbI (tbv (((w &&& (255 : Int32)) <<< ((2 : Int32) &&& 31)) &&& (63 : Int32))), nar .byte (61 : Int32)]) ++ [10]) ++ [112, 114, 101, 118, 105, 111, 117, 115, 84, 105, 109, 101, 115, 116, 97, 109, 112, 84, 111, 107, 101, 110, 77, 105, 110, 117, 115, 79, 110, 101, 89, 101, 97, 114]).length = 120 := by rw [List.length_append, hT273]; rfl
  refine KW.sub (S' := fun x => x = a1 ∨ x = e289) (fun x hx => ?_) ?_
  · rcases hx with rfl | rfl
    · exact Or.inl (Or.inl rfl)
    · exact he290.elim (fun q => Or.inl (Or.inr q)) (fun q => Or.inr ⟨q, SB294.ltv⟩)
  show KW true l Z M_txt n0 (fun v h => ∃ a t, v = some (.ref a) ∧ Keep h0 h [] ∧ Sg Z h a t (TX x y z p u w)) (EL, fun x => x = a1 ∨ x = e289) h288 41 2228 89 #[.val (.ref o), .val (.ref en)] [(.ref a1)]
  refine k_ldcS (sl := 4) (vs := [Value.int (61 : Int32)]) (z := (1 : Int32)) d_txt_89 rfl (hw _ (List.mem_of_getElem? (i := 194) rfl)) (own_wS Z a0 hw) (List.mem_of_getElem? (i := 3) rfl) ⟨by decide +kernel, by decide +kernel⟩ (by decide) (by decide) (by decide +kernel) (by decide) (by decide) (by decide) ?_
  intro a298 b299 ck300 h301 E302 X303 F304 F305 A306 N307
  have SG308 : Sg Z h301 a298 b299 [61] := ⟨ck300, X303, F304, F305, A306, by decide⟩
  have K309 := KT295.ext E302
  have SB310 := SB294.ext E302
  show KW true l Z M_txt n0 (fun v h => ∃ a t, v = some (.ref a) ∧ Keep h0 h [] ∧ Sg Z h a t (TX x y z p u w)) (EL, fun x => x = a1 ∨ x = e289) h301 43 2236 91 #[.val (.ref o), .val (.ref en)] [(.ref a298), (.ref a1)]
  have f311 := (OD.keep K309 all0)
  refine k_callVirtual (argsL := [(.ref a298)]) (rest := []) (W0 := 0) d_txt_91 rfl (mt_sas l Z a0 hw cs hcs SC hEW a1 e289 a298 b299 142 ((((((((((((([] : List Int32) ++ [99, 117, 114, 114, 101, 110, 116, 72, 97, 115, 104, 61]) ++ [nbI (tbv ((UInt32.toInt32 (Int32.toUInt32 (w24 x y z) >>> Int32.toUInt32 ((18 : Int32) &&& 31))) &&& (63 : Int32))), nbI (tbv ((UInt32.toInt32 (Int32.toUInt32 (w24 x y z) >>> Int32.toUInt32 ((12 : Int32) &&& 31))) &&& (63 : Int32))), nbI (tbv ((UInt32.toInt32 (Int32.toUInt32 (w24 x y z) >>> Int32.toUInt32 ((6 : Int32) &&& 31))) &&& (63 : Int32))), nbI (tbv ((w24 x y z) &&& (63 : Int32)))]) ++ [10]) ++ [112, 114, 101, 118, 105, 111, 117, 115, 84, 105, 109, 101, 115, 116, 97, 109, 112, 84, 111, 107, 101, 110]) ++ [61]) ++ [nbI (tbv ((p &&& (255 : Int32)) >>> ((2 : Int32) &&& 31))), nbI (tbv (((p &&& (255 : Int32)) <<< ((4 : Int32) &&& 31)) &&& (63 : Int32))), nar .byte (61 : Int32), nar .byte (61 : Int32)]) ++ [10]) ++ [112, 114, 101, 118, 105, 111, 117, 115, 84, 105, 109, 101, 115, 116, 97, 109, 112, 84, 111, 107, 101, 110, 77, 105, 110, 117, 115, 79, 110, 101, 77, 111, 110, 116, 104]) ++ [61]) ++ [nbI (tbv ((u &&& (255 : Int32)) >>> ((2 : Int32) &&& 31))), nbI (tbv ((((u &&& (255 : Int32)) <<< ((4 : Int32) &&& 31)) &&& (63 : Int32)) ||| ((w &&& (255 : Int32)) >>> ((4 : Int32) &&& 31)))), nbI (tbv (((w &&& (255 : Int32)) <<< ((2 : Int32) &&& 31)) &&& (63 : Int32))), nar .byte (61 : Int32)]) ++ [10]) ++ [112, 114, 101, 118, 105, 111, 117, 115, 84, 105, 109, 101, 115, 116, 97, 109, 112, 84, 111, 107, 101, 110, 77, 105, 110, 117, 115, 79, 110, 101, 89, 101, 97, 114]) [61] h301 n0 f311 SB310 142 SG308 hbe292 ge8 ge291 (Or.inl ⟨by rw [hT297]; show 120 + 1 ≤ 142; decide, rfl⟩)) (fun _ _ _ q => by obtain ⟨-, _, -, -, -, K, -⟩ := q; exact ⟨[a1, e289], K, allS (Or.inl (Or.inl rfl)) (allS (Or.inl (Or.inr rfl)) all0)⟩) SB310.exa (hw _ (List.mem_of_getElem? (i := 54) rfl)) (hw _ (List.mem_of_getElem? (i := 55) rfl)) (hw _ (List.mem_of_getElem? (i := 57) rfl)) (hw _ (List.mem_of_getElem? (i := 57) rfl)) rfl (hw _ (List.mem_of_getElem? (i := 56) rfl)) (hw _ (List.mem_of_getElem? (i := 58) rfl)) (hw _ (List.mem_of_getElem? (i := 31) rfl)) (by decide) pd_sas rfl rfl rfl rfl (by decide) (by decide) (by decide) (by decide) ?_
  rintro _ h312 - ⟨rfl, e313, he314, ge315, hbe316, K317, SB318⟩
  have KT319 := K309.trans K317 (allS (Or.inr gh10) (allS (Or.inr gh296) all0))
  have gh320 : h0.size ≤ e313 := he314.elim (fun q => q ▸ gh296) (fun q => Nat.le_trans K309.1 q)
  have hT321 : (((((((((((((([] : List Int32) ++ [99, 117, 114, 114, 101, 110, 116, 72, 97, 115, 104, 61]) ++ [nbI (tbv ((UInt32.toInt32 (Int32.toUInt32 (w24 x y z) >>> Int32.toUInt32 ((18 : Int32) &&& 31))) &&& (63 : Int32))), nbI (tbv ((UInt32.toInt32 (Int32.toUInt32 (w24 x y z) >>> Int32.toUInt32 ((12 : Int32) &&& 31))) &&& (63 : Int32))), nbI (tbv ((UInt32.toInt32 (Int32.toUInt32 (w24 x y z) >>> Int32.toUInt32 ((6 : Int32) &&& 31))) &&& (63 : Int32))), nbI (tbv ((w24 x y z) &&& (63 : Int32)))]) ++ [10]) ++ [112, 114, 101, 118, 105, 111, 117, 115, 84, 105, 109, 101, 115, 116, 97, 109, 112, 84, 111, 107, 101, 110]) ++ [61]) ++ [nbI (tbv ((p &&& (255 : Int32)) >>> ((2 : Int32) &&& 31))), nbI (tbv (((p &&& (255 : Int32)) <<< ((4 : Int32) &&& 31)) &&& (63 : Int32))), nar .byte (61 : Int32), nar .byte (61 : Int32)]) ++ [10]) ++ [112, 114, 101, 118, 105, 111, 117, 115, 84, 105, 109, 101, 115, 116, 97, 109, 112, 84, 111, 107, 101, 110, 77, 105, 110, 117, 115, 79, 110, 101, 77, 111, 110, 116, 104]) ++ [61]) ++ [nbI (tbv ((u &&& (255 : Int32)) >>> ((2 : Int32) &&& 31))), nbI (tbv ((((u &&& (255 : Int32)) <<< ((4 : Int32) &&& 31)) &&& (63 : Int32)) ||| ((w &&& (255 : Int32)) >>> ((4 : Int32) &&& 31)))), nbI (tbv (((w &&& (255 : Int32)) <<< ((2 : Int32) &&& 31)) &&& (63 : Int32))), nar .byte (61 : Int32)]) ++ [10]) ++ [112, 114, 101, 118, 105, 111, 117, 115, 84, 105, 109, 101, 115, 116, 97, 109, 112, 84, 111, 107, 101, 110, 77, 105, 110, 117, 115, 79, 110, 101, 89, 101, 97, 114]) ++ [61]).length = 121 := by rw [List.length_append, hT297]; rfl
  refine KW.sub (S' := fun x => x = a1 ∨ x = e313) (fun x hx => ?_) ?_
  · rcases hx with rfl | rfl
    · exact Or.inl (Or.inl rfl)
    · exact he314.elim (fun q => Or.inl (Or.inr q)) (fun q => Or.inr ⟨q, SB318.ltv⟩)
  show KW true l Z M_txt n0 (fun v h => ∃ a t, v = some (.ref a) ∧ Keep h0 h [] ∧ Sg Z h a t (TX x y z p u w)) (EL, fun x => x = a1 ∨ x = e313) h312 44 2378 94 #[.val (.ref o), .val (.ref en)] [(.ref a1)]
  refine k_aloadN d_txt_94 rfl rfl rfl ?_
  refine k_aloadN d_txt_95 rfl rfl rfl ?_
  have f322 := (FF3.keep KT319 nin0)
  refine k_getField d_txt_96 rfl (hw _ (List.mem_of_getElem? (i := 16) rfl)) Via.refl f322 ?_
  have f323 := (AA4.keep KT319 nin0)
  have f324 := (OD.keep KT319 all0)
  have f325 := ((ENC.ext OD.2).1.keep KT319)
  refine KW.sub (S' := fun _ => False) (fun x hx => hx.elim) ?_
  show KW true l Z M_txt n0 (fun v h => ∃ a t, v = some (.ref a) ∧ Keep h0 h [] ∧ Sg Z h a t (TX x y z p u w)) (EL, fun _ => False) h312 44 2378 99 #[.val (.ref o), .val (.ref en)] [(.ref ya), (.ref en), (.ref a1)]
  refine k_callVirtualW (argsL := [(.ref ya)]) (rest := [(.ref a1)]) (W0 := 1) d_txt_99 rfl (mt_ets_0 l Z a0 hw cs hcs SC hEW sio SIO hsio en ENC tb ckt STB TB ya c4  h312 n0 f324 f323) f325 (hw _ (List.mem_of_getElem? (i := 104) rfl)) (hw _ (List.mem_of_getElem? (i := 105) rfl)) (hw _ (List.mem_of_getElem? (i := 107) rfl)) (hw _ (List.mem_of_getElem? (i := 107) rfl)) rfl (hw _ (List.mem_of_getElem? (i := 106) rfl)) (hw _ (List.mem_of_getElem? (i := 108) rfl)) (hw _ (List.mem_of_getElem? (i := 28) rfl)) (by decide) pd_ete rfl rfl rfl rfl (by decide) (by decide) (by decide) (by decide) ?_
  rintro _ h326 - ⟨a327, t328, rfl, K329, SG330⟩
  have KT331 := KT319.trans K329 all0
  have SB332 := SB318.keep K329 nin0 nin0
  show KW true l Z M_txt n0 (fun v h => ∃ a t, v = some (.ref a) ∧ Keep h0 h [] ∧ Sg Z h a t (TX x y z p u w)) (EL, fun _ => False) h326 50 2394 102 #[.val (.ref o), .val (.ref en)] [(.ref a327), (.ref a1)]
  have f333 := (OD.keep KT331 all0)
  refine k_callVirtual (argsL := [(.ref a327)]) (rest := []) (W0 := 0) d_txt_102 rfl (mt_sas l Z a0 hw cs hcs SC hEW a1 e313 a327 t328 142 (((((((((((((([] : List Int32) ++ [99, 117, 114, 114, 101, 110, 116, 72, 97, 115, 104, 61]) ++ [nbI (tbv ((UInt32.toInt32 (Int32.toUInt32 (w24 x y z) >>> Int32.toUInt32 ((18 : Int32) &&& 31))) &&& (63 : Int32))), nbI (tbv ((UInt32.toInt32 (Int32.toUInt32 (w24 x y z) >>> Int32.toUInt32 ((12 : Int32) &&& 31))) &&& (63 : Int32))), nbI (tbv ((UInt32.toInt32 (Int32.toUInt32 (w24 x y z) >>> Int32.toUInt32 ((6 : Int32) &&& 31))) &&& (63 : Int32))), nbI (tbv ((w24 x y z) &&& (63 : Int32)))]) ++ [10]) ++ [112, 114, 101, 118, 105, 111, 117, 115, 84, 105, 109, 101, 115, 116, 97, 109, 112, 84, 111, 107, 101, 110]) ++ [61]) ++ [nbI (tbv ((p &&& (255 : Int32)) >>> ((2 : Int32) &&& 31))), nbI (tbv (((p &&& (255 : Int32)) <<< ((4 : Int32) &&& 31)) &&& (63 : Int32))), nar .byte (61 : Int32), nar .byte (61 : Int32)]) ++ [10]) ++ [112, 114, 101, 118, 105, 111, 117, 115, 84, 105, 109, 101, 115, 116, 97, 109, 112, 84, 111, 107, 101, 110, 77, 105, 110, 117, 115, 79, 110, 101, 77, 111, 110, 116, 104]) ++ [61]) ++ [nbI (tbv ((u &&& (255 : Int32)) >>> ((2 : Int32) &&& 31))), nbI (tbv ((((u &&& (255 : Int32)) <<< ((4 : Int32) &&& 31)) &&& (63 : Int32)) ||| ((w &&& (255 : Int32)) >>> ((4 : Int32) &&& 31)))), nbI (tbv (((w &&& (255 : Int32)) <<< ((2 : Int32) &&& 31)) &&& (63 : Int32))), nar .byte (61 : Int32)]) ++ [10]) ++ [112, 114, 101, 118, 105, 111, 117, 115, 84, 105, 109, 101, 115, 116, 97, 109, 112, 84, 111, 107, 101, 110, 77, 105, 110, 117, 115, 79, 110, 101, 89, 101, 97, 114]) ++ [61]) ([] : List Int32) h326 n0 f333 SB332 142 SG330 hbe316 ge8 ge315 (Or.inl ⟨by rw [hT321]; show 121 + 0 ≤ 142; decide, rfl⟩)) (fun _ _ _ q => by obtain ⟨-, _, -, -, -, K, -⟩ := q; exact ⟨[a1, e313], K, allS (Sf.exa SB332.exa (by decide) (by decide)) (allS (Sb.sfd (own_EN Z a0 hw) SB332 (by decide)) all0)⟩) SB332.exa (hw _ (List.mem_of_getElem? (i := 54) rfl)) (hw _ (List.mem_of_getElem? (i := 55) rfl)) (hw _ (List.mem_of_getElem? (i := 57) rfl)) (hw _ (List.mem_of_getElem? (i := 57) rfl)) rfl (hw _ (List.mem_of_getElem? (i := 56) rfl)) (hw _ (List.mem_of_getElem? (i := 58) rfl)) (hw _ (List.mem_of_getElem? (i := 31) rfl)) (by decide) pd_sas rfl rfl rfl rfl (by decide) (by decide) (by decide) (by decide) ?_
  rintro _ h334 - ⟨rfl, e335, he336, ge337, hbe338, K339, SB340⟩
  have KT341 := KT331.trans K339 (allS (Or.inr gh10) (allS (Or.inr gh320) all0))
  have gh342 : h0.size ≤ e335 := he336.elim (fun q => q ▸ gh320) (fun q => Nat.le_trans KT331.1 q)
  have hT343 : ((((((((((((((([] : List Int32) ++ [99, 117, 114, 114, 101, 110, 116, 72, 97, 115, 104, 61]) ++ [nbI (tbv ((UInt32.toInt32 (Int32.toUInt32 (w24 x y z) >>> Int32.toUInt32 ((18 : Int32) &&& 31))) &&& (63 : Int32))), nbI (tbv ((UInt32.toInt32 (Int32.toUInt32 (w24 x y z) >>> Int32.toUInt32 ((12 : Int32) &&& 31))) &&& (63 : Int32))), nbI (tbv ((UInt32.toInt32 (Int32.toUInt32 (w24 x y z) >>> Int32.toUInt32 ((6 : Int32) &&& 31))) &&& (63 : Int32))), nbI (tbv ((w24 x y z) &&& (63 : Int32)))]) ++ [10]) ++ [112, 114, 101, 118, 105, 111, 117, 115, 84, 105, 109, 101, 115, 116, 97, 109, 112, 84, 111, 107, 101, 110]) ++ [61]) ++ [nbI (tbv ((p &&& (255 : Int32)) >>> ((2 : Int32) &&& 31))), nbI (tbv (((p &&& (255 : Int32)) <<< ((4 : Int32) &&& 31)) &&& (63 : Int32))), nar .byte (61 : Int32), nar .byte (61 : Int32)]) ++ [10]) ++ [112, 114, 101, 118, 105, 111, 117, 115, 84, 105, 109, 101, 115, 116, 97, 109, 112, 84, 111, 107, 101, 110, 77, 105, 110, 117, 115, 79, 110, 101, 77, 111, 110, 116, 104]) ++ [61]) ++ [nbI (tbv ((u &&& (255 : Int32)) >>> ((2 : Int32) &&& 31))), nbI (tbv ((((u &&& (255 : Int32)) <<< ((4 : Int32) &&& 31)) &&& (63 : Int32)) ||| ((w &&& (255 : Int32)) >>> ((4 : Int32) &&& 31)))), nbI (tbv (((w &&& (255 : Int32)) <<< ((2 : Int32) &&& 31)) &&& (63 : Int32))), nar .byte (61 : Int32)]) ++ [10]) ++ [112, 114, 101, 118, 105, 111, 117, 115, 84, 105, 109, 101, 115, 116, 97, 109, 112, 84, 111, 107, 101, 110, 77, 105, 110, 117, 115, 79, 110, 101, 89, 101, 97, 114]) ++ [61]) ++ ([] : List Int32)).length = 121 := by rw [List.length_append, hT321]; rfl
  refine KW.sub (S' := fun _ => False) (fun x hx => hx.elim) ?_
  show KW true l Z M_txt n0 (fun v h => ∃ a t, v = some (.ref a) ∧ Keep h0 h [] ∧ Sg Z h a t (TX x y z p u w)) (EL, fun _ => False) h334 51 2536 105 #[.val (.ref o), .val (.ref en)] [(.ref a1)]
  refine k_ldcS (sl := 4) (vs := [Value.int (10 : Int32)]) (z := (1 : Int32)) d_txt_105 rfl (hw _ (List.mem_of_getElem? (i := 173) rfl)) (own_wS Z a0 hw) (List.mem_of_getElem? (i := 1) rfl) ⟨by decide +kernel, by decide +kernel⟩ (by decide) (by decide) (by decide +kernel) (by decide) (by decide) (by decide) ?_
  intro a344 b345 ck346 h347 E348 X349 F350 F351 A352 N353
  have SG354 : Sg Z h347 a344 b345 [10] := ⟨ck346, X349, F350, F351, A352, by decide⟩
  have K355 := KT341.ext E348
  have SB356 := SB340.ext E348
  show KW true l Z M_txt n0 (fun v h => ∃ a t, v = some (.ref a) ∧ Keep h0 h [] ∧ Sg Z h a t (TX x y z p u w)) (EL, fun _ => False) h347 53 2544 107 #[.val (.ref o), .val (.ref en)] [(.ref a344), (.ref a1)]
  have f357 := (OD.keep K355 all0)
  refine k_callVirtual (argsL := [(.ref a344)]) (rest := []) (W0 := 0) d_txt_107 rfl (mt_sas l Z a0 hw cs hcs SC hEW a1 e335 a344 b345 142 ((((((((((((((([] : List Int32) ++ [99, 117, 114, 114, 101, 110, 116, 72, 97, 115, 104, 61]) ++ [nbI (tbv ((UInt32.toInt32 (Int32.toUInt32 (w24 x y z) >>> Int32.toUInt32 ((18 : Int32) &&& 31))) &&& (63 : Int32))), nbI (tbv ((UInt32.toInt32 (Int32.toUInt32 (w24 x y z) >>> Int32.toUInt32 ((12 : Int32) &&& 31))) &&& (63 : Int32))), nbI (tbv ((UInt32.toInt32 (Int32.toUInt32 (w24 x y z) >>> Int32.toUInt32 ((6 : Int32) &&& 31))) &&& (63 : Int32))), nbI (tbv ((w24 x y z) &&& (63 : Int32)))]) ++ [10]) ++ [112, 114, 101, 118, 105, 111, 117, 115, 84, 105, 109, 101, 115, 116, 97, 109, 112, 84, 111, 107, 101, 110]) ++ [61]) ++ [nbI (tbv ((p &&& (255 : Int32)) >>> ((2 : Int32) &&& 31))), nbI (tbv (((p &&& (255 : Int32)) <<< ((4 : Int32) &&& 31)) &&& (63 : Int32))), nar .byte (61 : Int32), nar .byte (61 : Int32)]) ++ [10]) ++ [112, 114, 101, 118, 105, 111, 117, 115, 84, 105, 109, 101, 115, 116, 97, 109, 112, 84, 111, 107, 101, 110, 77, 105, 110, 117, 115, 79, 110, 101, 77, 111, 110, 116, 104]) ++ [61]) ++ [nbI (tbv ((u &&& (255 : Int32)) >>> ((2 : Int32) &&& 31))), nbI (tbv ((((u &&& (255 : Int32)) <<< ((4 : Int32) &&& 31)) &&& (63 : Int32)) ||| ((w &&& (255 : Int32)) >>> ((4 : Int32) &&& 31)))), nbI (tbv (((w &&& (255 : Int32)) <<< ((2 : Int32) &&& 31)) &&& (63 : Int32))), nar .byte (61 : Int32)]) ++ [10]) ++ [112, 114, 101, 118, 105, 111, 117, 115, 84, 105, 109, 101, 115, 116, 97, 109, 112, 84, 111, 107, 101, 110, 77, 105, 110, 117, 115, 79, 110, 101, 89, 101, 97, 114]) ++ [61]) ++ ([] : List Int32)) [10] h347 n0 f357 SB356 142 SG354 hbe338 ge8 ge337 (Or.inl ⟨by rw [hT343]; show 121 + 1 ≤ 142; decide, rfl⟩)) (fun _ _ _ q => by obtain ⟨-, _, -, -, -, K, -⟩ := q; exact ⟨[a1, e335], K, allS (Sf.exa SB356.exa (by decide) (by decide)) (allS (Sb.sfd (own_EN Z a0 hw) SB356 (by decide)) all0)⟩) SB356.exa (hw _ (List.mem_of_getElem? (i := 54) rfl)) (hw _ (List.mem_of_getElem? (i := 55) rfl)) (hw _ (List.mem_of_getElem? (i := 57) rfl)) (hw _ (List.mem_of_getElem? (i := 57) rfl)) rfl (hw _ (List.mem_of_getElem? (i := 56) rfl)) (hw _ (List.mem_of_getElem? (i := 58) rfl)) (hw _ (List.mem_of_getElem? (i := 31) rfl)) (by decide) pd_sas rfl rfl rfl rfl (by decide) (by decide) (by decide) (by decide) ?_
  rintro _ h358 - ⟨rfl, e359, he360, ge361, hbe362, K363, SB364⟩
  have KT365 := K355.trans K363 (allS (Or.inr gh10) (allS (Or.inr gh342) all0))
  have gh366 : h0.size ≤ e359 := he360.elim (fun q => q ▸ gh342) (fun q => Nat.le_trans K355.1 q)
  have hT367 : (((((((((((((((([] : List Int32) ++ [99, 117, 114, 114, 101, 110, 116, 72, 97, 115, 104, 61]) ++ [nbI (tbv ((UInt32.toInt32 (Int32.toUInt32 (w24 x y z) >>> Int32.toUInt32 ((18 : Int32) &&& 31))) &&& (63 : Int32))), nbI (tbv ((UInt32.toInt32 (Int32.toUInt32 (w24 x y z) >>> Int32.toUInt32 ((12 : Int32) &&& 31))) &&& (63 : Int32))), nbI (tbv ((UInt32.toInt32 (Int32.toUInt32 (w24 x y z) >>> Int32.toUInt32 ((6 : Int32) &&& 31))) &&& (63 : Int32))), nbI (tbv ((w24 x y z) &&& (63 : Int32)))]) ++ [10]) ++ [112, 114, 101, 118, 105, 111, 117, 115, 84, 105, 109, 101, 115, 116, 97, 109, 112, 84, 111, 107, 101, 110]) ++ [61]) ++ [nbI (tbv ((p &&& (255 : Int32)) >>> ((2 : Int32) &&& 31))), nbI (tbv (((p &&& (255 : Int32)) <<< ((4 : Int32) &&& 31)) &&& (63 : Int32))), nar .byte (61 : Int32), nar .byte (61 : Int32)]) ++ [10]) ++ [112, 114, 101, 118, 105, 111, 117, 115, 84, 105, 109, 101, 115, 116, 97, 109, 112, 84, 111, 107, 101, 110, 77, 105, 110, 117, 115, 79, 110, 101, 77, 111, 110, 116, 104]) ++ [61]) ++ [nbI (tbv ((u &&& (255 : Int32)) >>> ((2 : Int32) &&& 31))), nbI (tbv ((((u &&& (255 : Int32)) <<< ((4 : Int32) &&& 31)) &&& (63 : Int32)) ||| ((w &&& (255 : Int32)) >>> ((4 : Int32) &&& 31)))), nbI (tbv (((w &&& (255 : Int32)) <<< ((2 : Int32) &&& 31)) &&& (63 : Int32))), nar .byte (61 : Int32)]) ++ [10]) ++ [112, 114, 101, 118, 105, 111, 117, 115, 84, 105, 109, 101, 115, 116, 97, 109, 112, 84, 111, 107, 101, 110, 77, 105, 110, 117, 115, 79, 110, 101, 89, 101, 97, 114]) ++ [61]) ++ ([] : List Int32)) ++ [10]).length = 122 := by rw [List.length_append, hT343]; rfl
  refine KW.sub (S' := fun _ => False) (fun x hx => hx.elim) ?_
  show KW true l Z M_txt n0 (fun v h => ∃ a t, v = some (.ref a) ∧ Keep h0 h [] ∧ Sg Z h a t (TX x y z p u w)) (EL, fun _ => False) h358 54 2686 110 #[.val (.ref o), .val (.ref en)] [(.ref a1)]
  have f368 := (OD.keep KT365 all0)
  refine k_callVirtual (argsL := []) (rest := []) (W0 := 0) d_txt_110 rfl (mt_tos l Z a0 hw cs hcs SC hEW a1 e359 142 (((((((((((((((([] : List Int32) ++ [99, 117, 114, 114, 101, 110, 116, 72, 97, 115, 104, 61]) ++ [nbI (tbv ((UInt32.toInt32 (Int32.toUInt32 (w24 x y z) >>> Int32.toUInt32 ((18 : Int32) &&& 31))) &&& (63 : Int32))), nbI (tbv ((UInt32.toInt32 (Int32.toUInt32 (w24 x y z) >>> Int32.toUInt32 ((12 : Int32) &&& 31))) &&& (63 : Int32))), nbI (tbv ((UInt32.toInt32 (Int32.toUInt32 (w24 x y z) >>> Int32.toUInt32 ((6 : Int32) &&& 31))) &&& (63 : Int32))), nbI (tbv ((w24 x y z) &&& (63 : Int32)))]) ++ [10]) ++ [112, 114, 101, 118, 105, 111, 117, 115, 84, 105, 109, 101, 115, 116, 97, 109, 112, 84, 111, 107, 101, 110]) ++ [61]) ++ [nbI (tbv ((p &&& (255 : Int32)) >>> ((2 : Int32) &&& 31))), nbI (tbv (((p &&& (255 : Int32)) <<< ((4 : Int32) &&& 31)) &&& (63 : Int32))), nar .byte (61 : Int32), nar .byte (61 : Int32)]) ++ [10]) ++ [112, 114, 101, 118, 105, 111, 117, 115, 84, 105, 109, 101, 115, 116, 97, 109, 112, 84, 111, 107, 101, 110, 77, 105, 110, 117, 115, 79, 110, 101, 77, 111, 110, 116, 104]) ++ [61]) ++ [nbI (tbv ((u &&& (255 : Int32)) >>> ((2 : Int32) &&& 31))), nbI (tbv ((((u &&& (255 : Int32)) <<< ((4 : Int32) &&& 31)) &&& (63 : Int32)) ||| ((w &&& (255 : Int32)) >>> ((4 : Int32) &&& 31)))), nbI (tbv (((w &&& (255 : Int32)) <<< ((2 : Int32) &&& 31)) &&& (63 : Int32))), nar .byte (61 : Int32)]) ++ [10]) ++ [112, 114, 101, 118, 105, 111, 117, 115, 84, 105, 109, 101, 115, 116, 97, 109, 112, 84, 111, 107, 101, 110, 77, 105, 110, 117, 115, 79, 110, 101, 89, 101, 97, 114]) ++ [61]) ++ ([] : List Int32)) ++ [10]) h358 n0 f368 SB364 (by rw [hT367]; decide) (by rw [hT367]; decide)) (fun _ _ _ q => by obtain ⟨_, _, -, K, -⟩ := q; exact ⟨[], K, fun _ z => nomatch z⟩) SB364.exa (hw _ (List.mem_of_getElem? (i := 198) rfl)) (hw _ (List.mem_of_getElem? (i := 199) rfl)) (hw _ (List.mem_of_getElem? (i := 201) rfl)) (hw _ (List.mem_of_getElem? (i := 57) rfl)) rfl (hw _ (List.mem_of_getElem? (i := 200) rfl)) (hw _ (List.mem_of_getElem? (i := 202) rfl)) (hw _ (List.mem_of_getElem? (i := 31) rfl)) (by decide) pd_tos rfl rfl rfl rfl (by decide) (by decide) (by decide) (by decide) ?_
  rintro _ hZ - ⟨a, t, rfl, KZ, SGZ⟩
  refine KW.sub (S' := fun _ => False) (fun x hx => hx.elim) ?_
  show KW true l Z M_txt n0 (fun v h => ∃ a t, v = some (.ref a) ∧ Keep h0 h [] ∧ Sg Z h a t (TX x y z p u w)) (EL, fun _ => False) hZ 56 2832 113 #[.val (.ref o), .val (.ref en)] [(.ref a)]
  exact k_retRef d_txt_113 rfl rfl rfl (by decide) (by decide) ⟨a, t, rfl, KT365.trans KZ all0, SGZ⟩
theorem mt_txt (l : Launch) (Z : State) (a0 : Array Value) (hw : ∀ d ∈ tables_1, d.before a0 Z = true) (cs : Int32) (hcs : ¬ cs = 0) (SC : Sta Z Z.heap "java/lang/String" "COMPACT_STRINGS" "Z" (.int cs)) (hEW : EW Z a0 EL) (sio : Value) (SIO : Sta Z Z.heap "jdk/internal/util/Preconditions" "SIOOBE_FORMATTER" "Ljava/util/function/BiFunction;" sio) (hsio : sio.isRef = true) (en : Addr) (ENC : Enc Z Z.heap en) (tb : Addr) (ckt : ClassId) (STB : Sta Z Z.heap "java/util/Base64$Encoder" "toBase64" "[C" (.ref tb)) (TB : Arv Z Z.heap tb ckt .char (64 : Int32) (T64.map Value.int) (.int 0)) (SEN : Sta Z Z.heap "java/util/Base64$Encoder" "RFC4648" "Ljava/util/Base64$Encoder;" (.ref en)) (o ha pa ma ya : Addr) (c1 c2 c3 c4 : ClassId) (x y z p u w : Int32) (h0 : Heap) (n0 : Nat) (OD : Old Z n0 h0) (FF0 : Fld Z h0 o "com/example/custody/custody/container/ComputingInformation" "currentHash" "[B" (.ref ha)) (FF1 : Fld Z h0 o "com/example/custody/custody/container/ComputingInformation" "previousToken" "[B" (.ref pa)) (FF2 : Fld Z h0 o "com/example/custody/custody/container/ComputingInformation" "minusOneMonthToken" "[B" (.ref ma)) (FF3 : Fld Z h0 o "com/example/custody/custody/container/ComputingInformation" "minusOneYearToken" "[B" (.ref ya)) (AA1 : Arv Z h0 ha c1 .byte (3 : Int32) [.int x, .int y, .int z] (.int 0)) (AA2 : Arv Z h0 pa c2 .byte (1 : Int32) [.int p] (.int 0)) (AA3 : Arv Z h0 ma c3 .byte (2 : Int32) [.int u, .int w] (.int 0)) (AA4 : Arv Z h0 ya c4 .byte (0 : Int32) [] (.int 0)) : MtW l Z M_txt [] n0 #[(.ref o)] (EL, fun _ => False) h0 (fun v h => ∃ a t, v = some (.ref a) ∧ Keep h0 h [] ∧ Sg Z h a t (TX x y z p u w)) :=
  mtw_of_kw (a0 := a0) (P := (EL, fun _ => False)) pf_txt hEW (fun m => by first | (simp [entryFrame, mkF, argsToLocals, Value.category]; done) | rfl) (kw_txt l Z a0 hw cs hcs SC hEW sio SIO hsio en ENC tb ckt STB TB SEN o ha pa ma ya c1 c2 c3 c4 x y z p u w h0 n0 OD FF0 FF1 FF2 FF3 AA1 AA2 AA3 AA4)
abbrev Six (v : Int32) : Prop := 0 ≤ v.toInt ∧ v.toInt < 64
theorem six_nat {v : Int32} (h : Six v) : ∃ n, n < 64 ∧ v = Int32.ofNat n := by
  obtain ⟨h1, h2⟩ := h
  refine ⟨v.toInt.toNat, by omega, ?_⟩
  refine Int32.toInt_inj.mp ?_
  rw [ix_int (by omega)]; omega
theorem b_all : ∀ n, n < 64 → (nar .char (tbv (Int32.ofNat n)) = tbv (Int32.ofNat n) ∧ 0 ≤ (tbv (Int32.ofNat n)).toInt ∧ (tbv (Int32.ofNat n)).toInt < 256 ∧ ((Int32.ofNat n < 26 → nar .char (UInt32.toInt32 (UInt16.toUInt32 (UInt32.toUInt16 (Int32.toUInt32 (65 + Int32.ofNat n))))) = tbv (Int32.ofNat n)) ∧ (¬ Int32.ofNat n < 26 → Int32.ofNat n < 52 → nar .char (UInt32.toInt32 (UInt16.toUInt32 (UInt32.toUInt16 (Int32.toUInt32 (97 + (Int32.ofNat n - 26)))))) = tbv (Int32.ofNat n)) ∧ (¬ Int32.ofNat n < 52 → Int32.ofNat n < 62 → nar .char (UInt32.toInt32 (UInt16.toUInt32 (UInt32.toUInt16 (Int32.toUInt32 (48 + (Int32.ofNat n - 52)))))) = tbv (Int32.ofNat n)) ∧ (Int32.ofNat n = 62 → nar .char 43 = tbv (Int32.ofNat n)) ∧ (¬ Int32.ofNat n < 62 → ¬ Int32.ofNat n = 62 → nar .char 47 = tbv (Int32.ofNat n)))) := by decide +kernel
theorem narT {v : Int32} (h : Six v) : nar .char (tbv v) = tbv v := by
  obtain ⟨n, hn, rfl⟩ := six_nat h; exact (b_all n hn).1
theorem tb_ch {v : Int32} (h : Six v) : 0 ≤ (tbv v).toInt ∧ (tbv v).toInt < 256 := by
  obtain ⟨n, hn, rfl⟩ := six_nat h; exact ⟨(b_all n hn).2.1, (b_all n hn).2.2.1⟩
theorem b_one {v : Int32} (h : Six v) (q : v < 26) : nar .char (UInt32.toInt32 (UInt16.toUInt32 (UInt32.toUInt16 (Int32.toUInt32 ((65 : Int32) + v))))) = tbv v := by
  obtain ⟨n, hn, rfl⟩ := six_nat h; exact (b_all n hn).2.2.2.1 q
theorem b_two {v : Int32} (h : Six v) (q : ¬ v < 26) (r : v < 52) : nar .char (UInt32.toInt32 (UInt16.toUInt32 (UInt32.toUInt16 (Int32.toUInt32 ((97 : Int32) + (v - (26 : Int32))))))) = tbv v := by
  obtain ⟨n, hn, rfl⟩ := six_nat h; exact (b_all n hn).2.2.2.2.1 q r
theorem b_three {v : Int32} (h : Six v) (q : ¬ v < 52) (r : v < 62) : nar .char (UInt32.toInt32 (UInt16.toUInt32 (UInt32.toUInt16 (Int32.toUInt32 ((48 : Int32) + (v - (52 : Int32))))))) = tbv v := by
  obtain ⟨n, hn, rfl⟩ := six_nat h; exact (b_all n hn).2.2.2.2.2.1 q r
theorem b_four {v : Int32} (h : Six v) (q : v = 62) : nar .char 43 = tbv v := by
  obtain ⟨n, hn, rfl⟩ := six_nat h; exact (b_all n hn).2.2.2.2.2.2.1 q
theorem b_five {v : Int32} (h : Six v) (q : ¬ v < 62) (r : ¬ v = 62) : nar .char 47 = tbv v := by
  obtain ⟨n, hn, rfl⟩ := six_nat h; exact (b_all n hn).2.2.2.2.2.2.2 q r
theorem nb255 (a : Int32) : (nbI a &&& (255 : Int32)) = (a &&& (255 : Int32)) := by
  have e1 := c_i2b a
  have e2 := c_i2b (Int8.toInt32 (Int32.toInt8 a))
  have e3 := c_mask (nbI a) 255 8 (by decide) (by decide)
  have e4 := c_mask a 255 8 (by decide) (by decide)
  have e5 : (nbI a).toInt = (Int8.toInt32 (Int32.toInt8 (Int8.toInt32 (Int32.toInt8 a)))).toInt := rfl
  refine Int32.toInt_inj.mp ?_
  omega
theorem rB (a : Int32) : 0 ≤ (a &&& (255 : Int32)).toInt ∧ (a &&& (255 : Int32)).toInt < 256 := by
  have e4 := c_mask a 255 8 (by decide) (by decide); omega
theorem v_e0 (a : Int32) : ((a &&& (255 : Int32)) >>> ((2 : Int32) &&& 31)).toInt = (a &&& (255 : Int32)).toInt / 4 := by
  have := c_ishr (a &&& (255 : Int32)) 2 2 (by decide); omega
theorem v_f1 (a : Int32) : (((a &&& (255 : Int32)) &&& (3 : Int32)) <<< ((4 : Int32) &&& 31)).toInt = ((a &&& (255 : Int32)).toInt % 4) * 16 := by
  have h0 := rB a
  have h1 := c_mask (a &&& (255 : Int32)) 3 2 (by decide) (by decide)
  have h2 := c_ishl ((a &&& (255 : Int32)) &&& (3 : Int32)) 4 4 (by decide)
  have h3 := rng32 (((a &&& (255 : Int32)) &&& (3 : Int32)) <<< ((4 : Int32) &&& 31))
  omega
theorem v_g2 (a : Int32) : (((a &&& (255 : Int32)) &&& (15 : Int32)) <<< ((2 : Int32) &&& 31)).toInt = ((a &&& (255 : Int32)).toInt % 16) * 4 := by
  have h0 := rB a
  have h1 := c_mask (a &&& (255 : Int32)) 15 4 (by decide) (by decide)
  have h2 := c_ishl ((a &&& (255 : Int32)) &&& (15 : Int32)) 2 2 (by decide)
  have h3 := rng32 (((a &&& (255 : Int32)) &&& (15 : Int32)) <<< ((2 : Int32) &&& 31))
  omega
theorem v_e1 (a b : Int32) : ((((a &&& (255 : Int32)) &&& (3 : Int32)) <<< ((4 : Int32) &&& 31)) ||| ((b &&& (255 : Int32)) >>> ((4 : Int32) &&& 31))).toInt = ((a &&& (255 : Int32)).toInt % 4) * 16 + (b &&& (255 : Int32)).toInt / 16 := by
  have h0 := rB a; have h1 := rB b; have h2 := v_f1 a
  have h3 := c_ishr (b &&& (255 : Int32)) 4 4 (by decide)
  have h4 := c_or (((a &&& (255 : Int32)) &&& (3 : Int32)) <<< ((4 : Int32) &&& 31)) ((b &&& (255 : Int32)) >>> ((4 : Int32) &&& 31)) 4 (by decide) 16 (by decide) (by omega) (by omega) (by omega)
  have h5 := rng32 ((((a &&& (255 : Int32)) &&& (3 : Int32)) <<< ((4 : Int32) &&& 31)) ||| ((b &&& (255 : Int32)) >>> ((4 : Int32) &&& 31)))
  omega
theorem v_e2 (a b : Int32) : ((((a &&& (255 : Int32)) &&& (15 : Int32)) <<< ((2 : Int32) &&& 31)) ||| ((b &&& (255 : Int32)) >>> ((6 : Int32) &&& 31))).toInt = ((a &&& (255 : Int32)).toInt % 16) * 4 + (b &&& (255 : Int32)).toInt / 64 := by
  have h0 := rB a; have h1 := rB b; have h2 := v_g2 a
  have h3 := c_ishr (b &&& (255 : Int32)) 6 6 (by decide)
  have h4 := c_or (((a &&& (255 : Int32)) &&& (15 : Int32)) <<< ((2 : Int32) &&& 31)) ((b &&& (255 : Int32)) >>> ((6 : Int32) &&& 31)) 2 (by decide) 4 (by decide) (by omega) (by omega) (by omega)
  have h5 := rng32 ((((a &&& (255 : Int32)) &&& (15 : Int32)) <<< ((2 : Int32) &&& 31)) ||| ((b &&& (255 : Int32)) >>> ((6 : Int32) &&& 31)))
  omega
theorem v_e3 (a : Int32) : ((a &&& (255 : Int32)) &&& (63 : Int32)).toInt = (a &&& (255 : Int32)).toInt % 64 := by
  have h1 := c_mask (a &&& (255 : Int32)) 63 6 (by decide) (by decide); omega
theorem s_e0 (a : Int32) : Six ((a &&& (255 : Int32)) >>> ((2 : Int32) &&& 31)) := by have := v_e0 a; have := rB a; unfold Six; omega
theorem s_f1 (a : Int32) : Six (((a &&& (255 : Int32)) &&& (3 : Int32)) <<< ((4 : Int32) &&& 31)) := by have := v_f1 a; have := rB a; unfold Six; omega
theorem s_g2 (a : Int32) : Six (((a &&& (255 : Int32)) &&& (15 : Int32)) <<< ((2 : Int32) &&& 31)) := by have := v_g2 a; have := rB a; unfold Six; omega
theorem s_e1 (a b : Int32) : Six ((((a &&& (255 : Int32)) &&& (3 : Int32)) <<< ((4 : Int32) &&& 31)) ||| ((b &&& (255 : Int32)) >>> ((4 : Int32) &&& 31))) := by have := v_e1 a b; have := rB a; have := rB b; unfold Six; omega
theorem s_e2 (a b : Int32) : Six ((((a &&& (255 : Int32)) &&& (15 : Int32)) <<< ((2 : Int32) &&& 31)) ||| ((b &&& (255 : Int32)) >>> ((6 : Int32) &&& 31))) := by have := v_e2 a b; have := rB a; have := rB b; unfold Six; omega
theorem s_e3 (a : Int32) : Six ((a &&& (255 : Int32)) &&& (63 : Int32)) := by have := v_e3 a; have := rB a; unfold Six; omega
theorem v_w24 (a b c : Int32) : (w24 (nbI a) (nbI b) (nbI c)).toInt = (a &&& (255 : Int32)).toInt * 65536 + (b &&& (255 : Int32)).toInt * 256 + (c &&& (255 : Int32)).toInt := by
  have h0 := rB a; have h1 := rB b; have h2 := rB c
  unfold w24
  rw [nb255, nb255, nb255]
  have s1 := c_ishl (a &&& (255 : Int32)) 16 16 (by decide); have r1 := rng32 ((a &&& (255 : Int32)) <<< ((16 : Int32) &&& 31))
  have s2 := c_ishl (b &&& (255 : Int32)) 8 8 (by decide); have r2 := rng32 ((b &&& (255 : Int32)) <<< ((8 : Int32) &&& 31))
  have o1 := c_or ((a &&& (255 : Int32)) <<< ((16 : Int32) &&& 31)) ((b &&& (255 : Int32)) <<< ((8 : Int32) &&& 31)) 16 (by decide) 65536 (by decide) (by omega) (by omega) (by omega)
  have r3 := rng32 (((a &&& (255 : Int32)) <<< ((16 : Int32) &&& 31)) ||| ((b &&& (255 : Int32)) <<< ((8 : Int32) &&& 31)))
  have o2 := c_or (((a &&& (255 : Int32)) <<< ((16 : Int32) &&& 31)) ||| ((b &&& (255 : Int32)) <<< ((8 : Int32) &&& 31))) (c &&& (255 : Int32)) 8 (by decide) 256 (by decide) (by omega) (by omega) (by omega)
  have r4 := rng32 ((((a &&& (255 : Int32)) <<< ((16 : Int32) &&& 31)) ||| ((b &&& (255 : Int32)) <<< ((8 : Int32) &&& 31))) ||| (c &&& (255 : Int32)))
  omega
theorem q_18 (a b c : Int32) : ((UInt32.toInt32 (Int32.toUInt32 (w24 (nbI a) (nbI b) (nbI c)) >>> Int32.toUInt32 ((18 : Int32) &&& 31))) &&& (63 : Int32)) = ((a &&& (255 : Int32)) >>> ((2 : Int32) &&& 31)) := by
  have h0 := rB a; have h1 := rB b; have h2 := rB c; have h3 := v_w24 a b c; have h4 := v_e0 a
  have h5 := c_iushr (w24 (nbI a) (nbI b) (nbI c)) 18 18 (by decide) (by decide)
  have h6 := c_mask (UInt32.toInt32 (Int32.toUInt32 (w24 (nbI a) (nbI b) (nbI c)) >>> Int32.toUInt32 ((18 : Int32) &&& 31))) 63 6 (by decide) (by decide)
  refine Int32.toInt_inj.mp ?_
  omega
theorem q_12 (a b c : Int32) : ((UInt32.toInt32 (Int32.toUInt32 (w24 (nbI a) (nbI b) (nbI c)) >>> Int32.toUInt32 ((12 : Int32) &&& 31))) &&& (63 : Int32)) = ((((a &&& (255 : Int32)) &&& (3 : Int32)) <<< ((4 : Int32) &&& 31)) ||| ((b &&& (255 : Int32)) >>> ((4 : Int32) &&& 31))) := by
  have h0 := rB a; have h1 := rB b; have h2 := rB c; have h3 := v_w24 a b c; have h4 := v_e1 a b
  have h5 := c_iushr (w24 (nbI a) (nbI b) (nbI c)) 12 12 (by decide) (by decide)
  have h6 := c_mask (UInt32.toInt32 (Int32.toUInt32 (w24 (nbI a) (nbI b) (nbI c)) >>> Int32.toUInt32 ((12 : Int32) &&& 31))) 63 6 (by decide) (by decide)
  refine Int32.toInt_inj.mp ?_
  omega
theorem q_6 (a b c : Int32) : ((UInt32.toInt32 (Int32.toUInt32 (w24 (nbI a) (nbI b) (nbI c)) >>> Int32.toUInt32 ((6 : Int32) &&& 31))) &&& (63 : Int32)) = ((((b &&& (255 : Int32)) &&& (15 : Int32)) <<< ((2 : Int32) &&& 31)) ||| ((c &&& (255 : Int32)) >>> ((6 : Int32) &&& 31))) := by
  have h0 := rB a; have h1 := rB b; have h2 := rB c; have h3 := v_w24 a b c; have h4 := v_e2 b c
  have h5 := c_iushr (w24 (nbI a) (nbI b) (nbI c)) 6 6 (by decide) (by decide)
  have h6 := c_mask (UInt32.toInt32 (Int32.toUInt32 (w24 (nbI a) (nbI b) (nbI c)) >>> Int32.toUInt32 ((6 : Int32) &&& 31))) 63 6 (by decide) (by decide)
  refine Int32.toInt_inj.mp ?_
  omega
theorem q_0 (a b c : Int32) : ((w24 (nbI a) (nbI b) (nbI c)) &&& (63 : Int32)) = ((c &&& (255 : Int32)) &&& (63 : Int32)) := by
  have h0 := rB a; have h1 := rB b; have h2 := rB c; have h3 := v_w24 a b c; have h4 := v_e3 c
  have h6 := c_mask (w24 (nbI a) (nbI b) (nbI c)) 63 6 (by decide) (by decide)
  refine Int32.toInt_inj.mp ?_
  omega
theorem q_p1 (a : Int32) : (((a &&& (255 : Int32)) <<< ((4 : Int32) &&& 31)) &&& (63 : Int32)) = (((a &&& (255 : Int32)) &&& (3 : Int32)) <<< ((4 : Int32) &&& 31)) := by
  have h0 := rB a; have h1 := v_f1 a
  have h2 := c_ishl (a &&& (255 : Int32)) 4 4 (by decide); have h3 := rng32 ((a &&& (255 : Int32)) <<< ((4 : Int32) &&& 31))
  have h4 := c_mask ((a &&& (255 : Int32)) <<< ((4 : Int32) &&& 31)) 63 6 (by decide) (by decide)
  refine Int32.toInt_inj.mp ?_
  omega
theorem q_m2 (a : Int32) : (((a &&& (255 : Int32)) <<< ((2 : Int32) &&& 31)) &&& (63 : Int32)) = (((a &&& (255 : Int32)) &&& (15 : Int32)) <<< ((2 : Int32) &&& 31)) := by
  have h0 := rB a; have h1 := v_g2 a
  have h2 := c_ishl (a &&& (255 : Int32)) 2 2 (by decide); have h3 := rng32 ((a &&& (255 : Int32)) <<< ((2 : Int32) &&& 31))
  have h4 := c_mask ((a &&& (255 : Int32)) <<< ((2 : Int32) &&& 31)) 63 6 (by decide) (by decide)
  refine Int32.toInt_inj.mp ?_
  omega
theorem q_m1 (a b : Int32) : ((((a &&& (255 : Int32)) <<< ((4 : Int32) &&& 31)) &&& (63 : Int32)) ||| ((b &&& (255 : Int32)) >>> ((4 : Int32) &&& 31))) = ((((a &&& (255 : Int32)) &&& (3 : Int32)) <<< ((4 : Int32) &&& 31)) ||| ((b &&& (255 : Int32)) >>> ((4 : Int32) &&& 31))) := by rw [q_p1]

abbrev M_b64 : MD := ((⟨"com/example/custody/custody/container/ComputingInformationTextPinLaw", "b64", "(I)C"⟩ : MethodName), method_2_code, 1, (some .char), { frames := 0, cells := 0, slots := 0, locals := 0 })
theorem d_b64_0 : decode method_2_code 0 = .ok (.iload_n 0, 1) := by decide +kernel
theorem d_b64_1 : decode method_2_code 1 = .ok (.bipush 26, 2) := by decide +kernel
theorem d_b64_3 : decode method_2_code 3 = .ok (.if_icmp .ge 9, 3) := by decide +kernel
theorem d_b64_6 : decode method_2_code 6 = .ok (.bipush 65, 2) := by decide +kernel
theorem d_b64_8 : decode method_2_code 8 = .ok (.iload_n 0, 1) := by decide +kernel
theorem d_b64_9 : decode method_2_code 9 = .ok (.iadd, 1) := by decide +kernel
theorem d_b64_10 : decode method_2_code 10 = .ok (.i2c, 1) := by decide +kernel
theorem d_b64_11 : decode method_2_code 11 = .ok (.ireturn, 1) := by decide +kernel
theorem d_b64_12 : decode method_2_code 12 = .ok (.iload_n 0, 1) := by decide +kernel
theorem d_b64_13 : decode method_2_code 13 = .ok (.bipush 52, 2) := by decide +kernel
theorem d_b64_15 : decode method_2_code 15 = .ok (.if_icmp .ge 12, 3) := by decide +kernel
theorem d_b64_18 : decode method_2_code 18 = .ok (.bipush 97, 2) := by decide +kernel
theorem d_b64_20 : decode method_2_code 20 = .ok (.iload_n 0, 1) := by decide +kernel
theorem d_b64_21 : decode method_2_code 21 = .ok (.bipush 26, 2) := by decide +kernel
theorem d_b64_23 : decode method_2_code 23 = .ok (.isub, 1) := by decide +kernel
theorem d_b64_24 : decode method_2_code 24 = .ok (.iadd, 1) := by decide +kernel
theorem d_b64_25 : decode method_2_code 25 = .ok (.i2c, 1) := by decide +kernel
theorem d_b64_26 : decode method_2_code 26 = .ok (.ireturn, 1) := by decide +kernel
theorem d_b64_27 : decode method_2_code 27 = .ok (.iload_n 0, 1) := by decide +kernel
theorem d_b64_28 : decode method_2_code 28 = .ok (.bipush 62, 2) := by decide +kernel
theorem d_b64_30 : decode method_2_code 30 = .ok (.if_icmp .ge 12, 3) := by decide +kernel
theorem d_b64_33 : decode method_2_code 33 = .ok (.bipush 48, 2) := by decide +kernel
theorem d_b64_35 : decode method_2_code 35 = .ok (.iload_n 0, 1) := by decide +kernel
theorem d_b64_36 : decode method_2_code 36 = .ok (.bipush 52, 2) := by decide +kernel
theorem d_b64_38 : decode method_2_code 38 = .ok (.isub, 1) := by decide +kernel
theorem d_b64_39 : decode method_2_code 39 = .ok (.iadd, 1) := by decide +kernel
theorem d_b64_40 : decode method_2_code 40 = .ok (.i2c, 1) := by decide +kernel
theorem d_b64_41 : decode method_2_code 41 = .ok (.ireturn, 1) := by decide +kernel
theorem d_b64_42 : decode method_2_code 42 = .ok (.iload_n 0, 1) := by decide +kernel
theorem d_b64_43 : decode method_2_code 43 = .ok (.bipush 62, 2) := by decide +kernel
theorem d_b64_45 : decode method_2_code 45 = .ok (.if_icmp .ne 6, 3) := by decide +kernel
theorem d_b64_48 : decode method_2_code 48 = .ok (.bipush 43, 2) := by decide +kernel
theorem d_b64_50 : decode method_2_code 50 = .ok (.ireturn, 1) := by decide +kernel
theorem d_b64_51 : decode method_2_code 51 = .ok (.bipush 47, 2) := by decide +kernel
theorem d_b64_53 : decode method_2_code 53 = .ok (.ireturn, 1) := by decide +kernel
theorem pd_b64 : parseMethodDescriptor "(I)C" = some ⟨[.int], (some .char)⟩ := by decide +kernel
theorem pf_b64 : plainFor (⟨"com/example/custody/custody/container/ComputingInformationTextPinLaw", "b64", "(I)C"⟩ : MethodName) = true := by first | exact plainFor_of_name (by first | (simp [plainName, overriddenIn]; done) | decide +kernel) | decide +kernel
set_option maxRecDepth 65536 in
set_option maxHeartbeats 40000000 in
theorem kw_b64 (l : Launch) (Z : State) (a0 : Array Value) (hw : ∀ d ∈ tables_1, d.before a0 Z = true) (cs : Int32) (hcs : ¬ cs = 0) (SC : Sta Z Z.heap "java/lang/String" "COMPACT_STRINGS" "Z" (.int cs)) (hEW : EW Z a0 EL) (v : Int32) (hv : Six v) (h0 : Heap) (n0 : Nat) : KW false l Z M_b64 n0 (fun v' h => v' = some (.int (tbv v)) ∧ h0 = h) ([], fun _ => False) h0 0 0 0 #[.val (.int v)] [] := by
  refine k_iloadN d_b64_0 rfl rfl ?_
  refine k_bipush (z := (26 : Int32)) d_b64_1 rfl (by decide) ?_
  refine k_icmp (pc1 := 12) (pc' := 6) d_b64_3 (by decide) (by decide) rfl (fun (cd1 : ¬ v < (26 : Int32)) => ?_) (fun (cd1 : v < (26 : Int32)) => ?_)
  · skip
    refine k_iloadN d_b64_12 rfl rfl ?_
    refine k_bipush (z := (52 : Int32)) d_b64_13 rfl (by decide) ?_
    refine k_icmp (pc1 := 27) (pc' := 18) d_b64_15 (by decide) (by decide) rfl (fun (cd2 : ¬ v < (52 : Int32)) => ?_) (fun (cd2 : v < (52 : Int32)) => ?_)
    · skip
      refine k_iloadN d_b64_27 rfl rfl ?_
      refine k_bipush (z := (62 : Int32)) d_b64_28 rfl (by decide) ?_
      refine k_icmp (pc1 := 42) (pc' := 33) d_b64_30 (by decide) (by decide) rfl (fun (cd3 : ¬ v < (62 : Int32)) => ?_) (fun (cd3 : v < (62 : Int32)) => ?_)
      · skip
        refine k_iloadN d_b64_42 rfl rfl ?_
        refine k_bipush (z := (62 : Int32)) d_b64_43 rfl (by decide) ?_
        refine k_icmp (pc1 := 51) (pc' := 48) d_b64_45 (by decide) (by decide) rfl (fun (cd4 : ¬ v = (62 : Int32)) => ?_) (fun (cd4 : v = (62 : Int32)) => ?_)
        · skip
          refine k_bipush (z := (47 : Int32)) d_b64_51 rfl (by decide) ?_
          exact k_retNar d_b64_53 rfl (by simp) (z' := tbv v) (b_five hv (by assumption) (by assumption)) (by decide) (by decide) ⟨rfl, rfl⟩
        · skip
          refine k_bipush (z := (43 : Int32)) d_b64_48 rfl (by decide) ?_
          exact k_retNar d_b64_50 rfl (by simp) (z' := tbv v) (b_four hv (by assumption)) (by decide) (by decide) ⟨rfl, rfl⟩
      · skip
        refine k_bipush (z := (48 : Int32)) d_b64_33 rfl (by decide) ?_
        refine k_iloadN d_b64_35 rfl rfl ?_
        refine k_bipush (z := (52 : Int32)) d_b64_36 rfl (by decide) ?_
        refine k_isub d_b64_38 rfl ?_
        refine k_iadd d_b64_39 rfl ?_
        refine k_i2c d_b64_40 rfl ?_
        exact k_retNar d_b64_41 rfl (by simp) (z' := tbv v) (b_three hv (by assumption) (by assumption)) (by decide) (by decide) ⟨rfl, rfl⟩
    · skip
      refine k_bipush (z := (97 : Int32)) d_b64_18 rfl (by decide) ?_
      refine k_iloadN d_b64_20 rfl rfl ?_
      refine k_bipush (z := (26 : Int32)) d_b64_21 rfl (by decide) ?_
      refine k_isub d_b64_23 rfl ?_
      refine k_iadd d_b64_24 rfl ?_
      refine k_i2c d_b64_25 rfl ?_
      exact k_retNar d_b64_26 rfl (by simp) (z' := tbv v) (b_two hv (by assumption) (by assumption)) (by decide) (by decide) ⟨rfl, rfl⟩
  · skip
    refine k_bipush (z := (65 : Int32)) d_b64_6 rfl (by decide) ?_
    refine k_iloadN d_b64_8 rfl rfl ?_
    refine k_iadd d_b64_9 rfl ?_
    refine k_i2c d_b64_10 rfl ?_
    exact k_retNar d_b64_11 rfl (by simp) (z' := tbv v) (b_one hv (by assumption)) (by decide) (by decide) ⟨rfl, rfl⟩
theorem mt_b64 (l : Launch) (Z : State) (a0 : Array Value) (hw : ∀ d ∈ tables_1, d.before a0 Z = true) (cs : Int32) (hcs : ¬ cs = 0) (SC : Sta Z Z.heap "java/lang/String" "COMPACT_STRINGS" "Z" (.int cs)) (hEW : EW Z a0 EL) (v : Int32) (hv : Six v) (h0 : Heap) (n0 : Nat) : Mt l Z M_b64 [] n0 #[(.int v)] h0 (fun v' h => v' = some (.int (tbv v)) ∧ h0 = h) :=
  mt_of_kw (P := ([], fun _ => False)) pf_b64 (fun m => by first | (simp [entryFrame, mkF, argsToLocals, Value.category]; done) | rfl) (kw_b64 l Z a0 hw cs hcs SC hEW v hv h0 n0)
abbrev M_law : MD := (x, code, maxLocals, ret, room_1)
theorem pd_law : parseMethodDescriptor "(IIIIII)Z" = some ⟨[.int, .int, .int, .int, .int, .int], (some .boolean)⟩ := by decide +kernel
theorem pf_law : plainFor (⟨"com/example/custody/custody/container/ComputingInformationTextPinLaw", "law", "(IIIIII)Z"⟩ : MethodName) = true := by first | exact plainFor_of_name (by first | (simp [plainName, overriddenIn]; done) | decide +kernel) | decide +kernel
theorem nl10 : nar .char (10 : Int32) = 10 := by decide
theorem nb_10 : nbI (10 : Int32) = 10 := by decide
theorem lt10 : 0 ≤ (10 : Int32).toInt ∧ (10 : Int32).toInt < 256 := by decide
theorem nl61 : nar .char (61 : Int32) = 61 := by decide
theorem nb_61 : nbI (61 : Int32) = 61 := by decide
theorem lt61 : 0 ≤ (61 : Int32).toInt ∧ (61 : Int32).toInt < 256 := by decide
theorem nl72 : nar .char (72 : Int32) = 72 := by decide
theorem nb_72 : nbI (72 : Int32) = 72 := by decide
theorem lt72 : 0 ≤ (72 : Int32).toInt ∧ (72 : Int32).toInt < 256 := by decide
theorem nl77 : nar .char (77 : Int32) = 77 := by decide
theorem nb_77 : nbI (77 : Int32) = 77 := by decide
theorem lt77 : 0 ≤ (77 : Int32).toInt ∧ (77 : Int32).toInt < 256 := by decide
theorem nl79 : nar .char (79 : Int32) = 79 := by decide
theorem nb_79 : nbI (79 : Int32) = 79 := by decide
theorem lt79 : 0 ≤ (79 : Int32).toInt ∧ (79 : Int32).toInt < 256 := by decide
theorem nl84 : nar .char (84 : Int32) = 84 := by decide
theorem nb_84 : nbI (84 : Int32) = 84 := by decide
theorem lt84 : 0 ≤ (84 : Int32).toInt ∧ (84 : Int32).toInt < 256 := by decide
theorem nl89 : nar .char (89 : Int32) = 89 := by decide
theorem nb_89 : nbI (89 : Int32) = 89 := by decide
theorem lt89 : 0 ≤ (89 : Int32).toInt ∧ (89 : Int32).toInt < 256 := by decide
theorem nl97 : nar .char (97 : Int32) = 97 := by decide
theorem nb_97 : nbI (97 : Int32) = 97 := by decide
theorem lt97 : 0 ≤ (97 : Int32).toInt ∧ (97 : Int32).toInt < 256 := by decide
theorem nl99 : nar .char (99 : Int32) = 99 := by decide
theorem nb_99 : nbI (99 : Int32) = 99 := by decide
theorem lt99 : 0 ≤ (99 : Int32).toInt ∧ (99 : Int32).toInt < 256 := by decide
theorem nl101 : nar .char (101 : Int32) = 101 := by decide
theorem nb_101 : nbI (101 : Int32) = 101 := by decide
theorem lt101 : 0 ≤ (101 : Int32).toInt ∧ (101 : Int32).toInt < 256 := by decide
theorem nl104 : nar .char (104 : Int32) = 104 := by decide
theorem nb_104 : nbI (104 : Int32) = 104 := by decide
theorem lt104 : 0 ≤ (104 : Int32).toInt ∧ (104 : Int32).toInt < 256 := by decide
theorem nl105 : nar .char (105 : Int32) = 105 := by decide
theorem nb_105 : nbI (105 : Int32) = 105 := by decide
theorem lt105 : 0 ≤ (105 : Int32).toInt ∧ (105 : Int32).toInt < 256 := by decide
theorem nl107 : nar .char (107 : Int32) = 107 := by decide
theorem nb_107 : nbI (107 : Int32) = 107 := by decide
theorem lt107 : 0 ≤ (107 : Int32).toInt ∧ (107 : Int32).toInt < 256 := by decide
theorem nl109 : nar .char (109 : Int32) = 109 := by decide
theorem nb_109 : nbI (109 : Int32) = 109 := by decide
theorem lt109 : 0 ≤ (109 : Int32).toInt ∧ (109 : Int32).toInt < 256 := by decide
theorem nl110 : nar .char (110 : Int32) = 110 := by decide
theorem nb_110 : nbI (110 : Int32) = 110 := by decide
theorem lt110 : 0 ≤ (110 : Int32).toInt ∧ (110 : Int32).toInt < 256 := by decide
theorem nl111 : nar .char (111 : Int32) = 111 := by decide
theorem nb_111 : nbI (111 : Int32) = 111 := by decide
theorem lt111 : 0 ≤ (111 : Int32).toInt ∧ (111 : Int32).toInt < 256 := by decide
theorem nl112 : nar .char (112 : Int32) = 112 := by decide
theorem nb_112 : nbI (112 : Int32) = 112 := by decide
theorem lt112 : 0 ≤ (112 : Int32).toInt ∧ (112 : Int32).toInt < 256 := by decide
theorem nl114 : nar .char (114 : Int32) = 114 := by decide
theorem nb_114 : nbI (114 : Int32) = 114 := by decide
theorem lt114 : 0 ≤ (114 : Int32).toInt ∧ (114 : Int32).toInt < 256 := by decide
theorem nl115 : nar .char (115 : Int32) = 115 := by decide
theorem nb_115 : nbI (115 : Int32) = 115 := by decide
theorem lt115 : 0 ≤ (115 : Int32).toInt ∧ (115 : Int32).toInt < 256 := by decide
theorem nl116 : nar .char (116 : Int32) = 116 := by decide
theorem nb_116 : nbI (116 : Int32) = 116 := by decide
theorem lt116 : 0 ≤ (116 : Int32).toInt ∧ (116 : Int32).toInt < 256 := by decide
theorem nl117 : nar .char (117 : Int32) = 117 := by decide
theorem nb_117 : nbI (117 : Int32) = 117 := by decide
theorem lt117 : 0 ≤ (117 : Int32).toInt ∧ (117 : Int32).toInt < 256 := by decide
theorem nl118 : nar .char (118 : Int32) = 118 := by decide
theorem nb_118 : nbI (118 : Int32) = 118 := by decide
theorem lt118 : 0 ≤ (118 : Int32).toInt ∧ (118 : Int32).toInt < 256 := by decide
theorem nb61 : nar .byte (61 : Int32) = 61 := by decide
set_option maxRecDepth 65536 in
set_option maxHeartbeats 40000000 in
theorem kw_law (l : Launch) (Z : State) (a0 : Array Value) (hw : ∀ d ∈ tables_1, d.before a0 Z = true) (cs : Int32) (hcs : ¬ cs = 0) (SC : Sta Z Z.heap "java/lang/String" "COMPACT_STRINGS" "Z" (.int cs)) (hEW : EW Z a0 EL) (sio : Value) (SIO : Sta Z Z.heap "jdk/internal/util/Preconditions" "SIOOBE_FORMATTER" "Ljava/util/function/BiFunction;" sio) (hsio : sio.isRef = true) (en : Addr) (ENC : Enc Z Z.heap en) (tb : Addr) (ckt : ClassId) (STB : Sta Z Z.heap "java/util/Base64$Encoder" "toBase64" "[C" (.ref tb)) (TB : Arv Z Z.heap tb ckt .char (64 : Int32) (T64.map Value.int) (.int 0)) (SEN : Sta Z Z.heap "java/util/Base64$Encoder" "RFC4648" "Ljava/util/Base64$Encoder;" (.ref en)) (x0 x1 x2 x3 x4 x5 : Int32) (h0 : Heap) (n0 : Nat) (OD : Old Z n0 h0) : KW true l Z M_law n0 (fun v _ => v = some (.int 1)) (EL, fun _ => False) h0 0 0 0 #[.val (.int x0), .val (.int x1), .val (.int x2), .val (.int x3), .val (.int x4), .val (.int x5), .unset, .unset, .unset, .unset, .unset, .unset, .unset, .unset, .unset, .unset, .unset, .unset] [] := by
  have Z0 := OD.1 ▸ OD.2.1
  refine k_iconst (z := (3 : Int32)) at_0 rfl (by decide) ?_
  refine k_newarr (cap := 3) at_1 rfl (hw _ (List.mem_of_getElem? (i := 0) rfl)) (by decide) (by decide) (by decide) (by decide) (by decide) ?_
  intro h2 a1 ck6 g5 E3 V4
  have z8 : n0 ≤ h0.size := Z0
  have ge7 : n0 ≤ a1 := Nat.le_trans z8 (Nat.le_of_eq g5.symm)
  have gl9 : h0.size ≤ a1 := Nat.le_of_eq g5.symm
  have V10 : Arv Z h2 a1 ck6 .byte (3 : Int32) [(.int (0 : Int32)), (.int (0 : Int32)), (.int (0 : Int32))] (.int (0 : Int32)) := Arv.pad V4 (pad_rep [] _ 3)
  refine KW.sub (S' := fun x => x = a1) (fun x hx => ?_) ?_
  · rcases hx with rfl
    · exact Or.inr ⟨gl9, V10.lt⟩
  show KW true l Z M_law n0 (fun v _ => v = some (.int 1)) (EL, fun x => x = a1) h2 1 3 3 #[.val (.int x0), .val (.int x1), .val (.int x2), .val (.int x3), .val (.int x4), .val (.int x5), .unset, .unset, .unset, .unset, .unset, .unset, .unset, .unset, .unset, .unset, .unset, .unset] [(.ref a1)]
  refine k_astore (Ls' := #[.val (.int x0), .val (.int x1), .val (.int x2), .val (.int x3), .val (.int x4), .val (.int x5), .val (.ref a1), .unset, .unset, .unset, .unset, .unset, .unset, .unset, .unset, .unset, .unset, .unset]) at_3 rfl rfl rfl ?_
  refine k_aload at_5 rfl rfl rfl ?_
  refine k_iconst (z := (0 : Int32)) at_7 rfl (by decide) ?_
  refine k_iloadN at_8 rfl rfl ?_
  refine k_i2b at_9 rfl ?_
  refine k_bastore (i := 0) at_10 rfl V10 (by decide) (by decide) (by simp) ge7 (fun _ => Or.inl rfl) ?_
  intro h11 W12 V13
  have V14 : Arv Z h11 a1 ck6 .byte (3 : Int32) [(.int (nar .byte (Int8.toInt32 (Int32.toInt8 x0)))), (.int (0 : Int32)), (.int (0 : Int32))] (.int (0 : Int32)) := V13
  show KW true l Z M_law n0 (fun v _ => v = some (.int 1)) (EL, fun x => x = a1) h11 1 3 11 #[.val (.int x0), .val (.int x1), .val (.int x2), .val (.int x3), .val (.int x4), .val (.int x5), .val (.ref a1), .unset, .unset, .unset, .unset, .unset, .unset, .unset, .unset, .unset, .unset, .unset] []
  refine k_aload at_11 rfl rfl rfl ?_
  refine k_iconst (z := (1 : Int32)) at_13 rfl (by decide) ?_
  refine k_iloadN at_14 rfl rfl ?_
  refine k_i2b at_15 rfl ?_
  refine k_bastore (i := 1) at_16 rfl V14 (by decide) (by decide) (by simp) ge7 (fun _ => Or.inl rfl) ?_
  intro h15 W16 V17
  have V18 : Arv Z h15 a1 ck6 .byte (3 : Int32) [(.int (nar .byte (Int8.toInt32 (Int32.toInt8 x0)))), (.int (nar .byte (Int8.toInt32 (Int32.toInt8 x1)))), (.int (0 : Int32))] (.int (0 : Int32)) := V17
  show KW true l Z M_law n0 (fun v _ => v = some (.int 1)) (EL, fun x => x = a1) h15 1 3 17 #[.val (.int x0), .val (.int x1), .val (.int x2), .val (.int x3), .val (.int x4), .val (.int x5), .val (.ref a1), .unset, .unset, .unset, .unset, .unset, .unset, .unset, .unset, .unset, .unset, .unset] []
  refine k_aload at_17 rfl rfl rfl ?_
  refine k_iconst (z := (2 : Int32)) at_19 rfl (by decide) ?_
  refine k_iloadN at_20 rfl rfl ?_
  refine k_i2b at_21 rfl ?_
  refine k_bastore (i := 2) at_22 rfl V18 (by decide) (by decide) (by simp) ge7 (fun _ => Or.inl rfl) ?_
  intro h19 W20 V21
  have V22 : Arv Z h19 a1 ck6 .byte (3 : Int32) [(.int (nar .byte (Int8.toInt32 (Int32.toInt8 x0)))), (.int (nar .byte (Int8.toInt32 (Int32.toInt8 x1)))), (.int (nar .byte (Int8.toInt32 (Int32.toInt8 x2))))] (.int (0 : Int32)) := V21
  show KW true l Z M_law n0 (fun v _ => v = some (.int 1)) (EL, fun x => x = a1) h19 1 3 23 #[.val (.int x0), .val (.int x1), .val (.int x2), .val (.int x3), .val (.int x4), .val (.int x5), .val (.ref a1), .unset, .unset, .unset, .unset, .unset, .unset, .unset, .unset, .unset, .unset, .unset] []
  refine k_iconst (z := (1 : Int32)) at_23 rfl (by decide) ?_
  refine k_newarr (cap := 1) at_24 rfl (hw _ (List.mem_of_getElem? (i := 0) rfl)) (by decide) (by decide) (by decide) (by decide) (by decide) ?_
  intro h24 a23 ck28 g27 E25 V26
  have ne29 : a1 ≠ a23 := Nat.ne_of_lt (Nat.lt_of_lt_of_eq V22.lt g27.symm)
  have z31 : n0 ≤ h19.size := (Nat.le_trans (Nat.le_trans (Nat.le_trans (Nat.le_trans z8 E3.1) (Nat.le_of_eq W12.size.symm)) (Nat.le_of_eq W16.size.symm)) (Nat.le_of_eq W20.size.symm))
  have ge30 : n0 ≤ a23 := Nat.le_trans z31 (Nat.le_of_eq g27.symm)
  have gl32 : h19.size ≤ a23 := Nat.le_of_eq g27.symm
  have V33 : Arv Z h24 a23 ck28 .byte (1 : Int32) [(.int (0 : Int32))] (.int (0 : Int32)) := Arv.pad V26 (pad_rep [] _ 1)
  refine KW.sub (S' := fun x => x = a1 ∨ x = a23) (fun x hx => ?_) ?_
  · rcases hx with rfl | rfl
    · exact Or.inl rfl
    · exact Or.inr ⟨gl32, V33.lt⟩
  show KW true l Z M_law n0 (fun v _ => v = some (.int 1)) (EL, fun x => x = a1 ∨ x = a23) h24 2 4 26 #[.val (.int x0), .val (.int x1), .val (.int x2), .val (.int x3), .val (.int x4), .val (.int x5), .val (.ref a1), .unset, .unset, .unset, .unset, .unset, .unset, .unset, .unset, .unset, .unset, .unset] [(.ref a23)]
  refine k_astore (Ls' := #[.val (.int x0), .val (.int x1), .val (.int x2), .val (.int x3), .val (.int x4), .val (.int x5), .val (.ref a1), .val (.ref a23), .unset, .unset, .unset, .unset, .unset, .unset, .unset, .unset, .unset, .unset]) at_26 rfl rfl rfl ?_
  refine k_aload at_28 rfl rfl rfl ?_
  refine k_iconst (z := (0 : Int32)) at_30 rfl (by decide) ?_
  refine k_iloadN at_31 rfl rfl ?_
  refine k_i2b at_32 rfl ?_
  refine k_bastore (i := 0) at_33 rfl V33 (by decide) (by decide) (by simp) ge30 (fun _ => Or.inl (Or.inr rfl)) ?_
  intro h34 W35 V36
  have V37 : Arv Z h34 a23 ck28 .byte (1 : Int32) [(.int (nar .byte (Int8.toInt32 (Int32.toInt8 x3))))] (.int (0 : Int32)) := V36
  show KW true l Z M_law n0 (fun v _ => v = some (.int 1)) (EL, fun x => x = a1 ∨ x = a23) h34 2 4 34 #[.val (.int x0), .val (.int x1), .val (.int x2), .val (.int x3), .val (.int x4), .val (.int x5), .val (.ref a1), .val (.ref a23), .unset, .unset, .unset, .unset, .unset, .unset, .unset, .unset, .unset, .unset] []
  refine k_iconst (z := (2 : Int32)) at_34 rfl (by decide) ?_
  have f44 := ((V22.ext E25).other W35 ne29)
  refine k_newarr (cap := 2) at_35 rfl (hw _ (List.mem_of_getElem? (i := 0) rfl)) (by decide) (by decide) (by decide) (by decide) (by decide) ?_
  intro h39 a38 ck43 g42 E40 V41
  have ne45 : a1 ≠ a38 := Nat.ne_of_lt (Nat.lt_of_lt_of_eq f44.lt g42.symm)
  have ne46 : a23 ≠ a38 := Nat.ne_of_lt (Nat.lt_of_lt_of_eq V37.lt g42.symm)
  have z48 : n0 ≤ h34.size := (Nat.le_trans (Nat.le_trans z31 E25.1) (Nat.le_of_eq W35.size.symm))
  have ge47 : n0 ≤ a38 := Nat.le_trans z48 (Nat.le_of_eq g42.symm)
  have gl49 : h34.size ≤ a38 := Nat.le_of_eq g42.symm
  have V50 : Arv Z h39 a38 ck43 .byte (2 : Int32) [(.int (0 : Int32)), (.int (0 : Int32))] (.int (0 : Int32)) := Arv.pad V41 (pad_rep [] _ 2)
  refine KW.sub (S' := fun x => x = a1 ∨ x = a23 ∨ x = a38) (fun x hx => ?_) ?_
  · rcases hx with rfl | rfl | rfl
    · exact Or.inl (Or.inl rfl)
    · exact Or.inl (Or.inr rfl)
    · exact Or.inr ⟨gl49, V50.lt⟩
  show KW true l Z M_law n0 (fun v _ => v = some (.int 1)) (EL, fun x => x = a1 ∨ x = a23 ∨ x = a38) h39 3 6 37 #[.val (.int x0), .val (.int x1), .val (.int x2), .val (.int x3), .val (.int x4), .val (.int x5), .val (.ref a1), .val (.ref a23), .unset, .unset, .unset, .unset, .unset, .unset, .unset, .unset, .unset, .unset] [(.ref a38)]
  refine k_astore (Ls' := #[.val (.int x0), .val (.int x1), .val (.int x2), .val (.int x3), .val (.int x4), .val (.int x5), .val (.ref a1), .val (.ref a23), .val (.ref a38), .unset, .unset, .unset, .unset, .unset, .unset, .unset, .unset, .unset]) at_37 rfl rfl rfl ?_
  refine k_aload at_39 rfl rfl rfl ?_
  refine k_iconst (z := (0 : Int32)) at_41 rfl (by decide) ?_
  refine k_iload at_42 rfl rfl ?_
  refine k_i2b at_44 rfl ?_
  refine k_bastore (i := 0) at_45 rfl V50 (by decide) (by decide) (by simp) ge47 (fun _ => Or.inl (Or.inr (Or.inr rfl))) ?_
  intro h51 W52 V53
  have V54 : Arv Z h51 a38 ck43 .byte (2 : Int32) [(.int (nar .byte (Int8.toInt32 (Int32.toInt8 x4)))), (.int (0 : Int32))] (.int (0 : Int32)) := V53
  show KW true l Z M_law n0 (fun v _ => v = some (.int 1)) (EL, fun x => x = a1 ∨ x = a23 ∨ x = a38) h51 3 6 46 #[.val (.int x0), .val (.int x1), .val (.int x2), .val (.int x3), .val (.int x4), .val (.int x5), .val (.ref a1), .val (.ref a23), .val (.ref a38), .unset, .unset, .unset, .unset, .unset, .unset, .unset, .unset, .unset] []
  refine k_aload at_46 rfl rfl rfl ?_
  refine k_iconst (z := (1 : Int32)) at_48 rfl (by decide) ?_
  refine k_iload at_49 rfl rfl ?_
  refine k_i2b at_51 rfl ?_
  refine k_bastore (i := 1) at_52 rfl V54 (by decide) (by decide) (by simp) ge47 (fun _ => Or.inl (Or.inr (Or.inr rfl))) ?_
  intro h55 W56 V57
  have V58 : Arv Z h55 a38 ck43 .byte (2 : Int32) [(.int (nar .byte (Int8.toInt32 (Int32.toInt8 x4)))), (.int (nar .byte (Int8.toInt32 (Int32.toInt8 x5))))] (.int (0 : Int32)) := V57
  show KW true l Z M_law n0 (fun v _ => v = some (.int 1)) (EL, fun x => x = a1 ∨ x = a23 ∨ x = a38) h55 3 6 53 #[.val (.int x0), .val (.int x1), .val (.int x2), .val (.int x3), .val (.int x4), .val (.int x5), .val (.ref a1), .val (.ref a23), .val (.ref a38), .unset, .unset, .unset, .unset, .unset, .unset, .unset, .unset, .unset] []
  refine k_iconst (z := (0 : Int32)) at_53 rfl (by decide) ?_
  have f65 := (((f44.ext E40).other W52 ne45).other W56 ne45)
  have f66 := (((V37.ext E40).other W52 ne46).other W56 ne46)
  refine k_newarr (cap := 0) at_54 rfl (hw _ (List.mem_of_getElem? (i := 0) rfl)) (by decide) (by decide) (by decide) (by decide) (by decide) ?_
  intro h60 a59 ck64 g63 E61 V62
  have ne67 : a1 ≠ a59 := Nat.ne_of_lt (Nat.lt_of_lt_of_eq f65.lt g63.symm)
  have ne68 : a23 ≠ a59 := Nat.ne_of_lt (Nat.lt_of_lt_of_eq f66.lt g63.symm)
  have ne69 : a38 ≠ a59 := Nat.ne_of_lt (Nat.lt_of_lt_of_eq V58.lt g63.symm)
  have z71 : n0 ≤ h55.size := (Nat.le_trans (Nat.le_trans (Nat.le_trans z48 E40.1) (Nat.le_of_eq W52.size.symm)) (Nat.le_of_eq W56.size.symm))
  have ge70 : n0 ≤ a59 := Nat.le_trans z71 (Nat.le_of_eq g63.symm)
  have gl72 : h55.size ≤ a59 := Nat.le_of_eq g63.symm
  refine KW.sub (S' := fun x => x = a1 ∨ x = a23 ∨ x = a38 ∨ x = a59) (fun x hx => ?_) ?_
  · rcases hx with rfl | rfl | rfl | rfl
    · exact Or.inl (Or.inl rfl)
    · exact Or.inl (Or.inr (Or.inl rfl))
    · exact Or.inl (Or.inr (Or.inr rfl))
    · exact Or.inr ⟨gl72, V62.lt⟩
  show KW true l Z M_law n0 (fun v _ => v = some (.int 1)) (EL, fun x => x = a1 ∨ x = a23 ∨ x = a38 ∨ x = a59) h60 4 6 56 #[.val (.int x0), .val (.int x1), .val (.int x2), .val (.int x3), .val (.int x4), .val (.int x5), .val (.ref a1), .val (.ref a23), .val (.ref a38), .unset, .unset, .unset, .unset, .unset, .unset, .unset, .unset, .unset] [(.ref a59)]
  refine k_astore (Ls' := #[.val (.int x0), .val (.int x1), .val (.int x2), .val (.int x3), .val (.int x4), .val (.int x5), .val (.ref a1), .val (.ref a23), .val (.ref a38), .val (.ref a59), .unset, .unset, .unset, .unset, .unset, .unset, .unset, .unset]) at_56 rfl rfl rfl ?_
  have f79 := (f65.ext E61)
  have f80 := (f66.ext E61)
  have f81 := (V58.ext E61)
  refine k_new at_58 rfl (hw _ (List.mem_of_getElem? (i := 1) rfl)) (hw _ (List.mem_of_getElem? (i := 2) rfl)) (hw _ (List.mem_of_getElem? (i := 3) rfl)) (by decide) (by decide) ?_
  intro h74 a73 g78 E75 A76 D77
  have ne82 : a1 ≠ a73 := Nat.ne_of_lt (Nat.lt_of_lt_of_eq f79.lt g78.symm)
  have ne83 : a23 ≠ a73 := Nat.ne_of_lt (Nat.lt_of_lt_of_eq f80.lt g78.symm)
  have ne84 : a38 ≠ a73 := Nat.ne_of_lt (Nat.lt_of_lt_of_eq f81.lt g78.symm)
  have ne85 : a59 ≠ a73 := Nat.ne_of_lt (Nat.lt_of_lt_of_eq V62.lt g78.symm)
  have z86 : n0 ≤ h60.size := (Nat.le_trans z71 E61.1)
  have ge87 : n0 ≤ a73 := Nat.le_trans z86 (Nat.le_of_eq g78.symm)
  have gl88 : h60.size ≤ a73 := Nat.le_of_eq g78.symm
  have F89 : Fld Z h74 a73 "com/example/custody/custody/container/ComputingInformation" "currentHash" "[B" .null := D77 (Or.inr (hw _ (List.mem_of_getElem? (i := 11) rfl))) (ty := (.array .byte)) (by decide)
  have F90 : Fld Z h74 a73 "com/example/custody/custody/container/ComputingInformation" "previousToken" "[B" .null := D77 (Or.inr (hw _ (List.mem_of_getElem? (i := 13) rfl))) (ty := (.array .byte)) (by decide)
  have F91 : Fld Z h74 a73 "com/example/custody/custody/container/ComputingInformation" "minusOneMonthToken" "[B" .null := D77 (Or.inr (hw _ (List.mem_of_getElem? (i := 15) rfl))) (ty := (.array .byte)) (by decide)
  have F92 : Fld Z h74 a73 "com/example/custody/custody/container/ComputingInformation" "minusOneYearToken" "[B" .null := D77 (Or.inr (hw _ (List.mem_of_getElem? (i := 17) rfl))) (ty := (.array .byte)) (by decide)
  refine KW.sub (S' := fun x => x = a1 ∨ x = a23 ∨ x = a38 ∨ x = a59 ∨ x = a73) (fun x hx => ?_) ?_
  · rcases hx with rfl | rfl | rfl | rfl | rfl
    · exact Or.inl (Or.inl rfl)
    · exact Or.inl (Or.inr (Or.inl rfl))
    · exact Or.inl (Or.inr (Or.inr (Or.inl rfl)))
    · exact Or.inl (Or.inr (Or.inr (Or.inr rfl)))
    · exact Or.inr ⟨gl88, A76.lt⟩
  show KW true l Z M_law n0 (fun v _ => v = some (.int 1)) (EL, fun x => x = a1 ∨ x = a23 ∨ x = a38 ∨ x = a59 ∨ x = a73) h74 5 10 61 #[.val (.int x0), .val (.int x1), .val (.int x2), .val (.int x3), .val (.int x4), .val (.int x5), .val (.ref a1), .val (.ref a23), .val (.ref a38), .val (.ref a59), .unset, .unset, .unset, .unset, .unset, .unset, .unset, .unset] [(.ref a73)]
  refine k_dup at_61 rfl rfl ?_
  refine k_aload at_62 rfl rfl rfl ?_
  refine k_aload at_64 rfl rfl rfl ?_
  refine k_aload at_66 rfl rfl rfl ?_
  refine k_aload at_68 rfl rfl rfl ?_
  have f93 := (f79.ext E75)
  have f94 := (f80.ext E75)
  have f95 := (f81.ext E75)
  have f96 := (V62.ext E75)
  have f97 := (((((((((((OD.ext E3).wr W12 ge7).wr W16 ge7).wr W20 ge7).ext E25).wr W35 ge30).ext E40).wr W52 ge47).wr W56 ge47).ext E61).ext E75)
  refine k_callInit (a := a73) (argsL := [(.ref a1), (.ref a23), (.ref a38), (.ref a59)]) (rest := [(.ref a73)]) (W0 := 1) at_70 rfl (mt_cii l Z a0 hw cs hcs SC hEW a73 a1 a23 a38 a59 h74 n0 ge87 A76 F89 F90 F91 F92) (fun _ _ _ q => ⟨[a73], q.2.1, allS (Sf.exa A76 (by decide) (by decide)) all0⟩) rfl rfl (hw _ (List.mem_of_getElem? (i := 4) rfl)) (hw _ (List.mem_of_getElem? (i := 5) rfl)) (hw _ (List.mem_of_getElem? (i := 3) rfl)) (hw _ (List.mem_of_getElem? (i := 6) rfl)) (by decide) pd_cii rfl rfl rfl rfl (by decide) (by decide) (by decide) (by decide) ?_
  rintro _ hC - ⟨rfl, KC, G0, G1, G2, G3⟩
  refine KW.sub (S' := fun _ => False) (fun x hx => hx.elim) ?_
  show KW true l Z M_law n0 (fun v _ => v = some (.int 1)) (EL, fun _ => False) hC 5 10 73 #[.val (.int x0), .val (.int x1), .val (.int x2), .val (.int x3), .val (.int x4), .val (.int x5), .val (.ref a1), .val (.ref a23), .val (.ref a38), .val (.ref a59), .unset, .unset, .unset, .unset, .unset, .unset, .unset, .unset] [(.ref a73)]
  have f98 := (f93.keep KC (ninS ne82 nin0))
  have f99 := (f94.keep KC (ninS ne83 nin0))
  have f100 := (f95.keep KC (ninS ne84 nin0))
  have f101 := (f96.keep KC (ninS ne85 nin0))
  have f102 := (f97.keep KC (allS ge87 all0))
  have f103 := (A76.keep KC)
  refine k_callVirtualW (argsL := []) (rest := []) (W0 := 0) at_73 rfl (mt_txt l Z a0 hw cs hcs SC hEW sio SIO hsio en ENC tb ckt STB TB SEN a73 a1 a23 a38 a59 ck6 ck28 ck43 ck64 (nbI x0) (nbI x1) (nbI x2) (nbI x3) (nbI x4) (nbI x5) hC n0 f102 G0 G1 G2 G3 f98 f99 f100 f101) f103 (hw _ (List.mem_of_getElem? (i := 18) rfl)) (hw _ (List.mem_of_getElem? (i := 19) rfl)) (hw _ (List.mem_of_getElem? (i := 21) rfl)) (hw _ (List.mem_of_getElem? (i := 21) rfl)) rfl (hw _ (List.mem_of_getElem? (i := 20) rfl)) (hw _ (List.mem_of_getElem? (i := 22) rfl)) (hw _ (List.mem_of_getElem? (i := 3) rfl)) (by decide) pd_txt rfl rfl rfl rfl (by decide) (by decide) (by decide) (by decide) ?_
  rintro _ hT - ⟨s1, t1, rfl, KT, SGT⟩
  have ODT := f102.keep KT all0
  have ZT : n0 ≤ hT.size := ODT.1 ▸ ODT.2.1
  show KW true l Z M_law n0 (fun v _ => v = some (.int 1)) (EL, fun _ => False) hT 61 2850 76 #[.val (.int x0), .val (.int x1), .val (.int x2), .val (.int x3), .val (.int x4), .val (.int x5), .val (.ref a1), .val (.ref a23), .val (.ref a38), .val (.ref a59), .unset, .unset, .unset, .unset, .unset, .unset, .unset, .unset] [(.ref s1)]
  refine k_astore (Ls' := #[.val (.int x0), .val (.int x1), .val (.int x2), .val (.int x3), .val (.int x4), .val (.int x5), .val (.ref a1), .val (.ref a23), .val (.ref a38), .val (.ref a59), .val (.ref s1), .unset, .unset, .unset, .unset, .unset, .unset, .unset]) at_76 rfl rfl rfl ?_
  refine k_iloadN at_78 rfl rfl ?_
  refine k_sipush (z := (255 : Int32)) at_79 rfl (by decide) ?_
  refine k_iand at_82 rfl ?_
  refine k_istore (Ls' := #[.val (.int x0), .val (.int x1), .val (.int x2), .val (.int x3), .val (.int x4), .val (.int x5), .val (.ref a1), .val (.ref a23), .val (.ref a38), .val (.ref a59), .val (.ref s1), .val (.int (x0 &&& (255 : Int32))), .unset, .unset, .unset, .unset, .unset, .unset]) at_83 rfl rfl ?_
  refine k_iloadN at_85 rfl rfl ?_
  refine k_sipush (z := (255 : Int32)) at_86 rfl (by decide) ?_
  refine k_iand at_89 rfl ?_
  refine k_istore (Ls' := #[.val (.int x0), .val (.int x1), .val (.int x2), .val (.int x3), .val (.int x4), .val (.int x5), .val (.ref a1), .val (.ref a23), .val (.ref a38), .val (.ref a59), .val (.ref s1), .val (.int (x0 &&& (255 : Int32))), .val (.int (x1 &&& (255 : Int32))), .unset, .unset, .unset, .unset, .unset]) at_90 rfl rfl ?_
  refine k_iloadN at_92 rfl rfl ?_
  refine k_sipush (z := (255 : Int32)) at_93 rfl (by decide) ?_
  refine k_iand at_96 rfl ?_
  refine k_istore (Ls' := #[.val (.int x0), .val (.int x1), .val (.int x2), .val (.int x3), .val (.int x4), .val (.int x5), .val (.ref a1), .val (.ref a23), .val (.ref a38), .val (.ref a59), .val (.ref s1), .val (.int (x0 &&& (255 : Int32))), .val (.int (x1 &&& (255 : Int32))), .val (.int (x2 &&& (255 : Int32))), .unset, .unset, .unset, .unset]) at_97 rfl rfl ?_
  refine k_iloadN at_99 rfl rfl ?_
  refine k_sipush (z := (255 : Int32)) at_100 rfl (by decide) ?_
  refine k_iand at_103 rfl ?_
  refine k_istore (Ls' := #[.val (.int x0), .val (.int x1), .val (.int x2), .val (.int x3), .val (.int x4), .val (.int x5), .val (.ref a1), .val (.ref a23), .val (.ref a38), .val (.ref a59), .val (.ref s1), .val (.int (x0 &&& (255 : Int32))), .val (.int (x1 &&& (255 : Int32))), .val (.int (x2 &&& (255 : Int32))), .val (.int (x3 &&& (255 : Int32))), .unset, .unset, .unset]) at_104 rfl rfl ?_
  refine k_iload at_106 rfl rfl ?_
  refine k_sipush (z := (255 : Int32)) at_108 rfl (by decide) ?_
  refine k_iand at_111 rfl ?_
  refine k_istore (Ls' := #[.val (.int x0), .val (.int x1), .val (.int x2), .val (.int x3), .val (.int x4), .val (.int x5), .val (.ref a1), .val (.ref a23), .val (.ref a38), .val (.ref a59), .val (.ref s1), .val (.int (x0 &&& (255 : Int32))), .val (.int (x1 &&& (255 : Int32))), .val (.int (x2 &&& (255 : Int32))), .val (.int (x3 &&& (255 : Int32))), .val (.int (x4 &&& (255 : Int32))), .unset, .unset]) at_112 rfl rfl ?_
  refine k_iload at_114 rfl rfl ?_
  refine k_sipush (z := (255 : Int32)) at_116 rfl (by decide) ?_
  refine k_iand at_119 rfl ?_
  refine k_istore (Ls' := #[.val (.int x0), .val (.int x1), .val (.int x2), .val (.int x3), .val (.int x4), .val (.int x5), .val (.ref a1), .val (.ref a23), .val (.ref a38), .val (.ref a59), .val (.ref s1), .val (.int (x0 &&& (255 : Int32))), .val (.int (x1 &&& (255 : Int32))), .val (.int (x2 &&& (255 : Int32))), .val (.int (x3 &&& (255 : Int32))), .val (.int (x4 &&& (255 : Int32))), .val (.int (x5 &&& (255 : Int32))), .unset]) at_120 rfl rfl ?_
  refine k_bipush (z := (122 : Int32)) at_122 rfl (by decide) ?_
  refine k_newarr (cap := 122) at_124 rfl (hw _ (List.mem_of_getElem? (i := 234) rfl)) (by decide) (by decide) (by decide) (by decide) (by decide) ?_
  intro h105 a104 ck109 g108 E106 V107
  have ne110 : s1 ≠ a104 := Nat.ne_of_lt (Nat.lt_of_lt_of_eq SGT.lt g108.symm)
  have ne111 : t1 ≠ a104 := Nat.ne_of_lt (Nat.lt_of_lt_of_eq SGT.ltv g108.symm)
  have z113 : n0 ≤ hT.size := ZT
  have ge112 : n0 ≤ a104 := Nat.le_trans z113 (Nat.le_of_eq g108.symm)
  have gl114 : hT.size ≤ a104 := Nat.le_of_eq g108.symm
  have V115 : Arv Z h105 a104 ck109 .char (122 : Int32) [(.int (0 : Int32)), (.int (0 : Int32)), (.int (0 : Int32)), (.int (0 : Int32)), (.int (0 : Int32)), (.int (0 : Int32)), (.int (0 : Int32)), (.int (0 : Int32)), (.int (0 : Int32)), (.int (0 : Int32)), (.int (0 : Int32)), (.int (0 : Int32)), (.int (0 : Int32)), (.int (0 : Int32)), (.int (0 : Int32)), (.int (0 : Int32)), (.int (0 : Int32)), (.int (0 : Int32)), (.int (0 : Int32)), (.int (0 : Int32)), (.int (0 : Int32)), (.int (0 : Int32)), (.int (0 : Int32)), (.int (0 : Int32)), (.int (0 : Int32)), (.int (0 : Int32)), (.int (0 : Int32)), (.int (0 : Int32)), (.int (0 : Int32)), (.int (0 : Int32)), (.int (0 : Int32)), (.int (0 : Int32)), (.int (0 : Int32)), (.int (0 : Int32)), (.int (0 : Int32)), (.int (0 : Int32)), (.int (0 : Int32)), (.int (0 : Int32)), (.int (0 : Int32)), (.int (0 : Int32)), (.int (0 : Int32)), (.int (0 : Int32)), (.int (0 : Int32)), (.int (0 : Int32)), (.int (0 : Int32)), (.int (0 : Int32)), (.int (0 : Int32)), (.int (0 : Int32)), (.int (0 : Int32)), (.int (0 : Int32)), (.int (0 : Int32)), (.int (0 : Int32)), (.int (0 : Int32)), (.int (0 : Int32)), (.int (0 : Int32)), (.int (0 : Int32)), (.int (0 : Int32)), (.int (0 : Int32)), (.int (0 : Int32)), (.int (0 : Int32)), (.int (0 : Int32)), (.int (0 : Int32)), (.int (0 : Int32)), (.int (0 : Int32)), (.int (0 : Int32)), (.int (0 : Int32)), (.int (0 : Int32)), (.int (0 : Int32)), (.int (0 : Int32)), (.int (0 : Int32)), (.int (0 : Int32)), (.int (0 : Int32)), (.int (0 : Int32)), (.int (0 : Int32)), (.int (0 : Int32)), (.int (0 : Int32)), (.int (0 : Int32)), (.int (0 : Int32)), (.int (0 : Int32)), (.int (0 : Int32)), (.int (0 : Int32)), (.int (0 : Int32)), (.int (0 : Int32)), (.int (0 : Int32)), (.int (0 : Int32)), (.int (0 : Int32)), (.int (0 : Int32)), (.int (0 : Int32)), (.int (0 : Int32)), (.int (0 : Int32)), (.int (0 : Int32)), (.int (0 : Int32)), (.int (0 : Int32)), (.int (0 : Int32)), (.int (0 : Int32)), (.int (0 : Int32)), (.int (0 : Int32)), (.int (0 : Int32)), (.int (0 : Int32)), (.int (0 : Int32)), (.int (0 : Int32)), (.int (0 : Int32)), (.int (0 : Int32)), (.int (0 : Int32)), (.int (0 : Int32)), (.int (0 : Int32)), (.int (0 : Int32)), (.int (0 : Int32)), (.int (0 : Int32)), (.int (0 : Int32)), (.int (0 : Int32)), (.int (0 : Int32)), (.int (0 : Int32)), (.int (0 : Int32)), (.int (0 : Int32)), (.int (0 : Int32)), (.int (0 : Int32)), (.int (0 : Int32)), (.int (0 : Int32)), (.int (0 : Int32)), (.int (0 : Int32)), (.int (0 : Int32))] (.int (0 : Int32)) := Arv.pad V107 (pad_rep [] _ 122)
  refine KW.sub (S' := fun x => x = a104) (fun x hx => ?_) ?_
  · rcases hx with rfl
    · exact Or.inr ⟨gl114, V115.lt⟩
  show KW true l Z M_law n0 (fun v _ => v = some (.int 1)) (EL, fun x => x = a104) h105 62 2972 126 #[.val (.int x0), .val (.int x1), .val (.int x2), .val (.int x3), .val (.int x4), .val (.int x5), .val (.ref a1), .val (.ref a23), .val (.ref a38), .val (.ref a59), .val (.ref s1), .val (.int (x0 &&& (255 : Int32))), .val (.int (x1 &&& (255 : Int32))), .val (.int (x2 &&& (255 : Int32))), .val (.int (x3 &&& (255 : Int32))), .val (.int (x4 &&& (255 : Int32))), .val (.int (x5 &&& (255 : Int32))), .unset] [(.ref a104)]
  have C0 : Ca Z h105 h105 a104 ck109 122 [] 0 := ⟨rfl, by decide, by decide, Keep.refl _ _, V115⟩
  have f116 := (SGT.ext E106)
  have f117 := (ODT.ext E106)
  refine k_dup at_126 rfl rfl ?_
  refine k_iconst (z := (0 : Int32)) at_127 rfl (by decide) ?_
  refine k_bipush (z := (99 : Int32)) at_128 rfl (by decide) ?_
  refine k_castA at_130 rfl C0 (by decide) rfl nl99 ge112 (fun _ => Or.inl rfl) ?_
  intro h_0 C_0
  refine k_dup at_131 rfl rfl ?_
  refine k_iconst (z := (1 : Int32)) at_132 rfl (by decide) ?_
  refine k_bipush (z := (117 : Int32)) at_133 rfl (by decide) ?_
  refine k_castA at_135 rfl C_0 (by decide) rfl nl117 ge112 (fun _ => Or.inl rfl) ?_
  intro h_1 C_1
  refine k_dup at_136 rfl rfl ?_
  refine k_iconst (z := (2 : Int32)) at_137 rfl (by decide) ?_
  refine k_bipush (z := (114 : Int32)) at_138 rfl (by decide) ?_
  refine k_castA at_140 rfl C_1 (by decide) rfl nl114 ge112 (fun _ => Or.inl rfl) ?_
  intro h_2 C_2
  refine k_dup at_141 rfl rfl ?_
  refine k_iconst (z := (3 : Int32)) at_142 rfl (by decide) ?_
  refine k_bipush (z := (114 : Int32)) at_143 rfl (by decide) ?_
  refine k_castA at_145 rfl C_2 (by decide) rfl nl114 ge112 (fun _ => Or.inl rfl) ?_
  intro h_3 C_3
  refine k_dup at_146 rfl rfl ?_
  refine k_iconst (z := (4 : Int32)) at_147 rfl (by decide) ?_
  refine k_bipush (z := (101 : Int32)) at_148 rfl (by decide) ?_
  refine k_castA at_150 rfl C_3 (by decide) rfl nl101 ge112 (fun _ => Or.inl rfl) ?_
  intro h_4 C_4
  refine k_dup at_151 rfl rfl ?_
  refine k_iconst (z := (5 : Int32)) at_152 rfl (by decide) ?_
  refine k_bipush (z := (110 : Int32)) at_153 rfl (by decide) ?_
  refine k_castA at_155 rfl C_4 (by decide) rfl nl110 ge112 (fun _ => Or.inl rfl) ?_
  intro h_5 C_5
  refine k_dup at_156 rfl rfl ?_
  refine k_bipush (z := (6 : Int32)) at_157 rfl (by decide) ?_
  refine k_bipush (z := (116 : Int32)) at_159 rfl (by decide) ?_
  refine k_castA at_161 rfl C_5 (by decide) rfl nl116 ge112 (fun _ => Or.inl rfl) ?_
  intro h_6 C_6
  refine k_dup at_162 rfl rfl ?_
  refine k_bipush (z := (7 : Int32)) at_163 rfl (by decide) ?_
  refine k_bipush (z := (72 : Int32)) at_165 rfl (by decide) ?_
  refine k_castA at_167 rfl C_6 (by decide) rfl nl72 ge112 (fun _ => Or.inl rfl) ?_
  intro h_7 C_7
  refine k_dup at_168 rfl rfl ?_
  refine k_bipush (z := (8 : Int32)) at_169 rfl (by decide) ?_
  refine k_bipush (z := (97 : Int32)) at_171 rfl (by decide) ?_
  refine k_castA at_173 rfl C_7 (by decide) rfl nl97 ge112 (fun _ => Or.inl rfl) ?_
  intro h_8 C_8
  refine k_dup at_174 rfl rfl ?_
  refine k_bipush (z := (9 : Int32)) at_175 rfl (by decide) ?_
  refine k_bipush (z := (115 : Int32)) at_177 rfl (by decide) ?_
  refine k_castA at_179 rfl C_8 (by decide) rfl nl115 ge112 (fun _ => Or.inl rfl) ?_
  intro h_9 C_9
  refine k_dup at_180 rfl rfl ?_
  refine k_bipush (z := (10 : Int32)) at_181 rfl (by decide) ?_
  refine k_bipush (z := (104 : Int32)) at_183 rfl (by decide) ?_
  refine k_castA at_185 rfl C_9 (by decide) rfl nl104 ge112 (fun _ => Or.inl rfl) ?_
  intro h_10 C_10
  refine k_dup at_186 rfl rfl ?_
  refine k_bipush (z := (11 : Int32)) at_187 rfl (by decide) ?_
  refine k_bipush (z := (61 : Int32)) at_189 rfl (by decide) ?_
  refine k_castA at_191 rfl C_10 (by decide) rfl nl61 ge112 (fun _ => Or.inl rfl) ?_
  intro h_11 C_11
  refine k_dup at_192 rfl rfl ?_
  refine k_bipush (z := (12 : Int32)) at_193 rfl (by decide) ?_
  refine k_iload at_195 rfl rfl ?_
  refine k_iconst (z := (2 : Int32)) at_197 rfl (by decide) ?_
  refine k_ishr at_198 rfl ?_
  refine k_callStatic (argsL := [(.int ((x0 &&& (255 : Int32)) >>> ((2 : Int32) &&& 31)))]) (rest := [(.int (12 : Int32)), (.ref a104), (.ref a104)]) (W0 := 3) at_199 rfl (mt_b64 l Z a0 hw cs hcs SC hEW ((x0 &&& (255 : Int32)) >>> ((2 : Int32) &&& 31)) (s_e0 _) h_11 n0) (Kp.pure (fun _ _ q => q.2.symm)) (hw _ (List.mem_of_getElem? (i := 235) rfl)) (hw _ (List.mem_of_getElem? (i := 236) rfl)) (hw _ (List.mem_of_getElem? (i := 237) rfl)) (hw _ (List.mem_of_getElem? (i := 238) rfl)) (by decide) pd_b64 rfl rfl rfl rfl (by decide) (by decide) (by decide) (by decide) ?_
  rintro _ _ - ⟨rfl, rfl⟩
  refine KW.sub (S' := fun x => x = a104) (fun x hx => Or.inl hx) ?_
  show KW true l Z M_law n0 (fun v _ => v = some (.int 1)) (EL, fun x => x = a104) h_11 62 2972 202 #[.val (.int x0), .val (.int x1), .val (.int x2), .val (.int x3), .val (.int x4), .val (.int x5), .val (.ref a1), .val (.ref a23), .val (.ref a38), .val (.ref a59), .val (.ref s1), .val (.int (x0 &&& (255 : Int32))), .val (.int (x1 &&& (255 : Int32))), .val (.int (x2 &&& (255 : Int32))), .val (.int (x3 &&& (255 : Int32))), .val (.int (x4 &&& (255 : Int32))), .val (.int (x5 &&& (255 : Int32))), .unset] [(.int (tbv ((x0 &&& (255 : Int32)) >>> ((2 : Int32) &&& 31)))), (.int (12 : Int32)), (.ref a104), (.ref a104)]
  refine k_castA at_202 rfl C_11 (by decide) rfl (narT (s_e0 _)) ge112 (fun _ => Or.inl rfl) ?_
  intro h_12 C_12
  refine k_dup at_203 rfl rfl ?_
  refine k_bipush (z := (13 : Int32)) at_204 rfl (by decide) ?_
  refine k_iload at_206 rfl rfl ?_
  refine k_iconst (z := (3 : Int32)) at_208 rfl (by decide) ?_
  refine k_iand at_209 rfl ?_
  refine k_iconst (z := (4 : Int32)) at_210 rfl (by decide) ?_
  refine k_ishl at_211 rfl ?_
  refine k_iload at_212 rfl rfl ?_
  refine k_iconst (z := (4 : Int32)) at_214 rfl (by decide) ?_
  refine k_ishr at_215 rfl ?_
  refine k_ior at_216 rfl ?_
  refine k_callStatic (argsL := [(.int ((((x0 &&& (255 : Int32)) &&& (3 : Int32)) <<< ((4 : Int32) &&& 31)) ||| ((x1 &&& (255 : Int32)) >>> ((4 : Int32) &&& 31))))]) (rest := [(.int (13 : Int32)), (.ref a104), (.ref a104)]) (W0 := 3) at_217 rfl (mt_b64 l Z a0 hw cs hcs SC hEW ((((x0 &&& (255 : Int32)) &&& (3 : Int32)) <<< ((4 : Int32) &&& 31)) ||| ((x1 &&& (255 : Int32)) >>> ((4 : Int32) &&& 31))) (s_e1 _ _) h_12 n0) (Kp.pure (fun _ _ q => q.2.symm)) (hw _ (List.mem_of_getElem? (i := 235) rfl)) (hw _ (List.mem_of_getElem? (i := 236) rfl)) (hw _ (List.mem_of_getElem? (i := 237) rfl)) (hw _ (List.mem_of_getElem? (i := 238) rfl)) (by decide) pd_b64 rfl rfl rfl rfl (by decide) (by decide) (by decide) (by decide) ?_
  rintro _ _ - ⟨rfl, rfl⟩
  refine KW.sub (S' := fun x => x = a104) (fun x hx => Or.inl hx) ?_
  show KW true l Z M_law n0 (fun v _ => v = some (.int 1)) (EL, fun x => x = a104) h_12 62 2972 220 #[.val (.int x0), .val (.int x1), .val (.int x2), .val (.int x3), .val (.int x4), .val (.int x5), .val (.ref a1), .val (.ref a23), .val (.ref a38), .val (.ref a59), .val (.ref s1), .val (.int (x0 &&& (255 : Int32))), .val (.int (x1 &&& (255 : Int32))), .val (.int (x2 &&& (255 : Int32))), .val (.int (x3 &&& (255 : Int32))), .val (.int (x4 &&& (255 : Int32))), .val (.int (x5 &&& (255 : Int32))), .unset] [(.int (tbv ((((x0 &&& (255 : Int32)) &&& (3 : Int32)) <<< ((4 : Int32) &&& 31)) ||| ((x1 &&& (255 : Int32)) >>> ((4 : Int32) &&& 31))))), (.int (13 : Int32)), (.ref a104), (.ref a104)]
  refine k_castA at_220 rfl C_12 (by decide) rfl (narT (s_e1 _ _)) ge112 (fun _ => Or.inl rfl) ?_
  intro h_13 C_13
  refine k_dup at_221 rfl rfl ?_
  refine k_bipush (z := (14 : Int32)) at_222 rfl (by decide) ?_
  refine k_iload at_224 rfl rfl ?_
  refine k_bipush (z := (15 : Int32)) at_226 rfl (by decide) ?_
  refine k_iand at_228 rfl ?_
  refine k_iconst (z := (2 : Int32)) at_229 rfl (by decide) ?_
  refine k_ishl at_230 rfl ?_
  refine k_iload at_231 rfl rfl ?_
  refine k_bipush (z := (6 : Int32)) at_233 rfl (by decide) ?_
  refine k_ishr at_235 rfl ?_
  refine k_ior at_236 rfl ?_
  refine k_callStatic (argsL := [(.int ((((x1 &&& (255 : Int32)) &&& (15 : Int32)) <<< ((2 : Int32) &&& 31)) ||| ((x2 &&& (255 : Int32)) >>> ((6 : Int32) &&& 31))))]) (rest := [(.int (14 : Int32)), (.ref a104), (.ref a104)]) (W0 := 3) at_237 rfl (mt_b64 l Z a0 hw cs hcs SC hEW ((((x1 &&& (255 : Int32)) &&& (15 : Int32)) <<< ((2 : Int32) &&& 31)) ||| ((x2 &&& (255 : Int32)) >>> ((6 : Int32) &&& 31))) (s_e2 _ _) h_13 n0) (Kp.pure (fun _ _ q => q.2.symm)) (hw _ (List.mem_of_getElem? (i := 235) rfl)) (hw _ (List.mem_of_getElem? (i := 236) rfl)) (hw _ (List.mem_of_getElem? (i := 237) rfl)) (hw _ (List.mem_of_getElem? (i := 238) rfl)) (by decide) pd_b64 rfl rfl rfl rfl (by decide) (by decide) (by decide) (by decide) ?_
  rintro _ _ - ⟨rfl, rfl⟩
  refine KW.sub (S' := fun x => x = a104) (fun x hx => Or.inl hx) ?_
  show KW true l Z M_law n0 (fun v _ => v = some (.int 1)) (EL, fun x => x = a104) h_13 62 2972 240 #[.val (.int x0), .val (.int x1), .val (.int x2), .val (.int x3), .val (.int x4), .val (.int x5), .val (.ref a1), .val (.ref a23), .val (.ref a38), .val (.ref a59), .val (.ref s1), .val (.int (x0 &&& (255 : Int32))), .val (.int (x1 &&& (255 : Int32))), .val (.int (x2 &&& (255 : Int32))), .val (.int (x3 &&& (255 : Int32))), .val (.int (x4 &&& (255 : Int32))), .val (.int (x5 &&& (255 : Int32))), .unset] [(.int (tbv ((((x1 &&& (255 : Int32)) &&& (15 : Int32)) <<< ((2 : Int32) &&& 31)) ||| ((x2 &&& (255 : Int32)) >>> ((6 : Int32) &&& 31))))), (.int (14 : Int32)), (.ref a104), (.ref a104)]
  refine k_castA at_240 rfl C_13 (by decide) rfl (narT (s_e2 _ _)) ge112 (fun _ => Or.inl rfl) ?_
  intro h_14 C_14
  refine k_dup at_241 rfl rfl ?_
  refine k_bipush (z := (15 : Int32)) at_242 rfl (by decide) ?_
  refine k_iload at_244 rfl rfl ?_
  refine k_bipush (z := (63 : Int32)) at_246 rfl (by decide) ?_
  refine k_iand at_248 rfl ?_
  refine k_callStatic (argsL := [(.int ((x2 &&& (255 : Int32)) &&& (63 : Int32)))]) (rest := [(.int (15 : Int32)), (.ref a104), (.ref a104)]) (W0 := 3) at_249 rfl (mt_b64 l Z a0 hw cs hcs SC hEW ((x2 &&& (255 : Int32)) &&& (63 : Int32)) (s_e3 _) h_14 n0) (Kp.pure (fun _ _ q => q.2.symm)) (hw _ (List.mem_of_getElem? (i := 235) rfl)) (hw _ (List.mem_of_getElem? (i := 236) rfl)) (hw _ (List.mem_of_getElem? (i := 237) rfl)) (hw _ (List.mem_of_getElem? (i := 238) rfl)) (by decide) pd_b64 rfl rfl rfl rfl (by decide) (by decide) (by decide) (by decide) ?_
  rintro _ _ - ⟨rfl, rfl⟩
  refine KW.sub (S' := fun x => x = a104) (fun x hx => Or.inl hx) ?_
  show KW true l Z M_law n0 (fun v _ => v = some (.int 1)) (EL, fun x => x = a104) h_14 62 2972 252 #[.val (.int x0), .val (.int x1), .val (.int x2), .val (.int x3), .val (.int x4), .val (.int x5), .val (.ref a1), .val (.ref a23), .val (.ref a38), .val (.ref a59), .val (.ref s1), .val (.int (x0 &&& (255 : Int32))), .val (.int (x1 &&& (255 : Int32))), .val (.int (x2 &&& (255 : Int32))), .val (.int (x3 &&& (255 : Int32))), .val (.int (x4 &&& (255 : Int32))), .val (.int (x5 &&& (255 : Int32))), .unset] [(.int (tbv ((x2 &&& (255 : Int32)) &&& (63 : Int32)))), (.int (15 : Int32)), (.ref a104), (.ref a104)]
  refine k_castA at_252 rfl C_14 (by decide) rfl (narT (s_e3 _)) ge112 (fun _ => Or.inl rfl) ?_
  intro h_15 C_15
  refine k_dup at_253 rfl rfl ?_
  refine k_bipush (z := (16 : Int32)) at_254 rfl (by decide) ?_
  refine k_bipush (z := (10 : Int32)) at_256 rfl (by decide) ?_
  refine k_castA at_258 rfl C_15 (by decide) rfl nl10 ge112 (fun _ => Or.inl rfl) ?_
  intro h_16 C_16
  refine k_dup at_259 rfl rfl ?_
  refine k_bipush (z := (17 : Int32)) at_260 rfl (by decide) ?_
  refine k_bipush (z := (112 : Int32)) at_262 rfl (by decide) ?_
  refine k_castA at_264 rfl C_16 (by decide) rfl nl112 ge112 (fun _ => Or.inl rfl) ?_
  intro h_17 C_17
  refine k_dup at_265 rfl rfl ?_
  refine k_bipush (z := (18 : Int32)) at_266 rfl (by decide) ?_
  refine k_bipush (z := (114 : Int32)) at_268 rfl (by decide) ?_
  refine k_castA at_270 rfl C_17 (by decide) rfl nl114 ge112 (fun _ => Or.inl rfl) ?_
  intro h_18 C_18
  refine k_dup at_271 rfl rfl ?_
  refine k_bipush (z := (19 : Int32)) at_272 rfl (by decide) ?_
  refine k_bipush (z := (101 : Int32)) at_274 rfl (by decide) ?_
  refine k_castA at_276 rfl C_18 (by decide) rfl nl101 ge112 (fun _ => Or.inl rfl) ?_
  intro h_19 C_19
  refine k_dup at_277 rfl rfl ?_
  refine k_bipush (z := (20 : Int32)) at_278 rfl (by decide) ?_
  refine k_bipush (z := (118 : Int32)) at_280 rfl (by decide) ?_
  refine k_castA at_282 rfl C_19 (by decide) rfl nl118 ge112 (fun _ => Or.inl rfl) ?_
  intro h_20 C_20
  refine k_dup at_283 rfl rfl ?_
  refine k_bipush (z := (21 : Int32)) at_284 rfl (by decide) ?_
  refine k_bipush (z := (105 : Int32)) at_286 rfl (by decide) ?_
  refine k_castA at_288 rfl C_20 (by decide) rfl nl105 ge112 (fun _ => Or.inl rfl) ?_
  intro h_21 C_21
  refine k_dup at_289 rfl rfl ?_
  refine k_bipush (z := (22 : Int32)) at_290 rfl (by decide) ?_
  refine k_bipush (z := (111 : Int32)) at_292 rfl (by decide) ?_
  refine k_castA at_294 rfl C_21 (by decide) rfl nl111 ge112 (fun _ => Or.inl rfl) ?_
  intro h_22 C_22
  refine k_dup at_295 rfl rfl ?_
  refine k_bipush (z := (23 : Int32)) at_296 rfl (by decide) ?_
  refine k_bipush (z := (117 : Int32)) at_298 rfl (by decide) ?_
  refine k_castA at_300 rfl C_22 (by decide) rfl nl117 ge112 (fun _ => Or.inl rfl) ?_
  intro h_23 C_23
  refine k_dup at_301 rfl rfl ?_
  refine k_bipush (z := (24 : Int32)) at_302 rfl (by decide) ?_
  refine k_bipush (z := (115 : Int32)) at_304 rfl (by decide) ?_
  refine k_castA at_306 rfl C_23 (by decide) rfl nl115 ge112 (fun _ => Or.inl rfl) ?_
  intro h_24 C_24
  refine k_dup at_307 rfl rfl ?_
  refine k_bipush (z := (25 : Int32)) at_308 rfl (by decide) ?_
  refine k_bipush (z := (84 : Int32)) at_310 rfl (by decide) ?_
  refine k_castA at_312 rfl C_24 (by decide) rfl nl84 ge112 (fun _ => Or.inl rfl) ?_
  intro h_25 C_25
  refine k_dup at_313 rfl rfl ?_
  refine k_bipush (z := (26 : Int32)) at_314 rfl (by decide) ?_
  refine k_bipush (z := (105 : Int32)) at_316 rfl (by decide) ?_
  refine k_castA at_318 rfl C_25 (by decide) rfl nl105 ge112 (fun _ => Or.inl rfl) ?_
  intro h_26 C_26
  refine k_dup at_319 rfl rfl ?_
  refine k_bipush (z := (27 : Int32)) at_320 rfl (by decide) ?_
  refine k_bipush (z := (109 : Int32)) at_322 rfl (by decide) ?_
  refine k_castA at_324 rfl C_26 (by decide) rfl nl109 ge112 (fun _ => Or.inl rfl) ?_
  intro h_27 C_27
  refine k_dup at_325 rfl rfl ?_
  refine k_bipush (z := (28 : Int32)) at_326 rfl (by decide) ?_
  refine k_bipush (z := (101 : Int32)) at_328 rfl (by decide) ?_
  refine k_castA at_330 rfl C_27 (by decide) rfl nl101 ge112 (fun _ => Or.inl rfl) ?_
  intro h_28 C_28
  refine k_dup at_331 rfl rfl ?_
  refine k_bipush (z := (29 : Int32)) at_332 rfl (by decide) ?_
  refine k_bipush (z := (115 : Int32)) at_334 rfl (by decide) ?_
  refine k_castA at_336 rfl C_28 (by decide) rfl nl115 ge112 (fun _ => Or.inl rfl) ?_
  intro h_29 C_29
  refine k_dup at_337 rfl rfl ?_
  refine k_bipush (z := (30 : Int32)) at_338 rfl (by decide) ?_
  refine k_bipush (z := (116 : Int32)) at_340 rfl (by decide) ?_
  refine k_castA at_342 rfl C_29 (by decide) rfl nl116 ge112 (fun _ => Or.inl rfl) ?_
  intro h_30 C_30
  refine k_dup at_343 rfl rfl ?_
  refine k_bipush (z := (31 : Int32)) at_344 rfl (by decide) ?_
  refine k_bipush (z := (97 : Int32)) at_346 rfl (by decide) ?_
  refine k_castA at_348 rfl C_30 (by decide) rfl nl97 ge112 (fun _ => Or.inl rfl) ?_
  intro h_31 C_31
  refine k_dup at_349 rfl rfl ?_
  refine k_bipush (z := (32 : Int32)) at_350 rfl (by decide) ?_
  refine k_bipush (z := (109 : Int32)) at_352 rfl (by decide) ?_
  refine k_castA at_354 rfl C_31 (by decide) rfl nl109 ge112 (fun _ => Or.inl rfl) ?_
  intro h_32 C_32
  refine k_dup at_355 rfl rfl ?_
  refine k_bipush (z := (33 : Int32)) at_356 rfl (by decide) ?_
  refine k_bipush (z := (112 : Int32)) at_358 rfl (by decide) ?_
  refine k_castA at_360 rfl C_32 (by decide) rfl nl112 ge112 (fun _ => Or.inl rfl) ?_
  intro h_33 C_33
  refine k_dup at_361 rfl rfl ?_
  refine k_bipush (z := (34 : Int32)) at_362 rfl (by decide) ?_
  refine k_bipush (z := (84 : Int32)) at_364 rfl (by decide) ?_
  refine k_castA at_366 rfl C_33 (by decide) rfl nl84 ge112 (fun _ => Or.inl rfl) ?_
  intro h_34 C_34
  refine k_dup at_367 rfl rfl ?_
  refine k_bipush (z := (35 : Int32)) at_368 rfl (by decide) ?_
  refine k_bipush (z := (111 : Int32)) at_370 rfl (by decide) ?_
  refine k_castA at_372 rfl C_34 (by decide) rfl nl111 ge112 (fun _ => Or.inl rfl) ?_
  intro h_35 C_35
  refine k_dup at_373 rfl rfl ?_
  refine k_bipush (z := (36 : Int32)) at_374 rfl (by decide) ?_
  refine k_bipush (z := (107 : Int32)) at_376 rfl (by decide) ?_
  refine k_castA at_378 rfl C_35 (by decide) rfl nl107 ge112 (fun _ => Or.inl rfl) ?_
  intro h_36 C_36
  refine k_dup at_379 rfl rfl ?_
  refine k_bipush (z := (37 : Int32)) at_380 rfl (by decide) ?_
  refine k_bipush (z := (101 : Int32)) at_382 rfl (by decide) ?_
  refine k_castA at_384 rfl C_36 (by decide) rfl nl101 ge112 (fun _ => Or.inl rfl) ?_
  intro h_37 C_37
  refine k_dup at_385 rfl rfl ?_
  refine k_bipush (z := (38 : Int32)) at_386 rfl (by decide) ?_
  refine k_bipush (z := (110 : Int32)) at_388 rfl (by decide) ?_
  refine k_castA at_390 rfl C_37 (by decide) rfl nl110 ge112 (fun _ => Or.inl rfl) ?_
  intro h_38 C_38
  refine k_dup at_391 rfl rfl ?_
  refine k_bipush (z := (39 : Int32)) at_392 rfl (by decide) ?_
  refine k_bipush (z := (61 : Int32)) at_394 rfl (by decide) ?_
  refine k_castA at_396 rfl C_38 (by decide) rfl nl61 ge112 (fun _ => Or.inl rfl) ?_
  intro h_39 C_39
  refine k_dup at_397 rfl rfl ?_
  refine k_bipush (z := (40 : Int32)) at_398 rfl (by decide) ?_
  refine k_iload at_400 rfl rfl ?_
  refine k_iconst (z := (2 : Int32)) at_402 rfl (by decide) ?_
  refine k_ishr at_403 rfl ?_
  refine k_callStatic (argsL := [(.int ((x3 &&& (255 : Int32)) >>> ((2 : Int32) &&& 31)))]) (rest := [(.int (40 : Int32)), (.ref a104), (.ref a104)]) (W0 := 3) at_404 rfl (mt_b64 l Z a0 hw cs hcs SC hEW ((x3 &&& (255 : Int32)) >>> ((2 : Int32) &&& 31)) (s_e0 _) h_39 n0) (Kp.pure (fun _ _ q => q.2.symm)) (hw _ (List.mem_of_getElem? (i := 235) rfl)) (hw _ (List.mem_of_getElem? (i := 236) rfl)) (hw _ (List.mem_of_getElem? (i := 237) rfl)) (hw _ (List.mem_of_getElem? (i := 238) rfl)) (by decide) pd_b64 rfl rfl rfl rfl (by decide) (by decide) (by decide) (by decide) ?_
  rintro _ _ - ⟨rfl, rfl⟩
  refine KW.sub (S' := fun x => x = a104) (fun x hx => Or.inl hx) ?_
  show KW true l Z M_law n0 (fun v _ => v = some (.int 1)) (EL, fun x => x = a104) h_39 62 2972 407 #[.val (.int x0), .val (.int x1), .val (.int x2), .val (.int x3), .val (.int x4), .val (.int x5), .val (.ref a1), .val (.ref a23), .val (.ref a38), .val (.ref a59), .val (.ref s1), .val (.int (x0 &&& (255 : Int32))), .val (.int (x1 &&& (255 : Int32))), .val (.int (x2 &&& (255 : Int32))), .val (.int (x3 &&& (255 : Int32))), .val (.int (x4 &&& (255 : Int32))), .val (.int (x5 &&& (255 : Int32))), .unset] [(.int (tbv ((x3 &&& (255 : Int32)) >>> ((2 : Int32) &&& 31)))), (.int (40 : Int32)), (.ref a104), (.ref a104)]
  refine k_castA at_407 rfl C_39 (by decide) rfl (narT (s_e0 _)) ge112 (fun _ => Or.inl rfl) ?_
  intro h_40 C_40
  refine k_dup at_408 rfl rfl ?_
  refine k_bipush (z := (41 : Int32)) at_409 rfl (by decide) ?_
  refine k_iload at_411 rfl rfl ?_
  refine k_iconst (z := (3 : Int32)) at_413 rfl (by decide) ?_
  refine k_iand at_414 rfl ?_
  refine k_iconst (z := (4 : Int32)) at_415 rfl (by decide) ?_
  refine k_ishl at_416 rfl ?_
  refine k_callStatic (argsL := [(.int (((x3 &&& (255 : Int32)) &&& (3 : Int32)) <<< ((4 : Int32) &&& 31)))]) (rest := [(.int (41 : Int32)), (.ref a104), (.ref a104)]) (W0 := 3) at_417 rfl (mt_b64 l Z a0 hw cs hcs SC hEW (((x3 &&& (255 : Int32)) &&& (3 : Int32)) <<< ((4 : Int32) &&& 31)) (s_f1 _) h_40 n0) (Kp.pure (fun _ _ q => q.2.symm)) (hw _ (List.mem_of_getElem? (i := 235) rfl)) (hw _ (List.mem_of_getElem? (i := 236) rfl)) (hw _ (List.mem_of_getElem? (i := 237) rfl)) (hw _ (List.mem_of_getElem? (i := 238) rfl)) (by decide) pd_b64 rfl rfl rfl rfl (by decide) (by decide) (by decide) (by decide) ?_
  rintro _ _ - ⟨rfl, rfl⟩
  refine KW.sub (S' := fun x => x = a104) (fun x hx => Or.inl hx) ?_
  show KW true l Z M_law n0 (fun v _ => v = some (.int 1)) (EL, fun x => x = a104) h_40 62 2972 420 #[.val (.int x0), .val (.int x1), .val (.int x2), .val (.int x3), .val (.int x4), .val (.int x5), .val (.ref a1), .val (.ref a23), .val (.ref a38), .val (.ref a59), .val (.ref s1), .val (.int (x0 &&& (255 : Int32))), .val (.int (x1 &&& (255 : Int32))), .val (.int (x2 &&& (255 : Int32))), .val (.int (x3 &&& (255 : Int32))), .val (.int (x4 &&& (255 : Int32))), .val (.int (x5 &&& (255 : Int32))), .unset] [(.int (tbv (((x3 &&& (255 : Int32)) &&& (3 : Int32)) <<< ((4 : Int32) &&& 31)))), (.int (41 : Int32)), (.ref a104), (.ref a104)]
  refine k_castA at_420 rfl C_40 (by decide) rfl (narT (s_f1 _)) ge112 (fun _ => Or.inl rfl) ?_
  intro h_41 C_41
  refine k_dup at_421 rfl rfl ?_
  refine k_bipush (z := (42 : Int32)) at_422 rfl (by decide) ?_
  refine k_bipush (z := (61 : Int32)) at_424 rfl (by decide) ?_
  refine k_castA at_426 rfl C_41 (by decide) rfl nl61 ge112 (fun _ => Or.inl rfl) ?_
  intro h_42 C_42
  refine k_dup at_427 rfl rfl ?_
  refine k_bipush (z := (43 : Int32)) at_428 rfl (by decide) ?_
  refine k_bipush (z := (61 : Int32)) at_430 rfl (by decide) ?_
  refine k_castA at_432 rfl C_42 (by decide) rfl nl61 ge112 (fun _ => Or.inl rfl) ?_
  intro h_43 C_43
  refine k_dup at_433 rfl rfl ?_
  refine k_bipush (z := (44 : Int32)) at_434 rfl (by decide) ?_
  refine k_bipush (z := (10 : Int32)) at_436 rfl (by decide) ?_
  refine k_castA at_438 rfl C_43 (by decide) rfl nl10 ge112 (fun _ => Or.inl rfl) ?_
  intro h_44 C_44
  refine k_dup at_439 rfl rfl ?_
  refine k_bipush (z := (45 : Int32)) at_440 rfl (by decide) ?_
  refine k_bipush (z := (112 : Int32)) at_442 rfl (by decide) ?_
  refine k_castA at_444 rfl C_44 (by decide) rfl nl112 ge112 (fun _ => Or.inl rfl) ?_
  intro h_45 C_45
  refine k_dup at_445 rfl rfl ?_
  refine k_bipush (z := (46 : Int32)) at_446 rfl (by decide) ?_
  refine k_bipush (z := (114 : Int32)) at_448 rfl (by decide) ?_
  refine k_castA at_450 rfl C_45 (by decide) rfl nl114 ge112 (fun _ => Or.inl rfl) ?_
  intro h_46 C_46
  refine k_dup at_451 rfl rfl ?_
  refine k_bipush (z := (47 : Int32)) at_452 rfl (by decide) ?_
  refine k_bipush (z := (101 : Int32)) at_454 rfl (by decide) ?_
  refine k_castA at_456 rfl C_46 (by decide) rfl nl101 ge112 (fun _ => Or.inl rfl) ?_
  intro h_47 C_47
  refine k_dup at_457 rfl rfl ?_
  refine k_bipush (z := (48 : Int32)) at_458 rfl (by decide) ?_
  refine k_bipush (z := (118 : Int32)) at_460 rfl (by decide) ?_
  refine k_castA at_462 rfl C_47 (by decide) rfl nl118 ge112 (fun _ => Or.inl rfl) ?_
  intro h_48 C_48
  refine k_dup at_463 rfl rfl ?_
  refine k_bipush (z := (49 : Int32)) at_464 rfl (by decide) ?_
  refine k_bipush (z := (105 : Int32)) at_466 rfl (by decide) ?_
  refine k_castA at_468 rfl C_48 (by decide) rfl nl105 ge112 (fun _ => Or.inl rfl) ?_
  intro h_49 C_49
  refine k_dup at_469 rfl rfl ?_
  refine k_bipush (z := (50 : Int32)) at_470 rfl (by decide) ?_
  refine k_bipush (z := (111 : Int32)) at_472 rfl (by decide) ?_
  refine k_castA at_474 rfl C_49 (by decide) rfl nl111 ge112 (fun _ => Or.inl rfl) ?_
  intro h_50 C_50
  refine k_dup at_475 rfl rfl ?_
  refine k_bipush (z := (51 : Int32)) at_476 rfl (by decide) ?_
  refine k_bipush (z := (117 : Int32)) at_478 rfl (by decide) ?_
  refine k_castA at_480 rfl C_50 (by decide) rfl nl117 ge112 (fun _ => Or.inl rfl) ?_
  intro h_51 C_51
  refine k_dup at_481 rfl rfl ?_
  refine k_bipush (z := (52 : Int32)) at_482 rfl (by decide) ?_
  refine k_bipush (z := (115 : Int32)) at_484 rfl (by decide) ?_
  refine k_castA at_486 rfl C_51 (by decide) rfl nl115 ge112 (fun _ => Or.inl rfl) ?_
  intro h_52 C_52
  refine k_dup at_487 rfl rfl ?_
  refine k_bipush (z := (53 : Int32)) at_488 rfl (by decide) ?_
  refine k_bipush (z := (84 : Int32)) at_490 rfl (by decide) ?_
  refine k_castA at_492 rfl C_52 (by decide) rfl nl84 ge112 (fun _ => Or.inl rfl) ?_
  intro h_53 C_53
  refine k_dup at_493 rfl rfl ?_
  refine k_bipush (z := (54 : Int32)) at_494 rfl (by decide) ?_
  refine k_bipush (z := (105 : Int32)) at_496 rfl (by decide) ?_
  refine k_castA at_498 rfl C_53 (by decide) rfl nl105 ge112 (fun _ => Or.inl rfl) ?_
  intro h_54 C_54
  refine k_dup at_499 rfl rfl ?_
  refine k_bipush (z := (55 : Int32)) at_500 rfl (by decide) ?_
  refine k_bipush (z := (109 : Int32)) at_502 rfl (by decide) ?_
  refine k_castA at_504 rfl C_54 (by decide) rfl nl109 ge112 (fun _ => Or.inl rfl) ?_
  intro h_55 C_55
  refine k_dup at_505 rfl rfl ?_
  refine k_bipush (z := (56 : Int32)) at_506 rfl (by decide) ?_
  refine k_bipush (z := (101 : Int32)) at_508 rfl (by decide) ?_
  refine k_castA at_510 rfl C_55 (by decide) rfl nl101 ge112 (fun _ => Or.inl rfl) ?_
  intro h_56 C_56
  refine k_dup at_511 rfl rfl ?_
  refine k_bipush (z := (57 : Int32)) at_512 rfl (by decide) ?_
  refine k_bipush (z := (115 : Int32)) at_514 rfl (by decide) ?_
  refine k_castA at_516 rfl C_56 (by decide) rfl nl115 ge112 (fun _ => Or.inl rfl) ?_
  intro h_57 C_57
  refine k_dup at_517 rfl rfl ?_
  refine k_bipush (z := (58 : Int32)) at_518 rfl (by decide) ?_
  refine k_bipush (z := (116 : Int32)) at_520 rfl (by decide) ?_
  refine k_castA at_522 rfl C_57 (by decide) rfl nl116 ge112 (fun _ => Or.inl rfl) ?_
  intro h_58 C_58
  refine k_dup at_523 rfl rfl ?_
  refine k_bipush (z := (59 : Int32)) at_524 rfl (by decide) ?_
  refine k_bipush (z := (97 : Int32)) at_526 rfl (by decide) ?_
  refine k_castA at_528 rfl C_58 (by decide) rfl nl97 ge112 (fun _ => Or.inl rfl) ?_
  intro h_59 C_59
  refine k_dup at_529 rfl rfl ?_
  refine k_bipush (z := (60 : Int32)) at_530 rfl (by decide) ?_
  refine k_bipush (z := (109 : Int32)) at_532 rfl (by decide) ?_
  refine k_castA at_534 rfl C_59 (by decide) rfl nl109 ge112 (fun _ => Or.inl rfl) ?_
  intro h_60 C_60
  refine k_dup at_535 rfl rfl ?_
  refine k_bipush (z := (61 : Int32)) at_536 rfl (by decide) ?_
  refine k_bipush (z := (112 : Int32)) at_538 rfl (by decide) ?_
  refine k_castA at_540 rfl C_60 (by decide) rfl nl112 ge112 (fun _ => Or.inl rfl) ?_
  intro h_61 C_61
  refine k_dup at_541 rfl rfl ?_
  refine k_bipush (z := (62 : Int32)) at_542 rfl (by decide) ?_
  refine k_bipush (z := (84 : Int32)) at_544 rfl (by decide) ?_
  refine k_castA at_546 rfl C_61 (by decide) rfl nl84 ge112 (fun _ => Or.inl rfl) ?_
  intro h_62 C_62
  refine k_dup at_547 rfl rfl ?_
  refine k_bipush (z := (63 : Int32)) at_548 rfl (by decide) ?_
  refine k_bipush (z := (111 : Int32)) at_550 rfl (by decide) ?_
  refine k_castA at_552 rfl C_62 (by decide) rfl nl111 ge112 (fun _ => Or.inl rfl) ?_
  intro h_63 C_63
  refine k_dup at_553 rfl rfl ?_
  refine k_bipush (z := (64 : Int32)) at_554 rfl (by decide) ?_
  refine k_bipush (z := (107 : Int32)) at_556 rfl (by decide) ?_
  refine k_castA at_558 rfl C_63 (by decide) rfl nl107 ge112 (fun _ => Or.inl rfl) ?_
  intro h_64 C_64
  refine k_dup at_559 rfl rfl ?_
  refine k_bipush (z := (65 : Int32)) at_560 rfl (by decide) ?_
  refine k_bipush (z := (101 : Int32)) at_562 rfl (by decide) ?_
  refine k_castA at_564 rfl C_64 (by decide) rfl nl101 ge112 (fun _ => Or.inl rfl) ?_
  intro h_65 C_65
  refine k_dup at_565 rfl rfl ?_
  refine k_bipush (z := (66 : Int32)) at_566 rfl (by decide) ?_
  refine k_bipush (z := (110 : Int32)) at_568 rfl (by decide) ?_
  refine k_castA at_570 rfl C_65 (by decide) rfl nl110 ge112 (fun _ => Or.inl rfl) ?_
  intro h_66 C_66
  refine k_dup at_571 rfl rfl ?_
  refine k_bipush (z := (67 : Int32)) at_572 rfl (by decide) ?_
  refine k_bipush (z := (77 : Int32)) at_574 rfl (by decide) ?_
  refine k_castA at_576 rfl C_66 (by decide) rfl nl77 ge112 (fun _ => Or.inl rfl) ?_
  intro h_67 C_67
  refine k_dup at_577 rfl rfl ?_
  refine k_bipush (z := (68 : Int32)) at_578 rfl (by decide) ?_
  refine k_bipush (z := (105 : Int32)) at_580 rfl (by decide) ?_
  refine k_castA at_582 rfl C_67 (by decide) rfl nl105 ge112 (fun _ => Or.inl rfl) ?_
  intro h_68 C_68
  refine k_dup at_583 rfl rfl ?_
  refine k_bipush (z := (69 : Int32)) at_584 rfl (by decide) ?_
  refine k_bipush (z := (110 : Int32)) at_586 rfl (by decide) ?_
  refine k_castA at_588 rfl C_68 (by decide) rfl nl110 ge112 (fun _ => Or.inl rfl) ?_
  intro h_69 C_69
  refine k_dup at_589 rfl rfl ?_
  refine k_bipush (z := (70 : Int32)) at_590 rfl (by decide) ?_
  refine k_bipush (z := (117 : Int32)) at_592 rfl (by decide) ?_
  refine k_castA at_594 rfl C_69 (by decide) rfl nl117 ge112 (fun _ => Or.inl rfl) ?_
  intro h_70 C_70
  refine k_dup at_595 rfl rfl ?_
  refine k_bipush (z := (71 : Int32)) at_596 rfl (by decide) ?_
  refine k_bipush (z := (115 : Int32)) at_598 rfl (by decide) ?_
  refine k_castA at_600 rfl C_70 (by decide) rfl nl115 ge112 (fun _ => Or.inl rfl) ?_
  intro h_71 C_71
  refine k_dup at_601 rfl rfl ?_
  refine k_bipush (z := (72 : Int32)) at_602 rfl (by decide) ?_
  refine k_bipush (z := (79 : Int32)) at_604 rfl (by decide) ?_
  refine k_castA at_606 rfl C_71 (by decide) rfl nl79 ge112 (fun _ => Or.inl rfl) ?_
  intro h_72 C_72
  refine k_dup at_607 rfl rfl ?_
  refine k_bipush (z := (73 : Int32)) at_608 rfl (by decide) ?_
  refine k_bipush (z := (110 : Int32)) at_610 rfl (by decide) ?_
  refine k_castA at_612 rfl C_72 (by decide) rfl nl110 ge112 (fun _ => Or.inl rfl) ?_
  intro h_73 C_73
  refine k_dup at_613 rfl rfl ?_
  refine k_bipush (z := (74 : Int32)) at_614 rfl (by decide) ?_
  refine k_bipush (z := (101 : Int32)) at_616 rfl (by decide) ?_
  refine k_castA at_618 rfl C_73 (by decide) rfl nl101 ge112 (fun _ => Or.inl rfl) ?_
  intro h_74 C_74
  refine k_dup at_619 rfl rfl ?_
  refine k_bipush (z := (75 : Int32)) at_620 rfl (by decide) ?_
  refine k_bipush (z := (77 : Int32)) at_622 rfl (by decide) ?_
  refine k_castA at_624 rfl C_74 (by decide) rfl nl77 ge112 (fun _ => Or.inl rfl) ?_
  intro h_75 C_75
  refine k_dup at_625 rfl rfl ?_
  refine k_bipush (z := (76 : Int32)) at_626 rfl (by decide) ?_
  refine k_bipush (z := (111 : Int32)) at_628 rfl (by decide) ?_
  refine k_castA at_630 rfl C_75 (by decide) rfl nl111 ge112 (fun _ => Or.inl rfl) ?_
  intro h_76 C_76
  refine k_dup at_631 rfl rfl ?_
  refine k_bipush (z := (77 : Int32)) at_632 rfl (by decide) ?_
  refine k_bipush (z := (110 : Int32)) at_634 rfl (by decide) ?_
  refine k_castA at_636 rfl C_76 (by decide) rfl nl110 ge112 (fun _ => Or.inl rfl) ?_
  intro h_77 C_77
  refine k_dup at_637 rfl rfl ?_
  refine k_bipush (z := (78 : Int32)) at_638 rfl (by decide) ?_
  refine k_bipush (z := (116 : Int32)) at_640 rfl (by decide) ?_
  refine k_castA at_642 rfl C_77 (by decide) rfl nl116 ge112 (fun _ => Or.inl rfl) ?_
  intro h_78 C_78
  refine k_dup at_643 rfl rfl ?_
  refine k_bipush (z := (79 : Int32)) at_644 rfl (by decide) ?_
  refine k_bipush (z := (104 : Int32)) at_646 rfl (by decide) ?_
  refine k_castA at_648 rfl C_78 (by decide) rfl nl104 ge112 (fun _ => Or.inl rfl) ?_
  intro h_79 C_79
  refine k_dup at_649 rfl rfl ?_
  refine k_bipush (z := (80 : Int32)) at_650 rfl (by decide) ?_
  refine k_bipush (z := (61 : Int32)) at_652 rfl (by decide) ?_
  refine k_castA at_654 rfl C_79 (by decide) rfl nl61 ge112 (fun _ => Or.inl rfl) ?_
  intro h_80 C_80
  refine k_dup at_655 rfl rfl ?_
  refine k_bipush (z := (81 : Int32)) at_656 rfl (by decide) ?_
  refine k_iload at_658 rfl rfl ?_
  refine k_iconst (z := (2 : Int32)) at_660 rfl (by decide) ?_
  refine k_ishr at_661 rfl ?_
  refine k_callStatic (argsL := [(.int ((x4 &&& (255 : Int32)) >>> ((2 : Int32) &&& 31)))]) (rest := [(.int (81 : Int32)), (.ref a104), (.ref a104)]) (W0 := 3) at_662 rfl (mt_b64 l Z a0 hw cs hcs SC hEW ((x4 &&& (255 : Int32)) >>> ((2 : Int32) &&& 31)) (s_e0 _) h_80 n0) (Kp.pure (fun _ _ q => q.2.symm)) (hw _ (List.mem_of_getElem? (i := 235) rfl)) (hw _ (List.mem_of_getElem? (i := 236) rfl)) (hw _ (List.mem_of_getElem? (i := 237) rfl)) (hw _ (List.mem_of_getElem? (i := 238) rfl)) (by decide) pd_b64 rfl rfl rfl rfl (by decide) (by decide) (by decide) (by decide) ?_
  rintro _ _ - ⟨rfl, rfl⟩
  refine KW.sub (S' := fun x => x = a104) (fun x hx => Or.inl hx) ?_
  show KW true l Z M_law n0 (fun v _ => v = some (.int 1)) (EL, fun x => x = a104) h_80 62 2972 665 #[.val (.int x0), .val (.int x1), .val (.int x2), .val (.int x3), .val (.int x4), .val (.int x5), .val (.ref a1), .val (.ref a23), .val (.ref a38), .val (.ref a59), .val (.ref s1), .val (.int (x0 &&& (255 : Int32))), .val (.int (x1 &&& (255 : Int32))), .val (.int (x2 &&& (255 : Int32))), .val (.int (x3 &&& (255 : Int32))), .val (.int (x4 &&& (255 : Int32))), .val (.int (x5 &&& (255 : Int32))), .unset] [(.int (tbv ((x4 &&& (255 : Int32)) >>> ((2 : Int32) &&& 31)))), (.int (81 : Int32)), (.ref a104), (.ref a104)]
  refine k_castA at_665 rfl C_80 (by decide) rfl (narT (s_e0 _)) ge112 (fun _ => Or.inl rfl) ?_
  intro h_81 C_81
  refine k_dup at_666 rfl rfl ?_
  refine k_bipush (z := (82 : Int32)) at_667 rfl (by decide) ?_
  refine k_iload at_669 rfl rfl ?_
  refine k_iconst (z := (3 : Int32)) at_671 rfl (by decide) ?_
  refine k_iand at_672 rfl ?_
  refine k_iconst (z := (4 : Int32)) at_673 rfl (by decide) ?_
  refine k_ishl at_674 rfl ?_
  refine k_iload at_675 rfl rfl ?_
  refine k_iconst (z := (4 : Int32)) at_677 rfl (by decide) ?_
  refine k_ishr at_678 rfl ?_
  refine k_ior at_679 rfl ?_
  refine k_callStatic (argsL := [(.int ((((x4 &&& (255 : Int32)) &&& (3 : Int32)) <<< ((4 : Int32) &&& 31)) ||| ((x5 &&& (255 : Int32)) >>> ((4 : Int32) &&& 31))))]) (rest := [(.int (82 : Int32)), (.ref a104), (.ref a104)]) (W0 := 3) at_680 rfl (mt_b64 l Z a0 hw cs hcs SC hEW ((((x4 &&& (255 : Int32)) &&& (3 : Int32)) <<< ((4 : Int32) &&& 31)) ||| ((x5 &&& (255 : Int32)) >>> ((4 : Int32) &&& 31))) (s_e1 _ _) h_81 n0) (Kp.pure (fun _ _ q => q.2.symm)) (hw _ (List.mem_of_getElem? (i := 235) rfl)) (hw _ (List.mem_of_getElem? (i := 236) rfl)) (hw _ (List.mem_of_getElem? (i := 237) rfl)) (hw _ (List.mem_of_getElem? (i := 238) rfl)) (by decide) pd_b64 rfl rfl rfl rfl (by decide) (by decide) (by decide) (by decide) ?_
  rintro _ _ - ⟨rfl, rfl⟩
  refine KW.sub (S' := fun x => x = a104) (fun x hx => Or.inl hx) ?_
  show KW true l Z M_law n0 (fun v _ => v = some (.int 1)) (EL, fun x => x = a104) h_81 62 2972 683 #[.val (.int x0), .val (.int x1), .val (.int x2), .val (.int x3), .val (.int x4), .val (.int x5), .val (.ref a1), .val (.ref a23), .val (.ref a38), .val (.ref a59), .val (.ref s1), .val (.int (x0 &&& (255 : Int32))), .val (.int (x1 &&& (255 : Int32))), .val (.int (x2 &&& (255 : Int32))), .val (.int (x3 &&& (255 : Int32))), .val (.int (x4 &&& (255 : Int32))), .val (.int (x5 &&& (255 : Int32))), .unset] [(.int (tbv ((((x4 &&& (255 : Int32)) &&& (3 : Int32)) <<< ((4 : Int32) &&& 31)) ||| ((x5 &&& (255 : Int32)) >>> ((4 : Int32) &&& 31))))), (.int (82 : Int32)), (.ref a104), (.ref a104)]
  refine k_castA at_683 rfl C_81 (by decide) rfl (narT (s_e1 _ _)) ge112 (fun _ => Or.inl rfl) ?_
  intro h_82 C_82
  refine k_dup at_684 rfl rfl ?_
  refine k_bipush (z := (83 : Int32)) at_685 rfl (by decide) ?_
  refine k_iload at_687 rfl rfl ?_
  refine k_bipush (z := (15 : Int32)) at_689 rfl (by decide) ?_
  refine k_iand at_691 rfl ?_
  refine k_iconst (z := (2 : Int32)) at_692 rfl (by decide) ?_
  refine k_ishl at_693 rfl ?_
  refine k_callStatic (argsL := [(.int (((x5 &&& (255 : Int32)) &&& (15 : Int32)) <<< ((2 : Int32) &&& 31)))]) (rest := [(.int (83 : Int32)), (.ref a104), (.ref a104)]) (W0 := 3) at_694 rfl (mt_b64 l Z a0 hw cs hcs SC hEW (((x5 &&& (255 : Int32)) &&& (15 : Int32)) <<< ((2 : Int32) &&& 31)) (s_g2 _) h_82 n0) (Kp.pure (fun _ _ q => q.2.symm)) (hw _ (List.mem_of_getElem? (i := 235) rfl)) (hw _ (List.mem_of_getElem? (i := 236) rfl)) (hw _ (List.mem_of_getElem? (i := 237) rfl)) (hw _ (List.mem_of_getElem? (i := 238) rfl)) (by decide) pd_b64 rfl rfl rfl rfl (by decide) (by decide) (by decide) (by decide) ?_
  rintro _ _ - ⟨rfl, rfl⟩
  refine KW.sub (S' := fun x => x = a104) (fun x hx => Or.inl hx) ?_
  show KW true l Z M_law n0 (fun v _ => v = some (.int 1)) (EL, fun x => x = a104) h_82 62 2972 697 #[.val (.int x0), .val (.int x1), .val (.int x2), .val (.int x3), .val (.int x4), .val (.int x5), .val (.ref a1), .val (.ref a23), .val (.ref a38), .val (.ref a59), .val (.ref s1), .val (.int (x0 &&& (255 : Int32))), .val (.int (x1 &&& (255 : Int32))), .val (.int (x2 &&& (255 : Int32))), .val (.int (x3 &&& (255 : Int32))), .val (.int (x4 &&& (255 : Int32))), .val (.int (x5 &&& (255 : Int32))), .unset] [(.int (tbv (((x5 &&& (255 : Int32)) &&& (15 : Int32)) <<< ((2 : Int32) &&& 31)))), (.int (83 : Int32)), (.ref a104), (.ref a104)]
  refine k_castA at_697 rfl C_82 (by decide) rfl (narT (s_g2 _)) ge112 (fun _ => Or.inl rfl) ?_
  intro h_83 C_83
  refine k_dup at_698 rfl rfl ?_
  refine k_bipush (z := (84 : Int32)) at_699 rfl (by decide) ?_
  refine k_bipush (z := (61 : Int32)) at_701 rfl (by decide) ?_
  refine k_castA at_703 rfl C_83 (by decide) rfl nl61 ge112 (fun _ => Or.inl rfl) ?_
  intro h_84 C_84
  refine k_dup at_704 rfl rfl ?_
  refine k_bipush (z := (85 : Int32)) at_705 rfl (by decide) ?_
  refine k_bipush (z := (10 : Int32)) at_707 rfl (by decide) ?_
  refine k_castA at_709 rfl C_84 (by decide) rfl nl10 ge112 (fun _ => Or.inl rfl) ?_
  intro h_85 C_85
  refine k_dup at_710 rfl rfl ?_
  refine k_bipush (z := (86 : Int32)) at_711 rfl (by decide) ?_
  refine k_bipush (z := (112 : Int32)) at_713 rfl (by decide) ?_
  refine k_castA at_715 rfl C_85 (by decide) rfl nl112 ge112 (fun _ => Or.inl rfl) ?_
  intro h_86 C_86
  refine k_dup at_716 rfl rfl ?_
  refine k_bipush (z := (87 : Int32)) at_717 rfl (by decide) ?_
  refine k_bipush (z := (114 : Int32)) at_719 rfl (by decide) ?_
  refine k_castA at_721 rfl C_86 (by decide) rfl nl114 ge112 (fun _ => Or.inl rfl) ?_
  intro h_87 C_87
  refine k_dup at_722 rfl rfl ?_
  refine k_bipush (z := (88 : Int32)) at_723 rfl (by decide) ?_
  refine k_bipush (z := (101 : Int32)) at_725 rfl (by decide) ?_
  refine k_castA at_727 rfl C_87 (by decide) rfl nl101 ge112 (fun _ => Or.inl rfl) ?_
  intro h_88 C_88
  refine k_dup at_728 rfl rfl ?_
  refine k_bipush (z := (89 : Int32)) at_729 rfl (by decide) ?_
  refine k_bipush (z := (118 : Int32)) at_731 rfl (by decide) ?_
  refine k_castA at_733 rfl C_88 (by decide) rfl nl118 ge112 (fun _ => Or.inl rfl) ?_
  intro h_89 C_89
  refine k_dup at_734 rfl rfl ?_
  refine k_bipush (z := (90 : Int32)) at_735 rfl (by decide) ?_
  refine k_bipush (z := (105 : Int32)) at_737 rfl (by decide) ?_
  refine k_castA at_739 rfl C_89 (by decide) rfl nl105 ge112 (fun _ => Or.inl rfl) ?_
  intro h_90 C_90
  refine k_dup at_740 rfl rfl ?_
  refine k_bipush (z := (91 : Int32)) at_741 rfl (by decide) ?_
  refine k_bipush (z := (111 : Int32)) at_743 rfl (by decide) ?_
  refine k_castA at_745 rfl C_90 (by decide) rfl nl111 ge112 (fun _ => Or.inl rfl) ?_
  intro h_91 C_91
  refine k_dup at_746 rfl rfl ?_
  refine k_bipush (z := (92 : Int32)) at_747 rfl (by decide) ?_
  refine k_bipush (z := (117 : Int32)) at_749 rfl (by decide) ?_
  refine k_castA at_751 rfl C_91 (by decide) rfl nl117 ge112 (fun _ => Or.inl rfl) ?_
  intro h_92 C_92
  refine k_dup at_752 rfl rfl ?_
  refine k_bipush (z := (93 : Int32)) at_753 rfl (by decide) ?_
  refine k_bipush (z := (115 : Int32)) at_755 rfl (by decide) ?_
  refine k_castA at_757 rfl C_92 (by decide) rfl nl115 ge112 (fun _ => Or.inl rfl) ?_
  intro h_93 C_93
  refine k_dup at_758 rfl rfl ?_
  refine k_bipush (z := (94 : Int32)) at_759 rfl (by decide) ?_
  refine k_bipush (z := (84 : Int32)) at_761 rfl (by decide) ?_
  refine k_castA at_763 rfl C_93 (by decide) rfl nl84 ge112 (fun _ => Or.inl rfl) ?_
  intro h_94 C_94
  refine k_dup at_764 rfl rfl ?_
  refine k_bipush (z := (95 : Int32)) at_765 rfl (by decide) ?_
  refine k_bipush (z := (105 : Int32)) at_767 rfl (by decide) ?_
  refine k_castA at_769 rfl C_94 (by decide) rfl nl105 ge112 (fun _ => Or.inl rfl) ?_
  intro h_95 C_95
  refine k_dup at_770 rfl rfl ?_
  refine k_bipush (z := (96 : Int32)) at_771 rfl (by decide) ?_
  refine k_bipush (z := (109 : Int32)) at_773 rfl (by decide) ?_
  refine k_castA at_775 rfl C_95 (by decide) rfl nl109 ge112 (fun _ => Or.inl rfl) ?_
  intro h_96 C_96
  refine k_dup at_776 rfl rfl ?_
  refine k_bipush (z := (97 : Int32)) at_777 rfl (by decide) ?_
  refine k_bipush (z := (101 : Int32)) at_779 rfl (by decide) ?_
  refine k_castA at_781 rfl C_96 (by decide) rfl nl101 ge112 (fun _ => Or.inl rfl) ?_
  intro h_97 C_97
  refine k_dup at_782 rfl rfl ?_
  refine k_bipush (z := (98 : Int32)) at_783 rfl (by decide) ?_
  refine k_bipush (z := (115 : Int32)) at_785 rfl (by decide) ?_
  refine k_castA at_787 rfl C_97 (by decide) rfl nl115 ge112 (fun _ => Or.inl rfl) ?_
  intro h_98 C_98
  refine k_dup at_788 rfl rfl ?_
  refine k_bipush (z := (99 : Int32)) at_789 rfl (by decide) ?_
  refine k_bipush (z := (116 : Int32)) at_791 rfl (by decide) ?_
  refine k_castA at_793 rfl C_98 (by decide) rfl nl116 ge112 (fun _ => Or.inl rfl) ?_
  intro h_99 C_99
  refine k_dup at_794 rfl rfl ?_
  refine k_bipush (z := (100 : Int32)) at_795 rfl (by decide) ?_
  refine k_bipush (z := (97 : Int32)) at_797 rfl (by decide) ?_
  refine k_castA at_799 rfl C_99 (by decide) rfl nl97 ge112 (fun _ => Or.inl rfl) ?_
  intro h_100 C_100
  refine k_dup at_800 rfl rfl ?_
  refine k_bipush (z := (101 : Int32)) at_801 rfl (by decide) ?_
  refine k_bipush (z := (109 : Int32)) at_803 rfl (by decide) ?_
  refine k_castA at_805 rfl C_100 (by decide) rfl nl109 ge112 (fun _ => Or.inl rfl) ?_
  intro h_101 C_101
  refine k_dup at_806 rfl rfl ?_
  refine k_bipush (z := (102 : Int32)) at_807 rfl (by decide) ?_
  refine k_bipush (z := (112 : Int32)) at_809 rfl (by decide) ?_
  refine k_castA at_811 rfl C_101 (by decide) rfl nl112 ge112 (fun _ => Or.inl rfl) ?_
  intro h_102 C_102
  refine k_dup at_812 rfl rfl ?_
  refine k_bipush (z := (103 : Int32)) at_813 rfl (by decide) ?_
  refine k_bipush (z := (84 : Int32)) at_815 rfl (by decide) ?_
  refine k_castA at_817 rfl C_102 (by decide) rfl nl84 ge112 (fun _ => Or.inl rfl) ?_
  intro h_103 C_103
  refine k_dup at_818 rfl rfl ?_
  refine k_bipush (z := (104 : Int32)) at_819 rfl (by decide) ?_
  refine k_bipush (z := (111 : Int32)) at_821 rfl (by decide) ?_
  refine k_castA at_823 rfl C_103 (by decide) rfl nl111 ge112 (fun _ => Or.inl rfl) ?_
  intro h_104 C_104
  refine k_dup at_824 rfl rfl ?_
  refine k_bipush (z := (105 : Int32)) at_825 rfl (by decide) ?_
  refine k_bipush (z := (107 : Int32)) at_827 rfl (by decide) ?_
  refine k_castA at_829 rfl C_104 (by decide) rfl nl107 ge112 (fun _ => Or.inl rfl) ?_
  intro h_105 C_105
  refine k_dup at_830 rfl rfl ?_
  refine k_bipush (z := (106 : Int32)) at_831 rfl (by decide) ?_
  refine k_bipush (z := (101 : Int32)) at_833 rfl (by decide) ?_
  refine k_castA at_835 rfl C_105 (by decide) rfl nl101 ge112 (fun _ => Or.inl rfl) ?_
  intro h_106 C_106
  refine k_dup at_836 rfl rfl ?_
  refine k_bipush (z := (107 : Int32)) at_837 rfl (by decide) ?_
  refine k_bipush (z := (110 : Int32)) at_839 rfl (by decide) ?_
  refine k_castA at_841 rfl C_106 (by decide) rfl nl110 ge112 (fun _ => Or.inl rfl) ?_
  intro h_107 C_107
  refine k_dup at_842 rfl rfl ?_
  refine k_bipush (z := (108 : Int32)) at_843 rfl (by decide) ?_
  refine k_bipush (z := (77 : Int32)) at_845 rfl (by decide) ?_
  refine k_castA at_847 rfl C_107 (by decide) rfl nl77 ge112 (fun _ => Or.inl rfl) ?_
  intro h_108 C_108
  refine k_dup at_848 rfl rfl ?_
  refine k_bipush (z := (109 : Int32)) at_849 rfl (by decide) ?_
  refine k_bipush (z := (105 : Int32)) at_851 rfl (by decide) ?_
  refine k_castA at_853 rfl C_108 (by decide) rfl nl105 ge112 (fun _ => Or.inl rfl) ?_
  intro h_109 C_109
  refine k_dup at_854 rfl rfl ?_
  refine k_bipush (z := (110 : Int32)) at_855 rfl (by decide) ?_
  refine k_bipush (z := (110 : Int32)) at_857 rfl (by decide) ?_
  refine k_castA at_859 rfl C_109 (by decide) rfl nl110 ge112 (fun _ => Or.inl rfl) ?_
  intro h_110 C_110
  refine k_dup at_860 rfl rfl ?_
  refine k_bipush (z := (111 : Int32)) at_861 rfl (by decide) ?_
  refine k_bipush (z := (117 : Int32)) at_863 rfl (by decide) ?_
  refine k_castA at_865 rfl C_110 (by decide) rfl nl117 ge112 (fun _ => Or.inl rfl) ?_
  intro h_111 C_111
  refine k_dup at_866 rfl rfl ?_
  refine k_bipush (z := (112 : Int32)) at_867 rfl (by decide) ?_
  refine k_bipush (z := (115 : Int32)) at_869 rfl (by decide) ?_
  refine k_castA at_871 rfl C_111 (by decide) rfl nl115 ge112 (fun _ => Or.inl rfl) ?_
  intro h_112 C_112
  refine k_dup at_872 rfl rfl ?_
  refine k_bipush (z := (113 : Int32)) at_873 rfl (by decide) ?_
  refine k_bipush (z := (79 : Int32)) at_875 rfl (by decide) ?_
  refine k_castA at_877 rfl C_112 (by decide) rfl nl79 ge112 (fun _ => Or.inl rfl) ?_
  intro h_113 C_113
  refine k_dup at_878 rfl rfl ?_
  refine k_bipush (z := (114 : Int32)) at_879 rfl (by decide) ?_
  refine k_bipush (z := (110 : Int32)) at_881 rfl (by decide) ?_
  refine k_castA at_883 rfl C_113 (by decide) rfl nl110 ge112 (fun _ => Or.inl rfl) ?_
  intro h_114 C_114
  refine k_dup at_884 rfl rfl ?_
  refine k_bipush (z := (115 : Int32)) at_885 rfl (by decide) ?_
  refine k_bipush (z := (101 : Int32)) at_887 rfl (by decide) ?_
  refine k_castA at_889 rfl C_114 (by decide) rfl nl101 ge112 (fun _ => Or.inl rfl) ?_
  intro h_115 C_115
  refine k_dup at_890 rfl rfl ?_
  refine k_bipush (z := (116 : Int32)) at_891 rfl (by decide) ?_
  refine k_bipush (z := (89 : Int32)) at_893 rfl (by decide) ?_
  refine k_castA at_895 rfl C_115 (by decide) rfl nl89 ge112 (fun _ => Or.inl rfl) ?_
  intro h_116 C_116
  refine k_dup at_896 rfl rfl ?_
  refine k_bipush (z := (117 : Int32)) at_897 rfl (by decide) ?_
  refine k_bipush (z := (101 : Int32)) at_899 rfl (by decide) ?_
  refine k_castA at_901 rfl C_116 (by decide) rfl nl101 ge112 (fun _ => Or.inl rfl) ?_
  intro h_117 C_117
  refine k_dup at_902 rfl rfl ?_
  refine k_bipush (z := (118 : Int32)) at_903 rfl (by decide) ?_
  refine k_bipush (z := (97 : Int32)) at_905 rfl (by decide) ?_
  refine k_castA at_907 rfl C_117 (by decide) rfl nl97 ge112 (fun _ => Or.inl rfl) ?_
  intro h_118 C_118
  refine k_dup at_908 rfl rfl ?_
  refine k_bipush (z := (119 : Int32)) at_909 rfl (by decide) ?_
  refine k_bipush (z := (114 : Int32)) at_911 rfl (by decide) ?_
  refine k_castA at_913 rfl C_118 (by decide) rfl nl114 ge112 (fun _ => Or.inl rfl) ?_
  intro h_119 C_119
  refine k_dup at_914 rfl rfl ?_
  refine k_bipush (z := (120 : Int32)) at_915 rfl (by decide) ?_
  refine k_bipush (z := (61 : Int32)) at_917 rfl (by decide) ?_
  refine k_castA at_919 rfl C_119 (by decide) rfl nl61 ge112 (fun _ => Or.inl rfl) ?_
  intro h_120 C_120
  refine k_dup at_920 rfl rfl ?_
  refine k_bipush (z := (121 : Int32)) at_921 rfl (by decide) ?_
  refine k_bipush (z := (10 : Int32)) at_923 rfl (by decide) ?_
  refine k_castA at_925 rfl C_120 (by decide) rfl nl10 ge112 (fun _ => Or.inl rfl) ?_
  intro h_121 C_121
  have KC := C_121.2.2.2.1
  have AX : Arv Z h_121 a104 ck109 .char (122 : Int32) (([99, 117, 114, 114, 101, 110, 116, 72, 97, 115, 104, 61, (tbv ((x0 &&& (255 : Int32)) >>> ((2 : Int32) &&& 31))), (tbv ((((x0 &&& (255 : Int32)) &&& (3 : Int32)) <<< ((4 : Int32) &&& 31)) ||| ((x1 &&& (255 : Int32)) >>> ((4 : Int32) &&& 31)))), (tbv ((((x1 &&& (255 : Int32)) &&& (15 : Int32)) <<< ((2 : Int32) &&& 31)) ||| ((x2 &&& (255 : Int32)) >>> ((6 : Int32) &&& 31)))), (tbv ((x2 &&& (255 : Int32)) &&& (63 : Int32))), 10, 112, 114, 101, 118, 105, 111, 117, 115, 84, 105, 109, 101, 115, 116, 97, 109, 112, 84, 111, 107, 101, 110, 61, (tbv ((x3 &&& (255 : Int32)) >>> ((2 : Int32) &&& 31))), (tbv (((x3 &&& (255 : Int32)) &&& (3 : Int32)) <<< ((4 : Int32) &&& 31))), 61, 61, 10, 112, 114, 101, 118, 105, 111, 117, 115, 84, 105, 109, 101, 115, 116, 97, 109, 112, 84, 111, 107, 101, 110, 77, 105, 110, 117, 115, 79, 110, 101, 77, 111, 110, 116, 104, 61, (tbv ((x4 &&& (255 : Int32)) >>> ((2 : Int32) &&& 31))), (tbv ((((x4 &&& (255 : Int32)) &&& (3 : Int32)) <<< ((4 : Int32) &&& 31)) ||| ((x5 &&& (255 : Int32)) >>> ((4 : Int32) &&& 31)))), (tbv (((x5 &&& (255 : Int32)) &&& (15 : Int32)) <<< ((2 : Int32) &&& 31))), 61, 10, 112, 114, 101, 118, 105, 111, 117, 115, 84, 105, 109, 101, 115, 116, 97, 109, 112, 84, 111, 107, 101, 110, 77, 105, 110, 117, 115, 79, 110, 101, 89, 101, 97, 114, 61, 10] : List Int32).map Value.int) (.int 0) := by
    have q := C_121.2.2.2.2
    simp only [List.append_assoc, List.cons_append, List.nil_append, Nat.sub_self, List.replicate_zero, List.append_nil] at q
    exact q
  have SGF := f116.keep KC (ninS ne110 nin0) (ninS ne111 nin0)
  have ODF := f117.keep KC (allS ge112 all0)
  have ZF : n0 ≤ h_121.size := ODF.1 ▸ ODF.2.1
  refine k_astore (Ls' := #[.val (.int x0), .val (.int x1), .val (.int x2), .val (.int x3), .val (.int x4), .val (.int x5), .val (.ref a1), .val (.ref a23), .val (.ref a38), .val (.ref a59), .val (.ref s1), .val (.int (x0 &&& (255 : Int32))), .val (.int (x1 &&& (255 : Int32))), .val (.int (x2 &&& (255 : Int32))), .val (.int (x3 &&& (255 : Int32))), .val (.int (x4 &&& (255 : Int32))), .val (.int (x5 &&& (255 : Int32))), .val (.ref a104)]) at_926 rfl rfl rfl ?_
  refine k_aload at_928 rfl rfl rfl ?_
  refine k_new at_930 rfl (hw _ (List.mem_of_getElem? (i := 239) rfl)) (hw _ (List.mem_of_getElem? (i := 49) rfl)) (hw _ (List.mem_of_getElem? (i := 43) rfl)) (by decide) (by decide) ?_
  intro h485 a484 g489 E486 A487 D488
  have ne490 : s1 ≠ a484 := Nat.ne_of_lt (Nat.lt_of_lt_of_eq SGF.lt g489.symm)
  have ne491 : t1 ≠ a484 := Nat.ne_of_lt (Nat.lt_of_lt_of_eq SGF.ltv g489.symm)
  have z492 : n0 ≤ h_121.size := ZF
  have ge493 : n0 ≤ a484 := Nat.le_trans z492 (Nat.le_of_eq g489.symm)
  have gl494 : h_121.size ≤ a484 := Nat.le_of_eq g489.symm
  have F495 : Fld Z h485 a484 "java/lang/String" "value" "[B" .null := D488 (Or.inr (hw _ (List.mem_of_getElem? (i := 50) rfl))) (ty := (.array .byte)) (by decide)
  have F496 : Fld Z h485 a484 "java/lang/String" "coder" "B" (.int (0 : Int32)) := D488 (Or.inr (hw _ (List.mem_of_getElem? (i := 51) rfl))) (ty := .byte) (by decide)
  refine KW.sub (S' := fun x => x = a104 ∨ x = a484) (fun x hx => ?_) ?_
  · rcases hx with rfl | rfl
    · exact Or.inl rfl
    · exact Or.inr ⟨gl494, A487.lt⟩
  show KW true l Z M_law n0 (fun v _ => v = some (.int 1)) (EL, fun x => x = a104 ∨ x = a484) h485 63 2976 933 #[.val (.int x0), .val (.int x1), .val (.int x2), .val (.int x3), .val (.int x4), .val (.int x5), .val (.ref a1), .val (.ref a23), .val (.ref a38), .val (.ref a59), .val (.ref s1), .val (.int (x0 &&& (255 : Int32))), .val (.int (x1 &&& (255 : Int32))), .val (.int (x2 &&& (255 : Int32))), .val (.int (x3 &&& (255 : Int32))), .val (.int (x4 &&& (255 : Int32))), .val (.int (x5 &&& (255 : Int32))), .val (.ref a104)] [(.ref a484), (.ref s1)]
  refine k_dup at_933 rfl rfl ?_
  refine k_aload at_934 rfl rfl rfl ?_
  refine KW.sub (S' := fun x => x = a484) (fun x hx => (Or.inr hx)) ?_
  show KW true l Z M_law n0 (fun v _ => v = some (.int 1)) (EL, fun x => x = a484) h485 63 2976 936 #[.val (.int x0), .val (.int x1), .val (.int x2), .val (.int x3), .val (.int x4), .val (.int x5), .val (.ref a1), .val (.ref a23), .val (.ref a38), .val (.ref a59), .val (.ref s1), .val (.int (x0 &&& (255 : Int32))), .val (.int (x1 &&& (255 : Int32))), .val (.int (x2 &&& (255 : Int32))), .val (.int (x3 &&& (255 : Int32))), .val (.int (x4 &&& (255 : Int32))), .val (.int (x5 &&& (255 : Int32))), .val (.ref a104)] [(.ref a104), (.ref a484), (.ref a484), (.ref s1)]
  have f497 := (AX.ext E486)
  have f498 := (SGF.ext E486)
  have f499 := (ODF.ext E486)
  refine k_callInitW (a := a484) (argsL := [(.ref a104)]) (rest := [(.ref a484), (.ref s1)]) (W0 := 2) at_936 rfl (mt_s1 l Z a0 hw cs hcs SC hEW a484 a104 ck109 [99, 117, 114, 114, 101, 110, 116, 72, 97, 115, 104, 61, (tbv ((x0 &&& (255 : Int32)) >>> ((2 : Int32) &&& 31))), (tbv ((((x0 &&& (255 : Int32)) &&& (3 : Int32)) <<< ((4 : Int32) &&& 31)) ||| ((x1 &&& (255 : Int32)) >>> ((4 : Int32) &&& 31)))), (tbv ((((x1 &&& (255 : Int32)) &&& (15 : Int32)) <<< ((2 : Int32) &&& 31)) ||| ((x2 &&& (255 : Int32)) >>> ((6 : Int32) &&& 31)))), (tbv ((x2 &&& (255 : Int32)) &&& (63 : Int32))), 10, 112, 114, 101, 118, 105, 111, 117, 115, 84, 105, 109, 101, 115, 116, 97, 109, 112, 84, 111, 107, 101, 110, 61, (tbv ((x3 &&& (255 : Int32)) >>> ((2 : Int32) &&& 31))), (tbv (((x3 &&& (255 : Int32)) &&& (3 : Int32)) <<< ((4 : Int32) &&& 31))), 61, 61, 10, 112, 114, 101, 118, 105, 111, 117, 115, 84, 105, 109, 101, 115, 116, 97, 109, 112, 84, 111, 107, 101, 110, 77, 105, 110, 117, 115, 79, 110, 101, 77, 111, 110, 116, 104, 61, (tbv ((x4 &&& (255 : Int32)) >>> ((2 : Int32) &&& 31))), (tbv ((((x4 &&& (255 : Int32)) &&& (3 : Int32)) <<< ((4 : Int32) &&& 31)) ||| ((x5 &&& (255 : Int32)) >>> ((4 : Int32) &&& 31)))), (tbv (((x5 &&& (255 : Int32)) &&& (15 : Int32)) <<< ((2 : Int32) &&& 31))), 61, 10, 112, 114, 101, 118, 105, 111, 117, 115, 84, 105, 109, 101, 115, 116, 97, 109, 112, 84, 111, 107, 101, 110, 77, 105, 110, 117, 115, 79, 110, 101, 89, 101, 97, 114, 61, 10] h485 n0 (show 122 ≤ 122 by decide) (Latin.cons lt99 (Latin.cons lt117 (Latin.cons lt114 (Latin.cons lt114 (Latin.cons lt101 (Latin.cons lt110 (Latin.cons lt116 (Latin.cons lt72 (Latin.cons lt97 (Latin.cons lt115 (Latin.cons lt104 (Latin.cons lt61 (Latin.cons (tb_ch (s_e0 _)) (Latin.cons (tb_ch (s_e1 _ _)) (Latin.cons (tb_ch (s_e2 _ _)) (Latin.cons (tb_ch (s_e3 _)) (Latin.cons lt10 (Latin.cons lt112 (Latin.cons lt114 (Latin.cons lt101 (Latin.cons lt118 (Latin.cons lt105 (Latin.cons lt111 (Latin.cons lt117 (Latin.cons lt115 (Latin.cons lt84 (Latin.cons lt105 (Latin.cons lt109 (Latin.cons lt101 (Latin.cons lt115 (Latin.cons lt116 (Latin.cons lt97 (Latin.cons lt109 (Latin.cons lt112 (Latin.cons lt84 (Latin.cons lt111 (Latin.cons lt107 (Latin.cons lt101 (Latin.cons lt110 (Latin.cons lt61 (Latin.cons (tb_ch (s_e0 _)) (Latin.cons (tb_ch (s_f1 _)) (Latin.cons lt61 (Latin.cons lt61 (Latin.cons lt10 (Latin.cons lt112 (Latin.cons lt114 (Latin.cons lt101 (Latin.cons lt118 (Latin.cons lt105 (Latin.cons lt111 (Latin.cons lt117 (Latin.cons lt115 (Latin.cons lt84 (Latin.cons lt105 (Latin.cons lt109 (Latin.cons lt101 (Latin.cons lt115 (Latin.cons lt116 (Latin.cons lt97 (Latin.cons lt109 (Latin.cons lt112 (Latin.cons lt84 (Latin.cons lt111 (Latin.cons lt107 (Latin.cons lt101 (Latin.cons lt110 (Latin.cons lt77 (Latin.cons lt105 (Latin.cons lt110 (Latin.cons lt117 (Latin.cons lt115 (Latin.cons lt79 (Latin.cons lt110 (Latin.cons lt101 (Latin.cons lt77 (Latin.cons lt111 (Latin.cons lt110 (Latin.cons lt116 (Latin.cons lt104 (Latin.cons lt61 (Latin.cons (tb_ch (s_e0 _)) (Latin.cons (tb_ch (s_e1 _ _)) (Latin.cons (tb_ch (s_g2 _)) (Latin.cons lt61 (Latin.cons lt10 (Latin.cons lt112 (Latin.cons lt114 (Latin.cons lt101 (Latin.cons lt118 (Latin.cons lt105 (Latin.cons lt111 (Latin.cons lt117 (Latin.cons lt115 (Latin.cons lt84 (Latin.cons lt105 (Latin.cons lt109 (Latin.cons lt101 (Latin.cons lt115 (Latin.cons lt116 (Latin.cons lt97 (Latin.cons lt109 (Latin.cons lt112 (Latin.cons lt84 (Latin.cons lt111 (Latin.cons lt107 (Latin.cons lt101 (Latin.cons lt110 (Latin.cons lt77 (Latin.cons lt105 (Latin.cons lt110 (Latin.cons lt117 (Latin.cons lt115 (Latin.cons lt79 (Latin.cons lt110 (Latin.cons lt101 (Latin.cons lt89 (Latin.cons lt101 (Latin.cons lt97 (Latin.cons lt114 (Latin.cons lt61 (Latin.cons lt10 Latin.nil)))))))))))))))))))))))))))))))))))))))))))))))))))))))))))))))))))))))))))))))))))))))))))))))))))))))))))))))))))))))))) f499 A487 F496 F495 f497 ge493) rfl rfl (hw _ (List.mem_of_getElem? (i := 240) rfl)) (hw _ (List.mem_of_getElem? (i := 241) rfl)) (hw _ (List.mem_of_getElem? (i := 43) rfl)) (hw _ (List.mem_of_getElem? (i := 242) rfl)) (by decide) pd_s1 rfl rfl rfl rfl (by decide) (by decide) (by decide) (by decide) ?_
  rintro _ hS - ⟨rfl, t2, SG2, KS⟩
  have SG1 := f498.keep KS (ninS ne490 nin0) (ninS ne491 nin0)
  have ODS := f499.keep KS (allS ge493 all0)
  show KW true l Z M_law n0 (fun v _ => v = some (.int 1)) (EL, fun x => x = a484) hS 67 3098 939 #[.val (.int x0), .val (.int x1), .val (.int x2), .val (.int x3), .val (.int x4), .val (.int x5), .val (.ref a1), .val (.ref a23), .val (.ref a38), .val (.ref a59), .val (.ref s1), .val (.int (x0 &&& (255 : Int32))), .val (.int (x1 &&& (255 : Int32))), .val (.int (x2 &&& (255 : Int32))), .val (.int (x3 &&& (255 : Int32))), .val (.int (x4 &&& (255 : Int32))), .val (.int (x5 &&& (255 : Int32))), .val (.ref a104)] [(.ref a484), (.ref s1)]
  refine k_callVirtual (argsL := [(.ref a484)]) (rest := []) (W0 := 0) at_939 rfl (mt_seq l Z a0 hw cs hcs SC hEW s1 a484 t1 t2 (TX (nbI x0) (nbI x1) (nbI x2) (nbI x3) (nbI x4) (nbI x5)) (([99, 117, 114, 114, 101, 110, 116, 72, 97, 115, 104, 61, (tbv ((x0 &&& (255 : Int32)) >>> ((2 : Int32) &&& 31))), (tbv ((((x0 &&& (255 : Int32)) &&& (3 : Int32)) <<< ((4 : Int32) &&& 31)) ||| ((x1 &&& (255 : Int32)) >>> ((4 : Int32) &&& 31)))), (tbv ((((x1 &&& (255 : Int32)) &&& (15 : Int32)) <<< ((2 : Int32) &&& 31)) ||| ((x2 &&& (255 : Int32)) >>> ((6 : Int32) &&& 31)))), (tbv ((x2 &&& (255 : Int32)) &&& (63 : Int32))), 10, 112, 114, 101, 118, 105, 111, 117, 115, 84, 105, 109, 101, 115, 116, 97, 109, 112, 84, 111, 107, 101, 110, 61, (tbv ((x3 &&& (255 : Int32)) >>> ((2 : Int32) &&& 31))), (tbv (((x3 &&& (255 : Int32)) &&& (3 : Int32)) <<< ((4 : Int32) &&& 31))), 61, 61, 10, 112, 114, 101, 118, 105, 111, 117, 115, 84, 105, 109, 101, 115, 116, 97, 109, 112, 84, 111, 107, 101, 110, 77, 105, 110, 117, 115, 79, 110, 101, 77, 111, 110, 116, 104, 61, (tbv ((x4 &&& (255 : Int32)) >>> ((2 : Int32) &&& 31))), (tbv ((((x4 &&& (255 : Int32)) &&& (3 : Int32)) <<< ((4 : Int32) &&& 31)) ||| ((x5 &&& (255 : Int32)) >>> ((4 : Int32) &&& 31)))), (tbv (((x5 &&& (255 : Int32)) &&& (15 : Int32)) <<< ((2 : Int32) &&& 31))), 61, 10, 112, 114, 101, 118, 105, 111, 117, 115, 84, 105, 109, 101, 115, 116, 97, 109, 112, 84, 111, 107, 101, 110, 77, 105, 110, 117, 115, 79, 110, 101, 89, 101, 97, 114, 61, 10] : List Int32).map nbI) hS n0 ODS SG1 SG2) (Kp.pure (fun _ _ q => q.2.symm)) SG1.exa (hw _ (List.mem_of_getElem? (i := 256) rfl)) (hw _ (List.mem_of_getElem? (i := 257) rfl)) (hw _ (List.mem_of_getElem? (i := 259) rfl)) (hw _ (List.mem_of_getElem? (i := 67) rfl)) rfl (hw _ (List.mem_of_getElem? (i := 258) rfl)) (hw _ (List.mem_of_getElem? (i := 260) rfl)) (hw _ (List.mem_of_getElem? (i := 43) rfl)) (by decide) pd_seq rfl rfl rfl rfl (by decide) (by decide) (by decide) (by decide) ?_
  rintro _ _ - ⟨rfl, rfl⟩
  have hTT : (TX (nbI x0) (nbI x1) (nbI x2) (nbI x3) (nbI x4) (nbI x5)) = ([99, 117, 114, 114, 101, 110, 116, 72, 97, 115, 104, 61, (tbv ((x0 &&& (255 : Int32)) >>> ((2 : Int32) &&& 31))), (tbv ((((x0 &&& (255 : Int32)) &&& (3 : Int32)) <<< ((4 : Int32) &&& 31)) ||| ((x1 &&& (255 : Int32)) >>> ((4 : Int32) &&& 31)))), (tbv ((((x1 &&& (255 : Int32)) &&& (15 : Int32)) <<< ((2 : Int32) &&& 31)) ||| ((x2 &&& (255 : Int32)) >>> ((6 : Int32) &&& 31)))), (tbv ((x2 &&& (255 : Int32)) &&& (63 : Int32))), 10, 112, 114, 101, 118, 105, 111, 117, 115, 84, 105, 109, 101, 115, 116, 97, 109, 112, 84, 111, 107, 101, 110, 61, (tbv ((x3 &&& (255 : Int32)) >>> ((2 : Int32) &&& 31))), (tbv (((x3 &&& (255 : Int32)) &&& (3 : Int32)) <<< ((4 : Int32) &&& 31))), 61, 61, 10, 112, 114, 101, 118, 105, 111, 117, 115, 84, 105, 109, 101, 115, 116, 97, 109, 112, 84, 111, 107, 101, 110, 77, 105, 110, 117, 115, 79, 110, 101, 77, 111, 110, 116, 104, 61, (tbv ((x4 &&& (255 : Int32)) >>> ((2 : Int32) &&& 31))), (tbv ((((x4 &&& (255 : Int32)) &&& (3 : Int32)) <<< ((4 : Int32) &&& 31)) ||| ((x5 &&& (255 : Int32)) >>> ((4 : Int32) &&& 31)))), (tbv (((x5 &&& (255 : Int32)) &&& (15 : Int32)) <<< ((2 : Int32) &&& 31))), 61, 10, 112, 114, 101, 118, 105, 111, 117, 115, 84, 105, 109, 101, 115, 116, 97, 109, 112, 84, 111, 107, 101, 110, 77, 105, 110, 117, 115, 79, 110, 101, 89, 101, 97, 114, 61, 10] : List Int32).map nbI := by
    unfold TX
    simp only [q_18, q_12, q_6, q_0, nb255, q_p1, q_m1, q_m2, List.map_cons, List.map_nil, nb61, nb_10, nb_61, nb_72, nb_77, nb_79, nb_84, nb_89, nb_97, nb_99, nb_101, nb_104, nb_105, nb_107, nb_109, nb_110, nb_111, nb_112, nb_114, nb_115, nb_116, nb_117, nb_118]
  rw [hTT, eqI_self]
  refine KW.sub (S' := fun _ => False) (fun x hx => hx.elim) ?_
  show KW true l Z M_law n0 (fun v _ => v = some (.int 1)) (EL, fun _ => False) hS 67 3098 942 #[.val (.int x0), .val (.int x1), .val (.int x2), .val (.int x3), .val (.int x4), .val (.int x5), .val (.ref a1), .val (.ref a23), .val (.ref a38), .val (.ref a59), .val (.ref s1), .val (.int (x0 &&& (255 : Int32))), .val (.int (x1 &&& (255 : Int32))), .val (.int (x2 &&& (255 : Int32))), .val (.int (x3 &&& (255 : Int32))), .val (.int (x4 &&& (255 : Int32))), .val (.int (x5 &&& (255 : Int32))), .val (.ref a104)] [(.int (1 : Int32))]
  exact k_retNar at_942 rfl (by simp) (z' := (1 : Int32)) (by decide) (by decide) (by decide) rfl
theorem own_fld {s : State} {args : Array Value} {t : Term} {a : Addr} {C n d : String} {z : Int32} (et : t.eval args s none [] s = some (.ref a)) (h : (Cond.eq (Term.field t C n d) (Term.int z)).value args s none s [] = some true) : Fld s s.heap a C n d (.int z) := by
  have e := Cond.eq_int (Cond.before_iff.mpr h) (Term.int_eval z)
  refine Fld.start ?_
  have q : (Term.field t C n d).eval args s none [] s = s.fieldOf? a C n d := by simp [Term.eval, et]
  rw [q] at e; exact e
abbrev K64 : List Nat := [0, 1, 2, 3, 4, 5, 6, 7, 8, 9, 10, 11, 12, 13, 14, 15, 16, 17, 18, 19, 20, 21, 22, 23, 24, 25, 26, 27, 28, 29, 30, 31, 32, 33, 34, 35, 36, 37, 38, 39, 40, 41, 42, 43, 44, 45, 46, 47, 48, 49, 50, 51, 52, 53, 54, 55, 56, 57, 58, 59, 60, 61, 62, 63]
theorem K64_mem : ∀ j, j < 64 → j ∈ K64 := by decide
theorem own_tb {s : State} {args : Array Value} {t : Term} (hf : Fit s) (hA : (Cond.arrayOf t .char).value args s none s [] = some true) (hL : (Cond.eq (Term.length t) (Term.int (64 : Int32))).value args s none s [] = some true)
    (hE : ∀ k ∈ K64, (Cond.eq (Term.elem t (Term.int (Int32.ofNat k))) (Term.int (T64.getD k 0))).value args s none s [] = some true) : ∃ (tb : Addr) (ck : ClassId), t.eval args s none [] s = some (.ref tb) ∧ Arv s s.heap tb ck .char (64 : Int32) (T64.map Value.int) (.int 0) := by
  have hlen := Cond.eq_int (Cond.before_iff.mpr hL) (Term.int_eval (64))
  obtain ⟨a, D, hev, harr, -⟩ := Term.length_spec hlen
  have h31 := Jvm.Free.SBG.length_lt hev harr hlen
  obtain ⟨cl, A⟩ := Arr.start hev hA
  have eD : cl = D := Option.some.inj (A.1.symm.trans (State.arrayAt?_spec harr).1)
  rw [eD] at A
  have hsz : D.slots.size = 64 := by
    have e : (Term.length t).eval args s none [] s = some (.int (Int32.ofNat D.slots.size)) := by simp [Term.eval, hev, harr, h31]
    have h2 : Int32.ofNat D.slots.size = 64 := by simpa using Option.some.inj (e.symm.trans hlen)
    have h3 := congrArg Int32.toInt h2
    rw [Int32.toInt_ofNat_small h31, show (64 : Int32).toInt = 64 from rfl] at h3; omega
  have H : ∀ j, j < D.slots.size → D.slots[j]? = some ((T64.map Value.int).getD j (.int 0)) := fun j hj => by
    have e := Cond.eq_int (Cond.before_iff.mpr (hE j (K64_mem j (by omega)))) (Term.int_eval _)
    obtain ⟨cell, q1, q2, q3⟩ := elem_at e hev (Term.int_eval _)
    have hc : cell = D := Option.some.inj (q1.symm.trans A.1)
    rw [hc, ix_nat (by omega)] at q3
    rw [getD_int]; exact q3
  refine ⟨a, D.cls, hev, D, A, rfl, by rw [hsz]; rfl, by decide, H, fun j hj => elem_fits (j := Int32.ofNat j) hf A ?_ (by rw [ix_nat (by omega)]; exact H j hj)⟩
  rw [ix_nat (by omega)]
  rintro (q | q)
  · exact ix_nn (by omega) q
  · omega

set_option maxRecDepth 65536 in
set_option maxHeartbeats 40000000 in
theorem comes_1 {Post : Tables → Env → Array Value → State → Outcome → State → Prop} (hpost : ∀ tb e args s v u, (limb_1_1.after args s (.returned v) u = true ∧ limb_1_2.after args s (.returned v) u = true ∧ True) → FramedW s (.returned v) u (Jvm.fieldLocs frame_1_writes args s ++ Jvm.arrayLocs frame_1_arrays args s ++ Jvm.staticLocs frame_1_statics s) 80 8640 → Post tb e args s (.returned v) u) :
    ArmFor flags0 classFile x code maxLocals ret World_1 tables_1 room_1 Calls_1 rest_1 Pre_1 Post := by
  intro l hfl _ _ p e ha hc hk s m args below hf hA hF happ hP
  obtain ⟨hcalls, hrest, hpre⟩ := hP
  obtain ⟨-, -, -, hnamed, -, -, -, hat⟩ := (Spec.applies_iff hf).mp happ
  obtain ⟨hg, hn⟩ := and_e (Cond.before_iff.mp (show (Jvm.Cond.and given_1 narrow_1).before args s = true from hpre))
  obtain ⟨hcount, g0⟩ := and_e hg
  obtain ⟨g0, g1⟩ := and_e g0
  obtain ⟨g1, g2⟩ := and_e g1
  obtain ⟨g2, g3⟩ := and_e g2
  obtain ⟨g3, g4⟩ := and_e g3
  obtain ⟨g4, g5⟩ := and_e g4
  obtain ⟨w0, w1, w2, w3, w4, w5, rfl⟩ : ∃ w0 w1 w2 w3 w4 w5 : Value, args = #[w0, w1, w2, w3, w4, w5] := by
    have hs : args.size = 6 := by simpa [Cond.value, given_1] using hcount
    obtain ⟨L⟩ := args
    match L, hs with
    | [w0, w1, w2, w3, w4, w5], _ => exact ⟨w0, w1, w2, w3, w4, w5, rfl⟩
  have hw := fun d (hd : d ∈ tables_1) => atoms_spec (ws := Jvm.Cond.code x code maxLocals ret :: tables_1) hat d (List.mem_cons_of_mem _ hd)
  obtain ⟨x0, e0⟩ := is_v g0
  obtain rfl : w0 = (.int x0) := Option.some.inj e0
  obtain ⟨x1, e1⟩ := is_v g1
  obtain rfl : w1 = (.int x1) := Option.some.inj e1
  obtain ⟨x2, e2⟩ := is_v g2
  obtain rfl : w2 = (.int x2) := Option.some.inj e2
  obtain ⟨x3, e3⟩ := is_v g3
  obtain rfl : w3 = (.int x3) := Option.some.inj e3
  obtain ⟨x4, e4⟩ := is_v g4
  obtain rfl : w4 = (.int x4) := Option.some.inj e4
  obtain ⟨x5, e5⟩ := is_v g5
  obtain rfl : w5 = (.int x5) := Option.some.inj e5
  have q0 := Cond.before_iff.mp (show rest_1_c.before _ s = true from hrest)
  obtain ⟨r0, q1⟩ := and_e q0
  obtain ⟨r1, q2⟩ := and_e q1
  obtain ⟨r2, q3⟩ := and_e q2
  obtain ⟨r3, q4⟩ := and_e q3
  obtain ⟨r4, q5⟩ := and_e q4
  obtain ⟨r5, q6⟩ := and_e q5
  obtain ⟨r6, q7⟩ := and_e q6
  obtain ⟨r7, q8⟩ := and_e q7
  obtain ⟨r8, q9⟩ := and_e q8
  obtain ⟨r9, q10⟩ := and_e q9
  obtain ⟨r10, q11⟩ := and_e q10
  obtain ⟨r11, q12⟩ := and_e q11
  obtain ⟨r12, q13⟩ := and_e q12
  obtain ⟨r13, q14⟩ := and_e q13
  obtain ⟨r14, q15⟩ := and_e q14
  obtain ⟨r15, q16⟩ := and_e q15
  obtain ⟨r16, q17⟩ := and_e q16
  obtain ⟨r17, q18⟩ := and_e q17
  obtain ⟨r18, q19⟩ := and_e q18
  obtain ⟨r19, q20⟩ := and_e q19
  obtain ⟨r20, q21⟩ := and_e q20
  obtain ⟨r21, q22⟩ := and_e q21
  obtain ⟨r22, q23⟩ := and_e q22
  obtain ⟨r23, q24⟩ := and_e q23
  obtain ⟨r24, q25⟩ := and_e q24
  obtain ⟨r25, q26⟩ := and_e q25
  obtain ⟨r26, q27⟩ := and_e q26
  obtain ⟨r27, q28⟩ := and_e q27
  obtain ⟨r28, q29⟩ := and_e q28
  obtain ⟨r29, q30⟩ := and_e q29
  obtain ⟨r30, q31⟩ := and_e q30
  obtain ⟨r31, q32⟩ := and_e q31
  obtain ⟨r32, q33⟩ := and_e q32
  obtain ⟨r33, q34⟩ := and_e q33
  obtain ⟨r34, q35⟩ := and_e q34
  obtain ⟨r35, q36⟩ := and_e q35
  obtain ⟨r36, q37⟩ := and_e q36
  obtain ⟨r37, q38⟩ := and_e q37
  obtain ⟨r38, q39⟩ := and_e q38
  obtain ⟨r39, q40⟩ := and_e q39
  obtain ⟨r40, q41⟩ := and_e q40
  obtain ⟨r41, q42⟩ := and_e q41
  obtain ⟨r42, q43⟩ := and_e q42
  obtain ⟨r43, q44⟩ := and_e q43
  obtain ⟨r44, q45⟩ := and_e q44
  obtain ⟨r45, q46⟩ := and_e q45
  obtain ⟨r46, q47⟩ := and_e q46
  obtain ⟨r47, q48⟩ := and_e q47
  obtain ⟨r48, q49⟩ := and_e q48
  obtain ⟨r49, q50⟩ := and_e q49
  obtain ⟨r50, q51⟩ := and_e q50
  obtain ⟨r51, q52⟩ := and_e q51
  obtain ⟨r52, q53⟩ := and_e q52
  obtain ⟨r53, q54⟩ := and_e q53
  obtain ⟨r54, q55⟩ := and_e q54
  obtain ⟨r55, q56⟩ := and_e q55
  obtain ⟨r56, q57⟩ := and_e q56
  obtain ⟨r57, q58⟩ := and_e q57
  obtain ⟨r58, q59⟩ := and_e q58
  obtain ⟨r59, q60⟩ := and_e q59
  obtain ⟨r60, q61⟩ := and_e q60
  obtain ⟨r61, q62⟩ := and_e q61
  obtain ⟨r62, q63⟩ := and_e q62
  obtain ⟨r63, q64⟩ := and_e q63
  obtain ⟨r64, q65⟩ := and_e q64
  obtain ⟨r65, q66⟩ := and_e q65
  obtain ⟨r66, q67⟩ := and_e q66
  obtain ⟨r67, q68⟩ := and_e q67
  obtain ⟨r68, q69⟩ := and_e q68
  obtain ⟨r69, q70⟩ := and_e q69
  obtain ⟨r70, q71⟩ := and_e q70
  obtain ⟨r71, q72⟩ := and_e q71
  obtain ⟨r72, q73⟩ := and_e q72
  obtain ⟨r73, q74⟩ := and_e q73
  obtain ⟨r74, q75⟩ := and_e q74
  obtain ⟨r75, q76⟩ := and_e q75
  obtain ⟨r76, q77⟩ := and_e q76
  obtain ⟨r77, q78⟩ := and_e q77
  obtain ⟨r78, q79⟩ := and_e q78
  obtain ⟨r79, q80⟩ := and_e q79
  obtain ⟨r80, q81⟩ := and_e q80
  obtain ⟨r81, q82⟩ := and_e q81
  obtain ⟨r82, q83⟩ := and_e q82
  obtain ⟨r83, q84⟩ := and_e q83
  obtain ⟨r84, q85⟩ := and_e q84
  obtain ⟨cs, ecs⟩ := is_v r8
  have SC : Sta s s.heap "java/lang/String" "COMPACT_STRINGS" "Z" (.int cs) := Sta.start ecs (Or.inl (Cond.before_iff.mpr r7))
  have hcs : ¬ cs = (0 : Int32) := gotF (Cond.eq_ints ecs (Term.int_eval (0))) (not_v r9)
  have hEW : EW s _ EL := (EW.cons (hw _ (List.mem_of_getElem? (i := 48) rfl)) (by decide +kernel) (EW.cons (hw _ (List.mem_of_getElem? (i := 173) rfl)) (by decide +kernel) (EW.cons (hw _ (List.mem_of_getElem? (i := 193) rfl)) (by decide +kernel) (EW.cons (hw _ (List.mem_of_getElem? (i := 194) rfl)) (by decide +kernel) (EW.cons (hw _ (List.mem_of_getElem? (i := 195) rfl)) (by decide +kernel) (EW.cons (hw _ (List.mem_of_getElem? (i := 196) rfl)) (by decide +kernel) (EW.cons (hw _ (List.mem_of_getElem? (i := 197) rfl)) (by decide +kernel) EW.nil)))))))
  have hCH : CHv s EL s.vm s.heap := CHv.start hEW (fun p hp => hcalls.1 p hp) (Cond.before_iff.mpr r9) (hw _ (List.mem_of_getElem? (i := 0) rfl)) (hw _ (List.mem_of_getElem? (i := 49) rfl))
  obtain ⟨sio, esio, hsio⟩ := isR_v r15
  have SIO : Sta s s.heap "jdk/internal/util/Preconditions" "SIOOBE_FORMATTER" "Ljava/util/function/BiFunction;" sio := Sta.start esio (Or.inl (Cond.before_iff.mpr r14))
  have hfit : Fit s := fun {y c} hc i hi => by
    obtain ⟨ha, rfl⟩ := Array.getElem?_eq_some_iff.mp hc
    have q := List.all_eq_true.mp ((Array.all_eq_true_iff_forall_mem.mp hF) _ (Array.getElem_mem ha)) i (List.mem_range.mpr hi)
    simpa [Array.getElem?_eq_getElem hi] using q
  obtain ⟨en, een⟩ := exa_v r2
  have SEN : Sta s s.heap "java/util/Base64$Encoder" "RFC4648" "Ljava/util/Base64$Encoder;" (.ref en) := Sta.start een (Or.inl (Cond.before_iff.mpr r1))
  have ENC : Enc s s.heap en := ⟨Exa.start een r2, own_fld een r3, own_fld een r5, own_fld een r6⟩
  obtain ⟨tb, ckt, etb, TB⟩ := own_tb hfit r18 r20 (allC r21 (allC r22 (allC r23 (allC r24 (allC r25 (allC r26 (allC r27 (allC r28 (allC r29 (allC r30 (allC r31 (allC r32 (allC r33 (allC r34 (allC r35 (allC r36 (allC r37 (allC r38 (allC r39 (allC r40 (allC r41 (allC r42 (allC r43 (allC r44 (allC r45 (allC r46 (allC r47 (allC r48 (allC r49 (allC r50 (allC r51 (allC r52 (allC r53 (allC r54 (allC r55 (allC r56 (allC r57 (allC r58 (allC r59 (allC r60 (allC r61 (allC r62 (allC r63 (allC r64 (allC r65 (allC r66 (allC r67 (allC r68 (allC r69 (allC r70 (allC r71 (allC r72 (allC r73 (allC r74 (allC r75 (allC r76 (allC r77 (allC r78 (allC r79 (allC r80 (allC r81 (allC r82 (allC r83 (allC r84 allC0))))))))))))))))))))))))))))))))))))))))))))))))))))))))))))))))
  have STB : Sta s s.heap "java/util/Base64$Encoder" "toBase64" "[C" (.ref tb) := Sta.start etb (Or.inl (Cond.before_iff.mpr r17))
  obtain ⟨n, o, h1, h2, h3, _, L, rfl, ⟨N, -, rfl⟩, -, hq⟩ := mtw_of_kw (a0 := _) (ws := tables_1) (P := (EL, fun _ => False)) pf_law hEW (fun m => by first | (simp [entryFrame, mkF, argsToLocals, Value.category, maxLocals]; done) | rfl) (kw_law l s _ hw cs hcs SC hEW sio SIO hsio en ENC tb ckt STB TB SEN x0 x1 x2 x3 x4 x5 s.heap s.heap.size (Old.start s)) p e ha hc hk s m _ below hf ((Spec.applies_iff_loose hf).mp happ).1 ⟨rfl, State.Warmed39.refl s, rfl, hCH, fun _ hx => hx.elim⟩ trivial
  refine ⟨n, _, h1, h2, h3, hpost _ _ _ _ _ _ ⟨Cond.after_iff.mpr rfl, Cond.after_iff.mpr (eq_i res_at (Term.int_eval (1)) rfl), trivial⟩ ⟨hq.1, hq.2.1, hq.2.2.1, (hq.2.2.2.sift fun y hy => Or.inr (N y hy)).mono (by decide) (by decide)⟩⟩
theorem main_1_1 : Claimed_1_1 := comes_1 fun _ _ _ _ _ _ h hF => ⟨h.1, hF⟩
theorem main_1_2 : Claimed_1_2 := comes_1 fun _ _ _ _ _ _ h hF => ⟨h.2.1, hF⟩
end Jvm.Pilot.@@N@@
namespace Jvm.Pilot.@@N@@
open Jvm Jvm.ClassFile Sem Op Lib Jvm.Free Jvm.Stand Jvm.Pilot.@@N@@.Jvm.D
/-! MADE BY PROGRAM (witnessworld.py) out of the Statement's table words and the real class files: 28 classes; the members and pool entries that the words name. The judged class is class 1, her method 2. -/
namespace start1
open Jvm.ClassFile
def u (s : String) : CpInfo := .utf8 (stringToUtf16 s)
/-- a pool by its gaps: so many unusable entries, then the entry; so many at the end -/
def gap : Nat → List CpInfo → List CpInfo
  | 0, r => r
  | n + 1, r => .unusable :: gap n r
def poolList (es : List (Nat × CpInfo)) (last : Nat) : List CpInfo := es.foldr (fun e r => gap e.1 (e.2 :: r)) (gap last [])
def pool (es : List (Nat × CpInfo)) (last : Nat) : Array CpInfo := ⟨poolList es last⟩
def fileOf (pool : Array CpInfo) (this : Nat) (attrs : Array Attribute := #[]) (ms : Array MethodInfo := #[]) (fl : Nat := 33) (sup : Nat := 0) (ifs : Array Nat := #[]) (fds : Array FieldInfo := #[]) : ClassFile where
  minorVersion := 0
  majorVersion := 65
  constantPool := pool
  accessFlags := fl
  thisClass := this
  superClass := sup
  interfaces := ifs
  fields := fds
  methods := ms
  attributes := attrs
def plain (name : String) (sup : Option ClassId) : Class where
  name := name
  kind := .ordinary
  loader := none
  accessFlags := 33
  super := sup
  interfaces := #[]
  cf := none
  fields := #[]
  methods := #[]
  instanceTypes := #[]
  staticTypes := #[]
  resolved := #[]
  callSites := []
  init := .initialized
  statics := none
  mirror := none

def pool0 : Array CpInfo := pool [(5, u "<init>"), (0, u "()V"), (1, .class_ 10), (1, u "java/lang/Object"), (85, u "clone"), (0, u "()Ljava/lang/Object;")] 26

def k0c0 : Code := { maxStack := 0, maxLocals := 1, code := object_method_1_code, exceptionTable := #[], attributes := #[] }
def k0m0 : Method := { name := "<init>", desc := "()V", sig := { parameters := [], returnType := none }, accessFlags := 1, code := some k0c0 }
def k0m1 : Method := { name := "clone", desc := "()Ljava/lang/Object;", sig := { parameters := [], returnType := some (.object "java/lang/Object") }, accessFlags := 260, code := none }
/-- java/lang/Object -/
def k0 : Class := { plain "java/lang/Object" none with
  accessFlags := 33
  interfaces := #[]
  cf := some (fileOf pool0 8 #[] #[{ accessFlags := 1, nameIndex := 5, descriptorIndex := 6, attributes := #[] }, { accessFlags := 260, nameIndex := 96, descriptorIndex := 97, attributes := #[] }] 33 0 #[] #[])
  fields := #[]
  methods := #[k0m0, k0m1]
  instanceTypes := #[]
  staticTypes := #[]
  resolved := Array.replicate 124 none
  statics := none }

def pool1 : Array CpInfo := pool [(2, .class_ 4), (1, u "java/lang/Object"), (0, u "<init>"), (0, u "()V"), (0, .class_ 8), (0, u "com/example/custody/custody/container/ComputingInformation"), (0, .methodref 7 10), (0, .nameAndType 5 11), (0, u "([B[B[B[B)V"), (0, .methodref 7 13), (0, .nameAndType 14 15), (0, u "text"), (0, u "()Ljava/lang/String;"), (0, .methodref 17 18), (0, .class_ 19), (0, .nameAndType 20 21), (0, u "com/example/custody/custody/container/ComputingInformationTextPinLaw"), (0, u "b64"), (0, u "(I)C"), (0, .class_ 23), (0, u "java/lang/String"), (0, .methodref 22 25), (0, .nameAndType 5 26), (0, u "([C)V"), (0, .methodref 22 28), (0, .nameAndType 29 30), (0, u "equals"), (0, u "(Ljava/lang/Object;)Z"), (3, u "law"), (0, u "(IIIIII)Z")] 2

def k1m0 : Method := { name := "<init>", desc := "()V", sig := { parameters := [], returnType := none }, accessFlags := 1, code := none }
def k1c1 : Code := { maxStack := 3, maxLocals := 1, code := method_2_code, exceptionTable := #[], attributes := #[] }
def k1m1 : Method := { name := "b64", desc := "(I)C", sig := { parameters := [.int], returnType := some .char }, accessFlags := 10, code := some k1c1 }
def k1c2 : Code := { maxStack := 6, maxLocals := 18, code := code, exceptionTable := #[], attributes := #[] }
def k1m2 : Method := { name := "law", desc := "(IIIIII)Z", sig := { parameters := [.int, .int, .int, .int, .int, .int], returnType := some .boolean }, accessFlags := 9, code := some k1c2 }
/-- com/example/custody/custody/container/ComputingInformationTextPinLaw -/
def k1 : Class := { plain "com/example/custody/custody/container/ComputingInformationTextPinLaw" (some 0) with
  accessFlags := 49
  interfaces := #[]
  cf := some (fileOf pool1 17 #[] #[{ accessFlags := 1, nameIndex := 5, descriptorIndex := 6, attributes := #[] }, { accessFlags := 10, nameIndex := 20, descriptorIndex := 21, attributes := #[] }, { accessFlags := 9, nameIndex := 34, descriptorIndex := 35, attributes := #[] }] 49 2 #[] #[])
  fields := #[]
  methods := #[k1m0, k1m1, k1m2]
  instanceTypes := #[]
  staticTypes := #[]
  resolved := Array.replicate 38 none
  statics := none }

def pool2 : Array CpInfo := pool [(1, .methodref 2 3), (0, .class_ 4), (0, .nameAndType 5 6), (0, u "java/lang/Object"), (0, u "<init>"), (0, u "()V"), (0, .fieldref 8 9), (0, .class_ 10), (0, .nameAndType 11 12), (0, u "com/example/custody/custody/container/ComputingInformation"), (0, u "currentHash"), (0, u "[B"), (0, .fieldref 8 14), (0, .nameAndType 15 12), (0, u "previousToken"), (0, .fieldref 8 17), (0, .nameAndType 18 12), (0, u "minusOneMonthToken"), (0, .fieldref 8 20), (0, .nameAndType 21 12), (0, u "minusOneYearToken"), (0, .methodref 23 24), (0, .class_ 25), (0, .nameAndType 26 27), (0, u "java/util/Base64"), (0, u "getEncoder"), (0, u "()Ljava/util/Base64$Encoder;"), (0, .class_ 29), (0, u "java/lang/StringBuilder"), (0, .methodref 28 3), (0, .string 32), (0, u "currentHash="), (0, .methodref 28 34), (0, .nameAndType 35 36), (0, u "append"), (0, u "(Ljava/lang/String;)Ljava/lang/StringBuilder;"), (0, .methodref 38 39), (0, .class_ 40), (0, .nameAndType 41 42), (0, u "java/util/Base64$Encoder"), (0, u "encodeToString"), (0, u "([B)Ljava/lang/String;"), (0, .string 44), (0, u "\n"), (0, .string 46), (0, u "previousTimestampToken"), (0, .string 48), (0, u "="), (0, .string 50), (0, u "previousTimestampTokenMinusOneMonth"), (0, .string 52), (0, u "previousTimestampTokenMinusOneYear"), (0, .methodref 28 54), (0, .nameAndType 55 56), (0, u "toString"), (0, u "()Ljava/lang/String;"), (0, u "CURRENT_HASH"), (0, u "Ljava/lang/String;"), (2, u "PREVIOUS_TOKEN"), (0, u "MINUS_ONE_MONTH_TOKEN"), (0, u "MINUS_ONE_YEAR_TOKEN"), (0, u "([B[B[B[B)V"), (2, u "text")] 4

def k2c0 : Code := { maxStack := 2, maxLocals := 5, code := prog_11_method_1_code, exceptionTable := #[], attributes := #[] }
def k2m0 : Method := { name := "<init>", desc := "([B[B[B[B)V", sig := { parameters := [(.array .byte), (.array .byte), (.array .byte), (.array .byte)], returnType := none }, accessFlags := 1, code := some k2c0 }
def k2c1 : Code := { maxStack := 3, maxLocals := 2, code := prog_11_method_2_code, exceptionTable := #[], attributes := #[] }
def k2m1 : Method := { name := "text", desc := "()Ljava/lang/String;", sig := { parameters := [], returnType := some (.object "java/lang/String") }, accessFlags := 1, code := some k2c1 }
/-- com/example/custody/custody/container/ComputingInformation -/
def k2 : Class := { plain "com/example/custody/custody/container/ComputingInformation" (some 0) with
  accessFlags := 33
  interfaces := #[]
  cf := some (fileOf pool2 8 #[] #[{ accessFlags := 1, nameIndex := 5, descriptorIndex := 64, attributes := #[] }, { accessFlags := 1, nameIndex := 67, descriptorIndex := 56, attributes := #[] }] 33 2 #[] #[{ accessFlags := 25, nameIndex := 57, descriptorIndex := 58, attributes := #[] }, { accessFlags := 25, nameIndex := 61, descriptorIndex := 58, attributes := #[] }, { accessFlags := 26, nameIndex := 62, descriptorIndex := 58, attributes := #[] }, { accessFlags := 26, nameIndex := 63, descriptorIndex := 58, attributes := #[] }, { accessFlags := 18, nameIndex := 11, descriptorIndex := 12, attributes := #[] }, { accessFlags := 18, nameIndex := 15, descriptorIndex := 12, attributes := #[] }, { accessFlags := 18, nameIndex := 18, descriptorIndex := 12, attributes := #[] }, { accessFlags := 18, nameIndex := 21, descriptorIndex := 12, attributes := #[] }])
  fields := #[{ name := "CURRENT_HASH", type := (.object "java/lang/String"), accessFlags := 25, slot := 0, constantValue := 0 }, { name := "PREVIOUS_TOKEN", type := (.object "java/lang/String"), accessFlags := 25, slot := 1, constantValue := 0 }, { name := "MINUS_ONE_MONTH_TOKEN", type := (.object "java/lang/String"), accessFlags := 26, slot := 2, constantValue := 0 }, { name := "MINUS_ONE_YEAR_TOKEN", type := (.object "java/lang/String"), accessFlags := 26, slot := 3, constantValue := 0 }, { name := "currentHash", type := (.array .byte), accessFlags := 18, slot := 0, constantValue := 0 }, { name := "previousToken", type := (.array .byte), accessFlags := 18, slot := 1, constantValue := 0 }, { name := "minusOneMonthToken", type := (.array .byte), accessFlags := 18, slot := 2, constantValue := 0 }, { name := "minusOneYearToken", type := (.array .byte), accessFlags := 18, slot := 3, constantValue := 0 }]
  methods := #[k2m0, k2m1]
  instanceTypes := #[(.array .byte), (.array .byte), (.array .byte), (.array .byte)]
  staticTypes := #[(.object "java/lang/String"), (.object "java/lang/String"), (.object "java/lang/String"), (.object "java/lang/String")]
  resolved := Array.replicate 72 none
  statics := none }

def pool3 : Array CpInfo := pool [(2, .class_ 4), (1, u "java/lang/Object"), (0, u "<init>"), (0, u "()V"), (0, .fieldref 8 9), (0, .class_ 10), (0, .nameAndType 11 12), (0, u "java/util/Base64$Encoder"), (0, u "RFC4648"), (0, u "Ljava/util/Base64$Encoder;"), (13, .class_ 28), (1, u "java/util/Base64$Decoder"), (35, .class_ 65), (0, u "java/util/Base64"), (5, u "getEncoder"), (0, u "()Ljava/util/Base64$Encoder;"), (20, .class_ 94), (0, u "java/util/Base64$DecInputStream"), (0, .class_ 96), (0, u "java/util/Base64$EncOutputStream")] 5

def k3m0 : Method := { name := "<init>", desc := "()V", sig := { parameters := [], returnType := none }, accessFlags := 2, code := none }
def k3c1 : Code := { maxStack := 1, maxLocals := 0, code := jdk_2448_method_2_code, exceptionTable := #[], attributes := #[] }
def k3m1 : Method := { name := "getEncoder", desc := "()Ljava/util/Base64$Encoder;", sig := { parameters := [], returnType := some (.object "java/util/Base64$Encoder") }, accessFlags := 9, code := some k3c1 }
/-- java/util/Base64 -/
def k3 : Class := { plain "java/util/Base64" (some 0) with
  accessFlags := 33
  interfaces := #[]
  cf := some (fileOf pool3 64 #[.nestMembers #[93, 95, 26, 8]] #[{ accessFlags := 2, nameIndex := 5, descriptorIndex := 6, attributes := #[] }, { accessFlags := 9, nameIndex := 71, descriptorIndex := 72, attributes := #[] }] 33 2 #[] #[])
  fields := #[]
  methods := #[k3m0, k3m1]
  instanceTypes := #[]
  staticTypes := #[]
  resolved := Array.replicate 102 none
  statics := none }

def pool4 : Array CpInfo := pool [(2, .class_ 4), (1, u "java/lang/Object"), (0, u "<init>"), (1, .fieldref 8 9), (0, .class_ 10), (0, .nameAndType 11 12), (0, u "java/util/Base64$Encoder"), (0, u "isURL"), (0, u "Z"), (2, u "newline"), (0, u "[B"), (0, .fieldref 8 18), (0, .nameAndType 19 20), (0, u "linemax"), (0, u "I"), (0, .fieldref 8 22), (0, .nameAndType 23 12), (0, u "doPadding"), (0, .methodref 25 26), (0, .class_ 27), (0, .nameAndType 28 29), (0, u "java/lang/Math"), (0, u "addExact"), (0, u "(II)I"), (0, .methodref 25 31), (0, .nameAndType 32 29), (0, u "multiplyExact"), (9, .methodref 8 43), (0, .nameAndType 44 45), (0, u "encodedOutLength"), (0, u "(IZ)I"), (0, .methodref 8 47), (0, .nameAndType 48 49), (0, u "encode0"), (0, u "([BII[B)I"), (11, .methodref 8 62), (0, .nameAndType 63 64), (0, u "encode"), (0, u "([B)[B"), (0, .class_ 66), (0, u "java/lang/String"), (0, .methodref 65 68), (0, .nameAndType 5 69), (0, u "([BIII)V"), (43, u "toBase64URL"), (0, u "[C"), (0, .fieldref 8 116), (0, .nameAndType 117 114), (0, u "toBase64"), (6, .methodref 25 125), (0, .nameAndType 126 29), (0, u "min"), (0, .methodref 8 128), (0, .nameAndType 129 130), (0, u "encodeBlock"), (0, u "([BII[BIZ)V"), (2, u "CRLF"), (2, u "RFC4648"), (0, u "Ljava/util/Base64$Encoder;"), (2, u "RFC4648_URLSAFE"), (2, u "RFC2045"), (0, u "MIMELINEMAX"), (18, u "encodeToString"), (0, u "([B)Ljava/lang/String;"), (34, .class_ 200), (0, u "java/util/Base64")] 3

def k4c0 : Code := { maxStack := 3, maxLocals := 5, code := jdk_2452_method_2_code, exceptionTable := #[{ startPc := 2, endPc := 79, handlerPc := 82, catchType := 33 }], attributes := #[] }
def k4m0 : Method := { name := "encodedOutLength", desc := "(IZ)I", sig := { parameters := [.int, .boolean], returnType := some .int }, accessFlags := 18, code := some k4c0 }
def k4c1 : Code := { maxStack := 5, maxLocals := 5, code := jdk_2452_method_3_code, exceptionTable := #[], attributes := #[] }
def k4m1 : Method := { name := "encode", desc := "([B)[B", sig := { parameters := [(.array .byte)], returnType := some (.array .byte) }, accessFlags := 1, code := some k4c1 }
def k4c2 : Code := { maxStack := 6, maxLocals := 3, code := jdk_2452_method_5_code, exceptionTable := #[], attributes := #[] }
def k4m2 : Method := { name := "encodeToString", desc := "([B)Ljava/lang/String;", sig := { parameters := [(.array .byte)], returnType := some (.object "java/lang/String") }, accessFlags := 1, code := some k4c2 }
def k4c3 : Code := { maxStack := 5, maxLocals := 11, code := jdk_2452_method_9_code, exceptionTable := #[], attributes := #[] }
def k4m3 : Method := { name := "encodeBlock", desc := "([BII[BIZ)V", sig := { parameters := [(.array .byte), .int, .int, (.array .byte), .int, .boolean], returnType := none }, accessFlags := 2, code := some k4c3 }
def k4c4 : Code := { maxStack := 7, maxLocals := 16, code := jdk_2452_method_10_code, exceptionTable := #[], attributes := #[] }
def k4m4 : Method := { name := "encode0", desc := "([BII[B)I", sig := { parameters := [(.array .byte), .int, .int, (.array .byte)], returnType := some .int }, accessFlags := 2, code := some k4c4 }
/-- java/util/Base64$Encoder -/
def k4 : Class := { plain "java/util/Base64$Encoder" (some 0) with
  accessFlags := 33
  interfaces := #[]
  cf := some (fileOf pool4 8 #[.nestHost 199] #[{ accessFlags := 18, nameIndex := 44, descriptorIndex := 45, attributes := #[] }, { accessFlags := 1, nameIndex := 63, descriptorIndex := 64, attributes := #[] }, { accessFlags := 1, nameIndex := 163, descriptorIndex := 164, attributes := #[] }, { accessFlags := 2, nameIndex := 129, descriptorIndex := 130, attributes := #[] }, { accessFlags := 2, nameIndex := 48, descriptorIndex := 49, attributes := #[] }] 33 2 #[] #[{ accessFlags := 18, nameIndex := 15, descriptorIndex := 16, attributes := #[] }, { accessFlags := 18, nameIndex := 19, descriptorIndex := 20, attributes := #[] }, { accessFlags := 18, nameIndex := 11, descriptorIndex := 12, attributes := #[] }, { accessFlags := 18, nameIndex := 23, descriptorIndex := 12, attributes := #[] }, { accessFlags := 26, nameIndex := 117, descriptorIndex := 114, attributes := #[] }, { accessFlags := 26, nameIndex := 113, descriptorIndex := 114, attributes := #[] }, { accessFlags := 26, nameIndex := 144, descriptorIndex := 20, attributes := #[] }, { accessFlags := 26, nameIndex := 133, descriptorIndex := 16, attributes := #[] }, { accessFlags := 24, nameIndex := 136, descriptorIndex := 137, attributes := #[] }, { accessFlags := 24, nameIndex := 140, descriptorIndex := 137, attributes := #[] }, { accessFlags := 24, nameIndex := 143, descriptorIndex := 137, attributes := #[] }])
  fields := #[{ name := "newline", type := (.array .byte), accessFlags := 18, slot := 0, constantValue := 0 }, { name := "linemax", type := .int, accessFlags := 18, slot := 1, constantValue := 0 }, { name := "isURL", type := .boolean, accessFlags := 18, slot := 2, constantValue := 0 }, { name := "doPadding", type := .boolean, accessFlags := 18, slot := 3, constantValue := 0 }, { name := "toBase64", type := (.array .char), accessFlags := 26, slot := 0, constantValue := 0 }, { name := "toBase64URL", type := (.array .char), accessFlags := 26, slot := 1, constantValue := 0 }, { name := "MIMELINEMAX", type := .int, accessFlags := 26, slot := 2, constantValue := 0 }, { name := "CRLF", type := (.array .byte), accessFlags := 26, slot := 3, constantValue := 0 }, { name := "RFC4648", type := (.object "java/util/Base64$Encoder"), accessFlags := 24, slot := 4, constantValue := 0 }, { name := "RFC4648_URLSAFE", type := (.object "java/util/Base64$Encoder"), accessFlags := 24, slot := 5, constantValue := 0 }, { name := "RFC2045", type := (.object "java/util/Base64$Encoder"), accessFlags := 24, slot := 6, constantValue := 0 }]
  methods := #[k4m0, k4m1, k4m2, k4m3, k4m4]
  instanceTypes := #[(.array .byte), .int, .boolean, .boolean]
  staticTypes := #[(.array .char), (.array .char), .int, (.array .byte), (.object "java/util/Base64$Encoder"), (.object "java/util/Base64$Encoder"), (.object "java/util/Base64$Encoder")]
  resolved := Array.replicate 204 none
  statics := some 0 }

def pool5 : Array CpInfo := pool [(1, .class_ 2), (0, u "java/lang/Appendable"), (0, .class_ 4), (0, u "java/lang/Object")] 9

/-- java/lang/Appendable -/
def k5 : Class := { plain "java/lang/Appendable" (some 0) with
  accessFlags := 1537
  interfaces := #[]
  cf := some (fileOf pool5 1 #[] #[] 1537 3 #[] #[])
  fields := #[]
  methods := #[]
  instanceTypes := #[]
  staticTypes := #[]
  resolved := Array.replicate 14 none
  statics := none }

def pool6 : Array CpInfo := pool [(2, .class_ 4), (1, u "java/lang/CharSequence"), (42, .class_ 48), (0, u "java/lang/CharSequence$1CodePointIterator"), (10, .class_ 60), (0, u "java/lang/CharSequence$1CharIterator"), (5, .class_ 67), (0, u "java/lang/Object")] 63

/-- java/lang/CharSequence -/
def k6 : Class := { plain "java/lang/CharSequence" (some 0) with
  accessFlags := 1537
  interfaces := #[]
  cf := some (fileOf pool6 2 #[.nestMembers #[47, 59]] #[] 1537 66 #[] #[])
  fields := #[]
  methods := #[]
  instanceTypes := #[]
  staticTypes := #[]
  resolved := Array.replicate 131 none
  statics := none }

def pool7 : Array CpInfo := pool [(1, .class_ 2), (0, u "java/lang/String"), (0, .methodref 4 5), (0, .class_ 6), (0, .nameAndType 7 8), (0, u "java/lang/Object"), (0, u "<init>"), (0, u "()V"), (1, .class_ 12), (1, u "java/lang/AbstractStringBuilder"), (0, u "EMPTYVALUE"), (0, u "[B"), (0, .fieldref 10 16), (0, .nameAndType 17 14), (0, u "value"), (0, .fieldref 1 19), (0, .nameAndType 20 21), (0, u "COMPACT_STRINGS"), (0, u "Z"), (0, .fieldref 10 23), (0, .nameAndType 24 25), (0, u "coder"), (0, u "B"), (6, .methodref 1 33), (0, .nameAndType 34 35), (0, u "length"), (0, u "()I"), (3, .integer 2147483647), (0, .methodref 1 41), (0, .nameAndType 24 42), (0, u "()B"), (2, u "append"), (0, u "(Ljava/lang/String;)Ljava/lang/AbstractStringBuilder;"), (1, .class_ 49), (0, u "java/lang/CharSequence"), (19, u "(Ljava/lang/String;)V"), (5, u "maybeLatin1"), (3, .fieldref 10 80), (0, .nameAndType 81 82), (0, u "count"), (0, u "I"), (2, u "isLatin1"), (0, u "()Z"), (13, .methodref 10 101), (0, .nameAndType 102 103), (0, u "ensureCapacityInternal"), (0, u "(I)V"), (0, .methodref 10 105), (0, .nameAndType 106 107), (0, u "newCapacity"), (0, u "(I)I"), (0, .methodref 109 110), (0, .class_ 111), (0, .nameAndType 112 113), (0, u "java/util/Arrays"), (0, u "copyOf"), (0, u "([BI)[B"), (0, .methodref 115 116), (0, .class_ 117), (0, .nameAndType 118 119), (0, u "jdk/internal/util/ArraysSupport"), (0, u "newLength"), (0, u "(III)I"), (88, .methodref 10 209), (0, .nameAndType 210 211), (0, u "putStringAt"), (0, u "(ILjava/lang/String;)V"), (5, u "inflateIfNeededFor"), (2, .nameAndType 221 222), (0, u "getBytes"), (0, u "([BIB)V"), (174, .methodref 10 398), (0, .nameAndType 217 69), (0, .methodref 1 220), (3, u "()[B"), (40, .class_ 445), (0, u "java/lang/Appendable"), (106, u "getValue")] 56

def k7m0 : Method := { name := "<init>", desc := "()V", sig := { parameters := [], returnType := none }, accessFlags := 0, code := none }
def k7c1 : Code := { maxStack := 2, maxLocals := 2, code := jdk_68_method_2_code, exceptionTable := #[], attributes := #[] }
def k7m1 : Method := { name := "<init>", desc := "(I)V", sig := { parameters := [.int], returnType := none }, accessFlags := 0, code := some k7c1 }
def k7c2 : Code := { maxStack := 1, maxLocals := 1, code := jdk_68_method_6_code, exceptionTable := #[], attributes := #[] }
def k7m2 : Method := { name := "length", desc := "()I", sig := { parameters := [], returnType := some .int }, accessFlags := 1, code := some k7c2 }
def k7c3 : Code := { maxStack := 4, maxLocals := 3, code := jdk_68_method_9_code, exceptionTable := #[], attributes := #[] }
def k7m3 : Method := { name := "ensureCapacityInternal", desc := "(I)V", sig := { parameters := [.int], returnType := none }, accessFlags := 2, code := some k7c3 }
def k7c4 : Code := { maxStack := 5, maxLocals := 6, code := jdk_68_method_10_code, exceptionTable := #[], attributes := #[] }
def k7m4 : Method := { name := "newCapacity", desc := "(I)I", sig := { parameters := [.int], returnType := some .int }, accessFlags := 2, code := some k7c4 }
def k7c5 : Code := { maxStack := 3, maxLocals := 3, code := jdk_68_method_22_code, exceptionTable := #[], attributes := #[] }
def k7m5 : Method := { name := "append", desc := "(Ljava/lang/String;)Ljava/lang/AbstractStringBuilder;", sig := { parameters := [(.object "java/lang/String")], returnType := some (.object "java/lang/AbstractStringBuilder") }, accessFlags := 1, code := some k7c5 }
def k7c6 : Code := { maxStack := 1, maxLocals := 1, code := jdk_68_method_64_code, exceptionTable := #[], attributes := #[] }
def k7m6 : Method := { name := "getValue", desc := "()[B", sig := { parameters := [], returnType := some (.array .byte) }, accessFlags := 16, code := some k7c6 }
def k7c7 : Code := { maxStack := 1, maxLocals := 1, code := jdk_68_method_68_code, exceptionTable := #[], attributes := #[] }
def k7m7 : Method := { name := "isLatin1", desc := "()Z", sig := { parameters := [], returnType := some .boolean }, accessFlags := 16, code := some k7c7 }
def k7c8 : Code := { maxStack := 2, maxLocals := 2, code := jdk_68_method_71_code, exceptionTable := #[], attributes := #[] }
def k7m8 : Method := { name := "inflateIfNeededFor", desc := "(Ljava/lang/String;)V", sig := { parameters := [(.object "java/lang/String")], returnType := none }, accessFlags := 2, code := some k7c8 }
def k7c9 : Code := { maxStack := 4, maxLocals := 3, code := jdk_68_method_73_code, exceptionTable := #[], attributes := #[] }
def k7m9 : Method := { name := "putStringAt", desc := "(ILjava/lang/String;)V", sig := { parameters := [.int, (.object "java/lang/String")], returnType := none }, accessFlags := 2, code := some k7c9 }
/-- java/lang/AbstractStringBuilder -/
def k7 : Class := { plain "java/lang/AbstractStringBuilder" (some 0) with
  accessFlags := 1056
  interfaces := #[5, 6]
  cf := some (fileOf pool7 10 #[] #[{ accessFlags := 0, nameIndex := 7, descriptorIndex := 8, attributes := #[] }, { accessFlags := 0, nameIndex := 7, descriptorIndex := 103, attributes := #[] }, { accessFlags := 1, nameIndex := 34, descriptorIndex := 35, attributes := #[] }, { accessFlags := 2, nameIndex := 102, descriptorIndex := 103, attributes := #[] }, { accessFlags := 2, nameIndex := 106, descriptorIndex := 107, attributes := #[] }, { accessFlags := 1, nameIndex := 45, descriptorIndex := 46, attributes := #[] }, { accessFlags := 16, nameIndex := 552, descriptorIndex := 403, attributes := #[] }, { accessFlags := 16, nameIndex := 85, descriptorIndex := 86, attributes := #[] }, { accessFlags := 2, nameIndex := 217, descriptorIndex := 69, attributes := #[] }, { accessFlags := 2, nameIndex := 210, descriptorIndex := 211, attributes := #[] }] 1056 4 #[444, 48] #[{ accessFlags := 0, nameIndex := 17, descriptorIndex := 14, attributes := #[] }, { accessFlags := 0, nameIndex := 24, descriptorIndex := 25, attributes := #[] }, { accessFlags := 0, nameIndex := 75, descriptorIndex := 21, attributes := #[] }, { accessFlags := 0, nameIndex := 81, descriptorIndex := 82, attributes := #[] }, { accessFlags := 26, nameIndex := 13, descriptorIndex := 14, attributes := #[] }])
  fields := #[{ name := "value", type := (.array .byte), accessFlags := 0, slot := 0, constantValue := 0 }, { name := "coder", type := .byte, accessFlags := 0, slot := 1, constantValue := 0 }, { name := "maybeLatin1", type := .boolean, accessFlags := 0, slot := 2, constantValue := 0 }, { name := "count", type := .int, accessFlags := 0, slot := 3, constantValue := 0 }, { name := "EMPTYVALUE", type := (.array .byte), accessFlags := 26, slot := 0, constantValue := 0 }]
  methods := #[k7m0, k7m1, k7m2, k7m3, k7m4, k7m5, k7m6, k7m7, k7m8, k7m9]
  instanceTypes := #[(.array .byte), .byte, .boolean, .int]
  staticTypes := #[(.array .byte)]
  resolved := Array.replicate 609 none
  statics := none }

def pool8 : Array CpInfo := pool [(1, .class_ 2), (0, u "java/io/Serializable"), (0, .class_ 4), (0, u "java/lang/Object")] 2

/-- java/io/Serializable -/
def k8 : Class := { plain "java/io/Serializable" (some 0) with
  accessFlags := 1537
  interfaces := #[]
  cf := some (fileOf pool8 1 #[] #[] 1537 3 #[] #[])
  fields := #[]
  methods := #[]
  instanceTypes := #[]
  staticTypes := #[]
  resolved := Array.replicate 7 none
  statics := none }

def pool9 : Array CpInfo := pool [(1, .class_ 2), (0, u "java/lang/Comparable"), (0, .class_ 4), (0, u "java/lang/Object")] 7

/-- java/lang/Comparable -/
def k9 : Class := { plain "java/lang/Comparable" (some 0) with
  accessFlags := 1537
  interfaces := #[]
  cf := some (fileOf pool9 1 #[] #[] 1537 3 #[] #[])
  fields := #[]
  methods := #[]
  instanceTypes := #[]
  staticTypes := #[]
  resolved := Array.replicate 12 none
  statics := none }

def pool10 : Array CpInfo := pool [(1, .methodref 2 3), (0, .class_ 4), (0, .nameAndType 5 6), (0, u "java/lang/AbstractStringBuilder"), (0, u "<init>"), (0, u "(I)V"), (11, .class_ 20), (1, u "java/lang/String"), (3, .class_ 26), (1, u "java/lang/StringBuilder"), (0, u "append"), (0, u "(Ljava/lang/String;)Ljava/lang/StringBuilder;"), (0, .methodref 2 30), (0, .nameAndType 27 31), (0, u "(Ljava/lang/String;)Ljava/lang/AbstractStringBuilder;"), (105, .methodref 18 138), (0, .nameAndType 5 139), (0, u "(Ljava/lang/StringBuilder;)V"), (5, u "()V"), (10, u "()I"), (186, .methodref 2 344), (0, .nameAndType 345 156), (0, u "length"), (3, .class_ 350), (0, u "java/lang/Appendable"), (0, .class_ 352), (0, u "java/io/Serializable"), (0, .class_ 354), (0, u "java/lang/Comparable"), (0, .class_ 356), (0, u "java/lang/CharSequence"), (0, u "serialVersionUID"), (0, u "J"), (40, u "toString"), (0, u "()Ljava/lang/String;")] 21

def k10c0 : Code := { maxStack := 2, maxLocals := 1, code := jdk_67_method_1_code, exceptionTable := #[], attributes := #[] }
def k10m0 : Method := { name := "<init>", desc := "()V", sig := { parameters := [], returnType := none }, accessFlags := 1, code := some k10c0 }
def k10c1 : Code := { maxStack := 2, maxLocals := 2, code := jdk_67_method_7_code, exceptionTable := #[], attributes := #[] }
def k10m1 : Method := { name := "append", desc := "(Ljava/lang/String;)Ljava/lang/StringBuilder;", sig := { parameters := [(.object "java/lang/String")], returnType := some (.object "java/lang/StringBuilder") }, accessFlags := 1, code := some k10c1 }
def k10c2 : Code := { maxStack := 3, maxLocals := 1, code := jdk_67_method_42_code, exceptionTable := #[], attributes := #[] }
def k10m2 : Method := { name := "toString", desc := "()Ljava/lang/String;", sig := { parameters := [], returnType := some (.object "java/lang/String") }, accessFlags := 1, code := some k10c2 }
def k10c3 : Code := { maxStack := 1, maxLocals := 1, code := jdk_67_method_93_code, exceptionTable := #[], attributes := #[] }
def k10m3 : Method := { name := "length", desc := "()I", sig := { parameters := [], returnType := some .int }, accessFlags := 4161, code := some k10c3 }
/-- java/lang/StringBuilder -/
def k10 : Class := { plain "java/lang/StringBuilder" (some 7) with
  accessFlags := 49
  interfaces := #[5, 8, 9, 6]
  cf := some (fileOf pool10 24 #[] #[{ accessFlags := 1, nameIndex := 5, descriptorIndex := 145, attributes := #[] }, { accessFlags := 1, nameIndex := 27, descriptorIndex := 28, attributes := #[] }, { accessFlags := 1, nameIndex := 399, descriptorIndex := 400, attributes := #[] }, { accessFlags := 4161, nameIndex := 345, descriptorIndex := 156, attributes := #[] }] 49 2 #[349, 351, 353, 355] #[{ accessFlags := 24, nameIndex := 357, descriptorIndex := 358, attributes := #[] }])
  fields := #[{ name := "serialVersionUID", type := .long, accessFlags := 24, slot := 0, constantValue := 0 }]
  methods := #[k10m0, k10m1, k10m2, k10m3]
  instanceTypes := #[(.array .byte), .byte, .boolean, .int]
  staticTypes := #[.long]
  resolved := Array.replicate 422 none
  statics := none }

def pool11 : Array CpInfo := pool [(1, .class_ 2), (0, u "java/lang/constant/Constable"), (0, .class_ 4), (0, u "java/lang/Object")] 6

/-- java/lang/constant/Constable -/
def k11 : Class := { plain "java/lang/constant/Constable" (some 0) with
  accessFlags := 1537
  interfaces := #[]
  cf := some (fileOf pool11 1 #[] #[] 1537 3 #[] #[])
  fields := #[]
  methods := #[]
  instanceTypes := #[]
  staticTypes := #[]
  resolved := Array.replicate 11 none
  statics := none }

def pool12 : Array CpInfo := pool [(1, .class_ 2), (0, u "java/lang/constant/ConstantDesc"), (0, .class_ 4), (0, u "java/lang/Object")] 32

/-- java/lang/constant/ConstantDesc -/
def k12 : Class := { plain "java/lang/constant/ConstantDesc" (some 0) with
  accessFlags := 1537
  interfaces := #[]
  cf := some (fileOf pool12 1 #[] #[] 1537 3 #[] #[])
  fields := #[]
  methods := #[]
  instanceTypes := #[]
  staticTypes := #[]
  resolved := Array.replicate 37 none
  statics := none }

def pool13 : Array CpInfo := pool [(1, .methodref 2 3), (0, .class_ 4), (0, .nameAndType 5 6), (0, u "java/lang/Object"), (0, u "<init>"), (0, u "()V"), (0, .string 8), (0, u ""), (0, .fieldref 10 11), (0, .class_ 12), (0, .nameAndType 13 14), (0, u "java/lang/String"), (0, u "value"), (0, u "[B"), (0, .fieldref 10 16), (0, .nameAndType 17 18), (0, u "coder"), (0, u "B"), (2, u "hash"), (0, u "I"), (2, u "hashIsZero"), (0, u "Z"), (0, .methodref 10 28), (0, .nameAndType 5 29), (0, u "([CIILjava/lang/Void;)V"), (4, .methodref 10 35), (0, .nameAndType 36 37), (0, u "checkBoundsOffCount"), (0, u "(III)I"), (0, .fieldref 10 39), (0, .nameAndType 40 26), (0, u "COMPACT_STRINGS"), (1, .class_ 44), (1, u "java/lang/StringUTF16"), (0, u "compress"), (1, .methodref 42 48), (0, .nameAndType 49 50), (0, u "coderFromArrayLen"), (0, u "([BI)B"), (3, .methodref 55 56), (0, .class_ 57), (0, .nameAndType 58 59), (0, u "java/util/Arrays"), (0, u "copyOfRange"), (0, u "([BII)[B"), (10, u "([BIII)V"), (36, .class_ 109), (1, u "java/lang/StringLatin1"), (32, u "()Z"), (34, .methodref 42 178), (0, .nameAndType 45 179), (0, u "([CII)[B"), (13, .class_ 195), (1, u "java/lang/System"), (16, .methodref 193 213), (0, .nameAndType 214 215), (0, u "arraycopy"), (0, u "(Ljava/lang/Object;ILjava/lang/Object;II)V"), (118, u "()I"), (0, .methodref 10 336), (0, .nameAndType 17 337), (0, u "()B"), (2, u "()[B"), (148, .methodref 10 490), (0, .nameAndType 5 491), (0, u "(Ljava/lang/AbstractStringBuilder;Ljava/lang/Void;)V"), (1, .nameAndType 494 142), (0, u "isLatin1"), (11, .nameAndType 507 334), (0, u "length"), (24, u "getBytes"), (8, .methodref 107 542), (0, .nameAndType 543 544), (0, u "equals"), (0, u "([B[B)Z"), (4, .methodref 550 506), (0, .class_ 551), (0, u "java/lang/AbstractStringBuilder"), (0, .methodref 550 553), (0, .nameAndType 554 340), (0, u "getValue"), (18, u "(Ljava/lang/Object;)Z"), (1, .class_ 576), (0, u "java/lang/CharSequence"), (22, u "CASE_INSENSITIVE_ORDER"), (0, u "Ljava/util/Comparator;"), (220, u "([BIB)V"), (188, u "([C)V"), (36, .methodref 550 493), (5, .fieldref 1054 1055), (0, .class_ 1056), (0, .nameAndType 1057 1058), (0, u "jdk/internal/util/Preconditions"), (0, u "SIOOBE_FORMATTER"), (0, u "Ljava/util/function/BiFunction;"), (5, u "(IIILjava/util/function/BiFunction;)I"), (0, .methodref 1054 1066), (0, .nameAndType 1067 1064), (0, u "checkFromIndexSize"), (33, u "serialPersistentFields"), (0, u "[Ljava/io/ObjectStreamField;"), (0, .class_ 1104), (0, u "java/lang/String$CaseInsensitiveComparator"), (1, .class_ 1107), (0, u "java/io/Serializable"), (0, .class_ 1109), (0, u "java/lang/Comparable"), (0, .class_ 1111), (0, u "java/lang/constant/Constable"), (0, .class_ 1113), (0, u "java/lang/constant/ConstantDesc"), (2, u "serialVersionUID"), (0, u "J"), (3, u "REPL"), (0, u "C"), (2, u "LATIN1"), (1, u "UTF16"), (105, u "(Ljava/lang/StringBuilder;)V")] 217

def k13m0 : Method := { name := "<init>", desc := "()V", sig := { parameters := [], returnType := none }, accessFlags := 1, code := none }
def k13c1 : Code := { maxStack := 5, maxLocals := 2, code := jdk_42_method_3_code, exceptionTable := #[], attributes := #[] }
def k13m1 : Method := { name := "<init>", desc := "([C)V", sig := { parameters := [(.array .char)], returnType := none }, accessFlags := 1, code := some k13c1 }
def k13c2 : Code := { maxStack := 5, maxLocals := 7, code := jdk_42_method_7_code, exceptionTable := #[], attributes := #[] }
def k13m2 : Method := { name := "<init>", desc := "([BIII)V", sig := { parameters := [(.array .byte), .int, .int, .int], returnType := none }, accessFlags := 1, code := some k13c2 }
def k13c3 : Code := { maxStack := 3, maxLocals := 2, code := jdk_42_method_53_code, exceptionTable := #[], attributes := #[] }
def k13m3 : Method := { name := "<init>", desc := "(Ljava/lang/StringBuilder;)V", sig := { parameters := [(.object "java/lang/StringBuilder")], returnType := none }, accessFlags := 1, code := some k13c3 }
def k13c4 : Code := { maxStack := 2, maxLocals := 1, code := jdk_42_method_54_code, exceptionTable := #[], attributes := #[] }
def k13m4 : Method := { name := "length", desc := "()I", sig := { parameters := [], returnType := some .int }, accessFlags := 1, code := some k13c4 }
def k13c5 : Code := { maxStack := 2, maxLocals := 3, code := jdk_42_method_66_code, exceptionTable := #[], attributes := #[] }
def k13m5 : Method := { name := "equals", desc := "(Ljava/lang/Object;)Z", sig := { parameters := [(.object "java/lang/Object")], returnType := some .boolean }, accessFlags := 1, code := some k13c5 }
def k13c6 : Code := { maxStack := 5, maxLocals := 4, code := jdk_42_method_147_code, exceptionTable := #[], attributes := #[] }
def k13m6 : Method := { name := "getBytes", desc := "([BIB)V", sig := { parameters := [(.array .byte), .int, .byte], returnType := none }, accessFlags := 0, code := some k13c6 }
def k13c7 : Code := { maxStack := 4, maxLocals := 6, code := jdk_42_method_149_code, exceptionTable := #[], attributes := #[] }
def k13m7 : Method := { name := "<init>", desc := "([CIILjava/lang/Void;)V", sig := { parameters := [(.array .char), .int, .int, (.object "java/lang/Void")], returnType := none }, accessFlags := 2, code := some k13c7 }
def k13c8 : Code := { maxStack := 5, maxLocals := 5, code := jdk_42_method_150_code, exceptionTable := #[], attributes := #[] }
def k13m8 : Method := { name := "<init>", desc := "(Ljava/lang/AbstractStringBuilder;Ljava/lang/Void;)V", sig := { parameters := [(.object "java/lang/AbstractStringBuilder"), (.object "java/lang/Void")], returnType := none }, accessFlags := 0, code := some k13c8 }
def k13c9 : Code := { maxStack := 1, maxLocals := 1, code := jdk_42_method_152_code, exceptionTable := #[], attributes := #[] }
def k13m9 : Method := { name := "coder", desc := "()B", sig := { parameters := [], returnType := some .byte }, accessFlags := 0, code := some k13c9 }
def k13c10 : Code := { maxStack := 4, maxLocals := 3, code := jdk_42_method_157_code, exceptionTable := #[], attributes := #[] }
def k13m10 : Method := { name := "checkBoundsOffCount", desc := "(III)I", sig := { parameters := [.int, .int, .int], returnType := some .int }, accessFlags := 8, code := some k13c10 }
/-- java/lang/String -/
def k13 : Class := { plain "java/lang/String" (some 0) with
  accessFlags := 49
  interfaces := #[8, 9, 6, 11, 12]
  cf := some (fileOf pool13 10 #[.nestMembers #[1103]] #[{ accessFlags := 1, nameIndex := 5, descriptorIndex := 6, attributes := #[] }, { accessFlags := 1, nameIndex := 5, descriptorIndex := 1010, attributes := #[] }, { accessFlags := 1, nameIndex := 5, descriptorIndex := 70, attributes := #[] }, { accessFlags := 1, nameIndex := 5, descriptorIndex := 1233, attributes := #[] }, { accessFlags := 1, nameIndex := 507, descriptorIndex := 334, attributes := #[] }, { accessFlags := 1, nameIndex := 543, descriptorIndex := 573, attributes := #[] }, { accessFlags := 0, nameIndex := 532, descriptorIndex := 821, attributes := #[] }, { accessFlags := 2, nameIndex := 5, descriptorIndex := 29, attributes := #[] }, { accessFlags := 0, nameIndex := 5, descriptorIndex := 491, attributes := #[] }, { accessFlags := 0, nameIndex := 17, descriptorIndex := 337, attributes := #[] }, { accessFlags := 8, nameIndex := 36, descriptorIndex := 37, attributes := #[] }] 49 2 #[1106, 1108, 575, 1110, 1112] #[{ accessFlags := 18, nameIndex := 13, descriptorIndex := 14, attributes := #[] }, { accessFlags := 18, nameIndex := 17, descriptorIndex := 18, attributes := #[] }, { accessFlags := 2, nameIndex := 21, descriptorIndex := 22, attributes := #[] }, { accessFlags := 2, nameIndex := 25, descriptorIndex := 26, attributes := #[] }, { accessFlags := 26, nameIndex := 1116, descriptorIndex := 1117, attributes := #[] }, { accessFlags := 24, nameIndex := 40, descriptorIndex := 26, attributes := #[] }, { accessFlags := 26, nameIndex := 1101, descriptorIndex := 1102, attributes := #[] }, { accessFlags := 26, nameIndex := 1121, descriptorIndex := 1122, attributes := #[] }, { accessFlags := 25, nameIndex := 599, descriptorIndex := 600, attributes := #[] }, { accessFlags := 24, nameIndex := 1125, descriptorIndex := 18, attributes := #[] }, { accessFlags := 24, nameIndex := 1127, descriptorIndex := 18, attributes := #[] }])
  fields := #[{ name := "value", type := (.array .byte), accessFlags := 18, slot := 0, constantValue := 0 }, { name := "coder", type := .byte, accessFlags := 18, slot := 1, constantValue := 0 }, { name := "hash", type := .int, accessFlags := 2, slot := 2, constantValue := 0 }, { name := "hashIsZero", type := .boolean, accessFlags := 2, slot := 3, constantValue := 0 }, { name := "serialVersionUID", type := .long, accessFlags := 26, slot := 0, constantValue := 0 }, { name := "COMPACT_STRINGS", type := .boolean, accessFlags := 24, slot := 1, constantValue := 0 }, { name := "serialPersistentFields", type := (.array (.object "java/io/ObjectStreamField")), accessFlags := 26, slot := 2, constantValue := 0 }, { name := "REPL", type := .char, accessFlags := 26, slot := 3, constantValue := 0 }, { name := "CASE_INSENSITIVE_ORDER", type := (.object "java/util/Comparator"), accessFlags := 25, slot := 4, constantValue := 0 }, { name := "LATIN1", type := .byte, accessFlags := 24, slot := 5, constantValue := 0 }, { name := "UTF16", type := .byte, accessFlags := 24, slot := 6, constantValue := 0 }]
  methods := #[k13m0, k13m1, k13m2, k13m3, k13m4, k13m5, k13m6, k13m7, k13m8, k13m9, k13m10]
  instanceTypes := #[(.array .byte), .byte, .int, .boolean]
  staticTypes := #[.long, .boolean, (.array (.object "java/io/ObjectStreamField")), .char, (.object "java/util/Comparator"), .byte, .byte]
  resolved := Array.replicate 1451 none
  statics := some 1 }

def pool14 : Array CpInfo := pool [(2, .class_ 4), (1, u "java/lang/Object"), (0, u "<init>"), (0, u "()V"), (1, .class_ 10), (1, u "java/lang/System"), (0, u "allowSecurityManager"), (0, u "I"), (16, u "cons"), (0, u "Ljava/io/Console;"), (77, .class_ 110), (1, u "java/lang/System$CallersHolder"), (43, u "initialErrStream"), (0, u "Ljava/io/PrintStream;"), (19, u "security"), (0, u "Ljava/lang/SecurityManager;"), (31, .class_ 209), (0, u "java/lang/System$1"), (7, u "props"), (0, u "Ljava/util/Properties;"), (2, u "lineSeparator"), (0, u "Ljava/lang/String;"), (96, .class_ 321), (1, u "java/lang/System$LoggerFinder"), (5, .class_ 328), (0, u "java/lang/System$Logger"), (67, u "err"), (2, u "out"), (91, u "notSupportedJnuEncoding"), (15, u "in"), (17, u "initialIn"), (0, u "Ljava/io/InputStream;"), (35, u "bootLayer"), (0, u "Ljava/lang/ModuleLayer;"), (99, .class_ 664), (0, u "java/lang/System$2"), (9, u "NEVER"), (2, u "MAYBE"), (49, u "arraycopy"), (0, u "(Ljava/lang/Object;ILjava/lang/Object;II)V"), (72, .class_ 802), (0, u "java/lang/System$Logger$Level")] 31

def k14m0 : Method := { name := "<init>", desc := "()V", sig := { parameters := [], returnType := none }, accessFlags := 2, code := none }
def k14m1 : Method := { name := "arraycopy", desc := "(Ljava/lang/Object;ILjava/lang/Object;II)V", sig := { parameters := [(.object "java/lang/Object"), .int, (.object "java/lang/Object"), .int, .int], returnType := none }, accessFlags := 265, code := none }
/-- java/lang/System -/
def k14 : Class := { plain "java/lang/System" (some 0) with
  accessFlags := 49
  interfaces := #[]
  cf := some (fileOf pool14 8 #[.nestMembers #[319, 327, 801, 108, 663, 208]] #[{ accessFlags := 2, nameIndex := 5, descriptorIndex := 6, attributes := #[] }, { accessFlags := 265, nameIndex := 727, descriptorIndex := 728, attributes := #[] }] 49 2 #[] #[{ accessFlags := 25, nameIndex := 507, descriptorIndex := 526, attributes := #[] }, { accessFlags := 25, nameIndex := 399, descriptorIndex := 155, attributes := #[] }, { accessFlags := 25, nameIndex := 396, descriptorIndex := 155, attributes := #[] }, { accessFlags := 10, nameIndex := 525, descriptorIndex := 526, attributes := #[] }, { accessFlags := 26, nameIndex := 674, descriptorIndex := 12, attributes := #[] }, { accessFlags := 26, nameIndex := 677, descriptorIndex := 12, attributes := #[] }, { accessFlags := 10, nameIndex := 11, descriptorIndex := 12, attributes := #[] }, { accessFlags := 74, nameIndex := 175, descriptorIndex := 176, attributes := #[] }, { accessFlags := 10, nameIndex := 491, descriptorIndex := 222, attributes := #[] }, { accessFlags := 74, nameIndex := 29, descriptorIndex := 30, attributes := #[] }, { accessFlags := 74, nameIndex := 154, descriptorIndex := 155, attributes := #[] }, { accessFlags := 10, nameIndex := 217, descriptorIndex := 218, attributes := #[] }, { accessFlags := 10, nameIndex := 221, descriptorIndex := 222, attributes := #[] }, { accessFlags := 8, nameIndex := 562, descriptorIndex := 563, attributes := #[] }])
  fields := #[{ name := "in", type := (.object "java/io/InputStream"), accessFlags := 25, slot := 0, constantValue := 0 }, { name := "out", type := (.object "java/io/PrintStream"), accessFlags := 25, slot := 1, constantValue := 0 }, { name := "err", type := (.object "java/io/PrintStream"), accessFlags := 25, slot := 2, constantValue := 0 }, { name := "initialIn", type := (.object "java/io/InputStream"), accessFlags := 10, slot := 3, constantValue := 0 }, { name := "NEVER", type := .int, accessFlags := 26, slot := 4, constantValue := 0 }, { name := "MAYBE", type := .int, accessFlags := 26, slot := 5, constantValue := 0 }, { name := "allowSecurityManager", type := .int, accessFlags := 10, slot := 6, constantValue := 0 }, { name := "security", type := (.object "java/lang/SecurityManager"), accessFlags := 74, slot := 7, constantValue := 0 }, { name := "notSupportedJnuEncoding", type := (.object "java/lang/String"), accessFlags := 10, slot := 8, constantValue := 0 }, { name := "cons", type := (.object "java/io/Console"), accessFlags := 74, slot := 9, constantValue := 0 }, { name := "initialErrStream", type := (.object "java/io/PrintStream"), accessFlags := 74, slot := 10, constantValue := 0 }, { name := "props", type := (.object "java/util/Properties"), accessFlags := 10, slot := 11, constantValue := 0 }, { name := "lineSeparator", type := (.object "java/lang/String"), accessFlags := 10, slot := 12, constantValue := 0 }, { name := "bootLayer", type := (.object "java/lang/ModuleLayer"), accessFlags := 8, slot := 13, constantValue := 0 }]
  methods := #[k14m0, k14m1]
  instanceTypes := #[]
  staticTypes := #[(.object "java/io/InputStream"), (.object "java/io/PrintStream"), (.object "java/io/PrintStream"), (.object "java/io/InputStream"), .int, .int, .int, (.object "java/lang/SecurityManager"), (.object "java/lang/String"), (.object "java/io/Console"), (.object "java/io/PrintStream"), (.object "java/util/Properties"), (.object "java/lang/String"), (.object "java/lang/ModuleLayer")]
  resolved := Array.replicate 834 none
  statics := none }

def pool15 : Array CpInfo := pool [(1, .class_ 2), (0, u "java/lang/Math"), (1, .class_ 6), (1, u "java/lang/Object"), (0, u "<init>"), (0, u "()V"), (89, .class_ 100), (1, u "java/lang/Math$RandomNumberGeneratorHolder"), (19, u "multiplyExact"), (51, u "negativeZeroFloatBits"), (0, u "J"), (2, u "negativeZeroDoubleBits"), (21, u "max"), (2, u "min"), (43, u "$assertionsDisabled"), (0, u "Z"), (88, u "(II)I"), (2, u "twoToTheDoubleScaleDown"), (0, u "D"), (4, u "twoToTheDoubleScaleUp"), (9, u "E"), (3, u "PI"), (2, u "TAU"), (2, u "DEGREES_TO_RADIANS"), (0, u "RADIANS_TO_DEGREES"), (27, u "addExact")] 66

def k15m0 : Method := { name := "<init>", desc := "()V", sig := { parameters := [], returnType := none }, accessFlags := 2, code := none }
def k15c1 : Code := { maxStack := 3, maxLocals := 3, code := jdk_29_method_24_code, exceptionTable := #[], attributes := #[] }
def k15m1 : Method := { name := "addExact", desc := "(II)I", sig := { parameters := [.int, .int], returnType := some .int }, accessFlags := 9, code := some k15c1 }
def k15c2 : Code := { maxStack := 4, maxLocals := 4, code := jdk_29_method_28_code, exceptionTable := #[], attributes := #[] }
def k15m2 : Method := { name := "multiplyExact", desc := "(II)I", sig := { parameters := [.int, .int], returnType := some .int }, accessFlags := 9, code := some k15c2 }
def k15c3 : Code := { maxStack := 2, maxLocals := 2, code := jdk_29_method_65_code, exceptionTable := #[], attributes := #[] }
def k15m3 : Method := { name := "max", desc := "(II)I", sig := { parameters := [.int, .int], returnType := some .int }, accessFlags := 9, code := some k15c3 }
def k15c4 : Code := { maxStack := 2, maxLocals := 2, code := jdk_29_method_69_code, exceptionTable := #[], attributes := #[] }
def k15m4 : Method := { name := "min", desc := "(II)I", sig := { parameters := [.int, .int], returnType := some .int }, accessFlags := 9, code := some k15c4 }
/-- java/lang/Math -/
def k15 : Class := { plain "java/lang/Math" (some 0) with
  accessFlags := 49
  interfaces := #[]
  cf := some (fileOf pool15 1 #[.nestMembers #[98]] #[{ accessFlags := 2, nameIndex := 7, descriptorIndex := 8, attributes := #[] }, { accessFlags := 9, nameIndex := 393, descriptorIndex := 335, attributes := #[] }, { accessFlags := 9, nameIndex := 120, descriptorIndex := 335, attributes := #[] }, { accessFlags := 9, nameIndex := 198, descriptorIndex := 335, attributes := #[] }, { accessFlags := 9, nameIndex := 201, descriptorIndex := 335, attributes := #[] }] 49 4 #[] #[{ accessFlags := 25, nameIndex := 354, descriptorIndex := 339, attributes := #[] }, { accessFlags := 25, nameIndex := 358, descriptorIndex := 339, attributes := #[] }, { accessFlags := 25, nameIndex := 361, descriptorIndex := 339, attributes := #[] }, { accessFlags := 26, nameIndex := 364, descriptorIndex := 339, attributes := #[] }, { accessFlags := 26, nameIndex := 365, descriptorIndex := 339, attributes := #[] }, { accessFlags := 26, nameIndex := 172, descriptorIndex := 173, attributes := #[] }, { accessFlags := 26, nameIndex := 176, descriptorIndex := 173, attributes := #[] }, { accessFlags := 8, nameIndex := 344, descriptorIndex := 339, attributes := #[] }, { accessFlags := 8, nameIndex := 338, descriptorIndex := 339, attributes := #[] }, { accessFlags := 4120, nameIndex := 245, descriptorIndex := 246, attributes := #[] }])
  fields := #[{ name := "E", type := .double, accessFlags := 25, slot := 0, constantValue := 0 }, { name := "PI", type := .double, accessFlags := 25, slot := 1, constantValue := 0 }, { name := "TAU", type := .double, accessFlags := 25, slot := 2, constantValue := 0 }, { name := "DEGREES_TO_RADIANS", type := .double, accessFlags := 26, slot := 3, constantValue := 0 }, { name := "RADIANS_TO_DEGREES", type := .double, accessFlags := 26, slot := 4, constantValue := 0 }, { name := "negativeZeroFloatBits", type := .long, accessFlags := 26, slot := 5, constantValue := 0 }, { name := "negativeZeroDoubleBits", type := .long, accessFlags := 26, slot := 6, constantValue := 0 }, { name := "twoToTheDoubleScaleUp", type := .double, accessFlags := 8, slot := 7, constantValue := 0 }, { name := "twoToTheDoubleScaleDown", type := .double, accessFlags := 8, slot := 8, constantValue := 0 }, { name := "$assertionsDisabled", type := .boolean, accessFlags := 4120, slot := 9, constantValue := 0 }]
  methods := #[k15m0, k15m1, k15m2, k15m3, k15m4]
  instanceTypes := #[]
  staticTypes := #[.double, .double, .double, .double, .double, .long, .long, .double, .double, .boolean]
  resolved := Array.replicate 460 none
  statics := none }

def pool16 : Array CpInfo := pool [(2, .class_ 4), (1, u "java/lang/Object"), (0, u "<init>"), (0, u "()V"), (17, .class_ 26), (1, u "jdk/internal/util/Preconditions"), (22, u "checkFromIndexSize"), (5, .class_ 56), (0, u "jdk/internal/util/Preconditions$4"), (57, .class_ 115), (0, u "jdk/internal/util/Preconditions$1"), (7, u "SIOOBE_FORMATTER"), (0, u "Ljava/util/function/BiFunction;"), (0, .class_ 126), (0, u "jdk/internal/util/Preconditions$2"), (3, u "AIOOBE_FORMATTER"), (0, .class_ 132), (0, u "jdk/internal/util/Preconditions$3"), (3, u "IOOBE_FORMATTER"), (46, u "(IIILjava/util/function/BiFunction;)I")] 10

def k16m0 : Method := { name := "<init>", desc := "()V", sig := { parameters := [], returnType := none }, accessFlags := 1, code := none }
def k16c1 : Code := { maxStack := 4, maxLocals := 4, code := jdk_41_method_13_code, exceptionTable := #[], attributes := #[] }
def k16m1 : Method := { name := "checkFromIndexSize", desc := "(IIILjava/util/function/BiFunction;)I", sig := { parameters := [.int, .int, .int, (.object "java/util/function/BiFunction")], returnType := some .int }, accessFlags := 9, code := some k16c1 }
/-- jdk/internal/util/Preconditions -/
def k16 : Class := { plain "jdk/internal/util/Preconditions" (some 0) with
  accessFlags := 33
  interfaces := #[]
  cf := some (fileOf pool16 24 #[.nestMembers #[55, 131, 125, 114]] #[{ accessFlags := 1, nameIndex := 5, descriptorIndex := 6, attributes := #[] }, { accessFlags := 9, nameIndex := 49, descriptorIndex := 183, attributes := #[] }] 33 2 #[] #[{ accessFlags := 25, nameIndex := 123, descriptorIndex := 124, attributes := #[] }, { accessFlags := 25, nameIndex := 130, descriptorIndex := 124, attributes := #[] }, { accessFlags := 25, nameIndex := 136, descriptorIndex := 124, attributes := #[] }])
  fields := #[{ name := "SIOOBE_FORMATTER", type := (.object "java/util/function/BiFunction"), accessFlags := 25, slot := 0, constantValue := 0 }, { name := "AIOOBE_FORMATTER", type := (.object "java/util/function/BiFunction"), accessFlags := 25, slot := 1, constantValue := 0 }, { name := "IOOBE_FORMATTER", type := (.object "java/util/function/BiFunction"), accessFlags := 25, slot := 2, constantValue := 0 }]
  methods := #[k16m0, k16m1]
  instanceTypes := #[]
  staticTypes := #[(.object "java/util/function/BiFunction"), (.object "java/util/function/BiFunction"), (.object "java/util/function/BiFunction")]
  resolved := Array.replicate 194 none
  statics := some 2 }

def pool17 : Array CpInfo := pool [(2, .class_ 4), (1, u "java/lang/Object"), (0, u "<init>"), (0, u "()V"), (7, .class_ 16), (1, u "java/util/Arrays"), (57, .class_ 76), (1, u "java/util/Arrays$NaturalOrder"), (32, u "()Ljava/lang/Object;"), (3, .class_ 115), (1, u "java/util/Arrays$LegacyMergeSort"), (1, u "Z"), (10, .nameAndType 129 109), (0, u "clone"), (9, u "copyOfRange"), (10, .methodref 151 152), (0, .class_ 153), (0, .nameAndType 154 155), (0, u "java/lang/System"), (0, u "arraycopy"), (0, u "(Ljava/lang/Object;ILjava/lang/Object;II)V"), (146, u "copyOf"), (1, .methodref 305 306), (0, .class_ 307), (0, .nameAndType 308 309), (0, u "java/lang/Math"), (0, u "min"), (0, u "(II)I"), (0, .methodref 311 128), (0, .class_ 312), (0, u "[B"), (26, .methodref 14 340), (0, .nameAndType 341 342), (0, u "copyOfRangeByte"), (0, u "([BII)[B"), (0, .methodref 14 344), (0, .nameAndType 345 346), (0, u "checkLength"), (0, u "(II)V"), (28, .class_ 376), (0, u "java/util/Arrays$ArrayList"), (68, u "$assertionsDisabled"), (269, u "MIN_ARRAY_SORT_GRAN"), (0, u "I"), (2, u "INSERTIONSORT_THRESHOLD"), (149, u "([BI)[B"), (105, .class_ 976), (0, u "java/util/Arrays$ArrayItr")] 52

def k17m0 : Method := { name := "<init>", desc := "()V", sig := { parameters := [], returnType := none }, accessFlags := 2, code := none }
def k17c1 : Code := { maxStack := 6, maxLocals := 3, code := jdk_65_method_121_code, exceptionTable := #[], attributes := #[] }
def k17m1 : Method := { name := "copyOf", desc := "([BI)[B", sig := { parameters := [(.array .byte), .int], returnType := some (.array .byte) }, accessFlags := 9, code := some k17c1 }
def k17c2 : Code := { maxStack := 4, maxLocals := 2, code := jdk_65_method_131_code, exceptionTable := #[], attributes := #[] }
def k17m2 : Method := { name := "checkLength", desc := "(II)V", sig := { parameters := [.int, .int], returnType := none }, accessFlags := 10, code := some k17c2 }
def k17c3 : Code := { maxStack := 3, maxLocals := 3, code := jdk_65_method_132_code, exceptionTable := #[], attributes := #[] }
def k17m3 : Method := { name := "copyOfRange", desc := "([BII)[B", sig := { parameters := [(.array .byte), .int, .int], returnType := some (.array .byte) }, accessFlags := 9, code := some k17c3 }
def k17c4 : Code := { maxStack := 6, maxLocals := 5, code := jdk_65_method_133_code, exceptionTable := #[], attributes := #[] }
def k17m4 : Method := { name := "copyOfRangeByte", desc := "([BII)[B", sig := { parameters := [(.array .byte), .int, .int], returnType := some (.array .byte) }, accessFlags := 10, code := some k17c4 }
/-- java/util/Arrays -/
def k17 : Class := { plain "java/util/Arrays" (some 0) with
  accessFlags := 49
  interfaces := #[]
  cf := some (fileOf pool17 14 #[.nestMembers #[975, 375, 113, 74]] #[{ accessFlags := 2, nameIndex := 5, descriptorIndex := 6, attributes := #[] }, { accessFlags := 9, nameIndex := 302, descriptorIndex := 869, attributes := #[] }, { accessFlags := 10, nameIndex := 345, descriptorIndex := 346, attributes := #[] }, { accessFlags := 9, nameIndex := 139, descriptorIndex := 342, attributes := #[] }, { accessFlags := 10, nameIndex := 341, descriptorIndex := 342, attributes := #[] }] 49 2 #[] #[{ accessFlags := 26, nameIndex := 715, descriptorIndex := 716, attributes := #[] }, { accessFlags := 26, nameIndex := 719, descriptorIndex := 716, attributes := #[] }, { accessFlags := 4120, nameIndex := 445, descriptorIndex := 117, attributes := #[] }])
  fields := #[{ name := "MIN_ARRAY_SORT_GRAN", type := .int, accessFlags := 26, slot := 0, constantValue := 0 }, { name := "INSERTIONSORT_THRESHOLD", type := .int, accessFlags := 26, slot := 1, constantValue := 0 }, { name := "$assertionsDisabled", type := .boolean, accessFlags := 4120, slot := 2, constantValue := 0 }]
  methods := #[k17m0, k17m1, k17m2, k17m3, k17m4]
  instanceTypes := #[]
  staticTypes := #[.int, .int, .boolean]
  resolved := Array.replicate 1029 none
  statics := none }

def pool18 : Array CpInfo := pool [(1, .class_ 2), (0, u "java/lang/Cloneable"), (0, .class_ 4), (0, u "java/lang/Object")] 2

/-- java/lang/Cloneable -/
def k18 : Class := { plain "java/lang/Cloneable" (some 0) with
  accessFlags := 1537
  interfaces := #[]
  cf := some (fileOf pool18 1 #[] #[] 1537 3 #[] #[])
  fields := #[]
  methods := #[]
  instanceTypes := #[]
  staticTypes := #[]
  resolved := Array.replicate 7 none
  statics := none }

def pool19 : Array CpInfo := pool [(9, u "<init>"), (6, .class_ 18), (1, u "java/lang/Object"), (0, u "()V"), (1, .class_ 23), (1, u "jdk/internal/util/ArraysSupport"), (0, u "LOG2_ARRAY_LONG_INDEX_SCALE"), (0, u "I"), (2, u "U"), (0, u "Ljdk/internal/misc/Unsafe;"), (8, u "BIG_ENDIAN"), (0, u "Z"), (8, u "LOG2_BYTE_BIT_SIZE"), (4, u "LOG2_ARRAY_INT_INDEX_SCALE"), (54, u "JLA"), (0, u "Ljdk/internal/access/JavaLangAccess;"), (11, u "LOG2_ARRAY_BOOLEAN_INDEX_SCALE"), (9, u "LOG2_ARRAY_BYTE_INDEX_SCALE"), (5, u "LOG2_ARRAY_CHAR_INDEX_SCALE"), (5, u "LOG2_ARRAY_SHORT_INDEX_SCALE"), (18, u "LOG2_ARRAY_FLOAT_INDEX_SCALE"), (24, u "LOG2_ARRAY_DOUBLE_INDEX_SCALE"), (6, .methodref 195 196), (0, .class_ 197), (0, .nameAndType 198 199), (0, u "java/lang/Math"), (0, u "max"), (0, u "(II)I"), (0, .integer 2147483639), (76, u "T_BOOLEAN"), (2, u "T_CHAR"), (1, u "T_FLOAT"), (1, u "T_DOUBLE"), (1, u "T_BYTE"), (1, u "T_SHORT"), (1, u "T_INT"), (1, u "T_LONG"), (1, u "SOFT_MAX_ARRAY_LENGTH"), (56, u "newLength"), (0, u "(III)I")] 25

def k19m0 : Method := { name := "<init>", desc := "()V", sig := { parameters := [], returnType := none }, accessFlags := 2, code := none }
def k19c1 : Code := { maxStack := 3, maxLocals := 4, code := jdk_48_method_27_code, exceptionTable := #[], attributes := #[] }
def k19m1 : Method := { name := "newLength", desc := "(III)I", sig := { parameters := [.int, .int, .int], returnType := some .int }, accessFlags := 9, code := some k19c1 }
/-- jdk/internal/util/ArraysSupport -/
def k19 : Class := { plain "jdk/internal/util/ArraysSupport" (some 0) with
  accessFlags := 33
  interfaces := #[]
  cf := some (fileOf pool19 21 #[] #[{ accessFlags := 2, nameIndex := 9, descriptorIndex := 19, attributes := #[] }, { accessFlags := 9, nameIndex := 351, descriptorIndex := 352, attributes := #[] }] 33 16 #[] #[{ accessFlags := 24, nameIndex := 28, descriptorIndex := 29, attributes := #[] }, { accessFlags := 26, nameIndex := 38, descriptorIndex := 39, attributes := #[] }, { accessFlags := 25, nameIndex := 121, descriptorIndex := 25, attributes := #[] }, { accessFlags := 25, nameIndex := 131, descriptorIndex := 25, attributes := #[] }, { accessFlags := 25, nameIndex := 137, descriptorIndex := 25, attributes := #[] }, { accessFlags := 25, nameIndex := 143, descriptorIndex := 25, attributes := #[] }, { accessFlags := 25, nameIndex := 53, descriptorIndex := 25, attributes := #[] }, { accessFlags := 25, nameIndex := 24, descriptorIndex := 25, attributes := #[] }, { accessFlags := 25, nameIndex := 162, descriptorIndex := 25, attributes := #[] }, { accessFlags := 25, nameIndex := 187, descriptorIndex := 25, attributes := #[] }, { accessFlags := 26, nameIndex := 48, descriptorIndex := 25, attributes := #[] }, { accessFlags := 25, nameIndex := 277, descriptorIndex := 25, attributes := #[] }, { accessFlags := 25, nameIndex := 280, descriptorIndex := 25, attributes := #[] }, { accessFlags := 25, nameIndex := 282, descriptorIndex := 25, attributes := #[] }, { accessFlags := 25, nameIndex := 284, descriptorIndex := 25, attributes := #[] }, { accessFlags := 25, nameIndex := 286, descriptorIndex := 25, attributes := #[] }, { accessFlags := 25, nameIndex := 288, descriptorIndex := 25, attributes := #[] }, { accessFlags := 25, nameIndex := 290, descriptorIndex := 25, attributes := #[] }, { accessFlags := 25, nameIndex := 292, descriptorIndex := 25, attributes := #[] }, { accessFlags := 26, nameIndex := 108, descriptorIndex := 109, attributes := #[] }, { accessFlags := 25, nameIndex := 294, descriptorIndex := 25, attributes := #[] }])
  fields := #[{ name := "U", type := (.object "jdk/internal/misc/Unsafe"), accessFlags := 24, slot := 0, constantValue := 0 }, { name := "BIG_ENDIAN", type := .boolean, accessFlags := 26, slot := 1, constantValue := 0 }, { name := "LOG2_ARRAY_BOOLEAN_INDEX_SCALE", type := .int, accessFlags := 25, slot := 2, constantValue := 0 }, { name := "LOG2_ARRAY_BYTE_INDEX_SCALE", type := .int, accessFlags := 25, slot := 3, constantValue := 0 }, { name := "LOG2_ARRAY_CHAR_INDEX_SCALE", type := .int, accessFlags := 25, slot := 4, constantValue := 0 }, { name := "LOG2_ARRAY_SHORT_INDEX_SCALE", type := .int, accessFlags := 25, slot := 5, constantValue := 0 }, { name := "LOG2_ARRAY_INT_INDEX_SCALE", type := .int, accessFlags := 25, slot := 6, constantValue := 0 }, { name := "LOG2_ARRAY_LONG_INDEX_SCALE", type := .int, accessFlags := 25, slot := 7, constantValue := 0 }, { name := "LOG2_ARRAY_FLOAT_INDEX_SCALE", type := .int, accessFlags := 25, slot := 8, constantValue := 0 }, { name := "LOG2_ARRAY_DOUBLE_INDEX_SCALE", type := .int, accessFlags := 25, slot := 9, constantValue := 0 }, { name := "LOG2_BYTE_BIT_SIZE", type := .int, accessFlags := 26, slot := 10, constantValue := 0 }, { name := "T_BOOLEAN", type := .int, accessFlags := 25, slot := 11, constantValue := 0 }, { name := "T_CHAR", type := .int, accessFlags := 25, slot := 12, constantValue := 0 }, { name := "T_FLOAT", type := .int, accessFlags := 25, slot := 13, constantValue := 0 }, { name := "T_DOUBLE", type := .int, accessFlags := 25, slot := 14, constantValue := 0 }, { name := "T_BYTE", type := .int, accessFlags := 25, slot := 15, constantValue := 0 }, { name := "T_SHORT", type := .int, accessFlags := 25, slot := 16, constantValue := 0 }, { name := "T_INT", type := .int, accessFlags := 25, slot := 17, constantValue := 0 }, { name := "T_LONG", type := .int, accessFlags := 25, slot := 18, constantValue := 0 }, { name := "JLA", type := (.object "jdk/internal/access/JavaLangAccess"), accessFlags := 26, slot := 19, constantValue := 0 }, { name := "SOFT_MAX_ARRAY_LENGTH", type := .int, accessFlags := 25, slot := 20, constantValue := 0 }]
  methods := #[k19m0, k19m1]
  instanceTypes := #[]
  staticTypes := #[(.object "jdk/internal/misc/Unsafe"), .boolean, .int, .int, .int, .int, .int, .int, .int, .int, .int, .int, .int, .int, .int, .int, .int, .int, .int, (.object "jdk/internal/access/JavaLangAccess"), .int]
  resolved := Array.replicate 378 none
  statics := none }

def pool20 : Array CpInfo := pool [(6, .class_ 8), (1, u "java/lang/Object"), (0, u "<init>"), (0, u "()V"), (1, .class_ 14), (1, u "java/lang/StringUTF16"), (31, u "$assertionsDisabled"), (0, u "Z"), (13, u "HI_BYTE_SHIFT"), (0, u "I"), (2, u "LO_BYTE_SHIFT"), (49, .methodref 12 116), (0, .nameAndType 117 118), (0, u "compress"), (0, u "([CI[BII)I"), (3, u "([CII)[B"), (138, u "coderFromArrayLen"), (0, u "([BI)B"), (106, .class_ 371), (1, u "java/lang/StringUTF16$LinesSpliterator"), (58, u "MAX_LENGTH"), (196, .class_ 628), (0, u "java/lang/StringUTF16$CodePointsSpliterator"), (0, .class_ 630), (0, u "java/lang/StringUTF16$CharsSpliterator")] 4

def k20m0 : Method := { name := "<init>", desc := "()V", sig := { parameters := [], returnType := none }, accessFlags := 0, code := none }
def k20c1 : Code := { maxStack := 2, maxLocals := 2, code := jdk_52_method_15_code, exceptionTable := #[], attributes := #[] }
def k20m1 : Method := { name := "coderFromArrayLen", desc := "([BI)B", sig := { parameters := [(.array .byte), .int], returnType := some .byte }, accessFlags := 8, code := some k20c1 }
def k20c2 : Code := { maxStack := 5, maxLocals := 6, code := jdk_52_method_16_code, exceptionTable := #[], attributes := #[] }
def k20m2 : Method := { name := "compress", desc := "([CII)[B", sig := { parameters := [(.array .char), .int, .int], returnType := some (.array .byte) }, accessFlags := 9, code := some k20c2 }
def k20c3 : Code := { maxStack := 3, maxLocals := 7, code := jdk_52_method_21_code, exceptionTable := #[], attributes := #[] }
def k20m3 : Method := { name := "compress", desc := "([CI[BII)I", sig := { parameters := [(.array .char), .int, (.array .byte), .int, .int], returnType := some .int }, accessFlags := 9, code := some k20c3 }
/-- java/lang/StringUTF16 -/
def k20 : Class := { plain "java/lang/StringUTF16" (some 0) with
  accessFlags := 48
  interfaces := #[]
  cf := some (fileOf pool20 12 #[.nestMembers #[627, 629, 369]] #[{ accessFlags := 0, nameIndex := 9, descriptorIndex := 10, attributes := #[] }, { accessFlags := 8, nameIndex := 261, descriptorIndex := 262, attributes := #[] }, { accessFlags := 9, nameIndex := 117, descriptorIndex := 122, attributes := #[] }, { accessFlags := 9, nameIndex := 117, descriptorIndex := 118, attributes := #[] }] 48 6 #[] #[{ accessFlags := 26, nameIndex := 61, descriptorIndex := 62, attributes := #[] }, { accessFlags := 26, nameIndex := 65, descriptorIndex := 62, attributes := #[] }, { accessFlags := 24, nameIndex := 430, descriptorIndex := 62, attributes := #[] }, { accessFlags := 4120, nameIndex := 46, descriptorIndex := 47, attributes := #[] }])
  fields := #[{ name := "HI_BYTE_SHIFT", type := .int, accessFlags := 26, slot := 0, constantValue := 0 }, { name := "LO_BYTE_SHIFT", type := .int, accessFlags := 26, slot := 1, constantValue := 0 }, { name := "MAX_LENGTH", type := .int, accessFlags := 24, slot := 2, constantValue := 0 }, { name := "$assertionsDisabled", type := .boolean, accessFlags := 4120, slot := 3, constantValue := 0 }]
  methods := #[k20m0, k20m1, k20m2, k20m3]
  instanceTypes := #[]
  staticTypes := #[.int, .int, .int, .boolean]
  resolved := Array.replicate 635 none
  statics := none }

def pool21 : Array CpInfo := pool [(4, .class_ 6), (1, u "java/lang/Object"), (0, u "<init>"), (0, u "()V"), (5, .class_ 16), (1, u "java/lang/StringLatin1"), (104, u "$assertionsDisabled"), (0, u "Z"), (98, .class_ 223), (1, u "java/lang/StringLatin1$LinesSpliterator"), (57, u "equals"), (0, u "([B[B)Z"), (107, .class_ 391), (0, u "java/lang/StringLatin1$CharsSpliterator")] 3

def k21m0 : Method := { name := "<init>", desc := "()V", sig := { parameters := [], returnType := none }, accessFlags := 0, code := none }
def k21c1 : Code := { maxStack := 3, maxLocals := 3, code := jdk_43_method_13_code, exceptionTable := #[], attributes := #[] }
def k21m1 : Method := { name := "equals", desc := "([B[B)Z", sig := { parameters := [(.array .byte), (.array .byte)], returnType := some .boolean }, accessFlags := 9, code := some k21c1 }
/-- java/lang/StringLatin1 -/
def k21 : Class := { plain "java/lang/StringLatin1" (some 0) with
  accessFlags := 48
  interfaces := #[]
  cf := some (fileOf pool21 14 #[.nestMembers #[390, 221]] #[{ accessFlags := 0, nameIndex := 7, descriptorIndex := 8, attributes := #[] }, { accessFlags := 9, nameIndex := 281, descriptorIndex := 282, attributes := #[] }] 48 4 #[] #[{ accessFlags := 4120, nameIndex := 121, descriptorIndex := 122, attributes := #[] }])
  fields := #[{ name := "$assertionsDisabled", type := .boolean, accessFlags := 4120, slot := 0, constantValue := 0 }]
  methods := #[k21m0, k21m1]
  instanceTypes := #[]
  staticTypes := #[.boolean]
  resolved := Array.replicate 395 none
  statics := none }

/-- the primitive byte -/
def k22 : Class := { plain "byte" none with kind := .primitive 'B', accessFlags := 0x411 }
/-- [B -/
def k23 : Class := { plain "[B" (some 0) with kind := .array 22 .byte, interfaces := #[18, 8], accessFlags := 1041 }

/-- the primitive char -/
def k24 : Class := { plain "char" none with kind := .primitive 'C', accessFlags := 0x411 }
/-- [C -/
def k25 : Class := { plain "[C" (some 0) with kind := .array 24 .char, interfaces := #[18, 8], accessFlags := 1041 }

/-- the primitive int -/
def k26 : Class := { plain "int" none with kind := .primitive 'I', accessFlags := 0x411 }
/-- [I -/
def k27 : Class := { plain "[I" (some 0) with kind := .array 26 .int, interfaces := #[18, 8], accessFlags := 1041 }

def heap : Heap := #[{ cls := 4, slots := #[.ref 4, .null, .int 0, .null, .ref 3, .null, .null], vm := .statics 4 },
  { cls := 13, slots := #[.long 0, .int 1, .null, .int 0, .null, .int 0, .int 0], vm := .statics 13 },
  { cls := 16, slots := #[.null, .null, .null], vm := .statics 16 },
  { cls := 4, slots := #[.null, .int (-1), .int 0, .int 1], vm := .none },
  { cls := 25, slots := #[.int 65, .int 66, .int 67, .int 68, .int 69, .int 70, .int 71, .int 72, .int 73, .int 74, .int 75, .int 76, .int 77, .int 78, .int 79, .int 80, .int 81, .int 82, .int 83, .int 84, .int 85, .int 86, .int 87, .int 88, .int 89, .int 90, .int 97, .int 98, .int 99, .int 100, .int 101, .int 102, .int 103, .int 104, .int 105, .int 106, .int 107, .int 108, .int 109, .int 110, .int 111, .int 112, .int 113, .int 114, .int 115, .int 116, .int 117, .int 118, .int 119, .int 120, .int 121, .int 122, .int 48, .int 49, .int 50, .int 51, .int 52, .int 53, .int 54, .int 55, .int 56, .int 57, .int 43, .int 47], vm := .none }]
def classes : Array Class := #[k0, k1, k2, k3, k4, k5, k6, k7, k8, k9, k10, k11, k12, k13, k14, k15, k16, k17, k18, k19, k20, k21, k22, k23, k24, k25, k26, k27]
def interned : List (Array UInt16 × Addr) := []
def slotsUsed : Nat := 85
def theMethod : MethodId := ⟨1, 2⟩
def args0 : Array Value := #[.int 5, .int 6, .int 7, .int 8, .int 3, .int 0]
def aboutOver (below : List Frame) : State where
  vm := { classes := classes, interned := interned.toArray }
  heap := heap
  slotsUsed := slotsUsed
  threads := #[{ frames := .invoking theMethod args0 :: below }]
def below0 : List Frame := [.native { method := ⟨0, 0⟩, args := #[] }]
def about1 : State := aboutOver below0
def p0 : Program := .bare "" "" ""
def e0 : Env := launch0.env 0 0 0
theorem w_frames : about1.frames = Frame.invoking theMethod args0 :: below0 := rfl
set_option maxRecDepth 65536 in
theorem w_args : argsFit about1.vm theMethod args0 = true := by decide +kernel
set_option maxRecDepth 65536 in
theorem w_heap : heapFits about1 = true := by decide +kernel
set_option maxRecDepth 65536 in
theorem w_runnable : about1.curStatus? = some .runnable := by decide +kernel
set_option maxRecDepth 65536 in
theorem w_alone : about1.alone = true := by decide +kernel
set_option maxRecDepth 65536 in
theorem w_named : about1.methodNamed? x = some theMethod := by decide +kernel
set_option maxRecDepth 65536 in
theorem w_hears : about1.hears theMethod below0 = true := by decide +kernel
set_option maxRecDepth 65536 in
theorem w_ripe : about1.ripe theMethod args0 below0 = true := by decide +kernel
theorem w_running : about1.status = .running := rfl
set_option maxRecDepth 65536 in
theorem w_room : about1.hasRoom e0.platform room_1 = true :=
  launch0.hasRoom_least _ room_1 (by decide +kernel) (by decide +kernel) (by decide +kernel) (by decide +kernel) (by decide +kernel) (by decide +kernel)
theorem allAtoms_all (ts : List Jvm.Cond) (a : Array Jvm.Value) (st : Jvm.State) : (allAtoms ts).before a st = ts.all (fun c => c.before a st) := by
  induction ts with
  | nil => rfl
  | cons c t ih =>
    show (Jvm.Cond.and c (allAtoms t)).before a st = _
    rw [Jvm.Cond.before_and, ih, List.all_cons]
def words1 : List Jvm.Cond := Jvm.Cond.code x code maxLocals ret :: tables_1
/-- a 'code' word, met by the world's own term for the bytes: nothing is compared byte by byte -/
theorem code_word {y : MethodName} {bytes : ByteArray} {mx : Nat} {rt : Option FieldType} {a : Array Value} {s : State} {m : MethodId} {meth : Method} {c : Code} (h1 : s.methodNamed? y = some m) (h2 : s.vm.method? m = some meth) (h3 : meth.code = some c) (h4 : c.code = bytes)
    (h5 : (c.maxLocals == mx && c.exceptionTable.isEmpty && decide (c.maxStack ≤ mostOperands) && decide (meth.sig.returnType = rt) && !meth.locks && decide (parseMethodDescriptor y.desc = some meth.sig)) = true) : (Jvm.Cond.code y bytes mx rt).before a s = true := by
  simp only [Bool.and_eq_true, beq_iff_eq, Bool.not_eq_true', decide_eq_true_eq] at h5
  obtain ⟨⟨⟨⟨⟨g1, g2⟩, g3⟩, g4⟩, g5⟩, g6⟩ := h5
  simp [Cond.before, Cond.holds, Cond.value, h1, h2, h3, h4, g1, g2, g3, g4, g5, g6]
def isCode : Jvm.Cond → Bool
  | .code _ _ _ _ => true
  | _ => false
theorem all_split {L : List Jvm.Cond} {P : Jvm.Cond → Bool} (h1 : L.all (fun c => isCode c || P c) = true) (h2 : ∀ c ∈ L.filter isCode, P c = true) : L.all P = true := by
  refine List.all_eq_true.mpr fun c hc => ?_
  have h := List.all_eq_true.mp h1 c hc
  rcases Bool.eq_false_or_eq_true (isCode c) with hi | hi
  · exact h2 c (List.mem_filter.mpr ⟨hc, hi⟩)
  · simpa [hi] using h
set_option maxRecDepth 65536 in
theorem w_c0 : (Jvm.Cond.code x code maxLocals ret).before args0 about1 = true := code_word (m := ⟨1, 2⟩) (meth := k1m2) (c := k1c2) (by decide +kernel) rfl rfl rfl (by decide +kernel)
set_option maxRecDepth 65536 in
theorem w_c1 : (Jvm.Cond.code ({ cls := "com/example/custody/custody/container/ComputingInformation", name := "<init>", desc := "([B[B[B[B)V" } : Jvm.MethodName) prog_11_method_1_code (5 : Nat) (Option.none : Option Jvm.ClassFile.FieldType)).before args0 about1 = true := code_word (m := ⟨2, 0⟩) (meth := k2m0) (c := k2c0) (by decide +kernel) rfl rfl rfl (by decide +kernel)
set_option maxRecDepth 65536 in
theorem w_c2 : (Jvm.Cond.code ({ cls := "java/lang/Object", name := "<init>", desc := "()V" } : Jvm.MethodName) object_method_1_code (1 : Nat) (Option.none : Option Jvm.ClassFile.FieldType)).before args0 about1 = true := code_word (m := ⟨0, 0⟩) (meth := k0m0) (c := k0c0) (by decide +kernel) rfl rfl rfl (by decide +kernel)
set_option maxRecDepth 65536 in
theorem w_c3 : (Jvm.Cond.code ({ cls := "com/example/custody/custody/container/ComputingInformation", name := "text", desc := "()Ljava/lang/String;" } : Jvm.MethodName) prog_11_method_2_code (2 : Nat) (Option.some (Jvm.ClassFile.FieldType.object "java/lang/String"))).before args0 about1 = true := code_word (m := ⟨2, 1⟩) (meth := k2m1) (c := k2c1) (by decide +kernel) rfl rfl rfl (by decide +kernel)
set_option maxRecDepth 65536 in
theorem w_c4 : (Jvm.Cond.code ({ cls := "java/util/Base64", name := "getEncoder", desc := "()Ljava/util/Base64$Encoder;" } : Jvm.MethodName) jdk_2448_method_2_code (0 : Nat) (Option.some (Jvm.ClassFile.FieldType.object "java/util/Base64$Encoder"))).before args0 about1 = true := code_word (m := ⟨3, 1⟩) (meth := k3m1) (c := k3c1) (by decide +kernel) rfl rfl rfl (by decide +kernel)
set_option maxRecDepth 65536 in
theorem w_c5 : (Jvm.Cond.code ({ cls := "java/lang/StringBuilder", name := "<init>", desc := "()V" } : Jvm.MethodName) jdk_67_method_1_code (1 : Nat) (Option.none : Option Jvm.ClassFile.FieldType)).before args0 about1 = true := code_word (m := ⟨10, 0⟩) (meth := k10m0) (c := k10c0) (by decide +kernel) rfl rfl rfl (by decide +kernel)
set_option maxRecDepth 65536 in
theorem w_c6 : (Jvm.Cond.code ({ cls := "java/lang/AbstractStringBuilder", name := "<init>", desc := "(I)V" } : Jvm.MethodName) jdk_68_method_2_code (2 : Nat) (Option.none : Option Jvm.ClassFile.FieldType)).before args0 about1 = true := code_word (m := ⟨7, 1⟩) (meth := k7m1) (c := k7c1) (by decide +kernel) rfl rfl rfl (by decide +kernel)
set_option maxRecDepth 65536 in
theorem w_c7 : (Jvm.Cond.code ({ cls := "java/lang/StringBuilder", name := "append", desc := "(Ljava/lang/String;)Ljava/lang/StringBuilder;" } : Jvm.MethodName) jdk_67_method_7_code (2 : Nat) (Option.some (Jvm.ClassFile.FieldType.object "java/lang/StringBuilder"))).before args0 about1 = true := code_word (m := ⟨10, 1⟩) (meth := k10m1) (c := k10c1) (by decide +kernel) rfl rfl rfl (by decide +kernel)
set_option maxRecDepth 65536 in
theorem w_c8 : (Jvm.Cond.code ({ cls := "java/lang/AbstractStringBuilder", name := "append", desc := "(Ljava/lang/String;)Ljava/lang/AbstractStringBuilder;" } : Jvm.MethodName) jdk_68_method_22_code (3 : Nat) (Option.some (Jvm.ClassFile.FieldType.object "java/lang/AbstractStringBuilder"))).before args0 about1 = true := code_word (m := ⟨7, 5⟩) (meth := k7m5) (c := k7c5) (by decide +kernel) rfl rfl rfl (by decide +kernel)
set_option maxRecDepth 65536 in
theorem w_c9 : (Jvm.Cond.code ({ cls := "java/lang/String", name := "length", desc := "()I" } : Jvm.MethodName) jdk_42_method_54_code (1 : Nat) (Option.some Jvm.ClassFile.FieldType.int)).before args0 about1 = true := code_word (m := ⟨13, 4⟩) (meth := k13m4) (c := k13c4) (by decide +kernel) rfl rfl rfl (by decide +kernel)
set_option maxRecDepth 65536 in
theorem w_c10 : (Jvm.Cond.code ({ cls := "java/lang/String", name := "coder", desc := "()B" } : Jvm.MethodName) jdk_42_method_152_code (1 : Nat) (Option.some Jvm.ClassFile.FieldType.byte)).before args0 about1 = true := code_word (m := ⟨13, 9⟩) (meth := k13m9) (c := k13c9) (by decide +kernel) rfl rfl rfl (by decide +kernel)
set_option maxRecDepth 65536 in
theorem w_c11 : (Jvm.Cond.code ({ cls := "java/lang/AbstractStringBuilder", name := "ensureCapacityInternal", desc := "(I)V" } : Jvm.MethodName) jdk_68_method_9_code (3 : Nat) (Option.none : Option Jvm.ClassFile.FieldType)).before args0 about1 = true := code_word (m := ⟨7, 3⟩) (meth := k7m3) (c := k7c3) (by decide +kernel) rfl rfl rfl (by decide +kernel)
set_option maxRecDepth 65536 in
theorem w_c12 : (Jvm.Cond.code ({ cls := "java/lang/AbstractStringBuilder", name := "putStringAt", desc := "(ILjava/lang/String;)V" } : Jvm.MethodName) jdk_68_method_73_code (3 : Nat) (Option.none : Option Jvm.ClassFile.FieldType)).before args0 about1 = true := code_word (m := ⟨7, 9⟩) (meth := k7m9) (c := k7c9) (by decide +kernel) rfl rfl rfl (by decide +kernel)
set_option maxRecDepth 65536 in
theorem w_c13 : (Jvm.Cond.code ({ cls := "java/lang/AbstractStringBuilder", name := "inflateIfNeededFor", desc := "(Ljava/lang/String;)V" } : Jvm.MethodName) jdk_68_method_71_code (2 : Nat) (Option.none : Option Jvm.ClassFile.FieldType)).before args0 about1 = true := code_word (m := ⟨7, 8⟩) (meth := k7m8) (c := k7c8) (by decide +kernel) rfl rfl rfl (by decide +kernel)
set_option maxRecDepth 65536 in
theorem w_c14 : (Jvm.Cond.code ({ cls := "java/lang/String", name := "getBytes", desc := "([BIB)V" } : Jvm.MethodName) jdk_42_method_147_code (4 : Nat) (Option.none : Option Jvm.ClassFile.FieldType)).before args0 about1 = true := code_word (m := ⟨13, 6⟩) (meth := k13m6) (c := k13c6) (by decide +kernel) rfl rfl rfl (by decide +kernel)
set_option maxRecDepth 65536 in
theorem w_c15 : (Jvm.Cond.code ({ cls := "java/util/Base64$Encoder", name := "encodeToString", desc := "([B)Ljava/lang/String;" } : Jvm.MethodName) jdk_2452_method_5_code (3 : Nat) (Option.some (Jvm.ClassFile.FieldType.object "java/lang/String"))).before args0 about1 = true := code_word (m := ⟨4, 2⟩) (meth := k4m2) (c := k4c2) (by decide +kernel) rfl rfl rfl (by decide +kernel)
set_option maxRecDepth 65536 in
theorem w_c16 : (Jvm.Cond.code ({ cls := "java/util/Base64$Encoder", name := "encode", desc := "([B)[B" } : Jvm.MethodName) jdk_2452_method_3_code (5 : Nat) (Option.some (Jvm.ClassFile.FieldType.array Jvm.ClassFile.FieldType.byte))).before args0 about1 = true := code_word (m := ⟨4, 1⟩) (meth := k4m1) (c := k4c1) (by decide +kernel) rfl rfl rfl (by decide +kernel)
set_option maxRecDepth 65536 in
theorem w_c17 : (Jvm.Cond.code ({ cls := "java/lang/Math", name := "addExact", desc := "(II)I" } : Jvm.MethodName) jdk_29_method_24_code (3 : Nat) (Option.some Jvm.ClassFile.FieldType.int)).before args0 about1 = true := code_word (m := ⟨15, 1⟩) (meth := k15m1) (c := k15c1) (by decide +kernel) rfl rfl rfl (by decide +kernel)
set_option maxRecDepth 65536 in
theorem w_c18 : (Jvm.Cond.code ({ cls := "java/lang/Math", name := "multiplyExact", desc := "(II)I" } : Jvm.MethodName) jdk_29_method_28_code (4 : Nat) (Option.some Jvm.ClassFile.FieldType.int)).before args0 about1 = true := code_word (m := ⟨15, 2⟩) (meth := k15m2) (c := k15c2) (by decide +kernel) rfl rfl rfl (by decide +kernel)
set_option maxRecDepth 65536 in
theorem w_c19 : (Jvm.Cond.code ({ cls := "java/util/Base64$Encoder", name := "encode0", desc := "([BII[B)I" } : Jvm.MethodName) jdk_2452_method_10_code (16 : Nat) (Option.some Jvm.ClassFile.FieldType.int)).before args0 about1 = true := code_word (m := ⟨4, 4⟩) (meth := k4m4) (c := k4c4) (by decide +kernel) rfl rfl rfl (by decide +kernel)
set_option maxRecDepth 65536 in
theorem w_c20 : (Jvm.Cond.code ({ cls := "java/lang/Math", name := "min", desc := "(II)I" } : Jvm.MethodName) jdk_29_method_69_code (2 : Nat) (Option.some Jvm.ClassFile.FieldType.int)).before args0 about1 = true := code_word (m := ⟨15, 4⟩) (meth := k15m4) (c := k15c4) (by decide +kernel) rfl rfl rfl (by decide +kernel)
set_option maxRecDepth 65536 in
theorem w_c21 : (Jvm.Cond.code ({ cls := "java/util/Base64$Encoder", name := "encodeBlock", desc := "([BII[BIZ)V" } : Jvm.MethodName) jdk_2452_method_9_code (11 : Nat) (Option.none : Option Jvm.ClassFile.FieldType)).before args0 about1 = true := code_word (m := ⟨4, 3⟩) (meth := k4m3) (c := k4c3) (by decide +kernel) rfl rfl rfl (by decide +kernel)
set_option maxRecDepth 65536 in
theorem w_c22 : (Jvm.Cond.code ({ cls := "java/lang/String", name := "<init>", desc := "([BIII)V" } : Jvm.MethodName) jdk_42_method_7_code (7 : Nat) (Option.none : Option Jvm.ClassFile.FieldType)).before args0 about1 = true := code_word (m := ⟨13, 2⟩) (meth := k13m2) (c := k13c2) (by decide +kernel) rfl rfl rfl (by decide +kernel)
set_option maxRecDepth 65536 in
theorem w_c23 : (Jvm.Cond.code ({ cls := "java/lang/String", name := "checkBoundsOffCount", desc := "(III)I" } : Jvm.MethodName) jdk_42_method_157_code (3 : Nat) (Option.some Jvm.ClassFile.FieldType.int)).before args0 about1 = true := code_word (m := ⟨13, 10⟩) (meth := k13m10) (c := k13c10) (by decide +kernel) rfl rfl rfl (by decide +kernel)
set_option maxRecDepth 65536 in
theorem w_c24 : (Jvm.Cond.code ({ cls := "jdk/internal/util/Preconditions", name := "checkFromIndexSize", desc := "(IIILjava/util/function/BiFunction;)I" } : Jvm.MethodName) jdk_41_method_13_code (4 : Nat) (Option.some Jvm.ClassFile.FieldType.int)).before args0 about1 = true := code_word (m := ⟨16, 1⟩) (meth := k16m1) (c := k16c1) (by decide +kernel) rfl rfl rfl (by decide +kernel)
set_option maxRecDepth 65536 in
theorem w_c25 : (Jvm.Cond.code ({ cls := "java/util/Arrays", name := "copyOfRange", desc := "([BII)[B" } : Jvm.MethodName) jdk_65_method_132_code (3 : Nat) (Option.some (Jvm.ClassFile.FieldType.array Jvm.ClassFile.FieldType.byte))).before args0 about1 = true := code_word (m := ⟨17, 3⟩) (meth := k17m3) (c := k17c3) (by decide +kernel) rfl rfl rfl (by decide +kernel)
set_option maxRecDepth 65536 in
theorem w_c26 : (Jvm.Cond.code ({ cls := "java/lang/AbstractStringBuilder", name := "newCapacity", desc := "(I)I" } : Jvm.MethodName) jdk_68_method_10_code (6 : Nat) (Option.some Jvm.ClassFile.FieldType.int)).before args0 about1 = true := code_word (m := ⟨7, 4⟩) (meth := k7m4) (c := k7c4) (by decide +kernel) rfl rfl rfl (by decide +kernel)
set_option maxRecDepth 65536 in
theorem w_c27 : (Jvm.Cond.code ({ cls := "jdk/internal/util/ArraysSupport", name := "newLength", desc := "(III)I" } : Jvm.MethodName) jdk_48_method_27_code (4 : Nat) (Option.some Jvm.ClassFile.FieldType.int)).before args0 about1 = true := code_word (m := ⟨19, 1⟩) (meth := k19m1) (c := k19c1) (by decide +kernel) rfl rfl rfl (by decide +kernel)
set_option maxRecDepth 65536 in
theorem w_c28 : (Jvm.Cond.code ({ cls := "java/lang/Math", name := "max", desc := "(II)I" } : Jvm.MethodName) jdk_29_method_65_code (2 : Nat) (Option.some Jvm.ClassFile.FieldType.int)).before args0 about1 = true := code_word (m := ⟨15, 3⟩) (meth := k15m3) (c := k15c3) (by decide +kernel) rfl rfl rfl (by decide +kernel)
set_option maxRecDepth 65536 in
theorem w_c29 : (Jvm.Cond.code ({ cls := "java/util/Arrays", name := "copyOf", desc := "([BI)[B" } : Jvm.MethodName) jdk_65_method_121_code (3 : Nat) (Option.some (Jvm.ClassFile.FieldType.array Jvm.ClassFile.FieldType.byte))).before args0 about1 = true := code_word (m := ⟨17, 1⟩) (meth := k17m1) (c := k17c1) (by decide +kernel) rfl rfl rfl (by decide +kernel)
set_option maxRecDepth 65536 in
theorem w_c30 : (Jvm.Cond.code ({ cls := "java/lang/StringBuilder", name := "toString", desc := "()Ljava/lang/String;" } : Jvm.MethodName) jdk_67_method_42_code (1 : Nat) (Option.some (Jvm.ClassFile.FieldType.object "java/lang/String"))).before args0 about1 = true := code_word (m := ⟨10, 2⟩) (meth := k10m2) (c := k10c2) (by decide +kernel) rfl rfl rfl (by decide +kernel)
set_option maxRecDepth 65536 in
theorem w_c31 : (Jvm.Cond.code ({ cls := "java/lang/String", name := "<init>", desc := "(Ljava/lang/StringBuilder;)V" } : Jvm.MethodName) jdk_42_method_53_code (2 : Nat) (Option.none : Option Jvm.ClassFile.FieldType)).before args0 about1 = true := code_word (m := ⟨13, 3⟩) (meth := k13m3) (c := k13c3) (by decide +kernel) rfl rfl rfl (by decide +kernel)
set_option maxRecDepth 65536 in
theorem w_c32 : (Jvm.Cond.code ({ cls := "java/lang/String", name := "<init>", desc := "(Ljava/lang/AbstractStringBuilder;Ljava/lang/Void;)V" } : Jvm.MethodName) jdk_42_method_150_code (5 : Nat) (Option.none : Option Jvm.ClassFile.FieldType)).before args0 about1 = true := code_word (m := ⟨13, 8⟩) (meth := k13m8) (c := k13c8) (by decide +kernel) rfl rfl rfl (by decide +kernel)
set_option maxRecDepth 65536 in
theorem w_c33 : (Jvm.Cond.code ({ cls := "java/lang/AbstractStringBuilder", name := "getValue", desc := "()[B" } : Jvm.MethodName) jdk_68_method_64_code (1 : Nat) (Option.some (Jvm.ClassFile.FieldType.array Jvm.ClassFile.FieldType.byte))).before args0 about1 = true := code_word (m := ⟨7, 6⟩) (meth := k7m6) (c := k7c6) (by decide +kernel) rfl rfl rfl (by decide +kernel)
set_option maxRecDepth 65536 in
theorem w_c34 : (Jvm.Cond.code ({ cls := "java/lang/StringBuilder", name := "length", desc := "()I" } : Jvm.MethodName) jdk_67_method_93_code (1 : Nat) (Option.some Jvm.ClassFile.FieldType.int)).before args0 about1 = true := code_word (m := ⟨10, 3⟩) (meth := k10m3) (c := k10c3) (by decide +kernel) rfl rfl rfl (by decide +kernel)
set_option maxRecDepth 65536 in
theorem w_c35 : (Jvm.Cond.code ({ cls := "java/lang/AbstractStringBuilder", name := "length", desc := "()I" } : Jvm.MethodName) jdk_68_method_6_code (1 : Nat) (Option.some Jvm.ClassFile.FieldType.int)).before args0 about1 = true := code_word (m := ⟨7, 2⟩) (meth := k7m2) (c := k7c2) (by decide +kernel) rfl rfl rfl (by decide +kernel)
set_option maxRecDepth 65536 in
theorem w_c36 : (Jvm.Cond.code ({ cls := "java/lang/AbstractStringBuilder", name := "isLatin1", desc := "()Z" } : Jvm.MethodName) jdk_68_method_68_code (1 : Nat) (Option.some Jvm.ClassFile.FieldType.boolean)).before args0 about1 = true := code_word (m := ⟨7, 7⟩) (meth := k7m7) (c := k7c7) (by decide +kernel) rfl rfl rfl (by decide +kernel)
set_option maxRecDepth 65536 in
theorem w_c37 : (Jvm.Cond.code ({ cls := "java/util/Arrays", name := "copyOfRangeByte", desc := "([BII)[B" } : Jvm.MethodName) jdk_65_method_133_code (5 : Nat) (Option.some (Jvm.ClassFile.FieldType.array Jvm.ClassFile.FieldType.byte))).before args0 about1 = true := code_word (m := ⟨17, 4⟩) (meth := k17m4) (c := k17c4) (by decide +kernel) rfl rfl rfl (by decide +kernel)
set_option maxRecDepth 65536 in
theorem w_c38 : (Jvm.Cond.code ({ cls := "java/util/Arrays", name := "checkLength", desc := "(II)V" } : Jvm.MethodName) jdk_65_method_131_code (2 : Nat) (Option.none : Option Jvm.ClassFile.FieldType)).before args0 about1 = true := code_word (m := ⟨17, 2⟩) (meth := k17m2) (c := k17c2) (by decide +kernel) rfl rfl rfl (by decide +kernel)
set_option maxRecDepth 65536 in
theorem w_c39 : (Jvm.Cond.code ({ cls := "com/example/custody/custody/container/ComputingInformationTextPinLaw", name := "b64", desc := "(I)C" } : Jvm.MethodName) method_2_code (1 : Nat) (Option.some Jvm.ClassFile.FieldType.char)).before args0 about1 = true := code_word (m := ⟨1, 1⟩) (meth := k1m1) (c := k1c1) (by decide +kernel) rfl rfl rfl (by decide +kernel)
set_option maxRecDepth 65536 in
theorem w_c40 : (Jvm.Cond.code ({ cls := "java/lang/String", name := "<init>", desc := "([C)V" } : Jvm.MethodName) jdk_42_method_3_code (2 : Nat) (Option.none : Option Jvm.ClassFile.FieldType)).before args0 about1 = true := code_word (m := ⟨13, 1⟩) (meth := k13m1) (c := k13c1) (by decide +kernel) rfl rfl rfl (by decide +kernel)
set_option maxRecDepth 65536 in
theorem w_c41 : (Jvm.Cond.code ({ cls := "java/lang/String", name := "<init>", desc := "([CIILjava/lang/Void;)V" } : Jvm.MethodName) jdk_42_method_149_code (6 : Nat) (Option.none : Option Jvm.ClassFile.FieldType)).before args0 about1 = true := code_word (m := ⟨13, 7⟩) (meth := k13m7) (c := k13c7) (by decide +kernel) rfl rfl rfl (by decide +kernel)
set_option maxRecDepth 65536 in
theorem w_c42 : (Jvm.Cond.code ({ cls := "java/lang/StringUTF16", name := "compress", desc := "([CII)[B" } : Jvm.MethodName) jdk_52_method_16_code (6 : Nat) (Option.some (Jvm.ClassFile.FieldType.array Jvm.ClassFile.FieldType.byte))).before args0 about1 = true := code_word (m := ⟨20, 2⟩) (meth := k20m2) (c := k20c2) (by decide +kernel) rfl rfl rfl (by decide +kernel)
set_option maxRecDepth 65536 in
theorem w_c43 : (Jvm.Cond.code ({ cls := "java/lang/StringUTF16", name := "compress", desc := "([CI[BII)I" } : Jvm.MethodName) jdk_52_method_21_code (7 : Nat) (Option.some Jvm.ClassFile.FieldType.int)).before args0 about1 = true := code_word (m := ⟨20, 3⟩) (meth := k20m3) (c := k20c3) (by decide +kernel) rfl rfl rfl (by decide +kernel)
set_option maxRecDepth 65536 in
theorem w_c44 : (Jvm.Cond.code ({ cls := "java/lang/StringUTF16", name := "coderFromArrayLen", desc := "([BI)B" } : Jvm.MethodName) jdk_52_method_15_code (2 : Nat) (Option.some Jvm.ClassFile.FieldType.byte)).before args0 about1 = true := code_word (m := ⟨20, 1⟩) (meth := k20m1) (c := k20c1) (by decide +kernel) rfl rfl rfl (by decide +kernel)
set_option maxRecDepth 65536 in
theorem w_c45 : (Jvm.Cond.code ({ cls := "java/lang/String", name := "equals", desc := "(Ljava/lang/Object;)Z" } : Jvm.MethodName) jdk_42_method_66_code (3 : Nat) (Option.some Jvm.ClassFile.FieldType.boolean)).before args0 about1 = true := code_word (m := ⟨13, 5⟩) (meth := k13m5) (c := k13c5) (by decide +kernel) rfl rfl rfl (by decide +kernel)
set_option maxRecDepth 65536 in
theorem w_c46 : (Jvm.Cond.code ({ cls := "java/lang/StringLatin1", name := "equals", desc := "([B[B)Z" } : Jvm.MethodName) jdk_43_method_13_code (3 : Nat) (Option.some Jvm.ClassFile.FieldType.boolean)).before args0 about1 = true := code_word (m := ⟨21, 1⟩) (meth := k21m1) (c := k21c1) (by decide +kernel) rfl rfl rfl (by decide +kernel)
def codes1 : List Jvm.Cond := [Jvm.Cond.code x code maxLocals ret, Jvm.Cond.code ({ cls := "com/example/custody/custody/container/ComputingInformation", name := "<init>", desc := "([B[B[B[B)V" } : Jvm.MethodName) prog_11_method_1_code (5 : Nat) (Option.none : Option Jvm.ClassFile.FieldType), Jvm.Cond.code ({ cls := "java/lang/Object", name := "<init>", desc := "()V" } : Jvm.MethodName) object_method_1_code (1 : Nat) (Option.none : Option Jvm.ClassFile.FieldType), Jvm.Cond.code ({ cls := "com/example/custody/custody/container/ComputingInformation", name := "text", desc := "()Ljava/lang/String;" } : Jvm.MethodName) prog_11_method_2_code (2 : Nat) (Option.some (Jvm.ClassFile.FieldType.object "java/lang/String")), Jvm.Cond.code ({ cls := "java/util/Base64", name := "getEncoder", desc := "()Ljava/util/Base64$Encoder;" } : Jvm.MethodName) jdk_2448_method_2_code (0 : Nat) (Option.some (Jvm.ClassFile.FieldType.object "java/util/Base64$Encoder")), Jvm.Cond.code ({ cls := "java/lang/StringBuilder", name := "<init>", desc := "()V" } : Jvm.MethodName) jdk_67_method_1_code (1 : Nat) (Option.none : Option Jvm.ClassFile.FieldType), Jvm.Cond.code ({ cls := "java/lang/AbstractStringBuilder", name := "<init>", desc := "(I)V" } : Jvm.MethodName) jdk_68_method_2_code (2 : Nat) (Option.none : Option Jvm.ClassFile.FieldType), Jvm.Cond.code ({ cls := "java/lang/StringBuilder", name := "append", desc := "(Ljava/lang/String;)Ljava/lang/StringBuilder;" } : Jvm.MethodName) jdk_67_method_7_code (2 : Nat) (Option.some (Jvm.ClassFile.FieldType.object "java/lang/StringBuilder")), Jvm.Cond.code ({ cls := "java/lang/AbstractStringBuilder", name := "append", desc := "(Ljava/lang/String;)Ljava/lang/AbstractStringBuilder;" } : Jvm.MethodName) jdk_68_method_22_code (3 : Nat) (Option.some (Jvm.ClassFile.FieldType.object "java/lang/AbstractStringBuilder")), Jvm.Cond.code ({ cls := "java/lang/String", name := "length", desc := "()I" } : Jvm.MethodName) jdk_42_method_54_code (1 : Nat) (Option.some Jvm.ClassFile.FieldType.int), Jvm.Cond.code ({ cls := "java/lang/String", name := "coder", desc := "()B" } : Jvm.MethodName) jdk_42_method_152_code (1 : Nat) (Option.some Jvm.ClassFile.FieldType.byte), Jvm.Cond.code ({ cls := "java/lang/AbstractStringBuilder", name := "ensureCapacityInternal", desc := "(I)V" } : Jvm.MethodName) jdk_68_method_9_code (3 : Nat) (Option.none : Option Jvm.ClassFile.FieldType), Jvm.Cond.code ({ cls := "java/lang/AbstractStringBuilder", name := "putStringAt", desc := "(ILjava/lang/String;)V" } : Jvm.MethodName) jdk_68_method_73_code (3 : Nat) (Option.none : Option Jvm.ClassFile.FieldType), Jvm.Cond.code ({ cls := "java/lang/AbstractStringBuilder", name := "inflateIfNeededFor", desc := "(Ljava/lang/String;)V" } : Jvm.MethodName) jdk_68_method_71_code (2 : Nat) (Option.none : Option Jvm.ClassFile.FieldType), Jvm.Cond.code ({ cls := "java/lang/String", name := "getBytes", desc := "([BIB)V" } : Jvm.MethodName) jdk_42_method_147_code (4 : Nat) (Option.none : Option Jvm.ClassFile.FieldType), Jvm.Cond.code ({ cls := "java/util/Base64$Encoder", name := "encodeToString", desc := "([B)Ljava/lang/String;" } : Jvm.MethodName) jdk_2452_method_5_code (3 : Nat) (Option.some (Jvm.ClassFile.FieldType.object "java/lang/String")), Jvm.Cond.code ({ cls := "java/util/Base64$Encoder", name := "encode", desc := "([B)[B" } : Jvm.MethodName) jdk_2452_method_3_code (5 : Nat) (Option.some (Jvm.ClassFile.FieldType.array Jvm.ClassFile.FieldType.byte)), Jvm.Cond.code ({ cls := "java/lang/Math", name := "addExact", desc := "(II)I" } : Jvm.MethodName) jdk_29_method_24_code (3 : Nat) (Option.some Jvm.ClassFile.FieldType.int), Jvm.Cond.code ({ cls := "java/lang/Math", name := "multiplyExact", desc := "(II)I" } : Jvm.MethodName) jdk_29_method_28_code (4 : Nat) (Option.some Jvm.ClassFile.FieldType.int), Jvm.Cond.code ({ cls := "java/util/Base64$Encoder", name := "encode0", desc := "([BII[B)I" } : Jvm.MethodName) jdk_2452_method_10_code (16 : Nat) (Option.some Jvm.ClassFile.FieldType.int), Jvm.Cond.code ({ cls := "java/lang/Math", name := "min", desc := "(II)I" } : Jvm.MethodName) jdk_29_method_69_code (2 : Nat) (Option.some Jvm.ClassFile.FieldType.int), Jvm.Cond.code ({ cls := "java/util/Base64$Encoder", name := "encodeBlock", desc := "([BII[BIZ)V" } : Jvm.MethodName) jdk_2452_method_9_code (11 : Nat) (Option.none : Option Jvm.ClassFile.FieldType), Jvm.Cond.code ({ cls := "java/lang/String", name := "<init>", desc := "([BIII)V" } : Jvm.MethodName) jdk_42_method_7_code (7 : Nat) (Option.none : Option Jvm.ClassFile.FieldType), Jvm.Cond.code ({ cls := "java/lang/String", name := "checkBoundsOffCount", desc := "(III)I" } : Jvm.MethodName) jdk_42_method_157_code (3 : Nat) (Option.some Jvm.ClassFile.FieldType.int), Jvm.Cond.code ({ cls := "jdk/internal/util/Preconditions", name := "checkFromIndexSize", desc := "(IIILjava/util/function/BiFunction;)I" } : Jvm.MethodName) jdk_41_method_13_code (4 : Nat) (Option.some Jvm.ClassFile.FieldType.int), Jvm.Cond.code ({ cls := "java/util/Arrays", name := "copyOfRange", desc := "([BII)[B" } : Jvm.MethodName) jdk_65_method_132_code (3 : Nat) (Option.some (Jvm.ClassFile.FieldType.array Jvm.ClassFile.FieldType.byte)), Jvm.Cond.code ({ cls := "java/lang/AbstractStringBuilder", name := "newCapacity", desc := "(I)I" } : Jvm.MethodName) jdk_68_method_10_code (6 : Nat) (Option.some Jvm.ClassFile.FieldType.int), Jvm.Cond.code ({ cls := "jdk/internal/util/ArraysSupport", name := "newLength", desc := "(III)I" } : Jvm.MethodName) jdk_48_method_27_code (4 : Nat) (Option.some Jvm.ClassFile.FieldType.int), Jvm.Cond.code ({ cls := "java/lang/Math", name := "max", desc := "(II)I" } : Jvm.MethodName) jdk_29_method_65_code (2 : Nat) (Option.some Jvm.ClassFile.FieldType.int), Jvm.Cond.code ({ cls := "java/util/Arrays", name := "copyOf", desc := "([BI)[B" } : Jvm.MethodName) jdk_65_method_121_code (3 : Nat) (Option.some (Jvm.ClassFile.FieldType.array Jvm.ClassFile.FieldType.byte)), Jvm.Cond.code ({ cls := "java/lang/StringBuilder", name := "toString", desc := "()Ljava/lang/String;" } : Jvm.MethodName) jdk_67_method_42_code (1 : Nat) (Option.some (Jvm.ClassFile.FieldType.object "java/lang/String")), Jvm.Cond.code ({ cls := "java/lang/String", name := "<init>", desc := "(Ljava/lang/StringBuilder;)V" } : Jvm.MethodName) jdk_42_method_53_code (2 : Nat) (Option.none : Option Jvm.ClassFile.FieldType), Jvm.Cond.code ({ cls := "java/lang/String", name := "<init>", desc := "(Ljava/lang/AbstractStringBuilder;Ljava/lang/Void;)V" } : Jvm.MethodName) jdk_42_method_150_code (5 : Nat) (Option.none : Option Jvm.ClassFile.FieldType), Jvm.Cond.code ({ cls := "java/lang/AbstractStringBuilder", name := "getValue", desc := "()[B" } : Jvm.MethodName) jdk_68_method_64_code (1 : Nat) (Option.some (Jvm.ClassFile.FieldType.array Jvm.ClassFile.FieldType.byte)), Jvm.Cond.code ({ cls := "java/lang/StringBuilder", name := "length", desc := "()I" } : Jvm.MethodName) jdk_67_method_93_code (1 : Nat) (Option.some Jvm.ClassFile.FieldType.int), Jvm.Cond.code ({ cls := "java/lang/AbstractStringBuilder", name := "length", desc := "()I" } : Jvm.MethodName) jdk_68_method_6_code (1 : Nat) (Option.some Jvm.ClassFile.FieldType.int), Jvm.Cond.code ({ cls := "java/lang/AbstractStringBuilder", name := "isLatin1", desc := "()Z" } : Jvm.MethodName) jdk_68_method_68_code (1 : Nat) (Option.some Jvm.ClassFile.FieldType.boolean), Jvm.Cond.code ({ cls := "java/util/Arrays", name := "copyOfRangeByte", desc := "([BII)[B" } : Jvm.MethodName) jdk_65_method_133_code (5 : Nat) (Option.some (Jvm.ClassFile.FieldType.array Jvm.ClassFile.FieldType.byte)), Jvm.Cond.code ({ cls := "java/util/Arrays", name := "checkLength", desc := "(II)V" } : Jvm.MethodName) jdk_65_method_131_code (2 : Nat) (Option.none : Option Jvm.ClassFile.FieldType), Jvm.Cond.code ({ cls := "com/example/custody/custody/container/ComputingInformationTextPinLaw", name := "b64", desc := "(I)C" } : Jvm.MethodName) method_2_code (1 : Nat) (Option.some Jvm.ClassFile.FieldType.char), Jvm.Cond.code ({ cls := "java/lang/String", name := "<init>", desc := "([C)V" } : Jvm.MethodName) jdk_42_method_3_code (2 : Nat) (Option.none : Option Jvm.ClassFile.FieldType), Jvm.Cond.code ({ cls := "java/lang/String", name := "<init>", desc := "([CIILjava/lang/Void;)V" } : Jvm.MethodName) jdk_42_method_149_code (6 : Nat) (Option.none : Option Jvm.ClassFile.FieldType), Jvm.Cond.code ({ cls := "java/lang/StringUTF16", name := "compress", desc := "([CII)[B" } : Jvm.MethodName) jdk_52_method_16_code (6 : Nat) (Option.some (Jvm.ClassFile.FieldType.array Jvm.ClassFile.FieldType.byte)), Jvm.Cond.code ({ cls := "java/lang/StringUTF16", name := "compress", desc := "([CI[BII)I" } : Jvm.MethodName) jdk_52_method_21_code (7 : Nat) (Option.some Jvm.ClassFile.FieldType.int), Jvm.Cond.code ({ cls := "java/lang/StringUTF16", name := "coderFromArrayLen", desc := "([BI)B" } : Jvm.MethodName) jdk_52_method_15_code (2 : Nat) (Option.some Jvm.ClassFile.FieldType.byte), Jvm.Cond.code ({ cls := "java/lang/String", name := "equals", desc := "(Ljava/lang/Object;)Z" } : Jvm.MethodName) jdk_42_method_66_code (3 : Nat) (Option.some Jvm.ClassFile.FieldType.boolean), Jvm.Cond.code ({ cls := "java/lang/StringLatin1", name := "equals", desc := "([B[B)Z" } : Jvm.MethodName) jdk_43_method_13_code (3 : Nat) (Option.some Jvm.ClassFile.FieldType.boolean)]
set_option maxRecDepth 65536 in
theorem codes_eq : words1.filter isCode = codes1 := rfl
theorem w_codes : ∀ c ∈ words1.filter isCode, c.before args0 about1 = true := by
  rw [codes_eq]
  intro c hc
  simp only [codes1, List.mem_cons, List.not_mem_nil, or_false] at hc
  rcases hc with rfl | rfl | rfl | rfl | rfl | rfl | rfl | rfl | rfl | rfl | rfl | rfl | rfl | rfl | rfl | rfl | rfl | rfl | rfl | rfl | rfl | rfl | rfl | rfl | rfl | rfl | rfl | rfl | rfl | rfl | rfl | rfl | rfl | rfl | rfl | rfl | rfl | rfl | rfl | rfl | rfl | rfl | rfl | rfl | rfl | rfl | rfl
  · exact w_c0
  · exact w_c1
  · exact w_c2
  · exact w_c3
  · exact w_c4
  · exact w_c5
  · exact w_c6
  · exact w_c7
  · exact w_c8
  · exact w_c9
  · exact w_c10
  · exact w_c11
  · exact w_c12
  · exact w_c13
  · exact w_c14
  · exact w_c15
  · exact w_c16
  · exact w_c17
  · exact w_c18
  · exact w_c19
  · exact w_c20
  · exact w_c21
  · exact w_c22
  · exact w_c23
  · exact w_c24
  · exact w_c25
  · exact w_c26
  · exact w_c27
  · exact w_c28
  · exact w_c29
  · exact w_c30
  · exact w_c31
  · exact w_c32
  · exact w_c33
  · exact w_c34
  · exact w_c35
  · exact w_c36
  · exact w_c37
  · exact w_c38
  · exact w_c39
  · exact w_c40
  · exact w_c41
  · exact w_c42
  · exact w_c43
  · exact w_c44
  · exact w_c45
  · exact w_c46
set_option maxRecDepth 65536 in
theorem w_t1 : (words1.take 24).all (fun c => isCode c || c.before args0 about1) = true := by decide +kernel
set_option maxRecDepth 65536 in
theorem w_t2 : ((words1.drop 24).take 24).all (fun c => isCode c || c.before args0 about1) = true := by decide +kernel
set_option maxRecDepth 65536 in
theorem w_t3 : (((words1.drop 24).drop 24).take 24).all (fun c => isCode c || c.before args0 about1) = true := by decide +kernel
set_option maxRecDepth 65536 in
theorem w_t4 : ((((words1.drop 24).drop 24).drop 24).take 24).all (fun c => isCode c || c.before args0 about1) = true := by decide +kernel
set_option maxRecDepth 65536 in
theorem w_t5 : (((((words1.drop 24).drop 24).drop 24).drop 24).take 24).all (fun c => isCode c || c.before args0 about1) = true := by decide +kernel
set_option maxRecDepth 65536 in
theorem w_t6 : ((((((words1.drop 24).drop 24).drop 24).drop 24).drop 24).take 24).all (fun c => isCode c || c.before args0 about1) = true := by decide +kernel
set_option maxRecDepth 65536 in
theorem w_t7 : (((((((words1.drop 24).drop 24).drop 24).drop 24).drop 24).drop 24).take 24).all (fun c => isCode c || c.before args0 about1) = true := by decide +kernel
set_option maxRecDepth 65536 in
theorem w_t8 : ((((((((words1.drop 24).drop 24).drop 24).drop 24).drop 24).drop 24).drop 24).take 24).all (fun c => isCode c || c.before args0 about1) = true := by decide +kernel
set_option maxRecDepth 65536 in
theorem w_t9 : (((((((((words1.drop 24).drop 24).drop 24).drop 24).drop 24).drop 24).drop 24).drop 24).take 24).all (fun c => isCode c || c.before args0 about1) = true := by decide +kernel
set_option maxRecDepth 65536 in
theorem w_t10 : ((((((((((words1.drop 24).drop 24).drop 24).drop 24).drop 24).drop 24).drop 24).drop 24).drop 24).take 24).all (fun c => isCode c || c.before args0 about1) = true := by decide +kernel
set_option maxRecDepth 65536 in
theorem w_t11 : (((((((((((words1.drop 24).drop 24).drop 24).drop 24).drop 24).drop 24).drop 24).drop 24).drop 24).drop 24).take 24).all (fun c => isCode c || c.before args0 about1) = true := by decide +kernel
set_option maxRecDepth 65536 in
theorem w_t12 : (((((((((((words1.drop 24).drop 24).drop 24).drop 24).drop 24).drop 24).drop 24).drop 24).drop 24).drop 24).drop 24).all (fun c => isCode c || c.before args0 about1) = true := by decide +kernel
theorem w_tables : (allAtoms (Jvm.Cond.code x code maxLocals ret :: tables_1)).before args0 about1 = true := by
  rw [allAtoms_all]
  show words1.all (fun c => c.before args0 about1) = true
  refine all_split ?_ w_codes
  rw [← List.take_append_drop 24 words1, List.all_append, w_t1, ← List.take_append_drop 24 (words1.drop 24), List.all_append, w_t2, ← List.take_append_drop 24 ((words1.drop 24).drop 24), List.all_append, w_t3, ← List.take_append_drop 24 (((words1.drop 24).drop 24).drop 24), List.all_append, w_t4, ← List.take_append_drop 24 ((((words1.drop 24).drop 24).drop 24).drop 24), List.all_append, w_t5, ← List.take_append_drop 24 (((((words1.drop 24).drop 24).drop 24).drop 24).drop 24), List.all_append, w_t6, ← List.take_append_drop 24 ((((((words1.drop 24).drop 24).drop 24).drop 24).drop 24).drop 24), List.all_append, w_t7, ← List.take_append_drop 24 (((((((words1.drop 24).drop 24).drop 24).drop 24).drop 24).drop 24).drop 24), List.all_append, w_t8, ← List.take_append_drop 24 ((((((((words1.drop 24).drop 24).drop 24).drop 24).drop 24).drop 24).drop 24).drop 24), List.all_append, w_t9, ← List.take_append_drop 24 (((((((((words1.drop 24).drop 24).drop 24).drop 24).drop 24).drop 24).drop 24).drop 24).drop 24), List.all_append, w_t10, ← List.take_append_drop 24 ((((((((((words1.drop 24).drop 24).drop 24).drop 24).drop 24).drop 24).drop 24).drop 24).drop 24).drop 24), List.all_append, w_t11, w_t12]
  rfl
set_option maxRecDepth 65536 in
theorem w_rest : rest_1_c.before args0 about1 = true := by decide +kernel
set_option maxRecDepth 65536 in
theorem w_case : (Jvm.Cond.and given_1 narrow_1).before args0 about1 = true := by decide +kernel
set_option maxRecDepth 65536 in
theorem w_consts : constsHeld consts_1 about1 := Jvm.Lit.constsHeldB_iff.mp (by decide +kernel)
theorem w_applies : (headSpec (Jvm.Cond.code x code maxLocals ret :: tables_1) room_1).applies x e0.platform about1 = true :=
  (Spec.applies_iff w_frames).mpr ⟨w_running, w_runnable, w_alone, w_named, w_hears, w_ripe, w_room, w_tables⟩
theorem atStart : AtStart classFile x code maxLocals ret World_1 tables_1 room_1 Calls_1 rest_1 Pre_1 launch0 p0 e0 about1 theMethod args0 below0 :=
  ⟨lists_1, trivial, launch0.admits_env _ _ _, launch0.least_env, fairChoices_fair.cas, fairChoices_fair.clock, w_frames, w_args, w_heap, w_applies, ⟨w_consts, trivial⟩, w_rest, w_case⟩
end start1
theorem witness_1 : WitnessClaimed_1 := ⟨start1.p0, start1.e0, start1.about1, start1.theMethod, start1.args0, start1.below0, start1.atStart⟩
end Jvm.Pilot.@@N@@
