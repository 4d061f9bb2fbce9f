import JvmDerived
import JvmDerived.Pilot.@@N@@Statement
import JvmDerived.Pilot.@@N@@Code
set_option linter.unusedVariables false
set_option linter.unusedSimpArgs false

namespace Jvm.OwnW
open Sem ClassFile Op Lib Jvm.Stand Jvm.Free Jvm.LawKit Jvm.RoadKit
theorem own_notFace {s : State} {args : Array Value} {C7 : String} {x7 z7 y : MethodName} (w : (Cond.selects C7 x7 z7).before args s = true) (hc : z7.cls = y.cls) : NotFace s y := fun r0 h0 => by
  obtain ⟨c, r, m, q1, q2, q3, q4, mk, q5, q6⟩ := Cond.selects_spec w
  have e1 := findClass_of_methodNamed q3
  have e2 := findClass_of_methodNamed h0
  rw [hc] at e1
  have e3 : m.cls = r0.cls := Option.some.inj (e1.symm.trans e2)
  exact ⟨mk, e3 ▸ q5, q6⟩
/-- a method: its name, bytes, number of variables, return type, room -/
abbrev MD := MethodName × ByteArray × Nat × Option FieldType × Room
/-- what a wide walk knows besides: the String constants that it reads, and addresses that are no such String's -/
abbrev PX := List (String × Nat) × (Addr → Prop)
abbrev PX.grow (P : PX) (h h' : Heap) : PX := (P.1, fun x => P.2 x ∨ (h.size ≤ x ∧ x < h'.size))
/-- x is none of the constants' cells -/
def Sf (Z : State) (P : PX) (h : Heap) (x : Addr) : Prop := P.2 x ∨ ∀ vm, Z.vm.Alike vm → Safe Z P.1 vm h x
/-- the state over which the walk stands: the start itself, or (wide) the start with later tables -/
def KB (wd : Bool) (Z : State) (P : PX) (s s' : State) (h : Heap) : Prop :=
  (wd = false ∧ s' = s) ∨ (wd = true ∧ ∃ vm0 k0, s' = s.setVm vm0 ∧ s.Since vm0 k0 ∧ k0 ≤ h.size ∧ CHr Z P.1 s.vm s.heap vm0 h ∧ ∀ x, P.2 x → Safe Z P.1 vm0 h x ∧ x < h.size)
theorem KB.keep {wd : Bool} {Z : State} {P : PX} {s s' : State} {h h' : Heap} {ws : List Addr} (B : KB wd Z P s s' h) (hZ : Z.Warmed39 s'.vm) (K : Keep h h' ws) (q : wd = true → ∀ x ∈ ws, Sf Z P h x) : KB wd Z (P.grow h h') s s' h' := by
  rcases B with ⟨a, b⟩ | ⟨a, vm0, k0, rfl, c, d, e, f⟩
  · exact Or.inl ⟨a, b⟩
  · have hs : ∀ x ∈ ws, Safe Z P.1 vm0 h x := fun x hx => (q a x hx).elim (fun r => (f x r).1) (fun r => r vm0 hZ.alike)
    refine Or.inr ⟨a, vm0, k0, rfl, c, Nat.le_trans d K.1, e.trans (CHr.keep K hs e.1), fun x hx => ?_⟩
    rcases hx with hx | ⟨hx, hx'⟩
    · exact ⟨Safe.keep K hs e.1 (f x hx).1, Nat.lt_of_lt_of_le (f x hx).2 K.1⟩
    · exact ⟨Safe.keep K hs e.1 (Safe.new hx), hx'⟩
theorem KB.ext {wd : Bool} {Z : State} {P : PX} {s s' : State} {h h' : Heap} (B : KB wd Z P s s' h) (E : Ext h h') : KB wd Z (P.grow h h') s s' h' := by
  rcases B with ⟨a, b⟩ | ⟨a, vm0, k0, rfl, c, d, e, f⟩
  · exact Or.inl ⟨a, b⟩
  · refine Or.inr ⟨a, vm0, k0, rfl, c, Nat.le_trans d E.1, e.trans (CHr.ext E e.1), fun x hx => ?_⟩
    rcases hx with hx | ⟨hx, hx'⟩
    · exact ⟨Safe.ext E e.1 (f x hx).1, Nat.lt_of_lt_of_le (f x hx).2 E.1⟩
    · exact ⟨Safe.ext E e.1 (Safe.new hx), hx'⟩
theorem KB.wr {wd : Bool} {Z : State} {P : PX} {s s' : State} {h h' : Heap} {a : Addr} {sl : Nat} {v : Value} (B : KB wd Z P s s' h) (hZ : Z.Warmed39 s'.vm) (W : Wr h h' a sl v) (q : wd = true → Sf Z P h a) : KB wd Z P s s' h' := by
  rcases B with ⟨a, b⟩ | ⟨a, vm0, k0, rfl, c, d, e, f⟩
  · exact Or.inl ⟨a, b⟩
  · have hs : Safe Z P.1 vm0 h _ := (q a).elim (fun r => (f _ r).1) (fun r => r vm0 hZ.alike)
    exact Or.inr ⟨a, vm0, k0, rfl, c, by rw [W.size]; exact d, e.trans (CHr.wr W hs e.1), fun x hx => ⟨Safe.wr W hs e.1 (f x hx).1, by rw [W.size]; exact (f x hx).2⟩⟩
theorem KB.sub {wd : Bool} {Z : State} {P : PX} {S' : Addr → Prop} {s s' : State} {h : Heap} (B : KB wd Z P s s' h) (q : ∀ x, S' x → P.2 x) : KB wd Z (P.1, S') s s' h :=
  B.imp id fun ⟨a, vm0, k0, b, c, d, e, f⟩ => ⟨a, vm0, k0, b, c, d, e, fun x hx => f x (q x hx)⟩
def KE (wd : Bool) (Z s : State) (v : Option Value) (t : State) (L : List Loc) (EL : List (String × Nat)) (k n : Nat) : Prop :=
  (wd = false ∧ FrameEnd s (.returned v) t L k n) ∨ (wd = true ∧ CHr Z EL s.vm s.heap t.vm t.heap ∧ ReturnedEndW s (.returned v) t L k n)
/-- the walk's judgement: from here the method returns, and what it leaves meets Q -/
def KW (wd : Bool) (l : Launch) (Z : State) (M : MD) (n0 : Nat) (Q : Option Value → Heap → Prop) (P : PX) (h : Heap) (k n : Nat) (pc : Nat) (Ls : Array Slot) (st : List Value) : Prop :=
  ∀ (p : Program) (e : Env) (s s' : State) (m : MethodId) (args : Array Value) (below : List Frame) (meth : Method) (c : Code),
    p.tables.exec = Jvm.exec → c.code = M.2.1 → c.maxLocals = M.2.2.1 → s'.vm.findClass M.1.cls = some m.cls → meth.name = M.1.name → meth.sig.returnType = M.2.2.2.1 → meth.locks = false → Z.Warmed39 s'.vm → KB wd Z P s s' h → (wd = true → ∃ a0, EW Z a0 P.1) →
    ∀ (T : State) (locs : List Loc), Stand p l e M.2.2.2.2 s' m args below meth c T locs k n → Fr n0 locs → T.heap = h →
    ∃ t v L, Steps p.tables e below (T.setTop (mkF m pc Ls st)) t ∧ t.status = .running ∧ Ended t below (.returned v) ∧ Fr n0 L ∧ Q v t.heap ∧ KE wd Z s v t L P.1 M.2.2.2.2.cells M.2.2.2.2.slots
section
variable {wd : Bool} {l : Launch} {Z : State} {M : MD} {n0 : Nat} {Q : Option Value → Heap → Prop} {P : PX} {h : Heap} {k n pc pc' : Nat} {Ls Ls' : Array Slot} {st st' rest : List Value} {a0 : Array Value}
theorem KW.step (W : KW wd l Z M n0 Q P h k n pc' Ls' st') (f : ∀ (p : Program) (e : Env) (s' T : State) (m : MethodId) (args : Array Value) (below : List Frame) (meth : Method) (c : Code) (locs : List Loc), p.tables.exec = Jvm.exec → c.code = M.2.1 → s'.vm.findClass M.1.cls = some m.cls → Z.Warmed39 s'.vm → Stand p l e M.2.2.2.2 s' m args below meth c T locs k n →
    ∀ target, Steps p.tables e below (T.setTop (mkF m pc' Ls' st')) target → Steps p.tables e below (T.setTop (mkF m pc Ls st)) target) : KW wd l Z M n0 Q P h k n pc Ls st := by
  intro p e s s' m args below meth c hx hby hml hown hnm hret hlk hZ hB hI T locs X N eT
  obtain ⟨t, v, L, r, rr⟩ := W p e s s' m args below meth c hx hby hml hown hnm hret hlk hZ hB hI T locs X N eT
  exact ⟨t, v, L, f p e s' T m args below meth c locs hx hby hown hZ X t r, rr⟩
theorem KW.move (W : KW wd l Z M n0 Q P h k n pc' Ls' st') (f : ∀ (p : Program) (e : Env) (s' T : State) (m : MethodId) (args : Array Value) (below : List Frame) (meth : Method) (c : Code) (locs : List Loc), p.tables.exec = Jvm.exec → c.code = M.2.1 → c.maxLocals = M.2.2.1 → s'.vm.findClass M.1.cls = some m.cls → Z.Warmed39 s'.vm → Stand p l e M.2.2.2.2 s' m args below meth c T locs k n → T.heap = h →
    ∃ T', Stand p l e M.2.2.2.2 s' m args below meth c T' locs k n ∧ T'.heap = h ∧ ∀ target, Steps p.tables e below (T'.setTop (mkF m pc' Ls' st')) target → Steps p.tables e below (T.setTop (mkF m pc Ls st)) target) : KW wd l Z M n0 Q P h k n pc Ls st := by
  intro p e s s' m args below meth c hx hby hml hown hnm hret hlk hZ hB hI T locs X N eT
  obtain ⟨T', X', eT', st⟩ := f p e s' T m args below meth c locs hx hby hml hown hZ X eT
  obtain ⟨t, v, L, r, rr⟩ := W p e s s' m args below meth c hx hby hml hown hnm hret hlk hZ hB hI T' locs X' N eT'
  exact ⟨t, v, L, st t r, rr⟩
theorem k_aloadN {i : Fin 4} {v : Value} (hd : decode M.2.1 pc = .ok (.aload_n i, 1)) (hp : pc + 1 = pc') (hl : Ls[i.val]? = some (.val v)) (hv : v.isRef = true) (W : KW wd l Z M n0 Q P h k n pc' Ls (v :: st)) : KW wd l Z M n0 Q P h k n pc Ls st := by
  subst hp; exact W.step fun p e s' T m args below meth c locs hx hby hown hZ X target r => XS.aloadN X.here hx rfl (hb hby hd) hl hv r
theorem k_aload {i : Nat} {v : Value} (hd : decode M.2.1 pc = .ok (.aload i, 2)) (hp : pc + 2 = pc') (hl : Ls[i]? = some (.val v)) (hv : v.isRef = true) (W : KW wd l Z M n0 Q P h k n pc' Ls (v :: st)) : KW wd l Z M n0 Q P h k n pc Ls st := by
  subst hp; exact W.step fun p e s' T m args below meth c locs hx hby hown hZ X target r => XS.aload X.here hx rfl (hb hby hd) hl hv r
theorem k_iloadN {i : Fin 4} {v : Int32} (hd : decode M.2.1 pc = .ok (.iload_n i, 1)) (hp : pc + 1 = pc') (hl : Ls[i.val]? = some (.val (.int v))) (W : KW wd l Z M n0 Q P h k n pc' Ls (.int v :: st)) : KW wd l Z M n0 Q P h k n pc Ls st := by
  subst hp; exact W.step fun p e s' T m args below meth c locs hx hby hown hZ X target r => XS.iloadN X.here hx rfl (hb hby hd) hl r
theorem k_iload {i : Nat} {v : Int32} (hd : decode M.2.1 pc = .ok (.iload i, 2)) (hp : pc + 2 = pc') (hl : Ls[i]? = some (.val (.int v))) (W : KW wd l Z M n0 Q P h k n pc' Ls (.int v :: st)) : KW wd l Z M n0 Q P h k n pc Ls st := by
  subst hp; exact W.step fun p e s' T m args below meth c locs hx hby hown hZ X target r => XS.iload X.here hx rfl (hb hby hd) hl r
theorem k_lloadN {i : Fin 4} {v : Int64} (hd : decode M.2.1 pc = .ok (.lload_n i, 1)) (hp : pc + 1 = pc') (hl : Ls[i.val]? = some (.val (.long v))) (W : KW wd l Z M n0 Q P h k n pc' Ls (.long v :: st)) : KW wd l Z M n0 Q P h k n pc Ls st := by
  subst hp; exact W.step fun p e s' T m args below meth c locs hx hby hown hZ X target r => XS.lloadN X.here hx rfl (hb hby hd) hl r
theorem k_lload {i : Nat} {v : Int64} (hd : decode M.2.1 pc = .ok (.lload i, 2)) (hp : pc + 2 = pc') (hl : Ls[i]? = some (.val (.long v))) (W : KW wd l Z M n0 Q P h k n pc' Ls (.long v :: st)) : KW wd l Z M n0 Q P h k n pc Ls st := by
  subst hp; exact W.step fun p e s' T m args below meth c locs hx hby hown hZ X target r => XS.lload X.here hx rfl (hb hby hd) hl r
theorem k_istoreN {i : Fin 4} {x : Int32} (hd : decode M.2.1 pc = .ok (.istore_n i, 1)) (hp : pc + 1 = pc') (hl : storeLocals Ls i.val (.int x) = some Ls') (W : KW wd l Z M n0 Q P h k n pc' Ls' st) : KW wd l Z M n0 Q P h k n pc Ls (.int x :: st) := by
  subst hp; exact W.step fun p e s' T m args below meth c locs hx hby hown hZ X target r => XS.istoreN X.here hx rfl (hb hby hd) rfl hl r
theorem k_istore {i : Nat} {x : Int32} (hd : decode M.2.1 pc = .ok (.istore i, 2)) (hp : pc + 2 = pc') (hl : storeLocals Ls i (.int x) = some Ls') (W : KW wd l Z M n0 Q P h k n pc' Ls' st) : KW wd l Z M n0 Q P h k n pc Ls (.int x :: st) := by
  subst hp; exact W.step fun p e s' T m args below meth c locs hx hby hown hZ X target r => XS.istore X.here hx rfl (hb hby hd) rfl hl r
theorem k_lstoreN {i : Fin 4} {x : Int64} (hd : decode M.2.1 pc = .ok (.lstore_n i, 1)) (hp : pc + 1 = pc') (hl : storeLocals Ls i.val (.long x) = some Ls') (W : KW wd l Z M n0 Q P h k n pc' Ls' st) : KW wd l Z M n0 Q P h k n pc Ls (.long x :: st) := by
  subst hp; exact W.step fun p e s' T m args below meth c locs hx hby hown hZ X target r => XS.lstoreN X.here hx rfl (hb hby hd) rfl hl r
theorem k_lstore {i : Nat} {x : Int64} (hd : decode M.2.1 pc = .ok (.lstore i, 2)) (hp : pc + 2 = pc') (hl : storeLocals Ls i (.long x) = some Ls') (W : KW wd l Z M n0 Q P h k n pc' Ls' st) : KW wd l Z M n0 Q P h k n pc Ls (.long x :: st) := by
  subst hp; exact W.step fun p e s' T m args below meth c locs hx hby hown hZ X target r => XS.lstore X.here hx rfl (hb hby hd) rfl hl r
theorem k_astoreN {i : Fin 4} {x : Value} (hd : decode M.2.1 pc = .ok (.astore_n i, 1)) (hp : pc + 1 = pc') (hv : x.isRef = true) (hl : storeLocals Ls i.val x = some Ls') (W : KW wd l Z M n0 Q P h k n pc' Ls' st) : KW wd l Z M n0 Q P h k n pc Ls (x :: st) := by
  subst hp; exact W.step fun p e s' T m args below meth c locs hx hby hown hZ X target r => XS.astoreN X.here hx rfl (hb hby hd) rfl hv hl r
theorem k_astore {i : Nat} {x : Value} (hd : decode M.2.1 pc = .ok (.astore i, 2)) (hp : pc + 2 = pc') (hv : x.isRef = true) (hl : storeLocals Ls i x = some Ls') (W : KW wd l Z M n0 Q P h k n pc' Ls' st) : KW wd l Z M n0 Q P h k n pc Ls (x :: st) := by
  subst hp; exact W.step fun p e s' T m args below meth c locs hx hby hown hZ X target r => XS.astore X.here hx rfl (hb hby hd) rfl hv hl r
theorem k_iconst {i : Int} {z : Int32} (hd : decode M.2.1 pc = .ok (.iconst i, 1)) (hp : pc + 1 = pc') (hz : Int32.ofInt i = z) (W : KW wd l Z M n0 Q P h k n pc' Ls (.int z :: st)) : KW wd l Z M n0 Q P h k n pc Ls st := by
  subst hp; exact W.step fun p e s' T m args below meth c locs hx hby hown hZ X target r => XS.iconst X.here hx rfl (hb hby hd) (by rw [hz]; exact r)
theorem k_bipush {i : Int} {z : Int32} (hd : decode M.2.1 pc = .ok (.bipush i, 2)) (hp : pc + 2 = pc') (hz : (Int8.ofInt i).toInt32 = z) (W : KW wd l Z M n0 Q P h k n pc' Ls (.int z :: st)) : KW wd l Z M n0 Q P h k n pc Ls st := by
  subst hp; exact W.step fun p e s' T m args below meth c locs hx hby hown hZ X target r => XS.bipush X.here hx rfl (hb hby hd) (by rw [hz]; exact r)
theorem k_sipush {i : Int} {z : Int32} (hd : decode M.2.1 pc = .ok (.sipush i, 3)) (hp : pc + 3 = pc') (hz : (Int16.ofInt i).toInt32 = z) (W : KW wd l Z M n0 Q P h k n pc' Ls (.int z :: st)) : KW wd l Z M n0 Q P h k n pc Ls st := by
  subst hp; exact W.step fun p e s' T m args below meth c locs hx hby hown hZ X target r => XS.sipush X.here hx rfl (hb hby hd) (by rw [hz]; exact r)
theorem k_lconst {i : Fin 2} {z : Int64} (hd : decode M.2.1 pc = .ok (.lconst i, 1)) (hp : pc + 1 = pc') (hz : Int64.ofNat i = z) (W : KW wd l Z M n0 Q P h k n pc' Ls (.long z :: st)) : KW wd l Z M n0 Q P h k n pc Ls st := by
  subst hp; exact W.step fun p e s' T m args below meth c locs hx hby hown hZ X target r => XS.lconst X.here hx rfl (hb hby hd) (by rw [hz]; exact r)
theorem k_aconstNull (hd : decode M.2.1 pc = .ok (.aconst_null, 1)) (hp : pc + 1 = pc') (W : KW wd l Z M n0 Q P h k n pc' Ls (.null :: st)) : KW wd l Z M n0 Q P h k n pc Ls st := by
  subst hp; exact W.step fun p e s' T m args below meth c locs hx hby hown hZ X target r => XS.aconstNull X.here hx rfl (hb hby hd) r
theorem k_iadd {x y : Int32} (hd : decode M.2.1 pc = .ok (.iadd, 1)) (hp : pc + 1 = pc') (W : KW wd l Z M n0 Q P h k n pc' Ls (.int (x + y) :: st)) : KW wd l Z M n0 Q P h k n pc Ls (.int y :: .int x :: st) := by
  subst hp; exact W.step fun p e s' T m args below meth c locs hx hby hown hZ X target r => XS.iadd X.here hx rfl (hb hby hd) rfl r
theorem k_isub {x y : Int32} (hd : decode M.2.1 pc = .ok (.isub, 1)) (hp : pc + 1 = pc') (W : KW wd l Z M n0 Q P h k n pc' Ls (.int (x - y) :: st)) : KW wd l Z M n0 Q P h k n pc Ls (.int y :: .int x :: st) := by
  subst hp; exact W.step fun p e s' T m args below meth c locs hx hby hown hZ X target r => XS.isub X.here hx rfl (hb hby hd) rfl r
theorem k_iand {x y : Int32} (hd : decode M.2.1 pc = .ok (.iand, 1)) (hp : pc + 1 = pc') (W : KW wd l Z M n0 Q P h k n pc' Ls (.int (x &&& y) :: st)) : KW wd l Z M n0 Q P h k n pc Ls (.int y :: .int x :: st) := by
  subst hp; exact W.step fun p e s' T m args below meth c locs hx hby hown hZ X target r => XS.iand X.here hx rfl (hb hby hd) rfl r
theorem k_imul {x y : Int32} (hd : decode M.2.1 pc = .ok (.imul, 1)) (hp : pc + 1 = pc') (W : KW wd l Z M n0 Q P h k n pc' Ls (.int (x * y) :: st)) : KW wd l Z M n0 Q P h k n pc Ls (.int y :: .int x :: st) := by
  subst hp; exact W.step fun p e s' T m args below meth c locs hx hby hown hZ X target r => XS.imul X.here hx rfl (hb hby hd) rfl r
theorem k_ixor {x y : Int32} (hd : decode M.2.1 pc = .ok (.ixor, 1)) (hp : pc + 1 = pc') (W : KW wd l Z M n0 Q P h k n pc' Ls (.int (x ^^^ y) :: st)) : KW wd l Z M n0 Q P h k n pc Ls (.int y :: .int x :: st) := by
  subst hp; exact W.step fun p e s' T m args below meth c locs hx hby hown hZ X target r => XS.ixor X.here hx rfl (hb hby hd) rfl r
theorem k_ior {x y : Int32} (hd : decode M.2.1 pc = .ok (.ior, 1)) (hp : pc + 1 = pc') (W : KW wd l Z M n0 Q P h k n pc' Ls (.int (x ||| y) :: st)) : KW wd l Z M n0 Q P h k n pc Ls (.int y :: .int x :: st) := by
  subst hp; exact W.step fun p e s' T m args below meth c locs hx hby hown hZ X target r => XS.ior X.here hx rfl (hb hby hd) rfl r
theorem k_ishl {x y : Int32} (hd : decode M.2.1 pc = .ok (.ishl, 1)) (hp : pc + 1 = pc') (W : KW wd l Z M n0 Q P h k n pc' Ls (.int (x <<< (y &&& 31)) :: st)) : KW wd l Z M n0 Q P h k n pc Ls (.int y :: .int x :: st) := by
  subst hp; exact W.step fun p e s' T m args below meth c locs hx hby hown hZ X target r => XS.ishl X.here hx rfl (hb hby hd) rfl r
theorem k_ishr {x y : Int32} (hd : decode M.2.1 pc = .ok (.ishr, 1)) (hp : pc + 1 = pc') (W : KW wd l Z M n0 Q P h k n pc' Ls (.int (x >>> (y &&& 31)) :: st)) : KW wd l Z M n0 Q P h k n pc Ls (.int y :: .int x :: st) := by
  subst hp; exact W.step fun p e s' T m args below meth c locs hx hby hown hZ X target r => XS.ishr X.here hx rfl (hb hby hd) rfl r
theorem k_iushr {x y : Int32} (hd : decode M.2.1 pc = .ok (.iushr, 1)) (hp : pc + 1 = pc') (W : KW wd l Z M n0 Q P h k n pc' Ls (.int ((x.toUInt32 >>> (y &&& 31).toUInt32).toInt32) :: st)) : KW wd l Z M n0 Q P h k n pc Ls (.int y :: .int x :: st) := by
  subst hp; exact W.step fun p e s' T m args below meth c locs hx hby hown hZ X target r => XS.iushr X.here hx rfl (hb hby hd) rfl r
theorem k_idiv {x y : Int32} (hd : decode M.2.1 pc = .ok (.idiv, 1)) (hp : pc + 1 = pc') (hy : y ≠ 0) (W : KW wd l Z M n0 Q P h k n pc' Ls (.int (x / y) :: st)) : KW wd l Z M n0 Q P h k n pc Ls (.int y :: .int x :: st) := by
  subst hp; exact W.step fun p e s' T m args below meth c locs hx hby hown hZ X target r => XS.idiv X.here hx rfl (hb hby hd) rfl hy r
theorem k_irem {x y : Int32} (hd : decode M.2.1 pc = .ok (.irem, 1)) (hp : pc + 1 = pc') (hy : y ≠ 0) (W : KW wd l Z M n0 Q P h k n pc' Ls (.int (x % y) :: st)) : KW wd l Z M n0 Q P h k n pc Ls (.int y :: .int x :: st) := by
  subst hp; exact W.step fun p e s' T m args below meth c locs hx hby hown hZ X target r => iremM X hx rfl (hb hby hd) rfl hy r
theorem k_ineg {x : Int32} (hd : decode M.2.1 pc = .ok (.ineg, 1)) (hp : pc + 1 = pc') (W : KW wd l Z M n0 Q P h k n pc' Ls (.int (-x) :: st)) : KW wd l Z M n0 Q P h k n pc Ls (.int x :: st) := by
  subst hp; exact W.step fun p e s' T m args below meth c locs hx hby hown hZ X target r => XS.ineg X.here hx rfl (hb hby hd) rfl r
theorem k_ladd {x y : Int64} (hd : decode M.2.1 pc = .ok (.ladd, 1)) (hp : pc + 1 = pc') (W : KW wd l Z M n0 Q P h k n pc' Ls (.long (x + y) :: st)) : KW wd l Z M n0 Q P h k n pc Ls (.long y :: .long x :: st) := by
  subst hp; exact W.step fun p e s' T m args below meth c locs hx hby hown hZ X target r => XS.ladd X.here hx rfl (hb hby hd) rfl r
theorem k_lsub {x y : Int64} (hd : decode M.2.1 pc = .ok (.lsub, 1)) (hp : pc + 1 = pc') (W : KW wd l Z M n0 Q P h k n pc' Ls (.long (x - y) :: st)) : KW wd l Z M n0 Q P h k n pc Ls (.long y :: .long x :: st) := by
  subst hp; exact W.step fun p e s' T m args below meth c locs hx hby hown hZ X target r => XS.lsub X.here hx rfl (hb hby hd) rfl r
theorem k_lmul {x y : Int64} (hd : decode M.2.1 pc = .ok (.lmul, 1)) (hp : pc + 1 = pc') (W : KW wd l Z M n0 Q P h k n pc' Ls (.long (x * y) :: st)) : KW wd l Z M n0 Q P h k n pc Ls (.long y :: .long x :: st) := by
  subst hp; exact W.step fun p e s' T m args below meth c locs hx hby hown hZ X target r => XS.lmul X.here hx rfl (hb hby hd) rfl r
theorem k_land {x y : Int64} (hd : decode M.2.1 pc = .ok (.land, 1)) (hp : pc + 1 = pc') (W : KW wd l Z M n0 Q P h k n pc' Ls (.long (x &&& y) :: st)) : KW wd l Z M n0 Q P h k n pc Ls (.long y :: .long x :: st) := by
  subst hp; exact W.step fun p e s' T m args below meth c locs hx hby hown hZ X target r => XS.land X.here hx rfl (hb hby hd) rfl r
theorem k_lor {x y : Int64} (hd : decode M.2.1 pc = .ok (.lor, 1)) (hp : pc + 1 = pc') (W : KW wd l Z M n0 Q P h k n pc' Ls (.long (x ||| y) :: st)) : KW wd l Z M n0 Q P h k n pc Ls (.long y :: .long x :: st) := by
  subst hp; exact W.step fun p e s' T m args below meth c locs hx hby hown hZ X target r => XS.lor X.here hx rfl (hb hby hd) rfl r
theorem k_lxor {x y : Int64} (hd : decode M.2.1 pc = .ok (.lxor, 1)) (hp : pc + 1 = pc') (W : KW wd l Z M n0 Q P h k n pc' Ls (.long (x ^^^ y) :: st)) : KW wd l Z M n0 Q P h k n pc Ls (.long y :: .long x :: st) := by
  subst hp; exact W.step fun p e s' T m args below meth c locs hx hby hown hZ X target r => XS.lxor X.here hx rfl (hb hby hd) rfl r
theorem k_ldiv {x y : Int64} (hd : decode M.2.1 pc = .ok (.ldiv, 1)) (hp : pc + 1 = pc') (hy : y ≠ 0) (W : KW wd l Z M n0 Q P h k n pc' Ls (.long (x / y) :: st)) : KW wd l Z M n0 Q P h k n pc Ls (.long y :: .long x :: st) := by
  subst hp; exact W.step fun p e s' T m args below meth c locs hx hby hown hZ X target r => XS.ldiv X.here hx rfl (hb hby hd) rfl hy r
theorem k_lrem {x y : Int64} (hd : decode M.2.1 pc = .ok (.lrem, 1)) (hp : pc + 1 = pc') (hy : y ≠ 0) (W : KW wd l Z M n0 Q P h k n pc' Ls (.long (x % y) :: st)) : KW wd l Z M n0 Q P h k n pc Ls (.long y :: .long x :: st) := by
  subst hp; exact W.step fun p e s' T m args below meth c locs hx hby hown hZ X target r => XS.lrem X.here hx rfl (hb hby hd) rfl hy (by rw [lrem_mod]; exact r)
theorem k_lshl {x : Int64} {y : Int32} (hd : decode M.2.1 pc = .ok (.lshl, 1)) (hp : pc + 1 = pc') (W : KW wd l Z M n0 Q P h k n pc' Ls (.long (x <<< (y &&& 63).toInt64) :: st)) : KW wd l Z M n0 Q P h k n pc Ls (.int y :: .long x :: st) := by
  subst hp; exact W.step fun p e s' T m args below meth c locs hx hby hown hZ X target r => XS.lshl X.here hx rfl (hb hby hd) rfl r
theorem k_lshr {x : Int64} {y : Int32} (hd : decode M.2.1 pc = .ok (.lshr, 1)) (hp : pc + 1 = pc') (W : KW wd l Z M n0 Q P h k n pc' Ls (.long (x >>> (y &&& 63).toInt64) :: st)) : KW wd l Z M n0 Q P h k n pc Ls (.int y :: .long x :: st) := by
  subst hp; exact W.step fun p e s' T m args below meth c locs hx hby hown hZ X target r => XS.lshr X.here hx rfl (hb hby hd) rfl r
theorem k_lushr {x : Int64} {y : Int32} (hd : decode M.2.1 pc = .ok (.lushr, 1)) (hp : pc + 1 = pc') (W : KW wd l Z M n0 Q P h k n pc' Ls (.long ((x.toUInt64 >>> (y &&& 63).toInt64.toUInt64).toInt64) :: st)) : KW wd l Z M n0 Q P h k n pc Ls (.int y :: .long x :: st) := by
  subst hp; exact W.step fun p e s' T m args below meth c locs hx hby hown hZ X target r => XS.lushr X.here hx rfl (hb hby hd) rfl r
theorem k_i2l {x : Int32} (hd : decode M.2.1 pc = .ok (.i2l, 1)) (hp : pc + 1 = pc') (W : KW wd l Z M n0 Q P h k n pc' Ls (.long (x.toInt64) :: st)) : KW wd l Z M n0 Q P h k n pc Ls (.int x :: st) := by
  subst hp; exact W.step fun p e s' T m args below meth c locs hx hby hown hZ X target r => XS.i2l X.here hx rfl (hb hby hd) rfl r
theorem k_i2b {x : Int32} (hd : decode M.2.1 pc = .ok (.i2b, 1)) (hp : pc + 1 = pc') (W : KW wd l Z M n0 Q P h k n pc' Ls (.int (x.toInt8.toInt32) :: st)) : KW wd l Z M n0 Q P h k n pc Ls (.int x :: st) := by
  subst hp; exact W.step fun p e s' T m args below meth c locs hx hby hown hZ X target r => XS.i2b X.here hx rfl (hb hby hd) rfl r
theorem k_i2c {x : Int32} (hd : decode M.2.1 pc = .ok (.i2c, 1)) (hp : pc + 1 = pc') (W : KW wd l Z M n0 Q P h k n pc' Ls (.int (x.toUInt32.toUInt16.toUInt32.toInt32) :: st)) : KW wd l Z M n0 Q P h k n pc Ls (.int x :: st) := by
  subst hp; exact W.step fun p e s' T m args below meth c locs hx hby hown hZ X target r => XS.i2c X.here hx rfl (hb hby hd) rfl r
theorem k_i2s {x : Int32} (hd : decode M.2.1 pc = .ok (.i2s, 1)) (hp : pc + 1 = pc') (W : KW wd l Z M n0 Q P h k n pc' Ls (.int (x.toInt16.toInt32) :: st)) : KW wd l Z M n0 Q P h k n pc Ls (.int x :: st) := by
  subst hp; exact W.step fun p e s' T m args below meth c locs hx hby hown hZ X target r => XS.i2s X.here hx rfl (hb hby hd) rfl r
theorem k_l2i {x : Int64} (hd : decode M.2.1 pc = .ok (.l2i, 1)) (hp : pc + 1 = pc') (W : KW wd l Z M n0 Q P h k n pc' Ls (.int (x.toInt32) :: st)) : KW wd l Z M n0 Q P h k n pc Ls (.long x :: st) := by
  subst hp; exact W.step fun p e s' T m args below meth c locs hx hby hown hZ X target r => XS.l2i X.here hx rfl (hb hby hd) rfl r
def cmpLV (x y : Int64) : Int32 := if y < x then 1 else if x = y then 0 else -1
theorem k_lcmp {x y : Int64} (hd : decode M.2.1 pc = .ok (.lcmp, 1)) (hp : pc + 1 = pc') (W : KW wd l Z M n0 Q P h k n pc' Ls (.int (cmpLV x y) :: st)) : KW wd l Z M n0 Q P h k n pc Ls (.long y :: .long x :: st) := by
  subst hp; exact W.step fun p e s' T m args below meth c locs hx hby hown hZ X target r => XS.lcmp X.here hx rfl (hb hby hd) rfl r
theorem k_dup {x : Value} (hd : decode M.2.1 pc = .ok (.dup, 1)) (hp : pc + 1 = pc') (hc : x.category = 1) (W : KW wd l Z M n0 Q P h k n pc' Ls (x :: x :: st)) : KW wd l Z M n0 Q P h k n pc Ls (x :: st) := by
  subst hp; exact W.step fun p e s' T m args below meth c locs hx hby hown hZ X target r => XS.dup X.here hx rfl (hb hby hd) rfl hc r
theorem k_pop {x : Value} (hd : decode M.2.1 pc = .ok (.pop, 1)) (hp : pc + 1 = pc') (hc : x.category = 1) (W : KW wd l Z M n0 Q P h k n pc' Ls st) : KW wd l Z M n0 Q P h k n pc Ls (x :: st) := by
  subst hp; exact W.step fun p e s' T m args below meth c locs hx hby hown hZ X target r => XS.pop X.here hx rfl (hb hby hd) rfl hc r
theorem k_dupX1 {x y : Value} (hd : decode M.2.1 pc = .ok (.dup_x1, 1)) (hp : pc + 1 = pc') (hc : x.category = 1) (hc' : y.category = 1) (W : KW wd l Z M n0 Q P h k n pc' Ls (x :: y :: x :: st)) : KW wd l Z M n0 Q P h k n pc Ls (x :: y :: st) := by
  subst hp; exact W.step fun p e s' T m args below meth c locs hx hby hown hZ X target r => XS.dupX1 X.here hx rfl (hb hby hd) rfl hc hc' r
theorem k_dup2 {x y : Value} (hd : decode M.2.1 pc = .ok (.dup2, 1)) (hp : pc + 1 = pc') (hc : x.category = 1) (hc' : y.category = 1) (W : KW wd l Z M n0 Q P h k n pc' Ls (x :: y :: x :: y :: st)) : KW wd l Z M n0 Q P h k n pc Ls (x :: y :: st) := by
  subst hp; exact W.step fun p e s' T m args below meth c locs hx hby hown hZ X target r => XT.dup2 X.here hx rfl (hb hby hd) rfl hc hc' r
theorem k_iinc {i : Nat} {cst : Int} {x z : Int32} (hd : decode M.2.1 pc = .ok (.iinc i cst, 3)) (hp : pc + 3 = pc') (hz : Int32.ofInt cst = z) (hl : Ls[i]? = some (.val (.int x))) (hl' : storeLocals Ls i (.int (x + z)) = some Ls') (W : KW wd l Z M n0 Q P h k n pc' Ls' st) : KW wd l Z M n0 Q P h k n pc Ls st := by
  subst hp; exact W.step fun p e s' T m args below meth c locs hx hby hown hZ X target r => XS.iinc X.here hx rfl (hb hby hd) hl (by rw [hz]; exact hl') r
theorem k_goto {o : Int} (hd : decode M.2.1 pc = .ok (.goto o, 3)) (ho : 0 ≤ (pc : Int) + o) (hp : ((pc : Int) + o).toNat = pc') (W : KW wd l Z M n0 Q P h k n pc' Ls st) : KW wd l Z M n0 Q P h k n pc Ls st :=
  W.step fun p e s' T m args below meth c locs hx hby hown hZ X target r => XS.goto X.here hx rfl rfl (hb hby hd) ho hp r
/-- what a comparison says where it is taken, and where it isn't -/
def icY : ClassFile.Cond → Int32 → Int32 → Prop
  | .eq, x, y => x = y | .ne, x, y => ¬ x = y | .lt, x, y => x < y | .ge, x, y => ¬ x < y | .gt, x, y => y < x | .le, x, y => ¬ y < x
def icN : ClassFile.Cond → Int32 → Int32 → Prop
  | .eq, x, y => ¬ x = y | .ne, x, y => x = y | .lt, x, y => ¬ x < y | .ge, x, y => x < y | .gt, x, y => ¬ y < x | .le, x, y => y < x
theorem ic_t {cd : ClassFile.Cond} {x y : Int32} (q : if_icmp.holds cd x y = true) : icY cd x y := by
  cases cd <;> simp [if_icmp.holds] at q <;> simp only [icY] <;> first | exact q | exact Int32.not_lt.mpr q
theorem ic_f {cd : ClassFile.Cond} {x y : Int32} (q : if_icmp.holds cd x y = false) : icN cd x y := by
  cases cd <;> simp [if_icmp.holds] at q <;> simp only [icN] <;> first | exact q | exact Int32.not_lt.mpr q | exact Int32.not_le.mp q
theorem k_icmp {cd : ClassFile.Cond} {o : Int} {x y : Int32} {pc1 : Nat} (hd : decode M.2.1 pc = .ok (.if_icmp cd o, 3)) (ho : 0 ≤ (pc : Int) + o) (hp1 : ((pc : Int) + o).toNat = pc1) (hp : pc + 3 = pc')
    (W1 : icY cd x y → KW wd l Z M n0 Q P h k n pc1 Ls st) (W2 : icN cd x y → KW wd l Z M n0 Q P h k n pc' Ls st) : KW wd l Z M n0 Q P h k n pc Ls (.int y :: .int x :: st) := by
  cases q : if_icmp.holds cd x y
  · subst hp; exact (W2 (ic_f q)).step fun p e s' T m args below meth c locs hx hby hown hZ X target r => XS.icmpNo X.here hx rfl (hb hby hd) rfl q r
  · exact (W1 (ic_t q)).step fun p e s' T m args below meth c locs hx hby hown hZ X target r => XS.icmpYes X.here hx rfl rfl (hb hby hd) rfl q ho hp1 r
theorem k_ifc {cd : ClassFile.Cond} {o : Int} {x : Int32} {pc1 : Nat} (hd : decode M.2.1 pc = .ok (.ifCond cd o, 3)) (ho : 0 ≤ (pc : Int) + o) (hp1 : ((pc : Int) + o).toNat = pc1) (hp : pc + 3 = pc')
    (W1 : icY cd x 0 → KW wd l Z M n0 Q P h k n pc1 Ls st) (W2 : icN cd x 0 → KW wd l Z M n0 Q P h k n pc' Ls st) : KW wd l Z M n0 Q P h k n pc Ls (.int x :: st) := by
  cases q : ifCond.holds cd x
  · subst hp; exact (W2 (ic_f (by rw [← if0]; exact q))).step fun p e s' T m args below meth c locs hx hby hown hZ X target r => XS.ifNo X.here hx rfl (hb hby hd) rfl q r
  · exact (W1 (ic_t (by rw [← if0]; exact q))).step fun p e s' T m args below meth c locs hx hby hown hZ X target r => XS.ifYes X.here hx rfl rfl (hb hby hd) rfl q ho hp1 r
/-- lcmp and the branch behind it, in one -/
def lcY : ClassFile.Cond → Int64 → Int64 → Prop
  | .eq, x, y => x = y | .ne, x, y => ¬ x = y | .lt, x, y => x < y | .ge, x, y => ¬ x < y | .gt, x, y => y < x | .le, x, y => ¬ y < x
def lcN : ClassFile.Cond → Int64 → Int64 → Prop
  | .eq, x, y => ¬ x = y | .ne, x, y => x = y | .lt, x, y => ¬ x < y | .ge, x, y => x < y | .gt, x, y => ¬ y < x | .le, x, y => y < x
theorem cmpL_V (x y : Int64) : cmpLV x y = lcmpV x y := by simp [cmpLV, lcmpV]
theorem lc_t {cd : ClassFile.Cond} {x y : Int64} (q : icY cd (cmpLV x y) 0) : lcY cd x y := by
  rw [cmpL_V] at q
  cases cd <;> simp only [icY, lcY] at q ⊢
  · exact (lc_eq x y).mp q
  · exact fun e => q ((lc_eq x y).mpr e)
  · exact (lc_lt x y).mp q
  · exact fun e => q ((lc_lt x y).mpr e)
  · exact (lc_gt x y).mp q
  · exact fun e => q ((lc_gt x y).mpr e)
theorem lc_f {cd : ClassFile.Cond} {x y : Int64} (q : icN cd (cmpLV x y) 0) : lcN cd x y := by
  rw [cmpL_V] at q
  cases cd <;> simp only [icN, lcN] at q ⊢
  · exact fun e => q ((lc_eq x y).mpr e)
  · exact (lc_eq x y).mp q
  · exact fun e => q ((lc_lt x y).mpr e)
  · exact (lc_lt x y).mp q
  · exact fun e => q ((lc_gt x y).mpr e)
  · exact (lc_gt x y).mp q
theorem k_lcmpIf {cd : ClassFile.Cond} {o : Int} {x y : Int64} {pc1 pc2 : Nat} (hd0 : decode M.2.1 pc = .ok (.lcmp, 1)) (hp0 : pc + 1 = pc') (hd : decode M.2.1 pc' = .ok (.ifCond cd o, 3)) (ho : 0 ≤ (pc' : Int) + o) (hp1 : ((pc' : Int) + o).toNat = pc1) (hp : pc' + 3 = pc2)
    (W1 : lcY cd x y → KW wd l Z M n0 Q P h k n pc1 Ls st) (W2 : lcN cd x y → KW wd l Z M n0 Q P h k n pc2 Ls st) : KW wd l Z M n0 Q P h k n pc Ls (.long y :: .long x :: st) :=
  k_lcmp hd0 hp0 (k_ifc hd ho hp1 hp (fun q => W1 (lc_t q)) (fun q => W2 (lc_f q)))
theorem k_acmpNe {o : Int} {x y : Value} {pc1 : Nat} (hd : decode M.2.1 pc = .ok (.if_acmp .ne o, 3)) (hx' : x.isRef = true) (hy' : y.isRef = true) (ho : 0 ≤ (pc : Int) + o) (hp1 : ((pc : Int) + o).toNat = pc1) (hp : pc + 3 = pc')
    (W1 : ¬ x = y → KW wd l Z M n0 Q P h k n pc1 Ls st) (W2 : x = y → KW wd l Z M n0 Q P h k n pc' Ls st) : KW wd l Z M n0 Q P h k n pc Ls (y :: x :: st) := by
  by_cases q : x = y
  · subst hp; exact (W2 q).step fun p e s' T m args below meth c locs hx hby hown hZ X target r => XT.acmpNo X.here hx rfl (hb hby hd) rfl hx' hy' (by simp [XT.acmp, q]) r
  · exact (W1 q).step fun p e s' T m args below meth c locs hx hby hown hZ X target r => XT.acmpYes X.here hx rfl rfl (hb hby hd) rfl hx' hy' (by simp [XT.acmp, q]) ho hp1 r
theorem k_acmpEq {o : Int} {x y : Value} {pc1 : Nat} (hd : decode M.2.1 pc = .ok (.if_acmp .eq o, 3)) (hx' : x.isRef = true) (hy' : y.isRef = true) (ho : 0 ≤ (pc : Int) + o) (hp1 : ((pc : Int) + o).toNat = pc1) (hp : pc + 3 = pc')
    (W1 : x = y → KW wd l Z M n0 Q P h k n pc1 Ls st) (W2 : ¬ x = y → KW wd l Z M n0 Q P h k n pc' Ls st) : KW wd l Z M n0 Q P h k n pc Ls (y :: x :: st) := by
  by_cases q : x = y
  · exact (W1 q).step fun p e s' T m args below meth c locs hx hby hown hZ X target r => XT.acmpYes X.here hx rfl rfl (hb hby hd) rfl hx' hy' (by simp [XT.acmp, q]) ho hp1 r
  · subst hp; exact (W2 q).step fun p e s' T m args below meth c locs hx hby hown hZ X target r => XT.acmpNo X.here hx rfl (hb hby hd) rfl hx' hy' (by simp [XT.acmp, q]) r
theorem k_ifnullY {o : Int} (hd : decode M.2.1 pc = .ok (.ifnull o, 3)) (ho : 0 ≤ (pc : Int) + o) (hp : ((pc : Int) + o).toNat = pc') (W : KW wd l Z M n0 Q P h k n pc' Ls st) : KW wd l Z M n0 Q P h k n pc Ls (.null :: st) :=
  W.step fun p e s' T m args below meth c locs hx hby hown hZ X target r => XS.ifnullYes X.here hx rfl rfl (hb hby hd) rfl ho hp r
theorem k_ifnullN {o : Int} {a : Addr} (hd : decode M.2.1 pc = .ok (.ifnull o, 3)) (hp : pc + 3 = pc') (W : KW wd l Z M n0 Q P h k n pc' Ls st) : KW wd l Z M n0 Q P h k n pc Ls (.ref a :: st) := by
  subst hp; exact W.step fun p e s' T m args below meth c locs hx hby hown hZ X target r => XS.ifnullNo X.here hx rfl (hb hby hd) rfl r
theorem k_ifnonnullY {o : Int} {a : Addr} (hd : decode M.2.1 pc = .ok (.ifnonnull o, 3)) (ho : 0 ≤ (pc : Int) + o) (hp : ((pc : Int) + o).toNat = pc') (W : KW wd l Z M n0 Q P h k n pc' Ls st) : KW wd l Z M n0 Q P h k n pc Ls (.ref a :: st) :=
  W.step fun p e s' T m args below meth c locs hx hby hown hZ X target r => XS.ifnonnullYes X.here hx rfl rfl (hb hby hd) rfl ho hp r
theorem k_ifnonnullN {o : Int} (hd : decode M.2.1 pc = .ok (.ifnonnull o, 3)) (hp : pc + 3 = pc') (W : KW wd l Z M n0 Q P h k n pc' Ls st) : KW wd l Z M n0 Q P h k n pc Ls (.null :: st) := by
  subst hp; exact W.step fun p e s' T m args below meth c locs hx hby hown hZ X target r => XS.ifnonnullNo X.here hx rfl (hb hby hd) rfl r
theorem k_ldc2J {i : Nat} {v : Int64} (hd : decode M.2.1 pc = .ok (.ldc2_w i, 3)) (hp : pc + 3 = pc') (w : (Cond.constantLong M.1.cls i v).before a0 Z = true) (W : KW wd l Z M n0 Q P h k n pc' Ls (.long v :: st)) : KW wd l Z M n0 Q P h k n pc Ls st := by
  subst hp; exact W.step fun p e s' T m args below meth c locs hx hby hown hZ X target r => X.ldc2J hx hown (mvT hZ w) rfl (hb hby hd) r
theorem k_ldcI {i : Nat} {v : Int32} (hd : decode M.2.1 pc = .ok (.ldc i, 2)) (hp : pc + 2 = pc') (w : (Cond.constant M.1.cls i v).before a0 Z = true) (W : KW wd l Z M n0 Q P h k n pc' Ls (.int v :: st)) : KW wd l Z M n0 Q P h k n pc Ls st := by
  subst hp; exact W.step fun p e s' T m args below meth c locs hx hby hown hZ X target r => X.ldcI hx hown (mvT hZ w) rfl (hb hby hd) r
theorem k_getStatic {i : Nat} {O f d : String} {v : Value} (hd : decode M.2.1 pc = .ok (.getstatic i, 3)) (hp : pc + 3 = pc') (w : (Cond.fieldLink M.1.cls i O f d).before a0 Z = true) (F : Sta Z h O f d v) (W : KW wd l Z M n0 Q P h k n pc' Ls (v :: st)) : KW wd l Z M n0 Q P h k n pc Ls st := by
  subst hp; exact W.move fun p e s' T m args below meth c locs hx hby hml hown hZ X eT => getS X hx hZ hown (host := "") w Via.refl eT F (g := mkF m pc Ls st) rfl (hb hby hd)
theorem k_getField {i : Nat} {R0 O f d : String} {a : Addr} {v : Value} (hd : decode M.2.1 pc = .ok (.getfield i, 3)) (hp : pc + 3 = pc') (w : (Cond.fieldLink M.1.cls i R0 f d).before a0 Z = true) (via : Via Z R0 O f d) (F : Fld Z h a O f d v) (W : KW wd l Z M n0 Q P h k n pc' Ls (v :: st)) : KW wd l Z M n0 Q P h k n pc Ls (.ref a :: st) := by
  subst hp; exact W.move fun p e s' T m args below meth c locs hx hby hml hown hZ X eT => getF X hx hZ hown (host := "") (Or.inl w) via eT F (g := mkF m pc Ls (.ref a :: st)) rfl rfl (hb hby hd)
/-- the return -/
theorem KW.top {v v' : Value} (e : v = v') (W : KW wd l Z M n0 Q P h k n pc Ls (v' :: st)) : KW wd l Z M n0 Q P h k n pc Ls (v :: st) := e ▸ W
theorem KW.sub {S' : Addr → Prop} (q : ∀ x, S' x → P.2 x) (W : KW wd l Z M n0 Q (P.1, S') h k n pc Ls st) : KW wd l Z M n0 Q P h k n pc Ls st :=
  fun p e s s' m args below meth c hx hby hml hown hnm hret hlk hZ hB hI T locs X N eT => W p e s s' m args below meth c hx hby hml hown hnm hret hlk hZ (hB.sub q) hI T locs X N eT
theorem KW.any {P' : PX} (W : KW false l Z M n0 Q P' h k n pc Ls st) : KW false l Z M n0 Q P h k n pc Ls st :=
  fun p e s s' m args below meth c hx hby hml hown hnm hret hlk hZ hB hI T locs X N eT => by
    obtain ⟨t, v, L, r, h1, h2, h3, h4, h5⟩ := W p e s s' m args below meth c hx hby hml hown hnm hret hlk hZ (hB.elim (fun q => Or.inl q) (fun q => by cases q.1)) (fun q => by cases q) T locs X N eT
    exact ⟨t, v, L, r, h1, h2, h3, h4, h5.elim (fun q => Or.inl q) (fun q => by cases q.1)⟩
theorem KW.ret {v : Option Value} (q : Q v h) (hk : k ≤ M.2.2.2.2.cells) (hn : n ≤ M.2.2.2.2.slots) (hv : M.2.2.2.1 = none → v = none)
    (f : ∀ (p : Program) (e : Env) (s' T : State) (m : MethodId) (args : Array Value) (below : List Frame) (meth : Method) (c : Code) (locs : List Loc), p.tables.exec = Jvm.exec → c.code = M.2.1 → meth.sig.returnType = M.2.2.2.1 → Stand p l e M.2.2.2.2 s' m args below meth c T locs k n →
      ∀ fs : List Frame, (∀ (f : JFrame) (acts : List Action), f.method = m → f.locked = none → f.entered = [] → (doReturn e (T.setTop f) acts v).1 = T.setFrames fs) → Steps p.tables e below (T.setTop (mkF m pc Ls st)) (T.setFrames fs)) : KW wd l Z M n0 Q P h k n pc Ls st := by
  intro p e s s' m args below meth c hx hby hml hown hnm hret hlk hZ hB hI T locs X N eT
  obtain ⟨fs, hr, hrun, hended, hW, hsame⟩ := X.leave (v := v) (fun q => hv (by rw [← hret]; exact q)) hlk
  refine ⟨T.setFrames fs, v, locs, f p e s' T m args below meth c locs hx hby hret X fs hr, hrun, hended, N, by show Q v T.heap; rw [eT]; exact q, ?_⟩
  rcases hB with ⟨rfl, rfl⟩ | ⟨rfl, vm0, k0, rfl, hS, hk0, hC, -⟩
  · exact Or.inl ⟨rfl, ⟨_, rfl⟩, hW, hsame.mono hk hn⟩
  · obtain ⟨e1, e2, e3⟩ := hS.ended hW (by show k0 ≤ T.heap.size; rw [eT]; exact hk0) hsame
    obtain ⟨a1, hEW⟩ := hI rfl
    have hCT : CHr Z P.1 s.vm s.heap T.vm T.heap := hC.trans (by rw [eT]; exact CHv.at X hZ hEW hC.1)
    exact Or.inr ⟨rfl, hCT, ⟨_, rfl⟩, e1, e2, e3.mono hk hn⟩
theorem k_retInt {z : Int32} (hd : decode M.2.1 pc = .ok (.ireturn, 1)) (hr : M.2.2.2.1 = some .int) (hk : k ≤ M.2.2.2.2.cells) (hn : n ≤ M.2.2.2.2.slots) (q : Q (some (.int z)) h) : KW wd l Z M n0 Q P h k n pc Ls (.int z :: st) :=
  KW.ret q hk hn (fun x => by rw [hr] at x; cases x) fun p e s' T m args below meth c locs hx hby hret X fs hl => retOut X hx (t := .int) (i := .ireturn) (hret.trans hr) rfl (Or.inl ⟨rfl, Or.inl rfl, _, rfl⟩) (hb hby hd) hl
theorem k_retNar {z z' : Int32} {t : FieldType} (hd : decode M.2.1 pc = .ok (.ireturn, 1)) (hr : M.2.2.2.1 = some t) (ht : t = .boolean ∨ t = .byte ∨ t = .char ∨ t = .short) (hz : nar t z = z') (hk : k ≤ M.2.2.2.2.cells) (hn : n ≤ M.2.2.2.2.slots) (q : Q (some (.int z')) h) : KW wd l Z M n0 Q P h k n pc Ls (.int z :: st) := by
  subst hz; exact KW.ret q hk hn (fun x => by rw [hr] at x; cases x) fun p e s' T m args below meth c locs hx hby hret X fs hl => retN X hx (hret.trans hr) ht (hb hby hd) hl
theorem k_retLong {z : Int64} (hd : decode M.2.1 pc = .ok (.lreturn, 1)) (hr : M.2.2.2.1 = some .long) (hk : k ≤ M.2.2.2.2.cells) (hn : n ≤ M.2.2.2.2.slots) (q : Q (some (.long z)) h) : KW wd l Z M n0 Q P h k n pc Ls (.long z :: st) :=
  KW.ret q hk hn (fun x => by rw [hr] at x; cases x) fun p e s' T m args below meth c locs hx hby hret X fs hl => retOut X hx (t := .long) (i := .lreturn) (hret.trans hr) rfl (Or.inr (Or.inl ⟨rfl, rfl, _, rfl⟩)) (hb hby hd) hl
theorem k_retRef {v : Value} {t : FieldType} (hd : decode M.2.1 pc = .ok (.areturn, 1)) (hr : M.2.2.2.1 = some t) (ht : t.isReference = true) (hv : v.isRef = true) (hk : k ≤ M.2.2.2.2.cells) (hn : n ≤ M.2.2.2.2.slots) (q : Q (some v) h) : KW wd l Z M n0 Q P h k n pc Ls (v :: st) :=
  KW.ret q hk hn (fun x => by rw [hr] at x; cases x) fun p e s' T m args below meth c locs hx hby hret X fs hl => retOut X hx (t := t) (i := .areturn) (hret.trans hr) (by cases t <;> first | rfl | cases ht) (Or.inr (Or.inr (Or.inr (Or.inr ⟨rfl, ht, hv⟩)))) (hb hby hd) hl
theorem k_retVoid (hd : decode M.2.1 pc = .ok (.return_, 1)) (hr : M.2.2.2.1 = none) (hk : k ≤ M.2.2.2.2.cells) (hn : n ≤ M.2.2.2.2.slots) (q : Q none h) : KW wd l Z M n0 Q P h k n pc Ls [] :=
  KW.ret q hk hn (fun x => rfl) fun p e s' T m args below meth c locs hx hby hret X fs hl => X.returnOut hx (hret.trans hr) (hb hby hd) hl
/-- a method's contract: entered with these arguments and this heap, it returns, and Q holds -/
def Mt (l : Launch) (Z : State) (M : MD) (ws : List Jvm.Cond) (n0 : Nat) (as' : Array Value) (h0 : Heap) (Q : Option Value → Heap → Prop) : Prop :=
  MetFree l M.1 (head1 (Jvm.Cond.code M.1 M.2.1 M.2.2.1 M.2.2.2.1 :: ws) M.2.2.2.2) (fun a U => a = as' ∧ Z.Warmed39 U.vm ∧ U.heap = h0) (fun _ _ _ _ _ => True) (fun _ U o U' => ∃ v L, o = .returned v ∧ (Fr n0 L ∧ h0.size ≤ U'.heap.size ∧ Q v U'.heap) ∧ FrameEnd U o U' L M.2.2.2.2.cells M.2.2.2.2.slots)
theorem mt_of_kw {ws : List Jvm.Cond} {as' : Array Value} (hn : plainFor M.1 = true) (hef : ∀ m, entryFrame m as' M.2.2.1 = mkF m 0 Ls []) (W : KW false l Z M n0 Q P h 0 0 0 Ls []) : Mt l Z M ws n0 as' h Q := by
  refine MetFree.of_bodySF hn hisR ?_
  intro p e s m args below meth c s₁ Bd hml0 hP hK
  obtain ⟨rfl, hZ, hh⟩ := hP
  have e0 : s₁.heap = h := by rw [← hh, Bd.state]; rfl
  obtain ⟨t, v, L, r, h1, h2, h3, h4, h5⟩ := W p e s s m _ below meth c Bd.exec Bd.bytes hml0 (findClass_of_methodNamed Bd.named) (name_of_methodNamed Bd.named Bd.method).1 Bd.returns Bd.notSynchronized hZ (Or.inl ⟨rfl, rfl⟩) (fun q => by cases q) s₁ [] (Stand.of_body Bd) (Fr.nil n0) e0
  rcases h5 with ⟨-, h5⟩ | ⟨h5, -⟩
  · refine ⟨t, _, castTop (hef m) r, h1, h2, v, L, rfl, ⟨h3, ?_, h4⟩, h5⟩
    have q : s.heap.size ≤ t.heap.size := h5.2.2.2.1
    rw [← hh]; exact q
  · cases h5
/-- what a strict callee has done to the heap, for a wide caller -/
def Kp (wd : Bool) (Z : State) (P : PX) (h : Heap) (Q' : Option Value → Heap → Prop) : Prop := wd = true → ∀ v h', Q' v h' → ∃ ws, Keep h h' ws ∧ ∀ x ∈ ws, Sf Z P h x
theorem Kp.strict {Q' : Option Value → Heap → Prop} : Kp false Z P h Q' := fun q => by cases q
theorem Kp.pure {Q' : Option Value → Heap → Prop} (q : ∀ v h', Q' v h' → h' = h) : Kp wd Z P h Q' := fun _ v h' hq => ⟨[], by rw [q v h' hq]; exact Keep.refl _ _, fun _ z => nomatch z⟩
theorem KB.call {s s' : State} {h' : Heap} {v : Option Value} {Q' : Option Value → Heap → Prop} (B : KB wd Z P s s' h) (hZ : Z.Warmed39 s'.vm) (hk : Kp wd Z P h Q') (q : Q' v h') : KB wd Z (P.grow h h') s s' h' := by
  cases wd
  · exact B.elim (fun r => Or.inl r) (fun r => by cases r.1)
  · obtain ⟨ws, K, hs⟩ := hk rfl v h' q
    exact B.keep hZ K (fun _ => hs)
/-- a static method by its contract -/
theorem k_callStatic {y : MD} {i W0 : Nat} {argsL : List Value} {Q' : Option Value → Heap → Prop} {ps : List FieldType} {r : Option FieldType} (hd : decode M.2.1 pc = .ok (.invokestatic i, 3)) (hp : pc + 3 = pc') (K : Mt l Z y [] n0 argsL.toArray h Q') (hkp : Kp wd Z P h Q')
    (w1 : (Cond.methodLink M.1.cls i y.1).before a0 Z = true) (w2 : (Cond.static y.1).before a0 Z = true) (w3 : (Cond.initialized y.1.cls).before a0 Z = true) (w4 : (Cond.code y.1 y.2.1 y.2.2.1 y.2.2.2.1).before a0 Z = true) (hy : y.1.cls ≠ "java/lang/invoke/MethodHandle" ∧ y.1.cls ≠ "java/lang/invoke/VarHandle")
    (hpd : parseMethodDescriptor y.1.desc = some ⟨ps, r⟩) (hlen : argsL.length = ps.length) (hst : st = argsL.reverse ++ rest) (hsz : Ls.size = M.2.2.1) (hW : (rest.map fun v => v.category).sum = W0)
    (hfr : y.2.2.2.2.frames + 1 ≤ M.2.2.2.2.frames) (hlo : W0 + (y.2.2.1 + 11) + y.2.2.2.2.locals ≤ M.2.2.2.2.locals) (hc : k + y.2.2.2.2.cells ≤ M.2.2.2.2.cells) (hs : n + y.2.2.2.2.slots ≤ M.2.2.2.2.slots)
    (W : ∀ v h', h.size ≤ h'.size → Q' v h' → KW wd l Z M n0 Q (P.grow h h') h' (k + y.2.2.2.2.cells) (n + y.2.2.2.2.slots) pc' Ls (v.toList ++ rest)) : KW wd l Z M n0 Q P h k n pc Ls st := by
  intro p e s s' m args below meth c hx hby hml hown hnm hret hlk hZ hB hI T locs X N eT
  subst hp
  obtain ⟨v, _, ⟨T', L', k', n'⟩, -, X', ⟨Lc, ⟨q1, q2, q3⟩, l1, l2, l3⟩, stp⟩ := Jvm.LawKit.callS X hx (y := y.1) hown (mvT hZ w1) (mvT hZ w2) (mvT hZ w3) (mvT hZ w4) hy (backOf (W := W0) (Q := fun v h' L => Fr n0 L ∧ h.size ≤ h'.size ∧ Q' v h') K hZ w4 w3 hfr hlo) (g := mkF m pc Ls st) rfl (hsz.trans hml.symm) (argsL := argsL) (rest := rest) (lenOf hpd hlen) hst (by show 2 * 0 + _ ≤ _; omega) (hb hby hd) (fun _ _ => ⟨rfl, eT, hc, hs⟩)
  dsimp only [Pt.U, Pt.locs, Pt.cells, Pt.slots] at X' l1 l2 l3 stp q2 q3
  subst l1 l2 l3
  obtain ⟨t, v', L, r, rr⟩ := W v T'.heap q2 q3 p e s s' m args below meth c hx hby hml hown hnm hret hlk hZ (hB.call hZ hkp q3) hI T' _ X' (Fr.app N q1) rfl
  exact ⟨t, v', L, stp _ r, rr⟩
/-- a constructor by its contract -/
theorem k_callInit {y : MD} {i W0 : Nat} {a : Addr} {argsL : List Value} {Q' : Option Value → Heap → Prop} {ps : List FieldType} {r : Option FieldType} (hd : decode M.2.1 pc = .ok (.invokespecial i, 3)) (hp : pc + 3 = pc') (K : Mt l Z y [] n0 (.ref a :: argsL).toArray h Q') (hkp : Kp wd Z P h Q') (hi : y.1.name = "<init>") (hr0 : y.2.2.2.1 = none)
    (w1 : (Cond.methodLink M.1.cls i y.1).before a0 Z = true) (w2 : (Cond.instanceMethod y.1).before a0 Z = true) (w3 : (Cond.initialized y.1.cls).before a0 Z = true) (w4 : (Cond.code y.1 y.2.1 y.2.2.1 y.2.2.2.1).before a0 Z = true) (hy : y.1.cls ≠ "java/lang/invoke/MethodHandle" ∧ y.1.cls ≠ "java/lang/invoke/VarHandle")
    (hpd : parseMethodDescriptor y.1.desc = some ⟨ps, r⟩) (hlen : argsL.length = ps.length) (hst : st = argsL.reverse ++ .ref a :: rest) (hsz : Ls.size = M.2.2.1) (hW : (rest.map fun v => v.category).sum = W0)
    (hfr : y.2.2.2.2.frames + 1 ≤ M.2.2.2.2.frames) (hlo : W0 + (y.2.2.1 + 11) + y.2.2.2.2.locals ≤ M.2.2.2.2.locals) (hc : k + y.2.2.2.2.cells ≤ M.2.2.2.2.cells) (hs : n + y.2.2.2.2.slots ≤ M.2.2.2.2.slots)
    (W : ∀ v h', h.size ≤ h'.size → Q' v h' → KW wd l Z M n0 Q (P.grow h h') h' (k + y.2.2.2.2.cells) (n + y.2.2.2.2.slots) pc' Ls (v.toList ++ rest)) : KW wd l Z M n0 Q P h k n pc Ls st := by
  intro p e s s' m args below meth c hx hby hml hown hnm hret hlk hZ hB hI T locs X N eT
  subst hp
  obtain ⟨v, _, ⟨T', L', k', n'⟩, -, X', ⟨Lc, ⟨q1, q2, q3⟩, l1, l2, l3⟩, stp⟩ := X.specialBack hx (y := y.1) hi hown (mvT hZ w1) (mvT hZ w2) (bytes := y.2.1) (maxL := y.2.2.1) (by rw [← hr0]; exact mvT hZ w4) hy (backOf (W := W0) (Q := fun v h' L => Fr n0 L ∧ h.size ≤ h'.size ∧ Q' v h') K hZ w4 w3 hfr hlo) (g := mkF m pc Ls st) rfl (hsz.trans hml.symm) (Steps.refl _) (a := a) (argsL := argsL) (rest := rest) (lenOf hpd hlen) hst (by show 2 * 0 + _ ≤ _; omega) (hb hby hd) (fun _ _ => ⟨rfl, eT, hc, hs⟩)
  dsimp only [Pt.U, Pt.locs, Pt.cells, Pt.slots] at X' l1 l2 l3 stp q2 q3
  subst l1 l2 l3
  obtain ⟨t, v', L, r, rr⟩ := W v T'.heap q2 q3 p e s s' m args below meth c hx hby hml hown hnm hret hlk hZ (hB.call hZ hkp q3) hI T' _ X' (Fr.app N q1) rfl
  exact ⟨t, v', L, stp.trans r, rr⟩
/-- an instance method by its contract; the receiver is exactly a C -/
theorem k_callVirtual {y : MD} {x : MethodName} {C : String} {i W0 : Nat} {a : Addr} {argsL : List Value} {Q' : Option Value → Heap → Prop} {ps : List FieldType} {r : Option FieldType} (hd : decode M.2.1 pc = .ok (.invokevirtual i, 3)) (hp : pc + 3 = pc') (K : Mt l Z y [] n0 (.ref a :: argsL).toArray h Q') (hkp : Kp wd Z P h Q') (E : Exa Z h a C)
    (w1 : (Cond.methodLink M.1.cls i x).before a0 Z = true) (w2 : (Cond.declares x).before a0 Z = true) (w3 : (Cond.selects C x y.1).before a0 Z = true) {C7 : String} {x7 z7 : MethodName} (w7 : (Cond.selects C7 x7 z7).before a0 Z = true) (hz7 : z7.cls = x.cls) (w4 : (Cond.instanceMethod y.1).before a0 Z = true) (w5 : (Cond.code y.1 y.2.1 y.2.2.1 y.2.2.2.1).before a0 Z = true) (w6 : (Cond.initialized y.1.cls).before a0 Z = true) (hy : x.cls ≠ "java/lang/invoke/MethodHandle" ∧ x.cls ≠ "java/lang/invoke/VarHandle")
    (hpd : parseMethodDescriptor x.desc = some ⟨ps, r⟩) (hlen : argsL.length = ps.length) (hst : st = argsL.reverse ++ .ref a :: rest) (hsz : Ls.size = M.2.2.1) (hW : (rest.map fun v => v.category).sum = W0)
    (hfr : y.2.2.2.2.frames + 1 ≤ M.2.2.2.2.frames) (hlo : W0 + (y.2.2.1 + 11) + y.2.2.2.2.locals ≤ M.2.2.2.2.locals) (hc : k + y.2.2.2.2.cells ≤ M.2.2.2.2.cells) (hs : n + y.2.2.2.2.slots ≤ M.2.2.2.2.slots)
    (W : ∀ v h', h.size ≤ h'.size → Q' v h' → KW wd l Z M n0 Q (P.grow h h') h' (k + y.2.2.2.2.cells) (n + y.2.2.2.2.slots) pc' Ls (v.toList ++ rest)) : KW wd l Z M n0 Q P h k n pc Ls st := by
  intro p e s s' m args below meth c hx hby hml hown hnm hret hlk hZ hB hI T locs X N eT
  subst hp
  obtain ⟨cq, kq, qa, qb, qc⟩ := isOf hZ eT E
  obtain ⟨v, _, ⟨T', L', k', n'⟩, -, X', ⟨Lc, ⟨q1, q2, q3⟩, l1, l2, l3⟩, stp⟩ := X.virtualBack hx (y := x) (z := y.1) hown (mvT hZ w1) (mvT hZ w2) (own_notFace (args := #[]) (mvT hZ w7) hz7) (mvT hZ w3) (mvT hZ w4) hy (backOf (W := W0) (Q := fun v h' L => Fr n0 L ∧ h.size ≤ h'.size ∧ Q' v h') K hZ w5 w6 hfr hlo) qa qc (g := mkF m pc Ls st) rfl (hsz.trans hml.symm) (Steps.refl _) (argsL := argsL) (rest := rest) (lenOf hpd hlen) hst (by show 2 * 0 + _ ≤ _; omega) (hb hby hd) (fun _ _ => ⟨rfl, eT, hc, hs⟩)
  dsimp only [Pt.U, Pt.locs, Pt.cells, Pt.slots] at X' l1 l2 l3 stp q2 q3
  subst l1 l2 l3
  obtain ⟨t, v', L, r, rr⟩ := W v T'.heap q2 q3 p e s s' m args below meth c hx hby hml hown hnm hret hlk hZ (hB.call hZ hkp q3) hI T' _ X' (Fr.app N q1) rfl
  exact ⟨t, v', L, stp.trans r, rr⟩
end
end Jvm.OwnW

namespace Jvm.OwnW
open Sem ClassFile Op Lib Jvm.Stand Jvm.Free Jvm.LawKit Jvm.RoadKit
section
variable {wd : Bool} {l : Launch} {Z : State} {M : MD} {n0 : Nat} {Q : Option Value → Heap → Prop} {P : PX} {h : Heap} {k n pc pc' : Nat} {Ls Ls' : Array Slot} {st st' rest : List Value} {a0 : Array Value}
theorem k_new {i sz : Nat} {C : String} (hd : decode M.2.1 pc = .ok (.new i, 3)) (hp : pc + 3 = pc') (w : (Cond.classLink M.1.cls i C).before a0 Z = true) (wi : (Cond.instantiable C sz).before a0 Z = true) (wz : (Cond.initialized C).before a0 Z = true) (hc : k + 1 ≤ M.2.2.2.2.cells) (hs : n + sz ≤ M.2.2.2.2.slots)
    (W : ∀ h' a, a = h.size → Ext h h' → Exa Z h' a C → (∀ {O nm d : String} {ty : FieldType}, Laid Z a0 C O nm d → parseFieldDescriptor d = some ty → Fld Z h' a O nm d (defaultValue ty)) → KW wd l Z M n0 Q (P.grow h h') h' (k + 1) (n + sz) pc' Ls (.ref a :: st)) : KW wd l Z M n0 Q P h k n pc Ls st := by
  intro p e s s' m args below meth c hx hby hml hown hnm hret hlk hZ hB hI T locs X N eT
  subst hp
  obtain ⟨T', h', X', e', E, A, D, -, stp⟩ := newO X hx hZ hown w wi wz eT (g := mkF m pc Ls st) rfl (hb hby hd) hc hs
  obtain ⟨t, v, L, r, rr⟩ := W h' h.size rfl E A D p e s s' m args below meth c hx hby hml hown hnm hret hlk hZ (hB.ext E) hI T' locs X' N e'
  exact ⟨t, v, L, stp t r, rr⟩
theorem k_initObj {i W0 : Nat} {a : Addr} (hd : decode M.2.1 pc = .ok (.invokespecial i, 3)) (hp : pc + 3 = pc') (w1 : (Cond.methodLink M.1.cls i Lib.objectInit).before a0 Z = true) (w2 : (Cond.instanceMethod Lib.objectInit).before a0 Z = true) (w3 : (Cond.code Lib.objectInit ⟨#[0xb1]⟩ 1 none).before a0 Z = true)
    (hsz : Ls.size = M.2.2.1) (hW : (st.map fun v => v.category).sum = W0) (hf : 1 ≤ M.2.2.2.2.frames) (hl : W0 + 12 ≤ M.2.2.2.2.locals) (W : KW wd l Z M n0 Q P h k n pc' Ls st) : KW wd l Z M n0 Q P h k n pc Ls (.ref a :: st) := by
  subst hp; exact W.move fun p e s' T m args below meth c locs hx hby hml hown hZ X eT => initO X hx hZ hown w1 w2 w3 eT (g := mkF m pc Ls (.ref a :: st)) rfl (hsz.trans hml.symm) rfl (hb hby hd) hf (W := W0) (by show 2 * 0 + _ ≤ _; omega) hl
theorem k_put {i kk : Nat} {R0 O f d C : String} {ty : FieldType} {a : Addr} {v v' old : Value} (hd : decode M.2.1 pc = .ok (.putfield i, 3)) (hp : pc + 3 = pc') (w : (Cond.fieldLink M.1.cls i R0 f d).before a0 Z = true) (via : Via Z R0 O f d) (F : Fld Z h a O f d old) (E : Exa Z h a C)
    (L : (Cond.lays C O f d).before a0 Z = true ∨ ((Cond.laysFinal C O f d).before a0 Z = true ∧ M.1.cls = O ∧ M.1.name = "<init>")) (wi : (Cond.instantiable C kk).before a0 Z = true) (hty : parseFieldDescriptor d = some ty) (hn : narrow ty v = v') (hf : fits ty v' = true) (ha : n0 ≤ a) (hsf : wd = true → Sf Z P h a)
    (W : ∀ h', Wr h h' a (Jvm.RoadKit.slotOf Z O f d) v' → KW wd l Z M n0 Q P h' k n pc' Ls st) : KW wd l Z M n0 Q P h k n pc Ls (v :: .ref a :: st) := by
  intro p e s s' m args below meth c hx hby hml hown hnm hret hlk hZ hB hI T locs X N eT
  subst hp
  obtain ⟨T', h', X', e', Wr', stp⟩ := putFN X hx hZ hown w via eT F E (L.imp id fun q => ⟨q.1, q.2.1, hnm.trans q.2.2⟩) wi hty hn hf (g := mkF m pc Ls (v :: .ref a :: st)) rfl rfl (hb hby hd)
  obtain ⟨t, v, L, r, rr⟩ := W h' Wr' p e s s' m args below meth c hx hby hml hown hnm hret hlk hZ (hB.wr hZ Wr' hsf) hI T' _ X' (Fr.snoc X' N ha) e'
  exact ⟨t, v, L, stp t r, rr⟩
theorem k_newarr {aty : ArrayType} {z : Int32} {cap : Nat} (hd : decode M.2.1 pc = .ok (.newarray aty, 2)) (hp : pc + 2 = pc') (w : (Cond.arrayClass (newarray.typeOf aty)).before a0 Z = true) (hz : ¬ z < 0) (hcap : z.toNatClampNeg ≤ cap) (hb8 : cap * 8 ≤ 536870912) (hc : k + 1 ≤ M.2.2.2.2.cells) (hs : n + cap ≤ M.2.2.2.2.slots)
    (W : ∀ h' a cA, a = h.size → Ext h h' → Arv Z h' a cA (newarray.typeOf aty) z [] (defaultValue (newarray.typeOf aty)) → KW wd l Z M n0 Q (P.grow h h') h' (k + 1) (n + cap) pc' Ls (.ref a :: st)) : KW wd l Z M n0 Q P h k n pc Ls (.int z :: st) := by
  intro p e s s' m args below meth c hx hby hml hown hnm hret hlk hZ hB hI T locs X N eT
  subst hp
  obtain ⟨T', h', cA, X', e', E, A, stp⟩ := newP X hx hZ w eT (g := mkF m pc Ls (.int z :: st)) rfl (hb hby hd) rfl hz hcap hb8 hc hs
  obtain ⟨t, v, L, r, rr⟩ := W h' h.size cA rfl E (Arv.new A hz) p e s s' m args below meth c hx hby hml hown hnm hret hlk hZ (hB.ext E) hI T' locs X' N e'
  exact ⟨t, v, L, stp t r, rr⟩
theorem k_arrlen {a : Addr} {ck : ClassId} {ty : FieldType} {z : Int32} {vs : List Value} {dv : Value} (hd : decode M.2.1 pc = .ok (.arraylength, 1)) (hp : pc + 1 = pc') (V : Arv Z h a ck ty z vs dv) (W : KW wd l Z M n0 Q P h k n pc' Ls (.int z :: st)) : KW wd l Z M n0 Q P h k n pc Ls (.ref a :: st) := by
  subst hp
  obtain ⟨cl, Ar, -, S, Mz, -⟩ := V
  exact W.move fun p e s' T m args below meth c locs hx hby hml hown hZ X eT => ⟨T, X, eT, fun target r => X.arraylength hx (by rw [eT]; exact Ar.1) (State.isArrayOf_alike hZ.alike Ar.2.1) (g := mkF m pc Ls (.ref a :: st)) rfl rfl (hb hby hd) target (by rw [len_of S Mz]; exact r)⟩
theorem k_baload {a : Addr} {ck : ClassId} {z j : Int32} {vs : List Value} {dv v : Value} (hd : decode M.2.1 pc = .ok (.baload, 1)) (hp : pc + 1 = pc') (V : Arv Z h a ck .byte z vs dv) (hj : ¬ j < 0 ∧ j < z) (hv : vs.getD j.toNatClampNeg dv = v) (W : KW wd l Z M n0 Q P h k n pc' Ls (v :: st)) : KW wd l Z M n0 Q P h k n pc Ls (.int j :: .ref a :: st) := by
  subst hp
  obtain ⟨cl, Ar, -, S, Mz, H, -⟩ := V
  exact W.move fun p e s' T m args below meth c locs hx hby hml hown hZ X eT => ⟨T, X, eT, fun target r => X.baloadBytes hx (j := j) (v := v) (by rw [eT]; exact Ar.1) (State.isArrayOf_alike hZ.alike Ar.2.1) Ar.2.2 (inb_of S hj) (H.at (inb_of S hj) hv) (g := mkF m pc Ls (.int j :: .ref a :: st)) rfl rfl (hb hby hd) target r⟩
theorem k_caload {a : Addr} {ck : ClassId} {z j : Int32} {vs : List Value} {dv v : Value} (hd : decode M.2.1 pc = .ok (.caload, 1)) (hp : pc + 1 = pc') (V : Arv Z h a ck .char z vs dv) (hj : ¬ j < 0 ∧ j < z) (hv : vs.getD j.toNatClampNeg dv = v) (W : KW wd l Z M n0 Q P h k n pc' Ls (v :: st)) : KW wd l Z M n0 Q P h k n pc Ls (.int j :: .ref a :: st) := by
  subst hp
  obtain ⟨cl, Ar, -, S, Mz, H, -⟩ := V
  exact W.move fun p e s' T m args below meth c locs hx hby hml hown hZ X eT => ⟨T, X, eT, fun target r => X.caload hx (j := j) (v := v) (by rw [eT]; exact Ar.1) (State.isArrayOf_alike hZ.alike Ar.2.1) Ar.2.2 (inb_of S hj) (H.at (inb_of S hj) hv) (g := mkF m pc Ls (.int j :: .ref a :: st)) rfl rfl (hb hby hd) target r⟩
theorem k_castore {a : Addr} {ck : ClassId} {z j x : Int32} {vs : List Value} {dv : Value} {i : Nat} (hd : decode M.2.1 pc = .ok (.castore, 1)) (hp : pc + 1 = pc') (V : Arv Z h a ck .char z vs dv) (hj : ¬ j < 0 ∧ j < z) (hi : j.toNatClampNeg = i) (hil : i < vs.length) (ha : n0 ≤ a) (hsf : wd = true → Sf Z P h a)
    (W : ∀ h', Wr h h' a i (.int (nar .char x)) → Arv Z h' a ck .char z (vs.set i (.int (nar .char x))) dv → KW wd l Z M n0 Q P h' k n pc' Ls st) : KW wd l Z M n0 Q P h k n pc Ls (.int x :: .int j :: .ref a :: st) := by
  intro p e s s' m args below meth c hx hby hml hown hnm hret hlk hZ hB hI T locs X N eT
  subst hp
  obtain ⟨cl, Ar, q1, S, Mz, H, G⟩ := V
  obtain ⟨T', h', X', e', Wr', stp⟩ := stC X hx hZ eT Ar (inb_of S hj) (g := mkF m pc Ls (.int x :: .int j :: .ref a :: st)) rfl rfl (hb hby hd)
  have V' := Arv.set Ar q1 S Mz H G (fits_nar_char x) Wr' i hi hil
  rw [hi] at Wr'
  obtain ⟨t, v, L, r, rr⟩ := W h' Wr' V' p e s s' m args below meth c hx hby hml hown hnm hret hlk hZ (hB.wr hZ Wr' hsf) hI T' _ X' (Fr.snoc X' N ha) e'
  exact ⟨t, v, L, stp t r, rr⟩
theorem k_bastore {a : Addr} {ck : ClassId} {z j x : Int32} {vs : List Value} {dv : Value} {i : Nat} (hd : decode M.2.1 pc = .ok (.bastore, 1)) (hp : pc + 1 = pc') (V : Arv Z h a ck .byte z vs dv) (hj : ¬ j < 0 ∧ j < z) (hi : j.toNatClampNeg = i) (hil : i < vs.length) (ha : n0 ≤ a) (hsf : wd = true → Sf Z P h a)
    (W : ∀ h', Wr h h' a i (.int (nar .byte x)) → Arv Z h' a ck .byte z (vs.set i (.int (nar .byte x))) dv → KW wd l Z M n0 Q P h' k n pc' Ls st) : KW wd l Z M n0 Q P h k n pc Ls (.int x :: .int j :: .ref a :: st) := by
  intro p e s s' m args below meth c hx hby hml hown hnm hret hlk hZ hB hI T locs X N eT
  subst hp
  obtain ⟨cl, Ar, q1, S, Mz, H, G⟩ := V
  obtain ⟨T', h', X', e', Wr', stp⟩ := stB X hx hZ eT Ar (inb_of S hj) (g := mkF m pc Ls (.int x :: .int j :: .ref a :: st)) rfl rfl (hb hby hd)
  have V' := Arv.set Ar q1 S Mz H G (fits_nar_byte x) Wr' i hi hil
  rw [hi] at Wr'
  obtain ⟨t, v, L, r, rr⟩ := W h' Wr' V' p e s s' m args below meth c hx hby hml hown hnm hret hlk hZ (hB.wr hZ Wr' hsf) hI T' _ X' (Fr.snoc X' N ha) e'
  exact ⟨t, v, L, stp t r, rr⟩
theorem k_cast {i : Nat} {K : String} {a : Addr} (hd : decode M.2.1 pc = .ok (.checkcast i, 3)) (hp : pc + 3 = pc') (w : (Cond.classLink M.1.cls i K).before a0 Z = true) (F : Ins Z h a K true) (W : KW wd l Z M n0 Q P h k n pc' Ls (.ref a :: st)) : KW wd l Z M n0 Q P h k n pc Ls (.ref a :: st) := by
  subst hp; exact W.move fun p e s' T m args below meth c locs hx hby hml hown hZ X eT => castY X hx hZ hown w eT F (g := mkF m pc Ls (.ref a :: st)) rfl rfl (hb hby hd)
theorem k_instY {i : Nat} {K : String} {a : Addr} (hd : decode M.2.1 pc = .ok (.instanceof i, 3)) (hp : pc + 3 = pc') (w : (Cond.classLink M.1.cls i K).before a0 Z = true) (F : Ins Z h a K true) (W : KW wd l Z M n0 Q P h k n pc' Ls (.int 1 :: st)) : KW wd l Z M n0 Q P h k n pc Ls (.ref a :: st) := by
  subst hp; exact W.move fun p e s' T m args below meth c locs hx hby hml hown hZ X eT => instY X hx hZ hown w eT F (g := mkF m pc Ls (.ref a :: st)) rfl rfl (hb hby hd)
theorem Sf.exa {a : Addr} {C : String} (E : Exa Z h a C) (h1 : C ≠ "java/lang/String") (h2 : C ≠ "[B") : Sf Z P h a := Or.inr fun vm hal => Safe.exa hal E h1 h2
theorem Sf.arv {a : Addr} {ck : ClassId} {ty : FieldType} {z : Int32} {vs : List Value} {dv : Value} (F : Arv Z h a ck ty z vs dv) (ht : ty ≠ .byte) : Sf Z P h a := Or.inr fun vm hal => Safe.arv hal F ht
/-! the wide contracts: a callee that may intern -/
def MtW (l : Launch) (Z : State) (M : MD) (ws : List Jvm.Cond) (n0 : Nat) (as' : Array Value) (P : PX) (h0 : Heap) (Q : Option Value → Heap → Prop) : Prop :=
  MetFree l M.1 (head1 (Jvm.Cond.code M.1 M.2.1 M.2.2.1 M.2.2.2.1 :: ws) M.2.2.2.2) (fun a U => a = as' ∧ Z.Warmed39 U.vm ∧ U.heap = h0 ∧ CHv Z P.1 U.vm h0 ∧ ∀ x, P.2 x → Safe Z P.1 U.vm h0 x ∧ x < h0.size) (fun _ _ _ _ _ => True)
    (fun _ U o U' => ∃ v L, o = .returned v ∧ (Fr n0 L ∧ h0.size ≤ U'.heap.size ∧ Q v U'.heap) ∧ CHr Z P.1 U.vm U.heap U'.vm U'.heap ∧ ReturnedEndW U o U' L M.2.2.2.2.cells M.2.2.2.2.slots)
theorem mtw_of_kw {ws : List Jvm.Cond} {as' : Array Value} (hn : plainFor M.1 = true) (hEW : EW Z a0 P.1) (hef : ∀ m, entryFrame m as' M.2.2.1 = mkF m 0 Ls []) (W : KW true l Z M n0 Q P h 0 0 0 Ls []) : MtW l Z M ws n0 as' P h Q := by
  refine MetFree.of_bodySF hn hisR ?_
  intro p e s m args below meth c s₁ Bd hml0 hP hK
  obtain ⟨rfl, hZ, hh, hC, hS⟩ := hP
  have e0 : s₁.heap = h := by rw [← hh, Bd.state]; rfl
  obtain ⟨t, v, L, r, h1, h2, h3, h4, h5⟩ := W p e s (s.setVm s.vm) m _ below meth c Bd.exec Bd.bytes hml0 (findClass_of_methodNamed Bd.named) (name_of_methodNamed Bd.named Bd.method).1 Bd.returns Bd.notSynchronized hZ (Or.inr ⟨rfl, s.vm, 0, rfl, (State.WarmedH.refl s).since 0, Nat.zero_le _, by rw [hh]; exact CHr.refl hC, hS⟩) (fun _ => ⟨a0, hEW⟩) s₁ [] (Stand.of_body Bd) (Fr.nil n0) e0
  rcases h5 with ⟨h5, -⟩ | ⟨-, b1, b2⟩
  · cases h5
  · refine ⟨t, _, castTop (hef m) r, h1, h2, v, L, rfl, ⟨h3, ?_, h4⟩, b1, b2⟩
    have q : s.heap.size ≤ t.heap.size := b2.2.2.2.2.1
    rw [← hh]; exact q
/-- what a wide contract pays at a call -/
theorem backW {y : MD} {p : Program} {e : Env} {s : State} {vm0 : Vm} {args as' : Array Value} {below : List Frame} {R : Room} {W0 len : Nat} {Q' : Option Value → Heap → Prop}
    (K : MtW l Z y [] n0 as' P h Q') (hZ : Z.Warmed39 vm0) (w4 : (Cond.code y.1 y.2.1 y.2.2.1 y.2.2.2.1).before a0 Z = true) (w3 : (Cond.initialized y.1.cls).before a0 Z = true) (hf : y.2.2.2.2.frames + 1 ≤ R.frames) (hl : W0 + (y.2.2.1 + 11) + y.2.2.2.2.locals ≤ R.locals) {a1 : Array Value} (hEL : EW Z a1 P.1) (H : CHv Z P.1 vm0 h) (hS : ∀ x, P.2 x → Safe Z P.1 vm0 h x ∧ x < h.size) :
    BackS l R p e below (s.setVm vm0) args y.1 len W0 (fun A a => a = as' ∧ A.U.heap = h ∧ A.cells + y.2.2.2.2.cells ≤ R.cells ∧ A.slots + y.2.2.2.2.slots ≤ R.slots)
      (fun A _ v B => ∃ L, (Fr n0 L ∧ h.size ≤ B.U.heap.size ∧ Q' v B.U.heap) ∧ B.locs = A.locs ++ L ∧ B.cells = A.cells + y.2.2.2.2.cells ∧ B.slots = A.slots + y.2.2.2.2.slots ∧ CHr Z P.1 vm0 h B.U.vm B.U.heap) :=
  BackS.of_freeW (bytes := y.2.1) (maxL := y.2.2.1) (ret := y.2.2.2.1) (E := fun _ first o t L k n => k = y.2.2.2.2.cells ∧ n = y.2.2.2.2.slots ∧ (∃ v, o = .returned v ∧ (Fr n0 L ∧ h.size ≤ t.heap.size ∧ Q' v t.heap)) ∧ CHr Z P.1 first.vm first.heap t.vm t.heap) K hf hl
    (fun m meth c A a Y hp => have hU : Z.Warmed39 A.U.vm := wtrans (s := s.setVm vm0) hZ Y.warmed
      ⟨by show (Cond.and _ .tt).before a A.U = true; rw [Cond.before_and, mv hU w4]; rfl, mv hU w4, mv hU w3, hp.2.2.1, hp.2.2.2⟩)
    (fun m meth c A a g mk Y hp => ⟨hp.1, wtrans (s := s.setVm vm0) hZ Y.warmed, hp.2.1, (CHv.at Y hZ hEL H).1, fun x hx => ⟨(CHv.at Y hZ hEL H).safe (hS x hx).2 (hS x hx).1, (hS x hx).2⟩⟩) (fun _ _ _ _ _ _ _ _ _ => trivial)
    (fun _ _ _ _ ⟨v, L, h1, h2, h3, h4⟩ => ⟨L, _, _, h4, rfl, rfl, ⟨v, h1, h2⟩, h3⟩)
    (fun m meth c A a g mk v t L k n Y hp _ _ ⟨e1, e2, ⟨v', e3, e4⟩, e5⟩ => by
      cases e3; subst e1 e2
      refine ⟨L, e4, rfl, rfl, rfl, (CHv.at Y hZ hEL H).trans ?_⟩
      rw [← hp.2.1]; exact e5)
/-- the walk goes on over the start with the tables that the callee left -/
theorem KW.after {p : Program} {e : Env} {s : State} {vm0 : Vm} {k0 : Nat} {m : MethodId} {args : Array Value} {below : List Frame} {meth : Method} {c : Code} {T' : State} {locs : List Loc} {h' : Heap} {k' n' : Nat} (W : KW true l Z M n0 Q P h' k' n' pc' Ls st')
    (hx : p.tables.exec = Jvm.exec) (hby : c.code = M.2.1) (hml : c.maxLocals = M.2.2.1) (hown : (s.setVm vm0).vm.findClass M.1.cls = some m.cls) (hnm : meth.name = M.1.name) (hret : meth.sig.returnType = M.2.2.2.1) (hlk : meth.locks = false) (hZ : Z.Warmed39 (s.setVm vm0).vm)
    (hS0 : s.Since vm0 k0) (hk0 : k0 ≤ h.size) (hC : CHr Z P.1 s.vm s.heap vm0 h) (hS : ∀ x, P.2 x → Safe Z P.1 vm0 h x ∧ x < h.size) (hI : true = true → ∃ a0, EW Z a0 P.1)
    (X' : Stand p l e M.2.2.2.2 (s.setVm T'.vm) m args below meth c T' locs k' n') (hS' : (s.setVm vm0).Since T'.vm T'.heap.size) (N : Fr n0 locs) (hz : h.size ≤ h'.size) (eT : T'.heap = h') (hC' : CHr Z P.1 vm0 h T'.vm h') :
    ∃ t v L, Steps p.tables e below (T'.setTop (mkF m pc' Ls st')) t ∧ t.status = .running ∧ Ended t below (.returned v) ∧ Fr n0 L ∧ Q v t.heap ∧ KE true Z s v t L P.1 M.2.2.2.2.cells M.2.2.2.2.slots :=
  W p e s (s.setVm T'.vm) m args below meth c hx hby hml (by show T'.vm.findClass _ = _; rw [hS'.1.alike.findClass]; exact hown) hnm hret hlk (State.Warmed39.trans (t := s.setVm vm0) hZ hS'.1)
    (Or.inr ⟨rfl, T'.vm, T'.heap.size, rfl, hS0.trans hS' (by rw [eT]; exact Nat.le_trans hk0 hz), by rw [eT]; exact Nat.le_refl _, hC.trans hC', fun x hx => ⟨hC'.safe (hS x hx).2 (hS x hx).1, Nat.lt_of_lt_of_le (hS x hx).2 hz⟩⟩) hI T' locs X' N eT
theorem k_callStaticW {y : MD} {i W0 : Nat} {argsL : List Value} {Q' : Option Value → Heap → Prop} {ps : List FieldType} {r : Option FieldType} (hd : decode M.2.1 pc = .ok (.invokestatic i, 3)) (hp : pc + 3 = pc') (K : MtW l Z y [] n0 argsL.toArray P h Q')
    (w1 : (Cond.methodLink M.1.cls i y.1).before a0 Z = true) (w2 : (Cond.static y.1).before a0 Z = true) (w3 : (Cond.initialized y.1.cls).before a0 Z = true) (w4 : (Cond.code y.1 y.2.1 y.2.2.1 y.2.2.2.1).before a0 Z = true) (hy : y.1.cls ≠ "java/lang/invoke/MethodHandle" ∧ y.1.cls ≠ "java/lang/invoke/VarHandle")
    (hpd : parseMethodDescriptor y.1.desc = some ⟨ps, r⟩) (hlen : argsL.length = ps.length) (hst : st = argsL.reverse ++ rest) (hsz : Ls.size = M.2.2.1) (hW : (rest.map fun v => v.category).sum = W0)
    (hfr : y.2.2.2.2.frames + 1 ≤ M.2.2.2.2.frames) (hlo : W0 + (y.2.2.1 + 11) + y.2.2.2.2.locals ≤ M.2.2.2.2.locals) (hc : k + y.2.2.2.2.cells ≤ M.2.2.2.2.cells) (hs : n + y.2.2.2.2.slots ≤ M.2.2.2.2.slots)
    (W : ∀ v h', h.size ≤ h'.size → Q' v h' → KW true l Z M n0 Q P h' (k + y.2.2.2.2.cells) (n + y.2.2.2.2.slots) pc' Ls (v.toList ++ rest)) : KW true l Z M n0 Q P h k n pc Ls st := by
  intro p e s s' m args below meth c hx hby hml hown hnm hret hlk hZ hB hI T locs X N eT
  subst hp
  rcases hB with ⟨q, -⟩ | ⟨-, vm0, k0, rfl, hS0, hk0, hC, hSf⟩
  · cases q
  obtain ⟨a1, hEW⟩ := hI rfl
  obtain ⟨v, _, ⟨T', L', k', n'⟩, -, X', hS', hgr, ⟨Lc, ⟨q1, q2, q3⟩, l1, l2, l3, hC'⟩, stp⟩ := callSS X hx (y := y.1) hown (mvT hZ w1) (mvT hZ w2) (mvT hZ w3) (mvT hZ w4) hy (backW (W0 := W0) K hZ w4 w3 hfr hlo hEW hC.1 hSf) (g := mkF m pc Ls st) rfl (hsz.trans hml.symm) (argsL := argsL) (rest := rest) (lenOf hpd hlen) hst (by show 2 * 0 + _ ≤ _; omega) (hb hby hd) (fun _ _ => ⟨rfl, eT, hc, hs⟩)
  dsimp only [Pt.U, Pt.locs, Pt.cells, Pt.slots] at X' l1 l2 l3 stp q2 q3 hS' hC'
  subst l1 l2 l3
  obtain ⟨t, v', L, r, rr⟩ := (W v T'.heap q2 q3).after (h := h) hx hby hml hown hnm hret hlk hZ hS0 hk0 hC hSf hI X' hS' (Fr.app N q1) q2 rfl hC'
  exact ⟨t, v', L, stp.trans r, rr⟩
theorem k_callInitW {y : MD} {i W0 : Nat} {a : Addr} {argsL : List Value} {Q' : Option Value → Heap → Prop} {ps : List FieldType} {r : Option FieldType} (hd : decode M.2.1 pc = .ok (.invokespecial i, 3)) (hp : pc + 3 = pc') (K : MtW l Z y [] n0 (.ref a :: argsL).toArray P h Q') (hi : y.1.name = "<init>") (hr0 : y.2.2.2.1 = none)
    (w1 : (Cond.methodLink M.1.cls i y.1).before a0 Z = true) (w2 : (Cond.instanceMethod y.1).before a0 Z = true) (w3 : (Cond.initialized y.1.cls).before a0 Z = true) (w4 : (Cond.code y.1 y.2.1 y.2.2.1 y.2.2.2.1).before a0 Z = true) (hy : y.1.cls ≠ "java/lang/invoke/MethodHandle" ∧ y.1.cls ≠ "java/lang/invoke/VarHandle")
    (hpd : parseMethodDescriptor y.1.desc = some ⟨ps, r⟩) (hlen : argsL.length = ps.length) (hst : st = argsL.reverse ++ .ref a :: rest) (hsz : Ls.size = M.2.2.1) (hW : (rest.map fun v => v.category).sum = W0)
    (hfr : y.2.2.2.2.frames + 1 ≤ M.2.2.2.2.frames) (hlo : W0 + (y.2.2.1 + 11) + y.2.2.2.2.locals ≤ M.2.2.2.2.locals) (hc : k + y.2.2.2.2.cells ≤ M.2.2.2.2.cells) (hs : n + y.2.2.2.2.slots ≤ M.2.2.2.2.slots)
    (W : ∀ v h', h.size ≤ h'.size → Q' v h' → KW true l Z M n0 Q P h' (k + y.2.2.2.2.cells) (n + y.2.2.2.2.slots) pc' Ls (v.toList ++ rest)) : KW true l Z M n0 Q P h k n pc Ls st := by
  intro p e s s' m args below meth c hx hby hml hown hnm hret hlk hZ hB hI T locs X N eT
  subst hp
  rcases hB with ⟨q, -⟩ | ⟨-, vm0, k0, rfl, hS0, hk0, hC, hSf⟩
  · cases q
  obtain ⟨a1, hEW⟩ := hI rfl
  obtain ⟨v, _, ⟨T', L', k', n'⟩, -, X', hS', hgr, ⟨Lc, ⟨q1, q2, q3⟩, l1, l2, l3, hC'⟩, stp⟩ := X.specialBackS hx (y := y.1) hi hown (mvT hZ w1) (mvT hZ w2) (bytes := y.2.1) (maxL := y.2.2.1) (by rw [← hr0]; exact mvT hZ w4) hy (backW (W0 := W0) K hZ w4 w3 hfr hlo hEW hC.1 hSf) (g := mkF m pc Ls st) rfl (hsz.trans hml.symm) (Steps.refl _) (a := a) (argsL := argsL) (rest := rest) (lenOf hpd hlen) hst (by show 2 * 0 + _ ≤ _; omega) (hb hby hd) (fun _ _ => ⟨rfl, eT, hc, hs⟩)
  dsimp only [Pt.U, Pt.locs, Pt.cells, Pt.slots] at X' l1 l2 l3 stp q2 q3 hS' hC'
  subst l1 l2 l3
  obtain ⟨t, v', L, r, rr⟩ := (W v T'.heap q2 q3).after (h := h) hx hby hml hown hnm hret hlk hZ hS0 hk0 hC hSf hI X' hS' (Fr.app N q1) q2 rfl hC'
  exact ⟨t, v', L, stp.trans r, rr⟩
theorem k_callVirtualW {y : MD} {x : MethodName} {C : String} {i W0 : Nat} {a : Addr} {argsL : List Value} {Q' : Option Value → Heap → Prop} {ps : List FieldType} {r : Option FieldType} (hd : decode M.2.1 pc = .ok (.invokevirtual i, 3)) (hp : pc + 3 = pc') (K : MtW l Z y [] n0 (.ref a :: argsL).toArray P h Q') (E : Exa Z h a C)
    (w1 : (Cond.methodLink M.1.cls i x).before a0 Z = true) (w2 : (Cond.declares x).before a0 Z = true) (w3 : (Cond.selects C x y.1).before a0 Z = true) {C7 : String} {x7 z7 : MethodName} (w7 : (Cond.selects C7 x7 z7).before a0 Z = true) (hz7 : z7.cls = x.cls) (w4 : (Cond.instanceMethod y.1).before a0 Z = true) (w5 : (Cond.code y.1 y.2.1 y.2.2.1 y.2.2.2.1).before a0 Z = true) (w6 : (Cond.initialized y.1.cls).before a0 Z = true) (hy : x.cls ≠ "java/lang/invoke/MethodHandle" ∧ x.cls ≠ "java/lang/invoke/VarHandle")
    (hpd : parseMethodDescriptor x.desc = some ⟨ps, r⟩) (hlen : argsL.length = ps.length) (hst : st = argsL.reverse ++ .ref a :: rest) (hsz : Ls.size = M.2.2.1) (hW : (rest.map fun v => v.category).sum = W0)
    (hfr : y.2.2.2.2.frames + 1 ≤ M.2.2.2.2.frames) (hlo : W0 + (y.2.2.1 + 11) + y.2.2.2.2.locals ≤ M.2.2.2.2.locals) (hc : k + y.2.2.2.2.cells ≤ M.2.2.2.2.cells) (hs : n + y.2.2.2.2.slots ≤ M.2.2.2.2.slots)
    (W : ∀ v h', h.size ≤ h'.size → Q' v h' → KW true l Z M n0 Q P h' (k + y.2.2.2.2.cells) (n + y.2.2.2.2.slots) pc' Ls (v.toList ++ rest)) : KW true l Z M n0 Q P h k n pc Ls st := by
  intro p e s s' m args below meth c hx hby hml hown hnm hret hlk hZ hB hI T locs X N eT
  subst hp
  rcases hB with ⟨q, -⟩ | ⟨-, vm0, k0, rfl, hS0, hk0, hC, hSf⟩
  · cases q
  obtain ⟨a1, hEW⟩ := hI rfl
  obtain ⟨cq, kq, qa, qb, qc⟩ := isOf hZ eT E
  obtain ⟨v, _, ⟨T', L', k', n'⟩, -, X', hS', hgr, ⟨Lc, ⟨q1, q2, q3⟩, l1, l2, l3, hC'⟩, stp⟩ := X.virtualBackS hx (y := x) (z := y.1) hown (mvT hZ w1) (mvT hZ w2) (own_notFace (args := #[]) (mvT hZ w7) hz7) (mvT hZ w3) (mvT hZ w4) hy (backW (W0 := W0) K hZ w5 w6 hfr hlo hEW hC.1 hSf) qa qc (g := mkF m pc Ls st) rfl (hsz.trans hml.symm) (Steps.refl _) (argsL := argsL) (rest := rest) (lenOf hpd hlen) hst (by show 2 * 0 + _ ≤ _; omega) (hb hby hd) (fun _ _ => ⟨rfl, eT, hc, hs⟩)
  dsimp only [Pt.U, Pt.locs, Pt.cells, Pt.slots] at X' l1 l2 l3 stp q2 q3 hS' hC'
  subst l1 l2 l3
  obtain ⟨t, v', L, r, rr⟩ := (W v T'.heap q2 q3).after (h := h) hx hby hml hown hnm hret hlk hZ hS0 hk0 hC hSf hI X' hS' (Fr.app N q1) q2 rfl hC'
  exact ⟨t, v', L, stp.trans r, rr⟩
/-- a String constant whose text is read -/
theorem k_ldcS {i sl : Nat} {text : String} {vs : List Value} {z : Int32} (hd : decode M.2.1 pc = .ok (.ldc i, 2)) (hp : pc + 2 = pc') (w : (Cond.stringLink M.1.cls i text).before a0 Z = true) (wS : ∀ a ∈ Bundle.stringAtoms, a.before a0 Z = true) (hmem : (M.1.cls, i) ∈ P.1)
    (ht : (∀ c ∈ text.toList, c.toNat < 256) ∧ text.toList.map (fun c => Value.int (Jvm.Lit.byteI c.toNat.toUInt16)) = vs) (hz : ¬ z < 0) (hl : z.toNatClampNeg = vs.length) (hn : 4 * text.toList.length ≤ sl) (hbig : sl ≤ 536870912) (hc : k + 2 ≤ M.2.2.2.2.cells) (hs : n + (sl + 4) ≤ M.2.2.2.2.slots)
    (W : ∀ a b ck h', Ext h h' → Exa Z h' a "java/lang/String" → Fld Z h' a "java/lang/String" "coder" "B" (.int 0) → Fld Z h' a "java/lang/String" "value" "[B" (.ref b) → Arv Z h' b ck .byte z vs (.int 0) → (∀ x, P.2 x → x ≠ a ∧ x ≠ b) → KW true l Z M n0 Q P h' (k + 2) (n + (sl + 4)) pc' Ls (.ref a :: st)) : KW true l Z M n0 Q P h k n pc Ls st := by
  intro p e s s' m args below meth c hx hby hml hown hnm hret hlk hZ hB hI T locs X N eT
  subst hp
  rcases hB with ⟨q, -⟩ | ⟨-, vm0, k0, rfl, hS0, hk0, hC, hSf⟩
  · cases q
  obtain ⟨a1, hEW⟩ := hI rfl
  have hEW0 : EW Z a0 P.1 := fun p hp => by
    obtain ⟨text, w1, w2⟩ := hEW p hp
    exact ⟨text, by simpa only [Cond.before, Cond.holds, Cond.value] using w1, w2⟩
  obtain ⟨a, T', h', k1, b, ck, X', e', E, hS', hk', hZ', hown', A, F1, F2, V, -, -, hC', -, hne, stp⟩ := ldcCH X hx hZ hown w wS eT hS0 hk0 hEW0 hmem hC.1 ht hz hl (g := mkF m pc Ls st) rfl (hb hby hd) hn hbig hc hs
  obtain ⟨t, v', L, r, rr⟩ := W a b ck h' E A F1 F2 V (fun x hx => hne x (hC'.safe (hSf x hx).2 (hSf x hx).1)) p e s (s.setVm T'.vm) m args below meth c hx hby hml hown' hnm hret hlk hZ' (Or.inr ⟨rfl, T'.vm, k1, rfl, hS', hk', hC.trans hC', fun x hx => ⟨hC'.safe (hSf x hx).2 (hSf x hx).1, Nat.lt_of_lt_of_le (hSf x hx).2 E.1⟩⟩) hI T' locs X' N e'
  exact ⟨t, v', L, stp t r, rr⟩
/-- a String constant whose text isn't read -/
theorem k_ldcO {i sl : Nat} {text : String} (hd : decode M.2.1 pc = .ok (.ldc i, 2)) (hp : pc + 2 = pc') (w : (Cond.stringLink M.1.cls i text).before a0 Z = true) (wS : ∀ a ∈ Bundle.stringAtoms, a.before a0 Z = true)
    (hn : 4 * text.toList.length ≤ sl) (hbig : sl ≤ 536870912) (hc : k + 2 ≤ M.2.2.2.2.cells) (hs : n + (sl + 4) ≤ M.2.2.2.2.slots)
    (W : ∀ a h', Ext h h' → KW true l Z M n0 Q P h' (k + 2) (n + (sl + 4)) pc' Ls (.ref a :: st)) : KW true l Z M n0 Q P h k n pc Ls st := by
  intro p e s s' m args below meth c hx hby hml hown hnm hret hlk hZ hB hI T locs X N eT
  subst hp
  rcases hB with ⟨q, -⟩ | ⟨-, vm0, k0, rfl, hS0, hk0, hC, hSf⟩
  · cases q
  obtain ⟨a1, hEW⟩ := hI rfl
  have hEW0 : EW Z a0 P.1 := fun p hp => by
    obtain ⟨text, w1, w2⟩ := hEW p hp
    exact ⟨text, by simpa only [Cond.before, Cond.holds, Cond.value] using w1, w2⟩
  obtain ⟨a, T', h', k1, X', e', E, hS', hk', hZ', hown', hC', -, stp⟩ := ldcOH X hx hZ hown w wS eT hS0 hk0 hEW0 hC.1 (g := mkF m pc Ls st) rfl (hb hby hd) hn hbig hc hs
  obtain ⟨t, v', L, r, rr⟩ := W a h' E p e s (s.setVm T'.vm) m args below meth c hx hby hml hown' hnm hret hlk hZ' (Or.inr ⟨rfl, T'.vm, k1, rfl, hS', hk', hC.trans hC', fun x hx => ⟨hC'.safe (hSf x hx).2 (hSf x hx).1, Nat.lt_of_lt_of_le (hSf x hx).2 E.1⟩⟩) hI T' locs X' N e'
  exact ⟨t, v', L, stp t r, rr⟩
end
end Jvm.OwnW

namespace Jvm.OwnW
open Sem ClassFile Op Lib Jvm.Stand Jvm.Free Jvm.LawKit Jvm.RoadKit
theorem ix_int {j : Nat} (h : j < 2147483648) : (Int32.ofNat j).toInt = (j : Int) := Int32.toInt_ofNat_of_lt h
theorem ix_nat {j : Nat} (h : j < 2147483648) : (Int32.ofNat j).toNatClampNeg = j := by
  show (Int32.ofNat j).toInt.toNat = j
  rw [ix_int h]; rfl
theorem ix_nn {j : Nat} (h : j < 2147483648) : ¬ Int32.ofNat j < 0 := by
  rw [Int32.lt_iff_toInt_lt, ix_int h]; show ¬ (j : Int) < 0; omega
theorem ix_lt {i j : Nat} (hj : j < 2147483648) (h : i < j) : Int32.ofNat i < Int32.ofNat j := by
  rw [Int32.lt_iff_toInt_lt, ix_int hj, ix_int (by omega)]; omega
theorem ix_irr {j : Nat} : ¬ Int32.ofNat j < Int32.ofNat j := by rw [Int32.lt_iff_toInt_lt]; omega
theorem ix_succ (j : Nat) : Int32.ofNat j + 1 = Int32.ofNat (j + 1) := (Int32.ofNat_add j 1).symm
theorem ix_inb {j n : Nat} (hn : n < 2147483648) (h : j < n) : ¬ Int32.ofNat j < 0 ∧ Int32.ofNat j < Int32.ofNat n := ⟨ix_nn (by omega), ix_lt hn h⟩
theorem ix_ne {i j : Nat} (hi : i < 2147483648) (hj : j < 2147483648) (h : i ≠ j) : ¬ Int32.ofNat i = Int32.ofNat j := fun q => h (by
  have := congrArg Int32.toInt q; rw [ix_int hi, ix_int hj] at this; omega)
theorem get_mid (f : Int32 → Value) (ps rs : List Int32) (q : Int32) (d : Value) {j : Nat} (hj : j = ps.length) : ((ps ++ q :: rs).map f).getD j d = f q := by
  subst hj; induction ps with
  | nil => rfl
  | cons p ps ih => simpa using ih
theorem set_mid (A B : List Value) (w v : Value) {j : Nat} (hj : j = A.length) : (A ++ w :: B).set j v = (A ++ [v]) ++ B := by
  subst hj; induction A with
  | nil => rfl
  | cons p ps ih => simpa using ih
/-- a byte of a sign -/
abbrev nbI (q : Int32) : Int32 := nar .byte (Int8.toInt32 (Int32.toInt8 q))
theorem nbI_inj {p q : Int32} (hp : 0 ≤ p.toInt ∧ p.toInt < 256) (hq : 0 ≤ q.toInt ∧ q.toInt < 256) (h : nbI p = nbI q) : p = q := by
  have e1 := c_i2b p; have e2 := c_i2b q
  have e3 := c_i2b (Int8.toInt32 (Int32.toInt8 p)); have e4 := c_i2b (Int8.toInt32 (Int32.toInt8 q))
  have h' : (Int8.toInt32 (Int32.toInt8 (Int8.toInt32 (Int32.toInt8 p)))).toInt = (Int8.toInt32 (Int32.toInt8 (Int8.toInt32 (Int32.toInt8 q)))).toInt := congrArg Int32.toInt h
  refine Int32.toInt_inj.mp ?_
  omega
def Latin (xs : List Int32) : Prop := ∀ q ∈ xs, 0 ≤ q.toInt ∧ q.toInt < 256
theorem Latin.nil : Latin [] := fun _ q => nomatch q
theorem Latin.cons {q : Int32} {xs : List Int32} (h : 0 ≤ q.toInt ∧ q.toInt < 256) (r : Latin xs) : Latin (q :: xs) := fun x hx => (List.mem_cons.mp hx).elim (fun e => e ▸ h) (r x)
theorem latin_inj : ∀ {xs ys : List Int32}, Latin xs → Latin ys → xs.map nbI = ys.map nbI → xs = ys
  | [], [], _, _, _ => rfl
  | [], _ :: _, _, _, h => by simp at h
  | _ :: _, [], _, _, h => by simp at h
  | x :: xs, y :: ys, hx, hy, h => by
    simp only [List.map_cons, List.cons.injEq] at h
    rw [nbI_inj (hx x (by simp)) (hy y (by simp)) h.1, latin_inj (fun q hq => hx q (by simp [hq])) (fun q hq => hy q (by simp [hq])) h.2]
/-- a String of Latin-1 signs, by its bytes -/
def Sg (Z : State) (h : Heap) (a t : Addr) (bs : List Int32) : Prop := ∃ ck, Exa Z h a "java/lang/String" ∧ Fld Z h a "java/lang/String" "coder" "B" (.int 0) ∧ Fld Z h a "java/lang/String" "value" "[B" (.ref t) ∧ Arv Z h t ck .byte (Int32.ofNat bs.length) (bs.map Value.int) (.int 0) ∧ bs.length < 2147483648
section
variable {Z : State} {h h' : Heap} {a t x : Addr} {bs : List Int32} {ws : List Addr} {sl : Nat} {v : Value}
theorem Sg.ext (S : Sg Z h a t bs) (E : Ext h h') : Sg Z h' a t bs := by
  obtain ⟨ck, A, B, C, D, F⟩ := S; exact ⟨ck, A.ext E, B.ext E, C.ext E, D.ext E, F⟩
theorem Sg.keep (S : Sg Z h a t bs) (K : Keep h h' ws) (q : a ∉ ws) (r : t ∉ ws) : Sg Z h' a t bs := by
  obtain ⟨ck, A, B, C, D, F⟩ := S; exact ⟨ck, A.keep K, B.keep K q, C.keep K q, D.keep K r, F⟩
theorem Sg.wr (S : Sg Z h a t bs) (W : Wr h h' x sl v) (q : a ≠ x) (r : t ≠ x) : Sg Z h' a t bs := by
  obtain ⟨ck, A, B, C, D, F⟩ := S; exact ⟨ck, A.wr W, B.other W (Or.inl q), C.other W (Or.inl q), D.other W r, F⟩
theorem Sg.lt (S : Sg Z h a t bs) : a < h.size := by obtain ⟨ck, A, -⟩ := S; exact A.lt
theorem Sg.ltv (S : Sg Z h a t bs) : t < h.size := by obtain ⟨ck, -, -, -, D, -⟩ := S; exact D.lt
theorem Sg.exa (S : Sg Z h a t bs) : Exa Z h a "java/lang/String" := by obtain ⟨ck, A, -⟩ := S; exact A
end
theorem Fld.uniq {Z : State} {h : Heap} {a : Addr} {C n d : String} {v w : Value} (F : Fld Z h a C n d v) (G : Fld Z h a C n d w) : v = w :=
  Classical.byContradiction fun q => (Fld.ne F G q) rfl
theorem Arv.uniq {Z : State} {h : Heap} {t : Addr} {ck ck' : ClassId} {xs ys : List Int32} (hx : xs.length < 2147483648) (hy : ys.length < 2147483648) (A : Arv Z h t ck .byte (Int32.ofNat xs.length) (xs.map Value.int) (.int 0)) (B : Arv Z h t ck' .byte (Int32.ofNat ys.length) (ys.map Value.int) (.int 0)) : xs = ys := by
  obtain ⟨c, A1, -, A3, -, A5, -⟩ := A
  obtain ⟨c', B1, -, B3, -, B5, -⟩ := B
  cases A1.1.symm.trans B1.1
  rw [ix_nat hx] at A3
  rw [ix_nat hy] at B3
  have hl : xs.length = ys.length := A3.symm.trans B3
  apply List.ext_getElem hl
  intro i h1 h2
  have e1 := A5 i (by omega)
  have e2 := B5 i (by omega)
  have e3 := Option.some.inj (e1.symm.trans e2)
  simp only [List.getD_eq_getElem?_getD, List.getElem?_map, List.getElem?_eq_getElem h1, List.getElem?_eq_getElem h2, Option.map_some, Option.getD_some] at e3
  exact Value.int.inj e3
theorem Sg.uniq {Z : State} {h : Heap} {a t u : Addr} {xs ys : List Int32} (S : Sg Z h a t xs) (T : Sg Z h a u ys) : xs = ys := by
  obtain ⟨ck, -, -, C, D, F⟩ := S
  obtain ⟨ck', -, -, C', D', F'⟩ := T
  cases Value.ref.inj (Fld.uniq C C')
  exact Arv.uniq F F' D D'
/-- the answer of equals -/
def eqI (xs ys : List Int32) : Int32 := if xs = ys then 1 else 0
theorem eqI_one {xs ys : List Int32} (h : ¬ eqI xs ys = 0) : eqI xs ys = 1 := by
  unfold eqI at *; split at h
  · rename_i q; rw [if_pos q]
  · exact absurd rfl h
theorem eqI_self (xs : List Int32) : eqI xs xs = 1 := by simp [eqI]
theorem eqI_nar (xs ys : List Int32) : nar .boolean (eqI xs ys) = eqI xs ys := by unfold eqI; split <;> decide
theorem eqI_mid {ps rs rs' : List Int32} {q q' : Int32} (h : ¬ q = q') : eqI (ps ++ q :: rs) (ps ++ q' :: rs') = 0 := by
  unfold eqI; rw [if_neg]; intro e
  exact h (List.cons.inj (List.append_cancel_left e)).1
theorem eqI_len {xs ys : List Int32} (h : ¬ Int32.ofNat xs.length = Int32.ofNat ys.length) : eqI xs ys = 0 := by
  unfold eqI; rw [if_neg]; intro e; exact h (by rw [e])
end Jvm.OwnW

namespace Jvm.OwnW
open Sem ClassFile Op Lib Jvm.Stand Jvm.Free Jvm.LawKit Jvm.RoadKit
section
variable {wd : Bool} {l : Launch} {Z : State} {M : MD} {n0 : Nat} {Q : Option Value → Heap → Prop} {P : PX} {h : Heap} {k n k' n' pc pc' : Nat} {Ls Ls' : Array Slot} {st st' rest : List Value} {a0 : Array Value}
/-- fewer cells made are as good -/
theorem KW.more (hk : k ≤ k') (hn : n ≤ n') (W : KW wd l Z M n0 Q P h k' n' pc Ls st) : KW wd l Z M n0 Q P h k n pc Ls st :=
  fun p e s s' m args below meth c hx hby hml hown hnm hret hlk hZ hB hI T locs X N eT => W p e s s' m args below meth c hx hby hml hown hnm hret hlk hZ hB hI T locs (X.more hk hn) N eT
theorem k_instNo {i : Nat} {K C : String} {a : Addr} (hd : decode M.2.1 pc = .ok (.instanceof i, 3)) (hp : pc + 3 = pc') (w : (Cond.classLink M.1.cls i K).before a0 Z = true) (E : Exa Z h a C) (F : ∃ c t, Z.vm.findClass C = some c ∧ Z.vm.findClass K = some t ∧ Z.vm.assignable c t = false) (W : KW wd l Z M n0 Q P h k n pc' Ls (.int 0 :: st)) : KW wd l Z M n0 Q P h k n pc Ls (.ref a :: st) := by
  subst hp; exact W.move fun p e s' T m args below meth c locs hx hby hml hown hZ X eT => instNo X hx hZ hown w eT E F (g := mkF m pc Ls (.ref a :: st)) rfl rfl (hb hby hd)
theorem k_instNull {i : Nat} (hd : decode M.2.1 pc = .ok (.instanceof i, 3)) (hp : pc + 3 = pc') (W : KW wd l Z M n0 Q P h k n pc' Ls (.int 0 :: st)) : KW wd l Z M n0 Q P h k n pc Ls (.null :: st) := by
  subst hp; exact W.step fun p e s' T m args below meth c locs hx hby hown hZ X target r => X.instanceofNull hx (g := mkF m pc Ls (.null :: st)) rfl rfl (hb hby hd) target r
theorem own_apart {C O K : String} {n : Nat} (wC : (Cond.superclass C O).before a0 Z = true) (wO : (Cond.noSuperclass O).before a0 Z = true) (wK : (Cond.instantiable K n).before a0 Z = true) (h1 : C ≠ K) (h2 : O ≠ K) : ∃ c t, Z.vm.findClass C = some c ∧ Z.vm.findClass K = some t ∧ Z.vm.assignable c t = false := by
  obtain ⟨t, kt, k1, k2, k3, k4, -, -⟩ := Cond.instantiable_spec wK
  obtain ⟨o, ko, o1, o2, o3, -, -⟩ := Cond.noSuperclass_spec wO
  obtain ⟨c, c0⟩ := found_sup wC
  obtain ⟨p, kc, kp, s1, s2, s3, s4, s5, -, s7⟩ := Cond.superclass_spec c0 wC
  cases o1.symm.trans s1
  have n1 := ids_ne c0 k1 h1
  have n2 := ids_ne o1 k1 h2
  have hroot : ∀ f, Z.vm.isSubclassAux f o t = false := fun f => by
    cases f with
    | zero => rfl
    | succ f => simp [Vm.isSubclassAux, n2, o2, o3]
  have hsub : ∀ f, Z.vm.isSubclassAux f c t = false := fun f => by
    cases f with
    | zero => rfl
    | succ f => simp [Vm.isSubclassAux, n1, s2, s4, hroot]
  have hi : kt.isInterface = false := by simp at k4; exact k4.1
  refine ⟨c, t, c0, k1, ?_⟩
  show Z.vm.assignableAux (255 + 1) c t = false
  simp [Vm.assignableAux, n1, s2, k2, s5, k3, hi, Vm.isSubclass, hsub]
end
theorem cat_R (a : Addr) : (Value.ref a).category = 1 := rfl
theorem cat_ref {v : Value} (h : v.isRef = true) : v.category = 1 := by rcases ref_cases h with rfl | ⟨_, rfl⟩ <;> rfl
theorem fit_ref {v : Value} {C : String} (h : v.isRef = true) : fits (.object C) v = true := by rcases ref_cases h with rfl | ⟨_, rfl⟩ <;> rfl
theorem nar_ref {v : Value} {C : String} (h : v.isRef = true) : narrow (.object C) v = v := by rcases ref_cases h with rfl | ⟨_, rfl⟩ <;> rfl
theorem eqI_comm (xs ys : List Int32) : eqI xs ys = eqI ys xs := by
  unfold eqI; by_cases h : xs = ys
  · rw [if_pos h, if_pos h.symm]
  · rw [if_neg h, if_neg (fun e => h e.symm)]
end Jvm.OwnW

namespace Jvm.OwnW
open Sem ClassFile Op Lib Jvm.Stand Jvm.Free Jvm.LawKit Jvm.RoadKit
section
variable {wd : Bool} {l : Launch} {Z : State} {M : MD} {n0 : Nat} {Q : Option Value → Heap → Prop} {P : PX} {h : Heap} {k n pc pc' : Nat} {Ls Ls' : Array Slot} {st st' rest : List Value} {a0 : Array Value}
theorem getD_int (L : List Int32) (j : Nat) : (L.map Value.int).getD j (.int 0) = .int (L.getD j 0) := by
  simp only [List.getD_eq_getElem?_getD, List.getElem?_map]
  cases L[j]? <;> rfl
theorem Arv.bytes {a : Addr} {ck : ClassId} {L : List Int32} (hL : L.length < 2147483648) (A : Arv Z h a ck .byte (Int32.ofNat L.length) (L.map Value.int) (.int 0)) : ∃ c : Cell, Arr Z h a c .byte ∧ c.cls = ck ∧ c.slots.size = L.length ∧ (∀ j, j < L.length → c.slots[j]? = some (.int (L.getD j 0))) ∧ ∀ j, j < L.length → fits .byte (.int (L.getD j 0)) = true := by
  obtain ⟨c, A1, A2, A3, -, A5, A6⟩ := A
  rw [ix_nat hL] at A3
  refine ⟨c, A1, A2, A3, fun j hj => ?_, fun j hj => ?_⟩
  · have := A5 j (by omega); rw [getD_int] at this; exact this
  · have := A6 j (by omega); rw [getD_int] at this; exact this
theorem Arv.ofBytes {a : Addr} {ck : ClassId} {L : List Int32} {c : Cell} (hL : L.length < 2147483648) (A1 : Arr Z h a c .byte) (A2 : c.cls = ck) (A3 : c.slots.size = L.length) (A5 : ∀ j, j < L.length → c.slots[j]? = some (.int (L.getD j 0))) (A6 : ∀ j, j < L.length → fits .byte (.int (L.getD j 0)) = true) : Arv Z h a ck .byte (Int32.ofNat L.length) (L.map Value.int) (.int 0) :=
  ⟨c, A1, A2, by rw [ix_nat hL]; exact A3, ix_nn hL, fun j hj => by rw [getD_int]; exact A5 j (by omega), fun j hj => by rw [getD_int]; exact A6 j (by omega)⟩
/-- ys with n of xs from o on laid in at q -/
def laid (xs ys : List Int32) (o q n : Nat) : List Int32 := ys.take q ++ ((xs.drop o).take n ++ ys.drop (q + n))
theorem laid_len {xs ys : List Int32} {o q n : Nat} (h4 : o + n ≤ xs.length) (h5 : q + n ≤ ys.length) : (laid xs ys o q n).length = ys.length := by
  unfold laid; simp only [List.length_append, List.length_take, List.length_drop]; omega
theorem laid_at {xs ys : List Int32} {o q n : Nat} (h4 : o + n ≤ xs.length) (h5 : q + n ≤ ys.length) (j : Nat) : (laid xs ys o q n).getD j 0 = if q ≤ j ∧ j < q + n then xs.getD (o + (j - q)) 0 else ys.getD j 0 := by
  unfold laid
  simp only [List.getD_eq_getElem?_getD]
  by_cases a : j < q
  · rw [if_neg (by omega), List.getElem?_append_left (by simp only [List.length_take]; omega), List.getElem?_take_of_lt a]
  · rw [List.getElem?_append_right (by simp only [List.length_take]; omega)]
    have e1 : (ys.take q).length = q := by simp only [List.length_take]; omega
    rw [e1]
    by_cases b : j < q + n
    · rw [if_pos ⟨by omega, b⟩, List.getElem?_append_left (by simp only [List.length_take, List.length_drop]; omega), List.getElem?_take_of_lt (by omega), List.getElem?_drop]
    · rw [if_neg (by omega), List.getElem?_append_right (by simp only [List.length_take, List.length_drop]; omega), List.getElem?_drop]
      congr 2
      simp only [List.length_take, List.length_drop]; omega
/-- System.arraycopy between two byte arrays -/
theorem k_acopy {i W0 o q m' : Nat} {a b : Addr} {ck ck' : ClassId} {xs ys : List Int32} (hd : decode M.2.1 pc = .ok (.invokestatic i, 3)) (hp : pc + 3 = pc') (w1 : (Cond.methodLink M.1.cls i acN).before a0 Z = true) (w2 : (Cond.native acN).before a0 Z = true) (w3 : (Cond.static acN).before a0 Z = true) (w4 : (Cond.initialized "java/lang/System").before a0 Z = true)
    (hx0 : xs.length < 2147483648) (hy0 : ys.length < 2147483648) (A : Arv Z h a ck .byte (Int32.ofNat xs.length) (xs.map Value.int) (.int 0)) (B : Arv Z h b ck' .byte (Int32.ofNat ys.length) (ys.map Value.int) (.int 0)) (h4 : o + m' ≤ xs.length) (h5 : q + m' ≤ ys.length) (hb0 : n0 ≤ b) (hsf : wd = true → Sf Z P h b)
    (hsz : Ls.size = M.2.2.1) (hW : (st.map fun v => v.category).sum = W0) (hfr : 1 ≤ M.2.2.2.2.frames) (hlo : W0 + 40 ≤ M.2.2.2.2.locals)
    (W : ∀ h', Keep h h' [b] → Arv Z h' b ck' .byte (Int32.ofNat ys.length) ((laid xs ys o q m').map Value.int) (.int 0) → KW wd l Z M n0 Q (P.grow h h') h' k n pc' Ls st) : KW wd l Z M n0 Q P h k n pc Ls (.int (Int32.ofNat m') :: .int (Int32.ofNat q) :: .ref b :: .int (Int32.ofNat o) :: .ref a :: st) := by
  intro p e s s' m args below meth c hx hby hml hown hnm hret hlk hZ hB hI T locs X N eT
  subst hp
  obtain ⟨cA, A1, A2, A3, A5, A6⟩ := Arv.bytes hx0 A
  obtain ⟨cB, B1, B2, B3, B5, B6⟩ := Arv.bytes hy0 B
  have hw : ∀ w ∈ XT.acW M.1.cls i, w.before args s' = true := by
    intro w hw
    simp only [XT.acW, List.mem_cons, List.not_mem_nil, or_false] at hw
    rcases hw with rfl | rfl | rfl | rfl
    · exact mvT hZ w1
    · exact mvT hZ w2
    · exact mvT hZ w3
    · exact mvT hZ w4
  have hA : XT.Arr .byte a cA T := ⟨by rw [eT]; exact A1.1, State.isArrayOf_alike (hZ.trans (t := s') X.warmed.wide).alike A1.2.1, A1.2.2, by omega⟩
  have hBt : XT.Arr .byte b cB T := ⟨by rw [eT]; exact B1.1, State.isArrayOf_alike (hZ.trans (t := s') X.warmed.wide).alike B1.2.1, B1.2.2, by omega⟩
  have hgo : XT.Goes .byte cA o m' cB T := fun j hj => by
    have e1 : cA.slots.getD (o + j) .null = .int (xs.getD (o + j) 0) := by
      rw [Array.getD_eq_getD_getElem?, A5 (o + j) (by omega)]; rfl
    rw [e1]
    exact ⟨A6 (o + j) (by omega), fun q => by cases q⟩
  obtain ⟨T', B', X', hput, c1, c2, c3, c4, stp⟩ := X.acopy hx hown hw hA hBt (by decide) (o := o) (q := q) (n := m') rfl rfl rfl (by omega) (by omega) hgo (g := mkF m pc Ls (.int (Int32.ofNat m') :: .int (Int32.ofNat q) :: .ref b :: .int (Int32.ofNat o) :: .ref a :: st)) rfl (hsz.trans hml.symm) (rest := st) rfl (hb hby hd) (W := W0) (by show 2 * 0 + _ ≤ _; omega) hfr hlo
  have hK : Keep h T'.heap [b] := by
    rw [← eT]
    refine ⟨Nat.le_of_eq hput.2.2.symm, fun x cx q r => hput.other (fun z => r (by simp [z])) q, fun x cx q => ?_⟩
    by_cases z : x = b
    · subst z
      cases q.symm.trans hBt.1
      exact ⟨B', hput.1, c1, c2, c3⟩
    · exact ⟨cx, hput.other z q, rfl, rfl, rfl⟩
  have hAr : Arr Z T'.heap b B' .byte := ⟨hput.1, by
    obtain ⟨z1, z2⟩ := B1.2.1
    exact ⟨by rw [c2]; exact z1, by rw [c1]; exact z2⟩, by rw [c2]; exact B1.2.2⟩
  have hl := laid_len h4 h5
  have hV : Arv Z T'.heap b ck' .byte (Int32.ofNat ys.length) ((laid xs ys o q m').map Value.int) (.int 0) := by
    have V := Arv.ofBytes (L := laid xs ys o q m') (ck := ck') (by omega) hAr (c1.trans B2) (by rw [c3, B3, hl]) (fun j hj => by
      rw [c4 j, laid_at h4 h5]
      by_cases z : q ≤ j ∧ j < q + m'
      · rw [if_pos z, if_pos z, Array.getD_eq_getD_getElem?, A5 _ (by omega)]; rfl
      · rw [if_neg z, if_neg z]; exact B5 j (by omega)) (fun j hj => by
      rw [laid_at h4 h5]
      by_cases z : q ≤ j ∧ j < q + m'
      · rw [if_pos z]; exact A6 _ (by omega)
      · rw [if_neg z]; exact B6 j (by omega))
    rw [hl] at V
    exact V
  obtain ⟨t, v, L, r, rr⟩ := W T'.heap hK hV p e s s' m args below meth c hx hby hml hown hnm hret hlk hZ (hB.keep hZ hK (fun u x hx => by cases List.mem_singleton.mp hx; exact hsf u)) hI T' _ X' (Fr.app N (fun y hy => by rw [copyLocs_base hy]; exact hb0)) rfl
  exact ⟨t, v, L, stp t r, rr⟩
end
end Jvm.OwnW

namespace Jvm.OwnW
open Sem ClassFile Op Lib Jvm.Stand Jvm.Free Jvm.LawKit Jvm.RoadKit
section
variable {wd : Bool} {l : Launch} {Z : State} {M : MD} {n0 : Nat} {Q : Option Value → Heap → Prop} {P : PX} {h : Heap} {k n pc pc' : Nat} {Ls Ls' : Array Slot} {st st' rest : List Value} {a0 : Array Value}
theorem own_same {y x7 z7 : MethodName} {C7 : String} (wd : (Cond.declares y).before a0 Z = true) (w7 : (Cond.selects C7 x7 z7).before a0 Z = true) (hz : z7.cls = y.cls) (hy : y.cls ≠ "java/lang/invoke/MethodHandle" ∧ y.cls ≠ "java/lang/invoke/VarHandle") : (Cond.sameMethod y.cls y.cls y.name y.desc).before a0 Z = true := by
  obtain ⟨m, meth, h1, -, -, -⟩ := Cond.declares_spec wd
  have hf := State.methodFound?_of_named h1 hy
  obtain ⟨kr, k1, k2⟩ := own_notFace w7 hz m h1
  have hc := findClass_of_methodNamed h1
  have h1' : Z.methodNamed? ⟨y.cls, y.name, y.desc⟩ = some m := h1
  simp [Cond.before, Cond.holds, Cond.value, hc, hf, h1', k1, k2]
theorem own_decl {y : MethodName} {bytes : ByteArray} {mx : Nat} {ret : Option FieldType} (w3 : (Cond.instanceMethod y).before a0 Z = true) (w5 : (Cond.code y bytes mx ret).before a0 Z = true) : (Cond.declares y).before a0 Z = true := by
  obtain ⟨mk, meth, hn, hm, hst, hab⟩ := Cond.instanceMethod_spec w3
  obtain ⟨m2, cM, q1, -, -, -, -, -, -, hsig⟩ := Cond.code_spec hn w5
  cases hm.symm.trans q1
  simp [Cond.before, Cond.holds, Cond.value, hn, hm, hst, hsig]
theorem shl0 (z : Int32) : z <<< ((0 : Int32) &&& 31) = z := by
  have h := c_ishl z 0 0 (by decide)
  have h1 := rng32 (z <<< ((0 : Int32) &&& 31)); have h2 := rng32 z
  refine Int32.toInt_inj.mp ?_
  simp only [Nat.pow_zero] at h
  omega
/-- a superclass's method by its contract -/
theorem k_callSuper {y : MD} {C : String} {i W0 : Nat} {a : Addr} {argsL : List Value} {Q' : Option Value → Heap → Prop} {ps : List FieldType} {r : Option FieldType} {C7 : String} {x7 z7 : MethodName} (hd : decode M.2.1 pc = .ok (.invokespecial i, 3)) (hp : pc + 3 = pc') (K : Mt l Z y [] n0 (.ref a :: argsL).toArray h Q') (hkp : Kp wd Z P h Q') (E : Exa Z h a C)
    (w1 : (Cond.methodLink M.1.cls i y.1).before a0 Z = true) (w2 : (Cond.declares y.1).before a0 Z = true) (w7 : (Cond.selects C7 x7 z7).before a0 Z = true) (hz7 : z7.cls = y.1.cls) (w3 : (Cond.instanceMethod y.1).before a0 Z = true) (w4 : (Cond.superclass M.1.cls y.1.cls).before a0 Z = true) (w5 : (Cond.code y.1 y.2.1 y.2.2.1 y.2.2.2.1).before a0 Z = true) (w6 : (Cond.initialized y.1.cls).before a0 Z = true) (hn : y.1.name ≠ "<init>") (hy : y.1.cls ≠ "java/lang/invoke/MethodHandle" ∧ y.1.cls ≠ "java/lang/invoke/VarHandle")
    (hpd : parseMethodDescriptor y.1.desc = some ⟨ps, r⟩) (hlen : argsL.length = ps.length) (hst : st = argsL.reverse ++ .ref a :: rest) (hsz : Ls.size = M.2.2.1) (hW : (rest.map fun v => v.category).sum = W0)
    (hfr : y.2.2.2.2.frames + 1 ≤ M.2.2.2.2.frames) (hlo : W0 + (y.2.2.1 + 11) + y.2.2.2.2.locals ≤ M.2.2.2.2.locals) (hc : k + y.2.2.2.2.cells ≤ M.2.2.2.2.cells) (hs : n + y.2.2.2.2.slots ≤ M.2.2.2.2.slots)
    (W : ∀ v h', h.size ≤ h'.size → Q' v h' → KW wd l Z M n0 Q (P.grow h h') h' (k + y.2.2.2.2.cells) (n + y.2.2.2.2.slots) pc' Ls (v.toList ++ rest)) : KW wd l Z M n0 Q P h k n pc Ls st := by
  intro p e s s' m args below meth c hx hby hml hown hnm hret hlk hZ hB hI T locs X N eT
  subst hp
  obtain ⟨v, _, ⟨T', L', k', n'⟩, -, X', ⟨Lc, ⟨q1, q2, q3⟩, l1, l2, l3⟩, stp⟩ := superBack X hx hZ (y := y.1) hown w1 (own_same w2 w7 hz7 hy) w3 w4 hn (backOf (W := W0) (Q := fun v h' L => Fr n0 L ∧ h.size ≤ h'.size ∧ Q' v h') K hZ w5 w6 hfr hlo) eT (Ins.self E) (g := mkF m pc Ls st) rfl (hsz.trans hml.symm) w5 (argsL := argsL) (rest := rest) (lenOf hpd hlen) hst (by show 2 * 0 + _ ≤ _; omega) (hb hby hd) (fun _ _ => ⟨rfl, eT, hc, hs⟩)
  dsimp only [Pt.U, Pt.locs, Pt.cells, Pt.slots] at X' l1 l2 l3 stp q2 q3
  subst l1 l2 l3
  obtain ⟨t, v', L, r, rr⟩ := W v T'.heap q2 q3 p e s s' m args below meth c hx hby hml hown hnm hret hlk hZ (hB.call hZ hkp q3) hI T' _ X' (Fr.app N q1) rfl
  exact ⟨t, v', L, stp.trans r, rr⟩
end
/-- a StringBuilder of Latin-1 signs: her bytes, and the array of N bytes -/
def Sb (Z : State) (h : Heap) (b d : Addr) (N : Nat) (bs : List Int32) : Prop := ∃ ck zs, Exa Z h b "java/lang/StringBuilder" ∧ Fld Z h b "java/lang/AbstractStringBuilder" "value" "[B" (.ref d) ∧ Fld Z h b "java/lang/AbstractStringBuilder" "coder" "B" (.int 0) ∧ Fld Z h b "java/lang/AbstractStringBuilder" "count" "I" (.int (Int32.ofNat bs.length)) ∧ Arv Z h d ck .byte (Int32.ofNat N) ((bs ++ zs).map Value.int) (.int 0) ∧ (bs ++ zs).length = N ∧ N < 2147483648
theorem Sb.lt {Z : State} {h : Heap} {b d : Addr} {N : Nat} {bs : List Int32} (S : Sb Z h b d N bs) : b < h.size := by obtain ⟨_, _, A, -⟩ := S; exact A.lt
theorem Sb.ltv {Z : State} {h : Heap} {b d : Addr} {N : Nat} {bs : List Int32} (S : Sb Z h b d N bs) : d < h.size := by obtain ⟨_, _, -, -, -, -, A, -⟩ := S; exact A.lt
theorem Sb.keep {Z : State} {h h' : Heap} {b d : Addr} {N : Nat} {bs : List Int32} {ws : List Addr} (S : Sb Z h b d N bs) (K : Keep h h' ws) (q : b ∉ ws) (r : d ∉ ws) : Sb Z h' b d N bs := by
  obtain ⟨ck, zs, A, B, C, D, E, F⟩ := S; exact ⟨ck, zs, A.keep K, B.keep K q, C.keep K q, D.keep K q, E.keep K r, F⟩
theorem Sb.ext {Z : State} {h h' : Heap} {b d : Addr} {N : Nat} {bs : List Int32} (S : Sb Z h b d N bs) (K : Ext h h') : Sb Z h' b d N bs := by
  obtain ⟨ck, zs, A, B, C, D, E, F⟩ := S; exact ⟨ck, zs, A.ext K, B.ext K, C.ext K, D.ext K, E.ext K, F⟩
theorem Sb.exa {Z : State} {h : Heap} {b d : Addr} {N : Nat} {bs : List Int32} (S : Sb Z h b d N bs) : Exa Z h b "java/lang/StringBuilder" := by obtain ⟨_, _, A, -⟩ := S; exact A
theorem ix_add (a b : Nat) : Int32.ofNat a + Int32.ofNat b = Int32.ofNat (a + b) := (Int32.ofNat_add a b).symm
theorem ix_room {a b : Nat} (hb : b < 2147483648) (h : a ≤ b) : ¬ (0 : Int32) < Int32.ofNat a - (Int32.ofNat b >>> ((0 : Int32) &&& 31)) := by
  have e : Int32.ofNat b >>> ((0 : Int32) &&& 31) = Int32.ofNat b := by
    have h := c_ishr (Int32.ofNat b) 0 0 (by decide)
    refine Int32.toInt_inj.mp ?_
    rw [h]; simp
  rw [e, Int32.lt_iff_toInt_lt]
  have h1 := c_isub (Int32.ofNat a) (Int32.ofNat b); have h2 := rng32 (Int32.ofNat a - Int32.ofNat b)
  rw [ix_int hb, ix_int (by omega)] at h1
  show ¬ (0 : Int) < _
  omega
/-- a text laid in behind the text -/
theorem laid_app (xs bs zs : List Int32) (h : xs.length ≤ zs.length) : laid xs (bs ++ zs) 0 bs.length xs.length = (bs ++ xs) ++ zs.drop xs.length := by
  unfold laid
  rw [List.take_left, List.drop_zero, List.take_length, List.drop_append]
  simp
theorem keep_of_wr {h h' : Heap} {a : Addr} {i : Nat} {v : Value} (W : Wr h h' a i v) : Keep h h' [a] := (Keep.refl h [a]).wr W (Or.inl (by simp))
theorem Sb.wr {Z : State} {h h' : Heap} {b d x : Addr} {i N : Nat} {v : Value} {bs : List Int32} (S : Sb Z h b d N bs) (W : Wr h h' x i v) (q : b ≠ x) (r : d ≠ x) : Sb Z h' b d N bs := S.keep (keep_of_wr W) (by simpa using q) (by simpa using r)
end Jvm.OwnW

namespace Jvm.OwnW
open Sem ClassFile Op Lib Jvm.Stand Jvm.Free Jvm.LawKit Jvm.RoadKit
section
variable {wd : Bool} {l : Launch} {Z : State} {M : MD} {n0 : Nat} {Q : Option Value → Heap → Prop} {P : PX} {h : Heap} {k n pc pc' : Nat} {Ls Ls' : Array Slot} {st st' rest : List Value} {a0 : Array Value}
theorem k_newR {i : Nat} {C : String} {z : Int32} {cap : Nat} (hd : decode M.2.1 pc = .ok (.anewarray i, 3)) (hp : pc + 3 = pc') (w1 : (Cond.classLink M.1.cls i C).before a0 Z = true) (w2 : (Cond.arrayOver (.object C)).before a0 Z = true) (hz : ¬ z < 0) (hcap : z.toNatClampNeg ≤ cap) (hb8 : cap * 8 ≤ 536870912) (hc : k + 1 ≤ M.2.2.2.2.cells) (hs : n + cap ≤ M.2.2.2.2.slots)
    (W : ∀ h' a cA, a = h.size → Ext h h' → Arv Z h' a cA (.object C) z [] .null → Ovr Z cA C → KW wd l Z M n0 Q (P.grow h h') h' (k + 1) (n + cap) pc' Ls (.ref a :: st)) : KW wd l Z M n0 Q P h k n pc Ls (.int z :: st) := by
  intro p e s s' m args below meth c hx hby hml hown hnm hret hlk hZ hB hI T locs X N eT
  subst hp
  obtain ⟨T', h', cA, X', e', E, A, O, stp⟩ := newR X hx hZ hown w1 w2 eT (g := mkF m pc Ls (.int z :: st)) rfl (hb hby hd) rfl hz hcap hb8 hc hs
  obtain ⟨t, v, L, r, rr⟩ := W h' h.size cA rfl E (Arv.new A hz) O p e s s' m args below meth c hx hby hml hown hnm hret hlk hZ (hB.ext E) hI T' locs X' N e'
  exact ⟨t, v, L, stp t r, rr⟩
theorem k_aastore {a y : Addr} {ck : ClassId} {ty : FieldType} {C : String} {z j : Int32} {vs : List Value} {dv : Value} {i : Nat} (hd : decode M.2.1 pc = .ok (.aastore, 1)) (hp : pc + 1 = pc') (V : Arv Z h a ck ty z vs dv) (hty : ty.isReference = true) (hft : fits ty (.ref y) = true) (hj : ¬ j < 0 ∧ j < z) (hi : j.toNatClampNeg = i) (hil : i < vs.length) (O : Ovr Z ck C) (I : Ins Z h y C true) (ha : n0 ≤ a) (hsf : wd = true → Sf Z P h a)
    (W : ∀ h', Wr h h' a i (.ref y) → Arv Z h' a ck ty z (vs.set i (.ref y)) dv → KW wd l Z M n0 Q P h' k n pc' Ls st) : KW wd l Z M n0 Q P h k n pc Ls (.ref y :: .int j :: .ref a :: st) := by
  intro p e s s' m args below meth c hx hby hml hown hnm hret hlk hZ hB hI T locs X N eT
  subst hp
  obtain ⟨cl, Ar, q1, S, Mz, H, G⟩ := V
  obtain ⟨T', h', X', e', Wr', stp⟩ := stR X hx hZ eT Ar (inb_of S hj) hty (Sto.ofV Ar q1 O I) (g := mkF m pc Ls (.ref y :: .int j :: .ref a :: st)) rfl rfl (hb hby hd)
  have V' := Arv.set Ar q1 S Mz H G hft Wr' i hi hil
  rw [hi] at Wr'
  obtain ⟨t, v, L, r, rr⟩ := W h' Wr' V' p e s s' m args below meth c hx hby hml hown hnm hret hlk hZ (hB.wr hZ Wr' hsf) hI T' _ X' (Fr.snoc X' N ha) e'
  exact ⟨t, v, L, stp t r, rr⟩
theorem k_aaload {a : Addr} {ck : ClassId} {C : String} {z : Int32} {j : Nat} {vs : List Value} {dv v : Value} (hd : decode M.2.1 pc = .ok (.aaload, 1)) (hp : pc + 1 = pc') (V : Arv Z h a ck (.object C) z vs dv) (hj31 : j < 2147483648) (hj : ¬ Int32.ofNat j < 0 ∧ Int32.ofNat j < z) (hv : vs.getD j dv = v) (W : KW wd l Z M n0 Q P h k n pc' Ls (v :: st)) : KW wd l Z M n0 Q P h k n pc Ls (.int (Int32.ofNat j) :: .ref a :: st) := by
  subst hp
  obtain ⟨cl, Ar, q1, S, Mz, H, G⟩ := V
  have hb31 : cl.slots.size < 2 ^ 31 := by rw [S]; have := rng32 z; show z.toInt.toNat < _; omega
  have hin := inb_of S hj
  have hlt : j < cl.slots.size := by
    have := Nat.lt_of_not_le fun q => hin (Or.inr q)
    rw [ix_nat hj31] at this; exact this
  exact W.move fun p e s' T m args below meth c locs hx hby hml hown hZ X eT => ⟨T, X, eT, fun target r => X.aget hx (t := .object C) (a := a) (A := cl) ⟨by rw [eT]; exact Ar.1, State.isArrayOf_alike (hZ.trans (t := s') X.warmed.wide).alike Ar.2.1, Ar.2.2, hb31⟩ (k := j) rfl (by rw [H j hlt, hv]) (g := mkF m pc Ls (.int (Int32.ofNat j) :: .ref a :: st)) rfl rfl (hb hby hd) r⟩
theorem k_getFieldN {i : Nat} {R0 O f d host : String} {a : Addr} {v : Value} (hd : decode M.2.1 pc = .ok (.getfield i, 3)) (hp : pc + 3 = pc') (w : (Cond.fieldLinkNest M.1.cls i R0 f d host).before a0 Z = true) (via : Via Z R0 O f d) (F : Fld Z h a O f d v) (W : KW wd l Z M n0 Q P h k n pc' Ls (v :: st)) : KW wd l Z M n0 Q P h k n pc Ls (.ref a :: st) := by
  subst hp; exact W.move fun p e s' T m args below meth c locs hx hby hml hown hZ X eT => getF X hx hZ hown (host := host) (Or.inr w) via eT F (g := mkF m pc Ls (.ref a :: st)) rfl rfl (hb hby hd)
/-- an interface's method by its contract; the receiver is exactly a C -/
theorem k_callFace {y : MD} {x : MethodName} {C : String} {i cnt W0 : Nat} {a : Addr} {argsL : List Value} {Q' : Option Value → Heap → Prop} {ps : List FieldType} {r : Option FieldType} (hd : decode M.2.1 pc = .ok (.invokeinterface i cnt, 5)) (hp : pc + 5 = pc') (K : Mt l Z y [] n0 (.ref a :: argsL).toArray h Q') (hkp : Kp wd Z P h Q') (E : Exa Z h a C)
    (w1 : (Cond.methodLink M.1.cls i x).before a0 Z = true) (w2 : (Cond.declares x).before a0 Z = true) (wf : (Cond.interfaceMethod x.cls x.cls x.name x.desc).before a0 Z = true) (w3 : (Cond.selects C x y.1).before a0 Z = true) (w4 : (Cond.instanceMethod y.1).before a0 Z = true) (wp : (Cond.publicMethod y.1).before a0 Z = true) (wu : (Cond.unhidden C x.name x.desc).before a0 Z = true) (wc : (Cond.castable C x.cls).before a0 Z = true) (w5 : (Cond.code y.1 y.2.1 y.2.2.1 y.2.2.2.1).before a0 Z = true) (w6 : (Cond.initialized y.1.cls).before a0 Z = true) (hy : x.cls ≠ "java/lang/invoke/MethodHandle" ∧ x.cls ≠ "java/lang/invoke/VarHandle") (kf : ((Cond.interfaceMethod x.cls x.cls x.name x.desc).onTables && (Cond.interfaceMethod x.cls x.cls x.name x.desc).keepsFace) = true)
    (hpd : parseMethodDescriptor x.desc = some ⟨ps, r⟩) (hlen : argsL.length = ps.length) (hst : st = argsL.reverse ++ .ref a :: rest) (hsz : Ls.size = M.2.2.1) (hW : (rest.map fun v => v.category).sum = W0)
    (hfr : y.2.2.2.2.frames + 1 ≤ M.2.2.2.2.frames) (hlo : W0 + (y.2.2.1 + 11) + y.2.2.2.2.locals ≤ M.2.2.2.2.locals) (hc : k + y.2.2.2.2.cells ≤ M.2.2.2.2.cells) (hs : n + y.2.2.2.2.slots ≤ M.2.2.2.2.slots)
    (W : ∀ v h', h.size ≤ h'.size → Q' v h' → KW wd l Z M n0 Q (P.grow h h') h' (k + y.2.2.2.2.cells) (n + y.2.2.2.2.slots) pc' Ls (v.toList ++ rest)) : KW wd l Z M n0 Q P h k n pc Ls st := by
  intro p e s s' m args below meth c hx hby hml hown hnm hret hlk hZ hB hI T locs X N eT
  subst hp
  obtain ⟨cq, kq, qa, qb, qc⟩ := isOf hZ eT E
  obtain ⟨v, _, ⟨T', L', k', n'⟩, -, X', ⟨Lc, ⟨q1, q2, q3⟩, l1, l2, l3⟩, stp⟩ := X.interfaceBack hx (xi := x) (y := y.1) hown (mvT hZ w1) (mvT hZ w2) (mvT hZ wf kf) (mvT hZ w3) (mvT hZ w4) (mvT hZ wp) (mvT hZ wu) (mvT hZ wc) hy (backOf (W := W0) (Q := fun v h' L => Fr n0 L ∧ h.size ≤ h'.size ∧ Q' v h') K hZ w5 w6 hfr hlo) qa qb qc (g := mkF m pc Ls st) rfl (hsz.trans hml.symm) (Steps.refl _) (argsL := argsL) (rest := rest) (lenOf hpd hlen) hst (by show 2 * 0 + _ ≤ _; omega) (hb hby hd) (fun _ _ => ⟨rfl, eT, hc, hs⟩)
  dsimp only [Pt.U, Pt.locs, Pt.cells, Pt.slots] at X' l1 l2 l3 stp q2 q3
  subst l1 l2 l3
  obtain ⟨t, v', L, r, rr⟩ := W v T'.heap q2 q3 p e s s' m args below meth c hx hby hml hown hnm hret hlk hZ (hB.call hZ hkp q3) hI T' _ X' (Fr.app N q1) rfl
  exact ⟨t, v', L, stp.trans r, rr⟩
end
end Jvm.OwnW
namespace Jvm.OwnW
open Sem ClassFile Op Lib Jvm.Stand Jvm.Free Jvm.LawKit Jvm.RoadKit
theorem own_apart2 {Z : State} {a0 : Array Value} {C S O K : String} {n : Nat} (wC : (Cond.superclass C S).before a0 Z = true) (wS : (Cond.superclass S O).before a0 Z = true) (wO : (Cond.noSuperclass O).before a0 Z = true) (wK : (Cond.instantiable K n).before a0 Z = true) (h1 : C ≠ K) (h2 : S ≠ K) (h3 : O ≠ K) : ∃ c t, Z.vm.findClass C = some c ∧ Z.vm.findClass K = some t ∧ Z.vm.assignable c t = false := by
  obtain ⟨t, kt, k1, k2, k3, k4, -, -⟩ := Cond.instantiable_spec wK
  obtain ⟨o, ko, o1, o2, o3, -, -⟩ := Cond.noSuperclass_spec wO
  obtain ⟨c, c0⟩ := found_sup wC
  obtain ⟨p, kc, kp, s1, s2, s3, s4, s5, -, s7⟩ := Cond.superclass_spec c0 wC
  obtain ⟨p', kc', kp', u1, u2, u3, u4, u5, -, u7⟩ := Cond.superclass_spec s1 wS
  cases o1.symm.trans u1
  have n1 := ids_ne c0 k1 h1
  have n2 := ids_ne s1 k1 h2
  have n3 := ids_ne o1 k1 h3
  have hroot : ∀ f, Z.vm.isSubclassAux f o t = false := fun f => by
    cases f with
    | zero => rfl
    | succ f => simp [Vm.isSubclassAux, n3, o2, o3]
  have hmid : ∀ f, Z.vm.isSubclassAux f p t = false := fun f => by
    cases f with
    | zero => rfl
    | succ f => simp [Vm.isSubclassAux, n2, u2, u4, hroot]
  have hsub : ∀ f, Z.vm.isSubclassAux f c t = false := fun f => by
    cases f with
    | zero => rfl
    | succ f => simp [Vm.isSubclassAux, n1, s2, s4, hmid]
  have hi : kt.isInterface = false := by simp at k4; exact k4.1
  refine ⟨c, t, c0, k1, ?_⟩
  show Z.vm.assignableAux (255 + 1) c t = false
  simp [Vm.assignableAux, n1, s2, k2, s5, k3, hi, Vm.isSubclass, hsub]
end Jvm.OwnW

namespace Jvm.OwnW
open Sem ClassFile Op Lib Bundle Jvm.Stand Jvm.Free Jvm.LawKit Jvm.RoadKit Jvm.Free.SB Jvm.Free.SBG
/-- each entry of EL names a Latin-1 text of fewer than N signs -/
def EN (Z : State) (a0 : Array Value) (N : Nat) (EL : List (String × Nat)) : Prop := ∀ p ∈ EL, ∃ text : String, (Cond.stringLink p.1 p.2 text).before a0 Z = true ∧ (∀ c ∈ text.toList, c.toNat < 256) ∧ text.toList.length < N
theorem EN.nil {Z : State} {a0 : Array Value} {N : Nat} : EN Z a0 N [] := fun _ hp => by cases hp
theorem EN.cons {Z : State} {a0 : Array Value} {N index : Nat} {own text : String} {EL : List (String × Nat)} (w : (Cond.stringLink own index text).before a0 Z = true) (ht : ∀ c ∈ text.toList, c.toNat < 256) (hl : text.toList.length < N) (E : EN Z a0 N EL) : EN Z a0 N ((own, index) :: EL) := fun p hp => by
  rcases List.mem_cons.mp hp with rfl | hp
  · exact ⟨text, w, ht, hl⟩
  · exact E p hp
/-- a byte array at least as long as N is none of the constants' -/
theorem Safe.len {Z : State} {a0 : Array Value} {EL : List (String × Nat)} {vm : Vm} {h : Heap} {x : Addr} {ck : ClassId} {z : Int32} {vs : List Value} {dv : Value} {N : Nat} (hal : Z.vm.Alike vm) (E : EN Z a0 N EL) (A : Arv Z h x ck .byte z vs dv) (hN : N ≤ z.toNatClampNeg) : Safe Z EL vm h x := fun B => by
  obtain ⟨cl, ⟨A1, ⟨-, kA, hkA, compA, hkindA⟩, -⟩, -, hsz, -⟩ := A
  obtain ⟨kA', hkA', ekA⟩ := hal.2.2 _ _ hkA
  obtain ⟨p, hp, u, a, hb, q, -, F, rfl | rfl⟩ := B
  · cases (show h[q.sa]? = some q.sC from F.ha).symm.trans A1
    obtain ⟨cS, ⟨-, -, e⟩, ⟨kS, g1, g2, -⟩, -⟩ := F
    subst e
    cases (show vm.classes[q.sC.cls]? = some kS from g1).symm.trans hkA'
    rw [ekA] at g2
    have := hkindA.symm.trans g2
    cases this
  · cases (show h[q.sd]? = some q.SA from F.hd).symm.trans A1
    obtain ⟨text, w, ht, hl⟩ := E p hp
    obtain ⟨c, k', cf, i, hc', hk', hcf', hpool, hu, -⟩ := hb
    have hc : Z.vm.findClass p.1 = some c := by rw [← hal.findClass]; exact hc'
    obtain ⟨k, cf0, i0, units0, hk, hcf, hp0, hu0, -, htext, -⟩ := Cond.stringLink_spec (s := Z) hc w
    obtain ⟨k'', hk'', hke⟩ := hal.2.2 _ _ hk
    cases hk'.symm.trans hk''
    have hcfk : k'.cf = k.cf := by rw [hke]
    cases (hcfk ▸ hcf').symm.trans hcf
    cases hpool.symm.trans hp0
    cases hu.symm.trans hu0
    obtain ⟨cS, -, -, -, hsl⟩ := F
    have e1 : u.size = text.toList.length := by
      have := congrArg List.length (Jvm.ClassFile.units_of_text htext ht)
      rw [List.length_map] at this
      simpa using this
    have e2 : q.SA.slots.size = u.size := by
      rw [hsl, stringBytes_lat (Jvm.ClassFile.lat_of_text htext ht)]; simp
    omega
theorem Sf.len {Z : State} {a0 : Array Value} {P : PX} {h : Heap} {x : Addr} {ck : ClassId} {z : Int32} {vs : List Value} {dv : Value} {N : Nat} (E : EN Z a0 N P.1) (A : Arv Z h x ck .byte z vs dv) (hN : N ≤ z.toNatClampNeg) : Sf Z P h x := Or.inr fun vm hal => Safe.len hal E A hN
theorem allC {α : Type} {P : α → Prop} {y : α} {L : List α} (q : P y) (r : ∀ x ∈ L, P x) : ∀ x ∈ y :: L, P x := fun x z => (List.mem_cons.mp z).elim (fun u => u ▸ q) (r x)
theorem allC0 {α : Type} {P : α → Prop} : ∀ x ∈ ([] : List α), P x := fun _ q => nomatch q
end Jvm.OwnW
namespace Jvm.OwnW
open Sem ClassFile Op Lib Jvm.Stand Jvm.Free Jvm.LawKit Jvm.RoadKit
section
variable {wd : Bool} {l : Launch} {Z : State} {M : MD} {n0 : Nat} {Q : Option Value → Heap → Prop} {P : PX} {h : Heap} {k n pc pc' : Nat} {Ls Ls' : Array Slot} {st st' rest : List Value} {a0 : Array Value}
/-- a private method by its wide contract -/
theorem k_callPrivateW {y : MD} {C : String} {i W0 : Nat} {a : Addr} {argsL : List Value} {Q' : Option Value → Heap → Prop} {ps : List FieldType} {r : Option FieldType} (hd : decode M.2.1 pc = .ok (.invokevirtual i, 3)) (hp : pc + 3 = pc') (K : MtW l Z y [] n0 (.ref a :: argsL).toArray P h Q') (E : Exa Z h a C)
    (w1 : (Cond.methodLink M.1.cls i y.1).before a0 Z = true) (wp : (Cond.privateMethod y.1).before a0 Z = true) {C7 : String} {x7 z7 : MethodName} (w7 : (Cond.selects C7 x7 z7).before a0 Z = true) (hz7 : z7.cls = y.1.cls) (w4 : (Cond.instanceMethod y.1).before a0 Z = true) (w5 : (Cond.code y.1 y.2.1 y.2.2.1 y.2.2.2.1).before a0 Z = true) (w6 : (Cond.initialized y.1.cls).before a0 Z = true) (hy : y.1.cls ≠ "java/lang/invoke/MethodHandle" ∧ y.1.cls ≠ "java/lang/invoke/VarHandle")
    (hpd : parseMethodDescriptor y.1.desc = some ⟨ps, r⟩) (hlen : argsL.length = ps.length) (hst : st = argsL.reverse ++ .ref a :: rest) (hsz : Ls.size = M.2.2.1) (hW : (rest.map fun v => v.category).sum = W0)
    (hfr : y.2.2.2.2.frames + 1 ≤ M.2.2.2.2.frames) (hlo : W0 + (y.2.2.1 + 11) + y.2.2.2.2.locals ≤ M.2.2.2.2.locals) (hc : k + y.2.2.2.2.cells ≤ M.2.2.2.2.cells) (hs : n + y.2.2.2.2.slots ≤ M.2.2.2.2.slots)
    (W : ∀ v h', h.size ≤ h'.size → Q' v h' → KW true l Z M n0 Q P h' (k + y.2.2.2.2.cells) (n + y.2.2.2.2.slots) pc' Ls (v.toList ++ rest)) : KW true l Z M n0 Q P h k n pc Ls st := by
  intro p e s s' m args below meth c hx hby hml hown hnm hret hlk hZ hB hI T locs X N eT
  subst hp
  rcases hB with ⟨q, -⟩ | ⟨-, vm0, k0, rfl, hS0, hk0, hC, hSf⟩
  · cases q
  obtain ⟨a1, hEW⟩ := hI rfl
  obtain ⟨cl, q1, q2⟩ := Exa.cell E
  have w4' : (Cond.instanceMethod y.1).before args (s.setVm vm0) = true := mvT hZ w4
  have w7' : (Cond.selects C7 x7 z7).before args (s.setVm vm0) = true := mvT hZ w7
  have wp' : (Cond.privateMethod y.1).before args (s.setVm vm0) = true := mvP hZ wp
  obtain ⟨mk, methM, hn1, -, -, -⟩ := Cond.instanceMethod_spec w4'
  obtain ⟨kr, k1, k2⟩ := own_notFace w7' hz7 mk hn1
  have hsel := selects_self_of_private (args := args) (findClass_of_methodNamed hn1) k1 k2 (Cond.privateMethod_at wp') w4' hy
  obtain ⟨v, _, ⟨T', L', k', n'⟩, -, X', hS', hgr, ⟨Lc, ⟨q1', q2', q3'⟩, l1, l2, l3, hC'⟩, stp⟩ := X.privateBackS hx (y := y.1) hown (mvT hZ w1) w4' hsel (Cond.privateMethod_at wp') (mvT hZ w5) hy (backW (W0 := W0) K hZ w5 w6 hfr hlo hEW hC.1 hSf) (g := mkF m pc Ls st) rfl (hsz.trans hml.symm) (Steps.refl _) (by rw [eT]; exact q1) q2 (argsL := argsL) (rest := rest) (lenOf hpd hlen) hst (by show 2 * 0 + _ ≤ _; omega) (hb hby hd) (fun _ _ => ⟨rfl, eT, hc, hs⟩)
  dsimp only [Pt.U, Pt.locs, Pt.cells, Pt.slots] at X' l1 l2 l3 stp q2' q3' hS' hC'
  subst l1 l2 l3
  obtain ⟨t, v', L, r, rr⟩ := (W v T'.heap q2' q3').after (h := h) hx hby hml hown hnm hret hlk hZ hS0 hk0 hC hSf hI X' hS' (Fr.app N q1') q2' rfl hC'
  exact ⟨t, v', L, stp.trans r, rr⟩
end
end Jvm.OwnW

namespace Jvm.Pilot.@@N@@
open Jvm Jvm.ClassFile Sem Op Lib Jvm.Free Jvm.Stand Jvm.LawKit Jvm.RoadKit Bundle Jvm.OwnW Jvm.Pilot.@@N@@.Jvm.D

abbrev EL : List (String × Nat) := consts_1
theorem own_wS (Z : State) (a0 : Array Value) (hw : ∀ d ∈ tables_1, d.before a0 Z = true) : ∀ a ∈ Bundle.stringAtoms, a.before a0 Z = true := by
  intro a ha
  simp only [Bundle.stringAtoms, List.mem_cons, List.not_mem_nil, or_false] at ha
  rcases ha with rfl | rfl | rfl | rfl | rfl | rfl | rfl
  · exact (hw _ (List.mem_of_getElem? (i := 5) rfl))
  · exact (hw _ (List.mem_of_getElem? (i := 13) rfl))
  · exact (hw _ (List.mem_of_getElem? (i := 17) rfl))
  · exact (hw _ (List.mem_of_getElem? (i := 26) rfl))
  · exact (hw _ (List.mem_of_getElem? (i := 28) rfl))
  · exact (hw _ (List.mem_of_getElem? (i := 87) rfl))
  · exact (hw _ (List.mem_of_getElem? (i := 88) rfl))
abbrev M_cdr : MD := ((⟨"java/lang/String", "coder", "()B"⟩ : MethodName), jdk_42_method_152_code, 1, (some .byte), { frames := 0, cells := 0, slots := 0, locals := 0 })
theorem d_cdr_0 : decode jdk_42_method_152_code 0 = .ok (.getstatic 38, 3) := by decide +kernel
theorem d_cdr_3 : decode jdk_42_method_152_code 3 = .ok (.ifCond .eq 10, 3) := by decide +kernel
theorem d_cdr_6 : decode jdk_42_method_152_code 6 = .ok (.aload_n 0, 1) := by decide +kernel
theorem d_cdr_7 : decode jdk_42_method_152_code 7 = .ok (.getfield 15, 3) := by decide +kernel
theorem d_cdr_10 : decode jdk_42_method_152_code 10 = .ok (.goto 4, 3) := by decide +kernel
theorem d_cdr_13 : decode jdk_42_method_152_code 13 = .ok (.iconst 1, 1) := by decide +kernel
theorem d_cdr_14 : decode jdk_42_method_152_code 14 = .ok (.ireturn, 1) := by decide +kernel
theorem pd_cdr : parseMethodDescriptor "()B" = some ⟨[], (some .byte)⟩ := by decide +kernel
theorem pf_cdr : plainFor (⟨"java/lang/String", "coder", "()B"⟩ : MethodName) = true := by first | exact plainFor_of_name (by first | (simp [plainName, overriddenIn]; done) | decide +kernel) | decide +kernel
set_option maxRecDepth 65536 in
set_option maxHeartbeats 40000000 in
theorem kw_cdr (l : Launch) (Z : State) (a0 : Array Value) (hw : ∀ d ∈ tables_1, d.before a0 Z = true) (cs : Int32) (hcs : ¬ cs = 0) (SC : Sta Z Z.heap "java/lang/String" "COMPACT_STRINGS" "Z" (.int cs)) (hEW : EW Z a0 EL) (a t : Addr) (bs : List Int32) (h0 : Heap) (n0 : Nat) (OD : Old Z n0 h0) (SA : Sg Z h0 a t bs) : KW false l Z M_cdr n0 (fun v h => v = some (.int 0) ∧ h0 = h) ([], fun _ => False) h0 0 0 0 #[.val (.ref a)] [] := by
  obtain ⟨ckA, EA, CA, VA, AA, lA⟩ := id SA
  refine k_getStatic d_cdr_0 rfl (hw _ (List.mem_of_getElem? (i := 7) rfl)) (Sta.ext OD.2 SC) ?_
  refine k_ifc (pc1 := 13) (pc' := 6) d_cdr_3 (by decide) (by decide) rfl (fun (cd1 : cs = (0 : Int32)) => False.elim (by exact hcs cd1)) (fun (cd1 : ¬ cs = (0 : Int32)) => ?_)
  refine k_aloadN d_cdr_6 rfl rfl rfl ?_
  refine k_getField d_cdr_7 rfl (hw _ (List.mem_of_getElem? (i := 27) rfl)) Via.refl CA ?_
  refine k_goto (pc' := 14) d_cdr_10 (by decide) (by decide) ?_
  exact k_retNar d_cdr_14 rfl (by simp) (z' := (0 : Int32)) (by decide) (by decide) (by decide) ⟨rfl, rfl⟩
theorem mt_cdr (l : Launch) (Z : State) (a0 : Array Value) (hw : ∀ d ∈ tables_1, d.before a0 Z = true) (cs : Int32) (hcs : ¬ cs = 0) (SC : Sta Z Z.heap "java/lang/String" "COMPACT_STRINGS" "Z" (.int cs)) (hEW : EW Z a0 EL) (a t : Addr) (bs : List Int32) (h0 : Heap) (n0 : Nat) (OD : Old Z n0 h0) (SA : Sg Z h0 a t bs) : Mt l Z M_cdr [] n0 #[(.ref a)] h0 (fun v h => v = some (.int 0) ∧ h0 = h) :=
  mt_of_kw (P := ([], fun _ => False)) pf_cdr (fun m => by first | (simp [entryFrame, mkF, argsToLocals, Value.category]; done) | rfl) (kw_cdr l Z a0 hw cs hcs SC hEW a t bs h0 n0 OD SA)
theorem shr0 (z : Int32) : z >>> ((0 : Int32) &&& 31) = z := by
  have h := c_ishr z 0 0 (by decide)
  refine Int32.toInt_inj.mp ?_
  rw [h]; simp
abbrev M_len : MD := ((⟨"java/lang/String", "length", "()I"⟩ : MethodName), jdk_42_method_54_code, 1, (some .int), { frames := 1, cells := 0, slots := 0, locals := 16 })
theorem d_len_0 : decode jdk_42_method_54_code 0 = .ok (.aload_n 0, 1) := by decide +kernel
theorem d_len_1 : decode jdk_42_method_54_code 1 = .ok (.getfield 9, 3) := by decide +kernel
theorem d_len_4 : decode jdk_42_method_54_code 4 = .ok (.arraylength, 1) := by decide +kernel
theorem d_len_5 : decode jdk_42_method_54_code 5 = .ok (.aload_n 0, 1) := by decide +kernel
theorem d_len_6 : decode jdk_42_method_54_code 6 = .ok (.invokevirtual 335, 3) := by decide +kernel
theorem d_len_9 : decode jdk_42_method_54_code 9 = .ok (.ishr, 1) := by decide +kernel
theorem d_len_10 : decode jdk_42_method_54_code 10 = .ok (.ireturn, 1) := by decide +kernel
theorem pd_len : parseMethodDescriptor "()I" = some ⟨[], (some .int)⟩ := by decide +kernel
theorem pf_len : plainFor (⟨"java/lang/String", "length", "()I"⟩ : MethodName) = true := by first | exact plainFor_of_name (by first | (simp [plainName, overriddenIn]; done) | decide +kernel) | decide +kernel
set_option maxRecDepth 65536 in
set_option maxHeartbeats 40000000 in
theorem kw_len (l : Launch) (Z : State) (a0 : Array Value) (hw : ∀ d ∈ tables_1, d.before a0 Z = true) (cs : Int32) (hcs : ¬ cs = 0) (SC : Sta Z Z.heap "java/lang/String" "COMPACT_STRINGS" "Z" (.int cs)) (hEW : EW Z a0 EL) (a t : Addr) (bs : List Int32) (h0 : Heap) (n0 : Nat) (OD : Old Z n0 h0) (SA : Sg Z h0 a t bs) : KW false l Z M_len n0 (fun v h => v = some (.int (Int32.ofNat bs.length)) ∧ h0 = h) ([], fun _ => False) h0 0 0 0 #[.val (.ref a)] [] := by
  obtain ⟨ckA, EA, CA, VA, AA, lA⟩ := id SA
  refine k_aloadN d_len_0 rfl rfl rfl ?_
  refine k_getField d_len_1 rfl (hw _ (List.mem_of_getElem? (i := 25) rfl)) Via.refl VA ?_
  refine k_arrlen d_len_4 rfl AA ?_
  refine k_aloadN d_len_5 rfl rfl rfl ?_
  refine k_callVirtual (argsL := []) (rest := [(.int (Int32.ofNat bs.length))]) (W0 := 1) d_len_6 rfl (mt_cdr l Z a0 hw cs hcs SC hEW a t bs h0 n0 OD SA) Kp.strict EA (hw _ (List.mem_of_getElem? (i := 101) rfl)) (hw _ (List.mem_of_getElem? (i := 102) rfl)) (hw _ (List.mem_of_getElem? (i := 104) rfl)) (hw _ (List.mem_of_getElem? (i := 99) rfl)) rfl (hw _ (List.mem_of_getElem? (i := 103) rfl)) (hw _ (List.mem_of_getElem? (i := 105) rfl)) (hw _ (List.mem_of_getElem? (i := 5) rfl)) (by decide) pd_cdr rfl rfl rfl rfl (by decide) (by decide) (by decide) (by decide) ?_
  rintro _ _ - ⟨rfl, rfl⟩
  refine KW.any (P' := ([], fun _ => False)) ?_
  show KW false l Z M_len n0 (fun v h => v = some (.int (Int32.ofNat bs.length)) ∧ h0 = h) ([], fun _ => False) h0 0 0 9 #[.val (.ref a)] [(.int (0 : Int32)), (.int (Int32.ofNat bs.length))]
  refine k_ishr d_len_9 rfl ?_
  exact k_retInt d_len_10 rfl (by decide) (by decide) ⟨by rw [shr0], rfl⟩
theorem mt_len (l : Launch) (Z : State) (a0 : Array Value) (hw : ∀ d ∈ tables_1, d.before a0 Z = true) (cs : Int32) (hcs : ¬ cs = 0) (SC : Sta Z Z.heap "java/lang/String" "COMPACT_STRINGS" "Z" (.int cs)) (hEW : EW Z a0 EL) (a t : Addr) (bs : List Int32) (h0 : Heap) (n0 : Nat) (OD : Old Z n0 h0) (SA : Sg Z h0 a t bs) : Mt l Z M_len [] n0 #[(.ref a)] h0 (fun v h => v = some (.int (Int32.ofNat bs.length)) ∧ h0 = h) :=
  mt_of_kw (P := ([], fun _ => False)) pf_len (fun m => by first | (simp [entryFrame, mkF, argsToLocals, Value.category]; done) | rfl) (kw_len l Z a0 hw cs hcs SC hEW a t bs h0 n0 OD SA)
theorem own_255 {q : Int32} (h : 0 ≤ q.toInt ∧ q.toInt < 256) (k : (255 : Int32) < q) : False := by
  rw [Int32.lt_iff_toInt_lt, show (255 : Int32).toInt = 255 from rfl] at k; omega
abbrev Ch (p : Int32) : Prop := 0 ≤ p.toInt ∧ p.toInt < 256
abbrev M_cen : MD := ((⟨"java/lang/StringLatin1", "canEncode", "(C)Z"⟩ : MethodName), jdk_43_method_3_code, 1, (some .boolean), { frames := 0, cells := 0, slots := 0, locals := 0 })
theorem d_cen_0 : decode jdk_43_method_3_code 0 = .ok (.iload_n 0, 1) := by decide +kernel
theorem d_cen_1 : decode jdk_43_method_3_code 1 = .ok (.sipush 255, 3) := by decide +kernel
theorem d_cen_4 : decode jdk_43_method_3_code 4 = .ok (.if_icmp .gt 7, 3) := by decide +kernel
theorem d_cen_7 : decode jdk_43_method_3_code 7 = .ok (.iconst 1, 1) := by decide +kernel
theorem d_cen_8 : decode jdk_43_method_3_code 8 = .ok (.goto 4, 3) := by decide +kernel
theorem d_cen_11 : decode jdk_43_method_3_code 11 = .ok (.iconst 0, 1) := by decide +kernel
theorem d_cen_12 : decode jdk_43_method_3_code 12 = .ok (.ireturn, 1) := by decide +kernel
theorem pd_cen : parseMethodDescriptor "(C)Z" = some ⟨[.char], (some .boolean)⟩ := by decide +kernel
theorem pf_cen : plainFor (⟨"java/lang/StringLatin1", "canEncode", "(C)Z"⟩ : MethodName) = true := by first | exact plainFor_of_name (by first | (simp [plainName, overriddenIn]; done) | decide +kernel) | decide +kernel
set_option maxRecDepth 65536 in
set_option maxHeartbeats 40000000 in
theorem kw_cen (l : Launch) (Z : State) (a0 : Array Value) (hw : ∀ d ∈ tables_1, d.before a0 Z = true) (cs : Int32) (hcs : ¬ cs = 0) (SC : Sta Z Z.heap "java/lang/String" "COMPACT_STRINGS" "Z" (.int cs)) (hEW : EW Z a0 EL) (p : Int32) (h0 : Heap) (n0 : Nat) (hp : Ch p) : KW false l Z M_cen n0 (fun v h => v = some (.int 1) ∧ h0 = h) ([], fun _ => False) h0 0 0 0 #[.val (.int p)] [] := by
  refine k_iloadN d_cen_0 rfl rfl ?_
  refine k_sipush (z := (255 : Int32)) d_cen_1 rfl (by decide) ?_
  refine k_icmp (pc1 := 11) (pc' := 7) d_cen_4 (by decide) (by decide) rfl (fun (cd1 : (255 : Int32) < p) => False.elim (by exact own_255 hp cd1)) (fun (cd1 : ¬ (255 : Int32) < p) => ?_)
  refine k_iconst (z := (1 : Int32)) d_cen_7 rfl (by decide) ?_
  refine k_goto (pc' := 12) d_cen_8 (by decide) (by decide) ?_
  exact k_retNar d_cen_12 rfl (by simp) (z' := (1 : Int32)) (by decide) (by decide) (by decide) ⟨rfl, rfl⟩
theorem mt_cen (l : Launch) (Z : State) (a0 : Array Value) (hw : ∀ d ∈ tables_1, d.before a0 Z = true) (cs : Int32) (hcs : ¬ cs = 0) (SC : Sta Z Z.heap "java/lang/String" "COMPACT_STRINGS" "Z" (.int cs)) (hEW : EW Z a0 EL) (p : Int32) (h0 : Heap) (n0 : Nat) (hp : Ch p) : Mt l Z M_cen [] n0 #[(.int p)] h0 (fun v h => v = some (.int 1) ∧ h0 = h) :=
  mt_of_kw (P := ([], fun _ => False)) pf_cen (fun m => by first | (simp [entryFrame, mkF, argsToLocals, Value.category]; done) | rfl) (kw_cen l Z a0 hw cs hcs SC hEW p h0 n0 hp)
abbrev M_tob : MD := ((⟨"java/lang/StringLatin1", "toBytes", "(C)[B"⟩ : MethodName), jdk_43_method_46_code, 1, (some (.array .byte)), { frames := 0, cells := 1, slots := 1, locals := 0 })
theorem d_tob_0 : decode jdk_43_method_46_code 0 = .ok (.iconst 1, 1) := by decide +kernel
theorem d_tob_1 : decode jdk_43_method_46_code 1 = .ok (.newarray .byte, 2) := by decide +kernel
theorem d_tob_3 : decode jdk_43_method_46_code 3 = .ok (.dup, 1) := by decide +kernel
theorem d_tob_4 : decode jdk_43_method_46_code 4 = .ok (.iconst 0, 1) := by decide +kernel
theorem d_tob_5 : decode jdk_43_method_46_code 5 = .ok (.iload_n 0, 1) := by decide +kernel
theorem d_tob_6 : decode jdk_43_method_46_code 6 = .ok (.i2b, 1) := by decide +kernel
theorem d_tob_7 : decode jdk_43_method_46_code 7 = .ok (.bastore, 1) := by decide +kernel
theorem d_tob_8 : decode jdk_43_method_46_code 8 = .ok (.areturn, 1) := by decide +kernel
theorem pd_tob : parseMethodDescriptor "(C)[B" = some ⟨[.char], (some (.array .byte))⟩ := by decide +kernel
theorem pf_tob : plainFor (⟨"java/lang/StringLatin1", "toBytes", "(C)[B"⟩ : MethodName) = true := by first | exact plainFor_of_name (by first | (simp [plainName, overriddenIn]; done) | decide +kernel) | decide +kernel
set_option maxRecDepth 65536 in
set_option maxHeartbeats 40000000 in
theorem kw_tob (l : Launch) (Z : State) (a0 : Array Value) (hw : ∀ d ∈ tables_1, d.before a0 Z = true) (cs : Int32) (hcs : ¬ cs = 0) (SC : Sta Z Z.heap "java/lang/String" "COMPACT_STRINGS" "Z" (.int cs)) (hEW : EW Z a0 EL) (p : Int32) (h0 : Heap) (n0 : Nat) (OD : Old Z n0 h0) : KW false l Z M_tob n0 (fun v h => ∃ d ck', v = some (.ref d) ∧ h0.size ≤ d ∧ n0 ≤ d ∧ Keep h0 h [] ∧ Arv Z h d ck' .byte (1 : Int32) [.int (nbI p)] (.int 0)) ([], fun _ => False) h0 0 0 0 #[.val (.int p)] [] := by
  have Z0 := OD.1 ▸ OD.2.1
  have K0 : Keep h0 h0 [] := Keep.refl _ _
  refine k_iconst (z := (1 : Int32)) d_tob_0 rfl (by decide) ?_
  refine k_newarr (cap := 1) d_tob_1 rfl (hw _ (List.mem_of_getElem? (i := 17) rfl)) (by decide) (by decide) (by decide) (by decide) (by decide) ?_
  intro h2 a1 ck6 g5 E3 V4
  have z8 : n0 ≤ h0.size := Z0
  have ge7 : n0 ≤ a1 := Nat.le_trans z8 (Nat.le_of_eq g5.symm)
  have gl9 : h0.size ≤ a1 := Nat.le_of_eq g5.symm
  have gh10 := Nat.le_trans K0.1 gl9
  have V11 : Arv Z h2 a1 ck6 .byte (1 : Int32) [(.int (0 : Int32))] (.int (0 : Int32)) := Arv.pad V4 (pad_rep [] _ 1)
  refine KW.any (P' := ([], fun _ => False)) ?_
  show KW false l Z M_tob n0 (fun v h => ∃ d ck', v = some (.ref d) ∧ h0.size ≤ d ∧ n0 ≤ d ∧ Keep h0 h [] ∧ Arv Z h d ck' .byte (1 : Int32) [.int (nbI p)] (.int 0)) ([], fun _ => False) h2 1 1 3 #[.val (.int p)] [(.ref a1)]
  refine k_dup d_tob_3 rfl rfl ?_
  refine k_iconst (z := (0 : Int32)) d_tob_4 rfl (by decide) ?_
  refine k_iloadN d_tob_5 rfl rfl ?_
  refine k_i2b d_tob_6 rfl ?_
  refine k_bastore (i := 0) d_tob_7 rfl V11 (by decide) (by decide) (by simp) ge7 (fun q => by cases q) ?_
  intro h12 W13 V14
  have V15 : Arv Z h12 a1 ck6 .byte (1 : Int32) [(.int (nar .byte (Int8.toInt32 (Int32.toInt8 p))))] (.int (0 : Int32)) := V14
  show KW false l Z M_tob n0 (fun v h => ∃ d ck', v = some (.ref d) ∧ h0.size ≤ d ∧ n0 ≤ d ∧ Keep h0 h [] ∧ Arv Z h d ck' .byte (1 : Int32) [.int (nbI p)] (.int 0)) ([], fun _ => False) h12 1 1 8 #[.val (.int p)] [(.ref a1)]
  have f16 := ((K0.ext E3).wr W13 (Or.inr gh10))
  exact k_retRef d_tob_8 rfl rfl rfl (by decide) (by decide) ⟨a1, ck6, rfl, gl9, ge7, f16, V15⟩
theorem mt_tob (l : Launch) (Z : State) (a0 : Array Value) (hw : ∀ d ∈ tables_1, d.before a0 Z = true) (cs : Int32) (hcs : ¬ cs = 0) (SC : Sta Z Z.heap "java/lang/String" "COMPACT_STRINGS" "Z" (.int cs)) (hEW : EW Z a0 EL) (p : Int32) (h0 : Heap) (n0 : Nat) (OD : Old Z n0 h0) : Mt l Z M_tob [] n0 #[(.int p)] h0 (fun v h => ∃ d ck', v = some (.ref d) ∧ h0.size ≤ d ∧ n0 ≤ d ∧ Keep h0 h [] ∧ Arv Z h d ck' .byte (1 : Int32) [.int (nbI p)] (.int 0)) :=
  mt_of_kw (P := ([], fun _ => False)) pf_tob (fun m => by first | (simp [entryFrame, mkF, argsToLocals, Value.category]; done) | rfl) (kw_tob l Z a0 hw cs hcs SC hEW p h0 n0 OD)
abbrev M_sbb : MD := ((⟨"java/lang/String", "<init>", "([BB)V"⟩ : MethodName), jdk_42_method_151_code, 3, none, { frames := 1, cells := 0, slots := 0, locals := 12 })
theorem d_sbb_0 : decode jdk_42_method_151_code 0 = .ok (.aload_n 0, 1) := by decide +kernel
theorem d_sbb_1 : decode jdk_42_method_151_code 1 = .ok (.invokespecial 1, 3) := by decide +kernel
theorem d_sbb_4 : decode jdk_42_method_151_code 4 = .ok (.aload_n 0, 1) := by decide +kernel
theorem d_sbb_5 : decode jdk_42_method_151_code 5 = .ok (.aload_n 1, 1) := by decide +kernel
theorem d_sbb_6 : decode jdk_42_method_151_code 6 = .ok (.putfield 9, 3) := by decide +kernel
theorem d_sbb_9 : decode jdk_42_method_151_code 9 = .ok (.aload_n 0, 1) := by decide +kernel
theorem d_sbb_10 : decode jdk_42_method_151_code 10 = .ok (.iload_n 2, 1) := by decide +kernel
theorem d_sbb_11 : decode jdk_42_method_151_code 11 = .ok (.putfield 15, 3) := by decide +kernel
theorem d_sbb_14 : decode jdk_42_method_151_code 14 = .ok (.return_, 1) := by decide +kernel
theorem pd_sbb : parseMethodDescriptor "([BB)V" = some ⟨[(.array .byte), .byte], none⟩ := by decide +kernel
theorem pf_sbb : plainFor (⟨"java/lang/String", "<init>", "([BB)V"⟩ : MethodName) = true := by first | exact plainFor_of_name (by first | (simp [plainName, overriddenIn]; done) | decide +kernel) | decide +kernel
set_option maxRecDepth 65536 in
set_option maxHeartbeats 40000000 in
theorem kw_sbb (l : Launch) (Z : State) (a0 : Array Value) (hw : ∀ d ∈ tables_1, d.before a0 Z = true) (cs : Int32) (hcs : ¬ cs = 0) (SC : Sta Z Z.heap "java/lang/String" "COMPACT_STRINGS" "Z" (.int cs)) (hEW : EW Z a0 EL) (a d : Addr) (h0 : Heap) (n0 : Nat) (ga : n0 ≤ a) (EA : Exa Z h0 a "java/lang/String") (FC : Fld Z h0 a "java/lang/String" "coder" "B" (.int 0)) (FV : Fld Z h0 a "java/lang/String" "value" "[B" .null) : KW false l Z M_sbb n0 (fun v h => v = none ∧ Keep h0 h [a] ∧ Fld Z h a "java/lang/String" "coder" "B" (.int 0) ∧ Fld Z h a "java/lang/String" "value" "[B" (.ref d)) ([], fun _ => False) h0 0 0 0 #[.val (.ref a), .val (.ref d), .val (.int (0 : Int32))] [] := by
  have K0 : Keep h0 h0 [a] := Keep.refl _ _
  refine k_aloadN d_sbb_0 rfl rfl rfl ?_
  refine k_initObj (W0 := 0) d_sbb_1 rfl (hw _ (List.mem_of_getElem? (i := 22) rfl)) (hw _ (List.mem_of_getElem? (i := 23) rfl)) (hw _ (List.mem_of_getElem? (i := 24) rfl)) rfl rfl (by decide) (by decide) ?_
  refine k_aloadN d_sbb_4 rfl rfl rfl ?_
  refine k_aloadN d_sbb_5 rfl rfl rfl ?_
  refine k_put (v' := (.ref d)) (ty := (.array .byte)) d_sbb_6 rfl (hw _ (List.mem_of_getElem? (i := 25) rfl)) Via.refl FV EA (Or.inr ⟨(hw _ (List.mem_of_getElem? (i := 26) rfl)), rfl, rfl⟩) (hw _ (List.mem_of_getElem? (i := 13) rfl)) (by decide) rfl rfl ga (fun q => by cases q) ?_
  intro h1 W2
  have F3 := FV.same W2
  show KW false l Z M_sbb n0 (fun v h => v = none ∧ Keep h0 h [a] ∧ Fld Z h a "java/lang/String" "coder" "B" (.int 0) ∧ Fld Z h a "java/lang/String" "value" "[B" (.ref d)) ([], fun _ => False) h1 0 0 9 #[.val (.ref a), .val (.ref d), .val (.int (0 : Int32))] []
  refine k_aloadN d_sbb_9 rfl rfl rfl ?_
  refine k_iloadN d_sbb_10 rfl rfl ?_
  have f6 := (FC.other W2 (Or.inr (slot_ne (t := .byte) (t' := (.array .byte)) (Or.inr (hw _ (List.mem_of_getElem? (i := 28) rfl))) (Or.inr (hw _ (List.mem_of_getElem? (i := 26) rfl))) (by decide) (by decide) (by decide))))
  have f7 := (EA.wr W2)
  refine k_put (v' := (.int (0 : Int32))) (ty := .byte) d_sbb_11 rfl (hw _ (List.mem_of_getElem? (i := 27) rfl)) Via.refl f6 f7 (Or.inr ⟨(hw _ (List.mem_of_getElem? (i := 28) rfl)), rfl, rfl⟩) (hw _ (List.mem_of_getElem? (i := 13) rfl)) (by decide) rfl rfl ga (fun q => by cases q) ?_
  intro h4 W5
  have F8 := f6.same W5
  show KW false l Z M_sbb n0 (fun v h => v = none ∧ Keep h0 h [a] ∧ Fld Z h a "java/lang/String" "coder" "B" (.int 0) ∧ Fld Z h a "java/lang/String" "value" "[B" (.ref d)) ([], fun _ => False) h4 0 0 14 #[.val (.ref a), .val (.ref d), .val (.int (0 : Int32))] []
  have f9 := ((K0.wr W2 (Or.inl (by simp))).wr W5 (Or.inl (by simp)))
  have f10 := (F3.other W5 (Or.inr (slot_ne (t := (.array .byte)) (t' := .byte) (Or.inr (hw _ (List.mem_of_getElem? (i := 26) rfl))) (Or.inr (hw _ (List.mem_of_getElem? (i := 28) rfl))) (by decide) (by decide) (by decide))))
  exact k_retVoid d_sbb_14 rfl (by decide) (by decide) ⟨rfl, f9, F8, f10⟩
theorem mt_sbb (l : Launch) (Z : State) (a0 : Array Value) (hw : ∀ d ∈ tables_1, d.before a0 Z = true) (cs : Int32) (hcs : ¬ cs = 0) (SC : Sta Z Z.heap "java/lang/String" "COMPACT_STRINGS" "Z" (.int cs)) (hEW : EW Z a0 EL) (a d : Addr) (h0 : Heap) (n0 : Nat) (ga : n0 ≤ a) (EA : Exa Z h0 a "java/lang/String") (FC : Fld Z h0 a "java/lang/String" "coder" "B" (.int 0)) (FV : Fld Z h0 a "java/lang/String" "value" "[B" .null) : Mt l Z M_sbb [] n0 #[(.ref a), (.ref d), (.int (0 : Int32))] h0 (fun v h => v = none ∧ Keep h0 h [a] ∧ Fld Z h a "java/lang/String" "coder" "B" (.int 0) ∧ Fld Z h a "java/lang/String" "value" "[B" (.ref d)) :=
  mt_of_kw (P := ([], fun _ => False)) pf_sbb (fun m => by first | (simp [entryFrame, mkF, argsToLocals, Value.category]; done) | rfl) (kw_sbb l Z a0 hw cs hcs SC hEW a d h0 n0 ga EA FC FV)
abbrev M_vof : MD := ((⟨"java/lang/String", "valueOf", "(C)Ljava/lang/String;"⟩ : MethodName), jdk_42_method_139_code, 1, (some (.object "java/lang/String")), { frames := 2, cells := 2, slots := 5, locals := 28 })
theorem d_vof_0 : decode jdk_42_method_139_code 0 = .ok (.getstatic 38, 3) := by decide +kernel
theorem d_vof_3 : decode jdk_42_method_139_code 3 = .ok (.ifCond .eq 23, 3) := by decide +kernel
theorem d_vof_6 : decode jdk_42_method_139_code 6 = .ok (.iload_n 0, 1) := by decide +kernel
theorem d_vof_7 : decode jdk_42_method_139_code 7 = .ok (.invokestatic 1015, 3) := by decide +kernel
theorem d_vof_10 : decode jdk_42_method_139_code 10 = .ok (.ifCond .eq 16, 3) := by decide +kernel
theorem d_vof_13 : decode jdk_42_method_139_code 13 = .ok (.new 10, 3) := by decide +kernel
theorem d_vof_16 : decode jdk_42_method_139_code 16 = .ok (.dup, 1) := by decide +kernel
theorem d_vof_17 : decode jdk_42_method_139_code 17 = .ok (.iload_n 0, 1) := by decide +kernel
theorem d_vof_18 : decode jdk_42_method_139_code 18 = .ok (.invokestatic 1018, 3) := by decide +kernel
theorem d_vof_21 : decode jdk_42_method_139_code 21 = .ok (.iconst 0, 1) := by decide +kernel
theorem d_vof_22 : decode jdk_42_method_139_code 22 = .ok (.invokespecial 209, 3) := by decide +kernel
theorem d_vof_25 : decode jdk_42_method_139_code 25 = .ok (.areturn, 1) := by decide +kernel
theorem d_vof_26 : decode jdk_42_method_139_code 26 = .ok (.new 10, 3) := by decide +kernel
theorem d_vof_29 : decode jdk_42_method_139_code 29 = .ok (.dup, 1) := by decide +kernel
theorem d_vof_30 : decode jdk_42_method_139_code 30 = .ok (.iload_n 0, 1) := by decide +kernel
theorem d_vof_31 : decode jdk_42_method_139_code 31 = .ok (.invokestatic 1021, 3) := by decide +kernel
theorem d_vof_34 : decode jdk_42_method_139_code 34 = .ok (.iconst 1, 1) := by decide +kernel
theorem d_vof_35 : decode jdk_42_method_139_code 35 = .ok (.invokespecial 209, 3) := by decide +kernel
theorem d_vof_38 : decode jdk_42_method_139_code 38 = .ok (.areturn, 1) := by decide +kernel
theorem pd_vof : parseMethodDescriptor "(C)Ljava/lang/String;" = some ⟨[.char], (some (.object "java/lang/String"))⟩ := by decide +kernel
theorem pf_vof : plainFor (⟨"java/lang/String", "valueOf", "(C)Ljava/lang/String;"⟩ : MethodName) = true := by first | exact plainFor_of_name (by first | (simp [plainName, overriddenIn]; done) | decide +kernel) | decide +kernel
set_option maxRecDepth 65536 in
set_option maxHeartbeats 40000000 in
theorem kw_vof (l : Launch) (Z : State) (a0 : Array Value) (hw : ∀ d ∈ tables_1, d.before a0 Z = true) (cs : Int32) (hcs : ¬ cs = 0) (SC : Sta Z Z.heap "java/lang/String" "COMPACT_STRINGS" "Z" (.int cs)) (hEW : EW Z a0 EL) (p : Int32) (h0 : Heap) (n0 : Nat) (OD : Old Z n0 h0) (hp : Ch p) : KW false l Z M_vof n0 (fun v h => ∃ a t, v = some (.ref a) ∧ h0.size ≤ a ∧ h0.size ≤ t ∧ Keep h0 h [] ∧ Sg Z h a t [nbI p]) ([], fun _ => False) h0 0 0 0 #[.val (.int p)] [] := by
  have Z0 := OD.1 ▸ OD.2.1
  have K0 : Keep h0 h0 [] := Keep.refl _ _
  refine k_getStatic d_vof_0 rfl (hw _ (List.mem_of_getElem? (i := 7) rfl)) (Sta.ext OD.2 SC) ?_
  refine k_ifc (pc1 := 26) (pc' := 6) d_vof_3 (by decide) (by decide) rfl (fun (cd1 : cs = (0 : Int32)) => False.elim (by exact hcs cd1)) (fun (cd1 : ¬ cs = (0 : Int32)) => ?_)
  refine k_iloadN d_vof_6 rfl rfl ?_
  refine k_callStatic (argsL := [(.int p)]) (rest := []) (W0 := 0) d_vof_7 rfl (mt_cen l Z a0 hw cs hcs SC hEW p h0 n0 hp) Kp.strict (hw _ (List.mem_of_getElem? (i := 8) rfl)) (hw _ (List.mem_of_getElem? (i := 9) rfl)) (hw _ (List.mem_of_getElem? (i := 10) rfl)) (hw _ (List.mem_of_getElem? (i := 11) rfl)) (by decide) pd_cen rfl rfl rfl rfl (by decide) (by decide) (by decide) (by decide) ?_
  rintro _ _ - ⟨rfl, rfl⟩
  refine KW.any (P' := ([], fun _ => False)) ?_
  show KW false l Z M_vof n0 (fun v h => ∃ a t, v = some (.ref a) ∧ h0.size ≤ a ∧ h0.size ≤ t ∧ Keep h0 h [] ∧ Sg Z h a t [nbI p]) ([], fun _ => False) h0 0 0 10 #[.val (.int p)] [(.int (1 : Int32))]
  refine k_ifc (pc1 := 26) (pc' := 13) d_vof_10 (by decide) (by decide) rfl (fun (cd2 : (1 : Int32) = (0 : Int32)) => False.elim (by exact absurd cd2 (by decide))) (fun (cd2 : ¬ (1 : Int32) = (0 : Int32)) => ?_)
  refine k_new d_vof_13 rfl (hw _ (List.mem_of_getElem? (i := 12) rfl)) (hw _ (List.mem_of_getElem? (i := 13) rfl)) (hw _ (List.mem_of_getElem? (i := 5) rfl)) (by decide) (by decide) ?_
  intro h2 a1 g6 E3 A4 D5
  have z7 : n0 ≤ h0.size := Z0
  have ge8 : n0 ≤ a1 := Nat.le_trans z7 (Nat.le_of_eq g6.symm)
  have gl9 : h0.size ≤ a1 := Nat.le_of_eq g6.symm
  have gh10 := Nat.le_trans K0.1 gl9
  have F11 : Fld Z h2 a1 "java/lang/String" "value" "[B" .null := D5 (Or.inr (hw _ (List.mem_of_getElem? (i := 26) rfl))) (ty := (.array .byte)) (by decide)
  have F12 : Fld Z h2 a1 "java/lang/String" "coder" "B" (.int (0 : Int32)) := D5 (Or.inr (hw _ (List.mem_of_getElem? (i := 28) rfl))) (ty := .byte) (by decide)
  refine KW.any (P' := ([], fun _ => False)) ?_
  show KW false l Z M_vof n0 (fun v h => ∃ a t, v = some (.ref a) ∧ h0.size ≤ a ∧ h0.size ≤ t ∧ Keep h0 h [] ∧ Sg Z h a t [nbI p]) ([], fun _ => False) h2 1 4 16 #[.val (.int p)] [(.ref a1)]
  refine k_dup d_vof_16 rfl rfl ?_
  refine k_iloadN d_vof_17 rfl rfl ?_
  have f13 := (OD.ext E3)
  refine k_callStatic (argsL := [(.int p)]) (rest := [(.ref a1), (.ref a1)]) (W0 := 2) d_vof_18 rfl (mt_tob l Z a0 hw cs hcs SC hEW p h2 n0 f13) Kp.strict (hw _ (List.mem_of_getElem? (i := 14) rfl)) (hw _ (List.mem_of_getElem? (i := 15) rfl)) (hw _ (List.mem_of_getElem? (i := 10) rfl)) (hw _ (List.mem_of_getElem? (i := 16) rfl)) (by decide) pd_tob rfl rfl rfl rfl (by decide) (by decide) (by decide) (by decide) ?_
  have f22 := (K0.ext E3)
  rintro _ h15 - ⟨d14, ck20, rfl, gd18, g19, K16, D17⟩
  have ne23 : a1 ≠ d14 := Nat.ne_of_lt (Nat.lt_of_lt_of_le A4.lt gd18)
  refine KW.any (P' := ([], fun _ => False)) ?_
  show KW false l Z M_vof n0 (fun v h => ∃ a t, v = some (.ref a) ∧ h0.size ≤ a ∧ h0.size ≤ t ∧ Keep h0 h [] ∧ Sg Z h a t [nbI p]) ([], fun _ => False) h15 2 5 21 #[.val (.int p)] [(.ref d14), (.ref a1), (.ref a1)]
  refine k_iconst (z := (0 : Int32)) d_vof_21 rfl (by decide) ?_
  have f24 := (A4.keep K16)
  have f25 := (F12.keep K16 nin0)
  have f26 := (F11.keep K16 nin0)
  have f27 := (f22.trans K16 all0)
  refine k_callInit (a := a1) (argsL := [(.ref d14), (.int (0 : Int32))]) (rest := [(.ref a1)]) (W0 := 1) d_vof_22 rfl (mt_sbb l Z a0 hw cs hcs SC hEW a1 d14 h15 n0 ge8 f24 f25 f26) Kp.strict rfl rfl (hw _ (List.mem_of_getElem? (i := 18) rfl)) (hw _ (List.mem_of_getElem? (i := 19) rfl)) (hw _ (List.mem_of_getElem? (i := 5) rfl)) (hw _ (List.mem_of_getElem? (i := 21) rfl)) (by decide) pd_sbb rfl rfl rfl rfl (by decide) (by decide) (by decide) (by decide) ?_
  rintro _ h28 - ⟨rfl, K29, F30, F31⟩
  refine KW.any (P' := ([], fun _ => False)) ?_
  show KW false l Z M_vof n0 (fun v h => ∃ a t, v = some (.ref a) ∧ h0.size ≤ a ∧ h0.size ≤ t ∧ Keep h0 h [] ∧ Sg Z h a t [nbI p]) ([], fun _ => False) h28 2 5 25 #[.val (.int p)] [(.ref a1)]
  have f32 := (f27.trans K29 (allS (Or.inr gh10) all0))
  have f33 := (f24.keep K29)
  have f34 := (D17.keep K29 (ninS (Ne.symm ne23) nin0))
  exact k_retRef d_vof_25 rfl rfl rfl (by decide) (by decide) ⟨a1, d14, rfl, gh10, (Nat.le_trans f22.1 gd18), f32, ⟨ck20, f33, F30, F31, f34, by simp⟩⟩
theorem mt_vof (l : Launch) (Z : State) (a0 : Array Value) (hw : ∀ d ∈ tables_1, d.before a0 Z = true) (cs : Int32) (hcs : ¬ cs = 0) (SC : Sta Z Z.heap "java/lang/String" "COMPACT_STRINGS" "Z" (.int cs)) (hEW : EW Z a0 EL) (p : Int32) (h0 : Heap) (n0 : Nat) (OD : Old Z n0 h0) (hp : Ch p) : Mt l Z M_vof [] n0 #[(.int p)] h0 (fun v h => ∃ a t, v = some (.ref a) ∧ h0.size ≤ a ∧ h0.size ≤ t ∧ Keep h0 h [] ∧ Sg Z h a t [nbI p]) :=
  mt_of_kw (P := ([], fun _ => False)) pf_vof (fun m => by first | (simp [entryFrame, mkF, argsToLocals, Value.category]; done) | rfl) (kw_vof l Z a0 hw cs hcs SC hEW p h0 n0 OD hp)
abbrev M_asi : MD := ((⟨"java/lang/AbstractStringBuilder", "<init>", "(I)V"⟩ : MethodName), jdk_68_method_2_code, 2, none, { frames := 1, cells := 1, slots := 16, locals := 12 })
theorem d_asi_0 : decode jdk_68_method_2_code 0 = .ok (.aload_n 0, 1) := by decide +kernel
theorem d_asi_1 : decode jdk_68_method_2_code 1 = .ok (.invokespecial 3, 3) := by decide +kernel
theorem d_asi_4 : decode jdk_68_method_2_code 4 = .ok (.getstatic 18, 3) := by decide +kernel
theorem d_asi_7 : decode jdk_68_method_2_code 7 = .ok (.ifCond .eq 18, 3) := by decide +kernel
theorem d_asi_10 : decode jdk_68_method_2_code 10 = .ok (.aload_n 0, 1) := by decide +kernel
theorem d_asi_11 : decode jdk_68_method_2_code 11 = .ok (.iload_n 1, 1) := by decide +kernel
theorem d_asi_12 : decode jdk_68_method_2_code 12 = .ok (.newarray .byte, 2) := by decide +kernel
theorem d_asi_14 : decode jdk_68_method_2_code 14 = .ok (.putfield 15, 3) := by decide +kernel
theorem d_asi_17 : decode jdk_68_method_2_code 17 = .ok (.aload_n 0, 1) := by decide +kernel
theorem d_asi_18 : decode jdk_68_method_2_code 18 = .ok (.iconst 0, 1) := by decide +kernel
theorem d_asi_19 : decode jdk_68_method_2_code 19 = .ok (.putfield 22, 3) := by decide +kernel
theorem d_asi_22 : decode jdk_68_method_2_code 22 = .ok (.goto 16, 3) := by decide +kernel
theorem d_asi_25 : decode jdk_68_method_2_code 25 = .ok (.aload_n 0, 1) := by decide +kernel
theorem d_asi_26 : decode jdk_68_method_2_code 26 = .ok (.iload_n 1, 1) := by decide +kernel
theorem d_asi_27 : decode jdk_68_method_2_code 27 = .ok (.invokestatic 26, 3) := by decide +kernel
theorem d_asi_30 : decode jdk_68_method_2_code 30 = .ok (.putfield 15, 3) := by decide +kernel
theorem d_asi_33 : decode jdk_68_method_2_code 33 = .ok (.aload_n 0, 1) := by decide +kernel
theorem d_asi_34 : decode jdk_68_method_2_code 34 = .ok (.iconst 1, 1) := by decide +kernel
theorem d_asi_35 : decode jdk_68_method_2_code 35 = .ok (.putfield 22, 3) := by decide +kernel
theorem d_asi_38 : decode jdk_68_method_2_code 38 = .ok (.return_, 1) := by decide +kernel
theorem pd_asi : parseMethodDescriptor "(I)V" = some ⟨[.int], none⟩ := by decide +kernel
theorem pf_asi : plainFor (⟨"java/lang/AbstractStringBuilder", "<init>", "(I)V"⟩ : MethodName) = true := by first | exact plainFor_of_name (by first | (simp [plainName, overriddenIn]; done) | decide +kernel) | decide +kernel
set_option maxRecDepth 65536 in
set_option maxHeartbeats 40000000 in
theorem kw_asi (l : Launch) (Z : State) (a0 : Array Value) (hw : ∀ d ∈ tables_1, d.before a0 Z = true) (cs : Int32) (hcs : ¬ cs = 0) (SC : Sta Z Z.heap "java/lang/String" "COMPACT_STRINGS" "Z" (.int cs)) (hEW : EW Z a0 EL) (b : Addr) (h0 : Heap) (n0 : Nat) (OD : Old Z n0 h0) (gb : n0 ≤ b) (EB : Exa Z h0 b "java/lang/StringBuilder") (GF1 : Fld Z h0 b "java/lang/AbstractStringBuilder" "value" "[B" .null) (GF2 : Fld Z h0 b "java/lang/AbstractStringBuilder" "coder" "B" (.int 0)) (GF3 : Fld Z h0 b "java/lang/AbstractStringBuilder" "count" "I" (.int 0)) (GF4 : Fld Z h0 b "java/lang/AbstractStringBuilder" "maybeLatin1" "Z" (.int 0)) : KW false l Z M_asi n0 (fun v h => v = none ∧ ∃ d, h0.size ≤ d ∧ n0 ≤ d ∧ Keep h0 h [b] ∧ Sb Z h b d 16 [] ∧ Fld Z h b "java/lang/AbstractStringBuilder" "maybeLatin1" "Z" (.int 0)) ([], fun _ => False) h0 0 0 0 #[.val (.ref b), .val (.int (16 : Int32))] [] := by
  have Z0 := OD.1 ▸ OD.2.1
  have K0 : Keep h0 h0 [b] := Keep.refl _ _
  refine k_aloadN d_asi_0 rfl rfl rfl ?_
  refine k_initObj (W0 := 0) d_asi_1 rfl (hw _ (List.mem_of_getElem? (i := 45) rfl)) (hw _ (List.mem_of_getElem? (i := 23) rfl)) (hw _ (List.mem_of_getElem? (i := 24) rfl)) rfl rfl (by decide) (by decide) ?_
  refine k_getStatic d_asi_4 rfl (hw _ (List.mem_of_getElem? (i := 46) rfl)) (Sta.ext OD.2 SC) ?_
  refine k_ifc (pc1 := 25) (pc' := 10) d_asi_7 (by decide) (by decide) rfl (fun (cd1 : cs = (0 : Int32)) => False.elim (by exact hcs cd1)) (fun (cd1 : ¬ cs = (0 : Int32)) => ?_)
  refine k_aloadN d_asi_10 rfl rfl rfl ?_
  refine k_iloadN d_asi_11 rfl rfl ?_
  refine k_newarr (cap := 16) d_asi_12 rfl (hw _ (List.mem_of_getElem? (i := 17) rfl)) (by decide) (by decide) (by decide) (by decide) (by decide) ?_
  intro h2 a1 ck6 g5 E3 V4
  have ne7 : b ≠ a1 := Nat.ne_of_lt (Nat.lt_of_lt_of_eq EB.lt g5.symm)
  have z9 : n0 ≤ h0.size := Z0
  have ge8 : n0 ≤ a1 := Nat.le_trans z9 (Nat.le_of_eq g5.symm)
  have gl10 : h0.size ≤ a1 := Nat.le_of_eq g5.symm
  have gh11 := Nat.le_trans K0.1 gl10
  have V12 : Arv Z h2 a1 ck6 .byte (16 : Int32) [(.int (0 : Int32)), (.int (0 : Int32)), (.int (0 : Int32)), (.int (0 : Int32)), (.int (0 : Int32)), (.int (0 : Int32)), (.int (0 : Int32)), (.int (0 : Int32)), (.int (0 : Int32)), (.int (0 : Int32)), (.int (0 : Int32)), (.int (0 : Int32)), (.int (0 : Int32)), (.int (0 : Int32)), (.int (0 : Int32)), (.int (0 : Int32))] (.int (0 : Int32)) := Arv.pad V4 (pad_rep [] _ 16)
  refine KW.any (P' := ([], fun _ => False)) ?_
  show KW false l Z M_asi n0 (fun v h => v = none ∧ ∃ d, h0.size ≤ d ∧ n0 ≤ d ∧ Keep h0 h [b] ∧ Sb Z h b d 16 [] ∧ Fld Z h b "java/lang/AbstractStringBuilder" "maybeLatin1" "Z" (.int 0)) ([], fun _ => False) h2 1 16 14 #[.val (.ref b), .val (.int (16 : Int32))] [(.ref a1), (.ref b)]
  have f15 := (GF1.ext E3)
  have f16 := (EB.ext E3)
  refine k_put (v' := (.ref a1)) (ty := (.array .byte)) d_asi_14 rfl (hw _ (List.mem_of_getElem? (i := 47) rfl)) Via.refl f15 f16 (Or.inl (hw _ (List.mem_of_getElem? (i := 48) rfl))) (hw _ (List.mem_of_getElem? (i := 34) rfl)) (by decide) rfl rfl gb (fun q => by cases q) ?_
  intro h13 W14
  have F17 := f15.same W14
  show KW false l Z M_asi n0 (fun v h => v = none ∧ ∃ d, h0.size ≤ d ∧ n0 ≤ d ∧ Keep h0 h [b] ∧ Sb Z h b d 16 [] ∧ Fld Z h b "java/lang/AbstractStringBuilder" "maybeLatin1" "Z" (.int 0)) ([], fun _ => False) h13 1 16 17 #[.val (.ref b), .val (.int (16 : Int32))] []
  refine k_aloadN d_asi_17 rfl rfl rfl ?_
  refine k_iconst (z := (0 : Int32)) d_asi_18 rfl (by decide) ?_
  have f20 := ((GF2.ext E3).other W14 (Or.inr (slot_ne (t := .byte) (t' := (.array .byte)) (Or.inl (hw _ (List.mem_of_getElem? (i := 50) rfl))) (Or.inl (hw _ (List.mem_of_getElem? (i := 48) rfl))) (by decide) (by decide) (by decide))))
  have f21 := (f16.wr W14)
  refine k_put (v' := (.int (0 : Int32))) (ty := .byte) d_asi_19 rfl (hw _ (List.mem_of_getElem? (i := 49) rfl)) Via.refl f20 f21 (Or.inl (hw _ (List.mem_of_getElem? (i := 50) rfl))) (hw _ (List.mem_of_getElem? (i := 34) rfl)) (by decide) rfl rfl gb (fun q => by cases q) ?_
  intro h18 W19
  have F22 := f20.same W19
  show KW false l Z M_asi n0 (fun v h => v = none ∧ ∃ d, h0.size ≤ d ∧ n0 ≤ d ∧ Keep h0 h [b] ∧ Sb Z h b d 16 [] ∧ Fld Z h b "java/lang/AbstractStringBuilder" "maybeLatin1" "Z" (.int 0)) ([], fun _ => False) h18 1 16 22 #[.val (.ref b), .val (.int (16 : Int32))] []
  refine k_goto (pc' := 38) d_asi_22 (by decide) (by decide) ?_
  have f23 := (((K0.ext E3).wr W14 (Or.inl (by simp))).wr W19 (Or.inl (by simp)))
  have f24 := (f21.wr W19)
  have f25 := (F17.other W19 (Or.inr (slot_ne (t := (.array .byte)) (t' := .byte) (Or.inl (hw _ (List.mem_of_getElem? (i := 48) rfl))) (Or.inl (hw _ (List.mem_of_getElem? (i := 50) rfl))) (by decide) (by decide) (by decide))))
  have f26 := (((GF3.ext E3).other W14 (Or.inr (slot_ne (t := .int) (t' := (.array .byte)) (Or.inl (hw _ (List.mem_of_getElem? (i := 123) rfl))) (Or.inl (hw _ (List.mem_of_getElem? (i := 48) rfl))) (by decide) (by decide) (by decide)))).other W19 (Or.inr (slot_ne (t := .int) (t' := .byte) (Or.inl (hw _ (List.mem_of_getElem? (i := 123) rfl))) (Or.inl (hw _ (List.mem_of_getElem? (i := 50) rfl))) (by decide) (by decide) (by decide))))
  have f27 := ((V12.other W14 (Ne.symm ne7)).other W19 (Ne.symm ne7))
  have f28 := (((GF4.ext E3).other W14 (Or.inr (slot_ne (t := .boolean) (t' := (.array .byte)) (Or.inl (hw _ (List.mem_of_getElem? (i := 211) rfl))) (Or.inl (hw _ (List.mem_of_getElem? (i := 48) rfl))) (by decide) (by decide) (by decide)))).other W19 (Or.inr (slot_ne (t := .boolean) (t' := .byte) (Or.inl (hw _ (List.mem_of_getElem? (i := 211) rfl))) (Or.inl (hw _ (List.mem_of_getElem? (i := 50) rfl))) (by decide) (by decide) (by decide))))
  exact k_retVoid d_asi_38 rfl (by decide) (by decide) ⟨rfl, a1, gh11, ge8, f23, ⟨ck6, List.replicate 16 0, f24, f25, F22, f26, f27, rfl, by decide⟩, f28⟩
theorem mt_asi (l : Launch) (Z : State) (a0 : Array Value) (hw : ∀ d ∈ tables_1, d.before a0 Z = true) (cs : Int32) (hcs : ¬ cs = 0) (SC : Sta Z Z.heap "java/lang/String" "COMPACT_STRINGS" "Z" (.int cs)) (hEW : EW Z a0 EL) (b : Addr) (h0 : Heap) (n0 : Nat) (OD : Old Z n0 h0) (gb : n0 ≤ b) (EB : Exa Z h0 b "java/lang/StringBuilder") (GF1 : Fld Z h0 b "java/lang/AbstractStringBuilder" "value" "[B" .null) (GF2 : Fld Z h0 b "java/lang/AbstractStringBuilder" "coder" "B" (.int 0)) (GF3 : Fld Z h0 b "java/lang/AbstractStringBuilder" "count" "I" (.int 0)) (GF4 : Fld Z h0 b "java/lang/AbstractStringBuilder" "maybeLatin1" "Z" (.int 0)) : Mt l Z M_asi [] n0 #[(.ref b), (.int (16 : Int32))] h0 (fun v h => v = none ∧ ∃ d, h0.size ≤ d ∧ n0 ≤ d ∧ Keep h0 h [b] ∧ Sb Z h b d 16 [] ∧ Fld Z h b "java/lang/AbstractStringBuilder" "maybeLatin1" "Z" (.int 0)) :=
  mt_of_kw (P := ([], fun _ => False)) pf_asi (fun m => by first | (simp [entryFrame, mkF, argsToLocals, Value.category]; done) | rfl) (kw_asi l Z a0 hw cs hcs SC hEW b h0 n0 OD gb EB GF1 GF2 GF3 GF4)
abbrev M_sbi : MD := ((⟨"java/lang/StringBuilder", "<init>", "()V"⟩ : MethodName), jdk_67_method_1_code, 1, none, { frames := 2, cells := 1, slots := 16, locals := 28 })
theorem d_sbi_0 : decode jdk_67_method_1_code 0 = .ok (.aload_n 0, 1) := by decide +kernel
theorem d_sbi_1 : decode jdk_67_method_1_code 1 = .ok (.bipush 16, 2) := by decide +kernel
theorem d_sbi_3 : decode jdk_67_method_1_code 3 = .ok (.invokespecial 1, 3) := by decide +kernel
theorem d_sbi_6 : decode jdk_67_method_1_code 6 = .ok (.return_, 1) := by decide +kernel
theorem pd_sbi : parseMethodDescriptor "()V" = some ⟨[], none⟩ := by decide +kernel
theorem pf_sbi : plainFor (⟨"java/lang/StringBuilder", "<init>", "()V"⟩ : MethodName) = true := by first | exact plainFor_of_name (by first | (simp [plainName, overriddenIn]; done) | decide +kernel) | decide +kernel
set_option maxRecDepth 65536 in
set_option maxHeartbeats 40000000 in
theorem kw_sbi (l : Launch) (Z : State) (a0 : Array Value) (hw : ∀ d ∈ tables_1, d.before a0 Z = true) (cs : Int32) (hcs : ¬ cs = 0) (SC : Sta Z Z.heap "java/lang/String" "COMPACT_STRINGS" "Z" (.int cs)) (hEW : EW Z a0 EL) (b : Addr) (h0 : Heap) (n0 : Nat) (OD : Old Z n0 h0) (gb : n0 ≤ b) (EB : Exa Z h0 b "java/lang/StringBuilder") (GF1 : Fld Z h0 b "java/lang/AbstractStringBuilder" "value" "[B" .null) (GF2 : Fld Z h0 b "java/lang/AbstractStringBuilder" "coder" "B" (.int 0)) (GF3 : Fld Z h0 b "java/lang/AbstractStringBuilder" "count" "I" (.int 0)) (GF4 : Fld Z h0 b "java/lang/AbstractStringBuilder" "maybeLatin1" "Z" (.int 0)) : KW false l Z M_sbi n0 (fun v h => v = none ∧ ∃ d, h0.size ≤ d ∧ n0 ≤ d ∧ Keep h0 h [b] ∧ Sb Z h b d 16 [] ∧ Fld Z h b "java/lang/AbstractStringBuilder" "maybeLatin1" "Z" (.int 0)) ([], fun _ => False) h0 0 0 0 #[.val (.ref b)] [] := by
  refine k_aloadN d_sbi_0 rfl rfl rfl ?_
  refine k_bipush (z := (16 : Int32)) d_sbi_1 rfl (by decide) ?_
  refine k_callInit (a := b) (argsL := [(.int (16 : Int32))]) (rest := []) (W0 := 0) d_sbi_3 rfl (mt_asi l Z a0 hw cs hcs SC hEW b h0 n0 OD gb EB GF1 GF2 GF3 GF4) Kp.strict rfl rfl (hw _ (List.mem_of_getElem? (i := 39) rfl)) (hw _ (List.mem_of_getElem? (i := 40) rfl)) (hw _ (List.mem_of_getElem? (i := 43) rfl)) (hw _ (List.mem_of_getElem? (i := 44) rfl)) (by decide) pd_asi rfl rfl rfl rfl (by decide) (by decide) (by decide) (by decide) ?_
  rintro _ hN - ⟨rfl, R1⟩
  refine KW.any (P' := ([], fun _ => False)) ?_
  show KW false l Z M_sbi n0 (fun v h => v = none ∧ ∃ d, h0.size ≤ d ∧ n0 ≤ d ∧ Keep h0 h [b] ∧ Sb Z h b d 16 [] ∧ Fld Z h b "java/lang/AbstractStringBuilder" "maybeLatin1" "Z" (.int 0)) ([], fun _ => False) hN 1 16 6 #[.val (.ref b)] []
  exact k_retVoid d_sbi_6 rfl (by decide) (by decide) ⟨rfl, R1⟩
theorem mt_sbi (l : Launch) (Z : State) (a0 : Array Value) (hw : ∀ d ∈ tables_1, d.before a0 Z = true) (cs : Int32) (hcs : ¬ cs = 0) (SC : Sta Z Z.heap "java/lang/String" "COMPACT_STRINGS" "Z" (.int cs)) (hEW : EW Z a0 EL) (b : Addr) (h0 : Heap) (n0 : Nat) (OD : Old Z n0 h0) (gb : n0 ≤ b) (EB : Exa Z h0 b "java/lang/StringBuilder") (GF1 : Fld Z h0 b "java/lang/AbstractStringBuilder" "value" "[B" .null) (GF2 : Fld Z h0 b "java/lang/AbstractStringBuilder" "coder" "B" (.int 0)) (GF3 : Fld Z h0 b "java/lang/AbstractStringBuilder" "count" "I" (.int 0)) (GF4 : Fld Z h0 b "java/lang/AbstractStringBuilder" "maybeLatin1" "Z" (.int 0)) : Mt l Z M_sbi [] n0 #[(.ref b)] h0 (fun v h => v = none ∧ ∃ d, h0.size ≤ d ∧ n0 ≤ d ∧ Keep h0 h [b] ∧ Sb Z h b d 16 [] ∧ Fld Z h b "java/lang/AbstractStringBuilder" "maybeLatin1" "Z" (.int 0)) :=
  mt_of_kw (P := ([], fun _ => False)) pf_sbi (fun m => by first | (simp [entryFrame, mkF, argsToLocals, Value.category]; done) | rfl) (kw_sbi l Z a0 hw cs hcs SC hEW b h0 n0 OD gb EB GF1 GF2 GF3 GF4)
abbrev M_ail : MD := ((⟨"java/lang/AbstractStringBuilder", "isLatin1", "()Z"⟩ : MethodName), jdk_68_method_68_code, 1, (some .boolean), { frames := 0, cells := 0, slots := 0, locals := 0 })
theorem d_ail_0 : decode jdk_68_method_68_code 0 = .ok (.getstatic 18, 3) := by decide +kernel
theorem d_ail_3 : decode jdk_68_method_68_code 3 = .ok (.ifCond .eq 14, 3) := by decide +kernel
theorem d_ail_6 : decode jdk_68_method_68_code 6 = .ok (.aload_n 0, 1) := by decide +kernel
theorem d_ail_7 : decode jdk_68_method_68_code 7 = .ok (.getfield 22, 3) := by decide +kernel
theorem d_ail_10 : decode jdk_68_method_68_code 10 = .ok (.ifCond .ne 7, 3) := by decide +kernel
theorem d_ail_13 : decode jdk_68_method_68_code 13 = .ok (.iconst 1, 1) := by decide +kernel
theorem d_ail_14 : decode jdk_68_method_68_code 14 = .ok (.goto 4, 3) := by decide +kernel
theorem d_ail_17 : decode jdk_68_method_68_code 17 = .ok (.iconst 0, 1) := by decide +kernel
theorem d_ail_18 : decode jdk_68_method_68_code 18 = .ok (.ireturn, 1) := by decide +kernel
theorem pd_ail : parseMethodDescriptor "()Z" = some ⟨[], (some .boolean)⟩ := by decide +kernel
theorem pf_ail : plainFor (⟨"java/lang/AbstractStringBuilder", "isLatin1", "()Z"⟩ : MethodName) = true := by first | exact plainFor_of_name (by first | (simp [plainName, overriddenIn]; done) | decide +kernel) | decide +kernel
set_option maxRecDepth 65536 in
set_option maxHeartbeats 40000000 in
theorem kw_ail (l : Launch) (Z : State) (a0 : Array Value) (hw : ∀ d ∈ tables_1, d.before a0 Z = true) (cs : Int32) (hcs : ¬ cs = 0) (SC : Sta Z Z.heap "java/lang/String" "COMPACT_STRINGS" "Z" (.int cs)) (hEW : EW Z a0 EL) (b d : Addr) (N : Nat) (bs : List Int32) (h0 : Heap) (n0 : Nat) (OD : Old Z n0 h0) (SB : Sb Z h0 b d N bs) : KW false l Z M_ail n0 (fun v h => v = some (.int 1) ∧ h0 = h) ([], fun _ => False) h0 0 0 0 #[.val (.ref b)] [] := by
  obtain ⟨ckB, zs, EB, VB, CB, NB, AB, hN, hN2⟩ := id SB
  refine k_getStatic d_ail_0 rfl (hw _ (List.mem_of_getElem? (i := 46) rfl)) (Sta.ext OD.2 SC) ?_
  refine k_ifc (pc1 := 17) (pc' := 6) d_ail_3 (by decide) (by decide) rfl (fun (cd1 : cs = (0 : Int32)) => False.elim (by exact hcs cd1)) (fun (cd1 : ¬ cs = (0 : Int32)) => ?_)
  refine k_aloadN d_ail_6 rfl rfl rfl ?_
  refine k_getField d_ail_7 rfl (hw _ (List.mem_of_getElem? (i := 49) rfl)) Via.refl CB ?_
  refine k_ifc (pc1 := 17) (pc' := 13) d_ail_10 (by decide) (by decide) rfl (fun (cd2 : ¬ (0 : Int32) = (0 : Int32)) => False.elim (by exact absurd cd2 (by decide))) (fun (cd2 : (0 : Int32) = (0 : Int32)) => ?_)
  refine k_iconst (z := (1 : Int32)) d_ail_13 rfl (by decide) ?_
  refine k_goto (pc' := 18) d_ail_14 (by decide) (by decide) ?_
  exact k_retNar d_ail_18 rfl (by simp) (z' := (1 : Int32)) (by decide) (by decide) (by decide) ⟨rfl, rfl⟩
theorem mt_ail (l : Launch) (Z : State) (a0 : Array Value) (hw : ∀ d ∈ tables_1, d.before a0 Z = true) (cs : Int32) (hcs : ¬ cs = 0) (SC : Sta Z Z.heap "java/lang/String" "COMPACT_STRINGS" "Z" (.int cs)) (hEW : EW Z a0 EL) (b d : Addr) (N : Nat) (bs : List Int32) (h0 : Heap) (n0 : Nat) (OD : Old Z n0 h0) (SB : Sb Z h0 b d N bs) : Mt l Z M_ail [] n0 #[(.ref b)] h0 (fun v h => v = some (.int 1) ∧ h0 = h) :=
  mt_of_kw (P := ([], fun _ => False)) pf_ail (fun m => by first | (simp [entryFrame, mkF, argsToLocals, Value.category]; done) | rfl) (kw_ail l Z a0 hw cs hcs SC hEW b d N bs h0 n0 OD SB)
abbrev M_gvl : MD := ((⟨"java/lang/AbstractStringBuilder", "getValue", "()[B"⟩ : MethodName), jdk_68_method_64_code, 1, (some (.array .byte)), { frames := 0, cells := 0, slots := 0, locals := 0 })
theorem d_gvl_0 : decode jdk_68_method_64_code 0 = .ok (.aload_n 0, 1) := by decide +kernel
theorem d_gvl_1 : decode jdk_68_method_64_code 1 = .ok (.getfield 15, 3) := by decide +kernel
theorem d_gvl_4 : decode jdk_68_method_64_code 4 = .ok (.areturn, 1) := by decide +kernel
theorem pd_gvl : parseMethodDescriptor "()[B" = some ⟨[], (some (.array .byte))⟩ := by decide +kernel
theorem pf_gvl : plainFor (⟨"java/lang/AbstractStringBuilder", "getValue", "()[B"⟩ : MethodName) = true := by first | exact plainFor_of_name (by first | (simp [plainName, overriddenIn]; done) | decide +kernel) | decide +kernel
set_option maxRecDepth 65536 in
set_option maxHeartbeats 40000000 in
theorem kw_gvl (l : Launch) (Z : State) (a0 : Array Value) (hw : ∀ d ∈ tables_1, d.before a0 Z = true) (cs : Int32) (hcs : ¬ cs = 0) (SC : Sta Z Z.heap "java/lang/String" "COMPACT_STRINGS" "Z" (.int cs)) (hEW : EW Z a0 EL) (b d : Addr) (N : Nat) (bs : List Int32) (h0 : Heap) (n0 : Nat) (OD : Old Z n0 h0) (SB : Sb Z h0 b d N bs) : KW false l Z M_gvl n0 (fun v h => v = some (.ref d) ∧ h0 = h) ([], fun _ => False) h0 0 0 0 #[.val (.ref b)] [] := by
  obtain ⟨ckB, zs, EB, VB, CB, NB, AB, hN, hN2⟩ := id SB
  refine k_aloadN d_gvl_0 rfl rfl rfl ?_
  refine k_getField d_gvl_1 rfl (hw _ (List.mem_of_getElem? (i := 47) rfl)) Via.refl VB ?_
  exact k_retRef d_gvl_4 rfl rfl rfl (by decide) (by decide) ⟨rfl, rfl⟩
theorem mt_gvl (l : Launch) (Z : State) (a0 : Array Value) (hw : ∀ d ∈ tables_1, d.before a0 Z = true) (cs : Int32) (hcs : ¬ cs = 0) (SC : Sta Z Z.heap "java/lang/String" "COMPACT_STRINGS" "Z" (.int cs)) (hEW : EW Z a0 EL) (b d : Addr) (N : Nat) (bs : List Int32) (h0 : Heap) (n0 : Nat) (OD : Old Z n0 h0) (SB : Sb Z h0 b d N bs) : Mt l Z M_gvl [] n0 #[(.ref b)] h0 (fun v h => v = some (.ref d) ∧ h0 = h) :=
  mt_of_kw (P := ([], fun _ => False)) pf_gvl (fun m => by first | (simp [entryFrame, mkF, argsToLocals, Value.category]; done) | rfl) (kw_gvl l Z a0 hw cs hcs SC hEW b d N bs h0 n0 OD SB)
abbrev M_aln : MD := ((⟨"java/lang/AbstractStringBuilder", "length", "()I"⟩ : MethodName), jdk_68_method_6_code, 1, (some .int), { frames := 0, cells := 0, slots := 0, locals := 0 })
theorem d_aln_0 : decode jdk_68_method_6_code 0 = .ok (.aload_n 0, 1) := by decide +kernel
theorem d_aln_1 : decode jdk_68_method_6_code 1 = .ok (.getfield 79, 3) := by decide +kernel
theorem d_aln_4 : decode jdk_68_method_6_code 4 = .ok (.ireturn, 1) := by decide +kernel
theorem pd_aln : parseMethodDescriptor "()I" = some ⟨[], (some .int)⟩ := by decide +kernel
theorem pf_aln : plainFor (⟨"java/lang/AbstractStringBuilder", "length", "()I"⟩ : MethodName) = true := by first | exact plainFor_of_name (by first | (simp [plainName, overriddenIn]; done) | decide +kernel) | decide +kernel
set_option maxRecDepth 65536 in
set_option maxHeartbeats 40000000 in
theorem kw_aln (l : Launch) (Z : State) (a0 : Array Value) (hw : ∀ d ∈ tables_1, d.before a0 Z = true) (cs : Int32) (hcs : ¬ cs = 0) (SC : Sta Z Z.heap "java/lang/String" "COMPACT_STRINGS" "Z" (.int cs)) (hEW : EW Z a0 EL) (b d : Addr) (N : Nat) (bs : List Int32) (h0 : Heap) (n0 : Nat) (OD : Old Z n0 h0) (SB : Sb Z h0 b d N bs) : KW false l Z M_aln n0 (fun v h => v = some (.int (Int32.ofNat bs.length)) ∧ h0 = h) ([], fun _ => False) h0 0 0 0 #[.val (.ref b)] [] := by
  obtain ⟨ckB, zs, EB, VB, CB, NB, AB, hN, hN2⟩ := id SB
  refine k_aloadN d_aln_0 rfl rfl rfl ?_
  refine k_getField d_aln_1 rfl (hw _ (List.mem_of_getElem? (i := 122) rfl)) Via.refl NB ?_
  exact k_retInt d_aln_4 rfl (by decide) (by decide) ⟨rfl, rfl⟩
theorem mt_aln (l : Launch) (Z : State) (a0 : Array Value) (hw : ∀ d ∈ tables_1, d.before a0 Z = true) (cs : Int32) (hcs : ¬ cs = 0) (SC : Sta Z Z.heap "java/lang/String" "COMPACT_STRINGS" "Z" (.int cs)) (hEW : EW Z a0 EL) (b d : Addr) (N : Nat) (bs : List Int32) (h0 : Heap) (n0 : Nat) (OD : Old Z n0 h0) (SB : Sb Z h0 b d N bs) : Mt l Z M_aln [] n0 #[(.ref b)] h0 (fun v h => v = some (.int (Int32.ofNat bs.length)) ∧ h0 = h) :=
  mt_of_kw (P := ([], fun _ => False)) pf_aln (fun m => by first | (simp [entryFrame, mkF, argsToLocals, Value.category]; done) | rfl) (kw_aln l Z a0 hw cs hcs SC hEW b d N bs h0 n0 OD SB)
abbrev M_sln : MD := ((⟨"java/lang/StringBuilder", "length", "()I"⟩ : MethodName), jdk_67_method_93_code, 1, (some .int), { frames := 1, cells := 0, slots := 0, locals := 16 })
theorem d_sln_0 : decode jdk_67_method_93_code 0 = .ok (.aload_n 0, 1) := by decide +kernel
theorem d_sln_1 : decode jdk_67_method_93_code 1 = .ok (.invokespecial 343, 3) := by decide +kernel
theorem d_sln_4 : decode jdk_67_method_93_code 4 = .ok (.ireturn, 1) := by decide +kernel
theorem pd_sln : parseMethodDescriptor "()I" = some ⟨[], (some .int)⟩ := by decide +kernel
theorem pf_sln : plainFor (⟨"java/lang/StringBuilder", "length", "()I"⟩ : MethodName) = true := by first | exact plainFor_of_name (by first | (simp [plainName, overriddenIn]; done) | decide +kernel) | decide +kernel
set_option maxRecDepth 65536 in
set_option maxHeartbeats 40000000 in
theorem kw_sln (l : Launch) (Z : State) (a0 : Array Value) (hw : ∀ d ∈ tables_1, d.before a0 Z = true) (cs : Int32) (hcs : ¬ cs = 0) (SC : Sta Z Z.heap "java/lang/String" "COMPACT_STRINGS" "Z" (.int cs)) (hEW : EW Z a0 EL) (b d : Addr) (N : Nat) (bs : List Int32) (h0 : Heap) (n0 : Nat) (OD : Old Z n0 h0) (SB : Sb Z h0 b d N bs) : KW false l Z M_sln n0 (fun v h => v = some (.int (Int32.ofNat bs.length)) ∧ h0 = h) ([], fun _ => False) h0 0 0 0 #[.val (.ref b)] [] := by
  obtain ⟨ckB, zs, EB, VB, CB, NB, AB, hN, hN2⟩ := id SB
  refine k_aloadN d_sln_0 rfl rfl rfl ?_
  refine k_callSuper (argsL := []) (rest := []) (W0 := 0) d_sln_1 rfl (mt_aln l Z a0 hw cs hcs SC hEW b d N bs h0 n0 OD SB) Kp.strict EB (hw _ (List.mem_of_getElem? (i := 192) rfl)) (hw _ (List.mem_of_getElem? (i := 187) rfl)) (hw _ (List.mem_of_getElem? (i := 127) rfl)) rfl (hw _ (List.mem_of_getElem? (i := 188) rfl)) (hw _ (List.mem_of_getElem? (i := 120) rfl)) (hw _ (List.mem_of_getElem? (i := 193) rfl)) (hw _ (List.mem_of_getElem? (i := 43) rfl)) (by decide) (by decide) pd_aln rfl rfl rfl rfl (by decide) (by decide) (by decide) (by decide) ?_
  rintro _ _ - ⟨rfl, rfl⟩
  refine KW.any (P' := ([], fun _ => False)) ?_
  show KW false l Z M_sln n0 (fun v h => v = some (.int (Int32.ofNat bs.length)) ∧ h0 = h) ([], fun _ => False) h0 0 0 4 #[.val (.ref b)] [(.int (Int32.ofNat bs.length))]
  exact k_retInt d_sln_4 rfl (by decide) (by decide) ⟨rfl, rfl⟩
theorem mt_sln (l : Launch) (Z : State) (a0 : Array Value) (hw : ∀ d ∈ tables_1, d.before a0 Z = true) (cs : Int32) (hcs : ¬ cs = 0) (SC : Sta Z Z.heap "java/lang/String" "COMPACT_STRINGS" "Z" (.int cs)) (hEW : EW Z a0 EL) (b d : Addr) (N : Nat) (bs : List Int32) (h0 : Heap) (n0 : Nat) (OD : Old Z n0 h0) (SB : Sb Z h0 b d N bs) : Mt l Z M_sln [] n0 #[(.ref b)] h0 (fun v h => v = some (.int (Int32.ofNat bs.length)) ∧ h0 = h) :=
  mt_of_kw (P := ([], fun _ => False)) pf_sln (fun m => by first | (simp [entryFrame, mkF, argsToLocals, Value.category]; done) | rfl) (kw_sln l Z a0 hw cs hcs SC hEW b d N bs h0 n0 OD SB)
abbrev M_inf : MD := ((⟨"java/lang/AbstractStringBuilder", "inflateIfNeededFor", "(Ljava/lang/String;)V"⟩ : MethodName), jdk_68_method_71_code, 2, none, { frames := 1, cells := 0, slots := 0, locals := 16 })
theorem d_inf_0 : decode jdk_68_method_71_code 0 = .ok (.getstatic 18, 3) := by decide +kernel
theorem d_inf_3 : decode jdk_68_method_71_code 3 = .ok (.ifCond .eq 18, 3) := by decide +kernel
theorem d_inf_6 : decode jdk_68_method_71_code 6 = .ok (.aload_n 0, 1) := by decide +kernel
theorem d_inf_7 : decode jdk_68_method_71_code 7 = .ok (.getfield 22, 3) := by decide +kernel
theorem d_inf_10 : decode jdk_68_method_71_code 10 = .ok (.aload_n 1, 1) := by decide +kernel
theorem d_inf_11 : decode jdk_68_method_71_code 11 = .ok (.invokevirtual 40, 3) := by decide +kernel
theorem d_inf_14 : decode jdk_68_method_71_code 14 = .ok (.if_icmp .eq 7, 3) := by decide +kernel
theorem d_inf_17 : decode jdk_68_method_71_code 17 = .ok (.aload_n 0, 1) := by decide +kernel
theorem d_inf_18 : decode jdk_68_method_71_code 18 = .ok (.invokevirtual 195, 3) := by decide +kernel
theorem d_inf_21 : decode jdk_68_method_71_code 21 = .ok (.return_, 1) := by decide +kernel
theorem pd_inf : parseMethodDescriptor "(Ljava/lang/String;)V" = some ⟨[(.object "java/lang/String")], none⟩ := by decide +kernel
theorem pf_inf : plainFor (⟨"java/lang/AbstractStringBuilder", "inflateIfNeededFor", "(Ljava/lang/String;)V"⟩ : MethodName) = true := by first | exact plainFor_of_name (by first | (simp [plainName, overriddenIn]; done) | decide +kernel) | decide +kernel
set_option maxRecDepth 65536 in
set_option maxHeartbeats 40000000 in
theorem kw_inf (l : Launch) (Z : State) (a0 : Array Value) (hw : ∀ d ∈ tables_1, d.before a0 Z = true) (cs : Int32) (hcs : ¬ cs = 0) (SC : Sta Z Z.heap "java/lang/String" "COMPACT_STRINGS" "Z" (.int cs)) (hEW : EW Z a0 EL) (b s t : Addr) (xs : List Int32) (h0 : Heap) (n0 : Nat) (OD : Old Z n0 h0) (CB : Fld Z h0 b "java/lang/AbstractStringBuilder" "coder" "B" (.int 0)) (SA : Sg Z h0 s t xs) : KW false l Z M_inf n0 (fun v h => v = none ∧ h0 = h) ([], fun _ => False) h0 0 0 0 #[.val (.ref b), .val (.ref s)] [] := by
  refine k_getStatic d_inf_0 rfl (hw _ (List.mem_of_getElem? (i := 46) rfl)) (Sta.ext OD.2 SC) ?_
  refine k_ifc (pc1 := 21) (pc' := 6) d_inf_3 (by decide) (by decide) rfl (fun (cd1 : cs = (0 : Int32)) => False.elim (by exact hcs cd1)) (fun (cd1 : ¬ cs = (0 : Int32)) => ?_)
  refine k_aloadN d_inf_6 rfl rfl rfl ?_
  refine k_getField d_inf_7 rfl (hw _ (List.mem_of_getElem? (i := 49) rfl)) Via.refl CB ?_
  refine k_aloadN d_inf_10 rfl rfl rfl ?_
  refine k_callVirtual (argsL := []) (rest := [(.int (0 : Int32))]) (W0 := 1) d_inf_11 rfl (mt_cdr l Z a0 hw cs hcs SC hEW s t xs h0 n0 OD SA) Kp.strict SA.exa (hw _ (List.mem_of_getElem? (i := 107) rfl)) (hw _ (List.mem_of_getElem? (i := 102) rfl)) (hw _ (List.mem_of_getElem? (i := 104) rfl)) (hw _ (List.mem_of_getElem? (i := 99) rfl)) rfl (hw _ (List.mem_of_getElem? (i := 103) rfl)) (hw _ (List.mem_of_getElem? (i := 105) rfl)) (hw _ (List.mem_of_getElem? (i := 5) rfl)) (by decide) pd_cdr rfl rfl rfl rfl (by decide) (by decide) (by decide) (by decide) ?_
  rintro _ _ - ⟨rfl, rfl⟩
  refine KW.any (P' := ([], fun _ => False)) ?_
  show KW false l Z M_inf n0 (fun v h => v = none ∧ h0 = h) ([], fun _ => False) h0 0 0 14 #[.val (.ref b), .val (.ref s)] [(.int (0 : Int32)), (.int (0 : Int32))]
  refine k_icmp (pc1 := 21) (pc' := 17) d_inf_14 (by decide) (by decide) rfl (fun (cd2 : (0 : Int32) = (0 : Int32)) => ?_) (fun (cd2 : ¬ (0 : Int32) = (0 : Int32)) => False.elim (by exact absurd cd2 (by decide)))
  exact k_retVoid d_inf_21 rfl (by decide) (by decide) ⟨rfl, rfl⟩
theorem mt_inf (l : Launch) (Z : State) (a0 : Array Value) (hw : ∀ d ∈ tables_1, d.before a0 Z = true) (cs : Int32) (hcs : ¬ cs = 0) (SC : Sta Z Z.heap "java/lang/String" "COMPACT_STRINGS" "Z" (.int cs)) (hEW : EW Z a0 EL) (b s t : Addr) (xs : List Int32) (h0 : Heap) (n0 : Nat) (OD : Old Z n0 h0) (CB : Fld Z h0 b "java/lang/AbstractStringBuilder" "coder" "B" (.int 0)) (SA : Sg Z h0 s t xs) : Mt l Z M_inf [] n0 #[(.ref b), (.ref s)] h0 (fun v h => v = none ∧ h0 = h) :=
  mt_of_kw (P := ([], fun _ => False)) pf_inf (fun m => by first | (simp [entryFrame, mkF, argsToLocals, Value.category]; done) | rfl) (kw_inf l Z a0 hw cs hcs SC hEW b s t xs h0 n0 OD CB SA)
abbrev M_gby : MD := ((⟨"java/lang/String", "getBytes", "([BIB)V"⟩ : MethodName), jdk_42_method_147_code, 4, none, { frames := 1, cells := 0, slots := 0, locals := 48 })
theorem d_gby_0 : decode jdk_42_method_147_code 0 = .ok (.aload_n 0, 1) := by decide +kernel
theorem d_gby_1 : decode jdk_42_method_147_code 1 = .ok (.invokevirtual 335, 3) := by decide +kernel
theorem d_gby_4 : decode jdk_42_method_147_code 4 = .ok (.iload_n 3, 1) := by decide +kernel
theorem d_gby_5 : decode jdk_42_method_147_code 5 = .ok (.if_icmp .ne 23, 3) := by decide +kernel
theorem d_gby_8 : decode jdk_42_method_147_code 8 = .ok (.aload_n 0, 1) := by decide +kernel
theorem d_gby_9 : decode jdk_42_method_147_code 9 = .ok (.getfield 9, 3) := by decide +kernel
theorem d_gby_12 : decode jdk_42_method_147_code 12 = .ok (.iconst 0, 1) := by decide +kernel
theorem d_gby_13 : decode jdk_42_method_147_code 13 = .ok (.aload_n 1, 1) := by decide +kernel
theorem d_gby_14 : decode jdk_42_method_147_code 14 = .ok (.iload_n 2, 1) := by decide +kernel
theorem d_gby_15 : decode jdk_42_method_147_code 15 = .ok (.iload_n 3, 1) := by decide +kernel
theorem d_gby_16 : decode jdk_42_method_147_code 16 = .ok (.ishl, 1) := by decide +kernel
theorem d_gby_17 : decode jdk_42_method_147_code 17 = .ok (.aload_n 0, 1) := by decide +kernel
theorem d_gby_18 : decode jdk_42_method_147_code 18 = .ok (.getfield 9, 3) := by decide +kernel
theorem d_gby_21 : decode jdk_42_method_147_code 21 = .ok (.arraylength, 1) := by decide +kernel
theorem d_gby_22 : decode jdk_42_method_147_code 22 = .ok (.invokestatic 212, 3) := by decide +kernel
theorem d_gby_25 : decode jdk_42_method_147_code 25 = .ok (.goto 18, 3) := by decide +kernel
theorem d_gby_28 : decode jdk_42_method_147_code 28 = .ok (.aload_n 0, 1) := by decide +kernel
theorem d_gby_29 : decode jdk_42_method_147_code 29 = .ok (.getfield 9, 3) := by decide +kernel
theorem d_gby_32 : decode jdk_42_method_147_code 32 = .ok (.iconst 0, 1) := by decide +kernel
theorem d_gby_33 : decode jdk_42_method_147_code 33 = .ok (.aload_n 1, 1) := by decide +kernel
theorem d_gby_34 : decode jdk_42_method_147_code 34 = .ok (.iload_n 2, 1) := by decide +kernel
theorem d_gby_35 : decode jdk_42_method_147_code 35 = .ok (.aload_n 0, 1) := by decide +kernel
theorem d_gby_36 : decode jdk_42_method_147_code 36 = .ok (.getfield 9, 3) := by decide +kernel
theorem d_gby_39 : decode jdk_42_method_147_code 39 = .ok (.arraylength, 1) := by decide +kernel
theorem d_gby_40 : decode jdk_42_method_147_code 40 = .ok (.invokestatic 106, 3) := by decide +kernel
theorem d_gby_43 : decode jdk_42_method_147_code 43 = .ok (.return_, 1) := by decide +kernel
theorem pd_gby : parseMethodDescriptor "([BIB)V" = some ⟨[(.array .byte), .int, .byte], none⟩ := by decide +kernel
theorem pf_gby : plainFor (⟨"java/lang/String", "getBytes", "([BIB)V"⟩ : MethodName) = true := by first | exact plainFor_of_name (by first | (simp [plainName, overriddenIn]; done) | decide +kernel) | decide +kernel
set_option maxRecDepth 65536 in
set_option maxHeartbeats 40000000 in
theorem kw_gby (l : Launch) (Z : State) (a0 : Array Value) (hw : ∀ d ∈ tables_1, d.before a0 Z = true) (cs : Int32) (hcs : ¬ cs = 0) (SC : Sta Z Z.heap "java/lang/String" "COMPACT_STRINGS" "Z" (.int cs)) (hEW : EW Z a0 EL) (a t d : Addr) (ck : ClassId) (bs ys : List Int32) (pos : Nat) (h0 : Heap) (n0 : Nat) (OD : Old Z n0 h0) (SA : Sg Z h0 a t bs) (D : Arv Z h0 d ck .byte (Int32.ofNat ys.length) (ys.map Value.int) (.int 0)) (hy : ys.length < 2147483648) (hfit : pos + bs.length ≤ ys.length) (gd : n0 ≤ d) : KW false l Z M_gby n0 (fun v h => v = none ∧ Keep h0 h [d] ∧ Arv Z h d ck .byte (Int32.ofNat ys.length) ((laid bs ys 0 pos bs.length).map Value.int) (.int 0)) ([], fun _ => False) h0 0 0 0 #[.val (.ref a), .val (.ref d), .val (.int (Int32.ofNat pos)), .val (.int (0 : Int32))] [] := by
  obtain ⟨ckA, EA, CA, VA, AA, lA⟩ := id SA
  refine k_aloadN d_gby_0 rfl rfl rfl ?_
  refine k_callVirtual (argsL := []) (rest := []) (W0 := 0) d_gby_1 rfl (mt_cdr l Z a0 hw cs hcs SC hEW a t bs h0 n0 OD SA) Kp.strict EA (hw _ (List.mem_of_getElem? (i := 101) rfl)) (hw _ (List.mem_of_getElem? (i := 102) rfl)) (hw _ (List.mem_of_getElem? (i := 104) rfl)) (hw _ (List.mem_of_getElem? (i := 99) rfl)) rfl (hw _ (List.mem_of_getElem? (i := 103) rfl)) (hw _ (List.mem_of_getElem? (i := 105) rfl)) (hw _ (List.mem_of_getElem? (i := 5) rfl)) (by decide) pd_cdr rfl rfl rfl rfl (by decide) (by decide) (by decide) (by decide) ?_
  rintro _ _ - ⟨rfl, rfl⟩
  refine KW.any (P' := ([], fun _ => False)) ?_
  show KW false l Z M_gby n0 (fun v h => v = none ∧ Keep h0 h [d] ∧ Arv Z h d ck .byte (Int32.ofNat ys.length) ((laid bs ys 0 pos bs.length).map Value.int) (.int 0)) ([], fun _ => False) h0 0 0 4 #[.val (.ref a), .val (.ref d), .val (.int (Int32.ofNat pos)), .val (.int (0 : Int32))] [(.int (0 : Int32))]
  refine k_iloadN d_gby_4 rfl rfl ?_
  refine k_icmp (pc1 := 28) (pc' := 8) d_gby_5 (by decide) (by decide) rfl (fun (cd1 : ¬ (0 : Int32) = (0 : Int32)) => False.elim (by exact absurd cd1 (by decide))) (fun (cd1 : (0 : Int32) = (0 : Int32)) => ?_)
  refine k_aloadN d_gby_8 rfl rfl rfl ?_
  refine k_getField d_gby_9 rfl (hw _ (List.mem_of_getElem? (i := 25) rfl)) Via.refl VA ?_
  refine k_iconst (z := (0 : Int32)) d_gby_12 rfl (by decide) ?_
  refine k_aloadN d_gby_13 rfl rfl rfl ?_
  refine k_iloadN d_gby_14 rfl rfl ?_
  refine k_iloadN d_gby_15 rfl rfl ?_
  refine k_ishl d_gby_16 rfl ?_
  refine KW.top (congrArg Value.int (shl0 _)) ?_
  show KW false l Z M_gby n0 (fun v h => v = none ∧ Keep h0 h [d] ∧ Arv Z h d ck .byte (Int32.ofNat ys.length) ((laid bs ys 0 pos bs.length).map Value.int) (.int 0)) ([], fun _ => False) h0 0 0 17 #[.val (.ref a), .val (.ref d), .val (.int (Int32.ofNat pos)), .val (.int (0 : Int32))] [(.int (Int32.ofNat pos)), (.ref d), (.int (0 : Int32)), (.ref t)]
  refine k_aloadN d_gby_17 rfl rfl rfl ?_
  refine k_getField d_gby_18 rfl (hw _ (List.mem_of_getElem? (i := 25) rfl)) Via.refl VA ?_
  refine k_arrlen d_gby_21 rfl AA ?_
  refine k_acopy (o := 0) (q := pos) (m' := bs.length) (W0 := 0) d_gby_22 rfl (hw _ (List.mem_of_getElem? (i := 144) rfl)) (hw _ (List.mem_of_getElem? (i := 147) rfl)) (hw _ (List.mem_of_getElem? (i := 145) rfl)) (hw _ (List.mem_of_getElem? (i := 146) rfl)) lA hy AA D (by omega) hfit gd (fun q => by cases q) rfl rfl (by decide) (by decide) ?_
  intro hN K V
  refine KW.any (P' := ([], fun _ => False)) ?_
  show KW false l Z M_gby n0 (fun v h => v = none ∧ Keep h0 h [d] ∧ Arv Z h d ck .byte (Int32.ofNat ys.length) ((laid bs ys 0 pos bs.length).map Value.int) (.int 0)) ([], fun _ => False) hN 0 0 25 #[.val (.ref a), .val (.ref d), .val (.int (Int32.ofNat pos)), .val (.int (0 : Int32))] []
  refine k_goto (pc' := 43) d_gby_25 (by decide) (by decide) ?_
  exact k_retVoid d_gby_43 rfl (by decide) (by decide) ⟨rfl, K, V⟩
theorem mt_gby (l : Launch) (Z : State) (a0 : Array Value) (hw : ∀ d ∈ tables_1, d.before a0 Z = true) (cs : Int32) (hcs : ¬ cs = 0) (SC : Sta Z Z.heap "java/lang/String" "COMPACT_STRINGS" "Z" (.int cs)) (hEW : EW Z a0 EL) (a t d : Addr) (ck : ClassId) (bs ys : List Int32) (pos : Nat) (h0 : Heap) (n0 : Nat) (OD : Old Z n0 h0) (SA : Sg Z h0 a t bs) (D : Arv Z h0 d ck .byte (Int32.ofNat ys.length) (ys.map Value.int) (.int 0)) (hy : ys.length < 2147483648) (hfit : pos + bs.length ≤ ys.length) (gd : n0 ≤ d) : Mt l Z M_gby [] n0 #[(.ref a), (.ref d), (.int (Int32.ofNat pos)), (.int (0 : Int32))] h0 (fun v h => v = none ∧ Keep h0 h [d] ∧ Arv Z h d ck .byte (Int32.ofNat ys.length) ((laid bs ys 0 pos bs.length).map Value.int) (.int 0)) :=
  mt_of_kw (P := ([], fun _ => False)) pf_gby (fun m => by first | (simp [entryFrame, mkF, argsToLocals, Value.category]; done) | rfl) (kw_gby l Z a0 hw cs hcs SC hEW a t d ck bs ys pos h0 n0 OD SA D hy hfit gd)
abbrev M_psa : MD := ((⟨"java/lang/AbstractStringBuilder", "putStringAt", "(ILjava/lang/String;)V"⟩ : MethodName), jdk_68_method_73_code, 3, none, { frames := 2, cells := 0, slots := 0, locals := 64 })
theorem d_psa_0 : decode jdk_68_method_73_code 0 = .ok (.aload_n 0, 1) := by decide +kernel
theorem d_psa_1 : decode jdk_68_method_73_code 1 = .ok (.aload_n 2, 1) := by decide +kernel
theorem d_psa_2 : decode jdk_68_method_73_code 2 = .ok (.invokevirtual 397, 3) := by decide +kernel
theorem d_psa_5 : decode jdk_68_method_73_code 5 = .ok (.aload_n 2, 1) := by decide +kernel
theorem d_psa_6 : decode jdk_68_method_73_code 6 = .ok (.aload_n 0, 1) := by decide +kernel
theorem d_psa_7 : decode jdk_68_method_73_code 7 = .ok (.getfield 15, 3) := by decide +kernel
theorem d_psa_10 : decode jdk_68_method_73_code 10 = .ok (.iload_n 1, 1) := by decide +kernel
theorem d_psa_11 : decode jdk_68_method_73_code 11 = .ok (.aload_n 0, 1) := by decide +kernel
theorem d_psa_12 : decode jdk_68_method_73_code 12 = .ok (.getfield 22, 3) := by decide +kernel
theorem d_psa_15 : decode jdk_68_method_73_code 15 = .ok (.invokevirtual 399, 3) := by decide +kernel
theorem d_psa_18 : decode jdk_68_method_73_code 18 = .ok (.return_, 1) := by decide +kernel
theorem pd_psa : parseMethodDescriptor "(ILjava/lang/String;)V" = some ⟨[.int, (.object "java/lang/String")], none⟩ := by decide +kernel
theorem pf_psa : plainFor (⟨"java/lang/AbstractStringBuilder", "putStringAt", "(ILjava/lang/String;)V"⟩ : MethodName) = true := by first | exact plainFor_of_name (by first | (simp [plainName, overriddenIn]; done) | decide +kernel) | decide +kernel
set_option maxRecDepth 65536 in
set_option maxHeartbeats 40000000 in
theorem kw_psa (l : Launch) (Z : State) (a0 : Array Value) (hw : ∀ d ∈ tables_1, d.before a0 Z = true) (cs : Int32) (hcs : ¬ cs = 0) (SC : Sta Z Z.heap "java/lang/String" "COMPACT_STRINGS" "Z" (.int cs)) (hEW : EW Z a0 EL) (b d s t : Addr) (ckB : ClassId) (N : Nat) (bs zs xs : List Int32) (h0 : Heap) (n0 : Nat) (OD : Old Z n0 h0) (EB : Exa Z h0 b "java/lang/StringBuilder") (VB : Fld Z h0 b "java/lang/AbstractStringBuilder" "value" "[B" (.ref d)) (CB : Fld Z h0 b "java/lang/AbstractStringBuilder" "coder" "B" (.int 0)) (AB : Arv Z h0 d ckB .byte (Int32.ofNat N) ((bs ++ zs).map Value.int) (.int 0)) (hN : (bs ++ zs).length = N) (hN2 : N < 2147483648) (SA : Sg Z h0 s t xs) (hfit : xs.length ≤ zs.length) (gd : n0 ≤ d) : KW false l Z M_psa n0 (fun v h => v = none ∧ Keep h0 h [d] ∧ Arv Z h d ckB .byte (Int32.ofNat N) (((bs ++ xs) ++ zs.drop xs.length).map Value.int) (.int 0)) ([], fun _ => False) h0 0 0 0 #[.val (.ref b), .val (.int (Int32.ofNat bs.length)), .val (.ref s)] [] := by
  refine k_aloadN d_psa_0 rfl rfl rfl ?_
  refine k_aloadN d_psa_1 rfl rfl rfl ?_
  refine k_callVirtual (argsL := [(.ref s)]) (rest := []) (W0 := 0) d_psa_2 rfl (mt_inf l Z a0 hw cs hcs SC hEW b s t xs h0 n0 OD CB SA) Kp.strict EB (hw _ (List.mem_of_getElem? (i := 134) rfl)) (own_decl (hw _ (List.mem_of_getElem? (i := 135) rfl)) (hw _ (List.mem_of_getElem? (i := 138) rfl))) (hw _ (List.mem_of_getElem? (i := 137) rfl)) (hw _ (List.mem_of_getElem? (i := 127) rfl)) rfl (hw _ (List.mem_of_getElem? (i := 135) rfl)) (hw _ (List.mem_of_getElem? (i := 138) rfl)) (hw _ (List.mem_of_getElem? (i := 43) rfl)) (by decide) pd_inf rfl rfl rfl rfl (by decide) (by decide) (by decide) (by decide) ?_
  rintro _ _ - ⟨rfl, rfl⟩
  refine KW.any (P' := ([], fun _ => False)) ?_
  show KW false l Z M_psa n0 (fun v h => v = none ∧ Keep h0 h [d] ∧ Arv Z h d ckB .byte (Int32.ofNat N) (((bs ++ xs) ++ zs.drop xs.length).map Value.int) (.int 0)) ([], fun _ => False) h0 0 0 5 #[.val (.ref b), .val (.int (Int32.ofNat bs.length)), .val (.ref s)] []
  refine k_aloadN d_psa_5 rfl rfl rfl ?_
  refine k_aloadN d_psa_6 rfl rfl rfl ?_
  refine k_getField d_psa_7 rfl (hw _ (List.mem_of_getElem? (i := 47) rfl)) Via.refl VB ?_
  refine k_iloadN d_psa_10 rfl rfl ?_
  refine k_aloadN d_psa_11 rfl rfl rfl ?_
  refine k_getField d_psa_12 rfl (hw _ (List.mem_of_getElem? (i := 49) rfl)) Via.refl CB ?_
  refine k_callVirtual (argsL := [(.ref d), (.int (Int32.ofNat bs.length)), (.int (0 : Int32))]) (rest := []) (W0 := 0) d_psa_15 rfl (mt_gby l Z a0 hw cs hcs SC hEW s t d ckB xs (bs ++ zs) bs.length h0 n0 OD SA (by rw [hN]; exact AB) (by omega) (by rw [List.length_append]; omega) gd) Kp.strict SA.exa (hw _ (List.mem_of_getElem? (i := 139) rfl)) (hw _ (List.mem_of_getElem? (i := 140) rfl)) (hw _ (List.mem_of_getElem? (i := 142) rfl)) (hw _ (List.mem_of_getElem? (i := 99) rfl)) rfl (hw _ (List.mem_of_getElem? (i := 141) rfl)) (hw _ (List.mem_of_getElem? (i := 143) rfl)) (hw _ (List.mem_of_getElem? (i := 5) rfl)) (by decide) pd_gby rfl rfl rfl rfl (by decide) (by decide) (by decide) (by decide) ?_
  rintro _ hM - ⟨rfl, K, V⟩
  rw [hN, laid_app xs bs zs hfit] at V
  refine KW.any (P' := ([], fun _ => False)) ?_
  show KW false l Z M_psa n0 (fun v h => v = none ∧ Keep h0 h [d] ∧ Arv Z h d ckB .byte (Int32.ofNat N) (((bs ++ xs) ++ zs.drop xs.length).map Value.int) (.int 0)) ([], fun _ => False) hM 0 0 18 #[.val (.ref b), .val (.int (Int32.ofNat bs.length)), .val (.ref s)] []
  exact k_retVoid d_psa_18 rfl (by decide) (by decide) ⟨rfl, K, V⟩
theorem mt_psa (l : Launch) (Z : State) (a0 : Array Value) (hw : ∀ d ∈ tables_1, d.before a0 Z = true) (cs : Int32) (hcs : ¬ cs = 0) (SC : Sta Z Z.heap "java/lang/String" "COMPACT_STRINGS" "Z" (.int cs)) (hEW : EW Z a0 EL) (b d s t : Addr) (ckB : ClassId) (N : Nat) (bs zs xs : List Int32) (h0 : Heap) (n0 : Nat) (OD : Old Z n0 h0) (EB : Exa Z h0 b "java/lang/StringBuilder") (VB : Fld Z h0 b "java/lang/AbstractStringBuilder" "value" "[B" (.ref d)) (CB : Fld Z h0 b "java/lang/AbstractStringBuilder" "coder" "B" (.int 0)) (AB : Arv Z h0 d ckB .byte (Int32.ofNat N) ((bs ++ zs).map Value.int) (.int 0)) (hN : (bs ++ zs).length = N) (hN2 : N < 2147483648) (SA : Sg Z h0 s t xs) (hfit : xs.length ≤ zs.length) (gd : n0 ≤ d) : Mt l Z M_psa [] n0 #[(.ref b), (.int (Int32.ofNat bs.length)), (.ref s)] h0 (fun v h => v = none ∧ Keep h0 h [d] ∧ Arv Z h d ckB .byte (Int32.ofNat N) (((bs ++ xs) ++ zs.drop xs.length).map Value.int) (.int 0)) :=
  mt_of_kw (P := ([], fun _ => False)) pf_psa (fun m => by first | (simp [entryFrame, mkF, argsToLocals, Value.category]; done) | rfl) (kw_psa l Z a0 hw cs hcs SC hEW b d s t ckB N bs zs xs h0 n0 OD EB VB CB AB hN hN2 SA hfit gd)
def minI (a b : Int32) : Int32 := if b < a then b else a
theorem sub0 (z : Int32) : z - (0 : Int32) = z := by
  have h := c_isub z 0; have h1 := rng32 (z - 0); have h2 := rng32 z
  refine Int32.toInt_inj.mp ?_
  rw [show (0 : Int32).toInt = 0 from rfl] at h; omega
theorem minI_n {n N : Nat} (hN : N < 2147483648) (h : n ≤ N) : minI (Int32.ofNat N) (Int32.ofNat n) = Int32.ofNat n := by
  unfold minI; split
  · rfl
  · rename_i q
    have : ¬ n < N := fun r => q (ix_lt hN r)
    rw [show N = n by omega]
theorem laid_take (xs : List Int32) (n : Nat) (h : n ≤ xs.length) : laid xs (List.replicate n 0) 0 0 n = xs.take n := by
  unfold laid; simp
abbrev M_mnm : MD := ((⟨"java/lang/Math", "min", "(II)I"⟩ : MethodName), jdk_29_method_69_code, 2, (some .int), { frames := 0, cells := 0, slots := 0, locals := 0 })
theorem d_mnm_0 : decode jdk_29_method_69_code 0 = .ok (.iload_n 0, 1) := by decide +kernel
theorem d_mnm_1 : decode jdk_29_method_69_code 1 = .ok (.iload_n 1, 1) := by decide +kernel
theorem d_mnm_2 : decode jdk_29_method_69_code 2 = .ok (.if_icmp .gt 7, 3) := by decide +kernel
theorem d_mnm_5 : decode jdk_29_method_69_code 5 = .ok (.iload_n 0, 1) := by decide +kernel
theorem d_mnm_6 : decode jdk_29_method_69_code 6 = .ok (.goto 4, 3) := by decide +kernel
theorem d_mnm_9 : decode jdk_29_method_69_code 9 = .ok (.iload_n 1, 1) := by decide +kernel
theorem d_mnm_10 : decode jdk_29_method_69_code 10 = .ok (.ireturn, 1) := by decide +kernel
theorem pd_mnm : parseMethodDescriptor "(II)I" = some ⟨[.int, .int], (some .int)⟩ := by decide +kernel
theorem pf_mnm : plainFor (⟨"java/lang/Math", "min", "(II)I"⟩ : MethodName) = true := by first | exact plainFor_of_name (by first | (simp [plainName, overriddenIn]; done) | decide +kernel) | decide +kernel
set_option maxRecDepth 65536 in
set_option maxHeartbeats 40000000 in
theorem kw_mnm (l : Launch) (Z : State) (a0 : Array Value) (hw : ∀ d ∈ tables_1, d.before a0 Z = true) (cs : Int32) (hcs : ¬ cs = 0) (SC : Sta Z Z.heap "java/lang/String" "COMPACT_STRINGS" "Z" (.int cs)) (hEW : EW Z a0 EL) (x y : Int32) (h0 : Heap) (n0 : Nat) : KW false l Z M_mnm n0 (fun v h => v = some (.int (minI x y)) ∧ h0 = h) ([], fun _ => False) h0 0 0 0 #[.val (.int x), .val (.int y)] [] := by
  refine k_iloadN d_mnm_0 rfl rfl ?_
  refine k_iloadN d_mnm_1 rfl rfl ?_
  refine k_icmp (pc1 := 9) (pc' := 5) d_mnm_2 (by decide) (by decide) rfl (fun (cd1 : y < x) => ?_) (fun (cd1 : ¬ y < x) => ?_)
  · skip
    refine k_iloadN d_mnm_9 rfl rfl ?_
    exact k_retInt d_mnm_10 rfl (by decide) (by decide) ⟨by unfold minI; repeat (first | rfl | contradiction | split), rfl⟩
  · skip
    refine k_iloadN d_mnm_5 rfl rfl ?_
    refine k_goto (pc' := 10) d_mnm_6 (by decide) (by decide) ?_
    exact k_retInt d_mnm_10 rfl (by decide) (by decide) ⟨by unfold minI; repeat (first | rfl | contradiction | split), rfl⟩
theorem mt_mnm (l : Launch) (Z : State) (a0 : Array Value) (hw : ∀ d ∈ tables_1, d.before a0 Z = true) (cs : Int32) (hcs : ¬ cs = 0) (SC : Sta Z Z.heap "java/lang/String" "COMPACT_STRINGS" "Z" (.int cs)) (hEW : EW Z a0 EL) (x y : Int32) (h0 : Heap) (n0 : Nat) : Mt l Z M_mnm [] n0 #[(.int x), (.int y)] h0 (fun v h => v = some (.int (minI x y)) ∧ h0 = h) :=
  mt_of_kw (P := ([], fun _ => False)) pf_mnm (fun m => by first | (simp [entryFrame, mkF, argsToLocals, Value.category]; done) | rfl) (kw_mnm l Z a0 hw cs hcs SC hEW x y h0 n0)
abbrev M_chk : MD := ((⟨"java/util/Arrays", "checkLength", "(II)V"⟩ : MethodName), jdk_65_method_131_code, 2, none, { frames := 0, cells := 0, slots := 0, locals := 0 })
theorem d_chk_0 : decode jdk_65_method_131_code 0 = .ok (.iload_n 1, 1) := by decide +kernel
theorem d_chk_1 : decode jdk_65_method_131_code 1 = .ok (.iload_n 0, 1) := by decide +kernel
theorem d_chk_2 : decode jdk_65_method_131_code 2 = .ok (.if_icmp .ge 35, 3) := by decide +kernel
theorem d_chk_5 : decode jdk_65_method_131_code 5 = .ok (.new 43, 3) := by decide +kernel
theorem d_chk_8 : decode jdk_65_method_131_code 8 = .ok (.dup, 1) := by decide +kernel
theorem d_chk_9 : decode jdk_65_method_131_code 9 = .ok (.new 45, 3) := by decide +kernel
theorem d_chk_12 : decode jdk_65_method_131_code 12 = .ok (.dup, 1) := by decide +kernel
theorem d_chk_13 : decode jdk_65_method_131_code 13 = .ok (.invokespecial 47, 3) := by decide +kernel
theorem d_chk_16 : decode jdk_65_method_131_code 16 = .ok (.iload_n 0, 1) := by decide +kernel
theorem d_chk_17 : decode jdk_65_method_131_code 17 = .ok (.invokevirtual 54, 3) := by decide +kernel
theorem d_chk_20 : decode jdk_65_method_131_code 20 = .ok (.ldc_w 337, 3) := by decide +kernel
theorem d_chk_23 : decode jdk_65_method_131_code 23 = .ok (.invokevirtual 50, 3) := by decide +kernel
theorem d_chk_26 : decode jdk_65_method_131_code 26 = .ok (.iload_n 1, 1) := by decide +kernel
theorem d_chk_27 : decode jdk_65_method_131_code 27 = .ok (.invokevirtual 54, 3) := by decide +kernel
theorem d_chk_30 : decode jdk_65_method_131_code 30 = .ok (.invokevirtual 61, 3) := by decide +kernel
theorem d_chk_33 : decode jdk_65_method_131_code 33 = .ok (.invokespecial 65, 3) := by decide +kernel
theorem d_chk_36 : decode jdk_65_method_131_code 36 = .ok (.athrow, 1) := by decide +kernel
theorem d_chk_37 : decode jdk_65_method_131_code 37 = .ok (.return_, 1) := by decide +kernel
theorem pd_chk : parseMethodDescriptor "(II)V" = some ⟨[.int, .int], none⟩ := by decide +kernel
theorem pf_chk : plainFor (⟨"java/util/Arrays", "checkLength", "(II)V"⟩ : MethodName) = true := by first | exact plainFor_of_name (by first | (simp [plainName, overriddenIn]; done) | decide +kernel) | decide +kernel
set_option maxRecDepth 65536 in
set_option maxHeartbeats 40000000 in
theorem kw_chk (l : Launch) (Z : State) (a0 : Array Value) (hw : ∀ d ∈ tables_1, d.before a0 Z = true) (cs : Int32) (hcs : ¬ cs = 0) (SC : Sta Z Z.heap "java/lang/String" "COMPACT_STRINGS" "Z" (.int cs)) (hEW : EW Z a0 EL) (n : Nat) (hn : n < 2147483648) (h0 : Heap) (n0 : Nat) : KW false l Z M_chk n0 (fun v h => v = none ∧ h0 = h) ([], fun _ => False) h0 0 0 0 #[.val (.int (0 : Int32)), .val (.int (Int32.ofNat n))] [] := by
  refine k_iloadN d_chk_0 rfl rfl ?_
  refine k_iloadN d_chk_1 rfl rfl ?_
  refine k_icmp (pc1 := 37) (pc' := 5) d_chk_2 (by decide) (by decide) rfl (fun (cd1 : ¬ (Int32.ofNat n) < (0 : Int32)) => ?_) (fun (cd1 : (Int32.ofNat n) < (0 : Int32)) => False.elim (by exact ix_nn hn cd1))
  exact k_retVoid d_chk_37 rfl (by decide) (by decide) ⟨rfl, rfl⟩
theorem mt_chk (l : Launch) (Z : State) (a0 : Array Value) (hw : ∀ d ∈ tables_1, d.before a0 Z = true) (cs : Int32) (hcs : ¬ cs = 0) (SC : Sta Z Z.heap "java/lang/String" "COMPACT_STRINGS" "Z" (.int cs)) (hEW : EW Z a0 EL) (n : Nat) (hn : n < 2147483648) (h0 : Heap) (n0 : Nat) : Mt l Z M_chk [] n0 #[(.int (0 : Int32)), (.int (Int32.ofNat n))] h0 (fun v h => v = none ∧ h0 = h) :=
  mt_of_kw (P := ([], fun _ => False)) pf_chk (fun m => by first | (simp [entryFrame, mkF, argsToLocals, Value.category]; done) | rfl) (kw_chk l Z a0 hw cs hcs SC hEW n hn h0 n0)
abbrev M_cob : MD := ((⟨"java/util/Arrays", "copyOfRangeByte", "([BII)[B"⟩ : MethodName), jdk_65_method_133_code, 5, (some (.array .byte)), { frames := 1, cells := 1, slots := 112, locals := 48 })
theorem d_cob_0 : decode jdk_65_method_133_code 0 = .ok (.iload_n 1, 1) := by decide +kernel
theorem d_cob_1 : decode jdk_65_method_133_code 1 = .ok (.iload_n 2, 1) := by decide +kernel
theorem d_cob_2 : decode jdk_65_method_133_code 2 = .ok (.invokestatic 343, 3) := by decide +kernel
theorem d_cob_5 : decode jdk_65_method_133_code 5 = .ok (.iload_n 2, 1) := by decide +kernel
theorem d_cob_6 : decode jdk_65_method_133_code 6 = .ok (.iload_n 1, 1) := by decide +kernel
theorem d_cob_7 : decode jdk_65_method_133_code 7 = .ok (.isub, 1) := by decide +kernel
theorem d_cob_8 : decode jdk_65_method_133_code 8 = .ok (.istore_n 3, 1) := by decide +kernel
theorem d_cob_9 : decode jdk_65_method_133_code 9 = .ok (.iload_n 3, 1) := by decide +kernel
theorem d_cob_10 : decode jdk_65_method_133_code 10 = .ok (.newarray .byte, 2) := by decide +kernel
theorem d_cob_12 : decode jdk_65_method_133_code 12 = .ok (.astore 4, 2) := by decide +kernel
theorem d_cob_14 : decode jdk_65_method_133_code 14 = .ok (.aload_n 0, 1) := by decide +kernel
theorem d_cob_15 : decode jdk_65_method_133_code 15 = .ok (.iload_n 1, 1) := by decide +kernel
theorem d_cob_16 : decode jdk_65_method_133_code 16 = .ok (.aload 4, 2) := by decide +kernel
theorem d_cob_18 : decode jdk_65_method_133_code 18 = .ok (.iconst 0, 1) := by decide +kernel
theorem d_cob_19 : decode jdk_65_method_133_code 19 = .ok (.aload_n 0, 1) := by decide +kernel
theorem d_cob_20 : decode jdk_65_method_133_code 20 = .ok (.arraylength, 1) := by decide +kernel
theorem d_cob_21 : decode jdk_65_method_133_code 21 = .ok (.iload_n 1, 1) := by decide +kernel
theorem d_cob_22 : decode jdk_65_method_133_code 22 = .ok (.isub, 1) := by decide +kernel
theorem d_cob_23 : decode jdk_65_method_133_code 23 = .ok (.iload_n 3, 1) := by decide +kernel
theorem d_cob_24 : decode jdk_65_method_133_code 24 = .ok (.invokestatic 304, 3) := by decide +kernel
theorem d_cob_27 : decode jdk_65_method_133_code 27 = .ok (.invokestatic 150, 3) := by decide +kernel
theorem d_cob_30 : decode jdk_65_method_133_code 30 = .ok (.aload 4, 2) := by decide +kernel
theorem d_cob_32 : decode jdk_65_method_133_code 32 = .ok (.areturn, 1) := by decide +kernel
theorem pd_cob : parseMethodDescriptor "([BII)[B" = some ⟨[(.array .byte), .int, .int], (some (.array .byte))⟩ := by decide +kernel
theorem pf_cob : plainFor (⟨"java/util/Arrays", "copyOfRangeByte", "([BII)[B"⟩ : MethodName) = true := by first | exact plainFor_of_name (by first | (simp [plainName, overriddenIn]; done) | decide +kernel) | decide +kernel
set_option maxRecDepth 65536 in
set_option maxHeartbeats 40000000 in
theorem kw_cob (l : Launch) (Z : State) (a0 : Array Value) (hw : ∀ d ∈ tables_1, d.before a0 Z = true) (cs : Int32) (hcs : ¬ cs = 0) (SC : Sta Z Z.heap "java/lang/String" "COMPACT_STRINGS" "Z" (.int cs)) (hEW : EW Z a0 EL) (d : Addr) (ck : ClassId) (L : List Int32) (n : Nat) (h0 : Heap) (n0 : Nat) (OD : Old Z n0 h0) (D : Arv Z h0 d ck .byte (Int32.ofNat L.length) (L.map Value.int) (.int 0)) (hL : L.length < 2147483648) (hn : n < L.length) (hn2 : n ≤ 112) : KW false l Z M_cob n0 (fun v h => ∃ e ck', v = some (.ref e) ∧ h0.size ≤ e ∧ n0 ≤ e ∧ Keep h0 h [] ∧ Arv Z h e ck' .byte (Int32.ofNat n) ((L.take n).map Value.int) (.int 0)) ([], fun _ => False) h0 0 0 0 #[.val (.ref d), .val (.int (0 : Int32)), .val (.int (Int32.ofNat n)), .unset, .unset] [] := by
  have Z0 := OD.1 ▸ OD.2.1
  have K0 : Keep h0 h0 [] := Keep.refl _ _
  refine k_iloadN d_cob_0 rfl rfl ?_
  refine k_iloadN d_cob_1 rfl rfl ?_
  refine k_callStatic (argsL := [(.int (0 : Int32)), (.int (Int32.ofNat n))]) (rest := []) (W0 := 0) d_cob_2 rfl (mt_chk l Z a0 hw cs hcs SC hEW n (by omega) h0 n0) Kp.strict (hw _ (List.mem_of_getElem? (i := 252) rfl)) (hw _ (List.mem_of_getElem? (i := 253) rfl)) (hw _ (List.mem_of_getElem? (i := 247) rfl)) (hw _ (List.mem_of_getElem? (i := 254) rfl)) (by decide) pd_chk rfl rfl rfl rfl (by decide) (by decide) (by decide) (by decide) ?_
  rintro _ _ - ⟨rfl, rfl⟩
  refine KW.any (P' := ([], fun _ => False)) ?_
  show KW false l Z M_cob n0 (fun v h => ∃ e ck', v = some (.ref e) ∧ h0.size ≤ e ∧ n0 ≤ e ∧ Keep h0 h [] ∧ Arv Z h e ck' .byte (Int32.ofNat n) ((L.take n).map Value.int) (.int 0)) ([], fun _ => False) h0 0 0 5 #[.val (.ref d), .val (.int (0 : Int32)), .val (.int (Int32.ofNat n)), .unset, .unset] []
  refine k_iloadN d_cob_5 rfl rfl ?_
  refine k_iloadN d_cob_6 rfl rfl ?_
  refine k_isub d_cob_7 rfl ?_
  refine KW.top (congrArg Value.int (sub0 _)) ?_
  show KW false l Z M_cob n0 (fun v h => ∃ e ck', v = some (.ref e) ∧ h0.size ≤ e ∧ n0 ≤ e ∧ Keep h0 h [] ∧ Arv Z h e ck' .byte (Int32.ofNat n) ((L.take n).map Value.int) (.int 0)) ([], fun _ => False) h0 0 0 8 #[.val (.ref d), .val (.int (0 : Int32)), .val (.int (Int32.ofNat n)), .unset, .unset] [(.int (Int32.ofNat n))]
  refine k_istoreN (Ls' := #[.val (.ref d), .val (.int (0 : Int32)), .val (.int (Int32.ofNat n)), .val (.int (Int32.ofNat n)), .unset]) d_cob_8 rfl rfl ?_
  refine k_iloadN d_cob_9 rfl rfl ?_
  refine k_newarr (cap := 112) d_cob_10 rfl (hw _ (List.mem_of_getElem? (i := 17) rfl)) (ix_nn (by omega)) (by rw [ix_nat (by omega)]; exact hn2) (by decide) (by decide) (by decide) ?_
  intro h2 a1 ck6 g5 E3 V4
  have ne7 : d ≠ a1 := Nat.ne_of_lt (Nat.lt_of_lt_of_eq D.lt g5.symm)
  have z9 : n0 ≤ h0.size := Z0
  have ge8 : n0 ≤ a1 := Nat.le_trans z9 (Nat.le_of_eq g5.symm)
  have gl10 : h0.size ≤ a1 := Nat.le_of_eq g5.symm
  have gh11 := Nat.le_trans K0.1 gl10
  refine KW.any (P' := ([], fun _ => False)) ?_
  show KW false l Z M_cob n0 (fun v h => ∃ e ck', v = some (.ref e) ∧ h0.size ≤ e ∧ n0 ≤ e ∧ Keep h0 h [] ∧ Arv Z h e ck' .byte (Int32.ofNat n) ((L.take n).map Value.int) (.int 0)) ([], fun _ => False) h2 1 112 12 #[.val (.ref d), .val (.int (0 : Int32)), .val (.int (Int32.ofNat n)), .val (.int (Int32.ofNat n)), .unset] [(.ref a1)]
  refine k_astore (Ls' := #[.val (.ref d), .val (.int (0 : Int32)), .val (.int (Int32.ofNat n)), .val (.int (Int32.ofNat n)), .val (.ref a1)]) d_cob_12 rfl rfl rfl ?_
  refine k_aloadN d_cob_14 rfl rfl rfl ?_
  refine k_iloadN d_cob_15 rfl rfl ?_
  refine k_aload d_cob_16 rfl rfl rfl ?_
  refine k_iconst (z := (0 : Int32)) d_cob_18 rfl (by decide) ?_
  refine k_aloadN d_cob_19 rfl rfl rfl ?_
  have f12 := (D.ext E3)
  refine k_arrlen d_cob_20 rfl f12 ?_
  refine k_iloadN d_cob_21 rfl rfl ?_
  refine k_isub d_cob_22 rfl ?_
  refine KW.top (congrArg Value.int (sub0 _)) ?_
  show KW false l Z M_cob n0 (fun v h => ∃ e ck', v = some (.ref e) ∧ h0.size ≤ e ∧ n0 ≤ e ∧ Keep h0 h [] ∧ Arv Z h e ck' .byte (Int32.ofNat n) ((L.take n).map Value.int) (.int 0)) ([], fun _ => False) h2 1 112 23 #[.val (.ref d), .val (.int (0 : Int32)), .val (.int (Int32.ofNat n)), .val (.int (Int32.ofNat n)), .val (.ref a1)] [(.int (Int32.ofNat L.length)), (.int (0 : Int32)), (.ref a1), (.int (0 : Int32)), (.ref d)]
  refine k_iloadN d_cob_23 rfl rfl ?_
  refine k_callStatic (argsL := [(.int (Int32.ofNat L.length)), (.int (Int32.ofNat n))]) (rest := [(.int (0 : Int32)), (.ref a1), (.int (0 : Int32)), (.ref d)]) (W0 := 4) d_cob_24 rfl (mt_mnm l Z a0 hw cs hcs SC hEW _ _ h2 n0) Kp.strict (hw _ (List.mem_of_getElem? (i := 255) rfl)) (hw _ (List.mem_of_getElem? (i := 256) rfl)) (hw _ (List.mem_of_getElem? (i := 257) rfl)) (hw _ (List.mem_of_getElem? (i := 258) rfl)) (by decide) pd_mnm rfl rfl rfl rfl (by decide) (by decide) (by decide) (by decide) ?_
  rintro _ _ - ⟨rfl, rfl⟩
  rw [minI_n hL (by omega)]
  refine KW.any (P' := ([], fun _ => False)) ?_
  show KW false l Z M_cob n0 (fun v h => ∃ e ck', v = some (.ref e) ∧ h0.size ≤ e ∧ n0 ≤ e ∧ Keep h0 h [] ∧ Arv Z h e ck' .byte (Int32.ofNat n) ((L.take n).map Value.int) (.int 0)) ([], fun _ => False) h2 1 112 27 #[.val (.ref d), .val (.int (0 : Int32)), .val (.int (Int32.ofNat n)), .val (.int (Int32.ofNat n)), .val (.ref a1)] [(.int (Int32.ofNat n)), (.int (0 : Int32)), (.ref a1), (.int (0 : Int32)), (.ref d)]
  have f13 := (K0.ext E3)
  have B2 : Arv Z h2 a1 ck6 .byte (Int32.ofNat (List.replicate n (0 : Int32)).length) ((List.replicate n (0 : Int32)).map Value.int) (.int 0) := by rw [List.length_replicate, List.map_replicate]; exact Arv.pad V4 (pad_rep [] _ n)
  refine k_acopy (o := 0) (q := 0) (m' := n) (W0 := 0) d_cob_27 rfl (hw _ (List.mem_of_getElem? (i := 259) rfl)) (hw _ (List.mem_of_getElem? (i := 147) rfl)) (hw _ (List.mem_of_getElem? (i := 145) rfl)) (hw _ (List.mem_of_getElem? (i := 146) rfl)) hL (by rw [List.length_replicate]; omega) f12 B2 (by omega) (by rw [List.length_replicate]; omega) ge8 (fun q => by cases q) rfl rfl (by decide) (by decide) ?_
  intro hM KM VM
  rw [List.length_replicate, laid_take L n (by omega)] at VM
  refine KW.any (P' := ([], fun _ => False)) ?_
  show KW false l Z M_cob n0 (fun v h => ∃ e ck', v = some (.ref e) ∧ h0.size ≤ e ∧ n0 ≤ e ∧ Keep h0 h [] ∧ Arv Z h e ck' .byte (Int32.ofNat n) ((L.take n).map Value.int) (.int 0)) ([], fun _ => False) hM 1 112 30 #[.val (.ref d), .val (.int (0 : Int32)), .val (.int (Int32.ofNat n)), .val (.int (Int32.ofNat n)), .val (.ref a1)] []
  refine k_aload d_cob_30 rfl rfl rfl ?_
  have f14 := (f13.trans KM (allS (Or.inr gh11) all0))
  exact k_retRef d_cob_32 rfl rfl rfl (by decide) (by decide) ⟨a1, ck6, rfl, gl10, ge8, f14, VM⟩
theorem mt_cob (l : Launch) (Z : State) (a0 : Array Value) (hw : ∀ d ∈ tables_1, d.before a0 Z = true) (cs : Int32) (hcs : ¬ cs = 0) (SC : Sta Z Z.heap "java/lang/String" "COMPACT_STRINGS" "Z" (.int cs)) (hEW : EW Z a0 EL) (d : Addr) (ck : ClassId) (L : List Int32) (n : Nat) (h0 : Heap) (n0 : Nat) (OD : Old Z n0 h0) (D : Arv Z h0 d ck .byte (Int32.ofNat L.length) (L.map Value.int) (.int 0)) (hL : L.length < 2147483648) (hn : n < L.length) (hn2 : n ≤ 112) : Mt l Z M_cob [] n0 #[(.ref d), (.int (0 : Int32)), (.int (Int32.ofNat n))] h0 (fun v h => ∃ e ck', v = some (.ref e) ∧ h0.size ≤ e ∧ n0 ≤ e ∧ Keep h0 h [] ∧ Arv Z h e ck' .byte (Int32.ofNat n) ((L.take n).map Value.int) (.int 0)) :=
  mt_of_kw (P := ([], fun _ => False)) pf_cob (fun m => by first | (simp [entryFrame, mkF, argsToLocals, Value.category]; done) | rfl) (kw_cob l Z a0 hw cs hcs SC hEW d ck L n h0 n0 OD D hL hn hn2)
abbrev M_cor : MD := ((⟨"java/util/Arrays", "copyOfRange", "([BII)[B"⟩ : MethodName), jdk_65_method_132_code, 3, (some (.array .byte)), { frames := 2, cells := 1, slots := 112, locals := 64 })
theorem d_cor_0 : decode jdk_65_method_132_code 0 = .ok (.iload_n 1, 1) := by decide +kernel
theorem d_cor_1 : decode jdk_65_method_132_code 1 = .ok (.ifCond .ne 9, 3) := by decide +kernel
theorem d_cor_4 : decode jdk_65_method_132_code 4 = .ok (.iload_n 2, 1) := by decide +kernel
theorem d_cor_5 : decode jdk_65_method_132_code 5 = .ok (.aload_n 0, 1) := by decide +kernel
theorem d_cor_6 : decode jdk_65_method_132_code 6 = .ok (.arraylength, 1) := by decide +kernel
theorem d_cor_7 : decode jdk_65_method_132_code 7 = .ok (.if_icmp .eq 10, 3) := by decide +kernel
theorem d_cor_10 : decode jdk_65_method_132_code 10 = .ok (.aload_n 0, 1) := by decide +kernel
theorem d_cor_11 : decode jdk_65_method_132_code 11 = .ok (.iload_n 1, 1) := by decide +kernel
theorem d_cor_12 : decode jdk_65_method_132_code 12 = .ok (.iload_n 2, 1) := by decide +kernel
theorem d_cor_13 : decode jdk_65_method_132_code 13 = .ok (.invokestatic 339, 3) := by decide +kernel
theorem d_cor_16 : decode jdk_65_method_132_code 16 = .ok (.areturn, 1) := by decide +kernel
theorem d_cor_17 : decode jdk_65_method_132_code 17 = .ok (.aload_n 0, 1) := by decide +kernel
theorem d_cor_18 : decode jdk_65_method_132_code 18 = .ok (.invokevirtual 310, 3) := by decide +kernel
theorem d_cor_21 : decode jdk_65_method_132_code 21 = .ok (.checkcast 311, 3) := by decide +kernel
theorem d_cor_24 : decode jdk_65_method_132_code 24 = .ok (.areturn, 1) := by decide +kernel
theorem pd_cor : parseMethodDescriptor "([BII)[B" = some ⟨[(.array .byte), .int, .int], (some (.array .byte))⟩ := by decide +kernel
theorem pf_cor : plainFor (⟨"java/util/Arrays", "copyOfRange", "([BII)[B"⟩ : MethodName) = true := by first | exact plainFor_of_name (by first | (simp [plainName, overriddenIn]; done) | decide +kernel) | decide +kernel
set_option maxRecDepth 65536 in
set_option maxHeartbeats 40000000 in
theorem kw_cor (l : Launch) (Z : State) (a0 : Array Value) (hw : ∀ d ∈ tables_1, d.before a0 Z = true) (cs : Int32) (hcs : ¬ cs = 0) (SC : Sta Z Z.heap "java/lang/String" "COMPACT_STRINGS" "Z" (.int cs)) (hEW : EW Z a0 EL) (d : Addr) (ck : ClassId) (L : List Int32) (n : Nat) (h0 : Heap) (n0 : Nat) (OD : Old Z n0 h0) (D : Arv Z h0 d ck .byte (Int32.ofNat L.length) (L.map Value.int) (.int 0)) (hL : L.length < 2147483648) (hn : n < L.length) (hn2 : n ≤ 112) : KW false l Z M_cor n0 (fun v h => ∃ e ck', v = some (.ref e) ∧ h0.size ≤ e ∧ n0 ≤ e ∧ Keep h0 h [] ∧ Arv Z h e ck' .byte (Int32.ofNat n) ((L.take n).map Value.int) (.int 0)) ([], fun _ => False) h0 0 0 0 #[.val (.ref d), .val (.int (0 : Int32)), .val (.int (Int32.ofNat n))] [] := by
  refine k_iloadN d_cor_0 rfl rfl ?_
  refine k_ifc (pc1 := 10) (pc' := 4) d_cor_1 (by decide) (by decide) rfl (fun (cd1 : ¬ (0 : Int32) = (0 : Int32)) => False.elim (by exact absurd cd1 (by decide))) (fun (cd1 : (0 : Int32) = (0 : Int32)) => ?_)
  refine k_iloadN d_cor_4 rfl rfl ?_
  refine k_aloadN d_cor_5 rfl rfl rfl ?_
  refine k_arrlen d_cor_6 rfl D ?_
  refine k_icmp (pc1 := 17) (pc' := 10) d_cor_7 (by decide) (by decide) rfl (fun (cd2 : (Int32.ofNat n) = (Int32.ofNat L.length)) => False.elim (by exact ix_ne (by omega) hL (Nat.ne_of_lt hn) cd2)) (fun (cd2 : ¬ (Int32.ofNat n) = (Int32.ofNat L.length)) => ?_)
  refine k_aloadN d_cor_10 rfl rfl rfl ?_
  refine k_iloadN d_cor_11 rfl rfl ?_
  refine k_iloadN d_cor_12 rfl rfl ?_
  refine k_callStatic (argsL := [(.ref d), (.int (0 : Int32)), (.int (Int32.ofNat n))]) (rest := []) (W0 := 0) d_cor_13 rfl (mt_cob l Z a0 hw cs hcs SC hEW d ck L n h0 n0 OD D hL hn hn2) Kp.strict (hw _ (List.mem_of_getElem? (i := 249) rfl)) (hw _ (List.mem_of_getElem? (i := 250) rfl)) (hw _ (List.mem_of_getElem? (i := 247) rfl)) (hw _ (List.mem_of_getElem? (i := 251) rfl)) (by decide) pd_cob rfl rfl rfl rfl (by decide) (by decide) (by decide) (by decide) ?_
  rintro _ hM - ⟨e, ck', rfl, R1⟩
  refine KW.any (P' := ([], fun _ => False)) ?_
  show KW false l Z M_cor n0 (fun v h => ∃ e ck', v = some (.ref e) ∧ h0.size ≤ e ∧ n0 ≤ e ∧ Keep h0 h [] ∧ Arv Z h e ck' .byte (Int32.ofNat n) ((L.take n).map Value.int) (.int 0)) ([], fun _ => False) hM 1 112 16 #[.val (.ref d), .val (.int (0 : Int32)), .val (.int (Int32.ofNat n))] [(.ref e)]
  exact k_retRef d_cor_16 rfl rfl rfl (by decide) (by decide) ⟨e, ck', rfl, R1⟩
theorem mt_cor (l : Launch) (Z : State) (a0 : Array Value) (hw : ∀ d ∈ tables_1, d.before a0 Z = true) (cs : Int32) (hcs : ¬ cs = 0) (SC : Sta Z Z.heap "java/lang/String" "COMPACT_STRINGS" "Z" (.int cs)) (hEW : EW Z a0 EL) (d : Addr) (ck : ClassId) (L : List Int32) (n : Nat) (h0 : Heap) (n0 : Nat) (OD : Old Z n0 h0) (D : Arv Z h0 d ck .byte (Int32.ofNat L.length) (L.map Value.int) (.int 0)) (hL : L.length < 2147483648) (hn : n < L.length) (hn2 : n ≤ 112) : Mt l Z M_cor [] n0 #[(.ref d), (.int (0 : Int32)), (.int (Int32.ofNat n))] h0 (fun v h => ∃ e ck', v = some (.ref e) ∧ h0.size ≤ e ∧ n0 ≤ e ∧ Keep h0 h [] ∧ Arv Z h e ck' .byte (Int32.ofNat n) ((L.take n).map Value.int) (.int 0)) :=
  mt_of_kw (P := ([], fun _ => False)) pf_cor (fun m => by first | (simp [entryFrame, mkF, argsToLocals, Value.category]; done) | rfl) (kw_cor l Z a0 hw cs hcs SC hEW d ck L n h0 n0 OD D hL hn hn2)
abbrev M_sia : MD := ((⟨"java/lang/String", "<init>", "(Ljava/lang/AbstractStringBuilder;Ljava/lang/Void;)V"⟩ : MethodName), jdk_42_method_150_code, 5, none, { frames := 3, cells := 1, slots := 112, locals := 88 })
theorem d_sia_0 : decode jdk_42_method_150_code 0 = .ok (.aload_n 0, 1) := by decide +kernel
theorem d_sia_1 : decode jdk_42_method_150_code 1 = .ok (.invokespecial 1, 3) := by decide +kernel
theorem d_sia_4 : decode jdk_42_method_150_code 4 = .ok (.aload_n 1, 1) := by decide +kernel
theorem d_sia_5 : decode jdk_42_method_150_code 5 = .ok (.invokevirtual 552, 3) := by decide +kernel
theorem d_sia_8 : decode jdk_42_method_150_code 8 = .ok (.astore_n 3, 1) := by decide +kernel
theorem d_sia_9 : decode jdk_42_method_150_code 9 = .ok (.aload_n 1, 1) := by decide +kernel
theorem d_sia_10 : decode jdk_42_method_150_code 10 = .ok (.invokevirtual 549, 3) := by decide +kernel
theorem d_sia_13 : decode jdk_42_method_150_code 13 = .ok (.istore 4, 2) := by decide +kernel
theorem d_sia_15 : decode jdk_42_method_150_code 15 = .ok (.aload_n 1, 1) := by decide +kernel
theorem d_sia_16 : decode jdk_42_method_150_code 16 = .ok (.invokevirtual 1047, 3) := by decide +kernel
theorem d_sia_19 : decode jdk_42_method_150_code 19 = .ok (.ifCond .eq 22, 3) := by decide +kernel
theorem d_sia_22 : decode jdk_42_method_150_code 22 = .ok (.aload_n 0, 1) := by decide +kernel
theorem d_sia_23 : decode jdk_42_method_150_code 23 = .ok (.iconst 0, 1) := by decide +kernel
theorem d_sia_24 : decode jdk_42_method_150_code 24 = .ok (.putfield 15, 3) := by decide +kernel
theorem d_sia_27 : decode jdk_42_method_150_code 27 = .ok (.aload_n 0, 1) := by decide +kernel
theorem d_sia_28 : decode jdk_42_method_150_code 28 = .ok (.aload_n 3, 1) := by decide +kernel
theorem d_sia_29 : decode jdk_42_method_150_code 29 = .ok (.iconst 0, 1) := by decide +kernel
theorem d_sia_30 : decode jdk_42_method_150_code 30 = .ok (.iload 4, 2) := by decide +kernel
theorem d_sia_32 : decode jdk_42_method_150_code 32 = .ok (.invokestatic 54, 3) := by decide +kernel
theorem d_sia_35 : decode jdk_42_method_150_code 35 = .ok (.putfield 9, 3) := by decide +kernel
theorem d_sia_38 : decode jdk_42_method_150_code 38 = .ok (.goto 59, 3) := by decide +kernel
theorem d_sia_41 : decode jdk_42_method_150_code 41 = .ok (.getstatic 38, 3) := by decide +kernel
theorem d_sia_44 : decode jdk_42_method_150_code 44 = .ok (.ifCond .eq 35, 3) := by decide +kernel
theorem d_sia_47 : decode jdk_42_method_150_code 47 = .ok (.aload_n 1, 1) := by decide +kernel
theorem d_sia_48 : decode jdk_42_method_150_code 48 = .ok (.getfield 1048, 3) := by decide +kernel
theorem d_sia_51 : decode jdk_42_method_150_code 51 = .ok (.ifCond .eq 28, 3) := by decide +kernel
theorem d_sia_54 : decode jdk_42_method_150_code 54 = .ok (.aload_n 0, 1) := by decide +kernel
theorem d_sia_55 : decode jdk_42_method_150_code 55 = .ok (.aload_n 3, 1) := by decide +kernel
theorem d_sia_56 : decode jdk_42_method_150_code 56 = .ok (.iconst 0, 1) := by decide +kernel
theorem d_sia_57 : decode jdk_42_method_150_code 57 = .ok (.iload 4, 2) := by decide +kernel
theorem d_sia_59 : decode jdk_42_method_150_code 59 = .ok (.invokestatic 1051, 3) := by decide +kernel
theorem d_sia_62 : decode jdk_42_method_150_code 62 = .ok (.putfield 9, 3) := by decide +kernel
theorem d_sia_65 : decode jdk_42_method_150_code 65 = .ok (.aload_n 0, 1) := by decide +kernel
theorem d_sia_66 : decode jdk_42_method_150_code 66 = .ok (.aload_n 0, 1) := by decide +kernel
theorem d_sia_67 : decode jdk_42_method_150_code 67 = .ok (.getfield 9, 3) := by decide +kernel
theorem d_sia_70 : decode jdk_42_method_150_code 70 = .ok (.iload 4, 2) := by decide +kernel
theorem d_sia_72 : decode jdk_42_method_150_code 72 = .ok (.invokestatic 47, 3) := by decide +kernel
theorem d_sia_75 : decode jdk_42_method_150_code 75 = .ok (.putfield 15, 3) := by decide +kernel
theorem d_sia_78 : decode jdk_42_method_150_code 78 = .ok (.return_, 1) := by decide +kernel
theorem d_sia_79 : decode jdk_42_method_150_code 79 = .ok (.aload_n 0, 1) := by decide +kernel
theorem d_sia_80 : decode jdk_42_method_150_code 80 = .ok (.iconst 1, 1) := by decide +kernel
theorem d_sia_81 : decode jdk_42_method_150_code 81 = .ok (.putfield 15, 3) := by decide +kernel
theorem d_sia_84 : decode jdk_42_method_150_code 84 = .ok (.aload_n 0, 1) := by decide +kernel
theorem d_sia_85 : decode jdk_42_method_150_code 85 = .ok (.aload_n 3, 1) := by decide +kernel
theorem d_sia_86 : decode jdk_42_method_150_code 86 = .ok (.iconst 0, 1) := by decide +kernel
theorem d_sia_87 : decode jdk_42_method_150_code 87 = .ok (.iload 4, 2) := by decide +kernel
theorem d_sia_89 : decode jdk_42_method_150_code 89 = .ok (.iconst 1, 1) := by decide +kernel
theorem d_sia_90 : decode jdk_42_method_150_code 90 = .ok (.ishl, 1) := by decide +kernel
theorem d_sia_91 : decode jdk_42_method_150_code 91 = .ok (.invokestatic 54, 3) := by decide +kernel
theorem d_sia_94 : decode jdk_42_method_150_code 94 = .ok (.putfield 9, 3) := by decide +kernel
theorem d_sia_97 : decode jdk_42_method_150_code 97 = .ok (.return_, 1) := by decide +kernel
theorem pd_sia : parseMethodDescriptor "(Ljava/lang/AbstractStringBuilder;Ljava/lang/Void;)V" = some ⟨[(.object "java/lang/AbstractStringBuilder"), (.object "java/lang/Void")], none⟩ := by decide +kernel
theorem pf_sia : plainFor (⟨"java/lang/String", "<init>", "(Ljava/lang/AbstractStringBuilder;Ljava/lang/Void;)V"⟩ : MethodName) = true := by first | exact plainFor_of_name (by first | (simp [plainName, overriddenIn]; done) | decide +kernel) | decide +kernel
set_option maxRecDepth 65536 in
set_option maxHeartbeats 40000000 in
theorem kw_sia (l : Launch) (Z : State) (a0 : Array Value) (hw : ∀ d ∈ tables_1, d.before a0 Z = true) (cs : Int32) (hcs : ¬ cs = 0) (SC : Sta Z Z.heap "java/lang/String" "COMPACT_STRINGS" "Z" (.int cs)) (hEW : EW Z a0 EL) (a b d : Addr) (N : Nat) (bs : List Int32) (h0 : Heap) (n0 : Nat) (OD : Old Z n0 h0) (SB : Sb Z h0 b d N bs) (ga : n0 ≤ a) (EA : Exa Z h0 a "java/lang/String") (FC : Fld Z h0 a "java/lang/String" "coder" "B" (.int 0)) (FV : Fld Z h0 a "java/lang/String" "value" "[B" .null) (hn : bs.length < N) (hn2 : bs.length ≤ 112) : KW false l Z M_sia n0 (fun v h => v = none ∧ Keep h0 h [a] ∧ ∃ e, Sg Z h a e bs) ([], fun _ => False) h0 0 0 0 #[.val (.ref a), .val (.ref b), .val .null, .unset, .unset] [] := by
  obtain ⟨ckB, zs, EB, VB, CB, NB, AB, hN, hN2⟩ := id SB
  have K0 : Keep h0 h0 [a] := Keep.refl _ _
  have had : a ≠ d := Exa.neArv EA AB (hw _ (List.mem_of_getElem? (i := 13) rfl))
  have hab : a ≠ b := Exa.ne EA EB (by decide)
  refine k_aloadN d_sia_0 rfl rfl rfl ?_
  refine k_initObj (W0 := 0) d_sia_1 rfl (hw _ (List.mem_of_getElem? (i := 22) rfl)) (hw _ (List.mem_of_getElem? (i := 23) rfl)) (hw _ (List.mem_of_getElem? (i := 24) rfl)) rfl rfl (by decide) (by decide) ?_
  refine k_aloadN d_sia_4 rfl rfl rfl ?_
  refine k_callVirtual (argsL := []) (rest := []) (W0 := 0) d_sia_5 rfl (mt_gvl l Z a0 hw cs hcs SC hEW b d N bs h0 n0 OD SB) Kp.strict EB (hw _ (List.mem_of_getElem? (i := 238) rfl)) (hw _ (List.mem_of_getElem? (i := 239) rfl)) (hw _ (List.mem_of_getElem? (i := 241) rfl)) (hw _ (List.mem_of_getElem? (i := 127) rfl)) rfl (hw _ (List.mem_of_getElem? (i := 240) rfl)) (hw _ (List.mem_of_getElem? (i := 242) rfl)) (hw _ (List.mem_of_getElem? (i := 43) rfl)) (by decide) pd_gvl rfl rfl rfl rfl (by decide) (by decide) (by decide) (by decide) ?_
  rintro _ _ - ⟨rfl, rfl⟩
  refine KW.any (P' := ([], fun _ => False)) ?_
  show KW false l Z M_sia n0 (fun v h => v = none ∧ Keep h0 h [a] ∧ ∃ e, Sg Z h a e bs) ([], fun _ => False) h0 0 0 8 #[.val (.ref a), .val (.ref b), .val .null, .unset, .unset] [(.ref d)]
  refine k_astoreN (Ls' := #[.val (.ref a), .val (.ref b), .val .null, .val (.ref d), .unset]) d_sia_8 rfl rfl rfl ?_
  refine k_aloadN d_sia_9 rfl rfl rfl ?_
  refine k_callVirtual (argsL := []) (rest := []) (W0 := 0) d_sia_10 rfl (mt_sln l Z a0 hw cs hcs SC hEW b d N bs h0 n0 OD SB) Kp.strict EB (hw _ (List.mem_of_getElem? (i := 243) rfl)) (hw _ (List.mem_of_getElem? (i := 187) rfl)) (hw _ (List.mem_of_getElem? (i := 189) rfl)) (hw _ (List.mem_of_getElem? (i := 127) rfl)) rfl (hw _ (List.mem_of_getElem? (i := 190) rfl)) (hw _ (List.mem_of_getElem? (i := 191) rfl)) (hw _ (List.mem_of_getElem? (i := 35) rfl)) (by decide) pd_sln rfl rfl rfl rfl (by decide) (by decide) (by decide) (by decide) ?_
  rintro _ _ - ⟨rfl, rfl⟩
  refine KW.any (P' := ([], fun _ => False)) ?_
  show KW false l Z M_sia n0 (fun v h => v = none ∧ Keep h0 h [a] ∧ ∃ e, Sg Z h a e bs) ([], fun _ => False) h0 0 0 13 #[.val (.ref a), .val (.ref b), .val .null, .val (.ref d), .unset] [(.int (Int32.ofNat bs.length))]
  refine k_istore (Ls' := #[.val (.ref a), .val (.ref b), .val .null, .val (.ref d), .val (.int (Int32.ofNat bs.length))]) d_sia_13 rfl rfl ?_
  refine k_aloadN d_sia_15 rfl rfl rfl ?_
  refine k_callVirtual (argsL := []) (rest := []) (W0 := 0) d_sia_16 rfl (mt_ail l Z a0 hw cs hcs SC hEW b d N bs h0 n0 OD SB) Kp.strict EB (hw _ (List.mem_of_getElem? (i := 244) rfl)) (hw _ (List.mem_of_getElem? (i := 162) rfl)) (hw _ (List.mem_of_getElem? (i := 164) rfl)) (hw _ (List.mem_of_getElem? (i := 127) rfl)) rfl (hw _ (List.mem_of_getElem? (i := 163) rfl)) (hw _ (List.mem_of_getElem? (i := 165) rfl)) (hw _ (List.mem_of_getElem? (i := 43) rfl)) (by decide) pd_ail rfl rfl rfl rfl (by decide) (by decide) (by decide) (by decide) ?_
  rintro _ _ - ⟨rfl, rfl⟩
  refine KW.any (P' := ([], fun _ => False)) ?_
  show KW false l Z M_sia n0 (fun v h => v = none ∧ Keep h0 h [a] ∧ ∃ e, Sg Z h a e bs) ([], fun _ => False) h0 0 0 19 #[.val (.ref a), .val (.ref b), .val .null, .val (.ref d), .val (.int (Int32.ofNat bs.length))] [(.int (1 : Int32))]
  refine k_ifc (pc1 := 41) (pc' := 22) d_sia_19 (by decide) (by decide) rfl (fun (cd1 : (1 : Int32) = (0 : Int32)) => False.elim (by exact absurd cd1 (by decide))) (fun (cd1 : ¬ (1 : Int32) = (0 : Int32)) => ?_)
  refine k_aloadN d_sia_22 rfl rfl rfl ?_
  refine k_iconst (z := (0 : Int32)) d_sia_23 rfl (by decide) ?_
  refine k_put (v' := (.int (0 : Int32))) (ty := .byte) d_sia_24 rfl (hw _ (List.mem_of_getElem? (i := 27) rfl)) Via.refl FC EA (Or.inr ⟨(hw _ (List.mem_of_getElem? (i := 28) rfl)), rfl, rfl⟩) (hw _ (List.mem_of_getElem? (i := 13) rfl)) (by decide) rfl rfl ga (fun q => by cases q) ?_
  intro h1 W2
  have F3 := FC.same W2
  show KW false l Z M_sia n0 (fun v h => v = none ∧ Keep h0 h [a] ∧ ∃ e, Sg Z h a e bs) ([], fun _ => False) h1 0 0 27 #[.val (.ref a), .val (.ref b), .val .null, .val (.ref d), .val (.int (Int32.ofNat bs.length))] []
  refine k_aloadN d_sia_27 rfl rfl rfl ?_
  refine k_aloadN d_sia_28 rfl rfl rfl ?_
  refine k_iconst (z := (0 : Int32)) d_sia_29 rfl (by decide) ?_
  refine k_iload d_sia_30 rfl rfl ?_
  have f4 := (AB.other W2 (Ne.symm had))
  have f5 := (EA.wr W2)
  have f6 := (FV.other W2 (Or.inr (slot_ne (t := (.array .byte)) (t' := .byte) (Or.inr (hw _ (List.mem_of_getElem? (i := 26) rfl))) (Or.inr (hw _ (List.mem_of_getElem? (i := 28) rfl))) (by decide) (by decide) (by decide))))
  have f7 := (K0.wr W2 (Or.inl (by simp)))
  have f8 := (OD.wr W2 ga)
  refine k_callStatic (argsL := [(.ref d), (.int (0 : Int32)), (.int (Int32.ofNat bs.length))]) (rest := [(.ref a)]) (W0 := 1) d_sia_32 rfl (mt_cor l Z a0 hw cs hcs SC hEW d ckB (bs ++ zs) bs.length h1 n0 f8 (by rw [hN]; exact f4) (by omega) (by omega) hn2) Kp.strict (hw _ (List.mem_of_getElem? (i := 245) rfl)) (hw _ (List.mem_of_getElem? (i := 246) rfl)) (hw _ (List.mem_of_getElem? (i := 247) rfl)) (hw _ (List.mem_of_getElem? (i := 248) rfl)) (by decide) pd_cor rfl rfl rfl rfl (by decide) (by decide) (by decide) (by decide) ?_
  rintro _ hM - ⟨e, ck', rfl, ge1, ge2, KM, VM⟩
  rw [List.take_left] at VM
  have ne9 : a ≠ e := Nat.ne_of_lt (Nat.lt_of_lt_of_le f5.lt ge1)
  refine KW.any (P' := ([], fun _ => False)) ?_
  show KW false l Z M_sia n0 (fun v h => v = none ∧ Keep h0 h [a] ∧ ∃ e, Sg Z h a e bs) ([], fun _ => False) hM 1 112 35 #[.val (.ref a), .val (.ref b), .val .null, .val (.ref d), .val (.int (Int32.ofNat bs.length))] [(.ref e), (.ref a)]
  have f12 := (f6.keep KM nin0)
  have f13 := (f5.keep KM)
  refine k_put (v' := (.ref e)) (ty := (.array .byte)) d_sia_35 rfl (hw _ (List.mem_of_getElem? (i := 25) rfl)) Via.refl f12 f13 (Or.inr ⟨(hw _ (List.mem_of_getElem? (i := 26) rfl)), rfl, rfl⟩) (hw _ (List.mem_of_getElem? (i := 13) rfl)) (by decide) rfl rfl ga (fun q => by cases q) ?_
  intro h10 W11
  have F14 := f12.same W11
  show KW false l Z M_sia n0 (fun v h => v = none ∧ Keep h0 h [a] ∧ ∃ e, Sg Z h a e bs) ([], fun _ => False) h10 1 112 38 #[.val (.ref a), .val (.ref b), .val .null, .val (.ref d), .val (.int (Int32.ofNat bs.length))] []
  refine k_goto (pc' := 97) d_sia_38 (by decide) (by decide) ?_
  have f15 := ((f7.trans KM all0).wr W11 (Or.inl (by simp)))
  have f16 := (f13.wr W11)
  have f17 := ((F3.keep KM nin0).other W11 (Or.inr (slot_ne (t := .byte) (t' := (.array .byte)) (Or.inr (hw _ (List.mem_of_getElem? (i := 28) rfl))) (Or.inr (hw _ (List.mem_of_getElem? (i := 26) rfl))) (by decide) (by decide) (by decide))))
  have f18 := (VM.other W11 (Ne.symm ne9))
  exact k_retVoid d_sia_97 rfl (by decide) (by decide) ⟨rfl, f15, e, ⟨ck', f16, f17, F14, f18, by omega⟩⟩
theorem mt_sia (l : Launch) (Z : State) (a0 : Array Value) (hw : ∀ d ∈ tables_1, d.before a0 Z = true) (cs : Int32) (hcs : ¬ cs = 0) (SC : Sta Z Z.heap "java/lang/String" "COMPACT_STRINGS" "Z" (.int cs)) (hEW : EW Z a0 EL) (a b d : Addr) (N : Nat) (bs : List Int32) (h0 : Heap) (n0 : Nat) (OD : Old Z n0 h0) (SB : Sb Z h0 b d N bs) (ga : n0 ≤ a) (EA : Exa Z h0 a "java/lang/String") (FC : Fld Z h0 a "java/lang/String" "coder" "B" (.int 0)) (FV : Fld Z h0 a "java/lang/String" "value" "[B" .null) (hn : bs.length < N) (hn2 : bs.length ≤ 112) : Mt l Z M_sia [] n0 #[(.ref a), (.ref b), .null] h0 (fun v h => v = none ∧ Keep h0 h [a] ∧ ∃ e, Sg Z h a e bs) :=
  mt_of_kw (P := ([], fun _ => False)) pf_sia (fun m => by first | (simp [entryFrame, mkF, argsToLocals, Value.category]; done) | rfl) (kw_sia l Z a0 hw cs hcs SC hEW a b d N bs h0 n0 OD SB ga EA FC FV hn hn2)
abbrev M_sis : MD := ((⟨"java/lang/String", "<init>", "(Ljava/lang/StringBuilder;)V"⟩ : MethodName), jdk_42_method_53_code, 2, none, { frames := 4, cells := 1, slots := 112, locals := 108 })
theorem d_sis_0 : decode jdk_42_method_53_code 0 = .ok (.aload_n 0, 1) := by decide +kernel
theorem d_sis_1 : decode jdk_42_method_53_code 1 = .ok (.aload_n 1, 1) := by decide +kernel
theorem d_sis_2 : decode jdk_42_method_53_code 2 = .ok (.aconst_null, 1) := by decide +kernel
theorem d_sis_3 : decode jdk_42_method_53_code 3 = .ok (.invokespecial 489, 3) := by decide +kernel
theorem d_sis_6 : decode jdk_42_method_53_code 6 = .ok (.return_, 1) := by decide +kernel
theorem pd_sis : parseMethodDescriptor "(Ljava/lang/StringBuilder;)V" = some ⟨[(.object "java/lang/StringBuilder")], none⟩ := by decide +kernel
theorem pf_sis : plainFor (⟨"java/lang/String", "<init>", "(Ljava/lang/StringBuilder;)V"⟩ : MethodName) = true := by first | exact plainFor_of_name (by first | (simp [plainName, overriddenIn]; done) | decide +kernel) | decide +kernel
set_option maxRecDepth 65536 in
set_option maxHeartbeats 40000000 in
theorem kw_sis (l : Launch) (Z : State) (a0 : Array Value) (hw : ∀ d ∈ tables_1, d.before a0 Z = true) (cs : Int32) (hcs : ¬ cs = 0) (SC : Sta Z Z.heap "java/lang/String" "COMPACT_STRINGS" "Z" (.int cs)) (hEW : EW Z a0 EL) (a b d : Addr) (N : Nat) (bs : List Int32) (h0 : Heap) (n0 : Nat) (OD : Old Z n0 h0) (SB : Sb Z h0 b d N bs) (ga : n0 ≤ a) (EA : Exa Z h0 a "java/lang/String") (FC : Fld Z h0 a "java/lang/String" "coder" "B" (.int 0)) (FV : Fld Z h0 a "java/lang/String" "value" "[B" .null) (hn : bs.length < N) (hn2 : bs.length ≤ 112) : KW false l Z M_sis n0 (fun v h => v = none ∧ Keep h0 h [a] ∧ ∃ e, Sg Z h a e bs) ([], fun _ => False) h0 0 0 0 #[.val (.ref a), .val (.ref b)] [] := by
  refine k_aloadN d_sis_0 rfl rfl rfl ?_
  refine k_aloadN d_sis_1 rfl rfl rfl ?_
  refine k_aconstNull d_sis_2 rfl ?_
  refine k_callInit (a := a) (argsL := [(.ref b), .null]) (rest := []) (W0 := 0) d_sis_3 rfl (mt_sia l Z a0 hw cs hcs SC hEW a b d N bs h0 n0 OD SB ga EA FC FV hn hn2) Kp.strict rfl rfl (hw _ (List.mem_of_getElem? (i := 235) rfl)) (hw _ (List.mem_of_getElem? (i := 236) rfl)) (hw _ (List.mem_of_getElem? (i := 5) rfl)) (hw _ (List.mem_of_getElem? (i := 237) rfl)) (by decide) pd_sia rfl rfl rfl rfl (by decide) (by decide) (by decide) (by decide) ?_
  rintro _ hM - ⟨rfl, R1⟩
  refine KW.any (P' := ([], fun _ => False)) ?_
  show KW false l Z M_sis n0 (fun v h => v = none ∧ Keep h0 h [a] ∧ ∃ e, Sg Z h a e bs) ([], fun _ => False) hM 1 112 6 #[.val (.ref a), .val (.ref b)] []
  exact k_retVoid d_sis_6 rfl (by decide) (by decide) ⟨rfl, R1⟩
theorem mt_sis (l : Launch) (Z : State) (a0 : Array Value) (hw : ∀ d ∈ tables_1, d.before a0 Z = true) (cs : Int32) (hcs : ¬ cs = 0) (SC : Sta Z Z.heap "java/lang/String" "COMPACT_STRINGS" "Z" (.int cs)) (hEW : EW Z a0 EL) (a b d : Addr) (N : Nat) (bs : List Int32) (h0 : Heap) (n0 : Nat) (OD : Old Z n0 h0) (SB : Sb Z h0 b d N bs) (ga : n0 ≤ a) (EA : Exa Z h0 a "java/lang/String") (FC : Fld Z h0 a "java/lang/String" "coder" "B" (.int 0)) (FV : Fld Z h0 a "java/lang/String" "value" "[B" .null) (hn : bs.length < N) (hn2 : bs.length ≤ 112) : Mt l Z M_sis [] n0 #[(.ref a), (.ref b)] h0 (fun v h => v = none ∧ Keep h0 h [a] ∧ ∃ e, Sg Z h a e bs) :=
  mt_of_kw (P := ([], fun _ => False)) pf_sis (fun m => by first | (simp [entryFrame, mkF, argsToLocals, Value.category]; done) | rfl) (kw_sis l Z a0 hw cs hcs SC hEW a b d N bs h0 n0 OD SB ga EA FC FV hn hn2)
abbrev M_tos : MD := ((⟨"java/lang/StringBuilder", "toString", "()Ljava/lang/String;"⟩ : MethodName), jdk_67_method_42_code, 1, (some (.object "java/lang/String")), { frames := 5, cells := 2, slots := 116, locals := 124 })
theorem d_tos_0 : decode jdk_67_method_42_code 0 = .ok (.new 18, 3) := by decide +kernel
theorem d_tos_3 : decode jdk_67_method_42_code 3 = .ok (.dup, 1) := by decide +kernel
theorem d_tos_4 : decode jdk_67_method_42_code 4 = .ok (.aload_n 0, 1) := by decide +kernel
theorem d_tos_5 : decode jdk_67_method_42_code 5 = .ok (.invokespecial 137, 3) := by decide +kernel
theorem d_tos_8 : decode jdk_67_method_42_code 8 = .ok (.areturn, 1) := by decide +kernel
theorem pd_tos : parseMethodDescriptor "()Ljava/lang/String;" = some ⟨[], (some (.object "java/lang/String"))⟩ := by decide +kernel
theorem pf_tos : plainFor (⟨"java/lang/StringBuilder", "toString", "()Ljava/lang/String;"⟩ : MethodName) = true := by first | exact plainFor_of_name (by first | (simp [plainName, overriddenIn]; done) | decide +kernel) | decide +kernel
set_option maxRecDepth 65536 in
set_option maxHeartbeats 40000000 in
theorem kw_tos (l : Launch) (Z : State) (a0 : Array Value) (hw : ∀ d ∈ tables_1, d.before a0 Z = true) (cs : Int32) (hcs : ¬ cs = 0) (SC : Sta Z Z.heap "java/lang/String" "COMPACT_STRINGS" "Z" (.int cs)) (hEW : EW Z a0 EL) (b d : Addr) (N : Nat) (bs : List Int32) (h0 : Heap) (n0 : Nat) (OD : Old Z n0 h0) (SB : Sb Z h0 b d N bs) (hn : bs.length < N) (hn2 : bs.length ≤ 112) : KW false l Z M_tos n0 (fun v h => ∃ a e, v = some (.ref a) ∧ Keep h0 h [] ∧ Sg Z h a e bs) ([], fun _ => False) h0 0 0 0 #[.val (.ref b)] [] := by
  have Z0 := OD.1 ▸ OD.2.1
  have K0 : Keep h0 h0 [] := Keep.refl _ _
  refine k_new d_tos_0 rfl (hw _ (List.mem_of_getElem? (i := 231) rfl)) (hw _ (List.mem_of_getElem? (i := 13) rfl)) (hw _ (List.mem_of_getElem? (i := 5) rfl)) (by decide) (by decide) ?_
  intro h2 a1 g6 E3 A4 D5
  have z7 : n0 ≤ h0.size := Z0
  have ge8 : n0 ≤ a1 := Nat.le_trans z7 (Nat.le_of_eq g6.symm)
  have gl9 : h0.size ≤ a1 := Nat.le_of_eq g6.symm
  have gh10 := Nat.le_trans K0.1 gl9
  have F11 : Fld Z h2 a1 "java/lang/String" "value" "[B" .null := D5 (Or.inr (hw _ (List.mem_of_getElem? (i := 26) rfl))) (ty := (.array .byte)) (by decide)
  have F12 : Fld Z h2 a1 "java/lang/String" "coder" "B" (.int (0 : Int32)) := D5 (Or.inr (hw _ (List.mem_of_getElem? (i := 28) rfl))) (ty := .byte) (by decide)
  refine KW.any (P' := ([], fun _ => False)) ?_
  show KW false l Z M_tos n0 (fun v h => ∃ a e, v = some (.ref a) ∧ Keep h0 h [] ∧ Sg Z h a e bs) ([], fun _ => False) h2 1 4 3 #[.val (.ref b)] [(.ref a1)]
  refine k_dup d_tos_3 rfl rfl ?_
  refine k_aloadN d_tos_4 rfl rfl rfl ?_
  have f13 := (K0.ext E3)
  have f14 := (OD.ext E3)
  refine k_callInit (a := a1) (argsL := [(.ref b)]) (rest := [(.ref a1)]) (W0 := 1) d_tos_5 rfl (mt_sis l Z a0 hw cs hcs SC hEW a1 b d N bs h2 n0 f14 (SB.ext E3) ge8 A4 F12 F11 hn hn2) Kp.strict rfl rfl (hw _ (List.mem_of_getElem? (i := 232) rfl)) (hw _ (List.mem_of_getElem? (i := 233) rfl)) (hw _ (List.mem_of_getElem? (i := 5) rfl)) (hw _ (List.mem_of_getElem? (i := 234) rfl)) (by decide) pd_sis rfl rfl rfl rfl (by decide) (by decide) (by decide) (by decide) ?_
  rintro _ hM - ⟨rfl, KM, e, SG⟩
  refine KW.any (P' := ([], fun _ => False)) ?_
  show KW false l Z M_tos n0 (fun v h => ∃ a e, v = some (.ref a) ∧ Keep h0 h [] ∧ Sg Z h a e bs) ([], fun _ => False) hM 2 116 8 #[.val (.ref b)] [(.ref a1)]
  have f15 := (f13.trans KM (allS (Or.inr gh10) all0))
  exact k_retRef d_tos_8 rfl rfl rfl (by decide) (by decide) ⟨a1, e, rfl, f15, SG⟩
theorem mt_tos (l : Launch) (Z : State) (a0 : Array Value) (hw : ∀ d ∈ tables_1, d.before a0 Z = true) (cs : Int32) (hcs : ¬ cs = 0) (SC : Sta Z Z.heap "java/lang/String" "COMPACT_STRINGS" "Z" (.int cs)) (hEW : EW Z a0 EL) (b d : Addr) (N : Nat) (bs : List Int32) (h0 : Heap) (n0 : Nat) (OD : Old Z n0 h0) (SB : Sb Z h0 b d N bs) (hn : bs.length < N) (hn2 : bs.length ≤ 112) : Mt l Z M_tos [] n0 #[(.ref b)] h0 (fun v h => ∃ a e, v = some (.ref a) ∧ Keep h0 h [] ∧ Sg Z h a e bs) :=
  mt_of_kw (P := ([], fun _ => False)) pf_tos (fun m => by first | (simp [entryFrame, mkF, argsToLocals, Value.category]; done) | rfl) (kw_tos l Z a0 hw cs hcs SC hEW b d N bs h0 n0 OD SB hn hn2)
def capO (n : Nat) : Nat := if n ≤ 55 then 55 else 112
theorem capO_lo {n : Nat} (h : n ≤ 55) : capO n = 55 := by unfold capO; rw [if_pos h]
theorem capO_hi {n : Nat} (h : ¬ n ≤ 55) : capO n = 112 := by unfold capO; rw [if_neg h]
theorem capO_le (n : Nat) : 55 ≤ capO n ∧ capO n ≤ 112 := by unfold capO; split <;> omega
theorem capO_fit {n : Nat} (h : n ≤ 112) : n ≤ capO n := by unfold capO; split <;> omega
def Sq (Z : State) (h : Heap) (b d : Addr) (bs : List Int32) : Prop := Sb Z h b d (capO bs.length) bs ∧ Fld Z h b "java/lang/AbstractStringBuilder" "maybeLatin1" "Z" (.int 0)
theorem Sq.keep {Z : State} {h h' : Heap} {b d : Addr} {bs : List Int32} {ws : List Addr} (S : Sq Z h b d bs) (K : Keep h h' ws) (q : b ∉ ws) (r : d ∉ ws) : Sq Z h' b d bs := ⟨S.1.keep K q r, S.2.keep K q⟩
theorem Sq.ext {Z : State} {h h' : Heap} {b d : Addr} {bs : List Int32} (S : Sq Z h b d bs) (K : Ext h h') : Sq Z h' b d bs := ⟨S.1.ext K, S.2.ext K⟩
theorem Sq.lt {Z : State} {h : Heap} {b d : Addr} {bs : List Int32} (S : Sq Z h b d bs) : b < h.size := S.1.lt
theorem Sq.ltv {Z : State} {h : Heap} {b d : Addr} {bs : List Int32} (S : Sq Z h b d bs) : d < h.size := S.1.ltv
theorem Mt.mono {l : Launch} {Z : State} {M : MD} {ws : List Jvm.Cond} {n0 : Nat} {as' : Array Value} {h0 : Heap} {Q Q' : Option Value → Heap → Prop} (K : Mt l Z M ws n0 as' h0 Q) (f : ∀ v h, Q v h → Q' v h) : Mt l Z M ws n0 as' h0 Q' := by
  intro p e ha hc hk s m args below hf hap hP hK
  obtain ⟨n, o, h1, h2, h3, v, L, e1, ⟨q1, q2, q3⟩, h5⟩ := K p e ha hc hk s m args below hf hap hP hK
  exact ⟨n, o, h1, h2, h3, v, L, e1, ⟨q1, q2, f _ _ q3⟩, h5⟩
def maxI (a b : Int32) : Int32 := if a < b then b else a
theorem minI_l {n N : Nat} (hN : N < 2147483648) (h : n ≤ N) : minI (Int32.ofNat n) (Int32.ofNat N) = Int32.ofNat n := by
  unfold minI; split
  · rename_i q
    rw [Int32.lt_iff_toInt_lt, ix_int hN, ix_int (by omega)] at q; omega
  · rfl
theorem laid_pre (xs : List Int32) (N : Nat) (h : xs.length ≤ N) : laid xs (List.replicate N 0) 0 0 xs.length = xs ++ List.replicate (N - xs.length) 0 := by
  unfold laid; simp
abbrev M_mxm : MD := ((⟨"java/lang/Math", "max", "(II)I"⟩ : MethodName), jdk_29_method_65_code, 2, (some .int), { frames := 0, cells := 0, slots := 0, locals := 0 })
theorem d_mxm_0 : decode jdk_29_method_65_code 0 = .ok (.iload_n 0, 1) := by decide +kernel
theorem d_mxm_1 : decode jdk_29_method_65_code 1 = .ok (.iload_n 1, 1) := by decide +kernel
theorem d_mxm_2 : decode jdk_29_method_65_code 2 = .ok (.if_icmp .lt 7, 3) := by decide +kernel
theorem d_mxm_5 : decode jdk_29_method_65_code 5 = .ok (.iload_n 0, 1) := by decide +kernel
theorem d_mxm_6 : decode jdk_29_method_65_code 6 = .ok (.goto 4, 3) := by decide +kernel
theorem d_mxm_9 : decode jdk_29_method_65_code 9 = .ok (.iload_n 1, 1) := by decide +kernel
theorem d_mxm_10 : decode jdk_29_method_65_code 10 = .ok (.ireturn, 1) := by decide +kernel
theorem pd_mxm : parseMethodDescriptor "(II)I" = some ⟨[.int, .int], (some .int)⟩ := by decide +kernel
theorem pf_mxm : plainFor (⟨"java/lang/Math", "max", "(II)I"⟩ : MethodName) = true := by first | exact plainFor_of_name (by first | (simp [plainName, overriddenIn]; done) | decide +kernel) | decide +kernel
set_option maxRecDepth 65536 in
set_option maxHeartbeats 40000000 in
theorem kw_mxm (l : Launch) (Z : State) (a0 : Array Value) (hw : ∀ d ∈ tables_1, d.before a0 Z = true) (cs : Int32) (hcs : ¬ cs = 0) (SC : Sta Z Z.heap "java/lang/String" "COMPACT_STRINGS" "Z" (.int cs)) (hEW : EW Z a0 EL) (x y : Int32) (h0 : Heap) (n0 : Nat) : KW false l Z M_mxm n0 (fun v h => v = some (.int (maxI x y)) ∧ h0 = h) ([], fun _ => False) h0 0 0 0 #[.val (.int x), .val (.int y)] [] := by
  refine k_iloadN d_mxm_0 rfl rfl ?_
  refine k_iloadN d_mxm_1 rfl rfl ?_
  refine k_icmp (pc1 := 9) (pc' := 5) d_mxm_2 (by decide) (by decide) rfl (fun (cd1 : x < y) => ?_) (fun (cd1 : ¬ x < y) => ?_)
  · skip
    refine k_iloadN d_mxm_9 rfl rfl ?_
    exact k_retInt d_mxm_10 rfl (by decide) (by decide) ⟨by unfold maxI; repeat (first | rfl | contradiction | split), rfl⟩
  · skip
    refine k_iloadN d_mxm_5 rfl rfl ?_
    refine k_goto (pc' := 10) d_mxm_6 (by decide) (by decide) ?_
    exact k_retInt d_mxm_10 rfl (by decide) (by decide) ⟨by unfold maxI; repeat (first | rfl | contradiction | split), rfl⟩
theorem mt_mxm (l : Launch) (Z : State) (a0 : Array Value) (hw : ∀ d ∈ tables_1, d.before a0 Z = true) (cs : Int32) (hcs : ¬ cs = 0) (SC : Sta Z Z.heap "java/lang/String" "COMPACT_STRINGS" "Z" (.int cs)) (hEW : EW Z a0 EL) (x y : Int32) (h0 : Heap) (n0 : Nat) : Mt l Z M_mxm [] n0 #[(.int x), (.int y)] h0 (fun v h => v = some (.int (maxI x y)) ∧ h0 = h) :=
  mt_of_kw (P := ([], fun _ => False)) pf_mxm (fun m => by first | (simp [entryFrame, mkF, argsToLocals, Value.category]; done) | rfl) (kw_mxm l Z a0 hw cs hcs SC hEW x y h0 n0)
abbrev M_nle : MD := ((⟨"jdk/internal/util/ArraysSupport", "newLength", "(III)I"⟩ : MethodName), jdk_48_method_27_code, 4, (some .int), { frames := 1, cells := 0, slots := 0, locals := 16 })
theorem d_nle_0 : decode jdk_48_method_27_code 0 = .ok (.iload_n 0, 1) := by decide +kernel
theorem d_nle_1 : decode jdk_48_method_27_code 1 = .ok (.iload_n 1, 1) := by decide +kernel
theorem d_nle_2 : decode jdk_48_method_27_code 2 = .ok (.iload_n 2, 1) := by decide +kernel
theorem d_nle_3 : decode jdk_48_method_27_code 3 = .ok (.invokestatic 194, 3) := by decide +kernel
theorem d_nle_6 : decode jdk_48_method_27_code 6 = .ok (.iadd, 1) := by decide +kernel
theorem d_nle_7 : decode jdk_48_method_27_code 7 = .ok (.istore_n 3, 1) := by decide +kernel
theorem d_nle_8 : decode jdk_48_method_27_code 8 = .ok (.iconst 0, 1) := by decide +kernel
theorem d_nle_9 : decode jdk_48_method_27_code 9 = .ok (.iload_n 3, 1) := by decide +kernel
theorem d_nle_10 : decode jdk_48_method_27_code 10 = .ok (.if_icmp .ge 11, 3) := by decide +kernel
theorem d_nle_13 : decode jdk_48_method_27_code 13 = .ok (.iload_n 3, 1) := by decide +kernel
theorem d_nle_14 : decode jdk_48_method_27_code 14 = .ok (.ldc 200, 2) := by decide +kernel
theorem d_nle_16 : decode jdk_48_method_27_code 16 = .ok (.if_icmp .gt 5, 3) := by decide +kernel
theorem d_nle_19 : decode jdk_48_method_27_code 19 = .ok (.iload_n 3, 1) := by decide +kernel
theorem d_nle_20 : decode jdk_48_method_27_code 20 = .ok (.ireturn, 1) := by decide +kernel
theorem d_nle_21 : decode jdk_48_method_27_code 21 = .ok (.iload_n 0, 1) := by decide +kernel
theorem d_nle_22 : decode jdk_48_method_27_code 22 = .ok (.iload_n 1, 1) := by decide +kernel
theorem d_nle_23 : decode jdk_48_method_27_code 23 = .ok (.invokestatic 201, 3) := by decide +kernel
theorem d_nle_26 : decode jdk_48_method_27_code 26 = .ok (.ireturn, 1) := by decide +kernel
theorem pd_nle : parseMethodDescriptor "(III)I" = some ⟨[.int, .int, .int], (some .int)⟩ := by decide +kernel
theorem pf_nle : plainFor (⟨"jdk/internal/util/ArraysSupport", "newLength", "(III)I"⟩ : MethodName) = true := by first | exact plainFor_of_name (by first | (simp [plainName, overriddenIn]; done) | decide +kernel) | decide +kernel
theorem maxI_57 {g : Int32} (h : g.toInt ≤ 57) : maxI g 57 = 57 := by
  unfold maxI; split
  · rfl
  · rename_i q
    rw [Int32.lt_iff_toInt_lt, show (57 : Int32).toInt = 57 from rfl] at q
    refine Int32.toInt_inj.mp ?_
    rw [show (57 : Int32).toInt = 57 from rfl]; omega
set_option maxRecDepth 65536 in
set_option maxHeartbeats 40000000 in
theorem kw_nle (l : Launch) (Z : State) (a0 : Array Value) (hw : ∀ d ∈ tables_1, d.before a0 Z = true) (cs : Int32) (hcs : ¬ cs = 0) (SC : Sta Z Z.heap "java/lang/String" "COMPACT_STRINGS" "Z" (.int cs)) (hEW : EW Z a0 EL) (g : Int32) (h0 : Heap) (n0 : Nat) (hg : g.toInt ≤ 57) : KW false l Z M_nle n0 (fun v h => v = some (.int 112) ∧ h0 = h) ([], fun _ => False) h0 0 0 0 #[.val (.int (55 : Int32)), .val (.int g), .val (.int (57 : Int32)), .unset] [] := by
  refine k_iloadN d_nle_0 rfl rfl ?_
  refine k_iloadN d_nle_1 rfl rfl ?_
  refine k_iloadN d_nle_2 rfl rfl ?_
  refine k_callStatic (argsL := [(.int g), (.int (57 : Int32))]) (rest := [(.int (55 : Int32))]) (W0 := 1) d_nle_3 rfl (mt_mxm l Z a0 hw cs hcs SC hEW g 57 h0 n0) Kp.strict (hw _ (List.mem_of_getElem? (i := 383) rfl)) (hw _ (List.mem_of_getElem? (i := 313) rfl)) (hw _ (List.mem_of_getElem? (i := 257) rfl)) (hw _ (List.mem_of_getElem? (i := 314) rfl)) (by decide) pd_mxm rfl rfl rfl rfl (by decide) (by decide) (by decide) (by decide) ?_
  rintro _ _ - ⟨rfl, rfl⟩
  rw [maxI_57 hg]
  refine KW.any (P' := ([], fun _ => False)) ?_
  show KW false l Z M_nle n0 (fun v h => v = some (.int 112) ∧ h0 = h) ([], fun _ => False) h0 0 0 6 #[.val (.int (55 : Int32)), .val (.int g), .val (.int (57 : Int32)), .unset] [(.int (57 : Int32)), (.int (55 : Int32))]
  refine k_iadd d_nle_6 rfl ?_
  refine KW.top (congrArg Value.int (show (55 : Int32) + (57 : Int32) = 112 by decide)) ?_
  show KW false l Z M_nle n0 (fun v h => v = some (.int 112) ∧ h0 = h) ([], fun _ => False) h0 0 0 7 #[.val (.int (55 : Int32)), .val (.int g), .val (.int (57 : Int32)), .unset] [(.int (112 : Int32))]
  refine k_istoreN (Ls' := #[.val (.int (55 : Int32)), .val (.int g), .val (.int (57 : Int32)), .val (.int (112 : Int32))]) d_nle_7 rfl rfl ?_
  refine k_iconst (z := (0 : Int32)) d_nle_8 rfl (by decide) ?_
  refine k_iloadN d_nle_9 rfl rfl ?_
  refine k_icmp (pc1 := 21) (pc' := 13) d_nle_10 (by decide) (by decide) rfl (fun (cd1 : ¬ (0 : Int32) < (112 : Int32)) => False.elim (by exact absurd cd1 (by decide))) (fun (cd1 : (0 : Int32) < (112 : Int32)) => ?_)
  refine k_iloadN d_nle_13 rfl rfl ?_
  refine k_ldcI d_nle_14 rfl (hw _ (List.mem_of_getElem? (i := 384) rfl)) ?_
  refine k_icmp (pc1 := 21) (pc' := 19) d_nle_16 (by decide) (by decide) rfl (fun (cd2 : (2147483639 : Int32) < (112 : Int32)) => False.elim (by exact absurd cd2 (by decide))) (fun (cd2 : ¬ (2147483639 : Int32) < (112 : Int32)) => ?_)
  refine k_iloadN d_nle_19 rfl rfl ?_
  exact k_retInt d_nle_20 rfl (by decide) (by decide) ⟨rfl, rfl⟩
theorem mt_nle (l : Launch) (Z : State) (a0 : Array Value) (hw : ∀ d ∈ tables_1, d.before a0 Z = true) (cs : Int32) (hcs : ¬ cs = 0) (SC : Sta Z Z.heap "java/lang/String" "COMPACT_STRINGS" "Z" (.int cs)) (hEW : EW Z a0 EL) (g : Int32) (h0 : Heap) (n0 : Nat) (hg : g.toInt ≤ 57) : Mt l Z M_nle [] n0 #[(.int (55 : Int32)), (.int g), (.int (57 : Int32))] h0 (fun v h => v = some (.int 112) ∧ h0 = h) :=
  mt_of_kw (P := ([], fun _ => False)) pf_nle (fun m => by first | (simp [entryFrame, mkF, argsToLocals, Value.category]; done) | rfl) (kw_nle l Z a0 hw cs hcs SC hEW g h0 n0 hg)
abbrev M_ncp : MD := ((⟨"java/lang/AbstractStringBuilder", "newCapacity", "(I)I"⟩ : MethodName), jdk_68_method_10_code, 6, (some .int), { frames := 2, cells := 0, slots := 0, locals := 36 })
theorem d_ncp_0 : decode jdk_68_method_10_code 0 = .ok (.aload_n 0, 1) := by decide +kernel
theorem d_ncp_1 : decode jdk_68_method_10_code 1 = .ok (.getfield 15, 3) := by decide +kernel
theorem d_ncp_4 : decode jdk_68_method_10_code 4 = .ok (.arraylength, 1) := by decide +kernel
theorem d_ncp_5 : decode jdk_68_method_10_code 5 = .ok (.istore_n 2, 1) := by decide +kernel
theorem d_ncp_6 : decode jdk_68_method_10_code 6 = .ok (.iload_n 1, 1) := by decide +kernel
theorem d_ncp_7 : decode jdk_68_method_10_code 7 = .ok (.aload_n 0, 1) := by decide +kernel
theorem d_ncp_8 : decode jdk_68_method_10_code 8 = .ok (.getfield 22, 3) := by decide +kernel
theorem d_ncp_11 : decode jdk_68_method_10_code 11 = .ok (.ishl, 1) := by decide +kernel
theorem d_ncp_12 : decode jdk_68_method_10_code 12 = .ok (.istore_n 3, 1) := by decide +kernel
theorem d_ncp_13 : decode jdk_68_method_10_code 13 = .ok (.iload_n 3, 1) := by decide +kernel
theorem d_ncp_14 : decode jdk_68_method_10_code 14 = .ok (.iload_n 2, 1) := by decide +kernel
theorem d_ncp_15 : decode jdk_68_method_10_code 15 = .ok (.isub, 1) := by decide +kernel
theorem d_ncp_16 : decode jdk_68_method_10_code 16 = .ok (.istore 4, 2) := by decide +kernel
theorem d_ncp_18 : decode jdk_68_method_10_code 18 = .ok (.iload_n 2, 1) := by decide +kernel
theorem d_ncp_19 : decode jdk_68_method_10_code 19 = .ok (.iload 4, 2) := by decide +kernel
theorem d_ncp_21 : decode jdk_68_method_10_code 21 = .ok (.iload_n 2, 1) := by decide +kernel
theorem d_ncp_22 : decode jdk_68_method_10_code 22 = .ok (.iconst 2, 1) := by decide +kernel
theorem d_ncp_23 : decode jdk_68_method_10_code 23 = .ok (.aload_n 0, 1) := by decide +kernel
theorem d_ncp_24 : decode jdk_68_method_10_code 24 = .ok (.getfield 22, 3) := by decide +kernel
theorem d_ncp_27 : decode jdk_68_method_10_code 27 = .ok (.ishl, 1) := by decide +kernel
theorem d_ncp_28 : decode jdk_68_method_10_code 28 = .ok (.iadd, 1) := by decide +kernel
theorem d_ncp_29 : decode jdk_68_method_10_code 29 = .ok (.invokestatic 114, 3) := by decide +kernel
theorem d_ncp_32 : decode jdk_68_method_10_code 32 = .ok (.istore 5, 2) := by decide +kernel
theorem d_ncp_34 : decode jdk_68_method_10_code 34 = .ok (.iload 5, 2) := by decide +kernel
theorem d_ncp_36 : decode jdk_68_method_10_code 36 = .ok (.ldc 39, 2) := by decide +kernel
theorem d_ncp_38 : decode jdk_68_method_10_code 38 = .ok (.if_icmp .ne 13, 3) := by decide +kernel
theorem d_ncp_41 : decode jdk_68_method_10_code 41 = .ok (.new 120, 3) := by decide +kernel
theorem d_ncp_44 : decode jdk_68_method_10_code 44 = .ok (.dup, 1) := by decide +kernel
theorem d_ncp_45 : decode jdk_68_method_10_code 45 = .ok (.ldc 122, 2) := by decide +kernel
theorem d_ncp_47 : decode jdk_68_method_10_code 47 = .ok (.invokespecial 124, 3) := by decide +kernel
theorem d_ncp_50 : decode jdk_68_method_10_code 50 = .ok (.athrow, 1) := by decide +kernel
theorem d_ncp_51 : decode jdk_68_method_10_code 51 = .ok (.iload 5, 2) := by decide +kernel
theorem d_ncp_53 : decode jdk_68_method_10_code 53 = .ok (.aload_n 0, 1) := by decide +kernel
theorem d_ncp_54 : decode jdk_68_method_10_code 54 = .ok (.getfield 22, 3) := by decide +kernel
theorem d_ncp_57 : decode jdk_68_method_10_code 57 = .ok (.ishr, 1) := by decide +kernel
theorem d_ncp_58 : decode jdk_68_method_10_code 58 = .ok (.ireturn, 1) := by decide +kernel
theorem pd_ncp : parseMethodDescriptor "(I)I" = some ⟨[.int], (some .int)⟩ := by decide +kernel
theorem pf_ncp : plainFor (⟨"java/lang/AbstractStringBuilder", "newCapacity", "(I)I"⟩ : MethodName) = true := by first | exact plainFor_of_name (by first | (simp [plainName, overriddenIn]; done) | decide +kernel) | decide +kernel
theorem own_g57 {mm : Nat} {m1 : Int32} (hm : m1 = Int32.ofNat mm) (h1 : 55 < mm) (h2 : mm ≤ 112) : (m1 - (55 : Int32)).toInt ≤ 57 := by
  subst hm
  have e := c_isub (Int32.ofNat mm) 55; have r := rng32 (Int32.ofNat mm - 55)
  rw [ix_int (by omega), show (55 : Int32).toInt = 55 from rfl] at e; omega
set_option maxRecDepth 65536 in
set_option maxHeartbeats 40000000 in
theorem kw_ncp (l : Launch) (Z : State) (a0 : Array Value) (hw : ∀ d ∈ tables_1, d.before a0 Z = true) (cs : Int32) (hcs : ¬ cs = 0) (SC : Sta Z Z.heap "java/lang/String" "COMPACT_STRINGS" "Z" (.int cs)) (hEW : EW Z a0 EL) (b d : Addr) (bs : List Int32) (h0 : Heap) (n0 : Nat) (OD : Old Z n0 h0) (SB : Sb Z h0 b d 55 bs) (mm : Nat) (m1 : Int32) (hm : m1 = Int32.ofNat mm) (h1 : 55 < mm) (h2 : mm ≤ 112) : KW false l Z M_ncp n0 (fun v h => v = some (.int 112) ∧ h0 = h) ([], fun _ => False) h0 0 0 0 #[.val (.ref b), .val (.int m1), .unset, .unset, .unset, .unset] [] := by
  obtain ⟨ckB, zs, EB, VB, CB, NB, AB, hN, hN2⟩ := id SB
  refine k_aloadN d_ncp_0 rfl rfl rfl ?_
  refine k_getField d_ncp_1 rfl (hw _ (List.mem_of_getElem? (i := 47) rfl)) Via.refl VB ?_
  refine k_arrlen d_ncp_4 rfl AB ?_
  refine k_istoreN (Ls' := #[.val (.ref b), .val (.int m1), .val (.int (55 : Int32)), .unset, .unset, .unset]) d_ncp_5 rfl rfl ?_
  refine k_iloadN d_ncp_6 rfl rfl ?_
  refine k_aloadN d_ncp_7 rfl rfl rfl ?_
  refine k_getField d_ncp_8 rfl (hw _ (List.mem_of_getElem? (i := 49) rfl)) Via.refl CB ?_
  refine k_ishl d_ncp_11 rfl ?_
  refine KW.top (congrArg Value.int (shl0 _)) ?_
  show KW false l Z M_ncp n0 (fun v h => v = some (.int 112) ∧ h0 = h) ([], fun _ => False) h0 0 0 12 #[.val (.ref b), .val (.int m1), .val (.int (55 : Int32)), .unset, .unset, .unset] [(.int m1)]
  refine k_istoreN (Ls' := #[.val (.ref b), .val (.int m1), .val (.int (55 : Int32)), .val (.int m1), .unset, .unset]) d_ncp_12 rfl rfl ?_
  refine k_iloadN d_ncp_13 rfl rfl ?_
  refine k_iloadN d_ncp_14 rfl rfl ?_
  refine k_isub d_ncp_15 rfl ?_
  refine k_istore (Ls' := #[.val (.ref b), .val (.int m1), .val (.int (55 : Int32)), .val (.int m1), .val (.int (m1 - (55 : Int32))), .unset]) d_ncp_16 rfl rfl ?_
  refine k_iloadN d_ncp_18 rfl rfl ?_
  refine k_iload d_ncp_19 rfl rfl ?_
  refine k_iloadN d_ncp_21 rfl rfl ?_
  refine k_iconst (z := (2 : Int32)) d_ncp_22 rfl (by decide) ?_
  refine k_aloadN d_ncp_23 rfl rfl rfl ?_
  refine k_getField d_ncp_24 rfl (hw _ (List.mem_of_getElem? (i := 49) rfl)) Via.refl CB ?_
  refine k_ishl d_ncp_27 rfl ?_
  refine KW.top (congrArg Value.int (show (2 : Int32) <<< ((0 : Int32) &&& 31) = 2 by decide)) ?_
  show KW false l Z M_ncp n0 (fun v h => v = some (.int 112) ∧ h0 = h) ([], fun _ => False) h0 0 0 28 #[.val (.ref b), .val (.int m1), .val (.int (55 : Int32)), .val (.int m1), .val (.int (m1 - (55 : Int32))), .unset] [(.int (2 : Int32)), (.int (55 : Int32)), (.int (m1 - (55 : Int32))), (.int (55 : Int32))]
  refine k_iadd d_ncp_28 rfl ?_
  refine KW.top (congrArg Value.int (show (55 : Int32) + (2 : Int32) = 57 by decide)) ?_
  show KW false l Z M_ncp n0 (fun v h => v = some (.int 112) ∧ h0 = h) ([], fun _ => False) h0 0 0 29 #[.val (.ref b), .val (.int m1), .val (.int (55 : Int32)), .val (.int m1), .val (.int (m1 - (55 : Int32))), .unset] [(.int (57 : Int32)), (.int (m1 - (55 : Int32))), (.int (55 : Int32))]
  refine k_callStatic (argsL := [(.int (55 : Int32)), (.int (m1 - (55 : Int32))), (.int (57 : Int32))]) (rest := []) (W0 := 0) d_ncp_29 rfl (mt_nle l Z a0 hw cs hcs SC hEW (m1 - (55 : Int32)) h0 n0 (own_g57 hm h1 h2)) Kp.strict (hw _ (List.mem_of_getElem? (i := 379) rfl)) (hw _ (List.mem_of_getElem? (i := 380) rfl)) (hw _ (List.mem_of_getElem? (i := 381) rfl)) (hw _ (List.mem_of_getElem? (i := 382) rfl)) (by decide) pd_nle rfl rfl rfl rfl (by decide) (by decide) (by decide) (by decide) ?_
  rintro _ _ - ⟨rfl, rfl⟩
  refine KW.any (P' := ([], fun _ => False)) ?_
  show KW false l Z M_ncp n0 (fun v h => v = some (.int 112) ∧ h0 = h) ([], fun _ => False) h0 0 0 32 #[.val (.ref b), .val (.int m1), .val (.int (55 : Int32)), .val (.int m1), .val (.int (m1 - (55 : Int32))), .unset] [(.int (112 : Int32))]
  refine k_istore (Ls' := #[.val (.ref b), .val (.int m1), .val (.int (55 : Int32)), .val (.int m1), .val (.int (m1 - (55 : Int32))), .val (.int (112 : Int32))]) d_ncp_32 rfl rfl ?_
  refine k_iload d_ncp_34 rfl rfl ?_
  refine k_ldcI d_ncp_36 rfl (hw _ (List.mem_of_getElem? (i := 385) rfl)) ?_
  refine k_icmp (pc1 := 51) (pc' := 41) d_ncp_38 (by decide) (by decide) rfl (fun (cd1 : ¬ (112 : Int32) = (2147483647 : Int32)) => ?_) (fun (cd1 : (112 : Int32) = (2147483647 : Int32)) => False.elim (by exact absurd cd1 (by decide)))
  refine k_iload d_ncp_51 rfl rfl ?_
  refine k_aloadN d_ncp_53 rfl rfl rfl ?_
  refine k_getField d_ncp_54 rfl (hw _ (List.mem_of_getElem? (i := 49) rfl)) Via.refl CB ?_
  refine k_ishr d_ncp_57 rfl ?_
  refine KW.top (congrArg Value.int (show (112 : Int32) >>> ((0 : Int32) &&& 31) = 112 by decide)) ?_
  show KW false l Z M_ncp n0 (fun v h => v = some (.int 112) ∧ h0 = h) ([], fun _ => False) h0 0 0 58 #[.val (.ref b), .val (.int m1), .val (.int (55 : Int32)), .val (.int m1), .val (.int (m1 - (55 : Int32))), .val (.int (112 : Int32))] [(.int (112 : Int32))]
  exact k_retInt d_ncp_58 rfl (by decide) (by decide) ⟨rfl, rfl⟩
theorem mt_ncp (l : Launch) (Z : State) (a0 : Array Value) (hw : ∀ d ∈ tables_1, d.before a0 Z = true) (cs : Int32) (hcs : ¬ cs = 0) (SC : Sta Z Z.heap "java/lang/String" "COMPACT_STRINGS" "Z" (.int cs)) (hEW : EW Z a0 EL) (b d : Addr) (bs : List Int32) (h0 : Heap) (n0 : Nat) (OD : Old Z n0 h0) (SB : Sb Z h0 b d 55 bs) (mm : Nat) (m1 : Int32) (hm : m1 = Int32.ofNat mm) (h1 : 55 < mm) (h2 : mm ≤ 112) : Mt l Z M_ncp [] n0 #[(.ref b), (.int m1)] h0 (fun v h => v = some (.int 112) ∧ h0 = h) :=
  mt_of_kw (P := ([], fun _ => False)) pf_ncp (fun m => by first | (simp [entryFrame, mkF, argsToLocals, Value.category]; done) | rfl) (kw_ncp l Z a0 hw cs hcs SC hEW b d bs h0 n0 OD SB mm m1 hm h1 h2)
abbrev M_cpo : MD := ((⟨"java/util/Arrays", "copyOf", "([BI)[B"⟩ : MethodName), jdk_65_method_121_code, 3, (some (.array .byte)), { frames := 1, cells := 1, slots := 112, locals := 48 })
theorem d_cpo_0 : decode jdk_65_method_121_code 0 = .ok (.iload_n 1, 1) := by decide +kernel
theorem d_cpo_1 : decode jdk_65_method_121_code 1 = .ok (.aload_n 0, 1) := by decide +kernel
theorem d_cpo_2 : decode jdk_65_method_121_code 2 = .ok (.arraylength, 1) := by decide +kernel
theorem d_cpo_3 : decode jdk_65_method_121_code 3 = .ok (.if_icmp .ne 11, 3) := by decide +kernel
theorem d_cpo_6 : decode jdk_65_method_121_code 6 = .ok (.aload_n 0, 1) := by decide +kernel
theorem d_cpo_7 : decode jdk_65_method_121_code 7 = .ok (.invokevirtual 310, 3) := by decide +kernel
theorem d_cpo_10 : decode jdk_65_method_121_code 10 = .ok (.checkcast 311, 3) := by decide +kernel
theorem d_cpo_13 : decode jdk_65_method_121_code 13 = .ok (.areturn, 1) := by decide +kernel
theorem d_cpo_14 : decode jdk_65_method_121_code 14 = .ok (.iload_n 1, 1) := by decide +kernel
theorem d_cpo_15 : decode jdk_65_method_121_code 15 = .ok (.newarray .byte, 2) := by decide +kernel
theorem d_cpo_17 : decode jdk_65_method_121_code 17 = .ok (.astore_n 2, 1) := by decide +kernel
theorem d_cpo_18 : decode jdk_65_method_121_code 18 = .ok (.aload_n 0, 1) := by decide +kernel
theorem d_cpo_19 : decode jdk_65_method_121_code 19 = .ok (.iconst 0, 1) := by decide +kernel
theorem d_cpo_20 : decode jdk_65_method_121_code 20 = .ok (.aload_n 2, 1) := by decide +kernel
theorem d_cpo_21 : decode jdk_65_method_121_code 21 = .ok (.iconst 0, 1) := by decide +kernel
theorem d_cpo_22 : decode jdk_65_method_121_code 22 = .ok (.aload_n 0, 1) := by decide +kernel
theorem d_cpo_23 : decode jdk_65_method_121_code 23 = .ok (.arraylength, 1) := by decide +kernel
theorem d_cpo_24 : decode jdk_65_method_121_code 24 = .ok (.iload_n 1, 1) := by decide +kernel
theorem d_cpo_25 : decode jdk_65_method_121_code 25 = .ok (.invokestatic 304, 3) := by decide +kernel
theorem d_cpo_28 : decode jdk_65_method_121_code 28 = .ok (.invokestatic 150, 3) := by decide +kernel
theorem d_cpo_31 : decode jdk_65_method_121_code 31 = .ok (.aload_n 2, 1) := by decide +kernel
theorem d_cpo_32 : decode jdk_65_method_121_code 32 = .ok (.areturn, 1) := by decide +kernel
theorem pd_cpo : parseMethodDescriptor "([BI)[B" = some ⟨[(.array .byte), .int], (some (.array .byte))⟩ := by decide +kernel
theorem pf_cpo : plainFor (⟨"java/util/Arrays", "copyOf", "([BI)[B"⟩ : MethodName) = true := by first | exact plainFor_of_name (by first | (simp [plainName, overriddenIn]; done) | decide +kernel) | decide +kernel
set_option maxRecDepth 65536 in
set_option maxHeartbeats 40000000 in
theorem kw_cpo (l : Launch) (Z : State) (a0 : Array Value) (hw : ∀ d ∈ tables_1, d.before a0 Z = true) (cs : Int32) (hcs : ¬ cs = 0) (SC : Sta Z Z.heap "java/lang/String" "COMPACT_STRINGS" "Z" (.int cs)) (hEW : EW Z a0 EL) (d : Addr) (ck : ClassId) (L : List Int32) (h0 : Heap) (n0 : Nat) (OD : Old Z n0 h0) (D : Arv Z h0 d ck .byte (Int32.ofNat L.length) (L.map Value.int) (.int 0)) (hL : L.length = 55) : KW false l Z M_cpo n0 (fun v h => ∃ e ck', v = some (.ref e) ∧ h0.size ≤ e ∧ n0 ≤ e ∧ Keep h0 h [] ∧ Arv Z h e ck' .byte (Int32.ofNat 112) ((L ++ List.replicate (112 - L.length) 0).map Value.int) (.int 0)) ([], fun _ => False) h0 0 0 0 #[.val (.ref d), .val (.int (Int32.ofNat 112)), .unset] [] := by
  have Z0 := OD.1 ▸ OD.2.1
  have K0 : Keep h0 h0 [] := Keep.refl _ _
  refine k_iloadN d_cpo_0 rfl rfl ?_
  refine k_aloadN d_cpo_1 rfl rfl rfl ?_
  refine k_arrlen d_cpo_2 rfl D ?_
  refine k_icmp (pc1 := 14) (pc' := 6) d_cpo_3 (by decide) (by decide) rfl (fun (cd1 : ¬ (Int32.ofNat 112) = (Int32.ofNat L.length)) => ?_) (fun (cd1 : (Int32.ofNat 112) = (Int32.ofNat L.length)) => False.elim (by exact ix_ne (i := 112) (by decide) (by omega) (by omega) cd1))
  refine k_iloadN d_cpo_14 rfl rfl ?_
  refine k_newarr (cap := 112) d_cpo_15 rfl (hw _ (List.mem_of_getElem? (i := 17) rfl)) (ix_nn (by decide)) (by decide) (by decide) (by decide) (by decide) ?_
  intro h2 a1 ck6 g5 E3 V4
  have ne7 : d ≠ a1 := Nat.ne_of_lt (Nat.lt_of_lt_of_eq D.lt g5.symm)
  have z9 : n0 ≤ h0.size := Z0
  have ge8 : n0 ≤ a1 := Nat.le_trans z9 (Nat.le_of_eq g5.symm)
  have gl10 : h0.size ≤ a1 := Nat.le_of_eq g5.symm
  have gh11 := Nat.le_trans K0.1 gl10
  refine KW.any (P' := ([], fun _ => False)) ?_
  show KW false l Z M_cpo n0 (fun v h => ∃ e ck', v = some (.ref e) ∧ h0.size ≤ e ∧ n0 ≤ e ∧ Keep h0 h [] ∧ Arv Z h e ck' .byte (Int32.ofNat 112) ((L ++ List.replicate (112 - L.length) 0).map Value.int) (.int 0)) ([], fun _ => False) h2 1 112 17 #[.val (.ref d), .val (.int (Int32.ofNat 112)), .unset] [(.ref a1)]
  refine k_astoreN (Ls' := #[.val (.ref d), .val (.int (Int32.ofNat 112)), .val (.ref a1)]) d_cpo_17 rfl rfl rfl ?_
  refine k_aloadN d_cpo_18 rfl rfl rfl ?_
  refine k_iconst (z := (0 : Int32)) d_cpo_19 rfl (by decide) ?_
  refine k_aloadN d_cpo_20 rfl rfl rfl ?_
  refine k_iconst (z := (0 : Int32)) d_cpo_21 rfl (by decide) ?_
  refine k_aloadN d_cpo_22 rfl rfl rfl ?_
  have f12 := (D.ext E3)
  refine k_arrlen d_cpo_23 rfl f12 ?_
  refine k_iloadN d_cpo_24 rfl rfl ?_
  refine k_callStatic (argsL := [(.int (Int32.ofNat L.length)), (.int (Int32.ofNat 112))]) (rest := [(.int (0 : Int32)), (.ref a1), (.int (0 : Int32)), (.ref d)]) (W0 := 4) d_cpo_25 rfl (mt_mnm l Z a0 hw cs hcs SC hEW _ _ h2 n0) Kp.strict (hw _ (List.mem_of_getElem? (i := 255) rfl)) (hw _ (List.mem_of_getElem? (i := 256) rfl)) (hw _ (List.mem_of_getElem? (i := 257) rfl)) (hw _ (List.mem_of_getElem? (i := 258) rfl)) (by decide) pd_mnm rfl rfl rfl rfl (by decide) (by decide) (by decide) (by decide) ?_
  rintro _ _ - ⟨rfl, rfl⟩
  rw [minI_l (by decide) (by omega)]
  refine KW.any (P' := ([], fun _ => False)) ?_
  show KW false l Z M_cpo n0 (fun v h => ∃ e ck', v = some (.ref e) ∧ h0.size ≤ e ∧ n0 ≤ e ∧ Keep h0 h [] ∧ Arv Z h e ck' .byte (Int32.ofNat 112) ((L ++ List.replicate (112 - L.length) 0).map Value.int) (.int 0)) ([], fun _ => False) h2 1 112 28 #[.val (.ref d), .val (.int (Int32.ofNat 112)), .val (.ref a1)] [(.int (Int32.ofNat L.length)), (.int (0 : Int32)), (.ref a1), (.int (0 : Int32)), (.ref d)]
  have f13 := (K0.ext E3)
  have B2 : Arv Z h2 a1 ck6 .byte (Int32.ofNat (List.replicate 112 (0 : Int32)).length) ((List.replicate 112 (0 : Int32)).map Value.int) (.int 0) := by rw [List.length_replicate, List.map_replicate]; exact Arv.pad V4 (pad_rep [] _ 112)
  refine k_acopy (o := 0) (q := 0) (m' := L.length) (W0 := 0) d_cpo_28 rfl (hw _ (List.mem_of_getElem? (i := 259) rfl)) (hw _ (List.mem_of_getElem? (i := 147) rfl)) (hw _ (List.mem_of_getElem? (i := 145) rfl)) (hw _ (List.mem_of_getElem? (i := 146) rfl)) (by omega) (by rw [List.length_replicate]; decide) f12 B2 (by omega) (by rw [List.length_replicate]; omega) ge8 (fun q => by cases q) rfl rfl (by decide) (by decide) ?_
  intro hM KM VM
  rw [List.length_replicate, laid_pre L 112 (by omega)] at VM
  refine KW.any (P' := ([], fun _ => False)) ?_
  show KW false l Z M_cpo n0 (fun v h => ∃ e ck', v = some (.ref e) ∧ h0.size ≤ e ∧ n0 ≤ e ∧ Keep h0 h [] ∧ Arv Z h e ck' .byte (Int32.ofNat 112) ((L ++ List.replicate (112 - L.length) 0).map Value.int) (.int 0)) ([], fun _ => False) hM 1 112 31 #[.val (.ref d), .val (.int (Int32.ofNat 112)), .val (.ref a1)] []
  refine k_aloadN d_cpo_31 rfl rfl rfl ?_
  have f14 := (f13.trans KM (allS (Or.inr gh11) all0))
  exact k_retRef d_cpo_32 rfl rfl rfl (by decide) (by decide) ⟨a1, ck6, rfl, gl10, ge8, f14, VM⟩
theorem mt_cpo (l : Launch) (Z : State) (a0 : Array Value) (hw : ∀ d ∈ tables_1, d.before a0 Z = true) (cs : Int32) (hcs : ¬ cs = 0) (SC : Sta Z Z.heap "java/lang/String" "COMPACT_STRINGS" "Z" (.int cs)) (hEW : EW Z a0 EL) (d : Addr) (ck : ClassId) (L : List Int32) (h0 : Heap) (n0 : Nat) (OD : Old Z n0 h0) (D : Arv Z h0 d ck .byte (Int32.ofNat L.length) (L.map Value.int) (.int 0)) (hL : L.length = 55) : Mt l Z M_cpo [] n0 #[(.ref d), (.int (Int32.ofNat 112))] h0 (fun v h => ∃ e ck', v = some (.ref e) ∧ h0.size ≤ e ∧ n0 ≤ e ∧ Keep h0 h [] ∧ Arv Z h e ck' .byte (Int32.ofNat 112) ((L ++ List.replicate (112 - L.length) 0).map Value.int) (.int 0)) :=
  mt_of_kw (P := ([], fun _ => False)) pf_cpo (fun m => by first | (simp [entryFrame, mkF, argsToLocals, Value.category]; done) | rfl) (kw_cpo l Z a0 hw cs hcs SC hEW d ck L h0 n0 OD D hL)
abbrev M_ece : MD := ((⟨"java/lang/AbstractStringBuilder", "ensureCapacityInternal", "(I)V"⟩ : MethodName), jdk_68_method_9_code, 3, none, { frames := 3, cells := 1, slots := 112, locals := 64 })
theorem d_ece_0 : decode jdk_68_method_9_code 0 = .ok (.aload_n 0, 1) := by decide +kernel
theorem d_ece_1 : decode jdk_68_method_9_code 1 = .ok (.getfield 15, 3) := by decide +kernel
theorem d_ece_4 : decode jdk_68_method_9_code 4 = .ok (.arraylength, 1) := by decide +kernel
theorem d_ece_5 : decode jdk_68_method_9_code 5 = .ok (.aload_n 0, 1) := by decide +kernel
theorem d_ece_6 : decode jdk_68_method_9_code 6 = .ok (.getfield 22, 3) := by decide +kernel
theorem d_ece_9 : decode jdk_68_method_9_code 9 = .ok (.ishr, 1) := by decide +kernel
theorem d_ece_10 : decode jdk_68_method_9_code 10 = .ok (.istore_n 2, 1) := by decide +kernel
theorem d_ece_11 : decode jdk_68_method_9_code 11 = .ok (.iload_n 1, 1) := by decide +kernel
theorem d_ece_12 : decode jdk_68_method_9_code 12 = .ok (.iload_n 2, 1) := by decide +kernel
theorem d_ece_13 : decode jdk_68_method_9_code 13 = .ok (.isub, 1) := by decide +kernel
theorem d_ece_14 : decode jdk_68_method_9_code 14 = .ok (.ifCond .le 24, 3) := by decide +kernel
theorem d_ece_17 : decode jdk_68_method_9_code 17 = .ok (.aload_n 0, 1) := by decide +kernel
theorem d_ece_18 : decode jdk_68_method_9_code 18 = .ok (.aload_n 0, 1) := by decide +kernel
theorem d_ece_19 : decode jdk_68_method_9_code 19 = .ok (.getfield 15, 3) := by decide +kernel
theorem d_ece_22 : decode jdk_68_method_9_code 22 = .ok (.aload_n 0, 1) := by decide +kernel
theorem d_ece_23 : decode jdk_68_method_9_code 23 = .ok (.iload_n 1, 1) := by decide +kernel
theorem d_ece_24 : decode jdk_68_method_9_code 24 = .ok (.invokevirtual 104, 3) := by decide +kernel
theorem d_ece_27 : decode jdk_68_method_9_code 27 = .ok (.aload_n 0, 1) := by decide +kernel
theorem d_ece_28 : decode jdk_68_method_9_code 28 = .ok (.getfield 22, 3) := by decide +kernel
theorem d_ece_31 : decode jdk_68_method_9_code 31 = .ok (.ishl, 1) := by decide +kernel
theorem d_ece_32 : decode jdk_68_method_9_code 32 = .ok (.invokestatic 108, 3) := by decide +kernel
theorem d_ece_35 : decode jdk_68_method_9_code 35 = .ok (.putfield 15, 3) := by decide +kernel
theorem d_ece_38 : decode jdk_68_method_9_code 38 = .ok (.return_, 1) := by decide +kernel
theorem pd_ece : parseMethodDescriptor "(I)V" = some ⟨[.int], none⟩ := by decide +kernel
theorem pf_ece : plainFor (⟨"java/lang/AbstractStringBuilder", "ensureCapacityInternal", "(I)V"⟩ : MethodName) = true := by first | exact plainFor_of_name (by first | (simp [plainName, overriddenIn]; done) | decide +kernel) | decide +kernel
set_option maxRecDepth 65536 in
set_option maxHeartbeats 40000000 in
theorem kw_eceS (l : Launch) (Z : State) (a0 : Array Value) (hw : ∀ d ∈ tables_1, d.before a0 Z = true) (cs : Int32) (hcs : ¬ cs = 0) (SC : Sta Z Z.heap "java/lang/String" "COMPACT_STRINGS" "Z" (.int cs)) (hEW : EW Z a0 EL) (b d : Addr) (N : Nat) (bs : List Int32) (h0 : Heap) (n0 : Nat) (OD : Old Z n0 h0) (SB : Sb Z h0 b d N bs) (mm : Nat) (m1 : Int32) (hm : m1 = Int32.ofNat mm) (hmm : mm ≤ N)  : KW false l Z M_ece n0 (fun v h => v = none ∧ h0 = h) ([], fun _ => False) h0 0 0 0 #[.val (.ref b), .val (.int m1), .unset] [] := by
  obtain ⟨ckB, zs, EB, VB, CB, NB, AB, hN, hN2⟩ := id SB
  refine k_aloadN d_ece_0 rfl rfl rfl ?_
  refine k_getField d_ece_1 rfl (hw _ (List.mem_of_getElem? (i := 47) rfl)) Via.refl VB ?_
  refine k_arrlen d_ece_4 rfl AB ?_
  refine k_aloadN d_ece_5 rfl rfl rfl ?_
  refine k_getField d_ece_6 rfl (hw _ (List.mem_of_getElem? (i := 49) rfl)) Via.refl CB ?_
  refine k_ishr d_ece_9 rfl ?_
  refine k_istoreN (Ls' := #[.val (.ref b), .val (.int m1), .val (.int ((Int32.ofNat N) >>> ((0 : Int32) &&& 31)))]) d_ece_10 rfl rfl ?_
  refine k_iloadN d_ece_11 rfl rfl ?_
  refine k_iloadN d_ece_12 rfl rfl ?_
  refine k_isub d_ece_13 rfl ?_
  refine k_ifc (pc1 := 38) (pc' := 17) d_ece_14 (by decide) (by decide) rfl (fun (cd1 : ¬ (0 : Int32) < (m1 - ((Int32.ofNat N) >>> ((0 : Int32) &&& 31)))) => ?_) (fun (cd1 : (0 : Int32) < (m1 - ((Int32.ofNat N) >>> ((0 : Int32) &&& 31)))) => False.elim (by subst hm; exact ix_room hN2 hmm cd1))
  exact k_retVoid d_ece_38 rfl (by decide) (by decide) ⟨rfl, rfl⟩
theorem mt_eceS (l : Launch) (Z : State) (a0 : Array Value) (hw : ∀ d ∈ tables_1, d.before a0 Z = true) (cs : Int32) (hcs : ¬ cs = 0) (SC : Sta Z Z.heap "java/lang/String" "COMPACT_STRINGS" "Z" (.int cs)) (hEW : EW Z a0 EL) (b d : Addr) (N : Nat) (bs : List Int32) (h0 : Heap) (n0 : Nat) (OD : Old Z n0 h0) (SB : Sb Z h0 b d N bs) (mm : Nat) (m1 : Int32) (hm : m1 = Int32.ofNat mm) (hmm : mm ≤ N)  : Mt l Z M_ece [] n0 #[(.ref b), (.int m1)] h0 (fun v h => v = none ∧ h0 = h) :=
  mt_of_kw (P := ([], fun _ => False)) pf_ece (fun m => by first | (simp [entryFrame, mkF, argsToLocals, Value.category]; done) | rfl) (kw_eceS l Z a0 hw cs hcs SC hEW b d N bs h0 n0 OD SB mm m1 hm hmm)
theorem own_grow {mm : Nat} {m1 : Int32} (hm : m1 = Int32.ofNat mm) (h1 : 55 < mm) (h2 : mm ≤ 112) : (0 : Int32) < m1 - ((55 : Int32) >>> ((0 : Int32) &&& 31)) := by
  subst hm
  rw [show (55 : Int32) >>> ((0 : Int32) &&& 31) = 55 by decide, Int32.lt_iff_toInt_lt]
  have e := c_isub (Int32.ofNat mm) 55; have r := rng32 (Int32.ofNat mm - 55)
  rw [ix_int (by omega), show (55 : Int32).toInt = 55 from rfl] at e
  show (0 : Int) < _
  omega
set_option maxRecDepth 65536 in
set_option maxHeartbeats 40000000 in
theorem kw_eceG (l : Launch) (Z : State) (a0 : Array Value) (hw : ∀ d ∈ tables_1, d.before a0 Z = true) (cs : Int32) (hcs : ¬ cs = 0) (SC : Sta Z Z.heap "java/lang/String" "COMPACT_STRINGS" "Z" (.int cs)) (hEW : EW Z a0 EL) (b d : Addr) (bs : List Int32) (h0 : Heap) (n0 : Nat) (OD : Old Z n0 h0) (SB : Sb Z h0 b d 55 bs) (mm : Nat) (m1 : Int32) (hm : m1 = Int32.ofNat mm) (h1 : 55 < mm) (h2 : mm ≤ 112) (gb : n0 ≤ b) (ML : Fld Z h0 b "java/lang/AbstractStringBuilder" "maybeLatin1" "Z" (.int 0)) : KW false l Z M_ece n0 (fun v h => v = none ∧ ∃ e, h0.size ≤ e ∧ n0 ≤ e ∧ Keep h0 h [b] ∧ Sb Z h b e 112 bs ∧ Fld Z h b "java/lang/AbstractStringBuilder" "maybeLatin1" "Z" (.int 0)) ([], fun _ => False) h0 0 0 0 #[.val (.ref b), .val (.int m1), .unset] [] := by
  obtain ⟨ckB, zs, EB, VB, CB, NB, AB, hN, hN2⟩ := id SB
  have K0 : Keep h0 h0 [b] := Keep.refl _ _
  refine k_aloadN d_ece_0 rfl rfl rfl ?_
  refine k_getField d_ece_1 rfl (hw _ (List.mem_of_getElem? (i := 47) rfl)) Via.refl VB ?_
  refine k_arrlen d_ece_4 rfl AB ?_
  refine k_aloadN d_ece_5 rfl rfl rfl ?_
  refine k_getField d_ece_6 rfl (hw _ (List.mem_of_getElem? (i := 49) rfl)) Via.refl CB ?_
  refine k_ishr d_ece_9 rfl ?_
  refine k_istoreN (Ls' := #[.val (.ref b), .val (.int m1), .val (.int ((55 : Int32) >>> ((0 : Int32) &&& 31)))]) d_ece_10 rfl rfl ?_
  refine k_iloadN d_ece_11 rfl rfl ?_
  refine k_iloadN d_ece_12 rfl rfl ?_
  refine k_isub d_ece_13 rfl ?_
  refine k_ifc (pc1 := 38) (pc' := 17) d_ece_14 (by decide) (by decide) rfl (fun (cd2 : ¬ (0 : Int32) < (m1 - ((55 : Int32) >>> ((0 : Int32) &&& 31)))) => absurd (by exact own_grow hm h1 h2) cd2) (fun (cd2 : (0 : Int32) < (m1 - ((55 : Int32) >>> ((0 : Int32) &&& 31)))) => ?_)
  refine k_aloadN d_ece_17 rfl rfl rfl ?_
  refine k_aloadN d_ece_18 rfl rfl rfl ?_
  refine k_getField d_ece_19 rfl (hw _ (List.mem_of_getElem? (i := 47) rfl)) Via.refl VB ?_
  refine k_aloadN d_ece_22 rfl rfl rfl ?_
  refine k_iloadN d_ece_23 rfl rfl ?_
  refine k_callVirtual (argsL := [(.int m1)]) (rest := [(.ref d), (.ref b)]) (W0 := 2) d_ece_24 rfl (mt_ncp l Z a0 hw cs hcs SC hEW b d bs h0 n0 OD SB mm m1 hm h1 h2) Kp.strict EB (hw _ (List.mem_of_getElem? (i := 374) rfl)) (own_decl (hw _ (List.mem_of_getElem? (i := 375) rfl)) (hw _ (List.mem_of_getElem? (i := 378) rfl))) (hw _ (List.mem_of_getElem? (i := 377) rfl)) (hw _ (List.mem_of_getElem? (i := 127) rfl)) rfl (hw _ (List.mem_of_getElem? (i := 375) rfl)) (hw _ (List.mem_of_getElem? (i := 378) rfl)) (hw _ (List.mem_of_getElem? (i := 43) rfl)) (by decide) pd_ncp rfl rfl rfl rfl (by decide) (by decide) (by decide) (by decide) ?_
  rintro _ _ - ⟨rfl, rfl⟩
  refine KW.any (P' := ([], fun _ => False)) ?_
  show KW false l Z M_ece n0 (fun v h => v = none ∧ ∃ e, h0.size ≤ e ∧ n0 ≤ e ∧ Keep h0 h [b] ∧ Sb Z h b e 112 bs ∧ Fld Z h b "java/lang/AbstractStringBuilder" "maybeLatin1" "Z" (.int 0)) ([], fun _ => False) h0 0 0 27 #[.val (.ref b), .val (.int m1), .val (.int ((55 : Int32) >>> ((0 : Int32) &&& 31)))] [(.int (112 : Int32)), (.ref d), (.ref b)]
  refine k_aloadN d_ece_27 rfl rfl rfl ?_
  refine k_getField d_ece_28 rfl (hw _ (List.mem_of_getElem? (i := 49) rfl)) Via.refl CB ?_
  refine k_ishl d_ece_31 rfl ?_
  refine KW.top (congrArg Value.int (show (112 : Int32) <<< ((0 : Int32) &&& 31) = Int32.ofNat 112 by decide)) ?_
  show KW false l Z M_ece n0 (fun v h => v = none ∧ ∃ e, h0.size ≤ e ∧ n0 ≤ e ∧ Keep h0 h [b] ∧ Sb Z h b e 112 bs ∧ Fld Z h b "java/lang/AbstractStringBuilder" "maybeLatin1" "Z" (.int 0)) ([], fun _ => False) h0 0 0 32 #[.val (.ref b), .val (.int m1), .val (.int ((55 : Int32) >>> ((0 : Int32) &&& 31)))] [(.int (Int32.ofNat 112)), (.ref d), (.ref b)]
  refine k_callStatic (argsL := [(.ref d), (.int (Int32.ofNat 112))]) (rest := [(.ref b)]) (W0 := 1) d_ece_32 rfl (mt_cpo l Z a0 hw cs hcs SC hEW d ckB (bs ++ zs) h0 n0 OD (by rw [hN]; exact AB) hN) Kp.strict (hw _ (List.mem_of_getElem? (i := 386) rfl)) (hw _ (List.mem_of_getElem? (i := 387) rfl)) (hw _ (List.mem_of_getElem? (i := 247) rfl)) (hw _ (List.mem_of_getElem? (i := 388) rfl)) (by decide) pd_cpo rfl rfl rfl rfl (by decide) (by decide) (by decide) (by decide) ?_
  rintro _ hM - ⟨e, ck', rfl, ge1, ge2, KM, VM⟩
  have ne1 : b ≠ e := Nat.ne_of_lt (Nat.lt_of_lt_of_le EB.lt ge1)
  refine KW.any (P' := ([], fun _ => False)) ?_
  show KW false l Z M_ece n0 (fun v h => v = none ∧ ∃ e, h0.size ≤ e ∧ n0 ≤ e ∧ Keep h0 h [b] ∧ Sb Z h b e 112 bs ∧ Fld Z h b "java/lang/AbstractStringBuilder" "maybeLatin1" "Z" (.int 0)) ([], fun _ => False) hM 1 112 35 #[.val (.ref b), .val (.int m1), .val (.int ((55 : Int32) >>> ((0 : Int32) &&& 31)))] [(.ref e), (.ref b)]
  have f4 := (VB.keep KM nin0)
  have f5 := (EB.keep KM)
  refine k_put (v' := (.ref e)) (ty := (.array .byte)) d_ece_35 rfl (hw _ (List.mem_of_getElem? (i := 47) rfl)) Via.refl f4 f5 (Or.inl (hw _ (List.mem_of_getElem? (i := 48) rfl))) (hw _ (List.mem_of_getElem? (i := 34) rfl)) (by decide) rfl rfl gb (fun q => by cases q) ?_
  intro h2 W3
  have F6 := f4.same W3
  show KW false l Z M_ece n0 (fun v h => v = none ∧ ∃ e, h0.size ≤ e ∧ n0 ≤ e ∧ Keep h0 h [b] ∧ Sb Z h b e 112 bs ∧ Fld Z h b "java/lang/AbstractStringBuilder" "maybeLatin1" "Z" (.int 0)) ([], fun _ => False) h2 1 112 38 #[.val (.ref b), .val (.int m1), .val (.int ((55 : Int32) >>> ((0 : Int32) &&& 31)))] []
  have f7 := ((K0.trans KM all0).wr W3 (Or.inl (by simp)))
  have f8 := (f5.wr W3)
  have f9 := ((CB.keep KM nin0).other W3 (Or.inr (slot_ne (t := .byte) (t' := (.array .byte)) (Or.inl (hw _ (List.mem_of_getElem? (i := 50) rfl))) (Or.inl (hw _ (List.mem_of_getElem? (i := 48) rfl))) (by decide) (by decide) (by decide))))
  have f10 := ((NB.keep KM nin0).other W3 (Or.inr (slot_ne (t := .int) (t' := (.array .byte)) (Or.inl (hw _ (List.mem_of_getElem? (i := 123) rfl))) (Or.inl (hw _ (List.mem_of_getElem? (i := 48) rfl))) (by decide) (by decide) (by decide))))
  have f11 := (VM.other W3 (Ne.symm ne1))
  have f12 := ((ML.keep KM nin0).other W3 (Or.inr (slot_ne (t := .boolean) (t' := (.array .byte)) (Or.inl (hw _ (List.mem_of_getElem? (i := 211) rfl))) (Or.inl (hw _ (List.mem_of_getElem? (i := 48) rfl))) (by decide) (by decide) (by decide))))
  exact k_retVoid d_ece_38 rfl (by decide) (by decide) ⟨rfl, e, ge1, ge2, f7, ⟨ck', zs ++ List.replicate (112 - (bs ++ zs).length) 0, f8, F6, f9, f10, by rw [← List.append_assoc]; exact f11, by rw [← List.append_assoc, List.length_append, List.length_replicate]; omega, by decide⟩, f12⟩
theorem mt_eceG (l : Launch) (Z : State) (a0 : Array Value) (hw : ∀ d ∈ tables_1, d.before a0 Z = true) (cs : Int32) (hcs : ¬ cs = 0) (SC : Sta Z Z.heap "java/lang/String" "COMPACT_STRINGS" "Z" (.int cs)) (hEW : EW Z a0 EL) (b d : Addr) (bs : List Int32) (h0 : Heap) (n0 : Nat) (OD : Old Z n0 h0) (SB : Sb Z h0 b d 55 bs) (mm : Nat) (m1 : Int32) (hm : m1 = Int32.ofNat mm) (h1 : 55 < mm) (h2 : mm ≤ 112) (gb : n0 ≤ b) (ML : Fld Z h0 b "java/lang/AbstractStringBuilder" "maybeLatin1" "Z" (.int 0)) : Mt l Z M_ece [] n0 #[(.ref b), (.int m1)] h0 (fun v h => v = none ∧ ∃ e, h0.size ≤ e ∧ n0 ≤ e ∧ Keep h0 h [b] ∧ Sb Z h b e 112 bs ∧ Fld Z h b "java/lang/AbstractStringBuilder" "maybeLatin1" "Z" (.int 0)) :=
  mt_of_kw (P := ([], fun _ => False)) pf_ece (fun m => by first | (simp [entryFrame, mkF, argsToLocals, Value.category]; done) | rfl) (kw_eceG l Z a0 hw cs hcs SC hEW b d bs h0 n0 OD SB mm m1 hm h1 h2 gb ML)
theorem mt_ece (l : Launch) (Z : State) (a0 : Array Value) (hw : ∀ d ∈ tables_1, d.before a0 Z = true) (cs : Int32) (hcs : ¬ cs = 0) (SC : Sta Z Z.heap "java/lang/String" "COMPACT_STRINGS" "Z" (.int cs)) (hEW : EW Z a0 EL) (b d : Addr) (bs : List Int32) (h0 : Heap) (n0 : Nat) (OD : Old Z n0 h0) (SB : Sq Z h0 b d bs) (mm : Nat) (m1 : Int32) (hm : m1 = Int32.ofNat mm) (h1 : bs.length ≤ mm) (h2 : mm ≤ 112) (gb : n0 ≤ b) (gd : n0 ≤ d) : Mt l Z M_ece [] n0 #[.ref b, .int m1] h0 (fun v h => v = none ∧ ∃ e, (e = d ∨ h0.size ≤ e) ∧ n0 ≤ e ∧ Keep h0 h [b] ∧ Sb Z h b e (capO mm) bs ∧ Fld Z h b "java/lang/AbstractStringBuilder" "maybeLatin1" "Z" (.int 0)) := by
  by_cases a : mm ≤ 55
  · have SB2 : Sb Z h0 b d 55 bs := by have := SB.1; rw [capO_lo (by omega)] at this; exact this
    refine Mt.mono (mt_eceS l Z a0 hw cs hcs SC hEW b d 55 bs h0 n0 OD SB2 mm m1 hm a) (fun v h q => ?_)
    obtain ⟨q1, rfl⟩ := q
    exact ⟨q1, d, Or.inl rfl, gd, Keep.refl _ _, by rw [capO_lo a]; exact SB2, SB.2⟩
  · by_cases c : bs.length ≤ 55
    · have SB2 : Sb Z h0 b d 55 bs := by have := SB.1; rw [capO_lo c] at this; exact this
      refine Mt.mono (mt_eceG l Z a0 hw cs hcs SC hEW b d bs h0 n0 OD SB2 mm m1 hm (by omega) h2 gb SB.2) (fun v h q => ?_)
      obtain ⟨q1, e, q2, q3, q4, q5, q6⟩ := q
      exact ⟨q1, e, Or.inr q2, q3, q4, by rw [capO_hi a]; exact q5, q6⟩
    · have SB2 : Sb Z h0 b d 112 bs := by have := SB.1; rw [capO_hi c] at this; exact this
      refine Mt.mono (mt_eceS l Z a0 hw cs hcs SC hEW b d 112 bs h0 n0 OD SB2 mm m1 hm h2) (fun v h q => ?_)
      obtain ⟨q1, rfl⟩ := q
      exact ⟨q1, d, Or.inl rfl, gd, Keep.refl _ _, by rw [capO_hi a]; exact SB2, SB.2⟩
abbrev M_aas : MD := ((⟨"java/lang/AbstractStringBuilder", "append", "(Ljava/lang/String;)Ljava/lang/AbstractStringBuilder;"⟩ : MethodName), jdk_68_method_22_code, 3, (some (.object "java/lang/AbstractStringBuilder")), { frames := 4, cells := 1, slots := 112, locals := 84 })
theorem d_aas_0 : decode jdk_68_method_22_code 0 = .ok (.aload_n 1, 1) := by decide +kernel
theorem d_aas_1 : decode jdk_68_method_22_code 1 = .ok (.ifnonnull 8, 3) := by decide +kernel
theorem d_aas_4 : decode jdk_68_method_22_code 4 = .ok (.aload_n 0, 1) := by decide +kernel
theorem d_aas_5 : decode jdk_68_method_22_code 5 = .ok (.invokevirtual 204, 3) := by decide +kernel
theorem d_aas_8 : decode jdk_68_method_22_code 8 = .ok (.areturn, 1) := by decide +kernel
theorem d_aas_9 : decode jdk_68_method_22_code 9 = .ok (.aload_n 1, 1) := by decide +kernel
theorem d_aas_10 : decode jdk_68_method_22_code 10 = .ok (.invokevirtual 32, 3) := by decide +kernel
theorem d_aas_13 : decode jdk_68_method_22_code 13 = .ok (.istore_n 2, 1) := by decide +kernel
theorem d_aas_14 : decode jdk_68_method_22_code 14 = .ok (.aload_n 0, 1) := by decide +kernel
theorem d_aas_15 : decode jdk_68_method_22_code 15 = .ok (.aload_n 0, 1) := by decide +kernel
theorem d_aas_16 : decode jdk_68_method_22_code 16 = .ok (.getfield 79, 3) := by decide +kernel
theorem d_aas_19 : decode jdk_68_method_22_code 19 = .ok (.iload_n 2, 1) := by decide +kernel
theorem d_aas_20 : decode jdk_68_method_22_code 20 = .ok (.iadd, 1) := by decide +kernel
theorem d_aas_21 : decode jdk_68_method_22_code 21 = .ok (.invokevirtual 100, 3) := by decide +kernel
theorem d_aas_24 : decode jdk_68_method_22_code 24 = .ok (.aload_n 0, 1) := by decide +kernel
theorem d_aas_25 : decode jdk_68_method_22_code 25 = .ok (.aload_n 0, 1) := by decide +kernel
theorem d_aas_26 : decode jdk_68_method_22_code 26 = .ok (.getfield 79, 3) := by decide +kernel
theorem d_aas_29 : decode jdk_68_method_22_code 29 = .ok (.aload_n 1, 1) := by decide +kernel
theorem d_aas_30 : decode jdk_68_method_22_code 30 = .ok (.invokevirtual 208, 3) := by decide +kernel
theorem d_aas_33 : decode jdk_68_method_22_code 33 = .ok (.aload_n 0, 1) := by decide +kernel
theorem d_aas_34 : decode jdk_68_method_22_code 34 = .ok (.dup, 1) := by decide +kernel
theorem d_aas_35 : decode jdk_68_method_22_code 35 = .ok (.getfield 79, 3) := by decide +kernel
theorem d_aas_38 : decode jdk_68_method_22_code 38 = .ok (.iload_n 2, 1) := by decide +kernel
theorem d_aas_39 : decode jdk_68_method_22_code 39 = .ok (.iadd, 1) := by decide +kernel
theorem d_aas_40 : decode jdk_68_method_22_code 40 = .ok (.putfield 79, 3) := by decide +kernel
theorem d_aas_43 : decode jdk_68_method_22_code 43 = .ok (.aload_n 0, 1) := by decide +kernel
theorem d_aas_44 : decode jdk_68_method_22_code 44 = .ok (.areturn, 1) := by decide +kernel
theorem pd_aas : parseMethodDescriptor "(Ljava/lang/String;)Ljava/lang/AbstractStringBuilder;" = some ⟨[(.object "java/lang/String")], (some (.object "java/lang/AbstractStringBuilder"))⟩ := by decide +kernel
theorem pf_aas : plainFor (⟨"java/lang/AbstractStringBuilder", "append", "(Ljava/lang/String;)Ljava/lang/AbstractStringBuilder;"⟩ : MethodName) = true := by first | exact plainFor_of_name (by first | (simp [plainName, overriddenIn]; done) | decide +kernel) | decide +kernel
set_option maxRecDepth 65536 in
set_option maxHeartbeats 40000000 in
theorem kw_aas (l : Launch) (Z : State) (a0 : Array Value) (hw : ∀ d ∈ tables_1, d.before a0 Z = true) (cs : Int32) (hcs : ¬ cs = 0) (SC : Sta Z Z.heap "java/lang/String" "COMPACT_STRINGS" "Z" (.int cs)) (hEW : EW Z a0 EL) (b d s t : Addr) (bs xs : List Int32) (h0 : Heap) (n0 : Nat) (OD : Old Z n0 h0) (SB : Sq Z h0 b d bs) (SA : Sg Z h0 s t xs) (hbd : b ≠ d) (gb : n0 ≤ b) (gd : n0 ≤ d) (hfit : bs.length + xs.length ≤ 112) : KW false l Z M_aas n0 (fun v h => v = some (.ref b) ∧ ∃ e, (e = d ∨ h0.size ≤ e) ∧ n0 ≤ e ∧ b ≠ e ∧ Keep h0 h [b, d] ∧ Sq Z h b e (bs ++ xs)) ([], fun _ => False) h0 0 0 0 #[.val (.ref b), .val (.ref s), .unset] [] := by
  obtain ⟨ckB, zs, EB, VB, CB, NB, AB, hN, hN2⟩ := id SB.1
  have K0 : Keep h0 h0 [b, d] := Keep.refl _ _
  have hsb : s ≠ b := Exa.ne SA.exa EB (by decide)
  have htb : t ≠ b := by
    obtain ⟨ckT, -, -, -, AT, -⟩ := id SA
    exact (Exa.neArv EB AT (hw _ (List.mem_of_getElem? (i := 34) rfl))).symm
  refine k_aloadN d_aas_0 rfl rfl rfl ?_
  refine k_ifnonnullY (pc' := 9) d_aas_1 (by decide) (by decide) ?_
  refine k_aloadN d_aas_9 rfl rfl rfl ?_
  refine k_callVirtual (argsL := []) (rest := []) (W0 := 0) d_aas_10 rfl (mt_len l Z a0 hw cs hcs SC hEW s t xs h0 n0 OD SA) Kp.strict SA.exa (hw _ (List.mem_of_getElem? (i := 96) rfl)) (hw _ (List.mem_of_getElem? (i := 97) rfl)) (hw _ (List.mem_of_getElem? (i := 99) rfl)) (hw _ (List.mem_of_getElem? (i := 99) rfl)) rfl (hw _ (List.mem_of_getElem? (i := 98) rfl)) (hw _ (List.mem_of_getElem? (i := 100) rfl)) (hw _ (List.mem_of_getElem? (i := 5) rfl)) (by decide) pd_len rfl rfl rfl rfl (by decide) (by decide) (by decide) (by decide) ?_
  rintro _ _ - ⟨rfl, rfl⟩
  refine KW.any (P' := ([], fun _ => False)) ?_
  show KW false l Z M_aas n0 (fun v h => v = some (.ref b) ∧ ∃ e, (e = d ∨ h0.size ≤ e) ∧ n0 ≤ e ∧ b ≠ e ∧ Keep h0 h [b, d] ∧ Sq Z h b e (bs ++ xs)) ([], fun _ => False) h0 0 0 13 #[.val (.ref b), .val (.ref s), .unset] [(.int (Int32.ofNat xs.length))]
  refine k_istoreN (Ls' := #[.val (.ref b), .val (.ref s), .val (.int (Int32.ofNat xs.length))]) d_aas_13 rfl rfl ?_
  refine k_aloadN d_aas_14 rfl rfl rfl ?_
  refine k_aloadN d_aas_15 rfl rfl rfl ?_
  refine k_getField d_aas_16 rfl (hw _ (List.mem_of_getElem? (i := 122) rfl)) Via.refl NB ?_
  refine k_iloadN d_aas_19 rfl rfl ?_
  refine k_iadd d_aas_20 rfl ?_
  refine k_callVirtual (argsL := [(.int ((Int32.ofNat bs.length) + (Int32.ofNat xs.length)))]) (rest := []) (W0 := 0) d_aas_21 rfl (mt_ece l Z a0 hw cs hcs SC hEW b d bs h0 n0 OD SB (bs.length + xs.length) _ (ix_add _ _) (by omega) hfit gb gd) Kp.strict EB (hw _ (List.mem_of_getElem? (i := 124) rfl)) (own_decl (hw _ (List.mem_of_getElem? (i := 125) rfl)) (hw _ (List.mem_of_getElem? (i := 128) rfl))) (hw _ (List.mem_of_getElem? (i := 127) rfl)) (hw _ (List.mem_of_getElem? (i := 127) rfl)) rfl (hw _ (List.mem_of_getElem? (i := 125) rfl)) (hw _ (List.mem_of_getElem? (i := 128) rfl)) (hw _ (List.mem_of_getElem? (i := 43) rfl)) (by decide) pd_ece rfl rfl rfl rfl (by decide) (by decide) (by decide) (by decide) ?_
  rintro _ hM - ⟨rfl, e, he, ge, KM, SBM, MLM⟩
  obtain ⟨ck2, zs2, EB2, VB2, CB2, NB2, AB2, hN3, hN4⟩ := id SBM
  have hbe : b ≠ e := by
    rcases he with he | he
    · rw [he]; exact hbd
    · exact Nat.ne_of_lt (Nat.lt_of_lt_of_le SB.lt he)
  refine KW.any (P' := ([], fun _ => False)) ?_
  show KW false l Z M_aas n0 (fun v h => v = some (.ref b) ∧ ∃ e, (e = d ∨ h0.size ≤ e) ∧ n0 ≤ e ∧ b ≠ e ∧ Keep h0 h [b, d] ∧ Sq Z h b e (bs ++ xs)) ([], fun _ => False) hM 1 112 24 #[.val (.ref b), .val (.ref s), .val (.int (Int32.ofNat xs.length))] []
  refine k_aloadN d_aas_24 rfl rfl rfl ?_
  refine k_aloadN d_aas_25 rfl rfl rfl ?_
  refine k_getField d_aas_26 rfl (hw _ (List.mem_of_getElem? (i := 122) rfl)) Via.refl NB2 ?_
  refine k_aloadN d_aas_29 rfl rfl rfl ?_
  have fit : xs.length ≤ zs2.length := by
    have := capO_fit hfit
    rw [List.length_append] at hN3; omega
  have f1 := (OD.keep KM (allS gb all0))
  have f2 := (SA.keep KM (ninS hsb nin0) (ninS htb nin0))
  have f3 := (K0.trans KM (allS (Or.inl (by simp)) all0))
  refine k_callVirtual (argsL := [(.int (Int32.ofNat bs.length)), (.ref s)]) (rest := []) (W0 := 0) d_aas_30 rfl (mt_psa l Z a0 hw cs hcs SC hEW b e s t ck2 _ bs zs2 xs hM n0 f1 EB2 VB2 CB2 AB2 hN3 hN4 f2 fit ge) Kp.strict EB2 (hw _ (List.mem_of_getElem? (i := 129) rfl)) (own_decl (hw _ (List.mem_of_getElem? (i := 130) rfl)) (hw _ (List.mem_of_getElem? (i := 133) rfl))) (hw _ (List.mem_of_getElem? (i := 132) rfl)) (hw _ (List.mem_of_getElem? (i := 127) rfl)) rfl (hw _ (List.mem_of_getElem? (i := 130) rfl)) (hw _ (List.mem_of_getElem? (i := 133) rfl)) (hw _ (List.mem_of_getElem? (i := 43) rfl)) (by decide) pd_psa rfl rfl rfl rfl (by decide) (by decide) (by decide) (by decide) ?_
  rintro _ hW - ⟨rfl, KW_, VW⟩
  refine KW.any (P' := ([], fun _ => False)) ?_
  show KW false l Z M_aas n0 (fun v h => v = some (.ref b) ∧ ∃ e, (e = d ∨ h0.size ≤ e) ∧ n0 ≤ e ∧ b ≠ e ∧ Keep h0 h [b, d] ∧ Sq Z h b e (bs ++ xs)) ([], fun _ => False) hW 1 112 33 #[.val (.ref b), .val (.ref s), .val (.int (Int32.ofNat xs.length))] []
  refine k_aloadN d_aas_33 rfl rfl rfl ?_
  refine k_dup d_aas_34 rfl rfl ?_
  have f4 := (NB2.keep KW_ (ninS hbe nin0))
  refine k_getField d_aas_35 rfl (hw _ (List.mem_of_getElem? (i := 122) rfl)) Via.refl f4 ?_
  refine k_iloadN d_aas_38 rfl rfl ?_
  refine k_iadd d_aas_39 rfl ?_
  have f7 := (EB2.keep KW_)
  refine k_put (v' := (.int ((Int32.ofNat bs.length) + (Int32.ofNat xs.length)))) (ty := .int) d_aas_40 rfl (hw _ (List.mem_of_getElem? (i := 122) rfl)) Via.refl f4 f7 (Or.inl (hw _ (List.mem_of_getElem? (i := 123) rfl))) (hw _ (List.mem_of_getElem? (i := 34) rfl)) (by decide) rfl rfl gb (fun q => by cases q) ?_
  intro h5 W6
  have F8 := f4.same W6
  show KW false l Z M_aas n0 (fun v h => v = some (.ref b) ∧ ∃ e, (e = d ∨ h0.size ≤ e) ∧ n0 ≤ e ∧ b ≠ e ∧ Keep h0 h [b, d] ∧ Sq Z h b e (bs ++ xs)) ([], fun _ => False) h5 1 112 43 #[.val (.ref b), .val (.ref s), .val (.int (Int32.ofNat xs.length))] []
  refine k_aloadN d_aas_43 rfl rfl rfl ?_
  have f9 := ((f3.trans KW_ (allS (he.elim (fun q => Or.inl (by simp [q])) Or.inr) all0)).wr W6 (Or.inl (by simp)))
  have f10 := (f7.wr W6)
  have f11 := ((VB2.keep KW_ (ninS hbe nin0)).other W6 (Or.inr (slot_ne (t := (.array .byte)) (t' := .int) (Or.inl (hw _ (List.mem_of_getElem? (i := 48) rfl))) (Or.inl (hw _ (List.mem_of_getElem? (i := 123) rfl))) (by decide) (by decide) (by decide))))
  have f12 := ((CB2.keep KW_ (ninS hbe nin0)).other W6 (Or.inr (slot_ne (t := .byte) (t' := .int) (Or.inl (hw _ (List.mem_of_getElem? (i := 50) rfl))) (Or.inl (hw _ (List.mem_of_getElem? (i := 123) rfl))) (by decide) (by decide) (by decide))))
  have f13 := (VW.other W6 (Ne.symm hbe))
  have f14 := ((MLM.keep KW_ (ninS hbe nin0)).other W6 (Or.inr (slot_ne (t := .boolean) (t' := .int) (Or.inl (hw _ (List.mem_of_getElem? (i := 211) rfl))) (Or.inl (hw _ (List.mem_of_getElem? (i := 123) rfl))) (by decide) (by decide) (by decide))))
  exact k_retRef d_aas_44 rfl rfl rfl (by decide) (by decide) ⟨rfl, e, he, ge, hbe, f9, ⟨by rw [List.length_append]; exact ⟨ck2, zs2.drop xs.length, f10, f11, f12, by rw [List.length_append, ← ix_add]; exact F8, f13, (by simp only [List.length_append, List.length_drop] at hN3 ⊢; omega), hN4⟩, f14⟩⟩
theorem mt_aas (l : Launch) (Z : State) (a0 : Array Value) (hw : ∀ d ∈ tables_1, d.before a0 Z = true) (cs : Int32) (hcs : ¬ cs = 0) (SC : Sta Z Z.heap "java/lang/String" "COMPACT_STRINGS" "Z" (.int cs)) (hEW : EW Z a0 EL) (b d s t : Addr) (bs xs : List Int32) (h0 : Heap) (n0 : Nat) (OD : Old Z n0 h0) (SB : Sq Z h0 b d bs) (SA : Sg Z h0 s t xs) (hbd : b ≠ d) (gb : n0 ≤ b) (gd : n0 ≤ d) (hfit : bs.length + xs.length ≤ 112) : Mt l Z M_aas [] n0 #[(.ref b), (.ref s)] h0 (fun v h => v = some (.ref b) ∧ ∃ e, (e = d ∨ h0.size ≤ e) ∧ n0 ≤ e ∧ b ≠ e ∧ Keep h0 h [b, d] ∧ Sq Z h b e (bs ++ xs)) :=
  mt_of_kw (P := ([], fun _ => False)) pf_aas (fun m => by first | (simp [entryFrame, mkF, argsToLocals, Value.category]; done) | rfl) (kw_aas l Z a0 hw cs hcs SC hEW b d s t bs xs h0 n0 OD SB SA hbd gb gd hfit)
abbrev M_sas : MD := ((⟨"java/lang/StringBuilder", "append", "(Ljava/lang/String;)Ljava/lang/StringBuilder;"⟩ : MethodName), jdk_67_method_7_code, 2, (some (.object "java/lang/StringBuilder")), { frames := 5, cells := 1, slots := 112, locals := 100 })
theorem d_sas_0 : decode jdk_67_method_7_code 0 = .ok (.aload_n 0, 1) := by decide +kernel
theorem d_sas_1 : decode jdk_67_method_7_code 1 = .ok (.aload_n 1, 1) := by decide +kernel
theorem d_sas_2 : decode jdk_67_method_7_code 2 = .ok (.invokespecial 29, 3) := by decide +kernel
theorem d_sas_5 : decode jdk_67_method_7_code 5 = .ok (.pop, 1) := by decide +kernel
theorem d_sas_6 : decode jdk_67_method_7_code 6 = .ok (.aload_n 0, 1) := by decide +kernel
theorem d_sas_7 : decode jdk_67_method_7_code 7 = .ok (.areturn, 1) := by decide +kernel
theorem pd_sas : parseMethodDescriptor "(Ljava/lang/String;)Ljava/lang/StringBuilder;" = some ⟨[(.object "java/lang/String")], (some (.object "java/lang/StringBuilder"))⟩ := by decide +kernel
theorem pf_sas : plainFor (⟨"java/lang/StringBuilder", "append", "(Ljava/lang/String;)Ljava/lang/StringBuilder;"⟩ : MethodName) = true := by first | exact plainFor_of_name (by first | (simp [plainName, overriddenIn]; done) | decide +kernel) | decide +kernel
set_option maxRecDepth 65536 in
set_option maxHeartbeats 40000000 in
theorem kw_sas (l : Launch) (Z : State) (a0 : Array Value) (hw : ∀ d ∈ tables_1, d.before a0 Z = true) (cs : Int32) (hcs : ¬ cs = 0) (SC : Sta Z Z.heap "java/lang/String" "COMPACT_STRINGS" "Z" (.int cs)) (hEW : EW Z a0 EL) (b d s t : Addr) (bs xs : List Int32) (h0 : Heap) (n0 : Nat) (OD : Old Z n0 h0) (SB : Sq Z h0 b d bs) (SA : Sg Z h0 s t xs) (hbd : b ≠ d) (gb : n0 ≤ b) (gd : n0 ≤ d) (hfit : bs.length + xs.length ≤ 112) : KW false l Z M_sas n0 (fun v h => v = some (.ref b) ∧ ∃ e, (e = d ∨ h0.size ≤ e) ∧ n0 ≤ e ∧ b ≠ e ∧ Keep h0 h [b, d] ∧ Sq Z h b e (bs ++ xs)) ([], fun _ => False) h0 0 0 0 #[.val (.ref b), .val (.ref s)] [] := by
  obtain ⟨ckB, zs, EB, VB, CB, NB, AB, hN, hN2⟩ := id SB.1
  refine k_aloadN d_sas_0 rfl rfl rfl ?_
  refine k_aloadN d_sas_1 rfl rfl rfl ?_
  refine k_callSuper (argsL := [(.ref s)]) (rest := []) (W0 := 0) d_sas_2 rfl (mt_aas l Z a0 hw cs hcs SC hEW b d s t bs xs h0 n0 OD SB SA hbd gb gd hfit) Kp.strict EB (hw _ (List.mem_of_getElem? (i := 119) rfl)) (hw _ (List.mem_of_getElem? (i := 109) rfl)) (hw _ (List.mem_of_getElem? (i := 127) rfl)) rfl (hw _ (List.mem_of_getElem? (i := 110) rfl)) (hw _ (List.mem_of_getElem? (i := 120) rfl)) (hw _ (List.mem_of_getElem? (i := 121) rfl)) (hw _ (List.mem_of_getElem? (i := 43) rfl)) (by decide) (by decide) pd_aas rfl rfl rfl rfl (by decide) (by decide) (by decide) (by decide) ?_
  rintro _ hM - ⟨rfl, R1⟩
  refine KW.any (P' := ([], fun _ => False)) ?_
  show KW false l Z M_sas n0 (fun v h => v = some (.ref b) ∧ ∃ e, (e = d ∨ h0.size ≤ e) ∧ n0 ≤ e ∧ b ≠ e ∧ Keep h0 h [b, d] ∧ Sq Z h b e (bs ++ xs)) ([], fun _ => False) hM 1 112 5 #[.val (.ref b), .val (.ref s)] [(.ref b)]
  refine k_pop d_sas_5 rfl rfl ?_
  refine k_aloadN d_sas_6 rfl rfl rfl ?_
  exact k_retRef d_sas_7 rfl rfl rfl (by decide) (by decide) ⟨rfl, R1⟩
theorem mt_sas (l : Launch) (Z : State) (a0 : Array Value) (hw : ∀ d ∈ tables_1, d.before a0 Z = true) (cs : Int32) (hcs : ¬ cs = 0) (SC : Sta Z Z.heap "java/lang/String" "COMPACT_STRINGS" "Z" (.int cs)) (hEW : EW Z a0 EL) (b d s t : Addr) (bs xs : List Int32) (h0 : Heap) (n0 : Nat) (OD : Old Z n0 h0) (SB : Sq Z h0 b d bs) (SA : Sg Z h0 s t xs) (hbd : b ≠ d) (gb : n0 ≤ b) (gd : n0 ≤ d) (hfit : bs.length + xs.length ≤ 112) : Mt l Z M_sas [] n0 #[(.ref b), (.ref s)] h0 (fun v h => v = some (.ref b) ∧ ∃ e, (e = d ∨ h0.size ≤ e) ∧ n0 ≤ e ∧ b ≠ e ∧ Keep h0 h [b, d] ∧ Sq Z h b e (bs ++ xs)) :=
  mt_of_kw (P := ([], fun _ => False)) pf_sas (fun m => by first | (simp [entryFrame, mkF, argsToLocals, Value.category]; done) | rfl) (kw_sas l Z a0 hw cs hcs SC hEW b d s t bs xs h0 n0 OD SB SA hbd gb gd hfit)
abbrev M_aac : MD := ((⟨"java/lang/AbstractStringBuilder", "append", "(C)Ljava/lang/AbstractStringBuilder;"⟩ : MethodName), jdk_68_method_31_code, 2, (some (.object "java/lang/AbstractStringBuilder")), { frames := 4, cells := 1, slots := 112, locals := 84 })
theorem d_aac_0 : decode jdk_68_method_31_code 0 = .ok (.aload_n 0, 1) := by decide +kernel
theorem d_aac_1 : decode jdk_68_method_31_code 1 = .ok (.aload_n 0, 1) := by decide +kernel
theorem d_aac_2 : decode jdk_68_method_31_code 2 = .ok (.getfield 79, 3) := by decide +kernel
theorem d_aac_5 : decode jdk_68_method_31_code 5 = .ok (.iconst 1, 1) := by decide +kernel
theorem d_aac_6 : decode jdk_68_method_31_code 6 = .ok (.iadd, 1) := by decide +kernel
theorem d_aac_7 : decode jdk_68_method_31_code 7 = .ok (.invokevirtual 100, 3) := by decide +kernel
theorem d_aac_10 : decode jdk_68_method_31_code 10 = .ok (.aload_n 0, 1) := by decide +kernel
theorem d_aac_11 : decode jdk_68_method_31_code 11 = .ok (.invokevirtual 83, 3) := by decide +kernel
theorem d_aac_14 : decode jdk_68_method_31_code 14 = .ok (.ifCond .eq 31, 3) := by decide +kernel
theorem d_aac_17 : decode jdk_68_method_31_code 17 = .ok (.iload_n 1, 1) := by decide +kernel
theorem d_aac_18 : decode jdk_68_method_31_code 18 = .ok (.invokestatic 191, 3) := by decide +kernel
theorem d_aac_21 : decode jdk_68_method_31_code 21 = .ok (.ifCond .eq 24, 3) := by decide +kernel
theorem d_aac_24 : decode jdk_68_method_31_code 24 = .ok (.aload_n 0, 1) := by decide +kernel
theorem d_aac_25 : decode jdk_68_method_31_code 25 = .ok (.getfield 15, 3) := by decide +kernel
theorem d_aac_28 : decode jdk_68_method_31_code 28 = .ok (.aload_n 0, 1) := by decide +kernel
theorem d_aac_29 : decode jdk_68_method_31_code 29 = .ok (.dup, 1) := by decide +kernel
theorem d_aac_30 : decode jdk_68_method_31_code 30 = .ok (.getfield 79, 3) := by decide +kernel
theorem d_aac_33 : decode jdk_68_method_31_code 33 = .ok (.dup_x1, 1) := by decide +kernel
theorem d_aac_34 : decode jdk_68_method_31_code 34 = .ok (.iconst 1, 1) := by decide +kernel
theorem d_aac_35 : decode jdk_68_method_31_code 35 = .ok (.iadd, 1) := by decide +kernel
theorem d_aac_36 : decode jdk_68_method_31_code 36 = .ok (.putfield 79, 3) := by decide +kernel
theorem d_aac_39 : decode jdk_68_method_31_code 39 = .ok (.iload_n 1, 1) := by decide +kernel
theorem d_aac_40 : decode jdk_68_method_31_code 40 = .ok (.i2b, 1) := by decide +kernel
theorem d_aac_41 : decode jdk_68_method_31_code 41 = .ok (.bastore, 1) := by decide +kernel
theorem d_aac_42 : decode jdk_68_method_31_code 42 = .ok (.goto 33, 3) := by decide +kernel
theorem d_aac_45 : decode jdk_68_method_31_code 45 = .ok (.aload_n 0, 1) := by decide +kernel
theorem d_aac_46 : decode jdk_68_method_31_code 46 = .ok (.invokevirtual 83, 3) := by decide +kernel
theorem d_aac_49 : decode jdk_68_method_31_code 49 = .ok (.ifCond .eq 7, 3) := by decide +kernel
theorem d_aac_52 : decode jdk_68_method_31_code 52 = .ok (.aload_n 0, 1) := by decide +kernel
theorem d_aac_53 : decode jdk_68_method_31_code 53 = .ok (.invokevirtual 195, 3) := by decide +kernel
theorem d_aac_56 : decode jdk_68_method_31_code 56 = .ok (.aload_n 0, 1) := by decide +kernel
theorem d_aac_57 : decode jdk_68_method_31_code 57 = .ok (.getfield 15, 3) := by decide +kernel
theorem d_aac_60 : decode jdk_68_method_31_code 60 = .ok (.aload_n 0, 1) := by decide +kernel
theorem d_aac_61 : decode jdk_68_method_31_code 61 = .ok (.dup, 1) := by decide +kernel
theorem d_aac_62 : decode jdk_68_method_31_code 62 = .ok (.getfield 79, 3) := by decide +kernel
theorem d_aac_65 : decode jdk_68_method_31_code 65 = .ok (.dup_x1, 1) := by decide +kernel
theorem d_aac_66 : decode jdk_68_method_31_code 66 = .ok (.iconst 1, 1) := by decide +kernel
theorem d_aac_67 : decode jdk_68_method_31_code 67 = .ok (.iadd, 1) := by decide +kernel
theorem d_aac_68 : decode jdk_68_method_31_code 68 = .ok (.putfield 79, 3) := by decide +kernel
theorem d_aac_71 : decode jdk_68_method_31_code 71 = .ok (.iload_n 1, 1) := by decide +kernel
theorem d_aac_72 : decode jdk_68_method_31_code 72 = .ok (.invokestatic 197, 3) := by decide +kernel
theorem d_aac_75 : decode jdk_68_method_31_code 75 = .ok (.aload_n 0, 1) := by decide +kernel
theorem d_aac_76 : decode jdk_68_method_31_code 76 = .ok (.areturn, 1) := by decide +kernel
theorem pd_aac : parseMethodDescriptor "(C)Ljava/lang/AbstractStringBuilder;" = some ⟨[.char], (some (.object "java/lang/AbstractStringBuilder"))⟩ := by decide +kernel
theorem pf_aac : plainFor (⟨"java/lang/AbstractStringBuilder", "append", "(C)Ljava/lang/AbstractStringBuilder;"⟩ : MethodName) = true := by first | exact plainFor_of_name (by first | (simp [plainName, overriddenIn]; done) | decide +kernel) | decide +kernel
set_option maxRecDepth 65536 in
set_option maxHeartbeats 40000000 in
theorem kw_aac (l : Launch) (Z : State) (a0 : Array Value) (hw : ∀ d ∈ tables_1, d.before a0 Z = true) (cs : Int32) (hcs : ¬ cs = 0) (SC : Sta Z Z.heap "java/lang/String" "COMPACT_STRINGS" "Z" (.int cs)) (hEW : EW Z a0 EL) (b d : Addr) (bs : List Int32) (h0 : Heap) (n0 : Nat) (OD : Old Z n0 h0) (SB : Sq Z h0 b d bs) (p : Int32) (hp : 0 ≤ p.toInt ∧ p.toInt < 256) (hbd : b ≠ d) (gb : n0 ≤ b) (gd : n0 ≤ d) (hfit : bs.length + 1 ≤ 112) : KW false l Z M_aac n0 (fun v h => v = some (.ref b) ∧ ∃ e, (e = d ∨ h0.size ≤ e) ∧ n0 ≤ e ∧ b ≠ e ∧ Keep h0 h [b, d] ∧ Sq Z h b e (bs ++ [nbI p])) ([], fun _ => False) h0 0 0 0 #[.val (.ref b), .val (.int p)] [] := by
  obtain ⟨ckB, zs, EB, VB, CB, NB, AB, hN, hN2⟩ := id SB.1
  have K0 : Keep h0 h0 [b, d] := Keep.refl _ _
  refine k_aloadN d_aac_0 rfl rfl rfl ?_
  refine k_aloadN d_aac_1 rfl rfl rfl ?_
  refine k_getField d_aac_2 rfl (hw _ (List.mem_of_getElem? (i := 122) rfl)) Via.refl NB ?_
  refine k_iconst (z := (1 : Int32)) d_aac_5 rfl (by decide) ?_
  refine k_iadd d_aac_6 rfl ?_
  refine k_callVirtual (argsL := [(.int ((Int32.ofNat bs.length) + (1 : Int32)))]) (rest := []) (W0 := 0) d_aac_7 rfl (mt_ece l Z a0 hw cs hcs SC hEW b d bs h0 n0 OD SB (bs.length + 1) _ (ix_succ _) (by omega) hfit gb gd) Kp.strict EB (hw _ (List.mem_of_getElem? (i := 124) rfl)) (own_decl (hw _ (List.mem_of_getElem? (i := 125) rfl)) (hw _ (List.mem_of_getElem? (i := 128) rfl))) (hw _ (List.mem_of_getElem? (i := 127) rfl)) (hw _ (List.mem_of_getElem? (i := 127) rfl)) rfl (hw _ (List.mem_of_getElem? (i := 125) rfl)) (hw _ (List.mem_of_getElem? (i := 128) rfl)) (hw _ (List.mem_of_getElem? (i := 43) rfl)) (by decide) pd_ece rfl rfl rfl rfl (by decide) (by decide) (by decide) (by decide) ?_
  rintro _ hM - ⟨rfl, e, he, ge, KM, SBM, MLM⟩
  obtain ⟨ck2, zs2, EB2, VB2, CB2, NB2, AB2, hN3, hN4⟩ := id SBM
  have hbe : b ≠ e := by
    rcases he with he | he
    · rw [he]; exact hbd
    · exact Nat.ne_of_lt (Nat.lt_of_lt_of_le SB.lt he)
  refine KW.any (P' := ([], fun _ => False)) ?_
  show KW false l Z M_aac n0 (fun v h => v = some (.ref b) ∧ ∃ e, (e = d ∨ h0.size ≤ e) ∧ n0 ≤ e ∧ b ≠ e ∧ Keep h0 h [b, d] ∧ Sq Z h b e (bs ++ [nbI p])) ([], fun _ => False) hM 1 112 10 #[.val (.ref b), .val (.int p)] []
  obtain ⟨z0, zs3, rfl⟩ : ∃ z0 r, zs2 = z0 :: r := by
    cases zs2 with
    | nil => (have := capO_fit hfit; rw [List.append_nil] at hN3; omega)
    | cons z r => exact ⟨z, r, rfl⟩
  refine k_aloadN d_aac_10 rfl rfl rfl ?_
  have f1 := (OD.keep KM (allS gb all0))
  refine k_callVirtual (argsL := []) (rest := []) (W0 := 0) d_aac_11 rfl (mt_ail l Z a0 hw cs hcs SC hEW b e _ bs hM n0 f1 SBM) Kp.strict EB2 (hw _ (List.mem_of_getElem? (i := 161) rfl)) (hw _ (List.mem_of_getElem? (i := 162) rfl)) (hw _ (List.mem_of_getElem? (i := 164) rfl)) (hw _ (List.mem_of_getElem? (i := 127) rfl)) rfl (hw _ (List.mem_of_getElem? (i := 163) rfl)) (hw _ (List.mem_of_getElem? (i := 165) rfl)) (hw _ (List.mem_of_getElem? (i := 43) rfl)) (by decide) pd_ail rfl rfl rfl rfl (by decide) (by decide) (by decide) (by decide) ?_
  rintro _ _ - ⟨rfl, rfl⟩
  refine KW.any (P' := ([], fun _ => False)) ?_
  show KW false l Z M_aac n0 (fun v h => v = some (.ref b) ∧ ∃ e, (e = d ∨ h0.size ≤ e) ∧ n0 ≤ e ∧ b ≠ e ∧ Keep h0 h [b, d] ∧ Sq Z h b e (bs ++ [nbI p])) ([], fun _ => False) hM 1 112 14 #[.val (.ref b), .val (.int p)] [(.int (1 : Int32))]
  refine k_ifc (pc1 := 45) (pc' := 17) d_aac_14 (by decide) (by decide) rfl (fun (cd1 : (1 : Int32) = (0 : Int32)) => False.elim (by exact absurd cd1 (by decide))) (fun (cd1 : ¬ (1 : Int32) = (0 : Int32)) => ?_)
  refine k_iloadN d_aac_17 rfl rfl ?_
  refine k_callStatic (argsL := [(.int p)]) (rest := []) (W0 := 0) d_aac_18 rfl (mt_cen l Z a0 hw cs hcs SC hEW p hM n0 hp) Kp.strict (hw _ (List.mem_of_getElem? (i := 166) rfl)) (hw _ (List.mem_of_getElem? (i := 9) rfl)) (hw _ (List.mem_of_getElem? (i := 10) rfl)) (hw _ (List.mem_of_getElem? (i := 11) rfl)) (by decide) pd_cen rfl rfl rfl rfl (by decide) (by decide) (by decide) (by decide) ?_
  rintro _ _ - ⟨rfl, rfl⟩
  refine KW.any (P' := ([], fun _ => False)) ?_
  show KW false l Z M_aac n0 (fun v h => v = some (.ref b) ∧ ∃ e, (e = d ∨ h0.size ≤ e) ∧ n0 ≤ e ∧ b ≠ e ∧ Keep h0 h [b, d] ∧ Sq Z h b e (bs ++ [nbI p])) ([], fun _ => False) hM 1 112 21 #[.val (.ref b), .val (.int p)] [(.int (1 : Int32))]
  refine k_ifc (pc1 := 45) (pc' := 24) d_aac_21 (by decide) (by decide) rfl (fun (cd2 : (1 : Int32) = (0 : Int32)) => False.elim (by exact absurd cd2 (by decide))) (fun (cd2 : ¬ (1 : Int32) = (0 : Int32)) => ?_)
  refine k_aloadN d_aac_24 rfl rfl rfl ?_
  refine k_getField d_aac_25 rfl (hw _ (List.mem_of_getElem? (i := 47) rfl)) Via.refl VB2 ?_
  refine k_aloadN d_aac_28 rfl rfl rfl ?_
  refine k_dup d_aac_29 rfl rfl ?_
  refine k_getField d_aac_30 rfl (hw _ (List.mem_of_getElem? (i := 122) rfl)) Via.refl NB2 ?_
  refine k_dupX1 d_aac_33 rfl rfl rfl ?_
  refine k_iconst (z := (1 : Int32)) d_aac_34 rfl (by decide) ?_
  refine k_iadd d_aac_35 rfl ?_
  refine k_put (v' := (.int ((Int32.ofNat bs.length) + (1 : Int32)))) (ty := .int) d_aac_36 rfl (hw _ (List.mem_of_getElem? (i := 122) rfl)) Via.refl NB2 EB2 (Or.inl (hw _ (List.mem_of_getElem? (i := 123) rfl))) (hw _ (List.mem_of_getElem? (i := 34) rfl)) (by decide) rfl rfl gb (fun q => by cases q) ?_
  intro h2 W3
  have F4 := NB2.same W3
  show KW false l Z M_aac n0 (fun v h => v = some (.ref b) ∧ ∃ e, (e = d ∨ h0.size ≤ e) ∧ n0 ≤ e ∧ b ≠ e ∧ Keep h0 h [b, d] ∧ Sq Z h b e (bs ++ [nbI p])) ([], fun _ => False) h2 1 112 39 #[.val (.ref b), .val (.int p)] [(.int (Int32.ofNat bs.length)), (.ref e)]
  refine k_iloadN d_aac_39 rfl rfl ?_
  refine k_i2b d_aac_40 rfl ?_
  have f8 := (AB2.other W3 (Ne.symm hbe))
  have cf := capO_fit hfit
  refine k_bastore (i := bs.length) d_aac_41 rfl f8 (ix_inb hN4 (by omega)) (ix_nat (by omega)) (by rw [List.length_map, hN3]; omega) ge (fun q => by cases q) ?_
  intro h9 W10 V2
  rw [show (bs ++ z0 :: zs3).map Value.int = bs.map Value.int ++ Value.int z0 :: zs3.map Value.int by simp, set_mid _ _ _ _ (by simp)] at V2
  have V3 : Arv Z h9 e ck2 .byte (Int32.ofNat (capO (bs.length + 1))) (((bs ++ [nbI p]) ++ zs3).map Value.int) (.int 0) := by simpa using V2
  show KW false l Z M_aac n0 (fun v h => v = some (.ref b) ∧ ∃ e, (e = d ∨ h0.size ≤ e) ∧ n0 ≤ e ∧ b ≠ e ∧ Keep h0 h [b, d] ∧ Sq Z h b e (bs ++ [nbI p])) ([], fun _ => False) h9 1 112 42 #[.val (.ref b), .val (.int p)] []
  refine k_goto (pc' := 75) d_aac_42 (by decide) (by decide) ?_
  refine k_aloadN d_aac_75 rfl rfl rfl ?_
  have f11 := (((K0.trans KM (allS (Or.inl (by simp)) all0)).wr W3 (Or.inl (by simp))).wr W10 (he.elim (fun q => Or.inl (by simp [q])) Or.inr))
  have f12 := ((EB2.wr W3).wr W10)
  have f13 := ((VB2.other W3 (Or.inr (slot_ne (t := (.array .byte)) (t' := .int) (Or.inl (hw _ (List.mem_of_getElem? (i := 48) rfl))) (Or.inl (hw _ (List.mem_of_getElem? (i := 123) rfl))) (by decide) (by decide) (by decide)))).other W10 (Or.inl hbe))
  have f14 := ((CB2.other W3 (Or.inr (slot_ne (t := .byte) (t' := .int) (Or.inl (hw _ (List.mem_of_getElem? (i := 50) rfl))) (Or.inl (hw _ (List.mem_of_getElem? (i := 123) rfl))) (by decide) (by decide) (by decide)))).other W10 (Or.inl hbe))
  have f15 := (F4.other W10 (Or.inl hbe))
  have f16 := ((MLM.other W3 (Or.inr (slot_ne (t := .boolean) (t' := .int) (Or.inl (hw _ (List.mem_of_getElem? (i := 211) rfl))) (Or.inl (hw _ (List.mem_of_getElem? (i := 123) rfl))) (by decide) (by decide) (by decide)))).other W10 (Or.inl hbe))
  exact k_retRef d_aac_76 rfl rfl rfl (by decide) (by decide) ⟨rfl, e, he, ge, hbe, f11, ⟨by rw [List.length_append]; exact ⟨ck2, zs3, f12, f13, f14, by rw [List.length_append, ← ix_add]; exact f15, V3, (by simp only [List.length_append, List.length_cons, List.length_nil, Nat.zero_add] at hN3 ⊢; omega), hN4⟩, f16⟩⟩
theorem mt_aac (l : Launch) (Z : State) (a0 : Array Value) (hw : ∀ d ∈ tables_1, d.before a0 Z = true) (cs : Int32) (hcs : ¬ cs = 0) (SC : Sta Z Z.heap "java/lang/String" "COMPACT_STRINGS" "Z" (.int cs)) (hEW : EW Z a0 EL) (b d : Addr) (bs : List Int32) (h0 : Heap) (n0 : Nat) (OD : Old Z n0 h0) (SB : Sq Z h0 b d bs) (p : Int32) (hp : 0 ≤ p.toInt ∧ p.toInt < 256) (hbd : b ≠ d) (gb : n0 ≤ b) (gd : n0 ≤ d) (hfit : bs.length + 1 ≤ 112) : Mt l Z M_aac [] n0 #[(.ref b), (.int p)] h0 (fun v h => v = some (.ref b) ∧ ∃ e, (e = d ∨ h0.size ≤ e) ∧ n0 ≤ e ∧ b ≠ e ∧ Keep h0 h [b, d] ∧ Sq Z h b e (bs ++ [nbI p])) :=
  mt_of_kw (P := ([], fun _ => False)) pf_aac (fun m => by first | (simp [entryFrame, mkF, argsToLocals, Value.category]; done) | rfl) (kw_aac l Z a0 hw cs hcs SC hEW b d bs h0 n0 OD SB p hp hbd gb gd hfit)
abbrev M_sac : MD := ((⟨"java/lang/StringBuilder", "append", "(C)Ljava/lang/StringBuilder;"⟩ : MethodName), jdk_67_method_14_code, 2, (some (.object "java/lang/StringBuilder")), { frames := 5, cells := 1, slots := 112, locals := 100 })
theorem d_sac_0 : decode jdk_67_method_14_code 0 = .ok (.aload_n 0, 1) := by decide +kernel
theorem d_sac_1 : decode jdk_67_method_14_code 1 = .ok (.iload_n 1, 1) := by decide +kernel
theorem d_sac_2 : decode jdk_67_method_14_code 2 = .ok (.invokespecial 50, 3) := by decide +kernel
theorem d_sac_5 : decode jdk_67_method_14_code 5 = .ok (.pop, 1) := by decide +kernel
theorem d_sac_6 : decode jdk_67_method_14_code 6 = .ok (.aload_n 0, 1) := by decide +kernel
theorem d_sac_7 : decode jdk_67_method_14_code 7 = .ok (.areturn, 1) := by decide +kernel
theorem pd_sac : parseMethodDescriptor "(C)Ljava/lang/StringBuilder;" = some ⟨[.char], (some (.object "java/lang/StringBuilder"))⟩ := by decide +kernel
theorem pf_sac : plainFor (⟨"java/lang/StringBuilder", "append", "(C)Ljava/lang/StringBuilder;"⟩ : MethodName) = true := by first | exact plainFor_of_name (by first | (simp [plainName, overriddenIn]; done) | decide +kernel) | decide +kernel
set_option maxRecDepth 65536 in
set_option maxHeartbeats 40000000 in
theorem kw_sac (l : Launch) (Z : State) (a0 : Array Value) (hw : ∀ d ∈ tables_1, d.before a0 Z = true) (cs : Int32) (hcs : ¬ cs = 0) (SC : Sta Z Z.heap "java/lang/String" "COMPACT_STRINGS" "Z" (.int cs)) (hEW : EW Z a0 EL) (b d : Addr) (bs : List Int32) (h0 : Heap) (n0 : Nat) (OD : Old Z n0 h0) (SB : Sq Z h0 b d bs) (p : Int32) (hp : 0 ≤ p.toInt ∧ p.toInt < 256) (hbd : b ≠ d) (gb : n0 ≤ b) (gd : n0 ≤ d) (hfit : bs.length + 1 ≤ 112) : KW false l Z M_sac n0 (fun v h => v = some (.ref b) ∧ ∃ e, (e = d ∨ h0.size ≤ e) ∧ n0 ≤ e ∧ b ≠ e ∧ Keep h0 h [b, d] ∧ Sq Z h b e (bs ++ [nbI p])) ([], fun _ => False) h0 0 0 0 #[.val (.ref b), .val (.int p)] [] := by
  obtain ⟨ckB, zs, EB, VB, CB, NB, AB, hN, hN2⟩ := id SB.1
  refine k_aloadN d_sac_0 rfl rfl rfl ?_
  refine k_iloadN d_sac_1 rfl rfl ?_
  refine k_callSuper (argsL := [(.int p)]) (rest := []) (W0 := 0) d_sac_2 rfl (mt_aac l Z a0 hw cs hcs SC hEW b d bs h0 n0 OD SB p hp hbd gb gd hfit) Kp.strict EB (hw _ (List.mem_of_getElem? (i := 157) rfl)) (hw _ (List.mem_of_getElem? (i := 159) rfl)) (hw _ (List.mem_of_getElem? (i := 127) rfl)) rfl (hw _ (List.mem_of_getElem? (i := 158) rfl)) (hw _ (List.mem_of_getElem? (i := 120) rfl)) (hw _ (List.mem_of_getElem? (i := 160) rfl)) (hw _ (List.mem_of_getElem? (i := 43) rfl)) (by decide) (by decide) pd_aac rfl rfl rfl rfl (by decide) (by decide) (by decide) (by decide) ?_
  rintro _ hM - ⟨rfl, R1⟩
  refine KW.any (P' := ([], fun _ => False)) ?_
  show KW false l Z M_sac n0 (fun v h => v = some (.ref b) ∧ ∃ e, (e = d ∨ h0.size ≤ e) ∧ n0 ≤ e ∧ b ≠ e ∧ Keep h0 h [b, d] ∧ Sq Z h b e (bs ++ [nbI p])) ([], fun _ => False) hM 1 112 5 #[.val (.ref b), .val (.int p)] [(.ref b)]
  refine k_pop d_sac_5 rfl rfl ?_
  refine k_aloadN d_sac_6 rfl rfl rfl ?_
  exact k_retRef d_sac_7 rfl rfl rfl (by decide) (by decide) ⟨rfl, R1⟩
theorem mt_sac (l : Launch) (Z : State) (a0 : Array Value) (hw : ∀ d ∈ tables_1, d.before a0 Z = true) (cs : Int32) (hcs : ¬ cs = 0) (SC : Sta Z Z.heap "java/lang/String" "COMPACT_STRINGS" "Z" (.int cs)) (hEW : EW Z a0 EL) (b d : Addr) (bs : List Int32) (h0 : Heap) (n0 : Nat) (OD : Old Z n0 h0) (SB : Sq Z h0 b d bs) (p : Int32) (hp : 0 ≤ p.toInt ∧ p.toInt < 256) (hbd : b ≠ d) (gb : n0 ≤ b) (gd : n0 ≤ d) (hfit : bs.length + 1 ≤ 112) : Mt l Z M_sac [] n0 #[(.ref b), (.int p)] h0 (fun v h => v = some (.ref b) ∧ ∃ e, (e = d ∨ h0.size ≤ e) ∧ n0 ≤ e ∧ b ≠ e ∧ Keep h0 h [b, d] ∧ Sq Z h b e (bs ++ [nbI p])) :=
  mt_of_kw (P := ([], fun _ => False)) pf_sac (fun m => by first | (simp [entryFrame, mkF, argsToLocals, Value.category]; done) | rfl) (kw_sac l Z a0 hw cs hcs SC hEW b d bs h0 n0 OD SB p hp hbd gb gd hfit)
abbrev M_sab : MD := ((⟨"java/lang/StringBuilder", "append", "(Ljava/lang/String;)Ljava/lang/AbstractStringBuilder;"⟩ : MethodName), jdk_67_method_80_code, 2, (some (.object "java/lang/AbstractStringBuilder")), { frames := 6, cells := 1, slots := 112, locals := 116 })
theorem d_sab_0 : decode jdk_67_method_80_code 0 = .ok (.aload_n 0, 1) := by decide +kernel
theorem d_sab_1 : decode jdk_67_method_80_code 1 = .ok (.aload_n 1, 1) := by decide +kernel
theorem d_sab_2 : decode jdk_67_method_80_code 2 = .ok (.invokevirtual 23, 3) := by decide +kernel
theorem d_sab_5 : decode jdk_67_method_80_code 5 = .ok (.areturn, 1) := by decide +kernel
theorem pd_sab : parseMethodDescriptor "(Ljava/lang/String;)Ljava/lang/AbstractStringBuilder;" = some ⟨[(.object "java/lang/String")], (some (.object "java/lang/AbstractStringBuilder"))⟩ := by decide +kernel
theorem pf_sab : plainFor (⟨"java/lang/StringBuilder", "append", "(Ljava/lang/String;)Ljava/lang/AbstractStringBuilder;"⟩ : MethodName) = true := by first | exact plainFor_of_name (by first | (simp [plainName, overriddenIn]; done) | decide +kernel) | decide +kernel
set_option maxRecDepth 65536 in
set_option maxHeartbeats 40000000 in
theorem kw_sab (l : Launch) (Z : State) (a0 : Array Value) (hw : ∀ d ∈ tables_1, d.before a0 Z = true) (cs : Int32) (hcs : ¬ cs = 0) (SC : Sta Z Z.heap "java/lang/String" "COMPACT_STRINGS" "Z" (.int cs)) (hEW : EW Z a0 EL) (b d s t : Addr) (bs xs : List Int32) (h0 : Heap) (n0 : Nat) (OD : Old Z n0 h0) (SB : Sq Z h0 b d bs) (SA : Sg Z h0 s t xs) (hbd : b ≠ d) (gb : n0 ≤ b) (gd : n0 ≤ d) (hfit : bs.length + xs.length ≤ 112) : KW false l Z M_sab n0 (fun v h => v = some (.ref b) ∧ ∃ e, (e = d ∨ h0.size ≤ e) ∧ n0 ≤ e ∧ b ≠ e ∧ Keep h0 h [b, d] ∧ Sq Z h b e (bs ++ xs)) ([], fun _ => False) h0 0 0 0 #[.val (.ref b), .val (.ref s)] [] := by
  obtain ⟨ckB, zs, EB, VB, CB, NB, AB, hN, hN2⟩ := id SB.1
  refine k_aloadN d_sab_0 rfl rfl rfl ?_
  refine k_aloadN d_sab_1 rfl rfl rfl ?_
  refine k_callVirtual (argsL := [(.ref s)]) (rest := []) (W0 := 0) d_sab_2 rfl (mt_sas l Z a0 hw cs hcs SC hEW b d s t bs xs h0 n0 OD SB SA hbd gb gd hfit) Kp.strict EB (hw _ (List.mem_of_getElem? (i := 114) rfl)) (hw _ (List.mem_of_getElem? (i := 115) rfl)) (hw _ (List.mem_of_getElem? (i := 117) rfl)) (hw _ (List.mem_of_getElem? (i := 111) rfl)) rfl (hw _ (List.mem_of_getElem? (i := 116) rfl)) (hw _ (List.mem_of_getElem? (i := 118) rfl)) (hw _ (List.mem_of_getElem? (i := 35) rfl)) (by decide) pd_sas rfl rfl rfl rfl (by decide) (by decide) (by decide) (by decide) ?_
  rintro _ hM - ⟨rfl, R1⟩
  refine KW.any (P' := ([], fun _ => False)) ?_
  show KW false l Z M_sab n0 (fun v h => v = some (.ref b) ∧ ∃ e, (e = d ∨ h0.size ≤ e) ∧ n0 ≤ e ∧ b ≠ e ∧ Keep h0 h [b, d] ∧ Sq Z h b e (bs ++ xs)) ([], fun _ => False) hM 1 112 5 #[.val (.ref b), .val (.ref s)] [(.ref b)]
  exact k_retRef d_sab_5 rfl rfl rfl (by decide) (by decide) ⟨rfl, R1⟩
theorem mt_sab (l : Launch) (Z : State) (a0 : Array Value) (hw : ∀ d ∈ tables_1, d.before a0 Z = true) (cs : Int32) (hcs : ¬ cs = 0) (SC : Sta Z Z.heap "java/lang/String" "COMPACT_STRINGS" "Z" (.int cs)) (hEW : EW Z a0 EL) (b d s t : Addr) (bs xs : List Int32) (h0 : Heap) (n0 : Nat) (OD : Old Z n0 h0) (SB : Sq Z h0 b d bs) (SA : Sg Z h0 s t xs) (hbd : b ≠ d) (gb : n0 ≤ b) (gd : n0 ≤ d) (hfit : bs.length + xs.length ≤ 112) : Mt l Z M_sab [] n0 #[(.ref b), (.ref s)] h0 (fun v h => v = some (.ref b) ∧ ∃ e, (e = d ∨ h0.size ≤ e) ∧ n0 ≤ e ∧ b ≠ e ∧ Keep h0 h [b, d] ∧ Sq Z h b e (bs ++ xs)) :=
  mt_of_kw (P := ([], fun _ => False)) pf_sab (fun m => by first | (simp [entryFrame, mkF, argsToLocals, Value.category]; done) | rfl) (kw_sab l Z a0 hw cs hcs SC hEW b d s t bs xs h0 n0 OD SB SA hbd gb gd hfit)
abbrev M_asz : MD := ((⟨"java/lang/AbstractStringBuilder", "<init>", "(Ljava/lang/String;)V"⟩ : MethodName), jdk_68_method_3_code, 5, none, { frames := 7, cells := 2, slots := 167, locals := 136 })
theorem d_asz_0 : decode jdk_68_method_3_code 0 = .ok (.aload_n 0, 1) := by decide +kernel
theorem d_asz_1 : decode jdk_68_method_3_code 1 = .ok (.invokespecial 3, 3) := by decide +kernel
theorem d_asz_4 : decode jdk_68_method_3_code 4 = .ok (.aload_n 1, 1) := by decide +kernel
theorem d_asz_5 : decode jdk_68_method_3_code 5 = .ok (.invokevirtual 32, 3) := by decide +kernel
theorem d_asz_8 : decode jdk_68_method_3_code 8 = .ok (.istore_n 2, 1) := by decide +kernel
theorem d_asz_9 : decode jdk_68_method_3_code 9 = .ok (.iload_n 2, 1) := by decide +kernel
theorem d_asz_10 : decode jdk_68_method_3_code 10 = .ok (.ldc 38, 2) := by decide +kernel
theorem d_asz_12 : decode jdk_68_method_3_code 12 = .ok (.if_icmp .ge 10, 3) := by decide +kernel
theorem d_asz_15 : decode jdk_68_method_3_code 15 = .ok (.iload_n 2, 1) := by decide +kernel
theorem d_asz_16 : decode jdk_68_method_3_code 16 = .ok (.bipush 16, 2) := by decide +kernel
theorem d_asz_18 : decode jdk_68_method_3_code 18 = .ok (.iadd, 1) := by decide +kernel
theorem d_asz_19 : decode jdk_68_method_3_code 19 = .ok (.goto 5, 3) := by decide +kernel
theorem d_asz_22 : decode jdk_68_method_3_code 22 = .ok (.ldc 39, 2) := by decide +kernel
theorem d_asz_24 : decode jdk_68_method_3_code 24 = .ok (.istore_n 3, 1) := by decide +kernel
theorem d_asz_25 : decode jdk_68_method_3_code 25 = .ok (.aload_n 1, 1) := by decide +kernel
theorem d_asz_26 : decode jdk_68_method_3_code 26 = .ok (.invokevirtual 40, 3) := by decide +kernel
theorem d_asz_29 : decode jdk_68_method_3_code 29 = .ok (.istore 4, 2) := by decide +kernel
theorem d_asz_31 : decode jdk_68_method_3_code 31 = .ok (.aload_n 0, 1) := by decide +kernel
theorem d_asz_32 : decode jdk_68_method_3_code 32 = .ok (.iload 4, 2) := by decide +kernel
theorem d_asz_34 : decode jdk_68_method_3_code 34 = .ok (.putfield 22, 3) := by decide +kernel
theorem d_asz_37 : decode jdk_68_method_3_code 37 = .ok (.aload_n 0, 1) := by decide +kernel
theorem d_asz_38 : decode jdk_68_method_3_code 38 = .ok (.iload 4, 2) := by decide +kernel
theorem d_asz_40 : decode jdk_68_method_3_code 40 = .ok (.ifCond .ne 9, 3) := by decide +kernel
theorem d_asz_43 : decode jdk_68_method_3_code 43 = .ok (.iload_n 3, 1) := by decide +kernel
theorem d_asz_44 : decode jdk_68_method_3_code 44 = .ok (.newarray .byte, 2) := by decide +kernel
theorem d_asz_46 : decode jdk_68_method_3_code 46 = .ok (.goto 7, 3) := by decide +kernel
theorem d_asz_49 : decode jdk_68_method_3_code 49 = .ok (.iload_n 3, 1) := by decide +kernel
theorem d_asz_50 : decode jdk_68_method_3_code 50 = .ok (.invokestatic 26, 3) := by decide +kernel
theorem d_asz_53 : decode jdk_68_method_3_code 53 = .ok (.putfield 15, 3) := by decide +kernel
theorem d_asz_56 : decode jdk_68_method_3_code 56 = .ok (.aload_n 0, 1) := by decide +kernel
theorem d_asz_57 : decode jdk_68_method_3_code 57 = .ok (.aload_n 1, 1) := by decide +kernel
theorem d_asz_58 : decode jdk_68_method_3_code 58 = .ok (.invokevirtual 43, 3) := by decide +kernel
theorem d_asz_61 : decode jdk_68_method_3_code 61 = .ok (.pop, 1) := by decide +kernel
theorem d_asz_62 : decode jdk_68_method_3_code 62 = .ok (.return_, 1) := by decide +kernel
theorem pd_asz : parseMethodDescriptor "(Ljava/lang/String;)V" = some ⟨[(.object "java/lang/String")], none⟩ := by decide +kernel
theorem pf_asz : plainFor (⟨"java/lang/AbstractStringBuilder", "<init>", "(Ljava/lang/String;)V"⟩ : MethodName) = true := by first | exact plainFor_of_name (by first | (simp [plainName, overriddenIn]; done) | decide +kernel) | decide +kernel
set_option maxRecDepth 65536 in
set_option maxHeartbeats 40000000 in
theorem kw_asz (l : Launch) (Z : State) (a0 : Array Value) (hw : ∀ d ∈ tables_1, d.before a0 Z = true) (cs : Int32) (hcs : ¬ cs = 0) (SC : Sta Z Z.heap "java/lang/String" "COMPACT_STRINGS" "Z" (.int cs)) (hEW : EW Z a0 EL) (b s t : Addr) (xs : List Int32) (h0 : Heap) (n0 : Nat) (OD : Old Z n0 h0) (gb : n0 ≤ b) (EB : Exa Z h0 b "java/lang/StringBuilder") (GF1 : Fld Z h0 b "java/lang/AbstractStringBuilder" "value" "[B" .null) (GF2 : Fld Z h0 b "java/lang/AbstractStringBuilder" "coder" "B" (.int 0)) (GF3 : Fld Z h0 b "java/lang/AbstractStringBuilder" "count" "I" (.int 0)) (GF4 : Fld Z h0 b "java/lang/AbstractStringBuilder" "maybeLatin1" "Z" (.int 0)) (SA : Sg Z h0 s t xs) (hx : xs.length = 39) : KW false l Z M_asz n0 (fun v h => v = none ∧ ∃ e, h0.size ≤ e ∧ n0 ≤ e ∧ b ≠ e ∧ Keep h0 h [b] ∧ Sq Z h b e xs) ([], fun _ => False) h0 0 0 0 #[.val (.ref b), .val (.ref s), .unset, .unset, .unset] [] := by
  have Z0 := OD.1 ▸ OD.2.1
  have K0 : Keep h0 h0 [b] := Keep.refl _ _
  have hsb : s ≠ b := Exa.ne SA.exa EB (by decide)
  have htb : t ≠ b := by
    obtain ⟨ckT, -, -, -, AT, -⟩ := id SA
    exact (Exa.neArv EB AT (hw _ (List.mem_of_getElem? (i := 34) rfl))).symm
  refine k_aloadN d_asz_0 rfl rfl rfl ?_
  refine k_initObj (W0 := 0) d_asz_1 rfl (hw _ (List.mem_of_getElem? (i := 45) rfl)) (hw _ (List.mem_of_getElem? (i := 23) rfl)) (hw _ (List.mem_of_getElem? (i := 24) rfl)) rfl rfl (by decide) (by decide) ?_
  refine k_aloadN d_asz_4 rfl rfl rfl ?_
  refine k_callVirtual (argsL := []) (rest := []) (W0 := 0) d_asz_5 rfl (mt_len l Z a0 hw cs hcs SC hEW s t xs h0 n0 OD SA) Kp.strict SA.exa (hw _ (List.mem_of_getElem? (i := 96) rfl)) (hw _ (List.mem_of_getElem? (i := 97) rfl)) (hw _ (List.mem_of_getElem? (i := 99) rfl)) (hw _ (List.mem_of_getElem? (i := 99) rfl)) rfl (hw _ (List.mem_of_getElem? (i := 98) rfl)) (hw _ (List.mem_of_getElem? (i := 100) rfl)) (hw _ (List.mem_of_getElem? (i := 5) rfl)) (by decide) pd_len rfl rfl rfl rfl (by decide) (by decide) (by decide) (by decide) ?_
  rintro _ _ - ⟨rfl, rfl⟩
  refine KW.any (P' := ([], fun _ => False)) ?_
  show KW false l Z M_asz n0 (fun v h => v = none ∧ ∃ e, h0.size ≤ e ∧ n0 ≤ e ∧ b ≠ e ∧ Keep h0 h [b] ∧ Sq Z h b e xs) ([], fun _ => False) h0 0 0 8 #[.val (.ref b), .val (.ref s), .unset, .unset, .unset] [(.int (Int32.ofNat xs.length))]
  refine k_istoreN (Ls' := #[.val (.ref b), .val (.ref s), .val (.int (Int32.ofNat xs.length)), .unset, .unset]) d_asz_8 rfl rfl ?_
  refine k_iloadN d_asz_9 rfl rfl ?_
  refine k_ldcI d_asz_10 rfl (hw _ (List.mem_of_getElem? (i := 106) rfl)) ?_
  refine k_icmp (pc1 := 22) (pc' := 15) d_asz_12 (by decide) (by decide) rfl (fun (cd1 : ¬ (Int32.ofNat xs.length) < (2147483631 : Int32)) => absurd (by rw [hx]; decide) cd1) (fun (cd1 : (Int32.ofNat xs.length) < (2147483631 : Int32)) => ?_)
  refine k_iloadN d_asz_15 rfl rfl ?_
  refine k_bipush (z := (16 : Int32)) d_asz_16 rfl (by decide) ?_
  refine k_iadd d_asz_18 rfl ?_
  refine KW.top (congrArg Value.int (show Int32.ofNat xs.length + (16 : Int32) = Int32.ofNat 55 by rw [hx]; decide)) ?_
  show KW false l Z M_asz n0 (fun v h => v = none ∧ ∃ e, h0.size ≤ e ∧ n0 ≤ e ∧ b ≠ e ∧ Keep h0 h [b] ∧ Sq Z h b e xs) ([], fun _ => False) h0 0 0 19 #[.val (.ref b), .val (.ref s), .val (.int (Int32.ofNat xs.length)), .unset, .unset] [(.int (Int32.ofNat 55))]
  refine k_goto (pc' := 24) d_asz_19 (by decide) (by decide) ?_
  refine k_istoreN (Ls' := #[.val (.ref b), .val (.ref s), .val (.int (Int32.ofNat xs.length)), .val (.int (Int32.ofNat 55)), .unset]) d_asz_24 rfl rfl ?_
  refine k_aloadN d_asz_25 rfl rfl rfl ?_
  refine k_callVirtual (argsL := []) (rest := []) (W0 := 0) d_asz_26 rfl (mt_cdr l Z a0 hw cs hcs SC hEW s t xs h0 n0 OD SA) Kp.strict SA.exa (hw _ (List.mem_of_getElem? (i := 107) rfl)) (hw _ (List.mem_of_getElem? (i := 102) rfl)) (hw _ (List.mem_of_getElem? (i := 104) rfl)) (hw _ (List.mem_of_getElem? (i := 99) rfl)) rfl (hw _ (List.mem_of_getElem? (i := 103) rfl)) (hw _ (List.mem_of_getElem? (i := 105) rfl)) (hw _ (List.mem_of_getElem? (i := 5) rfl)) (by decide) pd_cdr rfl rfl rfl rfl (by decide) (by decide) (by decide) (by decide) ?_
  rintro _ _ - ⟨rfl, rfl⟩
  refine KW.any (P' := ([], fun _ => False)) ?_
  show KW false l Z M_asz n0 (fun v h => v = none ∧ ∃ e, h0.size ≤ e ∧ n0 ≤ e ∧ b ≠ e ∧ Keep h0 h [b] ∧ Sq Z h b e xs) ([], fun _ => False) h0 0 0 29 #[.val (.ref b), .val (.ref s), .val (.int (Int32.ofNat xs.length)), .val (.int (Int32.ofNat 55)), .unset] [(.int (0 : Int32))]
  refine k_istore (Ls' := #[.val (.ref b), .val (.ref s), .val (.int (Int32.ofNat xs.length)), .val (.int (Int32.ofNat 55)), .val (.int (0 : Int32))]) d_asz_29 rfl rfl ?_
  refine k_aloadN d_asz_31 rfl rfl rfl ?_
  refine k_iload d_asz_32 rfl rfl ?_
  refine k_put (v' := (.int (0 : Int32))) (ty := .byte) d_asz_34 rfl (hw _ (List.mem_of_getElem? (i := 49) rfl)) Via.refl GF2 EB (Or.inl (hw _ (List.mem_of_getElem? (i := 50) rfl))) (hw _ (List.mem_of_getElem? (i := 34) rfl)) (by decide) rfl rfl gb (fun q => by cases q) ?_
  intro h1 W2
  have F3 := GF2.same W2
  show KW false l Z M_asz n0 (fun v h => v = none ∧ ∃ e, h0.size ≤ e ∧ n0 ≤ e ∧ b ≠ e ∧ Keep h0 h [b] ∧ Sq Z h b e xs) ([], fun _ => False) h1 0 0 37 #[.val (.ref b), .val (.ref s), .val (.int (Int32.ofNat xs.length)), .val (.int (Int32.ofNat 55)), .val (.int (0 : Int32))] []
  refine k_aloadN d_asz_37 rfl rfl rfl ?_
  refine k_iload d_asz_38 rfl rfl ?_
  refine k_ifc (pc1 := 49) (pc' := 43) d_asz_40 (by decide) (by decide) rfl (fun (cd2 : ¬ (0 : Int32) = (0 : Int32)) => False.elim (by exact absurd cd2 (by decide))) (fun (cd2 : (0 : Int32) = (0 : Int32)) => ?_)
  refine k_iloadN d_asz_43 rfl rfl ?_
  have f10 := (EB.wr W2)
  refine k_newarr (cap := 55) d_asz_44 rfl (hw _ (List.mem_of_getElem? (i := 17) rfl)) (ix_nn (by decide)) (by decide) (by decide) (by decide) (by decide) ?_
  intro h5 a4 ck9 g8 E6 V7
  have ne11 : b ≠ a4 := Nat.ne_of_lt (Nat.lt_of_lt_of_eq f10.lt g8.symm)
  have z13 : n0 ≤ h1.size := (Nat.le_trans Z0 (Nat.le_of_eq W2.size.symm))
  have ge12 : n0 ≤ a4 := Nat.le_trans z13 (Nat.le_of_eq g8.symm)
  have gl14 : h1.size ≤ a4 := Nat.le_of_eq g8.symm
  have f15 := (K0.wr W2 (Or.inl (by simp)))
  have gh16 := Nat.le_trans f15.1 gl14
  refine KW.any (P' := ([], fun _ => False)) ?_
  show KW false l Z M_asz n0 (fun v h => v = none ∧ ∃ e, h0.size ≤ e ∧ n0 ≤ e ∧ b ≠ e ∧ Keep h0 h [b] ∧ Sq Z h b e xs) ([], fun _ => False) h5 1 55 46 #[.val (.ref b), .val (.ref s), .val (.int (Int32.ofNat xs.length)), .val (.int (Int32.ofNat 55)), .val (.int (0 : Int32))] [(.ref a4), (.ref b)]
  refine k_goto (pc' := 53) d_asz_46 (by decide) (by decide) ?_
  have f19 := ((GF1.other W2 (Or.inr (slot_ne (t := (.array .byte)) (t' := .byte) (Or.inl (hw _ (List.mem_of_getElem? (i := 48) rfl))) (Or.inl (hw _ (List.mem_of_getElem? (i := 50) rfl))) (by decide) (by decide) (by decide)))).ext E6)
  have f20 := (f10.ext E6)
  refine k_put (v' := (.ref a4)) (ty := (.array .byte)) d_asz_53 rfl (hw _ (List.mem_of_getElem? (i := 47) rfl)) Via.refl f19 f20 (Or.inl (hw _ (List.mem_of_getElem? (i := 48) rfl))) (hw _ (List.mem_of_getElem? (i := 34) rfl)) (by decide) rfl rfl gb (fun q => by cases q) ?_
  intro h17 W18
  have F21 := f19.same W18
  show KW false l Z M_asz n0 (fun v h => v = none ∧ ∃ e, h0.size ≤ e ∧ n0 ≤ e ∧ b ≠ e ∧ Keep h0 h [b] ∧ Sq Z h b e xs) ([], fun _ => False) h17 1 55 56 #[.val (.ref b), .val (.ref s), .val (.int (Int32.ofNat xs.length)), .val (.int (Int32.ofNat 55)), .val (.int (0 : Int32))] []
  refine k_aloadN d_asz_56 rfl rfl rfl ?_
  refine k_aloadN d_asz_57 rfl rfl rfl ?_
  have f22 := (V7.other W18 (Ne.symm ne11))
  have f23 := (f20.wr W18)
  have f24 := ((F3.ext E6).other W18 (Or.inr (slot_ne (t := .byte) (t' := (.array .byte)) (Or.inl (hw _ (List.mem_of_getElem? (i := 50) rfl))) (Or.inl (hw _ (List.mem_of_getElem? (i := 48) rfl))) (by decide) (by decide) (by decide))))
  have f25 := (((GF3.other W2 (Or.inr (slot_ne (t := .int) (t' := .byte) (Or.inl (hw _ (List.mem_of_getElem? (i := 123) rfl))) (Or.inl (hw _ (List.mem_of_getElem? (i := 50) rfl))) (by decide) (by decide) (by decide)))).ext E6).other W18 (Or.inr (slot_ne (t := .int) (t' := (.array .byte)) (Or.inl (hw _ (List.mem_of_getElem? (i := 123) rfl))) (Or.inl (hw _ (List.mem_of_getElem? (i := 48) rfl))) (by decide) (by decide) (by decide))))
  have f26 := (((GF4.other W2 (Or.inr (slot_ne (t := .boolean) (t' := .byte) (Or.inl (hw _ (List.mem_of_getElem? (i := 211) rfl))) (Or.inl (hw _ (List.mem_of_getElem? (i := 50) rfl))) (by decide) (by decide) (by decide)))).ext E6).other W18 (Or.inr (slot_ne (t := .boolean) (t' := (.array .byte)) (Or.inl (hw _ (List.mem_of_getElem? (i := 211) rfl))) (Or.inl (hw _ (List.mem_of_getElem? (i := 48) rfl))) (by decide) (by decide) (by decide))))
  have f27 := ((f15.ext E6).wr W18 (Or.inl (by simp)))
  have f28 := (((OD.wr W2 gb).ext E6).wr W18 gb)
  have f29 := (((SA.wr W2 hsb htb).ext E6).wr W18 hsb htb)
  have SQ : Sq Z h17 b a4 [] := ⟨⟨ck9, List.replicate 55 0, f23, F21, f24, f25, Arv.pad f22 (by rw [List.nil_append, List.map_replicate]; exact pad_rep [] _ 55), by simp [capO], by decide⟩, f26⟩
  refine k_callVirtual (argsL := [(.ref s)]) (rest := []) (W0 := 0) d_asz_58 rfl (mt_sab l Z a0 hw cs hcs SC hEW b a4 s t [] xs h17 n0 f28 SQ f29 ne11 gb ge12 (by rw [List.length_nil, hx]; decide)) Kp.strict f23 (hw _ (List.mem_of_getElem? (i := 108) rfl)) (hw _ (List.mem_of_getElem? (i := 109) rfl)) (hw _ (List.mem_of_getElem? (i := 111) rfl)) (hw _ (List.mem_of_getElem? (i := 127) rfl)) rfl (hw _ (List.mem_of_getElem? (i := 112) rfl)) (hw _ (List.mem_of_getElem? (i := 113) rfl)) (hw _ (List.mem_of_getElem? (i := 35) rfl)) (by decide) pd_sab rfl rfl rfl rfl (by decide) (by decide) (by decide) (by decide) ?_
  rintro _ hW - ⟨rfl, e, he, ge, hbe, KW_, SQW⟩
  refine KW.any (P' := ([], fun _ => False)) ?_
  show KW false l Z M_asz n0 (fun v h => v = none ∧ ∃ e, h0.size ≤ e ∧ n0 ≤ e ∧ b ≠ e ∧ Keep h0 h [b] ∧ Sq Z h b e xs) ([], fun _ => False) hW 2 167 61 #[.val (.ref b), .val (.ref s), .val (.int (Int32.ofNat xs.length)), .val (.int (Int32.ofNat 55)), .val (.int (0 : Int32))] [(.ref b)]
  refine k_pop d_asz_61 rfl rfl ?_
  have f30 := (f27.trans KW_ (allS (Or.inl (by simp)) (allS (Or.inr gh16) all0)))
  exact k_retVoid d_asz_62 rfl (by decide) (by decide) ⟨rfl, e, (by rcases he with q | q; exact q ▸ gh16; exact Nat.le_trans (Nat.le_trans gh16 (Nat.le_of_lt SQ.ltv)) q), ge, hbe, f30, by simpa using SQW⟩
theorem mt_asz (l : Launch) (Z : State) (a0 : Array Value) (hw : ∀ d ∈ tables_1, d.before a0 Z = true) (cs : Int32) (hcs : ¬ cs = 0) (SC : Sta Z Z.heap "java/lang/String" "COMPACT_STRINGS" "Z" (.int cs)) (hEW : EW Z a0 EL) (b s t : Addr) (xs : List Int32) (h0 : Heap) (n0 : Nat) (OD : Old Z n0 h0) (gb : n0 ≤ b) (EB : Exa Z h0 b "java/lang/StringBuilder") (GF1 : Fld Z h0 b "java/lang/AbstractStringBuilder" "value" "[B" .null) (GF2 : Fld Z h0 b "java/lang/AbstractStringBuilder" "coder" "B" (.int 0)) (GF3 : Fld Z h0 b "java/lang/AbstractStringBuilder" "count" "I" (.int 0)) (GF4 : Fld Z h0 b "java/lang/AbstractStringBuilder" "maybeLatin1" "Z" (.int 0)) (SA : Sg Z h0 s t xs) (hx : xs.length = 39) : Mt l Z M_asz [] n0 #[(.ref b), (.ref s)] h0 (fun v h => v = none ∧ ∃ e, h0.size ≤ e ∧ n0 ≤ e ∧ b ≠ e ∧ Keep h0 h [b] ∧ Sq Z h b e xs) :=
  mt_of_kw (P := ([], fun _ => False)) pf_asz (fun m => by first | (simp [entryFrame, mkF, argsToLocals, Value.category]; done) | rfl) (kw_asz l Z a0 hw cs hcs SC hEW b s t xs h0 n0 OD gb EB GF1 GF2 GF3 GF4 SA hx)
abbrev M_szs : MD := ((⟨"java/lang/StringBuilder", "<init>", "(Ljava/lang/String;)V"⟩ : MethodName), jdk_67_method_3_code, 2, none, { frames := 8, cells := 2, slots := 167, locals := 156 })
theorem d_szs_0 : decode jdk_67_method_3_code 0 = .ok (.aload_n 0, 1) := by decide +kernel
theorem d_szs_1 : decode jdk_67_method_3_code 1 = .ok (.aload_n 1, 1) := by decide +kernel
theorem d_szs_2 : decode jdk_67_method_3_code 2 = .ok (.invokespecial 7, 3) := by decide +kernel
theorem d_szs_5 : decode jdk_67_method_3_code 5 = .ok (.return_, 1) := by decide +kernel
theorem pd_szs : parseMethodDescriptor "(Ljava/lang/String;)V" = some ⟨[(.object "java/lang/String")], none⟩ := by decide +kernel
theorem pf_szs : plainFor (⟨"java/lang/StringBuilder", "<init>", "(Ljava/lang/String;)V"⟩ : MethodName) = true := by first | exact plainFor_of_name (by first | (simp [plainName, overriddenIn]; done) | decide +kernel) | decide +kernel
set_option maxRecDepth 65536 in
set_option maxHeartbeats 40000000 in
theorem kw_szs (l : Launch) (Z : State) (a0 : Array Value) (hw : ∀ d ∈ tables_1, d.before a0 Z = true) (cs : Int32) (hcs : ¬ cs = 0) (SC : Sta Z Z.heap "java/lang/String" "COMPACT_STRINGS" "Z" (.int cs)) (hEW : EW Z a0 EL) (b s t : Addr) (xs : List Int32) (h0 : Heap) (n0 : Nat) (OD : Old Z n0 h0) (gb : n0 ≤ b) (EB : Exa Z h0 b "java/lang/StringBuilder") (GF1 : Fld Z h0 b "java/lang/AbstractStringBuilder" "value" "[B" .null) (GF2 : Fld Z h0 b "java/lang/AbstractStringBuilder" "coder" "B" (.int 0)) (GF3 : Fld Z h0 b "java/lang/AbstractStringBuilder" "count" "I" (.int 0)) (GF4 : Fld Z h0 b "java/lang/AbstractStringBuilder" "maybeLatin1" "Z" (.int 0)) (SA : Sg Z h0 s t xs) (hx : xs.length = 39) : KW false l Z M_szs n0 (fun v h => v = none ∧ ∃ e, h0.size ≤ e ∧ n0 ≤ e ∧ b ≠ e ∧ Keep h0 h [b] ∧ Sq Z h b e xs) ([], fun _ => False) h0 0 0 0 #[.val (.ref b), .val (.ref s)] [] := by
  refine k_aloadN d_szs_0 rfl rfl rfl ?_
  refine k_aloadN d_szs_1 rfl rfl rfl ?_
  refine k_callInit (a := b) (argsL := [(.ref s)]) (rest := []) (W0 := 0) d_szs_2 rfl (mt_asz l Z a0 hw cs hcs SC hEW b s t xs h0 n0 OD gb EB GF1 GF2 GF3 GF4 SA hx) Kp.strict rfl rfl (hw _ (List.mem_of_getElem? (i := 92) rfl)) (hw _ (List.mem_of_getElem? (i := 93) rfl)) (hw _ (List.mem_of_getElem? (i := 43) rfl)) (hw _ (List.mem_of_getElem? (i := 95) rfl)) (by decide) pd_asz rfl rfl rfl rfl (by decide) (by decide) (by decide) (by decide) ?_
  rintro _ hM - ⟨rfl, R1⟩
  refine KW.any (P' := ([], fun _ => False)) ?_
  show KW false l Z M_szs n0 (fun v h => v = none ∧ ∃ e, h0.size ≤ e ∧ n0 ≤ e ∧ b ≠ e ∧ Keep h0 h [b] ∧ Sq Z h b e xs) ([], fun _ => False) hM 2 167 5 #[.val (.ref b), .val (.ref s)] []
  exact k_retVoid d_szs_5 rfl (by decide) (by decide) ⟨rfl, R1⟩
theorem mt_szs (l : Launch) (Z : State) (a0 : Array Value) (hw : ∀ d ∈ tables_1, d.before a0 Z = true) (cs : Int32) (hcs : ¬ cs = 0) (SC : Sta Z Z.heap "java/lang/String" "COMPACT_STRINGS" "Z" (.int cs)) (hEW : EW Z a0 EL) (b s t : Addr) (xs : List Int32) (h0 : Heap) (n0 : Nat) (OD : Old Z n0 h0) (gb : n0 ≤ b) (EB : Exa Z h0 b "java/lang/StringBuilder") (GF1 : Fld Z h0 b "java/lang/AbstractStringBuilder" "value" "[B" .null) (GF2 : Fld Z h0 b "java/lang/AbstractStringBuilder" "coder" "B" (.int 0)) (GF3 : Fld Z h0 b "java/lang/AbstractStringBuilder" "count" "I" (.int 0)) (GF4 : Fld Z h0 b "java/lang/AbstractStringBuilder" "maybeLatin1" "Z" (.int 0)) (SA : Sg Z h0 s t xs) (hx : xs.length = 39) : Mt l Z M_szs [] n0 #[(.ref b), (.ref s)] h0 (fun v h => v = none ∧ ∃ e, h0.size ≤ e ∧ n0 ≤ e ∧ b ≠ e ∧ Keep h0 h [b] ∧ Sq Z h b e xs) :=
  mt_of_kw (P := ([], fun _ => False)) pf_szs (fun m => by first | (simp [entryFrame, mkF, argsToLocals, Value.category]; done) | rfl) (kw_szs l Z a0 hw cs hcs SC hEW b s t xs h0 n0 OD gb EB GF1 GF2 GF3 GF4 SA hx)
theorem laid_nil (xs ys : List Int32) (q : Nat) : laid xs ys 0 q 0 = ys := by
  unfold laid; simp
abbrev M_gcd : MD := ((⟨"java/lang/AbstractStringBuilder", "getCoder", "()B"⟩ : MethodName), jdk_68_method_67_code, 1, (some .byte), { frames := 0, cells := 0, slots := 0, locals := 0 })
theorem d_gcd_0 : decode jdk_68_method_67_code 0 = .ok (.getstatic 18, 3) := by decide +kernel
theorem d_gcd_3 : decode jdk_68_method_67_code 3 = .ok (.ifCond .eq 10, 3) := by decide +kernel
theorem d_gcd_6 : decode jdk_68_method_67_code 6 = .ok (.aload_n 0, 1) := by decide +kernel
theorem d_gcd_7 : decode jdk_68_method_67_code 7 = .ok (.getfield 22, 3) := by decide +kernel
theorem d_gcd_10 : decode jdk_68_method_67_code 10 = .ok (.goto 4, 3) := by decide +kernel
theorem d_gcd_13 : decode jdk_68_method_67_code 13 = .ok (.iconst 1, 1) := by decide +kernel
theorem d_gcd_14 : decode jdk_68_method_67_code 14 = .ok (.ireturn, 1) := by decide +kernel
theorem pd_gcd : parseMethodDescriptor "()B" = some ⟨[], (some .byte)⟩ := by decide +kernel
theorem pf_gcd : plainFor (⟨"java/lang/AbstractStringBuilder", "getCoder", "()B"⟩ : MethodName) = true := by first | exact plainFor_of_name (by first | (simp [plainName, overriddenIn]; done) | decide +kernel) | decide +kernel
set_option maxRecDepth 65536 in
set_option maxHeartbeats 40000000 in
theorem kw_gcd (l : Launch) (Z : State) (a0 : Array Value) (hw : ∀ d ∈ tables_1, d.before a0 Z = true) (cs : Int32) (hcs : ¬ cs = 0) (SC : Sta Z Z.heap "java/lang/String" "COMPACT_STRINGS" "Z" (.int cs)) (hEW : EW Z a0 EL) (b : Addr) (h0 : Heap) (n0 : Nat) (OD : Old Z n0 h0) (CB : Fld Z h0 b "java/lang/AbstractStringBuilder" "coder" "B" (.int 0)) : KW false l Z M_gcd n0 (fun v h => v = some (.int 0) ∧ h0 = h) ([], fun _ => False) h0 0 0 0 #[.val (.ref b)] [] := by
  refine k_getStatic d_gcd_0 rfl (hw _ (List.mem_of_getElem? (i := 46) rfl)) (Sta.ext OD.2 SC) ?_
  refine k_ifc (pc1 := 13) (pc' := 6) d_gcd_3 (by decide) (by decide) rfl (fun (cd1 : cs = (0 : Int32)) => False.elim (by exact hcs cd1)) (fun (cd1 : ¬ cs = (0 : Int32)) => ?_)
  refine k_aloadN d_gcd_6 rfl rfl rfl ?_
  refine k_getField d_gcd_7 rfl (hw _ (List.mem_of_getElem? (i := 49) rfl)) Via.refl CB ?_
  refine k_goto (pc' := 14) d_gcd_10 (by decide) (by decide) ?_
  exact k_retNar d_gcd_14 rfl (by simp) (z' := (0 : Int32)) (by decide) (by decide) (by decide) ⟨rfl, rfl⟩
theorem mt_gcd (l : Launch) (Z : State) (a0 : Array Value) (hw : ∀ d ∈ tables_1, d.before a0 Z = true) (cs : Int32) (hcs : ¬ cs = 0) (SC : Sta Z Z.heap "java/lang/String" "COMPACT_STRINGS" "Z" (.int cs)) (hEW : EW Z a0 EL) (b : Addr) (h0 : Heap) (n0 : Nat) (OD : Old Z n0 h0) (CB : Fld Z h0 b "java/lang/AbstractStringBuilder" "coder" "B" (.int 0)) : Mt l Z M_gcd [] n0 #[(.ref b)] h0 (fun v h => v = some (.int 0) ∧ h0 = h) :=
  mt_of_kw (P := ([], fun _ => False)) pf_gcd (fun m => by first | (simp [entryFrame, mkF, argsToLocals, Value.category]; done) | rfl) (kw_gcd l Z a0 hw cs hcs SC hEW b h0 n0 OD CB)
abbrev M_ina : MD := ((⟨"java/lang/AbstractStringBuilder", "inflateIfNeededFor", "(Ljava/lang/AbstractStringBuilder;)V"⟩ : MethodName), jdk_68_method_72_code, 2, none, { frames := 1, cells := 0, slots := 0, locals := 16 })
theorem d_ina_0 : decode jdk_68_method_72_code 0 = .ok (.getstatic 18, 3) := by decide +kernel
theorem d_ina_3 : decode jdk_68_method_72_code 3 = .ok (.ifCond .eq 18, 3) := by decide +kernel
theorem d_ina_6 : decode jdk_68_method_72_code 6 = .ok (.aload_n 0, 1) := by decide +kernel
theorem d_ina_7 : decode jdk_68_method_72_code 7 = .ok (.getfield 22, 3) := by decide +kernel
theorem d_ina_10 : decode jdk_68_method_72_code 10 = .ok (.aload_n 1, 1) := by decide +kernel
theorem d_ina_11 : decode jdk_68_method_72_code 11 = .ok (.invokevirtual 70, 3) := by decide +kernel
theorem d_ina_14 : decode jdk_68_method_72_code 14 = .ok (.if_icmp .eq 7, 3) := by decide +kernel
theorem d_ina_17 : decode jdk_68_method_72_code 17 = .ok (.aload_n 0, 1) := by decide +kernel
theorem d_ina_18 : decode jdk_68_method_72_code 18 = .ok (.invokevirtual 195, 3) := by decide +kernel
theorem d_ina_21 : decode jdk_68_method_72_code 21 = .ok (.return_, 1) := by decide +kernel
theorem pd_ina : parseMethodDescriptor "(Ljava/lang/AbstractStringBuilder;)V" = some ⟨[(.object "java/lang/AbstractStringBuilder")], none⟩ := by decide +kernel
theorem pf_ina : plainFor (⟨"java/lang/AbstractStringBuilder", "inflateIfNeededFor", "(Ljava/lang/AbstractStringBuilder;)V"⟩ : MethodName) = true := by first | exact plainFor_of_name (by first | (simp [plainName, overriddenIn]; done) | decide +kernel) | decide +kernel
set_option maxRecDepth 65536 in
set_option maxHeartbeats 40000000 in
theorem kw_ina (l : Launch) (Z : State) (a0 : Array Value) (hw : ∀ d ∈ tables_1, d.before a0 Z = true) (cs : Int32) (hcs : ¬ cs = 0) (SC : Sta Z Z.heap "java/lang/String" "COMPACT_STRINGS" "Z" (.int cs)) (hEW : EW Z a0 EL) (b w : Addr) (h0 : Heap) (n0 : Nat) (OD : Old Z n0 h0) (CB : Fld Z h0 b "java/lang/AbstractStringBuilder" "coder" "B" (.int 0)) (CW : Fld Z h0 w "java/lang/AbstractStringBuilder" "coder" "B" (.int 0)) (EW_ : Exa Z h0 w "java/lang/StringBuilder") : KW false l Z M_ina n0 (fun v h => v = none ∧ h0 = h) ([], fun _ => False) h0 0 0 0 #[.val (.ref b), .val (.ref w)] [] := by
  refine k_getStatic d_ina_0 rfl (hw _ (List.mem_of_getElem? (i := 46) rfl)) (Sta.ext OD.2 SC) ?_
  refine k_ifc (pc1 := 21) (pc' := 6) d_ina_3 (by decide) (by decide) rfl (fun (cd1 : cs = (0 : Int32)) => False.elim (by exact hcs cd1)) (fun (cd1 : ¬ cs = (0 : Int32)) => ?_)
  refine k_aloadN d_ina_6 rfl rfl rfl ?_
  refine k_getField d_ina_7 rfl (hw _ (List.mem_of_getElem? (i := 49) rfl)) Via.refl CB ?_
  refine k_aloadN d_ina_10 rfl rfl rfl ?_
  refine k_callVirtual (argsL := []) (rest := [(.int (0 : Int32))]) (W0 := 1) d_ina_11 rfl (mt_gcd l Z a0 hw cs hcs SC hEW w h0 n0 OD CW) Kp.strict EW_ (hw _ (List.mem_of_getElem? (i := 199) rfl)) (hw _ (List.mem_of_getElem? (i := 200) rfl)) (hw _ (List.mem_of_getElem? (i := 202) rfl)) (hw _ (List.mem_of_getElem? (i := 127) rfl)) rfl (hw _ (List.mem_of_getElem? (i := 201) rfl)) (hw _ (List.mem_of_getElem? (i := 203) rfl)) (hw _ (List.mem_of_getElem? (i := 43) rfl)) (by decide) pd_gcd rfl rfl rfl rfl (by decide) (by decide) (by decide) (by decide) ?_
  rintro _ _ - ⟨rfl, rfl⟩
  refine KW.any (P' := ([], fun _ => False)) ?_
  show KW false l Z M_ina n0 (fun v h => v = none ∧ h0 = h) ([], fun _ => False) h0 0 0 14 #[.val (.ref b), .val (.ref w)] [(.int (0 : Int32)), (.int (0 : Int32))]
  refine k_icmp (pc1 := 21) (pc' := 17) d_ina_14 (by decide) (by decide) rfl (fun (cd2 : (0 : Int32) = (0 : Int32)) => ?_) (fun (cd2 : ¬ (0 : Int32) = (0 : Int32)) => False.elim (by exact absurd cd2 (by decide)))
  exact k_retVoid d_ina_21 rfl (by decide) (by decide) ⟨rfl, rfl⟩
theorem mt_ina (l : Launch) (Z : State) (a0 : Array Value) (hw : ∀ d ∈ tables_1, d.before a0 Z = true) (cs : Int32) (hcs : ¬ cs = 0) (SC : Sta Z Z.heap "java/lang/String" "COMPACT_STRINGS" "Z" (.int cs)) (hEW : EW Z a0 EL) (b w : Addr) (h0 : Heap) (n0 : Nat) (OD : Old Z n0 h0) (CB : Fld Z h0 b "java/lang/AbstractStringBuilder" "coder" "B" (.int 0)) (CW : Fld Z h0 w "java/lang/AbstractStringBuilder" "coder" "B" (.int 0)) (EW_ : Exa Z h0 w "java/lang/StringBuilder") : Mt l Z M_ina [] n0 #[(.ref b), (.ref w)] h0 (fun v h => v = none ∧ h0 = h) :=
  mt_of_kw (P := ([], fun _ => False)) pf_ina (fun m => by first | (simp [entryFrame, mkF, argsToLocals, Value.category]; done) | rfl) (kw_ina l Z a0 hw cs hcs SC hEW b w h0 n0 OD CB CW EW_)
abbrev M_gbe : MD := ((⟨"java/lang/AbstractStringBuilder", "getBytes", "([BIB)V"⟩ : MethodName), jdk_68_method_65_code, 4, none, { frames := 1, cells := 0, slots := 0, locals := 48 })
theorem d_gbe_0 : decode jdk_68_method_65_code 0 = .ok (.aload_n 0, 1) := by decide +kernel
theorem d_gbe_1 : decode jdk_68_method_65_code 1 = .ok (.getfield 22, 3) := by decide +kernel
theorem d_gbe_4 : decode jdk_68_method_65_code 4 = .ok (.iload_n 3, 1) := by decide +kernel
theorem d_gbe_5 : decode jdk_68_method_65_code 5 = .ok (.if_icmp .ne 24, 3) := by decide +kernel
theorem d_gbe_8 : decode jdk_68_method_65_code 8 = .ok (.aload_n 0, 1) := by decide +kernel
theorem d_gbe_9 : decode jdk_68_method_65_code 9 = .ok (.getfield 15, 3) := by decide +kernel
theorem d_gbe_12 : decode jdk_68_method_65_code 12 = .ok (.iconst 0, 1) := by decide +kernel
theorem d_gbe_13 : decode jdk_68_method_65_code 13 = .ok (.aload_n 1, 1) := by decide +kernel
theorem d_gbe_14 : decode jdk_68_method_65_code 14 = .ok (.iload_n 2, 1) := by decide +kernel
theorem d_gbe_15 : decode jdk_68_method_65_code 15 = .ok (.iload_n 3, 1) := by decide +kernel
theorem d_gbe_16 : decode jdk_68_method_65_code 16 = .ok (.ishl, 1) := by decide +kernel
theorem d_gbe_17 : decode jdk_68_method_65_code 17 = .ok (.aload_n 0, 1) := by decide +kernel
theorem d_gbe_18 : decode jdk_68_method_65_code 18 = .ok (.getfield 79, 3) := by decide +kernel
theorem d_gbe_21 : decode jdk_68_method_65_code 21 = .ok (.iload_n 3, 1) := by decide +kernel
theorem d_gbe_22 : decode jdk_68_method_65_code 22 = .ok (.ishl, 1) := by decide +kernel
theorem d_gbe_23 : decode jdk_68_method_65_code 23 = .ok (.invokestatic 309, 3) := by decide +kernel
theorem d_gbe_26 : decode jdk_68_method_65_code 26 = .ok (.goto 17, 3) := by decide +kernel
theorem d_gbe_29 : decode jdk_68_method_65_code 29 = .ok (.aload_n 0, 1) := by decide +kernel
theorem d_gbe_30 : decode jdk_68_method_65_code 30 = .ok (.getfield 15, 3) := by decide +kernel
theorem d_gbe_33 : decode jdk_68_method_65_code 33 = .ok (.iconst 0, 1) := by decide +kernel
theorem d_gbe_34 : decode jdk_68_method_65_code 34 = .ok (.aload_n 1, 1) := by decide +kernel
theorem d_gbe_35 : decode jdk_68_method_65_code 35 = .ok (.iload_n 2, 1) := by decide +kernel
theorem d_gbe_36 : decode jdk_68_method_65_code 36 = .ok (.aload_n 0, 1) := by decide +kernel
theorem d_gbe_37 : decode jdk_68_method_65_code 37 = .ok (.getfield 79, 3) := by decide +kernel
theorem d_gbe_40 : decode jdk_68_method_65_code 40 = .ok (.invokestatic 125, 3) := by decide +kernel
theorem d_gbe_43 : decode jdk_68_method_65_code 43 = .ok (.return_, 1) := by decide +kernel
theorem pd_gbe : parseMethodDescriptor "([BIB)V" = some ⟨[(.array .byte), .int, .byte], none⟩ := by decide +kernel
theorem pf_gbe : plainFor (⟨"java/lang/AbstractStringBuilder", "getBytes", "([BIB)V"⟩ : MethodName) = true := by first | exact plainFor_of_name (by first | (simp [plainName, overriddenIn]; done) | decide +kernel) | decide +kernel
set_option maxRecDepth 65536 in
set_option maxHeartbeats 40000000 in
theorem kw_gbe (l : Launch) (Z : State) (a0 : Array Value) (hw : ∀ d ∈ tables_1, d.before a0 Z = true) (cs : Int32) (hcs : ¬ cs = 0) (SC : Sta Z Z.heap "java/lang/String" "COMPACT_STRINGS" "Z" (.int cs)) (hEW : EW Z a0 EL) (b d e : Addr) (ck : ClassId) (ys : List Int32) (pos : Nat) (h0 : Heap) (n0 : Nat) (SB : Sb Z h0 b d 16 []) (D : Arv Z h0 e ck .byte (Int32.ofNat ys.length) (ys.map Value.int) (.int 0)) (hy : ys.length < 2147483648) (hfit : pos ≤ ys.length) (ge : n0 ≤ e) : KW false l Z M_gbe n0 (fun v h => v = none ∧ Keep h0 h [e] ∧ Arv Z h e ck .byte (Int32.ofNat ys.length) (ys.map Value.int) (.int 0)) ([], fun _ => False) h0 0 0 0 #[.val (.ref b), .val (.ref e), .val (.int (Int32.ofNat pos)), .val (.int (0 : Int32))] [] := by
  obtain ⟨ckB, zs, EB, VB, CB, NB, AB, hN, hN2⟩ := id SB
  refine k_aloadN d_gbe_0 rfl rfl rfl ?_
  refine k_getField d_gbe_1 rfl (hw _ (List.mem_of_getElem? (i := 49) rfl)) Via.refl CB ?_
  refine k_iloadN d_gbe_4 rfl rfl ?_
  refine k_icmp (pc1 := 29) (pc' := 8) d_gbe_5 (by decide) (by decide) rfl (fun (cd1 : ¬ (0 : Int32) = (0 : Int32)) => False.elim (by exact absurd cd1 (by decide))) (fun (cd1 : (0 : Int32) = (0 : Int32)) => ?_)
  refine k_aloadN d_gbe_8 rfl rfl rfl ?_
  refine k_getField d_gbe_9 rfl (hw _ (List.mem_of_getElem? (i := 47) rfl)) Via.refl VB ?_
  refine k_iconst (z := (0 : Int32)) d_gbe_12 rfl (by decide) ?_
  refine k_aloadN d_gbe_13 rfl rfl rfl ?_
  refine k_iloadN d_gbe_14 rfl rfl ?_
  refine k_iloadN d_gbe_15 rfl rfl ?_
  refine k_ishl d_gbe_16 rfl ?_
  refine KW.top (congrArg Value.int (shl0 _)) ?_
  show KW false l Z M_gbe n0 (fun v h => v = none ∧ Keep h0 h [e] ∧ Arv Z h e ck .byte (Int32.ofNat ys.length) (ys.map Value.int) (.int 0)) ([], fun _ => False) h0 0 0 17 #[.val (.ref b), .val (.ref e), .val (.int (Int32.ofNat pos)), .val (.int (0 : Int32))] [(.int (Int32.ofNat pos)), (.ref e), (.int (0 : Int32)), (.ref d)]
  refine k_aloadN d_gbe_17 rfl rfl rfl ?_
  refine k_getField d_gbe_18 rfl (hw _ (List.mem_of_getElem? (i := 122) rfl)) Via.refl NB ?_
  refine k_iloadN d_gbe_21 rfl rfl ?_
  refine k_ishl d_gbe_22 rfl ?_
  refine KW.top (congrArg Value.int (show (0 : Int32) <<< ((0 : Int32) &&& 31) = Int32.ofNat 0 by decide)) ?_
  show KW false l Z M_gbe n0 (fun v h => v = none ∧ Keep h0 h [e] ∧ Arv Z h e ck .byte (Int32.ofNat ys.length) (ys.map Value.int) (.int 0)) ([], fun _ => False) h0 0 0 23 #[.val (.ref b), .val (.ref e), .val (.int (Int32.ofNat pos)), .val (.int (0 : Int32))] [(.int (Int32.ofNat 0)), (.int (Int32.ofNat pos)), (.ref e), (.int (0 : Int32)), (.ref d)]
  refine k_acopy (o := 0) (q := pos) (m' := 0) (xs := zs) (W0 := 0) d_gbe_23 rfl (hw _ (List.mem_of_getElem? (i := 209) rfl)) (hw _ (List.mem_of_getElem? (i := 147) rfl)) (hw _ (List.mem_of_getElem? (i := 145) rfl)) (hw _ (List.mem_of_getElem? (i := 146) rfl)) (by rw [List.nil_append] at hN; omega) hy (by rw [List.nil_append] at hN AB; rw [hN]; exact AB) D (by omega) (by omega) ge (fun q => by cases q) rfl rfl (by decide) (by decide) ?_
  intro hM K V
  rw [laid_nil] at V
  refine KW.any (P' := ([], fun _ => False)) ?_
  show KW false l Z M_gbe n0 (fun v h => v = none ∧ Keep h0 h [e] ∧ Arv Z h e ck .byte (Int32.ofNat ys.length) (ys.map Value.int) (.int 0)) ([], fun _ => False) hM 0 0 26 #[.val (.ref b), .val (.ref e), .val (.int (Int32.ofNat pos)), .val (.int (0 : Int32))] []
  refine k_goto (pc' := 43) d_gbe_26 (by decide) (by decide) ?_
  exact k_retVoid d_gbe_43 rfl (by decide) (by decide) ⟨rfl, K, V⟩
theorem mt_gbe (l : Launch) (Z : State) (a0 : Array Value) (hw : ∀ d ∈ tables_1, d.before a0 Z = true) (cs : Int32) (hcs : ¬ cs = 0) (SC : Sta Z Z.heap "java/lang/String" "COMPACT_STRINGS" "Z" (.int cs)) (hEW : EW Z a0 EL) (b d e : Addr) (ck : ClassId) (ys : List Int32) (pos : Nat) (h0 : Heap) (n0 : Nat) (SB : Sb Z h0 b d 16 []) (D : Arv Z h0 e ck .byte (Int32.ofNat ys.length) (ys.map Value.int) (.int 0)) (hy : ys.length < 2147483648) (hfit : pos ≤ ys.length) (ge : n0 ≤ e) : Mt l Z M_gbe [] n0 #[(.ref b), (.ref e), (.int (Int32.ofNat pos)), (.int (0 : Int32))] h0 (fun v h => v = none ∧ Keep h0 h [e] ∧ Arv Z h e ck .byte (Int32.ofNat ys.length) (ys.map Value.int) (.int 0)) :=
  mt_of_kw (P := ([], fun _ => False)) pf_gbe (fun m => by first | (simp [entryFrame, mkF, argsToLocals, Value.category]; done) | rfl) (kw_gbe l Z a0 hw cs hcs SC hEW b d e ck ys pos h0 n0 SB D hy hfit ge)
abbrev M_apa : MD := ((⟨"java/lang/AbstractStringBuilder", "append", "(Ljava/lang/AbstractStringBuilder;)Ljava/lang/AbstractStringBuilder;"⟩ : MethodName), jdk_68_method_24_code, 3, (some (.object "java/lang/AbstractStringBuilder")), { frames := 4, cells := 1, slots := 112, locals := 84 })
theorem d_apa_0 : decode jdk_68_method_24_code 0 = .ok (.aload_n 1, 1) := by decide +kernel
theorem d_apa_1 : decode jdk_68_method_24_code 1 = .ok (.ifnonnull 8, 3) := by decide +kernel
theorem d_apa_4 : decode jdk_68_method_24_code 4 = .ok (.aload_n 0, 1) := by decide +kernel
theorem d_apa_5 : decode jdk_68_method_24_code 5 = .ok (.invokevirtual 204, 3) := by decide +kernel
theorem d_apa_8 : decode jdk_68_method_24_code 8 = .ok (.areturn, 1) := by decide +kernel
theorem d_apa_9 : decode jdk_68_method_24_code 9 = .ok (.aload_n 1, 1) := by decide +kernel
theorem d_apa_10 : decode jdk_68_method_24_code 10 = .ok (.invokevirtual 160, 3) := by decide +kernel
theorem d_apa_13 : decode jdk_68_method_24_code 13 = .ok (.istore_n 2, 1) := by decide +kernel
theorem d_apa_14 : decode jdk_68_method_24_code 14 = .ok (.aload_n 0, 1) := by decide +kernel
theorem d_apa_15 : decode jdk_68_method_24_code 15 = .ok (.aload_n 0, 1) := by decide +kernel
theorem d_apa_16 : decode jdk_68_method_24_code 16 = .ok (.getfield 79, 3) := by decide +kernel
theorem d_apa_19 : decode jdk_68_method_24_code 19 = .ok (.iload_n 2, 1) := by decide +kernel
theorem d_apa_20 : decode jdk_68_method_24_code 20 = .ok (.iadd, 1) := by decide +kernel
theorem d_apa_21 : decode jdk_68_method_24_code 21 = .ok (.invokevirtual 100, 3) := by decide +kernel
theorem d_apa_24 : decode jdk_68_method_24_code 24 = .ok (.aload_n 0, 1) := by decide +kernel
theorem d_apa_25 : decode jdk_68_method_24_code 25 = .ok (.aload_n 1, 1) := by decide +kernel
theorem d_apa_26 : decode jdk_68_method_24_code 26 = .ok (.invokevirtual 215, 3) := by decide +kernel
theorem d_apa_29 : decode jdk_68_method_24_code 29 = .ok (.aload_n 1, 1) := by decide +kernel
theorem d_apa_30 : decode jdk_68_method_24_code 30 = .ok (.aload_n 0, 1) := by decide +kernel
theorem d_apa_31 : decode jdk_68_method_24_code 31 = .ok (.getfield 15, 3) := by decide +kernel
theorem d_apa_34 : decode jdk_68_method_24_code 34 = .ok (.aload_n 0, 1) := by decide +kernel
theorem d_apa_35 : decode jdk_68_method_24_code 35 = .ok (.getfield 79, 3) := by decide +kernel
theorem d_apa_38 : decode jdk_68_method_24_code 38 = .ok (.aload_n 0, 1) := by decide +kernel
theorem d_apa_39 : decode jdk_68_method_24_code 39 = .ok (.getfield 22, 3) := by decide +kernel
theorem d_apa_42 : decode jdk_68_method_24_code 42 = .ok (.invokevirtual 219, 3) := by decide +kernel
theorem d_apa_45 : decode jdk_68_method_24_code 45 = .ok (.aload_n 0, 1) := by decide +kernel
theorem d_apa_46 : decode jdk_68_method_24_code 46 = .ok (.dup, 1) := by decide +kernel
theorem d_apa_47 : decode jdk_68_method_24_code 47 = .ok (.getfield 79, 3) := by decide +kernel
theorem d_apa_50 : decode jdk_68_method_24_code 50 = .ok (.iload_n 2, 1) := by decide +kernel
theorem d_apa_51 : decode jdk_68_method_24_code 51 = .ok (.iadd, 1) := by decide +kernel
theorem d_apa_52 : decode jdk_68_method_24_code 52 = .ok (.putfield 79, 3) := by decide +kernel
theorem d_apa_55 : decode jdk_68_method_24_code 55 = .ok (.aload_n 0, 1) := by decide +kernel
theorem d_apa_56 : decode jdk_68_method_24_code 56 = .ok (.dup, 1) := by decide +kernel
theorem d_apa_57 : decode jdk_68_method_24_code 57 = .ok (.getfield 73, 3) := by decide +kernel
theorem d_apa_60 : decode jdk_68_method_24_code 60 = .ok (.aload_n 1, 1) := by decide +kernel
theorem d_apa_61 : decode jdk_68_method_24_code 61 = .ok (.getfield 73, 3) := by decide +kernel
theorem d_apa_64 : decode jdk_68_method_24_code 64 = .ok (.ior, 1) := by decide +kernel
theorem d_apa_65 : decode jdk_68_method_24_code 65 = .ok (.putfield 73, 3) := by decide +kernel
theorem d_apa_68 : decode jdk_68_method_24_code 68 = .ok (.aload_n 0, 1) := by decide +kernel
theorem d_apa_69 : decode jdk_68_method_24_code 69 = .ok (.areturn, 1) := by decide +kernel
theorem pd_apa : parseMethodDescriptor "(Ljava/lang/AbstractStringBuilder;)Ljava/lang/AbstractStringBuilder;" = some ⟨[(.object "java/lang/AbstractStringBuilder")], (some (.object "java/lang/AbstractStringBuilder"))⟩ := by decide +kernel
theorem pf_apa : plainFor (⟨"java/lang/AbstractStringBuilder", "append", "(Ljava/lang/AbstractStringBuilder;)Ljava/lang/AbstractStringBuilder;"⟩ : MethodName) = true := by first | exact plainFor_of_name (by first | (simp [plainName, overriddenIn]; done) | decide +kernel) | decide +kernel
set_option maxRecDepth 65536 in
set_option maxHeartbeats 40000000 in
theorem kw_apa (l : Launch) (Z : State) (a0 : Array Value) (hw : ∀ d ∈ tables_1, d.before a0 Z = true) (cs : Int32) (hcs : ¬ cs = 0) (SC : Sta Z Z.heap "java/lang/String" "COMPACT_STRINGS" "Z" (.int cs)) (hEW : EW Z a0 EL) (b d w dw : Addr) (bs : List Int32) (h0 : Heap) (n0 : Nat) (OD : Old Z n0 h0) (SB : Sq Z h0 b d bs) (SW : Sb Z h0 w dw 16 []) (MW : Fld Z h0 w "java/lang/AbstractStringBuilder" "maybeLatin1" "Z" (.int 0)) (hbd : b ≠ d) (hbw : b ≠ w) (hbdw : b ≠ dw) (hwd : w ≠ d) (hdd : dw ≠ d) (gb : n0 ≤ b) (gd : n0 ≤ d) (hfit : bs.length ≤ 112) : KW false l Z M_apa n0 (fun v h => v = some (.ref b) ∧ ∃ e, (e = d ∨ h0.size ≤ e) ∧ n0 ≤ e ∧ b ≠ e ∧ Keep h0 h [b, d] ∧ Sq Z h b e bs) ([], fun _ => False) h0 0 0 0 #[.val (.ref b), .val (.ref w), .unset] [] := by
  obtain ⟨ckB, zs, EB, VB, CB, NB, AB, hN, hN2⟩ := id SB.1
  have K0 : Keep h0 h0 [b, d] := Keep.refl _ _
  refine k_aloadN d_apa_0 rfl rfl rfl ?_
  refine k_ifnonnullY (pc' := 9) d_apa_1 (by decide) (by decide) ?_
  refine k_aloadN d_apa_9 rfl rfl rfl ?_
  refine k_callVirtual (argsL := []) (rest := []) (W0 := 0) d_apa_10 rfl (mt_sln l Z a0 hw cs hcs SC hEW w dw 16 [] h0 n0 OD SW) Kp.strict SW.exa (hw _ (List.mem_of_getElem? (i := 186) rfl)) (hw _ (List.mem_of_getElem? (i := 187) rfl)) (hw _ (List.mem_of_getElem? (i := 189) rfl)) (hw _ (List.mem_of_getElem? (i := 127) rfl)) rfl (hw _ (List.mem_of_getElem? (i := 190) rfl)) (hw _ (List.mem_of_getElem? (i := 191) rfl)) (hw _ (List.mem_of_getElem? (i := 35) rfl)) (by decide) pd_sln rfl rfl rfl rfl (by decide) (by decide) (by decide) (by decide) ?_
  rintro _ _ - ⟨rfl, rfl⟩
  refine KW.any (P' := ([], fun _ => False)) ?_
  show KW false l Z M_apa n0 (fun v h => v = some (.ref b) ∧ ∃ e, (e = d ∨ h0.size ≤ e) ∧ n0 ≤ e ∧ b ≠ e ∧ Keep h0 h [b, d] ∧ Sq Z h b e bs) ([], fun _ => False) h0 0 0 13 #[.val (.ref b), .val (.ref w), .unset] [(.int (Int32.ofNat 0))]
  refine k_istoreN (Ls' := #[.val (.ref b), .val (.ref w), .val (.int (Int32.ofNat 0))]) d_apa_13 rfl rfl ?_
  refine k_aloadN d_apa_14 rfl rfl rfl ?_
  refine k_aloadN d_apa_15 rfl rfl rfl ?_
  refine k_getField d_apa_16 rfl (hw _ (List.mem_of_getElem? (i := 122) rfl)) Via.refl NB ?_
  refine k_iloadN d_apa_19 rfl rfl ?_
  refine k_iadd d_apa_20 rfl ?_
  refine k_callVirtual (argsL := [(.int ((Int32.ofNat bs.length) + (Int32.ofNat 0)))]) (rest := []) (W0 := 0) d_apa_21 rfl (mt_ece l Z a0 hw cs hcs SC hEW b d bs h0 n0 OD SB bs.length _ (ix_add _ _) (Nat.le_refl _) hfit gb gd) Kp.strict EB (hw _ (List.mem_of_getElem? (i := 124) rfl)) (own_decl (hw _ (List.mem_of_getElem? (i := 125) rfl)) (hw _ (List.mem_of_getElem? (i := 128) rfl))) (hw _ (List.mem_of_getElem? (i := 127) rfl)) (hw _ (List.mem_of_getElem? (i := 127) rfl)) rfl (hw _ (List.mem_of_getElem? (i := 125) rfl)) (hw _ (List.mem_of_getElem? (i := 128) rfl)) (hw _ (List.mem_of_getElem? (i := 43) rfl)) (by decide) pd_ece rfl rfl rfl rfl (by decide) (by decide) (by decide) (by decide) ?_
  rintro _ hM - ⟨rfl, e, he, ge, KM, SBM, MLM⟩
  obtain ⟨ck2, zs2, EB2, VB2, CB2, NB2, AB2, hN3, hN4⟩ := id SBM
  have hbe : b ≠ e := by
    rcases he with he | he
    · rw [he]; exact hbd
    · exact Nat.ne_of_lt (Nat.lt_of_lt_of_le SB.lt he)
  refine KW.any (P' := ([], fun _ => False)) ?_
  show KW false l Z M_apa n0 (fun v h => v = some (.ref b) ∧ ∃ e, (e = d ∨ h0.size ≤ e) ∧ n0 ≤ e ∧ b ≠ e ∧ Keep h0 h [b, d] ∧ Sq Z h b e bs) ([], fun _ => False) hM 1 112 24 #[.val (.ref b), .val (.ref w), .val (.int (Int32.ofNat 0))] []
  have hwe : w ≠ e := by
    rcases he with he | he
    · rw [he]; exact hwd
    · exact Nat.ne_of_lt (Nat.lt_of_lt_of_le SW.lt he)
  have SWM := SW.keep KM (ninS hbw.symm nin0) (ninS hbdw.symm nin0)
  obtain ⟨ckw, zw, EWw, VWw, CWw, NWw, AWw, hNw, hNw2⟩ := id SWM
  refine k_aloadN d_apa_24 rfl rfl rfl ?_
  refine k_aloadN d_apa_25 rfl rfl rfl ?_
  have f1 := (OD.keep KM (allS gb all0))
  refine k_callVirtual (argsL := [(.ref w)]) (rest := []) (W0 := 0) d_apa_26 rfl (mt_ina l Z a0 hw cs hcs SC hEW b w hM n0 f1 CB2 CWw EWw) Kp.strict EB2 (hw _ (List.mem_of_getElem? (i := 194) rfl)) (own_decl (hw _ (List.mem_of_getElem? (i := 195) rfl)) (hw _ (List.mem_of_getElem? (i := 198) rfl))) (hw _ (List.mem_of_getElem? (i := 197) rfl)) (hw _ (List.mem_of_getElem? (i := 127) rfl)) rfl (hw _ (List.mem_of_getElem? (i := 195) rfl)) (hw _ (List.mem_of_getElem? (i := 198) rfl)) (hw _ (List.mem_of_getElem? (i := 43) rfl)) (by decide) pd_ina rfl rfl rfl rfl (by decide) (by decide) (by decide) (by decide) ?_
  rintro _ _ - ⟨rfl, rfl⟩
  refine KW.any (P' := ([], fun _ => False)) ?_
  show KW false l Z M_apa n0 (fun v h => v = some (.ref b) ∧ ∃ e, (e = d ∨ h0.size ≤ e) ∧ n0 ≤ e ∧ b ≠ e ∧ Keep h0 h [b, d] ∧ Sq Z h b e bs) ([], fun _ => False) hM 1 112 29 #[.val (.ref b), .val (.ref w), .val (.int (Int32.ofNat 0))] []
  refine k_aloadN d_apa_29 rfl rfl rfl ?_
  refine k_aloadN d_apa_30 rfl rfl rfl ?_
  refine k_getField d_apa_31 rfl (hw _ (List.mem_of_getElem? (i := 47) rfl)) Via.refl VB2 ?_
  refine k_aloadN d_apa_34 rfl rfl rfl ?_
  refine k_getField d_apa_35 rfl (hw _ (List.mem_of_getElem? (i := 122) rfl)) Via.refl NB2 ?_
  refine k_aloadN d_apa_38 rfl rfl rfl ?_
  refine k_getField d_apa_39 rfl (hw _ (List.mem_of_getElem? (i := 49) rfl)) Via.refl CB2 ?_
  have f2 := (MW.keep KM (ninS (Ne.symm hbw) nin0))
  have f3 := (K0.trans KM (allS (Or.inl (by simp)) all0))
  have cf := capO_fit hfit
  have f4 := (SW.exa.keep KM)
  refine k_callVirtual (argsL := [(.ref e), (.int (Int32.ofNat bs.length)), (.int (0 : Int32))]) (rest := []) (W0 := 0) d_apa_42 rfl (mt_gbe l Z a0 hw cs hcs SC hEW w dw e ck2 (bs ++ zs2) bs.length hM n0 SWM (by rw [hN3]; exact AB2) (by omega) (by rw [List.length_append]; omega) ge) Kp.strict f4 (hw _ (List.mem_of_getElem? (i := 204) rfl)) (hw _ (List.mem_of_getElem? (i := 205) rfl)) (hw _ (List.mem_of_getElem? (i := 207) rfl)) (hw _ (List.mem_of_getElem? (i := 127) rfl)) rfl (hw _ (List.mem_of_getElem? (i := 206) rfl)) (hw _ (List.mem_of_getElem? (i := 208) rfl)) (hw _ (List.mem_of_getElem? (i := 43) rfl)) (by decide) pd_gbe rfl rfl rfl rfl (by decide) (by decide) (by decide) (by decide) ?_
  rintro _ hW - ⟨rfl, KW_, VW⟩
  rw [hN3] at VW
  refine KW.any (P' := ([], fun _ => False)) ?_
  show KW false l Z M_apa n0 (fun v h => v = some (.ref b) ∧ ∃ e, (e = d ∨ h0.size ≤ e) ∧ n0 ≤ e ∧ b ≠ e ∧ Keep h0 h [b, d] ∧ Sq Z h b e bs) ([], fun _ => False) hW 1 112 45 #[.val (.ref b), .val (.ref w), .val (.int (Int32.ofNat 0))] []
  refine k_aloadN d_apa_45 rfl rfl rfl ?_
  refine k_dup d_apa_46 rfl rfl ?_
  have f5 := (NB2.keep KW_ (ninS hbe nin0))
  refine k_getField d_apa_47 rfl (hw _ (List.mem_of_getElem? (i := 122) rfl)) Via.refl f5 ?_
  refine k_iloadN d_apa_50 rfl rfl ?_
  refine k_iadd d_apa_51 rfl ?_
  have f8 := (EB2.keep KW_)
  refine k_put (v' := (.int ((Int32.ofNat bs.length) + (Int32.ofNat 0)))) (ty := .int) d_apa_52 rfl (hw _ (List.mem_of_getElem? (i := 122) rfl)) Via.refl f5 f8 (Or.inl (hw _ (List.mem_of_getElem? (i := 123) rfl))) (hw _ (List.mem_of_getElem? (i := 34) rfl)) (by decide) rfl rfl gb (fun q => by cases q) ?_
  intro h6 W7
  have F9 := f5.same W7
  show KW false l Z M_apa n0 (fun v h => v = some (.ref b) ∧ ∃ e, (e = d ∨ h0.size ≤ e) ∧ n0 ≤ e ∧ b ≠ e ∧ Keep h0 h [b, d] ∧ Sq Z h b e bs) ([], fun _ => False) h6 1 112 55 #[.val (.ref b), .val (.ref w), .val (.int (Int32.ofNat 0))] []
  refine k_aloadN d_apa_55 rfl rfl rfl ?_
  refine k_dup d_apa_56 rfl rfl ?_
  have f10 := ((MLM.keep KW_ (ninS hbe nin0)).other W7 (Or.inr (slot_ne (t := .boolean) (t' := .int) (Or.inl (hw _ (List.mem_of_getElem? (i := 211) rfl))) (Or.inl (hw _ (List.mem_of_getElem? (i := 123) rfl))) (by decide) (by decide) (by decide))))
  refine k_getField d_apa_57 rfl (hw _ (List.mem_of_getElem? (i := 210) rfl)) Via.refl f10 ?_
  refine k_aloadN d_apa_60 rfl rfl rfl ?_
  have f11 := ((f2.keep KW_ (ninS hwe nin0)).other W7 (Or.inl (Ne.symm hbw)))
  refine k_getField d_apa_61 rfl (hw _ (List.mem_of_getElem? (i := 210) rfl)) Via.refl f11 ?_
  refine k_ior d_apa_64 rfl ?_
  have f14 := (f8.wr W7)
  refine k_put (v' := (.int (0 : Int32))) (ty := .boolean) d_apa_65 rfl (hw _ (List.mem_of_getElem? (i := 210) rfl)) Via.refl f10 f14 (Or.inl (hw _ (List.mem_of_getElem? (i := 211) rfl))) (hw _ (List.mem_of_getElem? (i := 34) rfl)) (by decide) (by decide) (by decide) gb (fun q => by cases q) ?_
  intro h12 W13
  have F15 := f10.same W13
  show KW false l Z M_apa n0 (fun v h => v = some (.ref b) ∧ ∃ e, (e = d ∨ h0.size ≤ e) ∧ n0 ≤ e ∧ b ≠ e ∧ Keep h0 h [b, d] ∧ Sq Z h b e bs) ([], fun _ => False) h12 1 112 68 #[.val (.ref b), .val (.ref w), .val (.int (Int32.ofNat 0))] []
  refine k_aloadN d_apa_68 rfl rfl rfl ?_
  have f16 := (((f3.trans KW_ (allS (he.elim (fun q => Or.inl (by simp [q])) Or.inr) all0)).wr W7 (Or.inl (by simp))).wr W13 (Or.inl (by simp)))
  have f17 := (f14.wr W13)
  have f18 := (((VB2.keep KW_ (ninS hbe nin0)).other W7 (Or.inr (slot_ne (t := (.array .byte)) (t' := .int) (Or.inl (hw _ (List.mem_of_getElem? (i := 48) rfl))) (Or.inl (hw _ (List.mem_of_getElem? (i := 123) rfl))) (by decide) (by decide) (by decide)))).other W13 (Or.inr (slot_ne (t := (.array .byte)) (t' := .boolean) (Or.inl (hw _ (List.mem_of_getElem? (i := 48) rfl))) (Or.inl (hw _ (List.mem_of_getElem? (i := 211) rfl))) (by decide) (by decide) (by decide))))
  have f19 := (((CB2.keep KW_ (ninS hbe nin0)).other W7 (Or.inr (slot_ne (t := .byte) (t' := .int) (Or.inl (hw _ (List.mem_of_getElem? (i := 50) rfl))) (Or.inl (hw _ (List.mem_of_getElem? (i := 123) rfl))) (by decide) (by decide) (by decide)))).other W13 (Or.inr (slot_ne (t := .byte) (t' := .boolean) (Or.inl (hw _ (List.mem_of_getElem? (i := 50) rfl))) (Or.inl (hw _ (List.mem_of_getElem? (i := 211) rfl))) (by decide) (by decide) (by decide))))
  have f20 := (F9.other W13 (Or.inr (slot_ne (t := .int) (t' := .boolean) (Or.inl (hw _ (List.mem_of_getElem? (i := 123) rfl))) (Or.inl (hw _ (List.mem_of_getElem? (i := 211) rfl))) (by decide) (by decide) (by decide))))
  have f21 := ((VW.other W7 (Ne.symm hbe)).other W13 (Ne.symm hbe))
  exact k_retRef d_apa_69 rfl rfl rfl (by decide) (by decide) ⟨rfl, e, he, ge, hbe, f16, ⟨⟨ck2, zs2, f17, f18, f19, by rw [show Int32.ofNat bs.length = Int32.ofNat bs.length + Int32.ofNat 0 from (ix_add bs.length 0).symm]; exact f20, f21, hN3, hN4⟩, F15⟩⟩
theorem mt_apa (l : Launch) (Z : State) (a0 : Array Value) (hw : ∀ d ∈ tables_1, d.before a0 Z = true) (cs : Int32) (hcs : ¬ cs = 0) (SC : Sta Z Z.heap "java/lang/String" "COMPACT_STRINGS" "Z" (.int cs)) (hEW : EW Z a0 EL) (b d w dw : Addr) (bs : List Int32) (h0 : Heap) (n0 : Nat) (OD : Old Z n0 h0) (SB : Sq Z h0 b d bs) (SW : Sb Z h0 w dw 16 []) (MW : Fld Z h0 w "java/lang/AbstractStringBuilder" "maybeLatin1" "Z" (.int 0)) (hbd : b ≠ d) (hbw : b ≠ w) (hbdw : b ≠ dw) (hwd : w ≠ d) (hdd : dw ≠ d) (gb : n0 ≤ b) (gd : n0 ≤ d) (hfit : bs.length ≤ 112) : Mt l Z M_apa [] n0 #[(.ref b), (.ref w)] h0 (fun v h => v = some (.ref b) ∧ ∃ e, (e = d ∨ h0.size ≤ e) ∧ n0 ≤ e ∧ b ≠ e ∧ Keep h0 h [b, d] ∧ Sq Z h b e bs) :=
  mt_of_kw (P := ([], fun _ => False)) pf_apa (fun m => by first | (simp [entryFrame, mkF, argsToLocals, Value.category]; done) | rfl) (kw_apa l Z a0 hw cs hcs SC hEW b d w dw bs h0 n0 OD SB SW MW hbd hbw hbdw hwd hdd gb gd hfit)
abbrev M_apc : MD := ((⟨"java/lang/AbstractStringBuilder", "append", "(Ljava/lang/CharSequence;)Ljava/lang/AbstractStringBuilder;"⟩ : MethodName), jdk_68_method_25_code, 2, (some (.object "java/lang/AbstractStringBuilder")), { frames := 5, cells := 1, slots := 112, locals := 100 })
theorem d_apc_0 : decode jdk_68_method_25_code 0 = .ok (.aload_n 1, 1) := by decide +kernel
theorem d_apc_1 : decode jdk_68_method_25_code 1 = .ok (.ifnonnull 8, 3) := by decide +kernel
theorem d_apc_4 : decode jdk_68_method_25_code 4 = .ok (.aload_n 0, 1) := by decide +kernel
theorem d_apc_5 : decode jdk_68_method_25_code 5 = .ok (.invokevirtual 204, 3) := by decide +kernel
theorem d_apc_8 : decode jdk_68_method_25_code 8 = .ok (.areturn, 1) := by decide +kernel
theorem d_apc_9 : decode jdk_68_method_25_code 9 = .ok (.aload_n 1, 1) := by decide +kernel
theorem d_apc_10 : decode jdk_68_method_25_code 10 = .ok (.instanceof 1, 3) := by decide +kernel
theorem d_apc_13 : decode jdk_68_method_25_code 13 = .ok (.ifCond .eq 12, 3) := by decide +kernel
theorem d_apc_16 : decode jdk_68_method_25_code 16 = .ok (.aload_n 0, 1) := by decide +kernel
theorem d_apc_17 : decode jdk_68_method_25_code 17 = .ok (.aload_n 1, 1) := by decide +kernel
theorem d_apc_18 : decode jdk_68_method_25_code 18 = .ok (.checkcast 1, 3) := by decide +kernel
theorem d_apc_21 : decode jdk_68_method_25_code 21 = .ok (.invokevirtual 43, 3) := by decide +kernel
theorem d_apc_24 : decode jdk_68_method_25_code 24 = .ok (.areturn, 1) := by decide +kernel
theorem d_apc_25 : decode jdk_68_method_25_code 25 = .ok (.aload_n 1, 1) := by decide +kernel
theorem d_apc_26 : decode jdk_68_method_25_code 26 = .ok (.instanceof 10, 3) := by decide +kernel
theorem d_apc_29 : decode jdk_68_method_25_code 29 = .ok (.ifCond .eq 12, 3) := by decide +kernel
theorem d_apc_32 : decode jdk_68_method_25_code 32 = .ok (.aload_n 0, 1) := by decide +kernel
theorem d_apc_33 : decode jdk_68_method_25_code 33 = .ok (.aload_n 1, 1) := by decide +kernel
theorem d_apc_34 : decode jdk_68_method_25_code 34 = .ok (.checkcast 10, 3) := by decide +kernel
theorem d_apc_37 : decode jdk_68_method_25_code 37 = .ok (.invokevirtual 212, 3) := by decide +kernel
theorem d_apc_40 : decode jdk_68_method_25_code 40 = .ok (.areturn, 1) := by decide +kernel
theorem d_apc_41 : decode jdk_68_method_25_code 41 = .ok (.aload_n 0, 1) := by decide +kernel
theorem d_apc_42 : decode jdk_68_method_25_code 42 = .ok (.aload_n 1, 1) := by decide +kernel
theorem d_apc_43 : decode jdk_68_method_25_code 43 = .ok (.iconst 0, 1) := by decide +kernel
theorem d_apc_44 : decode jdk_68_method_25_code 44 = .ok (.aload_n 1, 1) := by decide +kernel
theorem d_apc_45 : decode jdk_68_method_25_code 45 = .ok (.invokeinterface 47 1, 5) := by decide +kernel
theorem d_apc_50 : decode jdk_68_method_25_code 50 = .ok (.invokevirtual 223, 3) := by decide +kernel
theorem d_apc_53 : decode jdk_68_method_25_code 53 = .ok (.areturn, 1) := by decide +kernel
theorem pd_apc : parseMethodDescriptor "(Ljava/lang/CharSequence;)Ljava/lang/AbstractStringBuilder;" = some ⟨[(.object "java/lang/CharSequence")], (some (.object "java/lang/AbstractStringBuilder"))⟩ := by decide +kernel
theorem pf_apc : plainFor (⟨"java/lang/AbstractStringBuilder", "append", "(Ljava/lang/CharSequence;)Ljava/lang/AbstractStringBuilder;"⟩ : MethodName) = true := by first | exact plainFor_of_name (by first | (simp [plainName, overriddenIn]; done) | decide +kernel) | decide +kernel
set_option maxRecDepth 65536 in
set_option maxHeartbeats 40000000 in
theorem kw_apc (l : Launch) (Z : State) (a0 : Array Value) (hw : ∀ d ∈ tables_1, d.before a0 Z = true) (cs : Int32) (hcs : ¬ cs = 0) (SC : Sta Z Z.heap "java/lang/String" "COMPACT_STRINGS" "Z" (.int cs)) (hEW : EW Z a0 EL) (b d w dw : Addr) (bs : List Int32) (h0 : Heap) (n0 : Nat) (OD : Old Z n0 h0) (SB : Sq Z h0 b d bs) (SW : Sb Z h0 w dw 16 []) (MW : Fld Z h0 w "java/lang/AbstractStringBuilder" "maybeLatin1" "Z" (.int 0)) (hbd : b ≠ d) (hbw : b ≠ w) (hbdw : b ≠ dw) (hwd : w ≠ d) (hdd : dw ≠ d) (gb : n0 ≤ b) (gd : n0 ≤ d) (hfit : bs.length ≤ 112) : KW false l Z M_apc n0 (fun v h => v = some (.ref b) ∧ ∃ e, (e = d ∨ h0.size ≤ e) ∧ n0 ≤ e ∧ b ≠ e ∧ Keep h0 h [b, d] ∧ Sq Z h b e bs) ([], fun _ => False) h0 0 0 0 #[.val (.ref b), .val (.ref w)] [] := by
  obtain ⟨ckB, zs, EB, VB, CB, NB, AB, hN, hN2⟩ := id SB.1
  refine k_aloadN d_apc_0 rfl rfl rfl ?_
  refine k_ifnonnullY (pc' := 9) d_apc_1 (by decide) (by decide) ?_
  refine k_aloadN d_apc_9 rfl rfl rfl ?_
  refine k_instNo d_apc_10 rfl (hw _ (List.mem_of_getElem? (i := 177) rfl)) SW.exa (own_apart2 (hw _ (List.mem_of_getElem? (i := 120) rfl)) (hw _ (List.mem_of_getElem? (i := 178) rfl)) (hw _ (List.mem_of_getElem? (i := 179) rfl)) (hw _ (List.mem_of_getElem? (i := 13) rfl)) (by decide) (by decide) (by decide)) ?_
  refine k_ifc (pc1 := 25) (pc' := 16) d_apc_13 (by decide) (by decide) rfl (fun (cd1 : (0 : Int32) = (0 : Int32)) => ?_) (fun (cd1 : ¬ (0 : Int32) = (0 : Int32)) => False.elim (by exact absurd cd1 (by decide)))
  refine k_aloadN d_apc_25 rfl rfl rfl ?_
  refine k_instY d_apc_26 rfl (hw _ (List.mem_of_getElem? (i := 180) rfl)) (Ins.of_exa SW.exa (hw _ (List.mem_of_getElem? (i := 42) rfl))) ?_
  refine k_ifc (pc1 := 41) (pc' := 32) d_apc_29 (by decide) (by decide) rfl (fun (cd2 : (1 : Int32) = (0 : Int32)) => False.elim (by exact absurd cd2 (by decide))) (fun (cd2 : ¬ (1 : Int32) = (0 : Int32)) => ?_)
  refine k_aloadN d_apc_32 rfl rfl rfl ?_
  refine k_aloadN d_apc_33 rfl rfl rfl ?_
  refine k_cast d_apc_34 rfl (hw _ (List.mem_of_getElem? (i := 180) rfl)) (Ins.of_exa SW.exa (hw _ (List.mem_of_getElem? (i := 42) rfl))) ?_
  refine k_callVirtual (argsL := [(.ref w)]) (rest := []) (W0 := 0) d_apc_37 rfl (mt_apa l Z a0 hw cs hcs SC hEW b d w dw bs h0 n0 OD SB SW MW hbd hbw hbdw hwd hdd gb gd hfit) Kp.strict EB (hw _ (List.mem_of_getElem? (i := 181) rfl)) (hw _ (List.mem_of_getElem? (i := 182) rfl)) (hw _ (List.mem_of_getElem? (i := 184) rfl)) (hw _ (List.mem_of_getElem? (i := 127) rfl)) rfl (hw _ (List.mem_of_getElem? (i := 183) rfl)) (hw _ (List.mem_of_getElem? (i := 185) rfl)) (hw _ (List.mem_of_getElem? (i := 43) rfl)) (by decide) pd_apa rfl rfl rfl rfl (by decide) (by decide) (by decide) (by decide) ?_
  rintro _ hM - ⟨rfl, R1⟩
  refine KW.any (P' := ([], fun _ => False)) ?_
  show KW false l Z M_apc n0 (fun v h => v = some (.ref b) ∧ ∃ e, (e = d ∨ h0.size ≤ e) ∧ n0 ≤ e ∧ b ≠ e ∧ Keep h0 h [b, d] ∧ Sq Z h b e bs) ([], fun _ => False) hM 1 112 40 #[.val (.ref b), .val (.ref w)] [(.ref b)]
  exact k_retRef d_apc_40 rfl rfl rfl (by decide) (by decide) ⟨rfl, R1⟩
theorem mt_apc (l : Launch) (Z : State) (a0 : Array Value) (hw : ∀ d ∈ tables_1, d.before a0 Z = true) (cs : Int32) (hcs : ¬ cs = 0) (SC : Sta Z Z.heap "java/lang/String" "COMPACT_STRINGS" "Z" (.int cs)) (hEW : EW Z a0 EL) (b d w dw : Addr) (bs : List Int32) (h0 : Heap) (n0 : Nat) (OD : Old Z n0 h0) (SB : Sq Z h0 b d bs) (SW : Sb Z h0 w dw 16 []) (MW : Fld Z h0 w "java/lang/AbstractStringBuilder" "maybeLatin1" "Z" (.int 0)) (hbd : b ≠ d) (hbw : b ≠ w) (hbdw : b ≠ dw) (hwd : w ≠ d) (hdd : dw ≠ d) (gb : n0 ≤ b) (gd : n0 ≤ d) (hfit : bs.length ≤ 112) : Mt l Z M_apc [] n0 #[(.ref b), (.ref w)] h0 (fun v h => v = some (.ref b) ∧ ∃ e, (e = d ∨ h0.size ≤ e) ∧ n0 ≤ e ∧ b ≠ e ∧ Keep h0 h [b, d] ∧ Sq Z h b e bs) :=
  mt_of_kw (P := ([], fun _ => False)) pf_apc (fun m => by first | (simp [entryFrame, mkF, argsToLocals, Value.category]; done) | rfl) (kw_apc l Z a0 hw cs hcs SC hEW b d w dw bs h0 n0 OD SB SW MW hbd hbw hbdw hwd hdd gb gd hfit)
abbrev M_spc : MD := ((⟨"java/lang/StringBuilder", "append", "(Ljava/lang/CharSequence;)Ljava/lang/StringBuilder;"⟩ : MethodName), jdk_67_method_9_code, 2, (some (.object "java/lang/StringBuilder")), { frames := 6, cells := 1, slots := 112, locals := 116 })
theorem d_spc_0 : decode jdk_67_method_9_code 0 = .ok (.aload_n 0, 1) := by decide +kernel
theorem d_spc_1 : decode jdk_67_method_9_code 1 = .ok (.aload_n 1, 1) := by decide +kernel
theorem d_spc_2 : decode jdk_67_method_9_code 2 = .ok (.invokespecial 35, 3) := by decide +kernel
theorem d_spc_5 : decode jdk_67_method_9_code 5 = .ok (.pop, 1) := by decide +kernel
theorem d_spc_6 : decode jdk_67_method_9_code 6 = .ok (.aload_n 0, 1) := by decide +kernel
theorem d_spc_7 : decode jdk_67_method_9_code 7 = .ok (.areturn, 1) := by decide +kernel
theorem pd_spc : parseMethodDescriptor "(Ljava/lang/CharSequence;)Ljava/lang/StringBuilder;" = some ⟨[(.object "java/lang/CharSequence")], (some (.object "java/lang/StringBuilder"))⟩ := by decide +kernel
theorem pf_spc : plainFor (⟨"java/lang/StringBuilder", "append", "(Ljava/lang/CharSequence;)Ljava/lang/StringBuilder;"⟩ : MethodName) = true := by first | exact plainFor_of_name (by first | (simp [plainName, overriddenIn]; done) | decide +kernel) | decide +kernel
set_option maxRecDepth 65536 in
set_option maxHeartbeats 40000000 in
theorem kw_spc (l : Launch) (Z : State) (a0 : Array Value) (hw : ∀ d ∈ tables_1, d.before a0 Z = true) (cs : Int32) (hcs : ¬ cs = 0) (SC : Sta Z Z.heap "java/lang/String" "COMPACT_STRINGS" "Z" (.int cs)) (hEW : EW Z a0 EL) (b d w dw : Addr) (bs : List Int32) (h0 : Heap) (n0 : Nat) (OD : Old Z n0 h0) (SB : Sq Z h0 b d bs) (SW : Sb Z h0 w dw 16 []) (MW : Fld Z h0 w "java/lang/AbstractStringBuilder" "maybeLatin1" "Z" (.int 0)) (hbd : b ≠ d) (hbw : b ≠ w) (hbdw : b ≠ dw) (hwd : w ≠ d) (hdd : dw ≠ d) (gb : n0 ≤ b) (gd : n0 ≤ d) (hfit : bs.length ≤ 112) : KW false l Z M_spc n0 (fun v h => v = some (.ref b) ∧ ∃ e, (e = d ∨ h0.size ≤ e) ∧ n0 ≤ e ∧ b ≠ e ∧ Keep h0 h [b, d] ∧ Sq Z h b e bs) ([], fun _ => False) h0 0 0 0 #[.val (.ref b), .val (.ref w)] [] := by
  obtain ⟨ckB, zs, EB, VB, CB, NB, AB, hN, hN2⟩ := id SB.1
  refine k_aloadN d_spc_0 rfl rfl rfl ?_
  refine k_aloadN d_spc_1 rfl rfl rfl ?_
  refine k_callSuper (argsL := [(.ref w)]) (rest := []) (W0 := 0) d_spc_2 rfl (mt_apc l Z a0 hw cs hcs SC hEW b d w dw bs h0 n0 OD SB SW MW hbd hbw hbdw hwd hdd gb gd hfit) Kp.strict EB (hw _ (List.mem_of_getElem? (i := 173) rfl)) (hw _ (List.mem_of_getElem? (i := 175) rfl)) (hw _ (List.mem_of_getElem? (i := 127) rfl)) rfl (hw _ (List.mem_of_getElem? (i := 174) rfl)) (hw _ (List.mem_of_getElem? (i := 120) rfl)) (hw _ (List.mem_of_getElem? (i := 176) rfl)) (hw _ (List.mem_of_getElem? (i := 43) rfl)) (by decide) (by decide) pd_apc rfl rfl rfl rfl (by decide) (by decide) (by decide) (by decide) ?_
  rintro _ hM - ⟨rfl, R1⟩
  refine KW.any (P' := ([], fun _ => False)) ?_
  show KW false l Z M_spc n0 (fun v h => v = some (.ref b) ∧ ∃ e, (e = d ∨ h0.size ≤ e) ∧ n0 ≤ e ∧ b ≠ e ∧ Keep h0 h [b, d] ∧ Sq Z h b e bs) ([], fun _ => False) hM 1 112 5 #[.val (.ref b), .val (.ref w)] [(.ref b)]
  refine k_pop d_spc_5 rfl rfl ?_
  refine k_aloadN d_spc_6 rfl rfl rfl ?_
  exact k_retRef d_spc_7 rfl rfl rfl (by decide) (by decide) ⟨rfl, R1⟩
theorem mt_spc (l : Launch) (Z : State) (a0 : Array Value) (hw : ∀ d ∈ tables_1, d.before a0 Z = true) (cs : Int32) (hcs : ¬ cs = 0) (SC : Sta Z Z.heap "java/lang/String" "COMPACT_STRINGS" "Z" (.int cs)) (hEW : EW Z a0 EL) (b d w dw : Addr) (bs : List Int32) (h0 : Heap) (n0 : Nat) (OD : Old Z n0 h0) (SB : Sq Z h0 b d bs) (SW : Sb Z h0 w dw 16 []) (MW : Fld Z h0 w "java/lang/AbstractStringBuilder" "maybeLatin1" "Z" (.int 0)) (hbd : b ≠ d) (hbw : b ≠ w) (hbdw : b ≠ dw) (hwd : w ≠ d) (hdd : dw ≠ d) (gb : n0 ≤ b) (gd : n0 ≤ d) (hfit : bs.length ≤ 112) : Mt l Z M_spc [] n0 #[(.ref b), (.ref w)] h0 (fun v h => v = some (.ref b) ∧ ∃ e, (e = d ∨ h0.size ≤ e) ∧ n0 ≤ e ∧ b ≠ e ∧ Keep h0 h [b, d] ∧ Sq Z h b e bs) :=
  mt_of_kw (P := ([], fun _ => False)) pf_spc (fun m => by first | (simp [entryFrame, mkF, argsToLocals, Value.category]; done) | rfl) (kw_spc l Z a0 hw cs hcs SC hEW b d w dw bs h0 n0 OD SB SW MW hbd hbw hbdw hwd hdd gb gd hfit)
theorem emp0 {vs : List Addr} (hle : vs.length ≤ 10) (h : Int32.ofNat vs.length = 0) : (if vs = [] then (1 : Int32) else 0) = 1 := by
  rw [if_pos]
  exact List.length_eq_zero_iff.mp (Classical.byContradiction fun q => ix_ne (i := vs.length) (j := 0) (by omega) (by decide) q h)
theorem emp1 {vs : List Addr} (h : ¬ Int32.ofNat vs.length = 0) : (if vs = [] then (1 : Int32) else 0) = 0 := by
  rw [if_neg]; intro q; exact h (by rw [q]; rfl)
/-- an ArrayList of these elements (at most ten), its array ed -/
def Al (Z : State) (h : Heap) (n0 : Nat) (de a ed : Addr) (mc : Int32) (vs : List Addr) : Prop := Exa Z h a "java/util/ArrayList" ∧ Fld Z h a "java/util/ArrayList" "elementData" "[Ljava/lang/Object;" (.ref ed) ∧ Fld Z h a "java/util/ArrayList" "size" "I" (.int (Int32.ofNat vs.length)) ∧ Fld Z h a "java/util/AbstractList" "modCount" "I" (.int mc) ∧ vs.length ≤ 10 ∧
  ((vs = [] ∧ ed = de) ∨ (n0 ≤ ed ∧ a ≠ ed ∧ ∃ ck ys, Ovr Z ck "java/lang/Object" ∧ Arv Z h ed ck (.object "java/lang/Object") (Int32.ofNat 10) (vs.map Value.ref ++ ys) .null ∧ (vs.map Value.ref ++ ys).length = 10))
theorem Al.keep {Z : State} {h h' : Heap} {n0 : Nat} {de a ed : Addr} {mc : Int32} {vs : List Addr} {ws : List Addr} (A : Al Z h n0 de a ed mc vs) (K : Keep h h' ws) (q : a ∉ ws) (r : ed ∉ ws) : Al Z h' n0 de a ed mc vs := by
  obtain ⟨a1, a2, a3, a4, a5, a6⟩ := A
  refine ⟨a1.keep K, a2.keep K q, a3.keep K q, a4.keep K q, a5, ?_⟩
  rcases a6 with a6 | ⟨g1, g2, ck, ys, g3, g4, g5⟩
  · exact Or.inl a6
  · exact Or.inr ⟨g1, g2, ck, ys, g3, g4.keep K r, g5⟩
theorem al_set (vs : List Addr) (ys : List Value) (x : Addr) (h : (vs.map Value.ref ++ ys).length = 10) (hl : vs.length < 10) : ∃ zs, (vs.map Value.ref ++ ys).set vs.length (.ref x) = (vs ++ [x]).map Value.ref ++ zs ∧ ((vs ++ [x]).map Value.ref ++ zs).length = 10 := by
  cases ys with
  | nil => simp at h; omega
  | cons y zs => exact ⟨zs, by simp, by simp at h ⊢; omega⟩

abbrev M_aci : MD := ((⟨"java/util/AbstractCollection", "<init>", "()V"⟩ : MethodName), jdk_22_method_1_code, 1, none, { frames := 1, cells := 0, slots := 0, locals := 12 })
theorem d_aci_0 : decode jdk_22_method_1_code 0 = .ok (.aload_n 0, 1) := by decide +kernel
theorem d_aci_1 : decode jdk_22_method_1_code 1 = .ok (.invokespecial 1, 3) := by decide +kernel
theorem d_aci_4 : decode jdk_22_method_1_code 4 = .ok (.return_, 1) := by decide +kernel
theorem pd_aci : parseMethodDescriptor "()V" = some ⟨[], none⟩ := by decide +kernel
theorem pf_aci : plainFor (⟨"java/util/AbstractCollection", "<init>", "()V"⟩ : MethodName) = true := by first | exact plainFor_of_name (by first | (simp [plainName, overriddenIn]; done) | decide +kernel) | decide +kernel
set_option maxRecDepth 65536 in
set_option maxHeartbeats 40000000 in
theorem kw_aci (l : Launch) (Z : State) (a0 : Array Value) (hw : ∀ d ∈ tables_1, d.before a0 Z = true) (cs : Int32) (hcs : ¬ cs = 0) (SC : Sta Z Z.heap "java/lang/String" "COMPACT_STRINGS" "Z" (.int cs)) (hEW : EW Z a0 EL) (a : Addr) (h0 : Heap) (n0 : Nat) : KW false l Z M_aci n0 (fun v h => v = none ∧ h0 = h) ([], fun _ => False) h0 0 0 0 #[.val (.ref a)] [] := by
  refine k_aloadN d_aci_0 rfl rfl rfl ?_
  refine k_initObj (W0 := 0) d_aci_1 rfl (hw _ (List.mem_of_getElem? (i := 71) rfl)) (hw _ (List.mem_of_getElem? (i := 23) rfl)) (hw _ (List.mem_of_getElem? (i := 24) rfl)) rfl rfl (by decide) (by decide) ?_
  exact k_retVoid d_aci_4 rfl (by decide) (by decide) ⟨rfl, rfl⟩
theorem mt_aci (l : Launch) (Z : State) (a0 : Array Value) (hw : ∀ d ∈ tables_1, d.before a0 Z = true) (cs : Int32) (hcs : ¬ cs = 0) (SC : Sta Z Z.heap "java/lang/String" "COMPACT_STRINGS" "Z" (.int cs)) (hEW : EW Z a0 EL) (a : Addr) (h0 : Heap) (n0 : Nat) : Mt l Z M_aci [] n0 #[(.ref a)] h0 (fun v h => v = none ∧ h0 = h) :=
  mt_of_kw (P := ([], fun _ => False)) pf_aci (fun m => by first | (simp [entryFrame, mkF, argsToLocals, Value.category]; done) | rfl) (kw_aci l Z a0 hw cs hcs SC hEW a h0 n0)
abbrev M_al2 : MD := ((⟨"java/util/AbstractList", "<init>", "()V"⟩ : MethodName), jdk_39_method_1_code, 1, none, { frames := 2, cells := 0, slots := 0, locals := 28 })
theorem d_al2_0 : decode jdk_39_method_1_code 0 = .ok (.aload_n 0, 1) := by decide +kernel
theorem d_al2_1 : decode jdk_39_method_1_code 1 = .ok (.invokespecial 1, 3) := by decide +kernel
theorem d_al2_4 : decode jdk_39_method_1_code 4 = .ok (.aload_n 0, 1) := by decide +kernel
theorem d_al2_5 : decode jdk_39_method_1_code 5 = .ok (.iconst 0, 1) := by decide +kernel
theorem d_al2_6 : decode jdk_39_method_1_code 6 = .ok (.putfield 7, 3) := by decide +kernel
theorem d_al2_9 : decode jdk_39_method_1_code 9 = .ok (.return_, 1) := by decide +kernel
theorem pd_al2 : parseMethodDescriptor "()V" = some ⟨[], none⟩ := by decide +kernel
theorem pf_al2 : plainFor (⟨"java/util/AbstractList", "<init>", "()V"⟩ : MethodName) = true := by first | exact plainFor_of_name (by first | (simp [plainName, overriddenIn]; done) | decide +kernel) | decide +kernel
set_option maxRecDepth 65536 in
set_option maxHeartbeats 40000000 in
theorem kw_al2 (l : Launch) (Z : State) (a0 : Array Value) (hw : ∀ d ∈ tables_1, d.before a0 Z = true) (cs : Int32) (hcs : ¬ cs = 0) (SC : Sta Z Z.heap "java/lang/String" "COMPACT_STRINGS" "Z" (.int cs)) (hEW : EW Z a0 EL) (a : Addr) (h0 : Heap) (n0 : Nat) (ga : n0 ≤ a) (EA : Exa Z h0 a "java/util/ArrayList") (GM : Fld Z h0 a "java/util/AbstractList" "modCount" "I" (.int 0)) : KW false l Z M_al2 n0 (fun v h => v = none ∧ Keep h0 h [a] ∧ Fld Z h a "java/util/AbstractList" "modCount" "I" (.int 0) ∧ ∀ {O f d : String} {v : Value}, RoadKit.slotOf Z O f d ≠ RoadKit.slotOf Z "java/util/AbstractList" "modCount" "I" → Fld Z h0 a O f d v → Fld Z h a O f d v) ([], fun _ => False) h0 0 0 0 #[.val (.ref a)] [] := by
  have K0 : Keep h0 h0 [a] := Keep.refl _ _
  refine k_aloadN d_al2_0 rfl rfl rfl ?_
  refine k_callInit (a := a) (argsL := []) (rest := []) (W0 := 0) d_al2_1 rfl (mt_aci l Z a0 hw cs hcs SC hEW a h0 n0) Kp.strict rfl rfl (hw _ (List.mem_of_getElem? (i := 65) rfl)) (hw _ (List.mem_of_getElem? (i := 66) rfl)) (hw _ (List.mem_of_getElem? (i := 69) rfl)) (hw _ (List.mem_of_getElem? (i := 70) rfl)) (by decide) pd_aci rfl rfl rfl rfl (by decide) (by decide) (by decide) (by decide) ?_
  rintro _ _ - ⟨rfl, rfl⟩
  refine KW.any (P' := ([], fun _ => False)) ?_
  show KW false l Z M_al2 n0 (fun v h => v = none ∧ Keep h0 h [a] ∧ Fld Z h a "java/util/AbstractList" "modCount" "I" (.int 0) ∧ ∀ {O f d : String} {v : Value}, RoadKit.slotOf Z O f d ≠ RoadKit.slotOf Z "java/util/AbstractList" "modCount" "I" → Fld Z h0 a O f d v → Fld Z h a O f d v) ([], fun _ => False) h0 0 0 4 #[.val (.ref a)] []
  refine k_aloadN d_al2_4 rfl rfl rfl ?_
  refine k_iconst (z := (0 : Int32)) d_al2_5 rfl (by decide) ?_
  refine k_put (v' := (.int (0 : Int32))) (ty := .int) d_al2_6 rfl (hw _ (List.mem_of_getElem? (i := 72) rfl)) Via.refl GM EA (Or.inl (hw _ (List.mem_of_getElem? (i := 73) rfl))) (hw _ (List.mem_of_getElem? (i := 54) rfl)) (by decide) rfl rfl ga (fun q => by cases q) ?_
  intro h1 W2
  have F3 := GM.same W2
  show KW false l Z M_al2 n0 (fun v h => v = none ∧ Keep h0 h [a] ∧ Fld Z h a "java/util/AbstractList" "modCount" "I" (.int 0) ∧ ∀ {O f d : String} {v : Value}, RoadKit.slotOf Z O f d ≠ RoadKit.slotOf Z "java/util/AbstractList" "modCount" "I" → Fld Z h0 a O f d v → Fld Z h a O f d v) ([], fun _ => False) h1 0 0 9 #[.val (.ref a)] []
  have f4 := (K0.wr W2 (Or.inl (by simp)))
  exact k_retVoid d_al2_9 rfl (by decide) (by decide) ⟨rfl, f4, F3, fun hne F => F.other W2 (Or.inr hne)⟩
theorem mt_al2 (l : Launch) (Z : State) (a0 : Array Value) (hw : ∀ d ∈ tables_1, d.before a0 Z = true) (cs : Int32) (hcs : ¬ cs = 0) (SC : Sta Z Z.heap "java/lang/String" "COMPACT_STRINGS" "Z" (.int cs)) (hEW : EW Z a0 EL) (a : Addr) (h0 : Heap) (n0 : Nat) (ga : n0 ≤ a) (EA : Exa Z h0 a "java/util/ArrayList") (GM : Fld Z h0 a "java/util/AbstractList" "modCount" "I" (.int 0)) : Mt l Z M_al2 [] n0 #[(.ref a)] h0 (fun v h => v = none ∧ Keep h0 h [a] ∧ Fld Z h a "java/util/AbstractList" "modCount" "I" (.int 0) ∧ ∀ {O f d : String} {v : Value}, RoadKit.slotOf Z O f d ≠ RoadKit.slotOf Z "java/util/AbstractList" "modCount" "I" → Fld Z h0 a O f d v → Fld Z h a O f d v) :=
  mt_of_kw (P := ([], fun _ => False)) pf_al2 (fun m => by first | (simp [entryFrame, mkF, argsToLocals, Value.category]; done) | rfl) (kw_al2 l Z a0 hw cs hcs SC hEW a h0 n0 ga EA GM)
abbrev M_ali : MD := ((⟨"java/util/ArrayList", "<init>", "()V"⟩ : MethodName), jdk_38_method_2_code, 1, none, { frames := 3, cells := 0, slots := 0, locals := 44 })
theorem d_ali_0 : decode jdk_38_method_2_code 0 = .ok (.aload_n 0, 1) := by decide +kernel
theorem d_ali_1 : decode jdk_38_method_2_code 1 = .ok (.invokespecial 1, 3) := by decide +kernel
theorem d_ali_4 : decode jdk_38_method_2_code 4 = .ok (.aload_n 0, 1) := by decide +kernel
theorem d_ali_5 : decode jdk_38_method_2_code 5 = .ok (.getstatic 39, 3) := by decide +kernel
theorem d_ali_8 : decode jdk_38_method_2_code 8 = .ok (.putfield 9, 3) := by decide +kernel
theorem d_ali_11 : decode jdk_38_method_2_code 11 = .ok (.return_, 1) := by decide +kernel
theorem pd_ali : parseMethodDescriptor "()V" = some ⟨[], none⟩ := by decide +kernel
theorem pf_ali : plainFor (⟨"java/util/ArrayList", "<init>", "()V"⟩ : MethodName) = true := by first | exact plainFor_of_name (by first | (simp [plainName, overriddenIn]; done) | decide +kernel) | decide +kernel
set_option maxRecDepth 65536 in
set_option maxHeartbeats 40000000 in
theorem kw_ali (l : Launch) (Z : State) (a0 : Array Value) (hw : ∀ d ∈ tables_1, d.before a0 Z = true) (cs : Int32) (hcs : ¬ cs = 0) (SC : Sta Z Z.heap "java/lang/String" "COMPACT_STRINGS" "Z" (.int cs)) (hEW : EW Z a0 EL) (de : Addr) (ckd : ClassId) (SDE : Sta Z Z.heap "java/util/ArrayList" "DEFAULTCAPACITY_EMPTY_ELEMENTDATA" "[Ljava/lang/Object;" (.ref de)) (DE : Arv Z Z.heap de ckd (.object "java/lang/Object") 0 [] .null) (a : Addr) (h0 : Heap) (n0 : Nat) (OD : Old Z n0 h0) (ga : n0 ≤ a) (EA : Exa Z h0 a "java/util/ArrayList") (GE : Fld Z h0 a "java/util/ArrayList" "elementData" "[Ljava/lang/Object;" .null) (GS : Fld Z h0 a "java/util/ArrayList" "size" "I" (.int 0)) (GM : Fld Z h0 a "java/util/AbstractList" "modCount" "I" (.int 0)) : KW false l Z M_ali n0 (fun v h => v = none ∧ Keep h0 h [a] ∧ Al Z h n0 de a de 0 []) ([], fun _ => False) h0 0 0 0 #[.val (.ref a)] [] := by
  have K0 : Keep h0 h0 [a] := Keep.refl _ _
  refine k_aloadN d_ali_0 rfl rfl rfl ?_
  refine k_callInit (a := a) (argsL := []) (rest := []) (W0 := 0) d_ali_1 rfl (mt_al2 l Z a0 hw cs hcs SC hEW a h0 n0 ga EA GM) Kp.strict rfl rfl (hw _ (List.mem_of_getElem? (i := 59) rfl)) (hw _ (List.mem_of_getElem? (i := 60) rfl)) (hw _ (List.mem_of_getElem? (i := 63) rfl)) (hw _ (List.mem_of_getElem? (i := 64) rfl)) (by decide) pd_al2 rfl rfl rfl rfl (by decide) (by decide) (by decide) (by decide) ?_
  rintro _ hM - ⟨rfl, KM, FM_, FO_⟩
  have GE2 := FO_ (slot_ne (t := (.array (.object "java/lang/Object"))) (t' := .int) (Or.inl (hw _ (List.mem_of_getElem? (i := 76) rfl))) (Or.inl (hw _ (List.mem_of_getElem? (i := 73) rfl))) (by decide) (by decide) (by decide)) GE
  have GS2 := FO_ (slot_ne (t := .int) (t' := .int) (Or.inl (hw _ (List.mem_of_getElem? (i := 224) rfl))) (Or.inl (hw _ (List.mem_of_getElem? (i := 73) rfl))) (by decide) (by decide) (by decide)) GS
  refine KW.any (P' := ([], fun _ => False)) ?_
  show KW false l Z M_ali n0 (fun v h => v = none ∧ Keep h0 h [a] ∧ Al Z h n0 de a de 0 []) ([], fun _ => False) hM 0 0 4 #[.val (.ref a)] []
  refine k_aloadN d_ali_4 rfl rfl rfl ?_
  have f1 := (OD.keep KM (allS ga all0))
  refine k_getStatic d_ali_5 rfl (hw _ (List.mem_of_getElem? (i := 74) rfl)) (Sta.ext f1.2 SDE) ?_
  have f4 := (EA.keep KM)
  refine k_put (v' := (.ref de)) (ty := (.array (.object "java/lang/Object"))) d_ali_8 rfl (hw _ (List.mem_of_getElem? (i := 75) rfl)) Via.refl GE2 f4 (Or.inl (hw _ (List.mem_of_getElem? (i := 76) rfl))) (hw _ (List.mem_of_getElem? (i := 54) rfl)) (by decide) rfl rfl ga (fun q => by cases q) ?_
  intro h2 W3
  have F5 := GE2.same W3
  show KW false l Z M_ali n0 (fun v h => v = none ∧ Keep h0 h [a] ∧ Al Z h n0 de a de 0 []) ([], fun _ => False) h2 0 0 11 #[.val (.ref a)] []
  have f6 := ((K0.trans KM (allS (Or.inl (by simp)) all0)).wr W3 (Or.inl (by simp)))
  have f7 := (f4.wr W3)
  have f8 := (GS2.other W3 (Or.inr (slot_ne (t := .int) (t' := (.array (.object "java/lang/Object"))) (Or.inl (hw _ (List.mem_of_getElem? (i := 224) rfl))) (Or.inl (hw _ (List.mem_of_getElem? (i := 76) rfl))) (by decide) (by decide) (by decide))))
  have f9 := (FM_.other W3 (Or.inr (slot_ne (t := .int) (t' := (.array (.object "java/lang/Object"))) (Or.inl (hw _ (List.mem_of_getElem? (i := 73) rfl))) (Or.inl (hw _ (List.mem_of_getElem? (i := 76) rfl))) (by decide) (by decide) (by decide))))
  exact k_retVoid d_ali_11 rfl (by decide) (by decide) ⟨rfl, f6, f7, F5, f8, f9, by decide, Or.inl ⟨rfl, rfl⟩⟩
theorem mt_ali (l : Launch) (Z : State) (a0 : Array Value) (hw : ∀ d ∈ tables_1, d.before a0 Z = true) (cs : Int32) (hcs : ¬ cs = 0) (SC : Sta Z Z.heap "java/lang/String" "COMPACT_STRINGS" "Z" (.int cs)) (hEW : EW Z a0 EL) (de : Addr) (ckd : ClassId) (SDE : Sta Z Z.heap "java/util/ArrayList" "DEFAULTCAPACITY_EMPTY_ELEMENTDATA" "[Ljava/lang/Object;" (.ref de)) (DE : Arv Z Z.heap de ckd (.object "java/lang/Object") 0 [] .null) (a : Addr) (h0 : Heap) (n0 : Nat) (OD : Old Z n0 h0) (ga : n0 ≤ a) (EA : Exa Z h0 a "java/util/ArrayList") (GE : Fld Z h0 a "java/util/ArrayList" "elementData" "[Ljava/lang/Object;" .null) (GS : Fld Z h0 a "java/util/ArrayList" "size" "I" (.int 0)) (GM : Fld Z h0 a "java/util/AbstractList" "modCount" "I" (.int 0)) : Mt l Z M_ali [] n0 #[(.ref a)] h0 (fun v h => v = none ∧ Keep h0 h [a] ∧ Al Z h n0 de a de 0 []) :=
  mt_of_kw (P := ([], fun _ => False)) pf_ali (fun m => by first | (simp [entryFrame, mkF, argsToLocals, Value.category]; done) | rfl) (kw_ali l Z a0 hw cs hcs SC hEW de ckd SDE DE a h0 n0 OD ga EA GE GS GM)
abbrev M_alm : MD := ((⟨"java/util/ArrayList", "isEmpty", "()Z"⟩ : MethodName), jdk_38_method_9_code, 1, (some .boolean), { frames := 0, cells := 0, slots := 0, locals := 0 })
theorem d_alm_0 : decode jdk_38_method_9_code 0 = .ok (.aload_n 0, 1) := by decide +kernel
theorem d_alm_1 : decode jdk_38_method_9_code 1 = .ok (.getfield 48, 3) := by decide +kernel
theorem d_alm_4 : decode jdk_38_method_9_code 4 = .ok (.ifCond .ne 7, 3) := by decide +kernel
theorem d_alm_7 : decode jdk_38_method_9_code 7 = .ok (.iconst 1, 1) := by decide +kernel
theorem d_alm_8 : decode jdk_38_method_9_code 8 = .ok (.goto 4, 3) := by decide +kernel
theorem d_alm_11 : decode jdk_38_method_9_code 11 = .ok (.iconst 0, 1) := by decide +kernel
theorem d_alm_12 : decode jdk_38_method_9_code 12 = .ok (.ireturn, 1) := by decide +kernel
theorem pd_alm : parseMethodDescriptor "()Z" = some ⟨[], (some .boolean)⟩ := by decide +kernel
theorem pf_alm : plainFor (⟨"java/util/ArrayList", "isEmpty", "()Z"⟩ : MethodName) = true := by first | exact plainFor_of_name (by first | (simp [plainName, overriddenIn]; done) | decide +kernel) | decide +kernel
set_option maxRecDepth 65536 in
set_option maxHeartbeats 40000000 in
theorem kw_alm (l : Launch) (Z : State) (a0 : Array Value) (hw : ∀ d ∈ tables_1, d.before a0 Z = true) (cs : Int32) (hcs : ¬ cs = 0) (SC : Sta Z Z.heap "java/lang/String" "COMPACT_STRINGS" "Z" (.int cs)) (hEW : EW Z a0 EL) (de a ed : Addr) (mc : Int32) (vs : List Addr) (h0 : Heap) (n0 : Nat) (LA : Al Z h0 n0 de a ed mc vs) : KW false l Z M_alm n0 (fun v h => v = some (.int (if vs = [] then 1 else 0)) ∧ h0 = h) ([], fun _ => False) h0 0 0 0 #[.val (.ref a)] [] := by
  obtain ⟨EA, FE, FS, FM, hle, hsh⟩ := LA
  refine k_aloadN d_alm_0 rfl rfl rfl ?_
  refine k_getField d_alm_1 rfl (hw _ (List.mem_of_getElem? (i := 223) rfl)) Via.refl FS ?_
  refine k_ifc (pc1 := 11) (pc' := 7) d_alm_4 (by decide) (by decide) rfl (fun (cd1 : ¬ (Int32.ofNat vs.length) = (0 : Int32)) => ?_) (fun (cd1 : (Int32.ofNat vs.length) = (0 : Int32)) => ?_)
  · skip
    refine k_iconst (z := (0 : Int32)) d_alm_11 rfl (by decide) ?_
    exact k_retNar d_alm_12 rfl (by simp) (z' := (0 : Int32)) (by decide) (by decide) (by decide) ⟨congrArg (fun z => some (Value.int z)) (by first | exact (emp0 hle (by assumption)).symm | exact (emp1 (by assumption)).symm), rfl⟩
  · skip
    refine k_iconst (z := (1 : Int32)) d_alm_7 rfl (by decide) ?_
    refine k_goto (pc' := 12) d_alm_8 (by decide) (by decide) ?_
    exact k_retNar d_alm_12 rfl (by simp) (z' := (1 : Int32)) (by decide) (by decide) (by decide) ⟨congrArg (fun z => some (Value.int z)) (by first | exact (emp0 hle (by assumption)).symm | exact (emp1 (by assumption)).symm), rfl⟩
theorem mt_alm (l : Launch) (Z : State) (a0 : Array Value) (hw : ∀ d ∈ tables_1, d.before a0 Z = true) (cs : Int32) (hcs : ¬ cs = 0) (SC : Sta Z Z.heap "java/lang/String" "COMPACT_STRINGS" "Z" (.int cs)) (hEW : EW Z a0 EL) (de a ed : Addr) (mc : Int32) (vs : List Addr) (h0 : Heap) (n0 : Nat) (LA : Al Z h0 n0 de a ed mc vs) : Mt l Z M_alm [] n0 #[(.ref a)] h0 (fun v h => v = some (.int (if vs = [] then 1 else 0)) ∧ h0 = h) :=
  mt_of_kw (P := ([], fun _ => False)) pf_alm (fun m => by first | (simp [entryFrame, mkF, argsToLocals, Value.category]; done) | rfl) (kw_alm l Z a0 hw cs hcs SC hEW de a ed mc vs h0 n0 LA)
abbrev M_alg : MD := ((⟨"java/util/ArrayList", "grow", "(I)[Ljava/lang/Object;"⟩ : MethodName), jdk_38_method_6_code, 4, (some (.array (.object "java/lang/Object"))), { frames := 1, cells := 1, slots := 10, locals := 16 })
theorem d_alg_0 : decode jdk_38_method_6_code 0 = .ok (.aload_n 0, 1) := by decide +kernel
theorem d_alg_1 : decode jdk_38_method_6_code 1 = .ok (.getfield 9, 3) := by decide +kernel
theorem d_alg_4 : decode jdk_38_method_6_code 4 = .ok (.arraylength, 1) := by decide +kernel
theorem d_alg_5 : decode jdk_38_method_6_code 5 = .ok (.istore_n 2, 1) := by decide +kernel
theorem d_alg_6 : decode jdk_38_method_6_code 6 = .ok (.iload_n 2, 1) := by decide +kernel
theorem d_alg_7 : decode jdk_38_method_6_code 7 = .ok (.ifCond .gt 13, 3) := by decide +kernel
theorem d_alg_10 : decode jdk_38_method_6_code 10 = .ok (.aload_n 0, 1) := by decide +kernel
theorem d_alg_11 : decode jdk_38_method_6_code 11 = .ok (.getfield 9, 3) := by decide +kernel
theorem d_alg_14 : decode jdk_38_method_6_code 14 = .ok (.getstatic 39, 3) := by decide +kernel
theorem d_alg_17 : decode jdk_38_method_6_code 17 = .ok (.if_acmp .eq 28, 3) := by decide +kernel
theorem d_alg_20 : decode jdk_38_method_6_code 20 = .ok (.iload_n 2, 1) := by decide +kernel
theorem d_alg_21 : decode jdk_38_method_6_code 21 = .ok (.iload_n 1, 1) := by decide +kernel
theorem d_alg_22 : decode jdk_38_method_6_code 22 = .ok (.iload_n 2, 1) := by decide +kernel
theorem d_alg_23 : decode jdk_38_method_6_code 23 = .ok (.isub, 1) := by decide +kernel
theorem d_alg_24 : decode jdk_38_method_6_code 24 = .ok (.iload_n 2, 1) := by decide +kernel
theorem d_alg_25 : decode jdk_38_method_6_code 25 = .ok (.iconst 1, 1) := by decide +kernel
theorem d_alg_26 : decode jdk_38_method_6_code 26 = .ok (.ishr, 1) := by decide +kernel
theorem d_alg_27 : decode jdk_38_method_6_code 27 = .ok (.invokestatic 73, 3) := by decide +kernel
theorem d_alg_30 : decode jdk_38_method_6_code 30 = .ok (.istore_n 3, 1) := by decide +kernel
theorem d_alg_31 : decode jdk_38_method_6_code 31 = .ok (.aload_n 0, 1) := by decide +kernel
theorem d_alg_32 : decode jdk_38_method_6_code 32 = .ok (.aload_n 0, 1) := by decide +kernel
theorem d_alg_33 : decode jdk_38_method_6_code 33 = .ok (.getfield 9, 3) := by decide +kernel
theorem d_alg_36 : decode jdk_38_method_6_code 36 = .ok (.iload_n 3, 1) := by decide +kernel
theorem d_alg_37 : decode jdk_38_method_6_code 37 = .ok (.invokestatic 66, 3) := by decide +kernel
theorem d_alg_40 : decode jdk_38_method_6_code 40 = .ok (.dup_x1, 1) := by decide +kernel
theorem d_alg_41 : decode jdk_38_method_6_code 41 = .ok (.putfield 9, 3) := by decide +kernel
theorem d_alg_44 : decode jdk_38_method_6_code 44 = .ok (.areturn, 1) := by decide +kernel
theorem d_alg_45 : decode jdk_38_method_6_code 45 = .ok (.aload_n 0, 1) := by decide +kernel
theorem d_alg_46 : decode jdk_38_method_6_code 46 = .ok (.bipush 10, 2) := by decide +kernel
theorem d_alg_48 : decode jdk_38_method_6_code 48 = .ok (.iload_n 1, 1) := by decide +kernel
theorem d_alg_49 : decode jdk_38_method_6_code 49 = .ok (.invokestatic 79, 3) := by decide +kernel
theorem d_alg_52 : decode jdk_38_method_6_code 52 = .ok (.anewarray 7, 3) := by decide +kernel
theorem d_alg_55 : decode jdk_38_method_6_code 55 = .ok (.dup_x1, 1) := by decide +kernel
theorem d_alg_56 : decode jdk_38_method_6_code 56 = .ok (.putfield 9, 3) := by decide +kernel
theorem d_alg_59 : decode jdk_38_method_6_code 59 = .ok (.areturn, 1) := by decide +kernel
theorem pd_alg : parseMethodDescriptor "(I)[Ljava/lang/Object;" = some ⟨[.int], (some (.array (.object "java/lang/Object")))⟩ := by decide +kernel
theorem pf_alg : plainFor (⟨"java/util/ArrayList", "grow", "(I)[Ljava/lang/Object;"⟩ : MethodName) = true := by first | exact plainFor_of_name (by first | (simp [plainName, overriddenIn]; done) | decide +kernel) | decide +kernel
set_option maxRecDepth 65536 in
set_option maxHeartbeats 40000000 in
theorem kw_alg (l : Launch) (Z : State) (a0 : Array Value) (hw : ∀ d ∈ tables_1, d.before a0 Z = true) (cs : Int32) (hcs : ¬ cs = 0) (SC : Sta Z Z.heap "java/lang/String" "COMPACT_STRINGS" "Z" (.int cs)) (hEW : EW Z a0 EL) (de : Addr) (ckd : ClassId) (SDE : Sta Z Z.heap "java/util/ArrayList" "DEFAULTCAPACITY_EMPTY_ELEMENTDATA" "[Ljava/lang/Object;" (.ref de)) (DE : Arv Z Z.heap de ckd (.object "java/lang/Object") 0 [] .null) (a : Addr) (mc : Int32) (h0 : Heap) (n0 : Nat) (OD : Old Z n0 h0) (ga : n0 ≤ a) (EA : Exa Z h0 a "java/util/ArrayList") (FE : Fld Z h0 a "java/util/ArrayList" "elementData" "[Ljava/lang/Object;" (.ref de)) (FS : Fld Z h0 a "java/util/ArrayList" "size" "I" (.int 0)) (FM : Fld Z h0 a "java/util/AbstractList" "modCount" "I" (.int mc)) : KW false l Z M_alg n0 (fun v h => ∃ e ck, v = some (.ref e) ∧ h0.size ≤ e ∧ n0 ≤ e ∧ Keep h0 h [a] ∧ Fld Z h a "java/util/ArrayList" "elementData" "[Ljava/lang/Object;" (.ref e) ∧ Fld Z h a "java/util/ArrayList" "size" "I" (.int 0) ∧ Fld Z h a "java/util/AbstractList" "modCount" "I" (.int mc) ∧ Ovr Z ck "java/lang/Object" ∧ Arv Z h e ck (.object "java/lang/Object") (Int32.ofNat 10) [] .null) ([], fun _ => False) h0 0 0 0 #[.val (.ref a), .val (.int (1 : Int32)), .unset, .unset] [] := by
  have Z0 := OD.1 ▸ OD.2.1
  have K0 : Keep h0 h0 [a] := Keep.refl _ _
  have DEh := DE.ext OD.2
  refine k_aloadN d_alg_0 rfl rfl rfl ?_
  refine k_getField d_alg_1 rfl (hw _ (List.mem_of_getElem? (i := 75) rfl)) Via.refl FE ?_
  refine k_arrlen d_alg_4 rfl DEh ?_
  refine k_istoreN (Ls' := #[.val (.ref a), .val (.int (1 : Int32)), .val (.int (0 : Int32)), .unset]) d_alg_5 rfl rfl ?_
  refine k_iloadN d_alg_6 rfl rfl ?_
  refine k_ifc (pc1 := 20) (pc' := 10) d_alg_7 (by decide) (by decide) rfl (fun (cd1 : (0 : Int32) < (0 : Int32)) => False.elim (by exact absurd cd1 (by decide))) (fun (cd1 : ¬ (0 : Int32) < (0 : Int32)) => ?_)
  refine k_aloadN d_alg_10 rfl rfl rfl ?_
  refine k_getField d_alg_11 rfl (hw _ (List.mem_of_getElem? (i := 75) rfl)) Via.refl FE ?_
  refine k_getStatic d_alg_14 rfl (hw _ (List.mem_of_getElem? (i := 74) rfl)) (Sta.ext OD.2 SDE) ?_
  refine k_acmpEq (pc1 := 45) (pc' := 20) d_alg_17 rfl rfl (by decide) (by decide) rfl (fun (cd2 : (Value.ref de) = (Value.ref de)) => ?_) (fun (cd2 : ¬ (Value.ref de) = (Value.ref de)) => False.elim (by exact cd2 rfl))
  refine k_aloadN d_alg_45 rfl rfl rfl ?_
  refine k_bipush (z := (10 : Int32)) d_alg_46 rfl (by decide) ?_
  refine k_iloadN d_alg_48 rfl rfl ?_
  refine k_callStatic (argsL := [(.int (10 : Int32)), (.int (1 : Int32))]) (rest := [(.ref a)]) (W0 := 1) d_alg_49 rfl (mt_mxm l Z a0 hw cs hcs SC hEW 10 1 h0 n0) Kp.strict (hw _ (List.mem_of_getElem? (i := 312) rfl)) (hw _ (List.mem_of_getElem? (i := 313) rfl)) (hw _ (List.mem_of_getElem? (i := 257) rfl)) (hw _ (List.mem_of_getElem? (i := 314) rfl)) (by decide) pd_mxm rfl rfl rfl rfl (by decide) (by decide) (by decide) (by decide) ?_
  rintro _ _ - ⟨rfl, rfl⟩
  rw [show maxI 10 1 = Int32.ofNat 10 by decide]
  refine KW.any (P' := ([], fun _ => False)) ?_
  show KW false l Z M_alg n0 (fun v h => ∃ e ck, v = some (.ref e) ∧ h0.size ≤ e ∧ n0 ≤ e ∧ Keep h0 h [a] ∧ Fld Z h a "java/util/ArrayList" "elementData" "[Ljava/lang/Object;" (.ref e) ∧ Fld Z h a "java/util/ArrayList" "size" "I" (.int 0) ∧ Fld Z h a "java/util/AbstractList" "modCount" "I" (.int mc) ∧ Ovr Z ck "java/lang/Object" ∧ Arv Z h e ck (.object "java/lang/Object") (Int32.ofNat 10) [] .null) ([], fun _ => False) h0 0 0 52 #[.val (.ref a), .val (.int (1 : Int32)), .val (.int (0 : Int32)), .unset] [(.int (Int32.ofNat 10)), (.ref a)]
  refine k_newR (cap := 10) d_alg_52 rfl (hw _ (List.mem_of_getElem? (i := 315) rfl)) (hw _ (List.mem_of_getElem? (i := 316) rfl)) (ix_nn (by decide)) (by decide) (by decide) (by decide) (by decide) ?_
  intro h2 a1 ck3 g4 E5 V6 O7
  have ne8 : a ≠ a1 := Nat.ne_of_lt (Nat.lt_of_lt_of_eq EA.lt g4.symm)
  have z10 : n0 ≤ h0.size := Z0
  have ge9 : n0 ≤ a1 := Nat.le_trans z10 (Nat.le_of_eq g4.symm)
  have gl11 : h0.size ≤ a1 := Nat.le_of_eq g4.symm
  have gh12 := Nat.le_trans K0.1 gl11
  refine KW.any (P' := ([], fun _ => False)) ?_
  show KW false l Z M_alg n0 (fun v h => ∃ e ck, v = some (.ref e) ∧ h0.size ≤ e ∧ n0 ≤ e ∧ Keep h0 h [a] ∧ Fld Z h a "java/util/ArrayList" "elementData" "[Ljava/lang/Object;" (.ref e) ∧ Fld Z h a "java/util/ArrayList" "size" "I" (.int 0) ∧ Fld Z h a "java/util/AbstractList" "modCount" "I" (.int mc) ∧ Ovr Z ck "java/lang/Object" ∧ Arv Z h e ck (.object "java/lang/Object") (Int32.ofNat 10) [] .null) ([], fun _ => False) h2 1 10 55 #[.val (.ref a), .val (.int (1 : Int32)), .val (.int (0 : Int32)), .unset] [(.ref a1), (.ref a)]
  refine k_dupX1 d_alg_55 rfl rfl rfl ?_
  have f15 := (FE.ext E5)
  have f16 := (EA.ext E5)
  refine k_put (v' := (.ref a1)) (ty := (.array (.object "java/lang/Object"))) d_alg_56 rfl (hw _ (List.mem_of_getElem? (i := 75) rfl)) Via.refl f15 f16 (Or.inl (hw _ (List.mem_of_getElem? (i := 76) rfl))) (hw _ (List.mem_of_getElem? (i := 54) rfl)) (by decide) rfl rfl ga (fun q => by cases q) ?_
  intro h13 W14
  have F17 := f15.same W14
  show KW false l Z M_alg n0 (fun v h => ∃ e ck, v = some (.ref e) ∧ h0.size ≤ e ∧ n0 ≤ e ∧ Keep h0 h [a] ∧ Fld Z h a "java/util/ArrayList" "elementData" "[Ljava/lang/Object;" (.ref e) ∧ Fld Z h a "java/util/ArrayList" "size" "I" (.int 0) ∧ Fld Z h a "java/util/AbstractList" "modCount" "I" (.int mc) ∧ Ovr Z ck "java/lang/Object" ∧ Arv Z h e ck (.object "java/lang/Object") (Int32.ofNat 10) [] .null) ([], fun _ => False) h13 1 10 59 #[.val (.ref a), .val (.int (1 : Int32)), .val (.int (0 : Int32)), .unset] [(.ref a1)]
  have f18 := ((K0.ext E5).wr W14 (Or.inl (by simp)))
  have f19 := ((FS.ext E5).other W14 (Or.inr (slot_ne (t := .int) (t' := (.array (.object "java/lang/Object"))) (Or.inl (hw _ (List.mem_of_getElem? (i := 224) rfl))) (Or.inl (hw _ (List.mem_of_getElem? (i := 76) rfl))) (by decide) (by decide) (by decide))))
  have f20 := ((FM.ext E5).other W14 (Or.inr (slot_ne (t := .int) (t' := (.array (.object "java/lang/Object"))) (Or.inl (hw _ (List.mem_of_getElem? (i := 73) rfl))) (Or.inl (hw _ (List.mem_of_getElem? (i := 76) rfl))) (by decide) (by decide) (by decide))))
  have f21 := (V6.other W14 (Ne.symm ne8))
  exact k_retRef d_alg_59 rfl rfl rfl (by decide) (by decide) ⟨a1, ck3, rfl, gh12, ge9, f18, F17, f19, f20, O7, f21⟩
theorem mt_alg (l : Launch) (Z : State) (a0 : Array Value) (hw : ∀ d ∈ tables_1, d.before a0 Z = true) (cs : Int32) (hcs : ¬ cs = 0) (SC : Sta Z Z.heap "java/lang/String" "COMPACT_STRINGS" "Z" (.int cs)) (hEW : EW Z a0 EL) (de : Addr) (ckd : ClassId) (SDE : Sta Z Z.heap "java/util/ArrayList" "DEFAULTCAPACITY_EMPTY_ELEMENTDATA" "[Ljava/lang/Object;" (.ref de)) (DE : Arv Z Z.heap de ckd (.object "java/lang/Object") 0 [] .null) (a : Addr) (mc : Int32) (h0 : Heap) (n0 : Nat) (OD : Old Z n0 h0) (ga : n0 ≤ a) (EA : Exa Z h0 a "java/util/ArrayList") (FE : Fld Z h0 a "java/util/ArrayList" "elementData" "[Ljava/lang/Object;" (.ref de)) (FS : Fld Z h0 a "java/util/ArrayList" "size" "I" (.int 0)) (FM : Fld Z h0 a "java/util/AbstractList" "modCount" "I" (.int mc)) : Mt l Z M_alg [] n0 #[(.ref a), (.int (1 : Int32))] h0 (fun v h => ∃ e ck, v = some (.ref e) ∧ h0.size ≤ e ∧ n0 ≤ e ∧ Keep h0 h [a] ∧ Fld Z h a "java/util/ArrayList" "elementData" "[Ljava/lang/Object;" (.ref e) ∧ Fld Z h a "java/util/ArrayList" "size" "I" (.int 0) ∧ Fld Z h a "java/util/AbstractList" "modCount" "I" (.int mc) ∧ Ovr Z ck "java/lang/Object" ∧ Arv Z h e ck (.object "java/lang/Object") (Int32.ofNat 10) [] .null) :=
  mt_of_kw (P := ([], fun _ => False)) pf_alg (fun m => by first | (simp [entryFrame, mkF, argsToLocals, Value.category]; done) | rfl) (kw_alg l Z a0 hw cs hcs SC hEW de ckd SDE DE a mc h0 n0 OD ga EA FE FS FM)
abbrev M_alh : MD := ((⟨"java/util/ArrayList", "grow", "()[Ljava/lang/Object;"⟩ : MethodName), jdk_38_method_7_code, 1, (some (.array (.object "java/lang/Object"))), { frames := 2, cells := 1, slots := 10, locals := 32 })
theorem d_alh_0 : decode jdk_38_method_7_code 0 = .ok (.aload_n 0, 1) := by decide +kernel
theorem d_alh_1 : decode jdk_38_method_7_code 1 = .ok (.aload_n 0, 1) := by decide +kernel
theorem d_alh_2 : decode jdk_38_method_7_code 2 = .ok (.getfield 48, 3) := by decide +kernel
theorem d_alh_5 : decode jdk_38_method_7_code 5 = .ok (.iconst 1, 1) := by decide +kernel
theorem d_alh_6 : decode jdk_38_method_7_code 6 = .ok (.iadd, 1) := by decide +kernel
theorem d_alh_7 : decode jdk_38_method_7_code 7 = .ok (.invokevirtual 69, 3) := by decide +kernel
theorem d_alh_10 : decode jdk_38_method_7_code 10 = .ok (.areturn, 1) := by decide +kernel
theorem pd_alh : parseMethodDescriptor "()[Ljava/lang/Object;" = some ⟨[], (some (.array (.object "java/lang/Object")))⟩ := by decide +kernel
theorem pf_alh : plainFor (⟨"java/util/ArrayList", "grow", "()[Ljava/lang/Object;"⟩ : MethodName) = true := by first | exact plainFor_of_name (by first | (simp [plainName, overriddenIn]; done) | decide +kernel) | decide +kernel
set_option maxRecDepth 65536 in
set_option maxHeartbeats 40000000 in
theorem kw_alh (l : Launch) (Z : State) (a0 : Array Value) (hw : ∀ d ∈ tables_1, d.before a0 Z = true) (cs : Int32) (hcs : ¬ cs = 0) (SC : Sta Z Z.heap "java/lang/String" "COMPACT_STRINGS" "Z" (.int cs)) (hEW : EW Z a0 EL) (de : Addr) (ckd : ClassId) (SDE : Sta Z Z.heap "java/util/ArrayList" "DEFAULTCAPACITY_EMPTY_ELEMENTDATA" "[Ljava/lang/Object;" (.ref de)) (DE : Arv Z Z.heap de ckd (.object "java/lang/Object") 0 [] .null) (a : Addr) (mc : Int32) (h0 : Heap) (n0 : Nat) (OD : Old Z n0 h0) (ga : n0 ≤ a) (EA : Exa Z h0 a "java/util/ArrayList") (FE : Fld Z h0 a "java/util/ArrayList" "elementData" "[Ljava/lang/Object;" (.ref de)) (FS : Fld Z h0 a "java/util/ArrayList" "size" "I" (.int 0)) (FM : Fld Z h0 a "java/util/AbstractList" "modCount" "I" (.int mc)) : KW false l Z M_alh n0 (fun v h => ∃ e ck, v = some (.ref e) ∧ h0.size ≤ e ∧ n0 ≤ e ∧ Keep h0 h [a] ∧ Fld Z h a "java/util/ArrayList" "elementData" "[Ljava/lang/Object;" (.ref e) ∧ Fld Z h a "java/util/ArrayList" "size" "I" (.int 0) ∧ Fld Z h a "java/util/AbstractList" "modCount" "I" (.int mc) ∧ Ovr Z ck "java/lang/Object" ∧ Arv Z h e ck (.object "java/lang/Object") (Int32.ofNat 10) [] .null) ([], fun _ => False) h0 0 0 0 #[.val (.ref a)] [] := by
  have Z0 := OD.1 ▸ OD.2.1
  have K0 : Keep h0 h0 [a] := Keep.refl _ _
  have DEh := DE.ext OD.2
  refine k_aloadN d_alh_0 rfl rfl rfl ?_
  refine k_aloadN d_alh_1 rfl rfl rfl ?_
  refine k_getField d_alh_2 rfl (hw _ (List.mem_of_getElem? (i := 223) rfl)) Via.refl FS ?_
  refine k_iconst (z := (1 : Int32)) d_alh_5 rfl (by decide) ?_
  refine k_iadd d_alh_6 rfl ?_
  refine KW.top (congrArg Value.int (show (0 : Int32) + (1 : Int32) = 1 by decide)) ?_
  show KW false l Z M_alh n0 (fun v h => ∃ e ck, v = some (.ref e) ∧ h0.size ≤ e ∧ n0 ≤ e ∧ Keep h0 h [a] ∧ Fld Z h a "java/util/ArrayList" "elementData" "[Ljava/lang/Object;" (.ref e) ∧ Fld Z h a "java/util/ArrayList" "size" "I" (.int 0) ∧ Fld Z h a "java/util/AbstractList" "modCount" "I" (.int mc) ∧ Ovr Z ck "java/lang/Object" ∧ Arv Z h e ck (.object "java/lang/Object") (Int32.ofNat 10) [] .null) ([], fun _ => False) h0 0 0 7 #[.val (.ref a)] [(.int (1 : Int32)), (.ref a)]
  refine k_callVirtual (argsL := [(.int (1 : Int32))]) (rest := []) (W0 := 0) d_alh_7 rfl (mt_alg l Z a0 hw cs hcs SC hEW de ckd SDE DE a mc h0 n0 OD ga EA FE FS FM) Kp.strict EA (hw _ (List.mem_of_getElem? (i := 307) rfl)) (own_decl (hw _ (List.mem_of_getElem? (i := 308) rfl)) (hw _ (List.mem_of_getElem? (i := 311) rfl))) (hw _ (List.mem_of_getElem? (i := 310) rfl)) (hw _ (List.mem_of_getElem? (i := 217) rfl)) rfl (hw _ (List.mem_of_getElem? (i := 308) rfl)) (hw _ (List.mem_of_getElem? (i := 311) rfl)) (hw _ (List.mem_of_getElem? (i := 55) rfl)) (by decide) pd_alg rfl rfl rfl rfl (by decide) (by decide) (by decide) (by decide) ?_
  rintro _ hM - ⟨e, ck, rfl, R1⟩
  refine KW.any (P' := ([], fun _ => False)) ?_
  show KW false l Z M_alh n0 (fun v h => ∃ e ck, v = some (.ref e) ∧ h0.size ≤ e ∧ n0 ≤ e ∧ Keep h0 h [a] ∧ Fld Z h a "java/util/ArrayList" "elementData" "[Ljava/lang/Object;" (.ref e) ∧ Fld Z h a "java/util/ArrayList" "size" "I" (.int 0) ∧ Fld Z h a "java/util/AbstractList" "modCount" "I" (.int mc) ∧ Ovr Z ck "java/lang/Object" ∧ Arv Z h e ck (.object "java/lang/Object") (Int32.ofNat 10) [] .null) ([], fun _ => False) hM 1 10 10 #[.val (.ref a)] [(.ref e)]
  exact k_retRef d_alh_10 rfl rfl rfl (by decide) (by decide) ⟨e, ck, rfl, R1⟩
theorem mt_alh (l : Launch) (Z : State) (a0 : Array Value) (hw : ∀ d ∈ tables_1, d.before a0 Z = true) (cs : Int32) (hcs : ¬ cs = 0) (SC : Sta Z Z.heap "java/lang/String" "COMPACT_STRINGS" "Z" (.int cs)) (hEW : EW Z a0 EL) (de : Addr) (ckd : ClassId) (SDE : Sta Z Z.heap "java/util/ArrayList" "DEFAULTCAPACITY_EMPTY_ELEMENTDATA" "[Ljava/lang/Object;" (.ref de)) (DE : Arv Z Z.heap de ckd (.object "java/lang/Object") 0 [] .null) (a : Addr) (mc : Int32) (h0 : Heap) (n0 : Nat) (OD : Old Z n0 h0) (ga : n0 ≤ a) (EA : Exa Z h0 a "java/util/ArrayList") (FE : Fld Z h0 a "java/util/ArrayList" "elementData" "[Ljava/lang/Object;" (.ref de)) (FS : Fld Z h0 a "java/util/ArrayList" "size" "I" (.int 0)) (FM : Fld Z h0 a "java/util/AbstractList" "modCount" "I" (.int mc)) : Mt l Z M_alh [] n0 #[(.ref a)] h0 (fun v h => ∃ e ck, v = some (.ref e) ∧ h0.size ≤ e ∧ n0 ≤ e ∧ Keep h0 h [a] ∧ Fld Z h a "java/util/ArrayList" "elementData" "[Ljava/lang/Object;" (.ref e) ∧ Fld Z h a "java/util/ArrayList" "size" "I" (.int 0) ∧ Fld Z h a "java/util/AbstractList" "modCount" "I" (.int mc) ∧ Ovr Z ck "java/lang/Object" ∧ Arv Z h e ck (.object "java/lang/Object") (Int32.ofNat 10) [] .null) :=
  mt_of_kw (P := ([], fun _ => False)) pf_alh (fun m => by first | (simp [entryFrame, mkF, argsToLocals, Value.category]; done) | rfl) (kw_alh l Z a0 hw cs hcs SC hEW de ckd SDE DE a mc h0 n0 OD ga EA FE FS FM)
abbrev M_ala : MD := ((⟨"java/util/ArrayList", "add", "(Ljava/lang/Object;[Ljava/lang/Object;I)V"⟩ : MethodName), jdk_38_method_24_code, 4, none, { frames := 3, cells := 1, slots := 10, locals := 52 })
theorem d_ala_0 : decode jdk_38_method_24_code 0 = .ok (.iload_n 3, 1) := by decide +kernel
theorem d_ala_1 : decode jdk_38_method_24_code 1 = .ok (.aload_n 2, 1) := by decide +kernel
theorem d_ala_2 : decode jdk_38_method_24_code 2 = .ok (.arraylength, 1) := by decide +kernel
theorem d_ala_3 : decode jdk_38_method_24_code 3 = .ok (.if_icmp .ne 8, 3) := by decide +kernel
theorem d_ala_6 : decode jdk_38_method_24_code 6 = .ok (.aload_n 0, 1) := by decide +kernel
theorem d_ala_7 : decode jdk_38_method_24_code 7 = .ok (.invokevirtual 129, 3) := by decide +kernel
theorem d_ala_10 : decode jdk_38_method_24_code 10 = .ok (.astore_n 2, 1) := by decide +kernel
theorem d_ala_11 : decode jdk_38_method_24_code 11 = .ok (.aload_n 2, 1) := by decide +kernel
theorem d_ala_12 : decode jdk_38_method_24_code 12 = .ok (.iload_n 3, 1) := by decide +kernel
theorem d_ala_13 : decode jdk_38_method_24_code 13 = .ok (.aload_n 1, 1) := by decide +kernel
theorem d_ala_14 : decode jdk_38_method_24_code 14 = .ok (.aastore, 1) := by decide +kernel
theorem d_ala_15 : decode jdk_38_method_24_code 15 = .ok (.aload_n 0, 1) := by decide +kernel
theorem d_ala_16 : decode jdk_38_method_24_code 16 = .ok (.iload_n 3, 1) := by decide +kernel
theorem d_ala_17 : decode jdk_38_method_24_code 17 = .ok (.iconst 1, 1) := by decide +kernel
theorem d_ala_18 : decode jdk_38_method_24_code 18 = .ok (.iadd, 1) := by decide +kernel
theorem d_ala_19 : decode jdk_38_method_24_code 19 = .ok (.putfield 48, 3) := by decide +kernel
theorem d_ala_22 : decode jdk_38_method_24_code 22 = .ok (.return_, 1) := by decide +kernel
theorem pd_ala : parseMethodDescriptor "(Ljava/lang/Object;[Ljava/lang/Object;I)V" = some ⟨[(.object "java/lang/Object"), (.array (.object "java/lang/Object")), .int], none⟩ := by decide +kernel
theorem pf_ala : plainFor (⟨"java/util/ArrayList", "add", "(Ljava/lang/Object;[Ljava/lang/Object;I)V"⟩ : MethodName) = true := by first | exact plainFor_of_name (by first | (simp [plainName, overriddenIn]; done) | decide +kernel) | decide +kernel
set_option maxRecDepth 65536 in
set_option maxHeartbeats 40000000 in
theorem kw_alaE (l : Launch) (Z : State) (a0 : Array Value) (hw : ∀ d ∈ tables_1, d.before a0 Z = true) (cs : Int32) (hcs : ¬ cs = 0) (SC : Sta Z Z.heap "java/lang/String" "COMPACT_STRINGS" "Z" (.int cs)) (hEW : EW Z a0 EL) (de : Addr) (ckd : ClassId) (SDE : Sta Z Z.heap "java/util/ArrayList" "DEFAULTCAPACITY_EMPTY_ELEMENTDATA" "[Ljava/lang/Object;" (.ref de)) (DE : Arv Z Z.heap de ckd (.object "java/lang/Object") 0 [] .null) (a : Addr) (mc : Int32) (h0 : Heap) (n0 : Nat) (OD : Old Z n0 h0) (ga : n0 ≤ a) (EA : Exa Z h0 a "java/util/ArrayList") (FE : Fld Z h0 a "java/util/ArrayList" "elementData" "[Ljava/lang/Object;" (.ref de)) (FS : Fld Z h0 a "java/util/ArrayList" "size" "I" (.int 0)) (FM : Fld Z h0 a "java/util/AbstractList" "modCount" "I" (.int mc)) (x : Addr) (EX : Exa Z h0 x "com/example/roomwire/roomwire/qunar/XmlElement") : KW false l Z M_ala n0 (fun v h => v = none ∧ ∃ e, h0.size ≤ e ∧ n0 ≤ e ∧ Keep h0 h [a] ∧ Al Z h n0 de a e mc [x]) ([], fun _ => False) h0 0 0 0 #[.val (.ref a), .val (.ref x), .val (.ref de), .val (.int (0 : Int32))] [] := by
  have Z0 := OD.1 ▸ OD.2.1
  have K0 : Keep h0 h0 [a] := Keep.refl _ _
  have DEh := DE.ext OD.2
  refine k_iloadN d_ala_0 rfl rfl ?_
  refine k_aloadN d_ala_1 rfl rfl rfl ?_
  refine k_arrlen d_ala_2 rfl DEh ?_
  refine k_icmp (pc1 := 11) (pc' := 6) d_ala_3 (by decide) (by decide) rfl (fun (cd1 : ¬ (0 : Int32) = (0 : Int32)) => False.elim (by exact absurd cd1 (by decide))) (fun (cd1 : (0 : Int32) = (0 : Int32)) => ?_)
  refine k_aloadN d_ala_6 rfl rfl rfl ?_
  refine k_callVirtual (argsL := []) (rest := []) (W0 := 0) d_ala_7 rfl (mt_alh l Z a0 hw cs hcs SC hEW de ckd SDE DE a mc h0 n0 OD ga EA FE FS FM) Kp.strict EA (hw _ (List.mem_of_getElem? (i := 302) rfl)) (own_decl (hw _ (List.mem_of_getElem? (i := 303) rfl)) (hw _ (List.mem_of_getElem? (i := 306) rfl))) (hw _ (List.mem_of_getElem? (i := 305) rfl)) (hw _ (List.mem_of_getElem? (i := 217) rfl)) rfl (hw _ (List.mem_of_getElem? (i := 303) rfl)) (hw _ (List.mem_of_getElem? (i := 306) rfl)) (hw _ (List.mem_of_getElem? (i := 55) rfl)) (by decide) pd_alh rfl rfl rfl rfl (by decide) (by decide) (by decide) (by decide) ?_
  rintro _ hM - ⟨e, ck, rfl, he, ge, KM, FE1, FS1, FM1, OV, AV⟩
  have ne1 : a ≠ e := Nat.ne_of_lt (Nat.lt_of_lt_of_le EA.lt he)
  refine KW.any (P' := ([], fun _ => False)) ?_
  show KW false l Z M_ala n0 (fun v h => v = none ∧ ∃ e, h0.size ≤ e ∧ n0 ≤ e ∧ Keep h0 h [a] ∧ Al Z h n0 de a e mc [x]) ([], fun _ => False) hM 1 10 10 #[.val (.ref a), .val (.ref x), .val (.ref de), .val (.int (0 : Int32))] [(.ref e)]
  refine k_astoreN (Ls' := #[.val (.ref a), .val (.ref x), .val (.ref e), .val (.int (0 : Int32))]) d_ala_10 rfl rfl rfl ?_
  refine k_aloadN d_ala_11 rfl rfl rfl ?_
  refine k_iloadN d_ala_12 rfl rfl ?_
  refine k_aloadN d_ala_13 rfl rfl rfl ?_
  have AP : Arv Z hM e ck (.object "java/lang/Object") (Int32.ofNat 10) (List.replicate 10 .null) .null := Arv.pad AV (pad_rep [] _ 10)
  have f2 := (EX.keep KM)
  refine k_aastore (i := 0) d_ala_14 rfl AP rfl rfl (by decide) (by decide) (by decide) OV (Ins.of_exa f2 (hw _ (List.mem_of_getElem? (i := 317) rfl))) ge (fun q => by cases q) ?_
  intro h9 W9 V9
  show KW false l Z M_ala n0 (fun v h => v = none ∧ ∃ e, h0.size ≤ e ∧ n0 ≤ e ∧ Keep h0 h [a] ∧ Al Z h n0 de a e mc [x]) ([], fun _ => False) h9 1 10 15 #[.val (.ref a), .val (.ref x), .val (.ref e), .val (.int (0 : Int32))] []
  refine k_aloadN d_ala_15 rfl rfl rfl ?_
  refine k_iloadN d_ala_16 rfl rfl ?_
  refine k_iconst (z := (1 : Int32)) d_ala_17 rfl (by decide) ?_
  refine k_iadd d_ala_18 rfl ?_
  refine KW.top (congrArg Value.int (show (0 : Int32) + (1 : Int32) = Int32.ofNat 1 by decide)) ?_
  show KW false l Z M_ala n0 (fun v h => v = none ∧ ∃ e, h0.size ≤ e ∧ n0 ≤ e ∧ Keep h0 h [a] ∧ Al Z h n0 de a e mc [x]) ([], fun _ => False) h9 1 10 19 #[.val (.ref a), .val (.ref x), .val (.ref e), .val (.int (0 : Int32))] [(.int (Int32.ofNat 1)), (.ref a)]
  have f5 := (FS1.other W9 (Or.inl ne1))
  have f6 := ((EA.keep KM).wr W9)
  refine k_put (v' := (.int (Int32.ofNat 1))) (ty := .int) d_ala_19 rfl (hw _ (List.mem_of_getElem? (i := 223) rfl)) Via.refl f5 f6 (Or.inl (hw _ (List.mem_of_getElem? (i := 224) rfl))) (hw _ (List.mem_of_getElem? (i := 54) rfl)) (by decide) rfl rfl ga (fun q => by cases q) ?_
  intro h3 W4
  have F7 := f5.same W4
  show KW false l Z M_ala n0 (fun v h => v = none ∧ ∃ e, h0.size ≤ e ∧ n0 ≤ e ∧ Keep h0 h [a] ∧ Al Z h n0 de a e mc [x]) ([], fun _ => False) h3 1 10 22 #[.val (.ref a), .val (.ref x), .val (.ref e), .val (.int (0 : Int32))] []
  have f8 := (((K0.trans KM (allS (Or.inl (by simp)) all0)).wr W9 (Or.inr he)).wr W4 (Or.inl (by simp)))
  have f9 := (f6.wr W4)
  have f10 := ((FE1.other W9 (Or.inl ne1)).other W4 (Or.inr (slot_ne (t := (.array (.object "java/lang/Object"))) (t' := .int) (Or.inl (hw _ (List.mem_of_getElem? (i := 76) rfl))) (Or.inl (hw _ (List.mem_of_getElem? (i := 224) rfl))) (by decide) (by decide) (by decide))))
  have f11 := ((FM1.other W9 (Or.inl ne1)).other W4 (Or.inr (slot_ne (t := .int) (t' := .int) (Or.inl (hw _ (List.mem_of_getElem? (i := 73) rfl))) (Or.inl (hw _ (List.mem_of_getElem? (i := 224) rfl))) (by decide) (by decide) (by decide))))
  have f12 := (V9.other W4 (Ne.symm ne1))
  exact k_retVoid d_ala_22 rfl (by decide) (by decide) ⟨rfl, e, he, ge, f8, f9, f10, F7, f11, by simp, Or.inr ⟨ge, ne1, ck, List.replicate 9 .null, OV, f12, rfl⟩⟩
theorem mt_alaE (l : Launch) (Z : State) (a0 : Array Value) (hw : ∀ d ∈ tables_1, d.before a0 Z = true) (cs : Int32) (hcs : ¬ cs = 0) (SC : Sta Z Z.heap "java/lang/String" "COMPACT_STRINGS" "Z" (.int cs)) (hEW : EW Z a0 EL) (de : Addr) (ckd : ClassId) (SDE : Sta Z Z.heap "java/util/ArrayList" "DEFAULTCAPACITY_EMPTY_ELEMENTDATA" "[Ljava/lang/Object;" (.ref de)) (DE : Arv Z Z.heap de ckd (.object "java/lang/Object") 0 [] .null) (a : Addr) (mc : Int32) (h0 : Heap) (n0 : Nat) (OD : Old Z n0 h0) (ga : n0 ≤ a) (EA : Exa Z h0 a "java/util/ArrayList") (FE : Fld Z h0 a "java/util/ArrayList" "elementData" "[Ljava/lang/Object;" (.ref de)) (FS : Fld Z h0 a "java/util/ArrayList" "size" "I" (.int 0)) (FM : Fld Z h0 a "java/util/AbstractList" "modCount" "I" (.int mc)) (x : Addr) (EX : Exa Z h0 x "com/example/roomwire/roomwire/qunar/XmlElement") : Mt l Z M_ala [] n0 #[(.ref a), (.ref x), (.ref de), (.int (0 : Int32))] h0 (fun v h => v = none ∧ ∃ e, h0.size ≤ e ∧ n0 ≤ e ∧ Keep h0 h [a] ∧ Al Z h n0 de a e mc [x]) :=
  mt_of_kw (P := ([], fun _ => False)) pf_ala (fun m => by first | (simp [entryFrame, mkF, argsToLocals, Value.category]; done) | rfl) (kw_alaE l Z a0 hw cs hcs SC hEW de ckd SDE DE a mc h0 n0 OD ga EA FE FS FM x EX)
set_option maxRecDepth 65536 in
set_option maxHeartbeats 40000000 in
theorem kw_alaN (l : Launch) (Z : State) (a0 : Array Value) (hw : ∀ d ∈ tables_1, d.before a0 Z = true) (cs : Int32) (hcs : ¬ cs = 0) (SC : Sta Z Z.heap "java/lang/String" "COMPACT_STRINGS" "Z" (.int cs)) (hEW : EW Z a0 EL) (de a ed x : Addr) (mc : Int32) (vs : List Addr) (h0 : Heap) (n0 : Nat) (OD : Old Z n0 h0) (ga : n0 ≤ a) (LA : Al Z h0 n0 de a ed mc vs) (hvs : vs ≠ []) (hlt : vs.length < 10) (EX : Exa Z h0 x "com/example/roomwire/roomwire/qunar/XmlElement") : KW false l Z M_ala n0 (fun v h => v = none ∧ Keep h0 h [a, ed] ∧ Al Z h n0 de a ed mc (vs ++ [x])) ([], fun _ => False) h0 0 0 0 #[.val (.ref a), .val (.ref x), .val (.ref ed), .val (.int (Int32.ofNat vs.length))] [] := by
  obtain ⟨EA, FE, FS, FM, hle, hsh⟩ := id LA
  obtain ⟨ge, hae, ck, ys, OV, AV, hln⟩ := hsh.resolve_left (fun q => hvs q.1)
  have Z0 := OD.1 ▸ OD.2.1
  have K0 : Keep h0 h0 [a, ed] := Keep.refl _ _
  refine k_iloadN d_ala_0 rfl rfl ?_
  refine k_aloadN d_ala_1 rfl rfl rfl ?_
  refine k_arrlen d_ala_2 rfl AV ?_
  refine k_icmp (pc1 := 11) (pc' := 6) d_ala_3 (by decide) (by decide) rfl (fun (cd2 : ¬ (Int32.ofNat vs.length) = (Int32.ofNat 10)) => ?_) (fun (cd2 : (Int32.ofNat vs.length) = (Int32.ofNat 10)) => False.elim (by exact ix_ne (i := vs.length) (j := 10) (by omega) (by decide) (by omega) cd2))
  refine k_aloadN d_ala_11 rfl rfl rfl ?_
  refine k_iloadN d_ala_12 rfl rfl ?_
  refine k_aloadN d_ala_13 rfl rfl rfl ?_
  obtain ⟨zs, hz1, hz2⟩ := al_set vs ys x hln hlt
  refine k_aastore (i := vs.length) d_ala_14 rfl AV rfl rfl (ix_inb (by decide) hlt) (ix_nat (by omega)) (by omega) OV (Ins.of_exa EX (hw _ (List.mem_of_getElem? (i := 317) rfl))) ge (fun q => by cases q) ?_
  intro h9 W9 V9
  rw [hz1] at V9
  show KW false l Z M_ala n0 (fun v h => v = none ∧ Keep h0 h [a, ed] ∧ Al Z h n0 de a ed mc (vs ++ [x])) ([], fun _ => False) h9 0 0 15 #[.val (.ref a), .val (.ref x), .val (.ref ed), .val (.int (Int32.ofNat vs.length))] []
  refine k_aloadN d_ala_15 rfl rfl rfl ?_
  refine k_iloadN d_ala_16 rfl rfl ?_
  refine k_iconst (z := (1 : Int32)) d_ala_17 rfl (by decide) ?_
  refine k_iadd d_ala_18 rfl ?_
  refine KW.top (congrArg Value.int ((by rw [List.length_append]; exact ix_add _ 1 : Int32.ofNat vs.length + (1 : Int32) = Int32.ofNat (vs ++ [x]).length))) ?_
  show KW false l Z M_ala n0 (fun v h => v = none ∧ Keep h0 h [a, ed] ∧ Al Z h n0 de a ed mc (vs ++ [x])) ([], fun _ => False) h9 0 0 19 #[.val (.ref a), .val (.ref x), .val (.ref ed), .val (.int (Int32.ofNat vs.length))] [(.int (Int32.ofNat (vs ++ [x]).length)), (.ref a)]
  have f15 := (FS.other W9 (Or.inl hae))
  have f16 := (EA.wr W9)
  refine k_put (v' := (.int (Int32.ofNat (vs ++ [x]).length))) (ty := .int) d_ala_19 rfl (hw _ (List.mem_of_getElem? (i := 223) rfl)) Via.refl f15 f16 (Or.inl (hw _ (List.mem_of_getElem? (i := 224) rfl))) (hw _ (List.mem_of_getElem? (i := 54) rfl)) (by decide) rfl rfl ga (fun q => by cases q) ?_
  intro h13 W14
  have F17 := f15.same W14
  show KW false l Z M_ala n0 (fun v h => v = none ∧ Keep h0 h [a, ed] ∧ Al Z h n0 de a ed mc (vs ++ [x])) ([], fun _ => False) h13 0 0 22 #[.val (.ref a), .val (.ref x), .val (.ref ed), .val (.int (Int32.ofNat vs.length))] []
  have f18 := ((K0.wr W9 (Or.inl (by simp))).wr W14 (Or.inl (by simp)))
  have f19 := (f16.wr W14)
  have f20 := ((FE.other W9 (Or.inl hae)).other W14 (Or.inr (slot_ne (t := (.array (.object "java/lang/Object"))) (t' := .int) (Or.inl (hw _ (List.mem_of_getElem? (i := 76) rfl))) (Or.inl (hw _ (List.mem_of_getElem? (i := 224) rfl))) (by decide) (by decide) (by decide))))
  have f21 := ((FM.other W9 (Or.inl hae)).other W14 (Or.inr (slot_ne (t := .int) (t' := .int) (Or.inl (hw _ (List.mem_of_getElem? (i := 73) rfl))) (Or.inl (hw _ (List.mem_of_getElem? (i := 224) rfl))) (by decide) (by decide) (by decide))))
  have f22 := (V9.other W14 (Ne.symm hae))
  exact k_retVoid d_ala_22 rfl (by decide) (by decide) ⟨rfl, f18, f19, f20, F17, f21, by rw [List.length_append]; exact hlt, Or.inr ⟨ge, hae, ck, zs, OV, f22, hz2⟩⟩
theorem mt_alaN (l : Launch) (Z : State) (a0 : Array Value) (hw : ∀ d ∈ tables_1, d.before a0 Z = true) (cs : Int32) (hcs : ¬ cs = 0) (SC : Sta Z Z.heap "java/lang/String" "COMPACT_STRINGS" "Z" (.int cs)) (hEW : EW Z a0 EL) (de a ed x : Addr) (mc : Int32) (vs : List Addr) (h0 : Heap) (n0 : Nat) (OD : Old Z n0 h0) (ga : n0 ≤ a) (LA : Al Z h0 n0 de a ed mc vs) (hvs : vs ≠ []) (hlt : vs.length < 10) (EX : Exa Z h0 x "com/example/roomwire/roomwire/qunar/XmlElement") : Mt l Z M_ala [] n0 #[(.ref a), (.ref x), (.ref ed), (.int (Int32.ofNat vs.length))] h0 (fun v h => v = none ∧ Keep h0 h [a, ed] ∧ Al Z h n0 de a ed mc (vs ++ [x])) :=
  mt_of_kw (P := ([], fun _ => False)) pf_ala (fun m => by first | (simp [entryFrame, mkF, argsToLocals, Value.category]; done) | rfl) (kw_alaN l Z a0 hw cs hcs SC hEW de a ed x mc vs h0 n0 OD ga LA hvs hlt EX)
abbrev M_ald : MD := ((⟨"java/util/ArrayList", "add", "(Ljava/lang/Object;)Z"⟩ : MethodName), jdk_38_method_25_code, 2, (some .boolean), { frames := 4, cells := 1, slots := 10, locals := 72 })
theorem d_ald_0 : decode jdk_38_method_25_code 0 = .ok (.aload_n 0, 1) := by decide +kernel
theorem d_ald_1 : decode jdk_38_method_25_code 1 = .ok (.dup, 1) := by decide +kernel
theorem d_ald_2 : decode jdk_38_method_25_code 2 = .ok (.getfield 63, 3) := by decide +kernel
theorem d_ald_5 : decode jdk_38_method_25_code 5 = .ok (.iconst 1, 1) := by decide +kernel
theorem d_ald_6 : decode jdk_38_method_25_code 6 = .ok (.iadd, 1) := by decide +kernel
theorem d_ald_7 : decode jdk_38_method_25_code 7 = .ok (.putfield 63, 3) := by decide +kernel
theorem d_ald_10 : decode jdk_38_method_25_code 10 = .ok (.aload_n 0, 1) := by decide +kernel
theorem d_ald_11 : decode jdk_38_method_25_code 11 = .ok (.aload_n 1, 1) := by decide +kernel
theorem d_ald_12 : decode jdk_38_method_25_code 12 = .ok (.aload_n 0, 1) := by decide +kernel
theorem d_ald_13 : decode jdk_38_method_25_code 13 = .ok (.getfield 9, 3) := by decide +kernel
theorem d_ald_16 : decode jdk_38_method_25_code 16 = .ok (.aload_n 0, 1) := by decide +kernel
theorem d_ald_17 : decode jdk_38_method_25_code 17 = .ok (.getfield 48, 3) := by decide +kernel
theorem d_ald_20 : decode jdk_38_method_25_code 20 = .ok (.invokevirtual 131, 3) := by decide +kernel
theorem d_ald_23 : decode jdk_38_method_25_code 23 = .ok (.iconst 1, 1) := by decide +kernel
theorem d_ald_24 : decode jdk_38_method_25_code 24 = .ok (.ireturn, 1) := by decide +kernel
theorem pd_ald : parseMethodDescriptor "(Ljava/lang/Object;)Z" = some ⟨[(.object "java/lang/Object")], (some .boolean)⟩ := by decide +kernel
theorem pf_ald : plainFor (⟨"java/util/ArrayList", "add", "(Ljava/lang/Object;)Z"⟩ : MethodName) = true := by first | exact plainFor_of_name (by first | (simp [plainName, overriddenIn]; done) | decide +kernel) | decide +kernel
set_option maxRecDepth 65536 in
set_option maxHeartbeats 40000000 in
theorem kw_aldE (l : Launch) (Z : State) (a0 : Array Value) (hw : ∀ d ∈ tables_1, d.before a0 Z = true) (cs : Int32) (hcs : ¬ cs = 0) (SC : Sta Z Z.heap "java/lang/String" "COMPACT_STRINGS" "Z" (.int cs)) (hEW : EW Z a0 EL) (de : Addr) (ckd : ClassId) (SDE : Sta Z Z.heap "java/util/ArrayList" "DEFAULTCAPACITY_EMPTY_ELEMENTDATA" "[Ljava/lang/Object;" (.ref de)) (DE : Arv Z Z.heap de ckd (.object "java/lang/Object") 0 [] .null) (a x : Addr) (mc : Int32) (h0 : Heap) (n0 : Nat) (OD : Old Z n0 h0) (ga : n0 ≤ a) (LA : Al Z h0 n0 de a de mc []) (EX : Exa Z h0 x "com/example/roomwire/roomwire/qunar/XmlElement") : KW false l Z M_ald n0 (fun v h => v = some (.int 1) ∧ ∃ e, h0.size ≤ e ∧ n0 ≤ e ∧ Keep h0 h [a] ∧ Al Z h n0 de a e (mc + 1) [x]) ([], fun _ => False) h0 0 0 0 #[.val (.ref a), .val (.ref x)] [] := by
  obtain ⟨EA, FE, FS, FM, -, -⟩ := id LA
  have Z0 := OD.1 ▸ OD.2.1
  have K0 : Keep h0 h0 [a] := Keep.refl _ _
  have DEh := DE.ext OD.2
  refine k_aloadN d_ald_0 rfl rfl rfl ?_
  refine k_dup d_ald_1 rfl rfl ?_
  refine k_getField d_ald_2 rfl (hw _ (List.mem_of_getElem? (i := 295) rfl)) (Via.of (hw _ (List.mem_of_getElem? (i := 296) rfl))) FM ?_
  refine k_iconst (z := (1 : Int32)) d_ald_5 rfl (by decide) ?_
  refine k_iadd d_ald_6 rfl ?_
  refine k_put (v' := (.int (mc + (1 : Int32)))) (ty := .int) d_ald_7 rfl (hw _ (List.mem_of_getElem? (i := 295) rfl)) (Via.of (hw _ (List.mem_of_getElem? (i := 296) rfl))) FM EA (Or.inl (hw _ (List.mem_of_getElem? (i := 73) rfl))) (hw _ (List.mem_of_getElem? (i := 54) rfl)) (by decide) rfl rfl ga (fun q => by cases q) ?_
  intro h1 W2
  have F3 := FM.same W2
  show KW false l Z M_ald n0 (fun v h => v = some (.int 1) ∧ ∃ e, h0.size ≤ e ∧ n0 ≤ e ∧ Keep h0 h [a] ∧ Al Z h n0 de a e (mc + 1) [x]) ([], fun _ => False) h1 0 0 10 #[.val (.ref a), .val (.ref x)] []
  refine k_aloadN d_ald_10 rfl rfl rfl ?_
  refine k_aloadN d_ald_11 rfl rfl rfl ?_
  refine k_aloadN d_ald_12 rfl rfl rfl ?_
  have f4 := (FE.other W2 (Or.inr (slot_ne (t := (.array (.object "java/lang/Object"))) (t' := .int) (Or.inl (hw _ (List.mem_of_getElem? (i := 76) rfl))) (Or.inl (hw _ (List.mem_of_getElem? (i := 73) rfl))) (by decide) (by decide) (by decide))))
  refine k_getField d_ald_13 rfl (hw _ (List.mem_of_getElem? (i := 75) rfl)) Via.refl f4 ?_
  refine k_aloadN d_ald_16 rfl rfl rfl ?_
  have f5 := (FS.other W2 (Or.inr (slot_ne (t := .int) (t' := .int) (Or.inl (hw _ (List.mem_of_getElem? (i := 224) rfl))) (Or.inl (hw _ (List.mem_of_getElem? (i := 73) rfl))) (by decide) (by decide) (by decide))))
  refine k_getField d_ald_17 rfl (hw _ (List.mem_of_getElem? (i := 223) rfl)) Via.refl f5 ?_
  have f6 := (K0.wr W2 (Or.inl (by simp)))
  have f7 := (OD.wr W2 ga)
  have f8 := (EA.wr W2)
  have f9 := (EX.wr W2)
  refine k_callVirtual (argsL := [(.ref x), (.ref de), (.int (0 : Int32))]) (rest := []) (W0 := 0) d_ald_20 rfl (mt_alaE l Z a0 hw cs hcs SC hEW de ckd SDE DE a (mc + (1 : Int32)) h1 n0 f7 ga f8 f4 f5 F3 x f9) Kp.strict f8 (hw _ (List.mem_of_getElem? (i := 297) rfl)) (own_decl (hw _ (List.mem_of_getElem? (i := 298) rfl)) (hw _ (List.mem_of_getElem? (i := 301) rfl))) (hw _ (List.mem_of_getElem? (i := 300) rfl)) (hw _ (List.mem_of_getElem? (i := 217) rfl)) rfl (hw _ (List.mem_of_getElem? (i := 298) rfl)) (hw _ (List.mem_of_getElem? (i := 301) rfl)) (hw _ (List.mem_of_getElem? (i := 55) rfl)) (by decide) pd_ala rfl rfl rfl rfl (by decide) (by decide) (by decide) (by decide) ?_
  rintro _ hM - ⟨rfl, e, he, ge, KM, LM⟩
  refine KW.any (P' := ([], fun _ => False)) ?_
  show KW false l Z M_ald n0 (fun v h => v = some (.int 1) ∧ ∃ e, h0.size ≤ e ∧ n0 ≤ e ∧ Keep h0 h [a] ∧ Al Z h n0 de a e (mc + 1) [x]) ([], fun _ => False) hM 1 10 23 #[.val (.ref a), .val (.ref x)] []
  refine k_iconst (z := (1 : Int32)) d_ald_23 rfl (by decide) ?_
  have f10 := (f6.trans KM (allS (Or.inl (by simp)) all0))
  exact k_retNar d_ald_24 rfl (by simp) (z' := (1 : Int32)) (by decide) (by decide) (by decide) ⟨rfl, e, Nat.le_trans f6.1 he, ge, f10, LM⟩
theorem mt_aldE (l : Launch) (Z : State) (a0 : Array Value) (hw : ∀ d ∈ tables_1, d.before a0 Z = true) (cs : Int32) (hcs : ¬ cs = 0) (SC : Sta Z Z.heap "java/lang/String" "COMPACT_STRINGS" "Z" (.int cs)) (hEW : EW Z a0 EL) (de : Addr) (ckd : ClassId) (SDE : Sta Z Z.heap "java/util/ArrayList" "DEFAULTCAPACITY_EMPTY_ELEMENTDATA" "[Ljava/lang/Object;" (.ref de)) (DE : Arv Z Z.heap de ckd (.object "java/lang/Object") 0 [] .null) (a x : Addr) (mc : Int32) (h0 : Heap) (n0 : Nat) (OD : Old Z n0 h0) (ga : n0 ≤ a) (LA : Al Z h0 n0 de a de mc []) (EX : Exa Z h0 x "com/example/roomwire/roomwire/qunar/XmlElement") : Mt l Z M_ald [] n0 #[(.ref a), (.ref x)] h0 (fun v h => v = some (.int 1) ∧ ∃ e, h0.size ≤ e ∧ n0 ≤ e ∧ Keep h0 h [a] ∧ Al Z h n0 de a e (mc + 1) [x]) :=
  mt_of_kw (P := ([], fun _ => False)) pf_ald (fun m => by first | (simp [entryFrame, mkF, argsToLocals, Value.category]; done) | rfl) (kw_aldE l Z a0 hw cs hcs SC hEW de ckd SDE DE a x mc h0 n0 OD ga LA EX)
set_option maxRecDepth 65536 in
set_option maxHeartbeats 40000000 in
theorem kw_aldN (l : Launch) (Z : State) (a0 : Array Value) (hw : ∀ d ∈ tables_1, d.before a0 Z = true) (cs : Int32) (hcs : ¬ cs = 0) (SC : Sta Z Z.heap "java/lang/String" "COMPACT_STRINGS" "Z" (.int cs)) (hEW : EW Z a0 EL) (de a ed x : Addr) (mc : Int32) (vs : List Addr) (h0 : Heap) (n0 : Nat) (OD : Old Z n0 h0) (ga : n0 ≤ a) (LA : Al Z h0 n0 de a ed mc vs) (hvs : vs ≠ []) (hlt : vs.length < 10) (EX : Exa Z h0 x "com/example/roomwire/roomwire/qunar/XmlElement") : KW false l Z M_ald n0 (fun v h => v = some (.int 1) ∧ Keep h0 h [a, ed] ∧ Al Z h n0 de a ed (mc + 1) (vs ++ [x])) ([], fun _ => False) h0 0 0 0 #[.val (.ref a), .val (.ref x)] [] := by
  obtain ⟨EA, FE, FS, FM, hle, hsh⟩ := id LA
  obtain ⟨ge, hae, ck, ys, OV, AV, hln⟩ := hsh.resolve_left (fun q => hvs q.1)
  have Z0 := OD.1 ▸ OD.2.1
  have K0 : Keep h0 h0 [a, ed] := Keep.refl _ _
  refine k_aloadN d_ald_0 rfl rfl rfl ?_
  refine k_dup d_ald_1 rfl rfl ?_
  refine k_getField d_ald_2 rfl (hw _ (List.mem_of_getElem? (i := 295) rfl)) (Via.of (hw _ (List.mem_of_getElem? (i := 296) rfl))) FM ?_
  refine k_iconst (z := (1 : Int32)) d_ald_5 rfl (by decide) ?_
  refine k_iadd d_ald_6 rfl ?_
  refine k_put (v' := (.int (mc + (1 : Int32)))) (ty := .int) d_ald_7 rfl (hw _ (List.mem_of_getElem? (i := 295) rfl)) (Via.of (hw _ (List.mem_of_getElem? (i := 296) rfl))) FM EA (Or.inl (hw _ (List.mem_of_getElem? (i := 73) rfl))) (hw _ (List.mem_of_getElem? (i := 54) rfl)) (by decide) rfl rfl ga (fun q => by cases q) ?_
  intro h11 W12
  have F13 := FM.same W12
  show KW false l Z M_ald n0 (fun v h => v = some (.int 1) ∧ Keep h0 h [a, ed] ∧ Al Z h n0 de a ed (mc + 1) (vs ++ [x])) ([], fun _ => False) h11 0 0 10 #[.val (.ref a), .val (.ref x)] []
  refine k_aloadN d_ald_10 rfl rfl rfl ?_
  refine k_aloadN d_ald_11 rfl rfl rfl ?_
  refine k_aloadN d_ald_12 rfl rfl rfl ?_
  have f14 := (FE.other W12 (Or.inr (slot_ne (t := (.array (.object "java/lang/Object"))) (t' := .int) (Or.inl (hw _ (List.mem_of_getElem? (i := 76) rfl))) (Or.inl (hw _ (List.mem_of_getElem? (i := 73) rfl))) (by decide) (by decide) (by decide))))
  refine k_getField d_ald_13 rfl (hw _ (List.mem_of_getElem? (i := 75) rfl)) Via.refl f14 ?_
  refine k_aloadN d_ald_16 rfl rfl rfl ?_
  have f15 := (FS.other W12 (Or.inr (slot_ne (t := .int) (t' := .int) (Or.inl (hw _ (List.mem_of_getElem? (i := 224) rfl))) (Or.inl (hw _ (List.mem_of_getElem? (i := 73) rfl))) (by decide) (by decide) (by decide))))
  refine k_getField d_ald_17 rfl (hw _ (List.mem_of_getElem? (i := 223) rfl)) Via.refl f15 ?_
  have f16 := (OD.wr W12 ga)
  have f17 := (EA.wr W12)
  have f18 := (AV.other W12 (Ne.symm hae))
  have f19 := (EX.wr W12)
  have f20 := (K0.wr W12 (Or.inl (by simp)))
  have LN : Al Z h11 n0 de a ed (mc + (1 : Int32)) vs := ⟨f17, f14, f15, F13, hle, Or.inr ⟨ge, hae, ck, ys, OV, f18, hln⟩⟩
  refine k_callVirtual (argsL := [(.ref x), (.ref ed), (.int (Int32.ofNat vs.length))]) (rest := []) (W0 := 0) d_ald_20 rfl (mt_alaN l Z a0 hw cs hcs SC hEW de a ed x (mc + (1 : Int32)) vs h11 n0 f16 ga LN hvs hlt f19) Kp.strict f17 (hw _ (List.mem_of_getElem? (i := 297) rfl)) (own_decl (hw _ (List.mem_of_getElem? (i := 298) rfl)) (hw _ (List.mem_of_getElem? (i := 301) rfl))) (hw _ (List.mem_of_getElem? (i := 300) rfl)) (hw _ (List.mem_of_getElem? (i := 217) rfl)) rfl (hw _ (List.mem_of_getElem? (i := 298) rfl)) (hw _ (List.mem_of_getElem? (i := 301) rfl)) (hw _ (List.mem_of_getElem? (i := 55) rfl)) (by decide) pd_ala rfl rfl rfl rfl (by decide) (by decide) (by decide) (by decide) ?_
  rintro _ hM - ⟨rfl, KM, LM⟩
  refine KW.any (P' := ([], fun _ => False)) ?_
  show KW false l Z M_ald n0 (fun v h => v = some (.int 1) ∧ Keep h0 h [a, ed] ∧ Al Z h n0 de a ed (mc + 1) (vs ++ [x])) ([], fun _ => False) hM 1 10 23 #[.val (.ref a), .val (.ref x)] []
  refine k_iconst (z := (1 : Int32)) d_ald_23 rfl (by decide) ?_
  have f21 := (f20.trans KM (allS (Or.inl (by simp)) (allS (Or.inl (by simp)) all0)))
  exact k_retNar d_ald_24 rfl (by simp) (z' := (1 : Int32)) (by decide) (by decide) (by decide) ⟨rfl, f21, LM⟩
theorem mt_aldN (l : Launch) (Z : State) (a0 : Array Value) (hw : ∀ d ∈ tables_1, d.before a0 Z = true) (cs : Int32) (hcs : ¬ cs = 0) (SC : Sta Z Z.heap "java/lang/String" "COMPACT_STRINGS" "Z" (.int cs)) (hEW : EW Z a0 EL) (de a ed x : Addr) (mc : Int32) (vs : List Addr) (h0 : Heap) (n0 : Nat) (OD : Old Z n0 h0) (ga : n0 ≤ a) (LA : Al Z h0 n0 de a ed mc vs) (hvs : vs ≠ []) (hlt : vs.length < 10) (EX : Exa Z h0 x "com/example/roomwire/roomwire/qunar/XmlElement") : Mt l Z M_ald [] n0 #[(.ref a), (.ref x)] h0 (fun v h => v = some (.int 1) ∧ Keep h0 h [a, ed] ∧ Al Z h n0 de a ed (mc + 1) (vs ++ [x])) :=
  mt_of_kw (P := ([], fun _ => False)) pf_ald (fun m => by first | (simp [entryFrame, mkF, argsToLocals, Value.category]; done) | rfl) (kw_aldN l Z a0 hw cs hcs SC hEW de a ed x mc vs h0 n0 OD ga LA hvs hlt EX)
def It (Z : State) (h : Heap) (i a : Addr) (k : Nat) (mc : Int32) : Prop := Exa Z h i "java/util/ArrayList$Itr" ∧ Fld Z h i "java/util/ArrayList$Itr" "this$0" "Ljava/util/ArrayList;" (.ref a) ∧ Fld Z h i "java/util/ArrayList$Itr" "cursor" "I" (.int (Int32.ofNat k)) ∧ (∃ lr : Int32, Fld Z h i "java/util/ArrayList$Itr" "lastRet" "I" (.int lr)) ∧ Fld Z h i "java/util/ArrayList$Itr" "expectedModCount" "I" (.int mc)
theorem It.keep {Z : State} {h h' : Heap} {i a : Addr} {k : Nat} {mc : Int32} {ws : List Addr} (A : It Z h i a k mc) (K : Keep h h' ws) (q : i ∉ ws) : It Z h' i a k mc := by
  obtain ⟨a1, a2, a3, ⟨lr, a4⟩, a5⟩ := A
  exact ⟨a1.keep K, a2.keep K q, a3.keep K q, ⟨lr, a4.keep K q⟩, a5.keep K q⟩
abbrev M_itn : MD := ((⟨"java/util/ArrayList$Itr", "<init>", "(Ljava/util/ArrayList;)V"⟩ : MethodName), jdk_49_method_1_code, 2, none, { frames := 1, cells := 0, slots := 0, locals := 12 })
theorem d_itn_0 : decode jdk_49_method_1_code 0 = .ok (.aload_n 0, 1) := by decide +kernel
theorem d_itn_1 : decode jdk_49_method_1_code 1 = .ok (.aload_n 1, 1) := by decide +kernel
theorem d_itn_2 : decode jdk_49_method_1_code 2 = .ok (.putfield 1, 3) := by decide +kernel
theorem d_itn_5 : decode jdk_49_method_1_code 5 = .ok (.aload_n 0, 1) := by decide +kernel
theorem d_itn_6 : decode jdk_49_method_1_code 6 = .ok (.invokespecial 7, 3) := by decide +kernel
theorem d_itn_9 : decode jdk_49_method_1_code 9 = .ok (.aload_n 0, 1) := by decide +kernel
theorem d_itn_10 : decode jdk_49_method_1_code 10 = .ok (.iconst (-1), 1) := by decide +kernel
theorem d_itn_11 : decode jdk_49_method_1_code 11 = .ok (.putfield 13, 3) := by decide +kernel
theorem d_itn_14 : decode jdk_49_method_1_code 14 = .ok (.aload_n 0, 1) := by decide +kernel
theorem d_itn_15 : decode jdk_49_method_1_code 15 = .ok (.aload_n 0, 1) := by decide +kernel
theorem d_itn_16 : decode jdk_49_method_1_code 16 = .ok (.getfield 1, 3) := by decide +kernel
theorem d_itn_19 : decode jdk_49_method_1_code 19 = .ok (.getfield 17, 3) := by decide +kernel
theorem d_itn_22 : decode jdk_49_method_1_code 22 = .ok (.putfield 22, 3) := by decide +kernel
theorem d_itn_25 : decode jdk_49_method_1_code 25 = .ok (.return_, 1) := by decide +kernel
theorem pd_itn : parseMethodDescriptor "(Ljava/util/ArrayList;)V" = some ⟨[(.object "java/util/ArrayList")], none⟩ := by decide +kernel
theorem pf_itn : plainFor (⟨"java/util/ArrayList$Itr", "<init>", "(Ljava/util/ArrayList;)V"⟩ : MethodName) = true := by first | exact plainFor_of_name (by first | (simp [plainName, overriddenIn]; done) | decide +kernel) | decide +kernel
set_option maxRecDepth 65536 in
set_option maxHeartbeats 40000000 in
theorem kw_itn (l : Launch) (Z : State) (a0 : Array Value) (hw : ∀ d ∈ tables_1, d.before a0 Z = true) (cs : Int32) (hcs : ¬ cs = 0) (SC : Sta Z Z.heap "java/lang/String" "COMPACT_STRINGS" "Z" (.int cs)) (hEW : EW Z a0 EL) (i a : Addr) (mc : Int32) (h0 : Heap) (n0 : Nat) (gi : n0 ≤ i) (hai : a ≠ i) (FM : Fld Z h0 a "java/util/AbstractList" "modCount" "I" (.int mc)) (EI : Exa Z h0 i "java/util/ArrayList$Itr") (GI1 : Fld Z h0 i "java/util/ArrayList$Itr" "this$0" "Ljava/util/ArrayList;" .null) (GI2 : Fld Z h0 i "java/util/ArrayList$Itr" "cursor" "I" (.int 0)) (GI3 : Fld Z h0 i "java/util/ArrayList$Itr" "lastRet" "I" (.int 0)) (GI4 : Fld Z h0 i "java/util/ArrayList$Itr" "expectedModCount" "I" (.int 0)) : KW false l Z M_itn n0 (fun v h => v = none ∧ Keep h0 h [i] ∧ It Z h i a 0 mc) ([], fun _ => False) h0 0 0 0 #[.val (.ref i), .val (.ref a)] [] := by
  have K0 : Keep h0 h0 [i] := Keep.refl _ _
  refine k_aloadN d_itn_0 rfl rfl rfl ?_
  refine k_aloadN d_itn_1 rfl rfl rfl ?_
  refine k_put (v' := (.ref a)) (ty := (.object "java/util/ArrayList")) d_itn_2 rfl (hw _ (List.mem_of_getElem? (i := 333) rfl)) Via.refl GI1 EI (Or.inr ⟨(hw _ (List.mem_of_getElem? (i := 334) rfl)), rfl, rfl⟩) (hw _ (List.mem_of_getElem? (i := 327) rfl)) (by decide) rfl rfl gi (fun q => by cases q) ?_
  intro h1 W2
  have F3 := GI1.same W2
  show KW false l Z M_itn n0 (fun v h => v = none ∧ Keep h0 h [i] ∧ It Z h i a 0 mc) ([], fun _ => False) h1 0 0 5 #[.val (.ref i), .val (.ref a)] []
  refine k_aloadN d_itn_5 rfl rfl rfl ?_
  refine k_initObj (W0 := 0) d_itn_6 rfl (hw _ (List.mem_of_getElem? (i := 335) rfl)) (hw _ (List.mem_of_getElem? (i := 23) rfl)) (hw _ (List.mem_of_getElem? (i := 24) rfl)) rfl rfl (by decide) (by decide) ?_
  refine k_aloadN d_itn_9 rfl rfl rfl ?_
  refine k_iconst (z := (-1 : Int32)) d_itn_10 rfl (by decide) ?_
  have f6 := (GI3.other W2 (Or.inr (slot_ne (t := .int) (t' := (.object "java/util/ArrayList")) (Or.inl (hw _ (List.mem_of_getElem? (i := 337) rfl))) (Or.inr (hw _ (List.mem_of_getElem? (i := 334) rfl))) (by decide) (by decide) (by decide))))
  have f7 := (EI.wr W2)
  refine k_put (v' := (.int (-1 : Int32))) (ty := .int) d_itn_11 rfl (hw _ (List.mem_of_getElem? (i := 336) rfl)) Via.refl f6 f7 (Or.inl (hw _ (List.mem_of_getElem? (i := 337) rfl))) (hw _ (List.mem_of_getElem? (i := 327) rfl)) (by decide) rfl rfl gi (fun q => by cases q) ?_
  intro h4 W5
  have F8 := f6.same W5
  show KW false l Z M_itn n0 (fun v h => v = none ∧ Keep h0 h [i] ∧ It Z h i a 0 mc) ([], fun _ => False) h4 0 0 14 #[.val (.ref i), .val (.ref a)] []
  refine k_aloadN d_itn_14 rfl rfl rfl ?_
  refine k_aloadN d_itn_15 rfl rfl rfl ?_
  have f9 := (F3.other W5 (Or.inr (slot_ne (t := (.object "java/util/ArrayList")) (t' := .int) (Or.inr (hw _ (List.mem_of_getElem? (i := 334) rfl))) (Or.inl (hw _ (List.mem_of_getElem? (i := 337) rfl))) (by decide) (by decide) (by decide))))
  refine k_getField d_itn_16 rfl (hw _ (List.mem_of_getElem? (i := 333) rfl)) Via.refl f9 ?_
  have f10 := ((FM.other W2 (Or.inl hai)).other W5 (Or.inl hai))
  refine k_getField d_itn_19 rfl (hw _ (List.mem_of_getElem? (i := 338) rfl)) (Via.of (hw _ (List.mem_of_getElem? (i := 296) rfl))) f10 ?_
  have f13 := ((GI4.other W2 (Or.inr (slot_ne (t := .int) (t' := (.object "java/util/ArrayList")) (Or.inl (hw _ (List.mem_of_getElem? (i := 340) rfl))) (Or.inr (hw _ (List.mem_of_getElem? (i := 334) rfl))) (by decide) (by decide) (by decide)))).other W5 (Or.inr (slot_ne (t := .int) (t' := .int) (Or.inl (hw _ (List.mem_of_getElem? (i := 340) rfl))) (Or.inl (hw _ (List.mem_of_getElem? (i := 337) rfl))) (by decide) (by decide) (by decide))))
  have f14 := (f7.wr W5)
  refine k_put (v' := (.int mc)) (ty := .int) d_itn_22 rfl (hw _ (List.mem_of_getElem? (i := 339) rfl)) Via.refl f13 f14 (Or.inl (hw _ (List.mem_of_getElem? (i := 340) rfl))) (hw _ (List.mem_of_getElem? (i := 327) rfl)) (by decide) rfl rfl gi (fun q => by cases q) ?_
  intro h11 W12
  have F15 := f13.same W12
  show KW false l Z M_itn n0 (fun v h => v = none ∧ Keep h0 h [i] ∧ It Z h i a 0 mc) ([], fun _ => False) h11 0 0 25 #[.val (.ref i), .val (.ref a)] []
  have f16 := (((K0.wr W2 (Or.inl (by simp))).wr W5 (Or.inl (by simp))).wr W12 (Or.inl (by simp)))
  have f17 := (f14.wr W12)
  have f18 := (f9.other W12 (Or.inr (slot_ne (t := (.object "java/util/ArrayList")) (t' := .int) (Or.inr (hw _ (List.mem_of_getElem? (i := 334) rfl))) (Or.inl (hw _ (List.mem_of_getElem? (i := 340) rfl))) (by decide) (by decide) (by decide))))
  have f19 := (((GI2.other W2 (Or.inr (slot_ne (t := .int) (t' := (.object "java/util/ArrayList")) (Or.inl (hw _ (List.mem_of_getElem? (i := 351) rfl))) (Or.inr (hw _ (List.mem_of_getElem? (i := 334) rfl))) (by decide) (by decide) (by decide)))).other W5 (Or.inr (slot_ne (t := .int) (t' := .int) (Or.inl (hw _ (List.mem_of_getElem? (i := 351) rfl))) (Or.inl (hw _ (List.mem_of_getElem? (i := 337) rfl))) (by decide) (by decide) (by decide)))).other W12 (Or.inr (slot_ne (t := .int) (t' := .int) (Or.inl (hw _ (List.mem_of_getElem? (i := 351) rfl))) (Or.inl (hw _ (List.mem_of_getElem? (i := 340) rfl))) (by decide) (by decide) (by decide))))
  have f20 := (F8.other W12 (Or.inr (slot_ne (t := .int) (t' := .int) (Or.inl (hw _ (List.mem_of_getElem? (i := 337) rfl))) (Or.inl (hw _ (List.mem_of_getElem? (i := 340) rfl))) (by decide) (by decide) (by decide))))
  exact k_retVoid d_itn_25 rfl (by decide) (by decide) ⟨rfl, f16, ⟨f17, f18, f19, ⟨_, f20⟩, F15⟩⟩
theorem mt_itn (l : Launch) (Z : State) (a0 : Array Value) (hw : ∀ d ∈ tables_1, d.before a0 Z = true) (cs : Int32) (hcs : ¬ cs = 0) (SC : Sta Z Z.heap "java/lang/String" "COMPACT_STRINGS" "Z" (.int cs)) (hEW : EW Z a0 EL) (i a : Addr) (mc : Int32) (h0 : Heap) (n0 : Nat) (gi : n0 ≤ i) (hai : a ≠ i) (FM : Fld Z h0 a "java/util/AbstractList" "modCount" "I" (.int mc)) (EI : Exa Z h0 i "java/util/ArrayList$Itr") (GI1 : Fld Z h0 i "java/util/ArrayList$Itr" "this$0" "Ljava/util/ArrayList;" .null) (GI2 : Fld Z h0 i "java/util/ArrayList$Itr" "cursor" "I" (.int 0)) (GI3 : Fld Z h0 i "java/util/ArrayList$Itr" "lastRet" "I" (.int 0)) (GI4 : Fld Z h0 i "java/util/ArrayList$Itr" "expectedModCount" "I" (.int 0)) : Mt l Z M_itn [] n0 #[(.ref i), (.ref a)] h0 (fun v h => v = none ∧ Keep h0 h [i] ∧ It Z h i a 0 mc) :=
  mt_of_kw (P := ([], fun _ => False)) pf_itn (fun m => by first | (simp [entryFrame, mkF, argsToLocals, Value.category]; done) | rfl) (kw_itn l Z a0 hw cs hcs SC hEW i a mc h0 n0 gi hai FM EI GI1 GI2 GI3 GI4)
abbrev M_itr : MD := ((⟨"java/util/ArrayList", "iterator", "()Ljava/util/Iterator;"⟩ : MethodName), jdk_38_method_55_code, 1, (some (.object "java/util/Iterator")), { frames := 2, cells := 1, slots := 4, locals := 28 })
theorem d_itr_0 : decode jdk_38_method_55_code 0 = .ok (.new 267, 3) := by decide +kernel
theorem d_itr_3 : decode jdk_38_method_55_code 3 = .ok (.dup, 1) := by decide +kernel
theorem d_itr_4 : decode jdk_38_method_55_code 4 = .ok (.aload_n 0, 1) := by decide +kernel
theorem d_itr_5 : decode jdk_38_method_55_code 5 = .ok (.invokespecial 269, 3) := by decide +kernel
theorem d_itr_8 : decode jdk_38_method_55_code 8 = .ok (.areturn, 1) := by decide +kernel
theorem pd_itr : parseMethodDescriptor "()Ljava/util/Iterator;" = some ⟨[], (some (.object "java/util/Iterator"))⟩ := by decide +kernel
theorem pf_itr : plainFor (⟨"java/util/ArrayList", "iterator", "()Ljava/util/Iterator;"⟩ : MethodName) = true := by first | exact plainFor_of_name (by first | (simp [plainName, overriddenIn]; done) | decide +kernel) | decide +kernel
set_option maxRecDepth 65536 in
set_option maxHeartbeats 40000000 in
theorem kw_itr (l : Launch) (Z : State) (a0 : Array Value) (hw : ∀ d ∈ tables_1, d.before a0 Z = true) (cs : Int32) (hcs : ¬ cs = 0) (SC : Sta Z Z.heap "java/lang/String" "COMPACT_STRINGS" "Z" (.int cs)) (hEW : EW Z a0 EL) (de a ed : Addr) (mc : Int32) (vs : List Addr) (h0 : Heap) (n0 : Nat) (OD : Old Z n0 h0) (LA : Al Z h0 n0 de a ed mc vs) : KW false l Z M_itr n0 (fun v h => ∃ i, v = some (.ref i) ∧ h0.size ≤ i ∧ n0 ≤ i ∧ Keep h0 h [] ∧ It Z h i a 0 mc) ([], fun _ => False) h0 0 0 0 #[.val (.ref a)] [] := by
  obtain ⟨EA, FE, FS, FM, hle, hsh⟩ := id LA
  have Z0 := OD.1 ▸ OD.2.1
  have K0 : Keep h0 h0 [] := Keep.refl _ _
  refine k_new d_itr_0 rfl (hw _ (List.mem_of_getElem? (i := 326) rfl)) (hw _ (List.mem_of_getElem? (i := 327) rfl)) (hw _ (List.mem_of_getElem? (i := 328) rfl)) (by decide) (by decide) ?_
  intro h2 a1 g6 E3 A4 D5
  have ne7 : a ≠ a1 := Nat.ne_of_lt (Nat.lt_of_lt_of_eq EA.lt g6.symm)
  have z8 : n0 ≤ h0.size := Z0
  have ge9 : n0 ≤ a1 := Nat.le_trans z8 (Nat.le_of_eq g6.symm)
  have gl10 : h0.size ≤ a1 := Nat.le_of_eq g6.symm
  have gh11 := Nat.le_trans K0.1 gl10
  have F12 : Fld Z h2 a1 "java/util/ArrayList$Itr" "this$0" "Ljava/util/ArrayList;" .null := D5 (Or.inr (hw _ (List.mem_of_getElem? (i := 334) rfl))) (ty := (.object "java/util/ArrayList")) (by decide)
  have F13 : Fld Z h2 a1 "java/util/ArrayList$Itr" "lastRet" "I" (.int (0 : Int32)) := D5 (Or.inl (hw _ (List.mem_of_getElem? (i := 337) rfl))) (ty := .int) (by decide)
  have F14 : Fld Z h2 a1 "java/util/ArrayList$Itr" "expectedModCount" "I" (.int (0 : Int32)) := D5 (Or.inl (hw _ (List.mem_of_getElem? (i := 340) rfl))) (ty := .int) (by decide)
  have F15 : Fld Z h2 a1 "java/util/ArrayList$Itr" "cursor" "I" (.int (0 : Int32)) := D5 (Or.inl (hw _ (List.mem_of_getElem? (i := 351) rfl))) (ty := .int) (by decide)
  refine KW.any (P' := ([], fun _ => False)) ?_
  show KW false l Z M_itr n0 (fun v h => ∃ i, v = some (.ref i) ∧ h0.size ≤ i ∧ n0 ≤ i ∧ Keep h0 h [] ∧ It Z h i a 0 mc) ([], fun _ => False) h2 1 4 3 #[.val (.ref a)] [(.ref a1)]
  refine k_dup d_itr_3 rfl rfl ?_
  refine k_aloadN d_itr_4 rfl rfl rfl ?_
  have f16 := (K0.ext E3)
  have f17 := (FM.ext E3)
  refine k_callInit (a := a1) (argsL := [(.ref a)]) (rest := [(.ref a1)]) (W0 := 1) d_itr_5 rfl (mt_itn l Z a0 hw cs hcs SC hEW a1 a mc h2 n0 ge9 ne7 f17 A4 F12 F15 F13 F14) Kp.strict rfl rfl (hw _ (List.mem_of_getElem? (i := 329) rfl)) (hw _ (List.mem_of_getElem? (i := 330) rfl)) (hw _ (List.mem_of_getElem? (i := 328) rfl)) (hw _ (List.mem_of_getElem? (i := 332) rfl)) (by decide) pd_itn rfl rfl rfl rfl (by decide) (by decide) (by decide) (by decide) ?_
  rintro _ hM - ⟨rfl, KM, IM⟩
  refine KW.any (P' := ([], fun _ => False)) ?_
  show KW false l Z M_itr n0 (fun v h => ∃ i, v = some (.ref i) ∧ h0.size ≤ i ∧ n0 ≤ i ∧ Keep h0 h [] ∧ It Z h i a 0 mc) ([], fun _ => False) hM 1 4 8 #[.val (.ref a)] [(.ref a1)]
  have f18 := (f16.trans KM (allS (Or.inr gh11) all0))
  exact k_retRef d_itr_8 rfl rfl rfl (by decide) (by decide) ⟨a1, rfl, gh11, ge9, f18, IM⟩
theorem mt_itr (l : Launch) (Z : State) (a0 : Array Value) (hw : ∀ d ∈ tables_1, d.before a0 Z = true) (cs : Int32) (hcs : ¬ cs = 0) (SC : Sta Z Z.heap "java/lang/String" "COMPACT_STRINGS" "Z" (.int cs)) (hEW : EW Z a0 EL) (de a ed : Addr) (mc : Int32) (vs : List Addr) (h0 : Heap) (n0 : Nat) (OD : Old Z n0 h0) (LA : Al Z h0 n0 de a ed mc vs) : Mt l Z M_itr [] n0 #[(.ref a)] h0 (fun v h => ∃ i, v = some (.ref i) ∧ h0.size ≤ i ∧ n0 ≤ i ∧ Keep h0 h [] ∧ It Z h i a 0 mc) :=
  mt_of_kw (P := ([], fun _ => False)) pf_itr (fun m => by first | (simp [entryFrame, mkF, argsToLocals, Value.category]; done) | rfl) (kw_itr l Z a0 hw cs hcs SC hEW de a ed mc vs h0 n0 OD LA)
abbrev M_itx : MD := ((⟨"java/util/ArrayList$Itr", "hasNext", "()Z"⟩ : MethodName), jdk_49_method_2_code, 1, (some .boolean), { frames := 0, cells := 0, slots := 0, locals := 0 })
theorem d_itx_0 : decode jdk_49_method_2_code 0 = .ok (.aload_n 0, 1) := by decide +kernel
theorem d_itx_1 : decode jdk_49_method_2_code 1 = .ok (.getfield 25, 3) := by decide +kernel
theorem d_itx_4 : decode jdk_49_method_2_code 4 = .ok (.aload_n 0, 1) := by decide +kernel
theorem d_itx_5 : decode jdk_49_method_2_code 5 = .ok (.getfield 1, 3) := by decide +kernel
theorem d_itx_8 : decode jdk_49_method_2_code 8 = .ok (.getfield 28, 3) := by decide +kernel
theorem d_itx_11 : decode jdk_49_method_2_code 11 = .ok (.if_icmp .eq 7, 3) := by decide +kernel
theorem d_itx_14 : decode jdk_49_method_2_code 14 = .ok (.iconst 1, 1) := by decide +kernel
theorem d_itx_15 : decode jdk_49_method_2_code 15 = .ok (.goto 4, 3) := by decide +kernel
theorem d_itx_18 : decode jdk_49_method_2_code 18 = .ok (.iconst 0, 1) := by decide +kernel
theorem d_itx_19 : decode jdk_49_method_2_code 19 = .ok (.ireturn, 1) := by decide +kernel
theorem pd_itx : parseMethodDescriptor "()Z" = some ⟨[], (some .boolean)⟩ := by decide +kernel
theorem pf_itx : plainFor (⟨"java/util/ArrayList$Itr", "hasNext", "()Z"⟩ : MethodName) = true := by first | exact plainFor_of_name (by first | (simp [plainName, overriddenIn]; done) | decide +kernel) | decide +kernel
set_option maxRecDepth 65536 in
set_option maxHeartbeats 40000000 in
theorem kw_itx (l : Launch) (Z : State) (a0 : Array Value) (hw : ∀ d ∈ tables_1, d.before a0 Z = true) (cs : Int32) (hcs : ¬ cs = 0) (SC : Sta Z Z.heap "java/lang/String" "COMPACT_STRINGS" "Z" (.int cs)) (hEW : EW Z a0 EL) (i de a ed : Addr) (k : Nat) (mc : Int32) (vs : List Addr) (h0 : Heap) (n0 : Nat) (LA : Al Z h0 n0 de a ed mc vs) (II : It Z h0 i a k mc) (hk : k ≤ vs.length) : KW false l Z M_itx n0 (fun v h => v = some (.int (if k = vs.length then 0 else 1)) ∧ h0 = h) ([], fun _ => False) h0 0 0 0 #[.val (.ref i)] [] := by
  obtain ⟨EA, FE, FS, FM, hle, hsh⟩ := id LA
  obtain ⟨EI, FI1, FI2, ⟨lr, FI3⟩, FI4⟩ := id II
  have K0 : Keep h0 h0 [i] := Keep.refl _ _
  refine k_aloadN d_itx_0 rfl rfl rfl ?_
  refine k_getField d_itx_1 rfl (hw _ (List.mem_of_getElem? (i := 350) rfl)) Via.refl FI2 ?_
  refine k_aloadN d_itx_4 rfl rfl rfl ?_
  refine k_getField d_itx_5 rfl (hw _ (List.mem_of_getElem? (i := 333) rfl)) Via.refl FI1 ?_
  refine k_getFieldN d_itx_8 rfl (hw _ (List.mem_of_getElem? (i := 352) rfl)) Via.refl FS ?_
  refine k_icmp (pc1 := 18) (pc' := 14) d_itx_11 (by decide) (by decide) rfl (fun (cd1 : (Int32.ofNat k) = (Int32.ofNat vs.length)) => ?_) (fun (cd1 : ¬ (Int32.ofNat k) = (Int32.ofNat vs.length)) => ?_)
  · skip
    refine k_iconst (z := (0 : Int32)) d_itx_18 rfl (by decide) ?_
    exact k_retNar d_itx_19 rfl (by simp) (z' := (0 : Int32)) (by decide) (by decide) (by decide) ⟨congrArg (fun z => some (Value.int z)) (by first | exact (if_pos (Classical.byContradiction fun q => ix_ne (by omega) (by omega) q (by assumption))).symm | exact (if_neg (fun q => by subst q; contradiction)).symm), rfl⟩
  · skip
    refine k_iconst (z := (1 : Int32)) d_itx_14 rfl (by decide) ?_
    refine k_goto (pc' := 19) d_itx_15 (by decide) (by decide) ?_
    exact k_retNar d_itx_19 rfl (by simp) (z' := (1 : Int32)) (by decide) (by decide) (by decide) ⟨congrArg (fun z => some (Value.int z)) (by first | exact (if_pos (Classical.byContradiction fun q => ix_ne (by omega) (by omega) q (by assumption))).symm | exact (if_neg (fun q => by subst q; contradiction)).symm), rfl⟩
theorem mt_itx (l : Launch) (Z : State) (a0 : Array Value) (hw : ∀ d ∈ tables_1, d.before a0 Z = true) (cs : Int32) (hcs : ¬ cs = 0) (SC : Sta Z Z.heap "java/lang/String" "COMPACT_STRINGS" "Z" (.int cs)) (hEW : EW Z a0 EL) (i de a ed : Addr) (k : Nat) (mc : Int32) (vs : List Addr) (h0 : Heap) (n0 : Nat) (LA : Al Z h0 n0 de a ed mc vs) (II : It Z h0 i a k mc) (hk : k ≤ vs.length) : Mt l Z M_itx [] n0 #[(.ref i)] h0 (fun v h => v = some (.int (if k = vs.length then 0 else 1)) ∧ h0 = h) :=
  mt_of_kw (P := ([], fun _ => False)) pf_itx (fun m => by first | (simp [entryFrame, mkF, argsToLocals, Value.category]; done) | rfl) (kw_itx l Z a0 hw cs hcs SC hEW i de a ed k mc vs h0 n0 LA II hk)
abbrev M_itc : MD := ((⟨"java/util/ArrayList$Itr", "checkForComodification", "()V"⟩ : MethodName), jdk_49_method_6_code, 1, none, { frames := 0, cells := 0, slots := 0, locals := 0 })
theorem d_itc_0 : decode jdk_49_method_6_code 0 = .ok (.aload_n 0, 1) := by decide +kernel
theorem d_itc_1 : decode jdk_49_method_6_code 1 = .ok (.getfield 1, 3) := by decide +kernel
theorem d_itc_4 : decode jdk_49_method_6_code 4 = .ok (.getfield 17, 3) := by decide +kernel
theorem d_itc_7 : decode jdk_49_method_6_code 7 = .ok (.aload_n 0, 1) := by decide +kernel
theorem d_itc_8 : decode jdk_49_method_6_code 8 = .ok (.getfield 22, 3) := by decide +kernel
theorem d_itc_11 : decode jdk_49_method_6_code 11 = .ok (.if_icmp .eq 11, 3) := by decide +kernel
theorem d_itc_14 : decode jdk_49_method_6_code 14 = .ok (.new 41, 3) := by decide +kernel
theorem d_itc_17 : decode jdk_49_method_6_code 17 = .ok (.dup, 1) := by decide +kernel
theorem d_itc_18 : decode jdk_49_method_6_code 18 = .ok (.invokespecial 43, 3) := by decide +kernel
theorem d_itc_21 : decode jdk_49_method_6_code 21 = .ok (.athrow, 1) := by decide +kernel
theorem d_itc_22 : decode jdk_49_method_6_code 22 = .ok (.return_, 1) := by decide +kernel
theorem pd_itc : parseMethodDescriptor "()V" = some ⟨[], none⟩ := by decide +kernel
theorem pf_itc : plainFor (⟨"java/util/ArrayList$Itr", "checkForComodification", "()V"⟩ : MethodName) = true := by first | exact plainFor_of_name (by first | (simp [plainName, overriddenIn]; done) | decide +kernel) | decide +kernel
set_option maxRecDepth 65536 in
set_option maxHeartbeats 40000000 in
theorem kw_itc (l : Launch) (Z : State) (a0 : Array Value) (hw : ∀ d ∈ tables_1, d.before a0 Z = true) (cs : Int32) (hcs : ¬ cs = 0) (SC : Sta Z Z.heap "java/lang/String" "COMPACT_STRINGS" "Z" (.int cs)) (hEW : EW Z a0 EL) (i de a ed : Addr) (k : Nat) (mc : Int32) (vs : List Addr) (h0 : Heap) (n0 : Nat) (LA : Al Z h0 n0 de a ed mc vs) (II : It Z h0 i a k mc) : KW false l Z M_itc n0 (fun v h => v = none ∧ h0 = h) ([], fun _ => False) h0 0 0 0 #[.val (.ref i)] [] := by
  obtain ⟨EA, FE, FS, FM, hle, hsh⟩ := id LA
  obtain ⟨EI, FI1, FI2, ⟨lr, FI3⟩, FI4⟩ := id II
  have K0 : Keep h0 h0 [i] := Keep.refl _ _
  refine k_aloadN d_itc_0 rfl rfl rfl ?_
  refine k_getField d_itc_1 rfl (hw _ (List.mem_of_getElem? (i := 333) rfl)) Via.refl FI1 ?_
  refine k_getField d_itc_4 rfl (hw _ (List.mem_of_getElem? (i := 338) rfl)) (Via.of (hw _ (List.mem_of_getElem? (i := 296) rfl))) FM ?_
  refine k_aloadN d_itc_7 rfl rfl rfl ?_
  refine k_getField d_itc_8 rfl (hw _ (List.mem_of_getElem? (i := 339) rfl)) Via.refl FI4 ?_
  refine k_icmp (pc1 := 22) (pc' := 14) d_itc_11 (by decide) (by decide) rfl (fun (cd1 : mc = mc) => ?_) (fun (cd1 : ¬ mc = mc) => False.elim (by exact cd1 rfl))
  exact k_retVoid d_itc_22 rfl (by decide) (by decide) ⟨rfl, rfl⟩
theorem mt_itc (l : Launch) (Z : State) (a0 : Array Value) (hw : ∀ d ∈ tables_1, d.before a0 Z = true) (cs : Int32) (hcs : ¬ cs = 0) (SC : Sta Z Z.heap "java/lang/String" "COMPACT_STRINGS" "Z" (.int cs)) (hEW : EW Z a0 EL) (i de a ed : Addr) (k : Nat) (mc : Int32) (vs : List Addr) (h0 : Heap) (n0 : Nat) (LA : Al Z h0 n0 de a ed mc vs) (II : It Z h0 i a k mc) : Mt l Z M_itc [] n0 #[(.ref i)] h0 (fun v h => v = none ∧ h0 = h) :=
  mt_of_kw (P := ([], fun _ => False)) pf_itc (fun m => by first | (simp [entryFrame, mkF, argsToLocals, Value.category]; done) | rfl) (kw_itc l Z a0 hw cs hcs SC hEW i de a ed k mc vs h0 n0 LA II)
abbrev M_ity : MD := ((⟨"java/util/ArrayList$Itr", "next", "()Ljava/lang/Object;"⟩ : MethodName), jdk_49_method_3_code, 3, (some (.object "java/lang/Object")), { frames := 1, cells := 0, slots := 0, locals := 24 })
theorem d_ity_0 : decode jdk_49_method_3_code 0 = .ok (.aload_n 0, 1) := by decide +kernel
theorem d_ity_1 : decode jdk_49_method_3_code 1 = .ok (.invokevirtual 31, 3) := by decide +kernel
theorem d_ity_4 : decode jdk_49_method_3_code 4 = .ok (.aload_n 0, 1) := by decide +kernel
theorem d_ity_5 : decode jdk_49_method_3_code 5 = .ok (.getfield 25, 3) := by decide +kernel
theorem d_ity_8 : decode jdk_49_method_3_code 8 = .ok (.istore_n 1, 1) := by decide +kernel
theorem d_ity_9 : decode jdk_49_method_3_code 9 = .ok (.iload_n 1, 1) := by decide +kernel
theorem d_ity_10 : decode jdk_49_method_3_code 10 = .ok (.aload_n 0, 1) := by decide +kernel
theorem d_ity_11 : decode jdk_49_method_3_code 11 = .ok (.getfield 1, 3) := by decide +kernel
theorem d_ity_14 : decode jdk_49_method_3_code 14 = .ok (.getfield 28, 3) := by decide +kernel
theorem d_ity_17 : decode jdk_49_method_3_code 17 = .ok (.if_icmp .lt 11, 3) := by decide +kernel
theorem d_ity_20 : decode jdk_49_method_3_code 20 = .ok (.new 34, 3) := by decide +kernel
theorem d_ity_23 : decode jdk_49_method_3_code 23 = .ok (.dup, 1) := by decide +kernel
theorem d_ity_24 : decode jdk_49_method_3_code 24 = .ok (.invokespecial 36, 3) := by decide +kernel
theorem d_ity_27 : decode jdk_49_method_3_code 27 = .ok (.athrow, 1) := by decide +kernel
theorem d_ity_28 : decode jdk_49_method_3_code 28 = .ok (.aload_n 0, 1) := by decide +kernel
theorem d_ity_29 : decode jdk_49_method_3_code 29 = .ok (.getfield 1, 3) := by decide +kernel
theorem d_ity_32 : decode jdk_49_method_3_code 32 = .ok (.getfield 37, 3) := by decide +kernel
theorem d_ity_35 : decode jdk_49_method_3_code 35 = .ok (.astore_n 2, 1) := by decide +kernel
theorem d_ity_36 : decode jdk_49_method_3_code 36 = .ok (.iload_n 1, 1) := by decide +kernel
theorem d_ity_37 : decode jdk_49_method_3_code 37 = .ok (.aload_n 2, 1) := by decide +kernel
theorem d_ity_38 : decode jdk_49_method_3_code 38 = .ok (.arraylength, 1) := by decide +kernel
theorem d_ity_39 : decode jdk_49_method_3_code 39 = .ok (.if_icmp .lt 11, 3) := by decide +kernel
theorem d_ity_42 : decode jdk_49_method_3_code 42 = .ok (.new 41, 3) := by decide +kernel
theorem d_ity_45 : decode jdk_49_method_3_code 45 = .ok (.dup, 1) := by decide +kernel
theorem d_ity_46 : decode jdk_49_method_3_code 46 = .ok (.invokespecial 43, 3) := by decide +kernel
theorem d_ity_49 : decode jdk_49_method_3_code 49 = .ok (.athrow, 1) := by decide +kernel
theorem d_ity_50 : decode jdk_49_method_3_code 50 = .ok (.aload_n 0, 1) := by decide +kernel
theorem d_ity_51 : decode jdk_49_method_3_code 51 = .ok (.iload_n 1, 1) := by decide +kernel
theorem d_ity_52 : decode jdk_49_method_3_code 52 = .ok (.iconst 1, 1) := by decide +kernel
theorem d_ity_53 : decode jdk_49_method_3_code 53 = .ok (.iadd, 1) := by decide +kernel
theorem d_ity_54 : decode jdk_49_method_3_code 54 = .ok (.putfield 25, 3) := by decide +kernel
theorem d_ity_57 : decode jdk_49_method_3_code 57 = .ok (.aload_n 2, 1) := by decide +kernel
theorem d_ity_58 : decode jdk_49_method_3_code 58 = .ok (.aload_n 0, 1) := by decide +kernel
theorem d_ity_59 : decode jdk_49_method_3_code 59 = .ok (.iload_n 1, 1) := by decide +kernel
theorem d_ity_60 : decode jdk_49_method_3_code 60 = .ok (.dup_x1, 1) := by decide +kernel
theorem d_ity_61 : decode jdk_49_method_3_code 61 = .ok (.putfield 13, 3) := by decide +kernel
theorem d_ity_64 : decode jdk_49_method_3_code 64 = .ok (.aaload, 1) := by decide +kernel
theorem d_ity_65 : decode jdk_49_method_3_code 65 = .ok (.areturn, 1) := by decide +kernel
theorem pd_ity : parseMethodDescriptor "()Ljava/lang/Object;" = some ⟨[], (some (.object "java/lang/Object"))⟩ := by decide +kernel
theorem pf_ity : plainFor (⟨"java/util/ArrayList$Itr", "next", "()Ljava/lang/Object;"⟩ : MethodName) = true := by first | exact plainFor_of_name (by first | (simp [plainName, overriddenIn]; done) | decide +kernel) | decide +kernel
set_option maxRecDepth 65536 in
set_option maxHeartbeats 40000000 in
theorem kw_ity (l : Launch) (Z : State) (a0 : Array Value) (hw : ∀ d ∈ tables_1, d.before a0 Z = true) (cs : Int32) (hcs : ¬ cs = 0) (SC : Sta Z Z.heap "java/lang/String" "COMPACT_STRINGS" "Z" (.int cs)) (hEW : EW Z a0 EL) (i de a ed : Addr) (k : Nat) (mc : Int32) (vs : List Addr) (h0 : Heap) (n0 : Nat) (LA : Al Z h0 n0 de a ed mc vs) (II : It Z h0 i a k mc) (gi : n0 ≤ i) (hai : a ≠ i) (hei : ed ≠ i) (x : Addr) (hx : vs[k]? = some x) : KW false l Z M_ity n0 (fun v h => v = some (.ref x) ∧ Keep h0 h [i] ∧ It Z h i a (k + 1) mc) ([], fun _ => False) h0 0 0 0 #[.val (.ref i), .unset, .unset] [] := by
  obtain ⟨EA, FE, FS, FM, hle, hsh⟩ := id LA
  obtain ⟨EI, FI1, FI2, ⟨lr, FI3⟩, FI4⟩ := id II
  have K0 : Keep h0 h0 [i] := Keep.refl _ _
  have hkl : k < vs.length := (List.getElem?_eq_some_iff.mp hx).1
  obtain ⟨-, -, ck, ys, OV, AV, hln⟩ := hsh.resolve_left (fun q => by rw [q.1] at hx; simp at hx)
  have hgx : (vs.map Value.ref ++ ys).getD k .null = .ref x := by
    rw [List.getD_eq_getElem?_getD, List.getElem?_append_left (by simpa using hkl), List.getElem?_map, hx]; rfl
  refine k_aloadN d_ity_0 rfl rfl rfl ?_
  refine k_callVirtual (argsL := []) (rest := []) (W0 := 0) d_ity_1 rfl (mt_itc l Z a0 hw cs hcs SC hEW i de a ed k mc vs h0 n0 LA II) Kp.strict EI (hw _ (List.mem_of_getElem? (i := 361) rfl)) (hw _ (List.mem_of_getElem? (i := 362) rfl)) (hw _ (List.mem_of_getElem? (i := 364) rfl)) (hw _ (List.mem_of_getElem? (i := 344) rfl)) rfl (hw _ (List.mem_of_getElem? (i := 363) rfl)) (hw _ (List.mem_of_getElem? (i := 365) rfl)) (hw _ (List.mem_of_getElem? (i := 328) rfl)) (by decide) pd_itc rfl rfl rfl rfl (by decide) (by decide) (by decide) (by decide) ?_
  rintro _ _ - ⟨rfl, rfl⟩
  refine KW.any (P' := ([], fun _ => False)) ?_
  show KW false l Z M_ity n0 (fun v h => v = some (.ref x) ∧ Keep h0 h [i] ∧ It Z h i a (k + 1) mc) ([], fun _ => False) h0 0 0 4 #[.val (.ref i), .unset, .unset] []
  refine k_aloadN d_ity_4 rfl rfl rfl ?_
  refine k_getField d_ity_5 rfl (hw _ (List.mem_of_getElem? (i := 350) rfl)) Via.refl FI2 ?_
  refine k_istoreN (Ls' := #[.val (.ref i), .val (.int (Int32.ofNat k)), .unset]) d_ity_8 rfl rfl ?_
  refine k_iloadN d_ity_9 rfl rfl ?_
  refine k_aloadN d_ity_10 rfl rfl rfl ?_
  refine k_getField d_ity_11 rfl (hw _ (List.mem_of_getElem? (i := 333) rfl)) Via.refl FI1 ?_
  refine k_getFieldN d_ity_14 rfl (hw _ (List.mem_of_getElem? (i := 352) rfl)) Via.refl FS ?_
  refine k_icmp (pc1 := 28) (pc' := 20) d_ity_17 (by decide) (by decide) rfl (fun (cd1 : (Int32.ofNat k) < (Int32.ofNat vs.length)) => ?_) (fun (cd1 : ¬ (Int32.ofNat k) < (Int32.ofNat vs.length)) => absurd (by exact ix_lt (by omega) hkl) cd1)
  refine k_aloadN d_ity_28 rfl rfl rfl ?_
  refine k_getField d_ity_29 rfl (hw _ (List.mem_of_getElem? (i := 333) rfl)) Via.refl FI1 ?_
  refine k_getField d_ity_32 rfl (hw _ (List.mem_of_getElem? (i := 366) rfl)) Via.refl FE ?_
  refine k_astoreN (Ls' := #[.val (.ref i), .val (.int (Int32.ofNat k)), .val (.ref ed)]) d_ity_35 rfl rfl rfl ?_
  refine k_iloadN d_ity_36 rfl rfl ?_
  refine k_aloadN d_ity_37 rfl rfl rfl ?_
  refine k_arrlen d_ity_38 rfl AV ?_
  refine k_icmp (pc1 := 50) (pc' := 42) d_ity_39 (by decide) (by decide) rfl (fun (cd2 : (Int32.ofNat k) < (Int32.ofNat 10)) => ?_) (fun (cd2 : ¬ (Int32.ofNat k) < (Int32.ofNat 10)) => absurd (by exact ix_lt (by decide) (show k < 10 by omega)) cd2)
  refine k_aloadN d_ity_50 rfl rfl rfl ?_
  refine k_iloadN d_ity_51 rfl rfl ?_
  refine k_iconst (z := (1 : Int32)) d_ity_52 rfl (by decide) ?_
  refine k_iadd d_ity_53 rfl ?_
  refine KW.top (congrArg Value.int ((ix_succ k))) ?_
  show KW false l Z M_ity n0 (fun v h => v = some (.ref x) ∧ Keep h0 h [i] ∧ It Z h i a (k + 1) mc) ([], fun _ => False) h0 0 0 54 #[.val (.ref i), .val (.int (Int32.ofNat k)), .val (.ref ed)] [(.int (Int32.ofNat (k + 1))), (.ref i)]
  refine k_put (v' := (.int (Int32.ofNat (k + 1)))) (ty := .int) d_ity_54 rfl (hw _ (List.mem_of_getElem? (i := 350) rfl)) Via.refl FI2 EI (Or.inl (hw _ (List.mem_of_getElem? (i := 351) rfl))) (hw _ (List.mem_of_getElem? (i := 327) rfl)) (by decide) rfl rfl gi (fun q => by cases q) ?_
  intro h1 W2
  have F3 := FI2.same W2
  show KW false l Z M_ity n0 (fun v h => v = some (.ref x) ∧ Keep h0 h [i] ∧ It Z h i a (k + 1) mc) ([], fun _ => False) h1 0 0 57 #[.val (.ref i), .val (.int (Int32.ofNat k)), .val (.ref ed)] []
  refine k_aloadN d_ity_57 rfl rfl rfl ?_
  refine k_aloadN d_ity_58 rfl rfl rfl ?_
  refine k_iloadN d_ity_59 rfl rfl ?_
  refine k_dupX1 d_ity_60 rfl rfl rfl ?_
  have f6 := (FI3.other W2 (Or.inr (slot_ne (t := .int) (t' := .int) (Or.inl (hw _ (List.mem_of_getElem? (i := 337) rfl))) (Or.inl (hw _ (List.mem_of_getElem? (i := 351) rfl))) (by decide) (by decide) (by decide))))
  have f7 := (EI.wr W2)
  refine k_put (v' := (.int (Int32.ofNat k))) (ty := .int) d_ity_61 rfl (hw _ (List.mem_of_getElem? (i := 336) rfl)) Via.refl f6 f7 (Or.inl (hw _ (List.mem_of_getElem? (i := 337) rfl))) (hw _ (List.mem_of_getElem? (i := 327) rfl)) (by decide) rfl rfl gi (fun q => by cases q) ?_
  intro h4 W5
  have F8 := f6.same W5
  show KW false l Z M_ity n0 (fun v h => v = some (.ref x) ∧ Keep h0 h [i] ∧ It Z h i a (k + 1) mc) ([], fun _ => False) h4 0 0 64 #[.val (.ref i), .val (.int (Int32.ofNat k)), .val (.ref ed)] [(.int (Int32.ofNat k)), (.ref ed)]
  have f9 := ((AV.other W2 hei).other W5 hei)
  refine k_aaload (v := .ref x) d_ity_64 rfl f9 (by omega) (ix_inb (by decide) (by omega)) hgx ?_
  have f10 := ((K0.wr W2 (Or.inl (by simp))).wr W5 (Or.inl (by simp)))
  have f11 := (f7.wr W5)
  have f12 := ((FI1.other W2 (Or.inr (slot_ne (t := (.object "java/util/ArrayList")) (t' := .int) (Or.inr (hw _ (List.mem_of_getElem? (i := 334) rfl))) (Or.inl (hw _ (List.mem_of_getElem? (i := 351) rfl))) (by decide) (by decide) (by decide)))).other W5 (Or.inr (slot_ne (t := (.object "java/util/ArrayList")) (t' := .int) (Or.inr (hw _ (List.mem_of_getElem? (i := 334) rfl))) (Or.inl (hw _ (List.mem_of_getElem? (i := 337) rfl))) (by decide) (by decide) (by decide))))
  have f13 := (F3.other W5 (Or.inr (slot_ne (t := .int) (t' := .int) (Or.inl (hw _ (List.mem_of_getElem? (i := 351) rfl))) (Or.inl (hw _ (List.mem_of_getElem? (i := 337) rfl))) (by decide) (by decide) (by decide))))
  have f14 := ((FI4.other W2 (Or.inr (slot_ne (t := .int) (t' := .int) (Or.inl (hw _ (List.mem_of_getElem? (i := 340) rfl))) (Or.inl (hw _ (List.mem_of_getElem? (i := 351) rfl))) (by decide) (by decide) (by decide)))).other W5 (Or.inr (slot_ne (t := .int) (t' := .int) (Or.inl (hw _ (List.mem_of_getElem? (i := 340) rfl))) (Or.inl (hw _ (List.mem_of_getElem? (i := 337) rfl))) (by decide) (by decide) (by decide))))
  exact k_retRef d_ity_65 rfl rfl rfl (by decide) (by decide) ⟨rfl, f10, ⟨f11, f12, f13, ⟨_, F8⟩, f14⟩⟩
theorem mt_ity (l : Launch) (Z : State) (a0 : Array Value) (hw : ∀ d ∈ tables_1, d.before a0 Z = true) (cs : Int32) (hcs : ¬ cs = 0) (SC : Sta Z Z.heap "java/lang/String" "COMPACT_STRINGS" "Z" (.int cs)) (hEW : EW Z a0 EL) (i de a ed : Addr) (k : Nat) (mc : Int32) (vs : List Addr) (h0 : Heap) (n0 : Nat) (LA : Al Z h0 n0 de a ed mc vs) (II : It Z h0 i a k mc) (gi : n0 ≤ i) (hai : a ≠ i) (hei : ed ≠ i) (x : Addr) (hx : vs[k]? = some x) : Mt l Z M_ity [] n0 #[(.ref i)] h0 (fun v h => v = some (.ref x) ∧ Keep h0 h [i] ∧ It Z h i a (k + 1) mc) :=
  mt_of_kw (P := ([], fun _ => False)) pf_ity (fun m => by first | (simp [entryFrame, mkF, argsToLocals, Value.category]; done) | rfl) (kw_ity l Z a0 hw cs hcs SC hEW i de a ed k mc vs h0 n0 LA II gi hai hei x hx)
/-- an element but for its children's list: its cells lie between A and the list l -/
def Xb (Z : State) (h : Heap) (A l o : Addr) (bs : List Int32) : Prop := ∃ w dw nm t, (A ≤ o ∧ A ≤ w ∧ A ≤ dw ∧ A ≤ nm ∧ A ≤ t) ∧ (o < l ∧ w < l ∧ dw < l ∧ nm < l ∧ t < l) ∧ Exa Z h o "com/example/roomwire/roomwire/qunar/XmlElement" ∧ Fld Z h o "com/example/roomwire/roomwire/qunar/XmlElement" "name" "Ljava/lang/String;" (.ref nm) ∧ Fld Z h o "com/example/roomwire/roomwire/qunar/XmlElement" "attributes" "Ljava/lang/StringBuilder;" (.ref w) ∧ Fld Z h o "com/example/roomwire/roomwire/qunar/XmlElement" "children" "Ljava/util/List;" (.ref l) ∧ Fld Z h o "com/example/roomwire/roomwire/qunar/XmlElement" "content" "Ljava/lang/String;" .null ∧ Sg Z h nm t bs ∧ Sb Z h w dw 16 [] ∧ Fld Z h w "java/lang/AbstractStringBuilder" "maybeLatin1" "Z" (.int 0)
theorem own_out {A l x : Nat} {ws : List Nat} (ha : A ≤ x) (hl : x < l) (h : ∀ y ∈ ws, y < A ∨ l ≤ y) : x ∉ ws := fun q => by
  rcases h x q with h | h <;> omega
theorem Xb.keep {Z : State} {h h' : Heap} {A l o : Addr} {bs : List Int32} {ws : List Addr} (X : Xb Z h A l o bs) (K : Keep h h' ws) (q : ∀ y ∈ ws, y < A ∨ l ≤ y) : Xb Z h' A l o bs := by
  obtain ⟨w, dw, nm, t, ⟨g1, g2, g3, g4, g5⟩, ⟨k1, k2, k3, k4, k5⟩, x1, x2, x3, x4, x5, x6, x7, x8⟩ := X
  exact ⟨w, dw, nm, t, ⟨g1, g2, g3, g4, g5⟩, ⟨k1, k2, k3, k4, k5⟩, x1.keep K, x2.keep K (own_out g1 k1 q), x3.keep K (own_out g1 k1 q), x4.keep K (own_out g1 k1 q), x5.keep K (own_out g1 k1 q), x6.keep K (own_out g4 k4 q) (own_out g5 k5 q), x7.keep K (own_out g2 k2 q) (own_out g3 k3 q), x8.keep K (own_out g2 k2 q)⟩
abbrev M_xi : MD := ((⟨"com/example/roomwire/roomwire/qunar/XmlElement", "<init>", "(Ljava/lang/String;)V"⟩ : MethodName), prog_61_method_1_code, 2, none, { frames := 4, cells := 3, slots := 32, locals := 64 })
theorem d_xi_0 : decode prog_61_method_1_code 0 = .ok (.aload_n 0, 1) := by decide +kernel
theorem d_xi_1 : decode prog_61_method_1_code 1 = .ok (.invokespecial 1, 3) := by decide +kernel
theorem d_xi_4 : decode prog_61_method_1_code 4 = .ok (.aload_n 0, 1) := by decide +kernel
theorem d_xi_5 : decode prog_61_method_1_code 5 = .ok (.new 7, 3) := by decide +kernel
theorem d_xi_8 : decode prog_61_method_1_code 8 = .ok (.dup, 1) := by decide +kernel
theorem d_xi_9 : decode prog_61_method_1_code 9 = .ok (.invokespecial 9, 3) := by decide +kernel
theorem d_xi_12 : decode prog_61_method_1_code 12 = .ok (.putfield 10, 3) := by decide +kernel
theorem d_xi_15 : decode prog_61_method_1_code 15 = .ok (.aload_n 0, 1) := by decide +kernel
theorem d_xi_16 : decode prog_61_method_1_code 16 = .ok (.new 16, 3) := by decide +kernel
theorem d_xi_19 : decode prog_61_method_1_code 19 = .ok (.dup, 1) := by decide +kernel
theorem d_xi_20 : decode prog_61_method_1_code 20 = .ok (.invokespecial 18, 3) := by decide +kernel
theorem d_xi_23 : decode prog_61_method_1_code 23 = .ok (.putfield 19, 3) := by decide +kernel
theorem d_xi_26 : decode prog_61_method_1_code 26 = .ok (.aload_n 0, 1) := by decide +kernel
theorem d_xi_27 : decode prog_61_method_1_code 27 = .ok (.aload_n 1, 1) := by decide +kernel
theorem d_xi_28 : decode prog_61_method_1_code 28 = .ok (.putfield 23, 3) := by decide +kernel
theorem d_xi_31 : decode prog_61_method_1_code 31 = .ok (.return_, 1) := by decide +kernel
theorem pd_xi : parseMethodDescriptor "(Ljava/lang/String;)V" = some ⟨[(.object "java/lang/String")], none⟩ := by decide +kernel
theorem pf_xi : plainFor (⟨"com/example/roomwire/roomwire/qunar/XmlElement", "<init>", "(Ljava/lang/String;)V"⟩ : MethodName) = true := by first | exact plainFor_of_name (by first | (simp [plainName, overriddenIn]; done) | decide +kernel) | decide +kernel
set_option maxRecDepth 65536 in
set_option maxHeartbeats 40000000 in
theorem kw_xi (l : Launch) (Z : State) (a0 : Array Value) (hw : ∀ d ∈ tables_1, d.before a0 Z = true) (cs : Int32) (hcs : ¬ cs = 0) (SC : Sta Z Z.heap "java/lang/String" "COMPACT_STRINGS" "Z" (.int cs)) (hEW : EW Z a0 EL) (de : Addr) (ckd : ClassId) (SDE : Sta Z Z.heap "java/util/ArrayList" "DEFAULTCAPACITY_EMPTY_ELEMENTDATA" "[Ljava/lang/Object;" (.ref de)) (DE : Arv Z Z.heap de ckd (.object "java/lang/Object") 0 [] .null) (o nm t : Addr) (A : Nat) (bs : List Int32) (h0 : Heap) (n0 : Nat) (OD : Old Z n0 h0) (go : n0 ≤ o) (hA : A ≤ o ∧ A ≤ nm ∧ A ≤ t) (EO : Exa Z h0 o "com/example/roomwire/roomwire/qunar/XmlElement") (SN : Sg Z h0 nm t bs) (GX0 : Fld Z h0 o "com/example/roomwire/roomwire/qunar/XmlElement" "attributes" "Ljava/lang/StringBuilder;" .null) (GX1 : Fld Z h0 o "com/example/roomwire/roomwire/qunar/XmlElement" "children" "Ljava/util/List;" .null) (GX2 : Fld Z h0 o "com/example/roomwire/roomwire/qunar/XmlElement" "name" "Ljava/lang/String;" .null) (GX3 : Fld Z h0 o "com/example/roomwire/roomwire/qunar/XmlElement" "content" "Ljava/lang/String;" .null) : KW false l Z M_xi n0 (fun v h => v = none ∧ ∃ l, n0 ≤ l ∧ h0.size ≤ l ∧ Keep h0 h [o] ∧ Xb Z h A l o bs ∧ Al Z h n0 de l de 0 []) ([], fun _ => False) h0 0 0 0 #[.val (.ref o), .val (.ref nm)] [] := by
  have Z0 := OD.1 ▸ OD.2.1
  have K0 : Keep h0 h0 [o] := Keep.refl _ _
  have hno : nm ≠ o := Exa.ne SN.exa EO (by decide)
  have hto : t ≠ o := by
    obtain ⟨ckT, -, -, -, AT, -⟩ := id SN
    exact (Exa.neArv EO AT (hw _ (List.mem_of_getElem? (i := 1) rfl))).symm
  have hdo : de ≠ o := Nat.ne_of_lt (Nat.lt_of_lt_of_le (Nat.lt_of_lt_of_eq DE.lt OD.1) go)
  refine k_aloadN d_xi_0 rfl rfl rfl ?_
  refine k_initObj (W0 := 0) d_xi_1 rfl (hw _ (List.mem_of_getElem? (i := 32) rfl)) (hw _ (List.mem_of_getElem? (i := 23) rfl)) (hw _ (List.mem_of_getElem? (i := 24) rfl)) rfl rfl (by decide) (by decide) ?_
  refine k_aloadN d_xi_4 rfl rfl rfl ?_
  refine k_new d_xi_5 rfl (hw _ (List.mem_of_getElem? (i := 33) rfl)) (hw _ (List.mem_of_getElem? (i := 34) rfl)) (hw _ (List.mem_of_getElem? (i := 35) rfl)) (by decide) (by decide) ?_
  intro h2 a1 g6 E3 A4 D5
  have ne7 : o ≠ a1 := Nat.ne_of_lt (Nat.lt_of_lt_of_eq EO.lt g6.symm)
  have ne8 : nm ≠ a1 := Nat.ne_of_lt (Nat.lt_of_lt_of_eq SN.lt g6.symm)
  have ne9 : t ≠ a1 := Nat.ne_of_lt (Nat.lt_of_lt_of_eq SN.ltv g6.symm)
  have z10 : n0 ≤ h0.size := Z0
  have ge11 : n0 ≤ a1 := Nat.le_trans z10 (Nat.le_of_eq g6.symm)
  have gl12 : h0.size ≤ a1 := Nat.le_of_eq g6.symm
  have gh13 := Nat.le_trans K0.1 gl12
  have F14 : Fld Z h2 a1 "java/lang/AbstractStringBuilder" "value" "[B" .null := D5 (Or.inl (hw _ (List.mem_of_getElem? (i := 48) rfl))) (ty := (.array .byte)) (by decide)
  have F15 : Fld Z h2 a1 "java/lang/AbstractStringBuilder" "coder" "B" (.int (0 : Int32)) := D5 (Or.inl (hw _ (List.mem_of_getElem? (i := 50) rfl))) (ty := .byte) (by decide)
  have F16 : Fld Z h2 a1 "java/lang/AbstractStringBuilder" "count" "I" (.int (0 : Int32)) := D5 (Or.inl (hw _ (List.mem_of_getElem? (i := 123) rfl))) (ty := .int) (by decide)
  have F17 : Fld Z h2 a1 "java/lang/AbstractStringBuilder" "maybeLatin1" "Z" (.int (0 : Int32)) := D5 (Or.inl (hw _ (List.mem_of_getElem? (i := 211) rfl))) (ty := .boolean) (by decide)
  refine KW.any (P' := ([], fun _ => False)) ?_
  show KW false l Z M_xi n0 (fun v h => v = none ∧ ∃ l, n0 ≤ l ∧ h0.size ≤ l ∧ Keep h0 h [o] ∧ Xb Z h A l o bs ∧ Al Z h n0 de l de 0 []) ([], fun _ => False) h2 1 4 8 #[.val (.ref o), .val (.ref nm)] [(.ref a1), (.ref o)]
  refine k_dup d_xi_8 rfl rfl ?_
  have f18 := (K0.ext E3)
  have f19 := (OD.ext E3)
  have f20 := (EO.ext E3)
  have f21 := (SN.ext E3)
  have f22 := (GX0.ext E3)
  have f23 := (GX1.ext E3)
  have f24 := (GX2.ext E3)
  have f25 := (GX3.ext E3)
  refine k_callInit (a := a1) (argsL := []) (rest := [(.ref a1), (.ref o)]) (W0 := 2) d_xi_9 rfl (mt_sbi l Z a0 hw cs hcs SC hEW a1 h2 n0 f19 ge11 A4 F14 F15 F16 F17) Kp.strict rfl rfl (hw _ (List.mem_of_getElem? (i := 36) rfl)) (hw _ (List.mem_of_getElem? (i := 37) rfl)) (hw _ (List.mem_of_getElem? (i := 35) rfl)) (hw _ (List.mem_of_getElem? (i := 38) rfl)) (by decide) pd_sbi rfl rfl rfl rfl (by decide) (by decide) (by decide) (by decide) ?_
  rintro _ hM - ⟨rfl, dw, gd1, gd2, KM, SW, MW⟩
  have ne26 : o ≠ dw := Nat.ne_of_lt (Nat.lt_of_lt_of_le f20.lt gd1)
  have ne27 : nm ≠ dw := Nat.ne_of_lt (Nat.lt_of_lt_of_le f21.lt gd1)
  have ne28 : t ≠ dw := Nat.ne_of_lt (Nat.lt_of_lt_of_le f21.ltv gd1)
  have ne29 : a1 ≠ dw := Nat.ne_of_lt (Nat.lt_of_lt_of_le A4.lt gd1)
  have gdh := Nat.le_trans f18.1 gd1
  refine KW.any (P' := ([], fun _ => False)) ?_
  show KW false l Z M_xi n0 (fun v h => v = none ∧ ∃ l, n0 ≤ l ∧ h0.size ≤ l ∧ Keep h0 h [o] ∧ Xb Z h A l o bs ∧ Al Z h n0 de l de 0 []) ([], fun _ => False) hM 2 20 12 #[.val (.ref o), .val (.ref nm)] [(.ref a1), (.ref o)]
  have f32 := (f22.keep KM (ninS ne7 nin0))
  have f33 := (f20.keep KM)
  refine k_put (v' := (.ref a1)) (ty := (.object "java/lang/StringBuilder")) d_xi_12 rfl (hw _ (List.mem_of_getElem? (i := 51) rfl)) Via.refl f32 f33 (Or.inr ⟨(hw _ (List.mem_of_getElem? (i := 52) rfl)), rfl, rfl⟩) (hw _ (List.mem_of_getElem? (i := 1) rfl)) (by decide) rfl rfl go (fun q => by cases q) ?_
  intro h30 W31
  have F34 := f32.same W31
  show KW false l Z M_xi n0 (fun v h => v = none ∧ ∃ l, n0 ≤ l ∧ h0.size ≤ l ∧ Keep h0 h [o] ∧ Xb Z h A l o bs ∧ Al Z h n0 de l de 0 []) ([], fun _ => False) h30 2 20 15 #[.val (.ref o), .val (.ref nm)] []
  refine k_aloadN d_xi_15 rfl rfl rfl ?_
  have f35 := (f33.wr W31)
  have lt_o : o < h30.size := f35.lt
  have f36 := ((f21.keep KM (ninS ne8 nin0) (ninS ne9 nin0)).wr W31 hno hto)
  have lt_nm : nm < h30.size := f36.lt
  have lt_t : t < h30.size := f36.ltv
  have f37 := (SW.wr W31 (Ne.symm ne7) (Ne.symm ne26))
  have lt_a1 : a1 < h30.size := f37.lt
  have lt_dw : dw < h30.size := f37.ltv
  refine k_new d_xi_16 rfl (hw _ (List.mem_of_getElem? (i := 53) rfl)) (hw _ (List.mem_of_getElem? (i := 54) rfl)) (hw _ (List.mem_of_getElem? (i := 55) rfl)) (by decide) (by decide) ?_
  intro h39 a38 g43 E40 A41 D42
  have ne44 : o ≠ a38 := Nat.ne_of_lt (Nat.lt_of_lt_of_eq f35.lt g43.symm)
  have ne45 : nm ≠ a38 := Nat.ne_of_lt (Nat.lt_of_lt_of_eq f36.lt g43.symm)
  have ne46 : t ≠ a38 := Nat.ne_of_lt (Nat.lt_of_lt_of_eq f36.ltv g43.symm)
  have ne47 : a1 ≠ a38 := Nat.ne_of_lt (Nat.lt_of_lt_of_eq f37.lt g43.symm)
  have ne48 : dw ≠ a38 := Nat.ne_of_lt (Nat.lt_of_lt_of_eq f37.ltv g43.symm)
  have z49 : n0 ≤ h30.size := (Nat.le_trans (Nat.le_trans (Nat.le_trans z10 E3.1) KM.1) (Nat.le_of_eq W31.size.symm))
  have ge50 : n0 ≤ a38 := Nat.le_trans z49 (Nat.le_of_eq g43.symm)
  have gl51 : h30.size ≤ a38 := Nat.le_of_eq g43.symm
  have f52 := ((f18.trans KM (allS (Or.inr gh13) all0)).wr W31 (Or.inl (by simp)))
  have gh53 := Nat.le_trans f52.1 gl51
  have F54 : Fld Z h39 a38 "java/util/AbstractList" "modCount" "I" (.int (0 : Int32)) := D42 (Or.inl (hw _ (List.mem_of_getElem? (i := 73) rfl))) (ty := .int) (by decide)
  have F55 : Fld Z h39 a38 "java/util/ArrayList" "elementData" "[Ljava/lang/Object;" .null := D42 (Or.inl (hw _ (List.mem_of_getElem? (i := 76) rfl))) (ty := (.array (.object "java/lang/Object"))) (by decide)
  have F56 : Fld Z h39 a38 "java/util/ArrayList" "size" "I" (.int (0 : Int32)) := D42 (Or.inl (hw _ (List.mem_of_getElem? (i := 224) rfl))) (ty := .int) (by decide)
  refine KW.any (P' := ([], fun _ => False)) ?_
  show KW false l Z M_xi n0 (fun v h => v = none ∧ ∃ l, n0 ≤ l ∧ h0.size ≤ l ∧ Keep h0 h [o] ∧ Xb Z h A l o bs ∧ Al Z h n0 de l de 0 []) ([], fun _ => False) h39 3 23 19 #[.val (.ref o), .val (.ref nm)] [(.ref a38), (.ref o)]
  refine k_dup d_xi_19 rfl rfl ?_
  have f57 := (f52.ext E40)
  have f58 := (((f19.keep KM (allS ge11 all0)).wr W31 go).ext E40)
  have f59 := (f35.ext E40)
  have f60 := (f36.ext E40)
  have f61 := (F34.ext E40)
  have f62 := (((f23.keep KM (ninS ne7 nin0)).other W31 (Or.inr (slot_ne (t := (.object "java/util/List")) (t' := (.object "java/lang/StringBuilder")) (Or.inr (hw _ (List.mem_of_getElem? (i := 78) rfl))) (Or.inr (hw _ (List.mem_of_getElem? (i := 52) rfl))) (by decide) (by decide) (by decide)))).ext E40)
  have f63 := (((f24.keep KM (ninS ne7 nin0)).other W31 (Or.inr (slot_ne (t := (.object "java/lang/String")) (t' := (.object "java/lang/StringBuilder")) (Or.inr (hw _ (List.mem_of_getElem? (i := 80) rfl))) (Or.inr (hw _ (List.mem_of_getElem? (i := 52) rfl))) (by decide) (by decide) (by decide)))).ext E40)
  have f64 := (((f25.keep KM (ninS ne7 nin0)).other W31 (Or.inr (slot_ne (t := (.object "java/lang/String")) (t' := (.object "java/lang/StringBuilder")) (Or.inl (hw _ (List.mem_of_getElem? (i := 213) rfl))) (Or.inr (hw _ (List.mem_of_getElem? (i := 52) rfl))) (by decide) (by decide) (by decide)))).ext E40)
  have f65 := (((A4.keep KM).wr W31).ext E40)
  have f66 := ((MW.other W31 (Or.inl (Ne.symm ne7))).ext E40)
  have f67 := (f37.ext E40)
  refine k_callInit (a := a38) (argsL := []) (rest := [(.ref a38), (.ref o)]) (W0 := 2) d_xi_20 rfl (mt_ali l Z a0 hw cs hcs SC hEW de ckd SDE DE a38 h39 n0 f58 ge50 A41 F55 F56 F54) Kp.strict rfl rfl (hw _ (List.mem_of_getElem? (i := 56) rfl)) (hw _ (List.mem_of_getElem? (i := 57) rfl)) (hw _ (List.mem_of_getElem? (i := 55) rfl)) (hw _ (List.mem_of_getElem? (i := 58) rfl)) (by decide) pd_ali rfl rfl rfl rfl (by decide) (by decide) (by decide) (by decide) ?_
  rintro _ hL - ⟨rfl, KL, LL⟩
  refine KW.any (P' := ([], fun _ => False)) ?_
  show KW false l Z M_xi n0 (fun v h => v = none ∧ ∃ l, n0 ≤ l ∧ h0.size ≤ l ∧ Keep h0 h [o] ∧ Xb Z h A l o bs ∧ Al Z h n0 de l de 0 []) ([], fun _ => False) hL 3 23 23 #[.val (.ref o), .val (.ref nm)] [(.ref a38), (.ref o)]
  have f70 := (f62.keep KL (ninS ne44 nin0))
  have f71 := (f59.keep KL)
  refine k_put (v' := (.ref a38)) (ty := (.object "java/util/List")) d_xi_23 rfl (hw _ (List.mem_of_getElem? (i := 77) rfl)) Via.refl f70 f71 (Or.inr ⟨(hw _ (List.mem_of_getElem? (i := 78) rfl)), rfl, rfl⟩) (hw _ (List.mem_of_getElem? (i := 1) rfl)) (by decide) rfl rfl go (fun q => by cases q) ?_
  intro h68 W69
  have F72 := f70.same W69
  show KW false l Z M_xi n0 (fun v h => v = none ∧ ∃ l, n0 ≤ l ∧ h0.size ≤ l ∧ Keep h0 h [o] ∧ Xb Z h A l o bs ∧ Al Z h n0 de l de 0 []) ([], fun _ => False) h68 3 23 26 #[.val (.ref o), .val (.ref nm)] []
  refine k_aloadN d_xi_26 rfl rfl rfl ?_
  refine k_aloadN d_xi_27 rfl rfl rfl ?_
  have f75 := ((f63.keep KL (ninS ne44 nin0)).other W69 (Or.inr (slot_ne (t := (.object "java/lang/String")) (t' := (.object "java/util/List")) (Or.inr (hw _ (List.mem_of_getElem? (i := 80) rfl))) (Or.inr (hw _ (List.mem_of_getElem? (i := 78) rfl))) (by decide) (by decide) (by decide))))
  have f76 := (f71.wr W69)
  refine k_put (v' := (.ref nm)) (ty := (.object "java/lang/String")) d_xi_28 rfl (hw _ (List.mem_of_getElem? (i := 79) rfl)) Via.refl f75 f76 (Or.inr ⟨(hw _ (List.mem_of_getElem? (i := 80) rfl)), rfl, rfl⟩) (hw _ (List.mem_of_getElem? (i := 1) rfl)) (by decide) rfl rfl go (fun q => by cases q) ?_
  intro h73 W74
  have F77 := f75.same W74
  show KW false l Z M_xi n0 (fun v h => v = none ∧ ∃ l, n0 ≤ l ∧ h0.size ≤ l ∧ Keep h0 h [o] ∧ Xb Z h A l o bs ∧ Al Z h n0 de l de 0 []) ([], fun _ => False) h73 3 23 31 #[.val (.ref o), .val (.ref nm)] []
  have f78 := (((f57.trans KL (allS (Or.inr gh53) all0)).wr W69 (Or.inl (by simp))).wr W74 (Or.inl (by simp)))
  have hAo := Nat.le_trans hA.1 (Nat.le_of_lt EO.lt)
  have f79 := (f76.wr W74)
  have f80 := (((f61.keep KL (ninS ne44 nin0)).other W69 (Or.inr (slot_ne (t := (.object "java/lang/StringBuilder")) (t' := (.object "java/util/List")) (Or.inr (hw _ (List.mem_of_getElem? (i := 52) rfl))) (Or.inr (hw _ (List.mem_of_getElem? (i := 78) rfl))) (by decide) (by decide) (by decide)))).other W74 (Or.inr (slot_ne (t := (.object "java/lang/StringBuilder")) (t' := (.object "java/lang/String")) (Or.inr (hw _ (List.mem_of_getElem? (i := 52) rfl))) (Or.inr (hw _ (List.mem_of_getElem? (i := 80) rfl))) (by decide) (by decide) (by decide))))
  have f81 := (F72.other W74 (Or.inr (slot_ne (t := (.object "java/util/List")) (t' := (.object "java/lang/String")) (Or.inr (hw _ (List.mem_of_getElem? (i := 78) rfl))) (Or.inr (hw _ (List.mem_of_getElem? (i := 80) rfl))) (by decide) (by decide) (by decide))))
  have f82 := (((f64.keep KL (ninS ne44 nin0)).other W69 (Or.inr (slot_ne (t := (.object "java/lang/String")) (t' := (.object "java/util/List")) (Or.inl (hw _ (List.mem_of_getElem? (i := 213) rfl))) (Or.inr (hw _ (List.mem_of_getElem? (i := 78) rfl))) (by decide) (by decide) (by decide)))).other W74 (Or.inr (slot_ne (t := (.object "java/lang/String")) (t' := (.object "java/lang/String")) (Or.inl (hw _ (List.mem_of_getElem? (i := 213) rfl))) (Or.inr (hw _ (List.mem_of_getElem? (i := 80) rfl))) (by decide) (by decide) (by decide))))
  have f83 := (((f60.keep KL (ninS ne45 nin0) (ninS ne46 nin0)).wr W69 hno hto).wr W74 hno hto)
  have f84 := (((f67.keep KL (ninS ne47 nin0) (ninS ne48 nin0)).wr W69 (Ne.symm ne7) (Ne.symm ne26)).wr W74 (Ne.symm ne7) (Ne.symm ne26))
  have f85 := (((f66.keep KL (ninS ne47 nin0)).other W69 (Or.inl (Ne.symm ne7))).other W74 (Or.inl (Ne.symm ne7)))
  exact k_retVoid d_xi_31 rfl (by decide) (by decide) ⟨rfl, a38, ge50, gh53, f78, ⟨a1, dw, nm, t, ⟨hA.1, Nat.le_trans hAo gh13, Nat.le_trans hAo gdh, hA.2.1, hA.2.2⟩, ⟨Nat.lt_of_lt_of_le lt_o gl51, Nat.lt_of_lt_of_le lt_a1 gl51, Nat.lt_of_lt_of_le lt_dw gl51, Nat.lt_of_lt_of_le lt_nm gl51, Nat.lt_of_lt_of_le lt_t gl51⟩, f79, F77, f80, f81, f82, f83, f84, f85⟩, ((LL.keep (keep_of_wr W69) (by simp; exact (Ne.symm ne44)) (by simp; exact hdo)).keep (keep_of_wr W74) (by simp; exact (Ne.symm ne44)) (by simp; exact hdo))⟩
theorem mt_xi (l : Launch) (Z : State) (a0 : Array Value) (hw : ∀ d ∈ tables_1, d.before a0 Z = true) (cs : Int32) (hcs : ¬ cs = 0) (SC : Sta Z Z.heap "java/lang/String" "COMPACT_STRINGS" "Z" (.int cs)) (hEW : EW Z a0 EL) (de : Addr) (ckd : ClassId) (SDE : Sta Z Z.heap "java/util/ArrayList" "DEFAULTCAPACITY_EMPTY_ELEMENTDATA" "[Ljava/lang/Object;" (.ref de)) (DE : Arv Z Z.heap de ckd (.object "java/lang/Object") 0 [] .null) (o nm t : Addr) (A : Nat) (bs : List Int32) (h0 : Heap) (n0 : Nat) (OD : Old Z n0 h0) (go : n0 ≤ o) (hA : A ≤ o ∧ A ≤ nm ∧ A ≤ t) (EO : Exa Z h0 o "com/example/roomwire/roomwire/qunar/XmlElement") (SN : Sg Z h0 nm t bs) (GX0 : Fld Z h0 o "com/example/roomwire/roomwire/qunar/XmlElement" "attributes" "Ljava/lang/StringBuilder;" .null) (GX1 : Fld Z h0 o "com/example/roomwire/roomwire/qunar/XmlElement" "children" "Ljava/util/List;" .null) (GX2 : Fld Z h0 o "com/example/roomwire/roomwire/qunar/XmlElement" "name" "Ljava/lang/String;" .null) (GX3 : Fld Z h0 o "com/example/roomwire/roomwire/qunar/XmlElement" "content" "Ljava/lang/String;" .null) : Mt l Z M_xi [] n0 #[(.ref o), (.ref nm)] h0 (fun v h => v = none ∧ ∃ l, n0 ≤ l ∧ h0.size ≤ l ∧ Keep h0 h [o] ∧ Xb Z h A l o bs ∧ Al Z h n0 de l de 0 []) :=
  mt_of_kw (P := ([], fun _ => False)) pf_xi (fun m => by first | (simp [entryFrame, mkF, argsToLocals, Value.category]; done) | rfl) (kw_xi l Z a0 hw cs hcs SC hEW de ckd SDE DE o nm t A bs h0 n0 OD go hA EO SN GX0 GX1 GX2 GX3)
abbrev M_xa : MD := ((⟨"com/example/roomwire/roomwire/qunar/XmlElement", "add", "(Lcom/example/roomwire/roomwire/qunar/XmlElement;)Lcom/example/roomwire/roomwire/qunar/XmlElement;"⟩ : MethodName), prog_61_method_3_code, 2, (some (.object "com/example/roomwire/roomwire/qunar/XmlElement")), { frames := 5, cells := 1, slots := 10, locals := 92 })
theorem d_xa_0 : decode prog_61_method_3_code 0 = .ok (.aload_n 0, 1) := by decide +kernel
theorem d_xa_1 : decode prog_61_method_3_code 1 = .ok (.getfield 19, 3) := by decide +kernel
theorem d_xa_4 : decode prog_61_method_3_code 4 = .ok (.aload_n 1, 1) := by decide +kernel
theorem d_xa_5 : decode prog_61_method_3_code 5 = .ok (.invokeinterface 40 2, 5) := by decide +kernel
theorem d_xa_10 : decode prog_61_method_3_code 10 = .ok (.pop, 1) := by decide +kernel
theorem d_xa_11 : decode prog_61_method_3_code 11 = .ok (.aload_n 0, 1) := by decide +kernel
theorem d_xa_12 : decode prog_61_method_3_code 12 = .ok (.areturn, 1) := by decide +kernel
theorem pd_xa : parseMethodDescriptor "(Lcom/example/roomwire/roomwire/qunar/XmlElement;)Lcom/example/roomwire/roomwire/qunar/XmlElement;" = some ⟨[(.object "com/example/roomwire/roomwire/qunar/XmlElement")], (some (.object "com/example/roomwire/roomwire/qunar/XmlElement"))⟩ := by decide +kernel
theorem pf_xa : plainFor (⟨"com/example/roomwire/roomwire/qunar/XmlElement", "add", "(Lcom/example/roomwire/roomwire/qunar/XmlElement;)Lcom/example/roomwire/roomwire/qunar/XmlElement;"⟩ : MethodName) = true := by first | exact plainFor_of_name (by first | (simp [plainName, overriddenIn]; done) | decide +kernel) | decide +kernel
set_option maxRecDepth 65536 in
set_option maxHeartbeats 40000000 in
theorem kw_xaE (l : Launch) (Z : State) (a0 : Array Value) (hw : ∀ d ∈ tables_1, d.before a0 Z = true) (cs : Int32) (hcs : ¬ cs = 0) (SC : Sta Z Z.heap "java/lang/String" "COMPACT_STRINGS" "Z" (.int cs)) (hEW : EW Z a0 EL) (de : Addr) (ckd : ClassId) (SDE : Sta Z Z.heap "java/util/ArrayList" "DEFAULTCAPACITY_EMPTY_ELEMENTDATA" "[Ljava/lang/Object;" (.ref de)) (DE : Arv Z Z.heap de ckd (.object "java/lang/Object") 0 [] .null) (o l_ x : Addr) (A : Nat) (bs : List Int32) (mc : Int32) (h0 : Heap) (n0 : Nat) (OD : Old Z n0 h0) (gl : n0 ≤ l_) (XB : Xb Z h0 A l_ o bs) (LA : Al Z h0 n0 de l_ de mc []) (EX : Exa Z h0 x "com/example/roomwire/roomwire/qunar/XmlElement") : KW false l Z M_xa n0 (fun v h => v = some (.ref o) ∧ ∃ e, h0.size ≤ e ∧ n0 ≤ e ∧ Keep h0 h [l_] ∧ Al Z h n0 de l_ e (mc + 1) [x]) ([], fun _ => False) h0 0 0 0 #[.val (.ref o), .val (.ref x)] [] := by
  obtain ⟨w, dw, nm, t, -, -, XO, XN, XA, XC, XT, -⟩ := id XB
  refine k_aloadN d_xa_0 rfl rfl rfl ?_
  refine k_getField d_xa_1 rfl (hw _ (List.mem_of_getElem? (i := 77) rfl)) Via.refl XC ?_
  refine k_aloadN d_xa_4 rfl rfl rfl ?_
  refine k_callFace (argsL := [(.ref x)]) (rest := []) (W0 := 0) d_xa_5 rfl (mt_aldE l Z a0 hw cs hcs SC hEW de ckd SDE DE l_ x mc h0 n0 OD gl LA EX) Kp.strict LA.1 (hw _ (List.mem_of_getElem? (i := 287) rfl)) (hw _ (List.mem_of_getElem? (i := 288) rfl)) (hw _ (List.mem_of_getElem? (i := 289) rfl)) (hw _ (List.mem_of_getElem? (i := 290) rfl)) (hw _ (List.mem_of_getElem? (i := 291) rfl)) (hw _ (List.mem_of_getElem? (i := 292) rfl)) (hw _ (List.mem_of_getElem? (i := 293) rfl)) (hw _ (List.mem_of_getElem? (i := 221) rfl)) (hw _ (List.mem_of_getElem? (i := 294) rfl)) (hw _ (List.mem_of_getElem? (i := 55) rfl)) (by decide) rfl pd_ald rfl rfl rfl rfl (by decide) (by decide) (by decide) (by decide) ?_
  rintro _ hM - ⟨rfl, R1⟩
  refine KW.any (P' := ([], fun _ => False)) ?_
  show KW false l Z M_xa n0 (fun v h => v = some (.ref o) ∧ ∃ e, h0.size ≤ e ∧ n0 ≤ e ∧ Keep h0 h [l_] ∧ Al Z h n0 de l_ e (mc + 1) [x]) ([], fun _ => False) hM 1 10 10 #[.val (.ref o), .val (.ref x)] [(.int (1 : Int32))]
  refine k_pop d_xa_10 rfl rfl ?_
  refine k_aloadN d_xa_11 rfl rfl rfl ?_
  exact k_retRef d_xa_12 rfl rfl rfl (by decide) (by decide) ⟨rfl, R1⟩
theorem mt_xaE (l : Launch) (Z : State) (a0 : Array Value) (hw : ∀ d ∈ tables_1, d.before a0 Z = true) (cs : Int32) (hcs : ¬ cs = 0) (SC : Sta Z Z.heap "java/lang/String" "COMPACT_STRINGS" "Z" (.int cs)) (hEW : EW Z a0 EL) (de : Addr) (ckd : ClassId) (SDE : Sta Z Z.heap "java/util/ArrayList" "DEFAULTCAPACITY_EMPTY_ELEMENTDATA" "[Ljava/lang/Object;" (.ref de)) (DE : Arv Z Z.heap de ckd (.object "java/lang/Object") 0 [] .null) (o l_ x : Addr) (A : Nat) (bs : List Int32) (mc : Int32) (h0 : Heap) (n0 : Nat) (OD : Old Z n0 h0) (gl : n0 ≤ l_) (XB : Xb Z h0 A l_ o bs) (LA : Al Z h0 n0 de l_ de mc []) (EX : Exa Z h0 x "com/example/roomwire/roomwire/qunar/XmlElement") : Mt l Z M_xa [] n0 #[(.ref o), (.ref x)] h0 (fun v h => v = some (.ref o) ∧ ∃ e, h0.size ≤ e ∧ n0 ≤ e ∧ Keep h0 h [l_] ∧ Al Z h n0 de l_ e (mc + 1) [x]) :=
  mt_of_kw (P := ([], fun _ => False)) pf_xa (fun m => by first | (simp [entryFrame, mkF, argsToLocals, Value.category]; done) | rfl) (kw_xaE l Z a0 hw cs hcs SC hEW de ckd SDE DE o l_ x A bs mc h0 n0 OD gl XB LA EX)
set_option maxRecDepth 65536 in
set_option maxHeartbeats 40000000 in
theorem kw_xaN (l : Launch) (Z : State) (a0 : Array Value) (hw : ∀ d ∈ tables_1, d.before a0 Z = true) (cs : Int32) (hcs : ¬ cs = 0) (SC : Sta Z Z.heap "java/lang/String" "COMPACT_STRINGS" "Z" (.int cs)) (hEW : EW Z a0 EL) (de o l_ ed x : Addr) (A : Nat) (bs : List Int32) (mc : Int32) (vs : List Addr) (h0 : Heap) (n0 : Nat) (OD : Old Z n0 h0) (gl : n0 ≤ l_) (XB : Xb Z h0 A l_ o bs) (LA : Al Z h0 n0 de l_ ed mc vs) (hvs : vs ≠ []) (hlt : vs.length < 10) (EX : Exa Z h0 x "com/example/roomwire/roomwire/qunar/XmlElement") : KW false l Z M_xa n0 (fun v h => v = some (.ref o) ∧ Keep h0 h [l_, ed] ∧ Al Z h n0 de l_ ed (mc + 1) (vs ++ [x])) ([], fun _ => False) h0 0 0 0 #[.val (.ref o), .val (.ref x)] [] := by
  obtain ⟨w, dw, nm, t, -, -, XO, XN, XA, XC, XT, -⟩ := id XB
  refine k_aloadN d_xa_0 rfl rfl rfl ?_
  refine k_getField d_xa_1 rfl (hw _ (List.mem_of_getElem? (i := 77) rfl)) Via.refl XC ?_
  refine k_aloadN d_xa_4 rfl rfl rfl ?_
  refine k_callFace (argsL := [(.ref x)]) (rest := []) (W0 := 0) d_xa_5 rfl (mt_aldN l Z a0 hw cs hcs SC hEW de l_ ed x mc vs h0 n0 OD gl LA hvs hlt EX) Kp.strict LA.1 (hw _ (List.mem_of_getElem? (i := 287) rfl)) (hw _ (List.mem_of_getElem? (i := 288) rfl)) (hw _ (List.mem_of_getElem? (i := 289) rfl)) (hw _ (List.mem_of_getElem? (i := 290) rfl)) (hw _ (List.mem_of_getElem? (i := 291) rfl)) (hw _ (List.mem_of_getElem? (i := 292) rfl)) (hw _ (List.mem_of_getElem? (i := 293) rfl)) (hw _ (List.mem_of_getElem? (i := 221) rfl)) (hw _ (List.mem_of_getElem? (i := 294) rfl)) (hw _ (List.mem_of_getElem? (i := 55) rfl)) (by decide) rfl pd_ald rfl rfl rfl rfl (by decide) (by decide) (by decide) (by decide) ?_
  rintro _ hM - ⟨rfl, R1⟩
  refine KW.any (P' := ([], fun _ => False)) ?_
  show KW false l Z M_xa n0 (fun v h => v = some (.ref o) ∧ Keep h0 h [l_, ed] ∧ Al Z h n0 de l_ ed (mc + 1) (vs ++ [x])) ([], fun _ => False) hM 1 10 10 #[.val (.ref o), .val (.ref x)] [(.int (1 : Int32))]
  refine k_pop d_xa_10 rfl rfl ?_
  refine k_aloadN d_xa_11 rfl rfl rfl ?_
  exact k_retRef d_xa_12 rfl rfl rfl (by decide) (by decide) ⟨rfl, R1⟩
theorem mt_xaN (l : Launch) (Z : State) (a0 : Array Value) (hw : ∀ d ∈ tables_1, d.before a0 Z = true) (cs : Int32) (hcs : ¬ cs = 0) (SC : Sta Z Z.heap "java/lang/String" "COMPACT_STRINGS" "Z" (.int cs)) (hEW : EW Z a0 EL) (de o l_ ed x : Addr) (A : Nat) (bs : List Int32) (mc : Int32) (vs : List Addr) (h0 : Heap) (n0 : Nat) (OD : Old Z n0 h0) (gl : n0 ≤ l_) (XB : Xb Z h0 A l_ o bs) (LA : Al Z h0 n0 de l_ ed mc vs) (hvs : vs ≠ []) (hlt : vs.length < 10) (EX : Exa Z h0 x "com/example/roomwire/roomwire/qunar/XmlElement") : Mt l Z M_xa [] n0 #[(.ref o), (.ref x)] h0 (fun v h => v = some (.ref o) ∧ Keep h0 h [l_, ed] ∧ Al Z h n0 de l_ ed (mc + 1) (vs ++ [x])) :=
  mt_of_kw (P := ([], fun _ => False)) pf_xa (fun m => by first | (simp [entryFrame, mkF, argsToLocals, Value.category]; done) | rfl) (kw_xaN l Z a0 hw cs hcs SC hEW de o l_ ed x A bs mc vs h0 n0 OD gl XB LA hvs hlt EX)
theorem own_EN (Z : State) (a0 : Array Value) (hw : ∀ d ∈ tables_1, d.before a0 Z = true) : EN Z a0 55 EL := (EN.cons (hw _ (List.mem_of_getElem? (i := 86) rfl)) (by decide +kernel) (by decide +kernel) (EN.cons (hw _ (List.mem_of_getElem? (i := 225) rfl)) (by decide +kernel) (by decide +kernel) (EN.cons (hw _ (List.mem_of_getElem? (i := 369) rfl)) (by decide +kernel) (by decide +kernel) EN.nil)))
theorem Sq.sfb {Z : State} {P : PX} {h : Heap} {b d : Addr} {bs : List Int32} (S : Sq Z h b d bs) : Sf Z P h b := Sf.exa S.1.exa (by decide) (by decide)
theorem Sq.sfd {Z : State} {a0 : Array Value} {P : PX} {h : Heap} {b d : Addr} {bs : List Int32} (E : EN Z a0 55 P.1) (S : Sq Z h b d bs) : Sf Z P h d := by
  obtain ⟨⟨ck, zs, -, -, -, -, A, -, hN⟩, -⟩ := S
  exact Sf.len E A (by rw [ix_nat hN]; exact (capO_le _).1)
/-- from h0 to h the builder b has come to the text T, its array now e -/
def App (Z : State) (h0 : Heap) (n0 : Nat) (b d : Addr) (h : Heap) (e : Addr) (T : List Int32) : Prop := (e = d ∨ h0.size ≤ e) ∧ n0 ≤ e ∧ b ≠ e ∧ Keep h0 h [b, d] ∧ Sq Z h b e T
theorem kp_app {Z : State} {a0 : Array Value} {P : PX} {h : Heap} {n0 : Nat} {b d : Addr} {bs T : List Int32} (E : EN Z a0 55 P.1) (S : Sq Z h b d bs) : Kp true Z P h (fun v h' => v = some (.ref b) ∧ ∃ e, (e = d ∨ h.size ≤ e) ∧ n0 ≤ e ∧ b ≠ e ∧ Keep h h' [b, d] ∧ Sq Z h' b e T) := fun _ _ _ q => by
  obtain ⟨-, e, -, -, -, K, -⟩ := q
  exact ⟨[b, d], K, allS (Sq.sfb S) (allS (Sq.sfd E S) all0)⟩
section
variable {Z : State} {h0 h h' : Heap} {n0 : Nat} {b d e f x : Addr} {T T' bs : List Int32} {ws : List Addr}
theorem App.trans (A : App Z h0 n0 b d h e T) (B : App Z h n0 b e h' f T') : App Z h0 n0 b d h' f T' := by
  obtain ⟨a1, a2, a3, a4, a5⟩ := A
  obtain ⟨b1, b2, b3, b4, b5⟩ := B
  refine ⟨?_, b2, b3, a4.trans b4 (allS (Or.inl (by simp)) (allS (a1.elim (fun q => Or.inl (by simp [q])) Or.inr) all0)), b5⟩
  rcases b1 with q | q
  · rw [q]; exact a1
  · exact Or.inr (Nat.le_trans a4.1 q)
theorem App.ext (A : App Z h0 n0 b d h e T) (E : Ext h h') : App Z h0 n0 b d h' e T := ⟨A.1, A.2.1, A.2.2.1, A.2.2.2.1.ext E, A.2.2.2.2.ext E⟩
theorem App.aside (A : App Z h0 n0 b d h e T) (K : Keep h h' ws) (q : ∀ y ∈ ws, h0.size ≤ y ∧ b ≠ y ∧ e ≠ y) : App Z h0 n0 b d h' e T := ⟨A.1, A.2.1, A.2.2.1, A.2.2.2.1.trans K (fun x hx => Or.inr (q x hx).1), A.2.2.2.2.keep K (fun z => (q b z).2.1 rfl) (fun z => (q e z).2.2 rfl)⟩
theorem App.start (S : Sq Z h0 b d bs) (hbd : b ≠ d) (gd : n0 ≤ d) : App Z h0 n0 b d h0 d bs := ⟨Or.inl rfl, gd, hbd, Keep.refl _ _, S⟩
theorem App.ne (A : App Z h0 n0 b d h e T) (hx : x < h0.size) (hd : x ≠ d) : x ≠ e := by
  rcases A.1 with q | q
  · rw [q]; exact hd
  · exact Nat.ne_of_lt (Nat.lt_of_lt_of_le hx q)
theorem App.bd {B : Nat} (A : App Z h0 n0 b d h e T) (hd : B ≤ d) (hh : B ≤ h0.size) : B ≤ e := by
  rcases A.1 with q | q
  · rw [q]; exact hd
  · exact Nat.le_trans hh q
end
section
variable {Z : State} {h h' : Heap} {n0 A A' B B' : Nat} {de x l : Addr} {p : Int32} {ws : List Addr} {bs : List Int32}
/-- an element without children; its cells lie between A and B -/
def Lf (Z : State) (h : Heap) (n0 : Nat) (de : Addr) (A B : Nat) (x : Addr) (p : Int32) : Prop := ∃ l, Xb Z h A l x [p] ∧ Al Z h n0 de l de 0 [] ∧ l < B ∧ B ≤ h.size ∧ n0 ≤ l
theorem Xb.lo (X : Xb Z h A l x bs) : A ≤ l := by
  obtain ⟨w, dw, nm, t, ⟨g, -⟩, ⟨k, -⟩, -⟩ := X
  exact Nat.le_of_lt (Nat.lt_of_le_of_lt g k)
theorem Xb.exa (X : Xb Z h A l x bs) : Exa Z h x "com/example/roomwire/roomwire/qunar/XmlElement" := by
  obtain ⟨w, dw, nm, t, -, -, E, -⟩ := X; exact E
theorem Xb.mono (X : Xb Z h A l x bs) (hA : A' ≤ A) : Xb Z h A' l x bs := by
  obtain ⟨w, dw, nm, t, ⟨g1, g2, g3, g4, g5⟩, r⟩ := X
  exact ⟨w, dw, nm, t, ⟨Nat.le_trans hA g1, Nat.le_trans hA g2, Nat.le_trans hA g3, Nat.le_trans hA g4, Nat.le_trans hA g5⟩, r⟩
theorem Lf.keep (L : Lf Z h n0 de A B x p) (K : Keep h h' ws) (q : ∀ y ∈ ws, (y < A ∨ B ≤ y) ∧ de ≠ y) : Lf Z h' n0 de A B x p := by
  obtain ⟨l, x1, x2, x3, x4, x5⟩ := L
  have hAl := x1.lo
  refine ⟨l, x1.keep K (fun y hy => ?_), x2.keep K (fun z => ?_) (fun z => (q de z).2 rfl), x3, Nat.le_trans x4 K.1, x5⟩
  · rcases (q y hy).1 with r | r
    · exact Or.inl r
    · exact Or.inr (Nat.le_trans (Nat.le_of_lt x3) r)
  · rcases (q l z).1 with r | r
    · exact absurd hAl (Nat.not_le.mpr r)
    · exact absurd x3 (Nat.not_lt.mpr r)
theorem Lf.le (L : Lf Z h n0 de A B x p) : B ≤ h.size := by obtain ⟨l, -, -, -, q, -⟩ := L; exact q
theorem Lf.exa (L : Lf Z h n0 de A B x p) : Exa Z h x "com/example/roomwire/roomwire/qunar/XmlElement" := by obtain ⟨l, q, -⟩ := L; exact q.exa
theorem Lf.mono (L : Lf Z h n0 de A B x p) (hA : A' ≤ A) (hB : B ≤ B') (hs : B' ≤ h.size) : Lf Z h n0 de A' B' x p := by
  obtain ⟨l, x1, x2, x3, x4, x5⟩ := L
  exact ⟨l, x1.mono hA, x2, Nat.lt_of_lt_of_le x3 hB, hs, x5⟩
theorem Lf.wide (L : Lf Z h n0 de A B x p) : Lf Z h n0 de 0 h.size x p := L.mono (Nat.zero_le _) L.le (Nat.le_refl _)
theorem Al.lte {a ed : Addr} {mc : Int32} {vs : List Addr} (L : Al Z h n0 de a ed mc vs) (hne : vs ≠ []) : ed < h.size := by
  obtain ⟨-, -, -, -, -, a6⟩ := L
  rcases a6 with a6 | ⟨g1, g2, ck, ys, g3, g4, g5⟩
  · exact absurd a6.1 hne
  · exact g4.lt
theorem Al.sf {P : PX} {a ed : Addr} {mc : Int32} {vs : List Addr} (L : Al Z h n0 de a ed mc vs) (hne : vs ≠ []) : Sf Z P h ed := by
  obtain ⟨-, -, -, -, -, a6⟩ := L
  rcases a6 with a6 | ⟨g1, g2, ck, ys, g3, g4, g5⟩
  · exact absurd a6.1 hne
  · exact Sf.arv g4 (fun q => nomatch q)
/-- an element with this list -/
def Pa (Z : State) (h : Heap) (n0 : Nat) (de : Addr) (B : Nat) (o l ed : Addr) (mc : Int32) (vs : List Addr) (p : Int32) : Prop := Xb Z h 0 l o [p] ∧ Al Z h n0 de l ed mc vs ∧ l < B ∧ ed < B
theorem Pa.keep {o ed : Addr} {mc : Int32} {vs : List Addr} (P : Pa Z h n0 de B o l ed mc vs p) (K : Keep h h' ws) (q : ∀ y ∈ ws, B ≤ y) : Pa Z h' n0 de B o l ed mc vs p :=
  ⟨P.1.keep K (fun y hy => Or.inr (Nat.le_trans (Nat.le_of_lt P.2.2.1) (q y hy))), P.2.1.keep K (fun z => absurd (q _ z) (Nat.not_le.mpr P.2.2.1)) (fun z => absurd (q _ z) (Nat.not_le.mpr P.2.2.2)), P.2.2⟩
end
def kids : List (Addr × Int32) → List Int32
  | [] => []
  | c :: cs => [10, 60, c.2, 47, 62] ++ kids cs
theorem kids_len (cs : List (Addr × Int32)) : (kids cs).length = 5 * cs.length := by
  induction cs with
  | nil => rfl
  | cons c cs ih => (show ([10, 60, c.2, 47, 62] ++ kids cs).length = 5 * (c :: cs).length); rw [List.length_append, ih]; (show 5 + 5 * cs.length = 5 * (cs.length + 1)); omega
def HDR : List Int32 := [60, 63, 120, 109, 108, 32, 118, 101, 114, 115, 105, 111, 110, 61, 34, 49, 46, 48, 34, 32, 101, 110, 99, 111, 100, 105, 110, 103, 61, 34, 117, 116, 102, 45, 56, 34, 63, 62, 10]
section
variable {Z : State} {h0 h h' : Heap} {n0 j : Nat} {b d e f i l_ : Addr} {T T' : List Int32} {mc : Int32}
/-- in the loop over the children: the iterator i stands at j -/
def Lp (Z : State) (h0 : Heap) (n0 : Nat) (b d l_ : Addr) (mc : Int32) (h : Heap) (e i : Addr) (j : Nat) (T : List Int32) : Prop := App Z h0 n0 b d h e T ∧ It Z h i l_ j mc ∧ h0.size ≤ i ∧ n0 ≤ i ∧ b ≠ i ∧ e ≠ i
theorem Lp.app (L : Lp Z h0 n0 b d l_ mc h e i j T) (B : App Z h n0 b e h' f T') : Lp Z h0 n0 b d l_ mc h' f i j T' := by
  obtain ⟨l1, l2, l3, l4, l5, l6⟩ := L
  refine ⟨l1.trans B, l2.keep B.2.2.2.1 (ninS l5.symm (ninS l6.symm nin0)), l3, l4, l5, ?_⟩
  rcases B.1 with q | q
  · rw [q]; exact l6
  · exact (Nat.ne_of_lt (Nat.lt_of_lt_of_le l2.1.lt q)).symm
theorem Lp.next (L : Lp Z h0 n0 b d l_ mc h e i j T) (K : Keep h h' [i]) (I : It Z h' i l_ (j + 1) mc) : Lp Z h0 n0 b d l_ mc h' e i (j + 1) T := by
  obtain ⟨l1, l2, l3, l4, l5, l6⟩ := L
  exact ⟨l1.aside K (allS ⟨l3, l5, l6⟩ all0), I, l3, l4, l5, l6⟩
end

abbrev M_wl : MD := ((⟨"com/example/roomwire/roomwire/qunar/XmlElement", "writeTo", "(Ljava/lang/StringBuilder;)V"⟩ : MethodName), prog_61_method_6_code, 4, none, { frames := 7, cells := 6, slots := 460, locals := 132 })
theorem d_wl_0 : decode prog_61_method_6_code 0 = .ok (.aload_n 1, 1) := by decide +kernel
theorem d_wl_1 : decode prog_61_method_6_code 1 = .ok (.bipush 60, 2) := by decide +kernel
theorem d_wl_3 : decode prog_61_method_6_code 3 = .ok (.invokevirtual 27, 3) := by decide +kernel
theorem d_wl_6 : decode prog_61_method_6_code 6 = .ok (.aload_n 0, 1) := by decide +kernel
theorem d_wl_7 : decode prog_61_method_6_code 7 = .ok (.getfield 23, 3) := by decide +kernel
theorem d_wl_10 : decode prog_61_method_6_code 10 = .ok (.invokevirtual 31, 3) := by decide +kernel
theorem d_wl_13 : decode prog_61_method_6_code 13 = .ok (.aload_n 0, 1) := by decide +kernel
theorem d_wl_14 : decode prog_61_method_6_code 14 = .ok (.getfield 10, 3) := by decide +kernel
theorem d_wl_17 : decode prog_61_method_6_code 17 = .ok (.invokevirtual 68, 3) := by decide +kernel
theorem d_wl_20 : decode prog_61_method_6_code 20 = .ok (.pop, 1) := by decide +kernel
theorem d_wl_21 : decode prog_61_method_6_code 21 = .ok (.aload_n 0, 1) := by decide +kernel
theorem d_wl_22 : decode prog_61_method_6_code 22 = .ok (.getfield 51, 3) := by decide +kernel
theorem d_wl_25 : decode prog_61_method_6_code 25 = .ok (.ifnull 40, 3) := by decide +kernel
theorem d_wl_28 : decode prog_61_method_6_code 28 = .ok (.aload_n 1, 1) := by decide +kernel
theorem d_wl_29 : decode prog_61_method_6_code 29 = .ok (.bipush 62, 2) := by decide +kernel
theorem d_wl_31 : decode prog_61_method_6_code 31 = .ok (.invokevirtual 27, 3) := by decide +kernel
theorem d_wl_34 : decode prog_61_method_6_code 34 = .ok (.aload_n 0, 1) := by decide +kernel
theorem d_wl_35 : decode prog_61_method_6_code 35 = .ok (.getfield 51, 3) := by decide +kernel
theorem d_wl_38 : decode prog_61_method_6_code 38 = .ok (.invokestatic 36, 3) := by decide +kernel
theorem d_wl_41 : decode prog_61_method_6_code 41 = .ok (.invokevirtual 31, 3) := by decide +kernel
theorem d_wl_44 : decode prog_61_method_6_code 44 = .ok (.ldc 71, 2) := by decide +kernel
theorem d_wl_46 : decode prog_61_method_6_code 46 = .ok (.invokevirtual 31, 3) := by decide +kernel
theorem d_wl_49 : decode prog_61_method_6_code 49 = .ok (.aload_n 0, 1) := by decide +kernel
theorem d_wl_50 : decode prog_61_method_6_code 50 = .ok (.getfield 23, 3) := by decide +kernel
theorem d_wl_53 : decode prog_61_method_6_code 53 = .ok (.invokevirtual 31, 3) := by decide +kernel
theorem d_wl_56 : decode prog_61_method_6_code 56 = .ok (.bipush 62, 2) := by decide +kernel
theorem d_wl_58 : decode prog_61_method_6_code 58 = .ok (.invokevirtual 27, 3) := by decide +kernel
theorem d_wl_61 : decode prog_61_method_6_code 61 = .ok (.pop, 1) := by decide +kernel
theorem d_wl_62 : decode prog_61_method_6_code 62 = .ok (.goto 95, 3) := by decide +kernel
theorem d_wl_65 : decode prog_61_method_6_code 65 = .ok (.aload_n 0, 1) := by decide +kernel
theorem d_wl_66 : decode prog_61_method_6_code 66 = .ok (.getfield 19, 3) := by decide +kernel
theorem d_wl_69 : decode prog_61_method_6_code 69 = .ok (.invokeinterface 73 1, 5) := by decide +kernel
theorem d_wl_74 : decode prog_61_method_6_code 74 = .ok (.ifCond .eq 13, 3) := by decide +kernel
theorem d_wl_77 : decode prog_61_method_6_code 77 = .ok (.aload_n 1, 1) := by decide +kernel
theorem d_wl_78 : decode prog_61_method_6_code 78 = .ok (.ldc 77, 2) := by decide +kernel
theorem d_wl_80 : decode prog_61_method_6_code 80 = .ok (.invokevirtual 31, 3) := by decide +kernel
theorem d_wl_83 : decode prog_61_method_6_code 83 = .ok (.pop, 1) := by decide +kernel
theorem d_wl_84 : decode prog_61_method_6_code 84 = .ok (.goto 73, 3) := by decide +kernel
theorem d_wl_87 : decode prog_61_method_6_code 87 = .ok (.aload_n 1, 1) := by decide +kernel
theorem d_wl_88 : decode prog_61_method_6_code 88 = .ok (.bipush 62, 2) := by decide +kernel
theorem d_wl_90 : decode prog_61_method_6_code 90 = .ok (.invokevirtual 27, 3) := by decide +kernel
theorem d_wl_93 : decode prog_61_method_6_code 93 = .ok (.pop, 1) := by decide +kernel
theorem d_wl_94 : decode prog_61_method_6_code 94 = .ok (.aload_n 0, 1) := by decide +kernel
theorem d_wl_95 : decode prog_61_method_6_code 95 = .ok (.getfield 19, 3) := by decide +kernel
theorem d_wl_98 : decode prog_61_method_6_code 98 = .ok (.invokeinterface 79 1, 5) := by decide +kernel
theorem d_wl_103 : decode prog_61_method_6_code 103 = .ok (.astore_n 2, 1) := by decide +kernel
theorem d_wl_104 : decode prog_61_method_6_code 104 = .ok (.aload_n 2, 1) := by decide +kernel
theorem d_wl_105 : decode prog_61_method_6_code 105 = .ok (.invokeinterface 83 1, 5) := by decide +kernel
theorem d_wl_110 : decode prog_61_method_6_code 110 = .ok (.ifCond .eq 28, 3) := by decide +kernel
theorem d_wl_113 : decode prog_61_method_6_code 113 = .ok (.aload_n 2, 1) := by decide +kernel
theorem d_wl_114 : decode prog_61_method_6_code 114 = .ok (.invokeinterface 88 1, 5) := by decide +kernel
theorem d_wl_119 : decode prog_61_method_6_code 119 = .ok (.checkcast 11, 3) := by decide +kernel
theorem d_wl_122 : decode prog_61_method_6_code 122 = .ok (.astore_n 3, 1) := by decide +kernel
theorem d_wl_123 : decode prog_61_method_6_code 123 = .ok (.aload_n 1, 1) := by decide +kernel
theorem d_wl_124 : decode prog_61_method_6_code 124 = .ok (.bipush 10, 2) := by decide +kernel
theorem d_wl_126 : decode prog_61_method_6_code 126 = .ok (.invokevirtual 27, 3) := by decide +kernel
theorem d_wl_129 : decode prog_61_method_6_code 129 = .ok (.pop, 1) := by decide +kernel
theorem d_wl_130 : decode prog_61_method_6_code 130 = .ok (.aload_n 3, 1) := by decide +kernel
theorem d_wl_131 : decode prog_61_method_6_code 131 = .ok (.aload_n 1, 1) := by decide +kernel
theorem d_wl_132 : decode prog_61_method_6_code 132 = .ok (.invokevirtual 60, 3) := by decide +kernel
theorem d_wl_135 : decode prog_61_method_6_code 135 = .ok (.goto (-31), 3) := by decide +kernel
theorem d_wl_138 : decode prog_61_method_6_code 138 = .ok (.aload_n 1, 1) := by decide +kernel
theorem d_wl_139 : decode prog_61_method_6_code 139 = .ok (.ldc 92, 2) := by decide +kernel
theorem d_wl_141 : decode prog_61_method_6_code 141 = .ok (.invokevirtual 31, 3) := by decide +kernel
theorem d_wl_144 : decode prog_61_method_6_code 144 = .ok (.aload_n 0, 1) := by decide +kernel
theorem d_wl_145 : decode prog_61_method_6_code 145 = .ok (.getfield 23, 3) := by decide +kernel
theorem d_wl_148 : decode prog_61_method_6_code 148 = .ok (.invokevirtual 31, 3) := by decide +kernel
theorem d_wl_151 : decode prog_61_method_6_code 151 = .ok (.bipush 62, 2) := by decide +kernel
theorem d_wl_153 : decode prog_61_method_6_code 153 = .ok (.invokevirtual 27, 3) := by decide +kernel
theorem d_wl_156 : decode prog_61_method_6_code 156 = .ok (.pop, 1) := by decide +kernel
theorem d_wl_157 : decode prog_61_method_6_code 157 = .ok (.return_, 1) := by decide +kernel
theorem pd_wl : parseMethodDescriptor "(Ljava/lang/StringBuilder;)V" = some ⟨[(.object "java/lang/StringBuilder")], none⟩ := by decide +kernel
theorem pf_wl : plainFor (⟨"com/example/roomwire/roomwire/qunar/XmlElement", "writeTo", "(Ljava/lang/StringBuilder;)V"⟩ : MethodName) = true := by first | exact plainFor_of_name (by first | (simp [plainName, overriddenIn]; done) | decide +kernel) | decide +kernel
set_option maxRecDepth 65536 in
set_option maxHeartbeats 40000000 in
theorem kw_wl (l : Launch) (Z : State) (a0 : Array Value) (hw : ∀ d ∈ tables_1, d.before a0 Z = true) (cs : Int32) (hcs : ¬ cs = 0) (SC : Sta Z Z.heap "java/lang/String" "COMPACT_STRINGS" "Z" (.int cs)) (hEW : EW Z a0 EL) (de b d o : Addr) (p : Int32) (bs : List Int32) (B : Nat) (h0 : Heap) (n0 : Nat) (OD : Old Z n0 h0) (SB : Sq Z h0 b d bs) (LF : Lf Z h0 n0 de 0 B o p) (hBb : B ≤ b) (hBd : B ≤ d) (hdn : de < n0) (hbd : b ≠ d) (gb : n0 ≤ b) (gd : n0 ≤ d) (hfit : bs.length + 4 ≤ 112) : KW true l Z M_wl n0 (fun v h => v = none ∧ ∃ e, App Z h0 n0 b d h e (bs ++ [60, p, 47, 62])) (EL, fun _ => False) h0 0 0 0 #[.val (.ref o), .val (.ref b), .unset, .unset] [] := by
  obtain ⟨l_, XB, LA, hlB, -, -⟩ := id LF
  obtain ⟨w, dw, nm, t, -, ⟨ko, kw, kdw, knm, kt⟩, XO, XN, XA, XC, XT, SN, SW, MW⟩ := id XB
  have hob : o ≠ b := Nat.ne_of_lt (Nat.lt_of_lt_of_le (Nat.lt_trans ko hlB) hBb)
  have hod : o ≠ d := Nat.ne_of_lt (Nat.lt_of_lt_of_le (Nat.lt_trans ko hlB) hBd)
  have hwb : w ≠ b := Nat.ne_of_lt (Nat.lt_of_lt_of_le (Nat.lt_trans kw hlB) hBb)
  have hwd : w ≠ d := Nat.ne_of_lt (Nat.lt_of_lt_of_le (Nat.lt_trans kw hlB) hBd)
  have hdwb : dw ≠ b := Nat.ne_of_lt (Nat.lt_of_lt_of_le (Nat.lt_trans kdw hlB) hBb)
  have hdwd : dw ≠ d := Nat.ne_of_lt (Nat.lt_of_lt_of_le (Nat.lt_trans kdw hlB) hBd)
  have hnmb : nm ≠ b := Nat.ne_of_lt (Nat.lt_of_lt_of_le (Nat.lt_trans knm hlB) hBb)
  have hnmd : nm ≠ d := Nat.ne_of_lt (Nat.lt_of_lt_of_le (Nat.lt_trans knm hlB) hBd)
  have htb : t ≠ b := Nat.ne_of_lt (Nat.lt_of_lt_of_le (Nat.lt_trans kt hlB) hBb)
  have htd : t ≠ d := Nat.ne_of_lt (Nat.lt_of_lt_of_le (Nat.lt_trans kt hlB) hBd)
  have hl_b : l_ ≠ b := Nat.ne_of_lt (Nat.lt_of_lt_of_le hlB hBb)
  have hl_d : l_ ≠ d := Nat.ne_of_lt (Nat.lt_of_lt_of_le hlB hBd)
  have hdeb : de ≠ b := Nat.ne_of_lt (Nat.lt_of_lt_of_le hdn gb)
  have hded : de ≠ d := Nat.ne_of_lt (Nat.lt_of_lt_of_le hdn gd)
  have EN0 := own_EN Z a0 hw
  have AP0 : App Z h0 n0 b d h0 d bs := App.start SB hbd gd
  refine k_aloadN d_wl_0 rfl rfl rfl ?_
  refine k_bipush (z := (60 : Int32)) d_wl_1 rfl (by decide) ?_
  have f1 := (OD.keep AP0.2.2.2.1 (allS gb (allS gd all0)))
  refine k_callVirtual (argsL := [(.int (60 : Int32))]) (rest := []) (W0 := 0) d_wl_3 rfl (mt_sac l Z a0 hw cs hcs SC hEW b d bs h0 n0 f1 AP0.2.2.2.2 (60 : Int32) (by decide) AP0.2.2.1 gb AP0.2.1 (by first | omega | (simp only [List.length_append, List.length_cons, List.length_nil]; omega))) (kp_app EN0 AP0.2.2.2.2) AP0.2.2.2.2.1.exa (hw _ (List.mem_of_getElem? (i := 152) rfl)) (hw _ (List.mem_of_getElem? (i := 153) rfl)) (hw _ (List.mem_of_getElem? (i := 155) rfl)) (hw _ (List.mem_of_getElem? (i := 111) rfl)) rfl (hw _ (List.mem_of_getElem? (i := 154) rfl)) (hw _ (List.mem_of_getElem? (i := 156) rfl)) (hw _ (List.mem_of_getElem? (i := 35) rfl)) (by decide) pd_sac rfl rfl rfl rfl (by decide) (by decide) (by decide) (by decide) ?_
  rintro _ h2 - ⟨rfl, e3, AN4⟩
  rw [show nbI (60 : Int32) = 60 by decide] at AN4
  have AN4b : App Z h0 n0 b d h2 e3 (bs ++ [60]) := AN4
  have AP5 := AP0.trans AN4b
  refine KW.sub (S' := fun _ => False) (fun x hx => hx.elim) ?_
  show KW true l Z M_wl n0 (fun v h => v = none ∧ ∃ e, App Z h0 n0 b d h e (bs ++ [60, p, 47, 62])) (EL, fun _ => False) h2 1 112 6 #[.val (.ref o), .val (.ref b), .unset, .unset] [(.ref b)]
  refine k_aloadN d_wl_6 rfl rfl rfl ?_
  have f6 := (XN.keep AP5.2.2.2.1 (ninS hob (ninS hod nin0)))
  refine k_getField d_wl_7 rfl (hw _ (List.mem_of_getElem? (i := 79) rfl)) Via.refl f6 ?_
  have f7 := (SN.keep AP5.2.2.2.1 (ninS hnmb (ninS hnmd nin0)) (ninS htb (ninS htd nin0)))
  have f8 := (OD.keep AP5.2.2.2.1 (allS gb (allS gd all0)))
  refine k_callVirtual (argsL := [(.ref nm)]) (rest := []) (W0 := 0) d_wl_10 rfl (mt_sas l Z a0 hw cs hcs SC hEW b e3 nm t (bs ++ [60]) [p] h2 n0 f8 AP5.2.2.2.2 f7 AP5.2.2.1 gb AP5.2.1 (by first | omega | (simp only [List.length_append, List.length_cons, List.length_nil]; omega))) (kp_app EN0 AP5.2.2.2.2) AP5.2.2.2.2.1.exa (hw _ (List.mem_of_getElem? (i := 167) rfl)) (hw _ (List.mem_of_getElem? (i := 115) rfl)) (hw _ (List.mem_of_getElem? (i := 117) rfl)) (hw _ (List.mem_of_getElem? (i := 111) rfl)) rfl (hw _ (List.mem_of_getElem? (i := 116) rfl)) (hw _ (List.mem_of_getElem? (i := 118) rfl)) (hw _ (List.mem_of_getElem? (i := 35) rfl)) (by decide) pd_sas rfl rfl rfl rfl (by decide) (by decide) (by decide) (by decide) ?_
  rintro _ h9 - ⟨rfl, e10, AN11⟩
  have AN11b : App Z h2 n0 b e3 h9 e10 ((bs ++ [60]) ++ [p]) := AN11
  have AP12 := AP5.trans AN11b
  refine KW.sub (S' := fun _ => False) (fun x hx => hx.elim) ?_
  show KW true l Z M_wl n0 (fun v h => v = none ∧ ∃ e, App Z h0 n0 b d h e (bs ++ [60, p, 47, 62])) (EL, fun _ => False) h9 2 224 13 #[.val (.ref o), .val (.ref b), .unset, .unset] [(.ref b)]
  refine k_aloadN d_wl_13 rfl rfl rfl ?_
  have f13 := (XA.keep AP12.2.2.2.1 (ninS hob (ninS hod nin0)))
  refine k_getField d_wl_14 rfl (hw _ (List.mem_of_getElem? (i := 51) rfl)) Via.refl f13 ?_
  have f14 := (SW.keep AP12.2.2.2.1 (ninS hwb (ninS hwd nin0)) (ninS hdwb (ninS hdwd nin0)))
  have f15 := (MW.keep AP12.2.2.2.1 (ninS hwb (ninS hwd nin0)))
  have f16 := (OD.keep AP12.2.2.2.1 (allS gb (allS gd all0)))
  refine k_callVirtual (argsL := [(.ref w)]) (rest := []) (W0 := 0) d_wl_17 rfl (mt_spc l Z a0 hw cs hcs SC hEW b e10 w dw ((bs ++ [60]) ++ [p]) h9 n0 f16 AP12.2.2.2.2 f14 f15 AP12.2.2.1 hwb.symm hdwb.symm (AP12.ne SW.lt hwd) (AP12.ne SW.ltv hdwd) gb AP12.2.1 (by first | omega | (simp only [List.length_append, List.length_cons, List.length_nil]; omega))) (kp_app EN0 AP12.2.2.2.2) AP12.2.2.2.2.1.exa (hw _ (List.mem_of_getElem? (i := 168) rfl)) (hw _ (List.mem_of_getElem? (i := 169) rfl)) (hw _ (List.mem_of_getElem? (i := 171) rfl)) (hw _ (List.mem_of_getElem? (i := 111) rfl)) rfl (hw _ (List.mem_of_getElem? (i := 170) rfl)) (hw _ (List.mem_of_getElem? (i := 172) rfl)) (hw _ (List.mem_of_getElem? (i := 35) rfl)) (by decide) pd_spc rfl rfl rfl rfl (by decide) (by decide) (by decide) (by decide) ?_
  rintro _ h17 - ⟨rfl, e18, AN19⟩
  have AN19b : App Z h9 n0 b e10 h17 e18 ((bs ++ [60]) ++ [p]) := AN19
  have AP20 := AP12.trans AN19b
  refine KW.sub (S' := fun _ => False) (fun x hx => hx.elim) ?_
  show KW true l Z M_wl n0 (fun v h => v = none ∧ ∃ e, App Z h0 n0 b d h e (bs ++ [60, p, 47, 62])) (EL, fun _ => False) h17 3 336 20 #[.val (.ref o), .val (.ref b), .unset, .unset] [(.ref b)]
  refine k_pop d_wl_20 rfl rfl ?_
  refine k_aloadN d_wl_21 rfl rfl rfl ?_
  have f21 := (XT.keep AP20.2.2.2.1 (ninS hob (ninS hod nin0)))
  refine k_getField d_wl_22 rfl (hw _ (List.mem_of_getElem? (i := 212) rfl)) Via.refl f21 ?_
  refine k_ifnullY (pc' := 65) d_wl_25 (by decide) (by decide) ?_
  refine k_aloadN d_wl_65 rfl rfl rfl ?_
  have f22 := (XC.keep AP20.2.2.2.1 (ninS hob (ninS hod nin0)))
  refine k_getField d_wl_66 rfl (hw _ (List.mem_of_getElem? (i := 77) rfl)) Via.refl f22 ?_
  have f23 := (LA.keep AP20.2.2.2.1 (ninS hl_b (ninS hl_d nin0)) (ninS hdeb (ninS hded nin0)))
  have f24 := (LA.1.keep AP20.2.2.2.1)
  refine k_callFace (argsL := []) (rest := []) (W0 := 0) d_wl_69 rfl (mt_alm l Z a0 hw cs hcs SC hEW de l_ de 0 [] h17 n0 f23) (Kp.pure (fun _ _ q => q.2.symm)) f24 (hw _ (List.mem_of_getElem? (i := 214) rfl)) (hw _ (List.mem_of_getElem? (i := 215) rfl)) (hw _ (List.mem_of_getElem? (i := 216) rfl)) (hw _ (List.mem_of_getElem? (i := 217) rfl)) (hw _ (List.mem_of_getElem? (i := 218) rfl)) (hw _ (List.mem_of_getElem? (i := 219) rfl)) (hw _ (List.mem_of_getElem? (i := 220) rfl)) (hw _ (List.mem_of_getElem? (i := 221) rfl)) (hw _ (List.mem_of_getElem? (i := 222) rfl)) (hw _ (List.mem_of_getElem? (i := 55) rfl)) (by decide) rfl pd_alm rfl rfl rfl rfl (by decide) (by decide) (by decide) (by decide) ?_
  rintro _ _ - ⟨rfl, rfl⟩
  rw [if_pos rfl]
  refine KW.sub (S' := fun _ => False) (fun x hx => hx.elim) ?_
  show KW true l Z M_wl n0 (fun v h => v = none ∧ ∃ e, App Z h0 n0 b d h e (bs ++ [60, p, 47, 62])) (EL, fun _ => False) h17 3 336 74 #[.val (.ref o), .val (.ref b), .unset, .unset] [(.int (1 : Int32))]
  refine k_ifc (pc1 := 87) (pc' := 77) d_wl_74 (by decide) (by decide) rfl (fun (cd1 : (1 : Int32) = (0 : Int32)) => False.elim (by exact absurd cd1 (by decide))) (fun (cd1 : ¬ (1 : Int32) = (0 : Int32)) => ?_)
  refine k_aloadN d_wl_77 rfl rfl rfl ?_
  refine k_ldcS (sl := 8) (vs := [Value.int (47 : Int32), Value.int (62 : Int32)]) (z := (2 : Int32)) d_wl_78 rfl (hw _ (List.mem_of_getElem? (i := 225) rfl)) (own_wS Z a0 hw) (List.mem_of_getElem? (i := 1) rfl) ⟨by decide +kernel, by decide +kernel⟩ (by decide) (by decide) (by decide +kernel) (by decide) (by decide) (by decide) ?_
  intro a25 b26 ck27 h28 E29 X30 F31 F32 A33 N34
  have SG35 : Sg Z h28 a25 b26 [47, 62] := ⟨ck27, X30, F31, F32, A33, by decide⟩
  have AP36 := AP20.ext E29
  show KW true l Z M_wl n0 (fun v h => v = none ∧ ∃ e, App Z h0 n0 b d h e (bs ++ [60, p, 47, 62])) (EL, fun _ => False) h28 5 348 80 #[.val (.ref o), .val (.ref b), .unset, .unset] [(.ref a25), (.ref b)]
  have f37 := (OD.keep AP36.2.2.2.1 (allS gb (allS gd all0)))
  refine k_callVirtual (argsL := [(.ref a25)]) (rest := []) (W0 := 0) d_wl_80 rfl (mt_sas l Z a0 hw cs hcs SC hEW b e18 a25 b26 ((bs ++ [60]) ++ [p]) [47, 62] h28 n0 f37 AP36.2.2.2.2 SG35 AP36.2.2.1 gb AP36.2.1 (by first | omega | (simp only [List.length_append, List.length_cons, List.length_nil]; omega))) (kp_app EN0 AP36.2.2.2.2) AP36.2.2.2.2.1.exa (hw _ (List.mem_of_getElem? (i := 167) rfl)) (hw _ (List.mem_of_getElem? (i := 115) rfl)) (hw _ (List.mem_of_getElem? (i := 117) rfl)) (hw _ (List.mem_of_getElem? (i := 111) rfl)) rfl (hw _ (List.mem_of_getElem? (i := 116) rfl)) (hw _ (List.mem_of_getElem? (i := 118) rfl)) (hw _ (List.mem_of_getElem? (i := 35) rfl)) (by decide) pd_sas rfl rfl rfl rfl (by decide) (by decide) (by decide) (by decide) ?_
  rintro _ h38 - ⟨rfl, e39, AN40⟩
  have AN40b : App Z h28 n0 b e18 h38 e39 (((bs ++ [60]) ++ [p]) ++ [47, 62]) := AN40
  have AP41 := AP36.trans AN40b
  refine KW.sub (S' := fun _ => False) (fun x hx => hx.elim) ?_
  show KW true l Z M_wl n0 (fun v h => v = none ∧ ∃ e, App Z h0 n0 b d h e (bs ++ [60, p, 47, 62])) (EL, fun _ => False) h38 6 460 83 #[.val (.ref o), .val (.ref b), .unset, .unset] [(.ref b)]
  refine k_pop d_wl_83 rfl rfl ?_
  refine k_goto (pc' := 157) d_wl_84 (by decide) (by decide) ?_
  exact k_retVoid d_wl_157 rfl (by decide) (by decide) ⟨rfl, e39, by have q := AP41; simp only [List.append_assoc, List.cons_append, List.nil_append] at q; exact q⟩
theorem mt_wl (l : Launch) (Z : State) (a0 : Array Value) (hw : ∀ d ∈ tables_1, d.before a0 Z = true) (cs : Int32) (hcs : ¬ cs = 0) (SC : Sta Z Z.heap "java/lang/String" "COMPACT_STRINGS" "Z" (.int cs)) (hEW : EW Z a0 EL) (de b d o : Addr) (p : Int32) (bs : List Int32) (B : Nat) (h0 : Heap) (n0 : Nat) (OD : Old Z n0 h0) (SB : Sq Z h0 b d bs) (LF : Lf Z h0 n0 de 0 B o p) (hBb : B ≤ b) (hBd : B ≤ d) (hdn : de < n0) (hbd : b ≠ d) (gb : n0 ≤ b) (gd : n0 ≤ d) (hfit : bs.length + 4 ≤ 112) : MtW l Z M_wl [] n0 #[(.ref o), (.ref b)] (EL, fun _ => False) h0 (fun v h => v = none ∧ ∃ e, App Z h0 n0 b d h e (bs ++ [60, p, 47, 62])) :=
  mtw_of_kw (a0 := a0) (P := (EL, fun _ => False)) pf_wl hEW (fun m => by first | (simp [entryFrame, mkF, argsToLocals, Value.category]; done) | rfl) (kw_wl l Z a0 hw cs hcs SC hEW de b d o p bs B h0 n0 OD SB LF hBb hBd hdn hbd gb gd hfit)
abbrev M_wp : MD := ((⟨"com/example/roomwire/roomwire/qunar/XmlElement", "writeTo", "(Ljava/lang/StringBuilder;)V"⟩ : MethodName), prog_61_method_6_code, 4, none, { frames := 8, cells := 31, slots := 2520, locals := 148 })
theorem d_wp_0 : decode prog_61_method_6_code 0 = .ok (.aload_n 1, 1) := by decide +kernel
theorem d_wp_1 : decode prog_61_method_6_code 1 = .ok (.bipush 60, 2) := by decide +kernel
theorem d_wp_3 : decode prog_61_method_6_code 3 = .ok (.invokevirtual 27, 3) := by decide +kernel
theorem d_wp_6 : decode prog_61_method_6_code 6 = .ok (.aload_n 0, 1) := by decide +kernel
theorem d_wp_7 : decode prog_61_method_6_code 7 = .ok (.getfield 23, 3) := by decide +kernel
theorem d_wp_10 : decode prog_61_method_6_code 10 = .ok (.invokevirtual 31, 3) := by decide +kernel
theorem d_wp_13 : decode prog_61_method_6_code 13 = .ok (.aload_n 0, 1) := by decide +kernel
theorem d_wp_14 : decode prog_61_method_6_code 14 = .ok (.getfield 10, 3) := by decide +kernel
theorem d_wp_17 : decode prog_61_method_6_code 17 = .ok (.invokevirtual 68, 3) := by decide +kernel
theorem d_wp_20 : decode prog_61_method_6_code 20 = .ok (.pop, 1) := by decide +kernel
theorem d_wp_21 : decode prog_61_method_6_code 21 = .ok (.aload_n 0, 1) := by decide +kernel
theorem d_wp_22 : decode prog_61_method_6_code 22 = .ok (.getfield 51, 3) := by decide +kernel
theorem d_wp_25 : decode prog_61_method_6_code 25 = .ok (.ifnull 40, 3) := by decide +kernel
theorem d_wp_28 : decode prog_61_method_6_code 28 = .ok (.aload_n 1, 1) := by decide +kernel
theorem d_wp_29 : decode prog_61_method_6_code 29 = .ok (.bipush 62, 2) := by decide +kernel
theorem d_wp_31 : decode prog_61_method_6_code 31 = .ok (.invokevirtual 27, 3) := by decide +kernel
theorem d_wp_34 : decode prog_61_method_6_code 34 = .ok (.aload_n 0, 1) := by decide +kernel
theorem d_wp_35 : decode prog_61_method_6_code 35 = .ok (.getfield 51, 3) := by decide +kernel
theorem d_wp_38 : decode prog_61_method_6_code 38 = .ok (.invokestatic 36, 3) := by decide +kernel
theorem d_wp_41 : decode prog_61_method_6_code 41 = .ok (.invokevirtual 31, 3) := by decide +kernel
theorem d_wp_44 : decode prog_61_method_6_code 44 = .ok (.ldc 71, 2) := by decide +kernel
theorem d_wp_46 : decode prog_61_method_6_code 46 = .ok (.invokevirtual 31, 3) := by decide +kernel
theorem d_wp_49 : decode prog_61_method_6_code 49 = .ok (.aload_n 0, 1) := by decide +kernel
theorem d_wp_50 : decode prog_61_method_6_code 50 = .ok (.getfield 23, 3) := by decide +kernel
theorem d_wp_53 : decode prog_61_method_6_code 53 = .ok (.invokevirtual 31, 3) := by decide +kernel
theorem d_wp_56 : decode prog_61_method_6_code 56 = .ok (.bipush 62, 2) := by decide +kernel
theorem d_wp_58 : decode prog_61_method_6_code 58 = .ok (.invokevirtual 27, 3) := by decide +kernel
theorem d_wp_61 : decode prog_61_method_6_code 61 = .ok (.pop, 1) := by decide +kernel
theorem d_wp_62 : decode prog_61_method_6_code 62 = .ok (.goto 95, 3) := by decide +kernel
theorem d_wp_65 : decode prog_61_method_6_code 65 = .ok (.aload_n 0, 1) := by decide +kernel
theorem d_wp_66 : decode prog_61_method_6_code 66 = .ok (.getfield 19, 3) := by decide +kernel
theorem d_wp_69 : decode prog_61_method_6_code 69 = .ok (.invokeinterface 73 1, 5) := by decide +kernel
theorem d_wp_74 : decode prog_61_method_6_code 74 = .ok (.ifCond .eq 13, 3) := by decide +kernel
theorem d_wp_77 : decode prog_61_method_6_code 77 = .ok (.aload_n 1, 1) := by decide +kernel
theorem d_wp_78 : decode prog_61_method_6_code 78 = .ok (.ldc 77, 2) := by decide +kernel
theorem d_wp_80 : decode prog_61_method_6_code 80 = .ok (.invokevirtual 31, 3) := by decide +kernel
theorem d_wp_83 : decode prog_61_method_6_code 83 = .ok (.pop, 1) := by decide +kernel
theorem d_wp_84 : decode prog_61_method_6_code 84 = .ok (.goto 73, 3) := by decide +kernel
theorem d_wp_87 : decode prog_61_method_6_code 87 = .ok (.aload_n 1, 1) := by decide +kernel
theorem d_wp_88 : decode prog_61_method_6_code 88 = .ok (.bipush 62, 2) := by decide +kernel
theorem d_wp_90 : decode prog_61_method_6_code 90 = .ok (.invokevirtual 27, 3) := by decide +kernel
theorem d_wp_93 : decode prog_61_method_6_code 93 = .ok (.pop, 1) := by decide +kernel
theorem d_wp_94 : decode prog_61_method_6_code 94 = .ok (.aload_n 0, 1) := by decide +kernel
theorem d_wp_95 : decode prog_61_method_6_code 95 = .ok (.getfield 19, 3) := by decide +kernel
theorem d_wp_98 : decode prog_61_method_6_code 98 = .ok (.invokeinterface 79 1, 5) := by decide +kernel
theorem d_wp_103 : decode prog_61_method_6_code 103 = .ok (.astore_n 2, 1) := by decide +kernel
theorem d_wp_104 : decode prog_61_method_6_code 104 = .ok (.aload_n 2, 1) := by decide +kernel
theorem d_wp_105 : decode prog_61_method_6_code 105 = .ok (.invokeinterface 83 1, 5) := by decide +kernel
theorem d_wp_110 : decode prog_61_method_6_code 110 = .ok (.ifCond .eq 28, 3) := by decide +kernel
theorem d_wp_113 : decode prog_61_method_6_code 113 = .ok (.aload_n 2, 1) := by decide +kernel
theorem d_wp_114 : decode prog_61_method_6_code 114 = .ok (.invokeinterface 88 1, 5) := by decide +kernel
theorem d_wp_119 : decode prog_61_method_6_code 119 = .ok (.checkcast 11, 3) := by decide +kernel
theorem d_wp_122 : decode prog_61_method_6_code 122 = .ok (.astore_n 3, 1) := by decide +kernel
theorem d_wp_123 : decode prog_61_method_6_code 123 = .ok (.aload_n 1, 1) := by decide +kernel
theorem d_wp_124 : decode prog_61_method_6_code 124 = .ok (.bipush 10, 2) := by decide +kernel
theorem d_wp_126 : decode prog_61_method_6_code 126 = .ok (.invokevirtual 27, 3) := by decide +kernel
theorem d_wp_129 : decode prog_61_method_6_code 129 = .ok (.pop, 1) := by decide +kernel
theorem d_wp_130 : decode prog_61_method_6_code 130 = .ok (.aload_n 3, 1) := by decide +kernel
theorem d_wp_131 : decode prog_61_method_6_code 131 = .ok (.aload_n 1, 1) := by decide +kernel
theorem d_wp_132 : decode prog_61_method_6_code 132 = .ok (.invokevirtual 60, 3) := by decide +kernel
theorem d_wp_135 : decode prog_61_method_6_code 135 = .ok (.goto (-31), 3) := by decide +kernel
theorem d_wp_138 : decode prog_61_method_6_code 138 = .ok (.aload_n 1, 1) := by decide +kernel
theorem d_wp_139 : decode prog_61_method_6_code 139 = .ok (.ldc 92, 2) := by decide +kernel
theorem d_wp_141 : decode prog_61_method_6_code 141 = .ok (.invokevirtual 31, 3) := by decide +kernel
theorem d_wp_144 : decode prog_61_method_6_code 144 = .ok (.aload_n 0, 1) := by decide +kernel
theorem d_wp_145 : decode prog_61_method_6_code 145 = .ok (.getfield 23, 3) := by decide +kernel
theorem d_wp_148 : decode prog_61_method_6_code 148 = .ok (.invokevirtual 31, 3) := by decide +kernel
theorem d_wp_151 : decode prog_61_method_6_code 151 = .ok (.bipush 62, 2) := by decide +kernel
theorem d_wp_153 : decode prog_61_method_6_code 153 = .ok (.invokevirtual 27, 3) := by decide +kernel
theorem d_wp_156 : decode prog_61_method_6_code 156 = .ok (.pop, 1) := by decide +kernel
theorem d_wp_157 : decode prog_61_method_6_code 157 = .ok (.return_, 1) := by decide +kernel
theorem pd_wp : parseMethodDescriptor "(Ljava/lang/StringBuilder;)V" = some ⟨[(.object "java/lang/StringBuilder")], none⟩ := by decide +kernel
theorem pf_wp : plainFor (⟨"com/example/roomwire/roomwire/qunar/XmlElement", "writeTo", "(Ljava/lang/StringBuilder;)V"⟩ : MethodName) = true := by first | exact plainFor_of_name (by first | (simp [plainName, overriddenIn]; done) | decide +kernel) | decide +kernel
set_option maxRecDepth 65536 in
set_option maxHeartbeats 40000000 in
theorem kw_wp0 (l : Launch) (Z : State) (a0 : Array Value) (hw : ∀ d ∈ tables_1, d.before a0 Z = true) (cs : Int32) (hcs : ¬ cs = 0) (SC : Sta Z Z.heap "java/lang/String" "COMPACT_STRINGS" "Z" (.int cs)) (hEW : EW Z a0 EL) (de b d o l_ ed : Addr) (p mc : Int32) (ks : List (Addr × Int32)) (bs : List Int32) (B : Nat) (h0 : Heap) (n0 : Nat) (OD : Old Z n0 h0) (SB : Sq Z h0 b d bs) (PA : Pa Z h0 n0 de B o l_ ed mc (ks.map Prod.fst) p) (hks : ∀ c ∈ ks, Lf Z h0 n0 de 0 B c.1 c.2) (hBb : B ≤ b) (hBd : B ≤ d) (hdn : de < n0) (hbd : b ≠ d) (gb : n0 ≤ b) (gd : n0 ≤ d) (X3 : Slot) (hX : X3 = .unset ∨ ∃ q, X3 = .val (.ref q)) (h : Heap) (e i : Addr) (pr rs : List (Addr × Int32)) (hpr : ks = pr ++ rs) (hr : rs.length = 0) (T : List Int32) (hT : T.length + 5 * rs.length ≤ 57) (hTT : T ++ kids rs = (((bs ++ [60]) ++ [p]) ++ [62]) ++ kids ks) (LP : Lp Z h0 n0 b d l_ mc h e i pr.length T) : KW true l Z M_wp n0 (fun v h => v = none ∧ ∃ e, App Z h0 n0 b d h e ((((bs ++ [60]) ++ [p]) ++ [62]) ++ kids ks ++ [10, 60, 47, p, 62])) (EL, fun _ => False) h 26 2168 104 #[.val (.ref o), .val (.ref b), .val (.ref i), X3] [] := by
  obtain ⟨XB, LA, hlB, heB⟩ := id PA
  obtain ⟨w, dw, nm, t, -, ⟨ko, kw, kdw, knm, kt⟩, XO, XN, XA, XC, XT, SN, SW, MW⟩ := id XB
  have hob : o ≠ b := Nat.ne_of_lt (Nat.lt_of_lt_of_le (Nat.lt_trans ko hlB) hBb)
  have hod : o ≠ d := Nat.ne_of_lt (Nat.lt_of_lt_of_le (Nat.lt_trans ko hlB) hBd)
  have hwb : w ≠ b := Nat.ne_of_lt (Nat.lt_of_lt_of_le (Nat.lt_trans kw hlB) hBb)
  have hwd : w ≠ d := Nat.ne_of_lt (Nat.lt_of_lt_of_le (Nat.lt_trans kw hlB) hBd)
  have hdwb : dw ≠ b := Nat.ne_of_lt (Nat.lt_of_lt_of_le (Nat.lt_trans kdw hlB) hBb)
  have hdwd : dw ≠ d := Nat.ne_of_lt (Nat.lt_of_lt_of_le (Nat.lt_trans kdw hlB) hBd)
  have hnmb : nm ≠ b := Nat.ne_of_lt (Nat.lt_of_lt_of_le (Nat.lt_trans knm hlB) hBb)
  have hnmd : nm ≠ d := Nat.ne_of_lt (Nat.lt_of_lt_of_le (Nat.lt_trans knm hlB) hBd)
  have htb : t ≠ b := Nat.ne_of_lt (Nat.lt_of_lt_of_le (Nat.lt_trans kt hlB) hBb)
  have htd : t ≠ d := Nat.ne_of_lt (Nat.lt_of_lt_of_le (Nat.lt_trans kt hlB) hBd)
  have hl_b : l_ ≠ b := Nat.ne_of_lt (Nat.lt_of_lt_of_le hlB hBb)
  have hl_d : l_ ≠ d := Nat.ne_of_lt (Nat.lt_of_lt_of_le hlB hBd)
  have hdeb : de ≠ b := Nat.ne_of_lt (Nat.lt_of_lt_of_le hdn gb)
  have hded : de ≠ d := Nat.ne_of_lt (Nat.lt_of_lt_of_le hdn gd)
  have EN0 := own_EN Z a0 hw
  have hedb : ed ≠ b := Nat.ne_of_lt (Nat.lt_of_lt_of_le heB hBb)
  have hedd : ed ≠ d := Nat.ne_of_lt (Nat.lt_of_lt_of_le heB hBd)
  have hBh : B ≤ h0.size := Nat.le_trans hBb (Nat.le_of_lt SB.lt)
  obtain rfl : rs = [] := List.length_eq_zero_iff.mp hr
  rw [kids, List.append_nil] at hTT
  rw [List.length_nil] at hT
  refine k_aloadN d_wp_104 rfl rfl rfl ?_
  have f1 := (LA.keep LP.1.2.2.2.1 (ninS hl_b (ninS hl_d nin0)) (ninS hedb (ninS hedd nin0)))
  refine k_callFace (argsL := []) (rest := []) (W0 := 0) d_wp_105 rfl (mt_itx l Z a0 hw cs hcs SC hEW i de l_ ed pr.length mc (ks.map Prod.fst) h n0 f1 LP.2.1 (by rw [hpr, List.length_map, List.length_append]; omega)) (Kp.pure (fun _ _ q => q.2.symm)) LP.2.1.1 (hw _ (List.mem_of_getElem? (i := 341) rfl)) (hw _ (List.mem_of_getElem? (i := 342) rfl)) (hw _ (List.mem_of_getElem? (i := 343) rfl)) (hw _ (List.mem_of_getElem? (i := 344) rfl)) (hw _ (List.mem_of_getElem? (i := 345) rfl)) (hw _ (List.mem_of_getElem? (i := 346) rfl)) (hw _ (List.mem_of_getElem? (i := 347) rfl)) (hw _ (List.mem_of_getElem? (i := 348) rfl)) (hw _ (List.mem_of_getElem? (i := 349) rfl)) (hw _ (List.mem_of_getElem? (i := 328) rfl)) (by decide) rfl pd_itx rfl rfl rfl rfl (by decide) (by decide) (by decide) (by decide) ?_
  rintro _ _ - ⟨rfl, rfl⟩
  rw [if_pos (by rw [hpr, List.length_map, List.length_append]; omega)]
  refine KW.sub (S' := fun _ => False) (fun x hx => hx.elim) ?_
  show KW true l Z M_wp n0 (fun v h => v = none ∧ ∃ e, App Z h0 n0 b d h e ((((bs ++ [60]) ++ [p]) ++ [62]) ++ kids ks ++ [10, 60, 47, p, 62])) (EL, fun _ => False) h 26 2168 110 #[.val (.ref o), .val (.ref b), .val (.ref i), X3] [(.int (0 : Int32))]
  refine k_ifc (pc1 := 138) (pc' := 113) d_wp_110 (by decide) (by decide) rfl (fun (cd1 : (0 : Int32) = (0 : Int32)) => ?_) (fun (cd1 : ¬ (0 : Int32) = (0 : Int32)) => False.elim (by exact absurd cd1 (by decide)))
  refine k_aloadN d_wp_138 rfl rfl rfl ?_
  refine k_ldcS (sl := 12) (vs := [Value.int (10 : Int32), Value.int (60 : Int32), Value.int (47 : Int32)]) (z := (3 : Int32)) d_wp_139 rfl (hw _ (List.mem_of_getElem? (i := 369) rfl)) (own_wS Z a0 hw) (List.mem_of_getElem? (i := 2) rfl) ⟨by decide +kernel, by decide +kernel⟩ (by decide) (by decide) (by decide +kernel) (by decide) (by decide) (by decide) ?_
  intro a2 b3 ck4 h5 E6 X7 F8 F9 A10 N11
  have SG12 : Sg Z h5 a2 b3 [10, 60, 47] := ⟨ck4, X7, F8, F9, A10, by decide⟩
  have AP13 := LP.1.ext E6
  show KW true l Z M_wp n0 (fun v h => v = none ∧ ∃ e, App Z h0 n0 b d h e ((((bs ++ [60]) ++ [p]) ++ [62]) ++ kids ks ++ [10, 60, 47, p, 62])) (EL, fun _ => False) h5 28 2184 141 #[.val (.ref o), .val (.ref b), .val (.ref i), X3] [(.ref a2), (.ref b)]
  have f14 := (OD.keep AP13.2.2.2.1 (allS gb (allS gd all0)))
  refine k_callVirtual (argsL := [(.ref a2)]) (rest := []) (W0 := 0) d_wp_141 rfl (mt_sas l Z a0 hw cs hcs SC hEW b e a2 b3 T [10, 60, 47] h5 n0 f14 AP13.2.2.2.2 SG12 AP13.2.2.1 gb AP13.2.1 (by first | omega | (simp only [List.length_append, List.length_cons, List.length_nil]; omega))) (kp_app EN0 AP13.2.2.2.2) AP13.2.2.2.2.1.exa (hw _ (List.mem_of_getElem? (i := 167) rfl)) (hw _ (List.mem_of_getElem? (i := 115) rfl)) (hw _ (List.mem_of_getElem? (i := 117) rfl)) (hw _ (List.mem_of_getElem? (i := 111) rfl)) rfl (hw _ (List.mem_of_getElem? (i := 116) rfl)) (hw _ (List.mem_of_getElem? (i := 118) rfl)) (hw _ (List.mem_of_getElem? (i := 35) rfl)) (by decide) pd_sas rfl rfl rfl rfl (by decide) (by decide) (by decide) (by decide) ?_
  rintro _ h15 - ⟨rfl, e16, AN17⟩
  have AN17b : App Z h5 n0 b e h15 e16 (T ++ [10, 60, 47]) := AN17
  have AP18 := AP13.trans AN17b
  refine KW.sub (S' := fun _ => False) (fun x hx => hx.elim) ?_
  show KW true l Z M_wp n0 (fun v h => v = none ∧ ∃ e, App Z h0 n0 b d h e ((((bs ++ [60]) ++ [p]) ++ [62]) ++ kids ks ++ [10, 60, 47, p, 62])) (EL, fun _ => False) h15 29 2296 144 #[.val (.ref o), .val (.ref b), .val (.ref i), X3] [(.ref b)]
  refine k_aloadN d_wp_144 rfl rfl rfl ?_
  have f19 := (XN.keep AP18.2.2.2.1 (ninS hob (ninS hod nin0)))
  refine k_getField d_wp_145 rfl (hw _ (List.mem_of_getElem? (i := 79) rfl)) Via.refl f19 ?_
  have f20 := (SN.keep AP18.2.2.2.1 (ninS hnmb (ninS hnmd nin0)) (ninS htb (ninS htd nin0)))
  have f21 := (OD.keep AP18.2.2.2.1 (allS gb (allS gd all0)))
  refine k_callVirtual (argsL := [(.ref nm)]) (rest := []) (W0 := 0) d_wp_148 rfl (mt_sas l Z a0 hw cs hcs SC hEW b e16 nm t (T ++ [10, 60, 47]) [p] h15 n0 f21 AP18.2.2.2.2 f20 AP18.2.2.1 gb AP18.2.1 (by first | omega | (simp only [List.length_append, List.length_cons, List.length_nil]; omega))) (kp_app EN0 AP18.2.2.2.2) AP18.2.2.2.2.1.exa (hw _ (List.mem_of_getElem? (i := 167) rfl)) (hw _ (List.mem_of_getElem? (i := 115) rfl)) (hw _ (List.mem_of_getElem? (i := 117) rfl)) (hw _ (List.mem_of_getElem? (i := 111) rfl)) rfl (hw _ (List.mem_of_getElem? (i := 116) rfl)) (hw _ (List.mem_of_getElem? (i := 118) rfl)) (hw _ (List.mem_of_getElem? (i := 35) rfl)) (by decide) pd_sas rfl rfl rfl rfl (by decide) (by decide) (by decide) (by decide) ?_
  rintro _ h22 - ⟨rfl, e23, AN24⟩
  have AN24b : App Z h15 n0 b e16 h22 e23 ((T ++ [10, 60, 47]) ++ [p]) := AN24
  have AP25 := AP18.trans AN24b
  refine KW.sub (S' := fun _ => False) (fun x hx => hx.elim) ?_
  show KW true l Z M_wp n0 (fun v h => v = none ∧ ∃ e, App Z h0 n0 b d h e ((((bs ++ [60]) ++ [p]) ++ [62]) ++ kids ks ++ [10, 60, 47, p, 62])) (EL, fun _ => False) h22 30 2408 151 #[.val (.ref o), .val (.ref b), .val (.ref i), X3] [(.ref b)]
  refine k_bipush (z := (62 : Int32)) d_wp_151 rfl (by decide) ?_
  have f26 := (OD.keep AP25.2.2.2.1 (allS gb (allS gd all0)))
  refine k_callVirtual (argsL := [(.int (62 : Int32))]) (rest := []) (W0 := 0) d_wp_153 rfl (mt_sac l Z a0 hw cs hcs SC hEW b e23 ((T ++ [10, 60, 47]) ++ [p]) h22 n0 f26 AP25.2.2.2.2 (62 : Int32) (by decide) AP25.2.2.1 gb AP25.2.1 (by first | omega | (simp only [List.length_append, List.length_cons, List.length_nil]; omega))) (kp_app EN0 AP25.2.2.2.2) AP25.2.2.2.2.1.exa (hw _ (List.mem_of_getElem? (i := 152) rfl)) (hw _ (List.mem_of_getElem? (i := 153) rfl)) (hw _ (List.mem_of_getElem? (i := 155) rfl)) (hw _ (List.mem_of_getElem? (i := 111) rfl)) rfl (hw _ (List.mem_of_getElem? (i := 154) rfl)) (hw _ (List.mem_of_getElem? (i := 156) rfl)) (hw _ (List.mem_of_getElem? (i := 35) rfl)) (by decide) pd_sac rfl rfl rfl rfl (by decide) (by decide) (by decide) (by decide) ?_
  rintro _ h27 - ⟨rfl, e28, AN29⟩
  rw [show nbI (62 : Int32) = 62 by decide] at AN29
  have AN29b : App Z h22 n0 b e23 h27 e28 (((T ++ [10, 60, 47]) ++ [p]) ++ [62]) := AN29
  have AP30 := AP25.trans AN29b
  refine KW.sub (S' := fun _ => False) (fun x hx => hx.elim) ?_
  show KW true l Z M_wp n0 (fun v h => v = none ∧ ∃ e, App Z h0 n0 b d h e ((((bs ++ [60]) ++ [p]) ++ [62]) ++ kids ks ++ [10, 60, 47, p, 62])) (EL, fun _ => False) h27 31 2520 156 #[.val (.ref o), .val (.ref b), .val (.ref i), X3] [(.ref b)]
  refine k_pop d_wp_156 rfl rfl ?_
  exact k_retVoid d_wp_157 rfl (by decide) (by decide) ⟨rfl, e28, by have q := AP30; rw [hTT] at q; simp only [List.append_assoc, List.cons_append, List.nil_append] at q ⊢; exact q⟩
set_option maxRecDepth 65536 in
set_option maxHeartbeats 40000000 in
theorem kw_wp1 (l : Launch) (Z : State) (a0 : Array Value) (hw : ∀ d ∈ tables_1, d.before a0 Z = true) (cs : Int32) (hcs : ¬ cs = 0) (SC : Sta Z Z.heap "java/lang/String" "COMPACT_STRINGS" "Z" (.int cs)) (hEW : EW Z a0 EL) (de b d o l_ ed : Addr) (p mc : Int32) (ks : List (Addr × Int32)) (bs : List Int32) (B : Nat) (h0 : Heap) (n0 : Nat) (OD : Old Z n0 h0) (SB : Sq Z h0 b d bs) (PA : Pa Z h0 n0 de B o l_ ed mc (ks.map Prod.fst) p) (hks : ∀ c ∈ ks, Lf Z h0 n0 de 0 B c.1 c.2) (hBb : B ≤ b) (hBd : B ≤ d) (hdn : de < n0) (hbd : b ≠ d) (gb : n0 ≤ b) (gd : n0 ≤ d) (X3 : Slot) (hX : X3 = .unset ∨ ∃ q, X3 = .val (.ref q)) (h : Heap) (e i : Addr) (pr rs : List (Addr × Int32)) (hpr : ks = pr ++ rs) (hr : rs.length = 1) (T : List Int32) (hT : T.length + 5 * rs.length ≤ 57) (hTT : T ++ kids rs = (((bs ++ [60]) ++ [p]) ++ [62]) ++ kids ks) (LP : Lp Z h0 n0 b d l_ mc h e i pr.length T) : KW true l Z M_wp n0 (fun v h => v = none ∧ ∃ e, App Z h0 n0 b d h e ((((bs ++ [60]) ++ [p]) ++ [62]) ++ kids ks ++ [10, 60, 47, p, 62])) (EL, fun _ => False) h 19 1596 104 #[.val (.ref o), .val (.ref b), .val (.ref i), X3] [] := by
  obtain ⟨XB, LA, hlB, heB⟩ := id PA
  obtain ⟨w, dw, nm, t, -, ⟨ko, kw, kdw, knm, kt⟩, XO, XN, XA, XC, XT, SN, SW, MW⟩ := id XB
  have hob : o ≠ b := Nat.ne_of_lt (Nat.lt_of_lt_of_le (Nat.lt_trans ko hlB) hBb)
  have hod : o ≠ d := Nat.ne_of_lt (Nat.lt_of_lt_of_le (Nat.lt_trans ko hlB) hBd)
  have hwb : w ≠ b := Nat.ne_of_lt (Nat.lt_of_lt_of_le (Nat.lt_trans kw hlB) hBb)
  have hwd : w ≠ d := Nat.ne_of_lt (Nat.lt_of_lt_of_le (Nat.lt_trans kw hlB) hBd)
  have hdwb : dw ≠ b := Nat.ne_of_lt (Nat.lt_of_lt_of_le (Nat.lt_trans kdw hlB) hBb)
  have hdwd : dw ≠ d := Nat.ne_of_lt (Nat.lt_of_lt_of_le (Nat.lt_trans kdw hlB) hBd)
  have hnmb : nm ≠ b := Nat.ne_of_lt (Nat.lt_of_lt_of_le (Nat.lt_trans knm hlB) hBb)
  have hnmd : nm ≠ d := Nat.ne_of_lt (Nat.lt_of_lt_of_le (Nat.lt_trans knm hlB) hBd)
  have htb : t ≠ b := Nat.ne_of_lt (Nat.lt_of_lt_of_le (Nat.lt_trans kt hlB) hBb)
  have htd : t ≠ d := Nat.ne_of_lt (Nat.lt_of_lt_of_le (Nat.lt_trans kt hlB) hBd)
  have hl_b : l_ ≠ b := Nat.ne_of_lt (Nat.lt_of_lt_of_le hlB hBb)
  have hl_d : l_ ≠ d := Nat.ne_of_lt (Nat.lt_of_lt_of_le hlB hBd)
  have hdeb : de ≠ b := Nat.ne_of_lt (Nat.lt_of_lt_of_le hdn gb)
  have hded : de ≠ d := Nat.ne_of_lt (Nat.lt_of_lt_of_le hdn gd)
  have EN0 := own_EN Z a0 hw
  have hedb : ed ≠ b := Nat.ne_of_lt (Nat.lt_of_lt_of_le heB hBb)
  have hedd : ed ≠ d := Nat.ne_of_lt (Nat.lt_of_lt_of_le heB hBd)
  have hBh : B ≤ h0.size := Nat.le_trans hBb (Nat.le_of_lt SB.lt)
  obtain ⟨c, rs', rfl⟩ : ∃ c r, rs = c :: r := by
    cases rs with
    | nil => simp at hr
    | cons c r => exact ⟨c, r, rfl⟩
  rw [List.length_cons] at hT hr
  have hx : (ks.map Prod.fst)[pr.length]? = some c.1 := by rw [hpr]; simp
  have LC := hks c (by rw [hpr]; simp)
  refine k_aloadN d_wp_104 rfl rfl rfl ?_
  have f31 := (LA.keep LP.1.2.2.2.1 (ninS hl_b (ninS hl_d nin0)) (ninS hedb (ninS hedd nin0)))
  refine k_callFace (argsL := []) (rest := []) (W0 := 0) d_wp_105 rfl (mt_itx l Z a0 hw cs hcs SC hEW i de l_ ed pr.length mc (ks.map Prod.fst) h n0 f31 LP.2.1 (by rw [hpr, List.length_map, List.length_append]; omega)) (Kp.pure (fun _ _ q => q.2.symm)) LP.2.1.1 (hw _ (List.mem_of_getElem? (i := 341) rfl)) (hw _ (List.mem_of_getElem? (i := 342) rfl)) (hw _ (List.mem_of_getElem? (i := 343) rfl)) (hw _ (List.mem_of_getElem? (i := 344) rfl)) (hw _ (List.mem_of_getElem? (i := 345) rfl)) (hw _ (List.mem_of_getElem? (i := 346) rfl)) (hw _ (List.mem_of_getElem? (i := 347) rfl)) (hw _ (List.mem_of_getElem? (i := 348) rfl)) (hw _ (List.mem_of_getElem? (i := 349) rfl)) (hw _ (List.mem_of_getElem? (i := 328) rfl)) (by decide) rfl pd_itx rfl rfl rfl rfl (by decide) (by decide) (by decide) (by decide) ?_
  rintro _ _ - ⟨rfl, rfl⟩
  rw [if_neg (by rw [hpr, List.length_map, List.length_append, List.length_cons]; omega)]
  refine KW.sub (S' := fun _ => False) (fun x hx => hx.elim) ?_
  show KW true l Z M_wp n0 (fun v h => v = none ∧ ∃ e, App Z h0 n0 b d h e ((((bs ++ [60]) ++ [p]) ++ [62]) ++ kids ks ++ [10, 60, 47, p, 62])) (EL, fun _ => False) h 19 1596 110 #[.val (.ref o), .val (.ref b), .val (.ref i), X3] [(.int (1 : Int32))]
  refine k_ifc (pc1 := 138) (pc' := 113) d_wp_110 (by decide) (by decide) rfl (fun (cd2 : (1 : Int32) = (0 : Int32)) => False.elim (by exact absurd cd2 (by decide))) (fun (cd2 : ¬ (1 : Int32) = (0 : Int32)) => ?_)
  refine k_aloadN d_wp_113 rfl rfl rfl ?_
  refine k_callFace (argsL := []) (rest := []) (W0 := 0) d_wp_114 rfl (mt_ity l Z a0 hw cs hcs SC hEW i de l_ ed pr.length mc (ks.map Prod.fst) h n0 f31 LP.2.1 LP.2.2.2.1 (Nat.ne_of_lt (Nat.lt_of_lt_of_le hlB (Nat.le_trans hBh LP.2.2.1))) (Nat.ne_of_lt (Nat.lt_of_lt_of_le heB (Nat.le_trans hBh LP.2.2.1))) c.1 hx) (fun _ _ _ q => ⟨[i], q.2.1, allS (Sf.exa LP.2.1.1 (by decide) (by decide)) all0⟩) LP.2.1.1 (hw _ (List.mem_of_getElem? (i := 353) rfl)) (hw _ (List.mem_of_getElem? (i := 354) rfl)) (hw _ (List.mem_of_getElem? (i := 355) rfl)) (hw _ (List.mem_of_getElem? (i := 356) rfl)) (hw _ (List.mem_of_getElem? (i := 357) rfl)) (hw _ (List.mem_of_getElem? (i := 358) rfl)) (hw _ (List.mem_of_getElem? (i := 359) rfl)) (hw _ (List.mem_of_getElem? (i := 348) rfl)) (hw _ (List.mem_of_getElem? (i := 360) rfl)) (hw _ (List.mem_of_getElem? (i := 328) rfl)) (by decide) rfl pd_ity rfl rfl rfl rfl (by decide) (by decide) (by decide) (by decide) ?_
  rintro _ h1 - ⟨rfl, K1, I1⟩
  have LP1 := LP.next K1 I1
  refine KW.sub (S' := fun _ => False) (fun x hx => hx.elim) ?_
  show KW true l Z M_wp n0 (fun v h => v = none ∧ ∃ e, App Z h0 n0 b d h e ((((bs ++ [60]) ++ [p]) ++ [62]) ++ kids ks ++ [10, 60, 47, p, 62])) (EL, fun _ => False) h1 19 1596 119 #[.val (.ref o), .val (.ref b), .val (.ref i), X3] [(.ref c.1)]
  refine k_cast d_wp_119 rfl (hw _ (List.mem_of_getElem? (i := 367) rfl)) (Ins.self (LC.keep LP1.1.2.2.2.1 (allS ⟨Or.inr hBb, hdeb⟩ (allS ⟨Or.inr hBd, hded⟩ all0))).exa) ?_
  refine k_astoreN (Ls' := #[.val (.ref o), .val (.ref b), .val (.ref i), .val (.ref c.1)]) d_wp_122 rfl rfl (by rcases hX with rfl | ⟨_, rfl⟩ <;> rfl) ?_
  refine k_aloadN d_wp_123 rfl rfl rfl ?_
  refine k_bipush (z := (10 : Int32)) d_wp_124 rfl (by decide) ?_
  have f32 := (OD.keep LP1.1.2.2.2.1 (allS gb (allS gd all0)))
  refine k_callVirtual (argsL := [(.int (10 : Int32))]) (rest := []) (W0 := 0) d_wp_126 rfl (mt_sac l Z a0 hw cs hcs SC hEW b e T h1 n0 f32 LP1.1.2.2.2.2 (10 : Int32) (by decide) LP1.1.2.2.1 gb LP1.1.2.1 (by first | omega | (simp only [List.length_append, List.length_cons, List.length_nil]; omega))) (kp_app EN0 LP1.1.2.2.2.2) LP1.1.2.2.2.2.1.exa (hw _ (List.mem_of_getElem? (i := 152) rfl)) (hw _ (List.mem_of_getElem? (i := 153) rfl)) (hw _ (List.mem_of_getElem? (i := 155) rfl)) (hw _ (List.mem_of_getElem? (i := 111) rfl)) rfl (hw _ (List.mem_of_getElem? (i := 154) rfl)) (hw _ (List.mem_of_getElem? (i := 156) rfl)) (hw _ (List.mem_of_getElem? (i := 35) rfl)) (by decide) pd_sac rfl rfl rfl rfl (by decide) (by decide) (by decide) (by decide) ?_
  rintro _ h33 - ⟨rfl, e34, AN35⟩
  rw [show nbI (10 : Int32) = 10 by decide] at AN35
  have AN35b : App Z h1 n0 b e h33 e34 (T ++ [10]) := AN35
  have AP36 := LP1.1.trans AN35b
  refine KW.sub (S' := fun _ => False) (fun x hx => hx.elim) ?_
  show KW true l Z M_wp n0 (fun v h => v = none ∧ ∃ e, App Z h0 n0 b d h e ((((bs ++ [60]) ++ [p]) ++ [62]) ++ kids ks ++ [10, 60, 47, p, 62])) (EL, fun _ => False) h33 20 1708 129 #[.val (.ref o), .val (.ref b), .val (.ref i), .val (.ref c.1)] [(.ref b)]
  refine k_pop d_wp_129 rfl rfl ?_
  refine k_aloadN d_wp_130 rfl rfl rfl ?_
  refine k_aloadN d_wp_131 rfl rfl rfl ?_
  have LP2 := LP1.app AN35b
  have LC2 := LC.keep LP2.1.2.2.2.1 (allS ⟨Or.inr hBb, hdeb⟩ (allS ⟨Or.inr hBd, hded⟩ all0))
  have f37 := (OD.keep AP36.2.2.2.1 (allS gb (allS gd all0)))
  refine k_callPrivateW (argsL := [(.ref b)]) (rest := []) (W0 := 0) d_wp_132 rfl (mt_wl l Z a0 hw cs hcs SC hEW de b e34 c.1 c.2 (T ++ [10]) B h33 n0 f37 LP2.1.2.2.2.2 LC2 hBb (LP2.1.bd hBd hBh) hdn LP2.1.2.2.1 gb LP2.1.2.1 (by first | omega | (simp only [List.length_append, List.length_cons, List.length_nil]; omega))) LC2.exa (hw _ (List.mem_of_getElem? (i := 148) rfl)) (hw _ (List.mem_of_getElem? (i := 150) rfl)) (hw _ (List.mem_of_getElem? (i := 84) rfl)) rfl (hw _ (List.mem_of_getElem? (i := 149) rfl)) (hw _ (List.mem_of_getElem? (i := 151) rfl)) (hw _ (List.mem_of_getElem? (i := 2) rfl)) (by decide) pd_wl rfl rfl rfl rfl (by decide) (by decide) (by decide) (by decide) ?_
  rintro _ h38 - ⟨rfl, e39, AN40⟩
  have AN40b : App Z h33 n0 b e34 h38 e39 ((T ++ [10]) ++ [60, c.2, 47, 62]) := AN40
  have AP41 := AP36.trans AN40b
  show KW true l Z M_wp n0 (fun v h => v = none ∧ ∃ e, App Z h0 n0 b d h e ((((bs ++ [60]) ++ [p]) ++ [62]) ++ kids ks ++ [10, 60, 47, p, 62])) (EL, fun _ => False) h38 26 2168 135 #[.val (.ref o), .val (.ref b), .val (.ref i), .val (.ref c.1)] []
  have LP3 := LP2.app AN40b
  refine k_goto (pc' := 104) d_wp_135 (by decide) (by decide) ?_
  exact kw_wp0 l Z a0 hw cs hcs SC hEW de b d o l_ ed p mc ks bs B h0 n0 OD SB PA hks hBb hBd hdn hbd gb gd _ (Or.inr ⟨_, rfl⟩) h38 e39 i (pr ++ [c]) rs' (by rw [hpr]; simp) (by omega) ((T ++ [10]) ++ [60, c.2, 47, 62]) (by first | omega | (simp only [List.length_append, List.length_cons, List.length_nil]; omega)) (by rw [← hTT]; simp [kids]) (by rw [List.length_append]; exact LP3)
set_option maxRecDepth 65536 in
set_option maxHeartbeats 40000000 in
theorem kw_wp2 (l : Launch) (Z : State) (a0 : Array Value) (hw : ∀ d ∈ tables_1, d.before a0 Z = true) (cs : Int32) (hcs : ¬ cs = 0) (SC : Sta Z Z.heap "java/lang/String" "COMPACT_STRINGS" "Z" (.int cs)) (hEW : EW Z a0 EL) (de b d o l_ ed : Addr) (p mc : Int32) (ks : List (Addr × Int32)) (bs : List Int32) (B : Nat) (h0 : Heap) (n0 : Nat) (OD : Old Z n0 h0) (SB : Sq Z h0 b d bs) (PA : Pa Z h0 n0 de B o l_ ed mc (ks.map Prod.fst) p) (hks : ∀ c ∈ ks, Lf Z h0 n0 de 0 B c.1 c.2) (hBb : B ≤ b) (hBd : B ≤ d) (hdn : de < n0) (hbd : b ≠ d) (gb : n0 ≤ b) (gd : n0 ≤ d) (X3 : Slot) (hX : X3 = .unset ∨ ∃ q, X3 = .val (.ref q)) (h : Heap) (e i : Addr) (pr rs : List (Addr × Int32)) (hpr : ks = pr ++ rs) (hr : rs.length = 2) (T : List Int32) (hT : T.length + 5 * rs.length ≤ 57) (hTT : T ++ kids rs = (((bs ++ [60]) ++ [p]) ++ [62]) ++ kids ks) (LP : Lp Z h0 n0 b d l_ mc h e i pr.length T) : KW true l Z M_wp n0 (fun v h => v = none ∧ ∃ e, App Z h0 n0 b d h e ((((bs ++ [60]) ++ [p]) ++ [62]) ++ kids ks ++ [10, 60, 47, p, 62])) (EL, fun _ => False) h 12 1024 104 #[.val (.ref o), .val (.ref b), .val (.ref i), X3] [] := by
  obtain ⟨XB, LA, hlB, heB⟩ := id PA
  obtain ⟨w, dw, nm, t, -, ⟨ko, kw, kdw, knm, kt⟩, XO, XN, XA, XC, XT, SN, SW, MW⟩ := id XB
  have hob : o ≠ b := Nat.ne_of_lt (Nat.lt_of_lt_of_le (Nat.lt_trans ko hlB) hBb)
  have hod : o ≠ d := Nat.ne_of_lt (Nat.lt_of_lt_of_le (Nat.lt_trans ko hlB) hBd)
  have hwb : w ≠ b := Nat.ne_of_lt (Nat.lt_of_lt_of_le (Nat.lt_trans kw hlB) hBb)
  have hwd : w ≠ d := Nat.ne_of_lt (Nat.lt_of_lt_of_le (Nat.lt_trans kw hlB) hBd)
  have hdwb : dw ≠ b := Nat.ne_of_lt (Nat.lt_of_lt_of_le (Nat.lt_trans kdw hlB) hBb)
  have hdwd : dw ≠ d := Nat.ne_of_lt (Nat.lt_of_lt_of_le (Nat.lt_trans kdw hlB) hBd)
  have hnmb : nm ≠ b := Nat.ne_of_lt (Nat.lt_of_lt_of_le (Nat.lt_trans knm hlB) hBb)
  have hnmd : nm ≠ d := Nat.ne_of_lt (Nat.lt_of_lt_of_le (Nat.lt_trans knm hlB) hBd)
  have htb : t ≠ b := Nat.ne_of_lt (Nat.lt_of_lt_of_le (Nat.lt_trans kt hlB) hBb)
  have htd : t ≠ d := Nat.ne_of_lt (Nat.lt_of_lt_of_le (Nat.lt_trans kt hlB) hBd)
  have hl_b : l_ ≠ b := Nat.ne_of_lt (Nat.lt_of_lt_of_le hlB hBb)
  have hl_d : l_ ≠ d := Nat.ne_of_lt (Nat.lt_of_lt_of_le hlB hBd)
  have hdeb : de ≠ b := Nat.ne_of_lt (Nat.lt_of_lt_of_le hdn gb)
  have hded : de ≠ d := Nat.ne_of_lt (Nat.lt_of_lt_of_le hdn gd)
  have EN0 := own_EN Z a0 hw
  have hedb : ed ≠ b := Nat.ne_of_lt (Nat.lt_of_lt_of_le heB hBb)
  have hedd : ed ≠ d := Nat.ne_of_lt (Nat.lt_of_lt_of_le heB hBd)
  have hBh : B ≤ h0.size := Nat.le_trans hBb (Nat.le_of_lt SB.lt)
  obtain ⟨c, rs', rfl⟩ : ∃ c r, rs = c :: r := by
    cases rs with
    | nil => simp at hr
    | cons c r => exact ⟨c, r, rfl⟩
  rw [List.length_cons] at hT hr
  have hx : (ks.map Prod.fst)[pr.length]? = some c.1 := by rw [hpr]; simp
  have LC := hks c (by rw [hpr]; simp)
  refine k_aloadN d_wp_104 rfl rfl rfl ?_
  have f42 := (LA.keep LP.1.2.2.2.1 (ninS hl_b (ninS hl_d nin0)) (ninS hedb (ninS hedd nin0)))
  refine k_callFace (argsL := []) (rest := []) (W0 := 0) d_wp_105 rfl (mt_itx l Z a0 hw cs hcs SC hEW i de l_ ed pr.length mc (ks.map Prod.fst) h n0 f42 LP.2.1 (by rw [hpr, List.length_map, List.length_append]; omega)) (Kp.pure (fun _ _ q => q.2.symm)) LP.2.1.1 (hw _ (List.mem_of_getElem? (i := 341) rfl)) (hw _ (List.mem_of_getElem? (i := 342) rfl)) (hw _ (List.mem_of_getElem? (i := 343) rfl)) (hw _ (List.mem_of_getElem? (i := 344) rfl)) (hw _ (List.mem_of_getElem? (i := 345) rfl)) (hw _ (List.mem_of_getElem? (i := 346) rfl)) (hw _ (List.mem_of_getElem? (i := 347) rfl)) (hw _ (List.mem_of_getElem? (i := 348) rfl)) (hw _ (List.mem_of_getElem? (i := 349) rfl)) (hw _ (List.mem_of_getElem? (i := 328) rfl)) (by decide) rfl pd_itx rfl rfl rfl rfl (by decide) (by decide) (by decide) (by decide) ?_
  rintro _ _ - ⟨rfl, rfl⟩
  rw [if_neg (by rw [hpr, List.length_map, List.length_append, List.length_cons]; omega)]
  refine KW.sub (S' := fun _ => False) (fun x hx => hx.elim) ?_
  show KW true l Z M_wp n0 (fun v h => v = none ∧ ∃ e, App Z h0 n0 b d h e ((((bs ++ [60]) ++ [p]) ++ [62]) ++ kids ks ++ [10, 60, 47, p, 62])) (EL, fun _ => False) h 12 1024 110 #[.val (.ref o), .val (.ref b), .val (.ref i), X3] [(.int (1 : Int32))]
  refine k_ifc (pc1 := 138) (pc' := 113) d_wp_110 (by decide) (by decide) rfl (fun (cd3 : (1 : Int32) = (0 : Int32)) => False.elim (by exact absurd cd3 (by decide))) (fun (cd3 : ¬ (1 : Int32) = (0 : Int32)) => ?_)
  refine k_aloadN d_wp_113 rfl rfl rfl ?_
  refine k_callFace (argsL := []) (rest := []) (W0 := 0) d_wp_114 rfl (mt_ity l Z a0 hw cs hcs SC hEW i de l_ ed pr.length mc (ks.map Prod.fst) h n0 f42 LP.2.1 LP.2.2.2.1 (Nat.ne_of_lt (Nat.lt_of_lt_of_le hlB (Nat.le_trans hBh LP.2.2.1))) (Nat.ne_of_lt (Nat.lt_of_lt_of_le heB (Nat.le_trans hBh LP.2.2.1))) c.1 hx) (fun _ _ _ q => ⟨[i], q.2.1, allS (Sf.exa LP.2.1.1 (by decide) (by decide)) all0⟩) LP.2.1.1 (hw _ (List.mem_of_getElem? (i := 353) rfl)) (hw _ (List.mem_of_getElem? (i := 354) rfl)) (hw _ (List.mem_of_getElem? (i := 355) rfl)) (hw _ (List.mem_of_getElem? (i := 356) rfl)) (hw _ (List.mem_of_getElem? (i := 357) rfl)) (hw _ (List.mem_of_getElem? (i := 358) rfl)) (hw _ (List.mem_of_getElem? (i := 359) rfl)) (hw _ (List.mem_of_getElem? (i := 348) rfl)) (hw _ (List.mem_of_getElem? (i := 360) rfl)) (hw _ (List.mem_of_getElem? (i := 328) rfl)) (by decide) rfl pd_ity rfl rfl rfl rfl (by decide) (by decide) (by decide) (by decide) ?_
  rintro _ h1 - ⟨rfl, K1, I1⟩
  have LP1 := LP.next K1 I1
  refine KW.sub (S' := fun _ => False) (fun x hx => hx.elim) ?_
  show KW true l Z M_wp n0 (fun v h => v = none ∧ ∃ e, App Z h0 n0 b d h e ((((bs ++ [60]) ++ [p]) ++ [62]) ++ kids ks ++ [10, 60, 47, p, 62])) (EL, fun _ => False) h1 12 1024 119 #[.val (.ref o), .val (.ref b), .val (.ref i), X3] [(.ref c.1)]
  refine k_cast d_wp_119 rfl (hw _ (List.mem_of_getElem? (i := 367) rfl)) (Ins.self (LC.keep LP1.1.2.2.2.1 (allS ⟨Or.inr hBb, hdeb⟩ (allS ⟨Or.inr hBd, hded⟩ all0))).exa) ?_
  refine k_astoreN (Ls' := #[.val (.ref o), .val (.ref b), .val (.ref i), .val (.ref c.1)]) d_wp_122 rfl rfl (by rcases hX with rfl | ⟨_, rfl⟩ <;> rfl) ?_
  refine k_aloadN d_wp_123 rfl rfl rfl ?_
  refine k_bipush (z := (10 : Int32)) d_wp_124 rfl (by decide) ?_
  have f43 := (OD.keep LP1.1.2.2.2.1 (allS gb (allS gd all0)))
  refine k_callVirtual (argsL := [(.int (10 : Int32))]) (rest := []) (W0 := 0) d_wp_126 rfl (mt_sac l Z a0 hw cs hcs SC hEW b e T h1 n0 f43 LP1.1.2.2.2.2 (10 : Int32) (by decide) LP1.1.2.2.1 gb LP1.1.2.1 (by first | omega | (simp only [List.length_append, List.length_cons, List.length_nil]; omega))) (kp_app EN0 LP1.1.2.2.2.2) LP1.1.2.2.2.2.1.exa (hw _ (List.mem_of_getElem? (i := 152) rfl)) (hw _ (List.mem_of_getElem? (i := 153) rfl)) (hw _ (List.mem_of_getElem? (i := 155) rfl)) (hw _ (List.mem_of_getElem? (i := 111) rfl)) rfl (hw _ (List.mem_of_getElem? (i := 154) rfl)) (hw _ (List.mem_of_getElem? (i := 156) rfl)) (hw _ (List.mem_of_getElem? (i := 35) rfl)) (by decide) pd_sac rfl rfl rfl rfl (by decide) (by decide) (by decide) (by decide) ?_
  rintro _ h44 - ⟨rfl, e45, AN46⟩
  rw [show nbI (10 : Int32) = 10 by decide] at AN46
  have AN46b : App Z h1 n0 b e h44 e45 (T ++ [10]) := AN46
  have AP47 := LP1.1.trans AN46b
  refine KW.sub (S' := fun _ => False) (fun x hx => hx.elim) ?_
  show KW true l Z M_wp n0 (fun v h => v = none ∧ ∃ e, App Z h0 n0 b d h e ((((bs ++ [60]) ++ [p]) ++ [62]) ++ kids ks ++ [10, 60, 47, p, 62])) (EL, fun _ => False) h44 13 1136 129 #[.val (.ref o), .val (.ref b), .val (.ref i), .val (.ref c.1)] [(.ref b)]
  refine k_pop d_wp_129 rfl rfl ?_
  refine k_aloadN d_wp_130 rfl rfl rfl ?_
  refine k_aloadN d_wp_131 rfl rfl rfl ?_
  have LP2 := LP1.app AN46b
  have LC2 := LC.keep LP2.1.2.2.2.1 (allS ⟨Or.inr hBb, hdeb⟩ (allS ⟨Or.inr hBd, hded⟩ all0))
  have f48 := (OD.keep AP47.2.2.2.1 (allS gb (allS gd all0)))
  refine k_callPrivateW (argsL := [(.ref b)]) (rest := []) (W0 := 0) d_wp_132 rfl (mt_wl l Z a0 hw cs hcs SC hEW de b e45 c.1 c.2 (T ++ [10]) B h44 n0 f48 LP2.1.2.2.2.2 LC2 hBb (LP2.1.bd hBd hBh) hdn LP2.1.2.2.1 gb LP2.1.2.1 (by first | omega | (simp only [List.length_append, List.length_cons, List.length_nil]; omega))) LC2.exa (hw _ (List.mem_of_getElem? (i := 148) rfl)) (hw _ (List.mem_of_getElem? (i := 150) rfl)) (hw _ (List.mem_of_getElem? (i := 84) rfl)) rfl (hw _ (List.mem_of_getElem? (i := 149) rfl)) (hw _ (List.mem_of_getElem? (i := 151) rfl)) (hw _ (List.mem_of_getElem? (i := 2) rfl)) (by decide) pd_wl rfl rfl rfl rfl (by decide) (by decide) (by decide) (by decide) ?_
  rintro _ h49 - ⟨rfl, e50, AN51⟩
  have AN51b : App Z h44 n0 b e45 h49 e50 ((T ++ [10]) ++ [60, c.2, 47, 62]) := AN51
  have AP52 := AP47.trans AN51b
  show KW true l Z M_wp n0 (fun v h => v = none ∧ ∃ e, App Z h0 n0 b d h e ((((bs ++ [60]) ++ [p]) ++ [62]) ++ kids ks ++ [10, 60, 47, p, 62])) (EL, fun _ => False) h49 19 1596 135 #[.val (.ref o), .val (.ref b), .val (.ref i), .val (.ref c.1)] []
  have LP3 := LP2.app AN51b
  refine k_goto (pc' := 104) d_wp_135 (by decide) (by decide) ?_
  exact kw_wp1 l Z a0 hw cs hcs SC hEW de b d o l_ ed p mc ks bs B h0 n0 OD SB PA hks hBb hBd hdn hbd gb gd _ (Or.inr ⟨_, rfl⟩) h49 e50 i (pr ++ [c]) rs' (by rw [hpr]; simp) (by omega) ((T ++ [10]) ++ [60, c.2, 47, 62]) (by first | omega | (simp only [List.length_append, List.length_cons, List.length_nil]; omega)) (by rw [← hTT]; simp [kids]) (by rw [List.length_append]; exact LP3)
set_option maxRecDepth 65536 in
set_option maxHeartbeats 40000000 in
theorem kw_wp3 (l : Launch) (Z : State) (a0 : Array Value) (hw : ∀ d ∈ tables_1, d.before a0 Z = true) (cs : Int32) (hcs : ¬ cs = 0) (SC : Sta Z Z.heap "java/lang/String" "COMPACT_STRINGS" "Z" (.int cs)) (hEW : EW Z a0 EL) (de b d o l_ ed : Addr) (p mc : Int32) (ks : List (Addr × Int32)) (bs : List Int32) (B : Nat) (h0 : Heap) (n0 : Nat) (OD : Old Z n0 h0) (SB : Sq Z h0 b d bs) (PA : Pa Z h0 n0 de B o l_ ed mc (ks.map Prod.fst) p) (hks : ∀ c ∈ ks, Lf Z h0 n0 de 0 B c.1 c.2) (hBb : B ≤ b) (hBd : B ≤ d) (hdn : de < n0) (hbd : b ≠ d) (gb : n0 ≤ b) (gd : n0 ≤ d) (X3 : Slot) (hX : X3 = .unset ∨ ∃ q, X3 = .val (.ref q)) (h : Heap) (e i : Addr) (pr rs : List (Addr × Int32)) (hpr : ks = pr ++ rs) (hr : rs.length = 3) (T : List Int32) (hT : T.length + 5 * rs.length ≤ 57) (hTT : T ++ kids rs = (((bs ++ [60]) ++ [p]) ++ [62]) ++ kids ks) (LP : Lp Z h0 n0 b d l_ mc h e i pr.length T) : KW true l Z M_wp n0 (fun v h => v = none ∧ ∃ e, App Z h0 n0 b d h e ((((bs ++ [60]) ++ [p]) ++ [62]) ++ kids ks ++ [10, 60, 47, p, 62])) (EL, fun _ => False) h 5 452 104 #[.val (.ref o), .val (.ref b), .val (.ref i), X3] [] := by
  obtain ⟨XB, LA, hlB, heB⟩ := id PA
  obtain ⟨w, dw, nm, t, -, ⟨ko, kw, kdw, knm, kt⟩, XO, XN, XA, XC, XT, SN, SW, MW⟩ := id XB
  have hob : o ≠ b := Nat.ne_of_lt (Nat.lt_of_lt_of_le (Nat.lt_trans ko hlB) hBb)
  have hod : o ≠ d := Nat.ne_of_lt (Nat.lt_of_lt_of_le (Nat.lt_trans ko hlB) hBd)
  have hwb : w ≠ b := Nat.ne_of_lt (Nat.lt_of_lt_of_le (Nat.lt_trans kw hlB) hBb)
  have hwd : w ≠ d := Nat.ne_of_lt (Nat.lt_of_lt_of_le (Nat.lt_trans kw hlB) hBd)
  have hdwb : dw ≠ b := Nat.ne_of_lt (Nat.lt_of_lt_of_le (Nat.lt_trans kdw hlB) hBb)
  have hdwd : dw ≠ d := Nat.ne_of_lt (Nat.lt_of_lt_of_le (Nat.lt_trans kdw hlB) hBd)
  have hnmb : nm ≠ b := Nat.ne_of_lt (Nat.lt_of_lt_of_le (Nat.lt_trans knm hlB) hBb)
  have hnmd : nm ≠ d := Nat.ne_of_lt (Nat.lt_of_lt_of_le (Nat.lt_trans knm hlB) hBd)
  have htb : t ≠ b := Nat.ne_of_lt (Nat.lt_of_lt_of_le (Nat.lt_trans kt hlB) hBb)
  have htd : t ≠ d := Nat.ne_of_lt (Nat.lt_of_lt_of_le (Nat.lt_trans kt hlB) hBd)
  have hl_b : l_ ≠ b := Nat.ne_of_lt (Nat.lt_of_lt_of_le hlB hBb)
  have hl_d : l_ ≠ d := Nat.ne_of_lt (Nat.lt_of_lt_of_le hlB hBd)
  have hdeb : de ≠ b := Nat.ne_of_lt (Nat.lt_of_lt_of_le hdn gb)
  have hded : de ≠ d := Nat.ne_of_lt (Nat.lt_of_lt_of_le hdn gd)
  have EN0 := own_EN Z a0 hw
  have hedb : ed ≠ b := Nat.ne_of_lt (Nat.lt_of_lt_of_le heB hBb)
  have hedd : ed ≠ d := Nat.ne_of_lt (Nat.lt_of_lt_of_le heB hBd)
  have hBh : B ≤ h0.size := Nat.le_trans hBb (Nat.le_of_lt SB.lt)
  obtain ⟨c, rs', rfl⟩ : ∃ c r, rs = c :: r := by
    cases rs with
    | nil => simp at hr
    | cons c r => exact ⟨c, r, rfl⟩
  rw [List.length_cons] at hT hr
  have hx : (ks.map Prod.fst)[pr.length]? = some c.1 := by rw [hpr]; simp
  have LC := hks c (by rw [hpr]; simp)
  refine k_aloadN d_wp_104 rfl rfl rfl ?_
  have f53 := (LA.keep LP.1.2.2.2.1 (ninS hl_b (ninS hl_d nin0)) (ninS hedb (ninS hedd nin0)))
  refine k_callFace (argsL := []) (rest := []) (W0 := 0) d_wp_105 rfl (mt_itx l Z a0 hw cs hcs SC hEW i de l_ ed pr.length mc (ks.map Prod.fst) h n0 f53 LP.2.1 (by rw [hpr, List.length_map, List.length_append]; omega)) (Kp.pure (fun _ _ q => q.2.symm)) LP.2.1.1 (hw _ (List.mem_of_getElem? (i := 341) rfl)) (hw _ (List.mem_of_getElem? (i := 342) rfl)) (hw _ (List.mem_of_getElem? (i := 343) rfl)) (hw _ (List.mem_of_getElem? (i := 344) rfl)) (hw _ (List.mem_of_getElem? (i := 345) rfl)) (hw _ (List.mem_of_getElem? (i := 346) rfl)) (hw _ (List.mem_of_getElem? (i := 347) rfl)) (hw _ (List.mem_of_getElem? (i := 348) rfl)) (hw _ (List.mem_of_getElem? (i := 349) rfl)) (hw _ (List.mem_of_getElem? (i := 328) rfl)) (by decide) rfl pd_itx rfl rfl rfl rfl (by decide) (by decide) (by decide) (by decide) ?_
  rintro _ _ - ⟨rfl, rfl⟩
  rw [if_neg (by rw [hpr, List.length_map, List.length_append, List.length_cons]; omega)]
  refine KW.sub (S' := fun _ => False) (fun x hx => hx.elim) ?_
  show KW true l Z M_wp n0 (fun v h => v = none ∧ ∃ e, App Z h0 n0 b d h e ((((bs ++ [60]) ++ [p]) ++ [62]) ++ kids ks ++ [10, 60, 47, p, 62])) (EL, fun _ => False) h 5 452 110 #[.val (.ref o), .val (.ref b), .val (.ref i), X3] [(.int (1 : Int32))]
  refine k_ifc (pc1 := 138) (pc' := 113) d_wp_110 (by decide) (by decide) rfl (fun (cd4 : (1 : Int32) = (0 : Int32)) => False.elim (by exact absurd cd4 (by decide))) (fun (cd4 : ¬ (1 : Int32) = (0 : Int32)) => ?_)
  refine k_aloadN d_wp_113 rfl rfl rfl ?_
  refine k_callFace (argsL := []) (rest := []) (W0 := 0) d_wp_114 rfl (mt_ity l Z a0 hw cs hcs SC hEW i de l_ ed pr.length mc (ks.map Prod.fst) h n0 f53 LP.2.1 LP.2.2.2.1 (Nat.ne_of_lt (Nat.lt_of_lt_of_le hlB (Nat.le_trans hBh LP.2.2.1))) (Nat.ne_of_lt (Nat.lt_of_lt_of_le heB (Nat.le_trans hBh LP.2.2.1))) c.1 hx) (fun _ _ _ q => ⟨[i], q.2.1, allS (Sf.exa LP.2.1.1 (by decide) (by decide)) all0⟩) LP.2.1.1 (hw _ (List.mem_of_getElem? (i := 353) rfl)) (hw _ (List.mem_of_getElem? (i := 354) rfl)) (hw _ (List.mem_of_getElem? (i := 355) rfl)) (hw _ (List.mem_of_getElem? (i := 356) rfl)) (hw _ (List.mem_of_getElem? (i := 357) rfl)) (hw _ (List.mem_of_getElem? (i := 358) rfl)) (hw _ (List.mem_of_getElem? (i := 359) rfl)) (hw _ (List.mem_of_getElem? (i := 348) rfl)) (hw _ (List.mem_of_getElem? (i := 360) rfl)) (hw _ (List.mem_of_getElem? (i := 328) rfl)) (by decide) rfl pd_ity rfl rfl rfl rfl (by decide) (by decide) (by decide) (by decide) ?_
  rintro _ h1 - ⟨rfl, K1, I1⟩
  have LP1 := LP.next K1 I1
  refine KW.sub (S' := fun _ => False) (fun x hx => hx.elim) ?_
  show KW true l Z M_wp n0 (fun v h => v = none ∧ ∃ e, App Z h0 n0 b d h e ((((bs ++ [60]) ++ [p]) ++ [62]) ++ kids ks ++ [10, 60, 47, p, 62])) (EL, fun _ => False) h1 5 452 119 #[.val (.ref o), .val (.ref b), .val (.ref i), X3] [(.ref c.1)]
  refine k_cast d_wp_119 rfl (hw _ (List.mem_of_getElem? (i := 367) rfl)) (Ins.self (LC.keep LP1.1.2.2.2.1 (allS ⟨Or.inr hBb, hdeb⟩ (allS ⟨Or.inr hBd, hded⟩ all0))).exa) ?_
  refine k_astoreN (Ls' := #[.val (.ref o), .val (.ref b), .val (.ref i), .val (.ref c.1)]) d_wp_122 rfl rfl (by rcases hX with rfl | ⟨_, rfl⟩ <;> rfl) ?_
  refine k_aloadN d_wp_123 rfl rfl rfl ?_
  refine k_bipush (z := (10 : Int32)) d_wp_124 rfl (by decide) ?_
  have f54 := (OD.keep LP1.1.2.2.2.1 (allS gb (allS gd all0)))
  refine k_callVirtual (argsL := [(.int (10 : Int32))]) (rest := []) (W0 := 0) d_wp_126 rfl (mt_sac l Z a0 hw cs hcs SC hEW b e T h1 n0 f54 LP1.1.2.2.2.2 (10 : Int32) (by decide) LP1.1.2.2.1 gb LP1.1.2.1 (by first | omega | (simp only [List.length_append, List.length_cons, List.length_nil]; omega))) (kp_app EN0 LP1.1.2.2.2.2) LP1.1.2.2.2.2.1.exa (hw _ (List.mem_of_getElem? (i := 152) rfl)) (hw _ (List.mem_of_getElem? (i := 153) rfl)) (hw _ (List.mem_of_getElem? (i := 155) rfl)) (hw _ (List.mem_of_getElem? (i := 111) rfl)) rfl (hw _ (List.mem_of_getElem? (i := 154) rfl)) (hw _ (List.mem_of_getElem? (i := 156) rfl)) (hw _ (List.mem_of_getElem? (i := 35) rfl)) (by decide) pd_sac rfl rfl rfl rfl (by decide) (by decide) (by decide) (by decide) ?_
  rintro _ h55 - ⟨rfl, e56, AN57⟩
  rw [show nbI (10 : Int32) = 10 by decide] at AN57
  have AN57b : App Z h1 n0 b e h55 e56 (T ++ [10]) := AN57
  have AP58 := LP1.1.trans AN57b
  refine KW.sub (S' := fun _ => False) (fun x hx => hx.elim) ?_
  show KW true l Z M_wp n0 (fun v h => v = none ∧ ∃ e, App Z h0 n0 b d h e ((((bs ++ [60]) ++ [p]) ++ [62]) ++ kids ks ++ [10, 60, 47, p, 62])) (EL, fun _ => False) h55 6 564 129 #[.val (.ref o), .val (.ref b), .val (.ref i), .val (.ref c.1)] [(.ref b)]
  refine k_pop d_wp_129 rfl rfl ?_
  refine k_aloadN d_wp_130 rfl rfl rfl ?_
  refine k_aloadN d_wp_131 rfl rfl rfl ?_
  have LP2 := LP1.app AN57b
  have LC2 := LC.keep LP2.1.2.2.2.1 (allS ⟨Or.inr hBb, hdeb⟩ (allS ⟨Or.inr hBd, hded⟩ all0))
  have f59 := (OD.keep AP58.2.2.2.1 (allS gb (allS gd all0)))
  refine k_callPrivateW (argsL := [(.ref b)]) (rest := []) (W0 := 0) d_wp_132 rfl (mt_wl l Z a0 hw cs hcs SC hEW de b e56 c.1 c.2 (T ++ [10]) B h55 n0 f59 LP2.1.2.2.2.2 LC2 hBb (LP2.1.bd hBd hBh) hdn LP2.1.2.2.1 gb LP2.1.2.1 (by first | omega | (simp only [List.length_append, List.length_cons, List.length_nil]; omega))) LC2.exa (hw _ (List.mem_of_getElem? (i := 148) rfl)) (hw _ (List.mem_of_getElem? (i := 150) rfl)) (hw _ (List.mem_of_getElem? (i := 84) rfl)) rfl (hw _ (List.mem_of_getElem? (i := 149) rfl)) (hw _ (List.mem_of_getElem? (i := 151) rfl)) (hw _ (List.mem_of_getElem? (i := 2) rfl)) (by decide) pd_wl rfl rfl rfl rfl (by decide) (by decide) (by decide) (by decide) ?_
  rintro _ h60 - ⟨rfl, e61, AN62⟩
  have AN62b : App Z h55 n0 b e56 h60 e61 ((T ++ [10]) ++ [60, c.2, 47, 62]) := AN62
  have AP63 := AP58.trans AN62b
  show KW true l Z M_wp n0 (fun v h => v = none ∧ ∃ e, App Z h0 n0 b d h e ((((bs ++ [60]) ++ [p]) ++ [62]) ++ kids ks ++ [10, 60, 47, p, 62])) (EL, fun _ => False) h60 12 1024 135 #[.val (.ref o), .val (.ref b), .val (.ref i), .val (.ref c.1)] []
  have LP3 := LP2.app AN62b
  refine k_goto (pc' := 104) d_wp_135 (by decide) (by decide) ?_
  exact kw_wp2 l Z a0 hw cs hcs SC hEW de b d o l_ ed p mc ks bs B h0 n0 OD SB PA hks hBb hBd hdn hbd gb gd _ (Or.inr ⟨_, rfl⟩) h60 e61 i (pr ++ [c]) rs' (by rw [hpr]; simp) (by omega) ((T ++ [10]) ++ [60, c.2, 47, 62]) (by first | omega | (simp only [List.length_append, List.length_cons, List.length_nil]; omega)) (by rw [← hTT]; simp [kids]) (by rw [List.length_append]; exact LP3)
set_option maxRecDepth 65536 in
set_option maxHeartbeats 40000000 in
theorem kw_wp (l : Launch) (Z : State) (a0 : Array Value) (hw : ∀ d ∈ tables_1, d.before a0 Z = true) (cs : Int32) (hcs : ¬ cs = 0) (SC : Sta Z Z.heap "java/lang/String" "COMPACT_STRINGS" "Z" (.int cs)) (hEW : EW Z a0 EL) (de b d o l_ ed : Addr) (p mc : Int32) (ks : List (Addr × Int32)) (bs : List Int32) (B : Nat) (h0 : Heap) (n0 : Nat) (OD : Old Z n0 h0) (SB : Sq Z h0 b d bs) (PA : Pa Z h0 n0 de B o l_ ed mc (ks.map Prod.fst) p) (hks : ∀ c ∈ ks, Lf Z h0 n0 de 0 B c.1 c.2) (hBb : B ≤ b) (hBd : B ≤ d) (hdn : de < n0) (hbd : b ≠ d) (gb : n0 ≤ b) (gd : n0 ≤ d) (hb : bs.length ≤ 39) (hn : ks.length = 1 ∨ ks.length = 2 ∨ ks.length = 3) : KW true l Z M_wp n0 (fun v h => v = none ∧ ∃ e, App Z h0 n0 b d h e ((((bs ++ [60]) ++ [p]) ++ [62]) ++ kids ks ++ [10, 60, 47, p, 62])) (EL, fun _ => False) h0 0 0 0 #[.val (.ref o), .val (.ref b), .unset, .unset] [] := by
  obtain ⟨XB, LA, hlB, heB⟩ := id PA
  obtain ⟨w, dw, nm, t, -, ⟨ko, kw, kdw, knm, kt⟩, XO, XN, XA, XC, XT, SN, SW, MW⟩ := id XB
  have hob : o ≠ b := Nat.ne_of_lt (Nat.lt_of_lt_of_le (Nat.lt_trans ko hlB) hBb)
  have hod : o ≠ d := Nat.ne_of_lt (Nat.lt_of_lt_of_le (Nat.lt_trans ko hlB) hBd)
  have hwb : w ≠ b := Nat.ne_of_lt (Nat.lt_of_lt_of_le (Nat.lt_trans kw hlB) hBb)
  have hwd : w ≠ d := Nat.ne_of_lt (Nat.lt_of_lt_of_le (Nat.lt_trans kw hlB) hBd)
  have hdwb : dw ≠ b := Nat.ne_of_lt (Nat.lt_of_lt_of_le (Nat.lt_trans kdw hlB) hBb)
  have hdwd : dw ≠ d := Nat.ne_of_lt (Nat.lt_of_lt_of_le (Nat.lt_trans kdw hlB) hBd)
  have hnmb : nm ≠ b := Nat.ne_of_lt (Nat.lt_of_lt_of_le (Nat.lt_trans knm hlB) hBb)
  have hnmd : nm ≠ d := Nat.ne_of_lt (Nat.lt_of_lt_of_le (Nat.lt_trans knm hlB) hBd)
  have htb : t ≠ b := Nat.ne_of_lt (Nat.lt_of_lt_of_le (Nat.lt_trans kt hlB) hBb)
  have htd : t ≠ d := Nat.ne_of_lt (Nat.lt_of_lt_of_le (Nat.lt_trans kt hlB) hBd)
  have hl_b : l_ ≠ b := Nat.ne_of_lt (Nat.lt_of_lt_of_le hlB hBb)
  have hl_d : l_ ≠ d := Nat.ne_of_lt (Nat.lt_of_lt_of_le hlB hBd)
  have hdeb : de ≠ b := Nat.ne_of_lt (Nat.lt_of_lt_of_le hdn gb)
  have hded : de ≠ d := Nat.ne_of_lt (Nat.lt_of_lt_of_le hdn gd)
  have EN0 := own_EN Z a0 hw
  have hedb : ed ≠ b := Nat.ne_of_lt (Nat.lt_of_lt_of_le heB hBb)
  have hedd : ed ≠ d := Nat.ne_of_lt (Nat.lt_of_lt_of_le heB hBd)
  have hBh : B ≤ h0.size := Nat.le_trans hBb (Nat.le_of_lt SB.lt)
  have AP0 : App Z h0 n0 b d h0 d bs := App.start SB hbd gd
  refine k_aloadN d_wp_0 rfl rfl rfl ?_
  refine k_bipush (z := (60 : Int32)) d_wp_1 rfl (by decide) ?_
  have f64 := (OD.keep AP0.2.2.2.1 (allS gb (allS gd all0)))
  refine k_callVirtual (argsL := [(.int (60 : Int32))]) (rest := []) (W0 := 0) d_wp_3 rfl (mt_sac l Z a0 hw cs hcs SC hEW b d bs h0 n0 f64 AP0.2.2.2.2 (60 : Int32) (by decide) AP0.2.2.1 gb AP0.2.1 (by first | omega | (simp only [List.length_append, List.length_cons, List.length_nil]; omega))) (kp_app EN0 AP0.2.2.2.2) AP0.2.2.2.2.1.exa (hw _ (List.mem_of_getElem? (i := 152) rfl)) (hw _ (List.mem_of_getElem? (i := 153) rfl)) (hw _ (List.mem_of_getElem? (i := 155) rfl)) (hw _ (List.mem_of_getElem? (i := 111) rfl)) rfl (hw _ (List.mem_of_getElem? (i := 154) rfl)) (hw _ (List.mem_of_getElem? (i := 156) rfl)) (hw _ (List.mem_of_getElem? (i := 35) rfl)) (by decide) pd_sac rfl rfl rfl rfl (by decide) (by decide) (by decide) (by decide) ?_
  rintro _ h65 - ⟨rfl, e66, AN67⟩
  rw [show nbI (60 : Int32) = 60 by decide] at AN67
  have AN67b : App Z h0 n0 b d h65 e66 (bs ++ [60]) := AN67
  have AP68 := AP0.trans AN67b
  refine KW.sub (S' := fun _ => False) (fun x hx => hx.elim) ?_
  show KW true l Z M_wp n0 (fun v h => v = none ∧ ∃ e, App Z h0 n0 b d h e ((((bs ++ [60]) ++ [p]) ++ [62]) ++ kids ks ++ [10, 60, 47, p, 62])) (EL, fun _ => False) h65 1 112 6 #[.val (.ref o), .val (.ref b), .unset, .unset] [(.ref b)]
  refine k_aloadN d_wp_6 rfl rfl rfl ?_
  have f69 := (XN.keep AP68.2.2.2.1 (ninS hob (ninS hod nin0)))
  refine k_getField d_wp_7 rfl (hw _ (List.mem_of_getElem? (i := 79) rfl)) Via.refl f69 ?_
  have f70 := (SN.keep AP68.2.2.2.1 (ninS hnmb (ninS hnmd nin0)) (ninS htb (ninS htd nin0)))
  have f71 := (OD.keep AP68.2.2.2.1 (allS gb (allS gd all0)))
  refine k_callVirtual (argsL := [(.ref nm)]) (rest := []) (W0 := 0) d_wp_10 rfl (mt_sas l Z a0 hw cs hcs SC hEW b e66 nm t (bs ++ [60]) [p] h65 n0 f71 AP68.2.2.2.2 f70 AP68.2.2.1 gb AP68.2.1 (by first | omega | (simp only [List.length_append, List.length_cons, List.length_nil]; omega))) (kp_app EN0 AP68.2.2.2.2) AP68.2.2.2.2.1.exa (hw _ (List.mem_of_getElem? (i := 167) rfl)) (hw _ (List.mem_of_getElem? (i := 115) rfl)) (hw _ (List.mem_of_getElem? (i := 117) rfl)) (hw _ (List.mem_of_getElem? (i := 111) rfl)) rfl (hw _ (List.mem_of_getElem? (i := 116) rfl)) (hw _ (List.mem_of_getElem? (i := 118) rfl)) (hw _ (List.mem_of_getElem? (i := 35) rfl)) (by decide) pd_sas rfl rfl rfl rfl (by decide) (by decide) (by decide) (by decide) ?_
  rintro _ h72 - ⟨rfl, e73, AN74⟩
  have AN74b : App Z h65 n0 b e66 h72 e73 ((bs ++ [60]) ++ [p]) := AN74
  have AP75 := AP68.trans AN74b
  refine KW.sub (S' := fun _ => False) (fun x hx => hx.elim) ?_
  show KW true l Z M_wp n0 (fun v h => v = none ∧ ∃ e, App Z h0 n0 b d h e ((((bs ++ [60]) ++ [p]) ++ [62]) ++ kids ks ++ [10, 60, 47, p, 62])) (EL, fun _ => False) h72 2 224 13 #[.val (.ref o), .val (.ref b), .unset, .unset] [(.ref b)]
  refine k_aloadN d_wp_13 rfl rfl rfl ?_
  have f76 := (XA.keep AP75.2.2.2.1 (ninS hob (ninS hod nin0)))
  refine k_getField d_wp_14 rfl (hw _ (List.mem_of_getElem? (i := 51) rfl)) Via.refl f76 ?_
  have f77 := (SW.keep AP75.2.2.2.1 (ninS hwb (ninS hwd nin0)) (ninS hdwb (ninS hdwd nin0)))
  have f78 := (MW.keep AP75.2.2.2.1 (ninS hwb (ninS hwd nin0)))
  have f79 := (OD.keep AP75.2.2.2.1 (allS gb (allS gd all0)))
  refine k_callVirtual (argsL := [(.ref w)]) (rest := []) (W0 := 0) d_wp_17 rfl (mt_spc l Z a0 hw cs hcs SC hEW b e73 w dw ((bs ++ [60]) ++ [p]) h72 n0 f79 AP75.2.2.2.2 f77 f78 AP75.2.2.1 hwb.symm hdwb.symm (AP75.ne SW.lt hwd) (AP75.ne SW.ltv hdwd) gb AP75.2.1 (by first | omega | (simp only [List.length_append, List.length_cons, List.length_nil]; omega))) (kp_app EN0 AP75.2.2.2.2) AP75.2.2.2.2.1.exa (hw _ (List.mem_of_getElem? (i := 168) rfl)) (hw _ (List.mem_of_getElem? (i := 169) rfl)) (hw _ (List.mem_of_getElem? (i := 171) rfl)) (hw _ (List.mem_of_getElem? (i := 111) rfl)) rfl (hw _ (List.mem_of_getElem? (i := 170) rfl)) (hw _ (List.mem_of_getElem? (i := 172) rfl)) (hw _ (List.mem_of_getElem? (i := 35) rfl)) (by decide) pd_spc rfl rfl rfl rfl (by decide) (by decide) (by decide) (by decide) ?_
  rintro _ h80 - ⟨rfl, e81, AN82⟩
  have AN82b : App Z h72 n0 b e73 h80 e81 ((bs ++ [60]) ++ [p]) := AN82
  have AP83 := AP75.trans AN82b
  refine KW.sub (S' := fun _ => False) (fun x hx => hx.elim) ?_
  show KW true l Z M_wp n0 (fun v h => v = none ∧ ∃ e, App Z h0 n0 b d h e ((((bs ++ [60]) ++ [p]) ++ [62]) ++ kids ks ++ [10, 60, 47, p, 62])) (EL, fun _ => False) h80 3 336 20 #[.val (.ref o), .val (.ref b), .unset, .unset] [(.ref b)]
  refine k_pop d_wp_20 rfl rfl ?_
  refine k_aloadN d_wp_21 rfl rfl rfl ?_
  have f84 := (XT.keep AP83.2.2.2.1 (ninS hob (ninS hod nin0)))
  refine k_getField d_wp_22 rfl (hw _ (List.mem_of_getElem? (i := 212) rfl)) Via.refl f84 ?_
  refine k_ifnullY (pc' := 65) d_wp_25 (by decide) (by decide) ?_
  refine k_aloadN d_wp_65 rfl rfl rfl ?_
  have f85 := (XC.keep AP83.2.2.2.1 (ninS hob (ninS hod nin0)))
  refine k_getField d_wp_66 rfl (hw _ (List.mem_of_getElem? (i := 77) rfl)) Via.refl f85 ?_
  have f86 := (LA.keep AP83.2.2.2.1 (ninS hl_b (ninS hl_d nin0)) (ninS hedb (ninS hedd nin0)))
  have f87 := (LA.1.keep AP83.2.2.2.1)
  refine k_callFace (argsL := []) (rest := []) (W0 := 0) d_wp_69 rfl (mt_alm l Z a0 hw cs hcs SC hEW de l_ ed mc (ks.map Prod.fst) h80 n0 f86) (Kp.pure (fun _ _ q => q.2.symm)) f87 (hw _ (List.mem_of_getElem? (i := 214) rfl)) (hw _ (List.mem_of_getElem? (i := 215) rfl)) (hw _ (List.mem_of_getElem? (i := 216) rfl)) (hw _ (List.mem_of_getElem? (i := 217) rfl)) (hw _ (List.mem_of_getElem? (i := 218) rfl)) (hw _ (List.mem_of_getElem? (i := 219) rfl)) (hw _ (List.mem_of_getElem? (i := 220) rfl)) (hw _ (List.mem_of_getElem? (i := 221) rfl)) (hw _ (List.mem_of_getElem? (i := 222) rfl)) (hw _ (List.mem_of_getElem? (i := 55) rfl)) (by decide) rfl pd_alm rfl rfl rfl rfl (by decide) (by decide) (by decide) (by decide) ?_
  rintro _ _ - ⟨rfl, rfl⟩
  rw [if_neg (fun q => by have := congrArg List.length q; rw [List.length_map, List.length_nil] at this; omega)]
  refine KW.sub (S' := fun _ => False) (fun x hx => hx.elim) ?_
  show KW true l Z M_wp n0 (fun v h => v = none ∧ ∃ e, App Z h0 n0 b d h e ((((bs ++ [60]) ++ [p]) ++ [62]) ++ kids ks ++ [10, 60, 47, p, 62])) (EL, fun _ => False) h80 3 336 74 #[.val (.ref o), .val (.ref b), .unset, .unset] [(.int (0 : Int32))]
  refine k_ifc (pc1 := 87) (pc' := 77) d_wp_74 (by decide) (by decide) rfl (fun (cd5 : (0 : Int32) = (0 : Int32)) => ?_) (fun (cd5 : ¬ (0 : Int32) = (0 : Int32)) => False.elim (by exact absurd cd5 (by decide)))
  refine k_aloadN d_wp_87 rfl rfl rfl ?_
  refine k_bipush (z := (62 : Int32)) d_wp_88 rfl (by decide) ?_
  have f88 := (OD.keep AP83.2.2.2.1 (allS gb (allS gd all0)))
  refine k_callVirtual (argsL := [(.int (62 : Int32))]) (rest := []) (W0 := 0) d_wp_90 rfl (mt_sac l Z a0 hw cs hcs SC hEW b e81 ((bs ++ [60]) ++ [p]) h80 n0 f88 AP83.2.2.2.2 (62 : Int32) (by decide) AP83.2.2.1 gb AP83.2.1 (by first | omega | (simp only [List.length_append, List.length_cons, List.length_nil]; omega))) (kp_app EN0 AP83.2.2.2.2) AP83.2.2.2.2.1.exa (hw _ (List.mem_of_getElem? (i := 152) rfl)) (hw _ (List.mem_of_getElem? (i := 153) rfl)) (hw _ (List.mem_of_getElem? (i := 155) rfl)) (hw _ (List.mem_of_getElem? (i := 111) rfl)) rfl (hw _ (List.mem_of_getElem? (i := 154) rfl)) (hw _ (List.mem_of_getElem? (i := 156) rfl)) (hw _ (List.mem_of_getElem? (i := 35) rfl)) (by decide) pd_sac rfl rfl rfl rfl (by decide) (by decide) (by decide) (by decide) ?_
  rintro _ h89 - ⟨rfl, e90, AN91⟩
  rw [show nbI (62 : Int32) = 62 by decide] at AN91
  have AN91b : App Z h80 n0 b e81 h89 e90 (((bs ++ [60]) ++ [p]) ++ [62]) := AN91
  have AP92 := AP83.trans AN91b
  refine KW.sub (S' := fun _ => False) (fun x hx => hx.elim) ?_
  show KW true l Z M_wp n0 (fun v h => v = none ∧ ∃ e, App Z h0 n0 b d h e ((((bs ++ [60]) ++ [p]) ++ [62]) ++ kids ks ++ [10, 60, 47, p, 62])) (EL, fun _ => False) h89 4 448 93 #[.val (.ref o), .val (.ref b), .unset, .unset] [(.ref b)]
  refine k_pop d_wp_93 rfl rfl ?_
  refine k_aloadN d_wp_94 rfl rfl rfl ?_
  have f93 := (XC.keep AP92.2.2.2.1 (ninS hob (ninS hod nin0)))
  refine k_getField d_wp_95 rfl (hw _ (List.mem_of_getElem? (i := 77) rfl)) Via.refl f93 ?_
  have f94 := (OD.keep AP92.2.2.2.1 (allS gb (allS gd all0)))
  have f95 := (LA.keep AP92.2.2.2.1 (ninS hl_b (ninS hl_d nin0)) (ninS hedb (ninS hedd nin0)))
  have f96 := (LA.1.keep AP92.2.2.2.1)
  refine k_callFace (argsL := []) (rest := []) (W0 := 0) d_wp_98 rfl (mt_itr l Z a0 hw cs hcs SC hEW de l_ ed mc (ks.map Prod.fst) h89 n0 f94 f95) (fun _ _ _ q => by obtain ⟨_, -, -, -, K, -⟩ := q; exact ⟨[], K, fun _ z => nomatch z⟩) f96 (hw _ (List.mem_of_getElem? (i := 318) rfl)) (hw _ (List.mem_of_getElem? (i := 319) rfl)) (hw _ (List.mem_of_getElem? (i := 320) rfl)) (hw _ (List.mem_of_getElem? (i := 321) rfl)) (hw _ (List.mem_of_getElem? (i := 322) rfl)) (hw _ (List.mem_of_getElem? (i := 323) rfl)) (hw _ (List.mem_of_getElem? (i := 324) rfl)) (hw _ (List.mem_of_getElem? (i := 221) rfl)) (hw _ (List.mem_of_getElem? (i := 325) rfl)) (hw _ (List.mem_of_getElem? (i := 55) rfl)) (by decide) rfl pd_itr rfl rfl rfl rfl (by decide) (by decide) (by decide) (by decide) ?_
  rintro _ h97 - ⟨i, rfl, gi1, gi2, KI, II⟩
  have LP : Lp Z h0 n0 b d l_ mc h97 e90 i 0 (((bs ++ [60]) ++ [p]) ++ [62]) := ⟨AP92.aside KI (fun _ z => nomatch z), II, Nat.le_trans AP92.2.2.2.1.1 gi1, gi2, Nat.ne_of_lt (Nat.lt_of_lt_of_le AP92.2.2.2.2.lt gi1), Nat.ne_of_lt (Nat.lt_of_lt_of_le AP92.2.2.2.2.ltv gi1)⟩
  refine KW.sub (S' := fun _ => False) (fun x hx => hx.elim) ?_
  show KW true l Z M_wp n0 (fun v h => v = none ∧ ∃ e, App Z h0 n0 b d h e ((((bs ++ [60]) ++ [p]) ++ [62]) ++ kids ks ++ [10, 60, 47, p, 62])) (EL, fun _ => False) h97 5 452 103 #[.val (.ref o), .val (.ref b), .unset, .unset] [(.ref i)]
  refine k_astoreN (Ls' := #[.val (.ref o), .val (.ref b), .val (.ref i), .unset]) d_wp_103 rfl rfl rfl ?_
  rcases hn with hn | hn | hn
  · refine KW.more (k' := 19) (n' := 1596) (by decide) (by decide) ?_
    exact kw_wp1 l Z a0 hw cs hcs SC hEW de b d o l_ ed p mc ks bs B h0 n0 OD SB PA hks hBb hBd hdn hbd gb gd _ (Or.inl rfl) h97 e90 i [] ks rfl hn (((bs ++ [60]) ++ [p]) ++ [62]) (by rw [hn]; simp only [List.length_append, List.length_cons, List.length_nil]; omega) rfl LP
  · refine KW.more (k' := 12) (n' := 1024) (by decide) (by decide) ?_
    exact kw_wp2 l Z a0 hw cs hcs SC hEW de b d o l_ ed p mc ks bs B h0 n0 OD SB PA hks hBb hBd hdn hbd gb gd _ (Or.inl rfl) h97 e90 i [] ks rfl hn (((bs ++ [60]) ++ [p]) ++ [62]) (by rw [hn]; simp only [List.length_append, List.length_cons, List.length_nil]; omega) rfl LP
  · refine KW.more (k' := 5) (n' := 452) (by decide) (by decide) ?_
    exact kw_wp3 l Z a0 hw cs hcs SC hEW de b d o l_ ed p mc ks bs B h0 n0 OD SB PA hks hBb hBd hdn hbd gb gd _ (Or.inl rfl) h97 e90 i [] ks rfl hn (((bs ++ [60]) ++ [p]) ++ [62]) (by rw [hn]; simp only [List.length_append, List.length_cons, List.length_nil]; omega) rfl LP
theorem mt_wp (l : Launch) (Z : State) (a0 : Array Value) (hw : ∀ d ∈ tables_1, d.before a0 Z = true) (cs : Int32) (hcs : ¬ cs = 0) (SC : Sta Z Z.heap "java/lang/String" "COMPACT_STRINGS" "Z" (.int cs)) (hEW : EW Z a0 EL) (de b d o l_ ed : Addr) (p mc : Int32) (ks : List (Addr × Int32)) (bs : List Int32) (B : Nat) (h0 : Heap) (n0 : Nat) (OD : Old Z n0 h0) (SB : Sq Z h0 b d bs) (PA : Pa Z h0 n0 de B o l_ ed mc (ks.map Prod.fst) p) (hks : ∀ c ∈ ks, Lf Z h0 n0 de 0 B c.1 c.2) (hBb : B ≤ b) (hBd : B ≤ d) (hdn : de < n0) (hbd : b ≠ d) (gb : n0 ≤ b) (gd : n0 ≤ d) (hb : bs.length ≤ 39) (hn : ks.length = 1 ∨ ks.length = 2 ∨ ks.length = 3) : MtW l Z M_wp [] n0 #[(.ref o), (.ref b)] (EL, fun _ => False) h0 (fun v h => v = none ∧ ∃ e, App Z h0 n0 b d h e ((((bs ++ [60]) ++ [p]) ++ [62]) ++ kids ks ++ [10, 60, 47, p, 62])) :=
  mtw_of_kw (a0 := a0) (P := (EL, fun _ => False)) pf_wp hEW (fun m => by first | (simp [entryFrame, mkF, argsToLocals, Value.category]; done) | rfl) (kw_wp l Z a0 hw cs hcs SC hEW de b d o l_ ed p mc ks bs B h0 n0 OD SB PA hks hBb hBd hdn hbd gb gd hb hn)
abbrev M_dl : MD := ((⟨"com/example/roomwire/roomwire/qunar/XmlElement", "document", "()Ljava/lang/String;"⟩ : MethodName), prog_61_method_5_code, 2, (some (.object "java/lang/String")), { frames := 9, cells := 14, slots := 1019, locals := 172 })
theorem d_dl_0 : decode prog_61_method_5_code 0 = .ok (.new 7, 3) := by decide +kernel
theorem d_dl_3 : decode prog_61_method_5_code 3 = .ok (.dup, 1) := by decide +kernel
theorem d_dl_4 : decode prog_61_method_5_code 4 = .ok (.ldc 57, 2) := by decide +kernel
theorem d_dl_6 : decode prog_61_method_5_code 6 = .ok (.invokespecial 59, 3) := by decide +kernel
theorem d_dl_9 : decode prog_61_method_5_code 9 = .ok (.astore_n 1, 1) := by decide +kernel
theorem d_dl_10 : decode prog_61_method_5_code 10 = .ok (.aload_n 0, 1) := by decide +kernel
theorem d_dl_11 : decode prog_61_method_5_code 11 = .ok (.aload_n 1, 1) := by decide +kernel
theorem d_dl_12 : decode prog_61_method_5_code 12 = .ok (.invokevirtual 60, 3) := by decide +kernel
theorem d_dl_15 : decode prog_61_method_5_code 15 = .ok (.aload_n 1, 1) := by decide +kernel
theorem d_dl_16 : decode prog_61_method_5_code 16 = .ok (.bipush 10, 2) := by decide +kernel
theorem d_dl_18 : decode prog_61_method_5_code 18 = .ok (.invokevirtual 27, 3) := by decide +kernel
theorem d_dl_21 : decode prog_61_method_5_code 21 = .ok (.invokevirtual 64, 3) := by decide +kernel
theorem d_dl_24 : decode prog_61_method_5_code 24 = .ok (.areturn, 1) := by decide +kernel
theorem pd_dl : parseMethodDescriptor "()Ljava/lang/String;" = some ⟨[], (some (.object "java/lang/String"))⟩ := by decide +kernel
theorem pf_dl : plainFor (⟨"com/example/roomwire/roomwire/qunar/XmlElement", "document", "()Ljava/lang/String;"⟩ : MethodName) = true := by first | exact plainFor_of_name (by first | (simp [plainName, overriddenIn]; done) | decide +kernel) | decide +kernel
set_option maxRecDepth 65536 in
set_option maxHeartbeats 40000000 in
theorem kw_dl (l : Launch) (Z : State) (a0 : Array Value) (hw : ∀ d ∈ tables_1, d.before a0 Z = true) (cs : Int32) (hcs : ¬ cs = 0) (SC : Sta Z Z.heap "java/lang/String" "COMPACT_STRINGS" "Z" (.int cs)) (hEW : EW Z a0 EL) (de o : Addr) (p : Int32) (h0 : Heap) (n0 : Nat) (OD : Old Z n0 h0) (LF : Lf Z h0 n0 de 0 h0.size o p) (hdn : de < n0) : KW true l Z M_dl n0 (fun v h => ∃ a t, v = some (.ref a) ∧ Keep h0 h [] ∧ Sg Z h a t ((HDR ++ [60, p, 47, 62]) ++ [10])) (EL, fun _ => False) h0 0 0 0 #[.val (.ref o), .unset] [] := by
  have Z0 := OD.1 ▸ OD.2.1
  have K0 : Keep h0 h0 [] := Keep.refl _ _
  have XO := LF.exa
  refine k_new d_dl_0 rfl (hw _ (List.mem_of_getElem? (i := 33) rfl)) (hw _ (List.mem_of_getElem? (i := 34) rfl)) (hw _ (List.mem_of_getElem? (i := 35) rfl)) (by decide) (by decide) ?_
  intro h2 a1 g6 E3 A4 D5
  have ne7 : o ≠ a1 := Nat.ne_of_lt (Nat.lt_of_lt_of_eq XO.lt g6.symm)
  have z8 : n0 ≤ h0.size := Z0
  have ge9 : n0 ≤ a1 := Nat.le_trans z8 (Nat.le_of_eq g6.symm)
  have gl10 : h0.size ≤ a1 := Nat.le_of_eq g6.symm
  have gh11 := Nat.le_trans K0.1 gl10
  have F12 : Fld Z h2 a1 "java/lang/AbstractStringBuilder" "value" "[B" .null := D5 (Or.inl (hw _ (List.mem_of_getElem? (i := 48) rfl))) (ty := (.array .byte)) (by decide)
  have F13 : Fld Z h2 a1 "java/lang/AbstractStringBuilder" "coder" "B" (.int (0 : Int32)) := D5 (Or.inl (hw _ (List.mem_of_getElem? (i := 50) rfl))) (ty := .byte) (by decide)
  have F14 : Fld Z h2 a1 "java/lang/AbstractStringBuilder" "count" "I" (.int (0 : Int32)) := D5 (Or.inl (hw _ (List.mem_of_getElem? (i := 123) rfl))) (ty := .int) (by decide)
  have F15 : Fld Z h2 a1 "java/lang/AbstractStringBuilder" "maybeLatin1" "Z" (.int (0 : Int32)) := D5 (Or.inl (hw _ (List.mem_of_getElem? (i := 211) rfl))) (ty := .boolean) (by decide)
  refine KW.sub (S' := fun x => x = a1) (fun x hx => ?_) ?_
  · rcases hx with rfl
    · exact Or.inr ⟨gl10, A4.lt⟩
  show KW true l Z M_dl n0 (fun v h => ∃ a t, v = some (.ref a) ∧ Keep h0 h [] ∧ Sg Z h a t ((HDR ++ [60, p, 47, 62]) ++ [10])) (EL, fun x => x = a1) h2 1 4 3 #[.val (.ref o), .unset] [(.ref a1)]
  refine k_dup d_dl_3 rfl rfl ?_
  refine k_ldcS (sl := 156) (vs := [Value.int (60 : Int32), Value.int (63 : Int32), Value.int (120 : Int32), Value.int (109 : Int32), Value.int (108 : Int32), Value.int (32 : Int32), Value.int (118 : Int32), Value.int (101 : Int32), Value.int (114 : Int32), Value.int (115 : Int32), Value.int (105 : Int32), Value.int (111 : Int32), Value.int (110 : Int32), Value.int (61 : Int32), Value.int (34 : Int32), Value.int (49 : Int32), Value.int (46 : Int32), Value.int (48 : Int32), Value.int (34 : Int32), Value.int (32 : Int32), Value.int (101 : Int32), Value.int (110 : Int32), Value.int (99 : Int32), Value.int (111 : Int32), Value.int (100 : Int32), Value.int (105 : Int32), Value.int (110 : Int32), Value.int (103 : Int32), Value.int (61 : Int32), Value.int (34 : Int32), Value.int (117 : Int32), Value.int (116 : Int32), Value.int (102 : Int32), Value.int (45 : Int32), Value.int (56 : Int32), Value.int (34 : Int32), Value.int (63 : Int32), Value.int (62 : Int32), Value.int (10 : Int32)]) (z := (39 : Int32)) d_dl_4 rfl (hw _ (List.mem_of_getElem? (i := 86) rfl)) (own_wS Z a0 hw) (List.mem_of_getElem? (i := 0) rfl) ⟨by decide +kernel, by decide +kernel⟩ (by decide) (by decide) (by decide +kernel) (by decide) (by decide) (by decide) ?_
  intro a16 b17 ck18 h19 E20 X21 F22 F23 A24 N25
  have SG26 : Sg Z h19 a16 b17 HDR := ⟨ck18, X21, F22, F23, A24, by decide⟩
  show KW true l Z M_dl n0 (fun v h => ∃ a t, v = some (.ref a) ∧ Keep h0 h [] ∧ Sg Z h a t ((HDR ++ [60, p, 47, 62]) ++ [10])) (EL, fun x => x = a1) h19 3 164 6 #[.val (.ref o), .unset] [(.ref a16), (.ref a1), (.ref a1)]
  have f27 := (A4.ext E20)
  have f28 := (F12.ext E20)
  have f29 := (F13.ext E20)
  have f30 := (F14.ext E20)
  have f31 := (F15.ext E20)
  have f32 := ((K0.ext E3).ext E20)
  have f33 := ((OD.ext E3).ext E20)
  refine k_callInit (a := a1) (argsL := [(.ref a16)]) (rest := [(.ref a1)]) (W0 := 1) d_dl_6 rfl (mt_szs l Z a0 hw cs hcs SC hEW a1 a16 b17 HDR h19 n0 f33 ge9 f27 f28 f29 f30 f31 SG26 (by decide)) (fun _ _ _ q => by obtain ⟨-, _, -, -, -, K, -⟩ := q; exact ⟨[a1], K, allS (Sf.exa f27 (by decide) (by decide)) all0⟩) rfl rfl (hw _ (List.mem_of_getElem? (i := 89) rfl)) (hw _ (List.mem_of_getElem? (i := 90) rfl)) (hw _ (List.mem_of_getElem? (i := 35) rfl)) (hw _ (List.mem_of_getElem? (i := 91) rfl)) (by decide) pd_szs rfl rfl rfl rfl (by decide) (by decide) (by decide) (by decide) ?_
  rintro _ hM - ⟨rfl, e, ge1, ge2, hbe, KM, SQ⟩
  have K2 := f32.trans KM (allS (Or.inr gh11) all0)
  have ghe := Nat.le_trans f32.1 ge1
  have OD2 := OD.keep K2 all0
  refine KW.sub (S' := fun _ => False) (fun x hx => hx.elim) ?_
  show KW true l Z M_dl n0 (fun v h => ∃ a t, v = some (.ref a) ∧ Keep h0 h [] ∧ Sg Z h a t ((HDR ++ [60, p, 47, 62]) ++ [10])) (EL, fun _ => False) hM 5 331 9 #[.val (.ref o), .unset] [(.ref a1)]
  refine k_astoreN (Ls' := #[.val (.ref o), .val (.ref a1)]) d_dl_9 rfl rfl rfl ?_
  refine k_aloadN d_dl_10 rfl rfl rfl ?_
  refine k_aloadN d_dl_11 rfl rfl rfl ?_
  refine k_callPrivateW (argsL := [(.ref a1)]) (rest := []) (W0 := 0) d_dl_12 rfl (mt_wl l Z a0 hw cs hcs SC hEW de a1 e o p HDR h0.size hM n0 OD2 SQ (LF.keep K2 (fun _ z => nomatch z)) gh11 ghe hdn hbe ge9 ge2 (by decide)) (XO.keep K2) (hw _ (List.mem_of_getElem? (i := 148) rfl)) (hw _ (List.mem_of_getElem? (i := 150) rfl)) (hw _ (List.mem_of_getElem? (i := 84) rfl)) rfl (hw _ (List.mem_of_getElem? (i := 149) rfl)) (hw _ (List.mem_of_getElem? (i := 151) rfl)) (hw _ (List.mem_of_getElem? (i := 2) rfl)) (by decide) pd_wl rfl rfl rfl rfl (by decide) (by decide) (by decide) (by decide) ?_
  rintro _ hW - ⟨rfl, f, AP0⟩
  have EN0 := own_EN Z a0 hw
  have hTl : ((HDR ++ [60, p, 47, 62])).length = 43 := rfl
  show KW true l Z M_dl n0 (fun v h => ∃ a t, v = some (.ref a) ∧ Keep h0 h [] ∧ Sg Z h a t ((HDR ++ [60, p, 47, 62]) ++ [10])) (EL, fun _ => False) hW 11 791 15 #[.val (.ref o), .val (.ref a1)] []
  refine k_aloadN d_dl_15 rfl rfl rfl ?_
  refine k_bipush (z := (10 : Int32)) d_dl_16 rfl (by decide) ?_
  have f34 := (OD2.keep AP0.2.2.2.1 (allS ge9 (allS ge2 all0)))
  refine k_callVirtual (argsL := [(.int (10 : Int32))]) (rest := []) (W0 := 0) d_dl_18 rfl (mt_sac l Z a0 hw cs hcs SC hEW a1 f (HDR ++ [60, p, 47, 62]) hW n0 f34 AP0.2.2.2.2 (10 : Int32) (by decide) AP0.2.2.1 ge9 AP0.2.1 (by rw [hTl]; omega)) (kp_app EN0 AP0.2.2.2.2) AP0.2.2.2.2.1.exa (hw _ (List.mem_of_getElem? (i := 152) rfl)) (hw _ (List.mem_of_getElem? (i := 153) rfl)) (hw _ (List.mem_of_getElem? (i := 155) rfl)) (hw _ (List.mem_of_getElem? (i := 111) rfl)) rfl (hw _ (List.mem_of_getElem? (i := 154) rfl)) (hw _ (List.mem_of_getElem? (i := 156) rfl)) (hw _ (List.mem_of_getElem? (i := 35) rfl)) (by decide) pd_sac rfl rfl rfl rfl (by decide) (by decide) (by decide) (by decide) ?_
  rintro _ h35 - ⟨rfl, e36, AN37⟩
  rw [show nbI (10 : Int32) = 10 by decide] at AN37
  have AN37b : App Z hW n0 a1 f h35 e36 ((HDR ++ [60, p, 47, 62]) ++ [10]) := AN37
  have AP38 := AP0.trans AN37b
  refine KW.sub (S' := fun _ => False) (fun x hx => hx.elim) ?_
  show KW true l Z M_dl n0 (fun v h => ∃ a t, v = some (.ref a) ∧ Keep h0 h [] ∧ Sg Z h a t ((HDR ++ [60, p, 47, 62]) ++ [10])) (EL, fun _ => False) h35 12 903 21 #[.val (.ref o), .val (.ref a1)] [(.ref a1)]
  have hT2 : (((HDR ++ [60, p, 47, 62]) ++ [10])).length = 43 + 1 := by rw [List.length_append, hTl]; rfl
  have f39 := (OD2.keep AP38.2.2.2.1 (allS ge9 (allS ge2 all0)))
  refine k_callVirtual (argsL := []) (rest := []) (W0 := 0) d_dl_21 rfl (mt_tos l Z a0 hw cs hcs SC hEW a1 e36 _ ((HDR ++ [60, p, 47, 62]) ++ [10]) h35 n0 f39 AP38.2.2.2.2.1 (by rw [hT2]; decide) (by rw [hT2]; omega)) (fun _ _ _ q => by obtain ⟨_, _, -, K, -⟩ := q; exact ⟨[], K, fun _ z => nomatch z⟩) AP38.2.2.2.2.1.exa (hw _ (List.mem_of_getElem? (i := 226) rfl)) (hw _ (List.mem_of_getElem? (i := 227) rfl)) (hw _ (List.mem_of_getElem? (i := 229) rfl)) (hw _ (List.mem_of_getElem? (i := 111) rfl)) rfl (hw _ (List.mem_of_getElem? (i := 228) rfl)) (hw _ (List.mem_of_getElem? (i := 230) rfl)) (hw _ (List.mem_of_getElem? (i := 35) rfl)) (by decide) pd_tos rfl rfl rfl rfl (by decide) (by decide) (by decide) (by decide) ?_
  rintro _ hZ - ⟨a, t, rfl, KZ, SGZ⟩
  refine KW.sub (S' := fun _ => False) (fun x hx => hx.elim) ?_
  show KW true l Z M_dl n0 (fun v h => ∃ a t, v = some (.ref a) ∧ Keep h0 h [] ∧ Sg Z h a t ((HDR ++ [60, p, 47, 62]) ++ [10])) (EL, fun _ => False) hZ 14 1019 24 #[.val (.ref o), .val (.ref a1)] [(.ref a)]
  exact k_retRef d_dl_24 rfl rfl rfl (by decide) (by decide) ⟨a, t, rfl, (K2.trans AP38.2.2.2.1 (allS (Or.inr gh11) (allS (Or.inr ghe) all0))).trans KZ all0, SGZ⟩
theorem mt_dl (l : Launch) (Z : State) (a0 : Array Value) (hw : ∀ d ∈ tables_1, d.before a0 Z = true) (cs : Int32) (hcs : ¬ cs = 0) (SC : Sta Z Z.heap "java/lang/String" "COMPACT_STRINGS" "Z" (.int cs)) (hEW : EW Z a0 EL) (de o : Addr) (p : Int32) (h0 : Heap) (n0 : Nat) (OD : Old Z n0 h0) (LF : Lf Z h0 n0 de 0 h0.size o p) (hdn : de < n0) : MtW l Z M_dl [] n0 #[(.ref o)] (EL, fun _ => False) h0 (fun v h => ∃ a t, v = some (.ref a) ∧ Keep h0 h [] ∧ Sg Z h a t ((HDR ++ [60, p, 47, 62]) ++ [10])) :=
  mtw_of_kw (a0 := a0) (P := (EL, fun _ => False)) pf_dl hEW (fun m => by first | (simp [entryFrame, mkF, argsToLocals, Value.category]; done) | rfl) (kw_dl l Z a0 hw cs hcs SC hEW de o p h0 n0 OD LF hdn)
abbrev M_dp : MD := ((⟨"com/example/roomwire/roomwire/qunar/XmlElement", "document", "()Ljava/lang/String;"⟩ : MethodName), prog_61_method_5_code, 2, (some (.object "java/lang/String")), { frames := 9, cells := 39, slots := 3079, locals := 172 })
theorem d_dp_0 : decode prog_61_method_5_code 0 = .ok (.new 7, 3) := by decide +kernel
theorem d_dp_3 : decode prog_61_method_5_code 3 = .ok (.dup, 1) := by decide +kernel
theorem d_dp_4 : decode prog_61_method_5_code 4 = .ok (.ldc 57, 2) := by decide +kernel
theorem d_dp_6 : decode prog_61_method_5_code 6 = .ok (.invokespecial 59, 3) := by decide +kernel
theorem d_dp_9 : decode prog_61_method_5_code 9 = .ok (.astore_n 1, 1) := by decide +kernel
theorem d_dp_10 : decode prog_61_method_5_code 10 = .ok (.aload_n 0, 1) := by decide +kernel
theorem d_dp_11 : decode prog_61_method_5_code 11 = .ok (.aload_n 1, 1) := by decide +kernel
theorem d_dp_12 : decode prog_61_method_5_code 12 = .ok (.invokevirtual 60, 3) := by decide +kernel
theorem d_dp_15 : decode prog_61_method_5_code 15 = .ok (.aload_n 1, 1) := by decide +kernel
theorem d_dp_16 : decode prog_61_method_5_code 16 = .ok (.bipush 10, 2) := by decide +kernel
theorem d_dp_18 : decode prog_61_method_5_code 18 = .ok (.invokevirtual 27, 3) := by decide +kernel
theorem d_dp_21 : decode prog_61_method_5_code 21 = .ok (.invokevirtual 64, 3) := by decide +kernel
theorem d_dp_24 : decode prog_61_method_5_code 24 = .ok (.areturn, 1) := by decide +kernel
theorem pd_dp : parseMethodDescriptor "()Ljava/lang/String;" = some ⟨[], (some (.object "java/lang/String"))⟩ := by decide +kernel
theorem pf_dp : plainFor (⟨"com/example/roomwire/roomwire/qunar/XmlElement", "document", "()Ljava/lang/String;"⟩ : MethodName) = true := by first | exact plainFor_of_name (by first | (simp [plainName, overriddenIn]; done) | decide +kernel) | decide +kernel
set_option maxRecDepth 65536 in
set_option maxHeartbeats 40000000 in
theorem kw_dp (l : Launch) (Z : State) (a0 : Array Value) (hw : ∀ d ∈ tables_1, d.before a0 Z = true) (cs : Int32) (hcs : ¬ cs = 0) (SC : Sta Z Z.heap "java/lang/String" "COMPACT_STRINGS" "Z" (.int cs)) (hEW : EW Z a0 EL) (de o l_ ed : Addr) (p mc : Int32) (ks : List (Addr × Int32)) (h0 : Heap) (n0 : Nat) (OD : Old Z n0 h0) (PA : Pa Z h0 n0 de h0.size o l_ ed mc (ks.map Prod.fst) p) (hks : ∀ c ∈ ks, Lf Z h0 n0 de 0 h0.size c.1 c.2) (hdn : de < n0) (hn : ks.length = 1 ∨ ks.length = 2 ∨ ks.length = 3) : KW true l Z M_dp n0 (fun v h => ∃ a t, v = some (.ref a) ∧ Keep h0 h [] ∧ Sg Z h a t (((((HDR ++ [60]) ++ [p]) ++ [62]) ++ kids ks ++ [10, 60, 47, p, 62]) ++ [10])) (EL, fun _ => False) h0 0 0 0 #[.val (.ref o), .unset] [] := by
  have Z0 := OD.1 ▸ OD.2.1
  have K0 : Keep h0 h0 [] := Keep.refl _ _
  have XO := PA.1.exa
  refine k_new d_dp_0 rfl (hw _ (List.mem_of_getElem? (i := 33) rfl)) (hw _ (List.mem_of_getElem? (i := 34) rfl)) (hw _ (List.mem_of_getElem? (i := 35) rfl)) (by decide) (by decide) ?_
  intro h2 a1 g6 E3 A4 D5
  have ne7 : o ≠ a1 := Nat.ne_of_lt (Nat.lt_of_lt_of_eq XO.lt g6.symm)
  have z8 : n0 ≤ h0.size := Z0
  have ge9 : n0 ≤ a1 := Nat.le_trans z8 (Nat.le_of_eq g6.symm)
  have gl10 : h0.size ≤ a1 := Nat.le_of_eq g6.symm
  have gh11 := Nat.le_trans K0.1 gl10
  have F12 : Fld Z h2 a1 "java/lang/AbstractStringBuilder" "value" "[B" .null := D5 (Or.inl (hw _ (List.mem_of_getElem? (i := 48) rfl))) (ty := (.array .byte)) (by decide)
  have F13 : Fld Z h2 a1 "java/lang/AbstractStringBuilder" "coder" "B" (.int (0 : Int32)) := D5 (Or.inl (hw _ (List.mem_of_getElem? (i := 50) rfl))) (ty := .byte) (by decide)
  have F14 : Fld Z h2 a1 "java/lang/AbstractStringBuilder" "count" "I" (.int (0 : Int32)) := D5 (Or.inl (hw _ (List.mem_of_getElem? (i := 123) rfl))) (ty := .int) (by decide)
  have F15 : Fld Z h2 a1 "java/lang/AbstractStringBuilder" "maybeLatin1" "Z" (.int (0 : Int32)) := D5 (Or.inl (hw _ (List.mem_of_getElem? (i := 211) rfl))) (ty := .boolean) (by decide)
  refine KW.sub (S' := fun x => x = a1) (fun x hx => ?_) ?_
  · rcases hx with rfl
    · exact Or.inr ⟨gl10, A4.lt⟩
  show KW true l Z M_dp n0 (fun v h => ∃ a t, v = some (.ref a) ∧ Keep h0 h [] ∧ Sg Z h a t (((((HDR ++ [60]) ++ [p]) ++ [62]) ++ kids ks ++ [10, 60, 47, p, 62]) ++ [10])) (EL, fun x => x = a1) h2 1 4 3 #[.val (.ref o), .unset] [(.ref a1)]
  refine k_dup d_dp_3 rfl rfl ?_
  refine k_ldcS (sl := 156) (vs := [Value.int (60 : Int32), Value.int (63 : Int32), Value.int (120 : Int32), Value.int (109 : Int32), Value.int (108 : Int32), Value.int (32 : Int32), Value.int (118 : Int32), Value.int (101 : Int32), Value.int (114 : Int32), Value.int (115 : Int32), Value.int (105 : Int32), Value.int (111 : Int32), Value.int (110 : Int32), Value.int (61 : Int32), Value.int (34 : Int32), Value.int (49 : Int32), Value.int (46 : Int32), Value.int (48 : Int32), Value.int (34 : Int32), Value.int (32 : Int32), Value.int (101 : Int32), Value.int (110 : Int32), Value.int (99 : Int32), Value.int (111 : Int32), Value.int (100 : Int32), Value.int (105 : Int32), Value.int (110 : Int32), Value.int (103 : Int32), Value.int (61 : Int32), Value.int (34 : Int32), Value.int (117 : Int32), Value.int (116 : Int32), Value.int (102 : Int32), Value.int (45 : Int32), Value.int (56 : Int32), Value.int (34 : Int32), Value.int (63 : Int32), Value.int (62 : Int32), Value.int (10 : Int32)]) (z := (39 : Int32)) d_dp_4 rfl (hw _ (List.mem_of_getElem? (i := 86) rfl)) (own_wS Z a0 hw) (List.mem_of_getElem? (i := 0) rfl) ⟨by decide +kernel, by decide +kernel⟩ (by decide) (by decide) (by decide +kernel) (by decide) (by decide) (by decide) ?_
  intro a16 b17 ck18 h19 E20 X21 F22 F23 A24 N25
  have SG26 : Sg Z h19 a16 b17 HDR := ⟨ck18, X21, F22, F23, A24, by decide⟩
  show KW true l Z M_dp n0 (fun v h => ∃ a t, v = some (.ref a) ∧ Keep h0 h [] ∧ Sg Z h a t (((((HDR ++ [60]) ++ [p]) ++ [62]) ++ kids ks ++ [10, 60, 47, p, 62]) ++ [10])) (EL, fun x => x = a1) h19 3 164 6 #[.val (.ref o), .unset] [(.ref a16), (.ref a1), (.ref a1)]
  have f27 := (A4.ext E20)
  have f28 := (F12.ext E20)
  have f29 := (F13.ext E20)
  have f30 := (F14.ext E20)
  have f31 := (F15.ext E20)
  have f32 := ((K0.ext E3).ext E20)
  have f33 := ((OD.ext E3).ext E20)
  refine k_callInit (a := a1) (argsL := [(.ref a16)]) (rest := [(.ref a1)]) (W0 := 1) d_dp_6 rfl (mt_szs l Z a0 hw cs hcs SC hEW a1 a16 b17 HDR h19 n0 f33 ge9 f27 f28 f29 f30 f31 SG26 (by decide)) (fun _ _ _ q => by obtain ⟨-, _, -, -, -, K, -⟩ := q; exact ⟨[a1], K, allS (Sf.exa f27 (by decide) (by decide)) all0⟩) rfl rfl (hw _ (List.mem_of_getElem? (i := 89) rfl)) (hw _ (List.mem_of_getElem? (i := 90) rfl)) (hw _ (List.mem_of_getElem? (i := 35) rfl)) (hw _ (List.mem_of_getElem? (i := 91) rfl)) (by decide) pd_szs rfl rfl rfl rfl (by decide) (by decide) (by decide) (by decide) ?_
  rintro _ hM - ⟨rfl, e, ge1, ge2, hbe, KM, SQ⟩
  have K2 := f32.trans KM (allS (Or.inr gh11) all0)
  have ghe := Nat.le_trans f32.1 ge1
  have OD2 := OD.keep K2 all0
  refine KW.sub (S' := fun _ => False) (fun x hx => hx.elim) ?_
  show KW true l Z M_dp n0 (fun v h => ∃ a t, v = some (.ref a) ∧ Keep h0 h [] ∧ Sg Z h a t (((((HDR ++ [60]) ++ [p]) ++ [62]) ++ kids ks ++ [10, 60, 47, p, 62]) ++ [10])) (EL, fun _ => False) hM 5 331 9 #[.val (.ref o), .unset] [(.ref a1)]
  refine k_astoreN (Ls' := #[.val (.ref o), .val (.ref a1)]) d_dp_9 rfl rfl rfl ?_
  refine k_aloadN d_dp_10 rfl rfl rfl ?_
  refine k_aloadN d_dp_11 rfl rfl rfl ?_
  refine k_callPrivateW (argsL := [(.ref a1)]) (rest := []) (W0 := 0) d_dp_12 rfl (mt_wp l Z a0 hw cs hcs SC hEW de a1 e o l_ ed p mc ks HDR h0.size hM n0 OD2 SQ (PA.keep K2 (fun _ z => nomatch z)) (fun c hc => (hks c hc).keep K2 (fun _ z => nomatch z)) gh11 ghe hdn hbe ge9 ge2 (by decide) hn) (XO.keep K2) (hw _ (List.mem_of_getElem? (i := 148) rfl)) (hw _ (List.mem_of_getElem? (i := 150) rfl)) (hw _ (List.mem_of_getElem? (i := 84) rfl)) rfl (hw _ (List.mem_of_getElem? (i := 149) rfl)) (hw _ (List.mem_of_getElem? (i := 151) rfl)) (hw _ (List.mem_of_getElem? (i := 2) rfl)) (by decide) pd_wp rfl rfl rfl rfl (by decide) (by decide) (by decide) (by decide) ?_
  rintro _ hW - ⟨rfl, f, AP0⟩
  have EN0 := own_EN Z a0 hw
  have hTl : (((((HDR ++ [60]) ++ [p]) ++ [62]) ++ kids ks ++ [10, 60, 47, p, 62])).length = 47 + 5 * ks.length := by
    simp only [List.length_append, List.length_cons, List.length_nil, kids_len, HDR]; omega
  show KW true l Z M_dp n0 (fun v h => ∃ a t, v = some (.ref a) ∧ Keep h0 h [] ∧ Sg Z h a t (((((HDR ++ [60]) ++ [p]) ++ [62]) ++ kids ks ++ [10, 60, 47, p, 62]) ++ [10])) (EL, fun _ => False) hW 36 2851 15 #[.val (.ref o), .val (.ref a1)] []
  refine k_aloadN d_dp_15 rfl rfl rfl ?_
  refine k_bipush (z := (10 : Int32)) d_dp_16 rfl (by decide) ?_
  have f34 := (OD2.keep AP0.2.2.2.1 (allS ge9 (allS ge2 all0)))
  refine k_callVirtual (argsL := [(.int (10 : Int32))]) (rest := []) (W0 := 0) d_dp_18 rfl (mt_sac l Z a0 hw cs hcs SC hEW a1 f ((((HDR ++ [60]) ++ [p]) ++ [62]) ++ kids ks ++ [10, 60, 47, p, 62]) hW n0 f34 AP0.2.2.2.2 (10 : Int32) (by decide) AP0.2.2.1 ge9 AP0.2.1 (by rw [hTl]; omega)) (kp_app EN0 AP0.2.2.2.2) AP0.2.2.2.2.1.exa (hw _ (List.mem_of_getElem? (i := 152) rfl)) (hw _ (List.mem_of_getElem? (i := 153) rfl)) (hw _ (List.mem_of_getElem? (i := 155) rfl)) (hw _ (List.mem_of_getElem? (i := 111) rfl)) rfl (hw _ (List.mem_of_getElem? (i := 154) rfl)) (hw _ (List.mem_of_getElem? (i := 156) rfl)) (hw _ (List.mem_of_getElem? (i := 35) rfl)) (by decide) pd_sac rfl rfl rfl rfl (by decide) (by decide) (by decide) (by decide) ?_
  rintro _ h35 - ⟨rfl, e36, AN37⟩
  rw [show nbI (10 : Int32) = 10 by decide] at AN37
  have AN37b : App Z hW n0 a1 f h35 e36 (((((HDR ++ [60]) ++ [p]) ++ [62]) ++ kids ks ++ [10, 60, 47, p, 62]) ++ [10]) := AN37
  have AP38 := AP0.trans AN37b
  refine KW.sub (S' := fun _ => False) (fun x hx => hx.elim) ?_
  show KW true l Z M_dp n0 (fun v h => ∃ a t, v = some (.ref a) ∧ Keep h0 h [] ∧ Sg Z h a t (((((HDR ++ [60]) ++ [p]) ++ [62]) ++ kids ks ++ [10, 60, 47, p, 62]) ++ [10])) (EL, fun _ => False) h35 37 2963 21 #[.val (.ref o), .val (.ref a1)] [(.ref a1)]
  have hT2 : ((((((HDR ++ [60]) ++ [p]) ++ [62]) ++ kids ks ++ [10, 60, 47, p, 62]) ++ [10])).length = 47 + 5 * ks.length + 1 := by rw [List.length_append, hTl]; rfl
  have f39 := (OD2.keep AP38.2.2.2.1 (allS ge9 (allS ge2 all0)))
  refine k_callVirtual (argsL := []) (rest := []) (W0 := 0) d_dp_21 rfl (mt_tos l Z a0 hw cs hcs SC hEW a1 e36 _ (((((HDR ++ [60]) ++ [p]) ++ [62]) ++ kids ks ++ [10, 60, 47, p, 62]) ++ [10]) h35 n0 f39 AP38.2.2.2.2.1 (by rw [hT2]; unfold capO; split <;> omega) (by rw [hT2]; omega)) (fun _ _ _ q => by obtain ⟨_, _, -, K, -⟩ := q; exact ⟨[], K, fun _ z => nomatch z⟩) AP38.2.2.2.2.1.exa (hw _ (List.mem_of_getElem? (i := 226) rfl)) (hw _ (List.mem_of_getElem? (i := 227) rfl)) (hw _ (List.mem_of_getElem? (i := 229) rfl)) (hw _ (List.mem_of_getElem? (i := 111) rfl)) rfl (hw _ (List.mem_of_getElem? (i := 228) rfl)) (hw _ (List.mem_of_getElem? (i := 230) rfl)) (hw _ (List.mem_of_getElem? (i := 35) rfl)) (by decide) pd_tos rfl rfl rfl rfl (by decide) (by decide) (by decide) (by decide) ?_
  rintro _ hZ - ⟨a, t, rfl, KZ, SGZ⟩
  refine KW.sub (S' := fun _ => False) (fun x hx => hx.elim) ?_
  show KW true l Z M_dp n0 (fun v h => ∃ a t, v = some (.ref a) ∧ Keep h0 h [] ∧ Sg Z h a t (((((HDR ++ [60]) ++ [p]) ++ [62]) ++ kids ks ++ [10, 60, 47, p, 62]) ++ [10])) (EL, fun _ => False) hZ 39 3079 24 #[.val (.ref o), .val (.ref a1)] [(.ref a)]
  exact k_retRef d_dp_24 rfl rfl rfl (by decide) (by decide) ⟨a, t, rfl, (K2.trans AP38.2.2.2.1 (allS (Or.inr gh11) (allS (Or.inr ghe) all0))).trans KZ all0, SGZ⟩
theorem mt_dp (l : Launch) (Z : State) (a0 : Array Value) (hw : ∀ d ∈ tables_1, d.before a0 Z = true) (cs : Int32) (hcs : ¬ cs = 0) (SC : Sta Z Z.heap "java/lang/String" "COMPACT_STRINGS" "Z" (.int cs)) (hEW : EW Z a0 EL) (de o l_ ed : Addr) (p mc : Int32) (ks : List (Addr × Int32)) (h0 : Heap) (n0 : Nat) (OD : Old Z n0 h0) (PA : Pa Z h0 n0 de h0.size o l_ ed mc (ks.map Prod.fst) p) (hks : ∀ c ∈ ks, Lf Z h0 n0 de 0 h0.size c.1 c.2) (hdn : de < n0) (hn : ks.length = 1 ∨ ks.length = 2 ∨ ks.length = 3) : MtW l Z M_dp [] n0 #[(.ref o)] (EL, fun _ => False) h0 (fun v h => ∃ a t, v = some (.ref a) ∧ Keep h0 h [] ∧ Sg Z h a t (((((HDR ++ [60]) ++ [p]) ++ [62]) ++ kids ks ++ [10, 60, 47, p, 62]) ++ [10])) :=
  mtw_of_kw (a0 := a0) (P := (EL, fun _ => False)) pf_dp hEW (fun m => by first | (simp [entryFrame, mkF, argsToLocals, Value.category]; done) | rfl) (kw_dp l Z a0 hw cs hcs SC hEW de o l_ ed p mc ks h0 n0 OD PA hks hdn hn)
abbrev M_isl : MD := ((⟨"java/lang/String", "isLatin1", "()Z"⟩ : MethodName), jdk_42_method_154_code, 1, (some .boolean), { frames := 0, cells := 0, slots := 0, locals := 0 })
theorem d_isl_0 : decode jdk_42_method_154_code 0 = .ok (.getstatic 38, 3) := by decide +kernel
theorem d_isl_3 : decode jdk_42_method_154_code 3 = .ok (.ifCond .eq 14, 3) := by decide +kernel
theorem d_isl_6 : decode jdk_42_method_154_code 6 = .ok (.aload_n 0, 1) := by decide +kernel
theorem d_isl_7 : decode jdk_42_method_154_code 7 = .ok (.getfield 15, 3) := by decide +kernel
theorem d_isl_10 : decode jdk_42_method_154_code 10 = .ok (.ifCond .ne 7, 3) := by decide +kernel
theorem d_isl_13 : decode jdk_42_method_154_code 13 = .ok (.iconst 1, 1) := by decide +kernel
theorem d_isl_14 : decode jdk_42_method_154_code 14 = .ok (.goto 4, 3) := by decide +kernel
theorem d_isl_17 : decode jdk_42_method_154_code 17 = .ok (.iconst 0, 1) := by decide +kernel
theorem d_isl_18 : decode jdk_42_method_154_code 18 = .ok (.ireturn, 1) := by decide +kernel
theorem pd_isl : parseMethodDescriptor "()Z" = some ⟨[], (some .boolean)⟩ := by decide +kernel
theorem pf_isl : plainFor (⟨"java/lang/String", "isLatin1", "()Z"⟩ : MethodName) = true := by first | exact plainFor_of_name (by first | (simp [plainName, overriddenIn]; done) | decide +kernel) | decide +kernel
set_option maxRecDepth 65536 in
set_option maxHeartbeats 40000000 in
theorem kw_isl (l : Launch) (Z : State) (a0 : Array Value) (hw : ∀ d ∈ tables_1, d.before a0 Z = true) (cs : Int32) (hcs : ¬ cs = 0) (SC : Sta Z Z.heap "java/lang/String" "COMPACT_STRINGS" "Z" (.int cs)) (hEW : EW Z a0 EL) (a t : Addr) (bs : List Int32) (h0 : Heap) (n0 : Nat) (OD : Old Z n0 h0) (SA : Sg Z h0 a t bs) : KW false l Z M_isl n0 (fun v h => v = some (.int 1) ∧ h0 = h) ([], fun _ => False) h0 0 0 0 #[.val (.ref a)] [] := by
  obtain ⟨ckA, EA, CA, VA, AA, lA⟩ := id SA
  refine k_getStatic d_isl_0 rfl (hw _ (List.mem_of_getElem? (i := 7) rfl)) (Sta.ext OD.2 SC) ?_
  refine k_ifc (pc1 := 17) (pc' := 6) d_isl_3 (by decide) (by decide) rfl (fun (cd1 : cs = (0 : Int32)) => False.elim (by exact hcs cd1)) (fun (cd1 : ¬ cs = (0 : Int32)) => ?_)
  refine k_aloadN d_isl_6 rfl rfl rfl ?_
  refine k_getField d_isl_7 rfl (hw _ (List.mem_of_getElem? (i := 27) rfl)) Via.refl CA ?_
  refine k_ifc (pc1 := 17) (pc' := 13) d_isl_10 (by decide) (by decide) rfl (fun (cd2 : ¬ (0 : Int32) = (0 : Int32)) => False.elim (by exact absurd cd2 (by decide))) (fun (cd2 : (0 : Int32) = (0 : Int32)) => ?_)
  refine k_iconst (z := (1 : Int32)) d_isl_13 rfl (by decide) ?_
  refine k_goto (pc' := 18) d_isl_14 (by decide) (by decide) ?_
  exact k_retNar d_isl_18 rfl (by simp) (z' := (1 : Int32)) (by decide) (by decide) (by decide) ⟨rfl, rfl⟩
theorem mt_isl (l : Launch) (Z : State) (a0 : Array Value) (hw : ∀ d ∈ tables_1, d.before a0 Z = true) (cs : Int32) (hcs : ¬ cs = 0) (SC : Sta Z Z.heap "java/lang/String" "COMPACT_STRINGS" "Z" (.int cs)) (hEW : EW Z a0 EL) (a t : Addr) (bs : List Int32) (h0 : Heap) (n0 : Nat) (OD : Old Z n0 h0) (SA : Sg Z h0 a t bs) : Mt l Z M_isl [] n0 #[(.ref a)] h0 (fun v h => v = some (.int 1) ∧ h0 = h) :=
  mt_of_kw (P := ([], fun _ => False)) pf_isl (fun m => by first | (simp [entryFrame, mkF, argsToLocals, Value.category]; done) | rfl) (kw_isl l Z a0 hw cs hcs SC hEW a t bs h0 n0 OD SA)
abbrev M_pci : MD := ((⟨"jdk/internal/util/Preconditions", "checkIndex", "(IILjava/util/function/BiFunction;)I"⟩ : MethodName), jdk_41_method_11_code, 3, (some .int), { frames := 0, cells := 0, slots := 0, locals := 0 })
theorem d_pci_0 : decode jdk_41_method_11_code 0 = .ok (.iload_n 0, 1) := by decide +kernel
theorem d_pci_1 : decode jdk_41_method_11_code 1 = .ok (.ifCond .lt 8, 3) := by decide +kernel
theorem d_pci_4 : decode jdk_41_method_11_code 4 = .ok (.iload_n 0, 1) := by decide +kernel
theorem d_pci_5 : decode jdk_41_method_11_code 5 = .ok (.iload_n 1, 1) := by decide +kernel
theorem d_pci_6 : decode jdk_41_method_11_code 6 = .ok (.if_icmp .lt 10, 3) := by decide +kernel
theorem d_pci_9 : decode jdk_41_method_11_code 9 = .ok (.aload_n 2, 1) := by decide +kernel
theorem d_pci_10 : decode jdk_41_method_11_code 10 = .ok (.iload_n 0, 1) := by decide +kernel
theorem d_pci_11 : decode jdk_41_method_11_code 11 = .ok (.iload_n 1, 1) := by decide +kernel
theorem d_pci_12 : decode jdk_41_method_11_code 12 = .ok (.invokestatic 95, 3) := by decide +kernel
theorem d_pci_15 : decode jdk_41_method_11_code 15 = .ok (.athrow, 1) := by decide +kernel
theorem d_pci_16 : decode jdk_41_method_11_code 16 = .ok (.iload_n 0, 1) := by decide +kernel
theorem d_pci_17 : decode jdk_41_method_11_code 17 = .ok (.ireturn, 1) := by decide +kernel
theorem pd_pci : parseMethodDescriptor "(IILjava/util/function/BiFunction;)I" = some ⟨[.int, .int, (.object "java/util/function/BiFunction")], (some .int)⟩ := by decide +kernel
theorem pf_pci : plainFor (⟨"jdk/internal/util/Preconditions", "checkIndex", "(IILjava/util/function/BiFunction;)I"⟩ : MethodName) = true := by first | exact plainFor_of_name (by first | (simp [plainName, overriddenIn]; done) | decide +kernel) | decide +kernel
set_option maxRecDepth 65536 in
set_option maxHeartbeats 40000000 in
theorem kw_pci (l : Launch) (Z : State) (a0 : Array Value) (hw : ∀ d ∈ tables_1, d.before a0 Z = true) (cs : Int32) (hcs : ¬ cs = 0) (SC : Sta Z Z.heap "java/lang/String" "COMPACT_STRINGS" "Z" (.int cs)) (hEW : EW Z a0 EL) (j z : Int32) (w : Value) (hwr : w.isRef = true) (h0 : Heap) (n0 : Nat) (hj : ¬ j < 0 ∧ j < z) : KW false l Z M_pci n0 (fun v h => v = some (.int j) ∧ h0 = h) ([], fun _ => False) h0 0 0 0 #[.val (.int j), .val (.int z), .val w] [] := by
  refine k_iloadN d_pci_0 rfl rfl ?_
  refine k_ifc (pc1 := 9) (pc' := 4) d_pci_1 (by decide) (by decide) rfl (fun (cd1 : j < (0 : Int32)) => False.elim (by exact hj.1 cd1)) (fun (cd1 : ¬ j < (0 : Int32)) => ?_)
  refine k_iloadN d_pci_4 rfl rfl ?_
  refine k_iloadN d_pci_5 rfl rfl ?_
  refine k_icmp (pc1 := 16) (pc' := 9) d_pci_6 (by decide) (by decide) rfl (fun (cd2 : j < z) => ?_) (fun (cd2 : ¬ j < z) => False.elim (by exact cd2 hj.2))
  refine k_iloadN d_pci_16 rfl rfl ?_
  exact k_retInt d_pci_17 rfl (by decide) (by decide) ⟨rfl, rfl⟩
theorem mt_pci (l : Launch) (Z : State) (a0 : Array Value) (hw : ∀ d ∈ tables_1, d.before a0 Z = true) (cs : Int32) (hcs : ¬ cs = 0) (SC : Sta Z Z.heap "java/lang/String" "COMPACT_STRINGS" "Z" (.int cs)) (hEW : EW Z a0 EL) (j z : Int32) (w : Value) (hwr : w.isRef = true) (h0 : Heap) (n0 : Nat) (hj : ¬ j < 0 ∧ j < z) : Mt l Z M_pci [] n0 #[(.int j), (.int z), w] h0 (fun v h => v = some (.int j) ∧ h0 = h) :=
  mt_of_kw (P := ([], fun _ => False)) pf_pci (fun m => by rcases ref_cases hwr with rfl | ⟨_, rfl⟩ <;> first | (simp [entryFrame, mkF, argsToLocals, Value.category]; done) | rfl) (kw_pci l Z a0 hw cs hcs SC hEW j z w hwr h0 n0 hj)
abbrev M_sci : MD := ((⟨"java/lang/String", "checkIndex", "(II)V"⟩ : MethodName), jdk_42_method_155_code, 2, none, { frames := 1, cells := 0, slots := 0, locals := 16 })
theorem d_sci_0 : decode jdk_42_method_155_code 0 = .ok (.iload_n 0, 1) := by decide +kernel
theorem d_sci_1 : decode jdk_42_method_155_code 1 = .ok (.iload_n 1, 1) := by decide +kernel
theorem d_sci_2 : decode jdk_42_method_155_code 2 = .ok (.getstatic 1053, 3) := by decide +kernel
theorem d_sci_5 : decode jdk_42_method_155_code 5 = .ok (.invokestatic 1059, 3) := by decide +kernel
theorem d_sci_8 : decode jdk_42_method_155_code 8 = .ok (.pop, 1) := by decide +kernel
theorem d_sci_9 : decode jdk_42_method_155_code 9 = .ok (.return_, 1) := by decide +kernel
theorem pd_sci : parseMethodDescriptor "(II)V" = some ⟨[.int, .int], none⟩ := by decide +kernel
theorem pf_sci : plainFor (⟨"java/lang/String", "checkIndex", "(II)V"⟩ : MethodName) = true := by first | exact plainFor_of_name (by first | (simp [plainName, overriddenIn]; done) | decide +kernel) | decide +kernel
set_option maxRecDepth 65536 in
set_option maxHeartbeats 40000000 in
theorem kw_sci (l : Launch) (Z : State) (a0 : Array Value) (hw : ∀ d ∈ tables_1, d.before a0 Z = true) (cs : Int32) (hcs : ¬ cs = 0) (SC : Sta Z Z.heap "java/lang/String" "COMPACT_STRINGS" "Z" (.int cs)) (hEW : EW Z a0 EL) (sio : Value) (SIO : Sta Z Z.heap "jdk/internal/util/Preconditions" "SIOOBE_FORMATTER" "Ljava/util/function/BiFunction;" sio) (hsio : sio.isRef = true) (j z : Int32) (h0 : Heap) (n0 : Nat) (OD : Old Z n0 h0) (hj : ¬ j < 0 ∧ j < z) : KW false l Z M_sci n0 (fun v h => v = none ∧ h0 = h) ([], fun _ => False) h0 0 0 0 #[.val (.int j), .val (.int z)] [] := by
  refine k_iloadN d_sci_0 rfl rfl ?_
  refine k_iloadN d_sci_1 rfl rfl ?_
  refine k_getStatic d_sci_2 rfl (hw _ (List.mem_of_getElem? (i := 277) rfl)) (Sta.ext OD.2 SIO) ?_
  refine k_callStatic (argsL := [(.int j), (.int z), sio]) (rest := []) (W0 := 0) d_sci_5 rfl (mt_pci l Z a0 hw cs hcs SC hEW j z sio hsio h0 n0 hj) Kp.strict (hw _ (List.mem_of_getElem? (i := 279) rfl)) (hw _ (List.mem_of_getElem? (i := 280) rfl)) (hw _ (List.mem_of_getElem? (i := 278) rfl)) (hw _ (List.mem_of_getElem? (i := 281) rfl)) (by decide) pd_pci rfl rfl rfl rfl (by decide) (by decide) (by decide) (by decide) ?_
  rintro _ _ - ⟨rfl, rfl⟩
  refine KW.any (P' := ([], fun _ => False)) ?_
  show KW false l Z M_sci n0 (fun v h => v = none ∧ h0 = h) ([], fun _ => False) h0 0 0 8 #[.val (.int j), .val (.int z)] [(.int j)]
  refine k_pop d_sci_8 rfl rfl ?_
  exact k_retVoid d_sci_9 rfl (by decide) (by decide) ⟨rfl, rfl⟩
theorem mt_sci (l : Launch) (Z : State) (a0 : Array Value) (hw : ∀ d ∈ tables_1, d.before a0 Z = true) (cs : Int32) (hcs : ¬ cs = 0) (SC : Sta Z Z.heap "java/lang/String" "COMPACT_STRINGS" "Z" (.int cs)) (hEW : EW Z a0 EL) (sio : Value) (SIO : Sta Z Z.heap "jdk/internal/util/Preconditions" "SIOOBE_FORMATTER" "Ljava/util/function/BiFunction;" sio) (hsio : sio.isRef = true) (j z : Int32) (h0 : Heap) (n0 : Nat) (OD : Old Z n0 h0) (hj : ¬ j < 0 ∧ j < z) : Mt l Z M_sci [] n0 #[(.int j), (.int z)] h0 (fun v h => v = none ∧ h0 = h) :=
  mt_of_kw (P := ([], fun _ => False)) pf_sci (fun m => by first | (simp [entryFrame, mkF, argsToLocals, Value.category]; done) | rfl) (kw_sci l Z a0 hw cs hcs SC hEW sio SIO hsio j z h0 n0 OD hj)
abbrev chB (b : Int32) : Int32 := UInt32.toInt32 (UInt16.toUInt32 (UInt32.toUInt16 (Int32.toUInt32 (b &&& (255 : Int32)))))
theorem chB_nar (b : Int32) : nar .char (chB b) = chB b := by
  have h1 := c_i2c (b &&& (255 : Int32)); have h2 := c_i2c (chB b)
  refine Int32.toInt_inj.mp ?_
  show (UInt32.toInt32 (UInt16.toUInt32 (UInt32.toUInt16 (Int32.toUInt32 (chB b))))).toInt = (chB b).toInt
  unfold chB at *
  omega
abbrev M_lca : MD := ((⟨"java/lang/StringLatin1", "charAt", "([BI)C"⟩ : MethodName), jdk_43_method_2_code, 2, (some .char), { frames := 2, cells := 0, slots := 0, locals := 32 })
theorem d_lca_0 : decode jdk_43_method_2_code 0 = .ok (.iload_n 1, 1) := by decide +kernel
theorem d_lca_1 : decode jdk_43_method_2_code 1 = .ok (.aload_n 0, 1) := by decide +kernel
theorem d_lca_2 : decode jdk_43_method_2_code 2 = .ok (.arraylength, 1) := by decide +kernel
theorem d_lca_3 : decode jdk_43_method_2_code 3 = .ok (.invokestatic 9, 3) := by decide +kernel
theorem d_lca_6 : decode jdk_43_method_2_code 6 = .ok (.aload_n 0, 1) := by decide +kernel
theorem d_lca_7 : decode jdk_43_method_2_code 7 = .ok (.iload_n 1, 1) := by decide +kernel
theorem d_lca_8 : decode jdk_43_method_2_code 8 = .ok (.baload, 1) := by decide +kernel
theorem d_lca_9 : decode jdk_43_method_2_code 9 = .ok (.sipush 255, 3) := by decide +kernel
theorem d_lca_12 : decode jdk_43_method_2_code 12 = .ok (.iand, 1) := by decide +kernel
theorem d_lca_13 : decode jdk_43_method_2_code 13 = .ok (.i2c, 1) := by decide +kernel
theorem d_lca_14 : decode jdk_43_method_2_code 14 = .ok (.ireturn, 1) := by decide +kernel
theorem pd_lca : parseMethodDescriptor "([BI)C" = some ⟨[(.array .byte), .int], (some .char)⟩ := by decide +kernel
theorem pf_lca : plainFor (⟨"java/lang/StringLatin1", "charAt", "([BI)C"⟩ : MethodName) = true := by first | exact plainFor_of_name (by first | (simp [plainName, overriddenIn]; done) | decide +kernel) | decide +kernel
set_option maxRecDepth 65536 in
set_option maxHeartbeats 40000000 in
theorem kw_lca (l : Launch) (Z : State) (a0 : Array Value) (hw : ∀ d ∈ tables_1, d.before a0 Z = true) (cs : Int32) (hcs : ¬ cs = 0) (SC : Sta Z Z.heap "java/lang/String" "COMPACT_STRINGS" "Z" (.int cs)) (hEW : EW Z a0 EL) (sio : Value) (SIO : Sta Z Z.heap "jdk/internal/util/Preconditions" "SIOOBE_FORMATTER" "Ljava/util/function/BiFunction;" sio) (hsio : sio.isRef = true) (t : Addr) (ck : ClassId) (j z b : Int32) (vs : List Value) (dv : Value) (h0 : Heap) (n0 : Nat) (OD : Old Z n0 h0) (hj : ¬ j < 0 ∧ j < z) (A : Arv Z h0 t ck .byte z vs dv) (hv : vs.getD j.toNatClampNeg dv = .int b) : KW false l Z M_lca n0 (fun v h => v = some (.int (chB b)) ∧ h0 = h) ([], fun _ => False) h0 0 0 0 #[.val (.ref t), .val (.int j)] [] := by
  refine k_iloadN d_lca_0 rfl rfl ?_
  refine k_aloadN d_lca_1 rfl rfl rfl ?_
  refine k_arrlen d_lca_2 rfl A ?_
  refine k_callStatic (argsL := [(.int j), (.int z)]) (rest := []) (W0 := 0) d_lca_3 rfl (mt_sci l Z a0 hw cs hcs SC hEW sio SIO hsio j z h0 n0 OD hj) Kp.strict (hw _ (List.mem_of_getElem? (i := 274) rfl)) (hw _ (List.mem_of_getElem? (i := 275) rfl)) (hw _ (List.mem_of_getElem? (i := 5) rfl)) (hw _ (List.mem_of_getElem? (i := 276) rfl)) (by decide) pd_sci rfl rfl rfl rfl (by decide) (by decide) (by decide) (by decide) ?_
  rintro _ _ - ⟨rfl, rfl⟩
  refine KW.any (P' := ([], fun _ => False)) ?_
  show KW false l Z M_lca n0 (fun v h => v = some (.int (chB b)) ∧ h0 = h) ([], fun _ => False) h0 0 0 6 #[.val (.ref t), .val (.int j)] []
  refine k_aloadN d_lca_6 rfl rfl rfl ?_
  refine k_iloadN d_lca_7 rfl rfl ?_
  refine k_baload (v := (.int b)) d_lca_8 rfl A hj hv ?_
  refine k_sipush (z := (255 : Int32)) d_lca_9 rfl (by decide) ?_
  refine k_iand d_lca_12 rfl ?_
  refine k_i2c d_lca_13 rfl ?_
  exact k_retNar d_lca_14 rfl (by simp) (z' := chB b) (chB_nar b) (by decide) (by decide) ⟨rfl, rfl⟩
theorem mt_lca (l : Launch) (Z : State) (a0 : Array Value) (hw : ∀ d ∈ tables_1, d.before a0 Z = true) (cs : Int32) (hcs : ¬ cs = 0) (SC : Sta Z Z.heap "java/lang/String" "COMPACT_STRINGS" "Z" (.int cs)) (hEW : EW Z a0 EL) (sio : Value) (SIO : Sta Z Z.heap "jdk/internal/util/Preconditions" "SIOOBE_FORMATTER" "Ljava/util/function/BiFunction;" sio) (hsio : sio.isRef = true) (t : Addr) (ck : ClassId) (j z b : Int32) (vs : List Value) (dv : Value) (h0 : Heap) (n0 : Nat) (OD : Old Z n0 h0) (hj : ¬ j < 0 ∧ j < z) (A : Arv Z h0 t ck .byte z vs dv) (hv : vs.getD j.toNatClampNeg dv = .int b) : Mt l Z M_lca [] n0 #[(.ref t), (.int j)] h0 (fun v h => v = some (.int (chB b)) ∧ h0 = h) :=
  mt_of_kw (P := ([], fun _ => False)) pf_lca (fun m => by first | (simp [entryFrame, mkF, argsToLocals, Value.category]; done) | rfl) (kw_lca l Z a0 hw cs hcs SC hEW sio SIO hsio t ck j z b vs dv h0 n0 OD hj A hv)
abbrev M_sca : MD := ((⟨"java/lang/String", "charAt", "(I)C"⟩ : MethodName), jdk_42_method_56_code, 2, (some .char), { frames := 3, cells := 0, slots := 0, locals := 48 })
theorem d_sca_0 : decode jdk_42_method_56_code 0 = .ok (.aload_n 0, 1) := by decide +kernel
theorem d_sca_1 : decode jdk_42_method_56_code 1 = .ok (.invokevirtual 492, 3) := by decide +kernel
theorem d_sca_4 : decode jdk_42_method_56_code 4 = .ok (.ifCond .eq 12, 3) := by decide +kernel
theorem d_sca_7 : decode jdk_42_method_56_code 7 = .ok (.aload_n 0, 1) := by decide +kernel
theorem d_sca_8 : decode jdk_42_method_56_code 8 = .ok (.getfield 9, 3) := by decide +kernel
theorem d_sca_11 : decode jdk_42_method_56_code 11 = .ok (.iload_n 1, 1) := by decide +kernel
theorem d_sca_12 : decode jdk_42_method_56_code 12 = .ok (.invokestatic 495, 3) := by decide +kernel
theorem d_sca_15 : decode jdk_42_method_56_code 15 = .ok (.ireturn, 1) := by decide +kernel
theorem d_sca_16 : decode jdk_42_method_56_code 16 = .ok (.aload_n 0, 1) := by decide +kernel
theorem d_sca_17 : decode jdk_42_method_56_code 17 = .ok (.getfield 9, 3) := by decide +kernel
theorem d_sca_20 : decode jdk_42_method_56_code 20 = .ok (.iload_n 1, 1) := by decide +kernel
theorem d_sca_21 : decode jdk_42_method_56_code 21 = .ok (.invokestatic 498, 3) := by decide +kernel
theorem d_sca_24 : decode jdk_42_method_56_code 24 = .ok (.ireturn, 1) := by decide +kernel
theorem pd_sca : parseMethodDescriptor "(I)C" = some ⟨[.int], (some .char)⟩ := by decide +kernel
theorem pf_sca : plainFor (⟨"java/lang/String", "charAt", "(I)C"⟩ : MethodName) = true := by first | exact plainFor_of_name (by first | (simp [plainName, overriddenIn]; done) | decide +kernel) | decide +kernel
set_option maxRecDepth 65536 in
set_option maxHeartbeats 40000000 in
theorem kw_sca (l : Launch) (Z : State) (a0 : Array Value) (hw : ∀ d ∈ tables_1, d.before a0 Z = true) (cs : Int32) (hcs : ¬ cs = 0) (SC : Sta Z Z.heap "java/lang/String" "COMPACT_STRINGS" "Z" (.int cs)) (hEW : EW Z a0 EL) (sio : Value) (SIO : Sta Z Z.heap "jdk/internal/util/Preconditions" "SIOOBE_FORMATTER" "Ljava/util/function/BiFunction;" sio) (hsio : sio.isRef = true) (j b : Int32) (a t : Addr) (bs : List Int32) (h0 : Heap) (n0 : Nat) (OD : Old Z n0 h0) (SA : Sg Z h0 a t bs) (hj : ¬ j < 0 ∧ j < Int32.ofNat bs.length) (hv : (bs.map Value.int).getD j.toNatClampNeg (.int 0) = .int b) : KW false l Z M_sca n0 (fun v h => v = some (.int (chB b)) ∧ h0 = h) ([], fun _ => False) h0 0 0 0 #[.val (.ref a), .val (.int j)] [] := by
  obtain ⟨ckA, EA, CA, VA, AA, lA⟩ := id SA
  refine k_aloadN d_sca_0 rfl rfl rfl ?_
  refine k_callVirtual (argsL := []) (rest := []) (W0 := 0) d_sca_1 rfl (mt_isl l Z a0 hw cs hcs SC hEW a t bs h0 n0 OD SA) Kp.strict EA (hw _ (List.mem_of_getElem? (i := 266) rfl)) (hw _ (List.mem_of_getElem? (i := 267) rfl)) (hw _ (List.mem_of_getElem? (i := 269) rfl)) (hw _ (List.mem_of_getElem? (i := 99) rfl)) rfl (hw _ (List.mem_of_getElem? (i := 268) rfl)) (hw _ (List.mem_of_getElem? (i := 270) rfl)) (hw _ (List.mem_of_getElem? (i := 5) rfl)) (by decide) pd_isl rfl rfl rfl rfl (by decide) (by decide) (by decide) (by decide) ?_
  rintro _ _ - ⟨rfl, rfl⟩
  refine KW.any (P' := ([], fun _ => False)) ?_
  show KW false l Z M_sca n0 (fun v h => v = some (.int (chB b)) ∧ h0 = h) ([], fun _ => False) h0 0 0 4 #[.val (.ref a), .val (.int j)] [(.int (1 : Int32))]
  refine k_ifc (pc1 := 16) (pc' := 7) d_sca_4 (by decide) (by decide) rfl (fun (cd1 : (1 : Int32) = (0 : Int32)) => False.elim (by exact absurd cd1 (by decide))) (fun (cd1 : ¬ (1 : Int32) = (0 : Int32)) => ?_)
  refine k_aloadN d_sca_7 rfl rfl rfl ?_
  refine k_getField d_sca_8 rfl (hw _ (List.mem_of_getElem? (i := 25) rfl)) Via.refl VA ?_
  refine k_iloadN d_sca_11 rfl rfl ?_
  refine k_callStatic (argsL := [(.ref t), (.int j)]) (rest := []) (W0 := 0) d_sca_12 rfl (mt_lca l Z a0 hw cs hcs SC hEW sio SIO hsio t _ j _ b _ _ h0 n0 OD hj AA hv) Kp.strict (hw _ (List.mem_of_getElem? (i := 271) rfl)) (hw _ (List.mem_of_getElem? (i := 272) rfl)) (hw _ (List.mem_of_getElem? (i := 10) rfl)) (hw _ (List.mem_of_getElem? (i := 273) rfl)) (by decide) pd_lca rfl rfl rfl rfl (by decide) (by decide) (by decide) (by decide) ?_
  rintro _ _ - ⟨rfl, rfl⟩
  refine KW.any (P' := ([], fun _ => False)) ?_
  show KW false l Z M_sca n0 (fun v h => v = some (.int (chB b)) ∧ h0 = h) ([], fun _ => False) h0 0 0 15 #[.val (.ref a), .val (.int j)] [(.int (chB b))]
  exact k_retNar d_sca_15 rfl (by simp) (z' := chB b) (chB_nar b) (by decide) (by decide) ⟨rfl, rfl⟩
theorem mt_sca (l : Launch) (Z : State) (a0 : Array Value) (hw : ∀ d ∈ tables_1, d.before a0 Z = true) (cs : Int32) (hcs : ¬ cs = 0) (SC : Sta Z Z.heap "java/lang/String" "COMPACT_STRINGS" "Z" (.int cs)) (hEW : EW Z a0 EL) (sio : Value) (SIO : Sta Z Z.heap "jdk/internal/util/Preconditions" "SIOOBE_FORMATTER" "Ljava/util/function/BiFunction;" sio) (hsio : sio.isRef = true) (j b : Int32) (a t : Addr) (bs : List Int32) (h0 : Heap) (n0 : Nat) (OD : Old Z n0 h0) (SA : Sg Z h0 a t bs) (hj : ¬ j < 0 ∧ j < Int32.ofNat bs.length) (hv : (bs.map Value.int).getD j.toNatClampNeg (.int 0) = .int b) : Mt l Z M_sca [] n0 #[(.ref a), (.int j)] h0 (fun v h => v = some (.int (chB b)) ∧ h0 = h) :=
  mt_of_kw (P := ([], fun _ => False)) pf_sca (fun m => by first | (simp [entryFrame, mkF, argsToLocals, Value.category]; done) | rfl) (kw_sca l Z a0 hw cs hcs SC hEW sio SIO hsio j b a t bs h0 n0 OD SA hj hv)
theorem own_ch (x : Int32) : Ch (UInt32.toInt32 (UInt16.toUInt32 (UInt32.toUInt16 (Int32.toUInt32 (x &&& (255 : Int32)))))) := by
  have h1 := c_mask x 255 8 (by decide) (by decide)
  have h2 := c_i2c (x &&& (255 : Int32))
  unfold Ch
  omega
theorem own_n4 (x : Int32) : x &&& (3 : Int32) = 0 ∨ x &&& (3 : Int32) = 1 ∨ x &&& (3 : Int32) = 2 ∨ x &&& (3 : Int32) = 3 := by
  have h1 := c_mask x 3 2 (by decide) (by decide)
  have h2 : (x &&& (3 : Int32)).toInt = 0 ∨ (x &&& (3 : Int32)).toInt = 1 ∨ (x &&& (3 : Int32)).toInt = 2 ∨ (x &&& (3 : Int32)).toInt = 3 := by omega
  rcases h2 with h | h | h | h
  · exact Or.inl (Int32.toInt_inj.mp h)
  · exact Or.inr (Or.inl (Int32.toInt_inj.mp h))
  · exact Or.inr (Or.inr (Or.inl (Int32.toInt_inj.mp h)))
  · exact Or.inr (Or.inr (Or.inr (Int32.toInt_inj.mp h)))
theorem chB_nbI {p : Int32} (hp : Ch p) : chB (nbI p) = p := by
  obtain ⟨p1, p2⟩ := hp
  have e1 := c_i2b p
  have e2 := c_i2b (Int8.toInt32 (Int32.toInt8 p))
  have e3 := c_mask (nbI p) 255 8 (by decide) (by decide)
  have e4 := c_i2c (nbI p &&& (255 : Int32))
  have e5 : (nbI p).toInt = (Int8.toInt32 (Int32.toInt8 (Int8.toInt32 (Int32.toInt8 p)))).toInt := rfl
  refine Int32.toInt_inj.mp ?_
  show (UInt32.toInt32 (UInt16.toUInt32 (UInt32.toUInt16 (Int32.toUInt32 (nbI p &&& (255 : Int32)))))).toInt = p.toInt
  omega
theorem mt_scN (l : Launch) (Z : State) (a0 : Array Value) (hw : ∀ d ∈ tables_1, d.before a0 Z = true) (cs : Int32) (hcs : ¬ cs = 0) (SC : Sta Z Z.heap "java/lang/String" "COMPACT_STRINGS" "Z" (.int cs)) (hEW : EW Z a0 EL) (sio : Value) (SIO : Sta Z Z.heap "jdk/internal/util/Preconditions" "SIOOBE_FORMATTER" "Ljava/util/function/BiFunction;" sio) (hsio : sio.isRef = true) (i : Nat) (b : Int32) (a t : Addr) (bs : List Int32) (h0 : Heap) (n0 : Nat) (OD : Old Z n0 h0) (SA : Sg Z h0 a t bs) (hi : i < bs.length) (hv : bs[i]? = some b) : Mt l Z M_sca [] n0 #[.ref a, .int (Int32.ofNat i)] h0 (fun v h => v = some (.int (chB b)) ∧ h0 = h) := by
  have lb : bs.length < 2147483648 := by obtain ⟨_, -, -, -, -, q⟩ := id SA; exact q
  refine mt_sca l Z a0 hw cs hcs SC hEW sio SIO hsio (Int32.ofNat i) b a t bs h0 n0 OD SA (ix_inb lb hi) ?_
  rw [ix_nat (by omega), List.getD_eq_getElem?_getD, List.getElem?_map, hv]; rfl
theorem own_de {s : State} {args : Array Value} {t : Term} {C : String} (hA : (Cond.arrayOf t (.object C)).value args s none s [] = some true) (hL : (Cond.eq (Term.length t) (Term.int (0 : Int32))).value args s none s [] = some true) : ∃ (de : Addr) (ck : ClassId), t.eval args s none [] s = some (.ref de) ∧ Arv s s.heap de ck (.object C) 0 [] .null := by
  have hlen := Cond.eq_int (Cond.before_iff.mpr hL) (Term.int_eval (0))
  obtain ⟨a, D, hev, harr, -⟩ := Term.length_spec hlen
  have h31 := Jvm.Free.SBG.length_lt hev harr hlen
  obtain ⟨cl, A⟩ := Arr.start hev hA
  have eD : cl = D := Option.some.inj (A.1.symm.trans (State.arrayAt?_spec harr).1)
  rw [eD] at A
  have hsz : D.slots.size = 0 := by
    have e : (Term.length t).eval args s none [] s = some (.int (Int32.ofNat D.slots.size)) := by simp [Term.eval, hev, harr, h31]
    have h2 : Int32.ofNat D.slots.size = 0 := by simpa using Option.some.inj (e.symm.trans hlen)
    have h3 := congrArg Int32.toInt h2
    rw [Int32.toInt_ofNat_small h31, show (0 : Int32).toInt = 0 from rfl] at h3; omega
  exact ⟨a, D.cls, hev, D, A, rfl, by rw [hsz]; rfl, by decide, fun j hj => absurd hj (by omega), fun j hj => absurd hj (by omega)⟩

abbrev M_cha : MD := ((⟨"com/example/roomwire/roomwire/qunar/XmlElementAddPinLaw", "childAt", "(Ljava/lang/String;IC)Z"⟩ : MethodName), method_2_code, 3, (some .boolean), { frames := 4, cells := 0, slots := 0, locals := 64 })
theorem d_cha_0 : decode method_2_code 0 = .ok (.aload_n 0, 1) := by decide +kernel
theorem d_cha_1 : decode method_2_code 1 = .ok (.iload_n 1, 1) := by decide +kernel
theorem d_cha_2 : decode method_2_code 2 = .ok (.invokevirtual 7, 3) := by decide +kernel
theorem d_cha_5 : decode method_2_code 5 = .ok (.bipush 10, 2) := by decide +kernel
theorem d_cha_7 : decode method_2_code 7 = .ok (.if_icmp .ne 54, 3) := by decide +kernel
theorem d_cha_10 : decode method_2_code 10 = .ok (.aload_n 0, 1) := by decide +kernel
theorem d_cha_11 : decode method_2_code 11 = .ok (.iload_n 1, 1) := by decide +kernel
theorem d_cha_12 : decode method_2_code 12 = .ok (.iconst 1, 1) := by decide +kernel
theorem d_cha_13 : decode method_2_code 13 = .ok (.iadd, 1) := by decide +kernel
theorem d_cha_14 : decode method_2_code 14 = .ok (.invokevirtual 7, 3) := by decide +kernel
theorem d_cha_17 : decode method_2_code 17 = .ok (.bipush 60, 2) := by decide +kernel
theorem d_cha_19 : decode method_2_code 19 = .ok (.if_icmp .ne 42, 3) := by decide +kernel
theorem d_cha_22 : decode method_2_code 22 = .ok (.aload_n 0, 1) := by decide +kernel
theorem d_cha_23 : decode method_2_code 23 = .ok (.iload_n 1, 1) := by decide +kernel
theorem d_cha_24 : decode method_2_code 24 = .ok (.iconst 2, 1) := by decide +kernel
theorem d_cha_25 : decode method_2_code 25 = .ok (.iadd, 1) := by decide +kernel
theorem d_cha_26 : decode method_2_code 26 = .ok (.invokevirtual 7, 3) := by decide +kernel
theorem d_cha_29 : decode method_2_code 29 = .ok (.iload_n 2, 1) := by decide +kernel
theorem d_cha_30 : decode method_2_code 30 = .ok (.if_icmp .ne 31, 3) := by decide +kernel
theorem d_cha_33 : decode method_2_code 33 = .ok (.aload_n 0, 1) := by decide +kernel
theorem d_cha_34 : decode method_2_code 34 = .ok (.iload_n 1, 1) := by decide +kernel
theorem d_cha_35 : decode method_2_code 35 = .ok (.iconst 3, 1) := by decide +kernel
theorem d_cha_36 : decode method_2_code 36 = .ok (.iadd, 1) := by decide +kernel
theorem d_cha_37 : decode method_2_code 37 = .ok (.invokevirtual 7, 3) := by decide +kernel
theorem d_cha_40 : decode method_2_code 40 = .ok (.bipush 47, 2) := by decide +kernel
theorem d_cha_42 : decode method_2_code 42 = .ok (.if_icmp .ne 19, 3) := by decide +kernel
theorem d_cha_45 : decode method_2_code 45 = .ok (.aload_n 0, 1) := by decide +kernel
theorem d_cha_46 : decode method_2_code 46 = .ok (.iload_n 1, 1) := by decide +kernel
theorem d_cha_47 : decode method_2_code 47 = .ok (.iconst 4, 1) := by decide +kernel
theorem d_cha_48 : decode method_2_code 48 = .ok (.iadd, 1) := by decide +kernel
theorem d_cha_49 : decode method_2_code 49 = .ok (.invokevirtual 7, 3) := by decide +kernel
theorem d_cha_52 : decode method_2_code 52 = .ok (.bipush 62, 2) := by decide +kernel
theorem d_cha_54 : decode method_2_code 54 = .ok (.if_icmp .ne 7, 3) := by decide +kernel
theorem d_cha_57 : decode method_2_code 57 = .ok (.iconst 1, 1) := by decide +kernel
theorem d_cha_58 : decode method_2_code 58 = .ok (.goto 4, 3) := by decide +kernel
theorem d_cha_61 : decode method_2_code 61 = .ok (.iconst 0, 1) := by decide +kernel
theorem d_cha_62 : decode method_2_code 62 = .ok (.ireturn, 1) := by decide +kernel
theorem pd_cha : parseMethodDescriptor "(Ljava/lang/String;IC)Z" = some ⟨[(.object "java/lang/String"), .int, .char], (some .boolean)⟩ := by decide +kernel
theorem pf_cha : plainFor (⟨"com/example/roomwire/roomwire/qunar/XmlElementAddPinLaw", "childAt", "(Ljava/lang/String;IC)Z"⟩ : MethodName) = true := by first | exact plainFor_of_name (by first | (simp [plainName, overriddenIn]; done) | decide +kernel) | decide +kernel
set_option maxRecDepth 65536 in
set_option maxHeartbeats 40000000 in
theorem kw_cha (l : Launch) (Z : State) (a0 : Array Value) (hw : ∀ d ∈ tables_1, d.before a0 Z = true) (cs : Int32) (hcs : ¬ cs = 0) (SC : Sta Z Z.heap "java/lang/String" "COMPACT_STRINGS" "Z" (.int cs)) (hEW : EW Z a0 EL) (sio : Value) (SIO : Sta Z Z.heap "jdk/internal/util/Preconditions" "SIOOBE_FORMATTER" "Ljava/util/function/BiFunction;" sio) (hsio : sio.isRef = true) (i : Nat) (p : Int32) (hp : Ch p) (a t : Addr) (bs : List Int32) (h0 : Heap) (n0 : Nat) (OD : Old Z n0 h0) (SA : Sg Z h0 a t bs) (hi : i + 4 < bs.length) (v0 : bs[i]? = some 10) (v1 : bs[i + 1]? = some 60) (v2 : bs[i + 2]? = some (nbI p)) (v3 : bs[i + 3]? = some 47) (v4 : bs[i + 4]? = some 62) : KW false l Z M_cha n0 (fun v h => v = some (.int 1) ∧ h0 = h) ([], fun _ => False) h0 0 0 0 #[.val (.ref a), .val (.int (Int32.ofNat i)), .val (.int p)] [] := by
  refine k_aloadN d_cha_0 rfl rfl rfl ?_
  refine k_iloadN d_cha_1 rfl rfl ?_
  refine k_callVirtual (argsL := [(.int (Int32.ofNat i))]) (rest := []) (W0 := 0) d_cha_2 rfl (mt_scN l Z a0 hw cs hcs SC hEW sio SIO hsio i 10 a t bs h0 n0 OD SA (by omega) v0) Kp.strict SA.exa (hw _ (List.mem_of_getElem? (i := 261) rfl)) (hw _ (List.mem_of_getElem? (i := 262) rfl)) (hw _ (List.mem_of_getElem? (i := 264) rfl)) (hw _ (List.mem_of_getElem? (i := 99) rfl)) rfl (hw _ (List.mem_of_getElem? (i := 263) rfl)) (hw _ (List.mem_of_getElem? (i := 265) rfl)) (hw _ (List.mem_of_getElem? (i := 5) rfl)) (by decide) pd_sca rfl rfl rfl rfl (by decide) (by decide) (by decide) (by decide) ?_
  rintro _ _ - ⟨rfl, rfl⟩
  rw [show chB (10 : Int32) = 10 by decide]
  refine KW.any (P' := ([], fun _ => False)) ?_
  show KW false l Z M_cha n0 (fun v h => v = some (.int 1) ∧ h0 = h) ([], fun _ => False) h0 0 0 5 #[.val (.ref a), .val (.int (Int32.ofNat i)), .val (.int p)] [(.int (10 : Int32))]
  refine k_bipush (z := (10 : Int32)) d_cha_5 rfl (by decide) ?_
  refine k_icmp (pc1 := 61) (pc' := 10) d_cha_7 (by decide) (by decide) rfl (fun (cd1 : ¬ (10 : Int32) = (10 : Int32)) => False.elim (by exact absurd cd1 (by decide))) (fun (cd1 : (10 : Int32) = (10 : Int32)) => ?_)
  refine k_aloadN d_cha_10 rfl rfl rfl ?_
  refine k_iloadN d_cha_11 rfl rfl ?_
  refine k_iconst (z := (1 : Int32)) d_cha_12 rfl (by decide) ?_
  refine k_iadd d_cha_13 rfl ?_
  refine KW.top (congrArg Value.int (ix_add i 1 : Int32.ofNat i + (1 : Int32) = Int32.ofNat (i + 1))) ?_
  show KW false l Z M_cha n0 (fun v h => v = some (.int 1) ∧ h0 = h) ([], fun _ => False) h0 0 0 14 #[.val (.ref a), .val (.int (Int32.ofNat i)), .val (.int p)] [(.int (Int32.ofNat (i + 1))), (.ref a)]
  refine k_callVirtual (argsL := [(.int (Int32.ofNat (i + 1)))]) (rest := []) (W0 := 0) d_cha_14 rfl (mt_scN l Z a0 hw cs hcs SC hEW sio SIO hsio (i + 1) 60 a t bs h0 n0 OD SA (by omega) v1) Kp.strict SA.exa (hw _ (List.mem_of_getElem? (i := 261) rfl)) (hw _ (List.mem_of_getElem? (i := 262) rfl)) (hw _ (List.mem_of_getElem? (i := 264) rfl)) (hw _ (List.mem_of_getElem? (i := 99) rfl)) rfl (hw _ (List.mem_of_getElem? (i := 263) rfl)) (hw _ (List.mem_of_getElem? (i := 265) rfl)) (hw _ (List.mem_of_getElem? (i := 5) rfl)) (by decide) pd_sca rfl rfl rfl rfl (by decide) (by decide) (by decide) (by decide) ?_
  rintro _ _ - ⟨rfl, rfl⟩
  rw [show chB (60 : Int32) = 60 by decide]
  refine KW.any (P' := ([], fun _ => False)) ?_
  show KW false l Z M_cha n0 (fun v h => v = some (.int 1) ∧ h0 = h) ([], fun _ => False) h0 0 0 17 #[.val (.ref a), .val (.int (Int32.ofNat i)), .val (.int p)] [(.int (60 : Int32))]
  refine k_bipush (z := (60 : Int32)) d_cha_17 rfl (by decide) ?_
  refine k_icmp (pc1 := 61) (pc' := 22) d_cha_19 (by decide) (by decide) rfl (fun (cd2 : ¬ (60 : Int32) = (60 : Int32)) => False.elim (by exact absurd cd2 (by decide))) (fun (cd2 : (60 : Int32) = (60 : Int32)) => ?_)
  refine k_aloadN d_cha_22 rfl rfl rfl ?_
  refine k_iloadN d_cha_23 rfl rfl ?_
  refine k_iconst (z := (2 : Int32)) d_cha_24 rfl (by decide) ?_
  refine k_iadd d_cha_25 rfl ?_
  refine KW.top (congrArg Value.int (ix_add i 2 : Int32.ofNat i + (2 : Int32) = Int32.ofNat (i + 2))) ?_
  show KW false l Z M_cha n0 (fun v h => v = some (.int 1) ∧ h0 = h) ([], fun _ => False) h0 0 0 26 #[.val (.ref a), .val (.int (Int32.ofNat i)), .val (.int p)] [(.int (Int32.ofNat (i + 2))), (.ref a)]
  refine k_callVirtual (argsL := [(.int (Int32.ofNat (i + 2)))]) (rest := []) (W0 := 0) d_cha_26 rfl (mt_scN l Z a0 hw cs hcs SC hEW sio SIO hsio (i + 2) (nbI p) a t bs h0 n0 OD SA (by omega) v2) Kp.strict SA.exa (hw _ (List.mem_of_getElem? (i := 261) rfl)) (hw _ (List.mem_of_getElem? (i := 262) rfl)) (hw _ (List.mem_of_getElem? (i := 264) rfl)) (hw _ (List.mem_of_getElem? (i := 99) rfl)) rfl (hw _ (List.mem_of_getElem? (i := 263) rfl)) (hw _ (List.mem_of_getElem? (i := 265) rfl)) (hw _ (List.mem_of_getElem? (i := 5) rfl)) (by decide) pd_sca rfl rfl rfl rfl (by decide) (by decide) (by decide) (by decide) ?_
  rintro _ _ - ⟨rfl, rfl⟩
  rw [chB_nbI hp]
  refine KW.any (P' := ([], fun _ => False)) ?_
  show KW false l Z M_cha n0 (fun v h => v = some (.int 1) ∧ h0 = h) ([], fun _ => False) h0 0 0 29 #[.val (.ref a), .val (.int (Int32.ofNat i)), .val (.int p)] [(.int p)]
  refine k_iloadN d_cha_29 rfl rfl ?_
  refine k_icmp (pc1 := 61) (pc' := 33) d_cha_30 (by decide) (by decide) rfl (fun (cd3 : ¬ p = p) => False.elim (by exact cd3 rfl)) (fun (cd3 : p = p) => ?_)
  refine k_aloadN d_cha_33 rfl rfl rfl ?_
  refine k_iloadN d_cha_34 rfl rfl ?_
  refine k_iconst (z := (3 : Int32)) d_cha_35 rfl (by decide) ?_
  refine k_iadd d_cha_36 rfl ?_
  refine KW.top (congrArg Value.int (ix_add i 3 : Int32.ofNat i + (3 : Int32) = Int32.ofNat (i + 3))) ?_
  show KW false l Z M_cha n0 (fun v h => v = some (.int 1) ∧ h0 = h) ([], fun _ => False) h0 0 0 37 #[.val (.ref a), .val (.int (Int32.ofNat i)), .val (.int p)] [(.int (Int32.ofNat (i + 3))), (.ref a)]
  refine k_callVirtual (argsL := [(.int (Int32.ofNat (i + 3)))]) (rest := []) (W0 := 0) d_cha_37 rfl (mt_scN l Z a0 hw cs hcs SC hEW sio SIO hsio (i + 3) 47 a t bs h0 n0 OD SA (by omega) v3) Kp.strict SA.exa (hw _ (List.mem_of_getElem? (i := 261) rfl)) (hw _ (List.mem_of_getElem? (i := 262) rfl)) (hw _ (List.mem_of_getElem? (i := 264) rfl)) (hw _ (List.mem_of_getElem? (i := 99) rfl)) rfl (hw _ (List.mem_of_getElem? (i := 263) rfl)) (hw _ (List.mem_of_getElem? (i := 265) rfl)) (hw _ (List.mem_of_getElem? (i := 5) rfl)) (by decide) pd_sca rfl rfl rfl rfl (by decide) (by decide) (by decide) (by decide) ?_
  rintro _ _ - ⟨rfl, rfl⟩
  rw [show chB (47 : Int32) = 47 by decide]
  refine KW.any (P' := ([], fun _ => False)) ?_
  show KW false l Z M_cha n0 (fun v h => v = some (.int 1) ∧ h0 = h) ([], fun _ => False) h0 0 0 40 #[.val (.ref a), .val (.int (Int32.ofNat i)), .val (.int p)] [(.int (47 : Int32))]
  refine k_bipush (z := (47 : Int32)) d_cha_40 rfl (by decide) ?_
  refine k_icmp (pc1 := 61) (pc' := 45) d_cha_42 (by decide) (by decide) rfl (fun (cd4 : ¬ (47 : Int32) = (47 : Int32)) => False.elim (by exact absurd cd4 (by decide))) (fun (cd4 : (47 : Int32) = (47 : Int32)) => ?_)
  refine k_aloadN d_cha_45 rfl rfl rfl ?_
  refine k_iloadN d_cha_46 rfl rfl ?_
  refine k_iconst (z := (4 : Int32)) d_cha_47 rfl (by decide) ?_
  refine k_iadd d_cha_48 rfl ?_
  refine KW.top (congrArg Value.int (ix_add i 4 : Int32.ofNat i + (4 : Int32) = Int32.ofNat (i + 4))) ?_
  show KW false l Z M_cha n0 (fun v h => v = some (.int 1) ∧ h0 = h) ([], fun _ => False) h0 0 0 49 #[.val (.ref a), .val (.int (Int32.ofNat i)), .val (.int p)] [(.int (Int32.ofNat (i + 4))), (.ref a)]
  refine k_callVirtual (argsL := [(.int (Int32.ofNat (i + 4)))]) (rest := []) (W0 := 0) d_cha_49 rfl (mt_scN l Z a0 hw cs hcs SC hEW sio SIO hsio (i + 4) 62 a t bs h0 n0 OD SA (by omega) v4) Kp.strict SA.exa (hw _ (List.mem_of_getElem? (i := 261) rfl)) (hw _ (List.mem_of_getElem? (i := 262) rfl)) (hw _ (List.mem_of_getElem? (i := 264) rfl)) (hw _ (List.mem_of_getElem? (i := 99) rfl)) rfl (hw _ (List.mem_of_getElem? (i := 263) rfl)) (hw _ (List.mem_of_getElem? (i := 265) rfl)) (hw _ (List.mem_of_getElem? (i := 5) rfl)) (by decide) pd_sca rfl rfl rfl rfl (by decide) (by decide) (by decide) (by decide) ?_
  rintro _ _ - ⟨rfl, rfl⟩
  rw [show chB (62 : Int32) = 62 by decide]
  refine KW.any (P' := ([], fun _ => False)) ?_
  show KW false l Z M_cha n0 (fun v h => v = some (.int 1) ∧ h0 = h) ([], fun _ => False) h0 0 0 52 #[.val (.ref a), .val (.int (Int32.ofNat i)), .val (.int p)] [(.int (62 : Int32))]
  refine k_bipush (z := (62 : Int32)) d_cha_52 rfl (by decide) ?_
  refine k_icmp (pc1 := 61) (pc' := 57) d_cha_54 (by decide) (by decide) rfl (fun (cd5 : ¬ (62 : Int32) = (62 : Int32)) => False.elim (by exact absurd cd5 (by decide))) (fun (cd5 : (62 : Int32) = (62 : Int32)) => ?_)
  refine k_iconst (z := (1 : Int32)) d_cha_57 rfl (by decide) ?_
  refine k_goto (pc' := 62) d_cha_58 (by decide) (by decide) ?_
  exact k_retNar d_cha_62 rfl (by simp) (z' := (1 : Int32)) (by decide) (by decide) (by decide) ⟨rfl, rfl⟩
theorem mt_cha (l : Launch) (Z : State) (a0 : Array Value) (hw : ∀ d ∈ tables_1, d.before a0 Z = true) (cs : Int32) (hcs : ¬ cs = 0) (SC : Sta Z Z.heap "java/lang/String" "COMPACT_STRINGS" "Z" (.int cs)) (hEW : EW Z a0 EL) (sio : Value) (SIO : Sta Z Z.heap "jdk/internal/util/Preconditions" "SIOOBE_FORMATTER" "Ljava/util/function/BiFunction;" sio) (hsio : sio.isRef = true) (i : Nat) (p : Int32) (hp : Ch p) (a t : Addr) (bs : List Int32) (h0 : Heap) (n0 : Nat) (OD : Old Z n0 h0) (SA : Sg Z h0 a t bs) (hi : i + 4 < bs.length) (v0 : bs[i]? = some 10) (v1 : bs[i + 1]? = some 60) (v2 : bs[i + 2]? = some (nbI p)) (v3 : bs[i + 3]? = some 47) (v4 : bs[i + 4]? = some 62) : Mt l Z M_cha [] n0 #[(.ref a), (.int (Int32.ofNat i)), (.int p)] h0 (fun v h => v = some (.int 1) ∧ h0 = h) :=
  mt_of_kw (P := ([], fun _ => False)) pf_cha (fun m => by first | (simp [entryFrame, mkF, argsToLocals, Value.category]; done) | rfl) (kw_cha l Z a0 hw cs hcs SC hEW sio SIO hsio i p hp a t bs h0 n0 OD SA hi v0 v1 v2 v3 v4)
abbrev M_law : MD := (x, code, maxLocals, ret, room_1)
theorem pd_law : parseMethodDescriptor "(IIIIII)Z" = some ⟨[.int, .int, .int, .int, .int, .int], (some .boolean)⟩ := by decide +kernel
theorem pf_law : plainFor (⟨"com/example/roomwire/roomwire/qunar/XmlElementAddPinLaw", "law", "(IIIIII)Z"⟩ : MethodName) = true := by first | exact plainFor_of_name (by first | (simp [plainName, overriddenIn]; done) | decide +kernel) | decide +kernel
def TX0 (p0 p1 p2 q : Int32) : List Int32 := [60, 63, 120, 109, 108, 32, 118, 101, 114, 115, 105, 111, 110, 61, 34, 49, 46, 48, 34, 32, 101, 110, 99, 111, 100, 105, 110, 103, 61, 34, 117, 116, 102, 45, 56, 34, 63, 62, 10, 60, (nbI p0), 47, 62, 10]
set_option maxRecDepth 65536 in
set_option maxHeartbeats 40000000 in
theorem kw_t0 (l : Launch) (Z : State) (a0 : Array Value) (hw : ∀ d ∈ tables_1, d.before a0 Z = true) (cs : Int32) (hcs : ¬ cs = 0) (SC : Sta Z Z.heap "java/lang/String" "COMPACT_STRINGS" "Z" (.int cs)) (hEW : EW Z a0 EL) (x0 x1 x2 x3 x4 x5 p0 p1 p2 p3 q sm : Int32) (P a b c s_ t_ : Addr) (h0 : Heap) (n0 : Nat) (OD : Old Z n0 h0) (SGD : Sg Z h0 s_ t_ (TX0 p0 p1 p2 q)) (hp0 : Ch p0) (hp1 : Ch p1) (hp2 : Ch p2) (hp3 : Ch p3) (hq : Ch q) (sio : Value) (SIO : Sta Z Z.heap "jdk/internal/util/Preconditions" "SIOOBE_FORMATTER" "Ljava/util/function/BiFunction;" sio) (hsio : sio.isRef = true) : KW true l Z M_law n0 (fun v _ => v = some (.int 1)) (EL, fun _ => False) h0 38 1183 230 #[.val (.int x0), .val (.int x1), .val (.int x2), .val (.int x3), .val (.int x4), .val (.int x5), .val (.int p0), .val (.int p1), .val (.int p2), .val (.int p3), .val (.int sm), .val (.ref P), .val (.ref a), .val (.ref b), .val (.ref c), .val (.int q), .val (.int (0 : Int32)), .val (.int (1 : Int32)), .unset, .unset] [(.ref s_)] := by
  refine k_astore (Ls' := #[.val (.int x0), .val (.int x1), .val (.int x2), .val (.int x3), .val (.int x4), .val (.int x5), .val (.int p0), .val (.int p1), .val (.int p2), .val (.int p3), .val (.int sm), .val (.ref P), .val (.ref a), .val (.ref b), .val (.ref c), .val (.int q), .val (.int (0 : Int32)), .val (.int (1 : Int32)), .val (.ref s_), .unset]) at_230 rfl rfl rfl ?_
  refine k_aload at_232 rfl rfl rfl ?_
  refine k_callVirtual (argsL := []) (rest := []) (W0 := 0) at_234 rfl (mt_len l Z a0 hw cs hcs SC hEW s_ t_ (TX0 p0 p1 p2 q) h0 n0 OD SGD) (Kp.pure (fun _ _ q => q.2.symm)) SGD.exa (hw _ (List.mem_of_getElem? (i := 260) rfl)) (hw _ (List.mem_of_getElem? (i := 97) rfl)) (hw _ (List.mem_of_getElem? (i := 99) rfl)) (hw _ (List.mem_of_getElem? (i := 99) rfl)) rfl (hw _ (List.mem_of_getElem? (i := 98) rfl)) (hw _ (List.mem_of_getElem? (i := 100) rfl)) (hw _ (List.mem_of_getElem? (i := 5) rfl)) (by decide) pd_len rfl rfl rfl rfl (by decide) (by decide) (by decide) (by decide) ?_
  rintro _ _ - ⟨rfl, rfl⟩
  refine KW.top (congrArg Value.int (rfl : Int32.ofNat (TX0 p0 p1 p2 q).length = (44 : Int32))) ?_
  refine KW.sub (S' := fun _ => False) (fun x hx => hx.elim) ?_
  show KW true l Z M_law n0 (fun v _ => v = some (.int 1)) (EL, fun _ => False) h0 38 1183 237 #[.val (.int x0), .val (.int x1), .val (.int x2), .val (.int x3), .val (.int x4), .val (.int x5), .val (.int p0), .val (.int p1), .val (.int p2), .val (.int p3), .val (.int sm), .val (.ref P), .val (.ref a), .val (.ref b), .val (.ref c), .val (.int q), .val (.int (0 : Int32)), .val (.int (1 : Int32)), .val (.ref s_), .unset] [(.int (44 : Int32))]
  refine k_bipush (z := (44 : Int32)) at_237 rfl (by decide) ?_
  refine k_icmp (pc1 := 244) (pc' := 242) at_239 (by decide) (by decide) rfl (fun (cd25 : ¬ (44 : Int32) < (44 : Int32)) => ?_) (fun (cd25 : (44 : Int32) < (44 : Int32)) => False.elim (by exact absurd cd25 (by decide)))
  refine k_iload at_244 rfl rfl ?_
  refine k_ifc (pc1 := 276) (pc' := 249) at_246 (by decide) (by decide) rfl (fun (cd26 : (1 : Int32) = (0 : Int32)) => False.elim (by exact absurd cd26 (by decide))) (fun (cd26 : ¬ (1 : Int32) = (0 : Int32)) => ?_)
  refine k_aload at_249 rfl rfl rfl ?_
  refine k_iconst (z := (0 : Int32)) at_251 rfl (by decide) ?_
  refine k_callVirtual (argsL := [(.int (0 : Int32))]) (rest := []) (W0 := 0) at_252 rfl (mt_scN l Z a0 hw cs hcs SC hEW sio SIO hsio 0 60 s_ t_ (TX0 p0 p1 p2 q) h0 n0 OD SGD (show 0 < 44 by decide) rfl) (Kp.pure (fun _ _ q => q.2.symm)) SGD.exa (hw _ (List.mem_of_getElem? (i := 261) rfl)) (hw _ (List.mem_of_getElem? (i := 262) rfl)) (hw _ (List.mem_of_getElem? (i := 264) rfl)) (hw _ (List.mem_of_getElem? (i := 99) rfl)) rfl (hw _ (List.mem_of_getElem? (i := 263) rfl)) (hw _ (List.mem_of_getElem? (i := 265) rfl)) (hw _ (List.mem_of_getElem? (i := 5) rfl)) (by decide) pd_sca rfl rfl rfl rfl (by decide) (by decide) (by decide) (by decide) ?_
  rintro _ _ - ⟨rfl, rfl⟩
  rw [show chB (60 : Int32) = 60 by decide]
  refine KW.sub (S' := fun _ => False) (fun x hx => hx.elim) ?_
  show KW true l Z M_law n0 (fun v _ => v = some (.int 1)) (EL, fun _ => False) h0 38 1183 255 #[.val (.int x0), .val (.int x1), .val (.int x2), .val (.int x3), .val (.int x4), .val (.int x5), .val (.int p0), .val (.int p1), .val (.int p2), .val (.int p3), .val (.int sm), .val (.ref P), .val (.ref a), .val (.ref b), .val (.ref c), .val (.int q), .val (.int (0 : Int32)), .val (.int (1 : Int32)), .val (.ref s_), .unset] [(.int (60 : Int32))]
  refine k_bipush (z := (60 : Int32)) at_255 rfl (by decide) ?_
  refine k_icmp (pc1 := 276) (pc' := 260) at_257 (by decide) (by decide) rfl (fun (cd27 : ¬ (60 : Int32) = (60 : Int32)) => False.elim (by exact absurd cd27 (by decide))) (fun (cd27 : (60 : Int32) = (60 : Int32)) => ?_)
  refine k_aload at_260 rfl rfl rfl ?_
  refine k_bipush (z := (38 : Int32)) at_262 rfl (by decide) ?_
  refine k_callVirtual (argsL := [(.int (38 : Int32))]) (rest := []) (W0 := 0) at_264 rfl (mt_scN l Z a0 hw cs hcs SC hEW sio SIO hsio 38 10 s_ t_ (TX0 p0 p1 p2 q) h0 n0 OD SGD (show 38 < 44 by decide) rfl) (Kp.pure (fun _ _ q => q.2.symm)) SGD.exa (hw _ (List.mem_of_getElem? (i := 261) rfl)) (hw _ (List.mem_of_getElem? (i := 262) rfl)) (hw _ (List.mem_of_getElem? (i := 264) rfl)) (hw _ (List.mem_of_getElem? (i := 99) rfl)) rfl (hw _ (List.mem_of_getElem? (i := 263) rfl)) (hw _ (List.mem_of_getElem? (i := 265) rfl)) (hw _ (List.mem_of_getElem? (i := 5) rfl)) (by decide) pd_sca rfl rfl rfl rfl (by decide) (by decide) (by decide) (by decide) ?_
  rintro _ _ - ⟨rfl, rfl⟩
  rw [show chB (10 : Int32) = 10 by decide]
  refine KW.sub (S' := fun _ => False) (fun x hx => hx.elim) ?_
  show KW true l Z M_law n0 (fun v _ => v = some (.int 1)) (EL, fun _ => False) h0 38 1183 267 #[.val (.int x0), .val (.int x1), .val (.int x2), .val (.int x3), .val (.int x4), .val (.int x5), .val (.int p0), .val (.int p1), .val (.int p2), .val (.int p3), .val (.int sm), .val (.ref P), .val (.ref a), .val (.ref b), .val (.ref c), .val (.int q), .val (.int (0 : Int32)), .val (.int (1 : Int32)), .val (.ref s_), .unset] [(.int (10 : Int32))]
  refine k_bipush (z := (10 : Int32)) at_267 rfl (by decide) ?_
  refine k_icmp (pc1 := 276) (pc' := 272) at_269 (by decide) (by decide) rfl (fun (cd28 : ¬ (10 : Int32) = (10 : Int32)) => False.elim (by exact absurd cd28 (by decide))) (fun (cd28 : (10 : Int32) = (10 : Int32)) => ?_)
  refine k_iconst (z := (1 : Int32)) at_272 rfl (by decide) ?_
  refine k_goto (pc' := 277) at_273 (by decide) (by decide) ?_
  refine k_istore (Ls' := #[.val (.int x0), .val (.int x1), .val (.int x2), .val (.int x3), .val (.int x4), .val (.int x5), .val (.int p0), .val (.int p1), .val (.int p2), .val (.int p3), .val (.int sm), .val (.ref P), .val (.ref a), .val (.ref b), .val (.ref c), .val (.int q), .val (.int (0 : Int32)), .val (.int (1 : Int32)), .val (.ref s_), .unset]) at_277 rfl rfl ?_
  refine k_iload at_279 rfl rfl ?_
  refine k_ifc (pc1 := 365) (pc' := 284) at_281 (by decide) (by decide) rfl (fun (cd29 : ¬ (0 : Int32) = (0 : Int32)) => False.elim (by exact absurd cd29 (by decide))) (fun (cd29 : (0 : Int32) = (0 : Int32)) => ?_)
  refine k_iload at_284 rfl rfl ?_
  refine k_ifc (pc1 := 363) (pc' := 289) at_286 (by decide) (by decide) rfl (fun (cd30 : (1 : Int32) = (0 : Int32)) => False.elim (by exact absurd cd30 (by decide))) (fun (cd30 : ¬ (1 : Int32) = (0 : Int32)) => ?_)
  refine k_aload at_289 rfl rfl rfl ?_
  refine k_callVirtual (argsL := []) (rest := []) (W0 := 0) at_291 rfl (mt_len l Z a0 hw cs hcs SC hEW s_ t_ (TX0 p0 p1 p2 q) h0 n0 OD SGD) (Kp.pure (fun _ _ q => q.2.symm)) SGD.exa (hw _ (List.mem_of_getElem? (i := 260) rfl)) (hw _ (List.mem_of_getElem? (i := 97) rfl)) (hw _ (List.mem_of_getElem? (i := 99) rfl)) (hw _ (List.mem_of_getElem? (i := 99) rfl)) rfl (hw _ (List.mem_of_getElem? (i := 98) rfl)) (hw _ (List.mem_of_getElem? (i := 100) rfl)) (hw _ (List.mem_of_getElem? (i := 5) rfl)) (by decide) pd_len rfl rfl rfl rfl (by decide) (by decide) (by decide) (by decide) ?_
  rintro _ _ - ⟨rfl, rfl⟩
  refine KW.top (congrArg Value.int (rfl : Int32.ofNat (TX0 p0 p1 p2 q).length = (44 : Int32))) ?_
  refine KW.sub (S' := fun _ => False) (fun x hx => hx.elim) ?_
  show KW true l Z M_law n0 (fun v _ => v = some (.int 1)) (EL, fun _ => False) h0 38 1183 294 #[.val (.int x0), .val (.int x1), .val (.int x2), .val (.int x3), .val (.int x4), .val (.int x5), .val (.int p0), .val (.int p1), .val (.int p2), .val (.int p3), .val (.int sm), .val (.ref P), .val (.ref a), .val (.ref b), .val (.ref c), .val (.int q), .val (.int (0 : Int32)), .val (.int (1 : Int32)), .val (.ref s_), .unset] [(.int (44 : Int32))]
  refine k_bipush (z := (44 : Int32)) at_294 rfl (by decide) ?_
  refine k_icmp (pc1 := 363) (pc' := 299) at_296 (by decide) (by decide) rfl (fun (cd31 : ¬ (44 : Int32) = (44 : Int32)) => False.elim (by exact absurd cd31 (by decide))) (fun (cd31 : (44 : Int32) = (44 : Int32)) => ?_)
  refine k_aload at_299 rfl rfl rfl ?_
  refine k_bipush (z := (39 : Int32)) at_301 rfl (by decide) ?_
  refine k_callVirtual (argsL := [(.int (39 : Int32))]) (rest := []) (W0 := 0) at_303 rfl (mt_scN l Z a0 hw cs hcs SC hEW sio SIO hsio 39 60 s_ t_ (TX0 p0 p1 p2 q) h0 n0 OD SGD (show 39 < 44 by decide) rfl) (Kp.pure (fun _ _ q => q.2.symm)) SGD.exa (hw _ (List.mem_of_getElem? (i := 261) rfl)) (hw _ (List.mem_of_getElem? (i := 262) rfl)) (hw _ (List.mem_of_getElem? (i := 264) rfl)) (hw _ (List.mem_of_getElem? (i := 99) rfl)) rfl (hw _ (List.mem_of_getElem? (i := 263) rfl)) (hw _ (List.mem_of_getElem? (i := 265) rfl)) (hw _ (List.mem_of_getElem? (i := 5) rfl)) (by decide) pd_sca rfl rfl rfl rfl (by decide) (by decide) (by decide) (by decide) ?_
  rintro _ _ - ⟨rfl, rfl⟩
  rw [show chB (60 : Int32) = 60 by decide]
  refine KW.sub (S' := fun _ => False) (fun x hx => hx.elim) ?_
  show KW true l Z M_law n0 (fun v _ => v = some (.int 1)) (EL, fun _ => False) h0 38 1183 306 #[.val (.int x0), .val (.int x1), .val (.int x2), .val (.int x3), .val (.int x4), .val (.int x5), .val (.int p0), .val (.int p1), .val (.int p2), .val (.int p3), .val (.int sm), .val (.ref P), .val (.ref a), .val (.ref b), .val (.ref c), .val (.int q), .val (.int (0 : Int32)), .val (.int (1 : Int32)), .val (.ref s_), .unset] [(.int (60 : Int32))]
  refine k_bipush (z := (60 : Int32)) at_306 rfl (by decide) ?_
  refine k_icmp (pc1 := 363) (pc' := 311) at_308 (by decide) (by decide) rfl (fun (cd32 : ¬ (60 : Int32) = (60 : Int32)) => False.elim (by exact absurd cd32 (by decide))) (fun (cd32 : (60 : Int32) = (60 : Int32)) => ?_)
  refine k_aload at_311 rfl rfl rfl ?_
  refine k_bipush (z := (40 : Int32)) at_313 rfl (by decide) ?_
  refine k_callVirtual (argsL := [(.int (40 : Int32))]) (rest := []) (W0 := 0) at_315 rfl (mt_scN l Z a0 hw cs hcs SC hEW sio SIO hsio 40 (nbI p0) s_ t_ (TX0 p0 p1 p2 q) h0 n0 OD SGD (show 40 < 44 by decide) rfl) (Kp.pure (fun _ _ q => q.2.symm)) SGD.exa (hw _ (List.mem_of_getElem? (i := 261) rfl)) (hw _ (List.mem_of_getElem? (i := 262) rfl)) (hw _ (List.mem_of_getElem? (i := 264) rfl)) (hw _ (List.mem_of_getElem? (i := 99) rfl)) rfl (hw _ (List.mem_of_getElem? (i := 263) rfl)) (hw _ (List.mem_of_getElem? (i := 265) rfl)) (hw _ (List.mem_of_getElem? (i := 5) rfl)) (by decide) pd_sca rfl rfl rfl rfl (by decide) (by decide) (by decide) (by decide) ?_
  rintro _ _ - ⟨rfl, rfl⟩
  rw [chB_nbI hp0]
  refine KW.sub (S' := fun _ => False) (fun x hx => hx.elim) ?_
  show KW true l Z M_law n0 (fun v _ => v = some (.int 1)) (EL, fun _ => False) h0 38 1183 318 #[.val (.int x0), .val (.int x1), .val (.int x2), .val (.int x3), .val (.int x4), .val (.int x5), .val (.int p0), .val (.int p1), .val (.int p2), .val (.int p3), .val (.int sm), .val (.ref P), .val (.ref a), .val (.ref b), .val (.ref c), .val (.int q), .val (.int (0 : Int32)), .val (.int (1 : Int32)), .val (.ref s_), .unset] [(.int p0)]
  refine k_iload at_318 rfl rfl ?_
  refine k_icmp (pc1 := 363) (pc' := 323) at_320 (by decide) (by decide) rfl (fun (cd33 : ¬ p0 = p0) => False.elim (by exact cd33 rfl)) (fun (cd33 : p0 = p0) => ?_)
  refine k_aload at_323 rfl rfl rfl ?_
  refine k_bipush (z := (41 : Int32)) at_325 rfl (by decide) ?_
  refine k_callVirtual (argsL := [(.int (41 : Int32))]) (rest := []) (W0 := 0) at_327 rfl (mt_scN l Z a0 hw cs hcs SC hEW sio SIO hsio 41 47 s_ t_ (TX0 p0 p1 p2 q) h0 n0 OD SGD (show 41 < 44 by decide) rfl) (Kp.pure (fun _ _ q => q.2.symm)) SGD.exa (hw _ (List.mem_of_getElem? (i := 261) rfl)) (hw _ (List.mem_of_getElem? (i := 262) rfl)) (hw _ (List.mem_of_getElem? (i := 264) rfl)) (hw _ (List.mem_of_getElem? (i := 99) rfl)) rfl (hw _ (List.mem_of_getElem? (i := 263) rfl)) (hw _ (List.mem_of_getElem? (i := 265) rfl)) (hw _ (List.mem_of_getElem? (i := 5) rfl)) (by decide) pd_sca rfl rfl rfl rfl (by decide) (by decide) (by decide) (by decide) ?_
  rintro _ _ - ⟨rfl, rfl⟩
  rw [show chB (47 : Int32) = 47 by decide]
  refine KW.sub (S' := fun _ => False) (fun x hx => hx.elim) ?_
  show KW true l Z M_law n0 (fun v _ => v = some (.int 1)) (EL, fun _ => False) h0 38 1183 330 #[.val (.int x0), .val (.int x1), .val (.int x2), .val (.int x3), .val (.int x4), .val (.int x5), .val (.int p0), .val (.int p1), .val (.int p2), .val (.int p3), .val (.int sm), .val (.ref P), .val (.ref a), .val (.ref b), .val (.ref c), .val (.int q), .val (.int (0 : Int32)), .val (.int (1 : Int32)), .val (.ref s_), .unset] [(.int (47 : Int32))]
  refine k_bipush (z := (47 : Int32)) at_330 rfl (by decide) ?_
  refine k_icmp (pc1 := 363) (pc' := 335) at_332 (by decide) (by decide) rfl (fun (cd34 : ¬ (47 : Int32) = (47 : Int32)) => False.elim (by exact absurd cd34 (by decide))) (fun (cd34 : (47 : Int32) = (47 : Int32)) => ?_)
  refine k_aload at_335 rfl rfl rfl ?_
  refine k_bipush (z := (42 : Int32)) at_337 rfl (by decide) ?_
  refine k_callVirtual (argsL := [(.int (42 : Int32))]) (rest := []) (W0 := 0) at_339 rfl (mt_scN l Z a0 hw cs hcs SC hEW sio SIO hsio 42 62 s_ t_ (TX0 p0 p1 p2 q) h0 n0 OD SGD (show 42 < 44 by decide) rfl) (Kp.pure (fun _ _ q => q.2.symm)) SGD.exa (hw _ (List.mem_of_getElem? (i := 261) rfl)) (hw _ (List.mem_of_getElem? (i := 262) rfl)) (hw _ (List.mem_of_getElem? (i := 264) rfl)) (hw _ (List.mem_of_getElem? (i := 99) rfl)) rfl (hw _ (List.mem_of_getElem? (i := 263) rfl)) (hw _ (List.mem_of_getElem? (i := 265) rfl)) (hw _ (List.mem_of_getElem? (i := 5) rfl)) (by decide) pd_sca rfl rfl rfl rfl (by decide) (by decide) (by decide) (by decide) ?_
  rintro _ _ - ⟨rfl, rfl⟩
  rw [show chB (62 : Int32) = 62 by decide]
  refine KW.sub (S' := fun _ => False) (fun x hx => hx.elim) ?_
  show KW true l Z M_law n0 (fun v _ => v = some (.int 1)) (EL, fun _ => False) h0 38 1183 342 #[.val (.int x0), .val (.int x1), .val (.int x2), .val (.int x3), .val (.int x4), .val (.int x5), .val (.int p0), .val (.int p1), .val (.int p2), .val (.int p3), .val (.int sm), .val (.ref P), .val (.ref a), .val (.ref b), .val (.ref c), .val (.int q), .val (.int (0 : Int32)), .val (.int (1 : Int32)), .val (.ref s_), .unset] [(.int (62 : Int32))]
  refine k_bipush (z := (62 : Int32)) at_342 rfl (by decide) ?_
  refine k_icmp (pc1 := 363) (pc' := 347) at_344 (by decide) (by decide) rfl (fun (cd35 : ¬ (62 : Int32) = (62 : Int32)) => False.elim (by exact absurd cd35 (by decide))) (fun (cd35 : (62 : Int32) = (62 : Int32)) => ?_)
  refine k_aload at_347 rfl rfl rfl ?_
  refine k_bipush (z := (43 : Int32)) at_349 rfl (by decide) ?_
  refine k_callVirtual (argsL := [(.int (43 : Int32))]) (rest := []) (W0 := 0) at_351 rfl (mt_scN l Z a0 hw cs hcs SC hEW sio SIO hsio 43 10 s_ t_ (TX0 p0 p1 p2 q) h0 n0 OD SGD (show 43 < 44 by decide) rfl) (Kp.pure (fun _ _ q => q.2.symm)) SGD.exa (hw _ (List.mem_of_getElem? (i := 261) rfl)) (hw _ (List.mem_of_getElem? (i := 262) rfl)) (hw _ (List.mem_of_getElem? (i := 264) rfl)) (hw _ (List.mem_of_getElem? (i := 99) rfl)) rfl (hw _ (List.mem_of_getElem? (i := 263) rfl)) (hw _ (List.mem_of_getElem? (i := 265) rfl)) (hw _ (List.mem_of_getElem? (i := 5) rfl)) (by decide) pd_sca rfl rfl rfl rfl (by decide) (by decide) (by decide) (by decide) ?_
  rintro _ _ - ⟨rfl, rfl⟩
  rw [show chB (10 : Int32) = 10 by decide]
  refine KW.sub (S' := fun _ => False) (fun x hx => hx.elim) ?_
  show KW true l Z M_law n0 (fun v _ => v = some (.int 1)) (EL, fun _ => False) h0 38 1183 354 #[.val (.int x0), .val (.int x1), .val (.int x2), .val (.int x3), .val (.int x4), .val (.int x5), .val (.int p0), .val (.int p1), .val (.int p2), .val (.int p3), .val (.int sm), .val (.ref P), .val (.ref a), .val (.ref b), .val (.ref c), .val (.int q), .val (.int (0 : Int32)), .val (.int (1 : Int32)), .val (.ref s_), .unset] [(.int (10 : Int32))]
  refine k_bipush (z := (10 : Int32)) at_354 rfl (by decide) ?_
  refine k_icmp (pc1 := 363) (pc' := 359) at_356 (by decide) (by decide) rfl (fun (cd36 : ¬ (10 : Int32) = (10 : Int32)) => False.elim (by exact absurd cd36 (by decide))) (fun (cd36 : (10 : Int32) = (10 : Int32)) => ?_)
  refine k_iconst (z := (1 : Int32)) at_359 rfl (by decide) ?_
  refine k_goto (pc' := 364) at_360 (by decide) (by decide) ?_
  exact k_retNar at_364 rfl (by simp) (z' := (1 : Int32)) (by decide) (by decide) (by decide) rfl
def TX1 (p0 p1 p2 q : Int32) : List Int32 := [60, 63, 120, 109, 108, 32, 118, 101, 114, 115, 105, 111, 110, 61, 34, 49, 46, 48, 34, 32, 101, 110, 99, 111, 100, 105, 110, 103, 61, 34, 117, 116, 102, 45, 56, 34, 63, 62, 10, 60, (nbI p0), 62, 10, 60, (nbI p1), 47, 62, 10, 60, 47, (nbI p0), 62, 10]
set_option maxRecDepth 65536 in
set_option maxHeartbeats 40000000 in
theorem kw_t1 (l : Launch) (Z : State) (a0 : Array Value) (hw : ∀ d ∈ tables_1, d.before a0 Z = true) (cs : Int32) (hcs : ¬ cs = 0) (SC : Sta Z Z.heap "java/lang/String" "COMPACT_STRINGS" "Z" (.int cs)) (hEW : EW Z a0 EL) (x0 x1 x2 x3 x4 x5 p0 p1 p2 p3 q sm : Int32) (P a b c s_ t_ : Addr) (h0 : Heap) (n0 : Nat) (OD : Old Z n0 h0) (SGD : Sg Z h0 s_ t_ (TX1 p0 p1 p2 q)) (hp0 : Ch p0) (hp1 : Ch p1) (hp2 : Ch p2) (hp3 : Ch p3) (hq : Ch q) (sio : Value) (SIO : Sta Z Z.heap "jdk/internal/util/Preconditions" "SIOOBE_FORMATTER" "Ljava/util/function/BiFunction;" sio) (hsio : sio.isRef = true) : KW true l Z M_law n0 (fun v _ => v = some (.int 1)) (EL, fun _ => False) h0 64 3253 230 #[.val (.int x0), .val (.int x1), .val (.int x2), .val (.int x3), .val (.int x4), .val (.int x5), .val (.int p0), .val (.int p1), .val (.int p2), .val (.int p3), .val (.int sm), .val (.ref P), .val (.ref a), .val (.ref b), .val (.ref c), .val (.int q), .val (.int (1 : Int32)), .val (.int (1 : Int32)), .unset, .unset] [(.ref s_)] := by
  refine k_astore (Ls' := #[.val (.int x0), .val (.int x1), .val (.int x2), .val (.int x3), .val (.int x4), .val (.int x5), .val (.int p0), .val (.int p1), .val (.int p2), .val (.int p3), .val (.int sm), .val (.ref P), .val (.ref a), .val (.ref b), .val (.ref c), .val (.int q), .val (.int (1 : Int32)), .val (.int (1 : Int32)), .val (.ref s_), .unset]) at_230 rfl rfl rfl ?_
  refine k_aload at_232 rfl rfl rfl ?_
  refine k_callVirtual (argsL := []) (rest := []) (W0 := 0) at_234 rfl (mt_len l Z a0 hw cs hcs SC hEW s_ t_ (TX1 p0 p1 p2 q) h0 n0 OD SGD) (Kp.pure (fun _ _ q => q.2.symm)) SGD.exa (hw _ (List.mem_of_getElem? (i := 260) rfl)) (hw _ (List.mem_of_getElem? (i := 97) rfl)) (hw _ (List.mem_of_getElem? (i := 99) rfl)) (hw _ (List.mem_of_getElem? (i := 99) rfl)) rfl (hw _ (List.mem_of_getElem? (i := 98) rfl)) (hw _ (List.mem_of_getElem? (i := 100) rfl)) (hw _ (List.mem_of_getElem? (i := 5) rfl)) (by decide) pd_len rfl rfl rfl rfl (by decide) (by decide) (by decide) (by decide) ?_
  rintro _ _ - ⟨rfl, rfl⟩
  refine KW.top (congrArg Value.int (rfl : Int32.ofNat (TX1 p0 p1 p2 q).length = (53 : Int32))) ?_
  refine KW.sub (S' := fun _ => False) (fun x hx => hx.elim) ?_
  show KW true l Z M_law n0 (fun v _ => v = some (.int 1)) (EL, fun _ => False) h0 64 3253 237 #[.val (.int x0), .val (.int x1), .val (.int x2), .val (.int x3), .val (.int x4), .val (.int x5), .val (.int p0), .val (.int p1), .val (.int p2), .val (.int p3), .val (.int sm), .val (.ref P), .val (.ref a), .val (.ref b), .val (.ref c), .val (.int q), .val (.int (1 : Int32)), .val (.int (1 : Int32)), .val (.ref s_), .unset] [(.int (53 : Int32))]
  refine k_bipush (z := (44 : Int32)) at_237 rfl (by decide) ?_
  refine k_icmp (pc1 := 244) (pc' := 242) at_239 (by decide) (by decide) rfl (fun (cd37 : ¬ (53 : Int32) < (44 : Int32)) => ?_) (fun (cd37 : (53 : Int32) < (44 : Int32)) => False.elim (by exact absurd cd37 (by decide)))
  refine k_iload at_244 rfl rfl ?_
  refine k_ifc (pc1 := 276) (pc' := 249) at_246 (by decide) (by decide) rfl (fun (cd38 : (1 : Int32) = (0 : Int32)) => False.elim (by exact absurd cd38 (by decide))) (fun (cd38 : ¬ (1 : Int32) = (0 : Int32)) => ?_)
  refine k_aload at_249 rfl rfl rfl ?_
  refine k_iconst (z := (0 : Int32)) at_251 rfl (by decide) ?_
  refine k_callVirtual (argsL := [(.int (0 : Int32))]) (rest := []) (W0 := 0) at_252 rfl (mt_scN l Z a0 hw cs hcs SC hEW sio SIO hsio 0 60 s_ t_ (TX1 p0 p1 p2 q) h0 n0 OD SGD (show 0 < 53 by decide) rfl) (Kp.pure (fun _ _ q => q.2.symm)) SGD.exa (hw _ (List.mem_of_getElem? (i := 261) rfl)) (hw _ (List.mem_of_getElem? (i := 262) rfl)) (hw _ (List.mem_of_getElem? (i := 264) rfl)) (hw _ (List.mem_of_getElem? (i := 99) rfl)) rfl (hw _ (List.mem_of_getElem? (i := 263) rfl)) (hw _ (List.mem_of_getElem? (i := 265) rfl)) (hw _ (List.mem_of_getElem? (i := 5) rfl)) (by decide) pd_sca rfl rfl rfl rfl (by decide) (by decide) (by decide) (by decide) ?_
  rintro _ _ - ⟨rfl, rfl⟩
  rw [show chB (60 : Int32) = 60 by decide]
  refine KW.sub (S' := fun _ => False) (fun x hx => hx.elim) ?_
  show KW true l Z M_law n0 (fun v _ => v = some (.int 1)) (EL, fun _ => False) h0 64 3253 255 #[.val (.int x0), .val (.int x1), .val (.int x2), .val (.int x3), .val (.int x4), .val (.int x5), .val (.int p0), .val (.int p1), .val (.int p2), .val (.int p3), .val (.int sm), .val (.ref P), .val (.ref a), .val (.ref b), .val (.ref c), .val (.int q), .val (.int (1 : Int32)), .val (.int (1 : Int32)), .val (.ref s_), .unset] [(.int (60 : Int32))]
  refine k_bipush (z := (60 : Int32)) at_255 rfl (by decide) ?_
  refine k_icmp (pc1 := 276) (pc' := 260) at_257 (by decide) (by decide) rfl (fun (cd39 : ¬ (60 : Int32) = (60 : Int32)) => False.elim (by exact absurd cd39 (by decide))) (fun (cd39 : (60 : Int32) = (60 : Int32)) => ?_)
  refine k_aload at_260 rfl rfl rfl ?_
  refine k_bipush (z := (38 : Int32)) at_262 rfl (by decide) ?_
  refine k_callVirtual (argsL := [(.int (38 : Int32))]) (rest := []) (W0 := 0) at_264 rfl (mt_scN l Z a0 hw cs hcs SC hEW sio SIO hsio 38 10 s_ t_ (TX1 p0 p1 p2 q) h0 n0 OD SGD (show 38 < 53 by decide) rfl) (Kp.pure (fun _ _ q => q.2.symm)) SGD.exa (hw _ (List.mem_of_getElem? (i := 261) rfl)) (hw _ (List.mem_of_getElem? (i := 262) rfl)) (hw _ (List.mem_of_getElem? (i := 264) rfl)) (hw _ (List.mem_of_getElem? (i := 99) rfl)) rfl (hw _ (List.mem_of_getElem? (i := 263) rfl)) (hw _ (List.mem_of_getElem? (i := 265) rfl)) (hw _ (List.mem_of_getElem? (i := 5) rfl)) (by decide) pd_sca rfl rfl rfl rfl (by decide) (by decide) (by decide) (by decide) ?_
  rintro _ _ - ⟨rfl, rfl⟩
  rw [show chB (10 : Int32) = 10 by decide]
  refine KW.sub (S' := fun _ => False) (fun x hx => hx.elim) ?_
  show KW true l Z M_law n0 (fun v _ => v = some (.int 1)) (EL, fun _ => False) h0 64 3253 267 #[.val (.int x0), .val (.int x1), .val (.int x2), .val (.int x3), .val (.int x4), .val (.int x5), .val (.int p0), .val (.int p1), .val (.int p2), .val (.int p3), .val (.int sm), .val (.ref P), .val (.ref a), .val (.ref b), .val (.ref c), .val (.int q), .val (.int (1 : Int32)), .val (.int (1 : Int32)), .val (.ref s_), .unset] [(.int (10 : Int32))]
  refine k_bipush (z := (10 : Int32)) at_267 rfl (by decide) ?_
  refine k_icmp (pc1 := 276) (pc' := 272) at_269 (by decide) (by decide) rfl (fun (cd40 : ¬ (10 : Int32) = (10 : Int32)) => False.elim (by exact absurd cd40 (by decide))) (fun (cd40 : (10 : Int32) = (10 : Int32)) => ?_)
  refine k_iconst (z := (1 : Int32)) at_272 rfl (by decide) ?_
  refine k_goto (pc' := 277) at_273 (by decide) (by decide) ?_
  refine k_istore (Ls' := #[.val (.int x0), .val (.int x1), .val (.int x2), .val (.int x3), .val (.int x4), .val (.int x5), .val (.int p0), .val (.int p1), .val (.int p2), .val (.int p3), .val (.int sm), .val (.ref P), .val (.ref a), .val (.ref b), .val (.ref c), .val (.int q), .val (.int (1 : Int32)), .val (.int (1 : Int32)), .val (.ref s_), .unset]) at_277 rfl rfl ?_
  refine k_iload at_279 rfl rfl ?_
  refine k_ifc (pc1 := 365) (pc' := 284) at_281 (by decide) (by decide) rfl (fun (cd41 : ¬ (1 : Int32) = (0 : Int32)) => ?_) (fun (cd41 : (1 : Int32) = (0 : Int32)) => False.elim (by exact absurd cd41 (by decide)))
  refine k_bipush (z := (42 : Int32)) at_365 rfl (by decide) ?_
  refine k_iconst (z := (5 : Int32)) at_367 rfl (by decide) ?_
  refine k_iload at_368 rfl rfl ?_
  refine k_imul at_370 rfl ?_
  refine k_iadd at_371 rfl ?_
  refine KW.top (congrArg Value.int (show ((42 : Int32) + ((5 : Int32) * (1 : Int32))) = (47 : Int32) by decide)) ?_
  show KW true l Z M_law n0 (fun v _ => v = some (.int 1)) (EL, fun _ => False) h0 64 3253 372 #[.val (.int x0), .val (.int x1), .val (.int x2), .val (.int x3), .val (.int x4), .val (.int x5), .val (.int p0), .val (.int p1), .val (.int p2), .val (.int p3), .val (.int sm), .val (.ref P), .val (.ref a), .val (.ref b), .val (.ref c), .val (.int q), .val (.int (1 : Int32)), .val (.int (1 : Int32)), .val (.ref s_), .unset] [(.int (47 : Int32))]
  refine k_istore (Ls' := #[.val (.int x0), .val (.int x1), .val (.int x2), .val (.int x3), .val (.int x4), .val (.int x5), .val (.int p0), .val (.int p1), .val (.int p2), .val (.int p3), .val (.int sm), .val (.ref P), .val (.ref a), .val (.ref b), .val (.ref c), .val (.int q), .val (.int (1 : Int32)), .val (.int (1 : Int32)), .val (.ref s_), .val (.int (47 : Int32))]) at_372 rfl rfl ?_
  refine k_aload at_374 rfl rfl rfl ?_
  refine k_callVirtual (argsL := []) (rest := []) (W0 := 0) at_376 rfl (mt_len l Z a0 hw cs hcs SC hEW s_ t_ (TX1 p0 p1 p2 q) h0 n0 OD SGD) (Kp.pure (fun _ _ q => q.2.symm)) SGD.exa (hw _ (List.mem_of_getElem? (i := 260) rfl)) (hw _ (List.mem_of_getElem? (i := 97) rfl)) (hw _ (List.mem_of_getElem? (i := 99) rfl)) (hw _ (List.mem_of_getElem? (i := 99) rfl)) rfl (hw _ (List.mem_of_getElem? (i := 98) rfl)) (hw _ (List.mem_of_getElem? (i := 100) rfl)) (hw _ (List.mem_of_getElem? (i := 5) rfl)) (by decide) pd_len rfl rfl rfl rfl (by decide) (by decide) (by decide) (by decide) ?_
  rintro _ _ - ⟨rfl, rfl⟩
  refine KW.top (congrArg Value.int (rfl : Int32.ofNat (TX1 p0 p1 p2 q).length = (53 : Int32))) ?_
  refine KW.sub (S' := fun _ => False) (fun x hx => hx.elim) ?_
  show KW true l Z M_law n0 (fun v _ => v = some (.int 1)) (EL, fun _ => False) h0 64 3253 379 #[.val (.int x0), .val (.int x1), .val (.int x2), .val (.int x3), .val (.int x4), .val (.int x5), .val (.int p0), .val (.int p1), .val (.int p2), .val (.int p3), .val (.int sm), .val (.ref P), .val (.ref a), .val (.ref b), .val (.ref c), .val (.int q), .val (.int (1 : Int32)), .val (.int (1 : Int32)), .val (.ref s_), .val (.int (47 : Int32))] [(.int (53 : Int32))]
  refine k_iload at_379 rfl rfl ?_
  refine k_bipush (z := (6 : Int32)) at_381 rfl (by decide) ?_
  refine k_iadd at_383 rfl ?_
  refine KW.top (congrArg Value.int (show ((47 : Int32) + (6 : Int32)) = (53 : Int32) by decide)) ?_
  show KW true l Z M_law n0 (fun v _ => v = some (.int 1)) (EL, fun _ => False) h0 64 3253 384 #[.val (.int x0), .val (.int x1), .val (.int x2), .val (.int x3), .val (.int x4), .val (.int x5), .val (.int p0), .val (.int p1), .val (.int p2), .val (.int p3), .val (.int sm), .val (.ref P), .val (.ref a), .val (.ref b), .val (.ref c), .val (.int q), .val (.int (1 : Int32)), .val (.int (1 : Int32)), .val (.ref s_), .val (.int (47 : Int32))] [(.int (53 : Int32)), (.int (53 : Int32))]
  refine k_icmp (pc1 := 389) (pc' := 387) at_384 (by decide) (by decide) rfl (fun (cd42 : (53 : Int32) = (53 : Int32)) => ?_) (fun (cd42 : ¬ (53 : Int32) = (53 : Int32)) => False.elim (by exact absurd cd42 (by decide)))
  refine k_iload at_389 rfl rfl ?_
  refine k_ifc (pc1 := 434) (pc' := 394) at_391 (by decide) (by decide) rfl (fun (cd43 : (1 : Int32) = (0 : Int32)) => False.elim (by exact absurd cd43 (by decide))) (fun (cd43 : ¬ (1 : Int32) = (0 : Int32)) => ?_)
  refine k_aload at_394 rfl rfl rfl ?_
  refine k_bipush (z := (39 : Int32)) at_396 rfl (by decide) ?_
  refine k_callVirtual (argsL := [(.int (39 : Int32))]) (rest := []) (W0 := 0) at_398 rfl (mt_scN l Z a0 hw cs hcs SC hEW sio SIO hsio 39 60 s_ t_ (TX1 p0 p1 p2 q) h0 n0 OD SGD (show 39 < 53 by decide) rfl) (Kp.pure (fun _ _ q => q.2.symm)) SGD.exa (hw _ (List.mem_of_getElem? (i := 261) rfl)) (hw _ (List.mem_of_getElem? (i := 262) rfl)) (hw _ (List.mem_of_getElem? (i := 264) rfl)) (hw _ (List.mem_of_getElem? (i := 99) rfl)) rfl (hw _ (List.mem_of_getElem? (i := 263) rfl)) (hw _ (List.mem_of_getElem? (i := 265) rfl)) (hw _ (List.mem_of_getElem? (i := 5) rfl)) (by decide) pd_sca rfl rfl rfl rfl (by decide) (by decide) (by decide) (by decide) ?_
  rintro _ _ - ⟨rfl, rfl⟩
  rw [show chB (60 : Int32) = 60 by decide]
  refine KW.sub (S' := fun _ => False) (fun x hx => hx.elim) ?_
  show KW true l Z M_law n0 (fun v _ => v = some (.int 1)) (EL, fun _ => False) h0 64 3253 401 #[.val (.int x0), .val (.int x1), .val (.int x2), .val (.int x3), .val (.int x4), .val (.int x5), .val (.int p0), .val (.int p1), .val (.int p2), .val (.int p3), .val (.int sm), .val (.ref P), .val (.ref a), .val (.ref b), .val (.ref c), .val (.int q), .val (.int (1 : Int32)), .val (.int (1 : Int32)), .val (.ref s_), .val (.int (47 : Int32))] [(.int (60 : Int32))]
  refine k_bipush (z := (60 : Int32)) at_401 rfl (by decide) ?_
  refine k_icmp (pc1 := 434) (pc' := 406) at_403 (by decide) (by decide) rfl (fun (cd44 : ¬ (60 : Int32) = (60 : Int32)) => False.elim (by exact absurd cd44 (by decide))) (fun (cd44 : (60 : Int32) = (60 : Int32)) => ?_)
  refine k_aload at_406 rfl rfl rfl ?_
  refine k_bipush (z := (40 : Int32)) at_408 rfl (by decide) ?_
  refine k_callVirtual (argsL := [(.int (40 : Int32))]) (rest := []) (W0 := 0) at_410 rfl (mt_scN l Z a0 hw cs hcs SC hEW sio SIO hsio 40 (nbI p0) s_ t_ (TX1 p0 p1 p2 q) h0 n0 OD SGD (show 40 < 53 by decide) rfl) (Kp.pure (fun _ _ q => q.2.symm)) SGD.exa (hw _ (List.mem_of_getElem? (i := 261) rfl)) (hw _ (List.mem_of_getElem? (i := 262) rfl)) (hw _ (List.mem_of_getElem? (i := 264) rfl)) (hw _ (List.mem_of_getElem? (i := 99) rfl)) rfl (hw _ (List.mem_of_getElem? (i := 263) rfl)) (hw _ (List.mem_of_getElem? (i := 265) rfl)) (hw _ (List.mem_of_getElem? (i := 5) rfl)) (by decide) pd_sca rfl rfl rfl rfl (by decide) (by decide) (by decide) (by decide) ?_
  rintro _ _ - ⟨rfl, rfl⟩
  rw [chB_nbI hp0]
  refine KW.sub (S' := fun _ => False) (fun x hx => hx.elim) ?_
  show KW true l Z M_law n0 (fun v _ => v = some (.int 1)) (EL, fun _ => False) h0 64 3253 413 #[.val (.int x0), .val (.int x1), .val (.int x2), .val (.int x3), .val (.int x4), .val (.int x5), .val (.int p0), .val (.int p1), .val (.int p2), .val (.int p3), .val (.int sm), .val (.ref P), .val (.ref a), .val (.ref b), .val (.ref c), .val (.int q), .val (.int (1 : Int32)), .val (.int (1 : Int32)), .val (.ref s_), .val (.int (47 : Int32))] [(.int p0)]
  refine k_iload at_413 rfl rfl ?_
  refine k_icmp (pc1 := 434) (pc' := 418) at_415 (by decide) (by decide) rfl (fun (cd45 : ¬ p0 = p0) => False.elim (by exact cd45 rfl)) (fun (cd45 : p0 = p0) => ?_)
  refine k_aload at_418 rfl rfl rfl ?_
  refine k_bipush (z := (41 : Int32)) at_420 rfl (by decide) ?_
  refine k_callVirtual (argsL := [(.int (41 : Int32))]) (rest := []) (W0 := 0) at_422 rfl (mt_scN l Z a0 hw cs hcs SC hEW sio SIO hsio 41 62 s_ t_ (TX1 p0 p1 p2 q) h0 n0 OD SGD (show 41 < 53 by decide) rfl) (Kp.pure (fun _ _ q => q.2.symm)) SGD.exa (hw _ (List.mem_of_getElem? (i := 261) rfl)) (hw _ (List.mem_of_getElem? (i := 262) rfl)) (hw _ (List.mem_of_getElem? (i := 264) rfl)) (hw _ (List.mem_of_getElem? (i := 99) rfl)) rfl (hw _ (List.mem_of_getElem? (i := 263) rfl)) (hw _ (List.mem_of_getElem? (i := 265) rfl)) (hw _ (List.mem_of_getElem? (i := 5) rfl)) (by decide) pd_sca rfl rfl rfl rfl (by decide) (by decide) (by decide) (by decide) ?_
  rintro _ _ - ⟨rfl, rfl⟩
  rw [show chB (62 : Int32) = 62 by decide]
  refine KW.sub (S' := fun _ => False) (fun x hx => hx.elim) ?_
  show KW true l Z M_law n0 (fun v _ => v = some (.int 1)) (EL, fun _ => False) h0 64 3253 425 #[.val (.int x0), .val (.int x1), .val (.int x2), .val (.int x3), .val (.int x4), .val (.int x5), .val (.int p0), .val (.int p1), .val (.int p2), .val (.int p3), .val (.int sm), .val (.ref P), .val (.ref a), .val (.ref b), .val (.ref c), .val (.int q), .val (.int (1 : Int32)), .val (.int (1 : Int32)), .val (.ref s_), .val (.int (47 : Int32))] [(.int (62 : Int32))]
  refine k_bipush (z := (62 : Int32)) at_425 rfl (by decide) ?_
  refine k_icmp (pc1 := 434) (pc' := 430) at_427 (by decide) (by decide) rfl (fun (cd46 : ¬ (62 : Int32) = (62 : Int32)) => False.elim (by exact absurd cd46 (by decide))) (fun (cd46 : (62 : Int32) = (62 : Int32)) => ?_)
  refine k_iconst (z := (1 : Int32)) at_430 rfl (by decide) ?_
  refine k_goto (pc' := 435) at_431 (by decide) (by decide) ?_
  refine k_istore (Ls' := #[.val (.int x0), .val (.int x1), .val (.int x2), .val (.int x3), .val (.int x4), .val (.int x5), .val (.int p0), .val (.int p1), .val (.int p2), .val (.int p3), .val (.int sm), .val (.ref P), .val (.ref a), .val (.ref b), .val (.ref c), .val (.int q), .val (.int (1 : Int32)), .val (.int (1 : Int32)), .val (.ref s_), .val (.int (47 : Int32))]) at_435 rfl rfl ?_
  refine k_iload at_437 rfl rfl ?_
  refine k_ifc (pc1 := 458) (pc' := 442) at_439 (by decide) (by decide) rfl (fun (cd47 : (1 : Int32) = (0 : Int32)) => False.elim (by exact absurd cd47 (by decide))) (fun (cd47 : ¬ (1 : Int32) = (0 : Int32)) => ?_)
  refine k_aload at_442 rfl rfl rfl ?_
  refine k_bipush (z := (42 : Int32)) at_444 rfl (by decide) ?_
  refine k_iload at_446 rfl rfl ?_
  refine k_callStatic (argsL := [(.ref s_), (.int (42 : Int32)), (.int p1)]) (rest := []) (W0 := 0) at_448 rfl (mt_cha l Z a0 hw cs hcs SC hEW sio SIO hsio 42 p1 hp1 s_ t_ (TX1 p0 p1 p2 q) h0 n0 OD SGD (show 42 + 4 < 53 by decide) rfl rfl rfl rfl rfl) (Kp.pure (fun _ _ q => q.2.symm)) (hw _ (List.mem_of_getElem? (i := 370) rfl)) (hw _ (List.mem_of_getElem? (i := 371) rfl)) (hw _ (List.mem_of_getElem? (i := 372) rfl)) (hw _ (List.mem_of_getElem? (i := 373) rfl)) (by decide) pd_cha rfl rfl rfl rfl (by decide) (by decide) (by decide) (by decide) ?_
  rintro _ _ - ⟨rfl, rfl⟩
  refine KW.sub (S' := fun _ => False) (fun x hx => hx.elim) ?_
  show KW true l Z M_law n0 (fun v _ => v = some (.int 1)) (EL, fun _ => False) h0 64 3253 451 #[.val (.int x0), .val (.int x1), .val (.int x2), .val (.int x3), .val (.int x4), .val (.int x5), .val (.int p0), .val (.int p1), .val (.int p2), .val (.int p3), .val (.int sm), .val (.ref P), .val (.ref a), .val (.ref b), .val (.ref c), .val (.int q), .val (.int (1 : Int32)), .val (.int (1 : Int32)), .val (.ref s_), .val (.int (47 : Int32))] [(.int (1 : Int32))]
  refine k_ifc (pc1 := 458) (pc' := 454) at_451 (by decide) (by decide) rfl (fun (cd48 : (1 : Int32) = (0 : Int32)) => False.elim (by exact absurd cd48 (by decide))) (fun (cd48 : ¬ (1 : Int32) = (0 : Int32)) => ?_)
  refine k_iconst (z := (1 : Int32)) at_454 rfl (by decide) ?_
  refine k_goto (pc' := 459) at_455 (by decide) (by decide) ?_
  refine k_istore (Ls' := #[.val (.int x0), .val (.int x1), .val (.int x2), .val (.int x3), .val (.int x4), .val (.int x5), .val (.int p0), .val (.int p1), .val (.int p2), .val (.int p3), .val (.int sm), .val (.ref P), .val (.ref a), .val (.ref b), .val (.ref c), .val (.int q), .val (.int (1 : Int32)), .val (.int (1 : Int32)), .val (.ref s_), .val (.int (47 : Int32))]) at_459 rfl rfl ?_
  refine k_iload at_461 rfl rfl ?_
  refine k_iconst (z := (2 : Int32)) at_463 rfl (by decide) ?_
  refine k_icmp (pc1 := 491) (pc' := 467) at_464 (by decide) (by decide) rfl (fun (cd49 : (1 : Int32) < (2 : Int32)) => ?_) (fun (cd49 : ¬ (1 : Int32) < (2 : Int32)) => False.elim (by exact absurd cd49 (by decide)))
  refine k_iload at_491 rfl rfl ?_
  refine k_iconst (z := (3 : Int32)) at_493 rfl (by decide) ?_
  refine k_icmp (pc1 := 521) (pc' := 497) at_494 (by decide) (by decide) rfl (fun (cd50 : (1 : Int32) < (3 : Int32)) => ?_) (fun (cd50 : ¬ (1 : Int32) < (3 : Int32)) => False.elim (by exact absurd cd50 (by decide)))
  refine k_iload at_521 rfl rfl ?_
  refine k_ifc (pc1 := 612) (pc' := 526) at_523 (by decide) (by decide) rfl (fun (cd51 : (1 : Int32) = (0 : Int32)) => False.elim (by exact absurd cd51 (by decide))) (fun (cd51 : ¬ (1 : Int32) = (0 : Int32)) => ?_)
  refine k_aload at_526 rfl rfl rfl ?_
  refine k_iload at_528 rfl rfl ?_
  refine k_callVirtual (argsL := [(.int (47 : Int32))]) (rest := []) (W0 := 0) at_530 rfl (mt_scN l Z a0 hw cs hcs SC hEW sio SIO hsio 47 10 s_ t_ (TX1 p0 p1 p2 q) h0 n0 OD SGD (show 47 < 53 by decide) rfl) (Kp.pure (fun _ _ q => q.2.symm)) SGD.exa (hw _ (List.mem_of_getElem? (i := 261) rfl)) (hw _ (List.mem_of_getElem? (i := 262) rfl)) (hw _ (List.mem_of_getElem? (i := 264) rfl)) (hw _ (List.mem_of_getElem? (i := 99) rfl)) rfl (hw _ (List.mem_of_getElem? (i := 263) rfl)) (hw _ (List.mem_of_getElem? (i := 265) rfl)) (hw _ (List.mem_of_getElem? (i := 5) rfl)) (by decide) pd_sca rfl rfl rfl rfl (by decide) (by decide) (by decide) (by decide) ?_
  rintro _ _ - ⟨rfl, rfl⟩
  rw [show chB (10 : Int32) = 10 by decide]
  refine KW.sub (S' := fun _ => False) (fun x hx => hx.elim) ?_
  show KW true l Z M_law n0 (fun v _ => v = some (.int 1)) (EL, fun _ => False) h0 64 3253 533 #[.val (.int x0), .val (.int x1), .val (.int x2), .val (.int x3), .val (.int x4), .val (.int x5), .val (.int p0), .val (.int p1), .val (.int p2), .val (.int p3), .val (.int sm), .val (.ref P), .val (.ref a), .val (.ref b), .val (.ref c), .val (.int q), .val (.int (1 : Int32)), .val (.int (1 : Int32)), .val (.ref s_), .val (.int (47 : Int32))] [(.int (10 : Int32))]
  refine k_bipush (z := (10 : Int32)) at_533 rfl (by decide) ?_
  refine k_icmp (pc1 := 612) (pc' := 538) at_535 (by decide) (by decide) rfl (fun (cd52 : ¬ (10 : Int32) = (10 : Int32)) => False.elim (by exact absurd cd52 (by decide))) (fun (cd52 : (10 : Int32) = (10 : Int32)) => ?_)
  refine k_aload at_538 rfl rfl rfl ?_
  refine k_iload at_540 rfl rfl ?_
  refine k_iconst (z := (1 : Int32)) at_542 rfl (by decide) ?_
  refine k_iadd at_543 rfl ?_
  refine KW.top (congrArg Value.int (show ((47 : Int32) + (1 : Int32)) = (48 : Int32) by decide)) ?_
  show KW true l Z M_law n0 (fun v _ => v = some (.int 1)) (EL, fun _ => False) h0 64 3253 544 #[.val (.int x0), .val (.int x1), .val (.int x2), .val (.int x3), .val (.int x4), .val (.int x5), .val (.int p0), .val (.int p1), .val (.int p2), .val (.int p3), .val (.int sm), .val (.ref P), .val (.ref a), .val (.ref b), .val (.ref c), .val (.int q), .val (.int (1 : Int32)), .val (.int (1 : Int32)), .val (.ref s_), .val (.int (47 : Int32))] [(.int (48 : Int32)), (.ref s_)]
  refine k_callVirtual (argsL := [(.int (48 : Int32))]) (rest := []) (W0 := 0) at_544 rfl (mt_scN l Z a0 hw cs hcs SC hEW sio SIO hsio 48 60 s_ t_ (TX1 p0 p1 p2 q) h0 n0 OD SGD (show 48 < 53 by decide) rfl) (Kp.pure (fun _ _ q => q.2.symm)) SGD.exa (hw _ (List.mem_of_getElem? (i := 261) rfl)) (hw _ (List.mem_of_getElem? (i := 262) rfl)) (hw _ (List.mem_of_getElem? (i := 264) rfl)) (hw _ (List.mem_of_getElem? (i := 99) rfl)) rfl (hw _ (List.mem_of_getElem? (i := 263) rfl)) (hw _ (List.mem_of_getElem? (i := 265) rfl)) (hw _ (List.mem_of_getElem? (i := 5) rfl)) (by decide) pd_sca rfl rfl rfl rfl (by decide) (by decide) (by decide) (by decide) ?_
  rintro _ _ - ⟨rfl, rfl⟩
  rw [show chB (60 : Int32) = 60 by decide]
  refine KW.sub (S' := fun _ => False) (fun x hx => hx.elim) ?_
  show KW true l Z M_law n0 (fun v _ => v = some (.int 1)) (EL, fun _ => False) h0 64 3253 547 #[.val (.int x0), .val (.int x1), .val (.int x2), .val (.int x3), .val (.int x4), .val (.int x5), .val (.int p0), .val (.int p1), .val (.int p2), .val (.int p3), .val (.int sm), .val (.ref P), .val (.ref a), .val (.ref b), .val (.ref c), .val (.int q), .val (.int (1 : Int32)), .val (.int (1 : Int32)), .val (.ref s_), .val (.int (47 : Int32))] [(.int (60 : Int32))]
  refine k_bipush (z := (60 : Int32)) at_547 rfl (by decide) ?_
  refine k_icmp (pc1 := 612) (pc' := 552) at_549 (by decide) (by decide) rfl (fun (cd53 : ¬ (60 : Int32) = (60 : Int32)) => False.elim (by exact absurd cd53 (by decide))) (fun (cd53 : (60 : Int32) = (60 : Int32)) => ?_)
  refine k_aload at_552 rfl rfl rfl ?_
  refine k_iload at_554 rfl rfl ?_
  refine k_iconst (z := (2 : Int32)) at_556 rfl (by decide) ?_
  refine k_iadd at_557 rfl ?_
  refine KW.top (congrArg Value.int (show ((47 : Int32) + (2 : Int32)) = (49 : Int32) by decide)) ?_
  show KW true l Z M_law n0 (fun v _ => v = some (.int 1)) (EL, fun _ => False) h0 64 3253 558 #[.val (.int x0), .val (.int x1), .val (.int x2), .val (.int x3), .val (.int x4), .val (.int x5), .val (.int p0), .val (.int p1), .val (.int p2), .val (.int p3), .val (.int sm), .val (.ref P), .val (.ref a), .val (.ref b), .val (.ref c), .val (.int q), .val (.int (1 : Int32)), .val (.int (1 : Int32)), .val (.ref s_), .val (.int (47 : Int32))] [(.int (49 : Int32)), (.ref s_)]
  refine k_callVirtual (argsL := [(.int (49 : Int32))]) (rest := []) (W0 := 0) at_558 rfl (mt_scN l Z a0 hw cs hcs SC hEW sio SIO hsio 49 47 s_ t_ (TX1 p0 p1 p2 q) h0 n0 OD SGD (show 49 < 53 by decide) rfl) (Kp.pure (fun _ _ q => q.2.symm)) SGD.exa (hw _ (List.mem_of_getElem? (i := 261) rfl)) (hw _ (List.mem_of_getElem? (i := 262) rfl)) (hw _ (List.mem_of_getElem? (i := 264) rfl)) (hw _ (List.mem_of_getElem? (i := 99) rfl)) rfl (hw _ (List.mem_of_getElem? (i := 263) rfl)) (hw _ (List.mem_of_getElem? (i := 265) rfl)) (hw _ (List.mem_of_getElem? (i := 5) rfl)) (by decide) pd_sca rfl rfl rfl rfl (by decide) (by decide) (by decide) (by decide) ?_
  rintro _ _ - ⟨rfl, rfl⟩
  rw [show chB (47 : Int32) = 47 by decide]
  refine KW.sub (S' := fun _ => False) (fun x hx => hx.elim) ?_
  show KW true l Z M_law n0 (fun v _ => v = some (.int 1)) (EL, fun _ => False) h0 64 3253 561 #[.val (.int x0), .val (.int x1), .val (.int x2), .val (.int x3), .val (.int x4), .val (.int x5), .val (.int p0), .val (.int p1), .val (.int p2), .val (.int p3), .val (.int sm), .val (.ref P), .val (.ref a), .val (.ref b), .val (.ref c), .val (.int q), .val (.int (1 : Int32)), .val (.int (1 : Int32)), .val (.ref s_), .val (.int (47 : Int32))] [(.int (47 : Int32))]
  refine k_bipush (z := (47 : Int32)) at_561 rfl (by decide) ?_
  refine k_icmp (pc1 := 612) (pc' := 566) at_563 (by decide) (by decide) rfl (fun (cd54 : ¬ (47 : Int32) = (47 : Int32)) => False.elim (by exact absurd cd54 (by decide))) (fun (cd54 : (47 : Int32) = (47 : Int32)) => ?_)
  refine k_aload at_566 rfl rfl rfl ?_
  refine k_iload at_568 rfl rfl ?_
  refine k_iconst (z := (3 : Int32)) at_570 rfl (by decide) ?_
  refine k_iadd at_571 rfl ?_
  refine KW.top (congrArg Value.int (show ((47 : Int32) + (3 : Int32)) = (50 : Int32) by decide)) ?_
  show KW true l Z M_law n0 (fun v _ => v = some (.int 1)) (EL, fun _ => False) h0 64 3253 572 #[.val (.int x0), .val (.int x1), .val (.int x2), .val (.int x3), .val (.int x4), .val (.int x5), .val (.int p0), .val (.int p1), .val (.int p2), .val (.int p3), .val (.int sm), .val (.ref P), .val (.ref a), .val (.ref b), .val (.ref c), .val (.int q), .val (.int (1 : Int32)), .val (.int (1 : Int32)), .val (.ref s_), .val (.int (47 : Int32))] [(.int (50 : Int32)), (.ref s_)]
  refine k_callVirtual (argsL := [(.int (50 : Int32))]) (rest := []) (W0 := 0) at_572 rfl (mt_scN l Z a0 hw cs hcs SC hEW sio SIO hsio 50 (nbI p0) s_ t_ (TX1 p0 p1 p2 q) h0 n0 OD SGD (show 50 < 53 by decide) rfl) (Kp.pure (fun _ _ q => q.2.symm)) SGD.exa (hw _ (List.mem_of_getElem? (i := 261) rfl)) (hw _ (List.mem_of_getElem? (i := 262) rfl)) (hw _ (List.mem_of_getElem? (i := 264) rfl)) (hw _ (List.mem_of_getElem? (i := 99) rfl)) rfl (hw _ (List.mem_of_getElem? (i := 263) rfl)) (hw _ (List.mem_of_getElem? (i := 265) rfl)) (hw _ (List.mem_of_getElem? (i := 5) rfl)) (by decide) pd_sca rfl rfl rfl rfl (by decide) (by decide) (by decide) (by decide) ?_
  rintro _ _ - ⟨rfl, rfl⟩
  rw [chB_nbI hp0]
  refine KW.sub (S' := fun _ => False) (fun x hx => hx.elim) ?_
  show KW true l Z M_law n0 (fun v _ => v = some (.int 1)) (EL, fun _ => False) h0 64 3253 575 #[.val (.int x0), .val (.int x1), .val (.int x2), .val (.int x3), .val (.int x4), .val (.int x5), .val (.int p0), .val (.int p1), .val (.int p2), .val (.int p3), .val (.int sm), .val (.ref P), .val (.ref a), .val (.ref b), .val (.ref c), .val (.int q), .val (.int (1 : Int32)), .val (.int (1 : Int32)), .val (.ref s_), .val (.int (47 : Int32))] [(.int p0)]
  refine k_iload at_575 rfl rfl ?_
  refine k_icmp (pc1 := 612) (pc' := 580) at_577 (by decide) (by decide) rfl (fun (cd55 : ¬ p0 = p0) => False.elim (by exact cd55 rfl)) (fun (cd55 : p0 = p0) => ?_)
  refine k_aload at_580 rfl rfl rfl ?_
  refine k_iload at_582 rfl rfl ?_
  refine k_iconst (z := (4 : Int32)) at_584 rfl (by decide) ?_
  refine k_iadd at_585 rfl ?_
  refine KW.top (congrArg Value.int (show ((47 : Int32) + (4 : Int32)) = (51 : Int32) by decide)) ?_
  show KW true l Z M_law n0 (fun v _ => v = some (.int 1)) (EL, fun _ => False) h0 64 3253 586 #[.val (.int x0), .val (.int x1), .val (.int x2), .val (.int x3), .val (.int x4), .val (.int x5), .val (.int p0), .val (.int p1), .val (.int p2), .val (.int p3), .val (.int sm), .val (.ref P), .val (.ref a), .val (.ref b), .val (.ref c), .val (.int q), .val (.int (1 : Int32)), .val (.int (1 : Int32)), .val (.ref s_), .val (.int (47 : Int32))] [(.int (51 : Int32)), (.ref s_)]
  refine k_callVirtual (argsL := [(.int (51 : Int32))]) (rest := []) (W0 := 0) at_586 rfl (mt_scN l Z a0 hw cs hcs SC hEW sio SIO hsio 51 62 s_ t_ (TX1 p0 p1 p2 q) h0 n0 OD SGD (show 51 < 53 by decide) rfl) (Kp.pure (fun _ _ q => q.2.symm)) SGD.exa (hw _ (List.mem_of_getElem? (i := 261) rfl)) (hw _ (List.mem_of_getElem? (i := 262) rfl)) (hw _ (List.mem_of_getElem? (i := 264) rfl)) (hw _ (List.mem_of_getElem? (i := 99) rfl)) rfl (hw _ (List.mem_of_getElem? (i := 263) rfl)) (hw _ (List.mem_of_getElem? (i := 265) rfl)) (hw _ (List.mem_of_getElem? (i := 5) rfl)) (by decide) pd_sca rfl rfl rfl rfl (by decide) (by decide) (by decide) (by decide) ?_
  rintro _ _ - ⟨rfl, rfl⟩
  rw [show chB (62 : Int32) = 62 by decide]
  refine KW.sub (S' := fun _ => False) (fun x hx => hx.elim) ?_
  show KW true l Z M_law n0 (fun v _ => v = some (.int 1)) (EL, fun _ => False) h0 64 3253 589 #[.val (.int x0), .val (.int x1), .val (.int x2), .val (.int x3), .val (.int x4), .val (.int x5), .val (.int p0), .val (.int p1), .val (.int p2), .val (.int p3), .val (.int sm), .val (.ref P), .val (.ref a), .val (.ref b), .val (.ref c), .val (.int q), .val (.int (1 : Int32)), .val (.int (1 : Int32)), .val (.ref s_), .val (.int (47 : Int32))] [(.int (62 : Int32))]
  refine k_bipush (z := (62 : Int32)) at_589 rfl (by decide) ?_
  refine k_icmp (pc1 := 612) (pc' := 594) at_591 (by decide) (by decide) rfl (fun (cd56 : ¬ (62 : Int32) = (62 : Int32)) => False.elim (by exact absurd cd56 (by decide))) (fun (cd56 : (62 : Int32) = (62 : Int32)) => ?_)
  refine k_aload at_594 rfl rfl rfl ?_
  refine k_iload at_596 rfl rfl ?_
  refine k_iconst (z := (5 : Int32)) at_598 rfl (by decide) ?_
  refine k_iadd at_599 rfl ?_
  refine KW.top (congrArg Value.int (show ((47 : Int32) + (5 : Int32)) = (52 : Int32) by decide)) ?_
  show KW true l Z M_law n0 (fun v _ => v = some (.int 1)) (EL, fun _ => False) h0 64 3253 600 #[.val (.int x0), .val (.int x1), .val (.int x2), .val (.int x3), .val (.int x4), .val (.int x5), .val (.int p0), .val (.int p1), .val (.int p2), .val (.int p3), .val (.int sm), .val (.ref P), .val (.ref a), .val (.ref b), .val (.ref c), .val (.int q), .val (.int (1 : Int32)), .val (.int (1 : Int32)), .val (.ref s_), .val (.int (47 : Int32))] [(.int (52 : Int32)), (.ref s_)]
  refine k_callVirtual (argsL := [(.int (52 : Int32))]) (rest := []) (W0 := 0) at_600 rfl (mt_scN l Z a0 hw cs hcs SC hEW sio SIO hsio 52 10 s_ t_ (TX1 p0 p1 p2 q) h0 n0 OD SGD (show 52 < 53 by decide) rfl) (Kp.pure (fun _ _ q => q.2.symm)) SGD.exa (hw _ (List.mem_of_getElem? (i := 261) rfl)) (hw _ (List.mem_of_getElem? (i := 262) rfl)) (hw _ (List.mem_of_getElem? (i := 264) rfl)) (hw _ (List.mem_of_getElem? (i := 99) rfl)) rfl (hw _ (List.mem_of_getElem? (i := 263) rfl)) (hw _ (List.mem_of_getElem? (i := 265) rfl)) (hw _ (List.mem_of_getElem? (i := 5) rfl)) (by decide) pd_sca rfl rfl rfl rfl (by decide) (by decide) (by decide) (by decide) ?_
  rintro _ _ - ⟨rfl, rfl⟩
  rw [show chB (10 : Int32) = 10 by decide]
  refine KW.sub (S' := fun _ => False) (fun x hx => hx.elim) ?_
  show KW true l Z M_law n0 (fun v _ => v = some (.int 1)) (EL, fun _ => False) h0 64 3253 603 #[.val (.int x0), .val (.int x1), .val (.int x2), .val (.int x3), .val (.int x4), .val (.int x5), .val (.int p0), .val (.int p1), .val (.int p2), .val (.int p3), .val (.int sm), .val (.ref P), .val (.ref a), .val (.ref b), .val (.ref c), .val (.int q), .val (.int (1 : Int32)), .val (.int (1 : Int32)), .val (.ref s_), .val (.int (47 : Int32))] [(.int (10 : Int32))]
  refine k_bipush (z := (10 : Int32)) at_603 rfl (by decide) ?_
  refine k_icmp (pc1 := 612) (pc' := 608) at_605 (by decide) (by decide) rfl (fun (cd57 : ¬ (10 : Int32) = (10 : Int32)) => False.elim (by exact absurd cd57 (by decide))) (fun (cd57 : (10 : Int32) = (10 : Int32)) => ?_)
  refine k_iconst (z := (1 : Int32)) at_608 rfl (by decide) ?_
  refine k_goto (pc' := 613) at_609 (by decide) (by decide) ?_
  exact k_retNar at_613 rfl (by simp) (z' := (1 : Int32)) (by decide) (by decide) (by decide) rfl
def TX2 (p0 p1 p2 q : Int32) : List Int32 := [60, 63, 120, 109, 108, 32, 118, 101, 114, 115, 105, 111, 110, 61, 34, 49, 46, 48, 34, 32, 101, 110, 99, 111, 100, 105, 110, 103, 61, 34, 117, 116, 102, 45, 56, 34, 63, 62, 10, 60, (nbI p0), 62, 10, 60, (nbI p1), 47, 62, 10, 60, (nbI p2), 47, 62, 10, 60, 47, (nbI p0), 62, 10]
set_option maxRecDepth 65536 in
set_option maxHeartbeats 40000000 in
theorem kw_t2 (l : Launch) (Z : State) (a0 : Array Value) (hw : ∀ d ∈ tables_1, d.before a0 Z = true) (cs : Int32) (hcs : ¬ cs = 0) (SC : Sta Z Z.heap "java/lang/String" "COMPACT_STRINGS" "Z" (.int cs)) (hEW : EW Z a0 EL) (x0 x1 x2 x3 x4 x5 p0 p1 p2 p3 q sm : Int32) (P a b c s_ t_ : Addr) (h0 : Heap) (n0 : Nat) (OD : Old Z n0 h0) (SGD : Sg Z h0 s_ t_ (TX2 p0 p1 p2 q)) (hp0 : Ch p0) (hp1 : Ch p1) (hp2 : Ch p2) (hp3 : Ch p3) (hq : Ch q) (sio : Value) (SIO : Sta Z Z.heap "jdk/internal/util/Preconditions" "SIOOBE_FORMATTER" "Ljava/util/function/BiFunction;" sio) (hsio : sio.isRef = true) : KW true l Z M_law n0 (fun v _ => v = some (.int 1)) (EL, fun _ => False) h0 65 3263 230 #[.val (.int x0), .val (.int x1), .val (.int x2), .val (.int x3), .val (.int x4), .val (.int x5), .val (.int p0), .val (.int p1), .val (.int p2), .val (.int p3), .val (.int sm), .val (.ref P), .val (.ref a), .val (.ref b), .val (.ref c), .val (.int q), .val (.int (2 : Int32)), .val (.int (1 : Int32)), .unset, .unset] [(.ref s_)] := by
  refine k_astore (Ls' := #[.val (.int x0), .val (.int x1), .val (.int x2), .val (.int x3), .val (.int x4), .val (.int x5), .val (.int p0), .val (.int p1), .val (.int p2), .val (.int p3), .val (.int sm), .val (.ref P), .val (.ref a), .val (.ref b), .val (.ref c), .val (.int q), .val (.int (2 : Int32)), .val (.int (1 : Int32)), .val (.ref s_), .unset]) at_230 rfl rfl rfl ?_
  refine k_aload at_232 rfl rfl rfl ?_
  refine k_callVirtual (argsL := []) (rest := []) (W0 := 0) at_234 rfl (mt_len l Z a0 hw cs hcs SC hEW s_ t_ (TX2 p0 p1 p2 q) h0 n0 OD SGD) (Kp.pure (fun _ _ q => q.2.symm)) SGD.exa (hw _ (List.mem_of_getElem? (i := 260) rfl)) (hw _ (List.mem_of_getElem? (i := 97) rfl)) (hw _ (List.mem_of_getElem? (i := 99) rfl)) (hw _ (List.mem_of_getElem? (i := 99) rfl)) rfl (hw _ (List.mem_of_getElem? (i := 98) rfl)) (hw _ (List.mem_of_getElem? (i := 100) rfl)) (hw _ (List.mem_of_getElem? (i := 5) rfl)) (by decide) pd_len rfl rfl rfl rfl (by decide) (by decide) (by decide) (by decide) ?_
  rintro _ _ - ⟨rfl, rfl⟩
  refine KW.top (congrArg Value.int (rfl : Int32.ofNat (TX2 p0 p1 p2 q).length = (58 : Int32))) ?_
  refine KW.sub (S' := fun _ => False) (fun x hx => hx.elim) ?_
  show KW true l Z M_law n0 (fun v _ => v = some (.int 1)) (EL, fun _ => False) h0 65 3263 237 #[.val (.int x0), .val (.int x1), .val (.int x2), .val (.int x3), .val (.int x4), .val (.int x5), .val (.int p0), .val (.int p1), .val (.int p2), .val (.int p3), .val (.int sm), .val (.ref P), .val (.ref a), .val (.ref b), .val (.ref c), .val (.int q), .val (.int (2 : Int32)), .val (.int (1 : Int32)), .val (.ref s_), .unset] [(.int (58 : Int32))]
  refine k_bipush (z := (44 : Int32)) at_237 rfl (by decide) ?_
  refine k_icmp (pc1 := 244) (pc' := 242) at_239 (by decide) (by decide) rfl (fun (cd58 : ¬ (58 : Int32) < (44 : Int32)) => ?_) (fun (cd58 : (58 : Int32) < (44 : Int32)) => False.elim (by exact absurd cd58 (by decide)))
  refine k_iload at_244 rfl rfl ?_
  refine k_ifc (pc1 := 276) (pc' := 249) at_246 (by decide) (by decide) rfl (fun (cd59 : (1 : Int32) = (0 : Int32)) => False.elim (by exact absurd cd59 (by decide))) (fun (cd59 : ¬ (1 : Int32) = (0 : Int32)) => ?_)
  refine k_aload at_249 rfl rfl rfl ?_
  refine k_iconst (z := (0 : Int32)) at_251 rfl (by decide) ?_
  refine k_callVirtual (argsL := [(.int (0 : Int32))]) (rest := []) (W0 := 0) at_252 rfl (mt_scN l Z a0 hw cs hcs SC hEW sio SIO hsio 0 60 s_ t_ (TX2 p0 p1 p2 q) h0 n0 OD SGD (show 0 < 58 by decide) rfl) (Kp.pure (fun _ _ q => q.2.symm)) SGD.exa (hw _ (List.mem_of_getElem? (i := 261) rfl)) (hw _ (List.mem_of_getElem? (i := 262) rfl)) (hw _ (List.mem_of_getElem? (i := 264) rfl)) (hw _ (List.mem_of_getElem? (i := 99) rfl)) rfl (hw _ (List.mem_of_getElem? (i := 263) rfl)) (hw _ (List.mem_of_getElem? (i := 265) rfl)) (hw _ (List.mem_of_getElem? (i := 5) rfl)) (by decide) pd_sca rfl rfl rfl rfl (by decide) (by decide) (by decide) (by decide) ?_
  rintro _ _ - ⟨rfl, rfl⟩
  rw [show chB (60 : Int32) = 60 by decide]
  refine KW.sub (S' := fun _ => False) (fun x hx => hx.elim) ?_
  show KW true l Z M_law n0 (fun v _ => v = some (.int 1)) (EL, fun _ => False) h0 65 3263 255 #[.val (.int x0), .val (.int x1), .val (.int x2), .val (.int x3), .val (.int x4), .val (.int x5), .val (.int p0), .val (.int p1), .val (.int p2), .val (.int p3), .val (.int sm), .val (.ref P), .val (.ref a), .val (.ref b), .val (.ref c), .val (.int q), .val (.int (2 : Int32)), .val (.int (1 : Int32)), .val (.ref s_), .unset] [(.int (60 : Int32))]
  refine k_bipush (z := (60 : Int32)) at_255 rfl (by decide) ?_
  refine k_icmp (pc1 := 276) (pc' := 260) at_257 (by decide) (by decide) rfl (fun (cd60 : ¬ (60 : Int32) = (60 : Int32)) => False.elim (by exact absurd cd60 (by decide))) (fun (cd60 : (60 : Int32) = (60 : Int32)) => ?_)
  refine k_aload at_260 rfl rfl rfl ?_
  refine k_bipush (z := (38 : Int32)) at_262 rfl (by decide) ?_
  refine k_callVirtual (argsL := [(.int (38 : Int32))]) (rest := []) (W0 := 0) at_264 rfl (mt_scN l Z a0 hw cs hcs SC hEW sio SIO hsio 38 10 s_ t_ (TX2 p0 p1 p2 q) h0 n0 OD SGD (show 38 < 58 by decide) rfl) (Kp.pure (fun _ _ q => q.2.symm)) SGD.exa (hw _ (List.mem_of_getElem? (i := 261) rfl)) (hw _ (List.mem_of_getElem? (i := 262) rfl)) (hw _ (List.mem_of_getElem? (i := 264) rfl)) (hw _ (List.mem_of_getElem? (i := 99) rfl)) rfl (hw _ (List.mem_of_getElem? (i := 263) rfl)) (hw _ (List.mem_of_getElem? (i := 265) rfl)) (hw _ (List.mem_of_getElem? (i := 5) rfl)) (by decide) pd_sca rfl rfl rfl rfl (by decide) (by decide) (by decide) (by decide) ?_
  rintro _ _ - ⟨rfl, rfl⟩
  rw [show chB (10 : Int32) = 10 by decide]
  refine KW.sub (S' := fun _ => False) (fun x hx => hx.elim) ?_
  show KW true l Z M_law n0 (fun v _ => v = some (.int 1)) (EL, fun _ => False) h0 65 3263 267 #[.val (.int x0), .val (.int x1), .val (.int x2), .val (.int x3), .val (.int x4), .val (.int x5), .val (.int p0), .val (.int p1), .val (.int p2), .val (.int p3), .val (.int sm), .val (.ref P), .val (.ref a), .val (.ref b), .val (.ref c), .val (.int q), .val (.int (2 : Int32)), .val (.int (1 : Int32)), .val (.ref s_), .unset] [(.int (10 : Int32))]
  refine k_bipush (z := (10 : Int32)) at_267 rfl (by decide) ?_
  refine k_icmp (pc1 := 276) (pc' := 272) at_269 (by decide) (by decide) rfl (fun (cd61 : ¬ (10 : Int32) = (10 : Int32)) => False.elim (by exact absurd cd61 (by decide))) (fun (cd61 : (10 : Int32) = (10 : Int32)) => ?_)
  refine k_iconst (z := (1 : Int32)) at_272 rfl (by decide) ?_
  refine k_goto (pc' := 277) at_273 (by decide) (by decide) ?_
  refine k_istore (Ls' := #[.val (.int x0), .val (.int x1), .val (.int x2), .val (.int x3), .val (.int x4), .val (.int x5), .val (.int p0), .val (.int p1), .val (.int p2), .val (.int p3), .val (.int sm), .val (.ref P), .val (.ref a), .val (.ref b), .val (.ref c), .val (.int q), .val (.int (2 : Int32)), .val (.int (1 : Int32)), .val (.ref s_), .unset]) at_277 rfl rfl ?_
  refine k_iload at_279 rfl rfl ?_
  refine k_ifc (pc1 := 365) (pc' := 284) at_281 (by decide) (by decide) rfl (fun (cd62 : ¬ (2 : Int32) = (0 : Int32)) => ?_) (fun (cd62 : (2 : Int32) = (0 : Int32)) => False.elim (by exact absurd cd62 (by decide)))
  refine k_bipush (z := (42 : Int32)) at_365 rfl (by decide) ?_
  refine k_iconst (z := (5 : Int32)) at_367 rfl (by decide) ?_
  refine k_iload at_368 rfl rfl ?_
  refine k_imul at_370 rfl ?_
  refine k_iadd at_371 rfl ?_
  refine KW.top (congrArg Value.int (show ((42 : Int32) + ((5 : Int32) * (2 : Int32))) = (52 : Int32) by decide)) ?_
  show KW true l Z M_law n0 (fun v _ => v = some (.int 1)) (EL, fun _ => False) h0 65 3263 372 #[.val (.int x0), .val (.int x1), .val (.int x2), .val (.int x3), .val (.int x4), .val (.int x5), .val (.int p0), .val (.int p1), .val (.int p2), .val (.int p3), .val (.int sm), .val (.ref P), .val (.ref a), .val (.ref b), .val (.ref c), .val (.int q), .val (.int (2 : Int32)), .val (.int (1 : Int32)), .val (.ref s_), .unset] [(.int (52 : Int32))]
  refine k_istore (Ls' := #[.val (.int x0), .val (.int x1), .val (.int x2), .val (.int x3), .val (.int x4), .val (.int x5), .val (.int p0), .val (.int p1), .val (.int p2), .val (.int p3), .val (.int sm), .val (.ref P), .val (.ref a), .val (.ref b), .val (.ref c), .val (.int q), .val (.int (2 : Int32)), .val (.int (1 : Int32)), .val (.ref s_), .val (.int (52 : Int32))]) at_372 rfl rfl ?_
  refine k_aload at_374 rfl rfl rfl ?_
  refine k_callVirtual (argsL := []) (rest := []) (W0 := 0) at_376 rfl (mt_len l Z a0 hw cs hcs SC hEW s_ t_ (TX2 p0 p1 p2 q) h0 n0 OD SGD) (Kp.pure (fun _ _ q => q.2.symm)) SGD.exa (hw _ (List.mem_of_getElem? (i := 260) rfl)) (hw _ (List.mem_of_getElem? (i := 97) rfl)) (hw _ (List.mem_of_getElem? (i := 99) rfl)) (hw _ (List.mem_of_getElem? (i := 99) rfl)) rfl (hw _ (List.mem_of_getElem? (i := 98) rfl)) (hw _ (List.mem_of_getElem? (i := 100) rfl)) (hw _ (List.mem_of_getElem? (i := 5) rfl)) (by decide) pd_len rfl rfl rfl rfl (by decide) (by decide) (by decide) (by decide) ?_
  rintro _ _ - ⟨rfl, rfl⟩
  refine KW.top (congrArg Value.int (rfl : Int32.ofNat (TX2 p0 p1 p2 q).length = (58 : Int32))) ?_
  refine KW.sub (S' := fun _ => False) (fun x hx => hx.elim) ?_
  show KW true l Z M_law n0 (fun v _ => v = some (.int 1)) (EL, fun _ => False) h0 65 3263 379 #[.val (.int x0), .val (.int x1), .val (.int x2), .val (.int x3), .val (.int x4), .val (.int x5), .val (.int p0), .val (.int p1), .val (.int p2), .val (.int p3), .val (.int sm), .val (.ref P), .val (.ref a), .val (.ref b), .val (.ref c), .val (.int q), .val (.int (2 : Int32)), .val (.int (1 : Int32)), .val (.ref s_), .val (.int (52 : Int32))] [(.int (58 : Int32))]
  refine k_iload at_379 rfl rfl ?_
  refine k_bipush (z := (6 : Int32)) at_381 rfl (by decide) ?_
  refine k_iadd at_383 rfl ?_
  refine KW.top (congrArg Value.int (show ((52 : Int32) + (6 : Int32)) = (58 : Int32) by decide)) ?_
  show KW true l Z M_law n0 (fun v _ => v = some (.int 1)) (EL, fun _ => False) h0 65 3263 384 #[.val (.int x0), .val (.int x1), .val (.int x2), .val (.int x3), .val (.int x4), .val (.int x5), .val (.int p0), .val (.int p1), .val (.int p2), .val (.int p3), .val (.int sm), .val (.ref P), .val (.ref a), .val (.ref b), .val (.ref c), .val (.int q), .val (.int (2 : Int32)), .val (.int (1 : Int32)), .val (.ref s_), .val (.int (52 : Int32))] [(.int (58 : Int32)), (.int (58 : Int32))]
  refine k_icmp (pc1 := 389) (pc' := 387) at_384 (by decide) (by decide) rfl (fun (cd63 : (58 : Int32) = (58 : Int32)) => ?_) (fun (cd63 : ¬ (58 : Int32) = (58 : Int32)) => False.elim (by exact absurd cd63 (by decide)))
  refine k_iload at_389 rfl rfl ?_
  refine k_ifc (pc1 := 434) (pc' := 394) at_391 (by decide) (by decide) rfl (fun (cd64 : (1 : Int32) = (0 : Int32)) => False.elim (by exact absurd cd64 (by decide))) (fun (cd64 : ¬ (1 : Int32) = (0 : Int32)) => ?_)
  refine k_aload at_394 rfl rfl rfl ?_
  refine k_bipush (z := (39 : Int32)) at_396 rfl (by decide) ?_
  refine k_callVirtual (argsL := [(.int (39 : Int32))]) (rest := []) (W0 := 0) at_398 rfl (mt_scN l Z a0 hw cs hcs SC hEW sio SIO hsio 39 60 s_ t_ (TX2 p0 p1 p2 q) h0 n0 OD SGD (show 39 < 58 by decide) rfl) (Kp.pure (fun _ _ q => q.2.symm)) SGD.exa (hw _ (List.mem_of_getElem? (i := 261) rfl)) (hw _ (List.mem_of_getElem? (i := 262) rfl)) (hw _ (List.mem_of_getElem? (i := 264) rfl)) (hw _ (List.mem_of_getElem? (i := 99) rfl)) rfl (hw _ (List.mem_of_getElem? (i := 263) rfl)) (hw _ (List.mem_of_getElem? (i := 265) rfl)) (hw _ (List.mem_of_getElem? (i := 5) rfl)) (by decide) pd_sca rfl rfl rfl rfl (by decide) (by decide) (by decide) (by decide) ?_
  rintro _ _ - ⟨rfl, rfl⟩
  rw [show chB (60 : Int32) = 60 by decide]
  refine KW.sub (S' := fun _ => False) (fun x hx => hx.elim) ?_
  show KW true l Z M_law n0 (fun v _ => v = some (.int 1)) (EL, fun _ => False) h0 65 3263 401 #[.val (.int x0), .val (.int x1), .val (.int x2), .val (.int x3), .val (.int x4), .val (.int x5), .val (.int p0), .val (.int p1), .val (.int p2), .val (.int p3), .val (.int sm), .val (.ref P), .val (.ref a), .val (.ref b), .val (.ref c), .val (.int q), .val (.int (2 : Int32)), .val (.int (1 : Int32)), .val (.ref s_), .val (.int (52 : Int32))] [(.int (60 : Int32))]
  refine k_bipush (z := (60 : Int32)) at_401 rfl (by decide) ?_
  refine k_icmp (pc1 := 434) (pc' := 406) at_403 (by decide) (by decide) rfl (fun (cd65 : ¬ (60 : Int32) = (60 : Int32)) => False.elim (by exact absurd cd65 (by decide))) (fun (cd65 : (60 : Int32) = (60 : Int32)) => ?_)
  refine k_aload at_406 rfl rfl rfl ?_
  refine k_bipush (z := (40 : Int32)) at_408 rfl (by decide) ?_
  refine k_callVirtual (argsL := [(.int (40 : Int32))]) (rest := []) (W0 := 0) at_410 rfl (mt_scN l Z a0 hw cs hcs SC hEW sio SIO hsio 40 (nbI p0) s_ t_ (TX2 p0 p1 p2 q) h0 n0 OD SGD (show 40 < 58 by decide) rfl) (Kp.pure (fun _ _ q => q.2.symm)) SGD.exa (hw _ (List.mem_of_getElem? (i := 261) rfl)) (hw _ (List.mem_of_getElem? (i := 262) rfl)) (hw _ (List.mem_of_getElem? (i := 264) rfl)) (hw _ (List.mem_of_getElem? (i := 99) rfl)) rfl (hw _ (List.mem_of_getElem? (i := 263) rfl)) (hw _ (List.mem_of_getElem? (i := 265) rfl)) (hw _ (List.mem_of_getElem? (i := 5) rfl)) (by decide) pd_sca rfl rfl rfl rfl (by decide) (by decide) (by decide) (by decide) ?_
  rintro _ _ - ⟨rfl, rfl⟩
  rw [chB_nbI hp0]
  refine KW.sub (S' := fun _ => False) (fun x hx => hx.elim) ?_
  show KW true l Z M_law n0 (fun v _ => v = some (.int 1)) (EL, fun _ => False) h0 65 3263 413 #[.val (.int x0), .val (.int x1), .val (.int x2), .val (.int x3), .val (.int x4), .val (.int x5), .val (.int p0), .val (.int p1), .val (.int p2), .val (.int p3), .val (.int sm), .val (.ref P), .val (.ref a), .val (.ref b), .val (.ref c), .val (.int q), .val (.int (2 : Int32)), .val (.int (1 : Int32)), .val (.ref s_), .val (.int (52 : Int32))] [(.int p0)]
  refine k_iload at_413 rfl rfl ?_
  refine k_icmp (pc1 := 434) (pc' := 418) at_415 (by decide) (by decide) rfl (fun (cd66 : ¬ p0 = p0) => False.elim (by exact cd66 rfl)) (fun (cd66 : p0 = p0) => ?_)
  refine k_aload at_418 rfl rfl rfl ?_
  refine k_bipush (z := (41 : Int32)) at_420 rfl (by decide) ?_
  refine k_callVirtual (argsL := [(.int (41 : Int32))]) (rest := []) (W0 := 0) at_422 rfl (mt_scN l Z a0 hw cs hcs SC hEW sio SIO hsio 41 62 s_ t_ (TX2 p0 p1 p2 q) h0 n0 OD SGD (show 41 < 58 by decide) rfl) (Kp.pure (fun _ _ q => q.2.symm)) SGD.exa (hw _ (List.mem_of_getElem? (i := 261) rfl)) (hw _ (List.mem_of_getElem? (i := 262) rfl)) (hw _ (List.mem_of_getElem? (i := 264) rfl)) (hw _ (List.mem_of_getElem? (i := 99) rfl)) rfl (hw _ (List.mem_of_getElem? (i := 263) rfl)) (hw _ (List.mem_of_getElem? (i := 265) rfl)) (hw _ (List.mem_of_getElem? (i := 5) rfl)) (by decide) pd_sca rfl rfl rfl rfl (by decide) (by decide) (by decide) (by decide) ?_
  rintro _ _ - ⟨rfl, rfl⟩
  rw [show chB (62 : Int32) = 62 by decide]
  refine KW.sub (S' := fun _ => False) (fun x hx => hx.elim) ?_
  show KW true l Z M_law n0 (fun v _ => v = some (.int 1)) (EL, fun _ => False) h0 65 3263 425 #[.val (.int x0), .val (.int x1), .val (.int x2), .val (.int x3), .val (.int x4), .val (.int x5), .val (.int p0), .val (.int p1), .val (.int p2), .val (.int p3), .val (.int sm), .val (.ref P), .val (.ref a), .val (.ref b), .val (.ref c), .val (.int q), .val (.int (2 : Int32)), .val (.int (1 : Int32)), .val (.ref s_), .val (.int (52 : Int32))] [(.int (62 : Int32))]
  refine k_bipush (z := (62 : Int32)) at_425 rfl (by decide) ?_
  refine k_icmp (pc1 := 434) (pc' := 430) at_427 (by decide) (by decide) rfl (fun (cd67 : ¬ (62 : Int32) = (62 : Int32)) => False.elim (by exact absurd cd67 (by decide))) (fun (cd67 : (62 : Int32) = (62 : Int32)) => ?_)
  refine k_iconst (z := (1 : Int32)) at_430 rfl (by decide) ?_
  refine k_goto (pc' := 435) at_431 (by decide) (by decide) ?_
  refine k_istore (Ls' := #[.val (.int x0), .val (.int x1), .val (.int x2), .val (.int x3), .val (.int x4), .val (.int x5), .val (.int p0), .val (.int p1), .val (.int p2), .val (.int p3), .val (.int sm), .val (.ref P), .val (.ref a), .val (.ref b), .val (.ref c), .val (.int q), .val (.int (2 : Int32)), .val (.int (1 : Int32)), .val (.ref s_), .val (.int (52 : Int32))]) at_435 rfl rfl ?_
  refine k_iload at_437 rfl rfl ?_
  refine k_ifc (pc1 := 458) (pc' := 442) at_439 (by decide) (by decide) rfl (fun (cd68 : (1 : Int32) = (0 : Int32)) => False.elim (by exact absurd cd68 (by decide))) (fun (cd68 : ¬ (1 : Int32) = (0 : Int32)) => ?_)
  refine k_aload at_442 rfl rfl rfl ?_
  refine k_bipush (z := (42 : Int32)) at_444 rfl (by decide) ?_
  refine k_iload at_446 rfl rfl ?_
  refine k_callStatic (argsL := [(.ref s_), (.int (42 : Int32)), (.int p1)]) (rest := []) (W0 := 0) at_448 rfl (mt_cha l Z a0 hw cs hcs SC hEW sio SIO hsio 42 p1 hp1 s_ t_ (TX2 p0 p1 p2 q) h0 n0 OD SGD (show 42 + 4 < 58 by decide) rfl rfl rfl rfl rfl) (Kp.pure (fun _ _ q => q.2.symm)) (hw _ (List.mem_of_getElem? (i := 370) rfl)) (hw _ (List.mem_of_getElem? (i := 371) rfl)) (hw _ (List.mem_of_getElem? (i := 372) rfl)) (hw _ (List.mem_of_getElem? (i := 373) rfl)) (by decide) pd_cha rfl rfl rfl rfl (by decide) (by decide) (by decide) (by decide) ?_
  rintro _ _ - ⟨rfl, rfl⟩
  refine KW.sub (S' := fun _ => False) (fun x hx => hx.elim) ?_
  show KW true l Z M_law n0 (fun v _ => v = some (.int 1)) (EL, fun _ => False) h0 65 3263 451 #[.val (.int x0), .val (.int x1), .val (.int x2), .val (.int x3), .val (.int x4), .val (.int x5), .val (.int p0), .val (.int p1), .val (.int p2), .val (.int p3), .val (.int sm), .val (.ref P), .val (.ref a), .val (.ref b), .val (.ref c), .val (.int q), .val (.int (2 : Int32)), .val (.int (1 : Int32)), .val (.ref s_), .val (.int (52 : Int32))] [(.int (1 : Int32))]
  refine k_ifc (pc1 := 458) (pc' := 454) at_451 (by decide) (by decide) rfl (fun (cd69 : (1 : Int32) = (0 : Int32)) => False.elim (by exact absurd cd69 (by decide))) (fun (cd69 : ¬ (1 : Int32) = (0 : Int32)) => ?_)
  refine k_iconst (z := (1 : Int32)) at_454 rfl (by decide) ?_
  refine k_goto (pc' := 459) at_455 (by decide) (by decide) ?_
  refine k_istore (Ls' := #[.val (.int x0), .val (.int x1), .val (.int x2), .val (.int x3), .val (.int x4), .val (.int x5), .val (.int p0), .val (.int p1), .val (.int p2), .val (.int p3), .val (.int sm), .val (.ref P), .val (.ref a), .val (.ref b), .val (.ref c), .val (.int q), .val (.int (2 : Int32)), .val (.int (1 : Int32)), .val (.ref s_), .val (.int (52 : Int32))]) at_459 rfl rfl ?_
  refine k_iload at_461 rfl rfl ?_
  refine k_iconst (z := (2 : Int32)) at_463 rfl (by decide) ?_
  refine k_icmp (pc1 := 491) (pc' := 467) at_464 (by decide) (by decide) rfl (fun (cd70 : (2 : Int32) < (2 : Int32)) => False.elim (by exact absurd cd70 (by decide))) (fun (cd70 : ¬ (2 : Int32) < (2 : Int32)) => ?_)
  refine k_iload at_467 rfl rfl ?_
  refine k_ifc (pc1 := 488) (pc' := 472) at_469 (by decide) (by decide) rfl (fun (cd71 : (1 : Int32) = (0 : Int32)) => False.elim (by exact absurd cd71 (by decide))) (fun (cd71 : ¬ (1 : Int32) = (0 : Int32)) => ?_)
  refine k_aload at_472 rfl rfl rfl ?_
  refine k_bipush (z := (47 : Int32)) at_474 rfl (by decide) ?_
  refine k_iload at_476 rfl rfl ?_
  refine k_callStatic (argsL := [(.ref s_), (.int (47 : Int32)), (.int p2)]) (rest := []) (W0 := 0) at_478 rfl (mt_cha l Z a0 hw cs hcs SC hEW sio SIO hsio 47 p2 hp2 s_ t_ (TX2 p0 p1 p2 q) h0 n0 OD SGD (show 47 + 4 < 58 by decide) rfl rfl rfl rfl rfl) (Kp.pure (fun _ _ q => q.2.symm)) (hw _ (List.mem_of_getElem? (i := 370) rfl)) (hw _ (List.mem_of_getElem? (i := 371) rfl)) (hw _ (List.mem_of_getElem? (i := 372) rfl)) (hw _ (List.mem_of_getElem? (i := 373) rfl)) (by decide) pd_cha rfl rfl rfl rfl (by decide) (by decide) (by decide) (by decide) ?_
  rintro _ _ - ⟨rfl, rfl⟩
  refine KW.sub (S' := fun _ => False) (fun x hx => hx.elim) ?_
  show KW true l Z M_law n0 (fun v _ => v = some (.int 1)) (EL, fun _ => False) h0 65 3263 481 #[.val (.int x0), .val (.int x1), .val (.int x2), .val (.int x3), .val (.int x4), .val (.int x5), .val (.int p0), .val (.int p1), .val (.int p2), .val (.int p3), .val (.int sm), .val (.ref P), .val (.ref a), .val (.ref b), .val (.ref c), .val (.int q), .val (.int (2 : Int32)), .val (.int (1 : Int32)), .val (.ref s_), .val (.int (52 : Int32))] [(.int (1 : Int32))]
  refine k_ifc (pc1 := 488) (pc' := 484) at_481 (by decide) (by decide) rfl (fun (cd72 : (1 : Int32) = (0 : Int32)) => False.elim (by exact absurd cd72 (by decide))) (fun (cd72 : ¬ (1 : Int32) = (0 : Int32)) => ?_)
  refine k_iconst (z := (1 : Int32)) at_484 rfl (by decide) ?_
  refine k_goto (pc' := 489) at_485 (by decide) (by decide) ?_
  refine k_istore (Ls' := #[.val (.int x0), .val (.int x1), .val (.int x2), .val (.int x3), .val (.int x4), .val (.int x5), .val (.int p0), .val (.int p1), .val (.int p2), .val (.int p3), .val (.int sm), .val (.ref P), .val (.ref a), .val (.ref b), .val (.ref c), .val (.int q), .val (.int (2 : Int32)), .val (.int (1 : Int32)), .val (.ref s_), .val (.int (52 : Int32))]) at_489 rfl rfl ?_
  refine k_iload at_491 rfl rfl ?_
  refine k_iconst (z := (3 : Int32)) at_493 rfl (by decide) ?_
  refine k_icmp (pc1 := 521) (pc' := 497) at_494 (by decide) (by decide) rfl (fun (cd73 : (2 : Int32) < (3 : Int32)) => ?_) (fun (cd73 : ¬ (2 : Int32) < (3 : Int32)) => False.elim (by exact absurd cd73 (by decide)))
  refine k_iload at_521 rfl rfl ?_
  refine k_ifc (pc1 := 612) (pc' := 526) at_523 (by decide) (by decide) rfl (fun (cd74 : (1 : Int32) = (0 : Int32)) => False.elim (by exact absurd cd74 (by decide))) (fun (cd74 : ¬ (1 : Int32) = (0 : Int32)) => ?_)
  refine k_aload at_526 rfl rfl rfl ?_
  refine k_iload at_528 rfl rfl ?_
  refine k_callVirtual (argsL := [(.int (52 : Int32))]) (rest := []) (W0 := 0) at_530 rfl (mt_scN l Z a0 hw cs hcs SC hEW sio SIO hsio 52 10 s_ t_ (TX2 p0 p1 p2 q) h0 n0 OD SGD (show 52 < 58 by decide) rfl) (Kp.pure (fun _ _ q => q.2.symm)) SGD.exa (hw _ (List.mem_of_getElem? (i := 261) rfl)) (hw _ (List.mem_of_getElem? (i := 262) rfl)) (hw _ (List.mem_of_getElem? (i := 264) rfl)) (hw _ (List.mem_of_getElem? (i := 99) rfl)) rfl (hw _ (List.mem_of_getElem? (i := 263) rfl)) (hw _ (List.mem_of_getElem? (i := 265) rfl)) (hw _ (List.mem_of_getElem? (i := 5) rfl)) (by decide) pd_sca rfl rfl rfl rfl (by decide) (by decide) (by decide) (by decide) ?_
  rintro _ _ - ⟨rfl, rfl⟩
  rw [show chB (10 : Int32) = 10 by decide]
  refine KW.sub (S' := fun _ => False) (fun x hx => hx.elim) ?_
  show KW true l Z M_law n0 (fun v _ => v = some (.int 1)) (EL, fun _ => False) h0 65 3263 533 #[.val (.int x0), .val (.int x1), .val (.int x2), .val (.int x3), .val (.int x4), .val (.int x5), .val (.int p0), .val (.int p1), .val (.int p2), .val (.int p3), .val (.int sm), .val (.ref P), .val (.ref a), .val (.ref b), .val (.ref c), .val (.int q), .val (.int (2 : Int32)), .val (.int (1 : Int32)), .val (.ref s_), .val (.int (52 : Int32))] [(.int (10 : Int32))]
  refine k_bipush (z := (10 : Int32)) at_533 rfl (by decide) ?_
  refine k_icmp (pc1 := 612) (pc' := 538) at_535 (by decide) (by decide) rfl (fun (cd75 : ¬ (10 : Int32) = (10 : Int32)) => False.elim (by exact absurd cd75 (by decide))) (fun (cd75 : (10 : Int32) = (10 : Int32)) => ?_)
  refine k_aload at_538 rfl rfl rfl ?_
  refine k_iload at_540 rfl rfl ?_
  refine k_iconst (z := (1 : Int32)) at_542 rfl (by decide) ?_
  refine k_iadd at_543 rfl ?_
  refine KW.top (congrArg Value.int (show ((52 : Int32) + (1 : Int32)) = (53 : Int32) by decide)) ?_
  show KW true l Z M_law n0 (fun v _ => v = some (.int 1)) (EL, fun _ => False) h0 65 3263 544 #[.val (.int x0), .val (.int x1), .val (.int x2), .val (.int x3), .val (.int x4), .val (.int x5), .val (.int p0), .val (.int p1), .val (.int p2), .val (.int p3), .val (.int sm), .val (.ref P), .val (.ref a), .val (.ref b), .val (.ref c), .val (.int q), .val (.int (2 : Int32)), .val (.int (1 : Int32)), .val (.ref s_), .val (.int (52 : Int32))] [(.int (53 : Int32)), (.ref s_)]
  refine k_callVirtual (argsL := [(.int (53 : Int32))]) (rest := []) (W0 := 0) at_544 rfl (mt_scN l Z a0 hw cs hcs SC hEW sio SIO hsio 53 60 s_ t_ (TX2 p0 p1 p2 q) h0 n0 OD SGD (show 53 < 58 by decide) rfl) (Kp.pure (fun _ _ q => q.2.symm)) SGD.exa (hw _ (List.mem_of_getElem? (i := 261) rfl)) (hw _ (List.mem_of_getElem? (i := 262) rfl)) (hw _ (List.mem_of_getElem? (i := 264) rfl)) (hw _ (List.mem_of_getElem? (i := 99) rfl)) rfl (hw _ (List.mem_of_getElem? (i := 263) rfl)) (hw _ (List.mem_of_getElem? (i := 265) rfl)) (hw _ (List.mem_of_getElem? (i := 5) rfl)) (by decide) pd_sca rfl rfl rfl rfl (by decide) (by decide) (by decide) (by decide) ?_
  rintro _ _ - ⟨rfl, rfl⟩
  rw [show chB (60 : Int32) = 60 by decide]
  refine KW.sub (S' := fun _ => False) (fun x hx => hx.elim) ?_
  show KW true l Z M_law n0 (fun v _ => v = some (.int 1)) (EL, fun _ => False) h0 65 3263 547 #[.val (.int x0), .val (.int x1), .val (.int x2), .val (.int x3), .val (.int x4), .val (.int x5), .val (.int p0), .val (.int p1), .val (.int p2), .val (.int p3), .val (.int sm), .val (.ref P), .val (.ref a), .val (.ref b), .val (.ref c), .val (.int q), .val (.int (2 : Int32)), .val (.int (1 : Int32)), .val (.ref s_), .val (.int (52 : Int32))] [(.int (60 : Int32))]
  refine k_bipush (z := (60 : Int32)) at_547 rfl (by decide) ?_
  refine k_icmp (pc1 := 612) (pc' := 552) at_549 (by decide) (by decide) rfl (fun (cd76 : ¬ (60 : Int32) = (60 : Int32)) => False.elim (by exact absurd cd76 (by decide))) (fun (cd76 : (60 : Int32) = (60 : Int32)) => ?_)
  refine k_aload at_552 rfl rfl rfl ?_
  refine k_iload at_554 rfl rfl ?_
  refine k_iconst (z := (2 : Int32)) at_556 rfl (by decide) ?_
  refine k_iadd at_557 rfl ?_
  refine KW.top (congrArg Value.int (show ((52 : Int32) + (2 : Int32)) = (54 : Int32) by decide)) ?_
  show KW true l Z M_law n0 (fun v _ => v = some (.int 1)) (EL, fun _ => False) h0 65 3263 558 #[.val (.int x0), .val (.int x1), .val (.int x2), .val (.int x3), .val (.int x4), .val (.int x5), .val (.int p0), .val (.int p1), .val (.int p2), .val (.int p3), .val (.int sm), .val (.ref P), .val (.ref a), .val (.ref b), .val (.ref c), .val (.int q), .val (.int (2 : Int32)), .val (.int (1 : Int32)), .val (.ref s_), .val (.int (52 : Int32))] [(.int (54 : Int32)), (.ref s_)]
  refine k_callVirtual (argsL := [(.int (54 : Int32))]) (rest := []) (W0 := 0) at_558 rfl (mt_scN l Z a0 hw cs hcs SC hEW sio SIO hsio 54 47 s_ t_ (TX2 p0 p1 p2 q) h0 n0 OD SGD (show 54 < 58 by decide) rfl) (Kp.pure (fun _ _ q => q.2.symm)) SGD.exa (hw _ (List.mem_of_getElem? (i := 261) rfl)) (hw _ (List.mem_of_getElem? (i := 262) rfl)) (hw _ (List.mem_of_getElem? (i := 264) rfl)) (hw _ (List.mem_of_getElem? (i := 99) rfl)) rfl (hw _ (List.mem_of_getElem? (i := 263) rfl)) (hw _ (List.mem_of_getElem? (i := 265) rfl)) (hw _ (List.mem_of_getElem? (i := 5) rfl)) (by decide) pd_sca rfl rfl rfl rfl (by decide) (by decide) (by decide) (by decide) ?_
  rintro _ _ - ⟨rfl, rfl⟩
  rw [show chB (47 : Int32) = 47 by decide]
  refine KW.sub (S' := fun _ => False) (fun x hx => hx.elim) ?_
  show KW true l Z M_law n0 (fun v _ => v = some (.int 1)) (EL, fun _ => False) h0 65 3263 561 #[.val (.int x0), .val (.int x1), .val (.int x2), .val (.int x3), .val (.int x4), .val (.int x5), .val (.int p0), .val (.int p1), .val (.int p2), .val (.int p3), .val (.int sm), .val (.ref P), .val (.ref a), .val (.ref b), .val (.ref c), .val (.int q), .val (.int (2 : Int32)), .val (.int (1 : Int32)), .val (.ref s_), .val (.int (52 : Int32))] [(.int (47 : Int32))]
  refine k_bipush (z := (47 : Int32)) at_561 rfl (by decide) ?_
  refine k_icmp (pc1 := 612) (pc' := 566) at_563 (by decide) (by decide) rfl (fun (cd77 : ¬ (47 : Int32) = (47 : Int32)) => False.elim (by exact absurd cd77 (by decide))) (fun (cd77 : (47 : Int32) = (47 : Int32)) => ?_)
  refine k_aload at_566 rfl rfl rfl ?_
  refine k_iload at_568 rfl rfl ?_
  refine k_iconst (z := (3 : Int32)) at_570 rfl (by decide) ?_
  refine k_iadd at_571 rfl ?_
  refine KW.top (congrArg Value.int (show ((52 : Int32) + (3 : Int32)) = (55 : Int32) by decide)) ?_
  show KW true l Z M_law n0 (fun v _ => v = some (.int 1)) (EL, fun _ => False) h0 65 3263 572 #[.val (.int x0), .val (.int x1), .val (.int x2), .val (.int x3), .val (.int x4), .val (.int x5), .val (.int p0), .val (.int p1), .val (.int p2), .val (.int p3), .val (.int sm), .val (.ref P), .val (.ref a), .val (.ref b), .val (.ref c), .val (.int q), .val (.int (2 : Int32)), .val (.int (1 : Int32)), .val (.ref s_), .val (.int (52 : Int32))] [(.int (55 : Int32)), (.ref s_)]
  refine k_callVirtual (argsL := [(.int (55 : Int32))]) (rest := []) (W0 := 0) at_572 rfl (mt_scN l Z a0 hw cs hcs SC hEW sio SIO hsio 55 (nbI p0) s_ t_ (TX2 p0 p1 p2 q) h0 n0 OD SGD (show 55 < 58 by decide) rfl) (Kp.pure (fun _ _ q => q.2.symm)) SGD.exa (hw _ (List.mem_of_getElem? (i := 261) rfl)) (hw _ (List.mem_of_getElem? (i := 262) rfl)) (hw _ (List.mem_of_getElem? (i := 264) rfl)) (hw _ (List.mem_of_getElem? (i := 99) rfl)) rfl (hw _ (List.mem_of_getElem? (i := 263) rfl)) (hw _ (List.mem_of_getElem? (i := 265) rfl)) (hw _ (List.mem_of_getElem? (i := 5) rfl)) (by decide) pd_sca rfl rfl rfl rfl (by decide) (by decide) (by decide) (by decide) ?_
  rintro _ _ - ⟨rfl, rfl⟩
  rw [chB_nbI hp0]
  refine KW.sub (S' := fun _ => False) (fun x hx => hx.elim) ?_
  show KW true l Z M_law n0 (fun v _ => v = some (.int 1)) (EL, fun _ => False) h0 65 3263 575 #[.val (.int x0), .val (.int x1), .val (.int x2), .val (.int x3), .val (.int x4), .val (.int x5), .val (.int p0), .val (.int p1), .val (.int p2), .val (.int p3), .val (.int sm), .val (.ref P), .val (.ref a), .val (.ref b), .val (.ref c), .val (.int q), .val (.int (2 : Int32)), .val (.int (1 : Int32)), .val (.ref s_), .val (.int (52 : Int32))] [(.int p0)]
  refine k_iload at_575 rfl rfl ?_
  refine k_icmp (pc1 := 612) (pc' := 580) at_577 (by decide) (by decide) rfl (fun (cd78 : ¬ p0 = p0) => False.elim (by exact cd78 rfl)) (fun (cd78 : p0 = p0) => ?_)
  refine k_aload at_580 rfl rfl rfl ?_
  refine k_iload at_582 rfl rfl ?_
  refine k_iconst (z := (4 : Int32)) at_584 rfl (by decide) ?_
  refine k_iadd at_585 rfl ?_
  refine KW.top (congrArg Value.int (show ((52 : Int32) + (4 : Int32)) = (56 : Int32) by decide)) ?_
  show KW true l Z M_law n0 (fun v _ => v = some (.int 1)) (EL, fun _ => False) h0 65 3263 586 #[.val (.int x0), .val (.int x1), .val (.int x2), .val (.int x3), .val (.int x4), .val (.int x5), .val (.int p0), .val (.int p1), .val (.int p2), .val (.int p3), .val (.int sm), .val (.ref P), .val (.ref a), .val (.ref b), .val (.ref c), .val (.int q), .val (.int (2 : Int32)), .val (.int (1 : Int32)), .val (.ref s_), .val (.int (52 : Int32))] [(.int (56 : Int32)), (.ref s_)]
  refine k_callVirtual (argsL := [(.int (56 : Int32))]) (rest := []) (W0 := 0) at_586 rfl (mt_scN l Z a0 hw cs hcs SC hEW sio SIO hsio 56 62 s_ t_ (TX2 p0 p1 p2 q) h0 n0 OD SGD (show 56 < 58 by decide) rfl) (Kp.pure (fun _ _ q => q.2.symm)) SGD.exa (hw _ (List.mem_of_getElem? (i := 261) rfl)) (hw _ (List.mem_of_getElem? (i := 262) rfl)) (hw _ (List.mem_of_getElem? (i := 264) rfl)) (hw _ (List.mem_of_getElem? (i := 99) rfl)) rfl (hw _ (List.mem_of_getElem? (i := 263) rfl)) (hw _ (List.mem_of_getElem? (i := 265) rfl)) (hw _ (List.mem_of_getElem? (i := 5) rfl)) (by decide) pd_sca rfl rfl rfl rfl (by decide) (by decide) (by decide) (by decide) ?_
  rintro _ _ - ⟨rfl, rfl⟩
  rw [show chB (62 : Int32) = 62 by decide]
  refine KW.sub (S' := fun _ => False) (fun x hx => hx.elim) ?_
  show KW true l Z M_law n0 (fun v _ => v = some (.int 1)) (EL, fun _ => False) h0 65 3263 589 #[.val (.int x0), .val (.int x1), .val (.int x2), .val (.int x3), .val (.int x4), .val (.int x5), .val (.int p0), .val (.int p1), .val (.int p2), .val (.int p3), .val (.int sm), .val (.ref P), .val (.ref a), .val (.ref b), .val (.ref c), .val (.int q), .val (.int (2 : Int32)), .val (.int (1 : Int32)), .val (.ref s_), .val (.int (52 : Int32))] [(.int (62 : Int32))]
  refine k_bipush (z := (62 : Int32)) at_589 rfl (by decide) ?_
  refine k_icmp (pc1 := 612) (pc' := 594) at_591 (by decide) (by decide) rfl (fun (cd79 : ¬ (62 : Int32) = (62 : Int32)) => False.elim (by exact absurd cd79 (by decide))) (fun (cd79 : (62 : Int32) = (62 : Int32)) => ?_)
  refine k_aload at_594 rfl rfl rfl ?_
  refine k_iload at_596 rfl rfl ?_
  refine k_iconst (z := (5 : Int32)) at_598 rfl (by decide) ?_
  refine k_iadd at_599 rfl ?_
  refine KW.top (congrArg Value.int (show ((52 : Int32) + (5 : Int32)) = (57 : Int32) by decide)) ?_
  show KW true l Z M_law n0 (fun v _ => v = some (.int 1)) (EL, fun _ => False) h0 65 3263 600 #[.val (.int x0), .val (.int x1), .val (.int x2), .val (.int x3), .val (.int x4), .val (.int x5), .val (.int p0), .val (.int p1), .val (.int p2), .val (.int p3), .val (.int sm), .val (.ref P), .val (.ref a), .val (.ref b), .val (.ref c), .val (.int q), .val (.int (2 : Int32)), .val (.int (1 : Int32)), .val (.ref s_), .val (.int (52 : Int32))] [(.int (57 : Int32)), (.ref s_)]
  refine k_callVirtual (argsL := [(.int (57 : Int32))]) (rest := []) (W0 := 0) at_600 rfl (mt_scN l Z a0 hw cs hcs SC hEW sio SIO hsio 57 10 s_ t_ (TX2 p0 p1 p2 q) h0 n0 OD SGD (show 57 < 58 by decide) rfl) (Kp.pure (fun _ _ q => q.2.symm)) SGD.exa (hw _ (List.mem_of_getElem? (i := 261) rfl)) (hw _ (List.mem_of_getElem? (i := 262) rfl)) (hw _ (List.mem_of_getElem? (i := 264) rfl)) (hw _ (List.mem_of_getElem? (i := 99) rfl)) rfl (hw _ (List.mem_of_getElem? (i := 263) rfl)) (hw _ (List.mem_of_getElem? (i := 265) rfl)) (hw _ (List.mem_of_getElem? (i := 5) rfl)) (by decide) pd_sca rfl rfl rfl rfl (by decide) (by decide) (by decide) (by decide) ?_
  rintro _ _ - ⟨rfl, rfl⟩
  rw [show chB (10 : Int32) = 10 by decide]
  refine KW.sub (S' := fun _ => False) (fun x hx => hx.elim) ?_
  show KW true l Z M_law n0 (fun v _ => v = some (.int 1)) (EL, fun _ => False) h0 65 3263 603 #[.val (.int x0), .val (.int x1), .val (.int x2), .val (.int x3), .val (.int x4), .val (.int x5), .val (.int p0), .val (.int p1), .val (.int p2), .val (.int p3), .val (.int sm), .val (.ref P), .val (.ref a), .val (.ref b), .val (.ref c), .val (.int q), .val (.int (2 : Int32)), .val (.int (1 : Int32)), .val (.ref s_), .val (.int (52 : Int32))] [(.int (10 : Int32))]
  refine k_bipush (z := (10 : Int32)) at_603 rfl (by decide) ?_
  refine k_icmp (pc1 := 612) (pc' := 608) at_605 (by decide) (by decide) rfl (fun (cd80 : ¬ (10 : Int32) = (10 : Int32)) => False.elim (by exact absurd cd80 (by decide))) (fun (cd80 : (10 : Int32) = (10 : Int32)) => ?_)
  refine k_iconst (z := (1 : Int32)) at_608 rfl (by decide) ?_
  refine k_goto (pc' := 613) at_609 (by decide) (by decide) ?_
  exact k_retNar at_613 rfl (by simp) (z' := (1 : Int32)) (by decide) (by decide) (by decide) rfl
def TX3 (p0 p1 p2 q : Int32) : List Int32 := [60, 63, 120, 109, 108, 32, 118, 101, 114, 115, 105, 111, 110, 61, 34, 49, 46, 48, 34, 32, 101, 110, 99, 111, 100, 105, 110, 103, 61, 34, 117, 116, 102, 45, 56, 34, 63, 62, 10, 60, (nbI p0), 62, 10, 60, (nbI p1), 47, 62, 10, 60, (nbI p2), 47, 62, 10, 60, (nbI q), 47, 62, 10, 60, 47, (nbI p0), 62, 10]
set_option maxRecDepth 65536 in
set_option maxHeartbeats 40000000 in
theorem kw_t3 (l : Launch) (Z : State) (a0 : Array Value) (hw : ∀ d ∈ tables_1, d.before a0 Z = true) (cs : Int32) (hcs : ¬ cs = 0) (SC : Sta Z Z.heap "java/lang/String" "COMPACT_STRINGS" "Z" (.int cs)) (hEW : EW Z a0 EL) (x0 x1 x2 x3 x4 x5 p0 p1 p2 p3 q sm : Int32) (P a b c s_ t_ : Addr) (h0 : Heap) (n0 : Nat) (OD : Old Z n0 h0) (SGD : Sg Z h0 s_ t_ (TX3 p0 p1 p2 q)) (hp0 : Ch p0) (hp1 : Ch p1) (hp2 : Ch p2) (hp3 : Ch p3) (hq : Ch q) (sio : Value) (SIO : Sta Z Z.heap "jdk/internal/util/Preconditions" "SIOOBE_FORMATTER" "Ljava/util/function/BiFunction;" sio) (hsio : sio.isRef = true) : KW true l Z M_law n0 (fun v _ => v = some (.int 1)) (EL, fun _ => False) h0 66 3273 230 #[.val (.int x0), .val (.int x1), .val (.int x2), .val (.int x3), .val (.int x4), .val (.int x5), .val (.int p0), .val (.int p1), .val (.int p2), .val (.int p3), .val (.int sm), .val (.ref P), .val (.ref a), .val (.ref b), .val (.ref c), .val (.int q), .val (.int (3 : Int32)), .val (.int (1 : Int32)), .unset, .unset] [(.ref s_)] := by
  refine k_astore (Ls' := #[.val (.int x0), .val (.int x1), .val (.int x2), .val (.int x3), .val (.int x4), .val (.int x5), .val (.int p0), .val (.int p1), .val (.int p2), .val (.int p3), .val (.int sm), .val (.ref P), .val (.ref a), .val (.ref b), .val (.ref c), .val (.int q), .val (.int (3 : Int32)), .val (.int (1 : Int32)), .val (.ref s_), .unset]) at_230 rfl rfl rfl ?_
  refine k_aload at_232 rfl rfl rfl ?_
  refine k_callVirtual (argsL := []) (rest := []) (W0 := 0) at_234 rfl (mt_len l Z a0 hw cs hcs SC hEW s_ t_ (TX3 p0 p1 p2 q) h0 n0 OD SGD) (Kp.pure (fun _ _ q => q.2.symm)) SGD.exa (hw _ (List.mem_of_getElem? (i := 260) rfl)) (hw _ (List.mem_of_getElem? (i := 97) rfl)) (hw _ (List.mem_of_getElem? (i := 99) rfl)) (hw _ (List.mem_of_getElem? (i := 99) rfl)) rfl (hw _ (List.mem_of_getElem? (i := 98) rfl)) (hw _ (List.mem_of_getElem? (i := 100) rfl)) (hw _ (List.mem_of_getElem? (i := 5) rfl)) (by decide) pd_len rfl rfl rfl rfl (by decide) (by decide) (by decide) (by decide) ?_
  rintro _ _ - ⟨rfl, rfl⟩
  refine KW.top (congrArg Value.int (rfl : Int32.ofNat (TX3 p0 p1 p2 q).length = (63 : Int32))) ?_
  refine KW.sub (S' := fun _ => False) (fun x hx => hx.elim) ?_
  show KW true l Z M_law n0 (fun v _ => v = some (.int 1)) (EL, fun _ => False) h0 66 3273 237 #[.val (.int x0), .val (.int x1), .val (.int x2), .val (.int x3), .val (.int x4), .val (.int x5), .val (.int p0), .val (.int p1), .val (.int p2), .val (.int p3), .val (.int sm), .val (.ref P), .val (.ref a), .val (.ref b), .val (.ref c), .val (.int q), .val (.int (3 : Int32)), .val (.int (1 : Int32)), .val (.ref s_), .unset] [(.int (63 : Int32))]
  refine k_bipush (z := (44 : Int32)) at_237 rfl (by decide) ?_
  refine k_icmp (pc1 := 244) (pc' := 242) at_239 (by decide) (by decide) rfl (fun (cd81 : ¬ (63 : Int32) < (44 : Int32)) => ?_) (fun (cd81 : (63 : Int32) < (44 : Int32)) => False.elim (by exact absurd cd81 (by decide)))
  refine k_iload at_244 rfl rfl ?_
  refine k_ifc (pc1 := 276) (pc' := 249) at_246 (by decide) (by decide) rfl (fun (cd82 : (1 : Int32) = (0 : Int32)) => False.elim (by exact absurd cd82 (by decide))) (fun (cd82 : ¬ (1 : Int32) = (0 : Int32)) => ?_)
  refine k_aload at_249 rfl rfl rfl ?_
  refine k_iconst (z := (0 : Int32)) at_251 rfl (by decide) ?_
  refine k_callVirtual (argsL := [(.int (0 : Int32))]) (rest := []) (W0 := 0) at_252 rfl (mt_scN l Z a0 hw cs hcs SC hEW sio SIO hsio 0 60 s_ t_ (TX3 p0 p1 p2 q) h0 n0 OD SGD (show 0 < 63 by decide) rfl) (Kp.pure (fun _ _ q => q.2.symm)) SGD.exa (hw _ (List.mem_of_getElem? (i := 261) rfl)) (hw _ (List.mem_of_getElem? (i := 262) rfl)) (hw _ (List.mem_of_getElem? (i := 264) rfl)) (hw _ (List.mem_of_getElem? (i := 99) rfl)) rfl (hw _ (List.mem_of_getElem? (i := 263) rfl)) (hw _ (List.mem_of_getElem? (i := 265) rfl)) (hw _ (List.mem_of_getElem? (i := 5) rfl)) (by decide) pd_sca rfl rfl rfl rfl (by decide) (by decide) (by decide) (by decide) ?_
  rintro _ _ - ⟨rfl, rfl⟩
  rw [show chB (60 : Int32) = 60 by decide]
  refine KW.sub (S' := fun _ => False) (fun x hx => hx.elim) ?_
  show KW true l Z M_law n0 (fun v _ => v = some (.int 1)) (EL, fun _ => False) h0 66 3273 255 #[.val (.int x0), .val (.int x1), .val (.int x2), .val (.int x3), .val (.int x4), .val (.int x5), .val (.int p0), .val (.int p1), .val (.int p2), .val (.int p3), .val (.int sm), .val (.ref P), .val (.ref a), .val (.ref b), .val (.ref c), .val (.int q), .val (.int (3 : Int32)), .val (.int (1 : Int32)), .val (.ref s_), .unset] [(.int (60 : Int32))]
  refine k_bipush (z := (60 : Int32)) at_255 rfl (by decide) ?_
  refine k_icmp (pc1 := 276) (pc' := 260) at_257 (by decide) (by decide) rfl (fun (cd83 : ¬ (60 : Int32) = (60 : Int32)) => False.elim (by exact absurd cd83 (by decide))) (fun (cd83 : (60 : Int32) = (60 : Int32)) => ?_)
  refine k_aload at_260 rfl rfl rfl ?_
  refine k_bipush (z := (38 : Int32)) at_262 rfl (by decide) ?_
  refine k_callVirtual (argsL := [(.int (38 : Int32))]) (rest := []) (W0 := 0) at_264 rfl (mt_scN l Z a0 hw cs hcs SC hEW sio SIO hsio 38 10 s_ t_ (TX3 p0 p1 p2 q) h0 n0 OD SGD (show 38 < 63 by decide) rfl) (Kp.pure (fun _ _ q => q.2.symm)) SGD.exa (hw _ (List.mem_of_getElem? (i := 261) rfl)) (hw _ (List.mem_of_getElem? (i := 262) rfl)) (hw _ (List.mem_of_getElem? (i := 264) rfl)) (hw _ (List.mem_of_getElem? (i := 99) rfl)) rfl (hw _ (List.mem_of_getElem? (i := 263) rfl)) (hw _ (List.mem_of_getElem? (i := 265) rfl)) (hw _ (List.mem_of_getElem? (i := 5) rfl)) (by decide) pd_sca rfl rfl rfl rfl (by decide) (by decide) (by decide) (by decide) ?_
  rintro _ _ - ⟨rfl, rfl⟩
  rw [show chB (10 : Int32) = 10 by decide]
  refine KW.sub (S' := fun _ => False) (fun x hx => hx.elim) ?_
  show KW true l Z M_law n0 (fun v _ => v = some (.int 1)) (EL, fun _ => False) h0 66 3273 267 #[.val (.int x0), .val (.int x1), .val (.int x2), .val (.int x3), .val (.int x4), .val (.int x5), .val (.int p0), .val (.int p1), .val (.int p2), .val (.int p3), .val (.int sm), .val (.ref P), .val (.ref a), .val (.ref b), .val (.ref c), .val (.int q), .val (.int (3 : Int32)), .val (.int (1 : Int32)), .val (.ref s_), .unset] [(.int (10 : Int32))]
  refine k_bipush (z := (10 : Int32)) at_267 rfl (by decide) ?_
  refine k_icmp (pc1 := 276) (pc' := 272) at_269 (by decide) (by decide) rfl (fun (cd84 : ¬ (10 : Int32) = (10 : Int32)) => False.elim (by exact absurd cd84 (by decide))) (fun (cd84 : (10 : Int32) = (10 : Int32)) => ?_)
  refine k_iconst (z := (1 : Int32)) at_272 rfl (by decide) ?_
  refine k_goto (pc' := 277) at_273 (by decide) (by decide) ?_
  refine k_istore (Ls' := #[.val (.int x0), .val (.int x1), .val (.int x2), .val (.int x3), .val (.int x4), .val (.int x5), .val (.int p0), .val (.int p1), .val (.int p2), .val (.int p3), .val (.int sm), .val (.ref P), .val (.ref a), .val (.ref b), .val (.ref c), .val (.int q), .val (.int (3 : Int32)), .val (.int (1 : Int32)), .val (.ref s_), .unset]) at_277 rfl rfl ?_
  refine k_iload at_279 rfl rfl ?_
  refine k_ifc (pc1 := 365) (pc' := 284) at_281 (by decide) (by decide) rfl (fun (cd85 : ¬ (3 : Int32) = (0 : Int32)) => ?_) (fun (cd85 : (3 : Int32) = (0 : Int32)) => False.elim (by exact absurd cd85 (by decide)))
  refine k_bipush (z := (42 : Int32)) at_365 rfl (by decide) ?_
  refine k_iconst (z := (5 : Int32)) at_367 rfl (by decide) ?_
  refine k_iload at_368 rfl rfl ?_
  refine k_imul at_370 rfl ?_
  refine k_iadd at_371 rfl ?_
  refine KW.top (congrArg Value.int (show ((42 : Int32) + ((5 : Int32) * (3 : Int32))) = (57 : Int32) by decide)) ?_
  show KW true l Z M_law n0 (fun v _ => v = some (.int 1)) (EL, fun _ => False) h0 66 3273 372 #[.val (.int x0), .val (.int x1), .val (.int x2), .val (.int x3), .val (.int x4), .val (.int x5), .val (.int p0), .val (.int p1), .val (.int p2), .val (.int p3), .val (.int sm), .val (.ref P), .val (.ref a), .val (.ref b), .val (.ref c), .val (.int q), .val (.int (3 : Int32)), .val (.int (1 : Int32)), .val (.ref s_), .unset] [(.int (57 : Int32))]
  refine k_istore (Ls' := #[.val (.int x0), .val (.int x1), .val (.int x2), .val (.int x3), .val (.int x4), .val (.int x5), .val (.int p0), .val (.int p1), .val (.int p2), .val (.int p3), .val (.int sm), .val (.ref P), .val (.ref a), .val (.ref b), .val (.ref c), .val (.int q), .val (.int (3 : Int32)), .val (.int (1 : Int32)), .val (.ref s_), .val (.int (57 : Int32))]) at_372 rfl rfl ?_
  refine k_aload at_374 rfl rfl rfl ?_
  refine k_callVirtual (argsL := []) (rest := []) (W0 := 0) at_376 rfl (mt_len l Z a0 hw cs hcs SC hEW s_ t_ (TX3 p0 p1 p2 q) h0 n0 OD SGD) (Kp.pure (fun _ _ q => q.2.symm)) SGD.exa (hw _ (List.mem_of_getElem? (i := 260) rfl)) (hw _ (List.mem_of_getElem? (i := 97) rfl)) (hw _ (List.mem_of_getElem? (i := 99) rfl)) (hw _ (List.mem_of_getElem? (i := 99) rfl)) rfl (hw _ (List.mem_of_getElem? (i := 98) rfl)) (hw _ (List.mem_of_getElem? (i := 100) rfl)) (hw _ (List.mem_of_getElem? (i := 5) rfl)) (by decide) pd_len rfl rfl rfl rfl (by decide) (by decide) (by decide) (by decide) ?_
  rintro _ _ - ⟨rfl, rfl⟩
  refine KW.top (congrArg Value.int (rfl : Int32.ofNat (TX3 p0 p1 p2 q).length = (63 : Int32))) ?_
  refine KW.sub (S' := fun _ => False) (fun x hx => hx.elim) ?_
  show KW true l Z M_law n0 (fun v _ => v = some (.int 1)) (EL, fun _ => False) h0 66 3273 379 #[.val (.int x0), .val (.int x1), .val (.int x2), .val (.int x3), .val (.int x4), .val (.int x5), .val (.int p0), .val (.int p1), .val (.int p2), .val (.int p3), .val (.int sm), .val (.ref P), .val (.ref a), .val (.ref b), .val (.ref c), .val (.int q), .val (.int (3 : Int32)), .val (.int (1 : Int32)), .val (.ref s_), .val (.int (57 : Int32))] [(.int (63 : Int32))]
  refine k_iload at_379 rfl rfl ?_
  refine k_bipush (z := (6 : Int32)) at_381 rfl (by decide) ?_
  refine k_iadd at_383 rfl ?_
  refine KW.top (congrArg Value.int (show ((57 : Int32) + (6 : Int32)) = (63 : Int32) by decide)) ?_
  show KW true l Z M_law n0 (fun v _ => v = some (.int 1)) (EL, fun _ => False) h0 66 3273 384 #[.val (.int x0), .val (.int x1), .val (.int x2), .val (.int x3), .val (.int x4), .val (.int x5), .val (.int p0), .val (.int p1), .val (.int p2), .val (.int p3), .val (.int sm), .val (.ref P), .val (.ref a), .val (.ref b), .val (.ref c), .val (.int q), .val (.int (3 : Int32)), .val (.int (1 : Int32)), .val (.ref s_), .val (.int (57 : Int32))] [(.int (63 : Int32)), (.int (63 : Int32))]
  refine k_icmp (pc1 := 389) (pc' := 387) at_384 (by decide) (by decide) rfl (fun (cd86 : (63 : Int32) = (63 : Int32)) => ?_) (fun (cd86 : ¬ (63 : Int32) = (63 : Int32)) => False.elim (by exact absurd cd86 (by decide)))
  refine k_iload at_389 rfl rfl ?_
  refine k_ifc (pc1 := 434) (pc' := 394) at_391 (by decide) (by decide) rfl (fun (cd87 : (1 : Int32) = (0 : Int32)) => False.elim (by exact absurd cd87 (by decide))) (fun (cd87 : ¬ (1 : Int32) = (0 : Int32)) => ?_)
  refine k_aload at_394 rfl rfl rfl ?_
  refine k_bipush (z := (39 : Int32)) at_396 rfl (by decide) ?_
  refine k_callVirtual (argsL := [(.int (39 : Int32))]) (rest := []) (W0 := 0) at_398 rfl (mt_scN l Z a0 hw cs hcs SC hEW sio SIO hsio 39 60 s_ t_ (TX3 p0 p1 p2 q) h0 n0 OD SGD (show 39 < 63 by decide) rfl) (Kp.pure (fun _ _ q => q.2.symm)) SGD.exa (hw _ (List.mem_of_getElem? (i := 261) rfl)) (hw _ (List.mem_of_getElem? (i := 262) rfl)) (hw _ (List.mem_of_getElem? (i := 264) rfl)) (hw _ (List.mem_of_getElem? (i := 99) rfl)) rfl (hw _ (List.mem_of_getElem? (i := 263) rfl)) (hw _ (List.mem_of_getElem? (i := 265) rfl)) (hw _ (List.mem_of_getElem? (i := 5) rfl)) (by decide) pd_sca rfl rfl rfl rfl (by decide) (by decide) (by decide) (by decide) ?_
  rintro _ _ - ⟨rfl, rfl⟩
  rw [show chB (60 : Int32) = 60 by decide]
  refine KW.sub (S' := fun _ => False) (fun x hx => hx.elim) ?_
  show KW true l Z M_law n0 (fun v _ => v = some (.int 1)) (EL, fun _ => False) h0 66 3273 401 #[.val (.int x0), .val (.int x1), .val (.int x2), .val (.int x3), .val (.int x4), .val (.int x5), .val (.int p0), .val (.int p1), .val (.int p2), .val (.int p3), .val (.int sm), .val (.ref P), .val (.ref a), .val (.ref b), .val (.ref c), .val (.int q), .val (.int (3 : Int32)), .val (.int (1 : Int32)), .val (.ref s_), .val (.int (57 : Int32))] [(.int (60 : Int32))]
  refine k_bipush (z := (60 : Int32)) at_401 rfl (by decide) ?_
  refine k_icmp (pc1 := 434) (pc' := 406) at_403 (by decide) (by decide) rfl (fun (cd88 : ¬ (60 : Int32) = (60 : Int32)) => False.elim (by exact absurd cd88 (by decide))) (fun (cd88 : (60 : Int32) = (60 : Int32)) => ?_)
  refine k_aload at_406 rfl rfl rfl ?_
  refine k_bipush (z := (40 : Int32)) at_408 rfl (by decide) ?_
  refine k_callVirtual (argsL := [(.int (40 : Int32))]) (rest := []) (W0 := 0) at_410 rfl (mt_scN l Z a0 hw cs hcs SC hEW sio SIO hsio 40 (nbI p0) s_ t_ (TX3 p0 p1 p2 q) h0 n0 OD SGD (show 40 < 63 by decide) rfl) (Kp.pure (fun _ _ q => q.2.symm)) SGD.exa (hw _ (List.mem_of_getElem? (i := 261) rfl)) (hw _ (List.mem_of_getElem? (i := 262) rfl)) (hw _ (List.mem_of_getElem? (i := 264) rfl)) (hw _ (List.mem_of_getElem? (i := 99) rfl)) rfl (hw _ (List.mem_of_getElem? (i := 263) rfl)) (hw _ (List.mem_of_getElem? (i := 265) rfl)) (hw _ (List.mem_of_getElem? (i := 5) rfl)) (by decide) pd_sca rfl rfl rfl rfl (by decide) (by decide) (by decide) (by decide) ?_
  rintro _ _ - ⟨rfl, rfl⟩
  rw [chB_nbI hp0]
  refine KW.sub (S' := fun _ => False) (fun x hx => hx.elim) ?_
  show KW true l Z M_law n0 (fun v _ => v = some (.int 1)) (EL, fun _ => False) h0 66 3273 413 #[.val (.int x0), .val (.int x1), .val (.int x2), .val (.int x3), .val (.int x4), .val (.int x5), .val (.int p0), .val (.int p1), .val (.int p2), .val (.int p3), .val (.int sm), .val (.ref P), .val (.ref a), .val (.ref b), .val (.ref c), .val (.int q), .val (.int (3 : Int32)), .val (.int (1 : Int32)), .val (.ref s_), .val (.int (57 : Int32))] [(.int p0)]
  refine k_iload at_413 rfl rfl ?_
  refine k_icmp (pc1 := 434) (pc' := 418) at_415 (by decide) (by decide) rfl (fun (cd89 : ¬ p0 = p0) => False.elim (by exact cd89 rfl)) (fun (cd89 : p0 = p0) => ?_)
  refine k_aload at_418 rfl rfl rfl ?_
  refine k_bipush (z := (41 : Int32)) at_420 rfl (by decide) ?_
  refine k_callVirtual (argsL := [(.int (41 : Int32))]) (rest := []) (W0 := 0) at_422 rfl (mt_scN l Z a0 hw cs hcs SC hEW sio SIO hsio 41 62 s_ t_ (TX3 p0 p1 p2 q) h0 n0 OD SGD (show 41 < 63 by decide) rfl) (Kp.pure (fun _ _ q => q.2.symm)) SGD.exa (hw _ (List.mem_of_getElem? (i := 261) rfl)) (hw _ (List.mem_of_getElem? (i := 262) rfl)) (hw _ (List.mem_of_getElem? (i := 264) rfl)) (hw _ (List.mem_of_getElem? (i := 99) rfl)) rfl (hw _ (List.mem_of_getElem? (i := 263) rfl)) (hw _ (List.mem_of_getElem? (i := 265) rfl)) (hw _ (List.mem_of_getElem? (i := 5) rfl)) (by decide) pd_sca rfl rfl rfl rfl (by decide) (by decide) (by decide) (by decide) ?_
  rintro _ _ - ⟨rfl, rfl⟩
  rw [show chB (62 : Int32) = 62 by decide]
  refine KW.sub (S' := fun _ => False) (fun x hx => hx.elim) ?_
  show KW true l Z M_law n0 (fun v _ => v = some (.int 1)) (EL, fun _ => False) h0 66 3273 425 #[.val (.int x0), .val (.int x1), .val (.int x2), .val (.int x3), .val (.int x4), .val (.int x5), .val (.int p0), .val (.int p1), .val (.int p2), .val (.int p3), .val (.int sm), .val (.ref P), .val (.ref a), .val (.ref b), .val (.ref c), .val (.int q), .val (.int (3 : Int32)), .val (.int (1 : Int32)), .val (.ref s_), .val (.int (57 : Int32))] [(.int (62 : Int32))]
  refine k_bipush (z := (62 : Int32)) at_425 rfl (by decide) ?_
  refine k_icmp (pc1 := 434) (pc' := 430) at_427 (by decide) (by decide) rfl (fun (cd90 : ¬ (62 : Int32) = (62 : Int32)) => False.elim (by exact absurd cd90 (by decide))) (fun (cd90 : (62 : Int32) = (62 : Int32)) => ?_)
  refine k_iconst (z := (1 : Int32)) at_430 rfl (by decide) ?_
  refine k_goto (pc' := 435) at_431 (by decide) (by decide) ?_
  refine k_istore (Ls' := #[.val (.int x0), .val (.int x1), .val (.int x2), .val (.int x3), .val (.int x4), .val (.int x5), .val (.int p0), .val (.int p1), .val (.int p2), .val (.int p3), .val (.int sm), .val (.ref P), .val (.ref a), .val (.ref b), .val (.ref c), .val (.int q), .val (.int (3 : Int32)), .val (.int (1 : Int32)), .val (.ref s_), .val (.int (57 : Int32))]) at_435 rfl rfl ?_
  refine k_iload at_437 rfl rfl ?_
  refine k_ifc (pc1 := 458) (pc' := 442) at_439 (by decide) (by decide) rfl (fun (cd91 : (1 : Int32) = (0 : Int32)) => False.elim (by exact absurd cd91 (by decide))) (fun (cd91 : ¬ (1 : Int32) = (0 : Int32)) => ?_)
  refine k_aload at_442 rfl rfl rfl ?_
  refine k_bipush (z := (42 : Int32)) at_444 rfl (by decide) ?_
  refine k_iload at_446 rfl rfl ?_
  refine k_callStatic (argsL := [(.ref s_), (.int (42 : Int32)), (.int p1)]) (rest := []) (W0 := 0) at_448 rfl (mt_cha l Z a0 hw cs hcs SC hEW sio SIO hsio 42 p1 hp1 s_ t_ (TX3 p0 p1 p2 q) h0 n0 OD SGD (show 42 + 4 < 63 by decide) rfl rfl rfl rfl rfl) (Kp.pure (fun _ _ q => q.2.symm)) (hw _ (List.mem_of_getElem? (i := 370) rfl)) (hw _ (List.mem_of_getElem? (i := 371) rfl)) (hw _ (List.mem_of_getElem? (i := 372) rfl)) (hw _ (List.mem_of_getElem? (i := 373) rfl)) (by decide) pd_cha rfl rfl rfl rfl (by decide) (by decide) (by decide) (by decide) ?_
  rintro _ _ - ⟨rfl, rfl⟩
  refine KW.sub (S' := fun _ => False) (fun x hx => hx.elim) ?_
  show KW true l Z M_law n0 (fun v _ => v = some (.int 1)) (EL, fun _ => False) h0 66 3273 451 #[.val (.int x0), .val (.int x1), .val (.int x2), .val (.int x3), .val (.int x4), .val (.int x5), .val (.int p0), .val (.int p1), .val (.int p2), .val (.int p3), .val (.int sm), .val (.ref P), .val (.ref a), .val (.ref b), .val (.ref c), .val (.int q), .val (.int (3 : Int32)), .val (.int (1 : Int32)), .val (.ref s_), .val (.int (57 : Int32))] [(.int (1 : Int32))]
  refine k_ifc (pc1 := 458) (pc' := 454) at_451 (by decide) (by decide) rfl (fun (cd92 : (1 : Int32) = (0 : Int32)) => False.elim (by exact absurd cd92 (by decide))) (fun (cd92 : ¬ (1 : Int32) = (0 : Int32)) => ?_)
  refine k_iconst (z := (1 : Int32)) at_454 rfl (by decide) ?_
  refine k_goto (pc' := 459) at_455 (by decide) (by decide) ?_
  refine k_istore (Ls' := #[.val (.int x0), .val (.int x1), .val (.int x2), .val (.int x3), .val (.int x4), .val (.int x5), .val (.int p0), .val (.int p1), .val (.int p2), .val (.int p3), .val (.int sm), .val (.ref P), .val (.ref a), .val (.ref b), .val (.ref c), .val (.int q), .val (.int (3 : Int32)), .val (.int (1 : Int32)), .val (.ref s_), .val (.int (57 : Int32))]) at_459 rfl rfl ?_
  refine k_iload at_461 rfl rfl ?_
  refine k_iconst (z := (2 : Int32)) at_463 rfl (by decide) ?_
  refine k_icmp (pc1 := 491) (pc' := 467) at_464 (by decide) (by decide) rfl (fun (cd93 : (3 : Int32) < (2 : Int32)) => False.elim (by exact absurd cd93 (by decide))) (fun (cd93 : ¬ (3 : Int32) < (2 : Int32)) => ?_)
  refine k_iload at_467 rfl rfl ?_
  refine k_ifc (pc1 := 488) (pc' := 472) at_469 (by decide) (by decide) rfl (fun (cd94 : (1 : Int32) = (0 : Int32)) => False.elim (by exact absurd cd94 (by decide))) (fun (cd94 : ¬ (1 : Int32) = (0 : Int32)) => ?_)
  refine k_aload at_472 rfl rfl rfl ?_
  refine k_bipush (z := (47 : Int32)) at_474 rfl (by decide) ?_
  refine k_iload at_476 rfl rfl ?_
  refine k_callStatic (argsL := [(.ref s_), (.int (47 : Int32)), (.int p2)]) (rest := []) (W0 := 0) at_478 rfl (mt_cha l Z a0 hw cs hcs SC hEW sio SIO hsio 47 p2 hp2 s_ t_ (TX3 p0 p1 p2 q) h0 n0 OD SGD (show 47 + 4 < 63 by decide) rfl rfl rfl rfl rfl) (Kp.pure (fun _ _ q => q.2.symm)) (hw _ (List.mem_of_getElem? (i := 370) rfl)) (hw _ (List.mem_of_getElem? (i := 371) rfl)) (hw _ (List.mem_of_getElem? (i := 372) rfl)) (hw _ (List.mem_of_getElem? (i := 373) rfl)) (by decide) pd_cha rfl rfl rfl rfl (by decide) (by decide) (by decide) (by decide) ?_
  rintro _ _ - ⟨rfl, rfl⟩
  refine KW.sub (S' := fun _ => False) (fun x hx => hx.elim) ?_
  show KW true l Z M_law n0 (fun v _ => v = some (.int 1)) (EL, fun _ => False) h0 66 3273 481 #[.val (.int x0), .val (.int x1), .val (.int x2), .val (.int x3), .val (.int x4), .val (.int x5), .val (.int p0), .val (.int p1), .val (.int p2), .val (.int p3), .val (.int sm), .val (.ref P), .val (.ref a), .val (.ref b), .val (.ref c), .val (.int q), .val (.int (3 : Int32)), .val (.int (1 : Int32)), .val (.ref s_), .val (.int (57 : Int32))] [(.int (1 : Int32))]
  refine k_ifc (pc1 := 488) (pc' := 484) at_481 (by decide) (by decide) rfl (fun (cd95 : (1 : Int32) = (0 : Int32)) => False.elim (by exact absurd cd95 (by decide))) (fun (cd95 : ¬ (1 : Int32) = (0 : Int32)) => ?_)
  refine k_iconst (z := (1 : Int32)) at_484 rfl (by decide) ?_
  refine k_goto (pc' := 489) at_485 (by decide) (by decide) ?_
  refine k_istore (Ls' := #[.val (.int x0), .val (.int x1), .val (.int x2), .val (.int x3), .val (.int x4), .val (.int x5), .val (.int p0), .val (.int p1), .val (.int p2), .val (.int p3), .val (.int sm), .val (.ref P), .val (.ref a), .val (.ref b), .val (.ref c), .val (.int q), .val (.int (3 : Int32)), .val (.int (1 : Int32)), .val (.ref s_), .val (.int (57 : Int32))]) at_489 rfl rfl ?_
  refine k_iload at_491 rfl rfl ?_
  refine k_iconst (z := (3 : Int32)) at_493 rfl (by decide) ?_
  refine k_icmp (pc1 := 521) (pc' := 497) at_494 (by decide) (by decide) rfl (fun (cd96 : (3 : Int32) < (3 : Int32)) => False.elim (by exact absurd cd96 (by decide))) (fun (cd96 : ¬ (3 : Int32) < (3 : Int32)) => ?_)
  refine k_iload at_497 rfl rfl ?_
  refine k_ifc (pc1 := 518) (pc' := 502) at_499 (by decide) (by decide) rfl (fun (cd97 : (1 : Int32) = (0 : Int32)) => False.elim (by exact absurd cd97 (by decide))) (fun (cd97 : ¬ (1 : Int32) = (0 : Int32)) => ?_)
  refine k_aload at_502 rfl rfl rfl ?_
  refine k_bipush (z := (52 : Int32)) at_504 rfl (by decide) ?_
  refine k_iload at_506 rfl rfl ?_
  refine k_callStatic (argsL := [(.ref s_), (.int (52 : Int32)), (.int q)]) (rest := []) (W0 := 0) at_508 rfl (mt_cha l Z a0 hw cs hcs SC hEW sio SIO hsio 52 q hq s_ t_ (TX3 p0 p1 p2 q) h0 n0 OD SGD (show 52 + 4 < 63 by decide) rfl rfl rfl rfl rfl) (Kp.pure (fun _ _ q => q.2.symm)) (hw _ (List.mem_of_getElem? (i := 370) rfl)) (hw _ (List.mem_of_getElem? (i := 371) rfl)) (hw _ (List.mem_of_getElem? (i := 372) rfl)) (hw _ (List.mem_of_getElem? (i := 373) rfl)) (by decide) pd_cha rfl rfl rfl rfl (by decide) (by decide) (by decide) (by decide) ?_
  rintro _ _ - ⟨rfl, rfl⟩
  refine KW.sub (S' := fun _ => False) (fun x hx => hx.elim) ?_
  show KW true l Z M_law n0 (fun v _ => v = some (.int 1)) (EL, fun _ => False) h0 66 3273 511 #[.val (.int x0), .val (.int x1), .val (.int x2), .val (.int x3), .val (.int x4), .val (.int x5), .val (.int p0), .val (.int p1), .val (.int p2), .val (.int p3), .val (.int sm), .val (.ref P), .val (.ref a), .val (.ref b), .val (.ref c), .val (.int q), .val (.int (3 : Int32)), .val (.int (1 : Int32)), .val (.ref s_), .val (.int (57 : Int32))] [(.int (1 : Int32))]
  refine k_ifc (pc1 := 518) (pc' := 514) at_511 (by decide) (by decide) rfl (fun (cd98 : (1 : Int32) = (0 : Int32)) => False.elim (by exact absurd cd98 (by decide))) (fun (cd98 : ¬ (1 : Int32) = (0 : Int32)) => ?_)
  refine k_iconst (z := (1 : Int32)) at_514 rfl (by decide) ?_
  refine k_goto (pc' := 519) at_515 (by decide) (by decide) ?_
  refine k_istore (Ls' := #[.val (.int x0), .val (.int x1), .val (.int x2), .val (.int x3), .val (.int x4), .val (.int x5), .val (.int p0), .val (.int p1), .val (.int p2), .val (.int p3), .val (.int sm), .val (.ref P), .val (.ref a), .val (.ref b), .val (.ref c), .val (.int q), .val (.int (3 : Int32)), .val (.int (1 : Int32)), .val (.ref s_), .val (.int (57 : Int32))]) at_519 rfl rfl ?_
  refine k_iload at_521 rfl rfl ?_
  refine k_ifc (pc1 := 612) (pc' := 526) at_523 (by decide) (by decide) rfl (fun (cd99 : (1 : Int32) = (0 : Int32)) => False.elim (by exact absurd cd99 (by decide))) (fun (cd99 : ¬ (1 : Int32) = (0 : Int32)) => ?_)
  refine k_aload at_526 rfl rfl rfl ?_
  refine k_iload at_528 rfl rfl ?_
  refine k_callVirtual (argsL := [(.int (57 : Int32))]) (rest := []) (W0 := 0) at_530 rfl (mt_scN l Z a0 hw cs hcs SC hEW sio SIO hsio 57 10 s_ t_ (TX3 p0 p1 p2 q) h0 n0 OD SGD (show 57 < 63 by decide) rfl) (Kp.pure (fun _ _ q => q.2.symm)) SGD.exa (hw _ (List.mem_of_getElem? (i := 261) rfl)) (hw _ (List.mem_of_getElem? (i := 262) rfl)) (hw _ (List.mem_of_getElem? (i := 264) rfl)) (hw _ (List.mem_of_getElem? (i := 99) rfl)) rfl (hw _ (List.mem_of_getElem? (i := 263) rfl)) (hw _ (List.mem_of_getElem? (i := 265) rfl)) (hw _ (List.mem_of_getElem? (i := 5) rfl)) (by decide) pd_sca rfl rfl rfl rfl (by decide) (by decide) (by decide) (by decide) ?_
  rintro _ _ - ⟨rfl, rfl⟩
  rw [show chB (10 : Int32) = 10 by decide]
  refine KW.sub (S' := fun _ => False) (fun x hx => hx.elim) ?_
  show KW true l Z M_law n0 (fun v _ => v = some (.int 1)) (EL, fun _ => False) h0 66 3273 533 #[.val (.int x0), .val (.int x1), .val (.int x2), .val (.int x3), .val (.int x4), .val (.int x5), .val (.int p0), .val (.int p1), .val (.int p2), .val (.int p3), .val (.int sm), .val (.ref P), .val (.ref a), .val (.ref b), .val (.ref c), .val (.int q), .val (.int (3 : Int32)), .val (.int (1 : Int32)), .val (.ref s_), .val (.int (57 : Int32))] [(.int (10 : Int32))]
  refine k_bipush (z := (10 : Int32)) at_533 rfl (by decide) ?_
  refine k_icmp (pc1 := 612) (pc' := 538) at_535 (by decide) (by decide) rfl (fun (cd100 : ¬ (10 : Int32) = (10 : Int32)) => False.elim (by exact absurd cd100 (by decide))) (fun (cd100 : (10 : Int32) = (10 : Int32)) => ?_)
  refine k_aload at_538 rfl rfl rfl ?_
  refine k_iload at_540 rfl rfl ?_
  refine k_iconst (z := (1 : Int32)) at_542 rfl (by decide) ?_
  refine k_iadd at_543 rfl ?_
  refine KW.top (congrArg Value.int (show ((57 : Int32) + (1 : Int32)) = (58 : Int32) by decide)) ?_
  show KW true l Z M_law n0 (fun v _ => v = some (.int 1)) (EL, fun _ => False) h0 66 3273 544 #[.val (.int x0), .val (.int x1), .val (.int x2), .val (.int x3), .val (.int x4), .val (.int x5), .val (.int p0), .val (.int p1), .val (.int p2), .val (.int p3), .val (.int sm), .val (.ref P), .val (.ref a), .val (.ref b), .val (.ref c), .val (.int q), .val (.int (3 : Int32)), .val (.int (1 : Int32)), .val (.ref s_), .val (.int (57 : Int32))] [(.int (58 : Int32)), (.ref s_)]
  refine k_callVirtual (argsL := [(.int (58 : Int32))]) (rest := []) (W0 := 0) at_544 rfl (mt_scN l Z a0 hw cs hcs SC hEW sio SIO hsio 58 60 s_ t_ (TX3 p0 p1 p2 q) h0 n0 OD SGD (show 58 < 63 by decide) rfl) (Kp.pure (fun _ _ q => q.2.symm)) SGD.exa (hw _ (List.mem_of_getElem? (i := 261) rfl)) (hw _ (List.mem_of_getElem? (i := 262) rfl)) (hw _ (List.mem_of_getElem? (i := 264) rfl)) (hw _ (List.mem_of_getElem? (i := 99) rfl)) rfl (hw _ (List.mem_of_getElem? (i := 263) rfl)) (hw _ (List.mem_of_getElem? (i := 265) rfl)) (hw _ (List.mem_of_getElem? (i := 5) rfl)) (by decide) pd_sca rfl rfl rfl rfl (by decide) (by decide) (by decide) (by decide) ?_
  rintro _ _ - ⟨rfl, rfl⟩
  rw [show chB (60 : Int32) = 60 by decide]
  refine KW.sub (S' := fun _ => False) (fun x hx => hx.elim) ?_
  show KW true l Z M_law n0 (fun v _ => v = some (.int 1)) (EL, fun _ => False) h0 66 3273 547 #[.val (.int x0), .val (.int x1), .val (.int x2), .val (.int x3), .val (.int x4), .val (.int x5), .val (.int p0), .val (.int p1), .val (.int p2), .val (.int p3), .val (.int sm), .val (.ref P), .val (.ref a), .val (.ref b), .val (.ref c), .val (.int q), .val (.int (3 : Int32)), .val (.int (1 : Int32)), .val (.ref s_), .val (.int (57 : Int32))] [(.int (60 : Int32))]
  refine k_bipush (z := (60 : Int32)) at_547 rfl (by decide) ?_
  refine k_icmp (pc1 := 612) (pc' := 552) at_549 (by decide) (by decide) rfl (fun (cd101 : ¬ (60 : Int32) = (60 : Int32)) => False.elim (by exact absurd cd101 (by decide))) (fun (cd101 : (60 : Int32) = (60 : Int32)) => ?_)
  refine k_aload at_552 rfl rfl rfl ?_
  refine k_iload at_554 rfl rfl ?_
  refine k_iconst (z := (2 : Int32)) at_556 rfl (by decide) ?_
  refine k_iadd at_557 rfl ?_
  refine KW.top (congrArg Value.int (show ((57 : Int32) + (2 : Int32)) = (59 : Int32) by decide)) ?_
  show KW true l Z M_law n0 (fun v _ => v = some (.int 1)) (EL, fun _ => False) h0 66 3273 558 #[.val (.int x0), .val (.int x1), .val (.int x2), .val (.int x3), .val (.int x4), .val (.int x5), .val (.int p0), .val (.int p1), .val (.int p2), .val (.int p3), .val (.int sm), .val (.ref P), .val (.ref a), .val (.ref b), .val (.ref c), .val (.int q), .val (.int (3 : Int32)), .val (.int (1 : Int32)), .val (.ref s_), .val (.int (57 : Int32))] [(.int (59 : Int32)), (.ref s_)]
  refine k_callVirtual (argsL := [(.int (59 : Int32))]) (rest := []) (W0 := 0) at_558 rfl (mt_scN l Z a0 hw cs hcs SC hEW sio SIO hsio 59 47 s_ t_ (TX3 p0 p1 p2 q) h0 n0 OD SGD (show 59 < 63 by decide) rfl) (Kp.pure (fun _ _ q => q.2.symm)) SGD.exa (hw _ (List.mem_of_getElem? (i := 261) rfl)) (hw _ (List.mem_of_getElem? (i := 262) rfl)) (hw _ (List.mem_of_getElem? (i := 264) rfl)) (hw _ (List.mem_of_getElem? (i := 99) rfl)) rfl (hw _ (List.mem_of_getElem? (i := 263) rfl)) (hw _ (List.mem_of_getElem? (i := 265) rfl)) (hw _ (List.mem_of_getElem? (i := 5) rfl)) (by decide) pd_sca rfl rfl rfl rfl (by decide) (by decide) (by decide) (by decide) ?_
  rintro _ _ - ⟨rfl, rfl⟩
  rw [show chB (47 : Int32) = 47 by decide]
  refine KW.sub (S' := fun _ => False) (fun x hx => hx.elim) ?_
  show KW true l Z M_law n0 (fun v _ => v = some (.int 1)) (EL, fun _ => False) h0 66 3273 561 #[.val (.int x0), .val (.int x1), .val (.int x2), .val (.int x3), .val (.int x4), .val (.int x5), .val (.int p0), .val (.int p1), .val (.int p2), .val (.int p3), .val (.int sm), .val (.ref P), .val (.ref a), .val (.ref b), .val (.ref c), .val (.int q), .val (.int (3 : Int32)), .val (.int (1 : Int32)), .val (.ref s_), .val (.int (57 : Int32))] [(.int (47 : Int32))]
  refine k_bipush (z := (47 : Int32)) at_561 rfl (by decide) ?_
  refine k_icmp (pc1 := 612) (pc' := 566) at_563 (by decide) (by decide) rfl (fun (cd102 : ¬ (47 : Int32) = (47 : Int32)) => False.elim (by exact absurd cd102 (by decide))) (fun (cd102 : (47 : Int32) = (47 : Int32)) => ?_)
  refine k_aload at_566 rfl rfl rfl ?_
  refine k_iload at_568 rfl rfl ?_
  refine k_iconst (z := (3 : Int32)) at_570 rfl (by decide) ?_
  refine k_iadd at_571 rfl ?_
  refine KW.top (congrArg Value.int (show ((57 : Int32) + (3 : Int32)) = (60 : Int32) by decide)) ?_
  show KW true l Z M_law n0 (fun v _ => v = some (.int 1)) (EL, fun _ => False) h0 66 3273 572 #[.val (.int x0), .val (.int x1), .val (.int x2), .val (.int x3), .val (.int x4), .val (.int x5), .val (.int p0), .val (.int p1), .val (.int p2), .val (.int p3), .val (.int sm), .val (.ref P), .val (.ref a), .val (.ref b), .val (.ref c), .val (.int q), .val (.int (3 : Int32)), .val (.int (1 : Int32)), .val (.ref s_), .val (.int (57 : Int32))] [(.int (60 : Int32)), (.ref s_)]
  refine k_callVirtual (argsL := [(.int (60 : Int32))]) (rest := []) (W0 := 0) at_572 rfl (mt_scN l Z a0 hw cs hcs SC hEW sio SIO hsio 60 (nbI p0) s_ t_ (TX3 p0 p1 p2 q) h0 n0 OD SGD (show 60 < 63 by decide) rfl) (Kp.pure (fun _ _ q => q.2.symm)) SGD.exa (hw _ (List.mem_of_getElem? (i := 261) rfl)) (hw _ (List.mem_of_getElem? (i := 262) rfl)) (hw _ (List.mem_of_getElem? (i := 264) rfl)) (hw _ (List.mem_of_getElem? (i := 99) rfl)) rfl (hw _ (List.mem_of_getElem? (i := 263) rfl)) (hw _ (List.mem_of_getElem? (i := 265) rfl)) (hw _ (List.mem_of_getElem? (i := 5) rfl)) (by decide) pd_sca rfl rfl rfl rfl (by decide) (by decide) (by decide) (by decide) ?_
  rintro _ _ - ⟨rfl, rfl⟩
  rw [chB_nbI hp0]
  refine KW.sub (S' := fun _ => False) (fun x hx => hx.elim) ?_
  show KW true l Z M_law n0 (fun v _ => v = some (.int 1)) (EL, fun _ => False) h0 66 3273 575 #[.val (.int x0), .val (.int x1), .val (.int x2), .val (.int x3), .val (.int x4), .val (.int x5), .val (.int p0), .val (.int p1), .val (.int p2), .val (.int p3), .val (.int sm), .val (.ref P), .val (.ref a), .val (.ref b), .val (.ref c), .val (.int q), .val (.int (3 : Int32)), .val (.int (1 : Int32)), .val (.ref s_), .val (.int (57 : Int32))] [(.int p0)]
  refine k_iload at_575 rfl rfl ?_
  refine k_icmp (pc1 := 612) (pc' := 580) at_577 (by decide) (by decide) rfl (fun (cd103 : ¬ p0 = p0) => False.elim (by exact cd103 rfl)) (fun (cd103 : p0 = p0) => ?_)
  refine k_aload at_580 rfl rfl rfl ?_
  refine k_iload at_582 rfl rfl ?_
  refine k_iconst (z := (4 : Int32)) at_584 rfl (by decide) ?_
  refine k_iadd at_585 rfl ?_
  refine KW.top (congrArg Value.int (show ((57 : Int32) + (4 : Int32)) = (61 : Int32) by decide)) ?_
  show KW true l Z M_law n0 (fun v _ => v = some (.int 1)) (EL, fun _ => False) h0 66 3273 586 #[.val (.int x0), .val (.int x1), .val (.int x2), .val (.int x3), .val (.int x4), .val (.int x5), .val (.int p0), .val (.int p1), .val (.int p2), .val (.int p3), .val (.int sm), .val (.ref P), .val (.ref a), .val (.ref b), .val (.ref c), .val (.int q), .val (.int (3 : Int32)), .val (.int (1 : Int32)), .val (.ref s_), .val (.int (57 : Int32))] [(.int (61 : Int32)), (.ref s_)]
  refine k_callVirtual (argsL := [(.int (61 : Int32))]) (rest := []) (W0 := 0) at_586 rfl (mt_scN l Z a0 hw cs hcs SC hEW sio SIO hsio 61 62 s_ t_ (TX3 p0 p1 p2 q) h0 n0 OD SGD (show 61 < 63 by decide) rfl) (Kp.pure (fun _ _ q => q.2.symm)) SGD.exa (hw _ (List.mem_of_getElem? (i := 261) rfl)) (hw _ (List.mem_of_getElem? (i := 262) rfl)) (hw _ (List.mem_of_getElem? (i := 264) rfl)) (hw _ (List.mem_of_getElem? (i := 99) rfl)) rfl (hw _ (List.mem_of_getElem? (i := 263) rfl)) (hw _ (List.mem_of_getElem? (i := 265) rfl)) (hw _ (List.mem_of_getElem? (i := 5) rfl)) (by decide) pd_sca rfl rfl rfl rfl (by decide) (by decide) (by decide) (by decide) ?_
  rintro _ _ - ⟨rfl, rfl⟩
  rw [show chB (62 : Int32) = 62 by decide]
  refine KW.sub (S' := fun _ => False) (fun x hx => hx.elim) ?_
  show KW true l Z M_law n0 (fun v _ => v = some (.int 1)) (EL, fun _ => False) h0 66 3273 589 #[.val (.int x0), .val (.int x1), .val (.int x2), .val (.int x3), .val (.int x4), .val (.int x5), .val (.int p0), .val (.int p1), .val (.int p2), .val (.int p3), .val (.int sm), .val (.ref P), .val (.ref a), .val (.ref b), .val (.ref c), .val (.int q), .val (.int (3 : Int32)), .val (.int (1 : Int32)), .val (.ref s_), .val (.int (57 : Int32))] [(.int (62 : Int32))]
  refine k_bipush (z := (62 : Int32)) at_589 rfl (by decide) ?_
  refine k_icmp (pc1 := 612) (pc' := 594) at_591 (by decide) (by decide) rfl (fun (cd104 : ¬ (62 : Int32) = (62 : Int32)) => False.elim (by exact absurd cd104 (by decide))) (fun (cd104 : (62 : Int32) = (62 : Int32)) => ?_)
  refine k_aload at_594 rfl rfl rfl ?_
  refine k_iload at_596 rfl rfl ?_
  refine k_iconst (z := (5 : Int32)) at_598 rfl (by decide) ?_
  refine k_iadd at_599 rfl ?_
  refine KW.top (congrArg Value.int (show ((57 : Int32) + (5 : Int32)) = (62 : Int32) by decide)) ?_
  show KW true l Z M_law n0 (fun v _ => v = some (.int 1)) (EL, fun _ => False) h0 66 3273 600 #[.val (.int x0), .val (.int x1), .val (.int x2), .val (.int x3), .val (.int x4), .val (.int x5), .val (.int p0), .val (.int p1), .val (.int p2), .val (.int p3), .val (.int sm), .val (.ref P), .val (.ref a), .val (.ref b), .val (.ref c), .val (.int q), .val (.int (3 : Int32)), .val (.int (1 : Int32)), .val (.ref s_), .val (.int (57 : Int32))] [(.int (62 : Int32)), (.ref s_)]
  refine k_callVirtual (argsL := [(.int (62 : Int32))]) (rest := []) (W0 := 0) at_600 rfl (mt_scN l Z a0 hw cs hcs SC hEW sio SIO hsio 62 10 s_ t_ (TX3 p0 p1 p2 q) h0 n0 OD SGD (show 62 < 63 by decide) rfl) (Kp.pure (fun _ _ q => q.2.symm)) SGD.exa (hw _ (List.mem_of_getElem? (i := 261) rfl)) (hw _ (List.mem_of_getElem? (i := 262) rfl)) (hw _ (List.mem_of_getElem? (i := 264) rfl)) (hw _ (List.mem_of_getElem? (i := 99) rfl)) rfl (hw _ (List.mem_of_getElem? (i := 263) rfl)) (hw _ (List.mem_of_getElem? (i := 265) rfl)) (hw _ (List.mem_of_getElem? (i := 5) rfl)) (by decide) pd_sca rfl rfl rfl rfl (by decide) (by decide) (by decide) (by decide) ?_
  rintro _ _ - ⟨rfl, rfl⟩
  rw [show chB (10 : Int32) = 10 by decide]
  refine KW.sub (S' := fun _ => False) (fun x hx => hx.elim) ?_
  show KW true l Z M_law n0 (fun v _ => v = some (.int 1)) (EL, fun _ => False) h0 66 3273 603 #[.val (.int x0), .val (.int x1), .val (.int x2), .val (.int x3), .val (.int x4), .val (.int x5), .val (.int p0), .val (.int p1), .val (.int p2), .val (.int p3), .val (.int sm), .val (.ref P), .val (.ref a), .val (.ref b), .val (.ref c), .val (.int q), .val (.int (3 : Int32)), .val (.int (1 : Int32)), .val (.ref s_), .val (.int (57 : Int32))] [(.int (10 : Int32))]
  refine k_bipush (z := (10 : Int32)) at_603 rfl (by decide) ?_
  refine k_icmp (pc1 := 612) (pc' := 608) at_605 (by decide) (by decide) rfl (fun (cd105 : ¬ (10 : Int32) = (10 : Int32)) => False.elim (by exact absurd cd105 (by decide))) (fun (cd105 : (10 : Int32) = (10 : Int32)) => ?_)
  refine k_iconst (z := (1 : Int32)) at_608 rfl (by decide) ?_
  refine k_goto (pc' := 613) at_609 (by decide) (by decide) ?_
  exact k_retNar at_613 rfl (by simp) (z' := (1 : Int32)) (by decide) (by decide) (by decide) rfl
set_option maxRecDepth 65536 in
set_option maxHeartbeats 40000000 in
theorem kw_126 (l : Launch) (Z : State) (a0 : Array Value) (hw : ∀ d ∈ tables_1, d.before a0 Z = true) (cs : Int32) (hcs : ¬ cs = 0) (SC : Sta Z Z.heap "java/lang/String" "COMPACT_STRINGS" "Z" (.int cs)) (hEW : EW Z a0 EL) (de : Addr) (ckd : ClassId) (SDE : Sta Z Z.heap "java/util/ArrayList" "DEFAULTCAPACITY_EMPTY_ELEMENTDATA" "[Ljava/lang/Object;" (.ref de)) (DE : Arv Z Z.heap de ckd (.object "java/lang/Object") 0 [] .null) (x0 x1 x2 x3 x4 x5 p0 p1 p2 p3 q sm : Int32) (P a b c : Addr) (BP : Nat) (h0 : Heap) (n0 : Nat) (OD : Old Z n0 h0) (hdn : de < n0) (LFP : Lf Z h0 n0 de 0 BP P (nbI p0)) (LFa : Lf Z h0 n0 de BP h0.size a (nbI p1)) (LFb : Lf Z h0 n0 de BP h0.size b (nbI p2)) (LFc : Lf Z h0 n0 de BP h0.size c (nbI q)) (hp0 : Ch p0) (hp1 : Ch p1) (hp2 : Ch p2) (hp3 : Ch p3) (hq : Ch q) (sio : Value) (SIO : Sta Z Z.heap "jdk/internal/util/Preconditions" "SIOOBE_FORMATTER" "Ljava/util/function/BiFunction;" sio) (hsio : sio.isRef = true) : KW true l Z M_law n0 (fun v _ => v = some (.int 1)) (EL, fun _ => False) h0 24 164 126 #[.val (.int x0), .val (.int x1), .val (.int x2), .val (.int x3), .val (.int x4), .val (.int x5), .val (.int p0), .val (.int p1), .val (.int p2), .val (.int p3), .val (.int sm), .val (.ref P), .val (.ref a), .val (.ref b), .val (.ref c), .val (.int q), .unset, .unset, .unset, .unset] [] := by
  obtain ⟨lP, XP, ALP, hlB, -, glP⟩ := id LFP
  have hdl : de ≠ lP := Nat.ne_of_lt (Nat.lt_of_lt_of_le hdn glP)
  refine k_iload at_126 rfl rfl ?_
  refine k_iconst (z := (3 : Int32)) at_128 rfl (by decide) ?_
  refine k_iand at_129 rfl ?_
  rcases own_n4 x4 with hn | hn | hn | hn
  · refine KW.top (congrArg Value.int hn) ?_
    show KW true l Z M_law n0 (fun v _ => v = some (.int 1)) (EL, fun _ => False) h0 24 164 130 #[.val (.int x0), .val (.int x1), .val (.int x2), .val (.int x3), .val (.int x4), .val (.int x5), .val (.int p0), .val (.int p1), .val (.int p2), .val (.int p3), .val (.int sm), .val (.ref P), .val (.ref a), .val (.ref b), .val (.ref c), .val (.int q), .unset, .unset, .unset, .unset] [(.int (0 : Int32))]
    refine k_istore (Ls' := #[.val (.int x0), .val (.int x1), .val (.int x2), .val (.int x3), .val (.int x4), .val (.int x5), .val (.int p0), .val (.int p1), .val (.int p2), .val (.int p3), .val (.int sm), .val (.ref P), .val (.ref a), .val (.ref b), .val (.ref c), .val (.int q), .val (.int (0 : Int32)), .unset, .unset, .unset]) at_130 rfl rfl ?_
    refine k_iconst (z := (1 : Int32)) at_132 rfl (by decide) ?_
    refine k_istore (Ls' := #[.val (.int x0), .val (.int x1), .val (.int x2), .val (.int x3), .val (.int x4), .val (.int x5), .val (.int p0), .val (.int p1), .val (.int p2), .val (.int p3), .val (.int sm), .val (.ref P), .val (.ref a), .val (.ref b), .val (.ref c), .val (.int q), .val (.int (0 : Int32)), .val (.int (1 : Int32)), .unset, .unset]) at_133 rfl rfl ?_
    refine k_iload at_135 rfl rfl ?_
    refine k_iconst (z := (1 : Int32)) at_137 rfl (by decide) ?_
    refine k_icmp (pc1 := 165) (pc' := 141) at_138 (by decide) (by decide) rfl (fun (cd1 : (0 : Int32) < (1 : Int32)) => ?_) (fun (cd1 : ¬ (0 : Int32) < (1 : Int32)) => False.elim (by exact absurd cd1 (by decide)))
    refine k_iload at_165 rfl rfl ?_
    refine k_iconst (z := (2 : Int32)) at_167 rfl (by decide) ?_
    refine k_icmp (pc1 := 195) (pc' := 171) at_168 (by decide) (by decide) rfl (fun (cd2 : (0 : Int32) < (2 : Int32)) => ?_) (fun (cd2 : ¬ (0 : Int32) < (2 : Int32)) => False.elim (by exact absurd cd2 (by decide)))
    refine k_iload at_195 rfl rfl ?_
    refine k_iconst (z := (3 : Int32)) at_197 rfl (by decide) ?_
    refine k_icmp (pc1 := 225) (pc' := 201) at_198 (by decide) (by decide) rfl (fun (cd3 : (0 : Int32) < (3 : Int32)) => ?_) (fun (cd3 : ¬ (0 : Int32) < (3 : Int32)) => False.elim (by exact absurd cd3 (by decide)))
    refine k_aload at_225 rfl rfl rfl ?_
    refine k_callVirtualW (argsL := []) (rest := []) (W0 := 0) at_227 rfl (mt_dl l Z a0 hw cs hcs SC hEW de P (nbI p0) h0 n0 OD LFP.wide hdn) XP.exa (hw _ (List.mem_of_getElem? (i := 81) rfl)) (hw _ (List.mem_of_getElem? (i := 82) rfl)) (hw _ (List.mem_of_getElem? (i := 84) rfl)) (hw _ (List.mem_of_getElem? (i := 84) rfl)) rfl (hw _ (List.mem_of_getElem? (i := 83) rfl)) (hw _ (List.mem_of_getElem? (i := 85) rfl)) (hw _ (List.mem_of_getElem? (i := 2) rfl)) (by decide) pd_dl rfl rfl rfl rfl (by decide) (by decide) (by decide) (by decide) ?_
    rintro _ hD - ⟨s_, t_, rfl, KD, SGD⟩
    have ODD := OD.keep KD all0
    show KW true l Z M_law n0 (fun v _ => v = some (.int 1)) (EL, fun _ => False) hD 38 1183 230 #[.val (.int x0), .val (.int x1), .val (.int x2), .val (.int x3), .val (.int x4), .val (.int x5), .val (.int p0), .val (.int p1), .val (.int p2), .val (.int p3), .val (.int sm), .val (.ref P), .val (.ref a), .val (.ref b), .val (.ref c), .val (.int q), .val (.int (0 : Int32)), .val (.int (1 : Int32)), .unset, .unset] [(.ref s_)]
    exact kw_t0 l Z a0 hw cs hcs SC hEW x0 x1 x2 x3 x4 x5 p0 p1 p2 p3 q sm P a b c s_ t_ hD n0 ODD SGD hp0 hp1 hp2 hp3 hq sio SIO hsio
  · refine KW.top (congrArg Value.int hn) ?_
    show KW true l Z M_law n0 (fun v _ => v = some (.int 1)) (EL, fun _ => False) h0 24 164 130 #[.val (.int x0), .val (.int x1), .val (.int x2), .val (.int x3), .val (.int x4), .val (.int x5), .val (.int p0), .val (.int p1), .val (.int p2), .val (.int p3), .val (.int sm), .val (.ref P), .val (.ref a), .val (.ref b), .val (.ref c), .val (.int q), .unset, .unset, .unset, .unset] [(.int (1 : Int32))]
    refine k_istore (Ls' := #[.val (.int x0), .val (.int x1), .val (.int x2), .val (.int x3), .val (.int x4), .val (.int x5), .val (.int p0), .val (.int p1), .val (.int p2), .val (.int p3), .val (.int sm), .val (.ref P), .val (.ref a), .val (.ref b), .val (.ref c), .val (.int q), .val (.int (1 : Int32)), .unset, .unset, .unset]) at_130 rfl rfl ?_
    refine k_iconst (z := (1 : Int32)) at_132 rfl (by decide) ?_
    refine k_istore (Ls' := #[.val (.int x0), .val (.int x1), .val (.int x2), .val (.int x3), .val (.int x4), .val (.int x5), .val (.int p0), .val (.int p1), .val (.int p2), .val (.int p3), .val (.int sm), .val (.ref P), .val (.ref a), .val (.ref b), .val (.ref c), .val (.int q), .val (.int (1 : Int32)), .val (.int (1 : Int32)), .unset, .unset]) at_133 rfl rfl ?_
    refine k_iload at_135 rfl rfl ?_
    refine k_iconst (z := (1 : Int32)) at_137 rfl (by decide) ?_
    refine k_icmp (pc1 := 165) (pc' := 141) at_138 (by decide) (by decide) rfl (fun (cd4 : (1 : Int32) < (1 : Int32)) => False.elim (by exact absurd cd4 (by decide))) (fun (cd4 : ¬ (1 : Int32) < (1 : Int32)) => ?_)
    refine k_iload at_141 rfl rfl ?_
    refine k_ifc (pc1 := 162) (pc' := 146) at_143 (by decide) (by decide) rfl (fun (cd5 : (1 : Int32) = (0 : Int32)) => False.elim (by exact absurd cd5 (by decide))) (fun (cd5 : ¬ (1 : Int32) = (0 : Int32)) => ?_)
    refine k_aload at_146 rfl rfl rfl ?_
    refine k_aload at_148 rfl rfl rfl ?_
    refine k_callVirtual (argsL := [(.ref a)]) (rest := []) (W0 := 0) at_150 rfl (mt_xaE l Z a0 hw cs hcs SC hEW de ckd SDE DE P lP a 0 [nbI p0] 0 h0 n0 OD glP XP ALP LFa.exa) (fun _ _ _ q => by obtain ⟨-, _, -, -, K, -⟩ := q; exact ⟨[lP], K, allS (Sf.exa ALP.1 (by decide) (by decide)) all0⟩) XP.exa (hw _ (List.mem_of_getElem? (i := 282) rfl)) (hw _ (List.mem_of_getElem? (i := 283) rfl)) (hw _ (List.mem_of_getElem? (i := 285) rfl)) (hw _ (List.mem_of_getElem? (i := 84) rfl)) rfl (hw _ (List.mem_of_getElem? (i := 284) rfl)) (hw _ (List.mem_of_getElem? (i := 286) rfl)) (hw _ (List.mem_of_getElem? (i := 2) rfl)) (by decide) pd_xa rfl rfl rfl rfl (by decide) (by decide) (by decide) (by decide) ?_
    rintro _ hA0 - ⟨rfl, e1, he1, ge1, KA0, AL0⟩
    have hle1 : lP ≤ e1 := Nat.le_of_lt (Nat.lt_of_lt_of_le ALP.1.lt he1)
    have hde : de ≠ e1 := Nat.ne_of_lt (Nat.lt_of_lt_of_le hdn ge1)
    have XP0 := XP.keep KA0 (allS (Or.inr (Nat.le_refl _)) all0)
    have OD0 := OD.keep KA0 (allS glP all0)
    have LFa0 := LFa.keep KA0 (allS ⟨Or.inl hlB, hdl⟩ all0)
    have LFb0 := LFb.keep KA0 (allS ⟨Or.inl hlB, hdl⟩ all0)
    have LFc0 := LFc.keep KA0 (allS ⟨Or.inl hlB, hdl⟩ all0)
    refine KW.sub (S' := fun _ => False) (fun x hx => hx.elim) ?_
    show KW true l Z M_law n0 (fun v _ => v = some (.int 1)) (EL, fun _ => False) hA0 25 174 153 #[.val (.int x0), .val (.int x1), .val (.int x2), .val (.int x3), .val (.int x4), .val (.int x5), .val (.int p0), .val (.int p1), .val (.int p2), .val (.int p3), .val (.int sm), .val (.ref P), .val (.ref a), .val (.ref b), .val (.ref c), .val (.int q), .val (.int (1 : Int32)), .val (.int (1 : Int32)), .unset, .unset] [(.ref P)]
    refine k_aload at_153 rfl rfl rfl ?_
    refine k_acmpNe (pc1 := 162) (pc' := 158) at_155 rfl rfl (by decide) (by decide) rfl (fun (cd6 : ¬ (Value.ref P) = (Value.ref P)) => False.elim (by exact cd6 rfl)) (fun (cd6 : (Value.ref P) = (Value.ref P)) => ?_)
    refine k_iconst (z := (1 : Int32)) at_158 rfl (by decide) ?_
    refine k_goto (pc' := 163) at_159 (by decide) (by decide) ?_
    refine k_istore (Ls' := #[.val (.int x0), .val (.int x1), .val (.int x2), .val (.int x3), .val (.int x4), .val (.int x5), .val (.int p0), .val (.int p1), .val (.int p2), .val (.int p3), .val (.int sm), .val (.ref P), .val (.ref a), .val (.ref b), .val (.ref c), .val (.int q), .val (.int (1 : Int32)), .val (.int (1 : Int32)), .unset, .unset]) at_163 rfl rfl ?_
    refine k_iload at_165 rfl rfl ?_
    refine k_iconst (z := (2 : Int32)) at_167 rfl (by decide) ?_
    refine k_icmp (pc1 := 195) (pc' := 171) at_168 (by decide) (by decide) rfl (fun (cd7 : (1 : Int32) < (2 : Int32)) => ?_) (fun (cd7 : ¬ (1 : Int32) < (2 : Int32)) => False.elim (by exact absurd cd7 (by decide)))
    refine k_iload at_195 rfl rfl ?_
    refine k_iconst (z := (3 : Int32)) at_197 rfl (by decide) ?_
    refine k_icmp (pc1 := 225) (pc' := 201) at_198 (by decide) (by decide) rfl (fun (cd8 : (1 : Int32) < (3 : Int32)) => ?_) (fun (cd8 : ¬ (1 : Int32) < (3 : Int32)) => False.elim (by exact absurd cd8 (by decide)))
    refine k_aload at_225 rfl rfl rfl ?_
    refine k_callVirtualW (argsL := []) (rest := []) (W0 := 0) at_227 rfl (mt_dp l Z a0 hw cs hcs SC hEW de P lP e1 (nbI p0) (0 + 1) [(a, nbI p1)] hA0 n0 OD0 ⟨XP0, AL0, AL0.1.lt, AL0.lte (by simp)⟩ (allC LFa0.wide allC0) hdn (by simp)) XP0.exa (hw _ (List.mem_of_getElem? (i := 81) rfl)) (hw _ (List.mem_of_getElem? (i := 82) rfl)) (hw _ (List.mem_of_getElem? (i := 84) rfl)) (hw _ (List.mem_of_getElem? (i := 84) rfl)) rfl (hw _ (List.mem_of_getElem? (i := 83) rfl)) (hw _ (List.mem_of_getElem? (i := 85) rfl)) (hw _ (List.mem_of_getElem? (i := 2) rfl)) (by decide) pd_dp rfl rfl rfl rfl (by decide) (by decide) (by decide) (by decide) ?_
    rintro _ hD - ⟨s_, t_, rfl, KD, SGD⟩
    have ODD := OD0.keep KD all0
    show KW true l Z M_law n0 (fun v _ => v = some (.int 1)) (EL, fun _ => False) hD 64 3253 230 #[.val (.int x0), .val (.int x1), .val (.int x2), .val (.int x3), .val (.int x4), .val (.int x5), .val (.int p0), .val (.int p1), .val (.int p2), .val (.int p3), .val (.int sm), .val (.ref P), .val (.ref a), .val (.ref b), .val (.ref c), .val (.int q), .val (.int (1 : Int32)), .val (.int (1 : Int32)), .unset, .unset] [(.ref s_)]
    exact kw_t1 l Z a0 hw cs hcs SC hEW x0 x1 x2 x3 x4 x5 p0 p1 p2 p3 q sm P a b c s_ t_ hD n0 ODD SGD hp0 hp1 hp2 hp3 hq sio SIO hsio
  · refine KW.top (congrArg Value.int hn) ?_
    show KW true l Z M_law n0 (fun v _ => v = some (.int 1)) (EL, fun _ => False) h0 24 164 130 #[.val (.int x0), .val (.int x1), .val (.int x2), .val (.int x3), .val (.int x4), .val (.int x5), .val (.int p0), .val (.int p1), .val (.int p2), .val (.int p3), .val (.int sm), .val (.ref P), .val (.ref a), .val (.ref b), .val (.ref c), .val (.int q), .unset, .unset, .unset, .unset] [(.int (2 : Int32))]
    refine k_istore (Ls' := #[.val (.int x0), .val (.int x1), .val (.int x2), .val (.int x3), .val (.int x4), .val (.int x5), .val (.int p0), .val (.int p1), .val (.int p2), .val (.int p3), .val (.int sm), .val (.ref P), .val (.ref a), .val (.ref b), .val (.ref c), .val (.int q), .val (.int (2 : Int32)), .unset, .unset, .unset]) at_130 rfl rfl ?_
    refine k_iconst (z := (1 : Int32)) at_132 rfl (by decide) ?_
    refine k_istore (Ls' := #[.val (.int x0), .val (.int x1), .val (.int x2), .val (.int x3), .val (.int x4), .val (.int x5), .val (.int p0), .val (.int p1), .val (.int p2), .val (.int p3), .val (.int sm), .val (.ref P), .val (.ref a), .val (.ref b), .val (.ref c), .val (.int q), .val (.int (2 : Int32)), .val (.int (1 : Int32)), .unset, .unset]) at_133 rfl rfl ?_
    refine k_iload at_135 rfl rfl ?_
    refine k_iconst (z := (1 : Int32)) at_137 rfl (by decide) ?_
    refine k_icmp (pc1 := 165) (pc' := 141) at_138 (by decide) (by decide) rfl (fun (cd9 : (2 : Int32) < (1 : Int32)) => False.elim (by exact absurd cd9 (by decide))) (fun (cd9 : ¬ (2 : Int32) < (1 : Int32)) => ?_)
    refine k_iload at_141 rfl rfl ?_
    refine k_ifc (pc1 := 162) (pc' := 146) at_143 (by decide) (by decide) rfl (fun (cd10 : (1 : Int32) = (0 : Int32)) => False.elim (by exact absurd cd10 (by decide))) (fun (cd10 : ¬ (1 : Int32) = (0 : Int32)) => ?_)
    refine k_aload at_146 rfl rfl rfl ?_
    refine k_aload at_148 rfl rfl rfl ?_
    refine k_callVirtual (argsL := [(.ref a)]) (rest := []) (W0 := 0) at_150 rfl (mt_xaE l Z a0 hw cs hcs SC hEW de ckd SDE DE P lP a 0 [nbI p0] 0 h0 n0 OD glP XP ALP LFa.exa) (fun _ _ _ q => by obtain ⟨-, _, -, -, K, -⟩ := q; exact ⟨[lP], K, allS (Sf.exa ALP.1 (by decide) (by decide)) all0⟩) XP.exa (hw _ (List.mem_of_getElem? (i := 282) rfl)) (hw _ (List.mem_of_getElem? (i := 283) rfl)) (hw _ (List.mem_of_getElem? (i := 285) rfl)) (hw _ (List.mem_of_getElem? (i := 84) rfl)) rfl (hw _ (List.mem_of_getElem? (i := 284) rfl)) (hw _ (List.mem_of_getElem? (i := 286) rfl)) (hw _ (List.mem_of_getElem? (i := 2) rfl)) (by decide) pd_xa rfl rfl rfl rfl (by decide) (by decide) (by decide) (by decide) ?_
    rintro _ hA0 - ⟨rfl, e1, he1, ge1, KA0, AL0⟩
    have hle1 : lP ≤ e1 := Nat.le_of_lt (Nat.lt_of_lt_of_le ALP.1.lt he1)
    have hde : de ≠ e1 := Nat.ne_of_lt (Nat.lt_of_lt_of_le hdn ge1)
    have XP0 := XP.keep KA0 (allS (Or.inr (Nat.le_refl _)) all0)
    have OD0 := OD.keep KA0 (allS glP all0)
    have LFa0 := LFa.keep KA0 (allS ⟨Or.inl hlB, hdl⟩ all0)
    have LFb0 := LFb.keep KA0 (allS ⟨Or.inl hlB, hdl⟩ all0)
    have LFc0 := LFc.keep KA0 (allS ⟨Or.inl hlB, hdl⟩ all0)
    refine KW.sub (S' := fun _ => False) (fun x hx => hx.elim) ?_
    show KW true l Z M_law n0 (fun v _ => v = some (.int 1)) (EL, fun _ => False) hA0 25 174 153 #[.val (.int x0), .val (.int x1), .val (.int x2), .val (.int x3), .val (.int x4), .val (.int x5), .val (.int p0), .val (.int p1), .val (.int p2), .val (.int p3), .val (.int sm), .val (.ref P), .val (.ref a), .val (.ref b), .val (.ref c), .val (.int q), .val (.int (2 : Int32)), .val (.int (1 : Int32)), .unset, .unset] [(.ref P)]
    refine k_aload at_153 rfl rfl rfl ?_
    refine k_acmpNe (pc1 := 162) (pc' := 158) at_155 rfl rfl (by decide) (by decide) rfl (fun (cd11 : ¬ (Value.ref P) = (Value.ref P)) => False.elim (by exact cd11 rfl)) (fun (cd11 : (Value.ref P) = (Value.ref P)) => ?_)
    refine k_iconst (z := (1 : Int32)) at_158 rfl (by decide) ?_
    refine k_goto (pc' := 163) at_159 (by decide) (by decide) ?_
    refine k_istore (Ls' := #[.val (.int x0), .val (.int x1), .val (.int x2), .val (.int x3), .val (.int x4), .val (.int x5), .val (.int p0), .val (.int p1), .val (.int p2), .val (.int p3), .val (.int sm), .val (.ref P), .val (.ref a), .val (.ref b), .val (.ref c), .val (.int q), .val (.int (2 : Int32)), .val (.int (1 : Int32)), .unset, .unset]) at_163 rfl rfl ?_
    refine k_iload at_165 rfl rfl ?_
    refine k_iconst (z := (2 : Int32)) at_167 rfl (by decide) ?_
    refine k_icmp (pc1 := 195) (pc' := 171) at_168 (by decide) (by decide) rfl (fun (cd12 : (2 : Int32) < (2 : Int32)) => False.elim (by exact absurd cd12 (by decide))) (fun (cd12 : ¬ (2 : Int32) < (2 : Int32)) => ?_)
    refine k_iload at_171 rfl rfl ?_
    refine k_ifc (pc1 := 192) (pc' := 176) at_173 (by decide) (by decide) rfl (fun (cd13 : (1 : Int32) = (0 : Int32)) => False.elim (by exact absurd cd13 (by decide))) (fun (cd13 : ¬ (1 : Int32) = (0 : Int32)) => ?_)
    refine k_aload at_176 rfl rfl rfl ?_
    refine k_aload at_178 rfl rfl rfl ?_
    refine k_callVirtual (argsL := [(.ref b)]) (rest := []) (W0 := 0) at_180 rfl (mt_xaN l Z a0 hw cs hcs SC hEW de P lP e1 b 0 [nbI p0] (0 + 1) [a] hA0 n0 OD0 glP XP0 AL0 (by simp) (by simp) LFb0.exa) (fun _ _ _ q => ⟨[lP, e1], q.2.1, allS (Sf.exa AL0.1 (by decide) (by decide)) (allS (AL0.sf (by simp)) all0)⟩) XP0.exa (hw _ (List.mem_of_getElem? (i := 282) rfl)) (hw _ (List.mem_of_getElem? (i := 283) rfl)) (hw _ (List.mem_of_getElem? (i := 285) rfl)) (hw _ (List.mem_of_getElem? (i := 84) rfl)) rfl (hw _ (List.mem_of_getElem? (i := 284) rfl)) (hw _ (List.mem_of_getElem? (i := 286) rfl)) (hw _ (List.mem_of_getElem? (i := 2) rfl)) (by decide) pd_xa rfl rfl rfl rfl (by decide) (by decide) (by decide) (by decide) ?_
    rintro _ hA1 - ⟨rfl, KA1, AL1⟩
    have XP1 := XP0.keep KA1 (allS (Or.inr (Nat.le_refl _)) (allS (Or.inr hle1) all0))
    have OD1 := OD0.keep KA1 (allS glP (allS ge1 all0))
    have LFa1 := LFa0.keep KA1 (allS ⟨Or.inl hlB, hdl⟩ (allS ⟨Or.inr he1, hde⟩ all0))
    have LFb1 := LFb0.keep KA1 (allS ⟨Or.inl hlB, hdl⟩ (allS ⟨Or.inr he1, hde⟩ all0))
    have LFc1 := LFc0.keep KA1 (allS ⟨Or.inl hlB, hdl⟩ (allS ⟨Or.inr he1, hde⟩ all0))
    refine KW.sub (S' := fun _ => False) (fun x hx => hx.elim) ?_
    show KW true l Z M_law n0 (fun v _ => v = some (.int 1)) (EL, fun _ => False) hA1 26 184 183 #[.val (.int x0), .val (.int x1), .val (.int x2), .val (.int x3), .val (.int x4), .val (.int x5), .val (.int p0), .val (.int p1), .val (.int p2), .val (.int p3), .val (.int sm), .val (.ref P), .val (.ref a), .val (.ref b), .val (.ref c), .val (.int q), .val (.int (2 : Int32)), .val (.int (1 : Int32)), .unset, .unset] [(.ref P)]
    refine k_aload at_183 rfl rfl rfl ?_
    refine k_acmpNe (pc1 := 192) (pc' := 188) at_185 rfl rfl (by decide) (by decide) rfl (fun (cd14 : ¬ (Value.ref P) = (Value.ref P)) => False.elim (by exact cd14 rfl)) (fun (cd14 : (Value.ref P) = (Value.ref P)) => ?_)
    refine k_iconst (z := (1 : Int32)) at_188 rfl (by decide) ?_
    refine k_goto (pc' := 193) at_189 (by decide) (by decide) ?_
    refine k_istore (Ls' := #[.val (.int x0), .val (.int x1), .val (.int x2), .val (.int x3), .val (.int x4), .val (.int x5), .val (.int p0), .val (.int p1), .val (.int p2), .val (.int p3), .val (.int sm), .val (.ref P), .val (.ref a), .val (.ref b), .val (.ref c), .val (.int q), .val (.int (2 : Int32)), .val (.int (1 : Int32)), .unset, .unset]) at_193 rfl rfl ?_
    refine k_iload at_195 rfl rfl ?_
    refine k_iconst (z := (3 : Int32)) at_197 rfl (by decide) ?_
    refine k_icmp (pc1 := 225) (pc' := 201) at_198 (by decide) (by decide) rfl (fun (cd15 : (2 : Int32) < (3 : Int32)) => ?_) (fun (cd15 : ¬ (2 : Int32) < (3 : Int32)) => False.elim (by exact absurd cd15 (by decide)))
    refine k_aload at_225 rfl rfl rfl ?_
    refine k_callVirtualW (argsL := []) (rest := []) (W0 := 0) at_227 rfl (mt_dp l Z a0 hw cs hcs SC hEW de P lP e1 (nbI p0) ((0 + 1) + 1) [(a, nbI p1), (b, nbI p2)] hA1 n0 OD1 ⟨XP1, AL1, AL1.1.lt, AL1.lte (by simp)⟩ (allC LFa1.wide (allC LFb1.wide allC0)) hdn (by simp)) XP1.exa (hw _ (List.mem_of_getElem? (i := 81) rfl)) (hw _ (List.mem_of_getElem? (i := 82) rfl)) (hw _ (List.mem_of_getElem? (i := 84) rfl)) (hw _ (List.mem_of_getElem? (i := 84) rfl)) rfl (hw _ (List.mem_of_getElem? (i := 83) rfl)) (hw _ (List.mem_of_getElem? (i := 85) rfl)) (hw _ (List.mem_of_getElem? (i := 2) rfl)) (by decide) pd_dp rfl rfl rfl rfl (by decide) (by decide) (by decide) (by decide) ?_
    rintro _ hD - ⟨s_, t_, rfl, KD, SGD⟩
    have ODD := OD1.keep KD all0
    show KW true l Z M_law n0 (fun v _ => v = some (.int 1)) (EL, fun _ => False) hD 65 3263 230 #[.val (.int x0), .val (.int x1), .val (.int x2), .val (.int x3), .val (.int x4), .val (.int x5), .val (.int p0), .val (.int p1), .val (.int p2), .val (.int p3), .val (.int sm), .val (.ref P), .val (.ref a), .val (.ref b), .val (.ref c), .val (.int q), .val (.int (2 : Int32)), .val (.int (1 : Int32)), .unset, .unset] [(.ref s_)]
    exact kw_t2 l Z a0 hw cs hcs SC hEW x0 x1 x2 x3 x4 x5 p0 p1 p2 p3 q sm P a b c s_ t_ hD n0 ODD SGD hp0 hp1 hp2 hp3 hq sio SIO hsio
  · refine KW.top (congrArg Value.int hn) ?_
    show KW true l Z M_law n0 (fun v _ => v = some (.int 1)) (EL, fun _ => False) h0 24 164 130 #[.val (.int x0), .val (.int x1), .val (.int x2), .val (.int x3), .val (.int x4), .val (.int x5), .val (.int p0), .val (.int p1), .val (.int p2), .val (.int p3), .val (.int sm), .val (.ref P), .val (.ref a), .val (.ref b), .val (.ref c), .val (.int q), .unset, .unset, .unset, .unset] [(.int (3 : Int32))]
    refine k_istore (Ls' := #[.val (.int x0), .val (.int x1), .val (.int x2), .val (.int x3), .val (.int x4), .val (.int x5), .val (.int p0), .val (.int p1), .val (.int p2), .val (.int p3), .val (.int sm), .val (.ref P), .val (.ref a), .val (.ref b), .val (.ref c), .val (.int q), .val (.int (3 : Int32)), .unset, .unset, .unset]) at_130 rfl rfl ?_
    refine k_iconst (z := (1 : Int32)) at_132 rfl (by decide) ?_
    refine k_istore (Ls' := #[.val (.int x0), .val (.int x1), .val (.int x2), .val (.int x3), .val (.int x4), .val (.int x5), .val (.int p0), .val (.int p1), .val (.int p2), .val (.int p3), .val (.int sm), .val (.ref P), .val (.ref a), .val (.ref b), .val (.ref c), .val (.int q), .val (.int (3 : Int32)), .val (.int (1 : Int32)), .unset, .unset]) at_133 rfl rfl ?_
    refine k_iload at_135 rfl rfl ?_
    refine k_iconst (z := (1 : Int32)) at_137 rfl (by decide) ?_
    refine k_icmp (pc1 := 165) (pc' := 141) at_138 (by decide) (by decide) rfl (fun (cd16 : (3 : Int32) < (1 : Int32)) => False.elim (by exact absurd cd16 (by decide))) (fun (cd16 : ¬ (3 : Int32) < (1 : Int32)) => ?_)
    refine k_iload at_141 rfl rfl ?_
    refine k_ifc (pc1 := 162) (pc' := 146) at_143 (by decide) (by decide) rfl (fun (cd17 : (1 : Int32) = (0 : Int32)) => False.elim (by exact absurd cd17 (by decide))) (fun (cd17 : ¬ (1 : Int32) = (0 : Int32)) => ?_)
    refine k_aload at_146 rfl rfl rfl ?_
    refine k_aload at_148 rfl rfl rfl ?_
    refine k_callVirtual (argsL := [(.ref a)]) (rest := []) (W0 := 0) at_150 rfl (mt_xaE l Z a0 hw cs hcs SC hEW de ckd SDE DE P lP a 0 [nbI p0] 0 h0 n0 OD glP XP ALP LFa.exa) (fun _ _ _ q => by obtain ⟨-, _, -, -, K, -⟩ := q; exact ⟨[lP], K, allS (Sf.exa ALP.1 (by decide) (by decide)) all0⟩) XP.exa (hw _ (List.mem_of_getElem? (i := 282) rfl)) (hw _ (List.mem_of_getElem? (i := 283) rfl)) (hw _ (List.mem_of_getElem? (i := 285) rfl)) (hw _ (List.mem_of_getElem? (i := 84) rfl)) rfl (hw _ (List.mem_of_getElem? (i := 284) rfl)) (hw _ (List.mem_of_getElem? (i := 286) rfl)) (hw _ (List.mem_of_getElem? (i := 2) rfl)) (by decide) pd_xa rfl rfl rfl rfl (by decide) (by decide) (by decide) (by decide) ?_
    rintro _ hA0 - ⟨rfl, e1, he1, ge1, KA0, AL0⟩
    have hle1 : lP ≤ e1 := Nat.le_of_lt (Nat.lt_of_lt_of_le ALP.1.lt he1)
    have hde : de ≠ e1 := Nat.ne_of_lt (Nat.lt_of_lt_of_le hdn ge1)
    have XP0 := XP.keep KA0 (allS (Or.inr (Nat.le_refl _)) all0)
    have OD0 := OD.keep KA0 (allS glP all0)
    have LFa0 := LFa.keep KA0 (allS ⟨Or.inl hlB, hdl⟩ all0)
    have LFb0 := LFb.keep KA0 (allS ⟨Or.inl hlB, hdl⟩ all0)
    have LFc0 := LFc.keep KA0 (allS ⟨Or.inl hlB, hdl⟩ all0)
    refine KW.sub (S' := fun _ => False) (fun x hx => hx.elim) ?_
    show KW true l Z M_law n0 (fun v _ => v = some (.int 1)) (EL, fun _ => False) hA0 25 174 153 #[.val (.int x0), .val (.int x1), .val (.int x2), .val (.int x3), .val (.int x4), .val (.int x5), .val (.int p0), .val (.int p1), .val (.int p2), .val (.int p3), .val (.int sm), .val (.ref P), .val (.ref a), .val (.ref b), .val (.ref c), .val (.int q), .val (.int (3 : Int32)), .val (.int (1 : Int32)), .unset, .unset] [(.ref P)]
    refine k_aload at_153 rfl rfl rfl ?_
    refine k_acmpNe (pc1 := 162) (pc' := 158) at_155 rfl rfl (by decide) (by decide) rfl (fun (cd18 : ¬ (Value.ref P) = (Value.ref P)) => False.elim (by exact cd18 rfl)) (fun (cd18 : (Value.ref P) = (Value.ref P)) => ?_)
    refine k_iconst (z := (1 : Int32)) at_158 rfl (by decide) ?_
    refine k_goto (pc' := 163) at_159 (by decide) (by decide) ?_
    refine k_istore (Ls' := #[.val (.int x0), .val (.int x1), .val (.int x2), .val (.int x3), .val (.int x4), .val (.int x5), .val (.int p0), .val (.int p1), .val (.int p2), .val (.int p3), .val (.int sm), .val (.ref P), .val (.ref a), .val (.ref b), .val (.ref c), .val (.int q), .val (.int (3 : Int32)), .val (.int (1 : Int32)), .unset, .unset]) at_163 rfl rfl ?_
    refine k_iload at_165 rfl rfl ?_
    refine k_iconst (z := (2 : Int32)) at_167 rfl (by decide) ?_
    refine k_icmp (pc1 := 195) (pc' := 171) at_168 (by decide) (by decide) rfl (fun (cd19 : (3 : Int32) < (2 : Int32)) => False.elim (by exact absurd cd19 (by decide))) (fun (cd19 : ¬ (3 : Int32) < (2 : Int32)) => ?_)
    refine k_iload at_171 rfl rfl ?_
    refine k_ifc (pc1 := 192) (pc' := 176) at_173 (by decide) (by decide) rfl (fun (cd20 : (1 : Int32) = (0 : Int32)) => False.elim (by exact absurd cd20 (by decide))) (fun (cd20 : ¬ (1 : Int32) = (0 : Int32)) => ?_)
    refine k_aload at_176 rfl rfl rfl ?_
    refine k_aload at_178 rfl rfl rfl ?_
    refine k_callVirtual (argsL := [(.ref b)]) (rest := []) (W0 := 0) at_180 rfl (mt_xaN l Z a0 hw cs hcs SC hEW de P lP e1 b 0 [nbI p0] (0 + 1) [a] hA0 n0 OD0 glP XP0 AL0 (by simp) (by simp) LFb0.exa) (fun _ _ _ q => ⟨[lP, e1], q.2.1, allS (Sf.exa AL0.1 (by decide) (by decide)) (allS (AL0.sf (by simp)) all0)⟩) XP0.exa (hw _ (List.mem_of_getElem? (i := 282) rfl)) (hw _ (List.mem_of_getElem? (i := 283) rfl)) (hw _ (List.mem_of_getElem? (i := 285) rfl)) (hw _ (List.mem_of_getElem? (i := 84) rfl)) rfl (hw _ (List.mem_of_getElem? (i := 284) rfl)) (hw _ (List.mem_of_getElem? (i := 286) rfl)) (hw _ (List.mem_of_getElem? (i := 2) rfl)) (by decide) pd_xa rfl rfl rfl rfl (by decide) (by decide) (by decide) (by decide) ?_
    rintro _ hA1 - ⟨rfl, KA1, AL1⟩
    have XP1 := XP0.keep KA1 (allS (Or.inr (Nat.le_refl _)) (allS (Or.inr hle1) all0))
    have OD1 := OD0.keep KA1 (allS glP (allS ge1 all0))
    have LFa1 := LFa0.keep KA1 (allS ⟨Or.inl hlB, hdl⟩ (allS ⟨Or.inr he1, hde⟩ all0))
    have LFb1 := LFb0.keep KA1 (allS ⟨Or.inl hlB, hdl⟩ (allS ⟨Or.inr he1, hde⟩ all0))
    have LFc1 := LFc0.keep KA1 (allS ⟨Or.inl hlB, hdl⟩ (allS ⟨Or.inr he1, hde⟩ all0))
    refine KW.sub (S' := fun _ => False) (fun x hx => hx.elim) ?_
    show KW true l Z M_law n0 (fun v _ => v = some (.int 1)) (EL, fun _ => False) hA1 26 184 183 #[.val (.int x0), .val (.int x1), .val (.int x2), .val (.int x3), .val (.int x4), .val (.int x5), .val (.int p0), .val (.int p1), .val (.int p2), .val (.int p3), .val (.int sm), .val (.ref P), .val (.ref a), .val (.ref b), .val (.ref c), .val (.int q), .val (.int (3 : Int32)), .val (.int (1 : Int32)), .unset, .unset] [(.ref P)]
    refine k_aload at_183 rfl rfl rfl ?_
    refine k_acmpNe (pc1 := 192) (pc' := 188) at_185 rfl rfl (by decide) (by decide) rfl (fun (cd21 : ¬ (Value.ref P) = (Value.ref P)) => False.elim (by exact cd21 rfl)) (fun (cd21 : (Value.ref P) = (Value.ref P)) => ?_)
    refine k_iconst (z := (1 : Int32)) at_188 rfl (by decide) ?_
    refine k_goto (pc' := 193) at_189 (by decide) (by decide) ?_
    refine k_istore (Ls' := #[.val (.int x0), .val (.int x1), .val (.int x2), .val (.int x3), .val (.int x4), .val (.int x5), .val (.int p0), .val (.int p1), .val (.int p2), .val (.int p3), .val (.int sm), .val (.ref P), .val (.ref a), .val (.ref b), .val (.ref c), .val (.int q), .val (.int (3 : Int32)), .val (.int (1 : Int32)), .unset, .unset]) at_193 rfl rfl ?_
    refine k_iload at_195 rfl rfl ?_
    refine k_iconst (z := (3 : Int32)) at_197 rfl (by decide) ?_
    refine k_icmp (pc1 := 225) (pc' := 201) at_198 (by decide) (by decide) rfl (fun (cd22 : (3 : Int32) < (3 : Int32)) => False.elim (by exact absurd cd22 (by decide))) (fun (cd22 : ¬ (3 : Int32) < (3 : Int32)) => ?_)
    refine k_iload at_201 rfl rfl ?_
    refine k_ifc (pc1 := 222) (pc' := 206) at_203 (by decide) (by decide) rfl (fun (cd23 : (1 : Int32) = (0 : Int32)) => False.elim (by exact absurd cd23 (by decide))) (fun (cd23 : ¬ (1 : Int32) = (0 : Int32)) => ?_)
    refine k_aload at_206 rfl rfl rfl ?_
    refine k_aload at_208 rfl rfl rfl ?_
    refine k_callVirtual (argsL := [(.ref c)]) (rest := []) (W0 := 0) at_210 rfl (mt_xaN l Z a0 hw cs hcs SC hEW de P lP e1 c 0 [nbI p0] ((0 + 1) + 1) ([a] ++ [b]) hA1 n0 OD1 glP XP1 AL1 (by simp) (by simp) LFc1.exa) (fun _ _ _ q => ⟨[lP, e1], q.2.1, allS (Sf.exa AL1.1 (by decide) (by decide)) (allS (AL1.sf (by simp)) all0)⟩) XP1.exa (hw _ (List.mem_of_getElem? (i := 282) rfl)) (hw _ (List.mem_of_getElem? (i := 283) rfl)) (hw _ (List.mem_of_getElem? (i := 285) rfl)) (hw _ (List.mem_of_getElem? (i := 84) rfl)) rfl (hw _ (List.mem_of_getElem? (i := 284) rfl)) (hw _ (List.mem_of_getElem? (i := 286) rfl)) (hw _ (List.mem_of_getElem? (i := 2) rfl)) (by decide) pd_xa rfl rfl rfl rfl (by decide) (by decide) (by decide) (by decide) ?_
    rintro _ hA2 - ⟨rfl, KA2, AL2⟩
    have XP2 := XP1.keep KA2 (allS (Or.inr (Nat.le_refl _)) (allS (Or.inr hle1) all0))
    have OD2 := OD1.keep KA2 (allS glP (allS ge1 all0))
    have LFa2 := LFa1.keep KA2 (allS ⟨Or.inl hlB, hdl⟩ (allS ⟨Or.inr he1, hde⟩ all0))
    have LFb2 := LFb1.keep KA2 (allS ⟨Or.inl hlB, hdl⟩ (allS ⟨Or.inr he1, hde⟩ all0))
    have LFc2 := LFc1.keep KA2 (allS ⟨Or.inl hlB, hdl⟩ (allS ⟨Or.inr he1, hde⟩ all0))
    refine KW.sub (S' := fun _ => False) (fun x hx => hx.elim) ?_
    show KW true l Z M_law n0 (fun v _ => v = some (.int 1)) (EL, fun _ => False) hA2 27 194 213 #[.val (.int x0), .val (.int x1), .val (.int x2), .val (.int x3), .val (.int x4), .val (.int x5), .val (.int p0), .val (.int p1), .val (.int p2), .val (.int p3), .val (.int sm), .val (.ref P), .val (.ref a), .val (.ref b), .val (.ref c), .val (.int q), .val (.int (3 : Int32)), .val (.int (1 : Int32)), .unset, .unset] [(.ref P)]
    refine k_aload at_213 rfl rfl rfl ?_
    refine k_acmpNe (pc1 := 222) (pc' := 218) at_215 rfl rfl (by decide) (by decide) rfl (fun (cd24 : ¬ (Value.ref P) = (Value.ref P)) => False.elim (by exact cd24 rfl)) (fun (cd24 : (Value.ref P) = (Value.ref P)) => ?_)
    refine k_iconst (z := (1 : Int32)) at_218 rfl (by decide) ?_
    refine k_goto (pc' := 223) at_219 (by decide) (by decide) ?_
    refine k_istore (Ls' := #[.val (.int x0), .val (.int x1), .val (.int x2), .val (.int x3), .val (.int x4), .val (.int x5), .val (.int p0), .val (.int p1), .val (.int p2), .val (.int p3), .val (.int sm), .val (.ref P), .val (.ref a), .val (.ref b), .val (.ref c), .val (.int q), .val (.int (3 : Int32)), .val (.int (1 : Int32)), .unset, .unset]) at_223 rfl rfl ?_
    refine k_aload at_225 rfl rfl rfl ?_
    refine k_callVirtualW (argsL := []) (rest := []) (W0 := 0) at_227 rfl (mt_dp l Z a0 hw cs hcs SC hEW de P lP e1 (nbI p0) (((0 + 1) + 1) + 1) [(a, nbI p1), (b, nbI p2), (c, nbI q)] hA2 n0 OD2 ⟨XP2, AL2, AL2.1.lt, AL2.lte (by simp)⟩ (allC LFa2.wide (allC LFb2.wide (allC LFc2.wide allC0))) hdn (by simp)) XP2.exa (hw _ (List.mem_of_getElem? (i := 81) rfl)) (hw _ (List.mem_of_getElem? (i := 82) rfl)) (hw _ (List.mem_of_getElem? (i := 84) rfl)) (hw _ (List.mem_of_getElem? (i := 84) rfl)) rfl (hw _ (List.mem_of_getElem? (i := 83) rfl)) (hw _ (List.mem_of_getElem? (i := 85) rfl)) (hw _ (List.mem_of_getElem? (i := 2) rfl)) (by decide) pd_dp rfl rfl rfl rfl (by decide) (by decide) (by decide) (by decide) ?_
    rintro _ hD - ⟨s_, t_, rfl, KD, SGD⟩
    have ODD := OD2.keep KD all0
    show KW true l Z M_law n0 (fun v _ => v = some (.int 1)) (EL, fun _ => False) hD 66 3273 230 #[.val (.int x0), .val (.int x1), .val (.int x2), .val (.int x3), .val (.int x4), .val (.int x5), .val (.int p0), .val (.int p1), .val (.int p2), .val (.int p3), .val (.int sm), .val (.ref P), .val (.ref a), .val (.ref b), .val (.ref c), .val (.int q), .val (.int (3 : Int32)), .val (.int (1 : Int32)), .unset, .unset] [(.ref s_)]
    exact kw_t3 l Z a0 hw cs hcs SC hEW x0 x1 x2 x3 x4 x5 p0 p1 p2 p3 q sm P a b c s_ t_ hD n0 ODD SGD hp0 hp1 hp2 hp3 hq sio SIO hsio
set_option maxRecDepth 65536 in
set_option maxHeartbeats 40000000 in
theorem kw_46_0 (l : Launch) (Z : State) (a0 : Array Value) (hw : ∀ d ∈ tables_1, d.before a0 Z = true) (cs : Int32) (hcs : ¬ cs = 0) (SC : Sta Z Z.heap "java/lang/String" "COMPACT_STRINGS" "Z" (.int cs)) (hEW : EW Z a0 EL) (de : Addr) (ckd : ClassId) (SDE : Sta Z Z.heap "java/util/ArrayList" "DEFAULTCAPACITY_EMPTY_ELEMENTDATA" "[Ljava/lang/Object;" (.ref de)) (DE : Arv Z Z.heap de ckd (.object "java/lang/Object") 0 [] .null) (x0 x1 x2 x3 x4 x5 p0 p1 p2 p3 : Int32) (h0 : Heap) (n0 : Nat) (OD : Old Z n0 h0) (hdn : de < n0) (hp0 : Ch p0) (hp1 : Ch p1) (hp2 : Ch p2) (hp3 : Ch p3) (sio : Value) (SIO : Sta Z Z.heap "jdk/internal/util/Preconditions" "SIOOBE_FORMATTER" "Ljava/util/function/BiFunction;" sio) (hsio : sio.isRef = true) : KW true l Z M_law n0 (fun v _ => v = some (.int 1)) (EL, fun _ => False) h0 0 0 46 #[.val (.int x0), .val (.int x1), .val (.int x2), .val (.int x3), .val (.int x4), .val (.int x5), .val (.int p0), .val (.int p1), .val (.int p2), .val (.int p3), .val (.int (0 : Int32)), .unset, .unset, .unset, .unset, .unset, .unset, .unset, .unset, .unset] [] := by
  have Z0 := OD.1 ▸ OD.2.1
  refine k_new at_46 rfl (hw _ (List.mem_of_getElem? (i := 0) rfl)) (hw _ (List.mem_of_getElem? (i := 1) rfl)) (hw _ (List.mem_of_getElem? (i := 2) rfl)) (by decide) (by decide) ?_
  intro h2 a1 g6 E3 A4 D5
  have z7 : n0 ≤ h0.size := Z0
  have ge8 : n0 ≤ a1 := Nat.le_trans z7 (Nat.le_of_eq g6.symm)
  have gl9 : h0.size ≤ a1 := Nat.le_of_eq g6.symm
  have F10 : Fld Z h2 a1 "com/example/roomwire/roomwire/qunar/XmlElement" "attributes" "Ljava/lang/StringBuilder;" .null := D5 (Or.inr (hw _ (List.mem_of_getElem? (i := 52) rfl))) (ty := (.object "java/lang/StringBuilder")) (by decide)
  have F11 : Fld Z h2 a1 "com/example/roomwire/roomwire/qunar/XmlElement" "children" "Ljava/util/List;" .null := D5 (Or.inr (hw _ (List.mem_of_getElem? (i := 78) rfl))) (ty := (.object "java/util/List")) (by decide)
  have F12 : Fld Z h2 a1 "com/example/roomwire/roomwire/qunar/XmlElement" "name" "Ljava/lang/String;" .null := D5 (Or.inr (hw _ (List.mem_of_getElem? (i := 80) rfl))) (ty := (.object "java/lang/String")) (by decide)
  have F13 : Fld Z h2 a1 "com/example/roomwire/roomwire/qunar/XmlElement" "content" "Ljava/lang/String;" .null := D5 (Or.inl (hw _ (List.mem_of_getElem? (i := 213) rfl))) (ty := (.object "java/lang/String")) (by decide)
  refine KW.sub (S' := fun x => x = a1) (fun x hx => ?_) ?_
  · rcases hx with rfl
    · exact Or.inr ⟨gl9, A4.lt⟩
  show KW true l Z M_law n0 (fun v _ => v = some (.int 1)) (EL, fun x => x = a1) h2 1 4 49 #[.val (.int x0), .val (.int x1), .val (.int x2), .val (.int x3), .val (.int x4), .val (.int x5), .val (.int p0), .val (.int p1), .val (.int p2), .val (.int p3), .val (.int (0 : Int32)), .unset, .unset, .unset, .unset, .unset, .unset, .unset, .unset, .unset] [(.ref a1)]
  refine k_dup at_49 rfl rfl ?_
  refine k_iload at_50 rfl rfl ?_
  have f14 := (OD.ext E3)
  refine k_callStatic (argsL := [(.int p0)]) (rest := [(.ref a1), (.ref a1)]) (W0 := 2) at_52 rfl (mt_vof l Z a0 hw cs hcs SC hEW p0 h2 n0 f14 hp0) (fun _ _ _ q => by obtain ⟨_, _, -, -, -, K, -⟩ := q; exact ⟨[], K, fun _ z => nomatch z⟩) (hw _ (List.mem_of_getElem? (i := 3) rfl)) (hw _ (List.mem_of_getElem? (i := 4) rfl)) (hw _ (List.mem_of_getElem? (i := 5) rfl)) (hw _ (List.mem_of_getElem? (i := 6) rfl)) (by decide) pd_vof rfl rfl rfl rfl (by decide) (by decide) (by decide) (by decide) ?_
  rintro _ h15 - ⟨a16, t17, rfl, g18, g19, K20, SG21⟩
  refine KW.sub (S' := fun _ => False) (fun x hx => hx.elim) ?_
  show KW true l Z M_law n0 (fun v _ => v = some (.int 1)) (EL, fun _ => False) h15 3 9 55 #[.val (.int x0), .val (.int x1), .val (.int x2), .val (.int x3), .val (.int x4), .val (.int x5), .val (.int p0), .val (.int p1), .val (.int p2), .val (.int p3), .val (.int (0 : Int32)), .unset, .unset, .unset, .unset, .unset, .unset, .unset, .unset, .unset] [(.ref a16), (.ref a1), (.ref a1)]
  have f22 := (A4.keep K20)
  have f23 := (F10.keep K20 nin0)
  have f24 := (F11.keep K20 nin0)
  have f25 := (F12.keep K20 nin0)
  have f26 := (F13.keep K20 nin0)
  have f27 := (f14.keep K20 all0)
  refine k_callInit (a := a1) (argsL := [(.ref a16)]) (rest := [(.ref a1)]) (W0 := 1) at_55 rfl (mt_xi l Z a0 hw cs hcs SC hEW de ckd SDE DE a1 a16 t17 h0.size [nbI p0] h15 n0 f27 ge8 ⟨gl9, Nat.le_trans E3.1 g18, Nat.le_trans E3.1 g19⟩ f22 SG21 f23 f24 f25 f26) (fun _ _ _ q => by obtain ⟨-, _, -, -, K, -⟩ := q; exact ⟨[a1], K, allS (Sf.exa f22 (by decide) (by decide)) all0⟩) rfl rfl (hw _ (List.mem_of_getElem? (i := 29) rfl)) (hw _ (List.mem_of_getElem? (i := 30) rfl)) (hw _ (List.mem_of_getElem? (i := 2) rfl)) (hw _ (List.mem_of_getElem? (i := 31) rfl)) (by decide) pd_xi rfl rfl rfl rfl (by decide) (by decide) (by decide) (by decide) ?_
  rintro _ hX0 - ⟨rfl, l0, ga0, gb0, KX0, XB0, AL0⟩
  have KT0 : Keep h0 hX0 [a1] := (((Keep.refl h0 [a1]).ext E3).trans K20 all0).trans KX0 (allS (Or.inl (by simp)) all0)
  have LE0 : Lf Z hX0 n0 de h0.size hX0.size a1 (nbI p0) := ⟨l0, XB0, AL0, AL0.1.lt, Nat.le_refl _, ga0⟩
  have ODX0 := OD.keep KT0 (allS ge8 all0)
  have ZX0 : n0 ≤ hX0.size := ODX0.1 ▸ ODX0.2.1
  refine KW.sub (S' := fun _ => False) (fun x hx => hx.elim) ?_
  show KW true l Z M_law n0 (fun v _ => v = some (.int 1)) (EL, fun _ => False) hX0 6 41 58 #[.val (.int x0), .val (.int x1), .val (.int x2), .val (.int x3), .val (.int x4), .val (.int x5), .val (.int p0), .val (.int p1), .val (.int p2), .val (.int p3), .val (.int (0 : Int32)), .unset, .unset, .unset, .unset, .unset, .unset, .unset, .unset, .unset] [(.ref a1)]
  refine k_astore (Ls' := #[.val (.int x0), .val (.int x1), .val (.int x2), .val (.int x3), .val (.int x4), .val (.int x5), .val (.int p0), .val (.int p1), .val (.int p2), .val (.int p3), .val (.int (0 : Int32)), .val (.ref a1), .unset, .unset, .unset, .unset, .unset, .unset, .unset, .unset]) at_58 rfl rfl rfl ?_
  refine k_new at_60 rfl (hw _ (List.mem_of_getElem? (i := 0) rfl)) (hw _ (List.mem_of_getElem? (i := 1) rfl)) (hw _ (List.mem_of_getElem? (i := 2) rfl)) (by decide) (by decide) ?_
  intro h29 a28 g33 E30 A31 D32
  have z34 : n0 ≤ hX0.size := ZX0
  have ge35 : n0 ≤ a28 := Nat.le_trans z34 (Nat.le_of_eq g33.symm)
  have gl36 : hX0.size ≤ a28 := Nat.le_of_eq g33.symm
  have F37 : Fld Z h29 a28 "com/example/roomwire/roomwire/qunar/XmlElement" "attributes" "Ljava/lang/StringBuilder;" .null := D32 (Or.inr (hw _ (List.mem_of_getElem? (i := 52) rfl))) (ty := (.object "java/lang/StringBuilder")) (by decide)
  have F38 : Fld Z h29 a28 "com/example/roomwire/roomwire/qunar/XmlElement" "children" "Ljava/util/List;" .null := D32 (Or.inr (hw _ (List.mem_of_getElem? (i := 78) rfl))) (ty := (.object "java/util/List")) (by decide)
  have F39 : Fld Z h29 a28 "com/example/roomwire/roomwire/qunar/XmlElement" "name" "Ljava/lang/String;" .null := D32 (Or.inr (hw _ (List.mem_of_getElem? (i := 80) rfl))) (ty := (.object "java/lang/String")) (by decide)
  have F40 : Fld Z h29 a28 "com/example/roomwire/roomwire/qunar/XmlElement" "content" "Ljava/lang/String;" .null := D32 (Or.inl (hw _ (List.mem_of_getElem? (i := 213) rfl))) (ty := (.object "java/lang/String")) (by decide)
  refine KW.sub (S' := fun x => x = a28) (fun x hx => ?_) ?_
  · rcases hx with rfl
    · exact Or.inr ⟨gl36, A31.lt⟩
  show KW true l Z M_law n0 (fun v _ => v = some (.int 1)) (EL, fun x => x = a28) h29 7 45 63 #[.val (.int x0), .val (.int x1), .val (.int x2), .val (.int x3), .val (.int x4), .val (.int x5), .val (.int p0), .val (.int p1), .val (.int p2), .val (.int p3), .val (.int (0 : Int32)), .val (.ref a1), .unset, .unset, .unset, .unset, .unset, .unset, .unset, .unset] [(.ref a28)]
  refine k_dup at_63 rfl rfl ?_
  refine k_iload at_64 rfl rfl ?_
  have f41 := (ODX0.ext E30)
  refine k_callStatic (argsL := [(.int p1)]) (rest := [(.ref a28), (.ref a28)]) (W0 := 2) at_66 rfl (mt_vof l Z a0 hw cs hcs SC hEW p1 h29 n0 f41 hp1) (fun _ _ _ q => by obtain ⟨_, _, -, -, -, K, -⟩ := q; exact ⟨[], K, fun _ z => nomatch z⟩) (hw _ (List.mem_of_getElem? (i := 3) rfl)) (hw _ (List.mem_of_getElem? (i := 4) rfl)) (hw _ (List.mem_of_getElem? (i := 5) rfl)) (hw _ (List.mem_of_getElem? (i := 6) rfl)) (by decide) pd_vof rfl rfl rfl rfl (by decide) (by decide) (by decide) (by decide) ?_
  rintro _ h42 - ⟨a43, t44, rfl, g45, g46, K47, SG48⟩
  refine KW.sub (S' := fun _ => False) (fun x hx => hx.elim) ?_
  show KW true l Z M_law n0 (fun v _ => v = some (.int 1)) (EL, fun _ => False) h42 9 50 69 #[.val (.int x0), .val (.int x1), .val (.int x2), .val (.int x3), .val (.int x4), .val (.int x5), .val (.int p0), .val (.int p1), .val (.int p2), .val (.int p3), .val (.int (0 : Int32)), .val (.ref a1), .unset, .unset, .unset, .unset, .unset, .unset, .unset, .unset] [(.ref a43), (.ref a28), (.ref a28)]
  have f49 := (A31.keep K47)
  have f50 := (F37.keep K47 nin0)
  have f51 := (F38.keep K47 nin0)
  have f52 := (F39.keep K47 nin0)
  have f53 := (F40.keep K47 nin0)
  have f54 := (f41.keep K47 all0)
  refine k_callInit (a := a28) (argsL := [(.ref a43)]) (rest := [(.ref a28)]) (W0 := 1) at_69 rfl (mt_xi l Z a0 hw cs hcs SC hEW de ckd SDE DE a28 a43 t44 hX0.size [nbI p1] h42 n0 f54 ge35 ⟨gl36, Nat.le_trans E30.1 g45, Nat.le_trans E30.1 g46⟩ f49 SG48 f50 f51 f52 f53) (fun _ _ _ q => by obtain ⟨-, _, -, -, K, -⟩ := q; exact ⟨[a28], K, allS (Sf.exa f49 (by decide) (by decide)) all0⟩) rfl rfl (hw _ (List.mem_of_getElem? (i := 29) rfl)) (hw _ (List.mem_of_getElem? (i := 30) rfl)) (hw _ (List.mem_of_getElem? (i := 2) rfl)) (hw _ (List.mem_of_getElem? (i := 31) rfl)) (by decide) pd_xi rfl rfl rfl rfl (by decide) (by decide) (by decide) (by decide) ?_
  rintro _ hX1 - ⟨rfl, l1, ga1, gb1, KX1, XB1, AL1⟩
  have KT1 : Keep hX0 hX1 [a28] := (((Keep.refl hX0 [a28]).ext E30).trans K47 all0).trans KX1 (allS (Or.inl (by simp)) all0)
  have LE0_1 := LE0.keep KT1 (allS ⟨Or.inr (Nat.le_trans LE0.le gl36), Nat.ne_of_lt (Nat.lt_of_lt_of_le hdn ge35)⟩ all0)
  have hAE1 : hX0.size ≤ hX0.size := LE0.le
  have LE1 : Lf Z hX1 n0 de hX0.size hX1.size a28 (nbI p1) := ⟨l1, XB1, AL1, AL1.1.lt, Nat.le_refl _, ga1⟩
  have ODX1 := ODX0.keep KT1 (allS ge35 all0)
  have ZX1 : n0 ≤ hX1.size := ODX1.1 ▸ ODX1.2.1
  refine KW.sub (S' := fun _ => False) (fun x hx => hx.elim) ?_
  show KW true l Z M_law n0 (fun v _ => v = some (.int 1)) (EL, fun _ => False) hX1 12 82 72 #[.val (.int x0), .val (.int x1), .val (.int x2), .val (.int x3), .val (.int x4), .val (.int x5), .val (.int p0), .val (.int p1), .val (.int p2), .val (.int p3), .val (.int (0 : Int32)), .val (.ref a1), .unset, .unset, .unset, .unset, .unset, .unset, .unset, .unset] [(.ref a28)]
  refine k_astore (Ls' := #[.val (.int x0), .val (.int x1), .val (.int x2), .val (.int x3), .val (.int x4), .val (.int x5), .val (.int p0), .val (.int p1), .val (.int p2), .val (.int p3), .val (.int (0 : Int32)), .val (.ref a1), .val (.ref a28), .unset, .unset, .unset, .unset, .unset, .unset, .unset]) at_72 rfl rfl rfl ?_
  refine k_new at_74 rfl (hw _ (List.mem_of_getElem? (i := 0) rfl)) (hw _ (List.mem_of_getElem? (i := 1) rfl)) (hw _ (List.mem_of_getElem? (i := 2) rfl)) (by decide) (by decide) ?_
  intro h56 a55 g60 E57 A58 D59
  have z61 : n0 ≤ hX1.size := ZX1
  have ge62 : n0 ≤ a55 := Nat.le_trans z61 (Nat.le_of_eq g60.symm)
  have gl63 : hX1.size ≤ a55 := Nat.le_of_eq g60.symm
  have F64 : Fld Z h56 a55 "com/example/roomwire/roomwire/qunar/XmlElement" "attributes" "Ljava/lang/StringBuilder;" .null := D59 (Or.inr (hw _ (List.mem_of_getElem? (i := 52) rfl))) (ty := (.object "java/lang/StringBuilder")) (by decide)
  have F65 : Fld Z h56 a55 "com/example/roomwire/roomwire/qunar/XmlElement" "children" "Ljava/util/List;" .null := D59 (Or.inr (hw _ (List.mem_of_getElem? (i := 78) rfl))) (ty := (.object "java/util/List")) (by decide)
  have F66 : Fld Z h56 a55 "com/example/roomwire/roomwire/qunar/XmlElement" "name" "Ljava/lang/String;" .null := D59 (Or.inr (hw _ (List.mem_of_getElem? (i := 80) rfl))) (ty := (.object "java/lang/String")) (by decide)
  have F67 : Fld Z h56 a55 "com/example/roomwire/roomwire/qunar/XmlElement" "content" "Ljava/lang/String;" .null := D59 (Or.inl (hw _ (List.mem_of_getElem? (i := 213) rfl))) (ty := (.object "java/lang/String")) (by decide)
  refine KW.sub (S' := fun x => x = a55) (fun x hx => ?_) ?_
  · rcases hx with rfl
    · exact Or.inr ⟨gl63, A58.lt⟩
  show KW true l Z M_law n0 (fun v _ => v = some (.int 1)) (EL, fun x => x = a55) h56 13 86 77 #[.val (.int x0), .val (.int x1), .val (.int x2), .val (.int x3), .val (.int x4), .val (.int x5), .val (.int p0), .val (.int p1), .val (.int p2), .val (.int p3), .val (.int (0 : Int32)), .val (.ref a1), .val (.ref a28), .unset, .unset, .unset, .unset, .unset, .unset, .unset] [(.ref a55)]
  refine k_dup at_77 rfl rfl ?_
  refine k_iload at_78 rfl rfl ?_
  have f68 := (ODX1.ext E57)
  refine k_callStatic (argsL := [(.int p2)]) (rest := [(.ref a55), (.ref a55)]) (W0 := 2) at_80 rfl (mt_vof l Z a0 hw cs hcs SC hEW p2 h56 n0 f68 hp2) (fun _ _ _ q => by obtain ⟨_, _, -, -, -, K, -⟩ := q; exact ⟨[], K, fun _ z => nomatch z⟩) (hw _ (List.mem_of_getElem? (i := 3) rfl)) (hw _ (List.mem_of_getElem? (i := 4) rfl)) (hw _ (List.mem_of_getElem? (i := 5) rfl)) (hw _ (List.mem_of_getElem? (i := 6) rfl)) (by decide) pd_vof rfl rfl rfl rfl (by decide) (by decide) (by decide) (by decide) ?_
  rintro _ h69 - ⟨a70, t71, rfl, g72, g73, K74, SG75⟩
  refine KW.sub (S' := fun _ => False) (fun x hx => hx.elim) ?_
  show KW true l Z M_law n0 (fun v _ => v = some (.int 1)) (EL, fun _ => False) h69 15 91 83 #[.val (.int x0), .val (.int x1), .val (.int x2), .val (.int x3), .val (.int x4), .val (.int x5), .val (.int p0), .val (.int p1), .val (.int p2), .val (.int p3), .val (.int (0 : Int32)), .val (.ref a1), .val (.ref a28), .unset, .unset, .unset, .unset, .unset, .unset, .unset] [(.ref a70), (.ref a55), (.ref a55)]
  have f76 := (A58.keep K74)
  have f77 := (F64.keep K74 nin0)
  have f78 := (F65.keep K74 nin0)
  have f79 := (F66.keep K74 nin0)
  have f80 := (F67.keep K74 nin0)
  have f81 := (f68.keep K74 all0)
  refine k_callInit (a := a55) (argsL := [(.ref a70)]) (rest := [(.ref a55)]) (W0 := 1) at_83 rfl (mt_xi l Z a0 hw cs hcs SC hEW de ckd SDE DE a55 a70 t71 hX1.size [nbI p2] h69 n0 f81 ge62 ⟨gl63, Nat.le_trans E57.1 g72, Nat.le_trans E57.1 g73⟩ f76 SG75 f77 f78 f79 f80) (fun _ _ _ q => by obtain ⟨-, _, -, -, K, -⟩ := q; exact ⟨[a55], K, allS (Sf.exa f76 (by decide) (by decide)) all0⟩) rfl rfl (hw _ (List.mem_of_getElem? (i := 29) rfl)) (hw _ (List.mem_of_getElem? (i := 30) rfl)) (hw _ (List.mem_of_getElem? (i := 2) rfl)) (hw _ (List.mem_of_getElem? (i := 31) rfl)) (by decide) pd_xi rfl rfl rfl rfl (by decide) (by decide) (by decide) (by decide) ?_
  rintro _ hX2 - ⟨rfl, l2, ga2, gb2, KX2, XB2, AL2⟩
  have KT2 : Keep hX1 hX2 [a55] := (((Keep.refl hX1 [a55]).ext E57).trans K74 all0).trans KX2 (allS (Or.inl (by simp)) all0)
  have LE0_2 := LE0_1.keep KT2 (allS ⟨Or.inr (Nat.le_trans LE0_1.le gl63), Nat.ne_of_lt (Nat.lt_of_lt_of_le hdn ge62)⟩ all0)
  have LE1_2 := LE1.keep KT2 (allS ⟨Or.inr (Nat.le_trans LE1.le gl63), Nat.ne_of_lt (Nat.lt_of_lt_of_le hdn ge62)⟩ all0)
  have hAE2 : hX0.size ≤ hX1.size := LE0_1.le
  have LE2 : Lf Z hX2 n0 de hX1.size hX2.size a55 (nbI p2) := ⟨l2, XB2, AL2, AL2.1.lt, Nat.le_refl _, ga2⟩
  have ODX2 := ODX1.keep KT2 (allS ge62 all0)
  have ZX2 : n0 ≤ hX2.size := ODX2.1 ▸ ODX2.2.1
  refine KW.sub (S' := fun _ => False) (fun x hx => hx.elim) ?_
  show KW true l Z M_law n0 (fun v _ => v = some (.int 1)) (EL, fun _ => False) hX2 18 123 86 #[.val (.int x0), .val (.int x1), .val (.int x2), .val (.int x3), .val (.int x4), .val (.int x5), .val (.int p0), .val (.int p1), .val (.int p2), .val (.int p3), .val (.int (0 : Int32)), .val (.ref a1), .val (.ref a28), .unset, .unset, .unset, .unset, .unset, .unset, .unset] [(.ref a55)]
  refine k_astore (Ls' := #[.val (.int x0), .val (.int x1), .val (.int x2), .val (.int x3), .val (.int x4), .val (.int x5), .val (.int p0), .val (.int p1), .val (.int p2), .val (.int p3), .val (.int (0 : Int32)), .val (.ref a1), .val (.ref a28), .val (.ref a55), .unset, .unset, .unset, .unset, .unset, .unset]) at_86 rfl rfl rfl ?_
  refine k_iload at_88 rfl rfl ?_
  refine k_ifc (pc1 := 98) (pc' := 93) at_90 (by decide) (by decide) rfl (fun (cd106 : (0 : Int32) = (0 : Int32)) => ?_) (fun (cd106 : ¬ (0 : Int32) = (0 : Int32)) => False.elim (by exact absurd cd106 (by decide)))
  refine k_new at_98 rfl (hw _ (List.mem_of_getElem? (i := 0) rfl)) (hw _ (List.mem_of_getElem? (i := 1) rfl)) (hw _ (List.mem_of_getElem? (i := 2) rfl)) (by decide) (by decide) ?_
  intro h83 a82 g87 E84 A85 D86
  have z88 : n0 ≤ hX2.size := ZX2
  have ge89 : n0 ≤ a82 := Nat.le_trans z88 (Nat.le_of_eq g87.symm)
  have gl90 : hX2.size ≤ a82 := Nat.le_of_eq g87.symm
  have F91 : Fld Z h83 a82 "com/example/roomwire/roomwire/qunar/XmlElement" "attributes" "Ljava/lang/StringBuilder;" .null := D86 (Or.inr (hw _ (List.mem_of_getElem? (i := 52) rfl))) (ty := (.object "java/lang/StringBuilder")) (by decide)
  have F92 : Fld Z h83 a82 "com/example/roomwire/roomwire/qunar/XmlElement" "children" "Ljava/util/List;" .null := D86 (Or.inr (hw _ (List.mem_of_getElem? (i := 78) rfl))) (ty := (.object "java/util/List")) (by decide)
  have F93 : Fld Z h83 a82 "com/example/roomwire/roomwire/qunar/XmlElement" "name" "Ljava/lang/String;" .null := D86 (Or.inr (hw _ (List.mem_of_getElem? (i := 80) rfl))) (ty := (.object "java/lang/String")) (by decide)
  have F94 : Fld Z h83 a82 "com/example/roomwire/roomwire/qunar/XmlElement" "content" "Ljava/lang/String;" .null := D86 (Or.inl (hw _ (List.mem_of_getElem? (i := 213) rfl))) (ty := (.object "java/lang/String")) (by decide)
  refine KW.sub (S' := fun x => x = a82) (fun x hx => ?_) ?_
  · rcases hx with rfl
    · exact Or.inr ⟨gl90, A85.lt⟩
  show KW true l Z M_law n0 (fun v _ => v = some (.int 1)) (EL, fun x => x = a82) h83 19 127 101 #[.val (.int x0), .val (.int x1), .val (.int x2), .val (.int x3), .val (.int x4), .val (.int x5), .val (.int p0), .val (.int p1), .val (.int p2), .val (.int p3), .val (.int (0 : Int32)), .val (.ref a1), .val (.ref a28), .val (.ref a55), .unset, .unset, .unset, .unset, .unset, .unset] [(.ref a82)]
  refine k_dup at_101 rfl rfl ?_
  refine k_iload at_102 rfl rfl ?_
  have f95 := (ODX2.ext E84)
  refine k_callStatic (argsL := [(.int p3)]) (rest := [(.ref a82), (.ref a82)]) (W0 := 2) at_104 rfl (mt_vof l Z a0 hw cs hcs SC hEW p3 h83 n0 f95 hp3) (fun _ _ _ q => by obtain ⟨_, _, -, -, -, K, -⟩ := q; exact ⟨[], K, fun _ z => nomatch z⟩) (hw _ (List.mem_of_getElem? (i := 3) rfl)) (hw _ (List.mem_of_getElem? (i := 4) rfl)) (hw _ (List.mem_of_getElem? (i := 5) rfl)) (hw _ (List.mem_of_getElem? (i := 6) rfl)) (by decide) pd_vof rfl rfl rfl rfl (by decide) (by decide) (by decide) (by decide) ?_
  rintro _ h96 - ⟨a97, t98, rfl, g99, g100, K101, SG102⟩
  refine KW.sub (S' := fun _ => False) (fun x hx => hx.elim) ?_
  show KW true l Z M_law n0 (fun v _ => v = some (.int 1)) (EL, fun _ => False) h96 21 132 107 #[.val (.int x0), .val (.int x1), .val (.int x2), .val (.int x3), .val (.int x4), .val (.int x5), .val (.int p0), .val (.int p1), .val (.int p2), .val (.int p3), .val (.int (0 : Int32)), .val (.ref a1), .val (.ref a28), .val (.ref a55), .unset, .unset, .unset, .unset, .unset, .unset] [(.ref a97), (.ref a82), (.ref a82)]
  have f103 := (A85.keep K101)
  have f104 := (F91.keep K101 nin0)
  have f105 := (F92.keep K101 nin0)
  have f106 := (F93.keep K101 nin0)
  have f107 := (F94.keep K101 nin0)
  have f108 := (f95.keep K101 all0)
  refine k_callInit (a := a82) (argsL := [(.ref a97)]) (rest := [(.ref a82)]) (W0 := 1) at_107 rfl (mt_xi l Z a0 hw cs hcs SC hEW de ckd SDE DE a82 a97 t98 hX2.size [nbI p3] h96 n0 f108 ge89 ⟨gl90, Nat.le_trans E84.1 g99, Nat.le_trans E84.1 g100⟩ f103 SG102 f104 f105 f106 f107) (fun _ _ _ q => by obtain ⟨-, _, -, -, K, -⟩ := q; exact ⟨[a82], K, allS (Sf.exa f103 (by decide) (by decide)) all0⟩) rfl rfl (hw _ (List.mem_of_getElem? (i := 29) rfl)) (hw _ (List.mem_of_getElem? (i := 30) rfl)) (hw _ (List.mem_of_getElem? (i := 2) rfl)) (hw _ (List.mem_of_getElem? (i := 31) rfl)) (by decide) pd_xi rfl rfl rfl rfl (by decide) (by decide) (by decide) (by decide) ?_
  rintro _ hX3 - ⟨rfl, l3, ga3, gb3, KX3, XB3, AL3⟩
  have KT3 : Keep hX2 hX3 [a82] := (((Keep.refl hX2 [a82]).ext E84).trans K101 all0).trans KX3 (allS (Or.inl (by simp)) all0)
  have LE0_3 := LE0_2.keep KT3 (allS ⟨Or.inr (Nat.le_trans LE0_2.le gl90), Nat.ne_of_lt (Nat.lt_of_lt_of_le hdn ge89)⟩ all0)
  have LE1_3 := LE1_2.keep KT3 (allS ⟨Or.inr (Nat.le_trans LE1_2.le gl90), Nat.ne_of_lt (Nat.lt_of_lt_of_le hdn ge89)⟩ all0)
  have LE2_3 := LE2.keep KT3 (allS ⟨Or.inr (Nat.le_trans LE2.le gl90), Nat.ne_of_lt (Nat.lt_of_lt_of_le hdn ge89)⟩ all0)
  have hAE3 : hX0.size ≤ hX2.size := LE0_2.le
  have LE3 : Lf Z hX3 n0 de hX2.size hX3.size a82 (nbI p3) := ⟨l3, XB3, AL3, AL3.1.lt, Nat.le_refl _, ga3⟩
  have ODX3 := ODX2.keep KT3 (allS ge89 all0)
  have ZX3 : n0 ≤ hX3.size := ODX3.1 ▸ ODX3.2.1
  refine KW.sub (S' := fun _ => False) (fun x hx => hx.elim) ?_
  show KW true l Z M_law n0 (fun v _ => v = some (.int 1)) (EL, fun _ => False) hX3 24 164 110 #[.val (.int x0), .val (.int x1), .val (.int x2), .val (.int x3), .val (.int x4), .val (.int x5), .val (.int p0), .val (.int p1), .val (.int p2), .val (.int p3), .val (.int (0 : Int32)), .val (.ref a1), .val (.ref a28), .val (.ref a55), .unset, .unset, .unset, .unset, .unset, .unset] [(.ref a82)]
  refine k_astore (Ls' := #[.val (.int x0), .val (.int x1), .val (.int x2), .val (.int x3), .val (.int x4), .val (.int x5), .val (.int p0), .val (.int p1), .val (.int p2), .val (.int p3), .val (.int (0 : Int32)), .val (.ref a1), .val (.ref a28), .val (.ref a55), .val (.ref a82), .unset, .unset, .unset, .unset, .unset]) at_110 rfl rfl rfl ?_
  refine k_iload at_112 rfl rfl ?_
  refine k_ifc (pc1 := 122) (pc' := 117) at_114 (by decide) (by decide) rfl (fun (cd107 : (0 : Int32) = (0 : Int32)) => ?_) (fun (cd107 : ¬ (0 : Int32) = (0 : Int32)) => False.elim (by exact absurd cd107 (by decide)))
  refine k_iload at_122 rfl rfl ?_
  refine k_istore (Ls' := #[.val (.int x0), .val (.int x1), .val (.int x2), .val (.int x3), .val (.int x4), .val (.int x5), .val (.int p0), .val (.int p1), .val (.int p2), .val (.int p3), .val (.int (0 : Int32)), .val (.ref a1), .val (.ref a28), .val (.ref a55), .val (.ref a82), .val (.int p3), .unset, .unset, .unset, .unset]) at_124 rfl rfl ?_
  exact kw_126 l Z a0 hw cs hcs SC hEW de ckd SDE DE x0 x1 x2 x3 x4 x5 p0 p1 p2 p3 p3 (0 : Int32) a1 a28 a55 a82  hX0.size hX3 n0 ODX3 hdn (LE0_3.mono (Nat.zero_le _) (Nat.le_refl _) LE0_3.le) (LE1_3.mono hAE1 LE1_3.le (Nat.le_refl _)) (LE2_3.mono hAE2 LE2_3.le (Nat.le_refl _)) (LE3.mono hAE3 LE3.le (Nat.le_refl _)) hp0 hp1 hp2 hp3 hp3 sio SIO hsio
set_option maxRecDepth 65536 in
set_option maxHeartbeats 40000000 in
theorem kw_46_1 (l : Launch) (Z : State) (a0 : Array Value) (hw : ∀ d ∈ tables_1, d.before a0 Z = true) (cs : Int32) (hcs : ¬ cs = 0) (SC : Sta Z Z.heap "java/lang/String" "COMPACT_STRINGS" "Z" (.int cs)) (hEW : EW Z a0 EL) (de : Addr) (ckd : ClassId) (SDE : Sta Z Z.heap "java/util/ArrayList" "DEFAULTCAPACITY_EMPTY_ELEMENTDATA" "[Ljava/lang/Object;" (.ref de)) (DE : Arv Z Z.heap de ckd (.object "java/lang/Object") 0 [] .null) (x0 x1 x2 x3 x4 x5 p0 p1 p2 p3 : Int32) (h0 : Heap) (n0 : Nat) (OD : Old Z n0 h0) (hdn : de < n0) (hp0 : Ch p0) (hp1 : Ch p1) (hp2 : Ch p2) (hp3 : Ch p3) (sio : Value) (SIO : Sta Z Z.heap "jdk/internal/util/Preconditions" "SIOOBE_FORMATTER" "Ljava/util/function/BiFunction;" sio) (hsio : sio.isRef = true) : KW true l Z M_law n0 (fun v _ => v = some (.int 1)) (EL, fun _ => False) h0 0 0 46 #[.val (.int x0), .val (.int x1), .val (.int x2), .val (.int x3), .val (.int x4), .val (.int x5), .val (.int p0), .val (.int p1), .val (.int p2), .val (.int p3), .val (.int (1 : Int32)), .unset, .unset, .unset, .unset, .unset, .unset, .unset, .unset, .unset] [] := by
  have Z0 := OD.1 ▸ OD.2.1
  refine k_new at_46 rfl (hw _ (List.mem_of_getElem? (i := 0) rfl)) (hw _ (List.mem_of_getElem? (i := 1) rfl)) (hw _ (List.mem_of_getElem? (i := 2) rfl)) (by decide) (by decide) ?_
  intro h110 a109 g114 E111 A112 D113
  have z115 : n0 ≤ h0.size := Z0
  have ge116 : n0 ≤ a109 := Nat.le_trans z115 (Nat.le_of_eq g114.symm)
  have gl117 : h0.size ≤ a109 := Nat.le_of_eq g114.symm
  have F118 : Fld Z h110 a109 "com/example/roomwire/roomwire/qunar/XmlElement" "attributes" "Ljava/lang/StringBuilder;" .null := D113 (Or.inr (hw _ (List.mem_of_getElem? (i := 52) rfl))) (ty := (.object "java/lang/StringBuilder")) (by decide)
  have F119 : Fld Z h110 a109 "com/example/roomwire/roomwire/qunar/XmlElement" "children" "Ljava/util/List;" .null := D113 (Or.inr (hw _ (List.mem_of_getElem? (i := 78) rfl))) (ty := (.object "java/util/List")) (by decide)
  have F120 : Fld Z h110 a109 "com/example/roomwire/roomwire/qunar/XmlElement" "name" "Ljava/lang/String;" .null := D113 (Or.inr (hw _ (List.mem_of_getElem? (i := 80) rfl))) (ty := (.object "java/lang/String")) (by decide)
  have F121 : Fld Z h110 a109 "com/example/roomwire/roomwire/qunar/XmlElement" "content" "Ljava/lang/String;" .null := D113 (Or.inl (hw _ (List.mem_of_getElem? (i := 213) rfl))) (ty := (.object "java/lang/String")) (by decide)
  refine KW.sub (S' := fun x => x = a109) (fun x hx => ?_) ?_
  · rcases hx with rfl
    · exact Or.inr ⟨gl117, A112.lt⟩
  show KW true l Z M_law n0 (fun v _ => v = some (.int 1)) (EL, fun x => x = a109) h110 1 4 49 #[.val (.int x0), .val (.int x1), .val (.int x2), .val (.int x3), .val (.int x4), .val (.int x5), .val (.int p0), .val (.int p1), .val (.int p2), .val (.int p3), .val (.int (1 : Int32)), .unset, .unset, .unset, .unset, .unset, .unset, .unset, .unset, .unset] [(.ref a109)]
  refine k_dup at_49 rfl rfl ?_
  refine k_iload at_50 rfl rfl ?_
  have f122 := (OD.ext E111)
  refine k_callStatic (argsL := [(.int p0)]) (rest := [(.ref a109), (.ref a109)]) (W0 := 2) at_52 rfl (mt_vof l Z a0 hw cs hcs SC hEW p0 h110 n0 f122 hp0) (fun _ _ _ q => by obtain ⟨_, _, -, -, -, K, -⟩ := q; exact ⟨[], K, fun _ z => nomatch z⟩) (hw _ (List.mem_of_getElem? (i := 3) rfl)) (hw _ (List.mem_of_getElem? (i := 4) rfl)) (hw _ (List.mem_of_getElem? (i := 5) rfl)) (hw _ (List.mem_of_getElem? (i := 6) rfl)) (by decide) pd_vof rfl rfl rfl rfl (by decide) (by decide) (by decide) (by decide) ?_
  rintro _ h123 - ⟨a124, t125, rfl, g126, g127, K128, SG129⟩
  refine KW.sub (S' := fun _ => False) (fun x hx => hx.elim) ?_
  show KW true l Z M_law n0 (fun v _ => v = some (.int 1)) (EL, fun _ => False) h123 3 9 55 #[.val (.int x0), .val (.int x1), .val (.int x2), .val (.int x3), .val (.int x4), .val (.int x5), .val (.int p0), .val (.int p1), .val (.int p2), .val (.int p3), .val (.int (1 : Int32)), .unset, .unset, .unset, .unset, .unset, .unset, .unset, .unset, .unset] [(.ref a124), (.ref a109), (.ref a109)]
  have f130 := (A112.keep K128)
  have f131 := (F118.keep K128 nin0)
  have f132 := (F119.keep K128 nin0)
  have f133 := (F120.keep K128 nin0)
  have f134 := (F121.keep K128 nin0)
  have f135 := (f122.keep K128 all0)
  refine k_callInit (a := a109) (argsL := [(.ref a124)]) (rest := [(.ref a109)]) (W0 := 1) at_55 rfl (mt_xi l Z a0 hw cs hcs SC hEW de ckd SDE DE a109 a124 t125 h0.size [nbI p0] h123 n0 f135 ge116 ⟨gl117, Nat.le_trans E111.1 g126, Nat.le_trans E111.1 g127⟩ f130 SG129 f131 f132 f133 f134) (fun _ _ _ q => by obtain ⟨-, _, -, -, K, -⟩ := q; exact ⟨[a109], K, allS (Sf.exa f130 (by decide) (by decide)) all0⟩) rfl rfl (hw _ (List.mem_of_getElem? (i := 29) rfl)) (hw _ (List.mem_of_getElem? (i := 30) rfl)) (hw _ (List.mem_of_getElem? (i := 2) rfl)) (hw _ (List.mem_of_getElem? (i := 31) rfl)) (by decide) pd_xi rfl rfl rfl rfl (by decide) (by decide) (by decide) (by decide) ?_
  rintro _ hX0 - ⟨rfl, l0, ga0, gb0, KX0, XB0, AL0⟩
  have KT0 : Keep h0 hX0 [a109] := (((Keep.refl h0 [a109]).ext E111).trans K128 all0).trans KX0 (allS (Or.inl (by simp)) all0)
  have LE0 : Lf Z hX0 n0 de h0.size hX0.size a109 (nbI p0) := ⟨l0, XB0, AL0, AL0.1.lt, Nat.le_refl _, ga0⟩
  have ODX0 := OD.keep KT0 (allS ge116 all0)
  have ZX0 : n0 ≤ hX0.size := ODX0.1 ▸ ODX0.2.1
  refine KW.sub (S' := fun _ => False) (fun x hx => hx.elim) ?_
  show KW true l Z M_law n0 (fun v _ => v = some (.int 1)) (EL, fun _ => False) hX0 6 41 58 #[.val (.int x0), .val (.int x1), .val (.int x2), .val (.int x3), .val (.int x4), .val (.int x5), .val (.int p0), .val (.int p1), .val (.int p2), .val (.int p3), .val (.int (1 : Int32)), .unset, .unset, .unset, .unset, .unset, .unset, .unset, .unset, .unset] [(.ref a109)]
  refine k_astore (Ls' := #[.val (.int x0), .val (.int x1), .val (.int x2), .val (.int x3), .val (.int x4), .val (.int x5), .val (.int p0), .val (.int p1), .val (.int p2), .val (.int p3), .val (.int (1 : Int32)), .val (.ref a109), .unset, .unset, .unset, .unset, .unset, .unset, .unset, .unset]) at_58 rfl rfl rfl ?_
  refine k_new at_60 rfl (hw _ (List.mem_of_getElem? (i := 0) rfl)) (hw _ (List.mem_of_getElem? (i := 1) rfl)) (hw _ (List.mem_of_getElem? (i := 2) rfl)) (by decide) (by decide) ?_
  intro h137 a136 g141 E138 A139 D140
  have z142 : n0 ≤ hX0.size := ZX0
  have ge143 : n0 ≤ a136 := Nat.le_trans z142 (Nat.le_of_eq g141.symm)
  have gl144 : hX0.size ≤ a136 := Nat.le_of_eq g141.symm
  have F145 : Fld Z h137 a136 "com/example/roomwire/roomwire/qunar/XmlElement" "attributes" "Ljava/lang/StringBuilder;" .null := D140 (Or.inr (hw _ (List.mem_of_getElem? (i := 52) rfl))) (ty := (.object "java/lang/StringBuilder")) (by decide)
  have F146 : Fld Z h137 a136 "com/example/roomwire/roomwire/qunar/XmlElement" "children" "Ljava/util/List;" .null := D140 (Or.inr (hw _ (List.mem_of_getElem? (i := 78) rfl))) (ty := (.object "java/util/List")) (by decide)
  have F147 : Fld Z h137 a136 "com/example/roomwire/roomwire/qunar/XmlElement" "name" "Ljava/lang/String;" .null := D140 (Or.inr (hw _ (List.mem_of_getElem? (i := 80) rfl))) (ty := (.object "java/lang/String")) (by decide)
  have F148 : Fld Z h137 a136 "com/example/roomwire/roomwire/qunar/XmlElement" "content" "Ljava/lang/String;" .null := D140 (Or.inl (hw _ (List.mem_of_getElem? (i := 213) rfl))) (ty := (.object "java/lang/String")) (by decide)
  refine KW.sub (S' := fun x => x = a136) (fun x hx => ?_) ?_
  · rcases hx with rfl
    · exact Or.inr ⟨gl144, A139.lt⟩
  show KW true l Z M_law n0 (fun v _ => v = some (.int 1)) (EL, fun x => x = a136) h137 7 45 63 #[.val (.int x0), .val (.int x1), .val (.int x2), .val (.int x3), .val (.int x4), .val (.int x5), .val (.int p0), .val (.int p1), .val (.int p2), .val (.int p3), .val (.int (1 : Int32)), .val (.ref a109), .unset, .unset, .unset, .unset, .unset, .unset, .unset, .unset] [(.ref a136)]
  refine k_dup at_63 rfl rfl ?_
  refine k_iload at_64 rfl rfl ?_
  have f149 := (ODX0.ext E138)
  refine k_callStatic (argsL := [(.int p1)]) (rest := [(.ref a136), (.ref a136)]) (W0 := 2) at_66 rfl (mt_vof l Z a0 hw cs hcs SC hEW p1 h137 n0 f149 hp1) (fun _ _ _ q => by obtain ⟨_, _, -, -, -, K, -⟩ := q; exact ⟨[], K, fun _ z => nomatch z⟩) (hw _ (List.mem_of_getElem? (i := 3) rfl)) (hw _ (List.mem_of_getElem? (i := 4) rfl)) (hw _ (List.mem_of_getElem? (i := 5) rfl)) (hw _ (List.mem_of_getElem? (i := 6) rfl)) (by decide) pd_vof rfl rfl rfl rfl (by decide) (by decide) (by decide) (by decide) ?_
  rintro _ h150 - ⟨a151, t152, rfl, g153, g154, K155, SG156⟩
  refine KW.sub (S' := fun _ => False) (fun x hx => hx.elim) ?_
  show KW true l Z M_law n0 (fun v _ => v = some (.int 1)) (EL, fun _ => False) h150 9 50 69 #[.val (.int x0), .val (.int x1), .val (.int x2), .val (.int x3), .val (.int x4), .val (.int x5), .val (.int p0), .val (.int p1), .val (.int p2), .val (.int p3), .val (.int (1 : Int32)), .val (.ref a109), .unset, .unset, .unset, .unset, .unset, .unset, .unset, .unset] [(.ref a151), (.ref a136), (.ref a136)]
  have f157 := (A139.keep K155)
  have f158 := (F145.keep K155 nin0)
  have f159 := (F146.keep K155 nin0)
  have f160 := (F147.keep K155 nin0)
  have f161 := (F148.keep K155 nin0)
  have f162 := (f149.keep K155 all0)
  refine k_callInit (a := a136) (argsL := [(.ref a151)]) (rest := [(.ref a136)]) (W0 := 1) at_69 rfl (mt_xi l Z a0 hw cs hcs SC hEW de ckd SDE DE a136 a151 t152 hX0.size [nbI p1] h150 n0 f162 ge143 ⟨gl144, Nat.le_trans E138.1 g153, Nat.le_trans E138.1 g154⟩ f157 SG156 f158 f159 f160 f161) (fun _ _ _ q => by obtain ⟨-, _, -, -, K, -⟩ := q; exact ⟨[a136], K, allS (Sf.exa f157 (by decide) (by decide)) all0⟩) rfl rfl (hw _ (List.mem_of_getElem? (i := 29) rfl)) (hw _ (List.mem_of_getElem? (i := 30) rfl)) (hw _ (List.mem_of_getElem? (i := 2) rfl)) (hw _ (List.mem_of_getElem? (i := 31) rfl)) (by decide) pd_xi rfl rfl rfl rfl (by decide) (by decide) (by decide) (by decide) ?_
  rintro _ hX1 - ⟨rfl, l1, ga1, gb1, KX1, XB1, AL1⟩
  have KT1 : Keep hX0 hX1 [a136] := (((Keep.refl hX0 [a136]).ext E138).trans K155 all0).trans KX1 (allS (Or.inl (by simp)) all0)
  have LE0_1 := LE0.keep KT1 (allS ⟨Or.inr (Nat.le_trans LE0.le gl144), Nat.ne_of_lt (Nat.lt_of_lt_of_le hdn ge143)⟩ all0)
  have hAE1 : hX0.size ≤ hX0.size := LE0.le
  have LE1 : Lf Z hX1 n0 de hX0.size hX1.size a136 (nbI p1) := ⟨l1, XB1, AL1, AL1.1.lt, Nat.le_refl _, ga1⟩
  have ODX1 := ODX0.keep KT1 (allS ge143 all0)
  have ZX1 : n0 ≤ hX1.size := ODX1.1 ▸ ODX1.2.1
  refine KW.sub (S' := fun _ => False) (fun x hx => hx.elim) ?_
  show KW true l Z M_law n0 (fun v _ => v = some (.int 1)) (EL, fun _ => False) hX1 12 82 72 #[.val (.int x0), .val (.int x1), .val (.int x2), .val (.int x3), .val (.int x4), .val (.int x5), .val (.int p0), .val (.int p1), .val (.int p2), .val (.int p3), .val (.int (1 : Int32)), .val (.ref a109), .unset, .unset, .unset, .unset, .unset, .unset, .unset, .unset] [(.ref a136)]
  refine k_astore (Ls' := #[.val (.int x0), .val (.int x1), .val (.int x2), .val (.int x3), .val (.int x4), .val (.int x5), .val (.int p0), .val (.int p1), .val (.int p2), .val (.int p3), .val (.int (1 : Int32)), .val (.ref a109), .val (.ref a136), .unset, .unset, .unset, .unset, .unset, .unset, .unset]) at_72 rfl rfl rfl ?_
  refine k_new at_74 rfl (hw _ (List.mem_of_getElem? (i := 0) rfl)) (hw _ (List.mem_of_getElem? (i := 1) rfl)) (hw _ (List.mem_of_getElem? (i := 2) rfl)) (by decide) (by decide) ?_
  intro h164 a163 g168 E165 A166 D167
  have z169 : n0 ≤ hX1.size := ZX1
  have ge170 : n0 ≤ a163 := Nat.le_trans z169 (Nat.le_of_eq g168.symm)
  have gl171 : hX1.size ≤ a163 := Nat.le_of_eq g168.symm
  have F172 : Fld Z h164 a163 "com/example/roomwire/roomwire/qunar/XmlElement" "attributes" "Ljava/lang/StringBuilder;" .null := D167 (Or.inr (hw _ (List.mem_of_getElem? (i := 52) rfl))) (ty := (.object "java/lang/StringBuilder")) (by decide)
  have F173 : Fld Z h164 a163 "com/example/roomwire/roomwire/qunar/XmlElement" "children" "Ljava/util/List;" .null := D167 (Or.inr (hw _ (List.mem_of_getElem? (i := 78) rfl))) (ty := (.object "java/util/List")) (by decide)
  have F174 : Fld Z h164 a163 "com/example/roomwire/roomwire/qunar/XmlElement" "name" "Ljava/lang/String;" .null := D167 (Or.inr (hw _ (List.mem_of_getElem? (i := 80) rfl))) (ty := (.object "java/lang/String")) (by decide)
  have F175 : Fld Z h164 a163 "com/example/roomwire/roomwire/qunar/XmlElement" "content" "Ljava/lang/String;" .null := D167 (Or.inl (hw _ (List.mem_of_getElem? (i := 213) rfl))) (ty := (.object "java/lang/String")) (by decide)
  refine KW.sub (S' := fun x => x = a163) (fun x hx => ?_) ?_
  · rcases hx with rfl
    · exact Or.inr ⟨gl171, A166.lt⟩
  show KW true l Z M_law n0 (fun v _ => v = some (.int 1)) (EL, fun x => x = a163) h164 13 86 77 #[.val (.int x0), .val (.int x1), .val (.int x2), .val (.int x3), .val (.int x4), .val (.int x5), .val (.int p0), .val (.int p1), .val (.int p2), .val (.int p3), .val (.int (1 : Int32)), .val (.ref a109), .val (.ref a136), .unset, .unset, .unset, .unset, .unset, .unset, .unset] [(.ref a163)]
  refine k_dup at_77 rfl rfl ?_
  refine k_iload at_78 rfl rfl ?_
  have f176 := (ODX1.ext E165)
  refine k_callStatic (argsL := [(.int p2)]) (rest := [(.ref a163), (.ref a163)]) (W0 := 2) at_80 rfl (mt_vof l Z a0 hw cs hcs SC hEW p2 h164 n0 f176 hp2) (fun _ _ _ q => by obtain ⟨_, _, -, -, -, K, -⟩ := q; exact ⟨[], K, fun _ z => nomatch z⟩) (hw _ (List.mem_of_getElem? (i := 3) rfl)) (hw _ (List.mem_of_getElem? (i := 4) rfl)) (hw _ (List.mem_of_getElem? (i := 5) rfl)) (hw _ (List.mem_of_getElem? (i := 6) rfl)) (by decide) pd_vof rfl rfl rfl rfl (by decide) (by decide) (by decide) (by decide) ?_
  rintro _ h177 - ⟨a178, t179, rfl, g180, g181, K182, SG183⟩
  refine KW.sub (S' := fun _ => False) (fun x hx => hx.elim) ?_
  show KW true l Z M_law n0 (fun v _ => v = some (.int 1)) (EL, fun _ => False) h177 15 91 83 #[.val (.int x0), .val (.int x1), .val (.int x2), .val (.int x3), .val (.int x4), .val (.int x5), .val (.int p0), .val (.int p1), .val (.int p2), .val (.int p3), .val (.int (1 : Int32)), .val (.ref a109), .val (.ref a136), .unset, .unset, .unset, .unset, .unset, .unset, .unset] [(.ref a178), (.ref a163), (.ref a163)]
  have f184 := (A166.keep K182)
  have f185 := (F172.keep K182 nin0)
  have f186 := (F173.keep K182 nin0)
  have f187 := (F174.keep K182 nin0)
  have f188 := (F175.keep K182 nin0)
  have f189 := (f176.keep K182 all0)
  refine k_callInit (a := a163) (argsL := [(.ref a178)]) (rest := [(.ref a163)]) (W0 := 1) at_83 rfl (mt_xi l Z a0 hw cs hcs SC hEW de ckd SDE DE a163 a178 t179 hX1.size [nbI p2] h177 n0 f189 ge170 ⟨gl171, Nat.le_trans E165.1 g180, Nat.le_trans E165.1 g181⟩ f184 SG183 f185 f186 f187 f188) (fun _ _ _ q => by obtain ⟨-, _, -, -, K, -⟩ := q; exact ⟨[a163], K, allS (Sf.exa f184 (by decide) (by decide)) all0⟩) rfl rfl (hw _ (List.mem_of_getElem? (i := 29) rfl)) (hw _ (List.mem_of_getElem? (i := 30) rfl)) (hw _ (List.mem_of_getElem? (i := 2) rfl)) (hw _ (List.mem_of_getElem? (i := 31) rfl)) (by decide) pd_xi rfl rfl rfl rfl (by decide) (by decide) (by decide) (by decide) ?_
  rintro _ hX2 - ⟨rfl, l2, ga2, gb2, KX2, XB2, AL2⟩
  have KT2 : Keep hX1 hX2 [a163] := (((Keep.refl hX1 [a163]).ext E165).trans K182 all0).trans KX2 (allS (Or.inl (by simp)) all0)
  have LE0_2 := LE0_1.keep KT2 (allS ⟨Or.inr (Nat.le_trans LE0_1.le gl171), Nat.ne_of_lt (Nat.lt_of_lt_of_le hdn ge170)⟩ all0)
  have LE1_2 := LE1.keep KT2 (allS ⟨Or.inr (Nat.le_trans LE1.le gl171), Nat.ne_of_lt (Nat.lt_of_lt_of_le hdn ge170)⟩ all0)
  have hAE2 : hX0.size ≤ hX1.size := LE0_1.le
  have LE2 : Lf Z hX2 n0 de hX1.size hX2.size a163 (nbI p2) := ⟨l2, XB2, AL2, AL2.1.lt, Nat.le_refl _, ga2⟩
  have ODX2 := ODX1.keep KT2 (allS ge170 all0)
  have ZX2 : n0 ≤ hX2.size := ODX2.1 ▸ ODX2.2.1
  refine KW.sub (S' := fun _ => False) (fun x hx => hx.elim) ?_
  show KW true l Z M_law n0 (fun v _ => v = some (.int 1)) (EL, fun _ => False) hX2 18 123 86 #[.val (.int x0), .val (.int x1), .val (.int x2), .val (.int x3), .val (.int x4), .val (.int x5), .val (.int p0), .val (.int p1), .val (.int p2), .val (.int p3), .val (.int (1 : Int32)), .val (.ref a109), .val (.ref a136), .unset, .unset, .unset, .unset, .unset, .unset, .unset] [(.ref a163)]
  refine k_astore (Ls' := #[.val (.int x0), .val (.int x1), .val (.int x2), .val (.int x3), .val (.int x4), .val (.int x5), .val (.int p0), .val (.int p1), .val (.int p2), .val (.int p3), .val (.int (1 : Int32)), .val (.ref a109), .val (.ref a136), .val (.ref a163), .unset, .unset, .unset, .unset, .unset, .unset]) at_86 rfl rfl rfl ?_
  refine k_iload at_88 rfl rfl ?_
  refine k_ifc (pc1 := 98) (pc' := 93) at_90 (by decide) (by decide) rfl (fun (cd108 : (1 : Int32) = (0 : Int32)) => False.elim (by exact absurd cd108 (by decide))) (fun (cd108 : ¬ (1 : Int32) = (0 : Int32)) => ?_)
  refine k_aload at_93 rfl rfl rfl ?_
  refine k_goto (pc' := 110) at_95 (by decide) (by decide) ?_
  refine k_astore (Ls' := #[.val (.int x0), .val (.int x1), .val (.int x2), .val (.int x3), .val (.int x4), .val (.int x5), .val (.int p0), .val (.int p1), .val (.int p2), .val (.int p3), .val (.int (1 : Int32)), .val (.ref a109), .val (.ref a136), .val (.ref a163), .val (.ref a136), .unset, .unset, .unset, .unset, .unset]) at_110 rfl rfl rfl ?_
  refine k_iload at_112 rfl rfl ?_
  refine k_ifc (pc1 := 122) (pc' := 117) at_114 (by decide) (by decide) rfl (fun (cd109 : (1 : Int32) = (0 : Int32)) => False.elim (by exact absurd cd109 (by decide))) (fun (cd109 : ¬ (1 : Int32) = (0 : Int32)) => ?_)
  refine k_iload at_117 rfl rfl ?_
  refine k_goto (pc' := 124) at_119 (by decide) (by decide) ?_
  refine k_istore (Ls' := #[.val (.int x0), .val (.int x1), .val (.int x2), .val (.int x3), .val (.int x4), .val (.int x5), .val (.int p0), .val (.int p1), .val (.int p2), .val (.int p3), .val (.int (1 : Int32)), .val (.ref a109), .val (.ref a136), .val (.ref a163), .val (.ref a136), .val (.int p1), .unset, .unset, .unset, .unset]) at_124 rfl rfl ?_
  refine KW.more (k' := 24) (n' := 164) (by decide) (by decide) ?_
  exact kw_126 l Z a0 hw cs hcs SC hEW de ckd SDE DE x0 x1 x2 x3 x4 x5 p0 p1 p2 p3 p1 (1 : Int32) a109 a136 a163 a136  hX0.size hX2 n0 ODX2 hdn (LE0_2.mono (Nat.zero_le _) (Nat.le_refl _) LE0_2.le) (LE1_2.mono hAE1 LE1_2.le (Nat.le_refl _)) (LE2.mono hAE2 LE2.le (Nat.le_refl _)) (LE1_2.mono hAE1 LE1_2.le (Nat.le_refl _)) hp0 hp1 hp2 hp3 hp1 sio SIO hsio
set_option maxRecDepth 65536 in
set_option maxHeartbeats 40000000 in
theorem kw_law (l : Launch) (Z : State) (a0 : Array Value) (hw : ∀ d ∈ tables_1, d.before a0 Z = true) (cs : Int32) (hcs : ¬ cs = 0) (SC : Sta Z Z.heap "java/lang/String" "COMPACT_STRINGS" "Z" (.int cs)) (hEW : EW Z a0 EL) (de : Addr) (ckd : ClassId) (SDE : Sta Z Z.heap "java/util/ArrayList" "DEFAULTCAPACITY_EMPTY_ELEMENTDATA" "[Ljava/lang/Object;" (.ref de)) (DE : Arv Z Z.heap de ckd (.object "java/lang/Object") 0 [] .null) (x0 x1 x2 x3 x4 x5 : Int32) (h0 : Heap) (n0 : Nat) (OD : Old Z n0 h0) (hdn : de < n0) (sio : Value) (SIO : Sta Z Z.heap "jdk/internal/util/Preconditions" "SIOOBE_FORMATTER" "Ljava/util/function/BiFunction;" sio) (hsio : sio.isRef = true) : KW true l Z M_law n0 (fun v _ => v = some (.int 1)) (EL, fun _ => False) h0 0 0 0 #[.val (.int x0), .val (.int x1), .val (.int x2), .val (.int x3), .val (.int x4), .val (.int x5), .unset, .unset, .unset, .unset, .unset, .unset, .unset, .unset, .unset, .unset, .unset, .unset, .unset, .unset] [] := by
  refine k_iloadN at_0 rfl rfl ?_
  refine k_sipush (z := (255 : Int32)) at_1 rfl (by decide) ?_
  refine k_iand at_4 rfl ?_
  refine k_i2c at_5 rfl ?_
  refine k_istore (Ls' := #[.val (.int x0), .val (.int x1), .val (.int x2), .val (.int x3), .val (.int x4), .val (.int x5), .val (.int (UInt32.toInt32 (UInt16.toUInt32 (UInt32.toUInt16 (Int32.toUInt32 (x0 &&& (255 : Int32))))))), .unset, .unset, .unset, .unset, .unset, .unset, .unset, .unset, .unset, .unset, .unset, .unset, .unset]) at_6 rfl rfl ?_
  refine k_iloadN at_8 rfl rfl ?_
  refine k_sipush (z := (255 : Int32)) at_9 rfl (by decide) ?_
  refine k_iand at_12 rfl ?_
  refine k_i2c at_13 rfl ?_
  refine k_istore (Ls' := #[.val (.int x0), .val (.int x1), .val (.int x2), .val (.int x3), .val (.int x4), .val (.int x5), .val (.int (UInt32.toInt32 (UInt16.toUInt32 (UInt32.toUInt16 (Int32.toUInt32 (x0 &&& (255 : Int32))))))), .val (.int (UInt32.toInt32 (UInt16.toUInt32 (UInt32.toUInt16 (Int32.toUInt32 (x1 &&& (255 : Int32))))))), .unset, .unset, .unset, .unset, .unset, .unset, .unset, .unset, .unset, .unset, .unset, .unset]) at_14 rfl rfl ?_
  refine k_iloadN at_16 rfl rfl ?_
  refine k_sipush (z := (255 : Int32)) at_17 rfl (by decide) ?_
  refine k_iand at_20 rfl ?_
  refine k_i2c at_21 rfl ?_
  refine k_istore (Ls' := #[.val (.int x0), .val (.int x1), .val (.int x2), .val (.int x3), .val (.int x4), .val (.int x5), .val (.int (UInt32.toInt32 (UInt16.toUInt32 (UInt32.toUInt16 (Int32.toUInt32 (x0 &&& (255 : Int32))))))), .val (.int (UInt32.toInt32 (UInt16.toUInt32 (UInt32.toUInt16 (Int32.toUInt32 (x1 &&& (255 : Int32))))))), .val (.int (UInt32.toInt32 (UInt16.toUInt32 (UInt32.toUInt16 (Int32.toUInt32 (x2 &&& (255 : Int32))))))), .unset, .unset, .unset, .unset, .unset, .unset, .unset, .unset, .unset, .unset, .unset]) at_22 rfl rfl ?_
  refine k_iloadN at_24 rfl rfl ?_
  refine k_sipush (z := (255 : Int32)) at_25 rfl (by decide) ?_
  refine k_iand at_28 rfl ?_
  refine k_i2c at_29 rfl ?_
  refine k_istore (Ls' := #[.val (.int x0), .val (.int x1), .val (.int x2), .val (.int x3), .val (.int x4), .val (.int x5), .val (.int (UInt32.toInt32 (UInt16.toUInt32 (UInt32.toUInt16 (Int32.toUInt32 (x0 &&& (255 : Int32))))))), .val (.int (UInt32.toInt32 (UInt16.toUInt32 (UInt32.toUInt16 (Int32.toUInt32 (x1 &&& (255 : Int32))))))), .val (.int (UInt32.toInt32 (UInt16.toUInt32 (UInt32.toUInt16 (Int32.toUInt32 (x2 &&& (255 : Int32))))))), .val (.int (UInt32.toInt32 (UInt16.toUInt32 (UInt32.toUInt16 (Int32.toUInt32 (x3 &&& (255 : Int32))))))), .unset, .unset, .unset, .unset, .unset, .unset, .unset, .unset, .unset, .unset]) at_30 rfl rfl ?_
  refine k_iload at_32 rfl rfl ?_
  refine k_iconst (z := (1 : Int32)) at_34 rfl (by decide) ?_
  refine k_iand at_35 rfl ?_
  refine k_ifc (pc1 := 43) (pc' := 39) at_36 (by decide) (by decide) rfl (fun (cd110 : (x5 &&& (1 : Int32)) = (0 : Int32)) => ?_) (fun (cd110 : ¬ (x5 &&& (1 : Int32)) = (0 : Int32)) => ?_)
  · skip
    refine k_iconst (z := (0 : Int32)) at_43 rfl (by decide) ?_
    refine k_istore (Ls' := #[.val (.int x0), .val (.int x1), .val (.int x2), .val (.int x3), .val (.int x4), .val (.int x5), .val (.int (UInt32.toInt32 (UInt16.toUInt32 (UInt32.toUInt16 (Int32.toUInt32 (x0 &&& (255 : Int32))))))), .val (.int (UInt32.toInt32 (UInt16.toUInt32 (UInt32.toUInt16 (Int32.toUInt32 (x1 &&& (255 : Int32))))))), .val (.int (UInt32.toInt32 (UInt16.toUInt32 (UInt32.toUInt16 (Int32.toUInt32 (x2 &&& (255 : Int32))))))), .val (.int (UInt32.toInt32 (UInt16.toUInt32 (UInt32.toUInt16 (Int32.toUInt32 (x3 &&& (255 : Int32))))))), .val (.int (0 : Int32)), .unset, .unset, .unset, .unset, .unset, .unset, .unset, .unset, .unset]) at_44 rfl rfl ?_
    exact kw_46_0 l Z a0 hw cs hcs SC hEW de ckd SDE DE x0 x1 x2 x3 x4 x5 _ _ _ _ h0 n0 OD hdn (own_ch _) (own_ch _) (own_ch _) (own_ch _) sio SIO hsio
  · skip
    refine k_iconst (z := (1 : Int32)) at_39 rfl (by decide) ?_
    refine k_goto (pc' := 44) at_40 (by decide) (by decide) ?_
    refine k_istore (Ls' := #[.val (.int x0), .val (.int x1), .val (.int x2), .val (.int x3), .val (.int x4), .val (.int x5), .val (.int (UInt32.toInt32 (UInt16.toUInt32 (UInt32.toUInt16 (Int32.toUInt32 (x0 &&& (255 : Int32))))))), .val (.int (UInt32.toInt32 (UInt16.toUInt32 (UInt32.toUInt16 (Int32.toUInt32 (x1 &&& (255 : Int32))))))), .val (.int (UInt32.toInt32 (UInt16.toUInt32 (UInt32.toUInt16 (Int32.toUInt32 (x2 &&& (255 : Int32))))))), .val (.int (UInt32.toInt32 (UInt16.toUInt32 (UInt32.toUInt16 (Int32.toUInt32 (x3 &&& (255 : Int32))))))), .val (.int (1 : Int32)), .unset, .unset, .unset, .unset, .unset, .unset, .unset, .unset, .unset]) at_44 rfl rfl ?_
    exact kw_46_1 l Z a0 hw cs hcs SC hEW de ckd SDE DE x0 x1 x2 x3 x4 x5 _ _ _ _ h0 n0 OD hdn (own_ch _) (own_ch _) (own_ch _) (own_ch _) sio SIO hsio
set_option maxRecDepth 65536 in
set_option maxHeartbeats 40000000 in
theorem comes_1 {Post : Tables → Env → Array Value → State → Outcome → State → Prop} (hpost : ∀ tb e args s v u, (limb_1_1.after args s (.returned v) u = true ∧ limb_1_2.after args s (.returned v) u = true ∧ True) → FramedW s (.returned v) u (Jvm.fieldLocs frame_1_writes args s ++ Jvm.arrayLocs frame_1_arrays args s ++ Jvm.staticLocs frame_1_statics s) 80 3968 → Post tb e args s (.returned v) u) :
    ArmFor flags0 classFile x code maxLocals ret World_1 tables_1 room_1 Calls_1 rest_1 Pre_1 Post := by
  intro l hfl _ _ p e ha hc hk s m args below hf hA hF happ hP
  obtain ⟨hcalls, hrest, hpre⟩ := hP
  obtain ⟨-, -, -, hnamed, -, -, -, hat⟩ := (Spec.applies_iff hf).mp happ
  obtain ⟨hg, hn⟩ := and_e (Cond.before_iff.mp (show (Jvm.Cond.and given_1 narrow_1).before args s = true from hpre))
  obtain ⟨hcount, g0⟩ := and_e hg
  obtain ⟨g0, g1⟩ := and_e g0
  obtain ⟨g1, g2⟩ := and_e g1
  obtain ⟨g2, g3⟩ := and_e g2
  obtain ⟨g3, g4⟩ := and_e g3
  obtain ⟨g4, g5⟩ := and_e g4
  obtain ⟨w0, w1, w2, w3, w4, w5, rfl⟩ : ∃ w0 w1 w2 w3 w4 w5 : Value, args = #[w0, w1, w2, w3, w4, w5] := by
    have hs : args.size = 6 := by simpa [Cond.value, given_1] using hcount
    obtain ⟨L⟩ := args
    match L, hs with
    | [w0, w1, w2, w3, w4, w5], _ => exact ⟨w0, w1, w2, w3, w4, w5, rfl⟩
  have hw := fun d (hd : d ∈ tables_1) => atoms_spec (ws := Jvm.Cond.code x code maxLocals ret :: tables_1) hat d (List.mem_cons_of_mem _ hd)
  obtain ⟨x0, e0⟩ := is_v g0
  obtain rfl : w0 = (.int x0) := Option.some.inj e0
  obtain ⟨x1, e1⟩ := is_v g1
  obtain rfl : w1 = (.int x1) := Option.some.inj e1
  obtain ⟨x2, e2⟩ := is_v g2
  obtain rfl : w2 = (.int x2) := Option.some.inj e2
  obtain ⟨x3, e3⟩ := is_v g3
  obtain rfl : w3 = (.int x3) := Option.some.inj e3
  obtain ⟨x4, e4⟩ := is_v g4
  obtain rfl : w4 = (.int x4) := Option.some.inj e4
  obtain ⟨x5, e5⟩ := is_v g5
  obtain rfl : w5 = (.int x5) := Option.some.inj e5
  have q0 := Cond.before_iff.mp (show rest_1_c.before _ s = true from hrest)
  obtain ⟨r0, q1⟩ := and_e q0
  obtain ⟨r1, q2⟩ := and_e q1
  obtain ⟨r2, q3⟩ := and_e q2
  obtain ⟨r3, q4⟩ := and_e q3
  obtain ⟨r4, q5⟩ := and_e q4
  obtain ⟨r5, q6⟩ := and_e q5
  obtain ⟨r6, q7⟩ := and_e q6
  obtain ⟨r7, q8⟩ := and_e q7
  obtain ⟨r8, q9⟩ := and_e q8
  obtain ⟨r9, q10⟩ := and_e q9
  obtain ⟨r10, q11⟩ := and_e q10
  obtain ⟨r11, q12⟩ := and_e q11
  obtain ⟨r12, q13⟩ := and_e q12
  obtain ⟨r13, q14⟩ := and_e q13
  obtain ⟨r14, q15⟩ := and_e q14
  obtain ⟨r15, q16⟩ := and_e q15
  obtain ⟨r16, q17⟩ := and_e q16
  obtain ⟨r17, q18⟩ := and_e q17
  obtain ⟨cs, ecs⟩ := is_v r1
  have SC : Sta s s.heap "java/lang/String" "COMPACT_STRINGS" "Z" (.int cs) := Sta.start ecs (Or.inl (Cond.before_iff.mpr r0))
  have hcs : ¬ cs = (0 : Int32) := gotF (Cond.eq_ints ecs (Term.int_eval (0))) (not_v r2)
  have hEW : EW s _ EL := (EW.cons (hw _ (List.mem_of_getElem? (i := 86) rfl)) (by decide +kernel) (EW.cons (hw _ (List.mem_of_getElem? (i := 225) rfl)) (by decide +kernel) (EW.cons (hw _ (List.mem_of_getElem? (i := 369) rfl)) (by decide +kernel) EW.nil)))
  have hCH : CHv s EL s.vm s.heap := CHv.start hEW (fun p hp => hcalls.1 p hp) (Cond.before_iff.mpr r2) (hw _ (List.mem_of_getElem? (i := 17) rfl)) (hw _ (List.mem_of_getElem? (i := 13) rfl))
  obtain ⟨sio, esio, hsio⟩ := isR_v r8
  have SIO : Sta s s.heap "jdk/internal/util/Preconditions" "SIOOBE_FORMATTER" "Ljava/util/function/BiFunction;" sio := Sta.start esio (Or.inl (Cond.before_iff.mpr r7))
  obtain ⟨de, ckd, ede, DE⟩ := own_de r15 r17
  have SDE : Sta s s.heap "java/util/ArrayList" "DEFAULTCAPACITY_EMPTY_ELEMENTDATA" "[Ljava/lang/Object;" (.ref de) := Sta.start ede (Or.inr ⟨(hw _ (List.mem_of_getElem? (i := 55) rfl)), Cond.before_iff.mpr r11⟩)
  obtain ⟨n, o, h1, h2, h3, _, L, rfl, ⟨N, -, rfl⟩, -, hq⟩ := mtw_of_kw (a0 := _) (ws := tables_1) (P := (EL, fun _ => False)) pf_law hEW (fun m => by first | (simp [entryFrame, mkF, argsToLocals, Value.category, maxLocals]; done) | rfl) (kw_law l s _ hw cs hcs SC hEW de ckd SDE DE x0 x1 x2 x3 x4 x5 s.heap s.heap.size (Old.start s) DE.lt sio SIO hsio) p e ha hc hk s m _ below hf ((Spec.applies_iff_loose hf).mp happ).1 ⟨rfl, State.Warmed39.refl s, rfl, hCH, fun _ hx => hx.elim⟩ trivial
  refine ⟨n, _, h1, h2, h3, hpost _ _ _ _ _ _ ⟨Cond.after_iff.mpr rfl, Cond.after_iff.mpr (eq_i res_at (Term.int_eval (1)) rfl), trivial⟩ ⟨hq.1, hq.2.1, hq.2.2.1, (hq.2.2.2.sift fun y hy => Or.inr (N y hy)).mono (by decide) (by decide)⟩⟩
theorem main_1_1 : Claimed_1_1 := comes_1 fun _ _ _ _ _ _ h hF => ⟨h.1, hF⟩
theorem main_1_2 : Claimed_1_2 := comes_1 fun _ _ _ _ _ _ h hF => ⟨h.2.1, hF⟩
end Jvm.Pilot.@@N@@
namespace Jvm.Pilot.@@N@@
open Jvm Jvm.ClassFile Sem Op Lib Jvm.Free Jvm.Stand Jvm.Pilot.@@N@@.Jvm.D
/-! MADE BY PROGRAM (witnessworld.py) out of the Statement's table words and the real class files: 32 classes; the members and pool entries that the words name. The judged class is class 1, her method 2. -/
namespace start1
open Jvm.ClassFile
def u (s : String) : CpInfo := .utf8 (stringToUtf16 s)
/-- a pool by its gaps: so many unusable entries, then the entry; so many at the end -/
def gap : Nat → List CpInfo → List CpInfo
  | 0, r => r
  | n + 1, r => .unusable :: gap n r
def poolList (es : List (Nat × CpInfo)) (last : Nat) : List CpInfo := es.foldr (fun e r => gap e.1 (e.2 :: r)) (gap last [])
def pool (es : List (Nat × CpInfo)) (last : Nat) : Array CpInfo := ⟨poolList es last⟩
def fileOf (pool : Array CpInfo) (this : Nat) (attrs : Array Attribute := #[]) (ms : Array MethodInfo := #[]) (fl : Nat := 33) (sup : Nat := 0) (ifs : Array Nat := #[]) (fds : Array FieldInfo := #[]) : ClassFile where
  minorVersion := 0
  majorVersion := 65
  constantPool := pool
  accessFlags := fl
  thisClass := this
  superClass := sup
  interfaces := ifs
  fields := fds
  methods := ms
  attributes := attrs
def plain (name : String) (sup : Option ClassId) : Class where
  name := name
  kind := .ordinary
  loader := none
  accessFlags := 33
  super := sup
  interfaces := #[]
  cf := none
  fields := #[]
  methods := #[]
  instanceTypes := #[]
  staticTypes := #[]
  resolved := #[]
  callSites := []
  init := .initialized
  statics := none
  mirror := none

def pool0 : Array CpInfo := pool [(5, u "<init>"), (0, u "()V"), (1, .class_ 10), (1, u "java/lang/Object")] 113

def k0c0 : Code := { maxStack := 0, maxLocals := 1, code := object_method_1_code, exceptionTable := #[], attributes := #[] }
def k0m0 : Method := { name := "<init>", desc := "()V", sig := { parameters := [], returnType := none }, accessFlags := 1, code := some k0c0 }
/-- java/lang/Object -/
def k0 : Class := { plain "java/lang/Object" none with
  accessFlags := 33
  interfaces := #[]
  cf := some (fileOf pool0 8 #[] #[{ accessFlags := 1, nameIndex := 5, descriptorIndex := 6, attributes := #[] }] 33 0 #[] #[])
  fields := #[]
  methods := #[k0m0]
  instanceTypes := #[]
  staticTypes := #[]
  resolved := Array.replicate 124 none
  statics := none }

def pool1 : Array CpInfo := pool [(2, .class_ 4), (1, u "java/lang/Object"), (0, u "<init>"), (0, u "()V"), (0, .methodref 8 9), (0, .class_ 10), (0, .nameAndType 11 12), (0, u "java/lang/String"), (0, u "charAt"), (0, u "(I)C"), (0, .class_ 14), (0, u "com/example/roomwire/roomwire/qunar/XmlElement"), (0, .methodref 8 16), (0, .nameAndType 17 18), (0, u "valueOf"), (0, u "(C)Ljava/lang/String;"), (0, .methodref 13 20), (0, .nameAndType 5 21), (0, u "(Ljava/lang/String;)V"), (0, .methodref 13 23), (0, .nameAndType 24 25), (0, u "add"), (0, u "(Lcom/example/roomwire/roomwire/qunar/XmlElement;)Lcom/example/roomwire/roomwire/qunar/XmlElement;"), (0, .methodref 13 27), (0, .nameAndType 28 29), (0, u "document"), (0, u "()Ljava/lang/String;"), (0, .methodref 8 31), (0, .nameAndType 32 33), (0, u "length"), (0, u "()I"), (0, .methodref 35 36), (0, .class_ 37), (0, .nameAndType 38 39), (0, u "com/example/roomwire/roomwire/qunar/XmlElementAddPinLaw"), (0, u "childAt"), (0, u "(Ljava/lang/String;IC)Z"), (3, u "law"), (0, u "(IIIIII)Z")] 2

def k1m0 : Method := { name := "<init>", desc := "()V", sig := { parameters := [], returnType := none }, accessFlags := 1, code := none }
def k1c1 : Code := { maxStack := 3, maxLocals := 3, code := method_2_code, exceptionTable := #[], attributes := #[] }
def k1m1 : Method := { name := "childAt", desc := "(Ljava/lang/String;IC)Z", sig := { parameters := [(.object "java/lang/String"), .int, .char], returnType := some .boolean }, accessFlags := 10, code := some k1c1 }
def k1c2 : Code := { maxStack := 3, maxLocals := 20, code := code, exceptionTable := #[], attributes := #[] }
def k1m2 : Method := { name := "law", desc := "(IIIIII)Z", sig := { parameters := [.int, .int, .int, .int, .int, .int], returnType := some .boolean }, accessFlags := 9, code := some k1c2 }
/-- com/example/roomwire/roomwire/qunar/XmlElementAddPinLaw -/
def k1 : Class := { plain "com/example/roomwire/roomwire/qunar/XmlElementAddPinLaw" (some 0) with
  accessFlags := 49
  interfaces := #[]
  cf := some (fileOf pool1 35 #[] #[{ accessFlags := 1, nameIndex := 5, descriptorIndex := 6, attributes := #[] }, { accessFlags := 10, nameIndex := 38, descriptorIndex := 39, attributes := #[] }, { accessFlags := 9, nameIndex := 43, descriptorIndex := 44, attributes := #[] }] 49 2 #[] #[])
  fields := #[]
  methods := #[k1m0, k1m1, k1m2]
  instanceTypes := #[]
  staticTypes := #[]
  resolved := Array.replicate 47 none
  statics := none }

def pool2 : Array CpInfo := pool [(1, .methodref 2 3), (0, .class_ 4), (0, .nameAndType 5 6), (0, u "java/lang/Object"), (0, u "<init>"), (0, u "()V"), (0, .class_ 8), (0, u "java/lang/StringBuilder"), (0, .methodref 7 3), (0, .fieldref 11 12), (0, .class_ 13), (0, .nameAndType 14 15), (0, u "com/example/roomwire/roomwire/qunar/XmlElement"), (0, u "attributes"), (0, u "Ljava/lang/StringBuilder;"), (0, .class_ 17), (0, u "java/util/ArrayList"), (0, .methodref 16 3), (0, .fieldref 11 20), (0, .nameAndType 21 22), (0, u "children"), (0, u "Ljava/util/List;"), (0, .fieldref 11 24), (0, .nameAndType 25 26), (0, u "name"), (0, u "Ljava/lang/String;"), (0, .methodref 7 28), (0, .nameAndType 29 30), (0, u "append"), (0, u "(C)Ljava/lang/StringBuilder;"), (0, .methodref 7 32), (0, .nameAndType 29 33), (0, u "(Ljava/lang/String;)Ljava/lang/StringBuilder;"), (6, .interfaceMethodref 41 42), (0, .class_ 43), (0, .nameAndType 44 45), (0, u "java/util/List"), (0, u "add"), (0, u "(Ljava/lang/Object;)Z"), (1, .nameAndType 5 48), (0, u "(Ljava/lang/String;)V"), (2, .fieldref 11 52), (0, .nameAndType 53 26), (0, u "content"), (2, u "(Lcom/example/roomwire/roomwire/qunar/XmlElement;)Lcom/example/roomwire/roomwire/qunar/XmlElement;"), (0, .string 58), (0, u "<?xml version=\"1.0\" encoding=\"utf-8\"?>\n"), (0, .methodref 7 47), (0, .methodref 11 61), (0, .nameAndType 62 63), (0, u "writeTo"), (0, u "(Ljava/lang/StringBuilder;)V"), (0, .methodref 7 65), (0, .nameAndType 66 67), (0, u "toString"), (0, u "()Ljava/lang/String;"), (0, .methodref 7 69), (0, .nameAndType 29 70), (0, u "(Ljava/lang/CharSequence;)Ljava/lang/StringBuilder;"), (2, .interfaceMethodref 41 74), (0, .nameAndType 75 76), (0, u "isEmpty"), (0, u "()Z"), (0, .string 78), (0, u "/>"), (0, .interfaceMethodref 41 80), (0, .nameAndType 81 82), (0, u "iterator"), (0, u "()Ljava/util/Iterator;"), (0, .interfaceMethodref 84 85), (0, .class_ 86), (0, .nameAndType 87 76), (0, u "java/util/Iterator"), (0, u "hasNext"), (0, .interfaceMethodref 84 89), (0, .nameAndType 90 91), (0, u "next"), (0, u "()Ljava/lang/Object;"), (0, .string 93), (0, u "\n</"), (40, u "DECLARATION"), (8, u "document")] 2

def k2c0 : Code := { maxStack := 3, maxLocals := 2, code := prog_61_method_1_code, exceptionTable := #[], attributes := #[] }
def k2m0 : Method := { name := "<init>", desc := "(Ljava/lang/String;)V", sig := { parameters := [(.object "java/lang/String")], returnType := none }, accessFlags := 0, code := some k2c0 }
def k2c1 : Code := { maxStack := 2, maxLocals := 2, code := prog_61_method_3_code, exceptionTable := #[], attributes := #[] }
def k2m1 : Method := { name := "add", desc := "(Lcom/example/roomwire/roomwire/qunar/XmlElement;)Lcom/example/roomwire/roomwire/qunar/XmlElement;", sig := { parameters := [(.object "com/example/roomwire/roomwire/qunar/XmlElement")], returnType := some (.object "com/example/roomwire/roomwire/qunar/XmlElement") }, accessFlags := 0, code := some k2c1 }
def k2c2 : Code := { maxStack := 3, maxLocals := 2, code := prog_61_method_5_code, exceptionTable := #[], attributes := #[] }
def k2m2 : Method := { name := "document", desc := "()Ljava/lang/String;", sig := { parameters := [], returnType := some (.object "java/lang/String") }, accessFlags := 0, code := some k2c2 }
def k2c3 : Code := { maxStack := 2, maxLocals := 4, code := prog_61_method_6_code, exceptionTable := #[], attributes := #[] }
def k2m3 : Method := { name := "writeTo", desc := "(Ljava/lang/StringBuilder;)V", sig := { parameters := [(.object "java/lang/StringBuilder")], returnType := none }, accessFlags := 2, code := some k2c3 }
/-- com/example/roomwire/roomwire/qunar/XmlElement -/
def k2 : Class := { plain "com/example/roomwire/roomwire/qunar/XmlElement" (some 0) with
  accessFlags := 48
  interfaces := #[]
  cf := some (fileOf pool2 11 #[] #[{ accessFlags := 0, nameIndex := 5, descriptorIndex := 48, attributes := #[] }, { accessFlags := 0, nameIndex := 44, descriptorIndex := 56, attributes := #[] }, { accessFlags := 0, nameIndex := 143, descriptorIndex := 67, attributes := #[] }, { accessFlags := 2, nameIndex := 62, descriptorIndex := 63, attributes := #[] }] 48 2 #[] #[{ accessFlags := 26, nameIndex := 134, descriptorIndex := 26, attributes := #[] }, { accessFlags := 18, nameIndex := 25, descriptorIndex := 26, attributes := #[] }, { accessFlags := 18, nameIndex := 14, descriptorIndex := 15, attributes := #[] }, { accessFlags := 18, nameIndex := 21, descriptorIndex := 22, attributes := #[] }, { accessFlags := 2, nameIndex := 53, descriptorIndex := 26, attributes := #[] }])
  fields := #[{ name := "DECLARATION", type := (.object "java/lang/String"), accessFlags := 26, slot := 0, constantValue := 0 }, { name := "name", type := (.object "java/lang/String"), accessFlags := 18, slot := 0, constantValue := 0 }, { name := "attributes", type := (.object "java/lang/StringBuilder"), accessFlags := 18, slot := 1, constantValue := 0 }, { name := "children", type := (.object "java/util/List"), accessFlags := 18, slot := 2, constantValue := 0 }, { name := "content", type := (.object "java/lang/String"), accessFlags := 2, slot := 3, constantValue := 0 }]
  methods := #[k2m0, k2m1, k2m2, k2m3]
  instanceTypes := #[(.object "java/lang/String"), (.object "java/lang/StringBuilder"), (.object "java/util/List"), (.object "java/lang/String")]
  staticTypes := #[(.object "java/lang/String")]
  resolved := Array.replicate 146 none
  statics := none }

def pool3 : Array CpInfo := pool [(1, .class_ 2), (0, u "java/io/Serializable"), (0, .class_ 4), (0, u "java/lang/Object")] 2

/-- java/io/Serializable -/
def k3 : Class := { plain "java/io/Serializable" (some 0) with
  accessFlags := 1537
  interfaces := #[]
  cf := some (fileOf pool3 1 #[] #[] 1537 3 #[] #[])
  fields := #[]
  methods := #[]
  instanceTypes := #[]
  staticTypes := #[]
  resolved := Array.replicate 7 none
  statics := none }

def pool4 : Array CpInfo := pool [(1, .class_ 2), (0, u "java/lang/Comparable"), (0, .class_ 4), (0, u "java/lang/Object")] 7

/-- java/lang/Comparable -/
def k4 : Class := { plain "java/lang/Comparable" (some 0) with
  accessFlags := 1537
  interfaces := #[]
  cf := some (fileOf pool4 1 #[] #[] 1537 3 #[] #[])
  fields := #[]
  methods := #[]
  instanceTypes := #[]
  staticTypes := #[]
  resolved := Array.replicate 12 none
  statics := none }

def pool5 : Array CpInfo := pool [(2, .class_ 4), (1, u "java/lang/CharSequence"), (42, .class_ 48), (0, u "java/lang/CharSequence$1CodePointIterator"), (10, .class_ 60), (0, u "java/lang/CharSequence$1CharIterator"), (5, .class_ 67), (0, u "java/lang/Object")] 63

/-- java/lang/CharSequence -/
def k5 : Class := { plain "java/lang/CharSequence" (some 0) with
  accessFlags := 1537
  interfaces := #[]
  cf := some (fileOf pool5 2 #[.nestMembers #[47, 59]] #[] 1537 66 #[] #[])
  fields := #[]
  methods := #[]
  instanceTypes := #[]
  staticTypes := #[]
  resolved := Array.replicate 131 none
  statics := none }

def pool6 : Array CpInfo := pool [(1, .class_ 2), (0, u "java/lang/constant/Constable"), (0, .class_ 4), (0, u "java/lang/Object")] 6

/-- java/lang/constant/Constable -/
def k6 : Class := { plain "java/lang/constant/Constable" (some 0) with
  accessFlags := 1537
  interfaces := #[]
  cf := some (fileOf pool6 1 #[] #[] 1537 3 #[] #[])
  fields := #[]
  methods := #[]
  instanceTypes := #[]
  staticTypes := #[]
  resolved := Array.replicate 11 none
  statics := none }

def pool7 : Array CpInfo := pool [(1, .class_ 2), (0, u "java/lang/constant/ConstantDesc"), (0, .class_ 4), (0, u "java/lang/Object")] 32

/-- java/lang/constant/ConstantDesc -/
def k7 : Class := { plain "java/lang/constant/ConstantDesc" (some 0) with
  accessFlags := 1537
  interfaces := #[]
  cf := some (fileOf pool7 1 #[] #[] 1537 3 #[] #[])
  fields := #[]
  methods := #[]
  instanceTypes := #[]
  staticTypes := #[]
  resolved := Array.replicate 37 none
  statics := none }

def pool8 : Array CpInfo := pool [(1, .methodref 2 3), (0, .class_ 4), (0, .nameAndType 5 6), (0, u "java/lang/Object"), (0, u "<init>"), (0, u "()V"), (2, .fieldref 10 11), (0, .class_ 12), (0, .nameAndType 13 14), (0, u "java/lang/String"), (0, u "value"), (0, u "[B"), (0, .fieldref 10 16), (0, .nameAndType 17 18), (0, u "coder"), (0, u "B"), (2, u "hash"), (0, u "I"), (2, u "hashIsZero"), (0, u "Z"), (11, .fieldref 10 39), (0, .nameAndType 40 26), (0, u "COMPACT_STRINGS"), (12, u "toBytes"), (0, .methodref 55 56), (0, .class_ 57), (0, .nameAndType 58 59), (0, u "java/util/Arrays"), (0, u "copyOfRange"), (0, u "([BII)[B"), (47, .class_ 109), (1, u "java/lang/StringLatin1"), (32, u "()Z"), (50, .class_ 195), (1, u "java/lang/System"), (13, .methodref 10 210), (0, .nameAndType 5 211), (0, u "([BB)V"), (0, .methodref 193 213), (0, .nameAndType 214 215), (0, u "arraycopy"), (0, u "(Ljava/lang/Object;ILjava/lang/Object;II)V"), (118, u "()I"), (0, .methodref 10 336), (0, .nameAndType 17 337), (0, u "()B"), (2, u "()[B"), (22, u "([BI)C"), (5, u "(C)Z"), (21, u "(II)V"), (35, u "(I)C"), (61, .methodref 10 490), (0, .nameAndType 5 491), (0, u "(Ljava/lang/AbstractStringBuilder;Ljava/lang/Void;)V"), (0, .methodref 10 493), (0, .nameAndType 494 142), (0, u "isLatin1"), (0, .methodref 107 496), (0, .nameAndType 497 363), (0, u "charAt"), (3, u "checkIndex"), (4, .nameAndType 507 334), (0, u "length"), (24, u "getBytes"), (16, .methodref 550 506), (0, .class_ 551), (0, u "java/lang/AbstractStringBuilder"), (0, .methodref 550 553), (0, .nameAndType 554 340), (0, u "getValue"), (20, .class_ 576), (0, u "java/lang/CharSequence"), (22, u "CASE_INSENSITIVE_ORDER"), (0, u "Ljava/util/Comparator;"), (181, u "valueOf"), (0, u "(C)Ljava/lang/String;"), (37, u "([BIB)V"), (193, .methodref 107 1016), (0, .nameAndType 1017 369), (0, u "canEncode"), (0, .methodref 107 1019), (0, .nameAndType 53 1020), (0, u "(C)[B"), (26, .methodref 550 493), (5, .fieldref 1054 1055), (0, .class_ 1056), (0, .nameAndType 1057 1058), (0, u "jdk/internal/util/Preconditions"), (0, u "SIOOBE_FORMATTER"), (0, u "Ljava/util/function/BiFunction;"), (0, .methodref 1054 1060), (0, .nameAndType 501 1061), (0, u "(IILjava/util/function/BiFunction;)I"), (39, u "serialPersistentFields"), (0, u "[Ljava/io/ObjectStreamField;"), (0, .class_ 1104), (0, u "java/lang/String$CaseInsensitiveComparator"), (1, .class_ 1107), (0, u "java/io/Serializable"), (0, .class_ 1109), (0, u "java/lang/Comparable"), (0, .class_ 1111), (0, u "java/lang/constant/Constable"), (0, .class_ 1113), (0, u "java/lang/constant/ConstantDesc"), (2, u "serialVersionUID"), (0, u "J"), (3, u "REPL"), (0, u "C"), (2, u "LATIN1"), (1, u "UTF16"), (105, u "(Ljava/lang/StringBuilder;)V")] 217

def k8m0 : Method := { name := "<init>", desc := "()V", sig := { parameters := [], returnType := none }, accessFlags := 1, code := none }
def k8c1 : Code := { maxStack := 3, maxLocals := 2, code := jdk_42_method_53_code, exceptionTable := #[], attributes := #[] }
def k8m1 : Method := { name := "<init>", desc := "(Ljava/lang/StringBuilder;)V", sig := { parameters := [(.object "java/lang/StringBuilder")], returnType := none }, accessFlags := 1, code := some k8c1 }
def k8c2 : Code := { maxStack := 2, maxLocals := 1, code := jdk_42_method_54_code, exceptionTable := #[], attributes := #[] }
def k8m2 : Method := { name := "length", desc := "()I", sig := { parameters := [], returnType := some .int }, accessFlags := 1, code := some k8c2 }
def k8c3 : Code := { maxStack := 2, maxLocals := 2, code := jdk_42_method_56_code, exceptionTable := #[], attributes := #[] }
def k8m3 : Method := { name := "charAt", desc := "(I)C", sig := { parameters := [.int], returnType := some .char }, accessFlags := 1, code := some k8c3 }
def k8c4 : Code := { maxStack := 4, maxLocals := 1, code := jdk_42_method_139_code, exceptionTable := #[], attributes := #[] }
def k8m4 : Method := { name := "valueOf", desc := "(C)Ljava/lang/String;", sig := { parameters := [.char], returnType := some (.object "java/lang/String") }, accessFlags := 9, code := some k8c4 }
def k8c5 : Code := { maxStack := 5, maxLocals := 4, code := jdk_42_method_147_code, exceptionTable := #[], attributes := #[] }
def k8m5 : Method := { name := "getBytes", desc := "([BIB)V", sig := { parameters := [(.array .byte), .int, .byte], returnType := none }, accessFlags := 0, code := some k8c5 }
def k8c6 : Code := { maxStack := 5, maxLocals := 5, code := jdk_42_method_150_code, exceptionTable := #[], attributes := #[] }
def k8m6 : Method := { name := "<init>", desc := "(Ljava/lang/AbstractStringBuilder;Ljava/lang/Void;)V", sig := { parameters := [(.object "java/lang/AbstractStringBuilder"), (.object "java/lang/Void")], returnType := none }, accessFlags := 0, code := some k8c6 }
def k8c7 : Code := { maxStack := 2, maxLocals := 3, code := jdk_42_method_151_code, exceptionTable := #[], attributes := #[] }
def k8m7 : Method := { name := "<init>", desc := "([BB)V", sig := { parameters := [(.array .byte), .byte], returnType := none }, accessFlags := 0, code := some k8c7 }
def k8c8 : Code := { maxStack := 1, maxLocals := 1, code := jdk_42_method_152_code, exceptionTable := #[], attributes := #[] }
def k8m8 : Method := { name := "coder", desc := "()B", sig := { parameters := [], returnType := some .byte }, accessFlags := 0, code := some k8c8 }
def k8c9 : Code := { maxStack := 1, maxLocals := 1, code := jdk_42_method_154_code, exceptionTable := #[], attributes := #[] }
def k8m9 : Method := { name := "isLatin1", desc := "()Z", sig := { parameters := [], returnType := some .boolean }, accessFlags := 0, code := some k8c9 }
def k8c10 : Code := { maxStack := 3, maxLocals := 2, code := jdk_42_method_155_code, exceptionTable := #[], attributes := #[] }
def k8m10 : Method := { name := "checkIndex", desc := "(II)V", sig := { parameters := [.int, .int], returnType := none }, accessFlags := 8, code := some k8c10 }
/-- java/lang/String -/
def k8 : Class := { plain "java/lang/String" (some 0) with
  accessFlags := 49
  interfaces := #[3, 4, 5, 6, 7]
  cf := some (fileOf pool8 10 #[.nestMembers #[1103]] #[{ accessFlags := 1, nameIndex := 5, descriptorIndex := 6, attributes := #[] }, { accessFlags := 1, nameIndex := 5, descriptorIndex := 1233, attributes := #[] }, { accessFlags := 1, nameIndex := 507, descriptorIndex := 334, attributes := #[] }, { accessFlags := 1, nameIndex := 497, descriptorIndex := 427, attributes := #[] }, { accessFlags := 9, nameIndex := 782, descriptorIndex := 783, attributes := #[] }, { accessFlags := 0, nameIndex := 532, descriptorIndex := 821, attributes := #[] }, { accessFlags := 0, nameIndex := 5, descriptorIndex := 491, attributes := #[] }, { accessFlags := 0, nameIndex := 5, descriptorIndex := 211, attributes := #[] }, { accessFlags := 0, nameIndex := 17, descriptorIndex := 337, attributes := #[] }, { accessFlags := 0, nameIndex := 494, descriptorIndex := 142, attributes := #[] }, { accessFlags := 8, nameIndex := 501, descriptorIndex := 391, attributes := #[] }] 49 2 #[1106, 1108, 575, 1110, 1112] #[{ accessFlags := 18, nameIndex := 13, descriptorIndex := 14, attributes := #[] }, { accessFlags := 18, nameIndex := 17, descriptorIndex := 18, attributes := #[] }, { accessFlags := 2, nameIndex := 21, descriptorIndex := 22, attributes := #[] }, { accessFlags := 2, nameIndex := 25, descriptorIndex := 26, attributes := #[] }, { accessFlags := 26, nameIndex := 1116, descriptorIndex := 1117, attributes := #[] }, { accessFlags := 24, nameIndex := 40, descriptorIndex := 26, attributes := #[] }, { accessFlags := 26, nameIndex := 1101, descriptorIndex := 1102, attributes := #[] }, { accessFlags := 26, nameIndex := 1121, descriptorIndex := 1122, attributes := #[] }, { accessFlags := 25, nameIndex := 599, descriptorIndex := 600, attributes := #[] }, { accessFlags := 24, nameIndex := 1125, descriptorIndex := 18, attributes := #[] }, { accessFlags := 24, nameIndex := 1127, descriptorIndex := 18, attributes := #[] }])
  fields := #[{ name := "value", type := (.array .byte), accessFlags := 18, slot := 0, constantValue := 0 }, { name := "coder", type := .byte, accessFlags := 18, slot := 1, constantValue := 0 }, { name := "hash", type := .int, accessFlags := 2, slot := 2, constantValue := 0 }, { name := "hashIsZero", type := .boolean, accessFlags := 2, slot := 3, constantValue := 0 }, { name := "serialVersionUID", type := .long, accessFlags := 26, slot := 0, constantValue := 0 }, { name := "COMPACT_STRINGS", type := .boolean, accessFlags := 24, slot := 1, constantValue := 0 }, { name := "serialPersistentFields", type := (.array (.object "java/io/ObjectStreamField")), accessFlags := 26, slot := 2, constantValue := 0 }, { name := "REPL", type := .char, accessFlags := 26, slot := 3, constantValue := 0 }, { name := "CASE_INSENSITIVE_ORDER", type := (.object "java/util/Comparator"), accessFlags := 25, slot := 4, constantValue := 0 }, { name := "LATIN1", type := .byte, accessFlags := 24, slot := 5, constantValue := 0 }, { name := "UTF16", type := .byte, accessFlags := 24, slot := 6, constantValue := 0 }]
  methods := #[k8m0, k8m1, k8m2, k8m3, k8m4, k8m5, k8m6, k8m7, k8m8, k8m9, k8m10]
  instanceTypes := #[(.array .byte), .byte, .int, .boolean]
  staticTypes := #[.long, .boolean, (.array (.object "java/io/ObjectStreamField")), .char, (.object "java/util/Comparator"), .byte, .byte]
  resolved := Array.replicate 1451 none
  statics := some 0 }

def pool9 : Array CpInfo := pool [(1, .class_ 2), (0, u "java/lang/String"), (1, .class_ 6), (1, u "java/lang/Object"), (0, u "<init>"), (0, u "()V"), (0, .methodref 1 10), (0, .nameAndType 11 12), (0, u "checkIndex"), (0, u "(II)V"), (1, .class_ 16), (1, u "java/lang/StringLatin1"), (36, u "([BI)C"), (36, u "canEncode"), (14, u "(C)Z"), (15, u "$assertionsDisabled"), (0, u "Z"), (98, .class_ 223), (1, u "java/lang/StringLatin1$LinesSpliterator"), (28, u "charAt"), (127, u "toBytes"), (1, u "(C)[B"), (7, .class_ 391), (0, u "java/lang/StringLatin1$CharsSpliterator")] 3

def k9m0 : Method := { name := "<init>", desc := "()V", sig := { parameters := [], returnType := none }, accessFlags := 0, code := none }
def k9c1 : Code := { maxStack := 2, maxLocals := 2, code := jdk_43_method_2_code, exceptionTable := #[], attributes := #[] }
def k9m1 : Method := { name := "charAt", desc := "([BI)C", sig := { parameters := [(.array .byte), .int], returnType := some .char }, accessFlags := 9, code := some k9c1 }
def k9c2 : Code := { maxStack := 2, maxLocals := 1, code := jdk_43_method_3_code, exceptionTable := #[], attributes := #[] }
def k9m2 : Method := { name := "canEncode", desc := "(C)Z", sig := { parameters := [.char], returnType := some .boolean }, accessFlags := 9, code := some k9c2 }
def k9c3 : Code := { maxStack := 4, maxLocals := 1, code := jdk_43_method_46_code, exceptionTable := #[], attributes := #[] }
def k9m3 : Method := { name := "toBytes", desc := "(C)[B", sig := { parameters := [.char], returnType := some (.array .byte) }, accessFlags := 9, code := some k9c3 }
/-- java/lang/StringLatin1 -/
def k9 : Class := { plain "java/lang/StringLatin1" (some 0) with
  accessFlags := 48
  interfaces := #[]
  cf := some (fileOf pool9 14 #[.nestMembers #[390, 221]] #[{ accessFlags := 0, nameIndex := 7, descriptorIndex := 8, attributes := #[] }, { accessFlags := 9, nameIndex := 252, descriptorIndex := 53, attributes := #[] }, { accessFlags := 9, nameIndex := 90, descriptorIndex := 105, attributes := #[] }, { accessFlags := 9, nameIndex := 380, descriptorIndex := 382, attributes := #[] }] 48 4 #[] #[{ accessFlags := 4120, nameIndex := 121, descriptorIndex := 122, attributes := #[] }])
  fields := #[{ name := "$assertionsDisabled", type := .boolean, accessFlags := 4120, slot := 0, constantValue := 0 }]
  methods := #[k9m0, k9m1, k9m2, k9m3]
  instanceTypes := #[]
  staticTypes := #[.boolean]
  resolved := Array.replicate 395 none
  statics := none }

def pool10 : Array CpInfo := pool [(1, .class_ 2), (0, u "java/lang/Appendable"), (0, .class_ 4), (0, u "java/lang/Object")] 9

/-- java/lang/Appendable -/
def k10 : Class := { plain "java/lang/Appendable" (some 0) with
  accessFlags := 1537
  interfaces := #[]
  cf := some (fileOf pool10 1 #[] #[] 1537 3 #[] #[])
  fields := #[]
  methods := #[]
  instanceTypes := #[]
  staticTypes := #[]
  resolved := Array.replicate 14 none
  statics := none }

def pool11 : Array CpInfo := pool [(1, .class_ 2), (0, u "java/lang/String"), (0, .methodref 4 5), (0, .class_ 6), (0, .nameAndType 7 8), (0, u "java/lang/Object"), (0, u "<init>"), (0, u "()V"), (1, .class_ 12), (1, u "java/lang/AbstractStringBuilder"), (0, u "EMPTYVALUE"), (0, u "[B"), (0, .fieldref 10 16), (0, .nameAndType 17 14), (0, u "value"), (0, .fieldref 1 19), (0, .nameAndType 20 21), (0, u "COMPACT_STRINGS"), (0, u "Z"), (0, .fieldref 10 23), (0, .nameAndType 24 25), (0, u "coder"), (0, u "B"), (6, .methodref 1 33), (0, .nameAndType 34 35), (0, u "length"), (0, u "()I"), (2, .integer 2147483631), (0, .integer 2147483647), (0, .methodref 1 41), (0, .nameAndType 24 42), (0, u "()B"), (0, .methodref 10 44), (0, .nameAndType 45 46), (0, u "append"), (0, u "(Ljava/lang/String;)Ljava/lang/AbstractStringBuilder;"), (1, .class_ 49), (0, u "java/lang/CharSequence"), (19, u "(Ljava/lang/String;)V"), (0, .methodref 10 71), (0, .nameAndType 72 42), (0, u "getCoder"), (0, .fieldref 10 74), (0, .nameAndType 75 21), (0, u "maybeLatin1"), (2, u "(Ljava/lang/CharSequence;)Ljava/lang/AbstractStringBuilder;"), (0, .fieldref 10 80), (0, .nameAndType 81 82), (0, u "count"), (0, u "I"), (0, .methodref 10 84), (0, .nameAndType 85 86), (0, u "isLatin1"), (0, u "()Z"), (1, .class_ 90), (1, u "java/lang/StringLatin1"), (9, .methodref 10 101), (0, .nameAndType 102 103), (0, u "ensureCapacityInternal"), (0, u "(I)V"), (0, .methodref 10 105), (0, .nameAndType 106 107), (0, u "newCapacity"), (0, u "(I)I"), (0, .methodref 109 110), (0, .class_ 111), (0, .nameAndType 112 113), (0, u "java/util/Arrays"), (0, u "copyOf"), (0, u "([BI)[B"), (0, .methodref 115 116), (0, .class_ 117), (0, .nameAndType 118 119), (0, u "jdk/internal/util/ArraysSupport"), (0, u "newLength"), (0, u "(III)I"), (40, .methodref 10 33), (30, .methodref 88 192), (0, .nameAndType 193 194), (0, u "canEncode"), (0, u "(C)Z"), (13, .methodref 10 209), (0, .nameAndType 210 211), (0, u "putStringAt"), (0, u "(ILjava/lang/String;)V"), (0, .methodref 10 213), (0, .nameAndType 45 214), (0, u "(Ljava/lang/AbstractStringBuilder;)Ljava/lang/AbstractStringBuilder;"), (0, .methodref 10 216), (0, .nameAndType 217 218), (0, u "inflateIfNeededFor"), (0, u "(Ljava/lang/AbstractStringBuilder;)V"), (0, .methodref 10 220), (0, .nameAndType 221 222), (0, u "getBytes"), (0, u "([BIB)V"), (69, u "(C)Ljava/lang/AbstractStringBuilder;"), (16, .methodref 310 311), (0, .class_ 312), (0, .nameAndType 313 314), (0, u "java/lang/System"), (0, u "arraycopy"), (0, u "(Ljava/lang/Object;ILjava/lang/Object;II)V"), (82, .methodref 10 398), (0, .nameAndType 217 69), (0, .methodref 1 220), (3, u "()[B"), (40, .class_ 445), (0, u "java/lang/Appendable"), (106, u "getValue")] 56

def k11m0 : Method := { name := "<init>", desc := "()V", sig := { parameters := [], returnType := none }, accessFlags := 0, code := none }
def k11c1 : Code := { maxStack := 2, maxLocals := 2, code := jdk_68_method_2_code, exceptionTable := #[], attributes := #[] }
def k11m1 : Method := { name := "<init>", desc := "(I)V", sig := { parameters := [.int], returnType := none }, accessFlags := 0, code := some k11c1 }
def k11c2 : Code := { maxStack := 2, maxLocals := 5, code := jdk_68_method_3_code, exceptionTable := #[], attributes := #[] }
def k11m2 : Method := { name := "<init>", desc := "(Ljava/lang/String;)V", sig := { parameters := [(.object "java/lang/String")], returnType := none }, accessFlags := 0, code := some k11c2 }
def k11c3 : Code := { maxStack := 1, maxLocals := 1, code := jdk_68_method_6_code, exceptionTable := #[], attributes := #[] }
def k11m3 : Method := { name := "length", desc := "()I", sig := { parameters := [], returnType := some .int }, accessFlags := 1, code := some k11c3 }
def k11c4 : Code := { maxStack := 4, maxLocals := 3, code := jdk_68_method_9_code, exceptionTable := #[], attributes := #[] }
def k11m4 : Method := { name := "ensureCapacityInternal", desc := "(I)V", sig := { parameters := [.int], returnType := none }, accessFlags := 2, code := some k11c4 }
def k11c5 : Code := { maxStack := 5, maxLocals := 6, code := jdk_68_method_10_code, exceptionTable := #[], attributes := #[] }
def k11m5 : Method := { name := "newCapacity", desc := "(I)I", sig := { parameters := [.int], returnType := some .int }, accessFlags := 2, code := some k11c5 }
def k11c6 : Code := { maxStack := 3, maxLocals := 3, code := jdk_68_method_22_code, exceptionTable := #[], attributes := #[] }
def k11m6 : Method := { name := "append", desc := "(Ljava/lang/String;)Ljava/lang/AbstractStringBuilder;", sig := { parameters := [(.object "java/lang/String")], returnType := some (.object "java/lang/AbstractStringBuilder") }, accessFlags := 1, code := some k11c6 }
def k11c7 : Code := { maxStack := 4, maxLocals := 3, code := jdk_68_method_24_code, exceptionTable := #[], attributes := #[] }
def k11m7 : Method := { name := "append", desc := "(Ljava/lang/AbstractStringBuilder;)Ljava/lang/AbstractStringBuilder;", sig := { parameters := [(.object "java/lang/AbstractStringBuilder")], returnType := some (.object "java/lang/AbstractStringBuilder") }, accessFlags := 0, code := some k11c7 }
def k11c8 : Code := { maxStack := 4, maxLocals := 2, code := jdk_68_method_25_code, exceptionTable := #[], attributes := #[] }
def k11m8 : Method := { name := "append", desc := "(Ljava/lang/CharSequence;)Ljava/lang/AbstractStringBuilder;", sig := { parameters := [(.object "java/lang/CharSequence")], returnType := some (.object "java/lang/AbstractStringBuilder") }, accessFlags := 1, code := some k11c8 }
def k11c9 : Code := { maxStack := 5, maxLocals := 2, code := jdk_68_method_31_code, exceptionTable := #[], attributes := #[] }
def k11m9 : Method := { name := "append", desc := "(C)Ljava/lang/AbstractStringBuilder;", sig := { parameters := [.char], returnType := some (.object "java/lang/AbstractStringBuilder") }, accessFlags := 1, code := some k11c9 }
def k11c10 : Code := { maxStack := 1, maxLocals := 1, code := jdk_68_method_64_code, exceptionTable := #[], attributes := #[] }
def k11m10 : Method := { name := "getValue", desc := "()[B", sig := { parameters := [], returnType := some (.array .byte) }, accessFlags := 16, code := some k11c10 }
def k11c11 : Code := { maxStack := 6, maxLocals := 4, code := jdk_68_method_65_code, exceptionTable := #[], attributes := #[] }
def k11m11 : Method := { name := "getBytes", desc := "([BIB)V", sig := { parameters := [(.array .byte), .int, .byte], returnType := none }, accessFlags := 0, code := some k11c11 }
def k11c12 : Code := { maxStack := 1, maxLocals := 1, code := jdk_68_method_67_code, exceptionTable := #[], attributes := #[] }
def k11m12 : Method := { name := "getCoder", desc := "()B", sig := { parameters := [], returnType := some .byte }, accessFlags := 16, code := some k11c12 }
def k11c13 : Code := { maxStack := 1, maxLocals := 1, code := jdk_68_method_68_code, exceptionTable := #[], attributes := #[] }
def k11m13 : Method := { name := "isLatin1", desc := "()Z", sig := { parameters := [], returnType := some .boolean }, accessFlags := 16, code := some k11c13 }
def k11c14 : Code := { maxStack := 2, maxLocals := 2, code := jdk_68_method_71_code, exceptionTable := #[], attributes := #[] }
def k11m14 : Method := { name := "inflateIfNeededFor", desc := "(Ljava/lang/String;)V", sig := { parameters := [(.object "java/lang/String")], returnType := none }, accessFlags := 2, code := some k11c14 }
def k11c15 : Code := { maxStack := 2, maxLocals := 2, code := jdk_68_method_72_code, exceptionTable := #[], attributes := #[] }
def k11m15 : Method := { name := "inflateIfNeededFor", desc := "(Ljava/lang/AbstractStringBuilder;)V", sig := { parameters := [(.object "java/lang/AbstractStringBuilder")], returnType := none }, accessFlags := 2, code := some k11c15 }
def k11c16 : Code := { maxStack := 4, maxLocals := 3, code := jdk_68_method_73_code, exceptionTable := #[], attributes := #[] }
def k11m16 : Method := { name := "putStringAt", desc := "(ILjava/lang/String;)V", sig := { parameters := [.int, (.object "java/lang/String")], returnType := none }, accessFlags := 2, code := some k11c16 }
/-- java/lang/AbstractStringBuilder -/
def k11 : Class := { plain "java/lang/AbstractStringBuilder" (some 0) with
  accessFlags := 1056
  interfaces := #[10, 5]
  cf := some (fileOf pool11 10 #[] #[{ accessFlags := 0, nameIndex := 7, descriptorIndex := 8, attributes := #[] }, { accessFlags := 0, nameIndex := 7, descriptorIndex := 103, attributes := #[] }, { accessFlags := 0, nameIndex := 7, descriptorIndex := 69, attributes := #[] }, { accessFlags := 1, nameIndex := 34, descriptorIndex := 35, attributes := #[] }, { accessFlags := 2, nameIndex := 102, descriptorIndex := 103, attributes := #[] }, { accessFlags := 2, nameIndex := 106, descriptorIndex := 107, attributes := #[] }, { accessFlags := 1, nameIndex := 45, descriptorIndex := 46, attributes := #[] }, { accessFlags := 0, nameIndex := 45, descriptorIndex := 214, attributes := #[] }, { accessFlags := 1, nameIndex := 45, descriptorIndex := 78, attributes := #[] }, { accessFlags := 1, nameIndex := 45, descriptorIndex := 292, attributes := #[] }, { accessFlags := 16, nameIndex := 552, descriptorIndex := 403, attributes := #[] }, { accessFlags := 0, nameIndex := 221, descriptorIndex := 222, attributes := #[] }, { accessFlags := 16, nameIndex := 72, descriptorIndex := 42, attributes := #[] }, { accessFlags := 16, nameIndex := 85, descriptorIndex := 86, attributes := #[] }, { accessFlags := 2, nameIndex := 217, descriptorIndex := 69, attributes := #[] }, { accessFlags := 2, nameIndex := 217, descriptorIndex := 218, attributes := #[] }, { accessFlags := 2, nameIndex := 210, descriptorIndex := 211, attributes := #[] }] 1056 4 #[444, 48] #[{ accessFlags := 0, nameIndex := 17, descriptorIndex := 14, attributes := #[] }, { accessFlags := 0, nameIndex := 24, descriptorIndex := 25, attributes := #[] }, { accessFlags := 0, nameIndex := 75, descriptorIndex := 21, attributes := #[] }, { accessFlags := 0, nameIndex := 81, descriptorIndex := 82, attributes := #[] }, { accessFlags := 26, nameIndex := 13, descriptorIndex := 14, attributes := #[] }])
  fields := #[{ name := "value", type := (.array .byte), accessFlags := 0, slot := 0, constantValue := 0 }, { name := "coder", type := .byte, accessFlags := 0, slot := 1, constantValue := 0 }, { name := "maybeLatin1", type := .boolean, accessFlags := 0, slot := 2, constantValue := 0 }, { name := "count", type := .int, accessFlags := 0, slot := 3, constantValue := 0 }, { name := "EMPTYVALUE", type := (.array .byte), accessFlags := 26, slot := 0, constantValue := 0 }]
  methods := #[k11m0, k11m1, k11m2, k11m3, k11m4, k11m5, k11m6, k11m7, k11m8, k11m9, k11m10, k11m11, k11m12, k11m13, k11m14, k11m15, k11m16]
  instanceTypes := #[(.array .byte), .byte, .boolean, .int]
  staticTypes := #[(.array .byte)]
  resolved := Array.replicate 609 none
  statics := none }

def pool12 : Array CpInfo := pool [(1, .methodref 2 3), (0, .class_ 4), (0, .nameAndType 5 6), (0, u "java/lang/AbstractStringBuilder"), (0, u "<init>"), (0, u "(I)V"), (0, .methodref 2 8), (0, .nameAndType 5 9), (0, u "(Ljava/lang/String;)V"), (8, .class_ 20), (1, u "java/lang/String"), (2, .methodref 24 25), (0, .class_ 26), (0, .nameAndType 27 28), (0, u "java/lang/StringBuilder"), (0, u "append"), (0, u "(Ljava/lang/String;)Ljava/lang/StringBuilder;"), (0, .methodref 2 30), (0, .nameAndType 27 31), (0, u "(Ljava/lang/String;)Ljava/lang/AbstractStringBuilder;"), (3, .methodref 2 36), (0, .nameAndType 27 37), (0, u "(Ljava/lang/CharSequence;)Ljava/lang/AbstractStringBuilder;"), (12, .methodref 2 51), (0, .nameAndType 27 52), (0, u "(C)Ljava/lang/AbstractStringBuilder;"), (84, .methodref 18 138), (0, .nameAndType 5 139), (0, u "(Ljava/lang/StringBuilder;)V"), (5, u "()V"), (10, u "()I"), (129, u "(C)Ljava/lang/StringBuilder;"), (14, u "(Ljava/lang/CharSequence;)Ljava/lang/StringBuilder;"), (41, .methodref 2 344), (0, .nameAndType 345 156), (0, u "length"), (3, .class_ 350), (0, u "java/lang/Appendable"), (0, .class_ 352), (0, u "java/io/Serializable"), (0, .class_ 354), (0, u "java/lang/Comparable"), (0, .class_ 356), (0, u "java/lang/CharSequence"), (0, u "serialVersionUID"), (0, u "J"), (40, u "toString"), (0, u "()Ljava/lang/String;")] 21

def k12c0 : Code := { maxStack := 2, maxLocals := 1, code := jdk_67_method_1_code, exceptionTable := #[], attributes := #[] }
def k12m0 : Method := { name := "<init>", desc := "()V", sig := { parameters := [], returnType := none }, accessFlags := 1, code := some k12c0 }
def k12c1 : Code := { maxStack := 2, maxLocals := 2, code := jdk_67_method_3_code, exceptionTable := #[], attributes := #[] }
def k12m1 : Method := { name := "<init>", desc := "(Ljava/lang/String;)V", sig := { parameters := [(.object "java/lang/String")], returnType := none }, accessFlags := 1, code := some k12c1 }
def k12c2 : Code := { maxStack := 2, maxLocals := 2, code := jdk_67_method_7_code, exceptionTable := #[], attributes := #[] }
def k12m2 : Method := { name := "append", desc := "(Ljava/lang/String;)Ljava/lang/StringBuilder;", sig := { parameters := [(.object "java/lang/String")], returnType := some (.object "java/lang/StringBuilder") }, accessFlags := 1, code := some k12c2 }
def k12c3 : Code := { maxStack := 2, maxLocals := 2, code := jdk_67_method_9_code, exceptionTable := #[], attributes := #[] }
def k12m3 : Method := { name := "append", desc := "(Ljava/lang/CharSequence;)Ljava/lang/StringBuilder;", sig := { parameters := [(.object "java/lang/CharSequence")], returnType := some (.object "java/lang/StringBuilder") }, accessFlags := 1, code := some k12c3 }
def k12c4 : Code := { maxStack := 2, maxLocals := 2, code := jdk_67_method_14_code, exceptionTable := #[], attributes := #[] }
def k12m4 : Method := { name := "append", desc := "(C)Ljava/lang/StringBuilder;", sig := { parameters := [.char], returnType := some (.object "java/lang/StringBuilder") }, accessFlags := 1, code := some k12c4 }
def k12c5 : Code := { maxStack := 3, maxLocals := 1, code := jdk_67_method_42_code, exceptionTable := #[], attributes := #[] }
def k12m5 : Method := { name := "toString", desc := "()Ljava/lang/String;", sig := { parameters := [], returnType := some (.object "java/lang/String") }, accessFlags := 1, code := some k12c5 }
def k12c6 : Code := { maxStack := 2, maxLocals := 2, code := jdk_67_method_80_code, exceptionTable := #[], attributes := #[] }
def k12m6 : Method := { name := "append", desc := "(Ljava/lang/String;)Ljava/lang/AbstractStringBuilder;", sig := { parameters := [(.object "java/lang/String")], returnType := some (.object "java/lang/AbstractStringBuilder") }, accessFlags := 4161, code := some k12c6 }
def k12c7 : Code := { maxStack := 1, maxLocals := 1, code := jdk_67_method_93_code, exceptionTable := #[], attributes := #[] }
def k12m7 : Method := { name := "length", desc := "()I", sig := { parameters := [], returnType := some .int }, accessFlags := 4161, code := some k12c7 }
/-- java/lang/StringBuilder -/
def k12 : Class := { plain "java/lang/StringBuilder" (some 11) with
  accessFlags := 49
  interfaces := #[10, 3, 4, 5]
  cf := some (fileOf pool12 24 #[] #[{ accessFlags := 1, nameIndex := 5, descriptorIndex := 145, attributes := #[] }, { accessFlags := 1, nameIndex := 5, descriptorIndex := 9, attributes := #[] }, { accessFlags := 1, nameIndex := 27, descriptorIndex := 28, attributes := #[] }, { accessFlags := 1, nameIndex := 27, descriptorIndex := 301, attributes := #[] }, { accessFlags := 1, nameIndex := 27, descriptorIndex := 286, attributes := #[] }, { accessFlags := 1, nameIndex := 399, descriptorIndex := 400, attributes := #[] }, { accessFlags := 4161, nameIndex := 27, descriptorIndex := 31, attributes := #[] }, { accessFlags := 4161, nameIndex := 345, descriptorIndex := 156, attributes := #[] }] 49 2 #[349, 351, 353, 355] #[{ accessFlags := 24, nameIndex := 357, descriptorIndex := 358, attributes := #[] }])
  fields := #[{ name := "serialVersionUID", type := .long, accessFlags := 24, slot := 0, constantValue := 0 }]
  methods := #[k12m0, k12m1, k12m2, k12m3, k12m4, k12m5, k12m6, k12m7]
  instanceTypes := #[(.array .byte), .byte, .boolean, .int]
  staticTypes := #[.long]
  resolved := Array.replicate 422 none
  statics := none }

def pool13 : Array CpInfo := pool [(8, .class_ 10), (1, u "java/lang/Iterable"), (24, .class_ 36), (0, u "java/lang/Object")] 25

/-- java/lang/Iterable -/
def k13 : Class := { plain "java/lang/Iterable" (some 0) with
  accessFlags := 1537
  interfaces := #[]
  cf := some (fileOf pool13 8 #[] #[] 1537 35 #[] #[])
  fields := #[]
  methods := #[]
  instanceTypes := #[]
  staticTypes := #[]
  resolved := Array.replicate 62 none
  statics := none }

def pool14 : Array CpInfo := pool [(10, .class_ 12), (1, u "java/util/Collection"), (47, .class_ 61), (0, u "java/lang/Object"), (0, .class_ 63), (0, u "java/lang/Iterable")] 51

/-- java/util/Collection -/
def k14 : Class := { plain "java/util/Collection" (some 0) with
  accessFlags := 1537
  interfaces := #[13]
  cf := some (fileOf pool14 10 #[] #[] 1537 60 #[62] #[])
  fields := #[]
  methods := #[]
  instanceTypes := #[]
  staticTypes := #[]
  resolved := Array.replicate 115 none
  statics := none }

def pool15 : Array CpInfo := pool [(1, .methodref 2 3), (0, .class_ 4), (0, .nameAndType 5 6), (0, u "java/lang/Object"), (0, u "<init>"), (0, u "()V"), (1, .class_ 10), (1, u "java/util/AbstractCollection"), (66, .class_ 78), (0, u "java/util/Collection")] 81

def k15c0 : Code := { maxStack := 1, maxLocals := 1, code := jdk_22_method_1_code, exceptionTable := #[], attributes := #[] }
def k15m0 : Method := { name := "<init>", desc := "()V", sig := { parameters := [], returnType := none }, accessFlags := 4, code := some k15c0 }
/-- java/util/AbstractCollection -/
def k15 : Class := { plain "java/util/AbstractCollection" (some 0) with
  accessFlags := 1057
  interfaces := #[14]
  cf := some (fileOf pool15 8 #[] #[{ accessFlags := 4, nameIndex := 5, descriptorIndex := 6, attributes := #[] }] 1057 2 #[77] #[])
  fields := #[]
  methods := #[k15m0]
  instanceTypes := #[]
  staticTypes := #[]
  resolved := Array.replicate 160 none
  statics := none }

def pool16 : Array CpInfo := pool [(8, .class_ 10), (1, u "java/util/SequencedCollection"), (15, .class_ 27), (0, u "java/lang/Object"), (0, .class_ 29), (0, u "java/util/Collection")] 27

/-- java/util/SequencedCollection -/
def k16 : Class := { plain "java/util/SequencedCollection" (some 0) with
  accessFlags := 1537
  interfaces := #[14]
  cf := some (fileOf pool16 8 #[] #[] 1537 26 #[28] #[])
  fields := #[]
  methods := #[]
  instanceTypes := #[]
  staticTypes := #[]
  resolved := Array.replicate 57 none
  statics := none }

def pool17 : Array CpInfo := pool [(8, .class_ 10), (1, u "java/util/List"), (7, u "()Z"), (41, u "add"), (3, u "(Ljava/lang/Object;)Z"), (2, u "isEmpty"), (35, .class_ 104), (0, u "java/lang/Object"), (15, .class_ 121), (0, u "java/util/SequencedCollection"), (1, u "iterator"), (0, u "()Ljava/util/Iterator;")] 126

def k17m0 : Method := { name := "isEmpty", desc := "()Z", sig := { parameters := [], returnType := some .boolean }, accessFlags := 1025, code := none }
def k17m1 : Method := { name := "iterator", desc := "()Ljava/util/Iterator;", sig := { parameters := [], returnType := some (.object "java/util/Iterator") }, accessFlags := 1025, code := none }
def k17m2 : Method := { name := "add", desc := "(Ljava/lang/Object;)Z", sig := { parameters := [(.object "java/lang/Object")], returnType := some .boolean }, accessFlags := 1025, code := none }
/-- java/util/List -/
def k17 : Class := { plain "java/util/List" (some 0) with
  accessFlags := 1537
  interfaces := #[16]
  cf := some (fileOf pool17 8 #[] #[{ accessFlags := 1025, nameIndex := 67, descriptorIndex := 18, attributes := #[] }, { accessFlags := 1025, nameIndex := 123, descriptorIndex := 124, attributes := #[] }, { accessFlags := 1025, nameIndex := 60, descriptorIndex := 64, attributes := #[] }] 1537 103 #[120] #[])
  fields := #[]
  methods := #[k17m0, k17m1, k17m2]
  instanceTypes := #[]
  staticTypes := #[]
  resolved := Array.replicate 251 none
  statics := none }

def pool18 : Array CpInfo := pool [(1, .methodref 2 3), (0, .class_ 4), (0, .nameAndType 5 6), (0, u "java/util/AbstractCollection"), (0, u "<init>"), (0, u "()V"), (0, .fieldref 8 9), (0, .class_ 10), (0, .nameAndType 11 12), (0, u "java/util/AbstractList"), (0, u "modCount"), (0, u "I"), (64, .class_ 78), (0, u "java/util/AbstractList$Itr"), (3, .class_ 83), (0, u "java/util/AbstractList$ListItr"), (9, .class_ 94), (0, u "java/util/AbstractList$RandomAccessSubList"), (3, .class_ 99), (0, u "java/util/AbstractList$SubList"), (33, .class_ 134), (0, u "java/util/List"), (73, .class_ 209), (0, u "java/util/AbstractList$SubList$1"), (0, .class_ 211), (0, u "java/util/AbstractList$RandomAccessSpliterator")] 6

def k18c0 : Code := { maxStack := 2, maxLocals := 1, code := jdk_39_method_1_code, exceptionTable := #[], attributes := #[] }
def k18m0 : Method := { name := "<init>", desc := "()V", sig := { parameters := [], returnType := none }, accessFlags := 4, code := some k18c0 }
/-- java/util/AbstractList -/
def k18 : Class := { plain "java/util/AbstractList" (some 15) with
  accessFlags := 1057
  interfaces := #[17]
  cf := some (fileOf pool18 8 #[.nestMembers #[93, 98, 208, 210, 82, 77]] #[{ accessFlags := 4, nameIndex := 5, descriptorIndex := 6, attributes := #[] }] 1057 2 #[133] #[{ accessFlags := 132, nameIndex := 11, descriptorIndex := 12, attributes := #[] }])
  fields := #[{ name := "modCount", type := .int, accessFlags := 132, slot := 0, constantValue := 0 }]
  methods := #[k18m0]
  instanceTypes := #[.int]
  staticTypes := #[]
  resolved := Array.replicate 218 none
  statics := none }

def pool19 : Array CpInfo := pool [(1, .class_ 2), (0, u "java/util/RandomAccess"), (0, .class_ 4), (0, u "java/lang/Object")] 2

/-- java/util/RandomAccess -/
def k19 : Class := { plain "java/util/RandomAccess" (some 0) with
  accessFlags := 1537
  interfaces := #[]
  cf := some (fileOf pool19 1 #[] #[] 1537 3 #[] #[])
  fields := #[]
  methods := #[]
  instanceTypes := #[]
  staticTypes := #[]
  resolved := Array.replicate 7 none
  statics := none }

def pool20 : Array CpInfo := pool [(1, .class_ 2), (0, u "java/lang/Cloneable"), (0, .class_ 4), (0, u "java/lang/Object")] 2

/-- java/lang/Cloneable -/
def k20 : Class := { plain "java/lang/Cloneable" (some 0) with
  accessFlags := 1537
  interfaces := #[]
  cf := some (fileOf pool20 1 #[] #[] 1537 3 #[] #[])
  fields := #[]
  methods := #[]
  instanceTypes := #[]
  staticTypes := #[]
  resolved := Array.replicate 7 none
  statics := none }

def pool21 : Array CpInfo := pool [(1, .methodref 2 3), (0, .class_ 4), (0, .nameAndType 5 6), (0, u "java/util/AbstractList"), (0, u "<init>"), (0, u "()V"), (0, .class_ 8), (0, u "java/lang/Object"), (0, .fieldref 10 11), (0, .class_ 12), (0, .nameAndType 13 14), (0, u "java/util/ArrayList"), (0, u "elementData"), (0, u "[Ljava/lang/Object;"), (2, u "EMPTY_ELEMENTDATA"), (21, .fieldref 10 40), (0, .nameAndType 41 14), (0, u "DEFAULTCAPACITY_EMPTY_ELEMENTDATA"), (5, u "()[Ljava/lang/Object;"), (0, .fieldref 10 49), (0, .nameAndType 50 51), (0, u "size"), (0, u "I"), (11, .fieldref 10 64), (0, .nameAndType 65 51), (0, u "modCount"), (3, .methodref 10 70), (0, .nameAndType 71 72), (0, u "grow"), (0, u "(I)[Ljava/lang/Object;"), (6, .methodref 80 81), (0, .class_ 82), (0, .nameAndType 83 84), (0, u "java/lang/Math"), (0, u "max"), (0, u "(II)I"), (11, u "(Ljava/lang/Object;)Z"), (32, .methodref 10 130), (0, .nameAndType 71 47), (0, .methodref 10 132), (0, .nameAndType 133 134), (0, u "add"), (0, u "(Ljava/lang/Object;[Ljava/lang/Object;I)V"), (13, .class_ 149), (0, u "java/util/List"), (16, u "iterator"), (0, u "()Ljava/util/Iterator;"), (5, u "()Z"), (88, .class_ 263), (0, u "java/util/ArrayList$ListItr"), (3, .class_ 268), (0, u "java/util/ArrayList$Itr"), (0, .methodref 267 270), (0, .nameAndType 5 271), (0, u "(Ljava/util/ArrayList;)V"), (4, .class_ 277), (0, u "java/util/ArrayList$SubList"), (12, .class_ 291), (0, u "java/util/ArrayList$ArrayListSpliterator"), (37, .class_ 330), (0, u "java/util/RandomAccess"), (0, .class_ 332), (0, u "java/lang/Cloneable"), (0, .class_ 334), (0, u "java/io/Serializable"), (0, u "serialVersionUID"), (0, u "J"), (3, u "DEFAULT_CAPACITY"), (22, u "isEmpty"), (136, .class_ 501), (0, u "java/util/ArrayList$SubList$2"), (0, .class_ 503), (0, u "java/util/ArrayList$SubList$1")] 5

def k21c0 : Code := { maxStack := 2, maxLocals := 1, code := jdk_38_method_2_code, exceptionTable := #[], attributes := #[] }
def k21m0 : Method := { name := "<init>", desc := "()V", sig := { parameters := [], returnType := none }, accessFlags := 1, code := some k21c0 }
def k21c1 : Code := { maxStack := 4, maxLocals := 4, code := jdk_38_method_6_code, exceptionTable := #[], attributes := #[] }
def k21m1 : Method := { name := "grow", desc := "(I)[Ljava/lang/Object;", sig := { parameters := [.int], returnType := some (.array (.object "java/lang/Object")) }, accessFlags := 2, code := some k21c1 }
def k21c2 : Code := { maxStack := 3, maxLocals := 1, code := jdk_38_method_7_code, exceptionTable := #[], attributes := #[] }
def k21m2 : Method := { name := "grow", desc := "()[Ljava/lang/Object;", sig := { parameters := [], returnType := some (.array (.object "java/lang/Object")) }, accessFlags := 2, code := some k21c2 }
def k21c3 : Code := { maxStack := 1, maxLocals := 1, code := jdk_38_method_9_code, exceptionTable := #[], attributes := #[] }
def k21m3 : Method := { name := "isEmpty", desc := "()Z", sig := { parameters := [], returnType := some .boolean }, accessFlags := 1, code := some k21c3 }
def k21c4 : Code := { maxStack := 3, maxLocals := 4, code := jdk_38_method_24_code, exceptionTable := #[], attributes := #[] }
def k21m4 : Method := { name := "add", desc := "(Ljava/lang/Object;[Ljava/lang/Object;I)V", sig := { parameters := [(.object "java/lang/Object"), (.array (.object "java/lang/Object")), .int], returnType := none }, accessFlags := 2, code := some k21c4 }
def k21c5 : Code := { maxStack := 4, maxLocals := 2, code := jdk_38_method_25_code, exceptionTable := #[], attributes := #[] }
def k21m5 : Method := { name := "add", desc := "(Ljava/lang/Object;)Z", sig := { parameters := [(.object "java/lang/Object")], returnType := some .boolean }, accessFlags := 1, code := some k21c5 }
def k21c6 : Code := { maxStack := 3, maxLocals := 1, code := jdk_38_method_55_code, exceptionTable := #[], attributes := #[] }
def k21m6 : Method := { name := "iterator", desc := "()Ljava/util/Iterator;", sig := { parameters := [], returnType := some (.object "java/util/Iterator") }, accessFlags := 1, code := some k21c6 }
/-- java/util/ArrayList -/
def k21 : Class := { plain "java/util/ArrayList" (some 18) with
  accessFlags := 33
  interfaces := #[17, 19, 20, 3]
  cf := some (fileOf pool21 10 #[.nestMembers #[290, 276, 500, 502, 262, 267]] #[{ accessFlags := 1, nameIndex := 5, descriptorIndex := 6, attributes := #[] }, { accessFlags := 2, nameIndex := 71, descriptorIndex := 72, attributes := #[] }, { accessFlags := 2, nameIndex := 71, descriptorIndex := 47, attributes := #[] }, { accessFlags := 1, nameIndex := 363, descriptorIndex := 173, attributes := #[] }, { accessFlags := 2, nameIndex := 133, descriptorIndex := 134, attributes := #[] }, { accessFlags := 1, nameIndex := 133, descriptorIndex := 96, attributes := #[] }, { accessFlags := 1, nameIndex := 166, descriptorIndex := 167, attributes := #[] }] 33 2 #[148, 329, 331, 333] #[{ accessFlags := 26, nameIndex := 335, descriptorIndex := 336, attributes := #[] }, { accessFlags := 26, nameIndex := 340, descriptorIndex := 51, attributes := #[] }, { accessFlags := 26, nameIndex := 17, descriptorIndex := 14, attributes := #[] }, { accessFlags := 26, nameIndex := 41, descriptorIndex := 14, attributes := #[] }, { accessFlags := 128, nameIndex := 13, descriptorIndex := 14, attributes := #[] }, { accessFlags := 2, nameIndex := 50, descriptorIndex := 51, attributes := #[] }])
  fields := #[{ name := "serialVersionUID", type := .long, accessFlags := 26, slot := 0, constantValue := 0 }, { name := "DEFAULT_CAPACITY", type := .int, accessFlags := 26, slot := 1, constantValue := 0 }, { name := "EMPTY_ELEMENTDATA", type := (.array (.object "java/lang/Object")), accessFlags := 26, slot := 2, constantValue := 0 }, { name := "DEFAULTCAPACITY_EMPTY_ELEMENTDATA", type := (.array (.object "java/lang/Object")), accessFlags := 26, slot := 3, constantValue := 0 }, { name := "elementData", type := (.array (.object "java/lang/Object")), accessFlags := 128, slot := 1, constantValue := 0 }, { name := "size", type := .int, accessFlags := 2, slot := 2, constantValue := 0 }]
  methods := #[k21m0, k21m1, k21m2, k21m3, k21m4, k21m5, k21m6]
  instanceTypes := #[.int, (.array (.object "java/lang/Object")), .int]
  staticTypes := #[.long, .int, (.array (.object "java/lang/Object")), (.array (.object "java/lang/Object"))]
  resolved := Array.replicate 509 none
  statics := some 1 }

def pool22 : Array CpInfo := pool [(2, .class_ 4), (1, u "java/lang/Object"), (0, u "<init>"), (0, u "()V"), (1, .class_ 10), (1, u "java/lang/System"), (0, u "allowSecurityManager"), (0, u "I"), (16, u "cons"), (0, u "Ljava/io/Console;"), (77, .class_ 110), (1, u "java/lang/System$CallersHolder"), (43, u "initialErrStream"), (0, u "Ljava/io/PrintStream;"), (19, u "security"), (0, u "Ljava/lang/SecurityManager;"), (31, .class_ 209), (0, u "java/lang/System$1"), (7, u "props"), (0, u "Ljava/util/Properties;"), (2, u "lineSeparator"), (0, u "Ljava/lang/String;"), (96, .class_ 321), (1, u "java/lang/System$LoggerFinder"), (5, .class_ 328), (0, u "java/lang/System$Logger"), (67, u "err"), (2, u "out"), (91, u "notSupportedJnuEncoding"), (15, u "in"), (17, u "initialIn"), (0, u "Ljava/io/InputStream;"), (35, u "bootLayer"), (0, u "Ljava/lang/ModuleLayer;"), (99, .class_ 664), (0, u "java/lang/System$2"), (9, u "NEVER"), (2, u "MAYBE"), (49, u "arraycopy"), (0, u "(Ljava/lang/Object;ILjava/lang/Object;II)V"), (72, .class_ 802), (0, u "java/lang/System$Logger$Level")] 31

def k22m0 : Method := { name := "<init>", desc := "()V", sig := { parameters := [], returnType := none }, accessFlags := 2, code := none }
def k22m1 : Method := { name := "arraycopy", desc := "(Ljava/lang/Object;ILjava/lang/Object;II)V", sig := { parameters := [(.object "java/lang/Object"), .int, (.object "java/lang/Object"), .int, .int], returnType := none }, accessFlags := 265, code := none }
/-- java/lang/System -/
def k22 : Class := { plain "java/lang/System" (some 0) with
  accessFlags := 49
  interfaces := #[]
  cf := some (fileOf pool22 8 #[.nestMembers #[319, 327, 801, 108, 663, 208]] #[{ accessFlags := 2, nameIndex := 5, descriptorIndex := 6, attributes := #[] }, { accessFlags := 265, nameIndex := 727, descriptorIndex := 728, attributes := #[] }] 49 2 #[] #[{ accessFlags := 25, nameIndex := 507, descriptorIndex := 526, attributes := #[] }, { accessFlags := 25, nameIndex := 399, descriptorIndex := 155, attributes := #[] }, { accessFlags := 25, nameIndex := 396, descriptorIndex := 155, attributes := #[] }, { accessFlags := 10, nameIndex := 525, descriptorIndex := 526, attributes := #[] }, { accessFlags := 26, nameIndex := 674, descriptorIndex := 12, attributes := #[] }, { accessFlags := 26, nameIndex := 677, descriptorIndex := 12, attributes := #[] }, { accessFlags := 10, nameIndex := 11, descriptorIndex := 12, attributes := #[] }, { accessFlags := 74, nameIndex := 175, descriptorIndex := 176, attributes := #[] }, { accessFlags := 10, nameIndex := 491, descriptorIndex := 222, attributes := #[] }, { accessFlags := 74, nameIndex := 29, descriptorIndex := 30, attributes := #[] }, { accessFlags := 74, nameIndex := 154, descriptorIndex := 155, attributes := #[] }, { accessFlags := 10, nameIndex := 217, descriptorIndex := 218, attributes := #[] }, { accessFlags := 10, nameIndex := 221, descriptorIndex := 222, attributes := #[] }, { accessFlags := 8, nameIndex := 562, descriptorIndex := 563, attributes := #[] }])
  fields := #[{ name := "in", type := (.object "java/io/InputStream"), accessFlags := 25, slot := 0, constantValue := 0 }, { name := "out", type := (.object "java/io/PrintStream"), accessFlags := 25, slot := 1, constantValue := 0 }, { name := "err", type := (.object "java/io/PrintStream"), accessFlags := 25, slot := 2, constantValue := 0 }, { name := "initialIn", type := (.object "java/io/InputStream"), accessFlags := 10, slot := 3, constantValue := 0 }, { name := "NEVER", type := .int, accessFlags := 26, slot := 4, constantValue := 0 }, { name := "MAYBE", type := .int, accessFlags := 26, slot := 5, constantValue := 0 }, { name := "allowSecurityManager", type := .int, accessFlags := 10, slot := 6, constantValue := 0 }, { name := "security", type := (.object "java/lang/SecurityManager"), accessFlags := 74, slot := 7, constantValue := 0 }, { name := "notSupportedJnuEncoding", type := (.object "java/lang/String"), accessFlags := 10, slot := 8, constantValue := 0 }, { name := "cons", type := (.object "java/io/Console"), accessFlags := 74, slot := 9, constantValue := 0 }, { name := "initialErrStream", type := (.object "java/io/PrintStream"), accessFlags := 74, slot := 10, constantValue := 0 }, { name := "props", type := (.object "java/util/Properties"), accessFlags := 10, slot := 11, constantValue := 0 }, { name := "lineSeparator", type := (.object "java/lang/String"), accessFlags := 10, slot := 12, constantValue := 0 }, { name := "bootLayer", type := (.object "java/lang/ModuleLayer"), accessFlags := 8, slot := 13, constantValue := 0 }]
  methods := #[k22m0, k22m1]
  instanceTypes := #[]
  staticTypes := #[(.object "java/io/InputStream"), (.object "java/io/PrintStream"), (.object "java/io/PrintStream"), (.object "java/io/InputStream"), .int, .int, .int, (.object "java/lang/SecurityManager"), (.object "java/lang/String"), (.object "java/io/Console"), (.object "java/io/PrintStream"), (.object "java/util/Properties"), (.object "java/lang/String"), (.object "java/lang/ModuleLayer")]
  resolved := Array.replicate 834 none
  statics := none }

def pool23 : Array CpInfo := pool [(2, .class_ 4), (1, u "java/lang/Object"), (0, u "<init>"), (0, u "()V"), (7, .class_ 16), (1, u "java/util/Arrays"), (57, .class_ 76), (1, u "java/util/Arrays$NaturalOrder"), (36, .class_ 115), (1, u "java/util/Arrays$LegacyMergeSort"), (1, u "Z"), (21, u "copyOfRange"), (10, .methodref 151 152), (0, .class_ 153), (0, .nameAndType 154 155), (0, u "java/lang/System"), (0, u "arraycopy"), (0, u "(Ljava/lang/Object;ILjava/lang/Object;II)V"), (146, u "copyOf"), (1, .methodref 305 306), (0, .class_ 307), (0, .nameAndType 308 309), (0, u "java/lang/Math"), (0, u "min"), (0, u "(II)I"), (29, .methodref 14 340), (0, .nameAndType 341 342), (0, u "copyOfRangeByte"), (0, u "([BII)[B"), (0, .methodref 14 344), (0, .nameAndType 345 346), (0, u "checkLength"), (0, u "(II)V"), (28, .class_ 376), (0, u "java/util/Arrays$ArrayList"), (68, u "$assertionsDisabled"), (269, u "MIN_ARRAY_SORT_GRAN"), (0, u "I"), (2, u "INSERTIONSORT_THRESHOLD"), (149, u "([BI)[B"), (105, .class_ 976), (0, u "java/util/Arrays$ArrayItr")] 52

def k23m0 : Method := { name := "<init>", desc := "()V", sig := { parameters := [], returnType := none }, accessFlags := 2, code := none }
def k23c1 : Code := { maxStack := 6, maxLocals := 3, code := jdk_65_method_121_code, exceptionTable := #[], attributes := #[] }
def k23m1 : Method := { name := "copyOf", desc := "([BI)[B", sig := { parameters := [(.array .byte), .int], returnType := some (.array .byte) }, accessFlags := 9, code := some k23c1 }
def k23c2 : Code := { maxStack := 4, maxLocals := 2, code := jdk_65_method_131_code, exceptionTable := #[], attributes := #[] }
def k23m2 : Method := { name := "checkLength", desc := "(II)V", sig := { parameters := [.int, .int], returnType := none }, accessFlags := 10, code := some k23c2 }
def k23c3 : Code := { maxStack := 3, maxLocals := 3, code := jdk_65_method_132_code, exceptionTable := #[], attributes := #[] }
def k23m3 : Method := { name := "copyOfRange", desc := "([BII)[B", sig := { parameters := [(.array .byte), .int, .int], returnType := some (.array .byte) }, accessFlags := 9, code := some k23c3 }
def k23c4 : Code := { maxStack := 6, maxLocals := 5, code := jdk_65_method_133_code, exceptionTable := #[], attributes := #[] }
def k23m4 : Method := { name := "copyOfRangeByte", desc := "([BII)[B", sig := { parameters := [(.array .byte), .int, .int], returnType := some (.array .byte) }, accessFlags := 10, code := some k23c4 }
/-- java/util/Arrays -/
def k23 : Class := { plain "java/util/Arrays" (some 0) with
  accessFlags := 49
  interfaces := #[]
  cf := some (fileOf pool23 14 #[.nestMembers #[975, 375, 113, 74]] #[{ accessFlags := 2, nameIndex := 5, descriptorIndex := 6, attributes := #[] }, { accessFlags := 9, nameIndex := 302, descriptorIndex := 869, attributes := #[] }, { accessFlags := 10, nameIndex := 345, descriptorIndex := 346, attributes := #[] }, { accessFlags := 9, nameIndex := 139, descriptorIndex := 342, attributes := #[] }, { accessFlags := 10, nameIndex := 341, descriptorIndex := 342, attributes := #[] }] 49 2 #[] #[{ accessFlags := 26, nameIndex := 715, descriptorIndex := 716, attributes := #[] }, { accessFlags := 26, nameIndex := 719, descriptorIndex := 716, attributes := #[] }, { accessFlags := 4120, nameIndex := 445, descriptorIndex := 117, attributes := #[] }])
  fields := #[{ name := "MIN_ARRAY_SORT_GRAN", type := .int, accessFlags := 26, slot := 0, constantValue := 0 }, { name := "INSERTIONSORT_THRESHOLD", type := .int, accessFlags := 26, slot := 1, constantValue := 0 }, { name := "$assertionsDisabled", type := .boolean, accessFlags := 4120, slot := 2, constantValue := 0 }]
  methods := #[k23m0, k23m1, k23m2, k23m3, k23m4]
  instanceTypes := #[]
  staticTypes := #[.int, .int, .boolean]
  resolved := Array.replicate 1029 none
  statics := none }

def pool24 : Array CpInfo := pool [(1, .class_ 2), (0, u "java/lang/Math"), (1, .class_ 6), (1, u "java/lang/Object"), (0, u "<init>"), (0, u "()V"), (89, .class_ 100), (1, u "java/lang/Math$RandomNumberGeneratorHolder"), (71, u "negativeZeroFloatBits"), (0, u "J"), (2, u "negativeZeroDoubleBits"), (21, u "max"), (2, u "min"), (43, u "$assertionsDisabled"), (0, u "Z"), (88, u "(II)I"), (2, u "twoToTheDoubleScaleDown"), (0, u "D"), (4, u "twoToTheDoubleScaleUp"), (9, u "E"), (3, u "PI"), (2, u "TAU"), (2, u "DEGREES_TO_RADIANS"), (0, u "RADIANS_TO_DEGREES")] 94

def k24m0 : Method := { name := "<init>", desc := "()V", sig := { parameters := [], returnType := none }, accessFlags := 2, code := none }
def k24c1 : Code := { maxStack := 2, maxLocals := 2, code := jdk_29_method_65_code, exceptionTable := #[], attributes := #[] }
def k24m1 : Method := { name := "max", desc := "(II)I", sig := { parameters := [.int, .int], returnType := some .int }, accessFlags := 9, code := some k24c1 }
def k24c2 : Code := { maxStack := 2, maxLocals := 2, code := jdk_29_method_69_code, exceptionTable := #[], attributes := #[] }
def k24m2 : Method := { name := "min", desc := "(II)I", sig := { parameters := [.int, .int], returnType := some .int }, accessFlags := 9, code := some k24c2 }
/-- java/lang/Math -/
def k24 : Class := { plain "java/lang/Math" (some 0) with
  accessFlags := 49
  interfaces := #[]
  cf := some (fileOf pool24 1 #[.nestMembers #[98]] #[{ accessFlags := 2, nameIndex := 7, descriptorIndex := 8, attributes := #[] }, { accessFlags := 9, nameIndex := 198, descriptorIndex := 335, attributes := #[] }, { accessFlags := 9, nameIndex := 201, descriptorIndex := 335, attributes := #[] }] 49 4 #[] #[{ accessFlags := 25, nameIndex := 354, descriptorIndex := 339, attributes := #[] }, { accessFlags := 25, nameIndex := 358, descriptorIndex := 339, attributes := #[] }, { accessFlags := 25, nameIndex := 361, descriptorIndex := 339, attributes := #[] }, { accessFlags := 26, nameIndex := 364, descriptorIndex := 339, attributes := #[] }, { accessFlags := 26, nameIndex := 365, descriptorIndex := 339, attributes := #[] }, { accessFlags := 26, nameIndex := 172, descriptorIndex := 173, attributes := #[] }, { accessFlags := 26, nameIndex := 176, descriptorIndex := 173, attributes := #[] }, { accessFlags := 8, nameIndex := 344, descriptorIndex := 339, attributes := #[] }, { accessFlags := 8, nameIndex := 338, descriptorIndex := 339, attributes := #[] }, { accessFlags := 4120, nameIndex := 245, descriptorIndex := 246, attributes := #[] }])
  fields := #[{ name := "E", type := .double, accessFlags := 25, slot := 0, constantValue := 0 }, { name := "PI", type := .double, accessFlags := 25, slot := 1, constantValue := 0 }, { name := "TAU", type := .double, accessFlags := 25, slot := 2, constantValue := 0 }, { name := "DEGREES_TO_RADIANS", type := .double, accessFlags := 26, slot := 3, constantValue := 0 }, { name := "RADIANS_TO_DEGREES", type := .double, accessFlags := 26, slot := 4, constantValue := 0 }, { name := "negativeZeroFloatBits", type := .long, accessFlags := 26, slot := 5, constantValue := 0 }, { name := "negativeZeroDoubleBits", type := .long, accessFlags := 26, slot := 6, constantValue := 0 }, { name := "twoToTheDoubleScaleUp", type := .double, accessFlags := 8, slot := 7, constantValue := 0 }, { name := "twoToTheDoubleScaleDown", type := .double, accessFlags := 8, slot := 8, constantValue := 0 }, { name := "$assertionsDisabled", type := .boolean, accessFlags := 4120, slot := 9, constantValue := 0 }]
  methods := #[k24m0, k24m1, k24m2]
  instanceTypes := #[]
  staticTypes := #[.double, .double, .double, .double, .double, .long, .long, .double, .double, .boolean]
  resolved := Array.replicate 460 none
  statics := none }

def pool25 : Array CpInfo := pool [(2, .class_ 4), (1, u "java/lang/Object"), (0, u "<init>"), (0, u "()V"), (17, .class_ 26), (1, u "jdk/internal/util/Preconditions"), (6, u "checkIndex"), (21, .class_ 56), (0, u "jdk/internal/util/Preconditions$4"), (57, .class_ 115), (0, u "jdk/internal/util/Preconditions$1"), (7, u "SIOOBE_FORMATTER"), (0, u "Ljava/util/function/BiFunction;"), (0, .class_ 126), (0, u "jdk/internal/util/Preconditions$2"), (3, u "AIOOBE_FORMATTER"), (0, .class_ 132), (0, u "jdk/internal/util/Preconditions$3"), (3, u "IOOBE_FORMATTER"), (41, u "(IILjava/util/function/BiFunction;)I")] 15

def k25m0 : Method := { name := "<init>", desc := "()V", sig := { parameters := [], returnType := none }, accessFlags := 1, code := none }
def k25c1 : Code := { maxStack := 3, maxLocals := 3, code := jdk_41_method_11_code, exceptionTable := #[], attributes := #[] }
def k25m1 : Method := { name := "checkIndex", desc := "(IILjava/util/function/BiFunction;)I", sig := { parameters := [.int, .int, (.object "java/util/function/BiFunction")], returnType := some .int }, accessFlags := 9, code := some k25c1 }
/-- jdk/internal/util/Preconditions -/
def k25 : Class := { plain "jdk/internal/util/Preconditions" (some 0) with
  accessFlags := 33
  interfaces := #[]
  cf := some (fileOf pool25 24 #[.nestMembers #[55, 131, 125, 114]] #[{ accessFlags := 1, nameIndex := 5, descriptorIndex := 6, attributes := #[] }, { accessFlags := 9, nameIndex := 33, descriptorIndex := 178, attributes := #[] }] 33 2 #[] #[{ accessFlags := 25, nameIndex := 123, descriptorIndex := 124, attributes := #[] }, { accessFlags := 25, nameIndex := 130, descriptorIndex := 124, attributes := #[] }, { accessFlags := 25, nameIndex := 136, descriptorIndex := 124, attributes := #[] }])
  fields := #[{ name := "SIOOBE_FORMATTER", type := (.object "java/util/function/BiFunction"), accessFlags := 25, slot := 0, constantValue := 0 }, { name := "AIOOBE_FORMATTER", type := (.object "java/util/function/BiFunction"), accessFlags := 25, slot := 1, constantValue := 0 }, { name := "IOOBE_FORMATTER", type := (.object "java/util/function/BiFunction"), accessFlags := 25, slot := 2, constantValue := 0 }]
  methods := #[k25m0, k25m1]
  instanceTypes := #[]
  staticTypes := #[(.object "java/util/function/BiFunction"), (.object "java/util/function/BiFunction"), (.object "java/util/function/BiFunction")]
  resolved := Array.replicate 194 none
  statics := some 2 }

def pool26 : Array CpInfo := pool [(16, .class_ 18), (1, u "java/util/Iterator"), (0, u "hasNext"), (0, u "()Z"), (2, u "next"), (0, u "()Ljava/lang/Object;"), (6, .class_ 32), (0, u "java/lang/Object")] 20

def k26m0 : Method := { name := "hasNext", desc := "()Z", sig := { parameters := [], returnType := some .boolean }, accessFlags := 1025, code := none }
def k26m1 : Method := { name := "next", desc := "()Ljava/lang/Object;", sig := { parameters := [], returnType := some (.object "java/lang/Object") }, accessFlags := 1025, code := none }
/-- java/util/Iterator -/
def k26 : Class := { plain "java/util/Iterator" (some 0) with
  accessFlags := 1537
  interfaces := #[]
  cf := some (fileOf pool26 16 #[] #[{ accessFlags := 1025, nameIndex := 19, descriptorIndex := 20, attributes := #[] }, { accessFlags := 1025, nameIndex := 23, descriptorIndex := 24, attributes := #[] }] 1537 31 #[] #[])
  fields := #[]
  methods := #[k26m0, k26m1]
  instanceTypes := #[]
  staticTypes := #[]
  resolved := Array.replicate 53 none
  statics := none }

def pool27 : Array CpInfo := pool [(1, .fieldref 2 3), (0, .class_ 4), (0, .nameAndType 5 6), (0, u "java/util/ArrayList$Itr"), (0, u "this$0"), (0, u "Ljava/util/ArrayList;"), (0, .methodref 8 9), (0, .class_ 10), (0, .nameAndType 11 12), (0, u "java/lang/Object"), (0, u "<init>"), (0, u "()V"), (0, .fieldref 2 14), (0, .nameAndType 15 16), (0, u "lastRet"), (0, u "I"), (0, .fieldref 18 19), (0, .class_ 20), (0, .nameAndType 21 16), (0, u "java/util/ArrayList"), (0, u "modCount"), (0, .fieldref 2 23), (0, .nameAndType 24 16), (0, u "expectedModCount"), (0, .fieldref 2 26), (0, .nameAndType 27 16), (0, u "cursor"), (0, .fieldref 18 29), (0, .nameAndType 30 16), (0, u "size"), (0, .methodref 2 32), (0, .nameAndType 33 12), (0, u "checkForComodification"), (3, .fieldref 18 38), (0, .nameAndType 39 40), (0, u "elementData"), (0, u "[Ljava/lang/Object;"), (28, .class_ 70), (0, u "java/util/Iterator"), (0, u "(Ljava/util/ArrayList;)V"), (8, u "hasNext"), (0, u "()Z"), (1, u "next"), (0, u "()Ljava/lang/Object;")] 19

def k27c0 : Code := { maxStack := 2, maxLocals := 2, code := jdk_49_method_1_code, exceptionTable := #[], attributes := #[] }
def k27m0 : Method := { name := "<init>", desc := "(Ljava/util/ArrayList;)V", sig := { parameters := [(.object "java/util/ArrayList")], returnType := none }, accessFlags := 0, code := some k27c0 }
def k27c1 : Code := { maxStack := 2, maxLocals := 1, code := jdk_49_method_2_code, exceptionTable := #[], attributes := #[] }
def k27m1 : Method := { name := "hasNext", desc := "()Z", sig := { parameters := [], returnType := some .boolean }, accessFlags := 1, code := some k27c1 }
def k27c2 : Code := { maxStack := 4, maxLocals := 3, code := jdk_49_method_3_code, exceptionTable := #[], attributes := #[] }
def k27m2 : Method := { name := "next", desc := "()Ljava/lang/Object;", sig := { parameters := [], returnType := some (.object "java/lang/Object") }, accessFlags := 1, code := some k27c2 }
def k27c3 : Code := { maxStack := 2, maxLocals := 1, code := jdk_49_method_6_code, exceptionTable := #[], attributes := #[] }
def k27m3 : Method := { name := "checkForComodification", desc := "()V", sig := { parameters := [], returnType := none }, accessFlags := 16, code := some k27c3 }
/-- java/util/ArrayList$Itr -/
def k27 : Class := { plain "java/util/ArrayList$Itr" (some 0) with
  accessFlags := 32
  interfaces := #[26]
  cf := some (fileOf pool27 2 #[.nestHost 18] #[{ accessFlags := 0, nameIndex := 11, descriptorIndex := 71, attributes := #[] }, { accessFlags := 1, nameIndex := 80, descriptorIndex := 81, attributes := #[] }, { accessFlags := 1, nameIndex := 83, descriptorIndex := 84, attributes := #[] }, { accessFlags := 16, nameIndex := 33, descriptorIndex := 12, attributes := #[] }] 32 8 #[69] #[{ accessFlags := 0, nameIndex := 27, descriptorIndex := 16, attributes := #[] }, { accessFlags := 0, nameIndex := 15, descriptorIndex := 16, attributes := #[] }, { accessFlags := 0, nameIndex := 24, descriptorIndex := 16, attributes := #[] }, { accessFlags := 4112, nameIndex := 5, descriptorIndex := 6, attributes := #[] }])
  fields := #[{ name := "cursor", type := .int, accessFlags := 0, slot := 0, constantValue := 0 }, { name := "lastRet", type := .int, accessFlags := 0, slot := 1, constantValue := 0 }, { name := "expectedModCount", type := .int, accessFlags := 0, slot := 2, constantValue := 0 }, { name := "this$0", type := (.object "java/util/ArrayList"), accessFlags := 4112, slot := 3, constantValue := 0 }]
  methods := #[k27m0, k27m1, k27m2, k27m3]
  instanceTypes := #[.int, .int, .int, (.object "java/util/ArrayList")]
  staticTypes := #[]
  resolved := Array.replicate 104 none
  statics := none }

def pool28 : Array CpInfo := pool [(9, u "<init>"), (6, .class_ 18), (1, u "java/lang/Object"), (0, u "()V"), (1, .class_ 23), (1, u "jdk/internal/util/ArraysSupport"), (0, u "LOG2_ARRAY_LONG_INDEX_SCALE"), (0, u "I"), (2, u "U"), (0, u "Ljdk/internal/misc/Unsafe;"), (8, u "BIG_ENDIAN"), (0, u "Z"), (8, u "LOG2_BYTE_BIT_SIZE"), (4, u "LOG2_ARRAY_INT_INDEX_SCALE"), (54, u "JLA"), (0, u "Ljdk/internal/access/JavaLangAccess;"), (11, u "LOG2_ARRAY_BOOLEAN_INDEX_SCALE"), (9, u "LOG2_ARRAY_BYTE_INDEX_SCALE"), (5, u "LOG2_ARRAY_CHAR_INDEX_SCALE"), (5, u "LOG2_ARRAY_SHORT_INDEX_SCALE"), (18, u "LOG2_ARRAY_FLOAT_INDEX_SCALE"), (24, u "LOG2_ARRAY_DOUBLE_INDEX_SCALE"), (6, .methodref 195 196), (0, .class_ 197), (0, .nameAndType 198 199), (0, u "java/lang/Math"), (0, u "max"), (0, u "(II)I"), (0, .integer 2147483639), (76, u "T_BOOLEAN"), (2, u "T_CHAR"), (1, u "T_FLOAT"), (1, u "T_DOUBLE"), (1, u "T_BYTE"), (1, u "T_SHORT"), (1, u "T_INT"), (1, u "T_LONG"), (1, u "SOFT_MAX_ARRAY_LENGTH"), (56, u "newLength"), (0, u "(III)I")] 25

def k28m0 : Method := { name := "<init>", desc := "()V", sig := { parameters := [], returnType := none }, accessFlags := 2, code := none }
def k28c1 : Code := { maxStack := 3, maxLocals := 4, code := jdk_48_method_27_code, exceptionTable := #[], attributes := #[] }
def k28m1 : Method := { name := "newLength", desc := "(III)I", sig := { parameters := [.int, .int, .int], returnType := some .int }, accessFlags := 9, code := some k28c1 }
/-- jdk/internal/util/ArraysSupport -/
def k28 : Class := { plain "jdk/internal/util/ArraysSupport" (some 0) with
  accessFlags := 33
  interfaces := #[]
  cf := some (fileOf pool28 21 #[] #[{ accessFlags := 2, nameIndex := 9, descriptorIndex := 19, attributes := #[] }, { accessFlags := 9, nameIndex := 351, descriptorIndex := 352, attributes := #[] }] 33 16 #[] #[{ accessFlags := 24, nameIndex := 28, descriptorIndex := 29, attributes := #[] }, { accessFlags := 26, nameIndex := 38, descriptorIndex := 39, attributes := #[] }, { accessFlags := 25, nameIndex := 121, descriptorIndex := 25, attributes := #[] }, { accessFlags := 25, nameIndex := 131, descriptorIndex := 25, attributes := #[] }, { accessFlags := 25, nameIndex := 137, descriptorIndex := 25, attributes := #[] }, { accessFlags := 25, nameIndex := 143, descriptorIndex := 25, attributes := #[] }, { accessFlags := 25, nameIndex := 53, descriptorIndex := 25, attributes := #[] }, { accessFlags := 25, nameIndex := 24, descriptorIndex := 25, attributes := #[] }, { accessFlags := 25, nameIndex := 162, descriptorIndex := 25, attributes := #[] }, { accessFlags := 25, nameIndex := 187, descriptorIndex := 25, attributes := #[] }, { accessFlags := 26, nameIndex := 48, descriptorIndex := 25, attributes := #[] }, { accessFlags := 25, nameIndex := 277, descriptorIndex := 25, attributes := #[] }, { accessFlags := 25, nameIndex := 280, descriptorIndex := 25, attributes := #[] }, { accessFlags := 25, nameIndex := 282, descriptorIndex := 25, attributes := #[] }, { accessFlags := 25, nameIndex := 284, descriptorIndex := 25, attributes := #[] }, { accessFlags := 25, nameIndex := 286, descriptorIndex := 25, attributes := #[] }, { accessFlags := 25, nameIndex := 288, descriptorIndex := 25, attributes := #[] }, { accessFlags := 25, nameIndex := 290, descriptorIndex := 25, attributes := #[] }, { accessFlags := 25, nameIndex := 292, descriptorIndex := 25, attributes := #[] }, { accessFlags := 26, nameIndex := 108, descriptorIndex := 109, attributes := #[] }, { accessFlags := 25, nameIndex := 294, descriptorIndex := 25, attributes := #[] }])
  fields := #[{ name := "U", type := (.object "jdk/internal/misc/Unsafe"), accessFlags := 24, slot := 0, constantValue := 0 }, { name := "BIG_ENDIAN", type := .boolean, accessFlags := 26, slot := 1, constantValue := 0 }, { name := "LOG2_ARRAY_BOOLEAN_INDEX_SCALE", type := .int, accessFlags := 25, slot := 2, constantValue := 0 }, { name := "LOG2_ARRAY_BYTE_INDEX_SCALE", type := .int, accessFlags := 25, slot := 3, constantValue := 0 }, { name := "LOG2_ARRAY_CHAR_INDEX_SCALE", type := .int, accessFlags := 25, slot := 4, constantValue := 0 }, { name := "LOG2_ARRAY_SHORT_INDEX_SCALE", type := .int, accessFlags := 25, slot := 5, constantValue := 0 }, { name := "LOG2_ARRAY_INT_INDEX_SCALE", type := .int, accessFlags := 25, slot := 6, constantValue := 0 }, { name := "LOG2_ARRAY_LONG_INDEX_SCALE", type := .int, accessFlags := 25, slot := 7, constantValue := 0 }, { name := "LOG2_ARRAY_FLOAT_INDEX_SCALE", type := .int, accessFlags := 25, slot := 8, constantValue := 0 }, { name := "LOG2_ARRAY_DOUBLE_INDEX_SCALE", type := .int, accessFlags := 25, slot := 9, constantValue := 0 }, { name := "LOG2_BYTE_BIT_SIZE", type := .int, accessFlags := 26, slot := 10, constantValue := 0 }, { name := "T_BOOLEAN", type := .int, accessFlags := 25, slot := 11, constantValue := 0 }, { name := "T_CHAR", type := .int, accessFlags := 25, slot := 12, constantValue := 0 }, { name := "T_FLOAT", type := .int, accessFlags := 25, slot := 13, constantValue := 0 }, { name := "T_DOUBLE", type := .int, accessFlags := 25, slot := 14, constantValue := 0 }, { name := "T_BYTE", type := .int, accessFlags := 25, slot := 15, constantValue := 0 }, { name := "T_SHORT", type := .int, accessFlags := 25, slot := 16, constantValue := 0 }, { name := "T_INT", type := .int, accessFlags := 25, slot := 17, constantValue := 0 }, { name := "T_LONG", type := .int, accessFlags := 25, slot := 18, constantValue := 0 }, { name := "JLA", type := (.object "jdk/internal/access/JavaLangAccess"), accessFlags := 26, slot := 19, constantValue := 0 }, { name := "SOFT_MAX_ARRAY_LENGTH", type := .int, accessFlags := 25, slot := 20, constantValue := 0 }]
  methods := #[k28m0, k28m1]
  instanceTypes := #[]
  staticTypes := #[(.object "jdk/internal/misc/Unsafe"), .boolean, .int, .int, .int, .int, .int, .int, .int, .int, .int, .int, .int, .int, .int, .int, .int, .int, .int, (.object "jdk/internal/access/JavaLangAccess"), .int]
  resolved := Array.replicate 378 none
  statics := none }

/-- the primitive byte -/
def k29 : Class := { plain "byte" none with kind := .primitive 'B', accessFlags := 0x411 }
/-- [B -/
def k30 : Class := { plain "[B" (some 0) with kind := .array 29 .byte, interfaces := #[20, 3], accessFlags := 1041 }

/-- [Ljava/lang/Object; -/
def k31 : Class := { plain "[Ljava/lang/Object;" (some 0) with kind := .array 0 (.object "java/lang/Object"), interfaces := #[20, 3], accessFlags := 1041 }

def heap : Heap := #[{ cls := 8, slots := #[.long 0, .int 1, .null, .int 0, .null, .int 0, .int 0], vm := .statics 8 },
  { cls := 21, slots := #[.long 0, .int 0, .ref 3, .ref 4], vm := .statics 21 },
  { cls := 25, slots := #[.null, .null, .null], vm := .statics 25 },
  { cls := 31, slots := #[], vm := .none },
  { cls := 31, slots := #[], vm := .none }]
def classes : Array Class := #[k0, k1, k2, k3, k4, k5, k6, k7, k8, k9, k10, k11, k12, k13, k14, k15, k16, k17, k18, k19, k20, k21, k22, k23, k24, k25, k26, k27, k28, k29, k30, k31]
def interned : List (Array UInt16 × Addr) := []
def slotsUsed : Nat := 14
def theMethod : MethodId := ⟨1, 2⟩
def args0 : Array Value := #[.int 5, .int 6, .int 7, .int 8, .int 3, .int 0]
def aboutOver (below : List Frame) : State where
  vm := { classes := classes, interned := interned.toArray }
  heap := heap
  slotsUsed := slotsUsed
  threads := #[{ frames := .invoking theMethod args0 :: below }]
def below0 : List Frame := [.native { method := ⟨0, 0⟩, args := #[] }]
def about1 : State := aboutOver below0
def p0 : Program := .bare "" "" ""
def e0 : Env := launch0.env 0 0 0
theorem w_frames : about1.frames = Frame.invoking theMethod args0 :: below0 := rfl
set_option maxRecDepth 65536 in
theorem w_args : argsFit about1.vm theMethod args0 = true := by decide +kernel
set_option maxRecDepth 65536 in
theorem w_heap : heapFits about1 = true := by decide +kernel
set_option maxRecDepth 65536 in
theorem w_runnable : about1.curStatus? = some .runnable := by decide +kernel
set_option maxRecDepth 65536 in
theorem w_alone : about1.alone = true := by decide +kernel
set_option maxRecDepth 65536 in
theorem w_named : about1.methodNamed? x = some theMethod := by decide +kernel
set_option maxRecDepth 65536 in
theorem w_hears : about1.hears theMethod below0 = true := by decide +kernel
set_option maxRecDepth 65536 in
theorem w_ripe : about1.ripe theMethod args0 below0 = true := by decide +kernel
theorem w_running : about1.status = .running := rfl
set_option maxRecDepth 65536 in
theorem w_room : about1.hasRoom e0.platform room_1 = true :=
  launch0.hasRoom_least _ room_1 (by decide +kernel) (by decide +kernel) (by decide +kernel) (by decide +kernel) (by decide +kernel) (by decide +kernel)
theorem allAtoms_all (ts : List Jvm.Cond) (a : Array Jvm.Value) (st : Jvm.State) : (allAtoms ts).before a st = ts.all (fun c => c.before a st) := by
  induction ts with
  | nil => rfl
  | cons c t ih =>
    show (Jvm.Cond.and c (allAtoms t)).before a st = _
    rw [Jvm.Cond.before_and, ih, List.all_cons]
def words1 : List Jvm.Cond := Jvm.Cond.code x code maxLocals ret :: tables_1
/-- a 'code' word, met by the world's own term for the bytes: nothing is compared byte by byte -/
theorem code_word {y : MethodName} {bytes : ByteArray} {mx : Nat} {rt : Option FieldType} {a : Array Value} {s : State} {m : MethodId} {meth : Method} {c : Code} (h1 : s.methodNamed? y = some m) (h2 : s.vm.method? m = some meth) (h3 : meth.code = some c) (h4 : c.code = bytes)
    (h5 : (c.maxLocals == mx && c.exceptionTable.isEmpty && decide (c.maxStack ≤ mostOperands) && decide (meth.sig.returnType = rt) && !meth.locks && decide (parseMethodDescriptor y.desc = some meth.sig)) = true) : (Jvm.Cond.code y bytes mx rt).before a s = true := by
  simp only [Bool.and_eq_true, beq_iff_eq, Bool.not_eq_true', decide_eq_true_eq] at h5
  obtain ⟨⟨⟨⟨⟨g1, g2⟩, g3⟩, g4⟩, g5⟩, g6⟩ := h5
  simp [Cond.before, Cond.holds, Cond.value, h1, h2, h3, h4, g1, g2, g3, g4, g5, g6]
def isCode : Jvm.Cond → Bool
  | .code _ _ _ _ => true
  | _ => false
theorem all_split {L : List Jvm.Cond} {P : Jvm.Cond → Bool} (h1 : L.all (fun c => isCode c || P c) = true) (h2 : ∀ c ∈ L.filter isCode, P c = true) : L.all P = true := by
  refine List.all_eq_true.mpr fun c hc => ?_
  have h := List.all_eq_true.mp h1 c hc
  rcases Bool.eq_false_or_eq_true (isCode c) with hi | hi
  · exact h2 c (List.mem_filter.mpr ⟨hc, hi⟩)
  · simpa [hi] using h
set_option maxRecDepth 65536 in
theorem w_c0 : (Jvm.Cond.code x code maxLocals ret).before args0 about1 = true := code_word (m := ⟨1, 2⟩) (meth := k1m2) (c := k1c2) (by decide +kernel) rfl rfl rfl (by decide +kernel)
set_option maxRecDepth 65536 in
theorem w_c1 : (Jvm.Cond.code ({ cls := "java/lang/String", name := "valueOf", desc := "(C)Ljava/lang/String;" } : Jvm.MethodName) jdk_42_method_139_code (1 : Nat) (Option.some (Jvm.ClassFile.FieldType.object "java/lang/String"))).before args0 about1 = true := code_word (m := ⟨8, 4⟩) (meth := k8m4) (c := k8c4) (by decide +kernel) rfl rfl rfl (by decide +kernel)
set_option maxRecDepth 65536 in
theorem w_c2 : (Jvm.Cond.code ({ cls := "java/lang/StringLatin1", name := "canEncode", desc := "(C)Z" } : Jvm.MethodName) jdk_43_method_3_code (1 : Nat) (Option.some Jvm.ClassFile.FieldType.boolean)).before args0 about1 = true := code_word (m := ⟨9, 2⟩) (meth := k9m2) (c := k9c2) (by decide +kernel) rfl rfl rfl (by decide +kernel)
set_option maxRecDepth 65536 in
theorem w_c3 : (Jvm.Cond.code ({ cls := "java/lang/StringLatin1", name := "toBytes", desc := "(C)[B" } : Jvm.MethodName) jdk_43_method_46_code (1 : Nat) (Option.some (Jvm.ClassFile.FieldType.array Jvm.ClassFile.FieldType.byte))).before args0 about1 = true := code_word (m := ⟨9, 3⟩) (meth := k9m3) (c := k9c3) (by decide +kernel) rfl rfl rfl (by decide +kernel)
set_option maxRecDepth 65536 in
theorem w_c4 : (Jvm.Cond.code ({ cls := "java/lang/String", name := "<init>", desc := "([BB)V" } : Jvm.MethodName) jdk_42_method_151_code (3 : Nat) (Option.none : Option Jvm.ClassFile.FieldType)).before args0 about1 = true := code_word (m := ⟨8, 7⟩) (meth := k8m7) (c := k8c7) (by decide +kernel) rfl rfl rfl (by decide +kernel)
set_option maxRecDepth 65536 in
theorem w_c5 : (Jvm.Cond.code ({ cls := "java/lang/Object", name := "<init>", desc := "()V" } : Jvm.MethodName) object_method_1_code (1 : Nat) (Option.none : Option Jvm.ClassFile.FieldType)).before args0 about1 = true := code_word (m := ⟨0, 0⟩) (meth := k0m0) (c := k0c0) (by decide +kernel) rfl rfl rfl (by decide +kernel)
set_option maxRecDepth 65536 in
theorem w_c6 : (Jvm.Cond.code ({ cls := "com/example/roomwire/roomwire/qunar/XmlElement", name := "<init>", desc := "(Ljava/lang/String;)V" } : Jvm.MethodName) prog_61_method_1_code (2 : Nat) (Option.none : Option Jvm.ClassFile.FieldType)).before args0 about1 = true := code_word (m := ⟨2, 0⟩) (meth := k2m0) (c := k2c0) (by decide +kernel) rfl rfl rfl (by decide +kernel)
set_option maxRecDepth 65536 in
theorem w_c7 : (Jvm.Cond.code ({ cls := "java/lang/StringBuilder", name := "<init>", desc := "()V" } : Jvm.MethodName) jdk_67_method_1_code (1 : Nat) (Option.none : Option Jvm.ClassFile.FieldType)).before args0 about1 = true := code_word (m := ⟨12, 0⟩) (meth := k12m0) (c := k12c0) (by decide +kernel) rfl rfl rfl (by decide +kernel)
set_option maxRecDepth 65536 in
theorem w_c8 : (Jvm.Cond.code ({ cls := "java/lang/AbstractStringBuilder", name := "<init>", desc := "(I)V" } : Jvm.MethodName) jdk_68_method_2_code (2 : Nat) (Option.none : Option Jvm.ClassFile.FieldType)).before args0 about1 = true := code_word (m := ⟨11, 1⟩) (meth := k11m1) (c := k11c1) (by decide +kernel) rfl rfl rfl (by decide +kernel)
set_option maxRecDepth 65536 in
theorem w_c9 : (Jvm.Cond.code ({ cls := "java/util/ArrayList", name := "<init>", desc := "()V" } : Jvm.MethodName) jdk_38_method_2_code (1 : Nat) (Option.none : Option Jvm.ClassFile.FieldType)).before args0 about1 = true := code_word (m := ⟨21, 0⟩) (meth := k21m0) (c := k21c0) (by decide +kernel) rfl rfl rfl (by decide +kernel)
set_option maxRecDepth 65536 in
theorem w_c10 : (Jvm.Cond.code ({ cls := "java/util/AbstractList", name := "<init>", desc := "()V" } : Jvm.MethodName) jdk_39_method_1_code (1 : Nat) (Option.none : Option Jvm.ClassFile.FieldType)).before args0 about1 = true := code_word (m := ⟨18, 0⟩) (meth := k18m0) (c := k18c0) (by decide +kernel) rfl rfl rfl (by decide +kernel)
set_option maxRecDepth 65536 in
theorem w_c11 : (Jvm.Cond.code ({ cls := "java/util/AbstractCollection", name := "<init>", desc := "()V" } : Jvm.MethodName) jdk_22_method_1_code (1 : Nat) (Option.none : Option Jvm.ClassFile.FieldType)).before args0 about1 = true := code_word (m := ⟨15, 0⟩) (meth := k15m0) (c := k15c0) (by decide +kernel) rfl rfl rfl (by decide +kernel)
set_option maxRecDepth 65536 in
theorem w_c12 : (Jvm.Cond.code ({ cls := "com/example/roomwire/roomwire/qunar/XmlElement", name := "document", desc := "()Ljava/lang/String;" } : Jvm.MethodName) prog_61_method_5_code (2 : Nat) (Option.some (Jvm.ClassFile.FieldType.object "java/lang/String"))).before args0 about1 = true := code_word (m := ⟨2, 2⟩) (meth := k2m2) (c := k2c2) (by decide +kernel) rfl rfl rfl (by decide +kernel)
set_option maxRecDepth 65536 in
theorem w_c13 : (Jvm.Cond.code ({ cls := "java/lang/StringBuilder", name := "<init>", desc := "(Ljava/lang/String;)V" } : Jvm.MethodName) jdk_67_method_3_code (2 : Nat) (Option.none : Option Jvm.ClassFile.FieldType)).before args0 about1 = true := code_word (m := ⟨12, 1⟩) (meth := k12m1) (c := k12c1) (by decide +kernel) rfl rfl rfl (by decide +kernel)
set_option maxRecDepth 65536 in
theorem w_c14 : (Jvm.Cond.code ({ cls := "java/lang/AbstractStringBuilder", name := "<init>", desc := "(Ljava/lang/String;)V" } : Jvm.MethodName) jdk_68_method_3_code (5 : Nat) (Option.none : Option Jvm.ClassFile.FieldType)).before args0 about1 = true := code_word (m := ⟨11, 2⟩) (meth := k11m2) (c := k11c2) (by decide +kernel) rfl rfl rfl (by decide +kernel)
set_option maxRecDepth 65536 in
theorem w_c15 : (Jvm.Cond.code ({ cls := "java/lang/String", name := "length", desc := "()I" } : Jvm.MethodName) jdk_42_method_54_code (1 : Nat) (Option.some Jvm.ClassFile.FieldType.int)).before args0 about1 = true := code_word (m := ⟨8, 2⟩) (meth := k8m2) (c := k8c2) (by decide +kernel) rfl rfl rfl (by decide +kernel)
set_option maxRecDepth 65536 in
theorem w_c16 : (Jvm.Cond.code ({ cls := "java/lang/String", name := "coder", desc := "()B" } : Jvm.MethodName) jdk_42_method_152_code (1 : Nat) (Option.some Jvm.ClassFile.FieldType.byte)).before args0 about1 = true := code_word (m := ⟨8, 8⟩) (meth := k8m8) (c := k8c8) (by decide +kernel) rfl rfl rfl (by decide +kernel)
set_option maxRecDepth 65536 in
theorem w_c17 : (Jvm.Cond.code ({ cls := "java/lang/StringBuilder", name := "append", desc := "(Ljava/lang/String;)Ljava/lang/AbstractStringBuilder;" } : Jvm.MethodName) jdk_67_method_80_code (2 : Nat) (Option.some (Jvm.ClassFile.FieldType.object "java/lang/AbstractStringBuilder"))).before args0 about1 = true := code_word (m := ⟨12, 6⟩) (meth := k12m6) (c := k12c6) (by decide +kernel) rfl rfl rfl (by decide +kernel)
set_option maxRecDepth 65536 in
theorem w_c18 : (Jvm.Cond.code ({ cls := "java/lang/StringBuilder", name := "append", desc := "(Ljava/lang/String;)Ljava/lang/StringBuilder;" } : Jvm.MethodName) jdk_67_method_7_code (2 : Nat) (Option.some (Jvm.ClassFile.FieldType.object "java/lang/StringBuilder"))).before args0 about1 = true := code_word (m := ⟨12, 2⟩) (meth := k12m2) (c := k12c2) (by decide +kernel) rfl rfl rfl (by decide +kernel)
set_option maxRecDepth 65536 in
theorem w_c19 : (Jvm.Cond.code ({ cls := "java/lang/AbstractStringBuilder", name := "append", desc := "(Ljava/lang/String;)Ljava/lang/AbstractStringBuilder;" } : Jvm.MethodName) jdk_68_method_22_code (3 : Nat) (Option.some (Jvm.ClassFile.FieldType.object "java/lang/AbstractStringBuilder"))).before args0 about1 = true := code_word (m := ⟨11, 6⟩) (meth := k11m6) (c := k11c6) (by decide +kernel) rfl rfl rfl (by decide +kernel)
set_option maxRecDepth 65536 in
theorem w_c20 : (Jvm.Cond.code ({ cls := "java/lang/AbstractStringBuilder", name := "ensureCapacityInternal", desc := "(I)V" } : Jvm.MethodName) jdk_68_method_9_code (3 : Nat) (Option.none : Option Jvm.ClassFile.FieldType)).before args0 about1 = true := code_word (m := ⟨11, 4⟩) (meth := k11m4) (c := k11c4) (by decide +kernel) rfl rfl rfl (by decide +kernel)
set_option maxRecDepth 65536 in
theorem w_c21 : (Jvm.Cond.code ({ cls := "java/lang/AbstractStringBuilder", name := "putStringAt", desc := "(ILjava/lang/String;)V" } : Jvm.MethodName) jdk_68_method_73_code (3 : Nat) (Option.none : Option Jvm.ClassFile.FieldType)).before args0 about1 = true := code_word (m := ⟨11, 16⟩) (meth := k11m16) (c := k11c16) (by decide +kernel) rfl rfl rfl (by decide +kernel)
set_option maxRecDepth 65536 in
theorem w_c22 : (Jvm.Cond.code ({ cls := "java/lang/AbstractStringBuilder", name := "inflateIfNeededFor", desc := "(Ljava/lang/String;)V" } : Jvm.MethodName) jdk_68_method_71_code (2 : Nat) (Option.none : Option Jvm.ClassFile.FieldType)).before args0 about1 = true := code_word (m := ⟨11, 14⟩) (meth := k11m14) (c := k11c14) (by decide +kernel) rfl rfl rfl (by decide +kernel)
set_option maxRecDepth 65536 in
theorem w_c23 : (Jvm.Cond.code ({ cls := "java/lang/String", name := "getBytes", desc := "([BIB)V" } : Jvm.MethodName) jdk_42_method_147_code (4 : Nat) (Option.none : Option Jvm.ClassFile.FieldType)).before args0 about1 = true := code_word (m := ⟨8, 5⟩) (meth := k8m5) (c := k8c5) (by decide +kernel) rfl rfl rfl (by decide +kernel)
set_option maxRecDepth 65536 in
theorem w_c24 : (Jvm.Cond.code ({ cls := "com/example/roomwire/roomwire/qunar/XmlElement", name := "writeTo", desc := "(Ljava/lang/StringBuilder;)V" } : Jvm.MethodName) prog_61_method_6_code (4 : Nat) (Option.none : Option Jvm.ClassFile.FieldType)).before args0 about1 = true := code_word (m := ⟨2, 3⟩) (meth := k2m3) (c := k2c3) (by decide +kernel) rfl rfl rfl (by decide +kernel)
set_option maxRecDepth 65536 in
theorem w_c25 : (Jvm.Cond.code ({ cls := "java/lang/StringBuilder", name := "append", desc := "(C)Ljava/lang/StringBuilder;" } : Jvm.MethodName) jdk_67_method_14_code (2 : Nat) (Option.some (Jvm.ClassFile.FieldType.object "java/lang/StringBuilder"))).before args0 about1 = true := code_word (m := ⟨12, 4⟩) (meth := k12m4) (c := k12c4) (by decide +kernel) rfl rfl rfl (by decide +kernel)
set_option maxRecDepth 65536 in
theorem w_c26 : (Jvm.Cond.code ({ cls := "java/lang/AbstractStringBuilder", name := "append", desc := "(C)Ljava/lang/AbstractStringBuilder;" } : Jvm.MethodName) jdk_68_method_31_code (2 : Nat) (Option.some (Jvm.ClassFile.FieldType.object "java/lang/AbstractStringBuilder"))).before args0 about1 = true := code_word (m := ⟨11, 9⟩) (meth := k11m9) (c := k11c9) (by decide +kernel) rfl rfl rfl (by decide +kernel)
set_option maxRecDepth 65536 in
theorem w_c27 : (Jvm.Cond.code ({ cls := "java/lang/AbstractStringBuilder", name := "isLatin1", desc := "()Z" } : Jvm.MethodName) jdk_68_method_68_code (1 : Nat) (Option.some Jvm.ClassFile.FieldType.boolean)).before args0 about1 = true := code_word (m := ⟨11, 13⟩) (meth := k11m13) (c := k11c13) (by decide +kernel) rfl rfl rfl (by decide +kernel)
set_option maxRecDepth 65536 in
theorem w_c28 : (Jvm.Cond.code ({ cls := "java/lang/StringBuilder", name := "append", desc := "(Ljava/lang/CharSequence;)Ljava/lang/StringBuilder;" } : Jvm.MethodName) jdk_67_method_9_code (2 : Nat) (Option.some (Jvm.ClassFile.FieldType.object "java/lang/StringBuilder"))).before args0 about1 = true := code_word (m := ⟨12, 3⟩) (meth := k12m3) (c := k12c3) (by decide +kernel) rfl rfl rfl (by decide +kernel)
set_option maxRecDepth 65536 in
theorem w_c29 : (Jvm.Cond.code ({ cls := "java/lang/AbstractStringBuilder", name := "append", desc := "(Ljava/lang/CharSequence;)Ljava/lang/AbstractStringBuilder;" } : Jvm.MethodName) jdk_68_method_25_code (2 : Nat) (Option.some (Jvm.ClassFile.FieldType.object "java/lang/AbstractStringBuilder"))).before args0 about1 = true := code_word (m := ⟨11, 8⟩) (meth := k11m8) (c := k11c8) (by decide +kernel) rfl rfl rfl (by decide +kernel)
set_option maxRecDepth 65536 in
theorem w_c30 : (Jvm.Cond.code ({ cls := "java/lang/AbstractStringBuilder", name := "append", desc := "(Ljava/lang/AbstractStringBuilder;)Ljava/lang/AbstractStringBuilder;" } : Jvm.MethodName) jdk_68_method_24_code (3 : Nat) (Option.some (Jvm.ClassFile.FieldType.object "java/lang/AbstractStringBuilder"))).before args0 about1 = true := code_word (m := ⟨11, 7⟩) (meth := k11m7) (c := k11c7) (by decide +kernel) rfl rfl rfl (by decide +kernel)
set_option maxRecDepth 65536 in
theorem w_c31 : (Jvm.Cond.code ({ cls := "java/lang/StringBuilder", name := "length", desc := "()I" } : Jvm.MethodName) jdk_67_method_93_code (1 : Nat) (Option.some Jvm.ClassFile.FieldType.int)).before args0 about1 = true := code_word (m := ⟨12, 7⟩) (meth := k12m7) (c := k12c7) (by decide +kernel) rfl rfl rfl (by decide +kernel)
set_option maxRecDepth 65536 in
theorem w_c32 : (Jvm.Cond.code ({ cls := "java/lang/AbstractStringBuilder", name := "length", desc := "()I" } : Jvm.MethodName) jdk_68_method_6_code (1 : Nat) (Option.some Jvm.ClassFile.FieldType.int)).before args0 about1 = true := code_word (m := ⟨11, 3⟩) (meth := k11m3) (c := k11c3) (by decide +kernel) rfl rfl rfl (by decide +kernel)
set_option maxRecDepth 65536 in
theorem w_c33 : (Jvm.Cond.code ({ cls := "java/lang/AbstractStringBuilder", name := "inflateIfNeededFor", desc := "(Ljava/lang/AbstractStringBuilder;)V" } : Jvm.MethodName) jdk_68_method_72_code (2 : Nat) (Option.none : Option Jvm.ClassFile.FieldType)).before args0 about1 = true := code_word (m := ⟨11, 15⟩) (meth := k11m15) (c := k11c15) (by decide +kernel) rfl rfl rfl (by decide +kernel)
set_option maxRecDepth 65536 in
theorem w_c34 : (Jvm.Cond.code ({ cls := "java/lang/AbstractStringBuilder", name := "getCoder", desc := "()B" } : Jvm.MethodName) jdk_68_method_67_code (1 : Nat) (Option.some Jvm.ClassFile.FieldType.byte)).before args0 about1 = true := code_word (m := ⟨11, 12⟩) (meth := k11m12) (c := k11c12) (by decide +kernel) rfl rfl rfl (by decide +kernel)
set_option maxRecDepth 65536 in
theorem w_c35 : (Jvm.Cond.code ({ cls := "java/lang/AbstractStringBuilder", name := "getBytes", desc := "([BIB)V" } : Jvm.MethodName) jdk_68_method_65_code (4 : Nat) (Option.none : Option Jvm.ClassFile.FieldType)).before args0 about1 = true := code_word (m := ⟨11, 11⟩) (meth := k11m11) (c := k11c11) (by decide +kernel) rfl rfl rfl (by decide +kernel)
set_option maxRecDepth 65536 in
theorem w_c36 : (Jvm.Cond.code ({ cls := "java/util/ArrayList", name := "isEmpty", desc := "()Z" } : Jvm.MethodName) jdk_38_method_9_code (1 : Nat) (Option.some Jvm.ClassFile.FieldType.boolean)).before args0 about1 = true := code_word (m := ⟨21, 3⟩) (meth := k21m3) (c := k21c3) (by decide +kernel) rfl rfl rfl (by decide +kernel)
set_option maxRecDepth 65536 in
theorem w_c37 : (Jvm.Cond.code ({ cls := "java/lang/StringBuilder", name := "toString", desc := "()Ljava/lang/String;" } : Jvm.MethodName) jdk_67_method_42_code (1 : Nat) (Option.some (Jvm.ClassFile.FieldType.object "java/lang/String"))).before args0 about1 = true := code_word (m := ⟨12, 5⟩) (meth := k12m5) (c := k12c5) (by decide +kernel) rfl rfl rfl (by decide +kernel)
set_option maxRecDepth 65536 in
theorem w_c38 : (Jvm.Cond.code ({ cls := "java/lang/String", name := "<init>", desc := "(Ljava/lang/StringBuilder;)V" } : Jvm.MethodName) jdk_42_method_53_code (2 : Nat) (Option.none : Option Jvm.ClassFile.FieldType)).before args0 about1 = true := code_word (m := ⟨8, 1⟩) (meth := k8m1) (c := k8c1) (by decide +kernel) rfl rfl rfl (by decide +kernel)
set_option maxRecDepth 65536 in
theorem w_c39 : (Jvm.Cond.code ({ cls := "java/lang/String", name := "<init>", desc := "(Ljava/lang/AbstractStringBuilder;Ljava/lang/Void;)V" } : Jvm.MethodName) jdk_42_method_150_code (5 : Nat) (Option.none : Option Jvm.ClassFile.FieldType)).before args0 about1 = true := code_word (m := ⟨8, 6⟩) (meth := k8m6) (c := k8c6) (by decide +kernel) rfl rfl rfl (by decide +kernel)
set_option maxRecDepth 65536 in
theorem w_c40 : (Jvm.Cond.code ({ cls := "java/lang/AbstractStringBuilder", name := "getValue", desc := "()[B" } : Jvm.MethodName) jdk_68_method_64_code (1 : Nat) (Option.some (Jvm.ClassFile.FieldType.array Jvm.ClassFile.FieldType.byte))).before args0 about1 = true := code_word (m := ⟨11, 10⟩) (meth := k11m10) (c := k11c10) (by decide +kernel) rfl rfl rfl (by decide +kernel)
set_option maxRecDepth 65536 in
theorem w_c41 : (Jvm.Cond.code ({ cls := "java/util/Arrays", name := "copyOfRange", desc := "([BII)[B" } : Jvm.MethodName) jdk_65_method_132_code (3 : Nat) (Option.some (Jvm.ClassFile.FieldType.array Jvm.ClassFile.FieldType.byte))).before args0 about1 = true := code_word (m := ⟨23, 3⟩) (meth := k23m3) (c := k23c3) (by decide +kernel) rfl rfl rfl (by decide +kernel)
set_option maxRecDepth 65536 in
theorem w_c42 : (Jvm.Cond.code ({ cls := "java/util/Arrays", name := "copyOfRangeByte", desc := "([BII)[B" } : Jvm.MethodName) jdk_65_method_133_code (5 : Nat) (Option.some (Jvm.ClassFile.FieldType.array Jvm.ClassFile.FieldType.byte))).before args0 about1 = true := code_word (m := ⟨23, 4⟩) (meth := k23m4) (c := k23c4) (by decide +kernel) rfl rfl rfl (by decide +kernel)
set_option maxRecDepth 65536 in
theorem w_c43 : (Jvm.Cond.code ({ cls := "java/util/Arrays", name := "checkLength", desc := "(II)V" } : Jvm.MethodName) jdk_65_method_131_code (2 : Nat) (Option.none : Option Jvm.ClassFile.FieldType)).before args0 about1 = true := code_word (m := ⟨23, 2⟩) (meth := k23m2) (c := k23c2) (by decide +kernel) rfl rfl rfl (by decide +kernel)
set_option maxRecDepth 65536 in
theorem w_c44 : (Jvm.Cond.code ({ cls := "java/lang/Math", name := "min", desc := "(II)I" } : Jvm.MethodName) jdk_29_method_69_code (2 : Nat) (Option.some Jvm.ClassFile.FieldType.int)).before args0 about1 = true := code_word (m := ⟨24, 2⟩) (meth := k24m2) (c := k24c2) (by decide +kernel) rfl rfl rfl (by decide +kernel)
set_option maxRecDepth 65536 in
theorem w_c45 : (Jvm.Cond.code ({ cls := "java/lang/String", name := "charAt", desc := "(I)C" } : Jvm.MethodName) jdk_42_method_56_code (2 : Nat) (Option.some Jvm.ClassFile.FieldType.char)).before args0 about1 = true := code_word (m := ⟨8, 3⟩) (meth := k8m3) (c := k8c3) (by decide +kernel) rfl rfl rfl (by decide +kernel)
set_option maxRecDepth 65536 in
theorem w_c46 : (Jvm.Cond.code ({ cls := "java/lang/String", name := "isLatin1", desc := "()Z" } : Jvm.MethodName) jdk_42_method_154_code (1 : Nat) (Option.some Jvm.ClassFile.FieldType.boolean)).before args0 about1 = true := code_word (m := ⟨8, 9⟩) (meth := k8m9) (c := k8c9) (by decide +kernel) rfl rfl rfl (by decide +kernel)
set_option maxRecDepth 65536 in
theorem w_c47 : (Jvm.Cond.code ({ cls := "java/lang/StringLatin1", name := "charAt", desc := "([BI)C" } : Jvm.MethodName) jdk_43_method_2_code (2 : Nat) (Option.some Jvm.ClassFile.FieldType.char)).before args0 about1 = true := code_word (m := ⟨9, 1⟩) (meth := k9m1) (c := k9c1) (by decide +kernel) rfl rfl rfl (by decide +kernel)
set_option maxRecDepth 65536 in
theorem w_c48 : (Jvm.Cond.code ({ cls := "java/lang/String", name := "checkIndex", desc := "(II)V" } : Jvm.MethodName) jdk_42_method_155_code (2 : Nat) (Option.none : Option Jvm.ClassFile.FieldType)).before args0 about1 = true := code_word (m := ⟨8, 10⟩) (meth := k8m10) (c := k8c10) (by decide +kernel) rfl rfl rfl (by decide +kernel)
set_option maxRecDepth 65536 in
theorem w_c49 : (Jvm.Cond.code ({ cls := "jdk/internal/util/Preconditions", name := "checkIndex", desc := "(IILjava/util/function/BiFunction;)I" } : Jvm.MethodName) jdk_41_method_11_code (3 : Nat) (Option.some Jvm.ClassFile.FieldType.int)).before args0 about1 = true := code_word (m := ⟨25, 1⟩) (meth := k25m1) (c := k25c1) (by decide +kernel) rfl rfl rfl (by decide +kernel)
set_option maxRecDepth 65536 in
theorem w_c50 : (Jvm.Cond.code ({ cls := "com/example/roomwire/roomwire/qunar/XmlElement", name := "add", desc := "(Lcom/example/roomwire/roomwire/qunar/XmlElement;)Lcom/example/roomwire/roomwire/qunar/XmlElement;" } : Jvm.MethodName) prog_61_method_3_code (2 : Nat) (Option.some (Jvm.ClassFile.FieldType.object "com/example/roomwire/roomwire/qunar/XmlElement"))).before args0 about1 = true := code_word (m := ⟨2, 1⟩) (meth := k2m1) (c := k2c1) (by decide +kernel) rfl rfl rfl (by decide +kernel)
set_option maxRecDepth 65536 in
theorem w_c51 : (Jvm.Cond.code ({ cls := "java/util/ArrayList", name := "add", desc := "(Ljava/lang/Object;)Z" } : Jvm.MethodName) jdk_38_method_25_code (2 : Nat) (Option.some Jvm.ClassFile.FieldType.boolean)).before args0 about1 = true := code_word (m := ⟨21, 5⟩) (meth := k21m5) (c := k21c5) (by decide +kernel) rfl rfl rfl (by decide +kernel)
set_option maxRecDepth 65536 in
theorem w_c52 : (Jvm.Cond.code ({ cls := "java/util/ArrayList", name := "add", desc := "(Ljava/lang/Object;[Ljava/lang/Object;I)V" } : Jvm.MethodName) jdk_38_method_24_code (4 : Nat) (Option.none : Option Jvm.ClassFile.FieldType)).before args0 about1 = true := code_word (m := ⟨21, 4⟩) (meth := k21m4) (c := k21c4) (by decide +kernel) rfl rfl rfl (by decide +kernel)
set_option maxRecDepth 65536 in
theorem w_c53 : (Jvm.Cond.code ({ cls := "java/util/ArrayList", name := "grow", desc := "()[Ljava/lang/Object;" } : Jvm.MethodName) jdk_38_method_7_code (1 : Nat) (Option.some (Jvm.ClassFile.FieldType.array (Jvm.ClassFile.FieldType.object "java/lang/Object")))).before args0 about1 = true := code_word (m := ⟨21, 2⟩) (meth := k21m2) (c := k21c2) (by decide +kernel) rfl rfl rfl (by decide +kernel)
set_option maxRecDepth 65536 in
theorem w_c54 : (Jvm.Cond.code ({ cls := "java/util/ArrayList", name := "grow", desc := "(I)[Ljava/lang/Object;" } : Jvm.MethodName) jdk_38_method_6_code (4 : Nat) (Option.some (Jvm.ClassFile.FieldType.array (Jvm.ClassFile.FieldType.object "java/lang/Object")))).before args0 about1 = true := code_word (m := ⟨21, 1⟩) (meth := k21m1) (c := k21c1) (by decide +kernel) rfl rfl rfl (by decide +kernel)
set_option maxRecDepth 65536 in
theorem w_c55 : (Jvm.Cond.code ({ cls := "java/lang/Math", name := "max", desc := "(II)I" } : Jvm.MethodName) jdk_29_method_65_code (2 : Nat) (Option.some Jvm.ClassFile.FieldType.int)).before args0 about1 = true := code_word (m := ⟨24, 1⟩) (meth := k24m1) (c := k24c1) (by decide +kernel) rfl rfl rfl (by decide +kernel)
set_option maxRecDepth 65536 in
theorem w_c56 : (Jvm.Cond.code ({ cls := "java/util/ArrayList", name := "iterator", desc := "()Ljava/util/Iterator;" } : Jvm.MethodName) jdk_38_method_55_code (1 : Nat) (Option.some (Jvm.ClassFile.FieldType.object "java/util/Iterator"))).before args0 about1 = true := code_word (m := ⟨21, 6⟩) (meth := k21m6) (c := k21c6) (by decide +kernel) rfl rfl rfl (by decide +kernel)
set_option maxRecDepth 65536 in
theorem w_c57 : (Jvm.Cond.code ({ cls := "java/util/ArrayList$Itr", name := "<init>", desc := "(Ljava/util/ArrayList;)V" } : Jvm.MethodName) jdk_49_method_1_code (2 : Nat) (Option.none : Option Jvm.ClassFile.FieldType)).before args0 about1 = true := code_word (m := ⟨27, 0⟩) (meth := k27m0) (c := k27c0) (by decide +kernel) rfl rfl rfl (by decide +kernel)
set_option maxRecDepth 65536 in
theorem w_c58 : (Jvm.Cond.code ({ cls := "java/util/ArrayList$Itr", name := "hasNext", desc := "()Z" } : Jvm.MethodName) jdk_49_method_2_code (1 : Nat) (Option.some Jvm.ClassFile.FieldType.boolean)).before args0 about1 = true := code_word (m := ⟨27, 1⟩) (meth := k27m1) (c := k27c1) (by decide +kernel) rfl rfl rfl (by decide +kernel)
set_option maxRecDepth 65536 in
theorem w_c59 : (Jvm.Cond.code ({ cls := "java/util/ArrayList$Itr", name := "next", desc := "()Ljava/lang/Object;" } : Jvm.MethodName) jdk_49_method_3_code (3 : Nat) (Option.some (Jvm.ClassFile.FieldType.object "java/lang/Object"))).before args0 about1 = true := code_word (m := ⟨27, 2⟩) (meth := k27m2) (c := k27c2) (by decide +kernel) rfl rfl rfl (by decide +kernel)
set_option maxRecDepth 65536 in
theorem w_c60 : (Jvm.Cond.code ({ cls := "java/util/ArrayList$Itr", name := "checkForComodification", desc := "()V" } : Jvm.MethodName) jdk_49_method_6_code (1 : Nat) (Option.none : Option Jvm.ClassFile.FieldType)).before args0 about1 = true := code_word (m := ⟨27, 3⟩) (meth := k27m3) (c := k27c3) (by decide +kernel) rfl rfl rfl (by decide +kernel)
set_option maxRecDepth 65536 in
theorem w_c61 : (Jvm.Cond.code ({ cls := "com/example/roomwire/roomwire/qunar/XmlElementAddPinLaw", name := "childAt", desc := "(Ljava/lang/String;IC)Z" } : Jvm.MethodName) method_2_code (3 : Nat) (Option.some Jvm.ClassFile.FieldType.boolean)).before args0 about1 = true := code_word (m := ⟨1, 1⟩) (meth := k1m1) (c := k1c1) (by decide +kernel) rfl rfl rfl (by decide +kernel)
set_option maxRecDepth 65536 in
theorem w_c62 : (Jvm.Cond.code ({ cls := "java/lang/AbstractStringBuilder", name := "newCapacity", desc := "(I)I" } : Jvm.MethodName) jdk_68_method_10_code (6 : Nat) (Option.some Jvm.ClassFile.FieldType.int)).before args0 about1 = true := code_word (m := ⟨11, 5⟩) (meth := k11m5) (c := k11c5) (by decide +kernel) rfl rfl rfl (by decide +kernel)
set_option maxRecDepth 65536 in
theorem w_c63 : (Jvm.Cond.code ({ cls := "jdk/internal/util/ArraysSupport", name := "newLength", desc := "(III)I" } : Jvm.MethodName) jdk_48_method_27_code (4 : Nat) (Option.some Jvm.ClassFile.FieldType.int)).before args0 about1 = true := code_word (m := ⟨28, 1⟩) (meth := k28m1) (c := k28c1) (by decide +kernel) rfl rfl rfl (by decide +kernel)
set_option maxRecDepth 65536 in
theorem w_c64 : (Jvm.Cond.code ({ cls := "java/util/Arrays", name := "copyOf", desc := "([BI)[B" } : Jvm.MethodName) jdk_65_method_121_code (3 : Nat) (Option.some (Jvm.ClassFile.FieldType.array Jvm.ClassFile.FieldType.byte))).before args0 about1 = true := code_word (m := ⟨23, 1⟩) (meth := k23m1) (c := k23c1) (by decide +kernel) rfl rfl rfl (by decide +kernel)
def codes1 : List Jvm.Cond := [Jvm.Cond.code x code maxLocals ret, Jvm.Cond.code ({ cls := "java/lang/String", name := "valueOf", desc := "(C)Ljava/lang/String;" } : Jvm.MethodName) jdk_42_method_139_code (1 : Nat) (Option.some (Jvm.ClassFile.FieldType.object "java/lang/String")), Jvm.Cond.code ({ cls := "java/lang/StringLatin1", name := "canEncode", desc := "(C)Z" } : Jvm.MethodName) jdk_43_method_3_code (1 : Nat) (Option.some Jvm.ClassFile.FieldType.boolean), Jvm.Cond.code ({ cls := "java/lang/StringLatin1", name := "toBytes", desc := "(C)[B" } : Jvm.MethodName) jdk_43_method_46_code (1 : Nat) (Option.some (Jvm.ClassFile.FieldType.array Jvm.ClassFile.FieldType.byte)), Jvm.Cond.code ({ cls := "java/lang/String", name := "<init>", desc := "([BB)V" } : Jvm.MethodName) jdk_42_method_151_code (3 : Nat) (Option.none : Option Jvm.ClassFile.FieldType), Jvm.Cond.code ({ cls := "java/lang/Object", name := "<init>", desc := "()V" } : Jvm.MethodName) object_method_1_code (1 : Nat) (Option.none : Option Jvm.ClassFile.FieldType), Jvm.Cond.code ({ cls := "com/example/roomwire/roomwire/qunar/XmlElement", name := "<init>", desc := "(Ljava/lang/String;)V" } : Jvm.MethodName) prog_61_method_1_code (2 : Nat) (Option.none : Option Jvm.ClassFile.FieldType), Jvm.Cond.code ({ cls := "java/lang/StringBuilder", name := "<init>", desc := "()V" } : Jvm.MethodName) jdk_67_method_1_code (1 : Nat) (Option.none : Option Jvm.ClassFile.FieldType), Jvm.Cond.code ({ cls := "java/lang/AbstractStringBuilder", name := "<init>", desc := "(I)V" } : Jvm.MethodName) jdk_68_method_2_code (2 : Nat) (Option.none : Option Jvm.ClassFile.FieldType), Jvm.Cond.code ({ cls := "java/util/ArrayList", name := "<init>", desc := "()V" } : Jvm.MethodName) jdk_38_method_2_code (1 : Nat) (Option.none : Option Jvm.ClassFile.FieldType), Jvm.Cond.code ({ cls := "java/util/AbstractList", name := "<init>", desc := "()V" } : Jvm.MethodName) jdk_39_method_1_code (1 : Nat) (Option.none : Option Jvm.ClassFile.FieldType), Jvm.Cond.code ({ cls := "java/util/AbstractCollection", name := "<init>", desc := "()V" } : Jvm.MethodName) jdk_22_method_1_code (1 : Nat) (Option.none : Option Jvm.ClassFile.FieldType), Jvm.Cond.code ({ cls := "com/example/roomwire/roomwire/qunar/XmlElement", name := "document", desc := "()Ljava/lang/String;" } : Jvm.MethodName) prog_61_method_5_code (2 : Nat) (Option.some (Jvm.ClassFile.FieldType.object "java/lang/String")), Jvm.Cond.code ({ cls := "java/lang/StringBuilder", name := "<init>", desc := "(Ljava/lang/String;)V" } : Jvm.MethodName) jdk_67_method_3_code (2 : Nat) (Option.none : Option Jvm.ClassFile.FieldType), Jvm.Cond.code ({ cls := "java/lang/AbstractStringBuilder", name := "<init>", desc := "(Ljava/lang/String;)V" } : Jvm.MethodName) jdk_68_method_3_code (5 : Nat) (Option.none : Option Jvm.ClassFile.FieldType), Jvm.Cond.code ({ cls := "java/lang/String", name := "length", desc := "()I" } : Jvm.MethodName) jdk_42_method_54_code (1 : Nat) (Option.some Jvm.ClassFile.FieldType.int), Jvm.Cond.code ({ cls := "java/lang/String", name := "coder", desc := "()B" } : Jvm.MethodName) jdk_42_method_152_code (1 : Nat) (Option.some Jvm.ClassFile.FieldType.byte), Jvm.Cond.code ({ cls := "java/lang/StringBuilder", name := "append", desc := "(Ljava/lang/String;)Ljava/lang/AbstractStringBuilder;" } : Jvm.MethodName) jdk_67_method_80_code (2 : Nat) (Option.some (Jvm.ClassFile.FieldType.object "java/lang/AbstractStringBuilder")), Jvm.Cond.code ({ cls := "java/lang/StringBuilder", name := "append", desc := "(Ljava/lang/String;)Ljava/lang/StringBuilder;" } : Jvm.MethodName) jdk_67_method_7_code (2 : Nat) (Option.some (Jvm.ClassFile.FieldType.object "java/lang/StringBuilder")), Jvm.Cond.code ({ cls := "java/lang/AbstractStringBuilder", name := "append", desc := "(Ljava/lang/String;)Ljava/lang/AbstractStringBuilder;" } : Jvm.MethodName) jdk_68_method_22_code (3 : Nat) (Option.some (Jvm.ClassFile.FieldType.object "java/lang/AbstractStringBuilder")), Jvm.Cond.code ({ cls := "java/lang/AbstractStringBuilder", name := "ensureCapacityInternal", desc := "(I)V" } : Jvm.MethodName) jdk_68_method_9_code (3 : Nat) (Option.none : Option Jvm.ClassFile.FieldType), Jvm.Cond.code ({ cls := "java/lang/AbstractStringBuilder", name := "putStringAt", desc := "(ILjava/lang/String;)V" } : Jvm.MethodName) jdk_68_method_73_code (3 : Nat) (Option.none : Option Jvm.ClassFile.FieldType), Jvm.Cond.code ({ cls := "java/lang/AbstractStringBuilder", name := "inflateIfNeededFor", desc := "(Ljava/lang/String;)V" } : Jvm.MethodName) jdk_68_method_71_code (2 : Nat) (Option.none : Option Jvm.ClassFile.FieldType), Jvm.Cond.code ({ cls := "java/lang/String", name := "getBytes", desc := "([BIB)V" } : Jvm.MethodName) jdk_42_method_147_code (4 : Nat) (Option.none : Option Jvm.ClassFile.FieldType), Jvm.Cond.code ({ cls := "com/example/roomwire/roomwire/qunar/XmlElement", name := "writeTo", desc := "(Ljava/lang/StringBuilder;)V" } : Jvm.MethodName) prog_61_method_6_code (4 : Nat) (Option.none : Option Jvm.ClassFile.FieldType), Jvm.Cond.code ({ cls := "java/lang/StringBuilder", name := "append", desc := "(C)Ljava/lang/StringBuilder;" } : Jvm.MethodName) jdk_67_method_14_code (2 : Nat) (Option.some (Jvm.ClassFile.FieldType.object "java/lang/StringBuilder")), Jvm.Cond.code ({ cls := "java/lang/AbstractStringBuilder", name := "append", desc := "(C)Ljava/lang/AbstractStringBuilder;" } : Jvm.MethodName) jdk_68_method_31_code (2 : Nat) (Option.some (Jvm.ClassFile.FieldType.object "java/lang/AbstractStringBuilder")), Jvm.Cond.code ({ cls := "java/lang/AbstractStringBuilder", name := "isLatin1", desc := "()Z" } : Jvm.MethodName) jdk_68_method_68_code (1 : Nat) (Option.some Jvm.ClassFile.FieldType.boolean), Jvm.Cond.code ({ cls := "java/lang/StringBuilder", name := "append", desc := "(Ljava/lang/CharSequence;)Ljava/lang/StringBuilder;" } : Jvm.MethodName) jdk_67_method_9_code (2 : Nat) (Option.some (Jvm.ClassFile.FieldType.object "java/lang/StringBuilder")), Jvm.Cond.code ({ cls := "java/lang/AbstractStringBuilder", name := "append", desc := "(Ljava/lang/CharSequence;)Ljava/lang/AbstractStringBuilder;" } : Jvm.MethodName) jdk_68_method_25_code (2 : Nat) (Option.some (Jvm.ClassFile.FieldType.object "java/lang/AbstractStringBuilder")), Jvm.Cond.code ({ cls := "java/lang/AbstractStringBuilder", name := "append", desc := "(Ljava/lang/AbstractStringBuilder;)Ljava/lang/AbstractStringBuilder;" } : Jvm.MethodName) jdk_68_method_24_code (3 : Nat) (Option.some (Jvm.ClassFile.FieldType.object "java/lang/AbstractStringBuilder")), Jvm.Cond.code ({ cls := "java/lang/StringBuilder", name := "length", desc := "()I" } : Jvm.MethodName) jdk_67_method_93_code (1 : Nat) (Option.some Jvm.ClassFile.FieldType.int), Jvm.Cond.code ({ cls := "java/lang/AbstractStringBuilder", name := "length", desc := "()I" } : Jvm.MethodName) jdk_68_method_6_code (1 : Nat) (Option.some Jvm.ClassFile.FieldType.int), Jvm.Cond.code ({ cls := "java/lang/AbstractStringBuilder", name := "inflateIfNeededFor", desc := "(Ljava/lang/AbstractStringBuilder;)V" } : Jvm.MethodName) jdk_68_method_72_code (2 : Nat) (Option.none : Option Jvm.ClassFile.FieldType), Jvm.Cond.code ({ cls := "java/lang/AbstractStringBuilder", name := "getCoder", desc := "()B" } : Jvm.MethodName) jdk_68_method_67_code (1 : Nat) (Option.some Jvm.ClassFile.FieldType.byte), Jvm.Cond.code ({ cls := "java/lang/AbstractStringBuilder", name := "getBytes", desc := "([BIB)V" } : Jvm.MethodName) jdk_68_method_65_code (4 : Nat) (Option.none : Option Jvm.ClassFile.FieldType), Jvm.Cond.code ({ cls := "java/util/ArrayList", name := "isEmpty", desc := "()Z" } : Jvm.MethodName) jdk_38_method_9_code (1 : Nat) (Option.some Jvm.ClassFile.FieldType.boolean), Jvm.Cond.code ({ cls := "java/lang/StringBuilder", name := "toString", desc := "()Ljava/lang/String;" } : Jvm.MethodName) jdk_67_method_42_code (1 : Nat) (Option.some (Jvm.ClassFile.FieldType.object "java/lang/String")), Jvm.Cond.code ({ cls := "java/lang/String", name := "<init>", desc := "(Ljava/lang/StringBuilder;)V" } : Jvm.MethodName) jdk_42_method_53_code (2 : Nat) (Option.none : Option Jvm.ClassFile.FieldType), Jvm.Cond.code ({ cls := "java/lang/String", name := "<init>", desc := "(Ljava/lang/AbstractStringBuilder;Ljava/lang/Void;)V" } : Jvm.MethodName) jdk_42_method_150_code (5 : Nat) (Option.none : Option Jvm.ClassFile.FieldType), Jvm.Cond.code ({ cls := "java/lang/AbstractStringBuilder", name := "getValue", desc := "()[B" } : Jvm.MethodName) jdk_68_method_64_code (1 : Nat) (Option.some (Jvm.ClassFile.FieldType.array Jvm.ClassFile.FieldType.byte)), Jvm.Cond.code ({ cls := "java/util/Arrays", name := "copyOfRange", desc := "([BII)[B" } : Jvm.MethodName) jdk_65_method_132_code (3 : Nat) (Option.some (Jvm.ClassFile.FieldType.array Jvm.ClassFile.FieldType.byte)), Jvm.Cond.code ({ cls := "java/util/Arrays", name := "copyOfRangeByte", desc := "([BII)[B" } : Jvm.MethodName) jdk_65_method_133_code (5 : Nat) (Option.some (Jvm.ClassFile.FieldType.array Jvm.ClassFile.FieldType.byte)), Jvm.Cond.code ({ cls := "java/util/Arrays", name := "checkLength", desc := "(II)V" } : Jvm.MethodName) jdk_65_method_131_code (2 : Nat) (Option.none : Option Jvm.ClassFile.FieldType), Jvm.Cond.code ({ cls := "java/lang/Math", name := "min", desc := "(II)I" } : Jvm.MethodName) jdk_29_method_69_code (2 : Nat) (Option.some Jvm.ClassFile.FieldType.int), Jvm.Cond.code ({ cls := "java/lang/String", name := "charAt", desc := "(I)C" } : Jvm.MethodName) jdk_42_method_56_code (2 : Nat) (Option.some Jvm.ClassFile.FieldType.char), Jvm.Cond.code ({ cls := "java/lang/String", name := "isLatin1", desc := "()Z" } : Jvm.MethodName) jdk_42_method_154_code (1 : Nat) (Option.some Jvm.ClassFile.FieldType.boolean), Jvm.Cond.code ({ cls := "java/lang/StringLatin1", name := "charAt", desc := "([BI)C" } : Jvm.MethodName) jdk_43_method_2_code (2 : Nat) (Option.some Jvm.ClassFile.FieldType.char), Jvm.Cond.code ({ cls := "java/lang/String", name := "checkIndex", desc := "(II)V" } : Jvm.MethodName) jdk_42_method_155_code (2 : Nat) (Option.none : Option Jvm.ClassFile.FieldType), Jvm.Cond.code ({ cls := "jdk/internal/util/Preconditions", name := "checkIndex", desc := "(IILjava/util/function/BiFunction;)I" } : Jvm.MethodName) jdk_41_method_11_code (3 : Nat) (Option.some Jvm.ClassFile.FieldType.int), Jvm.Cond.code ({ cls := "com/example/roomwire/roomwire/qunar/XmlElement", name := "add", desc := "(Lcom/example/roomwire/roomwire/qunar/XmlElement;)Lcom/example/roomwire/roomwire/qunar/XmlElement;" } : Jvm.MethodName) prog_61_method_3_code (2 : Nat) (Option.some (Jvm.ClassFile.FieldType.object "com/example/roomwire/roomwire/qunar/XmlElement")), Jvm.Cond.code ({ cls := "java/util/ArrayList", name := "add", desc := "(Ljava/lang/Object;)Z" } : Jvm.MethodName) jdk_38_method_25_code (2 : Nat) (Option.some Jvm.ClassFile.FieldType.boolean), Jvm.Cond.code ({ cls := "java/util/ArrayList", name := "add", desc := "(Ljava/lang/Object;[Ljava/lang/Object;I)V" } : Jvm.MethodName) jdk_38_method_24_code (4 : Nat) (Option.none : Option Jvm.ClassFile.FieldType), Jvm.Cond.code ({ cls := "java/util/ArrayList", name := "grow", desc := "()[Ljava/lang/Object;" } : Jvm.MethodName) jdk_38_method_7_code (1 : Nat) (Option.some (Jvm.ClassFile.FieldType.array (Jvm.ClassFile.FieldType.object "java/lang/Object"))), Jvm.Cond.code ({ cls := "java/util/ArrayList", name := "grow", desc := "(I)[Ljava/lang/Object;" } : Jvm.MethodName) jdk_38_method_6_code (4 : Nat) (Option.some (Jvm.ClassFile.FieldType.array (Jvm.ClassFile.FieldType.object "java/lang/Object"))), Jvm.Cond.code ({ cls := "java/lang/Math", name := "max", desc := "(II)I" } : Jvm.MethodName) jdk_29_method_65_code (2 : Nat) (Option.some Jvm.ClassFile.FieldType.int), Jvm.Cond.code ({ cls := "java/util/ArrayList", name := "iterator", desc := "()Ljava/util/Iterator;" } : Jvm.MethodName) jdk_38_method_55_code (1 : Nat) (Option.some (Jvm.ClassFile.FieldType.object "java/util/Iterator")), Jvm.Cond.code ({ cls := "java/util/ArrayList$Itr", name := "<init>", desc := "(Ljava/util/ArrayList;)V" } : Jvm.MethodName) jdk_49_method_1_code (2 : Nat) (Option.none : Option Jvm.ClassFile.FieldType), Jvm.Cond.code ({ cls := "java/util/ArrayList$Itr", name := "hasNext", desc := "()Z" } : Jvm.MethodName) jdk_49_method_2_code (1 : Nat) (Option.some Jvm.ClassFile.FieldType.boolean), Jvm.Cond.code ({ cls := "java/util/ArrayList$Itr", name := "next", desc := "()Ljava/lang/Object;" } : Jvm.MethodName) jdk_49_method_3_code (3 : Nat) (Option.some (Jvm.ClassFile.FieldType.object "java/lang/Object")), Jvm.Cond.code ({ cls := "java/util/ArrayList$Itr", name := "checkForComodification", desc := "()V" } : Jvm.MethodName) jdk_49_method_6_code (1 : Nat) (Option.none : Option Jvm.ClassFile.FieldType), Jvm.Cond.code ({ cls := "com/example/roomwire/roomwire/qunar/XmlElementAddPinLaw", name := "childAt", desc := "(Ljava/lang/String;IC)Z" } : Jvm.MethodName) method_2_code (3 : Nat) (Option.some Jvm.ClassFile.FieldType.boolean), Jvm.Cond.code ({ cls := "java/lang/AbstractStringBuilder", name := "newCapacity", desc := "(I)I" } : Jvm.MethodName) jdk_68_method_10_code (6 : Nat) (Option.some Jvm.ClassFile.FieldType.int), Jvm.Cond.code ({ cls := "jdk/internal/util/ArraysSupport", name := "newLength", desc := "(III)I" } : Jvm.MethodName) jdk_48_method_27_code (4 : Nat) (Option.some Jvm.ClassFile.FieldType.int), Jvm.Cond.code ({ cls := "java/util/Arrays", name := "copyOf", desc := "([BI)[B" } : Jvm.MethodName) jdk_65_method_121_code (3 : Nat) (Option.some (Jvm.ClassFile.FieldType.array Jvm.ClassFile.FieldType.byte))]
set_option maxRecDepth 65536 in
theorem codes_eq : words1.filter isCode = codes1 := rfl
theorem w_codes : ∀ c ∈ words1.filter isCode, c.before args0 about1 = true := by
  rw [codes_eq]
  intro c hc
  simp only [codes1, List.mem_cons, List.not_mem_nil, or_false] at hc
  rcases hc with rfl | rfl | rfl | rfl | rfl | rfl | rfl | rfl | rfl | rfl | rfl | rfl | rfl | rfl | rfl | rfl | rfl | rfl | rfl | rfl | rfl | rfl | rfl | rfl | rfl | rfl | rfl | rfl | rfl | rfl | rfl | rfl | rfl | rfl | rfl | rfl | rfl | rfl | rfl | rfl | rfl | rfl | rfl | rfl | rfl | rfl | rfl | rfl | rfl | rfl | rfl | rfl | rfl | rfl | rfl | rfl | rfl | rfl | rfl | rfl | rfl | rfl | rfl | rfl | rfl
  · exact w_c0
  · exact w_c1
  · exact w_c2
  · exact w_c3
  · exact w_c4
  · exact w_c5
  · exact w_c6
  · exact w_c7
  · exact w_c8
  · exact w_c9
  · exact w_c10
  · exact w_c11
  · exact w_c12
  · exact w_c13
  · exact w_c14
  · exact w_c15
  · exact w_c16
  · exact w_c17
  · exact w_c18
  · exact w_c19
  · exact w_c20
  · exact w_c21
  · exact w_c22
  · exact w_c23
  · exact w_c24
  · exact w_c25
  · exact w_c26
  · exact w_c27
  · exact w_c28
  · exact w_c29
  · exact w_c30
  · exact w_c31
  · exact w_c32
  · exact w_c33
  · exact w_c34
  · exact w_c35
  · exact w_c36
  · exact w_c37
  · exact w_c38
  · exact w_c39
  · exact w_c40
  · exact w_c41
  · exact w_c42
  · exact w_c43
  · exact w_c44
  · exact w_c45
  · exact w_c46
  · exact w_c47
  · exact w_c48
  · exact w_c49
  · exact w_c50
  · exact w_c51
  · exact w_c52
  · exact w_c53
  · exact w_c54
  · exact w_c55
  · exact w_c56
  · exact w_c57
  · exact w_c58
  · exact w_c59
  · exact w_c60
  · exact w_c61
  · exact w_c62
  · exact w_c63
  · exact w_c64
set_option maxRecDepth 65536 in
theorem w_t1 : (words1.take 24).all (fun c => isCode c || c.before args0 about1) = true := by decide +kernel
set_option maxRecDepth 65536 in
theorem w_t2 : ((words1.drop 24).take 24).all (fun c => isCode c || c.before args0 about1) = true := by decide +kernel
set_option maxRecDepth 65536 in
theorem w_t3 : (((words1.drop 24).drop 24).take 24).all (fun c => isCode c || c.before args0 about1) = true := by decide +kernel
set_option maxRecDepth 65536 in
theorem w_t4 : ((((words1.drop 24).drop 24).drop 24).take 24).all (fun c => isCode c || c.before args0 about1) = true := by decide +kernel
set_option maxRecDepth 65536 in
theorem w_t5 : (((((words1.drop 24).drop 24).drop 24).drop 24).take 24).all (fun c => isCode c || c.before args0 about1) = true := by decide +kernel
set_option maxRecDepth 65536 in
theorem w_t6 : ((((((words1.drop 24).drop 24).drop 24).drop 24).drop 24).take 24).all (fun c => isCode c || c.before args0 about1) = true := by decide +kernel
set_option maxRecDepth 65536 in
theorem w_t7 : (((((((words1.drop 24).drop 24).drop 24).drop 24).drop 24).drop 24).take 24).all (fun c => isCode c || c.before args0 about1) = true := by decide +kernel
set_option maxRecDepth 65536 in
theorem w_t8 : ((((((((words1.drop 24).drop 24).drop 24).drop 24).drop 24).drop 24).drop 24).take 24).all (fun c => isCode c || c.before args0 about1) = true := by decide +kernel
set_option maxRecDepth 65536 in
theorem w_t9 : (((((((((words1.drop 24).drop 24).drop 24).drop 24).drop 24).drop 24).drop 24).drop 24).take 24).all (fun c => isCode c || c.before args0 about1) = true := by decide +kernel
set_option maxRecDepth 65536 in
theorem w_t10 : ((((((((((words1.drop 24).drop 24).drop 24).drop 24).drop 24).drop 24).drop 24).drop 24).drop 24).take 24).all (fun c => isCode c || c.before args0 about1) = true := by decide +kernel
set_option maxRecDepth 65536 in
theorem w_t11 : (((((((((((words1.drop 24).drop 24).drop 24).drop 24).drop 24).drop 24).drop 24).drop 24).drop 24).drop 24).take 24).all (fun c => isCode c || c.before args0 about1) = true := by decide +kernel
set_option maxRecDepth 65536 in
theorem w_t12 : ((((((((((((words1.drop 24).drop 24).drop 24).drop 24).drop 24).drop 24).drop 24).drop 24).drop 24).drop 24).drop 24).take 24).all (fun c => isCode c || c.before args0 about1) = true := by decide +kernel
set_option maxRecDepth 65536 in
theorem w_t13 : (((((((((((((words1.drop 24).drop 24).drop 24).drop 24).drop 24).drop 24).drop 24).drop 24).drop 24).drop 24).drop 24).drop 24).take 24).all (fun c => isCode c || c.before args0 about1) = true := by decide +kernel
set_option maxRecDepth 65536 in
theorem w_t14 : ((((((((((((((words1.drop 24).drop 24).drop 24).drop 24).drop 24).drop 24).drop 24).drop 24).drop 24).drop 24).drop 24).drop 24).drop 24).take 24).all (fun c => isCode c || c.before args0 about1) = true := by decide +kernel
set_option maxRecDepth 65536 in
theorem w_t15 : (((((((((((((((words1.drop 24).drop 24).drop 24).drop 24).drop 24).drop 24).drop 24).drop 24).drop 24).drop 24).drop 24).drop 24).drop 24).drop 24).take 24).all (fun c => isCode c || c.before args0 about1) = true := by decide +kernel
set_option maxRecDepth 65536 in
theorem w_t16 : ((((((((((((((((words1.drop 24).drop 24).drop 24).drop 24).drop 24).drop 24).drop 24).drop 24).drop 24).drop 24).drop 24).drop 24).drop 24).drop 24).drop 24).take 24).all (fun c => isCode c || c.before args0 about1) = true := by decide +kernel
set_option maxRecDepth 65536 in
theorem w_t17 : ((((((((((((((((words1.drop 24).drop 24).drop 24).drop 24).drop 24).drop 24).drop 24).drop 24).drop 24).drop 24).drop 24).drop 24).drop 24).drop 24).drop 24).drop 24).all (fun c => isCode c || c.before args0 about1) = true := by decide +kernel
theorem w_tables : (allAtoms (Jvm.Cond.code x code maxLocals ret :: tables_1)).before args0 about1 = true := by
  rw [allAtoms_all]
  show words1.all (fun c => c.before args0 about1) = true
  refine all_split ?_ w_codes
  rw [← List.take_append_drop 24 words1, List.all_append, w_t1, ← List.take_append_drop 24 (words1.drop 24), List.all_append, w_t2, ← List.take_append_drop 24 ((words1.drop 24).drop 24), List.all_append, w_t3, ← List.take_append_drop 24 (((words1.drop 24).drop 24).drop 24), List.all_append, w_t4, ← List.take_append_drop 24 ((((words1.drop 24).drop 24).drop 24).drop 24), List.all_append, w_t5, ← List.take_append_drop 24 (((((words1.drop 24).drop 24).drop 24).drop 24).drop 24), List.all_append, w_t6, ← List.take_append_drop 24 ((((((words1.drop 24).drop 24).drop 24).drop 24).drop 24).drop 24), List.all_append, w_t7, ← List.take_append_drop 24 (((((((words1.drop 24).drop 24).drop 24).drop 24).drop 24).drop 24).drop 24), List.all_append, w_t8, ← List.take_append_drop 24 ((((((((words1.drop 24).drop 24).drop 24).drop 24).drop 24).drop 24).drop 24).drop 24), List.all_append, w_t9, ← List.take_append_drop 24 (((((((((words1.drop 24).drop 24).drop 24).drop 24).drop 24).drop 24).drop 24).drop 24).drop 24), List.all_append, w_t10, ← List.take_append_drop 24 ((((((((((words1.drop 24).drop 24).drop 24).drop 24).drop 24).drop 24).drop 24).drop 24).drop 24).drop 24), List.all_append, w_t11, ← List.take_append_drop 24 (((((((((((words1.drop 24).drop 24).drop 24).drop 24).drop 24).drop 24).drop 24).drop 24).drop 24).drop 24).drop 24), List.all_append, w_t12, ← List.take_append_drop 24 ((((((((((((words1.drop 24).drop 24).drop 24).drop 24).drop 24).drop 24).drop 24).drop 24).drop 24).drop 24).drop 24).drop 24), List.all_append, w_t13, ← List.take_append_drop 24 (((((((((((((words1.drop 24).drop 24).drop 24).drop 24).drop 24).drop 24).drop 24).drop 24).drop 24).drop 24).drop 24).drop 24).drop 24), List.all_append, w_t14, ← List.take_append_drop 24 ((((((((((((((words1.drop 24).drop 24).drop 24).drop 24).drop 24).drop 24).drop 24).drop 24).drop 24).drop 24).drop 24).drop 24).drop 24).drop 24), List.all_append, w_t15, ← List.take_append_drop 24 (((((((((((((((words1.drop 24).drop 24).drop 24).drop 24).drop 24).drop 24).drop 24).drop 24).drop 24).drop 24).drop 24).drop 24).drop 24).drop 24).drop 24), List.all_append, w_t16, w_t17]
  rfl
set_option maxRecDepth 65536 in
theorem w_rest : rest_1_c.before args0 about1 = true := by decide +kernel
set_option maxRecDepth 65536 in
theorem w_case : (Jvm.Cond.and given_1 narrow_1).before args0 about1 = true := by decide +kernel
set_option maxRecDepth 65536 in
theorem w_consts : constsHeld consts_1 about1 := Jvm.Lit.constsHeldB_iff.mp (by decide +kernel)
theorem w_applies : (headSpec (Jvm.Cond.code x code maxLocals ret :: tables_1) room_1).applies x e0.platform about1 = true :=
  (Spec.applies_iff w_frames).mpr ⟨w_running, w_runnable, w_alone, w_named, w_hears, w_ripe, w_room, w_tables⟩
theorem atStart : AtStart classFile x code maxLocals ret World_1 tables_1 room_1 Calls_1 rest_1 Pre_1 launch0 p0 e0 about1 theMethod args0 below0 :=
  ⟨lists_1, trivial, launch0.admits_env _ _ _, launch0.least_env, fairChoices_fair.cas, fairChoices_fair.clock, w_frames, w_args, w_heap, w_applies, ⟨w_consts, trivial⟩, w_rest, w_case⟩
end start1
theorem witness_1 : WitnessClaimed_1 := ⟨start1.p0, start1.e0, start1.about1, start1.theMethod, start1.args0, start1.below0, start1.atStart⟩
end Jvm.Pilot.@@N@@
