import JvmDerived
import JvmDerived.Pilot.@@N@@Statement
import JvmDerived.Pilot.@@N@@Code
set_option linter.unusedVariables false
set_option linter.unusedSimpArgs false

namespace Jvm.OwnW
open Sem ClassFile Op Lib Jvm.Stand Jvm.Free Jvm.LawKit Jvm.RoadKit
theorem own_notFace {s : State} {args : Array Value} {C7 : String} {x7 z7 y : MethodName} (w : (Cond.selects C7 x7 z7).before args s = true) (hc : z7.cls = y.cls) : NotFace s y := fun r0 h0 => by
  obtain ⟨c, r, m, q1, q2, q3, q4, mk, q5, q6⟩ := Cond.selects_spec w
  have e1 := findClass_of_methodNamed q3
  have e2 := findClass_of_methodNamed h0
  rw [hc] at e1
  have e3 : m.cls = r0.cls := Option.some.inj (e1.symm.trans e2)
  exact ⟨mk, e3 ▸ q5, q6⟩
/-- a method: its name, bytes, number of variables, return type, room -/
abbrev MD := MethodName × ByteArray × Nat × Option FieldType × Room
/-- what a wide walk knows besides: the String constants that it reads, and addresses that are no such String's -/
abbrev PX := List (String × Nat) × (Addr → Prop)
abbrev PX.grow (P : PX) (h h' : Heap) : PX := (P.1, fun x => P.2 x ∨ (h.size ≤ x ∧ x < h'.size))
/-- x is none of the constants' cells -/
def Sf (Z : State) (P : PX) (h : Heap) (x : Addr) : Prop := P.2 x ∨ ∀ vm, Z.vm.Alike vm → Safe Z P.1 vm h x
/-- the state over which the walk stands: the start itself, or (wide) the start with later tables -/
def KB (wd : Bool) (Z : State) (P : PX) (s s' : State) (h : Heap) : Prop :=
  (wd = false ∧ s' = s) ∨ (wd = true ∧ ∃ vm0 k0, s' = s.setVm vm0 ∧ s.Since vm0 k0 ∧ k0 ≤ h.size ∧ CHr Z P.1 s.vm s.heap vm0 h ∧ ∀ x, P.2 x → Safe Z P.1 vm0 h x ∧ x < h.size)
theorem KB.keep {wd : Bool} {Z : State} {P : PX} {s s' : State} {h h' : Heap} {ws : List Addr} (B : KB wd Z P s s' h) (hZ : Z.Warmed39 s'.vm) (K : Keep h h' ws) (q : wd = true → ∀ x ∈ ws, Sf Z P h x) : KB wd Z (P.grow h h') s s' h' := by
  rcases B with ⟨a, b⟩ | ⟨a, vm0, k0, rfl, c, d, e, f⟩
  · exact Or.inl ⟨a, b⟩
  · have hs : ∀ x ∈ ws, Safe Z P.1 vm0 h x := fun x hx => (q a x hx).elim (fun r => (f x r).1) (fun r => r vm0 hZ.alike)
    refine Or.inr ⟨a, vm0, k0, rfl, c, Nat.le_trans d K.1, e.trans (CHr.keep K hs e.1), fun x hx => ?_⟩
    rcases hx with hx | ⟨hx, hx'⟩
    · exact ⟨Safe.keep K hs e.1 (f x hx).1, Nat.lt_of_lt_of_le (f x hx).2 K.1⟩
    · exact ⟨Safe.keep K hs e.1 (Safe.new hx), hx'⟩
theorem KB.ext {wd : Bool} {Z : State} {P : PX} {s s' : State} {h h' : Heap} (B : KB wd Z P s s' h) (E : Ext h h') : KB wd Z (P.grow h h') s s' h' := by
  rcases B with ⟨a, b⟩ | ⟨a, vm0, k0, rfl, c, d, e, f⟩
  · exact Or.inl ⟨a, b⟩
  · refine Or.inr ⟨a, vm0, k0, rfl, c, Nat.le_trans d E.1, e.trans (CHr.ext E e.1), fun x hx => ?_⟩
    rcases hx with hx | ⟨hx, hx'⟩
    · exact ⟨Safe.ext E e.1 (f x hx).1, Nat.lt_of_lt_of_le (f x hx).2 E.1⟩
    · exact ⟨Safe.ext E e.1 (Safe.new hx), hx'⟩
theorem KB.wr {wd : Bool} {Z : State} {P : PX} {s s' : State} {h h' : Heap} {a : Addr} {sl : Nat} {v : Value} (B : KB wd Z P s s' h) (hZ : Z.Warmed39 s'.vm) (W : Wr h h' a sl v) (q : wd = true → Sf Z P h a) : KB wd Z P s s' h' := by
  rcases B with ⟨a, b⟩ | ⟨a, vm0, k0, rfl, c, d, e, f⟩
  · exact Or.inl ⟨a, b⟩
  · have hs : Safe Z P.1 vm0 h _ := (q a).elim (fun r => (f _ r).1) (fun r => r vm0 hZ.alike)
    exact Or.inr ⟨a, vm0, k0, rfl, c, by rw [W.size]; exact d, e.trans (CHr.wr W hs e.1), fun x hx => ⟨Safe.wr W hs e.1 (f x hx).1, by rw [W.size]; exact (f x hx).2⟩⟩
theorem KB.sub {wd : Bool} {Z : State} {P : PX} {S' : Addr → Prop} {s s' : State} {h : Heap} (B : KB wd Z P s s' h) (q : ∀ x, S' x → P.2 x) : KB wd Z (P.1, S') s s' h :=
  B.imp id fun ⟨a, vm0, k0, b, c, d, e, f⟩ => ⟨a, vm0, k0, b, c, d, e, fun x hx => f x (q x hx)⟩
def KE (wd : Bool) (Z s : State) (v : Option Value) (t : State) (L : List Loc) (EL : List (String × Nat)) (k n : Nat) : Prop :=
  (wd = false ∧ FrameEnd s (.returned v) t L k n) ∨ (wd = true ∧ CHr Z EL s.vm s.heap t.vm t.heap ∧ ReturnedEndW s (.returned v) t L k n)
/-- the walk's judgement: from here the method returns, and what it leaves meets Q -/
def KW (wd : Bool) (l : Launch) (Z : State) (M : MD) (n0 : Nat) (Q : Option Value → Heap → Prop) (P : PX) (h : Heap) (k n : Nat) (pc : Nat) (Ls : Array Slot) (st : List Value) : Prop :=
  ∀ (p : Program) (e : Env) (s s' : State) (m : MethodId) (args : Array Value) (below : List Frame) (meth : Method) (c : Code),
    p.tables.exec = Jvm.exec → c.code = M.2.1 → c.maxLocals = M.2.2.1 → s'.vm.findClass M.1.cls = some m.cls → meth.name = M.1.name → meth.sig.returnType = M.2.2.2.1 → meth.locks = false → Z.Warmed39 s'.vm → KB wd Z P s s' h → (wd = true → ∃ a0, EW Z a0 P.1) →
    ∀ (T : State) (locs : List Loc), Stand p l e M.2.2.2.2 s' m args below meth c T locs k n → Fr n0 locs → T.heap = h →
    ∃ t v L, Steps p.tables e below (T.setTop (mkF m pc Ls st)) t ∧ t.status = .running ∧ Ended t below (.returned v) ∧ Fr n0 L ∧ Q v t.heap ∧ KE wd Z s v t L P.1 M.2.2.2.2.cells M.2.2.2.2.slots
section
variable {wd : Bool} {l : Launch} {Z : State} {M : MD} {n0 : Nat} {Q : Option Value → Heap → Prop} {P : PX} {h : Heap} {k n pc pc' : Nat} {Ls Ls' : Array Slot} {st st' rest : List Value} {a0 : Array Value}
theorem KW.step (W : KW wd l Z M n0 Q P h k n pc' Ls' st') (f : ∀ (p : Program) (e : Env) (s' T : State) (m : MethodId) (args : Array Value) (below : List Frame) (meth : Method) (c : Code) (locs : List Loc), p.tables.exec = Jvm.exec → c.code = M.2.1 → s'.vm.findClass M.1.cls = some m.cls → Z.Warmed39 s'.vm → Stand p l e M.2.2.2.2 s' m args below meth c T locs k n →
    ∀ target, Steps p.tables e below (T.setTop (mkF m pc' Ls' st')) target → Steps p.tables e below (T.setTop (mkF m pc Ls st)) target) : KW wd l Z M n0 Q P h k n pc Ls st := by
  intro p e s s' m args below meth c hx hby hml hown hnm hret hlk hZ hB hI T locs X N eT
  obtain ⟨t, v, L, r, rr⟩ := W p e s s' m args below meth c hx hby hml hown hnm hret hlk hZ hB hI T locs X N eT
  exact ⟨t, v, L, f p e s' T m args below meth c locs hx hby hown hZ X t r, rr⟩
theorem KW.move (W : KW wd l Z M n0 Q P h k n pc' Ls' st') (f : ∀ (p : Program) (e : Env) (s' T : State) (m : MethodId) (args : Array Value) (below : List Frame) (meth : Method) (c : Code) (locs : List Loc), p.tables.exec = Jvm.exec → c.code = M.2.1 → c.maxLocals = M.2.2.1 → s'.vm.findClass M.1.cls = some m.cls → Z.Warmed39 s'.vm → Stand p l e M.2.2.2.2 s' m args below meth c T locs k n → T.heap = h →
    ∃ T', Stand p l e M.2.2.2.2 s' m args below meth c T' locs k n ∧ T'.heap = h ∧ ∀ target, Steps p.tables e below (T'.setTop (mkF m pc' Ls' st')) target → Steps p.tables e below (T.setTop (mkF m pc Ls st)) target) : KW wd l Z M n0 Q P h k n pc Ls st := by
  intro p e s s' m args below meth c hx hby hml hown hnm hret hlk hZ hB hI T locs X N eT
  obtain ⟨T', X', eT', st⟩ := f p e s' T m args below meth c locs hx hby hml hown hZ X eT
  obtain ⟨t, v, L, r, rr⟩ := W p e s s' m args below meth c hx hby hml hown hnm hret hlk hZ hB hI T' locs X' N eT'
  exact ⟨t, v, L, st t r, rr⟩
theorem k_aloadN {i : Fin 4} {v : Value} (hd : decode M.2.1 pc = .ok (.aload_n i, 1)) (hp : pc + 1 = pc') (hl : Ls[i.val]? = some (.val v)) (hv : v.isRef = true) (W : KW wd l Z M n0 Q P h k n pc' Ls (v :: st)) : KW wd l Z M n0 Q P h k n pc Ls st := by
  subst hp; exact W.step fun p e s' T m args below meth c locs hx hby hown hZ X target r => XS.aloadN X.here hx rfl (hb hby hd) hl hv r
theorem k_aload {i : Nat} {v : Value} (hd : decode M.2.1 pc = .ok (.aload i, 2)) (hp : pc + 2 = pc') (hl : Ls[i]? = some (.val v)) (hv : v.isRef = true) (W : KW wd l Z M n0 Q P h k n pc' Ls (v :: st)) : KW wd l Z M n0 Q P h k n pc Ls st := by
  subst hp; exact W.step fun p e s' T m args below meth c locs hx hby hown hZ X target r => XS.aload X.here hx rfl (hb hby hd) hl hv r
theorem k_iloadN {i : Fin 4} {v : Int32} (hd : decode M.2.1 pc = .ok (.iload_n i, 1)) (hp : pc + 1 = pc') (hl : Ls[i.val]? = some (.val (.int v))) (W : KW wd l Z M n0 Q P h k n pc' Ls (.int v :: st)) : KW wd l Z M n0 Q P h k n pc Ls st := by
  subst hp; exact W.step fun p e s' T m args below meth c locs hx hby hown hZ X target r => XS.iloadN X.here hx rfl (hb hby hd) hl r
theorem k_iload {i : Nat} {v : Int32} (hd : decode M.2.1 pc = .ok (.iload i, 2)) (hp : pc + 2 = pc') (hl : Ls[i]? = some (.val (.int v))) (W : KW wd l Z M n0 Q P h k n pc' Ls (.int v :: st)) : KW wd l Z M n0 Q P h k n pc Ls st := by
  subst hp; exact W.step fun p e s' T m args below meth c locs hx hby hown hZ X target r => XS.iload X.here hx rfl (hb hby hd) hl r
theorem k_lloadN {i : Fin 4} {v : Int64} (hd : decode M.2.1 pc = .ok (.lload_n i, 1)) (hp : pc + 1 = pc') (hl : Ls[i.val]? = some (.val (.long v))) (W : KW wd l Z M n0 Q P h k n pc' Ls (.long v :: st)) : KW wd l Z M n0 Q P h k n pc Ls st := by
  subst hp; exact W.step fun p e s' T m args below meth c locs hx hby hown hZ X target r => XS.lloadN X.here hx rfl (hb hby hd) hl r
theorem k_lload {i : Nat} {v : Int64} (hd : decode M.2.1 pc = .ok (.lload i, 2)) (hp : pc + 2 = pc') (hl : Ls[i]? = some (.val (.long v))) (W : KW wd l Z M n0 Q P h k n pc' Ls (.long v :: st)) : KW wd l Z M n0 Q P h k n pc Ls st := by
  subst hp; exact W.step fun p e s' T m args below meth c locs hx hby hown hZ X target r => XS.lload X.here hx rfl (hb hby hd) hl r
theorem k_istoreN {i : Fin 4} {x : Int32} (hd : decode M.2.1 pc = .ok (.istore_n i, 1)) (hp : pc + 1 = pc') (hl : storeLocals Ls i.val (.int x) = some Ls') (W : KW wd l Z M n0 Q P h k n pc' Ls' st) : KW wd l Z M n0 Q P h k n pc Ls (.int x :: st) := by
  subst hp; exact W.step fun p e s' T m args below meth c locs hx hby hown hZ X target r => XS.istoreN X.here hx rfl (hb hby hd) rfl hl r
theorem k_istore {i : Nat} {x : Int32} (hd : decode M.2.1 pc = .ok (.istore i, 2)) (hp : pc + 2 = pc') (hl : storeLocals Ls i (.int x) = some Ls') (W : KW wd l Z M n0 Q P h k n pc' Ls' st) : KW wd l Z M n0 Q P h k n pc Ls (.int x :: st) := by
  subst hp; exact W.step fun p e s' T m args below meth c locs hx hby hown hZ X target r => XS.istore X.here hx rfl (hb hby hd) rfl hl r
theorem k_lstoreN {i : Fin 4} {x : Int64} (hd : decode M.2.1 pc = .ok (.lstore_n i, 1)) (hp : pc + 1 = pc') (hl : storeLocals Ls i.val (.long x) = some Ls') (W : KW wd l Z M n0 Q P h k n pc' Ls' st) : KW wd l Z M n0 Q P h k n pc Ls (.long x :: st) := by
  subst hp; exact W.step fun p e s' T m args below meth c locs hx hby hown hZ X target r => XS.lstoreN X.here hx rfl (hb hby hd) rfl hl r
theorem k_lstore {i : Nat} {x : Int64} (hd : decode M.2.1 pc = .ok (.lstore i, 2)) (hp : pc + 2 = pc') (hl : storeLocals Ls i (.long x) = some Ls') (W : KW wd l Z M n0 Q P h k n pc' Ls' st) : KW wd l Z M n0 Q P h k n pc Ls (.long x :: st) := by
  subst hp; exact W.step fun p e s' T m args below meth c locs hx hby hown hZ X target r => XS.lstore X.here hx rfl (hb hby hd) rfl hl r
theorem k_astoreN {i : Fin 4} {x : Value} (hd : decode M.2.1 pc = .ok (.astore_n i, 1)) (hp : pc + 1 = pc') (hv : x.isRef = true) (hl : storeLocals Ls i.val x = some Ls') (W : KW wd l Z M n0 Q P h k n pc' Ls' st) : KW wd l Z M n0 Q P h k n pc Ls (x :: st) := by
  subst hp; exact W.step fun p e s' T m args below meth c locs hx hby hown hZ X target r => XS.astoreN X.here hx rfl (hb hby hd) rfl hv hl r
theorem k_astore {i : Nat} {x : Value} (hd : decode M.2.1 pc = .ok (.astore i, 2)) (hp : pc + 2 = pc') (hv : x.isRef = true) (hl : storeLocals Ls i x = some Ls') (W : KW wd l Z M n0 Q P h k n pc' Ls' st) : KW wd l Z M n0 Q P h k n pc Ls (x :: st) := by
  subst hp; exact W.step fun p e s' T m args below meth c locs hx hby hown hZ X target r => XS.astore X.here hx rfl (hb hby hd) rfl hv hl r
theorem k_iconst {i : Int} {z : Int32} (hd : decode M.2.1 pc = .ok (.iconst i, 1)) (hp : pc + 1 = pc') (hz : Int32.ofInt i = z) (W : KW wd l Z M n0 Q P h k n pc' Ls (.int z :: st)) : KW wd l Z M n0 Q P h k n pc Ls st := by
  subst hp; exact W.step fun p e s' T m args below meth c locs hx hby hown hZ X target r => XS.iconst X.here hx rfl (hb hby hd) (by rw [hz]; exact r)
theorem k_bipush {i : Int} {z : Int32} (hd : decode M.2.1 pc = .ok (.bipush i, 2)) (hp : pc + 2 = pc') (hz : (Int8.ofInt i).toInt32 = z) (W : KW wd l Z M n0 Q P h k n pc' Ls (.int z :: st)) : KW wd l Z M n0 Q P h k n pc Ls st := by
  subst hp; exact W.step fun p e s' T m args below meth c locs hx hby hown hZ X target r => XS.bipush X.here hx rfl (hb hby hd) (by rw [hz]; exact r)
theorem k_sipush {i : Int} {z : Int32} (hd : decode M.2.1 pc = .ok (.sipush i, 3)) (hp : pc + 3 = pc') (hz : (Int16.ofInt i).toInt32 = z) (W : KW wd l Z M n0 Q P h k n pc' Ls (.int z :: st)) : KW wd l Z M n0 Q P h k n pc Ls st := by
  subst hp; exact W.step fun p e s' T m args below meth c locs hx hby hown hZ X target r => XS.sipush X.here hx rfl (hb hby hd) (by rw [hz]; exact r)
theorem k_lconst {i : Fin 2} {z : Int64} (hd : decode M.2.1 pc = .ok (.lconst i, 1)) (hp : pc + 1 = pc') (hz : Int64.ofNat i = z) (W : KW wd l Z M n0 Q P h k n pc' Ls (.long z :: st)) : KW wd l Z M n0 Q P h k n pc Ls st := by
  subst hp; exact W.step fun p e s' T m args below meth c locs hx hby hown hZ X target r => XS.lconst X.here hx rfl (hb hby hd) (by rw [hz]; exact r)
theorem k_aconstNull (hd : decode M.2.1 pc = .ok (.aconst_null, 1)) (hp : pc + 1 = pc') (W : KW wd l Z M n0 Q P h k n pc' Ls (.null :: st)) : KW wd l Z M n0 Q P h k n pc Ls st := by
  subst hp; exact W.step fun p e s' T m args below meth c locs hx hby hown hZ X target r => XS.aconstNull X.here hx rfl (hb hby hd) r
theorem k_iadd {x y : Int32} (hd : decode M.2.1 pc = .ok (.iadd, 1)) (hp : pc + 1 = pc') (W : KW wd l Z M n0 Q P h k n pc' Ls (.int (x + y) :: st)) : KW wd l Z M n0 Q P h k n pc Ls (.int y :: .int x :: st) := by
  subst hp; exact W.step fun p e s' T m args below meth c locs hx hby hown hZ X target r => XS.iadd X.here hx rfl (hb hby hd) rfl r
theorem k_isub {x y : Int32} (hd : decode M.2.1 pc = .ok (.isub, 1)) (hp : pc + 1 = pc') (W : KW wd l Z M n0 Q P h k n pc' Ls (.int (x - y) :: st)) : KW wd l Z M n0 Q P h k n pc Ls (.int y :: .int x :: st) := by
  subst hp; exact W.step fun p e s' T m args below meth c locs hx hby hown hZ X target r => XS.isub X.here hx rfl (hb hby hd) rfl r
theorem k_iand {x y : Int32} (hd : decode M.2.1 pc = .ok (.iand, 1)) (hp : pc + 1 = pc') (W : KW wd l Z M n0 Q P h k n pc' Ls (.int (x &&& y) :: st)) : KW wd l Z M n0 Q P h k n pc Ls (.int y :: .int x :: st) := by
  subst hp; exact W.step fun p e s' T m args below meth c locs hx hby hown hZ X target r => XS.iand X.here hx rfl (hb hby hd) rfl r
theorem k_imul {x y : Int32} (hd : decode M.2.1 pc = .ok (.imul, 1)) (hp : pc + 1 = pc') (W : KW wd l Z M n0 Q P h k n pc' Ls (.int (x * y) :: st)) : KW wd l Z M n0 Q P h k n pc Ls (.int y :: .int x :: st) := by
  subst hp; exact W.step fun p e s' T m args below meth c locs hx hby hown hZ X target r => XS.imul X.here hx rfl (hb hby hd) rfl r
theorem k_ixor {x y : Int32} (hd : decode M.2.1 pc = .ok (.ixor, 1)) (hp : pc + 1 = pc') (W : KW wd l Z M n0 Q P h k n pc' Ls (.int (x ^^^ y) :: st)) : KW wd l Z M n0 Q P h k n pc Ls (.int y :: .int x :: st) := by
  subst hp; exact W.step fun p e s' T m args below meth c locs hx hby hown hZ X target r => XS.ixor X.here hx rfl (hb hby hd) rfl r
theorem k_ior {x y : Int32} (hd : decode M.2.1 pc = .ok (.ior, 1)) (hp : pc + 1 = pc') (W : KW wd l Z M n0 Q P h k n pc' Ls (.int (x ||| y) :: st)) : KW wd l Z M n0 Q P h k n pc Ls (.int y :: .int x :: st) := by
  subst hp; exact W.step fun p e s' T m args below meth c locs hx hby hown hZ X target r => XS.ior X.here hx rfl (hb hby hd) rfl r
theorem k_ishl {x y : Int32} (hd : decode M.2.1 pc = .ok (.ishl, 1)) (hp : pc + 1 = pc') (W : KW wd l Z M n0 Q P h k n pc' Ls (.int (x <<< (y &&& 31)) :: st)) : KW wd l Z M n0 Q P h k n pc Ls (.int y :: .int x :: st) := by
  subst hp; exact W.step fun p e s' T m args below meth c locs hx hby hown hZ X target r => XS.ishl X.here hx rfl (hb hby hd) rfl r
theorem k_ishr {x y : Int32} (hd : decode M.2.1 pc = .ok (.ishr, 1)) (hp : pc + 1 = pc') (W : KW wd l Z M n0 Q P h k n pc' Ls (.int (x >>> (y &&& 31)) :: st)) : KW wd l Z M n0 Q P h k n pc Ls (.int y :: .int x :: st) := by
  subst hp; exact W.step fun p e s' T m args below meth c locs hx hby hown hZ X target r => XS.ishr X.here hx rfl (hb hby hd) rfl r
theorem k_iushr {x y : Int32} (hd : decode M.2.1 pc = .ok (.iushr, 1)) (hp : pc + 1 = pc') (W : KW wd l Z M n0 Q P h k n pc' Ls (.int ((x.toUInt32 >>> (y &&& 31).toUInt32).toInt32) :: st)) : KW wd l Z M n0 Q P h k n pc Ls (.int y :: .int x :: st) := by
  subst hp; exact W.step fun p e s' T m args below meth c locs hx hby hown hZ X target r => XS.iushr X.here hx rfl (hb hby hd) rfl r
theorem k_idiv {x y : Int32} (hd : decode M.2.1 pc = .ok (.idiv, 1)) (hp : pc + 1 = pc') (hy : y ≠ 0) (W : KW wd l Z M n0 Q P h k n pc' Ls (.int (x / y) :: st)) : KW wd l Z M n0 Q P h k n pc Ls (.int y :: .int x :: st) := by
  subst hp; exact W.step fun p e s' T m args below meth c locs hx hby hown hZ X target r => XS.idiv X.here hx rfl (hb hby hd) rfl hy r
theorem k_irem {x y : Int32} (hd : decode M.2.1 pc = .ok (.irem, 1)) (hp : pc + 1 = pc') (hy : y ≠ 0) (W : KW wd l Z M n0 Q P h k n pc' Ls (.int (x % y) :: st)) : KW wd l Z M n0 Q P h k n pc Ls (.int y :: .int x :: st) := by
  subst hp; exact W.step fun p e s' T m args below meth c locs hx hby hown hZ X target r => iremM X hx rfl (hb hby hd) rfl hy r
theorem k_ineg {x : Int32} (hd : decode M.2.1 pc = .ok (.ineg, 1)) (hp : pc + 1 = pc') (W : KW wd l Z M n0 Q P h k n pc' Ls (.int (-x) :: st)) : KW wd l Z M n0 Q P h k n pc Ls (.int x :: st) := by
  subst hp; exact W.step fun p e s' T m args below meth c locs hx hby hown hZ X target r => XS.ineg X.here hx rfl (hb hby hd) rfl r
theorem k_ladd {x y : Int64} (hd : decode M.2.1 pc = .ok (.ladd, 1)) (hp : pc + 1 = pc') (W : KW wd l Z M n0 Q P h k n pc' Ls (.long (x + y) :: st)) : KW wd l Z M n0 Q P h k n pc Ls (.long y :: .long x :: st) := by
  subst hp; exact W.step fun p e s' T m args below meth c locs hx hby hown hZ X target r => XS.ladd X.here hx rfl (hb hby hd) rfl r
theorem k_lsub {x y : Int64} (hd : decode M.2.1 pc = .ok (.lsub, 1)) (hp : pc + 1 = pc') (W : KW wd l Z M n0 Q P h k n pc' Ls (.long (x - y) :: st)) : KW wd l Z M n0 Q P h k n pc Ls (.long y :: .long x :: st) := by
  subst hp; exact W.step fun p e s' T m args below meth c locs hx hby hown hZ X target r => XS.lsub X.here hx rfl (hb hby hd) rfl r
theorem k_lmul {x y : Int64} (hd : decode M.2.1 pc = .ok (.lmul, 1)) (hp : pc + 1 = pc') (W : KW wd l Z M n0 Q P h k n pc' Ls (.long (x * y) :: st)) : KW wd l Z M n0 Q P h k n pc Ls (.long y :: .long x :: st) := by
  subst hp; exact W.step fun p e s' T m args below meth c locs hx hby hown hZ X target r => XS.lmul X.here hx rfl (hb hby hd) rfl r
theorem k_land {x y : Int64} (hd : decode M.2.1 pc = .ok (.land, 1)) (hp : pc + 1 = pc') (W : KW wd l Z M n0 Q P h k n pc' Ls (.long (x &&& y) :: st)) : KW wd l Z M n0 Q P h k n pc Ls (.long y :: .long x :: st) := by
  subst hp; exact W.step fun p e s' T m args below meth c locs hx hby hown hZ X target r => XS.land X.here hx rfl (hb hby hd) rfl r
theorem k_lor {x y : Int64} (hd : decode M.2.1 pc = .ok (.lor, 1)) (hp : pc + 1 = pc') (W : KW wd l Z M n0 Q P h k n pc' Ls (.long (x ||| y) :: st)) : KW wd l Z M n0 Q P h k n pc Ls (.long y :: .long x :: st) := by
  subst hp; exact W.step fun p e s' T m args below meth c locs hx hby hown hZ X target r => XS.lor X.here hx rfl (hb hby hd) rfl r
theorem k_lxor {x y : Int64} (hd : decode M.2.1 pc = .ok (.lxor, 1)) (hp : pc + 1 = pc') (W : KW wd l Z M n0 Q P h k n pc' Ls (.long (x ^^^ y) :: st)) : KW wd l Z M n0 Q P h k n pc Ls (.long y :: .long x :: st) := by
  subst hp; exact W.step fun p e s' T m args below meth c locs hx hby hown hZ X target r => XS.lxor X.here hx rfl (hb hby hd) rfl r
theorem k_ldiv {x y : Int64} (hd : decode M.2.1 pc = .ok (.ldiv, 1)) (hp : pc + 1 = pc') (hy : y ≠ 0) (W : KW wd l Z M n0 Q P h k n pc' Ls (.long (x / y) :: st)) : KW wd l Z M n0 Q P h k n pc Ls (.long y :: .long x :: st) := by
  subst hp; exact W.step fun p e s' T m args below meth c locs hx hby hown hZ X target r => XS.ldiv X.here hx rfl (hb hby hd) rfl hy r
theorem k_lrem {x y : Int64} (hd : decode M.2.1 pc = .ok (.lrem, 1)) (hp : pc + 1 = pc') (hy : y ≠ 0) (W : KW wd l Z M n0 Q P h k n pc' Ls (.long (x % y) :: st)) : KW wd l Z M n0 Q P h k n pc Ls (.long y :: .long x :: st) := by
  subst hp; exact W.step fun p e s' T m args below meth c locs hx hby hown hZ X target r => XS.lrem X.here hx rfl (hb hby hd) rfl hy (by rw [lrem_mod]; exact r)
theorem k_lshl {x : Int64} {y : Int32} (hd : decode M.2.1 pc = .ok (.lshl, 1)) (hp : pc + 1 = pc') (W : KW wd l Z M n0 Q P h k n pc' Ls (.long (x <<< (y &&& 63).toInt64) :: st)) : KW wd l Z M n0 Q P h k n pc Ls (.int y :: .long x :: st) := by
  subst hp; exact W.step fun p e s' T m args below meth c locs hx hby hown hZ X target r => XS.lshl X.here hx rfl (hb hby hd) rfl r
theorem k_lshr {x : Int64} {y : Int32} (hd : decode M.2.1 pc = .ok (.lshr, 1)) (hp : pc + 1 = pc') (W : KW wd l Z M n0 Q P h k n pc' Ls (.long (x >>> (y &&& 63).toInt64) :: st)) : KW wd l Z M n0 Q P h k n pc Ls (.int y :: .long x :: st) := by
  subst hp; exact W.step fun p e s' T m args below meth c locs hx hby hown hZ X target r => XS.lshr X.here hx rfl (hb hby hd) rfl r
theorem k_lushr {x : Int64} {y : Int32} (hd : decode M.2.1 pc = .ok (.lushr, 1)) (hp : pc + 1 = pc') (W : KW wd l Z M n0 Q P h k n pc' Ls (.long ((x.toUInt64 >>> (y &&& 63).toInt64.toUInt64).toInt64) :: st)) : KW wd l Z M n0 Q P h k n pc Ls (.int y :: .long x :: st) := by
  subst hp; exact W.step fun p e s' T m args below meth c locs hx hby hown hZ X target r => XS.lushr X.here hx rfl (hb hby hd) rfl r
theorem k_i2l {x : Int32} (hd : decode M.2.1 pc = .ok (.i2l, 1)) (hp : pc + 1 = pc') (W : KW wd l Z M n0 Q P h k n pc' Ls (.long (x.toInt64) :: st)) : KW wd l Z M n0 Q P h k n pc Ls (.int x :: st) := by
  subst hp; exact W.step fun p e s' T m args below meth c locs hx hby hown hZ X target r => XS.i2l X.here hx rfl (hb hby hd) rfl r
theorem k_i2b {x : Int32} (hd : decode M.2.1 pc = .ok (.i2b, 1)) (hp : pc + 1 = pc') (W : KW wd l Z M n0 Q P h k n pc' Ls (.int (x.toInt8.toInt32) :: st)) : KW wd l Z M n0 Q P h k n pc Ls (.int x :: st) := by
  subst hp; exact W.step fun p e s' T m args below meth c locs hx hby hown hZ X target r => XS.i2b X.here hx rfl (hb hby hd) rfl r
theorem k_i2c {x : Int32} (hd : decode M.2.1 pc = .ok (.i2c, 1)) (hp : pc + 1 = pc') (W : KW wd l Z M n0 Q P h k n pc' Ls (.int (x.toUInt32.toUInt16.toUInt32.toInt32) :: st)) : KW wd l Z M n0 Q P h k n pc Ls (.int x :: st) := by
  subst hp; exact W.step fun p e s' T m args below meth c locs hx hby hown hZ X target r => XS.i2c X.here hx rfl (hb hby hd) rfl r
theorem k_i2s {x : Int32} (hd : decode M.2.1 pc = .ok (.i2s, 1)) (hp : pc + 1 = pc') (W : KW wd l Z M n0 Q P h k n pc' Ls (.int (x.toInt16.toInt32) :: st)) : KW wd l Z M n0 Q P h k n pc Ls (.int x :: st) := by
  subst hp; exact W.step fun p e s' T m args below meth c locs hx hby hown hZ X target r => XS.i2s X.here hx rfl (hb hby hd) rfl r
theorem k_l2i {x : Int64} (hd : decode M.2.1 pc = .ok (.l2i, 1)) (hp : pc + 1 = pc') (W : KW wd l Z M n0 Q P h k n pc' Ls (.int (x.toInt32) :: st)) : KW wd l Z M n0 Q P h k n pc Ls (.long x :: st) := by
  subst hp; exact W.step fun p e s' T m args below meth c locs hx hby hown hZ X target r => XS.l2i X.here hx rfl (hb hby hd) rfl r
def cmpLV (x y : Int64) : Int32 := if y < x then 1 else if x = y then 0 else -1
theorem k_lcmp {x y : Int64} (hd : decode M.2.1 pc = .ok (.lcmp, 1)) (hp : pc + 1 = pc') (W : KW wd l Z M n0 Q P h k n pc' Ls (.int (cmpLV x y) :: st)) : KW wd l Z M n0 Q P h k n pc Ls (.long y :: .long x :: st) := by
  subst hp; exact W.step fun p e s' T m args below meth c locs hx hby hown hZ X target r => XS.lcmp X.here hx rfl (hb hby hd) rfl r
theorem k_dup {x : Value} (hd : decode M.2.1 pc = .ok (.dup, 1)) (hp : pc + 1 = pc') (hc : x.category = 1) (W : KW wd l Z M n0 Q P h k n pc' Ls (x :: x :: st)) : KW wd l Z M n0 Q P h k n pc Ls (x :: st) := by
  subst hp; exact W.step fun p e s' T m args below meth c locs hx hby hown hZ X target r => XS.dup X.here hx rfl (hb hby hd) rfl hc r
theorem k_pop {x : Value} (hd : decode M.2.1 pc = .ok (.pop, 1)) (hp : pc + 1 = pc') (hc : x.category = 1) (W : KW wd l Z M n0 Q P h k n pc' Ls st) : KW wd l Z M n0 Q P h k n pc Ls (x :: st) := by
  subst hp; exact W.step fun p e s' T m args below meth c locs hx hby hown hZ X target r => XS.pop X.here hx rfl (hb hby hd) rfl hc r
theorem k_dupX1 {x y : Value} (hd : decode M.2.1 pc = .ok (.dup_x1, 1)) (hp : pc + 1 = pc') (hc : x.category = 1) (hc' : y.category = 1) (W : KW wd l Z M n0 Q P h k n pc' Ls (x :: y :: x :: st)) : KW wd l Z M n0 Q P h k n pc Ls (x :: y :: st) := by
  subst hp; exact W.step fun p e s' T m args below meth c locs hx hby hown hZ X target r => XS.dupX1 X.here hx rfl (hb hby hd) rfl hc hc' r
theorem k_dup2 {x y : Value} (hd : decode M.2.1 pc = .ok (.dup2, 1)) (hp : pc + 1 = pc') (hc : x.category = 1) (hc' : y.category = 1) (W : KW wd l Z M n0 Q P h k n pc' Ls (x :: y :: x :: y :: st)) : KW wd l Z M n0 Q P h k n pc Ls (x :: y :: st) := by
  subst hp; exact W.step fun p e s' T m args below meth c locs hx hby hown hZ X target r => XT.dup2 X.here hx rfl (hb hby hd) rfl hc hc' r
theorem k_iinc {i : Nat} {cst : Int} {x z : Int32} (hd : decode M.2.1 pc = .ok (.iinc i cst, 3)) (hp : pc + 3 = pc') (hz : Int32.ofInt cst = z) (hl : Ls[i]? = some (.val (.int x))) (hl' : storeLocals Ls i (.int (x + z)) = some Ls') (W : KW wd l Z M n0 Q P h k n pc' Ls' st) : KW wd l Z M n0 Q P h k n pc Ls st := by
  subst hp; exact W.step fun p e s' T m args below meth c locs hx hby hown hZ X target r => XS.iinc X.here hx rfl (hb hby hd) hl (by rw [hz]; exact hl') r
theorem k_goto {o : Int} (hd : decode M.2.1 pc = .ok (.goto o, 3)) (ho : 0 ≤ (pc : Int) + o) (hp : ((pc : Int) + o).toNat = pc') (W : KW wd l Z M n0 Q P h k n pc' Ls st) : KW wd l Z M n0 Q P h k n pc Ls st :=
  W.step fun p e s' T m args below meth c locs hx hby hown hZ X target r => XS.goto X.here hx rfl rfl (hb hby hd) ho hp r
/-- what a comparison says where it is taken, and where it isn't -/
def icY : ClassFile.Cond → Int32 → Int32 → Prop
  | .eq, x, y => x = y | .ne, x, y => ¬ x = y | .lt, x, y => x < y | .ge, x, y => ¬ x < y | .gt, x, y => y < x | .le, x, y => ¬ y < x
def icN : ClassFile.Cond → Int32 → Int32 → Prop
  | .eq, x, y => ¬ x = y | .ne, x, y => x = y | .lt, x, y => ¬ x < y | .ge, x, y => x < y | .gt, x, y => ¬ y < x | .le, x, y => y < x
theorem ic_t {cd : ClassFile.Cond} {x y : Int32} (q : if_icmp.holds cd x y = true) : icY cd x y := by
  cases cd <;> simp [if_icmp.holds] at q <;> simp only [icY] <;> first | exact q | exact Int32.not_lt.mpr q
theorem ic_f {cd : ClassFile.Cond} {x y : Int32} (q : if_icmp.holds cd x y = false) : icN cd x y := by
  cases cd <;> simp [if_icmp.holds] at q <;> simp only [icN] <;> first | exact q | exact Int32.not_lt.mpr q | exact Int32.not_le.mp q
theorem k_icmp {cd : ClassFile.Cond} {o : Int} {x y : Int32} {pc1 : Nat} (hd : decode M.2.1 pc = .ok (.if_icmp cd o, 3)) (ho : 0 ≤ (pc : Int) + o) (hp1 : ((pc : Int) + o).toNat = pc1) (hp : pc + 3 = pc')
    (W1 : icY cd x y → KW wd l Z M n0 Q P h k n pc1 Ls st) (W2 : icN cd x y → KW wd l Z M n0 Q P h k n pc' Ls st) : KW wd l Z M n0 Q P h k n pc Ls (.int y :: .int x :: st) := by
  cases q : if_icmp.holds cd x y
  · subst hp; exact (W2 (ic_f q)).step fun p e s' T m args below meth c locs hx hby hown hZ X target r => XS.icmpNo X.here hx rfl (hb hby hd) rfl q r
  · exact (W1 (ic_t q)).step fun p e s' T m args below meth c locs hx hby hown hZ X target r => XS.icmpYes X.here hx rfl rfl (hb hby hd) rfl q ho hp1 r
theorem k_ifc {cd : ClassFile.Cond} {o : Int} {x : Int32} {pc1 : Nat} (hd : decode M.2.1 pc = .ok (.ifCond cd o, 3)) (ho : 0 ≤ (pc : Int) + o) (hp1 : ((pc : Int) + o).toNat = pc1) (hp : pc + 3 = pc')
    (W1 : icY cd x 0 → KW wd l Z M n0 Q P h k n pc1 Ls st) (W2 : icN cd x 0 → KW wd l Z M n0 Q P h k n pc' Ls st) : KW wd l Z M n0 Q P h k n pc Ls (.int x :: st) := by
  cases q : ifCond.holds cd x
  · subst hp; exact (W2 (ic_f (by rw [← if0]; exact q))).step fun p e s' T m args below meth c locs hx hby hown hZ X target r => XS.ifNo X.here hx rfl (hb hby hd) rfl q r
  · exact (W1 (ic_t (by rw [← if0]; exact q))).step fun p e s' T m args below meth c locs hx hby hown hZ X target r => XS.ifYes X.here hx rfl rfl (hb hby hd) rfl q ho hp1 r
/-- lcmp and the branch behind it, in one -/
def lcY : ClassFile.Cond → Int64 → Int64 → Prop
  | .eq, x, y => x = y | .ne, x, y => ¬ x = y | .lt, x, y => x < y | .ge, x, y => ¬ x < y | .gt, x, y => y < x | .le, x, y => ¬ y < x
def lcN : ClassFile.Cond → Int64 → Int64 → Prop
  | .eq, x, y => ¬ x = y | .ne, x, y => x = y | .lt, x, y => ¬ x < y | .ge, x, y => x < y | .gt, x, y => ¬ y < x | .le, x, y => y < x
theorem cmpL_V (x y : Int64) : cmpLV x y = lcmpV x y := by simp [cmpLV, lcmpV]
theorem lc_t {cd : ClassFile.Cond} {x y : Int64} (q : icY cd (cmpLV x y) 0) : lcY cd x y := by
  rw [cmpL_V] at q
  cases cd <;> simp only [icY, lcY] at q ⊢
  · exact (lc_eq x y).mp q
  · exact fun e => q ((lc_eq x y).mpr e)
  · exact (lc_lt x y).mp q
  · exact fun e => q ((lc_lt x y).mpr e)
  · exact (lc_gt x y).mp q
  · exact fun e => q ((lc_gt x y).mpr e)
theorem lc_f {cd : ClassFile.Cond} {x y : Int64} (q : icN cd (cmpLV x y) 0) : lcN cd x y := by
  rw [cmpL_V] at q
  cases cd <;> simp only [icN, lcN] at q ⊢
  · exact fun e => q ((lc_eq x y).mpr e)
  · exact (lc_eq x y).mp q
  · exact fun e => q ((lc_lt x y).mpr e)
  · exact (lc_lt x y).mp q
  · exact fun e => q ((lc_gt x y).mpr e)
  · exact (lc_gt x y).mp q
theorem k_lcmpIf {cd : ClassFile.Cond} {o : Int} {x y : Int64} {pc1 pc2 : Nat} (hd0 : decode M.2.1 pc = .ok (.lcmp, 1)) (hp0 : pc + 1 = pc') (hd : decode M.2.1 pc' = .ok (.ifCond cd o, 3)) (ho : 0 ≤ (pc' : Int) + o) (hp1 : ((pc' : Int) + o).toNat = pc1) (hp : pc' + 3 = pc2)
    (W1 : lcY cd x y → KW wd l Z M n0 Q P h k n pc1 Ls st) (W2 : lcN cd x y → KW wd l Z M n0 Q P h k n pc2 Ls st) : KW wd l Z M n0 Q P h k n pc Ls (.long y :: .long x :: st) :=
  k_lcmp hd0 hp0 (k_ifc hd ho hp1 hp (fun q => W1 (lc_t q)) (fun q => W2 (lc_f q)))
theorem k_acmpNe {o : Int} {x y : Value} {pc1 : Nat} (hd : decode M.2.1 pc = .ok (.if_acmp .ne o, 3)) (hx' : x.isRef = true) (hy' : y.isRef = true) (ho : 0 ≤ (pc : Int) + o) (hp1 : ((pc : Int) + o).toNat = pc1) (hp : pc + 3 = pc')
    (W1 : ¬ x = y → KW wd l Z M n0 Q P h k n pc1 Ls st) (W2 : x = y → KW wd l Z M n0 Q P h k n pc' Ls st) : KW wd l Z M n0 Q P h k n pc Ls (y :: x :: st) := by
  by_cases q : x = y
  · subst hp; exact (W2 q).step fun p e s' T m args below meth c locs hx hby hown hZ X target r => XT.acmpNo X.here hx rfl (hb hby hd) rfl hx' hy' (by simp [XT.acmp, q]) r
  · exact (W1 q).step fun p e s' T m args below meth c locs hx hby hown hZ X target r => XT.acmpYes X.here hx rfl rfl (hb hby hd) rfl hx' hy' (by simp [XT.acmp, q]) ho hp1 r
theorem k_acmpEq {o : Int} {x y : Value} {pc1 : Nat} (hd : decode M.2.1 pc = .ok (.if_acmp .eq o, 3)) (hx' : x.isRef = true) (hy' : y.isRef = true) (ho : 0 ≤ (pc : Int) + o) (hp1 : ((pc : Int) + o).toNat = pc1) (hp : pc + 3 = pc')
    (W1 : x = y → KW wd l Z M n0 Q P h k n pc1 Ls st) (W2 : ¬ x = y → KW wd l Z M n0 Q P h k n pc' Ls st) : KW wd l Z M n0 Q P h k n pc Ls (y :: x :: st) := by
  by_cases q : x = y
  · exact (W1 q).step fun p e s' T m args below meth c locs hx hby hown hZ X target r => XT.acmpYes X.here hx rfl rfl (hb hby hd) rfl hx' hy' (by simp [XT.acmp, q]) ho hp1 r
  · subst hp; exact (W2 q).step fun p e s' T m args below meth c locs hx hby hown hZ X target r => XT.acmpNo X.here hx rfl (hb hby hd) rfl hx' hy' (by simp [XT.acmp, q]) r
theorem k_ifnullY {o : Int} (hd : decode M.2.1 pc = .ok (.ifnull o, 3)) (ho : 0 ≤ (pc : Int) + o) (hp : ((pc : Int) + o).toNat = pc') (W : KW wd l Z M n0 Q P h k n pc' Ls st) : KW wd l Z M n0 Q P h k n pc Ls (.null :: st) :=
  W.step fun p e s' T m args below meth c locs hx hby hown hZ X target r => XS.ifnullYes X.here hx rfl rfl (hb hby hd) rfl ho hp r
theorem k_ifnullN {o : Int} {a : Addr} (hd : decode M.2.1 pc = .ok (.ifnull o, 3)) (hp : pc + 3 = pc') (W : KW wd l Z M n0 Q P h k n pc' Ls st) : KW wd l Z M n0 Q P h k n pc Ls (.ref a :: st) := by
  subst hp; exact W.step fun p e s' T m args below meth c locs hx hby hown hZ X target r => XS.ifnullNo X.here hx rfl (hb hby hd) rfl r
theorem k_ifnonnullY {o : Int} {a : Addr} (hd : decode M.2.1 pc = .ok (.ifnonnull o, 3)) (ho : 0 ≤ (pc : Int) + o) (hp : ((pc : Int) + o).toNat = pc') (W : KW wd l Z M n0 Q P h k n pc' Ls st) : KW wd l Z M n0 Q P h k n pc Ls (.ref a :: st) :=
  W.step fun p e s' T m args below meth c locs hx hby hown hZ X target r => XS.ifnonnullYes X.here hx rfl rfl (hb hby hd) rfl ho hp r
theorem k_ifnonnullN {o : Int} (hd : decode M.2.1 pc = .ok (.ifnonnull o, 3)) (hp : pc + 3 = pc') (W : KW wd l Z M n0 Q P h k n pc' Ls st) : KW wd l Z M n0 Q P h k n pc Ls (.null :: st) := by
  subst hp; exact W.step fun p e s' T m args below meth c locs hx hby hown hZ X target r => XS.ifnonnullNo X.here hx rfl (hb hby hd) rfl r
theorem k_ldc2J {i : Nat} {v : Int64} (hd : decode M.2.1 pc = .ok (.ldc2_w i, 3)) (hp : pc + 3 = pc') (w : (Cond.constantLong M.1.cls i v).before a0 Z = true) (W : KW wd l Z M n0 Q P h k n pc' Ls (.long v :: st)) : KW wd l Z M n0 Q P h k n pc Ls st := by
  subst hp; exact W.step fun p e s' T m args below meth c locs hx hby hown hZ X target r => X.ldc2J hx hown (mvT hZ w) rfl (hb hby hd) r
theorem k_ldcI {i : Nat} {v : Int32} (hd : decode M.2.1 pc = .ok (.ldc i, 2)) (hp : pc + 2 = pc') (w : (Cond.constant M.1.cls i v).before a0 Z = true) (W : KW wd l Z M n0 Q P h k n pc' Ls (.int v :: st)) : KW wd l Z M n0 Q P h k n pc Ls st := by
  subst hp; exact W.step fun p e s' T m args below meth c locs hx hby hown hZ X target r => X.ldcI hx hown (mvT hZ w) rfl (hb hby hd) r
theorem k_getStatic {i : Nat} {O f d : String} {v : Value} (hd : decode M.2.1 pc = .ok (.getstatic i, 3)) (hp : pc + 3 = pc') (w : (Cond.fieldLink M.1.cls i O f d).before a0 Z = true) (F : Sta Z h O f d v) (W : KW wd l Z M n0 Q P h k n pc' Ls (v :: st)) : KW wd l Z M n0 Q P h k n pc Ls st := by
  subst hp; exact W.move fun p e s' T m args below meth c locs hx hby hml hown hZ X eT => getS X hx hZ hown (host := "") w Via.refl eT F (g := mkF m pc Ls st) rfl (hb hby hd)
theorem k_getField {i : Nat} {R0 O f d : String} {a : Addr} {v : Value} (hd : decode M.2.1 pc = .ok (.getfield i, 3)) (hp : pc + 3 = pc') (w : (Cond.fieldLink M.1.cls i R0 f d).before a0 Z = true) (via : Via Z R0 O f d) (F : Fld Z h a O f d v) (W : KW wd l Z M n0 Q P h k n pc' Ls (v :: st)) : KW wd l Z M n0 Q P h k n pc Ls (.ref a :: st) := by
  subst hp; exact W.move fun p e s' T m args below meth c locs hx hby hml hown hZ X eT => getF X hx hZ hown (host := "") (Or.inl w) via eT F (g := mkF m pc Ls (.ref a :: st)) rfl rfl (hb hby hd)
/-- the return -/
theorem KW.top {v v' : Value} (e : v = v') (W : KW wd l Z M n0 Q P h k n pc Ls (v' :: st)) : KW wd l Z M n0 Q P h k n pc Ls (v :: st) := e ▸ W
theorem KW.sub {S' : Addr → Prop} (q : ∀ x, S' x → P.2 x) (W : KW wd l Z M n0 Q (P.1, S') h k n pc Ls st) : KW wd l Z M n0 Q P h k n pc Ls st :=
  fun p e s s' m args below meth c hx hby hml hown hnm hret hlk hZ hB hI T locs X N eT => W p e s s' m args below meth c hx hby hml hown hnm hret hlk hZ (hB.sub q) hI T locs X N eT
theorem KW.any {P' : PX} (W : KW false l Z M n0 Q P' h k n pc Ls st) : KW false l Z M n0 Q P h k n pc Ls st :=
  fun p e s s' m args below meth c hx hby hml hown hnm hret hlk hZ hB hI T locs X N eT => by
    obtain ⟨t, v, L, r, h1, h2, h3, h4, h5⟩ := W p e s s' m args below meth c hx hby hml hown hnm hret hlk hZ (hB.elim (fun q => Or.inl q) (fun q => by cases q.1)) (fun q => by cases q) T locs X N eT
    exact ⟨t, v, L, r, h1, h2, h3, h4, h5.elim (fun q => Or.inl q) (fun q => by cases q.1)⟩
theorem KW.ret {v : Option Value} (q : Q v h) (hk : k ≤ M.2.2.2.2.cells) (hn : n ≤ M.2.2.2.2.slots) (hv : M.2.2.2.1 = none → v = none)
    (f : ∀ (p : Program) (e : Env) (s' T : State) (m : MethodId) (args : Array Value) (below : List Frame) (meth : Method) (c : Code) (locs : List Loc), p.tables.exec = Jvm.exec → c.code = M.2.1 → meth.sig.returnType = M.2.2.2.1 → Stand p l e M.2.2.2.2 s' m args below meth c T locs k n →
      ∀ fs : List Frame, (∀ (f : JFrame) (acts : List Action), f.method = m → f.locked = none → f.entered = [] → (doReturn e (T.setTop f) acts v).1 = T.setFrames fs) → Steps p.tables e below (T.setTop (mkF m pc Ls st)) (T.setFrames fs)) : KW wd l Z M n0 Q P h k n pc Ls st := by
  intro p e s s' m args below meth c hx hby hml hown hnm hret hlk hZ hB hI T locs X N eT
  obtain ⟨fs, hr, hrun, hended, hW, hsame⟩ := X.leave (v := v) (fun q => hv (by rw [← hret]; exact q)) hlk
  refine ⟨T.setFrames fs, v, locs, f p e s' T m args below meth c locs hx hby hret X fs hr, hrun, hended, N, by show Q v T.heap; rw [eT]; exact q, ?_⟩
  rcases hB with ⟨rfl, rfl⟩ | ⟨rfl, vm0, k0, rfl, hS, hk0, hC, -⟩
  · exact Or.inl ⟨rfl, ⟨_, rfl⟩, hW, hsame.mono hk hn⟩
  · obtain ⟨e1, e2, e3⟩ := hS.ended hW (by show k0 ≤ T.heap.size; rw [eT]; exact hk0) hsame
    obtain ⟨a1, hEW⟩ := hI rfl
    have hCT : CHr Z P.1 s.vm s.heap T.vm T.heap := hC.trans (by rw [eT]; exact CHv.at X hZ hEW hC.1)
    exact Or.inr ⟨rfl, hCT, ⟨_, rfl⟩, e1, e2, e3.mono hk hn⟩
theorem k_retInt {z : Int32} (hd : decode M.2.1 pc = .ok (.ireturn, 1)) (hr : M.2.2.2.1 = some .int) (hk : k ≤ M.2.2.2.2.cells) (hn : n ≤ M.2.2.2.2.slots) (q : Q (some (.int z)) h) : KW wd l Z M n0 Q P h k n pc Ls (.int z :: st) :=
  KW.ret q hk hn (fun x => by rw [hr] at x; cases x) fun p e s' T m args below meth c locs hx hby hret X fs hl => retOut X hx (t := .int) (i := .ireturn) (hret.trans hr) rfl (Or.inl ⟨rfl, Or.inl rfl, _, rfl⟩) (hb hby hd) hl
theorem k_retNar {z z' : Int32} {t : FieldType} (hd : decode M.2.1 pc = .ok (.ireturn, 1)) (hr : M.2.2.2.1 = some t) (ht : t = .boolean ∨ t = .byte ∨ t = .char ∨ t = .short) (hz : nar t z = z') (hk : k ≤ M.2.2.2.2.cells) (hn : n ≤ M.2.2.2.2.slots) (q : Q (some (.int z')) h) : KW wd l Z M n0 Q P h k n pc Ls (.int z :: st) := by
  subst hz; exact KW.ret q hk hn (fun x => by rw [hr] at x; cases x) fun p e s' T m args below meth c locs hx hby hret X fs hl => retN X hx (hret.trans hr) ht (hb hby hd) hl
theorem k_retLong {z : Int64} (hd : decode M.2.1 pc = .ok (.lreturn, 1)) (hr : M.2.2.2.1 = some .long) (hk : k ≤ M.2.2.2.2.cells) (hn : n ≤ M.2.2.2.2.slots) (q : Q (some (.long z)) h) : KW wd l Z M n0 Q P h k n pc Ls (.long z :: st) :=
  KW.ret q hk hn (fun x => by rw [hr] at x; cases x) fun p e s' T m args below meth c locs hx hby hret X fs hl => retOut X hx (t := .long) (i := .lreturn) (hret.trans hr) rfl (Or.inr (Or.inl ⟨rfl, rfl, _, rfl⟩)) (hb hby hd) hl
theorem k_retRef {v : Value} {t : FieldType} (hd : decode M.2.1 pc = .ok (.areturn, 1)) (hr : M.2.2.2.1 = some t) (ht : t.isReference = true) (hv : v.isRef = true) (hk : k ≤ M.2.2.2.2.cells) (hn : n ≤ M.2.2.2.2.slots) (q : Q (some v) h) : KW wd l Z M n0 Q P h k n pc Ls (v :: st) :=
  KW.ret q hk hn (fun x => by rw [hr] at x; cases x) fun p e s' T m args below meth c locs hx hby hret X fs hl => retOut X hx (t := t) (i := .areturn) (hret.trans hr) (by cases t <;> first | rfl | cases ht) (Or.inr (Or.inr (Or.inr (Or.inr ⟨rfl, ht, hv⟩)))) (hb hby hd) hl
theorem k_retVoid (hd : decode M.2.1 pc = .ok (.return_, 1)) (hr : M.2.2.2.1 = none) (hk : k ≤ M.2.2.2.2.cells) (hn : n ≤ M.2.2.2.2.slots) (q : Q none h) : KW wd l Z M n0 Q P h k n pc Ls [] :=
  KW.ret q hk hn (fun x => rfl) fun p e s' T m args below meth c locs hx hby hret X fs hl => X.returnOut hx (hret.trans hr) (hb hby hd) hl
/-- a method's contract: entered with these arguments and this heap, it returns, and Q holds -/
def Mt (l : Launch) (Z : State) (M : MD) (ws : List Jvm.Cond) (n0 : Nat) (as' : Array Value) (h0 : Heap) (Q : Option Value → Heap → Prop) : Prop :=
  MetFree l M.1 (head1 (Jvm.Cond.code M.1 M.2.1 M.2.2.1 M.2.2.2.1 :: ws) M.2.2.2.2) (fun a U => a = as' ∧ Z.Warmed39 U.vm ∧ U.heap = h0) (fun _ _ _ _ _ => True) (fun _ U o U' => ∃ v L, o = .returned v ∧ (Fr n0 L ∧ h0.size ≤ U'.heap.size ∧ Q v U'.heap) ∧ FrameEnd U o U' L M.2.2.2.2.cells M.2.2.2.2.slots)
theorem mt_of_kw {ws : List Jvm.Cond} {as' : Array Value} (hn : plainFor M.1 = true) (hef : ∀ m, entryFrame m as' M.2.2.1 = mkF m 0 Ls []) (W : KW false l Z M n0 Q P h 0 0 0 Ls []) : Mt l Z M ws n0 as' h Q := by
  refine MetFree.of_bodySF hn hisR ?_
  intro p e s m args below meth c s₁ Bd hml0 hP hK
  obtain ⟨rfl, hZ, hh⟩ := hP
  have e0 : s₁.heap = h := by rw [← hh, Bd.state]; rfl
  obtain ⟨t, v, L, r, h1, h2, h3, h4, h5⟩ := W p e s s m _ below meth c Bd.exec Bd.bytes hml0 (findClass_of_methodNamed Bd.named) (name_of_methodNamed Bd.named Bd.method).1 Bd.returns Bd.notSynchronized hZ (Or.inl ⟨rfl, rfl⟩) (fun q => by cases q) s₁ [] (Stand.of_body Bd) (Fr.nil n0) e0
  rcases h5 with ⟨-, h5⟩ | ⟨h5, -⟩
  · refine ⟨t, _, castTop (hef m) r, h1, h2, v, L, rfl, ⟨h3, ?_, h4⟩, h5⟩
    have q : s.heap.size ≤ t.heap.size := h5.2.2.2.1
    rw [← hh]; exact q
  · cases h5
/-- what a strict callee has done to the heap, for a wide caller -/
def Kp (wd : Bool) (Z : State) (P : PX) (h : Heap) (Q' : Option Value → Heap → Prop) : Prop := wd = true → ∀ v h', Q' v h' → ∃ ws, Keep h h' ws ∧ ∀ x ∈ ws, Sf Z P h x
theorem Kp.strict {Q' : Option Value → Heap → Prop} : Kp false Z P h Q' := fun q => by cases q
theorem Kp.pure {Q' : Option Value → Heap → Prop} (q : ∀ v h', Q' v h' → h' = h) : Kp wd Z P h Q' := fun _ v h' hq => ⟨[], by rw [q v h' hq]; exact Keep.refl _ _, fun _ z => nomatch z⟩
theorem KB.call {s s' : State} {h' : Heap} {v : Option Value} {Q' : Option Value → Heap → Prop} (B : KB wd Z P s s' h) (hZ : Z.Warmed39 s'.vm) (hk : Kp wd Z P h Q') (q : Q' v h') : KB wd Z (P.grow h h') s s' h' := by
  cases wd
  · exact B.elim (fun r => Or.inl r) (fun r => by cases r.1)
  · obtain ⟨ws, K, hs⟩ := hk rfl v h' q
    exact B.keep hZ K (fun _ => hs)
/-- a static method by its contract -/
theorem k_callStatic {y : MD} {i W0 : Nat} {argsL : List Value} {Q' : Option Value → Heap → Prop} {ps : List FieldType} {r : Option FieldType} (hd : decode M.2.1 pc = .ok (.invokestatic i, 3)) (hp : pc + 3 = pc') (K : Mt l Z y [] n0 argsL.toArray h Q') (hkp : Kp wd Z P h Q')
    (w1 : (Cond.methodLink M.1.cls i y.1).before a0 Z = true) (w2 : (Cond.static y.1).before a0 Z = true) (w3 : (Cond.initialized y.1.cls).before a0 Z = true) (w4 : (Cond.code y.1 y.2.1 y.2.2.1 y.2.2.2.1).before a0 Z = true) (hy : y.1.cls ≠ "java/lang/invoke/MethodHandle" ∧ y.1.cls ≠ "java/lang/invoke/VarHandle")
    (hpd : parseMethodDescriptor y.1.desc = some ⟨ps, r⟩) (hlen : argsL.length = ps.length) (hst : st = argsL.reverse ++ rest) (hsz : Ls.size = M.2.2.1) (hW : (rest.map fun v => v.category).sum = W0)
    (hfr : y.2.2.2.2.frames + 1 ≤ M.2.2.2.2.frames) (hlo : W0 + (y.2.2.1 + 11) + y.2.2.2.2.locals ≤ M.2.2.2.2.locals) (hc : k + y.2.2.2.2.cells ≤ M.2.2.2.2.cells) (hs : n + y.2.2.2.2.slots ≤ M.2.2.2.2.slots)
    (W : ∀ v h', h.size ≤ h'.size → Q' v h' → KW wd l Z M n0 Q (P.grow h h') h' (k + y.2.2.2.2.cells) (n + y.2.2.2.2.slots) pc' Ls (v.toList ++ rest)) : KW wd l Z M n0 Q P h k n pc Ls st := by
  intro p e s s' m args below meth c hx hby hml hown hnm hret hlk hZ hB hI T locs X N eT
  subst hp
  obtain ⟨v, _, ⟨T', L', k', n'⟩, -, X', ⟨Lc, ⟨q1, q2, q3⟩, l1, l2, l3⟩, stp⟩ := Jvm.LawKit.callS X hx (y := y.1) hown (mvT hZ w1) (mvT hZ w2) (mvT hZ w3) (mvT hZ w4) hy (backOf (W := W0) (Q := fun v h' L => Fr n0 L ∧ h.size ≤ h'.size ∧ Q' v h') K hZ w4 w3 hfr hlo) (g := mkF m pc Ls st) rfl (hsz.trans hml.symm) (argsL := argsL) (rest := rest) (lenOf hpd hlen) hst (by show 2 * 0 + _ ≤ _; omega) (hb hby hd) (fun _ _ => ⟨rfl, eT, hc, hs⟩)
  dsimp only [Pt.U, Pt.locs, Pt.cells, Pt.slots] at X' l1 l2 l3 stp q2 q3
  subst l1 l2 l3
  obtain ⟨t, v', L, r, rr⟩ := W v T'.heap q2 q3 p e s s' m args below meth c hx hby hml hown hnm hret hlk hZ (hB.call hZ hkp q3) hI T' _ X' (Fr.app N q1) rfl
  exact ⟨t, v', L, stp _ r, rr⟩
/-- a constructor by its contract -/
theorem k_callInit {y : MD} {i W0 : Nat} {a : Addr} {argsL : List Value} {Q' : Option Value → Heap → Prop} {ps : List FieldType} {r : Option FieldType} (hd : decode M.2.1 pc = .ok (.invokespecial i, 3)) (hp : pc + 3 = pc') (K : Mt l Z y [] n0 (.ref a :: argsL).toArray h Q') (hkp : Kp wd Z P h Q') (hi : y.1.name = "<init>") (hr0 : y.2.2.2.1 = none)
    (w1 : (Cond.methodLink M.1.cls i y.1).before a0 Z = true) (w2 : (Cond.instanceMethod y.1).before a0 Z = true) (w3 : (Cond.initialized y.1.cls).before a0 Z = true) (w4 : (Cond.code y.1 y.2.1 y.2.2.1 y.2.2.2.1).before a0 Z = true) (hy : y.1.cls ≠ "java/lang/invoke/MethodHandle" ∧ y.1.cls ≠ "java/lang/invoke/VarHandle")
    (hpd : parseMethodDescriptor y.1.desc = some ⟨ps, r⟩) (hlen : argsL.length = ps.length) (hst : st = argsL.reverse ++ .ref a :: rest) (hsz : Ls.size = M.2.2.1) (hW : (rest.map fun v => v.category).sum = W0)
    (hfr : y.2.2.2.2.frames + 1 ≤ M.2.2.2.2.frames) (hlo : W0 + (y.2.2.1 + 11) + y.2.2.2.2.locals ≤ M.2.2.2.2.locals) (hc : k + y.2.2.2.2.cells ≤ M.2.2.2.2.cells) (hs : n + y.2.2.2.2.slots ≤ M.2.2.2.2.slots)
    (W : ∀ v h', h.size ≤ h'.size → Q' v h' → KW wd l Z M n0 Q (P.grow h h') h' (k + y.2.2.2.2.cells) (n + y.2.2.2.2.slots) pc' Ls (v.toList ++ rest)) : KW wd l Z M n0 Q P h k n pc Ls st := by
  intro p e s s' m args below meth c hx hby hml hown hnm hret hlk hZ hB hI T locs X N eT
  subst hp
  obtain ⟨v, _, ⟨T', L', k', n'⟩, -, X', ⟨Lc, ⟨q1, q2, q3⟩, l1, l2, l3⟩, stp⟩ := X.specialBack hx (y := y.1) hi hown (mvT hZ w1) (mvT hZ w2) (bytes := y.2.1) (maxL := y.2.2.1) (by rw [← hr0]; exact mvT hZ w4) hy (backOf (W := W0) (Q := fun v h' L => Fr n0 L ∧ h.size ≤ h'.size ∧ Q' v h') K hZ w4 w3 hfr hlo) (g := mkF m pc Ls st) rfl (hsz.trans hml.symm) (Steps.refl _) (a := a) (argsL := argsL) (rest := rest) (lenOf hpd hlen) hst (by show 2 * 0 + _ ≤ _; omega) (hb hby hd) (fun _ _ => ⟨rfl, eT, hc, hs⟩)
  dsimp only [Pt.U, Pt.locs, Pt.cells, Pt.slots] at X' l1 l2 l3 stp q2 q3
  subst l1 l2 l3
  obtain ⟨t, v', L, r, rr⟩ := W v T'.heap q2 q3 p e s s' m args below meth c hx hby hml hown hnm hret hlk hZ (hB.call hZ hkp q3) hI T' _ X' (Fr.app N q1) rfl
  exact ⟨t, v', L, stp.trans r, rr⟩
/-- an instance method by its contract; the receiver is exactly a C -/
theorem k_callVirtual {y : MD} {x : MethodName} {C : String} {i W0 : Nat} {a : Addr} {argsL : List Value} {Q' : Option Value → Heap → Prop} {ps : List FieldType} {r : Option FieldType} (hd : decode M.2.1 pc = .ok (.invokevirtual i, 3)) (hp : pc + 3 = pc') (K : Mt l Z y [] n0 (.ref a :: argsL).toArray h Q') (hkp : Kp wd Z P h Q') (E : Exa Z h a C)
    (w1 : (Cond.methodLink M.1.cls i x).before a0 Z = true) (w2 : (Cond.declares x).before a0 Z = true) (w3 : (Cond.selects C x y.1).before a0 Z = true) {C7 : String} {x7 z7 : MethodName} (w7 : (Cond.selects C7 x7 z7).before a0 Z = true) (hz7 : z7.cls = x.cls) (w4 : (Cond.instanceMethod y.1).before a0 Z = true) (w5 : (Cond.code y.1 y.2.1 y.2.2.1 y.2.2.2.1).before a0 Z = true) (w6 : (Cond.initialized y.1.cls).before a0 Z = true) (hy : x.cls ≠ "java/lang/invoke/MethodHandle" ∧ x.cls ≠ "java/lang/invoke/VarHandle")
    (hpd : parseMethodDescriptor x.desc = some ⟨ps, r⟩) (hlen : argsL.length = ps.length) (hst : st = argsL.reverse ++ .ref a :: rest) (hsz : Ls.size = M.2.2.1) (hW : (rest.map fun v => v.category).sum = W0)
    (hfr : y.2.2.2.2.frames + 1 ≤ M.2.2.2.2.frames) (hlo : W0 + (y.2.2.1 + 11) + y.2.2.2.2.locals ≤ M.2.2.2.2.locals) (hc : k + y.2.2.2.2.cells ≤ M.2.2.2.2.cells) (hs : n + y.2.2.2.2.slots ≤ M.2.2.2.2.slots)
    (W : ∀ v h', h.size ≤ h'.size → Q' v h' → KW wd l Z M n0 Q (P.grow h h') h' (k + y.2.2.2.2.cells) (n + y.2.2.2.2.slots) pc' Ls (v.toList ++ rest)) : KW wd l Z M n0 Q P h k n pc Ls st := by
  intro p e s s' m args below meth c hx hby hml hown hnm hret hlk hZ hB hI T locs X N eT
  subst hp
  obtain ⟨cq, kq, qa, qb, qc⟩ := isOf hZ eT E
  obtain ⟨v, _, ⟨T', L', k', n'⟩, -, X', ⟨Lc, ⟨q1, q2, q3⟩, l1, l2, l3⟩, stp⟩ := X.virtualBack hx (y := x) (z := y.1) hown (mvT hZ w1) (mvT hZ w2) (own_notFace (args := #[]) (mvT hZ w7) hz7) (mvT hZ w3) (mvT hZ w4) hy (backOf (W := W0) (Q := fun v h' L => Fr n0 L ∧ h.size ≤ h'.size ∧ Q' v h') K hZ w5 w6 hfr hlo) qa qc (g := mkF m pc Ls st) rfl (hsz.trans hml.symm) (Steps.refl _) (argsL := argsL) (rest := rest) (lenOf hpd hlen) hst (by show 2 * 0 + _ ≤ _; omega) (hb hby hd) (fun _ _ => ⟨rfl, eT, hc, hs⟩)
  dsimp only [Pt.U, Pt.locs, Pt.cells, Pt.slots] at X' l1 l2 l3 stp q2 q3
  subst l1 l2 l3
  obtain ⟨t, v', L, r, rr⟩ := W v T'.heap q2 q3 p e s s' m args below meth c hx hby hml hown hnm hret hlk hZ (hB.call hZ hkp q3) hI T' _ X' (Fr.app N q1) rfl
  exact ⟨t, v', L, stp.trans r, rr⟩
end
end Jvm.OwnW

namespace Jvm.OwnW
open Sem ClassFile Op Lib Jvm.Stand Jvm.Free Jvm.LawKit Jvm.RoadKit
section
variable {wd : Bool} {l : Launch} {Z : State} {M : MD} {n0 : Nat} {Q : Option Value → Heap → Prop} {P : PX} {h : Heap} {k n pc pc' : Nat} {Ls Ls' : Array Slot} {st st' rest : List Value} {a0 : Array Value}
theorem k_new {i sz : Nat} {C : String} (hd : decode M.2.1 pc = .ok (.new i, 3)) (hp : pc + 3 = pc') (w : (Cond.classLink M.1.cls i C).before a0 Z = true) (wi : (Cond.instantiable C sz).before a0 Z = true) (wz : (Cond.initialized C).before a0 Z = true) (hc : k + 1 ≤ M.2.2.2.2.cells) (hs : n + sz ≤ M.2.2.2.2.slots)
    (W : ∀ h' a, a = h.size → Ext h h' → Exa Z h' a C → (∀ {O nm d : String} {ty : FieldType}, Laid Z a0 C O nm d → parseFieldDescriptor d = some ty → Fld Z h' a O nm d (defaultValue ty)) → KW wd l Z M n0 Q (P.grow h h') h' (k + 1) (n + sz) pc' Ls (.ref a :: st)) : KW wd l Z M n0 Q P h k n pc Ls st := by
  intro p e s s' m args below meth c hx hby hml hown hnm hret hlk hZ hB hI T locs X N eT
  subst hp
  obtain ⟨T', h', X', e', E, A, D, -, stp⟩ := newO X hx hZ hown w wi wz eT (g := mkF m pc Ls st) rfl (hb hby hd) hc hs
  obtain ⟨t, v, L, r, rr⟩ := W h' h.size rfl E A D p e s s' m args below meth c hx hby hml hown hnm hret hlk hZ (hB.ext E) hI T' locs X' N e'
  exact ⟨t, v, L, stp t r, rr⟩
theorem k_initObj {i W0 : Nat} {a : Addr} (hd : decode M.2.1 pc = .ok (.invokespecial i, 3)) (hp : pc + 3 = pc') (w1 : (Cond.methodLink M.1.cls i Lib.objectInit).before a0 Z = true) (w2 : (Cond.instanceMethod Lib.objectInit).before a0 Z = true) (w3 : (Cond.code Lib.objectInit ⟨#[0xb1]⟩ 1 none).before a0 Z = true)
    (hsz : Ls.size = M.2.2.1) (hW : (st.map fun v => v.category).sum = W0) (hf : 1 ≤ M.2.2.2.2.frames) (hl : W0 + 12 ≤ M.2.2.2.2.locals) (W : KW wd l Z M n0 Q P h k n pc' Ls st) : KW wd l Z M n0 Q P h k n pc Ls (.ref a :: st) := by
  subst hp; exact W.move fun p e s' T m args below meth c locs hx hby hml hown hZ X eT => initO X hx hZ hown w1 w2 w3 eT (g := mkF m pc Ls (.ref a :: st)) rfl (hsz.trans hml.symm) rfl (hb hby hd) hf (W := W0) (by show 2 * 0 + _ ≤ _; omega) hl
theorem k_put {i kk : Nat} {R0 O f d C : String} {ty : FieldType} {a : Addr} {v v' old : Value} (hd : decode M.2.1 pc = .ok (.putfield i, 3)) (hp : pc + 3 = pc') (w : (Cond.fieldLink M.1.cls i R0 f d).before a0 Z = true) (via : Via Z R0 O f d) (F : Fld Z h a O f d old) (E : Exa Z h a C)
    (L : (Cond.lays C O f d).before a0 Z = true ∨ ((Cond.laysFinal C O f d).before a0 Z = true ∧ M.1.cls = O ∧ M.1.name = "<init>")) (wi : (Cond.instantiable C kk).before a0 Z = true) (hty : parseFieldDescriptor d = some ty) (hn : narrow ty v = v') (hf : fits ty v' = true) (ha : n0 ≤ a) (hsf : wd = true → Sf Z P h a)
    (W : ∀ h', Wr h h' a (Jvm.RoadKit.slotOf Z O f d) v' → KW wd l Z M n0 Q P h' k n pc' Ls st) : KW wd l Z M n0 Q P h k n pc Ls (v :: .ref a :: st) := by
  intro p e s s' m args below meth c hx hby hml hown hnm hret hlk hZ hB hI T locs X N eT
  subst hp
  obtain ⟨T', h', X', e', Wr', stp⟩ := putFN X hx hZ hown w via eT F E (L.imp id fun q => ⟨q.1, q.2.1, hnm.trans q.2.2⟩) wi hty hn hf (g := mkF m pc Ls (v :: .ref a :: st)) rfl rfl (hb hby hd)
  obtain ⟨t, v, L, r, rr⟩ := W h' Wr' p e s s' m args below meth c hx hby hml hown hnm hret hlk hZ (hB.wr hZ Wr' hsf) hI T' _ X' (Fr.snoc X' N ha) e'
  exact ⟨t, v, L, stp t r, rr⟩
theorem k_newarr {aty : ArrayType} {z : Int32} {cap : Nat} (hd : decode M.2.1 pc = .ok (.newarray aty, 2)) (hp : pc + 2 = pc') (w : (Cond.arrayClass (newarray.typeOf aty)).before a0 Z = true) (hz : ¬ z < 0) (hcap : z.toNatClampNeg ≤ cap) (hb8 : cap * 8 ≤ 536870912) (hc : k + 1 ≤ M.2.2.2.2.cells) (hs : n + cap ≤ M.2.2.2.2.slots)
    (W : ∀ h' a cA, a = h.size → Ext h h' → Arv Z h' a cA (newarray.typeOf aty) z [] (defaultValue (newarray.typeOf aty)) → KW wd l Z M n0 Q (P.grow h h') h' (k + 1) (n + cap) pc' Ls (.ref a :: st)) : KW wd l Z M n0 Q P h k n pc Ls (.int z :: st) := by
  intro p e s s' m args below meth c hx hby hml hown hnm hret hlk hZ hB hI T locs X N eT
  subst hp
  obtain ⟨T', h', cA, X', e', E, A, stp⟩ := newP X hx hZ w eT (g := mkF m pc Ls (.int z :: st)) rfl (hb hby hd) rfl hz hcap hb8 hc hs
  obtain ⟨t, v, L, r, rr⟩ := W h' h.size cA rfl E (Arv.new A hz) p e s s' m args below meth c hx hby hml hown hnm hret hlk hZ (hB.ext E) hI T' locs X' N e'
  exact ⟨t, v, L, stp t r, rr⟩
theorem k_arrlen {a : Addr} {ck : ClassId} {ty : FieldType} {z : Int32} {vs : List Value} {dv : Value} (hd : decode M.2.1 pc = .ok (.arraylength, 1)) (hp : pc + 1 = pc') (V : Arv Z h a ck ty z vs dv) (W : KW wd l Z M n0 Q P h k n pc' Ls (.int z :: st)) : KW wd l Z M n0 Q P h k n pc Ls (.ref a :: st) := by
  subst hp
  obtain ⟨cl, Ar, -, S, Mz, -⟩ := V
  exact W.move fun p e s' T m args below meth c locs hx hby hml hown hZ X eT => ⟨T, X, eT, fun target r => X.arraylength hx (by rw [eT]; exact Ar.1) (State.isArrayOf_alike hZ.alike Ar.2.1) (g := mkF m pc Ls (.ref a :: st)) rfl rfl (hb hby hd) target (by rw [len_of S Mz]; exact r)⟩
theorem k_baload {a : Addr} {ck : ClassId} {z j : Int32} {vs : List Value} {dv v : Value} (hd : decode M.2.1 pc = .ok (.baload, 1)) (hp : pc + 1 = pc') (V : Arv Z h a ck .byte z vs dv) (hj : ¬ j < 0 ∧ j < z) (hv : vs.getD j.toNatClampNeg dv = v) (W : KW wd l Z M n0 Q P h k n pc' Ls (v :: st)) : KW wd l Z M n0 Q P h k n pc Ls (.int j :: .ref a :: st) := by
  subst hp
  obtain ⟨cl, Ar, -, S, Mz, H, -⟩ := V
  exact W.move fun p e s' T m args below meth c locs hx hby hml hown hZ X eT => ⟨T, X, eT, fun target r => X.baloadBytes hx (j := j) (v := v) (by rw [eT]; exact Ar.1) (State.isArrayOf_alike hZ.alike Ar.2.1) Ar.2.2 (inb_of S hj) (H.at (inb_of S hj) hv) (g := mkF m pc Ls (.int j :: .ref a :: st)) rfl rfl (hb hby hd) target r⟩
theorem k_caload {a : Addr} {ck : ClassId} {z j : Int32} {vs : List Value} {dv v : Value} (hd : decode M.2.1 pc = .ok (.caload, 1)) (hp : pc + 1 = pc') (V : Arv Z h a ck .char z vs dv) (hj : ¬ j < 0 ∧ j < z) (hv : vs.getD j.toNatClampNeg dv = v) (W : KW wd l Z M n0 Q P h k n pc' Ls (v :: st)) : KW wd l Z M n0 Q P h k n pc Ls (.int j :: .ref a :: st) := by
  subst hp
  obtain ⟨cl, Ar, -, S, Mz, H, -⟩ := V
  exact W.move fun p e s' T m args below meth c locs hx hby hml hown hZ X eT => ⟨T, X, eT, fun target r => X.caload hx (j := j) (v := v) (by rw [eT]; exact Ar.1) (State.isArrayOf_alike hZ.alike Ar.2.1) Ar.2.2 (inb_of S hj) (H.at (inb_of S hj) hv) (g := mkF m pc Ls (.int j :: .ref a :: st)) rfl rfl (hb hby hd) target r⟩
theorem k_castore {a : Addr} {ck : ClassId} {z j x : Int32} {vs : List Value} {dv : Value} {i : Nat} (hd : decode M.2.1 pc = .ok (.castore, 1)) (hp : pc + 1 = pc') (V : Arv Z h a ck .char z vs dv) (hj : ¬ j < 0 ∧ j < z) (hi : j.toNatClampNeg = i) (hil : i < vs.length) (ha : n0 ≤ a) (hsf : wd = true → Sf Z P h a)
    (W : ∀ h', Wr h h' a i (.int (nar .char x)) → Arv Z h' a ck .char z (vs.set i (.int (nar .char x))) dv → KW wd l Z M n0 Q P h' k n pc' Ls st) : KW wd l Z M n0 Q P h k n pc Ls (.int x :: .int j :: .ref a :: st) := by
  intro p e s s' m args below meth c hx hby hml hown hnm hret hlk hZ hB hI T locs X N eT
  subst hp
  obtain ⟨cl, Ar, q1, S, Mz, H, G⟩ := V
  obtain ⟨T', h', X', e', Wr', stp⟩ := stC X hx hZ eT Ar (inb_of S hj) (g := mkF m pc Ls (.int x :: .int j :: .ref a :: st)) rfl rfl (hb hby hd)
  have V' := Arv.set Ar q1 S Mz H G (fits_nar_char x) Wr' i hi hil
  rw [hi] at Wr'
  obtain ⟨t, v, L, r, rr⟩ := W h' Wr' V' p e s s' m args below meth c hx hby hml hown hnm hret hlk hZ (hB.wr hZ Wr' hsf) hI T' _ X' (Fr.snoc X' N ha) e'
  exact ⟨t, v, L, stp t r, rr⟩
theorem k_bastore {a : Addr} {ck : ClassId} {z j x : Int32} {vs : List Value} {dv : Value} {i : Nat} (hd : decode M.2.1 pc = .ok (.bastore, 1)) (hp : pc + 1 = pc') (V : Arv Z h a ck .byte z vs dv) (hj : ¬ j < 0 ∧ j < z) (hi : j.toNatClampNeg = i) (hil : i < vs.length) (ha : n0 ≤ a) (hsf : wd = true → Sf Z P h a)
    (W : ∀ h', Wr h h' a i (.int (nar .byte x)) → Arv Z h' a ck .byte z (vs.set i (.int (nar .byte x))) dv → KW wd l Z M n0 Q P h' k n pc' Ls st) : KW wd l Z M n0 Q P h k n pc Ls (.int x :: .int j :: .ref a :: st) := by
  intro p e s s' m args below meth c hx hby hml hown hnm hret hlk hZ hB hI T locs X N eT
  subst hp
  obtain ⟨cl, Ar, q1, S, Mz, H, G⟩ := V
  obtain ⟨T', h', X', e', Wr', stp⟩ := stB X hx hZ eT Ar (inb_of S hj) (g := mkF m pc Ls (.int x :: .int j :: .ref a :: st)) rfl rfl (hb hby hd)
  have V' := Arv.set Ar q1 S Mz H G (fits_nar_byte x) Wr' i hi hil
  rw [hi] at Wr'
  obtain ⟨t, v, L, r, rr⟩ := W h' Wr' V' p e s s' m args below meth c hx hby hml hown hnm hret hlk hZ (hB.wr hZ Wr' hsf) hI T' _ X' (Fr.snoc X' N ha) e'
  exact ⟨t, v, L, stp t r, rr⟩
theorem k_cast {i : Nat} {K : String} {a : Addr} (hd : decode M.2.1 pc = .ok (.checkcast i, 3)) (hp : pc + 3 = pc') (w : (Cond.classLink M.1.cls i K).before a0 Z = true) (F : Ins Z h a K true) (W : KW wd l Z M n0 Q P h k n pc' Ls (.ref a :: st)) : KW wd l Z M n0 Q P h k n pc Ls (.ref a :: st) := by
  subst hp; exact W.move fun p e s' T m args below meth c locs hx hby hml hown hZ X eT => castY X hx hZ hown w eT F (g := mkF m pc Ls (.ref a :: st)) rfl rfl (hb hby hd)
theorem k_instY {i : Nat} {K : String} {a : Addr} (hd : decode M.2.1 pc = .ok (.instanceof i, 3)) (hp : pc + 3 = pc') (w : (Cond.classLink M.1.cls i K).before a0 Z = true) (F : Ins Z h a K true) (W : KW wd l Z M n0 Q P h k n pc' Ls (.int 1 :: st)) : KW wd l Z M n0 Q P h k n pc Ls (.ref a :: st) := by
  subst hp; exact W.move fun p e s' T m args below meth c locs hx hby hml hown hZ X eT => instY X hx hZ hown w eT F (g := mkF m pc Ls (.ref a :: st)) rfl rfl (hb hby hd)
theorem Sf.exa {a : Addr} {C : String} (E : Exa Z h a C) (h1 : C ≠ "java/lang/String") (h2 : C ≠ "[B") : Sf Z P h a := Or.inr fun vm hal => Safe.exa hal E h1 h2
theorem Sf.arv {a : Addr} {ck : ClassId} {ty : FieldType} {z : Int32} {vs : List Value} {dv : Value} (F : Arv Z h a ck ty z vs dv) (ht : ty ≠ .byte) : Sf Z P h a := Or.inr fun vm hal => Safe.arv hal F ht
/-! the wide contracts: a callee that may intern -/
def MtW (l : Launch) (Z : State) (M : MD) (ws : List Jvm.Cond) (n0 : Nat) (as' : Array Value) (P : PX) (h0 : Heap) (Q : Option Value → Heap → Prop) : Prop :=
  MetFree l M.1 (head1 (Jvm.Cond.code M.1 M.2.1 M.2.2.1 M.2.2.2.1 :: ws) M.2.2.2.2) (fun a U => a = as' ∧ Z.Warmed39 U.vm ∧ U.heap = h0 ∧ CHv Z P.1 U.vm h0 ∧ ∀ x, P.2 x → Safe Z P.1 U.vm h0 x ∧ x < h0.size) (fun _ _ _ _ _ => True)
    (fun _ U o U' => ∃ v L, o = .returned v ∧ (Fr n0 L ∧ h0.size ≤ U'.heap.size ∧ Q v U'.heap) ∧ CHr Z P.1 U.vm U.heap U'.vm U'.heap ∧ ReturnedEndW U o U' L M.2.2.2.2.cells M.2.2.2.2.slots)
theorem mtw_of_kw {ws : List Jvm.Cond} {as' : Array Value} (hn : plainFor M.1 = true) (hEW : EW Z a0 P.1) (hef : ∀ m, entryFrame m as' M.2.2.1 = mkF m 0 Ls []) (W : KW true l Z M n0 Q P h 0 0 0 Ls []) : MtW l Z M ws n0 as' P h Q := by
  refine MetFree.of_bodySF hn hisR ?_
  intro p e s m args below meth c s₁ Bd hml0 hP hK
  obtain ⟨rfl, hZ, hh, hC, hS⟩ := hP
  have e0 : s₁.heap = h := by rw [← hh, Bd.state]; rfl
  obtain ⟨t, v, L, r, h1, h2, h3, h4, h5⟩ := W p e s (s.setVm s.vm) m _ below meth c Bd.exec Bd.bytes hml0 (findClass_of_methodNamed Bd.named) (name_of_methodNamed Bd.named Bd.method).1 Bd.returns Bd.notSynchronized hZ (Or.inr ⟨rfl, s.vm, 0, rfl, (State.WarmedH.refl s).since 0, Nat.zero_le _, by rw [hh]; exact CHr.refl hC, hS⟩) (fun _ => ⟨a0, hEW⟩) s₁ [] (Stand.of_body Bd) (Fr.nil n0) e0
  rcases h5 with ⟨h5, -⟩ | ⟨-, b1, b2⟩
  · cases h5
  · refine ⟨t, _, castTop (hef m) r, h1, h2, v, L, rfl, ⟨h3, ?_, h4⟩, b1, b2⟩
    have q : s.heap.size ≤ t.heap.size := b2.2.2.2.2.1
    rw [← hh]; exact q
/-- what a wide contract pays at a call -/
theorem backW {y : MD} {p : Program} {e : Env} {s : State} {vm0 : Vm} {args as' : Array Value} {below : List Frame} {R : Room} {W0 len : Nat} {Q' : Option Value → Heap → Prop}
    (K : MtW l Z y [] n0 as' P h Q') (hZ : Z.Warmed39 vm0) (w4 : (Cond.code y.1 y.2.1 y.2.2.1 y.2.2.2.1).before a0 Z = true) (w3 : (Cond.initialized y.1.cls).before a0 Z = true) (hf : y.2.2.2.2.frames + 1 ≤ R.frames) (hl : W0 + (y.2.2.1 + 11) + y.2.2.2.2.locals ≤ R.locals) {a1 : Array Value} (hEL : EW Z a1 P.1) (H : CHv Z P.1 vm0 h) (hS : ∀ x, P.2 x → Safe Z P.1 vm0 h x ∧ x < h.size) :
    BackS l R p e below (s.setVm vm0) args y.1 len W0 (fun A a => a = as' ∧ A.U.heap = h ∧ A.cells + y.2.2.2.2.cells ≤ R.cells ∧ A.slots + y.2.2.2.2.slots ≤ R.slots)
      (fun A _ v B => ∃ L, (Fr n0 L ∧ h.size ≤ B.U.heap.size ∧ Q' v B.U.heap) ∧ B.locs = A.locs ++ L ∧ B.cells = A.cells + y.2.2.2.2.cells ∧ B.slots = A.slots + y.2.2.2.2.slots ∧ CHr Z P.1 vm0 h B.U.vm B.U.heap) :=
  BackS.of_freeW (bytes := y.2.1) (maxL := y.2.2.1) (ret := y.2.2.2.1) (E := fun _ first o t L k n => k = y.2.2.2.2.cells ∧ n = y.2.2.2.2.slots ∧ (∃ v, o = .returned v ∧ (Fr n0 L ∧ h.size ≤ t.heap.size ∧ Q' v t.heap)) ∧ CHr Z P.1 first.vm first.heap t.vm t.heap) K hf hl
    (fun m meth c A a Y hp => have hU : Z.Warmed39 A.U.vm := wtrans (s := s.setVm vm0) hZ Y.warmed
      ⟨by show (Cond.and _ .tt).before a A.U = true; rw [Cond.before_and, mv hU w4]; rfl, mv hU w4, mv hU w3, hp.2.2.1, hp.2.2.2⟩)
    (fun m meth c A a g mk Y hp => ⟨hp.1, wtrans (s := s.setVm vm0) hZ Y.warmed, hp.2.1, (CHv.at Y hZ hEL H).1, fun x hx => ⟨(CHv.at Y hZ hEL H).safe (hS x hx).2 (hS x hx).1, (hS x hx).2⟩⟩) (fun _ _ _ _ _ _ _ _ _ => trivial)
    (fun _ _ _ _ ⟨v, L, h1, h2, h3, h4⟩ => ⟨L, _, _, h4, rfl, rfl, ⟨v, h1, h2⟩, h3⟩)
    (fun m meth c A a g mk v t L k n Y hp _ _ ⟨e1, e2, ⟨v', e3, e4⟩, e5⟩ => by
      cases e3; subst e1 e2
      refine ⟨L, e4, rfl, rfl, rfl, (CHv.at Y hZ hEL H).trans ?_⟩
      rw [← hp.2.1]; exact e5)
/-- the walk goes on over the start with the tables that the callee left -/
theorem KW.after {p : Program} {e : Env} {s : State} {vm0 : Vm} {k0 : Nat} {m : MethodId} {args : Array Value} {below : List Frame} {meth : Method} {c : Code} {T' : State} {locs : List Loc} {h' : Heap} {k' n' : Nat} (W : KW true l Z M n0 Q P h' k' n' pc' Ls st')
    (hx : p.tables.exec = Jvm.exec) (hby : c.code = M.2.1) (hml : c.maxLocals = M.2.2.1) (hown : (s.setVm vm0).vm.findClass M.1.cls = some m.cls) (hnm : meth.name = M.1.name) (hret : meth.sig.returnType = M.2.2.2.1) (hlk : meth.locks = false) (hZ : Z.Warmed39 (s.setVm vm0).vm)
    (hS0 : s.Since vm0 k0) (hk0 : k0 ≤ h.size) (hC : CHr Z P.1 s.vm s.heap vm0 h) (hS : ∀ x, P.2 x → Safe Z P.1 vm0 h x ∧ x < h.size) (hI : true = true → ∃ a0, EW Z a0 P.1)
    (X' : Stand p l e M.2.2.2.2 (s.setVm T'.vm) m args below meth c T' locs k' n') (hS' : (s.setVm vm0).Since T'.vm T'.heap.size) (N : Fr n0 locs) (hz : h.size ≤ h'.size) (eT : T'.heap = h') (hC' : CHr Z P.1 vm0 h T'.vm h') :
    ∃ t v L, Steps p.tables e below (T'.setTop (mkF m pc' Ls st')) t ∧ t.status = .running ∧ Ended t below (.returned v) ∧ Fr n0 L ∧ Q v t.heap ∧ KE true Z s v t L P.1 M.2.2.2.2.cells M.2.2.2.2.slots :=
  W p e s (s.setVm T'.vm) m args below meth c hx hby hml (by show T'.vm.findClass _ = _; rw [hS'.1.alike.findClass]; exact hown) hnm hret hlk (State.Warmed39.trans (t := s.setVm vm0) hZ hS'.1)
    (Or.inr ⟨rfl, T'.vm, T'.heap.size, rfl, hS0.trans hS' (by rw [eT]; exact Nat.le_trans hk0 hz), by rw [eT]; exact Nat.le_refl _, hC.trans hC', fun x hx => ⟨hC'.safe (hS x hx).2 (hS x hx).1, Nat.lt_of_lt_of_le (hS x hx).2 hz⟩⟩) hI T' locs X' N eT
theorem k_callStaticW {y : MD} {i W0 : Nat} {argsL : List Value} {Q' : Option Value → Heap → Prop} {ps : List FieldType} {r : Option FieldType} (hd : decode M.2.1 pc = .ok (.invokestatic i, 3)) (hp : pc + 3 = pc') (K : MtW l Z y [] n0 argsL.toArray P h Q')
    (w1 : (Cond.methodLink M.1.cls i y.1).before a0 Z = true) (w2 : (Cond.static y.1).before a0 Z = true) (w3 : (Cond.initialized y.1.cls).before a0 Z = true) (w4 : (Cond.code y.1 y.2.1 y.2.2.1 y.2.2.2.1).before a0 Z = true) (hy : y.1.cls ≠ "java/lang/invoke/MethodHandle" ∧ y.1.cls ≠ "java/lang/invoke/VarHandle")
    (hpd : parseMethodDescriptor y.1.desc = some ⟨ps, r⟩) (hlen : argsL.length = ps.length) (hst : st = argsL.reverse ++ rest) (hsz : Ls.size = M.2.2.1) (hW : (rest.map fun v => v.category).sum = W0)
    (hfr : y.2.2.2.2.frames + 1 ≤ M.2.2.2.2.frames) (hlo : W0 + (y.2.2.1 + 11) + y.2.2.2.2.locals ≤ M.2.2.2.2.locals) (hc : k + y.2.2.2.2.cells ≤ M.2.2.2.2.cells) (hs : n + y.2.2.2.2.slots ≤ M.2.2.2.2.slots)
    (W : ∀ v h', h.size ≤ h'.size → Q' v h' → KW true l Z M n0 Q P h' (k + y.2.2.2.2.cells) (n + y.2.2.2.2.slots) pc' Ls (v.toList ++ rest)) : KW true l Z M n0 Q P h k n pc Ls st := by
  intro p e s s' m args below meth c hx hby hml hown hnm hret hlk hZ hB hI T locs X N eT
  subst hp
  rcases hB with ⟨q, -⟩ | ⟨-, vm0, k0, rfl, hS0, hk0, hC, hSf⟩
  · cases q
  obtain ⟨a1, hEW⟩ := hI rfl
  obtain ⟨v, _, ⟨T', L', k', n'⟩, -, X', hS', hgr, ⟨Lc, ⟨q1, q2, q3⟩, l1, l2, l3, hC'⟩, stp⟩ := callSS X hx (y := y.1) hown (mvT hZ w1) (mvT hZ w2) (mvT hZ w3) (mvT hZ w4) hy (backW (W0 := W0) K hZ w4 w3 hfr hlo hEW hC.1 hSf) (g := mkF m pc Ls st) rfl (hsz.trans hml.symm) (argsL := argsL) (rest := rest) (lenOf hpd hlen) hst (by show 2 * 0 + _ ≤ _; omega) (hb hby hd) (fun _ _ => ⟨rfl, eT, hc, hs⟩)
  dsimp only [Pt.U, Pt.locs, Pt.cells, Pt.slots] at X' l1 l2 l3 stp q2 q3 hS' hC'
  subst l1 l2 l3
  obtain ⟨t, v', L, r, rr⟩ := (W v T'.heap q2 q3).after (h := h) hx hby hml hown hnm hret hlk hZ hS0 hk0 hC hSf hI X' hS' (Fr.app N q1) q2 rfl hC'
  exact ⟨t, v', L, stp.trans r, rr⟩
theorem k_callInitW {y : MD} {i W0 : Nat} {a : Addr} {argsL : List Value} {Q' : Option Value → Heap → Prop} {ps : List FieldType} {r : Option FieldType} (hd : decode M.2.1 pc = .ok (.invokespecial i, 3)) (hp : pc + 3 = pc') (K : MtW l Z y [] n0 (.ref a :: argsL).toArray P h Q') (hi : y.1.name = "<init>") (hr0 : y.2.2.2.1 = none)
    (w1 : (Cond.methodLink M.1.cls i y.1).before a0 Z = true) (w2 : (Cond.instanceMethod y.1).before a0 Z = true) (w3 : (Cond.initialized y.1.cls).before a0 Z = true) (w4 : (Cond.code y.1 y.2.1 y.2.2.1 y.2.2.2.1).before a0 Z = true) (hy : y.1.cls ≠ "java/lang/invoke/MethodHandle" ∧ y.1.cls ≠ "java/lang/invoke/VarHandle")
    (hpd : parseMethodDescriptor y.1.desc = some ⟨ps, r⟩) (hlen : argsL.length = ps.length) (hst : st = argsL.reverse ++ .ref a :: rest) (hsz : Ls.size = M.2.2.1) (hW : (rest.map fun v => v.category).sum = W0)
    (hfr : y.2.2.2.2.frames + 1 ≤ M.2.2.2.2.frames) (hlo : W0 + (y.2.2.1 + 11) + y.2.2.2.2.locals ≤ M.2.2.2.2.locals) (hc : k + y.2.2.2.2.cells ≤ M.2.2.2.2.cells) (hs : n + y.2.2.2.2.slots ≤ M.2.2.2.2.slots)
    (W : ∀ v h', h.size ≤ h'.size → Q' v h' → KW true l Z M n0 Q P h' (k + y.2.2.2.2.cells) (n + y.2.2.2.2.slots) pc' Ls (v.toList ++ rest)) : KW true l Z M n0 Q P h k n pc Ls st := by
  intro p e s s' m args below meth c hx hby hml hown hnm hret hlk hZ hB hI T locs X N eT
  subst hp
  rcases hB with ⟨q, -⟩ | ⟨-, vm0, k0, rfl, hS0, hk0, hC, hSf⟩
  · cases q
  obtain ⟨a1, hEW⟩ := hI rfl
  obtain ⟨v, _, ⟨T', L', k', n'⟩, -, X', hS', hgr, ⟨Lc, ⟨q1, q2, q3⟩, l1, l2, l3, hC'⟩, stp⟩ := X.specialBackS hx (y := y.1) hi hown (mvT hZ w1) (mvT hZ w2) (bytes := y.2.1) (maxL := y.2.2.1) (by rw [← hr0]; exact mvT hZ w4) hy (backW (W0 := W0) K hZ w4 w3 hfr hlo hEW hC.1 hSf) (g := mkF m pc Ls st) rfl (hsz.trans hml.symm) (Steps.refl _) (a := a) (argsL := argsL) (rest := rest) (lenOf hpd hlen) hst (by show 2 * 0 + _ ≤ _; omega) (hb hby hd) (fun _ _ => ⟨rfl, eT, hc, hs⟩)
  dsimp only [Pt.U, Pt.locs, Pt.cells, Pt.slots] at X' l1 l2 l3 stp q2 q3 hS' hC'
  subst l1 l2 l3
  obtain ⟨t, v', L, r, rr⟩ := (W v T'.heap q2 q3).after (h := h) hx hby hml hown hnm hret hlk hZ hS0 hk0 hC hSf hI X' hS' (Fr.app N q1) q2 rfl hC'
  exact ⟨t, v', L, stp.trans r, rr⟩
theorem k_callVirtualW {y : MD} {x : MethodName} {C : String} {i W0 : Nat} {a : Addr} {argsL : List Value} {Q' : Option Value → Heap → Prop} {ps : List FieldType} {r : Option FieldType} (hd : decode M.2.1 pc = .ok (.invokevirtual i, 3)) (hp : pc + 3 = pc') (K : MtW l Z y [] n0 (.ref a :: argsL).toArray P h Q') (E : Exa Z h a C)
    (w1 : (Cond.methodLink M.1.cls i x).before a0 Z = true) (w2 : (Cond.declares x).before a0 Z = true) (w3 : (Cond.selects C x y.1).before a0 Z = true) {C7 : String} {x7 z7 : MethodName} (w7 : (Cond.selects C7 x7 z7).before a0 Z = true) (hz7 : z7.cls = x.cls) (w4 : (Cond.instanceMethod y.1).before a0 Z = true) (w5 : (Cond.code y.1 y.2.1 y.2.2.1 y.2.2.2.1).before a0 Z = true) (w6 : (Cond.initialized y.1.cls).before a0 Z = true) (hy : x.cls ≠ "java/lang/invoke/MethodHandle" ∧ x.cls ≠ "java/lang/invoke/VarHandle")
    (hpd : parseMethodDescriptor x.desc = some ⟨ps, r⟩) (hlen : argsL.length = ps.length) (hst : st = argsL.reverse ++ .ref a :: rest) (hsz : Ls.size = M.2.2.1) (hW : (rest.map fun v => v.category).sum = W0)
    (hfr : y.2.2.2.2.frames + 1 ≤ M.2.2.2.2.frames) (hlo : W0 + (y.2.2.1 + 11) + y.2.2.2.2.locals ≤ M.2.2.2.2.locals) (hc : k + y.2.2.2.2.cells ≤ M.2.2.2.2.cells) (hs : n + y.2.2.2.2.slots ≤ M.2.2.2.2.slots)
    (W : ∀ v h', h.size ≤ h'.size → Q' v h' → KW true l Z M n0 Q P h' (k + y.2.2.2.2.cells) (n + y.2.2.2.2.slots) pc' Ls (v.toList ++ rest)) : KW true l Z M n0 Q P h k n pc Ls st := by
  intro p e s s' m args below meth c hx hby hml hown hnm hret hlk hZ hB hI T locs X N eT
  subst hp
  rcases hB with ⟨q, -⟩ | ⟨-, vm0, k0, rfl, hS0, hk0, hC, hSf⟩
  · cases q
  obtain ⟨a1, hEW⟩ := hI rfl
  obtain ⟨cq, kq, qa, qb, qc⟩ := isOf hZ eT E
  obtain ⟨v, _, ⟨T', L', k', n'⟩, -, X', hS', hgr, ⟨Lc, ⟨q1, q2, q3⟩, l1, l2, l3, hC'⟩, stp⟩ := X.virtualBackS hx (y := x) (z := y.1) hown (mvT hZ w1) (mvT hZ w2) (own_notFace (args := #[]) (mvT hZ w7) hz7) (mvT hZ w3) (mvT hZ w4) hy (backW (W0 := W0) K hZ w5 w6 hfr hlo hEW hC.1 hSf) qa qc (g := mkF m pc Ls st) rfl (hsz.trans hml.symm) (Steps.refl _) (argsL := argsL) (rest := rest) (lenOf hpd hlen) hst (by show 2 * 0 + _ ≤ _; omega) (hb hby hd) (fun _ _ => ⟨rfl, eT, hc, hs⟩)
  dsimp only [Pt.U, Pt.locs, Pt.cells, Pt.slots] at X' l1 l2 l3 stp q2 q3 hS' hC'
  subst l1 l2 l3
  obtain ⟨t, v', L, r, rr⟩ := (W v T'.heap q2 q3).after (h := h) hx hby hml hown hnm hret hlk hZ hS0 hk0 hC hSf hI X' hS' (Fr.app N q1) q2 rfl hC'
  exact ⟨t, v', L, stp.trans r, rr⟩
/-- a String constant whose text is read -/
theorem k_ldcS {i sl : Nat} {text : String} {vs : List Value} {z : Int32} (hd : decode M.2.1 pc = .ok (.ldc i, 2)) (hp : pc + 2 = pc') (w : (Cond.stringLink M.1.cls i text).before a0 Z = true) (wS : ∀ a ∈ Bundle.stringAtoms, a.before a0 Z = true) (hmem : (M.1.cls, i) ∈ P.1)
    (ht : (∀ c ∈ text.toList, c.toNat < 256) ∧ text.toList.map (fun c => Value.int (Jvm.Lit.byteI c.toNat.toUInt16)) = vs) (hz : ¬ z < 0) (hl : z.toNatClampNeg = vs.length) (hn : 4 * text.toList.length ≤ sl) (hbig : sl ≤ 536870912) (hc : k + 2 ≤ M.2.2.2.2.cells) (hs : n + (sl + 4) ≤ M.2.2.2.2.slots)
    (W : ∀ a b ck h', Ext h h' → Exa Z h' a "java/lang/String" → Fld Z h' a "java/lang/String" "coder" "B" (.int 0) → Fld Z h' a "java/lang/String" "value" "[B" (.ref b) → Arv Z h' b ck .byte z vs (.int 0) → (∀ x, P.2 x → x ≠ a ∧ x ≠ b) → KW true l Z M n0 Q P h' (k + 2) (n + (sl + 4)) pc' Ls (.ref a :: st)) : KW true l Z M n0 Q P h k n pc Ls st := by
  intro p e s s' m args below meth c hx hby hml hown hnm hret hlk hZ hB hI T locs X N eT
  subst hp
  rcases hB with ⟨q, -⟩ | ⟨-, vm0, k0, rfl, hS0, hk0, hC, hSf⟩
  · cases q
  obtain ⟨a1, hEW⟩ := hI rfl
  have hEW0 : EW Z a0 P.1 := fun p hp => by
    obtain ⟨text, w1, w2⟩ := hEW p hp
    exact ⟨text, by simpa only [Cond.before, Cond.holds, Cond.value] using w1, w2⟩
  obtain ⟨a, T', h', k1, b, ck, X', e', E, hS', hk', hZ', hown', A, F1, F2, V, -, -, hC', -, hne, stp⟩ := ldcCH X hx hZ hown w wS eT hS0 hk0 hEW0 hmem hC.1 ht hz hl (g := mkF m pc Ls st) rfl (hb hby hd) hn hbig hc hs
  obtain ⟨t, v', L, r, rr⟩ := W a b ck h' E A F1 F2 V (fun x hx => hne x (hC'.safe (hSf x hx).2 (hSf x hx).1)) p e s (s.setVm T'.vm) m args below meth c hx hby hml hown' hnm hret hlk hZ' (Or.inr ⟨rfl, T'.vm, k1, rfl, hS', hk', hC.trans hC', fun x hx => ⟨hC'.safe (hSf x hx).2 (hSf x hx).1, Nat.lt_of_lt_of_le (hSf x hx).2 E.1⟩⟩) hI T' locs X' N e'
  exact ⟨t, v', L, stp t r, rr⟩
/-- a String constant whose text isn't read -/
theorem k_ldcO {i sl : Nat} {text : String} (hd : decode M.2.1 pc = .ok (.ldc i, 2)) (hp : pc + 2 = pc') (w : (Cond.stringLink M.1.cls i text).before a0 Z = true) (wS : ∀ a ∈ Bundle.stringAtoms, a.before a0 Z = true)
    (hn : 4 * text.toList.length ≤ sl) (hbig : sl ≤ 536870912) (hc : k + 2 ≤ M.2.2.2.2.cells) (hs : n + (sl + 4) ≤ M.2.2.2.2.slots)
    (W : ∀ a h', Ext h h' → KW true l Z M n0 Q P h' (k + 2) (n + (sl + 4)) pc' Ls (.ref a :: st)) : KW true l Z M n0 Q P h k n pc Ls st := by
  intro p e s s' m args below meth c hx hby hml hown hnm hret hlk hZ hB hI T locs X N eT
  subst hp
  rcases hB with ⟨q, -⟩ | ⟨-, vm0, k0, rfl, hS0, hk0, hC, hSf⟩
  · cases q
  obtain ⟨a1, hEW⟩ := hI rfl
  have hEW0 : EW Z a0 P.1 := fun p hp => by
    obtain ⟨text, w1, w2⟩ := hEW p hp
    exact ⟨text, by simpa only [Cond.before, Cond.holds, Cond.value] using w1, w2⟩
  obtain ⟨a, T', h', k1, X', e', E, hS', hk', hZ', hown', hC', -, stp⟩ := ldcOH X hx hZ hown w wS eT hS0 hk0 hEW0 hC.1 (g := mkF m pc Ls st) rfl (hb hby hd) hn hbig hc hs
  obtain ⟨t, v', L, r, rr⟩ := W a h' E p e s (s.setVm T'.vm) m args below meth c hx hby hml hown' hnm hret hlk hZ' (Or.inr ⟨rfl, T'.vm, k1, rfl, hS', hk', hC.trans hC', fun x hx => ⟨hC'.safe (hSf x hx).2 (hSf x hx).1, Nat.lt_of_lt_of_le (hSf x hx).2 E.1⟩⟩) hI T' locs X' N e'
  exact ⟨t, v', L, stp t r, rr⟩
end
end Jvm.OwnW

namespace Jvm.OwnW
open Sem ClassFile Op Lib Jvm.Stand Jvm.Free Jvm.LawKit Jvm.RoadKit
theorem ix_int {j : Nat} (h : j < 2147483648) : (Int32.ofNat j).toInt = (j : Int) := Int32.toInt_ofNat_of_lt h
theorem ix_nat {j : Nat} (h : j < 2147483648) : (Int32.ofNat j).toNatClampNeg = j := by
  show (Int32.ofNat j).toInt.toNat = j
  rw [ix_int h]; rfl
theorem ix_nn {j : Nat} (h : j < 2147483648) : ¬ Int32.ofNat j < 0 := by
  rw [Int32.lt_iff_toInt_lt, ix_int h]; show ¬ (j : Int) < 0; omega
theorem ix_lt {i j : Nat} (hj : j < 2147483648) (h : i < j) : Int32.ofNat i < Int32.ofNat j := by
  rw [Int32.lt_iff_toInt_lt, ix_int hj, ix_int (by omega)]; omega
theorem ix_irr {j : Nat} : ¬ Int32.ofNat j < Int32.ofNat j := by rw [Int32.lt_iff_toInt_lt]; omega
theorem ix_succ (j : Nat) : Int32.ofNat j + 1 = Int32.ofNat (j + 1) := (Int32.ofNat_add j 1).symm
theorem ix_inb {j n : Nat} (hn : n < 2147483648) (h : j < n) : ¬ Int32.ofNat j < 0 ∧ Int32.ofNat j < Int32.ofNat n := ⟨ix_nn (by omega), ix_lt hn h⟩
theorem ix_ne {i j : Nat} (hi : i < 2147483648) (hj : j < 2147483648) (h : i ≠ j) : ¬ Int32.ofNat i = Int32.ofNat j := fun q => h (by
  have := congrArg Int32.toInt q; rw [ix_int hi, ix_int hj] at this; omega)
theorem get_mid (f : Int32 → Value) (ps rs : List Int32) (q : Int32) (d : Value) {j : Nat} (hj : j = ps.length) : ((ps ++ q :: rs).map f).getD j d = f q := by
  subst hj; induction ps with
  | nil => rfl
  | cons p ps ih => simpa using ih
theorem set_mid (A B : List Value) (w v : Value) {j : Nat} (hj : j = A.length) : (A ++ w :: B).set j v = (A ++ [v]) ++ B := by
  subst hj; induction A with
  | nil => rfl
  | cons p ps ih => simpa using ih
/-- a byte of a sign -/
abbrev nbI (q : Int32) : Int32 := nar .byte (Int8.toInt32 (Int32.toInt8 q))
theorem nbI_inj {p q : Int32} (hp : 0 ≤ p.toInt ∧ p.toInt < 256) (hq : 0 ≤ q.toInt ∧ q.toInt < 256) (h : nbI p = nbI q) : p = q := by
  have e1 := c_i2b p; have e2 := c_i2b q
  have e3 := c_i2b (Int8.toInt32 (Int32.toInt8 p)); have e4 := c_i2b (Int8.toInt32 (Int32.toInt8 q))
  have h' : (Int8.toInt32 (Int32.toInt8 (Int8.toInt32 (Int32.toInt8 p)))).toInt = (Int8.toInt32 (Int32.toInt8 (Int8.toInt32 (Int32.toInt8 q)))).toInt := congrArg Int32.toInt h
  refine Int32.toInt_inj.mp ?_
  omega
def Latin (xs : List Int32) : Prop := ∀ q ∈ xs, 0 ≤ q.toInt ∧ q.toInt < 256
theorem Latin.nil : Latin [] := fun _ q => nomatch q
theorem Latin.cons {q : Int32} {xs : List Int32} (h : 0 ≤ q.toInt ∧ q.toInt < 256) (r : Latin xs) : Latin (q :: xs) := fun x hx => (List.mem_cons.mp hx).elim (fun e => e ▸ h) (r x)
theorem latin_inj : ∀ {xs ys : List Int32}, Latin xs → Latin ys → xs.map nbI = ys.map nbI → xs = ys
  | [], [], _, _, _ => rfl
  | [], _ :: _, _, _, h => by simp at h
  | _ :: _, [], _, _, h => by simp at h
  | x :: xs, y :: ys, hx, hy, h => by
    simp only [List.map_cons, List.cons.injEq] at h
    rw [nbI_inj (hx x (by simp)) (hy y (by simp)) h.1, latin_inj (fun q hq => hx q (by simp [hq])) (fun q hq => hy q (by simp [hq])) h.2]
/-- a String of Latin-1 signs, by its bytes -/
def Sg (Z : State) (h : Heap) (a t : Addr) (bs : List Int32) : Prop := ∃ ck, Exa Z h a "java/lang/String" ∧ Fld Z h a "java/lang/String" "coder" "B" (.int 0) ∧ Fld Z h a "java/lang/String" "value" "[B" (.ref t) ∧ Arv Z h t ck .byte (Int32.ofNat bs.length) (bs.map Value.int) (.int 0) ∧ bs.length < 2147483648
section
variable {Z : State} {h h' : Heap} {a t x : Addr} {bs : List Int32} {ws : List Addr} {sl : Nat} {v : Value}
theorem Sg.ext (S : Sg Z h a t bs) (E : Ext h h') : Sg Z h' a t bs := by
  obtain ⟨ck, A, B, C, D, F⟩ := S; exact ⟨ck, A.ext E, B.ext E, C.ext E, D.ext E, F⟩
theorem Sg.keep (S : Sg Z h a t bs) (K : Keep h h' ws) (q : a ∉ ws) (r : t ∉ ws) : Sg Z h' a t bs := by
  obtain ⟨ck, A, B, C, D, F⟩ := S; exact ⟨ck, A.keep K, B.keep K q, C.keep K q, D.keep K r, F⟩
theorem Sg.wr (S : Sg Z h a t bs) (W : Wr h h' x sl v) (q : a ≠ x) (r : t ≠ x) : Sg Z h' a t bs := by
  obtain ⟨ck, A, B, C, D, F⟩ := S; exact ⟨ck, A.wr W, B.other W (Or.inl q), C.other W (Or.inl q), D.other W r, F⟩
theorem Sg.lt (S : Sg Z h a t bs) : a < h.size := by obtain ⟨ck, A, -⟩ := S; exact A.lt
theorem Sg.ltv (S : Sg Z h a t bs) : t < h.size := by obtain ⟨ck, -, -, -, D, -⟩ := S; exact D.lt
theorem Sg.exa (S : Sg Z h a t bs) : Exa Z h a "java/lang/String" := by obtain ⟨ck, A, -⟩ := S; exact A
end
theorem Fld.uniq {Z : State} {h : Heap} {a : Addr} {C n d : String} {v w : Value} (F : Fld Z h a C n d v) (G : Fld Z h a C n d w) : v = w :=
  Classical.byContradiction fun q => (Fld.ne F G q) rfl
theorem Arv.uniq {Z : State} {h : Heap} {t : Addr} {ck ck' : ClassId} {xs ys : List Int32} (hx : xs.length < 2147483648) (hy : ys.length < 2147483648) (A : Arv Z h t ck .byte (Int32.ofNat xs.length) (xs.map Value.int) (.int 0)) (B : Arv Z h t ck' .byte (Int32.ofNat ys.length) (ys.map Value.int) (.int 0)) : xs = ys := by
  obtain ⟨c, A1, -, A3, -, A5, -⟩ := A
  obtain ⟨c', B1, -, B3, -, B5, -⟩ := B
  cases A1.1.symm.trans B1.1
  rw [ix_nat hx] at A3
  rw [ix_nat hy] at B3
  have hl : xs.length = ys.length := A3.symm.trans B3
  apply List.ext_getElem hl
  intro i h1 h2
  have e1 := A5 i (by omega)
  have e2 := B5 i (by omega)
  have e3 := Option.some.inj (e1.symm.trans e2)
  simp only [List.getD_eq_getElem?_getD, List.getElem?_map, List.getElem?_eq_getElem h1, List.getElem?_eq_getElem h2, Option.map_some, Option.getD_some] at e3
  exact Value.int.inj e3
theorem Sg.uniq {Z : State} {h : Heap} {a t u : Addr} {xs ys : List Int32} (S : Sg Z h a t xs) (T : Sg Z h a u ys) : xs = ys := by
  obtain ⟨ck, -, -, C, D, F⟩ := S
  obtain ⟨ck', -, -, C', D', F'⟩ := T
  cases Value.ref.inj (Fld.uniq C C')
  exact Arv.uniq F F' D D'
/-- the answer of equals -/
def eqI (xs ys : List Int32) : Int32 := if xs = ys then 1 else 0
theorem eqI_one {xs ys : List Int32} (h : ¬ eqI xs ys = 0) : eqI xs ys = 1 := by
  unfold eqI at *; split at h
  · rename_i q; rw [if_pos q]
  · exact absurd rfl h
theorem eqI_self (xs : List Int32) : eqI xs xs = 1 := by simp [eqI]
theorem eqI_nar (xs ys : List Int32) : nar .boolean (eqI xs ys) = eqI xs ys := by unfold eqI; split <;> decide
theorem eqI_mid {ps rs rs' : List Int32} {q q' : Int32} (h : ¬ q = q') : eqI (ps ++ q :: rs) (ps ++ q' :: rs') = 0 := by
  unfold eqI; rw [if_neg]; intro e
  exact h (List.cons.inj (List.append_cancel_left e)).1
theorem eqI_len {xs ys : List Int32} (h : ¬ Int32.ofNat xs.length = Int32.ofNat ys.length) : eqI xs ys = 0 := by
  unfold eqI; rw [if_neg]; intro e; exact h (by rw [e])
end Jvm.OwnW

namespace Jvm.OwnW
open Sem ClassFile Op Lib Jvm.Stand Jvm.Free Jvm.LawKit Jvm.RoadKit
section
variable {wd : Bool} {l : Launch} {Z : State} {M : MD} {n0 : Nat} {Q : Option Value → Heap → Prop} {P : PX} {h : Heap} {k n k' n' pc pc' : Nat} {Ls Ls' : Array Slot} {st st' rest : List Value} {a0 : Array Value}
/-- fewer cells made are as good -/
theorem KW.more (hk : k ≤ k') (hn : n ≤ n') (W : KW wd l Z M n0 Q P h k' n' pc Ls st) : KW wd l Z M n0 Q P h k n pc Ls st :=
  fun p e s s' m args below meth c hx hby hml hown hnm hret hlk hZ hB hI T locs X N eT => W p e s s' m args below meth c hx hby hml hown hnm hret hlk hZ hB hI T locs (X.more hk hn) N eT
theorem k_instNo {i : Nat} {K C : String} {a : Addr} (hd : decode M.2.1 pc = .ok (.instanceof i, 3)) (hp : pc + 3 = pc') (w : (Cond.classLink M.1.cls i K).before a0 Z = true) (E : Exa Z h a C) (F : ∃ c t, Z.vm.findClass C = some c ∧ Z.vm.findClass K = some t ∧ Z.vm.assignable c t = false) (W : KW wd l Z M n0 Q P h k n pc' Ls (.int 0 :: st)) : KW wd l Z M n0 Q P h k n pc Ls (.ref a :: st) := by
  subst hp; exact W.move fun p e s' T m args below meth c locs hx hby hml hown hZ X eT => instNo X hx hZ hown w eT E F (g := mkF m pc Ls (.ref a :: st)) rfl rfl (hb hby hd)
theorem k_instNull {i : Nat} (hd : decode M.2.1 pc = .ok (.instanceof i, 3)) (hp : pc + 3 = pc') (W : KW wd l Z M n0 Q P h k n pc' Ls (.int 0 :: st)) : KW wd l Z M n0 Q P h k n pc Ls (.null :: st) := by
  subst hp; exact W.step fun p e s' T m args below meth c locs hx hby hown hZ X target r => X.instanceofNull hx (g := mkF m pc Ls (.null :: st)) rfl rfl (hb hby hd) target r
theorem own_apart {C O K : String} {n : Nat} (wC : (Cond.superclass C O).before a0 Z = true) (wO : (Cond.noSuperclass O).before a0 Z = true) (wK : (Cond.instantiable K n).before a0 Z = true) (h1 : C ≠ K) (h2 : O ≠ K) : ∃ c t, Z.vm.findClass C = some c ∧ Z.vm.findClass K = some t ∧ Z.vm.assignable c t = false := by
  obtain ⟨t, kt, k1, k2, k3, k4, -, -⟩ := Cond.instantiable_spec wK
  obtain ⟨o, ko, o1, o2, o3, -, -⟩ := Cond.noSuperclass_spec wO
  obtain ⟨c, c0⟩ := found_sup wC
  obtain ⟨p, kc, kp, s1, s2, s3, s4, s5, -, s7⟩ := Cond.superclass_spec c0 wC
  cases o1.symm.trans s1
  have n1 := ids_ne c0 k1 h1
  have n2 := ids_ne o1 k1 h2
  have hroot : ∀ f, Z.vm.isSubclassAux f o t = false := fun f => by
    cases f with
    | zero => rfl
    | succ f => simp [Vm.isSubclassAux, n2, o2, o3]
  have hsub : ∀ f, Z.vm.isSubclassAux f c t = false := fun f => by
    cases f with
    | zero => rfl
    | succ f => simp [Vm.isSubclassAux, n1, s2, s4, hroot]
  have hi : kt.isInterface = false := by simp at k4; exact k4.1
  refine ⟨c, t, c0, k1, ?_⟩
  show Z.vm.assignableAux (255 + 1) c t = false
  simp [Vm.assignableAux, n1, s2, k2, s5, k3, hi, Vm.isSubclass, hsub]
end
theorem cat_R (a : Addr) : (Value.ref a).category = 1 := rfl
theorem cat_ref {v : Value} (h : v.isRef = true) : v.category = 1 := by rcases ref_cases h with rfl | ⟨_, rfl⟩ <;> rfl
theorem fit_ref {v : Value} {C : String} (h : v.isRef = true) : fits (.object C) v = true := by rcases ref_cases h with rfl | ⟨_, rfl⟩ <;> rfl
theorem nar_ref {v : Value} {C : String} (h : v.isRef = true) : narrow (.object C) v = v := by rcases ref_cases h with rfl | ⟨_, rfl⟩ <;> rfl
theorem eqI_comm (xs ys : List Int32) : eqI xs ys = eqI ys xs := by
  unfold eqI; by_cases h : xs = ys
  · rw [if_pos h, if_pos h.symm]
  · rw [if_neg h, if_neg (fun e => h e.symm)]
end Jvm.OwnW

namespace Jvm.OwnW
open Sem ClassFile Op Lib Jvm.Stand Jvm.Free Jvm.LawKit Jvm.RoadKit
section
variable {wd : Bool} {l : Launch} {Z : State} {M : MD} {n0 : Nat} {Q : Option Value → Heap → Prop} {P : PX} {h : Heap} {k n pc pc' : Nat} {Ls Ls' : Array Slot} {st st' rest : List Value} {a0 : Array Value}
theorem getD_int (L : List Int32) (j : Nat) : (L.map Value.int).getD j (.int 0) = .int (L.getD j 0) := by
  simp only [List.getD_eq_getElem?_getD, List.getElem?_map]
  cases L[j]? <;> rfl
theorem Arv.bytes {a : Addr} {ck : ClassId} {L : List Int32} (hL : L.length < 2147483648) (A : Arv Z h a ck .byte (Int32.ofNat L.length) (L.map Value.int) (.int 0)) : ∃ c : Cell, Arr Z h a c .byte ∧ c.cls = ck ∧ c.slots.size = L.length ∧ (∀ j, j < L.length → c.slots[j]? = some (.int (L.getD j 0))) ∧ ∀ j, j < L.length → fits .byte (.int (L.getD j 0)) = true := by
  obtain ⟨c, A1, A2, A3, -, A5, A6⟩ := A
  rw [ix_nat hL] at A3
  refine ⟨c, A1, A2, A3, fun j hj => ?_, fun j hj => ?_⟩
  · have := A5 j (by omega); rw [getD_int] at this; exact this
  · have := A6 j (by omega); rw [getD_int] at this; exact this
theorem Arv.ofBytes {a : Addr} {ck : ClassId} {L : List Int32} {c : Cell} (hL : L.length < 2147483648) (A1 : Arr Z h a c .byte) (A2 : c.cls = ck) (A3 : c.slots.size = L.length) (A5 : ∀ j, j < L.length → c.slots[j]? = some (.int (L.getD j 0))) (A6 : ∀ j, j < L.length → fits .byte (.int (L.getD j 0)) = true) : Arv Z h a ck .byte (Int32.ofNat L.length) (L.map Value.int) (.int 0) :=
  ⟨c, A1, A2, by rw [ix_nat hL]; exact A3, ix_nn hL, fun j hj => by rw [getD_int]; exact A5 j (by omega), fun j hj => by rw [getD_int]; exact A6 j (by omega)⟩
/-- ys with n of xs from o on laid in at q -/
def laid (xs ys : List Int32) (o q n : Nat) : List Int32 := ys.take q ++ ((xs.drop o).take n ++ ys.drop (q + n))
theorem laid_len {xs ys : List Int32} {o q n : Nat} (h4 : o + n ≤ xs.length) (h5 : q + n ≤ ys.length) : (laid xs ys o q n).length = ys.length := by
  unfold laid; simp only [List.length_append, List.length_take, List.length_drop]; omega
theorem laid_at {xs ys : List Int32} {o q n : Nat} (h4 : o + n ≤ xs.length) (h5 : q + n ≤ ys.length) (j : Nat) : (laid xs ys o q n).getD j 0 = if q ≤ j ∧ j < q + n then xs.getD (o + (j - q)) 0 else ys.getD j 0 := by
  unfold laid
  simp only [List.getD_eq_getElem?_getD]
  by_cases a : j < q
  · rw [if_neg (by omega), List.getElem?_append_left (by simp only [List.length_take]; omega), List.getElem?_take_of_lt a]
  · rw [List.getElem?_append_right (by simp only [List.length_take]; omega)]
    have e1 : (ys.take q).length = q := by simp only [List.length_take]; omega
    rw [e1]
    by_cases b : j < q + n
    · rw [if_pos ⟨by omega, b⟩, List.getElem?_append_left (by simp only [List.length_take, List.length_drop]; omega), List.getElem?_take_of_lt (by omega), List.getElem?_drop]
    · rw [if_neg (by omega), List.getElem?_append_right (by simp only [List.length_take, List.length_drop]; omega), List.getElem?_drop]
      congr 2
      simp only [List.length_take, List.length_drop]; omega
/-- System.arraycopy between two byte arrays -/
theorem k_acopy {i W0 o q m' : Nat} {a b : Addr} {ck ck' : ClassId} {xs ys : List Int32} (hd : decode M.2.1 pc = .ok (.invokestatic i, 3)) (hp : pc + 3 = pc') (w1 : (Cond.methodLink M.1.cls i acN).before a0 Z = true) (w2 : (Cond.native acN).before a0 Z = true) (w3 : (Cond.static acN).before a0 Z = true) (w4 : (Cond.initialized "java/lang/System").before a0 Z = true)
    (hx0 : xs.length < 2147483648) (hy0 : ys.length < 2147483648) (A : Arv Z h a ck .byte (Int32.ofNat xs.length) (xs.map Value.int) (.int 0)) (B : Arv Z h b ck' .byte (Int32.ofNat ys.length) (ys.map Value.int) (.int 0)) (h4 : o + m' ≤ xs.length) (h5 : q + m' ≤ ys.length) (hb0 : n0 ≤ b) (hsf : wd = true → Sf Z P h b)
    (hsz : Ls.size = M.2.2.1) (hW : (st.map fun v => v.category).sum = W0) (hfr : 1 ≤ M.2.2.2.2.frames) (hlo : W0 + 40 ≤ M.2.2.2.2.locals)
    (W : ∀ h', Keep h h' [b] → Arv Z h' b ck' .byte (Int32.ofNat ys.length) ((laid xs ys o q m').map Value.int) (.int 0) → KW wd l Z M n0 Q (P.grow h h') h' k n pc' Ls st) : KW wd l Z M n0 Q P h k n pc Ls (.int (Int32.ofNat m') :: .int (Int32.ofNat q) :: .ref b :: .int (Int32.ofNat o) :: .ref a :: st) := by
  intro p e s s' m args below meth c hx hby hml hown hnm hret hlk hZ hB hI T locs X N eT
  subst hp
  obtain ⟨cA, A1, A2, A3, A5, A6⟩ := Arv.bytes hx0 A
  obtain ⟨cB, B1, B2, B3, B5, B6⟩ := Arv.bytes hy0 B
  have hw : ∀ w ∈ XT.acW M.1.cls i, w.before args s' = true := by
    intro w hw
    simp only [XT.acW, List.mem_cons, List.not_mem_nil, or_false] at hw
    rcases hw with rfl | rfl | rfl | rfl
    · exact mvT hZ w1
    · exact mvT hZ w2
    · exact mvT hZ w3
    · exact mvT hZ w4
  have hA : XT.Arr .byte a cA T := ⟨by rw [eT]; exact A1.1, State.isArrayOf_alike (hZ.trans (t := s') X.warmed.wide).alike A1.2.1, A1.2.2, by omega⟩
  have hBt : XT.Arr .byte b cB T := ⟨by rw [eT]; exact B1.1, State.isArrayOf_alike (hZ.trans (t := s') X.warmed.wide).alike B1.2.1, B1.2.2, by omega⟩
  have hgo : XT.Goes .byte cA o m' cB T := fun j hj => by
    have e1 : cA.slots.getD (o + j) .null = .int (xs.getD (o + j) 0) := by
      rw [Array.getD_eq_getD_getElem?, A5 (o + j) (by omega)]; rfl
    rw [e1]
    exact ⟨A6 (o + j) (by omega), fun q => by cases q⟩
  obtain ⟨T', B', X', hput, c1, c2, c3, c4, stp⟩ := X.acopy hx hown hw hA hBt (by decide) (o := o) (q := q) (n := m') rfl rfl rfl (by omega) (by omega) hgo (g := mkF m pc Ls (.int (Int32.ofNat m') :: .int (Int32.ofNat q) :: .ref b :: .int (Int32.ofNat o) :: .ref a :: st)) rfl (hsz.trans hml.symm) (rest := st) rfl (hb hby hd) (W := W0) (by show 2 * 0 + _ ≤ _; omega) hfr hlo
  have hK : Keep h T'.heap [b] := by
    rw [← eT]
    refine ⟨Nat.le_of_eq hput.2.2.symm, fun x cx q r => hput.other (fun z => r (by simp [z])) q, fun x cx q => ?_⟩
    by_cases z : x = b
    · subst z
      cases q.symm.trans hBt.1
      exact ⟨B', hput.1, c1, c2, c3⟩
    · exact ⟨cx, hput.other z q, rfl, rfl, rfl⟩
  have hAr : Arr Z T'.heap b B' .byte := ⟨hput.1, by
    obtain ⟨z1, z2⟩ := B1.2.1
    exact ⟨by rw [c2]; exact z1, by rw [c1]; exact z2⟩, by rw [c2]; exact B1.2.2⟩
  have hl := laid_len h4 h5
  have hV : Arv Z T'.heap b ck' .byte (Int32.ofNat ys.length) ((laid xs ys o q m').map Value.int) (.int 0) := by
    have V := Arv.ofBytes (L := laid xs ys o q m') (ck := ck') (by omega) hAr (c1.trans B2) (by rw [c3, B3, hl]) (fun j hj => by
      rw [c4 j, laid_at h4 h5]
      by_cases z : q ≤ j ∧ j < q + m'
      · rw [if_pos z, if_pos z, Array.getD_eq_getD_getElem?, A5 _ (by omega)]; rfl
      · rw [if_neg z, if_neg z]; exact B5 j (by omega)) (fun j hj => by
      rw [laid_at h4 h5]
      by_cases z : q ≤ j ∧ j < q + m'
      · rw [if_pos z]; exact A6 _ (by omega)
      · rw [if_neg z]; exact B6 j (by omega))
    rw [hl] at V
    exact V
  obtain ⟨t, v, L, r, rr⟩ := W T'.heap hK hV p e s s' m args below meth c hx hby hml hown hnm hret hlk hZ (hB.keep hZ hK (fun u x hx => by cases List.mem_singleton.mp hx; exact hsf u)) hI T' _ X' (Fr.app N (fun y hy => by rw [copyLocs_base hy]; exact hb0)) rfl
  exact ⟨t, v, L, stp t r, rr⟩
end
end Jvm.OwnW

namespace Jvm.OwnW
open Sem ClassFile Op Lib Jvm.Stand Jvm.Free Jvm.LawKit Jvm.RoadKit
section
variable {wd : Bool} {l : Launch} {Z : State} {M : MD} {n0 : Nat} {Q : Option Value → Heap → Prop} {P : PX} {h : Heap} {k n pc pc' : Nat} {Ls Ls' : Array Slot} {st st' rest : List Value} {a0 : Array Value}
theorem own_same {y x7 z7 : MethodName} {C7 : String} (wd : (Cond.declares y).before a0 Z = true) (w7 : (Cond.selects C7 x7 z7).before a0 Z = true) (hz : z7.cls = y.cls) (hy : y.cls ≠ "java/lang/invoke/MethodHandle" ∧ y.cls ≠ "java/lang/invoke/VarHandle") : (Cond.sameMethod y.cls y.cls y.name y.desc).before a0 Z = true := by
  obtain ⟨m, meth, h1, -, -, -⟩ := Cond.declares_spec wd
  have hf := State.methodFound?_of_named h1 hy
  obtain ⟨kr, k1, k2⟩ := own_notFace w7 hz m h1
  have hc := findClass_of_methodNamed h1
  have h1' : Z.methodNamed? ⟨y.cls, y.name, y.desc⟩ = some m := h1
  simp [Cond.before, Cond.holds, Cond.value, hc, hf, h1', k1, k2]
theorem own_decl {y : MethodName} {bytes : ByteArray} {mx : Nat} {ret : Option FieldType} (w3 : (Cond.instanceMethod y).before a0 Z = true) (w5 : (Cond.code y bytes mx ret).before a0 Z = true) : (Cond.declares y).before a0 Z = true := by
  obtain ⟨mk, meth, hn, hm, hst, hab⟩ := Cond.instanceMethod_spec w3
  obtain ⟨m2, cM, q1, -, -, -, -, -, -, hsig⟩ := Cond.code_spec hn w5
  cases hm.symm.trans q1
  simp [Cond.before, Cond.holds, Cond.value, hn, hm, hst, hsig]
theorem shl0 (z : Int32) : z <<< ((0 : Int32) &&& 31) = z := by
  have h := c_ishl z 0 0 (by decide)
  have h1 := rng32 (z <<< ((0 : Int32) &&& 31)); have h2 := rng32 z
  refine Int32.toInt_inj.mp ?_
  simp only [Nat.pow_zero] at h
  omega
/-- a superclass's method by its contract -/
theorem k_callSuper {y : MD} {C : String} {i W0 : Nat} {a : Addr} {argsL : List Value} {Q' : Option Value → Heap → Prop} {ps : List FieldType} {r : Option FieldType} {C7 : String} {x7 z7 : MethodName} (hd : decode M.2.1 pc = .ok (.invokespecial i, 3)) (hp : pc + 3 = pc') (K : Mt l Z y [] n0 (.ref a :: argsL).toArray h Q') (hkp : Kp wd Z P h Q') (E : Exa Z h a C)
    (w1 : (Cond.methodLink M.1.cls i y.1).before a0 Z = true) (w2 : (Cond.declares y.1).before a0 Z = true) (w7 : (Cond.selects C7 x7 z7).before a0 Z = true) (hz7 : z7.cls = y.1.cls) (w3 : (Cond.instanceMethod y.1).before a0 Z = true) (w4 : (Cond.superclass M.1.cls y.1.cls).before a0 Z = true) (w5 : (Cond.code y.1 y.2.1 y.2.2.1 y.2.2.2.1).before a0 Z = true) (w6 : (Cond.initialized y.1.cls).before a0 Z = true) (hn : y.1.name ≠ "<init>") (hy : y.1.cls ≠ "java/lang/invoke/MethodHandle" ∧ y.1.cls ≠ "java/lang/invoke/VarHandle")
    (hpd : parseMethodDescriptor y.1.desc = some ⟨ps, r⟩) (hlen : argsL.length = ps.length) (hst : st = argsL.reverse ++ .ref a :: rest) (hsz : Ls.size = M.2.2.1) (hW : (rest.map fun v => v.category).sum = W0)
    (hfr : y.2.2.2.2.frames + 1 ≤ M.2.2.2.2.frames) (hlo : W0 + (y.2.2.1 + 11) + y.2.2.2.2.locals ≤ M.2.2.2.2.locals) (hc : k + y.2.2.2.2.cells ≤ M.2.2.2.2.cells) (hs : n + y.2.2.2.2.slots ≤ M.2.2.2.2.slots)
    (W : ∀ v h', h.size ≤ h'.size → Q' v h' → KW wd l Z M n0 Q (P.grow h h') h' (k + y.2.2.2.2.cells) (n + y.2.2.2.2.slots) pc' Ls (v.toList ++ rest)) : KW wd l Z M n0 Q P h k n pc Ls st := by
  intro p e s s' m args below meth c hx hby hml hown hnm hret hlk hZ hB hI T locs X N eT
  subst hp
  obtain ⟨v, _, ⟨T', L', k', n'⟩, -, X', ⟨Lc, ⟨q1, q2, q3⟩, l1, l2, l3⟩, stp⟩ := superBack X hx hZ (y := y.1) hown w1 (own_same w2 w7 hz7 hy) w3 w4 hn (backOf (W := W0) (Q := fun v h' L => Fr n0 L ∧ h.size ≤ h'.size ∧ Q' v h') K hZ w5 w6 hfr hlo) eT (Ins.self E) (g := mkF m pc Ls st) rfl (hsz.trans hml.symm) w5 (argsL := argsL) (rest := rest) (lenOf hpd hlen) hst (by show 2 * 0 + _ ≤ _; omega) (hb hby hd) (fun _ _ => ⟨rfl, eT, hc, hs⟩)
  dsimp only [Pt.U, Pt.locs, Pt.cells, Pt.slots] at X' l1 l2 l3 stp q2 q3
  subst l1 l2 l3
  obtain ⟨t, v', L, r, rr⟩ := W v T'.heap q2 q3 p e s s' m args below meth c hx hby hml hown hnm hret hlk hZ (hB.call hZ hkp q3) hI T' _ X' (Fr.app N q1) rfl
  exact ⟨t, v', L, stp.trans r, rr⟩
end
/-- a StringBuilder of Latin-1 signs: her bytes, and the array of N bytes -/
def Sb (Z : State) (h : Heap) (b d : Addr) (N : Nat) (bs : List Int32) : Prop := ∃ ck zs, Exa Z h b "java/lang/StringBuilder" ∧ Fld Z h b "java/lang/AbstractStringBuilder" "value" "[B" (.ref d) ∧ Fld Z h b "java/lang/AbstractStringBuilder" "coder" "B" (.int 0) ∧ Fld Z h b "java/lang/AbstractStringBuilder" "count" "I" (.int (Int32.ofNat bs.length)) ∧ Arv Z h d ck .byte (Int32.ofNat N) ((bs ++ zs).map Value.int) (.int 0) ∧ (bs ++ zs).length = N ∧ N < 2147483648
theorem Sb.lt {Z : State} {h : Heap} {b d : Addr} {N : Nat} {bs : List Int32} (S : Sb Z h b d N bs) : b < h.size := by obtain ⟨_, _, A, -⟩ := S; exact A.lt
theorem Sb.ltv {Z : State} {h : Heap} {b d : Addr} {N : Nat} {bs : List Int32} (S : Sb Z h b d N bs) : d < h.size := by obtain ⟨_, _, -, -, -, -, A, -⟩ := S; exact A.lt
theorem Sb.keep {Z : State} {h h' : Heap} {b d : Addr} {N : Nat} {bs : List Int32} {ws : List Addr} (S : Sb Z h b d N bs) (K : Keep h h' ws) (q : b ∉ ws) (r : d ∉ ws) : Sb Z h' b d N bs := by
  obtain ⟨ck, zs, A, B, C, D, E, F⟩ := S; exact ⟨ck, zs, A.keep K, B.keep K q, C.keep K q, D.keep K q, E.keep K r, F⟩
theorem Sb.ext {Z : State} {h h' : Heap} {b d : Addr} {N : Nat} {bs : List Int32} (S : Sb Z h b d N bs) (K : Ext h h') : Sb Z h' b d N bs := by
  obtain ⟨ck, zs, A, B, C, D, E, F⟩ := S; exact ⟨ck, zs, A.ext K, B.ext K, C.ext K, D.ext K, E.ext K, F⟩
theorem Sb.exa {Z : State} {h : Heap} {b d : Addr} {N : Nat} {bs : List Int32} (S : Sb Z h b d N bs) : Exa Z h b "java/lang/StringBuilder" := by obtain ⟨_, _, A, -⟩ := S; exact A
theorem ix_add (a b : Nat) : Int32.ofNat a + Int32.ofNat b = Int32.ofNat (a + b) := (Int32.ofNat_add a b).symm
theorem ix_room {a b : Nat} (hb : b < 2147483648) (h : a ≤ b) : ¬ (0 : Int32) < Int32.ofNat a - (Int32.ofNat b >>> ((0 : Int32) &&& 31)) := by
  have e : Int32.ofNat b >>> ((0 : Int32) &&& 31) = Int32.ofNat b := by
    have h := c_ishr (Int32.ofNat b) 0 0 (by decide)
    refine Int32.toInt_inj.mp ?_
    rw [h]; simp
  rw [e, Int32.lt_iff_toInt_lt]
  have h1 := c_isub (Int32.ofNat a) (Int32.ofNat b); have h2 := rng32 (Int32.ofNat a - Int32.ofNat b)
  rw [ix_int hb, ix_int (by omega)] at h1
  show ¬ (0 : Int) < _
  omega
/-- a text laid in behind the text -/
theorem laid_app (xs bs zs : List Int32) (h : xs.length ≤ zs.length) : laid xs (bs ++ zs) 0 bs.length xs.length = (bs ++ xs) ++ zs.drop xs.length := by
  unfold laid
  rw [List.take_left, List.drop_zero, List.take_length, List.drop_append]
  simp
end Jvm.OwnW

namespace Jvm.Pilot.@@N@@
open Jvm Jvm.ClassFile Sem Op Lib Jvm.Free Jvm.Stand Jvm.LawKit Jvm.RoadKit Bundle Jvm.OwnW Jvm.Pilot.@@N@@.Jvm.D

abbrev EL : List (String × Nat) := consts_1
theorem own_wS (Z : State) (a0 : Array Value) (hw : ∀ d ∈ tables_1, d.before a0 Z = true) : ∀ a ∈ Bundle.stringAtoms, a.before a0 Z = true := by
  intro a ha
  simp only [Bundle.stringAtoms, List.mem_cons, List.not_mem_nil, or_false] at ha
  rcases ha with rfl | rfl | rfl | rfl | rfl | rfl | rfl
  · exact (hw _ (List.mem_of_getElem? (i := 8) rfl))
  · exact (hw _ (List.mem_of_getElem? (i := 9) rfl))
  · exact (hw _ (List.mem_of_getElem? (i := 10) rfl))
  · exact (hw _ (List.mem_of_getElem? (i := 11) rfl))
  · exact (hw _ (List.mem_of_getElem? (i := 12) rfl))
  · exact (hw _ (List.mem_of_getElem? (i := 13) rfl))
  · exact (hw _ (List.mem_of_getElem? (i := 14) rfl))
abbrev M_cdr : MD := ((⟨"java/lang/String", "coder", "()B"⟩ : MethodName), jdk_42_method_152_code, 1, (some .byte), { frames := 0, cells := 0, slots := 0, locals := 0 })
theorem d_cdr_0 : decode jdk_42_method_152_code 0 = .ok (.getstatic 38, 3) := by decide +kernel
theorem d_cdr_3 : decode jdk_42_method_152_code 3 = .ok (.ifCond .eq 10, 3) := by decide +kernel
theorem d_cdr_6 : decode jdk_42_method_152_code 6 = .ok (.aload_n 0, 1) := by decide +kernel
theorem d_cdr_7 : decode jdk_42_method_152_code 7 = .ok (.getfield 15, 3) := by decide +kernel
theorem d_cdr_10 : decode jdk_42_method_152_code 10 = .ok (.goto 4, 3) := by decide +kernel
theorem d_cdr_13 : decode jdk_42_method_152_code 13 = .ok (.iconst 1, 1) := by decide +kernel
theorem d_cdr_14 : decode jdk_42_method_152_code 14 = .ok (.ireturn, 1) := by decide +kernel
theorem pd_cdr : parseMethodDescriptor "()B" = some ⟨[], (some .byte)⟩ := by decide +kernel
theorem pf_cdr : plainFor (⟨"java/lang/String", "coder", "()B"⟩ : MethodName) = true := by first | exact plainFor_of_name (by first | (simp [plainName, overriddenIn]; done) | decide +kernel) | decide +kernel
set_option maxRecDepth 65536 in
set_option maxHeartbeats 40000000 in
theorem kw_cdr (l : Launch) (Z : State) (a0 : Array Value) (hw : ∀ d ∈ tables_1, d.before a0 Z = true) (cs : Int32) (hcs : ¬ cs = 0) (SC : Sta Z Z.heap "java/lang/String" "COMPACT_STRINGS" "Z" (.int cs)) (hEW : EW Z a0 EL) (a t : Addr) (bs : List Int32) (h0 : Heap) (n0 : Nat) (OD : Old Z n0 h0) (SA : Sg Z h0 a t bs) : KW false l Z M_cdr n0 (fun v h => v = some (.int 0) ∧ h0 = h) ([], fun _ => False) h0 0 0 0 #[.val (.ref a)] [] := by
  obtain ⟨ckA, EA, CA, VA, AA, lA⟩ := id SA
  refine k_getStatic d_cdr_0 rfl (hw _ (List.mem_of_getElem? (i := 58) rfl)) (Sta.ext OD.2 SC) ?_
  refine k_ifc (pc1 := 13) (pc' := 6) d_cdr_3 (by decide) (by decide) rfl (fun (cd1 : cs = (0 : Int32)) => False.elim (by exact hcs cd1)) (fun (cd1 : ¬ cs = (0 : Int32)) => ?_)
  refine k_aloadN d_cdr_6 rfl rfl rfl ?_
  refine k_getField d_cdr_7 rfl (hw _ (List.mem_of_getElem? (i := 73) rfl)) Via.refl CA ?_
  refine k_goto (pc' := 14) d_cdr_10 (by decide) (by decide) ?_
  exact k_retNar d_cdr_14 rfl (by simp) (z' := (0 : Int32)) (by decide) (by decide) (by decide) ⟨rfl, rfl⟩
theorem mt_cdr (l : Launch) (Z : State) (a0 : Array Value) (hw : ∀ d ∈ tables_1, d.before a0 Z = true) (cs : Int32) (hcs : ¬ cs = 0) (SC : Sta Z Z.heap "java/lang/String" "COMPACT_STRINGS" "Z" (.int cs)) (hEW : EW Z a0 EL) (a t : Addr) (bs : List Int32) (h0 : Heap) (n0 : Nat) (OD : Old Z n0 h0) (SA : Sg Z h0 a t bs) : Mt l Z M_cdr [] n0 #[(.ref a)] h0 (fun v h => v = some (.int 0) ∧ h0 = h) :=
  mt_of_kw (P := ([], fun _ => False)) pf_cdr (fun m => by first | (simp [entryFrame, mkF, argsToLocals, Value.category]; done) | rfl) (kw_cdr l Z a0 hw cs hcs SC hEW a t bs h0 n0 OD SA)
abbrev M_isl : MD := ((⟨"java/lang/String", "isLatin1", "()Z"⟩ : MethodName), jdk_42_method_154_code, 1, (some .boolean), { frames := 0, cells := 0, slots := 0, locals := 0 })
theorem d_isl_0 : decode jdk_42_method_154_code 0 = .ok (.getstatic 38, 3) := by decide +kernel
theorem d_isl_3 : decode jdk_42_method_154_code 3 = .ok (.ifCond .eq 14, 3) := by decide +kernel
theorem d_isl_6 : decode jdk_42_method_154_code 6 = .ok (.aload_n 0, 1) := by decide +kernel
theorem d_isl_7 : decode jdk_42_method_154_code 7 = .ok (.getfield 15, 3) := by decide +kernel
theorem d_isl_10 : decode jdk_42_method_154_code 10 = .ok (.ifCond .ne 7, 3) := by decide +kernel
theorem d_isl_13 : decode jdk_42_method_154_code 13 = .ok (.iconst 1, 1) := by decide +kernel
theorem d_isl_14 : decode jdk_42_method_154_code 14 = .ok (.goto 4, 3) := by decide +kernel
theorem d_isl_17 : decode jdk_42_method_154_code 17 = .ok (.iconst 0, 1) := by decide +kernel
theorem d_isl_18 : decode jdk_42_method_154_code 18 = .ok (.ireturn, 1) := by decide +kernel
theorem pd_isl : parseMethodDescriptor "()Z" = some ⟨[], (some .boolean)⟩ := by decide +kernel
theorem pf_isl : plainFor (⟨"java/lang/String", "isLatin1", "()Z"⟩ : MethodName) = true := by first | exact plainFor_of_name (by first | (simp [plainName, overriddenIn]; done) | decide +kernel) | decide +kernel
set_option maxRecDepth 65536 in
set_option maxHeartbeats 40000000 in
theorem kw_isl (l : Launch) (Z : State) (a0 : Array Value) (hw : ∀ d ∈ tables_1, d.before a0 Z = true) (cs : Int32) (hcs : ¬ cs = 0) (SC : Sta Z Z.heap "java/lang/String" "COMPACT_STRINGS" "Z" (.int cs)) (hEW : EW Z a0 EL) (a t : Addr) (bs : List Int32) (h0 : Heap) (n0 : Nat) (OD : Old Z n0 h0) (SA : Sg Z h0 a t bs) : KW false l Z M_isl n0 (fun v h => v = some (.int 1) ∧ h0 = h) ([], fun _ => False) h0 0 0 0 #[.val (.ref a)] [] := by
  obtain ⟨ckA, EA, CA, VA, AA, lA⟩ := id SA
  refine k_getStatic d_isl_0 rfl (hw _ (List.mem_of_getElem? (i := 58) rfl)) (Sta.ext OD.2 SC) ?_
  refine k_ifc (pc1 := 17) (pc' := 6) d_isl_3 (by decide) (by decide) rfl (fun (cd1 : cs = (0 : Int32)) => False.elim (by exact hcs cd1)) (fun (cd1 : ¬ cs = (0 : Int32)) => ?_)
  refine k_aloadN d_isl_6 rfl rfl rfl ?_
  refine k_getField d_isl_7 rfl (hw _ (List.mem_of_getElem? (i := 73) rfl)) Via.refl CA ?_
  refine k_ifc (pc1 := 17) (pc' := 13) d_isl_10 (by decide) (by decide) rfl (fun (cd2 : ¬ (0 : Int32) = (0 : Int32)) => False.elim (by exact absurd cd2 (by decide))) (fun (cd2 : (0 : Int32) = (0 : Int32)) => ?_)
  refine k_iconst (z := (1 : Int32)) d_isl_13 rfl (by decide) ?_
  refine k_goto (pc' := 18) d_isl_14 (by decide) (by decide) ?_
  exact k_retNar d_isl_18 rfl (by simp) (z' := (1 : Int32)) (by decide) (by decide) (by decide) ⟨rfl, rfl⟩
theorem mt_isl (l : Launch) (Z : State) (a0 : Array Value) (hw : ∀ d ∈ tables_1, d.before a0 Z = true) (cs : Int32) (hcs : ¬ cs = 0) (SC : Sta Z Z.heap "java/lang/String" "COMPACT_STRINGS" "Z" (.int cs)) (hEW : EW Z a0 EL) (a t : Addr) (bs : List Int32) (h0 : Heap) (n0 : Nat) (OD : Old Z n0 h0) (SA : Sg Z h0 a t bs) : Mt l Z M_isl [] n0 #[(.ref a)] h0 (fun v h => v = some (.int 1) ∧ h0 = h) :=
  mt_of_kw (P := ([], fun _ => False)) pf_isl (fun m => by first | (simp [entryFrame, mkF, argsToLocals, Value.category]; done) | rfl) (kw_isl l Z a0 hw cs hcs SC hEW a t bs h0 n0 OD SA)
theorem shr0 (z : Int32) : z >>> ((0 : Int32) &&& 31) = z := by
  have h := c_ishr z 0 0 (by decide)
  refine Int32.toInt_inj.mp ?_
  rw [h]; simp
abbrev M_len : MD := ((⟨"java/lang/String", "length", "()I"⟩ : MethodName), jdk_42_method_54_code, 1, (some .int), { frames := 1, cells := 0, slots := 0, locals := 16 })
theorem d_len_0 : decode jdk_42_method_54_code 0 = .ok (.aload_n 0, 1) := by decide +kernel
theorem d_len_1 : decode jdk_42_method_54_code 1 = .ok (.getfield 9, 3) := by decide +kernel
theorem d_len_4 : decode jdk_42_method_54_code 4 = .ok (.arraylength, 1) := by decide +kernel
theorem d_len_5 : decode jdk_42_method_54_code 5 = .ok (.aload_n 0, 1) := by decide +kernel
theorem d_len_6 : decode jdk_42_method_54_code 6 = .ok (.invokevirtual 335, 3) := by decide +kernel
theorem d_len_9 : decode jdk_42_method_54_code 9 = .ok (.ishr, 1) := by decide +kernel
theorem d_len_10 : decode jdk_42_method_54_code 10 = .ok (.ireturn, 1) := by decide +kernel
theorem pd_len : parseMethodDescriptor "()I" = some ⟨[], (some .int)⟩ := by decide +kernel
theorem pf_len : plainFor (⟨"java/lang/String", "length", "()I"⟩ : MethodName) = true := by first | exact plainFor_of_name (by first | (simp [plainName, overriddenIn]; done) | decide +kernel) | decide +kernel
set_option maxRecDepth 65536 in
set_option maxHeartbeats 40000000 in
theorem kw_len (l : Launch) (Z : State) (a0 : Array Value) (hw : ∀ d ∈ tables_1, d.before a0 Z = true) (cs : Int32) (hcs : ¬ cs = 0) (SC : Sta Z Z.heap "java/lang/String" "COMPACT_STRINGS" "Z" (.int cs)) (hEW : EW Z a0 EL) (a t : Addr) (bs : List Int32) (h0 : Heap) (n0 : Nat) (OD : Old Z n0 h0) (SA : Sg Z h0 a t bs) : KW false l Z M_len n0 (fun v h => v = some (.int (Int32.ofNat bs.length)) ∧ h0 = h) ([], fun _ => False) h0 0 0 0 #[.val (.ref a)] [] := by
  obtain ⟨ckA, EA, CA, VA, AA, lA⟩ := id SA
  refine k_aloadN d_len_0 rfl rfl rfl ?_
  refine k_getField d_len_1 rfl (hw _ (List.mem_of_getElem? (i := 72) rfl)) Via.refl VA ?_
  refine k_arrlen d_len_4 rfl AA ?_
  refine k_aloadN d_len_5 rfl rfl rfl ?_
  refine k_callVirtual (argsL := []) (rest := [(.int (Int32.ofNat bs.length))]) (W0 := 1) d_len_6 rfl (mt_cdr l Z a0 hw cs hcs SC hEW a t bs h0 n0 OD SA) Kp.strict EA (hw _ (List.mem_of_getElem? (i := 110) rfl)) (hw _ (List.mem_of_getElem? (i := 111) rfl)) (hw _ (List.mem_of_getElem? (i := 113) rfl)) (hw _ (List.mem_of_getElem? (i := 108) rfl)) rfl (hw _ (List.mem_of_getElem? (i := 112) rfl)) (hw _ (List.mem_of_getElem? (i := 114) rfl)) (hw _ (List.mem_of_getElem? (i := 8) rfl)) (by decide) pd_cdr rfl rfl rfl rfl (by decide) (by decide) (by decide) (by decide) ?_
  rintro _ _ - ⟨rfl, rfl⟩
  refine KW.any (P' := ([], fun _ => False)) ?_
  show KW false l Z M_len n0 (fun v h => v = some (.int (Int32.ofNat bs.length)) ∧ h0 = h) ([], fun _ => False) h0 0 0 9 #[.val (.ref a)] [(.int (0 : Int32)), (.int (Int32.ofNat bs.length))]
  refine k_ishr d_len_9 rfl ?_
  exact k_retInt d_len_10 rfl (by decide) (by decide) ⟨by rw [shr0], rfl⟩
theorem mt_len (l : Launch) (Z : State) (a0 : Array Value) (hw : ∀ d ∈ tables_1, d.before a0 Z = true) (cs : Int32) (hcs : ¬ cs = 0) (SC : Sta Z Z.heap "java/lang/String" "COMPACT_STRINGS" "Z" (.int cs)) (hEW : EW Z a0 EL) (a t : Addr) (bs : List Int32) (h0 : Heap) (n0 : Nat) (OD : Old Z n0 h0) (SA : Sg Z h0 a t bs) : Mt l Z M_len [] n0 #[(.ref a)] h0 (fun v h => v = some (.int (Int32.ofNat bs.length)) ∧ h0 = h) :=
  mt_of_kw (P := ([], fun _ => False)) pf_len (fun m => by first | (simp [entryFrame, mkF, argsToLocals, Value.category]; done) | rfl) (kw_len l Z a0 hw cs hcs SC hEW a t bs h0 n0 OD SA)
abbrev M_pci : MD := ((⟨"jdk/internal/util/Preconditions", "checkIndex", "(IILjava/util/function/BiFunction;)I"⟩ : MethodName), jdk_41_method_11_code, 3, (some .int), { frames := 0, cells := 0, slots := 0, locals := 0 })
theorem d_pci_0 : decode jdk_41_method_11_code 0 = .ok (.iload_n 0, 1) := by decide +kernel
theorem d_pci_1 : decode jdk_41_method_11_code 1 = .ok (.ifCond .lt 8, 3) := by decide +kernel
theorem d_pci_4 : decode jdk_41_method_11_code 4 = .ok (.iload_n 0, 1) := by decide +kernel
theorem d_pci_5 : decode jdk_41_method_11_code 5 = .ok (.iload_n 1, 1) := by decide +kernel
theorem d_pci_6 : decode jdk_41_method_11_code 6 = .ok (.if_icmp .lt 10, 3) := by decide +kernel
theorem d_pci_9 : decode jdk_41_method_11_code 9 = .ok (.aload_n 2, 1) := by decide +kernel
theorem d_pci_10 : decode jdk_41_method_11_code 10 = .ok (.iload_n 0, 1) := by decide +kernel
theorem d_pci_11 : decode jdk_41_method_11_code 11 = .ok (.iload_n 1, 1) := by decide +kernel
theorem d_pci_12 : decode jdk_41_method_11_code 12 = .ok (.invokestatic 95, 3) := by decide +kernel
theorem d_pci_15 : decode jdk_41_method_11_code 15 = .ok (.athrow, 1) := by decide +kernel
theorem d_pci_16 : decode jdk_41_method_11_code 16 = .ok (.iload_n 0, 1) := by decide +kernel
theorem d_pci_17 : decode jdk_41_method_11_code 17 = .ok (.ireturn, 1) := by decide +kernel
theorem pd_pci : parseMethodDescriptor "(IILjava/util/function/BiFunction;)I" = some ⟨[.int, .int, (.object "java/util/function/BiFunction")], (some .int)⟩ := by decide +kernel
theorem pf_pci : plainFor (⟨"jdk/internal/util/Preconditions", "checkIndex", "(IILjava/util/function/BiFunction;)I"⟩ : MethodName) = true := by first | exact plainFor_of_name (by first | (simp [plainName, overriddenIn]; done) | decide +kernel) | decide +kernel
set_option maxRecDepth 65536 in
set_option maxHeartbeats 40000000 in
theorem kw_pci (l : Launch) (Z : State) (a0 : Array Value) (hw : ∀ d ∈ tables_1, d.before a0 Z = true) (cs : Int32) (hcs : ¬ cs = 0) (SC : Sta Z Z.heap "java/lang/String" "COMPACT_STRINGS" "Z" (.int cs)) (hEW : EW Z a0 EL) (j z : Int32) (w : Value) (hwr : w.isRef = true) (h0 : Heap) (n0 : Nat) (hj : ¬ j < 0 ∧ j < z) : KW false l Z M_pci n0 (fun v h => v = some (.int j) ∧ h0 = h) ([], fun _ => False) h0 0 0 0 #[.val (.int j), .val (.int z), .val w] [] := by
  refine k_iloadN d_pci_0 rfl rfl ?_
  refine k_ifc (pc1 := 9) (pc' := 4) d_pci_1 (by decide) (by decide) rfl (fun (cd1 : j < (0 : Int32)) => False.elim (by exact hj.1 cd1)) (fun (cd1 : ¬ j < (0 : Int32)) => ?_)
  refine k_iloadN d_pci_4 rfl rfl ?_
  refine k_iloadN d_pci_5 rfl rfl ?_
  refine k_icmp (pc1 := 16) (pc' := 9) d_pci_6 (by decide) (by decide) rfl (fun (cd2 : j < z) => ?_) (fun (cd2 : ¬ j < z) => False.elim (by exact cd2 hj.2))
  refine k_iloadN d_pci_16 rfl rfl ?_
  exact k_retInt d_pci_17 rfl (by decide) (by decide) ⟨rfl, rfl⟩
theorem mt_pci (l : Launch) (Z : State) (a0 : Array Value) (hw : ∀ d ∈ tables_1, d.before a0 Z = true) (cs : Int32) (hcs : ¬ cs = 0) (SC : Sta Z Z.heap "java/lang/String" "COMPACT_STRINGS" "Z" (.int cs)) (hEW : EW Z a0 EL) (j z : Int32) (w : Value) (hwr : w.isRef = true) (h0 : Heap) (n0 : Nat) (hj : ¬ j < 0 ∧ j < z) : Mt l Z M_pci [] n0 #[(.int j), (.int z), w] h0 (fun v h => v = some (.int j) ∧ h0 = h) :=
  mt_of_kw (P := ([], fun _ => False)) pf_pci (fun m => by rcases ref_cases hwr with rfl | ⟨_, rfl⟩ <;> first | (simp [entryFrame, mkF, argsToLocals, Value.category]; done) | rfl) (kw_pci l Z a0 hw cs hcs SC hEW j z w hwr h0 n0 hj)
abbrev M_sci : MD := ((⟨"java/lang/String", "checkIndex", "(II)V"⟩ : MethodName), jdk_42_method_155_code, 2, none, { frames := 1, cells := 0, slots := 0, locals := 16 })
theorem d_sci_0 : decode jdk_42_method_155_code 0 = .ok (.iload_n 0, 1) := by decide +kernel
theorem d_sci_1 : decode jdk_42_method_155_code 1 = .ok (.iload_n 1, 1) := by decide +kernel
theorem d_sci_2 : decode jdk_42_method_155_code 2 = .ok (.getstatic 1053, 3) := by decide +kernel
theorem d_sci_5 : decode jdk_42_method_155_code 5 = .ok (.invokestatic 1059, 3) := by decide +kernel
theorem d_sci_8 : decode jdk_42_method_155_code 8 = .ok (.pop, 1) := by decide +kernel
theorem d_sci_9 : decode jdk_42_method_155_code 9 = .ok (.return_, 1) := by decide +kernel
theorem pd_sci : parseMethodDescriptor "(II)V" = some ⟨[.int, .int], none⟩ := by decide +kernel
theorem pf_sci : plainFor (⟨"java/lang/String", "checkIndex", "(II)V"⟩ : MethodName) = true := by first | exact plainFor_of_name (by first | (simp [plainName, overriddenIn]; done) | decide +kernel) | decide +kernel
set_option maxRecDepth 65536 in
set_option maxHeartbeats 40000000 in
theorem kw_sci (l : Launch) (Z : State) (a0 : Array Value) (hw : ∀ d ∈ tables_1, d.before a0 Z = true) (cs : Int32) (hcs : ¬ cs = 0) (SC : Sta Z Z.heap "java/lang/String" "COMPACT_STRINGS" "Z" (.int cs)) (hEW : EW Z a0 EL) (sio : Value) (SIO : Sta Z Z.heap "jdk/internal/util/Preconditions" "SIOOBE_FORMATTER" "Ljava/util/function/BiFunction;" sio) (hsio : sio.isRef = true) (j z : Int32) (h0 : Heap) (n0 : Nat) (OD : Old Z n0 h0) (hj : ¬ j < 0 ∧ j < z) : KW false l Z M_sci n0 (fun v h => v = none ∧ h0 = h) ([], fun _ => False) h0 0 0 0 #[.val (.int j), .val (.int z)] [] := by
  refine k_iloadN d_sci_0 rfl rfl ?_
  refine k_iloadN d_sci_1 rfl rfl ?_
  refine k_getStatic d_sci_2 rfl (hw _ (List.mem_of_getElem? (i := 228) rfl)) (Sta.ext OD.2 SIO) ?_
  refine k_callStatic (argsL := [(.int j), (.int z), sio]) (rest := []) (W0 := 0) d_sci_5 rfl (mt_pci l Z a0 hw cs hcs SC hEW j z sio hsio h0 n0 hj) Kp.strict (hw _ (List.mem_of_getElem? (i := 230) rfl)) (hw _ (List.mem_of_getElem? (i := 231) rfl)) (hw _ (List.mem_of_getElem? (i := 229) rfl)) (hw _ (List.mem_of_getElem? (i := 232) rfl)) (by decide) pd_pci rfl rfl rfl rfl (by decide) (by decide) (by decide) (by decide) ?_
  rintro _ _ - ⟨rfl, rfl⟩
  refine KW.any (P' := ([], fun _ => False)) ?_
  show KW false l Z M_sci n0 (fun v h => v = none ∧ h0 = h) ([], fun _ => False) h0 0 0 8 #[.val (.int j), .val (.int z)] [(.int j)]
  refine k_pop d_sci_8 rfl rfl ?_
  exact k_retVoid d_sci_9 rfl (by decide) (by decide) ⟨rfl, rfl⟩
theorem mt_sci (l : Launch) (Z : State) (a0 : Array Value) (hw : ∀ d ∈ tables_1, d.before a0 Z = true) (cs : Int32) (hcs : ¬ cs = 0) (SC : Sta Z Z.heap "java/lang/String" "COMPACT_STRINGS" "Z" (.int cs)) (hEW : EW Z a0 EL) (sio : Value) (SIO : Sta Z Z.heap "jdk/internal/util/Preconditions" "SIOOBE_FORMATTER" "Ljava/util/function/BiFunction;" sio) (hsio : sio.isRef = true) (j z : Int32) (h0 : Heap) (n0 : Nat) (OD : Old Z n0 h0) (hj : ¬ j < 0 ∧ j < z) : Mt l Z M_sci [] n0 #[(.int j), (.int z)] h0 (fun v h => v = none ∧ h0 = h) :=
  mt_of_kw (P := ([], fun _ => False)) pf_sci (fun m => by first | (simp [entryFrame, mkF, argsToLocals, Value.category]; done) | rfl) (kw_sci l Z a0 hw cs hcs SC hEW sio SIO hsio j z h0 n0 OD hj)
abbrev chB (b : Int32) : Int32 := UInt32.toInt32 (UInt16.toUInt32 (UInt32.toUInt16 (Int32.toUInt32 (b &&& (255 : Int32)))))
theorem chB_nar (b : Int32) : nar .char (chB b) = chB b := by
  have h1 := c_i2c (b &&& (255 : Int32)); have h2 := c_i2c (chB b)
  refine Int32.toInt_inj.mp ?_
  show (UInt32.toInt32 (UInt16.toUInt32 (UInt32.toUInt16 (Int32.toUInt32 (chB b))))).toInt = (chB b).toInt
  unfold chB at *
  omega
abbrev M_lca : MD := ((⟨"java/lang/StringLatin1", "charAt", "([BI)C"⟩ : MethodName), jdk_43_method_2_code, 2, (some .char), { frames := 2, cells := 0, slots := 0, locals := 32 })
theorem d_lca_0 : decode jdk_43_method_2_code 0 = .ok (.iload_n 1, 1) := by decide +kernel
theorem d_lca_1 : decode jdk_43_method_2_code 1 = .ok (.aload_n 0, 1) := by decide +kernel
theorem d_lca_2 : decode jdk_43_method_2_code 2 = .ok (.arraylength, 1) := by decide +kernel
theorem d_lca_3 : decode jdk_43_method_2_code 3 = .ok (.invokestatic 9, 3) := by decide +kernel
theorem d_lca_6 : decode jdk_43_method_2_code 6 = .ok (.aload_n 0, 1) := by decide +kernel
theorem d_lca_7 : decode jdk_43_method_2_code 7 = .ok (.iload_n 1, 1) := by decide +kernel
theorem d_lca_8 : decode jdk_43_method_2_code 8 = .ok (.baload, 1) := by decide +kernel
theorem d_lca_9 : decode jdk_43_method_2_code 9 = .ok (.sipush 255, 3) := by decide +kernel
theorem d_lca_12 : decode jdk_43_method_2_code 12 = .ok (.iand, 1) := by decide +kernel
theorem d_lca_13 : decode jdk_43_method_2_code 13 = .ok (.i2c, 1) := by decide +kernel
theorem d_lca_14 : decode jdk_43_method_2_code 14 = .ok (.ireturn, 1) := by decide +kernel
theorem pd_lca : parseMethodDescriptor "([BI)C" = some ⟨[(.array .byte), .int], (some .char)⟩ := by decide +kernel
theorem pf_lca : plainFor (⟨"java/lang/StringLatin1", "charAt", "([BI)C"⟩ : MethodName) = true := by first | exact plainFor_of_name (by first | (simp [plainName, overriddenIn]; done) | decide +kernel) | decide +kernel
set_option maxRecDepth 65536 in
set_option maxHeartbeats 40000000 in
theorem kw_lca (l : Launch) (Z : State) (a0 : Array Value) (hw : ∀ d ∈ tables_1, d.before a0 Z = true) (cs : Int32) (hcs : ¬ cs = 0) (SC : Sta Z Z.heap "java/lang/String" "COMPACT_STRINGS" "Z" (.int cs)) (hEW : EW Z a0 EL) (sio : Value) (SIO : Sta Z Z.heap "jdk/internal/util/Preconditions" "SIOOBE_FORMATTER" "Ljava/util/function/BiFunction;" sio) (hsio : sio.isRef = true) (t : Addr) (ck : ClassId) (j z b : Int32) (vs : List Value) (dv : Value) (h0 : Heap) (n0 : Nat) (OD : Old Z n0 h0) (hj : ¬ j < 0 ∧ j < z) (A : Arv Z h0 t ck .byte z vs dv) (hv : vs.getD j.toNatClampNeg dv = .int b) : KW false l Z M_lca n0 (fun v h => v = some (.int (chB b)) ∧ h0 = h) ([], fun _ => False) h0 0 0 0 #[.val (.ref t), .val (.int j)] [] := by
  refine k_iloadN d_lca_0 rfl rfl ?_
  refine k_aloadN d_lca_1 rfl rfl rfl ?_
  refine k_arrlen d_lca_2 rfl A ?_
  refine k_callStatic (argsL := [(.int j), (.int z)]) (rest := []) (W0 := 0) d_lca_3 rfl (mt_sci l Z a0 hw cs hcs SC hEW sio SIO hsio j z h0 n0 OD hj) Kp.strict (hw _ (List.mem_of_getElem? (i := 225) rfl)) (hw _ (List.mem_of_getElem? (i := 226) rfl)) (hw _ (List.mem_of_getElem? (i := 8) rfl)) (hw _ (List.mem_of_getElem? (i := 227) rfl)) (by decide) pd_sci rfl rfl rfl rfl (by decide) (by decide) (by decide) (by decide) ?_
  rintro _ _ - ⟨rfl, rfl⟩
  refine KW.any (P' := ([], fun _ => False)) ?_
  show KW false l Z M_lca n0 (fun v h => v = some (.int (chB b)) ∧ h0 = h) ([], fun _ => False) h0 0 0 6 #[.val (.ref t), .val (.int j)] []
  refine k_aloadN d_lca_6 rfl rfl rfl ?_
  refine k_iloadN d_lca_7 rfl rfl ?_
  refine k_baload (v := (.int b)) d_lca_8 rfl A hj hv ?_
  refine k_sipush (z := (255 : Int32)) d_lca_9 rfl (by decide) ?_
  refine k_iand d_lca_12 rfl ?_
  refine k_i2c d_lca_13 rfl ?_
  exact k_retNar d_lca_14 rfl (by simp) (z' := chB b) (chB_nar b) (by decide) (by decide) ⟨rfl, rfl⟩
theorem mt_lca (l : Launch) (Z : State) (a0 : Array Value) (hw : ∀ d ∈ tables_1, d.before a0 Z = true) (cs : Int32) (hcs : ¬ cs = 0) (SC : Sta Z Z.heap "java/lang/String" "COMPACT_STRINGS" "Z" (.int cs)) (hEW : EW Z a0 EL) (sio : Value) (SIO : Sta Z Z.heap "jdk/internal/util/Preconditions" "SIOOBE_FORMATTER" "Ljava/util/function/BiFunction;" sio) (hsio : sio.isRef = true) (t : Addr) (ck : ClassId) (j z b : Int32) (vs : List Value) (dv : Value) (h0 : Heap) (n0 : Nat) (OD : Old Z n0 h0) (hj : ¬ j < 0 ∧ j < z) (A : Arv Z h0 t ck .byte z vs dv) (hv : vs.getD j.toNatClampNeg dv = .int b) : Mt l Z M_lca [] n0 #[(.ref t), (.int j)] h0 (fun v h => v = some (.int (chB b)) ∧ h0 = h) :=
  mt_of_kw (P := ([], fun _ => False)) pf_lca (fun m => by first | (simp [entryFrame, mkF, argsToLocals, Value.category]; done) | rfl) (kw_lca l Z a0 hw cs hcs SC hEW sio SIO hsio t ck j z b vs dv h0 n0 OD hj A hv)
abbrev M_sca : MD := ((⟨"java/lang/String", "charAt", "(I)C"⟩ : MethodName), jdk_42_method_56_code, 2, (some .char), { frames := 3, cells := 0, slots := 0, locals := 48 })
theorem d_sca_0 : decode jdk_42_method_56_code 0 = .ok (.aload_n 0, 1) := by decide +kernel
theorem d_sca_1 : decode jdk_42_method_56_code 1 = .ok (.invokevirtual 492, 3) := by decide +kernel
theorem d_sca_4 : decode jdk_42_method_56_code 4 = .ok (.ifCond .eq 12, 3) := by decide +kernel
theorem d_sca_7 : decode jdk_42_method_56_code 7 = .ok (.aload_n 0, 1) := by decide +kernel
theorem d_sca_8 : decode jdk_42_method_56_code 8 = .ok (.getfield 9, 3) := by decide +kernel
theorem d_sca_11 : decode jdk_42_method_56_code 11 = .ok (.iload_n 1, 1) := by decide +kernel
theorem d_sca_12 : decode jdk_42_method_56_code 12 = .ok (.invokestatic 495, 3) := by decide +kernel
theorem d_sca_15 : decode jdk_42_method_56_code 15 = .ok (.ireturn, 1) := by decide +kernel
theorem d_sca_16 : decode jdk_42_method_56_code 16 = .ok (.aload_n 0, 1) := by decide +kernel
theorem d_sca_17 : decode jdk_42_method_56_code 17 = .ok (.getfield 9, 3) := by decide +kernel
theorem d_sca_20 : decode jdk_42_method_56_code 20 = .ok (.iload_n 1, 1) := by decide +kernel
theorem d_sca_21 : decode jdk_42_method_56_code 21 = .ok (.invokestatic 498, 3) := by decide +kernel
theorem d_sca_24 : decode jdk_42_method_56_code 24 = .ok (.ireturn, 1) := by decide +kernel
theorem pd_sca : parseMethodDescriptor "(I)C" = some ⟨[.int], (some .char)⟩ := by decide +kernel
theorem pf_sca : plainFor (⟨"java/lang/String", "charAt", "(I)C"⟩ : MethodName) = true := by first | exact plainFor_of_name (by first | (simp [plainName, overriddenIn]; done) | decide +kernel) | decide +kernel
set_option maxRecDepth 65536 in
set_option maxHeartbeats 40000000 in
theorem kw_sca (l : Launch) (Z : State) (a0 : Array Value) (hw : ∀ d ∈ tables_1, d.before a0 Z = true) (cs : Int32) (hcs : ¬ cs = 0) (SC : Sta Z Z.heap "java/lang/String" "COMPACT_STRINGS" "Z" (.int cs)) (hEW : EW Z a0 EL) (sio : Value) (SIO : Sta Z Z.heap "jdk/internal/util/Preconditions" "SIOOBE_FORMATTER" "Ljava/util/function/BiFunction;" sio) (hsio : sio.isRef = true) (j b : Int32) (a t : Addr) (bs : List Int32) (h0 : Heap) (n0 : Nat) (OD : Old Z n0 h0) (SA : Sg Z h0 a t bs) (hj : ¬ j < 0 ∧ j < Int32.ofNat bs.length) (hv : (bs.map Value.int).getD j.toNatClampNeg (.int 0) = .int b) : KW false l Z M_sca n0 (fun v h => v = some (.int (chB b)) ∧ h0 = h) ([], fun _ => False) h0 0 0 0 #[.val (.ref a), .val (.int j)] [] := by
  obtain ⟨ckA, EA, CA, VA, AA, lA⟩ := id SA
  refine k_aloadN d_sca_0 rfl rfl rfl ?_
  refine k_callVirtual (argsL := []) (rest := []) (W0 := 0) d_sca_1 rfl (mt_isl l Z a0 hw cs hcs SC hEW a t bs h0 n0 OD SA) Kp.strict EA (hw _ (List.mem_of_getElem? (i := 217) rfl)) (hw _ (List.mem_of_getElem? (i := 218) rfl)) (hw _ (List.mem_of_getElem? (i := 220) rfl)) (hw _ (List.mem_of_getElem? (i := 108) rfl)) rfl (hw _ (List.mem_of_getElem? (i := 219) rfl)) (hw _ (List.mem_of_getElem? (i := 221) rfl)) (hw _ (List.mem_of_getElem? (i := 8) rfl)) (by decide) pd_isl rfl rfl rfl rfl (by decide) (by decide) (by decide) (by decide) ?_
  rintro _ _ - ⟨rfl, rfl⟩
  refine KW.any (P' := ([], fun _ => False)) ?_
  show KW false l Z M_sca n0 (fun v h => v = some (.int (chB b)) ∧ h0 = h) ([], fun _ => False) h0 0 0 4 #[.val (.ref a), .val (.int j)] [(.int (1 : Int32))]
  refine k_ifc (pc1 := 16) (pc' := 7) d_sca_4 (by decide) (by decide) rfl (fun (cd1 : (1 : Int32) = (0 : Int32)) => False.elim (by exact absurd cd1 (by decide))) (fun (cd1 : ¬ (1 : Int32) = (0 : Int32)) => ?_)
  refine k_aloadN d_sca_7 rfl rfl rfl ?_
  refine k_getField d_sca_8 rfl (hw _ (List.mem_of_getElem? (i := 72) rfl)) Via.refl VA ?_
  refine k_iloadN d_sca_11 rfl rfl ?_
  refine k_callStatic (argsL := [(.ref t), (.int j)]) (rest := []) (W0 := 0) d_sca_12 rfl (mt_lca l Z a0 hw cs hcs SC hEW sio SIO hsio t _ j _ b _ _ h0 n0 OD hj AA hv) Kp.strict (hw _ (List.mem_of_getElem? (i := 222) rfl)) (hw _ (List.mem_of_getElem? (i := 223) rfl)) (hw _ (List.mem_of_getElem? (i := 61) rfl)) (hw _ (List.mem_of_getElem? (i := 224) rfl)) (by decide) pd_lca rfl rfl rfl rfl (by decide) (by decide) (by decide) (by decide) ?_
  rintro _ _ - ⟨rfl, rfl⟩
  refine KW.any (P' := ([], fun _ => False)) ?_
  show KW false l Z M_sca n0 (fun v h => v = some (.int (chB b)) ∧ h0 = h) ([], fun _ => False) h0 0 0 15 #[.val (.ref a), .val (.int j)] [(.int (chB b))]
  exact k_retNar d_sca_15 rfl (by simp) (z' := chB b) (chB_nar b) (by decide) (by decide) ⟨rfl, rfl⟩
theorem mt_sca (l : Launch) (Z : State) (a0 : Array Value) (hw : ∀ d ∈ tables_1, d.before a0 Z = true) (cs : Int32) (hcs : ¬ cs = 0) (SC : Sta Z Z.heap "java/lang/String" "COMPACT_STRINGS" "Z" (.int cs)) (hEW : EW Z a0 EL) (sio : Value) (SIO : Sta Z Z.heap "jdk/internal/util/Preconditions" "SIOOBE_FORMATTER" "Ljava/util/function/BiFunction;" sio) (hsio : sio.isRef = true) (j b : Int32) (a t : Addr) (bs : List Int32) (h0 : Heap) (n0 : Nat) (OD : Old Z n0 h0) (SA : Sg Z h0 a t bs) (hj : ¬ j < 0 ∧ j < Int32.ofNat bs.length) (hv : (bs.map Value.int).getD j.toNatClampNeg (.int 0) = .int b) : Mt l Z M_sca [] n0 #[(.ref a), (.int j)] h0 (fun v h => v = some (.int (chB b)) ∧ h0 = h) :=
  mt_of_kw (P := ([], fun _ => False)) pf_sca (fun m => by first | (simp [entryFrame, mkF, argsToLocals, Value.category]; done) | rfl) (kw_sca l Z a0 hw cs hcs SC hEW sio SIO hsio j b a t bs h0 n0 OD SA hj hv)
theorem own_255 {q : Int32} (h : 0 ≤ q.toInt ∧ q.toInt < 256) (k : (255 : Int32) < q) : False := by
  rw [Int32.lt_iff_toInt_lt, show (255 : Int32).toInt = 255 from rfl] at k; omega
def Ch (p : Int32) : Prop := 0 ≤ p.toInt ∧ p.toInt < 256
abbrev M_cen : MD := ((⟨"java/lang/StringLatin1", "canEncode", "(C)Z"⟩ : MethodName), jdk_43_method_3_code, 1, (some .boolean), { frames := 0, cells := 0, slots := 0, locals := 0 })
theorem d_cen_0 : decode jdk_43_method_3_code 0 = .ok (.iload_n 0, 1) := by decide +kernel
theorem d_cen_1 : decode jdk_43_method_3_code 1 = .ok (.sipush 255, 3) := by decide +kernel
theorem d_cen_4 : decode jdk_43_method_3_code 4 = .ok (.if_icmp .gt 7, 3) := by decide +kernel
theorem d_cen_7 : decode jdk_43_method_3_code 7 = .ok (.iconst 1, 1) := by decide +kernel
theorem d_cen_8 : decode jdk_43_method_3_code 8 = .ok (.goto 4, 3) := by decide +kernel
theorem d_cen_11 : decode jdk_43_method_3_code 11 = .ok (.iconst 0, 1) := by decide +kernel
theorem d_cen_12 : decode jdk_43_method_3_code 12 = .ok (.ireturn, 1) := by decide +kernel
theorem pd_cen : parseMethodDescriptor "(C)Z" = some ⟨[.char], (some .boolean)⟩ := by decide +kernel
theorem pf_cen : plainFor (⟨"java/lang/StringLatin1", "canEncode", "(C)Z"⟩ : MethodName) = true := by first | exact plainFor_of_name (by first | (simp [plainName, overriddenIn]; done) | decide +kernel) | decide +kernel
set_option maxRecDepth 65536 in
set_option maxHeartbeats 40000000 in
theorem kw_cen (l : Launch) (Z : State) (a0 : Array Value) (hw : ∀ d ∈ tables_1, d.before a0 Z = true) (cs : Int32) (hcs : ¬ cs = 0) (SC : Sta Z Z.heap "java/lang/String" "COMPACT_STRINGS" "Z" (.int cs)) (hEW : EW Z a0 EL) (p : Int32) (h0 : Heap) (n0 : Nat) (hp : Ch p) : KW false l Z M_cen n0 (fun v h => v = some (.int 1) ∧ h0 = h) ([], fun _ => False) h0 0 0 0 #[.val (.int p)] [] := by
  refine k_iloadN d_cen_0 rfl rfl ?_
  refine k_sipush (z := (255 : Int32)) d_cen_1 rfl (by decide) ?_
  refine k_icmp (pc1 := 11) (pc' := 7) d_cen_4 (by decide) (by decide) rfl (fun (cd1 : (255 : Int32) < p) => False.elim (by exact own_255 hp cd1)) (fun (cd1 : ¬ (255 : Int32) < p) => ?_)
  refine k_iconst (z := (1 : Int32)) d_cen_7 rfl (by decide) ?_
  refine k_goto (pc' := 12) d_cen_8 (by decide) (by decide) ?_
  exact k_retNar d_cen_12 rfl (by simp) (z' := (1 : Int32)) (by decide) (by decide) (by decide) ⟨rfl, rfl⟩
theorem mt_cen (l : Launch) (Z : State) (a0 : Array Value) (hw : ∀ d ∈ tables_1, d.before a0 Z = true) (cs : Int32) (hcs : ¬ cs = 0) (SC : Sta Z Z.heap "java/lang/String" "COMPACT_STRINGS" "Z" (.int cs)) (hEW : EW Z a0 EL) (p : Int32) (h0 : Heap) (n0 : Nat) (hp : Ch p) : Mt l Z M_cen [] n0 #[(.int p)] h0 (fun v h => v = some (.int 1) ∧ h0 = h) :=
  mt_of_kw (P := ([], fun _ => False)) pf_cen (fun m => by first | (simp [entryFrame, mkF, argsToLocals, Value.category]; done) | rfl) (kw_cen l Z a0 hw cs hcs SC hEW p h0 n0 hp)
abbrev M_tob : MD := ((⟨"java/lang/StringLatin1", "toBytes", "(C)[B"⟩ : MethodName), jdk_43_method_46_code, 1, (some (.array .byte)), { frames := 0, cells := 1, slots := 1, locals := 0 })
theorem d_tob_0 : decode jdk_43_method_46_code 0 = .ok (.iconst 1, 1) := by decide +kernel
theorem d_tob_1 : decode jdk_43_method_46_code 1 = .ok (.newarray .byte, 2) := by decide +kernel
theorem d_tob_3 : decode jdk_43_method_46_code 3 = .ok (.dup, 1) := by decide +kernel
theorem d_tob_4 : decode jdk_43_method_46_code 4 = .ok (.iconst 0, 1) := by decide +kernel
theorem d_tob_5 : decode jdk_43_method_46_code 5 = .ok (.iload_n 0, 1) := by decide +kernel
theorem d_tob_6 : decode jdk_43_method_46_code 6 = .ok (.i2b, 1) := by decide +kernel
theorem d_tob_7 : decode jdk_43_method_46_code 7 = .ok (.bastore, 1) := by decide +kernel
theorem d_tob_8 : decode jdk_43_method_46_code 8 = .ok (.areturn, 1) := by decide +kernel
theorem pd_tob : parseMethodDescriptor "(C)[B" = some ⟨[.char], (some (.array .byte))⟩ := by decide +kernel
theorem pf_tob : plainFor (⟨"java/lang/StringLatin1", "toBytes", "(C)[B"⟩ : MethodName) = true := by first | exact plainFor_of_name (by first | (simp [plainName, overriddenIn]; done) | decide +kernel) | decide +kernel
set_option maxRecDepth 65536 in
set_option maxHeartbeats 40000000 in
theorem kw_tob (l : Launch) (Z : State) (a0 : Array Value) (hw : ∀ d ∈ tables_1, d.before a0 Z = true) (cs : Int32) (hcs : ¬ cs = 0) (SC : Sta Z Z.heap "java/lang/String" "COMPACT_STRINGS" "Z" (.int cs)) (hEW : EW Z a0 EL) (p : Int32) (h0 : Heap) (n0 : Nat) (OD : Old Z n0 h0) : KW false l Z M_tob n0 (fun v h => ∃ d ck', v = some (.ref d) ∧ h0.size ≤ d ∧ n0 ≤ d ∧ Keep h0 h [] ∧ Arv Z h d ck' .byte (1 : Int32) [.int (nbI p)] (.int 0)) ([], fun _ => False) h0 0 0 0 #[.val (.int p)] [] := by
  have Z0 := OD.1 ▸ OD.2.1
  have K0 : Keep h0 h0 [] := Keep.refl _ _
  refine k_iconst (z := (1 : Int32)) d_tob_0 rfl (by decide) ?_
  refine k_newarr (cap := 1) d_tob_1 rfl (hw _ (List.mem_of_getElem? (i := 10) rfl)) (by decide) (by decide) (by decide) (by decide) (by decide) ?_
  intro h2 a1 ck6 g5 E3 V4
  have z8 : n0 ≤ h0.size := Z0
  have ge7 : n0 ≤ a1 := Nat.le_trans z8 (Nat.le_of_eq g5.symm)
  have gl9 : h0.size ≤ a1 := Nat.le_of_eq g5.symm
  have gh10 := Nat.le_trans K0.1 gl9
  have V11 : Arv Z h2 a1 ck6 .byte (1 : Int32) [(.int (0 : Int32))] (.int (0 : Int32)) := Arv.pad V4 (pad_rep [] _ 1)
  refine KW.any (P' := ([], fun _ => False)) ?_
  show KW false l Z M_tob n0 (fun v h => ∃ d ck', v = some (.ref d) ∧ h0.size ≤ d ∧ n0 ≤ d ∧ Keep h0 h [] ∧ Arv Z h d ck' .byte (1 : Int32) [.int (nbI p)] (.int 0)) ([], fun _ => False) h2 1 1 3 #[.val (.int p)] [(.ref a1)]
  refine k_dup d_tob_3 rfl rfl ?_
  refine k_iconst (z := (0 : Int32)) d_tob_4 rfl (by decide) ?_
  refine k_iloadN d_tob_5 rfl rfl ?_
  refine k_i2b d_tob_6 rfl ?_
  refine k_bastore (i := 0) d_tob_7 rfl V11 (by decide) (by decide) (by simp) ge7 (fun q => by cases q) ?_
  intro h12 W13 V14
  have V15 : Arv Z h12 a1 ck6 .byte (1 : Int32) [(.int (nar .byte (Int8.toInt32 (Int32.toInt8 p))))] (.int (0 : Int32)) := V14
  show KW false l Z M_tob n0 (fun v h => ∃ d ck', v = some (.ref d) ∧ h0.size ≤ d ∧ n0 ≤ d ∧ Keep h0 h [] ∧ Arv Z h d ck' .byte (1 : Int32) [.int (nbI p)] (.int 0)) ([], fun _ => False) h12 1 1 8 #[.val (.int p)] [(.ref a1)]
  have f16 := ((K0.ext E3).wr W13 (Or.inr gh10))
  exact k_retRef d_tob_8 rfl rfl rfl (by decide) (by decide) ⟨a1, ck6, rfl, gl9, ge7, f16, V15⟩
theorem mt_tob (l : Launch) (Z : State) (a0 : Array Value) (hw : ∀ d ∈ tables_1, d.before a0 Z = true) (cs : Int32) (hcs : ¬ cs = 0) (SC : Sta Z Z.heap "java/lang/String" "COMPACT_STRINGS" "Z" (.int cs)) (hEW : EW Z a0 EL) (p : Int32) (h0 : Heap) (n0 : Nat) (OD : Old Z n0 h0) : Mt l Z M_tob [] n0 #[(.int p)] h0 (fun v h => ∃ d ck', v = some (.ref d) ∧ h0.size ≤ d ∧ n0 ≤ d ∧ Keep h0 h [] ∧ Arv Z h d ck' .byte (1 : Int32) [.int (nbI p)] (.int 0)) :=
  mt_of_kw (P := ([], fun _ => False)) pf_tob (fun m => by first | (simp [entryFrame, mkF, argsToLocals, Value.category]; done) | rfl) (kw_tob l Z a0 hw cs hcs SC hEW p h0 n0 OD)
abbrev M_sbb : MD := ((⟨"java/lang/String", "<init>", "([BB)V"⟩ : MethodName), jdk_42_method_151_code, 3, none, { frames := 1, cells := 0, slots := 0, locals := 12 })
theorem d_sbb_0 : decode jdk_42_method_151_code 0 = .ok (.aload_n 0, 1) := by decide +kernel
theorem d_sbb_1 : decode jdk_42_method_151_code 1 = .ok (.invokespecial 1, 3) := by decide +kernel
theorem d_sbb_4 : decode jdk_42_method_151_code 4 = .ok (.aload_n 0, 1) := by decide +kernel
theorem d_sbb_5 : decode jdk_42_method_151_code 5 = .ok (.aload_n 1, 1) := by decide +kernel
theorem d_sbb_6 : decode jdk_42_method_151_code 6 = .ok (.putfield 9, 3) := by decide +kernel
theorem d_sbb_9 : decode jdk_42_method_151_code 9 = .ok (.aload_n 0, 1) := by decide +kernel
theorem d_sbb_10 : decode jdk_42_method_151_code 10 = .ok (.iload_n 2, 1) := by decide +kernel
theorem d_sbb_11 : decode jdk_42_method_151_code 11 = .ok (.putfield 15, 3) := by decide +kernel
theorem d_sbb_14 : decode jdk_42_method_151_code 14 = .ok (.return_, 1) := by decide +kernel
theorem pd_sbb : parseMethodDescriptor "([BB)V" = some ⟨[(.array .byte), .byte], none⟩ := by decide +kernel
theorem pf_sbb : plainFor (⟨"java/lang/String", "<init>", "([BB)V"⟩ : MethodName) = true := by first | exact plainFor_of_name (by first | (simp [plainName, overriddenIn]; done) | decide +kernel) | decide +kernel
set_option maxRecDepth 65536 in
set_option maxHeartbeats 40000000 in
theorem kw_sbb (l : Launch) (Z : State) (a0 : Array Value) (hw : ∀ d ∈ tables_1, d.before a0 Z = true) (cs : Int32) (hcs : ¬ cs = 0) (SC : Sta Z Z.heap "java/lang/String" "COMPACT_STRINGS" "Z" (.int cs)) (hEW : EW Z a0 EL) (a d : Addr) (h0 : Heap) (n0 : Nat) (ga : n0 ≤ a) (EA : Exa Z h0 a "java/lang/String") (FC : Fld Z h0 a "java/lang/String" "coder" "B" (.int 0)) (FV : Fld Z h0 a "java/lang/String" "value" "[B" .null) : KW false l Z M_sbb n0 (fun v h => v = none ∧ Keep h0 h [a] ∧ Fld Z h a "java/lang/String" "coder" "B" (.int 0) ∧ Fld Z h a "java/lang/String" "value" "[B" (.ref d)) ([], fun _ => False) h0 0 0 0 #[.val (.ref a), .val (.ref d), .val (.int (0 : Int32))] [] := by
  have K0 : Keep h0 h0 [a] := Keep.refl _ _
  refine k_aloadN d_sbb_0 rfl rfl rfl ?_
  refine k_initObj (W0 := 0) d_sbb_1 rfl (hw _ (List.mem_of_getElem? (i := 71) rfl)) (hw _ (List.mem_of_getElem? (i := 20) rfl)) (hw _ (List.mem_of_getElem? (i := 21) rfl)) rfl rfl (by decide) (by decide) ?_
  refine k_aloadN d_sbb_4 rfl rfl rfl ?_
  refine k_aloadN d_sbb_5 rfl rfl rfl ?_
  refine k_put (v' := (.ref d)) (ty := (.array .byte)) d_sbb_6 rfl (hw _ (List.mem_of_getElem? (i := 72) rfl)) Via.refl FV EA (Or.inr ⟨(hw _ (List.mem_of_getElem? (i := 11) rfl)), rfl, rfl⟩) (hw _ (List.mem_of_getElem? (i := 9) rfl)) (by decide) rfl rfl ga (fun q => by cases q) ?_
  intro h1 W2
  have F3 := FV.same W2
  show KW false l Z M_sbb n0 (fun v h => v = none ∧ Keep h0 h [a] ∧ Fld Z h a "java/lang/String" "coder" "B" (.int 0) ∧ Fld Z h a "java/lang/String" "value" "[B" (.ref d)) ([], fun _ => False) h1 0 0 9 #[.val (.ref a), .val (.ref d), .val (.int (0 : Int32))] []
  refine k_aloadN d_sbb_9 rfl rfl rfl ?_
  refine k_iloadN d_sbb_10 rfl rfl ?_
  have f6 := (FC.other W2 (Or.inr (slot_ne (t := .byte) (t' := (.array .byte)) (Or.inr (hw _ (List.mem_of_getElem? (i := 12) rfl))) (Or.inr (hw _ (List.mem_of_getElem? (i := 11) rfl))) (by decide) (by decide) (by decide))))
  have f7 := (EA.wr W2)
  refine k_put (v' := (.int (0 : Int32))) (ty := .byte) d_sbb_11 rfl (hw _ (List.mem_of_getElem? (i := 73) rfl)) Via.refl f6 f7 (Or.inr ⟨(hw _ (List.mem_of_getElem? (i := 12) rfl)), rfl, rfl⟩) (hw _ (List.mem_of_getElem? (i := 9) rfl)) (by decide) rfl rfl ga (fun q => by cases q) ?_
  intro h4 W5
  have F8 := f6.same W5
  show KW false l Z M_sbb n0 (fun v h => v = none ∧ Keep h0 h [a] ∧ Fld Z h a "java/lang/String" "coder" "B" (.int 0) ∧ Fld Z h a "java/lang/String" "value" "[B" (.ref d)) ([], fun _ => False) h4 0 0 14 #[.val (.ref a), .val (.ref d), .val (.int (0 : Int32))] []
  have f9 := ((K0.wr W2 (Or.inl (by simp))).wr W5 (Or.inl (by simp)))
  have f10 := (F3.other W5 (Or.inr (slot_ne (t := (.array .byte)) (t' := .byte) (Or.inr (hw _ (List.mem_of_getElem? (i := 11) rfl))) (Or.inr (hw _ (List.mem_of_getElem? (i := 12) rfl))) (by decide) (by decide) (by decide))))
  exact k_retVoid d_sbb_14 rfl (by decide) (by decide) ⟨rfl, f9, F8, f10⟩
theorem mt_sbb (l : Launch) (Z : State) (a0 : Array Value) (hw : ∀ d ∈ tables_1, d.before a0 Z = true) (cs : Int32) (hcs : ¬ cs = 0) (SC : Sta Z Z.heap "java/lang/String" "COMPACT_STRINGS" "Z" (.int cs)) (hEW : EW Z a0 EL) (a d : Addr) (h0 : Heap) (n0 : Nat) (ga : n0 ≤ a) (EA : Exa Z h0 a "java/lang/String") (FC : Fld Z h0 a "java/lang/String" "coder" "B" (.int 0)) (FV : Fld Z h0 a "java/lang/String" "value" "[B" .null) : Mt l Z M_sbb [] n0 #[(.ref a), (.ref d), (.int (0 : Int32))] h0 (fun v h => v = none ∧ Keep h0 h [a] ∧ Fld Z h a "java/lang/String" "coder" "B" (.int 0) ∧ Fld Z h a "java/lang/String" "value" "[B" (.ref d)) :=
  mt_of_kw (P := ([], fun _ => False)) pf_sbb (fun m => by first | (simp [entryFrame, mkF, argsToLocals, Value.category]; done) | rfl) (kw_sbb l Z a0 hw cs hcs SC hEW a d h0 n0 ga EA FC FV)
abbrev M_vof : MD := ((⟨"java/lang/String", "valueOf", "(C)Ljava/lang/String;"⟩ : MethodName), jdk_42_method_139_code, 1, (some (.object "java/lang/String")), { frames := 2, cells := 2, slots := 5, locals := 28 })
theorem d_vof_0 : decode jdk_42_method_139_code 0 = .ok (.getstatic 38, 3) := by decide +kernel
theorem d_vof_3 : decode jdk_42_method_139_code 3 = .ok (.ifCond .eq 23, 3) := by decide +kernel
theorem d_vof_6 : decode jdk_42_method_139_code 6 = .ok (.iload_n 0, 1) := by decide +kernel
theorem d_vof_7 : decode jdk_42_method_139_code 7 = .ok (.invokestatic 1015, 3) := by decide +kernel
theorem d_vof_10 : decode jdk_42_method_139_code 10 = .ok (.ifCond .eq 16, 3) := by decide +kernel
theorem d_vof_13 : decode jdk_42_method_139_code 13 = .ok (.new 10, 3) := by decide +kernel
theorem d_vof_16 : decode jdk_42_method_139_code 16 = .ok (.dup, 1) := by decide +kernel
theorem d_vof_17 : decode jdk_42_method_139_code 17 = .ok (.iload_n 0, 1) := by decide +kernel
theorem d_vof_18 : decode jdk_42_method_139_code 18 = .ok (.invokestatic 1018, 3) := by decide +kernel
theorem d_vof_21 : decode jdk_42_method_139_code 21 = .ok (.iconst 0, 1) := by decide +kernel
theorem d_vof_22 : decode jdk_42_method_139_code 22 = .ok (.invokespecial 209, 3) := by decide +kernel
theorem d_vof_25 : decode jdk_42_method_139_code 25 = .ok (.areturn, 1) := by decide +kernel
theorem d_vof_26 : decode jdk_42_method_139_code 26 = .ok (.new 10, 3) := by decide +kernel
theorem d_vof_29 : decode jdk_42_method_139_code 29 = .ok (.dup, 1) := by decide +kernel
theorem d_vof_30 : decode jdk_42_method_139_code 30 = .ok (.iload_n 0, 1) := by decide +kernel
theorem d_vof_31 : decode jdk_42_method_139_code 31 = .ok (.invokestatic 1021, 3) := by decide +kernel
theorem d_vof_34 : decode jdk_42_method_139_code 34 = .ok (.iconst 1, 1) := by decide +kernel
theorem d_vof_35 : decode jdk_42_method_139_code 35 = .ok (.invokespecial 209, 3) := by decide +kernel
theorem d_vof_38 : decode jdk_42_method_139_code 38 = .ok (.areturn, 1) := by decide +kernel
theorem pd_vof : parseMethodDescriptor "(C)Ljava/lang/String;" = some ⟨[.char], (some (.object "java/lang/String"))⟩ := by decide +kernel
theorem pf_vof : plainFor (⟨"java/lang/String", "valueOf", "(C)Ljava/lang/String;"⟩ : MethodName) = true := by first | exact plainFor_of_name (by first | (simp [plainName, overriddenIn]; done) | decide +kernel) | decide +kernel
set_option maxRecDepth 65536 in
set_option maxHeartbeats 40000000 in
theorem kw_vof (l : Launch) (Z : State) (a0 : Array Value) (hw : ∀ d ∈ tables_1, d.before a0 Z = true) (cs : Int32) (hcs : ¬ cs = 0) (SC : Sta Z Z.heap "java/lang/String" "COMPACT_STRINGS" "Z" (.int cs)) (hEW : EW Z a0 EL) (p : Int32) (h0 : Heap) (n0 : Nat) (OD : Old Z n0 h0) (hp : Ch p) : KW false l Z M_vof n0 (fun v h => ∃ a t, v = some (.ref a) ∧ Keep h0 h [] ∧ Sg Z h a t [nbI p]) ([], fun _ => False) h0 0 0 0 #[.val (.int p)] [] := by
  have Z0 := OD.1 ▸ OD.2.1
  have K0 : Keep h0 h0 [] := Keep.refl _ _
  refine k_getStatic d_vof_0 rfl (hw _ (List.mem_of_getElem? (i := 58) rfl)) (Sta.ext OD.2 SC) ?_
  refine k_ifc (pc1 := 26) (pc' := 6) d_vof_3 (by decide) (by decide) rfl (fun (cd1 : cs = (0 : Int32)) => False.elim (by exact hcs cd1)) (fun (cd1 : ¬ cs = (0 : Int32)) => ?_)
  refine k_iloadN d_vof_6 rfl rfl ?_
  refine k_callStatic (argsL := [(.int p)]) (rest := []) (W0 := 0) d_vof_7 rfl (mt_cen l Z a0 hw cs hcs SC hEW p h0 n0 hp) Kp.strict (hw _ (List.mem_of_getElem? (i := 59) rfl)) (hw _ (List.mem_of_getElem? (i := 60) rfl)) (hw _ (List.mem_of_getElem? (i := 61) rfl)) (hw _ (List.mem_of_getElem? (i := 62) rfl)) (by decide) pd_cen rfl rfl rfl rfl (by decide) (by decide) (by decide) (by decide) ?_
  rintro _ _ - ⟨rfl, rfl⟩
  refine KW.any (P' := ([], fun _ => False)) ?_
  show KW false l Z M_vof n0 (fun v h => ∃ a t, v = some (.ref a) ∧ Keep h0 h [] ∧ Sg Z h a t [nbI p]) ([], fun _ => False) h0 0 0 10 #[.val (.int p)] [(.int (1 : Int32))]
  refine k_ifc (pc1 := 26) (pc' := 13) d_vof_10 (by decide) (by decide) rfl (fun (cd2 : (1 : Int32) = (0 : Int32)) => False.elim (by exact absurd cd2 (by decide))) (fun (cd2 : ¬ (1 : Int32) = (0 : Int32)) => ?_)
  refine k_new d_vof_13 rfl (hw _ (List.mem_of_getElem? (i := 63) rfl)) (hw _ (List.mem_of_getElem? (i := 9) rfl)) (hw _ (List.mem_of_getElem? (i := 8) rfl)) (by decide) (by decide) ?_
  intro h2 a1 g6 E3 A4 D5
  have z7 : n0 ≤ h0.size := Z0
  have ge8 : n0 ≤ a1 := Nat.le_trans z7 (Nat.le_of_eq g6.symm)
  have gl9 : h0.size ≤ a1 := Nat.le_of_eq g6.symm
  have gh10 := Nat.le_trans K0.1 gl9
  have F11 : Fld Z h2 a1 "java/lang/String" "value" "[B" .null := D5 (Or.inr (hw _ (List.mem_of_getElem? (i := 11) rfl))) (ty := (.array .byte)) (by decide)
  have F12 : Fld Z h2 a1 "java/lang/String" "coder" "B" (.int (0 : Int32)) := D5 (Or.inr (hw _ (List.mem_of_getElem? (i := 12) rfl))) (ty := .byte) (by decide)
  refine KW.any (P' := ([], fun _ => False)) ?_
  show KW false l Z M_vof n0 (fun v h => ∃ a t, v = some (.ref a) ∧ Keep h0 h [] ∧ Sg Z h a t [nbI p]) ([], fun _ => False) h2 1 4 16 #[.val (.int p)] [(.ref a1)]
  refine k_dup d_vof_16 rfl rfl ?_
  refine k_iloadN d_vof_17 rfl rfl ?_
  have f13 := (OD.ext E3)
  refine k_callStatic (argsL := [(.int p)]) (rest := [(.ref a1), (.ref a1)]) (W0 := 2) d_vof_18 rfl (mt_tob l Z a0 hw cs hcs SC hEW p h2 n0 f13) Kp.strict (hw _ (List.mem_of_getElem? (i := 64) rfl)) (hw _ (List.mem_of_getElem? (i := 65) rfl)) (hw _ (List.mem_of_getElem? (i := 61) rfl)) (hw _ (List.mem_of_getElem? (i := 66) rfl)) (by decide) pd_tob rfl rfl rfl rfl (by decide) (by decide) (by decide) (by decide) ?_
  have f22 := (K0.ext E3)
  rintro _ h15 - ⟨d14, ck20, rfl, gd18, g19, K16, D17⟩
  have ne23 : a1 ≠ d14 := Nat.ne_of_lt (Nat.lt_of_lt_of_le A4.lt gd18)
  refine KW.any (P' := ([], fun _ => False)) ?_
  show KW false l Z M_vof n0 (fun v h => ∃ a t, v = some (.ref a) ∧ Keep h0 h [] ∧ Sg Z h a t [nbI p]) ([], fun _ => False) h15 2 5 21 #[.val (.int p)] [(.ref d14), (.ref a1), (.ref a1)]
  refine k_iconst (z := (0 : Int32)) d_vof_21 rfl (by decide) ?_
  have f24 := (A4.keep K16)
  have f25 := (F12.keep K16 nin0)
  have f26 := (F11.keep K16 nin0)
  have f27 := (f22.trans K16 all0)
  refine k_callInit (a := a1) (argsL := [(.ref d14), (.int (0 : Int32))]) (rest := [(.ref a1)]) (W0 := 1) d_vof_22 rfl (mt_sbb l Z a0 hw cs hcs SC hEW a1 d14 h15 n0 ge8 f24 f25 f26) Kp.strict rfl rfl (hw _ (List.mem_of_getElem? (i := 67) rfl)) (hw _ (List.mem_of_getElem? (i := 68) rfl)) (hw _ (List.mem_of_getElem? (i := 8) rfl)) (hw _ (List.mem_of_getElem? (i := 70) rfl)) (by decide) pd_sbb rfl rfl rfl rfl (by decide) (by decide) (by decide) (by decide) ?_
  rintro _ h28 - ⟨rfl, K29, F30, F31⟩
  refine KW.any (P' := ([], fun _ => False)) ?_
  show KW false l Z M_vof n0 (fun v h => ∃ a t, v = some (.ref a) ∧ Keep h0 h [] ∧ Sg Z h a t [nbI p]) ([], fun _ => False) h28 2 5 25 #[.val (.int p)] [(.ref a1)]
  have f32 := (f27.trans K29 (allS (Or.inr gh10) all0))
  have f33 := (f24.keep K29)
  have f34 := (D17.keep K29 (ninS (Ne.symm ne23) nin0))
  exact k_retRef d_vof_25 rfl rfl rfl (by decide) (by decide) ⟨a1, d14, rfl, f32, ⟨ck20, f33, F30, F31, f34, by simp⟩⟩
theorem mt_vof (l : Launch) (Z : State) (a0 : Array Value) (hw : ∀ d ∈ tables_1, d.before a0 Z = true) (cs : Int32) (hcs : ¬ cs = 0) (SC : Sta Z Z.heap "java/lang/String" "COMPACT_STRINGS" "Z" (.int cs)) (hEW : EW Z a0 EL) (p : Int32) (h0 : Heap) (n0 : Nat) (OD : Old Z n0 h0) (hp : Ch p) : Mt l Z M_vof [] n0 #[(.int p)] h0 (fun v h => ∃ a t, v = some (.ref a) ∧ Keep h0 h [] ∧ Sg Z h a t [nbI p]) :=
  mt_of_kw (P := ([], fun _ => False)) pf_vof (fun m => by first | (simp [entryFrame, mkF, argsToLocals, Value.category]; done) | rfl) (kw_vof l Z a0 hw cs hcs SC hEW p h0 n0 OD hp)
abbrev M_asi : MD := ((⟨"java/lang/AbstractStringBuilder", "<init>", "(I)V"⟩ : MethodName), jdk_68_method_2_code, 2, none, { frames := 1, cells := 1, slots := 16, locals := 12 })
theorem d_asi_0 : decode jdk_68_method_2_code 0 = .ok (.aload_n 0, 1) := by decide +kernel
theorem d_asi_1 : decode jdk_68_method_2_code 1 = .ok (.invokespecial 3, 3) := by decide +kernel
theorem d_asi_4 : decode jdk_68_method_2_code 4 = .ok (.getstatic 18, 3) := by decide +kernel
theorem d_asi_7 : decode jdk_68_method_2_code 7 = .ok (.ifCond .eq 18, 3) := by decide +kernel
theorem d_asi_10 : decode jdk_68_method_2_code 10 = .ok (.aload_n 0, 1) := by decide +kernel
theorem d_asi_11 : decode jdk_68_method_2_code 11 = .ok (.iload_n 1, 1) := by decide +kernel
theorem d_asi_12 : decode jdk_68_method_2_code 12 = .ok (.newarray .byte, 2) := by decide +kernel
theorem d_asi_14 : decode jdk_68_method_2_code 14 = .ok (.putfield 15, 3) := by decide +kernel
theorem d_asi_17 : decode jdk_68_method_2_code 17 = .ok (.aload_n 0, 1) := by decide +kernel
theorem d_asi_18 : decode jdk_68_method_2_code 18 = .ok (.iconst 0, 1) := by decide +kernel
theorem d_asi_19 : decode jdk_68_method_2_code 19 = .ok (.putfield 22, 3) := by decide +kernel
theorem d_asi_22 : decode jdk_68_method_2_code 22 = .ok (.goto 16, 3) := by decide +kernel
theorem d_asi_25 : decode jdk_68_method_2_code 25 = .ok (.aload_n 0, 1) := by decide +kernel
theorem d_asi_26 : decode jdk_68_method_2_code 26 = .ok (.iload_n 1, 1) := by decide +kernel
theorem d_asi_27 : decode jdk_68_method_2_code 27 = .ok (.invokestatic 26, 3) := by decide +kernel
theorem d_asi_30 : decode jdk_68_method_2_code 30 = .ok (.putfield 15, 3) := by decide +kernel
theorem d_asi_33 : decode jdk_68_method_2_code 33 = .ok (.aload_n 0, 1) := by decide +kernel
theorem d_asi_34 : decode jdk_68_method_2_code 34 = .ok (.iconst 1, 1) := by decide +kernel
theorem d_asi_35 : decode jdk_68_method_2_code 35 = .ok (.putfield 22, 3) := by decide +kernel
theorem d_asi_38 : decode jdk_68_method_2_code 38 = .ok (.return_, 1) := by decide +kernel
theorem pd_asi : parseMethodDescriptor "(I)V" = some ⟨[.int], none⟩ := by decide +kernel
theorem pf_asi : plainFor (⟨"java/lang/AbstractStringBuilder", "<init>", "(I)V"⟩ : MethodName) = true := by first | exact plainFor_of_name (by first | (simp [plainName, overriddenIn]; done) | decide +kernel) | decide +kernel
set_option maxRecDepth 65536 in
set_option maxHeartbeats 40000000 in
theorem kw_asi (l : Launch) (Z : State) (a0 : Array Value) (hw : ∀ d ∈ tables_1, d.before a0 Z = true) (cs : Int32) (hcs : ¬ cs = 0) (SC : Sta Z Z.heap "java/lang/String" "COMPACT_STRINGS" "Z" (.int cs)) (hEW : EW Z a0 EL) (b : Addr) (h0 : Heap) (n0 : Nat) (OD : Old Z n0 h0) (gb : n0 ≤ b) (EB : Exa Z h0 b "java/lang/StringBuilder") (GF1 : Fld Z h0 b "java/lang/AbstractStringBuilder" "value" "[B" .null) (GF2 : Fld Z h0 b "java/lang/AbstractStringBuilder" "coder" "B" (.int 0)) (GF3 : Fld Z h0 b "java/lang/AbstractStringBuilder" "count" "I" (.int 0)) : KW false l Z M_asi n0 (fun v h => v = none ∧ ∃ d, h0.size ≤ d ∧ n0 ≤ d ∧ Keep h0 h [b] ∧ Sb Z h b d 16 []) ([], fun _ => False) h0 0 0 0 #[.val (.ref b), .val (.int (16 : Int32))] [] := by
  have Z0 := OD.1 ▸ OD.2.1
  have K0 : Keep h0 h0 [b] := Keep.refl _ _
  refine k_aloadN d_asi_0 rfl rfl rfl ?_
  refine k_initObj (W0 := 0) d_asi_1 rfl (hw _ (List.mem_of_getElem? (i := 86) rfl)) (hw _ (List.mem_of_getElem? (i := 20) rfl)) (hw _ (List.mem_of_getElem? (i := 21) rfl)) rfl rfl (by decide) (by decide) ?_
  refine k_getStatic d_asi_4 rfl (hw _ (List.mem_of_getElem? (i := 87) rfl)) (Sta.ext OD.2 SC) ?_
  refine k_ifc (pc1 := 25) (pc' := 10) d_asi_7 (by decide) (by decide) rfl (fun (cd1 : cs = (0 : Int32)) => False.elim (by exact hcs cd1)) (fun (cd1 : ¬ cs = (0 : Int32)) => ?_)
  refine k_aloadN d_asi_10 rfl rfl rfl ?_
  refine k_iloadN d_asi_11 rfl rfl ?_
  refine k_newarr (cap := 16) d_asi_12 rfl (hw _ (List.mem_of_getElem? (i := 10) rfl)) (by decide) (by decide) (by decide) (by decide) (by decide) ?_
  intro h2 a1 ck6 g5 E3 V4
  have ne7 : b ≠ a1 := Nat.ne_of_lt (Nat.lt_of_lt_of_eq EB.lt g5.symm)
  have z9 : n0 ≤ h0.size := Z0
  have ge8 : n0 ≤ a1 := Nat.le_trans z9 (Nat.le_of_eq g5.symm)
  have gl10 : h0.size ≤ a1 := Nat.le_of_eq g5.symm
  have gh11 := Nat.le_trans K0.1 gl10
  have V12 : Arv Z h2 a1 ck6 .byte (16 : Int32) [(.int (0 : Int32)), (.int (0 : Int32)), (.int (0 : Int32)), (.int (0 : Int32)), (.int (0 : Int32)), (.int (0 : Int32)), (.int (0 : Int32)), (.int (0 : Int32)), (.int (0 : Int32)), (.int (0 : Int32)), (.int (0 : Int32)), (.int (0 : Int32)), (.int (0 : Int32)), (.int (0 : Int32)), (.int (0 : Int32)), (.int (0 : Int32))] (.int (0 : Int32)) := Arv.pad V4 (pad_rep [] _ 16)
  refine KW.any (P' := ([], fun _ => False)) ?_
  show KW false l Z M_asi n0 (fun v h => v = none ∧ ∃ d, h0.size ≤ d ∧ n0 ≤ d ∧ Keep h0 h [b] ∧ Sb Z h b d 16 []) ([], fun _ => False) h2 1 16 14 #[.val (.ref b), .val (.int (16 : Int32))] [(.ref a1), (.ref b)]
  have f15 := (GF1.ext E3)
  have f16 := (EB.ext E3)
  refine k_put (v' := (.ref a1)) (ty := (.array .byte)) d_asi_14 rfl (hw _ (List.mem_of_getElem? (i := 88) rfl)) Via.refl f15 f16 (Or.inl (hw _ (List.mem_of_getElem? (i := 89) rfl))) (hw _ (List.mem_of_getElem? (i := 75) rfl)) (by decide) rfl rfl gb (fun q => by cases q) ?_
  intro h13 W14
  have F17 := f15.same W14
  show KW false l Z M_asi n0 (fun v h => v = none ∧ ∃ d, h0.size ≤ d ∧ n0 ≤ d ∧ Keep h0 h [b] ∧ Sb Z h b d 16 []) ([], fun _ => False) h13 1 16 17 #[.val (.ref b), .val (.int (16 : Int32))] []
  refine k_aloadN d_asi_17 rfl rfl rfl ?_
  refine k_iconst (z := (0 : Int32)) d_asi_18 rfl (by decide) ?_
  have f20 := ((GF2.ext E3).other W14 (Or.inr (slot_ne (t := .byte) (t' := (.array .byte)) (Or.inl (hw _ (List.mem_of_getElem? (i := 91) rfl))) (Or.inl (hw _ (List.mem_of_getElem? (i := 89) rfl))) (by decide) (by decide) (by decide))))
  have f21 := (f16.wr W14)
  refine k_put (v' := (.int (0 : Int32))) (ty := .byte) d_asi_19 rfl (hw _ (List.mem_of_getElem? (i := 90) rfl)) Via.refl f20 f21 (Or.inl (hw _ (List.mem_of_getElem? (i := 91) rfl))) (hw _ (List.mem_of_getElem? (i := 75) rfl)) (by decide) rfl rfl gb (fun q => by cases q) ?_
  intro h18 W19
  have F22 := f20.same W19
  show KW false l Z M_asi n0 (fun v h => v = none ∧ ∃ d, h0.size ≤ d ∧ n0 ≤ d ∧ Keep h0 h [b] ∧ Sb Z h b d 16 []) ([], fun _ => False) h18 1 16 22 #[.val (.ref b), .val (.int (16 : Int32))] []
  refine k_goto (pc' := 38) d_asi_22 (by decide) (by decide) ?_
  have f23 := (((K0.ext E3).wr W14 (Or.inl (by simp))).wr W19 (Or.inl (by simp)))
  have f24 := (f21.wr W19)
  have f25 := (F17.other W19 (Or.inr (slot_ne (t := (.array .byte)) (t' := .byte) (Or.inl (hw _ (List.mem_of_getElem? (i := 89) rfl))) (Or.inl (hw _ (List.mem_of_getElem? (i := 91) rfl))) (by decide) (by decide) (by decide))))
  have f26 := (((GF3.ext E3).other W14 (Or.inr (slot_ne (t := .int) (t' := (.array .byte)) (Or.inl (hw _ (List.mem_of_getElem? (i := 116) rfl))) (Or.inl (hw _ (List.mem_of_getElem? (i := 89) rfl))) (by decide) (by decide) (by decide)))).other W19 (Or.inr (slot_ne (t := .int) (t' := .byte) (Or.inl (hw _ (List.mem_of_getElem? (i := 116) rfl))) (Or.inl (hw _ (List.mem_of_getElem? (i := 91) rfl))) (by decide) (by decide) (by decide))))
  have f27 := ((V12.other W14 (Ne.symm ne7)).other W19 (Ne.symm ne7))
  exact k_retVoid d_asi_38 rfl (by decide) (by decide) ⟨rfl, a1, gh11, ge8, f23, ⟨ck6, List.replicate 16 0, f24, f25, F22, f26, f27, rfl, by decide⟩⟩
theorem mt_asi (l : Launch) (Z : State) (a0 : Array Value) (hw : ∀ d ∈ tables_1, d.before a0 Z = true) (cs : Int32) (hcs : ¬ cs = 0) (SC : Sta Z Z.heap "java/lang/String" "COMPACT_STRINGS" "Z" (.int cs)) (hEW : EW Z a0 EL) (b : Addr) (h0 : Heap) (n0 : Nat) (OD : Old Z n0 h0) (gb : n0 ≤ b) (EB : Exa Z h0 b "java/lang/StringBuilder") (GF1 : Fld Z h0 b "java/lang/AbstractStringBuilder" "value" "[B" .null) (GF2 : Fld Z h0 b "java/lang/AbstractStringBuilder" "coder" "B" (.int 0)) (GF3 : Fld Z h0 b "java/lang/AbstractStringBuilder" "count" "I" (.int 0)) : Mt l Z M_asi [] n0 #[(.ref b), (.int (16 : Int32))] h0 (fun v h => v = none ∧ ∃ d, h0.size ≤ d ∧ n0 ≤ d ∧ Keep h0 h [b] ∧ Sb Z h b d 16 []) :=
  mt_of_kw (P := ([], fun _ => False)) pf_asi (fun m => by first | (simp [entryFrame, mkF, argsToLocals, Value.category]; done) | rfl) (kw_asi l Z a0 hw cs hcs SC hEW b h0 n0 OD gb EB GF1 GF2 GF3)
abbrev M_sbi : MD := ((⟨"java/lang/StringBuilder", "<init>", "()V"⟩ : MethodName), jdk_67_method_1_code, 1, none, { frames := 2, cells := 1, slots := 16, locals := 28 })
theorem d_sbi_0 : decode jdk_67_method_1_code 0 = .ok (.aload_n 0, 1) := by decide +kernel
theorem d_sbi_1 : decode jdk_67_method_1_code 1 = .ok (.bipush 16, 2) := by decide +kernel
theorem d_sbi_3 : decode jdk_67_method_1_code 3 = .ok (.invokespecial 1, 3) := by decide +kernel
theorem d_sbi_6 : decode jdk_67_method_1_code 6 = .ok (.return_, 1) := by decide +kernel
theorem pd_sbi : parseMethodDescriptor "()V" = some ⟨[], none⟩ := by decide +kernel
theorem pf_sbi : plainFor (⟨"java/lang/StringBuilder", "<init>", "()V"⟩ : MethodName) = true := by first | exact plainFor_of_name (by first | (simp [plainName, overriddenIn]; done) | decide +kernel) | decide +kernel
set_option maxRecDepth 65536 in
set_option maxHeartbeats 40000000 in
theorem kw_sbi (l : Launch) (Z : State) (a0 : Array Value) (hw : ∀ d ∈ tables_1, d.before a0 Z = true) (cs : Int32) (hcs : ¬ cs = 0) (SC : Sta Z Z.heap "java/lang/String" "COMPACT_STRINGS" "Z" (.int cs)) (hEW : EW Z a0 EL) (b : Addr) (h0 : Heap) (n0 : Nat) (OD : Old Z n0 h0) (gb : n0 ≤ b) (EB : Exa Z h0 b "java/lang/StringBuilder") (GF1 : Fld Z h0 b "java/lang/AbstractStringBuilder" "value" "[B" .null) (GF2 : Fld Z h0 b "java/lang/AbstractStringBuilder" "coder" "B" (.int 0)) (GF3 : Fld Z h0 b "java/lang/AbstractStringBuilder" "count" "I" (.int 0)) : KW false l Z M_sbi n0 (fun v h => v = none ∧ ∃ d, h0.size ≤ d ∧ n0 ≤ d ∧ Keep h0 h [b] ∧ Sb Z h b d 16 []) ([], fun _ => False) h0 0 0 0 #[.val (.ref b)] [] := by
  refine k_aloadN d_sbi_0 rfl rfl rfl ?_
  refine k_bipush (z := (16 : Int32)) d_sbi_1 rfl (by decide) ?_
  refine k_callInit (a := b) (argsL := [(.int (16 : Int32))]) (rest := []) (W0 := 0) d_sbi_3 rfl (mt_asi l Z a0 hw cs hcs SC hEW b h0 n0 OD gb EB GF1 GF2 GF3) Kp.strict rfl rfl (hw _ (List.mem_of_getElem? (i := 80) rfl)) (hw _ (List.mem_of_getElem? (i := 81) rfl)) (hw _ (List.mem_of_getElem? (i := 84) rfl)) (hw _ (List.mem_of_getElem? (i := 85) rfl)) (by decide) pd_asi rfl rfl rfl rfl (by decide) (by decide) (by decide) (by decide) ?_
  rintro _ hN - ⟨rfl, R1⟩
  refine KW.any (P' := ([], fun _ => False)) ?_
  show KW false l Z M_sbi n0 (fun v h => v = none ∧ ∃ d, h0.size ≤ d ∧ n0 ≤ d ∧ Keep h0 h [b] ∧ Sb Z h b d 16 []) ([], fun _ => False) hN 1 16 6 #[.val (.ref b)] []
  exact k_retVoid d_sbi_6 rfl (by decide) (by decide) ⟨rfl, R1⟩
theorem mt_sbi (l : Launch) (Z : State) (a0 : Array Value) (hw : ∀ d ∈ tables_1, d.before a0 Z = true) (cs : Int32) (hcs : ¬ cs = 0) (SC : Sta Z Z.heap "java/lang/String" "COMPACT_STRINGS" "Z" (.int cs)) (hEW : EW Z a0 EL) (b : Addr) (h0 : Heap) (n0 : Nat) (OD : Old Z n0 h0) (gb : n0 ≤ b) (EB : Exa Z h0 b "java/lang/StringBuilder") (GF1 : Fld Z h0 b "java/lang/AbstractStringBuilder" "value" "[B" .null) (GF2 : Fld Z h0 b "java/lang/AbstractStringBuilder" "coder" "B" (.int 0)) (GF3 : Fld Z h0 b "java/lang/AbstractStringBuilder" "count" "I" (.int 0)) : Mt l Z M_sbi [] n0 #[(.ref b)] h0 (fun v h => v = none ∧ ∃ d, h0.size ≤ d ∧ n0 ≤ d ∧ Keep h0 h [b] ∧ Sb Z h b d 16 []) :=
  mt_of_kw (P := ([], fun _ => False)) pf_sbi (fun m => by first | (simp [entryFrame, mkF, argsToLocals, Value.category]; done) | rfl) (kw_sbi l Z a0 hw cs hcs SC hEW b h0 n0 OD gb EB GF1 GF2 GF3)
abbrev M_ail : MD := ((⟨"java/lang/AbstractStringBuilder", "isLatin1", "()Z"⟩ : MethodName), jdk_68_method_68_code, 1, (some .boolean), { frames := 0, cells := 0, slots := 0, locals := 0 })
theorem d_ail_0 : decode jdk_68_method_68_code 0 = .ok (.getstatic 18, 3) := by decide +kernel
theorem d_ail_3 : decode jdk_68_method_68_code 3 = .ok (.ifCond .eq 14, 3) := by decide +kernel
theorem d_ail_6 : decode jdk_68_method_68_code 6 = .ok (.aload_n 0, 1) := by decide +kernel
theorem d_ail_7 : decode jdk_68_method_68_code 7 = .ok (.getfield 22, 3) := by decide +kernel
theorem d_ail_10 : decode jdk_68_method_68_code 10 = .ok (.ifCond .ne 7, 3) := by decide +kernel
theorem d_ail_13 : decode jdk_68_method_68_code 13 = .ok (.iconst 1, 1) := by decide +kernel
theorem d_ail_14 : decode jdk_68_method_68_code 14 = .ok (.goto 4, 3) := by decide +kernel
theorem d_ail_17 : decode jdk_68_method_68_code 17 = .ok (.iconst 0, 1) := by decide +kernel
theorem d_ail_18 : decode jdk_68_method_68_code 18 = .ok (.ireturn, 1) := by decide +kernel
theorem pd_ail : parseMethodDescriptor "()Z" = some ⟨[], (some .boolean)⟩ := by decide +kernel
theorem pf_ail : plainFor (⟨"java/lang/AbstractStringBuilder", "isLatin1", "()Z"⟩ : MethodName) = true := by first | exact plainFor_of_name (by first | (simp [plainName, overriddenIn]; done) | decide +kernel) | decide +kernel
set_option maxRecDepth 65536 in
set_option maxHeartbeats 40000000 in
theorem kw_ail (l : Launch) (Z : State) (a0 : Array Value) (hw : ∀ d ∈ tables_1, d.before a0 Z = true) (cs : Int32) (hcs : ¬ cs = 0) (SC : Sta Z Z.heap "java/lang/String" "COMPACT_STRINGS" "Z" (.int cs)) (hEW : EW Z a0 EL) (b d : Addr) (N : Nat) (bs : List Int32) (h0 : Heap) (n0 : Nat) (OD : Old Z n0 h0) (SB : Sb Z h0 b d N bs) : KW false l Z M_ail n0 (fun v h => v = some (.int 1) ∧ h0 = h) ([], fun _ => False) h0 0 0 0 #[.val (.ref b)] [] := by
  obtain ⟨ckB, zs, EB, VB, CB, NB, AB, hN, hN2⟩ := id SB
  refine k_getStatic d_ail_0 rfl (hw _ (List.mem_of_getElem? (i := 87) rfl)) (Sta.ext OD.2 SC) ?_
  refine k_ifc (pc1 := 17) (pc' := 6) d_ail_3 (by decide) (by decide) rfl (fun (cd1 : cs = (0 : Int32)) => False.elim (by exact hcs cd1)) (fun (cd1 : ¬ cs = (0 : Int32)) => ?_)
  refine k_aloadN d_ail_6 rfl rfl rfl ?_
  refine k_getField d_ail_7 rfl (hw _ (List.mem_of_getElem? (i := 90) rfl)) Via.refl CB ?_
  refine k_ifc (pc1 := 17) (pc' := 13) d_ail_10 (by decide) (by decide) rfl (fun (cd2 : ¬ (0 : Int32) = (0 : Int32)) => False.elim (by exact absurd cd2 (by decide))) (fun (cd2 : (0 : Int32) = (0 : Int32)) => ?_)
  refine k_iconst (z := (1 : Int32)) d_ail_13 rfl (by decide) ?_
  refine k_goto (pc' := 18) d_ail_14 (by decide) (by decide) ?_
  exact k_retNar d_ail_18 rfl (by simp) (z' := (1 : Int32)) (by decide) (by decide) (by decide) ⟨rfl, rfl⟩
theorem mt_ail (l : Launch) (Z : State) (a0 : Array Value) (hw : ∀ d ∈ tables_1, d.before a0 Z = true) (cs : Int32) (hcs : ¬ cs = 0) (SC : Sta Z Z.heap "java/lang/String" "COMPACT_STRINGS" "Z" (.int cs)) (hEW : EW Z a0 EL) (b d : Addr) (N : Nat) (bs : List Int32) (h0 : Heap) (n0 : Nat) (OD : Old Z n0 h0) (SB : Sb Z h0 b d N bs) : Mt l Z M_ail [] n0 #[(.ref b)] h0 (fun v h => v = some (.int 1) ∧ h0 = h) :=
  mt_of_kw (P := ([], fun _ => False)) pf_ail (fun m => by first | (simp [entryFrame, mkF, argsToLocals, Value.category]; done) | rfl) (kw_ail l Z a0 hw cs hcs SC hEW b d N bs h0 n0 OD SB)
abbrev M_gvl : MD := ((⟨"java/lang/AbstractStringBuilder", "getValue", "()[B"⟩ : MethodName), jdk_68_method_64_code, 1, (some (.array .byte)), { frames := 0, cells := 0, slots := 0, locals := 0 })
theorem d_gvl_0 : decode jdk_68_method_64_code 0 = .ok (.aload_n 0, 1) := by decide +kernel
theorem d_gvl_1 : decode jdk_68_method_64_code 1 = .ok (.getfield 15, 3) := by decide +kernel
theorem d_gvl_4 : decode jdk_68_method_64_code 4 = .ok (.areturn, 1) := by decide +kernel
theorem pd_gvl : parseMethodDescriptor "()[B" = some ⟨[], (some (.array .byte))⟩ := by decide +kernel
theorem pf_gvl : plainFor (⟨"java/lang/AbstractStringBuilder", "getValue", "()[B"⟩ : MethodName) = true := by first | exact plainFor_of_name (by first | (simp [plainName, overriddenIn]; done) | decide +kernel) | decide +kernel
set_option maxRecDepth 65536 in
set_option maxHeartbeats 40000000 in
theorem kw_gvl (l : Launch) (Z : State) (a0 : Array Value) (hw : ∀ d ∈ tables_1, d.before a0 Z = true) (cs : Int32) (hcs : ¬ cs = 0) (SC : Sta Z Z.heap "java/lang/String" "COMPACT_STRINGS" "Z" (.int cs)) (hEW : EW Z a0 EL) (b d : Addr) (N : Nat) (bs : List Int32) (h0 : Heap) (n0 : Nat) (OD : Old Z n0 h0) (SB : Sb Z h0 b d N bs) : KW false l Z M_gvl n0 (fun v h => v = some (.ref d) ∧ h0 = h) ([], fun _ => False) h0 0 0 0 #[.val (.ref b)] [] := by
  obtain ⟨ckB, zs, EB, VB, CB, NB, AB, hN, hN2⟩ := id SB
  refine k_aloadN d_gvl_0 rfl rfl rfl ?_
  refine k_getField d_gvl_1 rfl (hw _ (List.mem_of_getElem? (i := 88) rfl)) Via.refl VB ?_
  exact k_retRef d_gvl_4 rfl rfl rfl (by decide) (by decide) ⟨rfl, rfl⟩
theorem mt_gvl (l : Launch) (Z : State) (a0 : Array Value) (hw : ∀ d ∈ tables_1, d.before a0 Z = true) (cs : Int32) (hcs : ¬ cs = 0) (SC : Sta Z Z.heap "java/lang/String" "COMPACT_STRINGS" "Z" (.int cs)) (hEW : EW Z a0 EL) (b d : Addr) (N : Nat) (bs : List Int32) (h0 : Heap) (n0 : Nat) (OD : Old Z n0 h0) (SB : Sb Z h0 b d N bs) : Mt l Z M_gvl [] n0 #[(.ref b)] h0 (fun v h => v = some (.ref d) ∧ h0 = h) :=
  mt_of_kw (P := ([], fun _ => False)) pf_gvl (fun m => by first | (simp [entryFrame, mkF, argsToLocals, Value.category]; done) | rfl) (kw_gvl l Z a0 hw cs hcs SC hEW b d N bs h0 n0 OD SB)
abbrev M_aln : MD := ((⟨"java/lang/AbstractStringBuilder", "length", "()I"⟩ : MethodName), jdk_68_method_6_code, 1, (some .int), { frames := 0, cells := 0, slots := 0, locals := 0 })
theorem d_aln_0 : decode jdk_68_method_6_code 0 = .ok (.aload_n 0, 1) := by decide +kernel
theorem d_aln_1 : decode jdk_68_method_6_code 1 = .ok (.getfield 79, 3) := by decide +kernel
theorem d_aln_4 : decode jdk_68_method_6_code 4 = .ok (.ireturn, 1) := by decide +kernel
theorem pd_aln : parseMethodDescriptor "()I" = some ⟨[], (some .int)⟩ := by decide +kernel
theorem pf_aln : plainFor (⟨"java/lang/AbstractStringBuilder", "length", "()I"⟩ : MethodName) = true := by first | exact plainFor_of_name (by first | (simp [plainName, overriddenIn]; done) | decide +kernel) | decide +kernel
set_option maxRecDepth 65536 in
set_option maxHeartbeats 40000000 in
theorem kw_aln (l : Launch) (Z : State) (a0 : Array Value) (hw : ∀ d ∈ tables_1, d.before a0 Z = true) (cs : Int32) (hcs : ¬ cs = 0) (SC : Sta Z Z.heap "java/lang/String" "COMPACT_STRINGS" "Z" (.int cs)) (hEW : EW Z a0 EL) (b d : Addr) (N : Nat) (bs : List Int32) (h0 : Heap) (n0 : Nat) (OD : Old Z n0 h0) (SB : Sb Z h0 b d N bs) : KW false l Z M_aln n0 (fun v h => v = some (.int (Int32.ofNat bs.length)) ∧ h0 = h) ([], fun _ => False) h0 0 0 0 #[.val (.ref b)] [] := by
  obtain ⟨ckB, zs, EB, VB, CB, NB, AB, hN, hN2⟩ := id SB
  refine k_aloadN d_aln_0 rfl rfl rfl ?_
  refine k_getField d_aln_1 rfl (hw _ (List.mem_of_getElem? (i := 115) rfl)) Via.refl NB ?_
  exact k_retInt d_aln_4 rfl (by decide) (by decide) ⟨rfl, rfl⟩
theorem mt_aln (l : Launch) (Z : State) (a0 : Array Value) (hw : ∀ d ∈ tables_1, d.before a0 Z = true) (cs : Int32) (hcs : ¬ cs = 0) (SC : Sta Z Z.heap "java/lang/String" "COMPACT_STRINGS" "Z" (.int cs)) (hEW : EW Z a0 EL) (b d : Addr) (N : Nat) (bs : List Int32) (h0 : Heap) (n0 : Nat) (OD : Old Z n0 h0) (SB : Sb Z h0 b d N bs) : Mt l Z M_aln [] n0 #[(.ref b)] h0 (fun v h => v = some (.int (Int32.ofNat bs.length)) ∧ h0 = h) :=
  mt_of_kw (P := ([], fun _ => False)) pf_aln (fun m => by first | (simp [entryFrame, mkF, argsToLocals, Value.category]; done) | rfl) (kw_aln l Z a0 hw cs hcs SC hEW b d N bs h0 n0 OD SB)
abbrev M_sln : MD := ((⟨"java/lang/StringBuilder", "length", "()I"⟩ : MethodName), jdk_67_method_93_code, 1, (some .int), { frames := 1, cells := 0, slots := 0, locals := 16 })
theorem d_sln_0 : decode jdk_67_method_93_code 0 = .ok (.aload_n 0, 1) := by decide +kernel
theorem d_sln_1 : decode jdk_67_method_93_code 1 = .ok (.invokespecial 343, 3) := by decide +kernel
theorem d_sln_4 : decode jdk_67_method_93_code 4 = .ok (.ireturn, 1) := by decide +kernel
theorem pd_sln : parseMethodDescriptor "()I" = some ⟨[], (some .int)⟩ := by decide +kernel
theorem pf_sln : plainFor (⟨"java/lang/StringBuilder", "length", "()I"⟩ : MethodName) = true := by first | exact plainFor_of_name (by first | (simp [plainName, overriddenIn]; done) | decide +kernel) | decide +kernel
set_option maxRecDepth 65536 in
set_option maxHeartbeats 40000000 in
theorem kw_sln (l : Launch) (Z : State) (a0 : Array Value) (hw : ∀ d ∈ tables_1, d.before a0 Z = true) (cs : Int32) (hcs : ¬ cs = 0) (SC : Sta Z Z.heap "java/lang/String" "COMPACT_STRINGS" "Z" (.int cs)) (hEW : EW Z a0 EL) (b d : Addr) (N : Nat) (bs : List Int32) (h0 : Heap) (n0 : Nat) (OD : Old Z n0 h0) (SB : Sb Z h0 b d N bs) : KW false l Z M_sln n0 (fun v h => v = some (.int (Int32.ofNat bs.length)) ∧ h0 = h) ([], fun _ => False) h0 0 0 0 #[.val (.ref b)] [] := by
  obtain ⟨ckB, zs, EB, VB, CB, NB, AB, hN, hN2⟩ := id SB
  refine k_aloadN d_sln_0 rfl rfl rfl ?_
  refine k_callSuper (argsL := []) (rest := []) (W0 := 0) d_sln_1 rfl (mt_aln l Z a0 hw cs hcs SC hEW b d N bs h0 n0 OD SB) Kp.strict EB (hw _ (List.mem_of_getElem? (i := 165) rfl)) (hw _ (List.mem_of_getElem? (i := 160) rfl)) (hw _ (List.mem_of_getElem? (i := 120) rfl)) rfl (hw _ (List.mem_of_getElem? (i := 161) rfl)) (hw _ (List.mem_of_getElem? (i := 102) rfl)) (hw _ (List.mem_of_getElem? (i := 166) rfl)) (hw _ (List.mem_of_getElem? (i := 84) rfl)) (by decide) (by decide) pd_aln rfl rfl rfl rfl (by decide) (by decide) (by decide) (by decide) ?_
  rintro _ _ - ⟨rfl, rfl⟩
  refine KW.any (P' := ([], fun _ => False)) ?_
  show KW false l Z M_sln n0 (fun v h => v = some (.int (Int32.ofNat bs.length)) ∧ h0 = h) ([], fun _ => False) h0 0 0 4 #[.val (.ref b)] [(.int (Int32.ofNat bs.length))]
  exact k_retInt d_sln_4 rfl (by decide) (by decide) ⟨rfl, rfl⟩
theorem mt_sln (l : Launch) (Z : State) (a0 : Array Value) (hw : ∀ d ∈ tables_1, d.before a0 Z = true) (cs : Int32) (hcs : ¬ cs = 0) (SC : Sta Z Z.heap "java/lang/String" "COMPACT_STRINGS" "Z" (.int cs)) (hEW : EW Z a0 EL) (b d : Addr) (N : Nat) (bs : List Int32) (h0 : Heap) (n0 : Nat) (OD : Old Z n0 h0) (SB : Sb Z h0 b d N bs) : Mt l Z M_sln [] n0 #[(.ref b)] h0 (fun v h => v = some (.int (Int32.ofNat bs.length)) ∧ h0 = h) :=
  mt_of_kw (P := ([], fun _ => False)) pf_sln (fun m => by first | (simp [entryFrame, mkF, argsToLocals, Value.category]; done) | rfl) (kw_sln l Z a0 hw cs hcs SC hEW b d N bs h0 n0 OD SB)
abbrev M_ece : MD := ((⟨"java/lang/AbstractStringBuilder", "ensureCapacityInternal", "(I)V"⟩ : MethodName), jdk_68_method_9_code, 3, none, { frames := 0, cells := 0, slots := 0, locals := 0 })
theorem d_ece_0 : decode jdk_68_method_9_code 0 = .ok (.aload_n 0, 1) := by decide +kernel
theorem d_ece_1 : decode jdk_68_method_9_code 1 = .ok (.getfield 15, 3) := by decide +kernel
theorem d_ece_4 : decode jdk_68_method_9_code 4 = .ok (.arraylength, 1) := by decide +kernel
theorem d_ece_5 : decode jdk_68_method_9_code 5 = .ok (.aload_n 0, 1) := by decide +kernel
theorem d_ece_6 : decode jdk_68_method_9_code 6 = .ok (.getfield 22, 3) := by decide +kernel
theorem d_ece_9 : decode jdk_68_method_9_code 9 = .ok (.ishr, 1) := by decide +kernel
theorem d_ece_10 : decode jdk_68_method_9_code 10 = .ok (.istore_n 2, 1) := by decide +kernel
theorem d_ece_11 : decode jdk_68_method_9_code 11 = .ok (.iload_n 1, 1) := by decide +kernel
theorem d_ece_12 : decode jdk_68_method_9_code 12 = .ok (.iload_n 2, 1) := by decide +kernel
theorem d_ece_13 : decode jdk_68_method_9_code 13 = .ok (.isub, 1) := by decide +kernel
theorem d_ece_14 : decode jdk_68_method_9_code 14 = .ok (.ifCond .le 24, 3) := by decide +kernel
theorem d_ece_17 : decode jdk_68_method_9_code 17 = .ok (.aload_n 0, 1) := by decide +kernel
theorem d_ece_18 : decode jdk_68_method_9_code 18 = .ok (.aload_n 0, 1) := by decide +kernel
theorem d_ece_19 : decode jdk_68_method_9_code 19 = .ok (.getfield 15, 3) := by decide +kernel
theorem d_ece_22 : decode jdk_68_method_9_code 22 = .ok (.aload_n 0, 1) := by decide +kernel
theorem d_ece_23 : decode jdk_68_method_9_code 23 = .ok (.iload_n 1, 1) := by decide +kernel
theorem d_ece_24 : decode jdk_68_method_9_code 24 = .ok (.invokevirtual 104, 3) := by decide +kernel
theorem d_ece_27 : decode jdk_68_method_9_code 27 = .ok (.aload_n 0, 1) := by decide +kernel
theorem d_ece_28 : decode jdk_68_method_9_code 28 = .ok (.getfield 22, 3) := by decide +kernel
theorem d_ece_31 : decode jdk_68_method_9_code 31 = .ok (.ishl, 1) := by decide +kernel
theorem d_ece_32 : decode jdk_68_method_9_code 32 = .ok (.invokestatic 108, 3) := by decide +kernel
theorem d_ece_35 : decode jdk_68_method_9_code 35 = .ok (.putfield 15, 3) := by decide +kernel
theorem d_ece_38 : decode jdk_68_method_9_code 38 = .ok (.return_, 1) := by decide +kernel
theorem pd_ece : parseMethodDescriptor "(I)V" = some ⟨[.int], none⟩ := by decide +kernel
theorem pf_ece : plainFor (⟨"java/lang/AbstractStringBuilder", "ensureCapacityInternal", "(I)V"⟩ : MethodName) = true := by first | exact plainFor_of_name (by first | (simp [plainName, overriddenIn]; done) | decide +kernel) | decide +kernel
set_option maxRecDepth 65536 in
set_option maxHeartbeats 40000000 in
theorem kw_ece (l : Launch) (Z : State) (a0 : Array Value) (hw : ∀ d ∈ tables_1, d.before a0 Z = true) (cs : Int32) (hcs : ¬ cs = 0) (SC : Sta Z Z.heap "java/lang/String" "COMPACT_STRINGS" "Z" (.int cs)) (hEW : EW Z a0 EL) (b d : Addr) (N : Nat) (bs : List Int32) (h0 : Heap) (n0 : Nat) (OD : Old Z n0 h0) (SB : Sb Z h0 b d N bs) (mm : Nat) (m1 : Int32) (hm : m1 = Int32.ofNat mm) (hmm : mm ≤ N)  : KW false l Z M_ece n0 (fun v h => v = none ∧ h0 = h) ([], fun _ => False) h0 0 0 0 #[.val (.ref b), .val (.int m1), .unset] [] := by
  obtain ⟨ckB, zs, EB, VB, CB, NB, AB, hN, hN2⟩ := id SB
  refine k_aloadN d_ece_0 rfl rfl rfl ?_
  refine k_getField d_ece_1 rfl (hw _ (List.mem_of_getElem? (i := 88) rfl)) Via.refl VB ?_
  refine k_arrlen d_ece_4 rfl AB ?_
  refine k_aloadN d_ece_5 rfl rfl rfl ?_
  refine k_getField d_ece_6 rfl (hw _ (List.mem_of_getElem? (i := 90) rfl)) Via.refl CB ?_
  refine k_ishr d_ece_9 rfl ?_
  refine k_istoreN (Ls' := #[.val (.ref b), .val (.int m1), .val (.int ((Int32.ofNat N) >>> ((0 : Int32) &&& 31)))]) d_ece_10 rfl rfl ?_
  refine k_iloadN d_ece_11 rfl rfl ?_
  refine k_iloadN d_ece_12 rfl rfl ?_
  refine k_isub d_ece_13 rfl ?_
  refine k_ifc (pc1 := 38) (pc' := 17) d_ece_14 (by decide) (by decide) rfl (fun (cd1 : ¬ (0 : Int32) < (m1 - ((Int32.ofNat N) >>> ((0 : Int32) &&& 31)))) => ?_) (fun (cd1 : (0 : Int32) < (m1 - ((Int32.ofNat N) >>> ((0 : Int32) &&& 31)))) => False.elim (by subst hm; exact ix_room hN2 hmm cd1))
  exact k_retVoid d_ece_38 rfl (by decide) (by decide) ⟨rfl, rfl⟩
theorem mt_ece (l : Launch) (Z : State) (a0 : Array Value) (hw : ∀ d ∈ tables_1, d.before a0 Z = true) (cs : Int32) (hcs : ¬ cs = 0) (SC : Sta Z Z.heap "java/lang/String" "COMPACT_STRINGS" "Z" (.int cs)) (hEW : EW Z a0 EL) (b d : Addr) (N : Nat) (bs : List Int32) (h0 : Heap) (n0 : Nat) (OD : Old Z n0 h0) (SB : Sb Z h0 b d N bs) (mm : Nat) (m1 : Int32) (hm : m1 = Int32.ofNat mm) (hmm : mm ≤ N)  : Mt l Z M_ece [] n0 #[(.ref b), (.int m1)] h0 (fun v h => v = none ∧ h0 = h) :=
  mt_of_kw (P := ([], fun _ => False)) pf_ece (fun m => by first | (simp [entryFrame, mkF, argsToLocals, Value.category]; done) | rfl) (kw_ece l Z a0 hw cs hcs SC hEW b d N bs h0 n0 OD SB mm m1 hm hmm)
abbrev M_inf : MD := ((⟨"java/lang/AbstractStringBuilder", "inflateIfNeededFor", "(Ljava/lang/String;)V"⟩ : MethodName), jdk_68_method_71_code, 2, none, { frames := 1, cells := 0, slots := 0, locals := 16 })
theorem d_inf_0 : decode jdk_68_method_71_code 0 = .ok (.getstatic 18, 3) := by decide +kernel
theorem d_inf_3 : decode jdk_68_method_71_code 3 = .ok (.ifCond .eq 18, 3) := by decide +kernel
theorem d_inf_6 : decode jdk_68_method_71_code 6 = .ok (.aload_n 0, 1) := by decide +kernel
theorem d_inf_7 : decode jdk_68_method_71_code 7 = .ok (.getfield 22, 3) := by decide +kernel
theorem d_inf_10 : decode jdk_68_method_71_code 10 = .ok (.aload_n 1, 1) := by decide +kernel
theorem d_inf_11 : decode jdk_68_method_71_code 11 = .ok (.invokevirtual 40, 3) := by decide +kernel
theorem d_inf_14 : decode jdk_68_method_71_code 14 = .ok (.if_icmp .eq 7, 3) := by decide +kernel
theorem d_inf_17 : decode jdk_68_method_71_code 17 = .ok (.aload_n 0, 1) := by decide +kernel
theorem d_inf_18 : decode jdk_68_method_71_code 18 = .ok (.invokevirtual 195, 3) := by decide +kernel
theorem d_inf_21 : decode jdk_68_method_71_code 21 = .ok (.return_, 1) := by decide +kernel
theorem pd_inf : parseMethodDescriptor "(Ljava/lang/String;)V" = some ⟨[(.object "java/lang/String")], none⟩ := by decide +kernel
theorem pf_inf : plainFor (⟨"java/lang/AbstractStringBuilder", "inflateIfNeededFor", "(Ljava/lang/String;)V"⟩ : MethodName) = true := by first | exact plainFor_of_name (by first | (simp [plainName, overriddenIn]; done) | decide +kernel) | decide +kernel
set_option maxRecDepth 65536 in
set_option maxHeartbeats 40000000 in
theorem kw_inf (l : Launch) (Z : State) (a0 : Array Value) (hw : ∀ d ∈ tables_1, d.before a0 Z = true) (cs : Int32) (hcs : ¬ cs = 0) (SC : Sta Z Z.heap "java/lang/String" "COMPACT_STRINGS" "Z" (.int cs)) (hEW : EW Z a0 EL) (b s t : Addr) (xs : List Int32) (h0 : Heap) (n0 : Nat) (OD : Old Z n0 h0) (CB : Fld Z h0 b "java/lang/AbstractStringBuilder" "coder" "B" (.int 0)) (SA : Sg Z h0 s t xs) : KW false l Z M_inf n0 (fun v h => v = none ∧ h0 = h) ([], fun _ => False) h0 0 0 0 #[.val (.ref b), .val (.ref s)] [] := by
  refine k_getStatic d_inf_0 rfl (hw _ (List.mem_of_getElem? (i := 87) rfl)) (Sta.ext OD.2 SC) ?_
  refine k_ifc (pc1 := 21) (pc' := 6) d_inf_3 (by decide) (by decide) rfl (fun (cd1 : cs = (0 : Int32)) => False.elim (by exact hcs cd1)) (fun (cd1 : ¬ cs = (0 : Int32)) => ?_)
  refine k_aloadN d_inf_6 rfl rfl rfl ?_
  refine k_getField d_inf_7 rfl (hw _ (List.mem_of_getElem? (i := 90) rfl)) Via.refl CB ?_
  refine k_aloadN d_inf_10 rfl rfl rfl ?_
  refine k_callVirtual (argsL := []) (rest := [(.int (0 : Int32))]) (W0 := 1) d_inf_11 rfl (mt_cdr l Z a0 hw cs hcs SC hEW s t xs h0 n0 OD SA) Kp.strict SA.exa (hw _ (List.mem_of_getElem? (i := 132) rfl)) (hw _ (List.mem_of_getElem? (i := 111) rfl)) (hw _ (List.mem_of_getElem? (i := 113) rfl)) (hw _ (List.mem_of_getElem? (i := 108) rfl)) rfl (hw _ (List.mem_of_getElem? (i := 112) rfl)) (hw _ (List.mem_of_getElem? (i := 114) rfl)) (hw _ (List.mem_of_getElem? (i := 8) rfl)) (by decide) pd_cdr rfl rfl rfl rfl (by decide) (by decide) (by decide) (by decide) ?_
  rintro _ _ - ⟨rfl, rfl⟩
  refine KW.any (P' := ([], fun _ => False)) ?_
  show KW false l Z M_inf n0 (fun v h => v = none ∧ h0 = h) ([], fun _ => False) h0 0 0 14 #[.val (.ref b), .val (.ref s)] [(.int (0 : Int32)), (.int (0 : Int32))]
  refine k_icmp (pc1 := 21) (pc' := 17) d_inf_14 (by decide) (by decide) rfl (fun (cd2 : (0 : Int32) = (0 : Int32)) => ?_) (fun (cd2 : ¬ (0 : Int32) = (0 : Int32)) => False.elim (by exact absurd cd2 (by decide)))
  exact k_retVoid d_inf_21 rfl (by decide) (by decide) ⟨rfl, rfl⟩
theorem mt_inf (l : Launch) (Z : State) (a0 : Array Value) (hw : ∀ d ∈ tables_1, d.before a0 Z = true) (cs : Int32) (hcs : ¬ cs = 0) (SC : Sta Z Z.heap "java/lang/String" "COMPACT_STRINGS" "Z" (.int cs)) (hEW : EW Z a0 EL) (b s t : Addr) (xs : List Int32) (h0 : Heap) (n0 : Nat) (OD : Old Z n0 h0) (CB : Fld Z h0 b "java/lang/AbstractStringBuilder" "coder" "B" (.int 0)) (SA : Sg Z h0 s t xs) : Mt l Z M_inf [] n0 #[(.ref b), (.ref s)] h0 (fun v h => v = none ∧ h0 = h) :=
  mt_of_kw (P := ([], fun _ => False)) pf_inf (fun m => by first | (simp [entryFrame, mkF, argsToLocals, Value.category]; done) | rfl) (kw_inf l Z a0 hw cs hcs SC hEW b s t xs h0 n0 OD CB SA)
abbrev M_gby : MD := ((⟨"java/lang/String", "getBytes", "([BIB)V"⟩ : MethodName), jdk_42_method_147_code, 4, none, { frames := 1, cells := 0, slots := 0, locals := 48 })
theorem d_gby_0 : decode jdk_42_method_147_code 0 = .ok (.aload_n 0, 1) := by decide +kernel
theorem d_gby_1 : decode jdk_42_method_147_code 1 = .ok (.invokevirtual 335, 3) := by decide +kernel
theorem d_gby_4 : decode jdk_42_method_147_code 4 = .ok (.iload_n 3, 1) := by decide +kernel
theorem d_gby_5 : decode jdk_42_method_147_code 5 = .ok (.if_icmp .ne 23, 3) := by decide +kernel
theorem d_gby_8 : decode jdk_42_method_147_code 8 = .ok (.aload_n 0, 1) := by decide +kernel
theorem d_gby_9 : decode jdk_42_method_147_code 9 = .ok (.getfield 9, 3) := by decide +kernel
theorem d_gby_12 : decode jdk_42_method_147_code 12 = .ok (.iconst 0, 1) := by decide +kernel
theorem d_gby_13 : decode jdk_42_method_147_code 13 = .ok (.aload_n 1, 1) := by decide +kernel
theorem d_gby_14 : decode jdk_42_method_147_code 14 = .ok (.iload_n 2, 1) := by decide +kernel
theorem d_gby_15 : decode jdk_42_method_147_code 15 = .ok (.iload_n 3, 1) := by decide +kernel
theorem d_gby_16 : decode jdk_42_method_147_code 16 = .ok (.ishl, 1) := by decide +kernel
theorem d_gby_17 : decode jdk_42_method_147_code 17 = .ok (.aload_n 0, 1) := by decide +kernel
theorem d_gby_18 : decode jdk_42_method_147_code 18 = .ok (.getfield 9, 3) := by decide +kernel
theorem d_gby_21 : decode jdk_42_method_147_code 21 = .ok (.arraylength, 1) := by decide +kernel
theorem d_gby_22 : decode jdk_42_method_147_code 22 = .ok (.invokestatic 212, 3) := by decide +kernel
theorem d_gby_25 : decode jdk_42_method_147_code 25 = .ok (.goto 18, 3) := by decide +kernel
theorem d_gby_28 : decode jdk_42_method_147_code 28 = .ok (.aload_n 0, 1) := by decide +kernel
theorem d_gby_29 : decode jdk_42_method_147_code 29 = .ok (.getfield 9, 3) := by decide +kernel
theorem d_gby_32 : decode jdk_42_method_147_code 32 = .ok (.iconst 0, 1) := by decide +kernel
theorem d_gby_33 : decode jdk_42_method_147_code 33 = .ok (.aload_n 1, 1) := by decide +kernel
theorem d_gby_34 : decode jdk_42_method_147_code 34 = .ok (.iload_n 2, 1) := by decide +kernel
theorem d_gby_35 : decode jdk_42_method_147_code 35 = .ok (.aload_n 0, 1) := by decide +kernel
theorem d_gby_36 : decode jdk_42_method_147_code 36 = .ok (.getfield 9, 3) := by decide +kernel
theorem d_gby_39 : decode jdk_42_method_147_code 39 = .ok (.arraylength, 1) := by decide +kernel
theorem d_gby_40 : decode jdk_42_method_147_code 40 = .ok (.invokestatic 106, 3) := by decide +kernel
theorem d_gby_43 : decode jdk_42_method_147_code 43 = .ok (.return_, 1) := by decide +kernel
theorem pd_gby : parseMethodDescriptor "([BIB)V" = some ⟨[(.array .byte), .int, .byte], none⟩ := by decide +kernel
theorem pf_gby : plainFor (⟨"java/lang/String", "getBytes", "([BIB)V"⟩ : MethodName) = true := by first | exact plainFor_of_name (by first | (simp [plainName, overriddenIn]; done) | decide +kernel) | decide +kernel
set_option maxRecDepth 65536 in
set_option maxHeartbeats 40000000 in
theorem kw_gby (l : Launch) (Z : State) (a0 : Array Value) (hw : ∀ d ∈ tables_1, d.before a0 Z = true) (cs : Int32) (hcs : ¬ cs = 0) (SC : Sta Z Z.heap "java/lang/String" "COMPACT_STRINGS" "Z" (.int cs)) (hEW : EW Z a0 EL) (a t d : Addr) (ck : ClassId) (bs ys : List Int32) (pos : Nat) (h0 : Heap) (n0 : Nat) (OD : Old Z n0 h0) (SA : Sg Z h0 a t bs) (D : Arv Z h0 d ck .byte (Int32.ofNat ys.length) (ys.map Value.int) (.int 0)) (hy : ys.length < 2147483648) (hfit : pos + bs.length ≤ ys.length) (gd : n0 ≤ d) : KW false l Z M_gby n0 (fun v h => v = none ∧ Keep h0 h [d] ∧ Arv Z h d ck .byte (Int32.ofNat ys.length) ((laid bs ys 0 pos bs.length).map Value.int) (.int 0)) ([], fun _ => False) h0 0 0 0 #[.val (.ref a), .val (.ref d), .val (.int (Int32.ofNat pos)), .val (.int (0 : Int32))] [] := by
  obtain ⟨ckA, EA, CA, VA, AA, lA⟩ := id SA
  refine k_aloadN d_gby_0 rfl rfl rfl ?_
  refine k_callVirtual (argsL := []) (rest := []) (W0 := 0) d_gby_1 rfl (mt_cdr l Z a0 hw cs hcs SC hEW a t bs h0 n0 OD SA) Kp.strict EA (hw _ (List.mem_of_getElem? (i := 110) rfl)) (hw _ (List.mem_of_getElem? (i := 111) rfl)) (hw _ (List.mem_of_getElem? (i := 113) rfl)) (hw _ (List.mem_of_getElem? (i := 108) rfl)) rfl (hw _ (List.mem_of_getElem? (i := 112) rfl)) (hw _ (List.mem_of_getElem? (i := 114) rfl)) (hw _ (List.mem_of_getElem? (i := 8) rfl)) (by decide) pd_cdr rfl rfl rfl rfl (by decide) (by decide) (by decide) (by decide) ?_
  rintro _ _ - ⟨rfl, rfl⟩
  refine KW.any (P' := ([], fun _ => False)) ?_
  show KW false l Z M_gby n0 (fun v h => v = none ∧ Keep h0 h [d] ∧ Arv Z h d ck .byte (Int32.ofNat ys.length) ((laid bs ys 0 pos bs.length).map Value.int) (.int 0)) ([], fun _ => False) h0 0 0 4 #[.val (.ref a), .val (.ref d), .val (.int (Int32.ofNat pos)), .val (.int (0 : Int32))] [(.int (0 : Int32))]
  refine k_iloadN d_gby_4 rfl rfl ?_
  refine k_icmp (pc1 := 28) (pc' := 8) d_gby_5 (by decide) (by decide) rfl (fun (cd1 : ¬ (0 : Int32) = (0 : Int32)) => False.elim (by exact absurd cd1 (by decide))) (fun (cd1 : (0 : Int32) = (0 : Int32)) => ?_)
  refine k_aloadN d_gby_8 rfl rfl rfl ?_
  refine k_getField d_gby_9 rfl (hw _ (List.mem_of_getElem? (i := 72) rfl)) Via.refl VA ?_
  refine k_iconst (z := (0 : Int32)) d_gby_12 rfl (by decide) ?_
  refine k_aloadN d_gby_13 rfl rfl rfl ?_
  refine k_iloadN d_gby_14 rfl rfl ?_
  refine k_iloadN d_gby_15 rfl rfl ?_
  refine k_ishl d_gby_16 rfl ?_
  refine KW.top (congrArg Value.int (shl0 _)) ?_
  show KW false l Z M_gby n0 (fun v h => v = none ∧ Keep h0 h [d] ∧ Arv Z h d ck .byte (Int32.ofNat ys.length) ((laid bs ys 0 pos bs.length).map Value.int) (.int 0)) ([], fun _ => False) h0 0 0 17 #[.val (.ref a), .val (.ref d), .val (.int (Int32.ofNat pos)), .val (.int (0 : Int32))] [(.int (Int32.ofNat pos)), (.ref d), (.int (0 : Int32)), (.ref t)]
  refine k_aloadN d_gby_17 rfl rfl rfl ?_
  refine k_getField d_gby_18 rfl (hw _ (List.mem_of_getElem? (i := 72) rfl)) Via.refl VA ?_
  refine k_arrlen d_gby_21 rfl AA ?_
  refine k_acopy (o := 0) (q := pos) (m' := bs.length) (W0 := 0) d_gby_22 rfl (hw _ (List.mem_of_getElem? (i := 138) rfl)) (hw _ (List.mem_of_getElem? (i := 141) rfl)) (hw _ (List.mem_of_getElem? (i := 139) rfl)) (hw _ (List.mem_of_getElem? (i := 140) rfl)) lA hy AA D (by omega) hfit gd (fun q => by cases q) rfl rfl (by decide) (by decide) ?_
  intro hN K V
  refine KW.any (P' := ([], fun _ => False)) ?_
  show KW false l Z M_gby n0 (fun v h => v = none ∧ Keep h0 h [d] ∧ Arv Z h d ck .byte (Int32.ofNat ys.length) ((laid bs ys 0 pos bs.length).map Value.int) (.int 0)) ([], fun _ => False) hN 0 0 25 #[.val (.ref a), .val (.ref d), .val (.int (Int32.ofNat pos)), .val (.int (0 : Int32))] []
  refine k_goto (pc' := 43) d_gby_25 (by decide) (by decide) ?_
  exact k_retVoid d_gby_43 rfl (by decide) (by decide) ⟨rfl, K, V⟩
theorem mt_gby (l : Launch) (Z : State) (a0 : Array Value) (hw : ∀ d ∈ tables_1, d.before a0 Z = true) (cs : Int32) (hcs : ¬ cs = 0) (SC : Sta Z Z.heap "java/lang/String" "COMPACT_STRINGS" "Z" (.int cs)) (hEW : EW Z a0 EL) (a t d : Addr) (ck : ClassId) (bs ys : List Int32) (pos : Nat) (h0 : Heap) (n0 : Nat) (OD : Old Z n0 h0) (SA : Sg Z h0 a t bs) (D : Arv Z h0 d ck .byte (Int32.ofNat ys.length) (ys.map Value.int) (.int 0)) (hy : ys.length < 2147483648) (hfit : pos + bs.length ≤ ys.length) (gd : n0 ≤ d) : Mt l Z M_gby [] n0 #[(.ref a), (.ref d), (.int (Int32.ofNat pos)), (.int (0 : Int32))] h0 (fun v h => v = none ∧ Keep h0 h [d] ∧ Arv Z h d ck .byte (Int32.ofNat ys.length) ((laid bs ys 0 pos bs.length).map Value.int) (.int 0)) :=
  mt_of_kw (P := ([], fun _ => False)) pf_gby (fun m => by first | (simp [entryFrame, mkF, argsToLocals, Value.category]; done) | rfl) (kw_gby l Z a0 hw cs hcs SC hEW a t d ck bs ys pos h0 n0 OD SA D hy hfit gd)
abbrev M_psa : MD := ((⟨"java/lang/AbstractStringBuilder", "putStringAt", "(ILjava/lang/String;)V"⟩ : MethodName), jdk_68_method_73_code, 3, none, { frames := 2, cells := 0, slots := 0, locals := 64 })
theorem d_psa_0 : decode jdk_68_method_73_code 0 = .ok (.aload_n 0, 1) := by decide +kernel
theorem d_psa_1 : decode jdk_68_method_73_code 1 = .ok (.aload_n 2, 1) := by decide +kernel
theorem d_psa_2 : decode jdk_68_method_73_code 2 = .ok (.invokevirtual 397, 3) := by decide +kernel
theorem d_psa_5 : decode jdk_68_method_73_code 5 = .ok (.aload_n 2, 1) := by decide +kernel
theorem d_psa_6 : decode jdk_68_method_73_code 6 = .ok (.aload_n 0, 1) := by decide +kernel
theorem d_psa_7 : decode jdk_68_method_73_code 7 = .ok (.getfield 15, 3) := by decide +kernel
theorem d_psa_10 : decode jdk_68_method_73_code 10 = .ok (.iload_n 1, 1) := by decide +kernel
theorem d_psa_11 : decode jdk_68_method_73_code 11 = .ok (.aload_n 0, 1) := by decide +kernel
theorem d_psa_12 : decode jdk_68_method_73_code 12 = .ok (.getfield 22, 3) := by decide +kernel
theorem d_psa_15 : decode jdk_68_method_73_code 15 = .ok (.invokevirtual 399, 3) := by decide +kernel
theorem d_psa_18 : decode jdk_68_method_73_code 18 = .ok (.return_, 1) := by decide +kernel
theorem pd_psa : parseMethodDescriptor "(ILjava/lang/String;)V" = some ⟨[.int, (.object "java/lang/String")], none⟩ := by decide +kernel
theorem pf_psa : plainFor (⟨"java/lang/AbstractStringBuilder", "putStringAt", "(ILjava/lang/String;)V"⟩ : MethodName) = true := by first | exact plainFor_of_name (by first | (simp [plainName, overriddenIn]; done) | decide +kernel) | decide +kernel
set_option maxRecDepth 65536 in
set_option maxHeartbeats 40000000 in
theorem kw_psa (l : Launch) (Z : State) (a0 : Array Value) (hw : ∀ d ∈ tables_1, d.before a0 Z = true) (cs : Int32) (hcs : ¬ cs = 0) (SC : Sta Z Z.heap "java/lang/String" "COMPACT_STRINGS" "Z" (.int cs)) (hEW : EW Z a0 EL) (b d s t : Addr) (ckB : ClassId) (N : Nat) (bs zs xs : List Int32) (h0 : Heap) (n0 : Nat) (OD : Old Z n0 h0) (EB : Exa Z h0 b "java/lang/StringBuilder") (VB : Fld Z h0 b "java/lang/AbstractStringBuilder" "value" "[B" (.ref d)) (CB : Fld Z h0 b "java/lang/AbstractStringBuilder" "coder" "B" (.int 0)) (AB : Arv Z h0 d ckB .byte (Int32.ofNat N) ((bs ++ zs).map Value.int) (.int 0)) (hN : (bs ++ zs).length = N) (hN2 : N < 2147483648) (SA : Sg Z h0 s t xs) (hfit : xs.length ≤ zs.length) (gd : n0 ≤ d) : KW false l Z M_psa n0 (fun v h => v = none ∧ Keep h0 h [d] ∧ Arv Z h d ckB .byte (Int32.ofNat N) (((bs ++ xs) ++ zs.drop xs.length).map Value.int) (.int 0)) ([], fun _ => False) h0 0 0 0 #[.val (.ref b), .val (.int (Int32.ofNat bs.length)), .val (.ref s)] [] := by
  refine k_aloadN d_psa_0 rfl rfl rfl ?_
  refine k_aloadN d_psa_1 rfl rfl rfl ?_
  refine k_callVirtual (argsL := [(.ref s)]) (rest := []) (W0 := 0) d_psa_2 rfl (mt_inf l Z a0 hw cs hcs SC hEW b s t xs h0 n0 OD CB SA) Kp.strict EB (hw _ (List.mem_of_getElem? (i := 127) rfl)) (own_decl (hw _ (List.mem_of_getElem? (i := 128) rfl)) (hw _ (List.mem_of_getElem? (i := 131) rfl))) (hw _ (List.mem_of_getElem? (i := 130) rfl)) (hw _ (List.mem_of_getElem? (i := 120) rfl)) rfl (hw _ (List.mem_of_getElem? (i := 128) rfl)) (hw _ (List.mem_of_getElem? (i := 131) rfl)) (hw _ (List.mem_of_getElem? (i := 84) rfl)) (by decide) pd_inf rfl rfl rfl rfl (by decide) (by decide) (by decide) (by decide) ?_
  rintro _ _ - ⟨rfl, rfl⟩
  refine KW.any (P' := ([], fun _ => False)) ?_
  show KW false l Z M_psa n0 (fun v h => v = none ∧ Keep h0 h [d] ∧ Arv Z h d ckB .byte (Int32.ofNat N) (((bs ++ xs) ++ zs.drop xs.length).map Value.int) (.int 0)) ([], fun _ => False) h0 0 0 5 #[.val (.ref b), .val (.int (Int32.ofNat bs.length)), .val (.ref s)] []
  refine k_aloadN d_psa_5 rfl rfl rfl ?_
  refine k_aloadN d_psa_6 rfl rfl rfl ?_
  refine k_getField d_psa_7 rfl (hw _ (List.mem_of_getElem? (i := 88) rfl)) Via.refl VB ?_
  refine k_iloadN d_psa_10 rfl rfl ?_
  refine k_aloadN d_psa_11 rfl rfl rfl ?_
  refine k_getField d_psa_12 rfl (hw _ (List.mem_of_getElem? (i := 90) rfl)) Via.refl CB ?_
  refine k_callVirtual (argsL := [(.ref d), (.int (Int32.ofNat bs.length)), (.int (0 : Int32))]) (rest := []) (W0 := 0) d_psa_15 rfl (mt_gby l Z a0 hw cs hcs SC hEW s t d ckB xs (bs ++ zs) bs.length h0 n0 OD SA (by rw [hN]; exact AB) (by omega) (by rw [List.length_append]; omega) gd) Kp.strict SA.exa (hw _ (List.mem_of_getElem? (i := 133) rfl)) (hw _ (List.mem_of_getElem? (i := 134) rfl)) (hw _ (List.mem_of_getElem? (i := 136) rfl)) (hw _ (List.mem_of_getElem? (i := 108) rfl)) rfl (hw _ (List.mem_of_getElem? (i := 135) rfl)) (hw _ (List.mem_of_getElem? (i := 137) rfl)) (hw _ (List.mem_of_getElem? (i := 8) rfl)) (by decide) pd_gby rfl rfl rfl rfl (by decide) (by decide) (by decide) (by decide) ?_
  rintro _ hM - ⟨rfl, K, V⟩
  rw [hN, laid_app xs bs zs hfit] at V
  refine KW.any (P' := ([], fun _ => False)) ?_
  show KW false l Z M_psa n0 (fun v h => v = none ∧ Keep h0 h [d] ∧ Arv Z h d ckB .byte (Int32.ofNat N) (((bs ++ xs) ++ zs.drop xs.length).map Value.int) (.int 0)) ([], fun _ => False) hM 0 0 18 #[.val (.ref b), .val (.int (Int32.ofNat bs.length)), .val (.ref s)] []
  exact k_retVoid d_psa_18 rfl (by decide) (by decide) ⟨rfl, K, V⟩
theorem mt_psa (l : Launch) (Z : State) (a0 : Array Value) (hw : ∀ d ∈ tables_1, d.before a0 Z = true) (cs : Int32) (hcs : ¬ cs = 0) (SC : Sta Z Z.heap "java/lang/String" "COMPACT_STRINGS" "Z" (.int cs)) (hEW : EW Z a0 EL) (b d s t : Addr) (ckB : ClassId) (N : Nat) (bs zs xs : List Int32) (h0 : Heap) (n0 : Nat) (OD : Old Z n0 h0) (EB : Exa Z h0 b "java/lang/StringBuilder") (VB : Fld Z h0 b "java/lang/AbstractStringBuilder" "value" "[B" (.ref d)) (CB : Fld Z h0 b "java/lang/AbstractStringBuilder" "coder" "B" (.int 0)) (AB : Arv Z h0 d ckB .byte (Int32.ofNat N) ((bs ++ zs).map Value.int) (.int 0)) (hN : (bs ++ zs).length = N) (hN2 : N < 2147483648) (SA : Sg Z h0 s t xs) (hfit : xs.length ≤ zs.length) (gd : n0 ≤ d) : Mt l Z M_psa [] n0 #[(.ref b), (.int (Int32.ofNat bs.length)), (.ref s)] h0 (fun v h => v = none ∧ Keep h0 h [d] ∧ Arv Z h d ckB .byte (Int32.ofNat N) (((bs ++ xs) ++ zs.drop xs.length).map Value.int) (.int 0)) :=
  mt_of_kw (P := ([], fun _ => False)) pf_psa (fun m => by first | (simp [entryFrame, mkF, argsToLocals, Value.category]; done) | rfl) (kw_psa l Z a0 hw cs hcs SC hEW b d s t ckB N bs zs xs h0 n0 OD EB VB CB AB hN hN2 SA hfit gd)
abbrev M_aas : MD := ((⟨"java/lang/AbstractStringBuilder", "append", "(Ljava/lang/String;)Ljava/lang/AbstractStringBuilder;"⟩ : MethodName), jdk_68_method_22_code, 3, (some (.object "java/lang/AbstractStringBuilder")), { frames := 3, cells := 0, slots := 0, locals := 80 })
theorem d_aas_0 : decode jdk_68_method_22_code 0 = .ok (.aload_n 1, 1) := by decide +kernel
theorem d_aas_1 : decode jdk_68_method_22_code 1 = .ok (.ifnonnull 8, 3) := by decide +kernel
theorem d_aas_4 : decode jdk_68_method_22_code 4 = .ok (.aload_n 0, 1) := by decide +kernel
theorem d_aas_5 : decode jdk_68_method_22_code 5 = .ok (.invokevirtual 204, 3) := by decide +kernel
theorem d_aas_8 : decode jdk_68_method_22_code 8 = .ok (.areturn, 1) := by decide +kernel
theorem d_aas_9 : decode jdk_68_method_22_code 9 = .ok (.aload_n 1, 1) := by decide +kernel
theorem d_aas_10 : decode jdk_68_method_22_code 10 = .ok (.invokevirtual 32, 3) := by decide +kernel
theorem d_aas_13 : decode jdk_68_method_22_code 13 = .ok (.istore_n 2, 1) := by decide +kernel
theorem d_aas_14 : decode jdk_68_method_22_code 14 = .ok (.aload_n 0, 1) := by decide +kernel
theorem d_aas_15 : decode jdk_68_method_22_code 15 = .ok (.aload_n 0, 1) := by decide +kernel
theorem d_aas_16 : decode jdk_68_method_22_code 16 = .ok (.getfield 79, 3) := by decide +kernel
theorem d_aas_19 : decode jdk_68_method_22_code 19 = .ok (.iload_n 2, 1) := by decide +kernel
theorem d_aas_20 : decode jdk_68_method_22_code 20 = .ok (.iadd, 1) := by decide +kernel
theorem d_aas_21 : decode jdk_68_method_22_code 21 = .ok (.invokevirtual 100, 3) := by decide +kernel
theorem d_aas_24 : decode jdk_68_method_22_code 24 = .ok (.aload_n 0, 1) := by decide +kernel
theorem d_aas_25 : decode jdk_68_method_22_code 25 = .ok (.aload_n 0, 1) := by decide +kernel
theorem d_aas_26 : decode jdk_68_method_22_code 26 = .ok (.getfield 79, 3) := by decide +kernel
theorem d_aas_29 : decode jdk_68_method_22_code 29 = .ok (.aload_n 1, 1) := by decide +kernel
theorem d_aas_30 : decode jdk_68_method_22_code 30 = .ok (.invokevirtual 208, 3) := by decide +kernel
theorem d_aas_33 : decode jdk_68_method_22_code 33 = .ok (.aload_n 0, 1) := by decide +kernel
theorem d_aas_34 : decode jdk_68_method_22_code 34 = .ok (.dup, 1) := by decide +kernel
theorem d_aas_35 : decode jdk_68_method_22_code 35 = .ok (.getfield 79, 3) := by decide +kernel
theorem d_aas_38 : decode jdk_68_method_22_code 38 = .ok (.iload_n 2, 1) := by decide +kernel
theorem d_aas_39 : decode jdk_68_method_22_code 39 = .ok (.iadd, 1) := by decide +kernel
theorem d_aas_40 : decode jdk_68_method_22_code 40 = .ok (.putfield 79, 3) := by decide +kernel
theorem d_aas_43 : decode jdk_68_method_22_code 43 = .ok (.aload_n 0, 1) := by decide +kernel
theorem d_aas_44 : decode jdk_68_method_22_code 44 = .ok (.areturn, 1) := by decide +kernel
theorem pd_aas : parseMethodDescriptor "(Ljava/lang/String;)Ljava/lang/AbstractStringBuilder;" = some ⟨[(.object "java/lang/String")], (some (.object "java/lang/AbstractStringBuilder"))⟩ := by decide +kernel
theorem pf_aas : plainFor (⟨"java/lang/AbstractStringBuilder", "append", "(Ljava/lang/String;)Ljava/lang/AbstractStringBuilder;"⟩ : MethodName) = true := by first | exact plainFor_of_name (by first | (simp [plainName, overriddenIn]; done) | decide +kernel) | decide +kernel
set_option maxRecDepth 65536 in
set_option maxHeartbeats 40000000 in
theorem kw_aas (l : Launch) (Z : State) (a0 : Array Value) (hw : ∀ d ∈ tables_1, d.before a0 Z = true) (cs : Int32) (hcs : ¬ cs = 0) (SC : Sta Z Z.heap "java/lang/String" "COMPACT_STRINGS" "Z" (.int cs)) (hEW : EW Z a0 EL) (b d s t : Addr) (N : Nat) (bs xs : List Int32) (h0 : Heap) (n0 : Nat) (OD : Old Z n0 h0) (SB : Sb Z h0 b d N bs) (SA : Sg Z h0 s t xs) (hbd : b ≠ d) (gb : n0 ≤ b) (gd : n0 ≤ d) (hfit : bs.length + xs.length ≤ N) : KW false l Z M_aas n0 (fun v h => v = some (.ref b) ∧ Keep h0 h [b, d] ∧ Sb Z h b d N (bs ++ xs)) ([], fun _ => False) h0 0 0 0 #[.val (.ref b), .val (.ref s), .unset] [] := by
  obtain ⟨ckB, zs, EB, VB, CB, NB, AB, hN, hN2⟩ := id SB
  have K0 : Keep h0 h0 [b, d] := Keep.refl _ _
  refine k_aloadN d_aas_0 rfl rfl rfl ?_
  refine k_ifnonnullY (pc' := 9) d_aas_1 (by decide) (by decide) ?_
  refine k_aloadN d_aas_9 rfl rfl rfl ?_
  refine k_callVirtual (argsL := []) (rest := []) (W0 := 0) d_aas_10 rfl (mt_len l Z a0 hw cs hcs SC hEW s t xs h0 n0 OD SA) Kp.strict SA.exa (hw _ (List.mem_of_getElem? (i := 105) rfl)) (hw _ (List.mem_of_getElem? (i := 106) rfl)) (hw _ (List.mem_of_getElem? (i := 108) rfl)) (hw _ (List.mem_of_getElem? (i := 108) rfl)) rfl (hw _ (List.mem_of_getElem? (i := 107) rfl)) (hw _ (List.mem_of_getElem? (i := 109) rfl)) (hw _ (List.mem_of_getElem? (i := 8) rfl)) (by decide) pd_len rfl rfl rfl rfl (by decide) (by decide) (by decide) (by decide) ?_
  rintro _ _ - ⟨rfl, rfl⟩
  refine KW.any (P' := ([], fun _ => False)) ?_
  show KW false l Z M_aas n0 (fun v h => v = some (.ref b) ∧ Keep h0 h [b, d] ∧ Sb Z h b d N (bs ++ xs)) ([], fun _ => False) h0 0 0 13 #[.val (.ref b), .val (.ref s), .unset] [(.int (Int32.ofNat xs.length))]
  refine k_istoreN (Ls' := #[.val (.ref b), .val (.ref s), .val (.int (Int32.ofNat xs.length))]) d_aas_13 rfl rfl ?_
  refine k_aloadN d_aas_14 rfl rfl rfl ?_
  refine k_aloadN d_aas_15 rfl rfl rfl ?_
  refine k_getField d_aas_16 rfl (hw _ (List.mem_of_getElem? (i := 115) rfl)) Via.refl NB ?_
  refine k_iloadN d_aas_19 rfl rfl ?_
  refine k_iadd d_aas_20 rfl ?_
  refine k_callVirtual (argsL := [(.int ((Int32.ofNat bs.length) + (Int32.ofNat xs.length)))]) (rest := []) (W0 := 0) d_aas_21 rfl (mt_ece l Z a0 hw cs hcs SC hEW b d N bs h0 n0 OD SB (bs.length + xs.length) _ (ix_add _ _) hfit) Kp.strict EB (hw _ (List.mem_of_getElem? (i := 117) rfl)) (own_decl (hw _ (List.mem_of_getElem? (i := 118) rfl)) (hw _ (List.mem_of_getElem? (i := 121) rfl))) (hw _ (List.mem_of_getElem? (i := 120) rfl)) (hw _ (List.mem_of_getElem? (i := 120) rfl)) rfl (hw _ (List.mem_of_getElem? (i := 118) rfl)) (hw _ (List.mem_of_getElem? (i := 121) rfl)) (hw _ (List.mem_of_getElem? (i := 84) rfl)) (by decide) pd_ece rfl rfl rfl rfl (by decide) (by decide) (by decide) (by decide) ?_
  rintro _ _ - ⟨rfl, rfl⟩
  refine KW.any (P' := ([], fun _ => False)) ?_
  show KW false l Z M_aas n0 (fun v h => v = some (.ref b) ∧ Keep h0 h [b, d] ∧ Sb Z h b d N (bs ++ xs)) ([], fun _ => False) h0 0 0 24 #[.val (.ref b), .val (.ref s), .val (.int (Int32.ofNat xs.length))] []
  refine k_aloadN d_aas_24 rfl rfl rfl ?_
  refine k_aloadN d_aas_25 rfl rfl rfl ?_
  refine k_getField d_aas_26 rfl (hw _ (List.mem_of_getElem? (i := 115) rfl)) Via.refl NB ?_
  refine k_aloadN d_aas_29 rfl rfl rfl ?_
  refine k_callVirtual (argsL := [(.int (Int32.ofNat bs.length)), (.ref s)]) (rest := []) (W0 := 0) d_aas_30 rfl (mt_psa l Z a0 hw cs hcs SC hEW b d s t ckB N bs zs xs h0 n0 OD EB VB CB AB hN hN2 SA (by rw [List.length_append] at hN; omega) gd) Kp.strict EB (hw _ (List.mem_of_getElem? (i := 122) rfl)) (own_decl (hw _ (List.mem_of_getElem? (i := 123) rfl)) (hw _ (List.mem_of_getElem? (i := 126) rfl))) (hw _ (List.mem_of_getElem? (i := 125) rfl)) (hw _ (List.mem_of_getElem? (i := 120) rfl)) rfl (hw _ (List.mem_of_getElem? (i := 123) rfl)) (hw _ (List.mem_of_getElem? (i := 126) rfl)) (hw _ (List.mem_of_getElem? (i := 84) rfl)) (by decide) pd_psa rfl rfl rfl rfl (by decide) (by decide) (by decide) (by decide) ?_
  rintro _ hM - ⟨rfl, KM, VM⟩
  refine KW.any (P' := ([], fun _ => False)) ?_
  show KW false l Z M_aas n0 (fun v h => v = some (.ref b) ∧ Keep h0 h [b, d] ∧ Sb Z h b d N (bs ++ xs)) ([], fun _ => False) hM 0 0 33 #[.val (.ref b), .val (.ref s), .val (.int (Int32.ofNat xs.length))] []
  refine k_aloadN d_aas_33 rfl rfl rfl ?_
  refine k_dup d_aas_34 rfl rfl ?_
  have f1 := (NB.keep KM (ninS hbd nin0))
  refine k_getField d_aas_35 rfl (hw _ (List.mem_of_getElem? (i := 115) rfl)) Via.refl f1 ?_
  refine k_iloadN d_aas_38 rfl rfl ?_
  refine k_iadd d_aas_39 rfl ?_
  have f4 := (EB.keep KM)
  refine k_put (v' := (.int ((Int32.ofNat bs.length) + (Int32.ofNat xs.length)))) (ty := .int) d_aas_40 rfl (hw _ (List.mem_of_getElem? (i := 115) rfl)) Via.refl f1 f4 (Or.inl (hw _ (List.mem_of_getElem? (i := 116) rfl))) (hw _ (List.mem_of_getElem? (i := 75) rfl)) (by decide) rfl rfl gb (fun q => by cases q) ?_
  intro h2 W3
  have F5 := f1.same W3
  show KW false l Z M_aas n0 (fun v h => v = some (.ref b) ∧ Keep h0 h [b, d] ∧ Sb Z h b d N (bs ++ xs)) ([], fun _ => False) h2 0 0 43 #[.val (.ref b), .val (.ref s), .val (.int (Int32.ofNat xs.length))] []
  refine k_aloadN d_aas_43 rfl rfl rfl ?_
  have f6 := ((K0.trans KM (allS (Or.inl (by simp)) all0)).wr W3 (Or.inl (by simp)))
  have f7 := (f4.wr W3)
  have f8 := ((VB.keep KM (ninS hbd nin0)).other W3 (Or.inr (slot_ne (t := (.array .byte)) (t' := .int) (Or.inl (hw _ (List.mem_of_getElem? (i := 89) rfl))) (Or.inl (hw _ (List.mem_of_getElem? (i := 116) rfl))) (by decide) (by decide) (by decide))))
  have f9 := ((CB.keep KM (ninS hbd nin0)).other W3 (Or.inr (slot_ne (t := .byte) (t' := .int) (Or.inl (hw _ (List.mem_of_getElem? (i := 91) rfl))) (Or.inl (hw _ (List.mem_of_getElem? (i := 116) rfl))) (by decide) (by decide) (by decide))))
  have f10 := (VM.other W3 (Ne.symm hbd))
  exact k_retRef d_aas_44 rfl rfl rfl (by decide) (by decide) ⟨rfl, f6, ⟨ckB, zs.drop xs.length, f7, f8, f9, by rw [List.length_append, ← ix_add]; exact F5, f10, (by simp only [List.length_append, List.length_drop] at hN ⊢; omega), hN2⟩⟩
theorem mt_aas (l : Launch) (Z : State) (a0 : Array Value) (hw : ∀ d ∈ tables_1, d.before a0 Z = true) (cs : Int32) (hcs : ¬ cs = 0) (SC : Sta Z Z.heap "java/lang/String" "COMPACT_STRINGS" "Z" (.int cs)) (hEW : EW Z a0 EL) (b d s t : Addr) (N : Nat) (bs xs : List Int32) (h0 : Heap) (n0 : Nat) (OD : Old Z n0 h0) (SB : Sb Z h0 b d N bs) (SA : Sg Z h0 s t xs) (hbd : b ≠ d) (gb : n0 ≤ b) (gd : n0 ≤ d) (hfit : bs.length + xs.length ≤ N) : Mt l Z M_aas [] n0 #[(.ref b), (.ref s)] h0 (fun v h => v = some (.ref b) ∧ Keep h0 h [b, d] ∧ Sb Z h b d N (bs ++ xs)) :=
  mt_of_kw (P := ([], fun _ => False)) pf_aas (fun m => by first | (simp [entryFrame, mkF, argsToLocals, Value.category]; done) | rfl) (kw_aas l Z a0 hw cs hcs SC hEW b d s t N bs xs h0 n0 OD SB SA hbd gb gd hfit)
abbrev M_sas : MD := ((⟨"java/lang/StringBuilder", "append", "(Ljava/lang/String;)Ljava/lang/StringBuilder;"⟩ : MethodName), jdk_67_method_7_code, 2, (some (.object "java/lang/StringBuilder")), { frames := 4, cells := 0, slots := 0, locals := 96 })
theorem d_sas_0 : decode jdk_67_method_7_code 0 = .ok (.aload_n 0, 1) := by decide +kernel
theorem d_sas_1 : decode jdk_67_method_7_code 1 = .ok (.aload_n 1, 1) := by decide +kernel
theorem d_sas_2 : decode jdk_67_method_7_code 2 = .ok (.invokespecial 29, 3) := by decide +kernel
theorem d_sas_5 : decode jdk_67_method_7_code 5 = .ok (.pop, 1) := by decide +kernel
theorem d_sas_6 : decode jdk_67_method_7_code 6 = .ok (.aload_n 0, 1) := by decide +kernel
theorem d_sas_7 : decode jdk_67_method_7_code 7 = .ok (.areturn, 1) := by decide +kernel
theorem pd_sas : parseMethodDescriptor "(Ljava/lang/String;)Ljava/lang/StringBuilder;" = some ⟨[(.object "java/lang/String")], (some (.object "java/lang/StringBuilder"))⟩ := by decide +kernel
theorem pf_sas : plainFor (⟨"java/lang/StringBuilder", "append", "(Ljava/lang/String;)Ljava/lang/StringBuilder;"⟩ : MethodName) = true := by first | exact plainFor_of_name (by first | (simp [plainName, overriddenIn]; done) | decide +kernel) | decide +kernel
set_option maxRecDepth 65536 in
set_option maxHeartbeats 40000000 in
theorem kw_sas (l : Launch) (Z : State) (a0 : Array Value) (hw : ∀ d ∈ tables_1, d.before a0 Z = true) (cs : Int32) (hcs : ¬ cs = 0) (SC : Sta Z Z.heap "java/lang/String" "COMPACT_STRINGS" "Z" (.int cs)) (hEW : EW Z a0 EL) (b d s t : Addr) (N : Nat) (bs xs : List Int32) (h0 : Heap) (n0 : Nat) (OD : Old Z n0 h0) (SB : Sb Z h0 b d N bs) (SA : Sg Z h0 s t xs) (hbd : b ≠ d) (gb : n0 ≤ b) (gd : n0 ≤ d) (hfit : bs.length + xs.length ≤ N) : KW false l Z M_sas n0 (fun v h => v = some (.ref b) ∧ Keep h0 h [b, d] ∧ Sb Z h b d N (bs ++ xs)) ([], fun _ => False) h0 0 0 0 #[.val (.ref b), .val (.ref s)] [] := by
  obtain ⟨ckB, zs, EB, VB, CB, NB, AB, hN, hN2⟩ := id SB
  refine k_aloadN d_sas_0 rfl rfl rfl ?_
  refine k_aloadN d_sas_1 rfl rfl rfl ?_
  refine k_callSuper (argsL := [(.ref s)]) (rest := []) (W0 := 0) d_sas_2 rfl (mt_aas l Z a0 hw cs hcs SC hEW b d s t N bs xs h0 n0 OD SB SA hbd gb gd hfit) Kp.strict EB (hw _ (List.mem_of_getElem? (i := 100) rfl)) (hw _ (List.mem_of_getElem? (i := 103) rfl)) (hw _ (List.mem_of_getElem? (i := 120) rfl)) rfl (hw _ (List.mem_of_getElem? (i := 101) rfl)) (hw _ (List.mem_of_getElem? (i := 102) rfl)) (hw _ (List.mem_of_getElem? (i := 104) rfl)) (hw _ (List.mem_of_getElem? (i := 84) rfl)) (by decide) (by decide) pd_aas rfl rfl rfl rfl (by decide) (by decide) (by decide) (by decide) ?_
  rintro _ hM - ⟨rfl, R1⟩
  refine KW.any (P' := ([], fun _ => False)) ?_
  show KW false l Z M_sas n0 (fun v h => v = some (.ref b) ∧ Keep h0 h [b, d] ∧ Sb Z h b d N (bs ++ xs)) ([], fun _ => False) hM 0 0 5 #[.val (.ref b), .val (.ref s)] [(.ref b)]
  refine k_pop d_sas_5 rfl rfl ?_
  refine k_aloadN d_sas_6 rfl rfl rfl ?_
  exact k_retRef d_sas_7 rfl rfl rfl (by decide) (by decide) ⟨rfl, R1⟩
theorem mt_sas (l : Launch) (Z : State) (a0 : Array Value) (hw : ∀ d ∈ tables_1, d.before a0 Z = true) (cs : Int32) (hcs : ¬ cs = 0) (SC : Sta Z Z.heap "java/lang/String" "COMPACT_STRINGS" "Z" (.int cs)) (hEW : EW Z a0 EL) (b d s t : Addr) (N : Nat) (bs xs : List Int32) (h0 : Heap) (n0 : Nat) (OD : Old Z n0 h0) (SB : Sb Z h0 b d N bs) (SA : Sg Z h0 s t xs) (hbd : b ≠ d) (gb : n0 ≤ b) (gd : n0 ≤ d) (hfit : bs.length + xs.length ≤ N) : Mt l Z M_sas [] n0 #[(.ref b), (.ref s)] h0 (fun v h => v = some (.ref b) ∧ Keep h0 h [b, d] ∧ Sb Z h b d N (bs ++ xs)) :=
  mt_of_kw (P := ([], fun _ => False)) pf_sas (fun m => by first | (simp [entryFrame, mkF, argsToLocals, Value.category]; done) | rfl) (kw_sas l Z a0 hw cs hcs SC hEW b d s t N bs xs h0 n0 OD SB SA hbd gb gd hfit)
abbrev M_aac : MD := ((⟨"java/lang/AbstractStringBuilder", "append", "(C)Ljava/lang/AbstractStringBuilder;"⟩ : MethodName), jdk_68_method_31_code, 2, (some (.object "java/lang/AbstractStringBuilder")), { frames := 1, cells := 0, slots := 0, locals := 24 })
theorem d_aac_0 : decode jdk_68_method_31_code 0 = .ok (.aload_n 0, 1) := by decide +kernel
theorem d_aac_1 : decode jdk_68_method_31_code 1 = .ok (.aload_n 0, 1) := by decide +kernel
theorem d_aac_2 : decode jdk_68_method_31_code 2 = .ok (.getfield 79, 3) := by decide +kernel
theorem d_aac_5 : decode jdk_68_method_31_code 5 = .ok (.iconst 1, 1) := by decide +kernel
theorem d_aac_6 : decode jdk_68_method_31_code 6 = .ok (.iadd, 1) := by decide +kernel
theorem d_aac_7 : decode jdk_68_method_31_code 7 = .ok (.invokevirtual 100, 3) := by decide +kernel
theorem d_aac_10 : decode jdk_68_method_31_code 10 = .ok (.aload_n 0, 1) := by decide +kernel
theorem d_aac_11 : decode jdk_68_method_31_code 11 = .ok (.invokevirtual 83, 3) := by decide +kernel
theorem d_aac_14 : decode jdk_68_method_31_code 14 = .ok (.ifCond .eq 31, 3) := by decide +kernel
theorem d_aac_17 : decode jdk_68_method_31_code 17 = .ok (.iload_n 1, 1) := by decide +kernel
theorem d_aac_18 : decode jdk_68_method_31_code 18 = .ok (.invokestatic 191, 3) := by decide +kernel
theorem d_aac_21 : decode jdk_68_method_31_code 21 = .ok (.ifCond .eq 24, 3) := by decide +kernel
theorem d_aac_24 : decode jdk_68_method_31_code 24 = .ok (.aload_n 0, 1) := by decide +kernel
theorem d_aac_25 : decode jdk_68_method_31_code 25 = .ok (.getfield 15, 3) := by decide +kernel
theorem d_aac_28 : decode jdk_68_method_31_code 28 = .ok (.aload_n 0, 1) := by decide +kernel
theorem d_aac_29 : decode jdk_68_method_31_code 29 = .ok (.dup, 1) := by decide +kernel
theorem d_aac_30 : decode jdk_68_method_31_code 30 = .ok (.getfield 79, 3) := by decide +kernel
theorem d_aac_33 : decode jdk_68_method_31_code 33 = .ok (.dup_x1, 1) := by decide +kernel
theorem d_aac_34 : decode jdk_68_method_31_code 34 = .ok (.iconst 1, 1) := by decide +kernel
theorem d_aac_35 : decode jdk_68_method_31_code 35 = .ok (.iadd, 1) := by decide +kernel
theorem d_aac_36 : decode jdk_68_method_31_code 36 = .ok (.putfield 79, 3) := by decide +kernel
theorem d_aac_39 : decode jdk_68_method_31_code 39 = .ok (.iload_n 1, 1) := by decide +kernel
theorem d_aac_40 : decode jdk_68_method_31_code 40 = .ok (.i2b, 1) := by decide +kernel
theorem d_aac_41 : decode jdk_68_method_31_code 41 = .ok (.bastore, 1) := by decide +kernel
theorem d_aac_42 : decode jdk_68_method_31_code 42 = .ok (.goto 33, 3) := by decide +kernel
theorem d_aac_45 : decode jdk_68_method_31_code 45 = .ok (.aload_n 0, 1) := by decide +kernel
theorem d_aac_46 : decode jdk_68_method_31_code 46 = .ok (.invokevirtual 83, 3) := by decide +kernel
theorem d_aac_49 : decode jdk_68_method_31_code 49 = .ok (.ifCond .eq 7, 3) := by decide +kernel
theorem d_aac_52 : decode jdk_68_method_31_code 52 = .ok (.aload_n 0, 1) := by decide +kernel
theorem d_aac_53 : decode jdk_68_method_31_code 53 = .ok (.invokevirtual 195, 3) := by decide +kernel
theorem d_aac_56 : decode jdk_68_method_31_code 56 = .ok (.aload_n 0, 1) := by decide +kernel
theorem d_aac_57 : decode jdk_68_method_31_code 57 = .ok (.getfield 15, 3) := by decide +kernel
theorem d_aac_60 : decode jdk_68_method_31_code 60 = .ok (.aload_n 0, 1) := by decide +kernel
theorem d_aac_61 : decode jdk_68_method_31_code 61 = .ok (.dup, 1) := by decide +kernel
theorem d_aac_62 : decode jdk_68_method_31_code 62 = .ok (.getfield 79, 3) := by decide +kernel
theorem d_aac_65 : decode jdk_68_method_31_code 65 = .ok (.dup_x1, 1) := by decide +kernel
theorem d_aac_66 : decode jdk_68_method_31_code 66 = .ok (.iconst 1, 1) := by decide +kernel
theorem d_aac_67 : decode jdk_68_method_31_code 67 = .ok (.iadd, 1) := by decide +kernel
theorem d_aac_68 : decode jdk_68_method_31_code 68 = .ok (.putfield 79, 3) := by decide +kernel
theorem d_aac_71 : decode jdk_68_method_31_code 71 = .ok (.iload_n 1, 1) := by decide +kernel
theorem d_aac_72 : decode jdk_68_method_31_code 72 = .ok (.invokestatic 197, 3) := by decide +kernel
theorem d_aac_75 : decode jdk_68_method_31_code 75 = .ok (.aload_n 0, 1) := by decide +kernel
theorem d_aac_76 : decode jdk_68_method_31_code 76 = .ok (.areturn, 1) := by decide +kernel
theorem pd_aac : parseMethodDescriptor "(C)Ljava/lang/AbstractStringBuilder;" = some ⟨[.char], (some (.object "java/lang/AbstractStringBuilder"))⟩ := by decide +kernel
theorem pf_aac : plainFor (⟨"java/lang/AbstractStringBuilder", "append", "(C)Ljava/lang/AbstractStringBuilder;"⟩ : MethodName) = true := by first | exact plainFor_of_name (by first | (simp [plainName, overriddenIn]; done) | decide +kernel) | decide +kernel
set_option maxRecDepth 65536 in
set_option maxHeartbeats 40000000 in
theorem kw_aac (l : Launch) (Z : State) (a0 : Array Value) (hw : ∀ d ∈ tables_1, d.before a0 Z = true) (cs : Int32) (hcs : ¬ cs = 0) (SC : Sta Z Z.heap "java/lang/String" "COMPACT_STRINGS" "Z" (.int cs)) (hEW : EW Z a0 EL) (b d : Addr) (N : Nat) (bs : List Int32) (h0 : Heap) (n0 : Nat) (OD : Old Z n0 h0) (SB : Sb Z h0 b d N bs) (p : Int32) (hp : 0 ≤ p.toInt ∧ p.toInt < 256) (hbd : b ≠ d) (gb : n0 ≤ b) (gd : n0 ≤ d) (hfit : bs.length + 1 ≤ N) : KW false l Z M_aac n0 (fun v h => v = some (.ref b) ∧ Keep h0 h [b, d] ∧ Sb Z h b d N (bs ++ [nbI p])) ([], fun _ => False) h0 0 0 0 #[.val (.ref b), .val (.int p)] [] := by
  obtain ⟨ckB, zs, EB, VB, CB, NB, AB, hN, hN2⟩ := id SB
  obtain ⟨z0, zs, rfl⟩ : ∃ z0 r, zs = z0 :: r := by
    cases zs with
    | nil => rw [List.append_nil] at hN; omega
    | cons z r => exact ⟨z, r, rfl⟩
  have K0 : Keep h0 h0 [b, d] := Keep.refl _ _
  refine k_aloadN d_aac_0 rfl rfl rfl ?_
  refine k_aloadN d_aac_1 rfl rfl rfl ?_
  refine k_getField d_aac_2 rfl (hw _ (List.mem_of_getElem? (i := 115) rfl)) Via.refl NB ?_
  refine k_iconst (z := (1 : Int32)) d_aac_5 rfl (by decide) ?_
  refine k_iadd d_aac_6 rfl ?_
  refine k_callVirtual (argsL := [(.int ((Int32.ofNat bs.length) + (1 : Int32)))]) (rest := []) (W0 := 0) d_aac_7 rfl (mt_ece l Z a0 hw cs hcs SC hEW b d N bs h0 n0 OD SB (bs.length + 1) _ (ix_succ _) hfit) Kp.strict EB (hw _ (List.mem_of_getElem? (i := 117) rfl)) (own_decl (hw _ (List.mem_of_getElem? (i := 118) rfl)) (hw _ (List.mem_of_getElem? (i := 121) rfl))) (hw _ (List.mem_of_getElem? (i := 120) rfl)) (hw _ (List.mem_of_getElem? (i := 120) rfl)) rfl (hw _ (List.mem_of_getElem? (i := 118) rfl)) (hw _ (List.mem_of_getElem? (i := 121) rfl)) (hw _ (List.mem_of_getElem? (i := 84) rfl)) (by decide) pd_ece rfl rfl rfl rfl (by decide) (by decide) (by decide) (by decide) ?_
  rintro _ _ - ⟨rfl, rfl⟩
  refine KW.any (P' := ([], fun _ => False)) ?_
  show KW false l Z M_aac n0 (fun v h => v = some (.ref b) ∧ Keep h0 h [b, d] ∧ Sb Z h b d N (bs ++ [nbI p])) ([], fun _ => False) h0 0 0 10 #[.val (.ref b), .val (.int p)] []
  refine k_aloadN d_aac_10 rfl rfl rfl ?_
  refine k_callVirtual (argsL := []) (rest := []) (W0 := 0) d_aac_11 rfl (mt_ail l Z a0 hw cs hcs SC hEW b d N bs h0 n0 OD SB) Kp.strict EB (hw _ (List.mem_of_getElem? (i := 242) rfl)) (hw _ (List.mem_of_getElem? (i := 168) rfl)) (hw _ (List.mem_of_getElem? (i := 170) rfl)) (hw _ (List.mem_of_getElem? (i := 120) rfl)) rfl (hw _ (List.mem_of_getElem? (i := 169) rfl)) (hw _ (List.mem_of_getElem? (i := 171) rfl)) (hw _ (List.mem_of_getElem? (i := 84) rfl)) (by decide) pd_ail rfl rfl rfl rfl (by decide) (by decide) (by decide) (by decide) ?_
  rintro _ _ - ⟨rfl, rfl⟩
  refine KW.any (P' := ([], fun _ => False)) ?_
  show KW false l Z M_aac n0 (fun v h => v = some (.ref b) ∧ Keep h0 h [b, d] ∧ Sb Z h b d N (bs ++ [nbI p])) ([], fun _ => False) h0 0 0 14 #[.val (.ref b), .val (.int p)] [(.int (1 : Int32))]
  refine k_ifc (pc1 := 45) (pc' := 17) d_aac_14 (by decide) (by decide) rfl (fun (cd1 : (1 : Int32) = (0 : Int32)) => False.elim (by exact absurd cd1 (by decide))) (fun (cd1 : ¬ (1 : Int32) = (0 : Int32)) => ?_)
  refine k_iloadN d_aac_17 rfl rfl ?_
  refine k_callStatic (argsL := [(.int p)]) (rest := []) (W0 := 0) d_aac_18 rfl (mt_cen l Z a0 hw cs hcs SC hEW p h0 n0 hp) Kp.strict (hw _ (List.mem_of_getElem? (i := 243) rfl)) (hw _ (List.mem_of_getElem? (i := 60) rfl)) (hw _ (List.mem_of_getElem? (i := 61) rfl)) (hw _ (List.mem_of_getElem? (i := 62) rfl)) (by decide) pd_cen rfl rfl rfl rfl (by decide) (by decide) (by decide) (by decide) ?_
  rintro _ _ - ⟨rfl, rfl⟩
  refine KW.any (P' := ([], fun _ => False)) ?_
  show KW false l Z M_aac n0 (fun v h => v = some (.ref b) ∧ Keep h0 h [b, d] ∧ Sb Z h b d N (bs ++ [nbI p])) ([], fun _ => False) h0 0 0 21 #[.val (.ref b), .val (.int p)] [(.int (1 : Int32))]
  refine k_ifc (pc1 := 45) (pc' := 24) d_aac_21 (by decide) (by decide) rfl (fun (cd2 : (1 : Int32) = (0 : Int32)) => False.elim (by exact absurd cd2 (by decide))) (fun (cd2 : ¬ (1 : Int32) = (0 : Int32)) => ?_)
  refine k_aloadN d_aac_24 rfl rfl rfl ?_
  refine k_getField d_aac_25 rfl (hw _ (List.mem_of_getElem? (i := 88) rfl)) Via.refl VB ?_
  refine k_aloadN d_aac_28 rfl rfl rfl ?_
  refine k_dup d_aac_29 rfl rfl ?_
  refine k_getField d_aac_30 rfl (hw _ (List.mem_of_getElem? (i := 115) rfl)) Via.refl NB ?_
  refine k_dupX1 d_aac_33 rfl rfl rfl ?_
  refine k_iconst (z := (1 : Int32)) d_aac_34 rfl (by decide) ?_
  refine k_iadd d_aac_35 rfl ?_
  refine k_put (v' := (.int ((Int32.ofNat bs.length) + (1 : Int32)))) (ty := .int) d_aac_36 rfl (hw _ (List.mem_of_getElem? (i := 115) rfl)) Via.refl NB EB (Or.inl (hw _ (List.mem_of_getElem? (i := 116) rfl))) (hw _ (List.mem_of_getElem? (i := 75) rfl)) (by decide) rfl rfl gb (fun q => by cases q) ?_
  intro h1 W2
  have F3 := NB.same W2
  show KW false l Z M_aac n0 (fun v h => v = some (.ref b) ∧ Keep h0 h [b, d] ∧ Sb Z h b d N (bs ++ [nbI p])) ([], fun _ => False) h1 0 0 39 #[.val (.ref b), .val (.int p)] [(.int (Int32.ofNat bs.length)), (.ref d)]
  refine k_iloadN d_aac_39 rfl rfl ?_
  refine k_i2b d_aac_40 rfl ?_
  have f7 := (AB.other W2 (Ne.symm hbd))
  refine k_bastore (i := bs.length) d_aac_41 rfl f7 (ix_inb hN2 (by omega)) (ix_nat (by omega)) (by rw [List.length_map, hN]; omega) gd (fun q => by cases q) ?_
  intro h8 W9 V2
  rw [show (bs ++ z0 :: zs).map Value.int = bs.map Value.int ++ Value.int z0 :: zs.map Value.int by simp, set_mid _ _ _ _ (by simp)] at V2
  have V3 : Arv Z h8 d ckB .byte (Int32.ofNat N) (((bs ++ [nbI p]) ++ zs).map Value.int) (.int 0) := by simpa using V2
  show KW false l Z M_aac n0 (fun v h => v = some (.ref b) ∧ Keep h0 h [b, d] ∧ Sb Z h b d N (bs ++ [nbI p])) ([], fun _ => False) h8 0 0 42 #[.val (.ref b), .val (.int p)] []
  refine k_goto (pc' := 75) d_aac_42 (by decide) (by decide) ?_
  refine k_aloadN d_aac_75 rfl rfl rfl ?_
  have f10 := ((K0.wr W2 (Or.inl (by simp))).wr W9 (Or.inl (by simp)))
  have f11 := ((EB.wr W2).wr W9)
  have f12 := ((VB.other W2 (Or.inr (slot_ne (t := (.array .byte)) (t' := .int) (Or.inl (hw _ (List.mem_of_getElem? (i := 89) rfl))) (Or.inl (hw _ (List.mem_of_getElem? (i := 116) rfl))) (by decide) (by decide) (by decide)))).other W9 (Or.inl hbd))
  have f13 := ((CB.other W2 (Or.inr (slot_ne (t := .byte) (t' := .int) (Or.inl (hw _ (List.mem_of_getElem? (i := 91) rfl))) (Or.inl (hw _ (List.mem_of_getElem? (i := 116) rfl))) (by decide) (by decide) (by decide)))).other W9 (Or.inl hbd))
  have f14 := (F3.other W9 (Or.inl hbd))
  exact k_retRef d_aac_76 rfl rfl rfl (by decide) (by decide) ⟨rfl, f10, ⟨ckB, zs, f11, f12, f13, by rw [List.length_append, ← ix_add]; exact f14, V3, (by simp only [List.length_append, List.length_cons, List.length_nil] at hN ⊢; omega), hN2⟩⟩
theorem mt_aac (l : Launch) (Z : State) (a0 : Array Value) (hw : ∀ d ∈ tables_1, d.before a0 Z = true) (cs : Int32) (hcs : ¬ cs = 0) (SC : Sta Z Z.heap "java/lang/String" "COMPACT_STRINGS" "Z" (.int cs)) (hEW : EW Z a0 EL) (b d : Addr) (N : Nat) (bs : List Int32) (h0 : Heap) (n0 : Nat) (OD : Old Z n0 h0) (SB : Sb Z h0 b d N bs) (p : Int32) (hp : 0 ≤ p.toInt ∧ p.toInt < 256) (hbd : b ≠ d) (gb : n0 ≤ b) (gd : n0 ≤ d) (hfit : bs.length + 1 ≤ N) : Mt l Z M_aac [] n0 #[(.ref b), (.int p)] h0 (fun v h => v = some (.ref b) ∧ Keep h0 h [b, d] ∧ Sb Z h b d N (bs ++ [nbI p])) :=
  mt_of_kw (P := ([], fun _ => False)) pf_aac (fun m => by first | (simp [entryFrame, mkF, argsToLocals, Value.category]; done) | rfl) (kw_aac l Z a0 hw cs hcs SC hEW b d N bs h0 n0 OD SB p hp hbd gb gd hfit)
abbrev M_sac : MD := ((⟨"java/lang/StringBuilder", "append", "(C)Ljava/lang/StringBuilder;"⟩ : MethodName), jdk_67_method_14_code, 2, (some (.object "java/lang/StringBuilder")), { frames := 2, cells := 0, slots := 0, locals := 40 })
theorem d_sac_0 : decode jdk_67_method_14_code 0 = .ok (.aload_n 0, 1) := by decide +kernel
theorem d_sac_1 : decode jdk_67_method_14_code 1 = .ok (.iload_n 1, 1) := by decide +kernel
theorem d_sac_2 : decode jdk_67_method_14_code 2 = .ok (.invokespecial 50, 3) := by decide +kernel
theorem d_sac_5 : decode jdk_67_method_14_code 5 = .ok (.pop, 1) := by decide +kernel
theorem d_sac_6 : decode jdk_67_method_14_code 6 = .ok (.aload_n 0, 1) := by decide +kernel
theorem d_sac_7 : decode jdk_67_method_14_code 7 = .ok (.areturn, 1) := by decide +kernel
theorem pd_sac : parseMethodDescriptor "(C)Ljava/lang/StringBuilder;" = some ⟨[.char], (some (.object "java/lang/StringBuilder"))⟩ := by decide +kernel
theorem pf_sac : plainFor (⟨"java/lang/StringBuilder", "append", "(C)Ljava/lang/StringBuilder;"⟩ : MethodName) = true := by first | exact plainFor_of_name (by first | (simp [plainName, overriddenIn]; done) | decide +kernel) | decide +kernel
set_option maxRecDepth 65536 in
set_option maxHeartbeats 40000000 in
theorem kw_sac (l : Launch) (Z : State) (a0 : Array Value) (hw : ∀ d ∈ tables_1, d.before a0 Z = true) (cs : Int32) (hcs : ¬ cs = 0) (SC : Sta Z Z.heap "java/lang/String" "COMPACT_STRINGS" "Z" (.int cs)) (hEW : EW Z a0 EL) (b d : Addr) (N : Nat) (bs : List Int32) (h0 : Heap) (n0 : Nat) (OD : Old Z n0 h0) (SB : Sb Z h0 b d N bs) (p : Int32) (hp : 0 ≤ p.toInt ∧ p.toInt < 256) (hbd : b ≠ d) (gb : n0 ≤ b) (gd : n0 ≤ d) (hfit : bs.length + 1 ≤ N) : KW false l Z M_sac n0 (fun v h => v = some (.ref b) ∧ Keep h0 h [b, d] ∧ Sb Z h b d N (bs ++ [nbI p])) ([], fun _ => False) h0 0 0 0 #[.val (.ref b), .val (.int p)] [] := by
  obtain ⟨ckB, zs, EB, VB, CB, NB, AB, hN, hN2⟩ := id SB
  refine k_aloadN d_sac_0 rfl rfl rfl ?_
  refine k_iloadN d_sac_1 rfl rfl ?_
  refine k_callSuper (argsL := [(.int p)]) (rest := []) (W0 := 0) d_sac_2 rfl (mt_aac l Z a0 hw cs hcs SC hEW b d N bs h0 n0 OD SB p hp hbd gb gd hfit) Kp.strict EB (hw _ (List.mem_of_getElem? (i := 238) rfl)) (hw _ (List.mem_of_getElem? (i := 240) rfl)) (hw _ (List.mem_of_getElem? (i := 120) rfl)) rfl (hw _ (List.mem_of_getElem? (i := 239) rfl)) (hw _ (List.mem_of_getElem? (i := 102) rfl)) (hw _ (List.mem_of_getElem? (i := 241) rfl)) (hw _ (List.mem_of_getElem? (i := 84) rfl)) (by decide) (by decide) pd_aac rfl rfl rfl rfl (by decide) (by decide) (by decide) (by decide) ?_
  rintro _ hM - ⟨rfl, R1⟩
  refine KW.any (P' := ([], fun _ => False)) ?_
  show KW false l Z M_sac n0 (fun v h => v = some (.ref b) ∧ Keep h0 h [b, d] ∧ Sb Z h b d N (bs ++ [nbI p])) ([], fun _ => False) hM 0 0 5 #[.val (.ref b), .val (.int p)] [(.ref b)]
  refine k_pop d_sac_5 rfl rfl ?_
  refine k_aloadN d_sac_6 rfl rfl rfl ?_
  exact k_retRef d_sac_7 rfl rfl rfl (by decide) (by decide) ⟨rfl, R1⟩
theorem mt_sac (l : Launch) (Z : State) (a0 : Array Value) (hw : ∀ d ∈ tables_1, d.before a0 Z = true) (cs : Int32) (hcs : ¬ cs = 0) (SC : Sta Z Z.heap "java/lang/String" "COMPACT_STRINGS" "Z" (.int cs)) (hEW : EW Z a0 EL) (b d : Addr) (N : Nat) (bs : List Int32) (h0 : Heap) (n0 : Nat) (OD : Old Z n0 h0) (SB : Sb Z h0 b d N bs) (p : Int32) (hp : 0 ≤ p.toInt ∧ p.toInt < 256) (hbd : b ≠ d) (gb : n0 ≤ b) (gd : n0 ≤ d) (hfit : bs.length + 1 ≤ N) : Mt l Z M_sac [] n0 #[(.ref b), (.int p)] h0 (fun v h => v = some (.ref b) ∧ Keep h0 h [b, d] ∧ Sb Z h b d N (bs ++ [nbI p])) :=
  mt_of_kw (P := ([], fun _ => False)) pf_sac (fun m => by first | (simp [entryFrame, mkF, argsToLocals, Value.category]; done) | rfl) (kw_sac l Z a0 hw cs hcs SC hEW b d N bs h0 n0 OD SB p hp hbd gb gd hfit)
def minI (a b : Int32) : Int32 := if b < a then b else a
theorem sub0 (z : Int32) : z - (0 : Int32) = z := by
  have h := c_isub z 0; have h1 := rng32 (z - 0); have h2 := rng32 z
  refine Int32.toInt_inj.mp ?_
  rw [show (0 : Int32).toInt = 0 from rfl] at h; omega
theorem minI_n {n N : Nat} (hN : N < 2147483648) (h : n ≤ N) : minI (Int32.ofNat N) (Int32.ofNat n) = Int32.ofNat n := by
  unfold minI; split
  · rfl
  · rename_i q
    have : ¬ n < N := fun r => q (ix_lt hN r)
    rw [show N = n by omega]
theorem laid_take (xs : List Int32) (n : Nat) (h : n ≤ xs.length) : laid xs (List.replicate n 0) 0 0 n = xs.take n := by
  unfold laid; simp
abbrev M_mnm : MD := ((⟨"java/lang/Math", "min", "(II)I"⟩ : MethodName), jdk_29_method_69_code, 2, (some .int), { frames := 0, cells := 0, slots := 0, locals := 0 })
theorem d_mnm_0 : decode jdk_29_method_69_code 0 = .ok (.iload_n 0, 1) := by decide +kernel
theorem d_mnm_1 : decode jdk_29_method_69_code 1 = .ok (.iload_n 1, 1) := by decide +kernel
theorem d_mnm_2 : decode jdk_29_method_69_code 2 = .ok (.if_icmp .gt 7, 3) := by decide +kernel
theorem d_mnm_5 : decode jdk_29_method_69_code 5 = .ok (.iload_n 0, 1) := by decide +kernel
theorem d_mnm_6 : decode jdk_29_method_69_code 6 = .ok (.goto 4, 3) := by decide +kernel
theorem d_mnm_9 : decode jdk_29_method_69_code 9 = .ok (.iload_n 1, 1) := by decide +kernel
theorem d_mnm_10 : decode jdk_29_method_69_code 10 = .ok (.ireturn, 1) := by decide +kernel
theorem pd_mnm : parseMethodDescriptor "(II)I" = some ⟨[.int, .int], (some .int)⟩ := by decide +kernel
theorem pf_mnm : plainFor (⟨"java/lang/Math", "min", "(II)I"⟩ : MethodName) = true := by first | exact plainFor_of_name (by first | (simp [plainName, overriddenIn]; done) | decide +kernel) | decide +kernel
set_option maxRecDepth 65536 in
set_option maxHeartbeats 40000000 in
theorem kw_mnm (l : Launch) (Z : State) (a0 : Array Value) (hw : ∀ d ∈ tables_1, d.before a0 Z = true) (cs : Int32) (hcs : ¬ cs = 0) (SC : Sta Z Z.heap "java/lang/String" "COMPACT_STRINGS" "Z" (.int cs)) (hEW : EW Z a0 EL) (x y : Int32) (h0 : Heap) (n0 : Nat) : KW false l Z M_mnm n0 (fun v h => v = some (.int (minI x y)) ∧ h0 = h) ([], fun _ => False) h0 0 0 0 #[.val (.int x), .val (.int y)] [] := by
  refine k_iloadN d_mnm_0 rfl rfl ?_
  refine k_iloadN d_mnm_1 rfl rfl ?_
  refine k_icmp (pc1 := 9) (pc' := 5) d_mnm_2 (by decide) (by decide) rfl (fun (cd1 : y < x) => ?_) (fun (cd1 : ¬ y < x) => ?_)
  · skip
    refine k_iloadN d_mnm_9 rfl rfl ?_
    exact k_retInt d_mnm_10 rfl (by decide) (by decide) ⟨by unfold minI; repeat (first | rfl | contradiction | split), rfl⟩
  · skip
    refine k_iloadN d_mnm_5 rfl rfl ?_
    refine k_goto (pc' := 10) d_mnm_6 (by decide) (by decide) ?_
    exact k_retInt d_mnm_10 rfl (by decide) (by decide) ⟨by unfold minI; repeat (first | rfl | contradiction | split), rfl⟩
theorem mt_mnm (l : Launch) (Z : State) (a0 : Array Value) (hw : ∀ d ∈ tables_1, d.before a0 Z = true) (cs : Int32) (hcs : ¬ cs = 0) (SC : Sta Z Z.heap "java/lang/String" "COMPACT_STRINGS" "Z" (.int cs)) (hEW : EW Z a0 EL) (x y : Int32) (h0 : Heap) (n0 : Nat) : Mt l Z M_mnm [] n0 #[(.int x), (.int y)] h0 (fun v h => v = some (.int (minI x y)) ∧ h0 = h) :=
  mt_of_kw (P := ([], fun _ => False)) pf_mnm (fun m => by first | (simp [entryFrame, mkF, argsToLocals, Value.category]; done) | rfl) (kw_mnm l Z a0 hw cs hcs SC hEW x y h0 n0)
abbrev M_chk : MD := ((⟨"java/util/Arrays", "checkLength", "(II)V"⟩ : MethodName), jdk_65_method_131_code, 2, none, { frames := 0, cells := 0, slots := 0, locals := 0 })
theorem d_chk_0 : decode jdk_65_method_131_code 0 = .ok (.iload_n 1, 1) := by decide +kernel
theorem d_chk_1 : decode jdk_65_method_131_code 1 = .ok (.iload_n 0, 1) := by decide +kernel
theorem d_chk_2 : decode jdk_65_method_131_code 2 = .ok (.if_icmp .ge 35, 3) := by decide +kernel
theorem d_chk_5 : decode jdk_65_method_131_code 5 = .ok (.new 43, 3) := by decide +kernel
theorem d_chk_8 : decode jdk_65_method_131_code 8 = .ok (.dup, 1) := by decide +kernel
theorem d_chk_9 : decode jdk_65_method_131_code 9 = .ok (.new 45, 3) := by decide +kernel
theorem d_chk_12 : decode jdk_65_method_131_code 12 = .ok (.dup, 1) := by decide +kernel
theorem d_chk_13 : decode jdk_65_method_131_code 13 = .ok (.invokespecial 47, 3) := by decide +kernel
theorem d_chk_16 : decode jdk_65_method_131_code 16 = .ok (.iload_n 0, 1) := by decide +kernel
theorem d_chk_17 : decode jdk_65_method_131_code 17 = .ok (.invokevirtual 54, 3) := by decide +kernel
theorem d_chk_20 : decode jdk_65_method_131_code 20 = .ok (.ldc_w 337, 3) := by decide +kernel
theorem d_chk_23 : decode jdk_65_method_131_code 23 = .ok (.invokevirtual 50, 3) := by decide +kernel
theorem d_chk_26 : decode jdk_65_method_131_code 26 = .ok (.iload_n 1, 1) := by decide +kernel
theorem d_chk_27 : decode jdk_65_method_131_code 27 = .ok (.invokevirtual 54, 3) := by decide +kernel
theorem d_chk_30 : decode jdk_65_method_131_code 30 = .ok (.invokevirtual 61, 3) := by decide +kernel
theorem d_chk_33 : decode jdk_65_method_131_code 33 = .ok (.invokespecial 65, 3) := by decide +kernel
theorem d_chk_36 : decode jdk_65_method_131_code 36 = .ok (.athrow, 1) := by decide +kernel
theorem d_chk_37 : decode jdk_65_method_131_code 37 = .ok (.return_, 1) := by decide +kernel
theorem pd_chk : parseMethodDescriptor "(II)V" = some ⟨[.int, .int], none⟩ := by decide +kernel
theorem pf_chk : plainFor (⟨"java/util/Arrays", "checkLength", "(II)V"⟩ : MethodName) = true := by first | exact plainFor_of_name (by first | (simp [plainName, overriddenIn]; done) | decide +kernel) | decide +kernel
set_option maxRecDepth 65536 in
set_option maxHeartbeats 40000000 in
theorem kw_chk (l : Launch) (Z : State) (a0 : Array Value) (hw : ∀ d ∈ tables_1, d.before a0 Z = true) (cs : Int32) (hcs : ¬ cs = 0) (SC : Sta Z Z.heap "java/lang/String" "COMPACT_STRINGS" "Z" (.int cs)) (hEW : EW Z a0 EL) (n : Nat) (hn : n < 2147483648) (h0 : Heap) (n0 : Nat) : KW false l Z M_chk n0 (fun v h => v = none ∧ h0 = h) ([], fun _ => False) h0 0 0 0 #[.val (.int (0 : Int32)), .val (.int (Int32.ofNat n))] [] := by
  refine k_iloadN d_chk_0 rfl rfl ?_
  refine k_iloadN d_chk_1 rfl rfl ?_
  refine k_icmp (pc1 := 37) (pc' := 5) d_chk_2 (by decide) (by decide) rfl (fun (cd1 : ¬ (Int32.ofNat n) < (0 : Int32)) => ?_) (fun (cd1 : (Int32.ofNat n) < (0 : Int32)) => False.elim (by exact ix_nn hn cd1))
  exact k_retVoid d_chk_37 rfl (by decide) (by decide) ⟨rfl, rfl⟩
theorem mt_chk (l : Launch) (Z : State) (a0 : Array Value) (hw : ∀ d ∈ tables_1, d.before a0 Z = true) (cs : Int32) (hcs : ¬ cs = 0) (SC : Sta Z Z.heap "java/lang/String" "COMPACT_STRINGS" "Z" (.int cs)) (hEW : EW Z a0 EL) (n : Nat) (hn : n < 2147483648) (h0 : Heap) (n0 : Nat) : Mt l Z M_chk [] n0 #[(.int (0 : Int32)), (.int (Int32.ofNat n))] h0 (fun v h => v = none ∧ h0 = h) :=
  mt_of_kw (P := ([], fun _ => False)) pf_chk (fun m => by first | (simp [entryFrame, mkF, argsToLocals, Value.category]; done) | rfl) (kw_chk l Z a0 hw cs hcs SC hEW n hn h0 n0)
abbrev M_cob : MD := ((⟨"java/util/Arrays", "copyOfRangeByte", "([BII)[B"⟩ : MethodName), jdk_65_method_133_code, 5, (some (.array .byte)), { frames := 1, cells := 1, slots := 16, locals := 48 })
theorem d_cob_0 : decode jdk_65_method_133_code 0 = .ok (.iload_n 1, 1) := by decide +kernel
theorem d_cob_1 : decode jdk_65_method_133_code 1 = .ok (.iload_n 2, 1) := by decide +kernel
theorem d_cob_2 : decode jdk_65_method_133_code 2 = .ok (.invokestatic 343, 3) := by decide +kernel
theorem d_cob_5 : decode jdk_65_method_133_code 5 = .ok (.iload_n 2, 1) := by decide +kernel
theorem d_cob_6 : decode jdk_65_method_133_code 6 = .ok (.iload_n 1, 1) := by decide +kernel
theorem d_cob_7 : decode jdk_65_method_133_code 7 = .ok (.isub, 1) := by decide +kernel
theorem d_cob_8 : decode jdk_65_method_133_code 8 = .ok (.istore_n 3, 1) := by decide +kernel
theorem d_cob_9 : decode jdk_65_method_133_code 9 = .ok (.iload_n 3, 1) := by decide +kernel
theorem d_cob_10 : decode jdk_65_method_133_code 10 = .ok (.newarray .byte, 2) := by decide +kernel
theorem d_cob_12 : decode jdk_65_method_133_code 12 = .ok (.astore 4, 2) := by decide +kernel
theorem d_cob_14 : decode jdk_65_method_133_code 14 = .ok (.aload_n 0, 1) := by decide +kernel
theorem d_cob_15 : decode jdk_65_method_133_code 15 = .ok (.iload_n 1, 1) := by decide +kernel
theorem d_cob_16 : decode jdk_65_method_133_code 16 = .ok (.aload 4, 2) := by decide +kernel
theorem d_cob_18 : decode jdk_65_method_133_code 18 = .ok (.iconst 0, 1) := by decide +kernel
theorem d_cob_19 : decode jdk_65_method_133_code 19 = .ok (.aload_n 0, 1) := by decide +kernel
theorem d_cob_20 : decode jdk_65_method_133_code 20 = .ok (.arraylength, 1) := by decide +kernel
theorem d_cob_21 : decode jdk_65_method_133_code 21 = .ok (.iload_n 1, 1) := by decide +kernel
theorem d_cob_22 : decode jdk_65_method_133_code 22 = .ok (.isub, 1) := by decide +kernel
theorem d_cob_23 : decode jdk_65_method_133_code 23 = .ok (.iload_n 3, 1) := by decide +kernel
theorem d_cob_24 : decode jdk_65_method_133_code 24 = .ok (.invokestatic 304, 3) := by decide +kernel
theorem d_cob_27 : decode jdk_65_method_133_code 27 = .ok (.invokestatic 150, 3) := by decide +kernel
theorem d_cob_30 : decode jdk_65_method_133_code 30 = .ok (.aload 4, 2) := by decide +kernel
theorem d_cob_32 : decode jdk_65_method_133_code 32 = .ok (.areturn, 1) := by decide +kernel
theorem pd_cob : parseMethodDescriptor "([BII)[B" = some ⟨[(.array .byte), .int, .int], (some (.array .byte))⟩ := by decide +kernel
theorem pf_cob : plainFor (⟨"java/util/Arrays", "copyOfRangeByte", "([BII)[B"⟩ : MethodName) = true := by first | exact plainFor_of_name (by first | (simp [plainName, overriddenIn]; done) | decide +kernel) | decide +kernel
set_option maxRecDepth 65536 in
set_option maxHeartbeats 40000000 in
theorem kw_cob (l : Launch) (Z : State) (a0 : Array Value) (hw : ∀ d ∈ tables_1, d.before a0 Z = true) (cs : Int32) (hcs : ¬ cs = 0) (SC : Sta Z Z.heap "java/lang/String" "COMPACT_STRINGS" "Z" (.int cs)) (hEW : EW Z a0 EL) (d : Addr) (ck : ClassId) (L : List Int32) (n : Nat) (h0 : Heap) (n0 : Nat) (OD : Old Z n0 h0) (D : Arv Z h0 d ck .byte (Int32.ofNat L.length) (L.map Value.int) (.int 0)) (hL : L.length < 2147483648) (hn : n < L.length) (hn2 : n ≤ 16) : KW false l Z M_cob n0 (fun v h => ∃ e ck', v = some (.ref e) ∧ h0.size ≤ e ∧ n0 ≤ e ∧ Keep h0 h [] ∧ Arv Z h e ck' .byte (Int32.ofNat n) ((L.take n).map Value.int) (.int 0)) ([], fun _ => False) h0 0 0 0 #[.val (.ref d), .val (.int (0 : Int32)), .val (.int (Int32.ofNat n)), .unset, .unset] [] := by
  have Z0 := OD.1 ▸ OD.2.1
  have K0 : Keep h0 h0 [] := Keep.refl _ _
  refine k_iloadN d_cob_0 rfl rfl ?_
  refine k_iloadN d_cob_1 rfl rfl ?_
  refine k_callStatic (argsL := [(.int (0 : Int32)), (.int (Int32.ofNat n))]) (rest := []) (W0 := 0) d_cob_2 rfl (mt_chk l Z a0 hw cs hcs SC hEW n (by omega) h0 n0) Kp.strict (hw _ (List.mem_of_getElem? (i := 179) rfl)) (hw _ (List.mem_of_getElem? (i := 180) rfl)) (hw _ (List.mem_of_getElem? (i := 174) rfl)) (hw _ (List.mem_of_getElem? (i := 181) rfl)) (by decide) pd_chk rfl rfl rfl rfl (by decide) (by decide) (by decide) (by decide) ?_
  rintro _ _ - ⟨rfl, rfl⟩
  refine KW.any (P' := ([], fun _ => False)) ?_
  show KW false l Z M_cob n0 (fun v h => ∃ e ck', v = some (.ref e) ∧ h0.size ≤ e ∧ n0 ≤ e ∧ Keep h0 h [] ∧ Arv Z h e ck' .byte (Int32.ofNat n) ((L.take n).map Value.int) (.int 0)) ([], fun _ => False) h0 0 0 5 #[.val (.ref d), .val (.int (0 : Int32)), .val (.int (Int32.ofNat n)), .unset, .unset] []
  refine k_iloadN d_cob_5 rfl rfl ?_
  refine k_iloadN d_cob_6 rfl rfl ?_
  refine k_isub d_cob_7 rfl ?_
  refine KW.top (congrArg Value.int (sub0 _)) ?_
  show KW false l Z M_cob n0 (fun v h => ∃ e ck', v = some (.ref e) ∧ h0.size ≤ e ∧ n0 ≤ e ∧ Keep h0 h [] ∧ Arv Z h e ck' .byte (Int32.ofNat n) ((L.take n).map Value.int) (.int 0)) ([], fun _ => False) h0 0 0 8 #[.val (.ref d), .val (.int (0 : Int32)), .val (.int (Int32.ofNat n)), .unset, .unset] [(.int (Int32.ofNat n))]
  refine k_istoreN (Ls' := #[.val (.ref d), .val (.int (0 : Int32)), .val (.int (Int32.ofNat n)), .val (.int (Int32.ofNat n)), .unset]) d_cob_8 rfl rfl ?_
  refine k_iloadN d_cob_9 rfl rfl ?_
  refine k_newarr (cap := 16) d_cob_10 rfl (hw _ (List.mem_of_getElem? (i := 10) rfl)) (ix_nn (by omega)) (by rw [ix_nat (by omega)]; exact hn2) (by decide) (by decide) (by decide) ?_
  intro h2 a1 ck6 g5 E3 V4
  have ne7 : d ≠ a1 := Nat.ne_of_lt (Nat.lt_of_lt_of_eq D.lt g5.symm)
  have z9 : n0 ≤ h0.size := Z0
  have ge8 : n0 ≤ a1 := Nat.le_trans z9 (Nat.le_of_eq g5.symm)
  have gl10 : h0.size ≤ a1 := Nat.le_of_eq g5.symm
  have gh11 := Nat.le_trans K0.1 gl10
  refine KW.any (P' := ([], fun _ => False)) ?_
  show KW false l Z M_cob n0 (fun v h => ∃ e ck', v = some (.ref e) ∧ h0.size ≤ e ∧ n0 ≤ e ∧ Keep h0 h [] ∧ Arv Z h e ck' .byte (Int32.ofNat n) ((L.take n).map Value.int) (.int 0)) ([], fun _ => False) h2 1 16 12 #[.val (.ref d), .val (.int (0 : Int32)), .val (.int (Int32.ofNat n)), .val (.int (Int32.ofNat n)), .unset] [(.ref a1)]
  refine k_astore (Ls' := #[.val (.ref d), .val (.int (0 : Int32)), .val (.int (Int32.ofNat n)), .val (.int (Int32.ofNat n)), .val (.ref a1)]) d_cob_12 rfl rfl rfl ?_
  refine k_aloadN d_cob_14 rfl rfl rfl ?_
  refine k_iloadN d_cob_15 rfl rfl ?_
  refine k_aload d_cob_16 rfl rfl rfl ?_
  refine k_iconst (z := (0 : Int32)) d_cob_18 rfl (by decide) ?_
  refine k_aloadN d_cob_19 rfl rfl rfl ?_
  have f12 := (D.ext E3)
  refine k_arrlen d_cob_20 rfl f12 ?_
  refine k_iloadN d_cob_21 rfl rfl ?_
  refine k_isub d_cob_22 rfl ?_
  refine KW.top (congrArg Value.int (sub0 _)) ?_
  show KW false l Z M_cob n0 (fun v h => ∃ e ck', v = some (.ref e) ∧ h0.size ≤ e ∧ n0 ≤ e ∧ Keep h0 h [] ∧ Arv Z h e ck' .byte (Int32.ofNat n) ((L.take n).map Value.int) (.int 0)) ([], fun _ => False) h2 1 16 23 #[.val (.ref d), .val (.int (0 : Int32)), .val (.int (Int32.ofNat n)), .val (.int (Int32.ofNat n)), .val (.ref a1)] [(.int (Int32.ofNat L.length)), (.int (0 : Int32)), (.ref a1), (.int (0 : Int32)), (.ref d)]
  refine k_iloadN d_cob_23 rfl rfl ?_
  refine k_callStatic (argsL := [(.int (Int32.ofNat L.length)), (.int (Int32.ofNat n))]) (rest := [(.int (0 : Int32)), (.ref a1), (.int (0 : Int32)), (.ref d)]) (W0 := 4) d_cob_24 rfl (mt_mnm l Z a0 hw cs hcs SC hEW _ _ h2 n0) Kp.strict (hw _ (List.mem_of_getElem? (i := 182) rfl)) (hw _ (List.mem_of_getElem? (i := 183) rfl)) (hw _ (List.mem_of_getElem? (i := 184) rfl)) (hw _ (List.mem_of_getElem? (i := 185) rfl)) (by decide) pd_mnm rfl rfl rfl rfl (by decide) (by decide) (by decide) (by decide) ?_
  rintro _ _ - ⟨rfl, rfl⟩
  rw [minI_n hL (by omega)]
  refine KW.any (P' := ([], fun _ => False)) ?_
  show KW false l Z M_cob n0 (fun v h => ∃ e ck', v = some (.ref e) ∧ h0.size ≤ e ∧ n0 ≤ e ∧ Keep h0 h [] ∧ Arv Z h e ck' .byte (Int32.ofNat n) ((L.take n).map Value.int) (.int 0)) ([], fun _ => False) h2 1 16 27 #[.val (.ref d), .val (.int (0 : Int32)), .val (.int (Int32.ofNat n)), .val (.int (Int32.ofNat n)), .val (.ref a1)] [(.int (Int32.ofNat n)), (.int (0 : Int32)), (.ref a1), (.int (0 : Int32)), (.ref d)]
  have f13 := (K0.ext E3)
  have B2 : Arv Z h2 a1 ck6 .byte (Int32.ofNat (List.replicate n (0 : Int32)).length) ((List.replicate n (0 : Int32)).map Value.int) (.int 0) := by rw [List.length_replicate, List.map_replicate]; exact Arv.pad V4 (pad_rep [] _ n)
  refine k_acopy (o := 0) (q := 0) (m' := n) (W0 := 0) d_cob_27 rfl (hw _ (List.mem_of_getElem? (i := 186) rfl)) (hw _ (List.mem_of_getElem? (i := 141) rfl)) (hw _ (List.mem_of_getElem? (i := 139) rfl)) (hw _ (List.mem_of_getElem? (i := 140) rfl)) hL (by rw [List.length_replicate]; omega) f12 B2 (by omega) (by rw [List.length_replicate]; omega) ge8 (fun q => by cases q) rfl rfl (by decide) (by decide) ?_
  intro hM KM VM
  rw [List.length_replicate, laid_take L n (by omega)] at VM
  refine KW.any (P' := ([], fun _ => False)) ?_
  show KW false l Z M_cob n0 (fun v h => ∃ e ck', v = some (.ref e) ∧ h0.size ≤ e ∧ n0 ≤ e ∧ Keep h0 h [] ∧ Arv Z h e ck' .byte (Int32.ofNat n) ((L.take n).map Value.int) (.int 0)) ([], fun _ => False) hM 1 16 30 #[.val (.ref d), .val (.int (0 : Int32)), .val (.int (Int32.ofNat n)), .val (.int (Int32.ofNat n)), .val (.ref a1)] []
  refine k_aload d_cob_30 rfl rfl rfl ?_
  have f14 := (f13.trans KM (allS (Or.inr gh11) all0))
  exact k_retRef d_cob_32 rfl rfl rfl (by decide) (by decide) ⟨a1, ck6, rfl, gl10, ge8, f14, VM⟩
theorem mt_cob (l : Launch) (Z : State) (a0 : Array Value) (hw : ∀ d ∈ tables_1, d.before a0 Z = true) (cs : Int32) (hcs : ¬ cs = 0) (SC : Sta Z Z.heap "java/lang/String" "COMPACT_STRINGS" "Z" (.int cs)) (hEW : EW Z a0 EL) (d : Addr) (ck : ClassId) (L : List Int32) (n : Nat) (h0 : Heap) (n0 : Nat) (OD : Old Z n0 h0) (D : Arv Z h0 d ck .byte (Int32.ofNat L.length) (L.map Value.int) (.int 0)) (hL : L.length < 2147483648) (hn : n < L.length) (hn2 : n ≤ 16) : Mt l Z M_cob [] n0 #[(.ref d), (.int (0 : Int32)), (.int (Int32.ofNat n))] h0 (fun v h => ∃ e ck', v = some (.ref e) ∧ h0.size ≤ e ∧ n0 ≤ e ∧ Keep h0 h [] ∧ Arv Z h e ck' .byte (Int32.ofNat n) ((L.take n).map Value.int) (.int 0)) :=
  mt_of_kw (P := ([], fun _ => False)) pf_cob (fun m => by first | (simp [entryFrame, mkF, argsToLocals, Value.category]; done) | rfl) (kw_cob l Z a0 hw cs hcs SC hEW d ck L n h0 n0 OD D hL hn hn2)
abbrev M_cor : MD := ((⟨"java/util/Arrays", "copyOfRange", "([BII)[B"⟩ : MethodName), jdk_65_method_132_code, 3, (some (.array .byte)), { frames := 2, cells := 1, slots := 16, locals := 64 })
theorem d_cor_0 : decode jdk_65_method_132_code 0 = .ok (.iload_n 1, 1) := by decide +kernel
theorem d_cor_1 : decode jdk_65_method_132_code 1 = .ok (.ifCond .ne 9, 3) := by decide +kernel
theorem d_cor_4 : decode jdk_65_method_132_code 4 = .ok (.iload_n 2, 1) := by decide +kernel
theorem d_cor_5 : decode jdk_65_method_132_code 5 = .ok (.aload_n 0, 1) := by decide +kernel
theorem d_cor_6 : decode jdk_65_method_132_code 6 = .ok (.arraylength, 1) := by decide +kernel
theorem d_cor_7 : decode jdk_65_method_132_code 7 = .ok (.if_icmp .eq 10, 3) := by decide +kernel
theorem d_cor_10 : decode jdk_65_method_132_code 10 = .ok (.aload_n 0, 1) := by decide +kernel
theorem d_cor_11 : decode jdk_65_method_132_code 11 = .ok (.iload_n 1, 1) := by decide +kernel
theorem d_cor_12 : decode jdk_65_method_132_code 12 = .ok (.iload_n 2, 1) := by decide +kernel
theorem d_cor_13 : decode jdk_65_method_132_code 13 = .ok (.invokestatic 339, 3) := by decide +kernel
theorem d_cor_16 : decode jdk_65_method_132_code 16 = .ok (.areturn, 1) := by decide +kernel
theorem d_cor_17 : decode jdk_65_method_132_code 17 = .ok (.aload_n 0, 1) := by decide +kernel
theorem d_cor_18 : decode jdk_65_method_132_code 18 = .ok (.invokevirtual 310, 3) := by decide +kernel
theorem d_cor_21 : decode jdk_65_method_132_code 21 = .ok (.checkcast 311, 3) := by decide +kernel
theorem d_cor_24 : decode jdk_65_method_132_code 24 = .ok (.areturn, 1) := by decide +kernel
theorem pd_cor : parseMethodDescriptor "([BII)[B" = some ⟨[(.array .byte), .int, .int], (some (.array .byte))⟩ := by decide +kernel
theorem pf_cor : plainFor (⟨"java/util/Arrays", "copyOfRange", "([BII)[B"⟩ : MethodName) = true := by first | exact plainFor_of_name (by first | (simp [plainName, overriddenIn]; done) | decide +kernel) | decide +kernel
set_option maxRecDepth 65536 in
set_option maxHeartbeats 40000000 in
theorem kw_cor (l : Launch) (Z : State) (a0 : Array Value) (hw : ∀ d ∈ tables_1, d.before a0 Z = true) (cs : Int32) (hcs : ¬ cs = 0) (SC : Sta Z Z.heap "java/lang/String" "COMPACT_STRINGS" "Z" (.int cs)) (hEW : EW Z a0 EL) (d : Addr) (ck : ClassId) (L : List Int32) (n : Nat) (h0 : Heap) (n0 : Nat) (OD : Old Z n0 h0) (D : Arv Z h0 d ck .byte (Int32.ofNat L.length) (L.map Value.int) (.int 0)) (hL : L.length < 2147483648) (hn : n < L.length) (hn2 : n ≤ 16) : KW false l Z M_cor n0 (fun v h => ∃ e ck', v = some (.ref e) ∧ h0.size ≤ e ∧ n0 ≤ e ∧ Keep h0 h [] ∧ Arv Z h e ck' .byte (Int32.ofNat n) ((L.take n).map Value.int) (.int 0)) ([], fun _ => False) h0 0 0 0 #[.val (.ref d), .val (.int (0 : Int32)), .val (.int (Int32.ofNat n))] [] := by
  refine k_iloadN d_cor_0 rfl rfl ?_
  refine k_ifc (pc1 := 10) (pc' := 4) d_cor_1 (by decide) (by decide) rfl (fun (cd1 : ¬ (0 : Int32) = (0 : Int32)) => False.elim (by exact absurd cd1 (by decide))) (fun (cd1 : (0 : Int32) = (0 : Int32)) => ?_)
  refine k_iloadN d_cor_4 rfl rfl ?_
  refine k_aloadN d_cor_5 rfl rfl rfl ?_
  refine k_arrlen d_cor_6 rfl D ?_
  refine k_icmp (pc1 := 17) (pc' := 10) d_cor_7 (by decide) (by decide) rfl (fun (cd2 : (Int32.ofNat n) = (Int32.ofNat L.length)) => False.elim (by exact ix_ne (by omega) hL (Nat.ne_of_lt hn) cd2)) (fun (cd2 : ¬ (Int32.ofNat n) = (Int32.ofNat L.length)) => ?_)
  refine k_aloadN d_cor_10 rfl rfl rfl ?_
  refine k_iloadN d_cor_11 rfl rfl ?_
  refine k_iloadN d_cor_12 rfl rfl ?_
  refine k_callStatic (argsL := [(.ref d), (.int (0 : Int32)), (.int (Int32.ofNat n))]) (rest := []) (W0 := 0) d_cor_13 rfl (mt_cob l Z a0 hw cs hcs SC hEW d ck L n h0 n0 OD D hL hn hn2) Kp.strict (hw _ (List.mem_of_getElem? (i := 176) rfl)) (hw _ (List.mem_of_getElem? (i := 177) rfl)) (hw _ (List.mem_of_getElem? (i := 174) rfl)) (hw _ (List.mem_of_getElem? (i := 178) rfl)) (by decide) pd_cob rfl rfl rfl rfl (by decide) (by decide) (by decide) (by decide) ?_
  rintro _ hM - ⟨e, ck', rfl, R1⟩
  refine KW.any (P' := ([], fun _ => False)) ?_
  show KW false l Z M_cor n0 (fun v h => ∃ e ck', v = some (.ref e) ∧ h0.size ≤ e ∧ n0 ≤ e ∧ Keep h0 h [] ∧ Arv Z h e ck' .byte (Int32.ofNat n) ((L.take n).map Value.int) (.int 0)) ([], fun _ => False) hM 1 16 16 #[.val (.ref d), .val (.int (0 : Int32)), .val (.int (Int32.ofNat n))] [(.ref e)]
  exact k_retRef d_cor_16 rfl rfl rfl (by decide) (by decide) ⟨e, ck', rfl, R1⟩
theorem mt_cor (l : Launch) (Z : State) (a0 : Array Value) (hw : ∀ d ∈ tables_1, d.before a0 Z = true) (cs : Int32) (hcs : ¬ cs = 0) (SC : Sta Z Z.heap "java/lang/String" "COMPACT_STRINGS" "Z" (.int cs)) (hEW : EW Z a0 EL) (d : Addr) (ck : ClassId) (L : List Int32) (n : Nat) (h0 : Heap) (n0 : Nat) (OD : Old Z n0 h0) (D : Arv Z h0 d ck .byte (Int32.ofNat L.length) (L.map Value.int) (.int 0)) (hL : L.length < 2147483648) (hn : n < L.length) (hn2 : n ≤ 16) : Mt l Z M_cor [] n0 #[(.ref d), (.int (0 : Int32)), (.int (Int32.ofNat n))] h0 (fun v h => ∃ e ck', v = some (.ref e) ∧ h0.size ≤ e ∧ n0 ≤ e ∧ Keep h0 h [] ∧ Arv Z h e ck' .byte (Int32.ofNat n) ((L.take n).map Value.int) (.int 0)) :=
  mt_of_kw (P := ([], fun _ => False)) pf_cor (fun m => by first | (simp [entryFrame, mkF, argsToLocals, Value.category]; done) | rfl) (kw_cor l Z a0 hw cs hcs SC hEW d ck L n h0 n0 OD D hL hn hn2)
abbrev M_sia : MD := ((⟨"java/lang/String", "<init>", "(Ljava/lang/AbstractStringBuilder;Ljava/lang/Void;)V"⟩ : MethodName), jdk_42_method_150_code, 5, none, { frames := 3, cells := 1, slots := 16, locals := 88 })
theorem d_sia_0 : decode jdk_42_method_150_code 0 = .ok (.aload_n 0, 1) := by decide +kernel
theorem d_sia_1 : decode jdk_42_method_150_code 1 = .ok (.invokespecial 1, 3) := by decide +kernel
theorem d_sia_4 : decode jdk_42_method_150_code 4 = .ok (.aload_n 1, 1) := by decide +kernel
theorem d_sia_5 : decode jdk_42_method_150_code 5 = .ok (.invokevirtual 552, 3) := by decide +kernel
theorem d_sia_8 : decode jdk_42_method_150_code 8 = .ok (.astore_n 3, 1) := by decide +kernel
theorem d_sia_9 : decode jdk_42_method_150_code 9 = .ok (.aload_n 1, 1) := by decide +kernel
theorem d_sia_10 : decode jdk_42_method_150_code 10 = .ok (.invokevirtual 549, 3) := by decide +kernel
theorem d_sia_13 : decode jdk_42_method_150_code 13 = .ok (.istore 4, 2) := by decide +kernel
theorem d_sia_15 : decode jdk_42_method_150_code 15 = .ok (.aload_n 1, 1) := by decide +kernel
theorem d_sia_16 : decode jdk_42_method_150_code 16 = .ok (.invokevirtual 1047, 3) := by decide +kernel
theorem d_sia_19 : decode jdk_42_method_150_code 19 = .ok (.ifCond .eq 22, 3) := by decide +kernel
theorem d_sia_22 : decode jdk_42_method_150_code 22 = .ok (.aload_n 0, 1) := by decide +kernel
theorem d_sia_23 : decode jdk_42_method_150_code 23 = .ok (.iconst 0, 1) := by decide +kernel
theorem d_sia_24 : decode jdk_42_method_150_code 24 = .ok (.putfield 15, 3) := by decide +kernel
theorem d_sia_27 : decode jdk_42_method_150_code 27 = .ok (.aload_n 0, 1) := by decide +kernel
theorem d_sia_28 : decode jdk_42_method_150_code 28 = .ok (.aload_n 3, 1) := by decide +kernel
theorem d_sia_29 : decode jdk_42_method_150_code 29 = .ok (.iconst 0, 1) := by decide +kernel
theorem d_sia_30 : decode jdk_42_method_150_code 30 = .ok (.iload 4, 2) := by decide +kernel
theorem d_sia_32 : decode jdk_42_method_150_code 32 = .ok (.invokestatic 54, 3) := by decide +kernel
theorem d_sia_35 : decode jdk_42_method_150_code 35 = .ok (.putfield 9, 3) := by decide +kernel
theorem d_sia_38 : decode jdk_42_method_150_code 38 = .ok (.goto 59, 3) := by decide +kernel
theorem d_sia_41 : decode jdk_42_method_150_code 41 = .ok (.getstatic 38, 3) := by decide +kernel
theorem d_sia_44 : decode jdk_42_method_150_code 44 = .ok (.ifCond .eq 35, 3) := by decide +kernel
theorem d_sia_47 : decode jdk_42_method_150_code 47 = .ok (.aload_n 1, 1) := by decide +kernel
theorem d_sia_48 : decode jdk_42_method_150_code 48 = .ok (.getfield 1048, 3) := by decide +kernel
theorem d_sia_51 : decode jdk_42_method_150_code 51 = .ok (.ifCond .eq 28, 3) := by decide +kernel
theorem d_sia_54 : decode jdk_42_method_150_code 54 = .ok (.aload_n 0, 1) := by decide +kernel
theorem d_sia_55 : decode jdk_42_method_150_code 55 = .ok (.aload_n 3, 1) := by decide +kernel
theorem d_sia_56 : decode jdk_42_method_150_code 56 = .ok (.iconst 0, 1) := by decide +kernel
theorem d_sia_57 : decode jdk_42_method_150_code 57 = .ok (.iload 4, 2) := by decide +kernel
theorem d_sia_59 : decode jdk_42_method_150_code 59 = .ok (.invokestatic 1051, 3) := by decide +kernel
theorem d_sia_62 : decode jdk_42_method_150_code 62 = .ok (.putfield 9, 3) := by decide +kernel
theorem d_sia_65 : decode jdk_42_method_150_code 65 = .ok (.aload_n 0, 1) := by decide +kernel
theorem d_sia_66 : decode jdk_42_method_150_code 66 = .ok (.aload_n 0, 1) := by decide +kernel
theorem d_sia_67 : decode jdk_42_method_150_code 67 = .ok (.getfield 9, 3) := by decide +kernel
theorem d_sia_70 : decode jdk_42_method_150_code 70 = .ok (.iload 4, 2) := by decide +kernel
theorem d_sia_72 : decode jdk_42_method_150_code 72 = .ok (.invokestatic 47, 3) := by decide +kernel
theorem d_sia_75 : decode jdk_42_method_150_code 75 = .ok (.putfield 15, 3) := by decide +kernel
theorem d_sia_78 : decode jdk_42_method_150_code 78 = .ok (.return_, 1) := by decide +kernel
theorem d_sia_79 : decode jdk_42_method_150_code 79 = .ok (.aload_n 0, 1) := by decide +kernel
theorem d_sia_80 : decode jdk_42_method_150_code 80 = .ok (.iconst 1, 1) := by decide +kernel
theorem d_sia_81 : decode jdk_42_method_150_code 81 = .ok (.putfield 15, 3) := by decide +kernel
theorem d_sia_84 : decode jdk_42_method_150_code 84 = .ok (.aload_n 0, 1) := by decide +kernel
theorem d_sia_85 : decode jdk_42_method_150_code 85 = .ok (.aload_n 3, 1) := by decide +kernel
theorem d_sia_86 : decode jdk_42_method_150_code 86 = .ok (.iconst 0, 1) := by decide +kernel
theorem d_sia_87 : decode jdk_42_method_150_code 87 = .ok (.iload 4, 2) := by decide +kernel
theorem d_sia_89 : decode jdk_42_method_150_code 89 = .ok (.iconst 1, 1) := by decide +kernel
theorem d_sia_90 : decode jdk_42_method_150_code 90 = .ok (.ishl, 1) := by decide +kernel
theorem d_sia_91 : decode jdk_42_method_150_code 91 = .ok (.invokestatic 54, 3) := by decide +kernel
theorem d_sia_94 : decode jdk_42_method_150_code 94 = .ok (.putfield 9, 3) := by decide +kernel
theorem d_sia_97 : decode jdk_42_method_150_code 97 = .ok (.return_, 1) := by decide +kernel
theorem pd_sia : parseMethodDescriptor "(Ljava/lang/AbstractStringBuilder;Ljava/lang/Void;)V" = some ⟨[(.object "java/lang/AbstractStringBuilder"), (.object "java/lang/Void")], none⟩ := by decide +kernel
theorem pf_sia : plainFor (⟨"java/lang/String", "<init>", "(Ljava/lang/AbstractStringBuilder;Ljava/lang/Void;)V"⟩ : MethodName) = true := by first | exact plainFor_of_name (by first | (simp [plainName, overriddenIn]; done) | decide +kernel) | decide +kernel
set_option maxRecDepth 65536 in
set_option maxHeartbeats 40000000 in
theorem kw_sia (l : Launch) (Z : State) (a0 : Array Value) (hw : ∀ d ∈ tables_1, d.before a0 Z = true) (cs : Int32) (hcs : ¬ cs = 0) (SC : Sta Z Z.heap "java/lang/String" "COMPACT_STRINGS" "Z" (.int cs)) (hEW : EW Z a0 EL) (a b d : Addr) (N : Nat) (bs : List Int32) (h0 : Heap) (n0 : Nat) (OD : Old Z n0 h0) (SB : Sb Z h0 b d N bs) (ga : n0 ≤ a) (EA : Exa Z h0 a "java/lang/String") (FC : Fld Z h0 a "java/lang/String" "coder" "B" (.int 0)) (FV : Fld Z h0 a "java/lang/String" "value" "[B" .null) (hn : bs.length < N) (hn2 : bs.length ≤ 16) : KW false l Z M_sia n0 (fun v h => v = none ∧ Keep h0 h [a] ∧ ∃ e, Sg Z h a e bs) ([], fun _ => False) h0 0 0 0 #[.val (.ref a), .val (.ref b), .val .null, .unset, .unset] [] := by
  obtain ⟨ckB, zs, EB, VB, CB, NB, AB, hN, hN2⟩ := id SB
  have K0 : Keep h0 h0 [a] := Keep.refl _ _
  have had : a ≠ d := Exa.neArv EA AB (hw _ (List.mem_of_getElem? (i := 9) rfl))
  have hab : a ≠ b := Exa.ne EA EB (by decide)
  refine k_aloadN d_sia_0 rfl rfl rfl ?_
  refine k_initObj (W0 := 0) d_sia_1 rfl (hw _ (List.mem_of_getElem? (i := 71) rfl)) (hw _ (List.mem_of_getElem? (i := 20) rfl)) (hw _ (List.mem_of_getElem? (i := 21) rfl)) rfl rfl (by decide) (by decide) ?_
  refine k_aloadN d_sia_4 rfl rfl rfl ?_
  refine k_callVirtual (argsL := []) (rest := []) (W0 := 0) d_sia_5 rfl (mt_gvl l Z a0 hw cs hcs SC hEW b d N bs h0 n0 OD SB) Kp.strict EB (hw _ (List.mem_of_getElem? (i := 154) rfl)) (hw _ (List.mem_of_getElem? (i := 155) rfl)) (hw _ (List.mem_of_getElem? (i := 157) rfl)) (hw _ (List.mem_of_getElem? (i := 120) rfl)) rfl (hw _ (List.mem_of_getElem? (i := 156) rfl)) (hw _ (List.mem_of_getElem? (i := 158) rfl)) (hw _ (List.mem_of_getElem? (i := 84) rfl)) (by decide) pd_gvl rfl rfl rfl rfl (by decide) (by decide) (by decide) (by decide) ?_
  rintro _ _ - ⟨rfl, rfl⟩
  refine KW.any (P' := ([], fun _ => False)) ?_
  show KW false l Z M_sia n0 (fun v h => v = none ∧ Keep h0 h [a] ∧ ∃ e, Sg Z h a e bs) ([], fun _ => False) h0 0 0 8 #[.val (.ref a), .val (.ref b), .val .null, .unset, .unset] [(.ref d)]
  refine k_astoreN (Ls' := #[.val (.ref a), .val (.ref b), .val .null, .val (.ref d), .unset]) d_sia_8 rfl rfl rfl ?_
  refine k_aloadN d_sia_9 rfl rfl rfl ?_
  refine k_callVirtual (argsL := []) (rest := []) (W0 := 0) d_sia_10 rfl (mt_sln l Z a0 hw cs hcs SC hEW b d N bs h0 n0 OD SB) Kp.strict EB (hw _ (List.mem_of_getElem? (i := 159) rfl)) (hw _ (List.mem_of_getElem? (i := 160) rfl)) (hw _ (List.mem_of_getElem? (i := 162) rfl)) (hw _ (List.mem_of_getElem? (i := 120) rfl)) rfl (hw _ (List.mem_of_getElem? (i := 163) rfl)) (hw _ (List.mem_of_getElem? (i := 164) rfl)) (hw _ (List.mem_of_getElem? (i := 76) rfl)) (by decide) pd_sln rfl rfl rfl rfl (by decide) (by decide) (by decide) (by decide) ?_
  rintro _ _ - ⟨rfl, rfl⟩
  refine KW.any (P' := ([], fun _ => False)) ?_
  show KW false l Z M_sia n0 (fun v h => v = none ∧ Keep h0 h [a] ∧ ∃ e, Sg Z h a e bs) ([], fun _ => False) h0 0 0 13 #[.val (.ref a), .val (.ref b), .val .null, .val (.ref d), .unset] [(.int (Int32.ofNat bs.length))]
  refine k_istore (Ls' := #[.val (.ref a), .val (.ref b), .val .null, .val (.ref d), .val (.int (Int32.ofNat bs.length))]) d_sia_13 rfl rfl ?_
  refine k_aloadN d_sia_15 rfl rfl rfl ?_
  refine k_callVirtual (argsL := []) (rest := []) (W0 := 0) d_sia_16 rfl (mt_ail l Z a0 hw cs hcs SC hEW b d N bs h0 n0 OD SB) Kp.strict EB (hw _ (List.mem_of_getElem? (i := 167) rfl)) (hw _ (List.mem_of_getElem? (i := 168) rfl)) (hw _ (List.mem_of_getElem? (i := 170) rfl)) (hw _ (List.mem_of_getElem? (i := 120) rfl)) rfl (hw _ (List.mem_of_getElem? (i := 169) rfl)) (hw _ (List.mem_of_getElem? (i := 171) rfl)) (hw _ (List.mem_of_getElem? (i := 84) rfl)) (by decide) pd_ail rfl rfl rfl rfl (by decide) (by decide) (by decide) (by decide) ?_
  rintro _ _ - ⟨rfl, rfl⟩
  refine KW.any (P' := ([], fun _ => False)) ?_
  show KW false l Z M_sia n0 (fun v h => v = none ∧ Keep h0 h [a] ∧ ∃ e, Sg Z h a e bs) ([], fun _ => False) h0 0 0 19 #[.val (.ref a), .val (.ref b), .val .null, .val (.ref d), .val (.int (Int32.ofNat bs.length))] [(.int (1 : Int32))]
  refine k_ifc (pc1 := 41) (pc' := 22) d_sia_19 (by decide) (by decide) rfl (fun (cd1 : (1 : Int32) = (0 : Int32)) => False.elim (by exact absurd cd1 (by decide))) (fun (cd1 : ¬ (1 : Int32) = (0 : Int32)) => ?_)
  refine k_aloadN d_sia_22 rfl rfl rfl ?_
  refine k_iconst (z := (0 : Int32)) d_sia_23 rfl (by decide) ?_
  refine k_put (v' := (.int (0 : Int32))) (ty := .byte) d_sia_24 rfl (hw _ (List.mem_of_getElem? (i := 73) rfl)) Via.refl FC EA (Or.inr ⟨(hw _ (List.mem_of_getElem? (i := 12) rfl)), rfl, rfl⟩) (hw _ (List.mem_of_getElem? (i := 9) rfl)) (by decide) rfl rfl ga (fun q => by cases q) ?_
  intro h1 W2
  have F3 := FC.same W2
  show KW false l Z M_sia n0 (fun v h => v = none ∧ Keep h0 h [a] ∧ ∃ e, Sg Z h a e bs) ([], fun _ => False) h1 0 0 27 #[.val (.ref a), .val (.ref b), .val .null, .val (.ref d), .val (.int (Int32.ofNat bs.length))] []
  refine k_aloadN d_sia_27 rfl rfl rfl ?_
  refine k_aloadN d_sia_28 rfl rfl rfl ?_
  refine k_iconst (z := (0 : Int32)) d_sia_29 rfl (by decide) ?_
  refine k_iload d_sia_30 rfl rfl ?_
  have f4 := (AB.other W2 (Ne.symm had))
  have f5 := (EA.wr W2)
  have f6 := (FV.other W2 (Or.inr (slot_ne (t := (.array .byte)) (t' := .byte) (Or.inr (hw _ (List.mem_of_getElem? (i := 11) rfl))) (Or.inr (hw _ (List.mem_of_getElem? (i := 12) rfl))) (by decide) (by decide) (by decide))))
  have f7 := (K0.wr W2 (Or.inl (by simp)))
  have f8 := (OD.wr W2 ga)
  refine k_callStatic (argsL := [(.ref d), (.int (0 : Int32)), (.int (Int32.ofNat bs.length))]) (rest := [(.ref a)]) (W0 := 1) d_sia_32 rfl (mt_cor l Z a0 hw cs hcs SC hEW d ckB (bs ++ zs) bs.length h1 n0 f8 (by rw [hN]; exact f4) (by omega) (by omega) hn2) Kp.strict (hw _ (List.mem_of_getElem? (i := 172) rfl)) (hw _ (List.mem_of_getElem? (i := 173) rfl)) (hw _ (List.mem_of_getElem? (i := 174) rfl)) (hw _ (List.mem_of_getElem? (i := 175) rfl)) (by decide) pd_cor rfl rfl rfl rfl (by decide) (by decide) (by decide) (by decide) ?_
  rintro _ hM - ⟨e, ck', rfl, ge1, ge2, KM, VM⟩
  rw [List.take_left] at VM
  have ne9 : a ≠ e := Nat.ne_of_lt (Nat.lt_of_lt_of_le f5.lt ge1)
  refine KW.any (P' := ([], fun _ => False)) ?_
  show KW false l Z M_sia n0 (fun v h => v = none ∧ Keep h0 h [a] ∧ ∃ e, Sg Z h a e bs) ([], fun _ => False) hM 1 16 35 #[.val (.ref a), .val (.ref b), .val .null, .val (.ref d), .val (.int (Int32.ofNat bs.length))] [(.ref e), (.ref a)]
  have f12 := (f6.keep KM nin0)
  have f13 := (f5.keep KM)
  refine k_put (v' := (.ref e)) (ty := (.array .byte)) d_sia_35 rfl (hw _ (List.mem_of_getElem? (i := 72) rfl)) Via.refl f12 f13 (Or.inr ⟨(hw _ (List.mem_of_getElem? (i := 11) rfl)), rfl, rfl⟩) (hw _ (List.mem_of_getElem? (i := 9) rfl)) (by decide) rfl rfl ga (fun q => by cases q) ?_
  intro h10 W11
  have F14 := f12.same W11
  show KW false l Z M_sia n0 (fun v h => v = none ∧ Keep h0 h [a] ∧ ∃ e, Sg Z h a e bs) ([], fun _ => False) h10 1 16 38 #[.val (.ref a), .val (.ref b), .val .null, .val (.ref d), .val (.int (Int32.ofNat bs.length))] []
  refine k_goto (pc' := 97) d_sia_38 (by decide) (by decide) ?_
  have f15 := ((f7.trans KM all0).wr W11 (Or.inl (by simp)))
  have f16 := (f13.wr W11)
  have f17 := ((F3.keep KM nin0).other W11 (Or.inr (slot_ne (t := .byte) (t' := (.array .byte)) (Or.inr (hw _ (List.mem_of_getElem? (i := 12) rfl))) (Or.inr (hw _ (List.mem_of_getElem? (i := 11) rfl))) (by decide) (by decide) (by decide))))
  have f18 := (VM.other W11 (Ne.symm ne9))
  exact k_retVoid d_sia_97 rfl (by decide) (by decide) ⟨rfl, f15, e, ⟨ck', f16, f17, F14, f18, by omega⟩⟩
theorem mt_sia (l : Launch) (Z : State) (a0 : Array Value) (hw : ∀ d ∈ tables_1, d.before a0 Z = true) (cs : Int32) (hcs : ¬ cs = 0) (SC : Sta Z Z.heap "java/lang/String" "COMPACT_STRINGS" "Z" (.int cs)) (hEW : EW Z a0 EL) (a b d : Addr) (N : Nat) (bs : List Int32) (h0 : Heap) (n0 : Nat) (OD : Old Z n0 h0) (SB : Sb Z h0 b d N bs) (ga : n0 ≤ a) (EA : Exa Z h0 a "java/lang/String") (FC : Fld Z h0 a "java/lang/String" "coder" "B" (.int 0)) (FV : Fld Z h0 a "java/lang/String" "value" "[B" .null) (hn : bs.length < N) (hn2 : bs.length ≤ 16) : Mt l Z M_sia [] n0 #[(.ref a), (.ref b), .null] h0 (fun v h => v = none ∧ Keep h0 h [a] ∧ ∃ e, Sg Z h a e bs) :=
  mt_of_kw (P := ([], fun _ => False)) pf_sia (fun m => by first | (simp [entryFrame, mkF, argsToLocals, Value.category]; done) | rfl) (kw_sia l Z a0 hw cs hcs SC hEW a b d N bs h0 n0 OD SB ga EA FC FV hn hn2)
abbrev M_sis : MD := ((⟨"java/lang/String", "<init>", "(Ljava/lang/StringBuilder;)V"⟩ : MethodName), jdk_42_method_53_code, 2, none, { frames := 4, cells := 1, slots := 16, locals := 108 })
theorem d_sis_0 : decode jdk_42_method_53_code 0 = .ok (.aload_n 0, 1) := by decide +kernel
theorem d_sis_1 : decode jdk_42_method_53_code 1 = .ok (.aload_n 1, 1) := by decide +kernel
theorem d_sis_2 : decode jdk_42_method_53_code 2 = .ok (.aconst_null, 1) := by decide +kernel
theorem d_sis_3 : decode jdk_42_method_53_code 3 = .ok (.invokespecial 489, 3) := by decide +kernel
theorem d_sis_6 : decode jdk_42_method_53_code 6 = .ok (.return_, 1) := by decide +kernel
theorem pd_sis : parseMethodDescriptor "(Ljava/lang/StringBuilder;)V" = some ⟨[(.object "java/lang/StringBuilder")], none⟩ := by decide +kernel
theorem pf_sis : plainFor (⟨"java/lang/String", "<init>", "(Ljava/lang/StringBuilder;)V"⟩ : MethodName) = true := by first | exact plainFor_of_name (by first | (simp [plainName, overriddenIn]; done) | decide +kernel) | decide +kernel
set_option maxRecDepth 65536 in
set_option maxHeartbeats 40000000 in
theorem kw_sis (l : Launch) (Z : State) (a0 : Array Value) (hw : ∀ d ∈ tables_1, d.before a0 Z = true) (cs : Int32) (hcs : ¬ cs = 0) (SC : Sta Z Z.heap "java/lang/String" "COMPACT_STRINGS" "Z" (.int cs)) (hEW : EW Z a0 EL) (a b d : Addr) (N : Nat) (bs : List Int32) (h0 : Heap) (n0 : Nat) (OD : Old Z n0 h0) (SB : Sb Z h0 b d N bs) (ga : n0 ≤ a) (EA : Exa Z h0 a "java/lang/String") (FC : Fld Z h0 a "java/lang/String" "coder" "B" (.int 0)) (FV : Fld Z h0 a "java/lang/String" "value" "[B" .null) (hn : bs.length < N) (hn2 : bs.length ≤ 16) : KW false l Z M_sis n0 (fun v h => v = none ∧ Keep h0 h [a] ∧ ∃ e, Sg Z h a e bs) ([], fun _ => False) h0 0 0 0 #[.val (.ref a), .val (.ref b)] [] := by
  refine k_aloadN d_sis_0 rfl rfl rfl ?_
  refine k_aloadN d_sis_1 rfl rfl rfl ?_
  refine k_aconstNull d_sis_2 rfl ?_
  refine k_callInit (a := a) (argsL := [(.ref b), .null]) (rest := []) (W0 := 0) d_sis_3 rfl (mt_sia l Z a0 hw cs hcs SC hEW a b d N bs h0 n0 OD SB ga EA FC FV hn hn2) Kp.strict rfl rfl (hw _ (List.mem_of_getElem? (i := 151) rfl)) (hw _ (List.mem_of_getElem? (i := 152) rfl)) (hw _ (List.mem_of_getElem? (i := 8) rfl)) (hw _ (List.mem_of_getElem? (i := 153) rfl)) (by decide) pd_sia rfl rfl rfl rfl (by decide) (by decide) (by decide) (by decide) ?_
  rintro _ hM - ⟨rfl, R1⟩
  refine KW.any (P' := ([], fun _ => False)) ?_
  show KW false l Z M_sis n0 (fun v h => v = none ∧ Keep h0 h [a] ∧ ∃ e, Sg Z h a e bs) ([], fun _ => False) hM 1 16 6 #[.val (.ref a), .val (.ref b)] []
  exact k_retVoid d_sis_6 rfl (by decide) (by decide) ⟨rfl, R1⟩
theorem mt_sis (l : Launch) (Z : State) (a0 : Array Value) (hw : ∀ d ∈ tables_1, d.before a0 Z = true) (cs : Int32) (hcs : ¬ cs = 0) (SC : Sta Z Z.heap "java/lang/String" "COMPACT_STRINGS" "Z" (.int cs)) (hEW : EW Z a0 EL) (a b d : Addr) (N : Nat) (bs : List Int32) (h0 : Heap) (n0 : Nat) (OD : Old Z n0 h0) (SB : Sb Z h0 b d N bs) (ga : n0 ≤ a) (EA : Exa Z h0 a "java/lang/String") (FC : Fld Z h0 a "java/lang/String" "coder" "B" (.int 0)) (FV : Fld Z h0 a "java/lang/String" "value" "[B" .null) (hn : bs.length < N) (hn2 : bs.length ≤ 16) : Mt l Z M_sis [] n0 #[(.ref a), (.ref b)] h0 (fun v h => v = none ∧ Keep h0 h [a] ∧ ∃ e, Sg Z h a e bs) :=
  mt_of_kw (P := ([], fun _ => False)) pf_sis (fun m => by first | (simp [entryFrame, mkF, argsToLocals, Value.category]; done) | rfl) (kw_sis l Z a0 hw cs hcs SC hEW a b d N bs h0 n0 OD SB ga EA FC FV hn hn2)
abbrev M_tos : MD := ((⟨"java/lang/StringBuilder", "toString", "()Ljava/lang/String;"⟩ : MethodName), jdk_67_method_42_code, 1, (some (.object "java/lang/String")), { frames := 5, cells := 2, slots := 20, locals := 124 })
theorem d_tos_0 : decode jdk_67_method_42_code 0 = .ok (.new 18, 3) := by decide +kernel
theorem d_tos_3 : decode jdk_67_method_42_code 3 = .ok (.dup, 1) := by decide +kernel
theorem d_tos_4 : decode jdk_67_method_42_code 4 = .ok (.aload_n 0, 1) := by decide +kernel
theorem d_tos_5 : decode jdk_67_method_42_code 5 = .ok (.invokespecial 137, 3) := by decide +kernel
theorem d_tos_8 : decode jdk_67_method_42_code 8 = .ok (.areturn, 1) := by decide +kernel
theorem pd_tos : parseMethodDescriptor "()Ljava/lang/String;" = some ⟨[], (some (.object "java/lang/String"))⟩ := by decide +kernel
theorem pf_tos : plainFor (⟨"java/lang/StringBuilder", "toString", "()Ljava/lang/String;"⟩ : MethodName) = true := by first | exact plainFor_of_name (by first | (simp [plainName, overriddenIn]; done) | decide +kernel) | decide +kernel
set_option maxRecDepth 65536 in
set_option maxHeartbeats 40000000 in
theorem kw_tos (l : Launch) (Z : State) (a0 : Array Value) (hw : ∀ d ∈ tables_1, d.before a0 Z = true) (cs : Int32) (hcs : ¬ cs = 0) (SC : Sta Z Z.heap "java/lang/String" "COMPACT_STRINGS" "Z" (.int cs)) (hEW : EW Z a0 EL) (b d : Addr) (N : Nat) (bs : List Int32) (h0 : Heap) (n0 : Nat) (OD : Old Z n0 h0) (SB : Sb Z h0 b d N bs) (hn : bs.length < N) (hn2 : bs.length ≤ 16) : KW false l Z M_tos n0 (fun v h => ∃ a e, v = some (.ref a) ∧ Keep h0 h [] ∧ Sg Z h a e bs) ([], fun _ => False) h0 0 0 0 #[.val (.ref b)] [] := by
  have Z0 := OD.1 ▸ OD.2.1
  have K0 : Keep h0 h0 [] := Keep.refl _ _
  refine k_new d_tos_0 rfl (hw _ (List.mem_of_getElem? (i := 147) rfl)) (hw _ (List.mem_of_getElem? (i := 9) rfl)) (hw _ (List.mem_of_getElem? (i := 8) rfl)) (by decide) (by decide) ?_
  intro h2 a1 g6 E3 A4 D5
  have z7 : n0 ≤ h0.size := Z0
  have ge8 : n0 ≤ a1 := Nat.le_trans z7 (Nat.le_of_eq g6.symm)
  have gl9 : h0.size ≤ a1 := Nat.le_of_eq g6.symm
  have gh10 := Nat.le_trans K0.1 gl9
  have F11 : Fld Z h2 a1 "java/lang/String" "value" "[B" .null := D5 (Or.inr (hw _ (List.mem_of_getElem? (i := 11) rfl))) (ty := (.array .byte)) (by decide)
  have F12 : Fld Z h2 a1 "java/lang/String" "coder" "B" (.int (0 : Int32)) := D5 (Or.inr (hw _ (List.mem_of_getElem? (i := 12) rfl))) (ty := .byte) (by decide)
  refine KW.any (P' := ([], fun _ => False)) ?_
  show KW false l Z M_tos n0 (fun v h => ∃ a e, v = some (.ref a) ∧ Keep h0 h [] ∧ Sg Z h a e bs) ([], fun _ => False) h2 1 4 3 #[.val (.ref b)] [(.ref a1)]
  refine k_dup d_tos_3 rfl rfl ?_
  refine k_aloadN d_tos_4 rfl rfl rfl ?_
  have f13 := (K0.ext E3)
  have f14 := (OD.ext E3)
  refine k_callInit (a := a1) (argsL := [(.ref b)]) (rest := [(.ref a1)]) (W0 := 1) d_tos_5 rfl (mt_sis l Z a0 hw cs hcs SC hEW a1 b d N bs h2 n0 f14 (SB.ext E3) ge8 A4 F12 F11 hn hn2) Kp.strict rfl rfl (hw _ (List.mem_of_getElem? (i := 148) rfl)) (hw _ (List.mem_of_getElem? (i := 149) rfl)) (hw _ (List.mem_of_getElem? (i := 8) rfl)) (hw _ (List.mem_of_getElem? (i := 150) rfl)) (by decide) pd_sis rfl rfl rfl rfl (by decide) (by decide) (by decide) (by decide) ?_
  rintro _ hM - ⟨rfl, KM, e, SG⟩
  refine KW.any (P' := ([], fun _ => False)) ?_
  show KW false l Z M_tos n0 (fun v h => ∃ a e, v = some (.ref a) ∧ Keep h0 h [] ∧ Sg Z h a e bs) ([], fun _ => False) hM 2 20 8 #[.val (.ref b)] [(.ref a1)]
  have f15 := (f13.trans KM (allS (Or.inr gh10) all0))
  exact k_retRef d_tos_8 rfl rfl rfl (by decide) (by decide) ⟨a1, e, rfl, f15, SG⟩
theorem mt_tos (l : Launch) (Z : State) (a0 : Array Value) (hw : ∀ d ∈ tables_1, d.before a0 Z = true) (cs : Int32) (hcs : ¬ cs = 0) (SC : Sta Z Z.heap "java/lang/String" "COMPACT_STRINGS" "Z" (.int cs)) (hEW : EW Z a0 EL) (b d : Addr) (N : Nat) (bs : List Int32) (h0 : Heap) (n0 : Nat) (OD : Old Z n0 h0) (SB : Sb Z h0 b d N bs) (hn : bs.length < N) (hn2 : bs.length ≤ 16) : Mt l Z M_tos [] n0 #[(.ref b)] h0 (fun v h => ∃ a e, v = some (.ref a) ∧ Keep h0 h [] ∧ Sg Z h a e bs) :=
  mt_of_kw (P := ([], fun _ => False)) pf_tos (fun m => by first | (simp [entryFrame, mkF, argsToLocals, Value.category]; done) | rfl) (kw_tos l Z a0 hw cs hcs SC hEW b d N bs h0 n0 OD SB hn hn2)
abbrev M_ui : MD := ((⟨"com/example/liburiref/liburiref/UriReference", "<init>", "(Ljava/lang/String;Ljava/lang/String;Ljava/lang/String;Ljava/lang/String;Ljava/lang/String;Ljava/lang/String;Ljava/lang/String;Ljava/lang/String;)V"⟩ : MethodName), prog_7_method_1_code, 9, none, { frames := 1, cells := 0, slots := 0, locals := 12 })
theorem d_ui_0 : decode prog_7_method_1_code 0 = .ok (.aload_n 0, 1) := by decide +kernel
theorem d_ui_1 : decode prog_7_method_1_code 1 = .ok (.invokespecial 1, 3) := by decide +kernel
theorem d_ui_4 : decode prog_7_method_1_code 4 = .ok (.aload_n 0, 1) := by decide +kernel
theorem d_ui_5 : decode prog_7_method_1_code 5 = .ok (.aload_n 1, 1) := by decide +kernel
theorem d_ui_6 : decode prog_7_method_1_code 6 = .ok (.putfield 7, 3) := by decide +kernel
theorem d_ui_9 : decode prog_7_method_1_code 9 = .ok (.aload_n 0, 1) := by decide +kernel
theorem d_ui_10 : decode prog_7_method_1_code 10 = .ok (.aload_n 2, 1) := by decide +kernel
theorem d_ui_11 : decode prog_7_method_1_code 11 = .ok (.putfield 13, 3) := by decide +kernel
theorem d_ui_14 : decode prog_7_method_1_code 14 = .ok (.aload_n 0, 1) := by decide +kernel
theorem d_ui_15 : decode prog_7_method_1_code 15 = .ok (.aload_n 3, 1) := by decide +kernel
theorem d_ui_16 : decode prog_7_method_1_code 16 = .ok (.putfield 16, 3) := by decide +kernel
theorem d_ui_19 : decode prog_7_method_1_code 19 = .ok (.aload_n 0, 1) := by decide +kernel
theorem d_ui_20 : decode prog_7_method_1_code 20 = .ok (.aload 4, 2) := by decide +kernel
theorem d_ui_22 : decode prog_7_method_1_code 22 = .ok (.putfield 19, 3) := by decide +kernel
theorem d_ui_25 : decode prog_7_method_1_code 25 = .ok (.aload_n 0, 1) := by decide +kernel
theorem d_ui_26 : decode prog_7_method_1_code 26 = .ok (.aload 5, 2) := by decide +kernel
theorem d_ui_28 : decode prog_7_method_1_code 28 = .ok (.putfield 22, 3) := by decide +kernel
theorem d_ui_31 : decode prog_7_method_1_code 31 = .ok (.aload_n 0, 1) := by decide +kernel
theorem d_ui_32 : decode prog_7_method_1_code 32 = .ok (.aload 6, 2) := by decide +kernel
theorem d_ui_34 : decode prog_7_method_1_code 34 = .ok (.putfield 25, 3) := by decide +kernel
theorem d_ui_37 : decode prog_7_method_1_code 37 = .ok (.aload_n 0, 1) := by decide +kernel
theorem d_ui_38 : decode prog_7_method_1_code 38 = .ok (.aload 7, 2) := by decide +kernel
theorem d_ui_40 : decode prog_7_method_1_code 40 = .ok (.putfield 28, 3) := by decide +kernel
theorem d_ui_43 : decode prog_7_method_1_code 43 = .ok (.aload_n 0, 1) := by decide +kernel
theorem d_ui_44 : decode prog_7_method_1_code 44 = .ok (.aload 8, 2) := by decide +kernel
theorem d_ui_46 : decode prog_7_method_1_code 46 = .ok (.putfield 31, 3) := by decide +kernel
theorem d_ui_49 : decode prog_7_method_1_code 49 = .ok (.return_, 1) := by decide +kernel
theorem pd_ui : parseMethodDescriptor "(Ljava/lang/String;Ljava/lang/String;Ljava/lang/String;Ljava/lang/String;Ljava/lang/String;Ljava/lang/String;Ljava/lang/String;Ljava/lang/String;)V" = some ⟨[(.object "java/lang/String"), (.object "java/lang/String"), (.object "java/lang/String"), (.object "java/lang/String"), (.object "java/lang/String"), (.object "java/lang/String"), (.object "java/lang/String"), (.object "java/lang/String")], none⟩ := by decide +kernel
theorem pf_ui : plainFor (⟨"com/example/liburiref/liburiref/UriReference", "<init>", "(Ljava/lang/String;Ljava/lang/String;Ljava/lang/String;Ljava/lang/String;Ljava/lang/String;Ljava/lang/String;Ljava/lang/String;Ljava/lang/String;)V"⟩ : MethodName) = true := by first | exact plainFor_of_name (by first | (simp [plainName, overriddenIn]; done) | decide +kernel) | decide +kernel
set_option maxRecDepth 65536 in
set_option maxHeartbeats 40000000 in
theorem kw_ui (l : Launch) (Z : State) (a0 : Array Value) (hw : ∀ d ∈ tables_1, d.before a0 Z = true) (cs : Int32) (hcs : ¬ cs = 0) (SC : Sta Z Z.heap "java/lang/String" "COMPACT_STRINGS" "Z" (.int cs)) (hEW : EW Z a0 EL) (o : Addr) (w1 w2 w3 w4 w5 w6 w7 w8 : Value) (hw1 : w1.isRef = true) (hw2 : w2.isRef = true) (hw3 : w3.isRef = true) (hw4 : w4.isRef = true) (hw5 : w5.isRef = true) (hw6 : w6.isRef = true) (hw7 : w7.isRef = true) (hw8 : w8.isRef = true) (h0 : Heap) (n0 : Nat) (go : n0 ≤ o) (EO : Exa Z h0 o "com/example/liburiref/liburiref/UriReference") (GF0 : Fld Z h0 o "com/example/liburiref/liburiref/UriReference" "text" "Ljava/lang/String;" .null) (GF1 : Fld Z h0 o "com/example/liburiref/liburiref/UriReference" "scheme" "Ljava/lang/String;" .null) (GF2 : Fld Z h0 o "com/example/liburiref/liburiref/UriReference" "userInfo" "Ljava/lang/String;" .null) (GF3 : Fld Z h0 o "com/example/liburiref/liburiref/UriReference" "host" "Ljava/lang/String;" .null) (GF4 : Fld Z h0 o "com/example/liburiref/liburiref/UriReference" "port" "Ljava/lang/String;" .null) (GF5 : Fld Z h0 o "com/example/liburiref/liburiref/UriReference" "path" "Ljava/lang/String;" .null) (GF6 : Fld Z h0 o "com/example/liburiref/liburiref/UriReference" "query" "Ljava/lang/String;" .null) (GF7 : Fld Z h0 o "com/example/liburiref/liburiref/UriReference" "fragment" "Ljava/lang/String;" .null) : KW false l Z M_ui n0 (fun v h => v = none ∧ Keep h0 h [o] ∧ Fld Z h o "com/example/liburiref/liburiref/UriReference" "userInfo" "Ljava/lang/String;" w3 ∧ Fld Z h o "com/example/liburiref/liburiref/UriReference" "host" "Ljava/lang/String;" w4 ∧ Fld Z h o "com/example/liburiref/liburiref/UriReference" "port" "Ljava/lang/String;" w5) ([], fun _ => False) h0 0 0 0 #[.val (.ref o), .val w1, .val w2, .val w3, .val w4, .val w5, .val w6, .val w7, .val w8] [] := by
  have K0 : Keep h0 h0 [o] := Keep.refl _ _
  refine k_aloadN d_ui_0 rfl rfl rfl ?_
  refine k_initObj (W0 := 0) d_ui_1 rfl (hw _ (List.mem_of_getElem? (i := 19) rfl)) (hw _ (List.mem_of_getElem? (i := 20) rfl)) (hw _ (List.mem_of_getElem? (i := 21) rfl)) rfl rfl (by decide) (by decide) ?_
  refine k_aloadN d_ui_4 rfl rfl rfl ?_
  refine k_aloadN d_ui_5 rfl rfl hw1 ?_
  refine k_put (v' := w1) (ty := (.object "java/lang/String")) d_ui_6 rfl (hw _ (List.mem_of_getElem? (i := 22) rfl)) Via.refl GF0 EO (Or.inr ⟨(hw _ (List.mem_of_getElem? (i := 23) rfl)), rfl, rfl⟩) (hw _ (List.mem_of_getElem? (i := 5) rfl)) (by decide) (nar_ref hw1) (fit_ref hw1) go (fun q => by cases q) ?_
  intro h1 W2
  have F3 := GF0.same W2
  show KW false l Z M_ui n0 (fun v h => v = none ∧ Keep h0 h [o] ∧ Fld Z h o "com/example/liburiref/liburiref/UriReference" "userInfo" "Ljava/lang/String;" w3 ∧ Fld Z h o "com/example/liburiref/liburiref/UriReference" "host" "Ljava/lang/String;" w4 ∧ Fld Z h o "com/example/liburiref/liburiref/UriReference" "port" "Ljava/lang/String;" w5) ([], fun _ => False) h1 0 0 9 #[.val (.ref o), .val w1, .val w2, .val w3, .val w4, .val w5, .val w6, .val w7, .val w8] []
  refine k_aloadN d_ui_9 rfl rfl rfl ?_
  refine k_aloadN d_ui_10 rfl rfl hw2 ?_
  have f6 := (GF1.other W2 (Or.inr (slot_ne (t := (.object "java/lang/String")) (t' := (.object "java/lang/String")) (Or.inr (hw _ (List.mem_of_getElem? (i := 25) rfl))) (Or.inr (hw _ (List.mem_of_getElem? (i := 23) rfl))) (by decide) (by decide) (by decide))))
  have f7 := (EO.wr W2)
  refine k_put (v' := w2) (ty := (.object "java/lang/String")) d_ui_11 rfl (hw _ (List.mem_of_getElem? (i := 24) rfl)) Via.refl f6 f7 (Or.inr ⟨(hw _ (List.mem_of_getElem? (i := 25) rfl)), rfl, rfl⟩) (hw _ (List.mem_of_getElem? (i := 5) rfl)) (by decide) (nar_ref hw2) (fit_ref hw2) go (fun q => by cases q) ?_
  intro h4 W5
  have F8 := f6.same W5
  show KW false l Z M_ui n0 (fun v h => v = none ∧ Keep h0 h [o] ∧ Fld Z h o "com/example/liburiref/liburiref/UriReference" "userInfo" "Ljava/lang/String;" w3 ∧ Fld Z h o "com/example/liburiref/liburiref/UriReference" "host" "Ljava/lang/String;" w4 ∧ Fld Z h o "com/example/liburiref/liburiref/UriReference" "port" "Ljava/lang/String;" w5) ([], fun _ => False) h4 0 0 14 #[.val (.ref o), .val w1, .val w2, .val w3, .val w4, .val w5, .val w6, .val w7, .val w8] []
  refine k_aloadN d_ui_14 rfl rfl rfl ?_
  refine k_aloadN d_ui_15 rfl rfl hw3 ?_
  have f11 := ((GF2.other W2 (Or.inr (slot_ne (t := (.object "java/lang/String")) (t' := (.object "java/lang/String")) (Or.inr (hw _ (List.mem_of_getElem? (i := 27) rfl))) (Or.inr (hw _ (List.mem_of_getElem? (i := 23) rfl))) (by decide) (by decide) (by decide)))).other W5 (Or.inr (slot_ne (t := (.object "java/lang/String")) (t' := (.object "java/lang/String")) (Or.inr (hw _ (List.mem_of_getElem? (i := 27) rfl))) (Or.inr (hw _ (List.mem_of_getElem? (i := 25) rfl))) (by decide) (by decide) (by decide))))
  have f12 := (f7.wr W5)
  refine k_put (v' := w3) (ty := (.object "java/lang/String")) d_ui_16 rfl (hw _ (List.mem_of_getElem? (i := 26) rfl)) Via.refl f11 f12 (Or.inr ⟨(hw _ (List.mem_of_getElem? (i := 27) rfl)), rfl, rfl⟩) (hw _ (List.mem_of_getElem? (i := 5) rfl)) (by decide) (nar_ref hw3) (fit_ref hw3) go (fun q => by cases q) ?_
  intro h9 W10
  have F13 := f11.same W10
  show KW false l Z M_ui n0 (fun v h => v = none ∧ Keep h0 h [o] ∧ Fld Z h o "com/example/liburiref/liburiref/UriReference" "userInfo" "Ljava/lang/String;" w3 ∧ Fld Z h o "com/example/liburiref/liburiref/UriReference" "host" "Ljava/lang/String;" w4 ∧ Fld Z h o "com/example/liburiref/liburiref/UriReference" "port" "Ljava/lang/String;" w5) ([], fun _ => False) h9 0 0 19 #[.val (.ref o), .val w1, .val w2, .val w3, .val w4, .val w5, .val w6, .val w7, .val w8] []
  refine k_aloadN d_ui_19 rfl rfl rfl ?_
  refine k_aload d_ui_20 rfl rfl hw4 ?_
  have f16 := (((GF3.other W2 (Or.inr (slot_ne (t := (.object "java/lang/String")) (t' := (.object "java/lang/String")) (Or.inr (hw _ (List.mem_of_getElem? (i := 29) rfl))) (Or.inr (hw _ (List.mem_of_getElem? (i := 23) rfl))) (by decide) (by decide) (by decide)))).other W5 (Or.inr (slot_ne (t := (.object "java/lang/String")) (t' := (.object "java/lang/String")) (Or.inr (hw _ (List.mem_of_getElem? (i := 29) rfl))) (Or.inr (hw _ (List.mem_of_getElem? (i := 25) rfl))) (by decide) (by decide) (by decide)))).other W10 (Or.inr (slot_ne (t := (.object "java/lang/String")) (t' := (.object "java/lang/String")) (Or.inr (hw _ (List.mem_of_getElem? (i := 29) rfl))) (Or.inr (hw _ (List.mem_of_getElem? (i := 27) rfl))) (by decide) (by decide) (by decide))))
  have f17 := (f12.wr W10)
  refine k_put (v' := w4) (ty := (.object "java/lang/String")) d_ui_22 rfl (hw _ (List.mem_of_getElem? (i := 28) rfl)) Via.refl f16 f17 (Or.inr ⟨(hw _ (List.mem_of_getElem? (i := 29) rfl)), rfl, rfl⟩) (hw _ (List.mem_of_getElem? (i := 5) rfl)) (by decide) (nar_ref hw4) (fit_ref hw4) go (fun q => by cases q) ?_
  intro h14 W15
  have F18 := f16.same W15
  show KW false l Z M_ui n0 (fun v h => v = none ∧ Keep h0 h [o] ∧ Fld Z h o "com/example/liburiref/liburiref/UriReference" "userInfo" "Ljava/lang/String;" w3 ∧ Fld Z h o "com/example/liburiref/liburiref/UriReference" "host" "Ljava/lang/String;" w4 ∧ Fld Z h o "com/example/liburiref/liburiref/UriReference" "port" "Ljava/lang/String;" w5) ([], fun _ => False) h14 0 0 25 #[.val (.ref o), .val w1, .val w2, .val w3, .val w4, .val w5, .val w6, .val w7, .val w8] []
  refine k_aloadN d_ui_25 rfl rfl rfl ?_
  refine k_aload d_ui_26 rfl rfl hw5 ?_
  have f21 := ((((GF4.other W2 (Or.inr (slot_ne (t := (.object "java/lang/String")) (t' := (.object "java/lang/String")) (Or.inr (hw _ (List.mem_of_getElem? (i := 31) rfl))) (Or.inr (hw _ (List.mem_of_getElem? (i := 23) rfl))) (by decide) (by decide) (by decide)))).other W5 (Or.inr (slot_ne (t := (.object "java/lang/String")) (t' := (.object "java/lang/String")) (Or.inr (hw _ (List.mem_of_getElem? (i := 31) rfl))) (Or.inr (hw _ (List.mem_of_getElem? (i := 25) rfl))) (by decide) (by decide) (by decide)))).other W10 (Or.inr (slot_ne (t := (.object "java/lang/String")) (t' := (.object "java/lang/String")) (Or.inr (hw _ (List.mem_of_getElem? (i := 31) rfl))) (Or.inr (hw _ (List.mem_of_getElem? (i := 27) rfl))) (by decide) (by decide) (by decide)))).other W15 (Or.inr (slot_ne (t := (.object "java/lang/String")) (t' := (.object "java/lang/String")) (Or.inr (hw _ (List.mem_of_getElem? (i := 31) rfl))) (Or.inr (hw _ (List.mem_of_getElem? (i := 29) rfl))) (by decide) (by decide) (by decide))))
  have f22 := (f17.wr W15)
  refine k_put (v' := w5) (ty := (.object "java/lang/String")) d_ui_28 rfl (hw _ (List.mem_of_getElem? (i := 30) rfl)) Via.refl f21 f22 (Or.inr ⟨(hw _ (List.mem_of_getElem? (i := 31) rfl)), rfl, rfl⟩) (hw _ (List.mem_of_getElem? (i := 5) rfl)) (by decide) (nar_ref hw5) (fit_ref hw5) go (fun q => by cases q) ?_
  intro h19 W20
  have F23 := f21.same W20
  show KW false l Z M_ui n0 (fun v h => v = none ∧ Keep h0 h [o] ∧ Fld Z h o "com/example/liburiref/liburiref/UriReference" "userInfo" "Ljava/lang/String;" w3 ∧ Fld Z h o "com/example/liburiref/liburiref/UriReference" "host" "Ljava/lang/String;" w4 ∧ Fld Z h o "com/example/liburiref/liburiref/UriReference" "port" "Ljava/lang/String;" w5) ([], fun _ => False) h19 0 0 31 #[.val (.ref o), .val w1, .val w2, .val w3, .val w4, .val w5, .val w6, .val w7, .val w8] []
  refine k_aloadN d_ui_31 rfl rfl rfl ?_
  refine k_aload d_ui_32 rfl rfl hw6 ?_
  have f26 := (((((GF5.other W2 (Or.inr (slot_ne (t := (.object "java/lang/String")) (t' := (.object "java/lang/String")) (Or.inr (hw _ (List.mem_of_getElem? (i := 33) rfl))) (Or.inr (hw _ (List.mem_of_getElem? (i := 23) rfl))) (by decide) (by decide) (by decide)))).other W5 (Or.inr (slot_ne (t := (.object "java/lang/String")) (t' := (.object "java/lang/String")) (Or.inr (hw _ (List.mem_of_getElem? (i := 33) rfl))) (Or.inr (hw _ (List.mem_of_getElem? (i := 25) rfl))) (by decide) (by decide) (by decide)))).other W10 (Or.inr (slot_ne (t := (.object "java/lang/String")) (t' := (.object "java/lang/String")) (Or.inr (hw _ (List.mem_of_getElem? (i := 33) rfl))) (Or.inr (hw _ (List.mem_of_getElem? (i := 27) rfl))) (by decide) (by decide) (by decide)))).other W15 (Or.inr (slot_ne (t := (.object "java/lang/String")) (t' := (.object "java/lang/String")) (Or.inr (hw _ (List.mem_of_getElem? (i := 33) rfl))) (Or.inr (hw _ (List.mem_of_getElem? (i := 29) rfl))) (by decide) (by decide) (by decide)))).other W20 (Or.inr (slot_ne (t := (.object "java/lang/String")) (t' := (.object "java/lang/String")) (Or.inr (hw _ (List.mem_of_getElem? (i := 33) rfl))) (Or.inr (hw _ (List.mem_of_getElem? (i := 31) rfl))) (by decide) (by decide) (by decide))))
  have f27 := (f22.wr W20)
  refine k_put (v' := w6) (ty := (.object "java/lang/String")) d_ui_34 rfl (hw _ (List.mem_of_getElem? (i := 32) rfl)) Via.refl f26 f27 (Or.inr ⟨(hw _ (List.mem_of_getElem? (i := 33) rfl)), rfl, rfl⟩) (hw _ (List.mem_of_getElem? (i := 5) rfl)) (by decide) (nar_ref hw6) (fit_ref hw6) go (fun q => by cases q) ?_
  intro h24 W25
  have F28 := f26.same W25
  show KW false l Z M_ui n0 (fun v h => v = none ∧ Keep h0 h [o] ∧ Fld Z h o "com/example/liburiref/liburiref/UriReference" "userInfo" "Ljava/lang/String;" w3 ∧ Fld Z h o "com/example/liburiref/liburiref/UriReference" "host" "Ljava/lang/String;" w4 ∧ Fld Z h o "com/example/liburiref/liburiref/UriReference" "port" "Ljava/lang/String;" w5) ([], fun _ => False) h24 0 0 37 #[.val (.ref o), .val w1, .val w2, .val w3, .val w4, .val w5, .val w6, .val w7, .val w8] []
  refine k_aloadN d_ui_37 rfl rfl rfl ?_
  refine k_aload d_ui_38 rfl rfl hw7 ?_
  have f31 := ((((((GF6.other W2 (Or.inr (slot_ne (t := (.object "java/lang/String")) (t' := (.object "java/lang/String")) (Or.inr (hw _ (List.mem_of_getElem? (i := 35) rfl))) (Or.inr (hw _ (List.mem_of_getElem? (i := 23) rfl))) (by decide) (by decide) (by decide)))).other W5 (Or.inr (slot_ne (t := (.object "java/lang/String")) (t' := (.object "java/lang/String")) (Or.inr (hw _ (List.mem_of_getElem? (i := 35) rfl))) (Or.inr (hw _ (List.mem_of_getElem? (i := 25) rfl))) (by decide) (by decide) (by decide)))).other W10 (Or.inr (slot_ne (t := (.object "java/lang/String")) (t' := (.object "java/lang/String")) (Or.inr (hw _ (List.mem_of_getElem? (i := 35) rfl))) (Or.inr (hw _ (List.mem_of_getElem? (i := 27) rfl))) (by decide) (by decide) (by decide)))).other W15 (Or.inr (slot_ne (t := (.object "java/lang/String")) (t' := (.object "java/lang/String")) (Or.inr (hw _ (List.mem_of_getElem? (i := 35) rfl))) (Or.inr (hw _ (List.mem_of_getElem? (i := 29) rfl))) (by decide) (by decide) (by decide)))).other W20 (Or.inr (slot_ne (t := (.object "java/lang/String")) (t' := (.object "java/lang/String")) (Or.inr (hw _ (List.mem_of_getElem? (i := 35) rfl))) (Or.inr (hw _ (List.mem_of_getElem? (i := 31) rfl))) (by decide) (by decide) (by decide)))).other W25 (Or.inr (slot_ne (t := (.object "java/lang/String")) (t' := (.object "java/lang/String")) (Or.inr (hw _ (List.mem_of_getElem? (i := 35) rfl))) (Or.inr (hw _ (List.mem_of_getElem? (i := 33) rfl))) (by decide) (by decide) (by decide))))
  have f32 := (f27.wr W25)
  refine k_put (v' := w7) (ty := (.object "java/lang/String")) d_ui_40 rfl (hw _ (List.mem_of_getElem? (i := 34) rfl)) Via.refl f31 f32 (Or.inr ⟨(hw _ (List.mem_of_getElem? (i := 35) rfl)), rfl, rfl⟩) (hw _ (List.mem_of_getElem? (i := 5) rfl)) (by decide) (nar_ref hw7) (fit_ref hw7) go (fun q => by cases q) ?_
  intro h29 W30
  have F33 := f31.same W30
  show KW false l Z M_ui n0 (fun v h => v = none ∧ Keep h0 h [o] ∧ Fld Z h o "com/example/liburiref/liburiref/UriReference" "userInfo" "Ljava/lang/String;" w3 ∧ Fld Z h o "com/example/liburiref/liburiref/UriReference" "host" "Ljava/lang/String;" w4 ∧ Fld Z h o "com/example/liburiref/liburiref/UriReference" "port" "Ljava/lang/String;" w5) ([], fun _ => False) h29 0 0 43 #[.val (.ref o), .val w1, .val w2, .val w3, .val w4, .val w5, .val w6, .val w7, .val w8] []
  refine k_aloadN d_ui_43 rfl rfl rfl ?_
  refine k_aload d_ui_44 rfl rfl hw8 ?_
  have f36 := (((((((GF7.other W2 (Or.inr (slot_ne (t := (.object "java/lang/String")) (t' := (.object "java/lang/String")) (Or.inr (hw _ (List.mem_of_getElem? (i := 37) rfl))) (Or.inr (hw _ (List.mem_of_getElem? (i := 23) rfl))) (by decide) (by decide) (by decide)))).other W5 (Or.inr (slot_ne (t := (.object "java/lang/String")) (t' := (.object "java/lang/String")) (Or.inr (hw _ (List.mem_of_getElem? (i := 37) rfl))) (Or.inr (hw _ (List.mem_of_getElem? (i := 25) rfl))) (by decide) (by decide) (by decide)))).other W10 (Or.inr (slot_ne (t := (.object "java/lang/String")) (t' := (.object "java/lang/String")) (Or.inr (hw _ (List.mem_of_getElem? (i := 37) rfl))) (Or.inr (hw _ (List.mem_of_getElem? (i := 27) rfl))) (by decide) (by decide) (by decide)))).other W15 (Or.inr (slot_ne (t := (.object "java/lang/String")) (t' := (.object "java/lang/String")) (Or.inr (hw _ (List.mem_of_getElem? (i := 37) rfl))) (Or.inr (hw _ (List.mem_of_getElem? (i := 29) rfl))) (by decide) (by decide) (by decide)))).other W20 (Or.inr (slot_ne (t := (.object "java/lang/String")) (t' := (.object "java/lang/String")) (Or.inr (hw _ (List.mem_of_getElem? (i := 37) rfl))) (Or.inr (hw _ (List.mem_of_getElem? (i := 31) rfl))) (by decide) (by decide) (by decide)))).other W25 (Or.inr (slot_ne (t := (.object "java/lang/String")) (t' := (.object "java/lang/String")) (Or.inr (hw _ (List.mem_of_getElem? (i := 37) rfl))) (Or.inr (hw _ (List.mem_of_getElem? (i := 33) rfl))) (by decide) (by decide) (by decide)))).other W30 (Or.inr (slot_ne (t := (.object "java/lang/String")) (t' := (.object "java/lang/String")) (Or.inr (hw _ (List.mem_of_getElem? (i := 37) rfl))) (Or.inr (hw _ (List.mem_of_getElem? (i := 35) rfl))) (by decide) (by decide) (by decide))))
  have f37 := (f32.wr W30)
  refine k_put (v' := w8) (ty := (.object "java/lang/String")) d_ui_46 rfl (hw _ (List.mem_of_getElem? (i := 36) rfl)) Via.refl f36 f37 (Or.inr ⟨(hw _ (List.mem_of_getElem? (i := 37) rfl)), rfl, rfl⟩) (hw _ (List.mem_of_getElem? (i := 5) rfl)) (by decide) (nar_ref hw8) (fit_ref hw8) go (fun q => by cases q) ?_
  intro h34 W35
  have F38 := f36.same W35
  show KW false l Z M_ui n0 (fun v h => v = none ∧ Keep h0 h [o] ∧ Fld Z h o "com/example/liburiref/liburiref/UriReference" "userInfo" "Ljava/lang/String;" w3 ∧ Fld Z h o "com/example/liburiref/liburiref/UriReference" "host" "Ljava/lang/String;" w4 ∧ Fld Z h o "com/example/liburiref/liburiref/UriReference" "port" "Ljava/lang/String;" w5) ([], fun _ => False) h34 0 0 49 #[.val (.ref o), .val w1, .val w2, .val w3, .val w4, .val w5, .val w6, .val w7, .val w8] []
  have f39 := ((((((((K0.wr W2 (Or.inl (by simp))).wr W5 (Or.inl (by simp))).wr W10 (Or.inl (by simp))).wr W15 (Or.inl (by simp))).wr W20 (Or.inl (by simp))).wr W25 (Or.inl (by simp))).wr W30 (Or.inl (by simp))).wr W35 (Or.inl (by simp)))
  have f40 := (((((F13.other W15 (Or.inr (slot_ne (t := (.object "java/lang/String")) (t' := (.object "java/lang/String")) (Or.inr (hw _ (List.mem_of_getElem? (i := 27) rfl))) (Or.inr (hw _ (List.mem_of_getElem? (i := 29) rfl))) (by decide) (by decide) (by decide)))).other W20 (Or.inr (slot_ne (t := (.object "java/lang/String")) (t' := (.object "java/lang/String")) (Or.inr (hw _ (List.mem_of_getElem? (i := 27) rfl))) (Or.inr (hw _ (List.mem_of_getElem? (i := 31) rfl))) (by decide) (by decide) (by decide)))).other W25 (Or.inr (slot_ne (t := (.object "java/lang/String")) (t' := (.object "java/lang/String")) (Or.inr (hw _ (List.mem_of_getElem? (i := 27) rfl))) (Or.inr (hw _ (List.mem_of_getElem? (i := 33) rfl))) (by decide) (by decide) (by decide)))).other W30 (Or.inr (slot_ne (t := (.object "java/lang/String")) (t' := (.object "java/lang/String")) (Or.inr (hw _ (List.mem_of_getElem? (i := 27) rfl))) (Or.inr (hw _ (List.mem_of_getElem? (i := 35) rfl))) (by decide) (by decide) (by decide)))).other W35 (Or.inr (slot_ne (t := (.object "java/lang/String")) (t' := (.object "java/lang/String")) (Or.inr (hw _ (List.mem_of_getElem? (i := 27) rfl))) (Or.inr (hw _ (List.mem_of_getElem? (i := 37) rfl))) (by decide) (by decide) (by decide))))
  have f41 := ((((F18.other W20 (Or.inr (slot_ne (t := (.object "java/lang/String")) (t' := (.object "java/lang/String")) (Or.inr (hw _ (List.mem_of_getElem? (i := 29) rfl))) (Or.inr (hw _ (List.mem_of_getElem? (i := 31) rfl))) (by decide) (by decide) (by decide)))).other W25 (Or.inr (slot_ne (t := (.object "java/lang/String")) (t' := (.object "java/lang/String")) (Or.inr (hw _ (List.mem_of_getElem? (i := 29) rfl))) (Or.inr (hw _ (List.mem_of_getElem? (i := 33) rfl))) (by decide) (by decide) (by decide)))).other W30 (Or.inr (slot_ne (t := (.object "java/lang/String")) (t' := (.object "java/lang/String")) (Or.inr (hw _ (List.mem_of_getElem? (i := 29) rfl))) (Or.inr (hw _ (List.mem_of_getElem? (i := 35) rfl))) (by decide) (by decide) (by decide)))).other W35 (Or.inr (slot_ne (t := (.object "java/lang/String")) (t' := (.object "java/lang/String")) (Or.inr (hw _ (List.mem_of_getElem? (i := 29) rfl))) (Or.inr (hw _ (List.mem_of_getElem? (i := 37) rfl))) (by decide) (by decide) (by decide))))
  have f42 := (((F23.other W25 (Or.inr (slot_ne (t := (.object "java/lang/String")) (t' := (.object "java/lang/String")) (Or.inr (hw _ (List.mem_of_getElem? (i := 31) rfl))) (Or.inr (hw _ (List.mem_of_getElem? (i := 33) rfl))) (by decide) (by decide) (by decide)))).other W30 (Or.inr (slot_ne (t := (.object "java/lang/String")) (t' := (.object "java/lang/String")) (Or.inr (hw _ (List.mem_of_getElem? (i := 31) rfl))) (Or.inr (hw _ (List.mem_of_getElem? (i := 35) rfl))) (by decide) (by decide) (by decide)))).other W35 (Or.inr (slot_ne (t := (.object "java/lang/String")) (t' := (.object "java/lang/String")) (Or.inr (hw _ (List.mem_of_getElem? (i := 31) rfl))) (Or.inr (hw _ (List.mem_of_getElem? (i := 37) rfl))) (by decide) (by decide) (by decide))))
  exact k_retVoid d_ui_49 rfl (by decide) (by decide) ⟨rfl, f39, f40, f41, f42⟩
theorem mt_ui (l : Launch) (Z : State) (a0 : Array Value) (hw : ∀ d ∈ tables_1, d.before a0 Z = true) (cs : Int32) (hcs : ¬ cs = 0) (SC : Sta Z Z.heap "java/lang/String" "COMPACT_STRINGS" "Z" (.int cs)) (hEW : EW Z a0 EL) (o : Addr) (w1 w2 w3 w4 w5 w6 w7 w8 : Value) (hw1 : w1.isRef = true) (hw2 : w2.isRef = true) (hw3 : w3.isRef = true) (hw4 : w4.isRef = true) (hw5 : w5.isRef = true) (hw6 : w6.isRef = true) (hw7 : w7.isRef = true) (hw8 : w8.isRef = true) (h0 : Heap) (n0 : Nat) (go : n0 ≤ o) (EO : Exa Z h0 o "com/example/liburiref/liburiref/UriReference") (GF0 : Fld Z h0 o "com/example/liburiref/liburiref/UriReference" "text" "Ljava/lang/String;" .null) (GF1 : Fld Z h0 o "com/example/liburiref/liburiref/UriReference" "scheme" "Ljava/lang/String;" .null) (GF2 : Fld Z h0 o "com/example/liburiref/liburiref/UriReference" "userInfo" "Ljava/lang/String;" .null) (GF3 : Fld Z h0 o "com/example/liburiref/liburiref/UriReference" "host" "Ljava/lang/String;" .null) (GF4 : Fld Z h0 o "com/example/liburiref/liburiref/UriReference" "port" "Ljava/lang/String;" .null) (GF5 : Fld Z h0 o "com/example/liburiref/liburiref/UriReference" "path" "Ljava/lang/String;" .null) (GF6 : Fld Z h0 o "com/example/liburiref/liburiref/UriReference" "query" "Ljava/lang/String;" .null) (GF7 : Fld Z h0 o "com/example/liburiref/liburiref/UriReference" "fragment" "Ljava/lang/String;" .null) : Mt l Z M_ui [] n0 #[(.ref o), w1, w2, w3, w4, w5, w6, w7, w8] h0 (fun v h => v = none ∧ Keep h0 h [o] ∧ Fld Z h o "com/example/liburiref/liburiref/UriReference" "userInfo" "Ljava/lang/String;" w3 ∧ Fld Z h o "com/example/liburiref/liburiref/UriReference" "host" "Ljava/lang/String;" w4 ∧ Fld Z h o "com/example/liburiref/liburiref/UriReference" "port" "Ljava/lang/String;" w5) :=
  mt_of_kw (P := ([], fun _ => False)) pf_ui (fun m => by simp [entryFrame, mkF, argsToLocals, cat_R, cat_ref hw1, cat_ref hw2, cat_ref hw3, cat_ref hw4, cat_ref hw5, cat_ref hw6, cat_ref hw7, cat_ref hw8]) (kw_ui l Z a0 hw cs hcs SC hEW o w1 w2 w3 w4 w5 w6 w7 w8 hw1 hw2 hw3 hw4 hw5 hw6 hw7 hw8 h0 n0 go EO GF0 GF1 GF2 GF3 GF4 GF5 GF6 GF7)
abbrev M_rnn : MD := ((⟨"java/util/Objects", "requireNonNull", "(Ljava/lang/Object;)Ljava/lang/Object;"⟩ : MethodName), jdk_31_method_10_code, 1, (some (.object "java/lang/Object")), { frames := 0, cells := 0, slots := 0, locals := 0 })
theorem d_rnn_0 : decode jdk_31_method_10_code 0 = .ok (.aload_n 0, 1) := by decide +kernel
theorem d_rnn_1 : decode jdk_31_method_10_code 1 = .ok (.ifnonnull 11, 3) := by decide +kernel
theorem d_rnn_4 : decode jdk_31_method_10_code 4 = .ok (.new 84, 3) := by decide +kernel
theorem d_rnn_7 : decode jdk_31_method_10_code 7 = .ok (.dup, 1) := by decide +kernel
theorem d_rnn_8 : decode jdk_31_method_10_code 8 = .ok (.invokespecial 86, 3) := by decide +kernel
theorem d_rnn_11 : decode jdk_31_method_10_code 11 = .ok (.athrow, 1) := by decide +kernel
theorem d_rnn_12 : decode jdk_31_method_10_code 12 = .ok (.aload_n 0, 1) := by decide +kernel
theorem d_rnn_13 : decode jdk_31_method_10_code 13 = .ok (.areturn, 1) := by decide +kernel
theorem pd_rnn : parseMethodDescriptor "(Ljava/lang/Object;)Ljava/lang/Object;" = some ⟨[(.object "java/lang/Object")], (some (.object "java/lang/Object"))⟩ := by decide +kernel
theorem pf_rnn : plainFor (⟨"java/util/Objects", "requireNonNull", "(Ljava/lang/Object;)Ljava/lang/Object;"⟩ : MethodName) = true := by first | exact plainFor_of_name (by first | (simp [plainName, overriddenIn]; done) | decide +kernel) | decide +kernel
set_option maxRecDepth 65536 in
set_option maxHeartbeats 40000000 in
theorem kw_rnn (l : Launch) (Z : State) (a0 : Array Value) (hw : ∀ d ∈ tables_1, d.before a0 Z = true) (cs : Int32) (hcs : ¬ cs = 0) (SC : Sta Z Z.heap "java/lang/String" "COMPACT_STRINGS" "Z" (.int cs)) (hEW : EW Z a0 EL) (o : Addr) (h0 : Heap) (n0 : Nat) : KW false l Z M_rnn n0 (fun v h => v = some (.ref o) ∧ h0 = h) ([], fun _ => False) h0 0 0 0 #[.val (.ref o)] [] := by
  refine k_aloadN d_rnn_0 rfl rfl rfl ?_
  refine k_ifnonnullY (pc' := 12) d_rnn_1 (by decide) (by decide) ?_
  refine k_aloadN d_rnn_12 rfl rfl rfl ?_
  exact k_retRef d_rnn_13 rfl rfl rfl (by decide) (by decide) ⟨rfl, rfl⟩
theorem mt_rnn (l : Launch) (Z : State) (a0 : Array Value) (hw : ∀ d ∈ tables_1, d.before a0 Z = true) (cs : Int32) (hcs : ¬ cs = 0) (SC : Sta Z Z.heap "java/lang/String" "COMPACT_STRINGS" "Z" (.int cs)) (hEW : EW Z a0 EL) (o : Addr) (h0 : Heap) (n0 : Nat) : Mt l Z M_rnn [] n0 #[(.ref o)] h0 (fun v h => v = some (.ref o) ∧ h0 = h) :=
  mt_of_kw (P := ([], fun _ => False)) pf_rnn (fun m => by first | (simp [entryFrame, mkF, argsToLocals, Value.category]; done) | rfl) (kw_rnn l Z a0 hw cs hcs SC hEW o h0 n0)
abbrev M_oi : MD := ((⟨"java/util/Optional", "<init>", "(Ljava/lang/Object;)V"⟩ : MethodName), jdk_32_method_2_code, 2, none, { frames := 1, cells := 0, slots := 0, locals := 12 })
theorem d_oi_0 : decode jdk_32_method_2_code 0 = .ok (.aload_n 0, 1) := by decide +kernel
theorem d_oi_1 : decode jdk_32_method_2_code 1 = .ok (.invokespecial 7, 3) := by decide +kernel
theorem d_oi_4 : decode jdk_32_method_2_code 4 = .ok (.aload_n 0, 1) := by decide +kernel
theorem d_oi_5 : decode jdk_32_method_2_code 5 = .ok (.aload_n 1, 1) := by decide +kernel
theorem d_oi_6 : decode jdk_32_method_2_code 6 = .ok (.putfield 13, 3) := by decide +kernel
theorem d_oi_9 : decode jdk_32_method_2_code 9 = .ok (.return_, 1) := by decide +kernel
theorem pd_oi : parseMethodDescriptor "(Ljava/lang/Object;)V" = some ⟨[(.object "java/lang/Object")], none⟩ := by decide +kernel
theorem pf_oi : plainFor (⟨"java/util/Optional", "<init>", "(Ljava/lang/Object;)V"⟩ : MethodName) = true := by first | exact plainFor_of_name (by first | (simp [plainName, overriddenIn]; done) | decide +kernel) | decide +kernel
set_option maxRecDepth 65536 in
set_option maxHeartbeats 40000000 in
theorem kw_oi (l : Launch) (Z : State) (a0 : Array Value) (hw : ∀ d ∈ tables_1, d.before a0 Z = true) (cs : Int32) (hcs : ¬ cs = 0) (SC : Sta Z Z.heap "java/lang/String" "COMPACT_STRINGS" "Z" (.int cs)) (hEW : EW Z a0 EL) (o a : Addr) (h0 : Heap) (n0 : Nat) (go : n0 ≤ o) (EO : Exa Z h0 o "java/util/Optional") (FV : Fld Z h0 o "java/util/Optional" "value" "Ljava/lang/Object;" .null) : KW false l Z M_oi n0 (fun v h => v = none ∧ Keep h0 h [o] ∧ Fld Z h o "java/util/Optional" "value" "Ljava/lang/Object;" (.ref a)) ([], fun _ => False) h0 0 0 0 #[.val (.ref o), .val (.ref a)] [] := by
  have K0 : Keep h0 h0 [o] := Keep.refl _ _
  refine k_aloadN d_oi_0 rfl rfl rfl ?_
  refine k_initObj (W0 := 0) d_oi_1 rfl (hw _ (List.mem_of_getElem? (i := 200) rfl)) (hw _ (List.mem_of_getElem? (i := 20) rfl)) (hw _ (List.mem_of_getElem? (i := 21) rfl)) rfl rfl (by decide) (by decide) ?_
  refine k_aloadN d_oi_4 rfl rfl rfl ?_
  refine k_aloadN d_oi_5 rfl rfl rfl ?_
  refine k_put (v' := (.ref a)) (ty := (.object "java/lang/Object")) d_oi_6 rfl (hw _ (List.mem_of_getElem? (i := 53) rfl)) Via.refl FV EO (Or.inr ⟨(hw _ (List.mem_of_getElem? (i := 54) rfl)), rfl, rfl⟩) (hw _ (List.mem_of_getElem? (i := 191) rfl)) (by decide) rfl rfl go (fun q => by cases q) ?_
  intro h1 W2
  have F3 := FV.same W2
  show KW false l Z M_oi n0 (fun v h => v = none ∧ Keep h0 h [o] ∧ Fld Z h o "java/util/Optional" "value" "Ljava/lang/Object;" (.ref a)) ([], fun _ => False) h1 0 0 9 #[.val (.ref o), .val (.ref a)] []
  have f4 := (K0.wr W2 (Or.inl (by simp)))
  exact k_retVoid d_oi_9 rfl (by decide) (by decide) ⟨rfl, f4, F3⟩
theorem mt_oi (l : Launch) (Z : State) (a0 : Array Value) (hw : ∀ d ∈ tables_1, d.before a0 Z = true) (cs : Int32) (hcs : ¬ cs = 0) (SC : Sta Z Z.heap "java/lang/String" "COMPACT_STRINGS" "Z" (.int cs)) (hEW : EW Z a0 EL) (o a : Addr) (h0 : Heap) (n0 : Nat) (go : n0 ≤ o) (EO : Exa Z h0 o "java/util/Optional") (FV : Fld Z h0 o "java/util/Optional" "value" "Ljava/lang/Object;" .null) : Mt l Z M_oi [] n0 #[(.ref o), (.ref a)] h0 (fun v h => v = none ∧ Keep h0 h [o] ∧ Fld Z h o "java/util/Optional" "value" "Ljava/lang/Object;" (.ref a)) :=
  mt_of_kw (P := ([], fun _ => False)) pf_oi (fun m => by first | (simp [entryFrame, mkF, argsToLocals, Value.category]; done) | rfl) (kw_oi l Z a0 hw cs hcs SC hEW o a h0 n0 go EO FV)
abbrev M_oof : MD := ((⟨"java/util/Optional", "of", "(Ljava/lang/Object;)Ljava/util/Optional;"⟩ : MethodName), jdk_32_method_3_code, 1, (some (.object "java/util/Optional")), { frames := 2, cells := 1, slots := 1, locals := 32 })
theorem d_oof_0 : decode jdk_32_method_3_code 0 = .ok (.new 2, 3) := by decide +kernel
theorem d_oof_3 : decode jdk_32_method_3_code 3 = .ok (.dup, 1) := by decide +kernel
theorem d_oof_4 : decode jdk_32_method_3_code 4 = .ok (.aload_n 0, 1) := by decide +kernel
theorem d_oof_5 : decode jdk_32_method_3_code 5 = .ok (.invokestatic 17, 3) := by decide +kernel
theorem d_oof_8 : decode jdk_32_method_3_code 8 = .ok (.invokespecial 23, 3) := by decide +kernel
theorem d_oof_11 : decode jdk_32_method_3_code 11 = .ok (.areturn, 1) := by decide +kernel
theorem pd_oof : parseMethodDescriptor "(Ljava/lang/Object;)Ljava/util/Optional;" = some ⟨[(.object "java/lang/Object")], (some (.object "java/util/Optional"))⟩ := by decide +kernel
theorem pf_oof : plainFor (⟨"java/util/Optional", "of", "(Ljava/lang/Object;)Ljava/util/Optional;"⟩ : MethodName) = true := by first | exact plainFor_of_name (by first | (simp [plainName, overriddenIn]; done) | decide +kernel) | decide +kernel
set_option maxRecDepth 65536 in
set_option maxHeartbeats 40000000 in
theorem kw_oof (l : Launch) (Z : State) (a0 : Array Value) (hw : ∀ d ∈ tables_1, d.before a0 Z = true) (cs : Int32) (hcs : ¬ cs = 0) (SC : Sta Z Z.heap "java/lang/String" "COMPACT_STRINGS" "Z" (.int cs)) (hEW : EW Z a0 EL) (a : Addr) (h0 : Heap) (n0 : Nat) (OD : Old Z n0 h0) : KW false l Z M_oof n0 (fun v h => ∃ o, v = some (.ref o) ∧ Keep h0 h [] ∧ Exa Z h o "java/util/Optional" ∧ Fld Z h o "java/util/Optional" "value" "Ljava/lang/Object;" (.ref a)) ([], fun _ => False) h0 0 0 0 #[.val (.ref a)] [] := by
  have Z0 := OD.1 ▸ OD.2.1
  have K0 : Keep h0 h0 [] := Keep.refl _ _
  refine k_new d_oof_0 rfl (hw _ (List.mem_of_getElem? (i := 190) rfl)) (hw _ (List.mem_of_getElem? (i := 191) rfl)) (hw _ (List.mem_of_getElem? (i := 45) rfl)) (by decide) (by decide) ?_
  intro h2 a1 g6 E3 A4 D5
  have z7 : n0 ≤ h0.size := Z0
  have ge8 : n0 ≤ a1 := Nat.le_trans z7 (Nat.le_of_eq g6.symm)
  have gl9 : h0.size ≤ a1 := Nat.le_of_eq g6.symm
  have gh10 := Nat.le_trans K0.1 gl9
  have F11 : Fld Z h2 a1 "java/util/Optional" "value" "Ljava/lang/Object;" .null := D5 (Or.inr (hw _ (List.mem_of_getElem? (i := 54) rfl))) (ty := (.object "java/lang/Object")) (by decide)
  refine KW.any (P' := ([], fun _ => False)) ?_
  show KW false l Z M_oof n0 (fun v h => ∃ o, v = some (.ref o) ∧ Keep h0 h [] ∧ Exa Z h o "java/util/Optional" ∧ Fld Z h o "java/util/Optional" "value" "Ljava/lang/Object;" (.ref a)) ([], fun _ => False) h2 1 1 3 #[.val (.ref a)] [(.ref a1)]
  refine k_dup d_oof_3 rfl rfl ?_
  refine k_aloadN d_oof_4 rfl rfl rfl ?_
  refine k_callStatic (argsL := [(.ref a)]) (rest := [(.ref a1), (.ref a1)]) (W0 := 2) d_oof_5 rfl (mt_rnn l Z a0 hw cs hcs SC hEW a h2 n0) Kp.strict (hw _ (List.mem_of_getElem? (i := 192) rfl)) (hw _ (List.mem_of_getElem? (i := 193) rfl)) (hw _ (List.mem_of_getElem? (i := 194) rfl)) (hw _ (List.mem_of_getElem? (i := 195) rfl)) (by decide) pd_rnn rfl rfl rfl rfl (by decide) (by decide) (by decide) (by decide) ?_
  rintro _ _ - ⟨rfl, rfl⟩
  refine KW.any (P' := ([], fun _ => False)) ?_
  show KW false l Z M_oof n0 (fun v h => ∃ o, v = some (.ref o) ∧ Keep h0 h [] ∧ Exa Z h o "java/util/Optional" ∧ Fld Z h o "java/util/Optional" "value" "Ljava/lang/Object;" (.ref a)) ([], fun _ => False) h2 1 1 8 #[.val (.ref a)] [(.ref a), (.ref a1), (.ref a1)]
  have f12 := (K0.ext E3)
  refine k_callInit (a := a1) (argsL := [(.ref a)]) (rest := [(.ref a1)]) (W0 := 1) d_oof_8 rfl (mt_oi l Z a0 hw cs hcs SC hEW a1 a h2 n0 ge8 A4 F11) Kp.strict rfl rfl (hw _ (List.mem_of_getElem? (i := 196) rfl)) (hw _ (List.mem_of_getElem? (i := 197) rfl)) (hw _ (List.mem_of_getElem? (i := 45) rfl)) (hw _ (List.mem_of_getElem? (i := 199) rfl)) (by decide) pd_oi rfl rfl rfl rfl (by decide) (by decide) (by decide) (by decide) ?_
  rintro _ hM - ⟨rfl, KM, FM⟩
  refine KW.any (P' := ([], fun _ => False)) ?_
  show KW false l Z M_oof n0 (fun v h => ∃ o, v = some (.ref o) ∧ Keep h0 h [] ∧ Exa Z h o "java/util/Optional" ∧ Fld Z h o "java/util/Optional" "value" "Ljava/lang/Object;" (.ref a)) ([], fun _ => False) hM 1 1 11 #[.val (.ref a)] [(.ref a1)]
  have f13 := (f12.trans KM (allS (Or.inr gh10) all0))
  have f14 := (A4.keep KM)
  exact k_retRef d_oof_11 rfl rfl rfl (by decide) (by decide) ⟨a1, rfl, f13, f14, FM⟩
theorem mt_oof (l : Launch) (Z : State) (a0 : Array Value) (hw : ∀ d ∈ tables_1, d.before a0 Z = true) (cs : Int32) (hcs : ¬ cs = 0) (SC : Sta Z Z.heap "java/lang/String" "COMPACT_STRINGS" "Z" (.int cs)) (hEW : EW Z a0 EL) (a : Addr) (h0 : Heap) (n0 : Nat) (OD : Old Z n0 h0) : Mt l Z M_oof [] n0 #[(.ref a)] h0 (fun v h => ∃ o, v = some (.ref o) ∧ Keep h0 h [] ∧ Exa Z h o "java/util/Optional" ∧ Fld Z h o "java/util/Optional" "value" "Ljava/lang/Object;" (.ref a)) :=
  mt_of_kw (P := ([], fun _ => False)) pf_oof (fun m => by first | (simp [entryFrame, mkF, argsToLocals, Value.category]; done) | rfl) (kw_oof l Z a0 hw cs hcs SC hEW a h0 n0 OD)
abbrev M_oem : MD := ((⟨"java/util/Optional", "empty", "()Ljava/util/Optional;"⟩ : MethodName), jdk_32_method_1_code, 1, (some (.object "java/util/Optional")), { frames := 0, cells := 0, slots := 0, locals := 0 })
theorem d_oem_0 : decode jdk_32_method_1_code 0 = .ok (.getstatic 1, 3) := by decide +kernel
theorem d_oem_3 : decode jdk_32_method_1_code 3 = .ok (.astore_n 0, 1) := by decide +kernel
theorem d_oem_4 : decode jdk_32_method_1_code 4 = .ok (.aload_n 0, 1) := by decide +kernel
theorem d_oem_5 : decode jdk_32_method_1_code 5 = .ok (.areturn, 1) := by decide +kernel
theorem pd_oem : parseMethodDescriptor "()Ljava/util/Optional;" = some ⟨[], (some (.object "java/util/Optional"))⟩ := by decide +kernel
theorem pf_oem : plainFor (⟨"java/util/Optional", "empty", "()Ljava/util/Optional;"⟩ : MethodName) = true := by first | exact plainFor_of_name (by first | (simp [plainName, overriddenIn]; done) | decide +kernel) | decide +kernel
set_option maxRecDepth 65536 in
set_option maxHeartbeats 40000000 in
theorem kw_oem (l : Launch) (Z : State) (a0 : Array Value) (hw : ∀ d ∈ tables_1, d.before a0 Z = true) (cs : Int32) (hcs : ¬ cs = 0) (SC : Sta Z Z.heap "java/lang/String" "COMPACT_STRINGS" "Z" (.int cs)) (hEW : EW Z a0 EL) (em : Addr) (SE : Sta Z Z.heap "java/util/Optional" "EMPTY" "Ljava/util/Optional;" (.ref em)) (h0 : Heap) (n0 : Nat) (OD : Old Z n0 h0) : KW false l Z M_oem n0 (fun v h => v = some (.ref em) ∧ h0 = h) ([], fun _ => False) h0 0 0 0 #[.unset] [] := by
  refine k_getStatic d_oem_0 rfl (hw _ (List.mem_of_getElem? (i := 47) rfl)) (Sta.ext OD.2 SE) ?_
  refine k_astoreN (Ls' := #[.val (.ref em)]) d_oem_3 rfl rfl rfl ?_
  refine k_aloadN d_oem_4 rfl rfl rfl ?_
  exact k_retRef d_oem_5 rfl rfl rfl (by decide) (by decide) ⟨rfl, rfl⟩
theorem mt_oem (l : Launch) (Z : State) (a0 : Array Value) (hw : ∀ d ∈ tables_1, d.before a0 Z = true) (cs : Int32) (hcs : ¬ cs = 0) (SC : Sta Z Z.heap "java/lang/String" "COMPACT_STRINGS" "Z" (.int cs)) (hEW : EW Z a0 EL) (em : Addr) (SE : Sta Z Z.heap "java/util/Optional" "EMPTY" "Ljava/util/Optional;" (.ref em)) (h0 : Heap) (n0 : Nat) (OD : Old Z n0 h0) : Mt l Z M_oem [] n0 #[] h0 (fun v h => v = some (.ref em) ∧ h0 = h) :=
  mt_of_kw (P := ([], fun _ => False)) pf_oem (fun m => by first | (simp [entryFrame, mkF, argsToLocals, Value.category]; done) | rfl) (kw_oem l Z a0 hw cs hcs SC hEW em SE h0 n0 OD)
abbrev M_oip : MD := ((⟨"java/util/Optional", "isPresent", "()Z"⟩ : MethodName), jdk_32_method_6_code, 1, (some .boolean), { frames := 0, cells := 0, slots := 0, locals := 0 })
theorem d_oip_0 : decode jdk_32_method_6_code 0 = .ok (.aload_n 0, 1) := by decide +kernel
theorem d_oip_1 : decode jdk_32_method_6_code 1 = .ok (.getfield 13, 3) := by decide +kernel
theorem d_oip_4 : decode jdk_32_method_6_code 4 = .ok (.ifnull 7, 3) := by decide +kernel
theorem d_oip_7 : decode jdk_32_method_6_code 7 = .ok (.iconst 1, 1) := by decide +kernel
theorem d_oip_8 : decode jdk_32_method_6_code 8 = .ok (.goto 4, 3) := by decide +kernel
theorem d_oip_11 : decode jdk_32_method_6_code 11 = .ok (.iconst 0, 1) := by decide +kernel
theorem d_oip_12 : decode jdk_32_method_6_code 12 = .ok (.ireturn, 1) := by decide +kernel
theorem pd_oip : parseMethodDescriptor "()Z" = some ⟨[], (some .boolean)⟩ := by decide +kernel
theorem pf_oip : plainFor (⟨"java/util/Optional", "isPresent", "()Z"⟩ : MethodName) = true := by first | exact plainFor_of_name (by first | (simp [plainName, overriddenIn]; done) | decide +kernel) | decide +kernel
set_option maxRecDepth 65536 in
set_option maxHeartbeats 40000000 in
theorem kw_oip (l : Launch) (Z : State) (a0 : Array Value) (hw : ∀ d ∈ tables_1, d.before a0 Z = true) (cs : Int32) (hcs : ¬ cs = 0) (SC : Sta Z Z.heap "java/lang/String" "COMPACT_STRINGS" "Z" (.int cs)) (hEW : EW Z a0 EL) (o a : Addr) (h0 : Heap) (n0 : Nat) (FV : Fld Z h0 o "java/util/Optional" "value" "Ljava/lang/Object;" (.ref a)) : KW false l Z M_oip n0 (fun v h => v = some (.int 1) ∧ h0 = h) ([], fun _ => False) h0 0 0 0 #[.val (.ref o)] [] := by
  refine k_aloadN d_oip_0 rfl rfl rfl ?_
  refine k_getField d_oip_1 rfl (hw _ (List.mem_of_getElem? (i := 53) rfl)) Via.refl FV ?_
  refine k_ifnullN d_oip_4 rfl ?_
  refine k_iconst (z := (1 : Int32)) d_oip_7 rfl (by decide) ?_
  refine k_goto (pc' := 12) d_oip_8 (by decide) (by decide) ?_
  exact k_retNar d_oip_12 rfl (by simp) (z' := (1 : Int32)) (by decide) (by decide) (by decide) ⟨rfl, rfl⟩
theorem mt_oip (l : Launch) (Z : State) (a0 : Array Value) (hw : ∀ d ∈ tables_1, d.before a0 Z = true) (cs : Int32) (hcs : ¬ cs = 0) (SC : Sta Z Z.heap "java/lang/String" "COMPACT_STRINGS" "Z" (.int cs)) (hEW : EW Z a0 EL) (o a : Addr) (h0 : Heap) (n0 : Nat) (FV : Fld Z h0 o "java/util/Optional" "value" "Ljava/lang/Object;" (.ref a)) : Mt l Z M_oip [] n0 #[(.ref o)] h0 (fun v h => v = some (.int 1) ∧ h0 = h) :=
  mt_of_kw (P := ([], fun _ => False)) pf_oip (fun m => by first | (simp [entryFrame, mkF, argsToLocals, Value.category]; done) | rfl) (kw_oip l Z a0 hw cs hcs SC hEW o a h0 n0 FV)
set_option maxRecDepth 65536 in
set_option maxHeartbeats 40000000 in
theorem kw_oipN (l : Launch) (Z : State) (a0 : Array Value) (hw : ∀ d ∈ tables_1, d.before a0 Z = true) (cs : Int32) (hcs : ¬ cs = 0) (SC : Sta Z Z.heap "java/lang/String" "COMPACT_STRINGS" "Z" (.int cs)) (hEW : EW Z a0 EL) (o : Addr) (h0 : Heap) (n0 : Nat) (FV : Fld Z h0 o "java/util/Optional" "value" "Ljava/lang/Object;" .null) : KW false l Z M_oip n0 (fun v h => v = some (.int 0) ∧ h0 = h) ([], fun _ => False) h0 0 0 0 #[.val (.ref o)] [] := by
  refine k_aloadN d_oip_0 rfl rfl rfl ?_
  refine k_getField d_oip_1 rfl (hw _ (List.mem_of_getElem? (i := 53) rfl)) Via.refl FV ?_
  refine k_ifnullY (pc' := 11) d_oip_4 (by decide) (by decide) ?_
  refine k_iconst (z := (0 : Int32)) d_oip_11 rfl (by decide) ?_
  exact k_retNar d_oip_12 rfl (by simp) (z' := (0 : Int32)) (by decide) (by decide) (by decide) ⟨rfl, rfl⟩
theorem mt_oipN (l : Launch) (Z : State) (a0 : Array Value) (hw : ∀ d ∈ tables_1, d.before a0 Z = true) (cs : Int32) (hcs : ¬ cs = 0) (SC : Sta Z Z.heap "java/lang/String" "COMPACT_STRINGS" "Z" (.int cs)) (hEW : EW Z a0 EL) (o : Addr) (h0 : Heap) (n0 : Nat) (FV : Fld Z h0 o "java/util/Optional" "value" "Ljava/lang/Object;" .null) : Mt l Z M_oip [] n0 #[(.ref o)] h0 (fun v h => v = some (.int 0) ∧ h0 = h) :=
  mt_of_kw (P := ([], fun _ => False)) pf_oip (fun m => by first | (simp [entryFrame, mkF, argsToLocals, Value.category]; done) | rfl) (kw_oipN l Z a0 hw cs hcs SC hEW o h0 n0 FV)
abbrev M_ogt : MD := ((⟨"java/util/Optional", "get", "()Ljava/lang/Object;"⟩ : MethodName), jdk_32_method_5_code, 1, (some (.object "java/lang/Object")), { frames := 0, cells := 0, slots := 0, locals := 0 })
theorem d_ogt_0 : decode jdk_32_method_5_code 0 = .ok (.aload_n 0, 1) := by decide +kernel
theorem d_ogt_1 : decode jdk_32_method_5_code 1 = .ok (.getfield 13, 3) := by decide +kernel
theorem d_ogt_4 : decode jdk_32_method_5_code 4 = .ok (.ifnonnull 13, 3) := by decide +kernel
theorem d_ogt_7 : decode jdk_32_method_5_code 7 = .ok (.new 26, 3) := by decide +kernel
theorem d_ogt_10 : decode jdk_32_method_5_code 10 = .ok (.dup, 1) := by decide +kernel
theorem d_ogt_11 : decode jdk_32_method_5_code 11 = .ok (.ldc 28, 2) := by decide +kernel
theorem d_ogt_13 : decode jdk_32_method_5_code 13 = .ok (.invokespecial 30, 3) := by decide +kernel
theorem d_ogt_16 : decode jdk_32_method_5_code 16 = .ok (.athrow, 1) := by decide +kernel
theorem d_ogt_17 : decode jdk_32_method_5_code 17 = .ok (.aload_n 0, 1) := by decide +kernel
theorem d_ogt_18 : decode jdk_32_method_5_code 18 = .ok (.getfield 13, 3) := by decide +kernel
theorem d_ogt_21 : decode jdk_32_method_5_code 21 = .ok (.areturn, 1) := by decide +kernel
theorem pd_ogt : parseMethodDescriptor "()Ljava/lang/Object;" = some ⟨[], (some (.object "java/lang/Object"))⟩ := by decide +kernel
theorem pf_ogt : plainFor (⟨"java/util/Optional", "get", "()Ljava/lang/Object;"⟩ : MethodName) = true := by first | exact plainFor_of_name (by first | (simp [plainName, overriddenIn]; done) | decide +kernel) | decide +kernel
set_option maxRecDepth 65536 in
set_option maxHeartbeats 40000000 in
theorem kw_ogt (l : Launch) (Z : State) (a0 : Array Value) (hw : ∀ d ∈ tables_1, d.before a0 Z = true) (cs : Int32) (hcs : ¬ cs = 0) (SC : Sta Z Z.heap "java/lang/String" "COMPACT_STRINGS" "Z" (.int cs)) (hEW : EW Z a0 EL) (o a : Addr) (h0 : Heap) (n0 : Nat) (FV : Fld Z h0 o "java/util/Optional" "value" "Ljava/lang/Object;" (.ref a)) : KW false l Z M_ogt n0 (fun v h => v = some (.ref a) ∧ h0 = h) ([], fun _ => False) h0 0 0 0 #[.val (.ref o)] [] := by
  refine k_aloadN d_ogt_0 rfl rfl rfl ?_
  refine k_getField d_ogt_1 rfl (hw _ (List.mem_of_getElem? (i := 53) rfl)) Via.refl FV ?_
  refine k_ifnonnullY (pc' := 17) d_ogt_4 (by decide) (by decide) ?_
  refine k_aloadN d_ogt_17 rfl rfl rfl ?_
  refine k_getField d_ogt_18 rfl (hw _ (List.mem_of_getElem? (i := 53) rfl)) Via.refl FV ?_
  exact k_retRef d_ogt_21 rfl rfl rfl (by decide) (by decide) ⟨rfl, rfl⟩
theorem mt_ogt (l : Launch) (Z : State) (a0 : Array Value) (hw : ∀ d ∈ tables_1, d.before a0 Z = true) (cs : Int32) (hcs : ¬ cs = 0) (SC : Sta Z Z.heap "java/lang/String" "COMPACT_STRINGS" "Z" (.int cs)) (hEW : EW Z a0 EL) (o a : Addr) (h0 : Heap) (n0 : Nat) (FV : Fld Z h0 o "java/util/Optional" "value" "Ljava/lang/Object;" (.ref a)) : Mt l Z M_ogt [] n0 #[(.ref o)] h0 (fun v h => v = some (.ref a) ∧ h0 = h) :=
  mt_of_kw (P := ([], fun _ => False)) pf_ogt (fun m => by first | (simp [entryFrame, mkF, argsToLocals, Value.category]; done) | rfl) (kw_ogt l Z a0 hw cs hcs SC hEW o a h0 n0 FV)
def pt (n p : Int32) : List Int32 := if n = 1 then [] else [nbI p]
theorem pt1 {n p : Int32} (h : n = 1) : pt n p = [] := by unfold pt; rw [if_pos h]
theorem pt2 {n p : Int32} (h : ¬ n = 1) : pt n p = [nbI p] := by unfold pt; rw [if_neg h]
theorem pt_len (n p : Int32) : (pt n p).length ≤ 1 := by
  unfold pt; split
  · simp
  · simp
abbrev M_prt : MD := ((⟨"com/example/liburiref/liburiref/UriReferenceAuthorityPinLaw", "part", "(IC)Ljava/lang/String;"⟩ : MethodName), method_2_code, 2, (some (.object "java/lang/String")), { frames := 3, cells := 2, slots := 5, locals := 44 })
theorem d_prt_0 : decode method_2_code 0 = .ok (.iload_n 0, 1) := by decide +kernel
theorem d_prt_1 : decode method_2_code 1 = .ok (.ifCond .ne 5, 3) := by decide +kernel
theorem d_prt_4 : decode method_2_code 4 = .ok (.aconst_null, 1) := by decide +kernel
theorem d_prt_5 : decode method_2_code 5 = .ok (.areturn, 1) := by decide +kernel
theorem d_prt_6 : decode method_2_code 6 = .ok (.iload_n 0, 1) := by decide +kernel
theorem d_prt_7 : decode method_2_code 7 = .ok (.iconst 1, 1) := by decide +kernel
theorem d_prt_8 : decode method_2_code 8 = .ok (.if_icmp .ne 6, 3) := by decide +kernel
theorem d_prt_11 : decode method_2_code 11 = .ok (.ldc 7, 2) := by decide +kernel
theorem d_prt_13 : decode method_2_code 13 = .ok (.areturn, 1) := by decide +kernel
theorem d_prt_14 : decode method_2_code 14 = .ok (.iload_n 1, 1) := by decide +kernel
theorem d_prt_15 : decode method_2_code 15 = .ok (.invokestatic 9, 3) := by decide +kernel
theorem d_prt_18 : decode method_2_code 18 = .ok (.areturn, 1) := by decide +kernel
theorem pd_prt : parseMethodDescriptor "(IC)Ljava/lang/String;" = some ⟨[.int, .char], (some (.object "java/lang/String"))⟩ := by decide +kernel
theorem pf_prt : plainFor (⟨"com/example/liburiref/liburiref/UriReferenceAuthorityPinLaw", "part", "(IC)Ljava/lang/String;"⟩ : MethodName) = true := by first | exact plainFor_of_name (by first | (simp [plainName, overriddenIn]; done) | decide +kernel) | decide +kernel
set_option maxRecDepth 65536 in
set_option maxHeartbeats 40000000 in
theorem kw_prt (l : Launch) (Z : State) (a0 : Array Value) (hw : ∀ d ∈ tables_1, d.before a0 Z = true) (cs : Int32) (hcs : ¬ cs = 0) (SC : Sta Z Z.heap "java/lang/String" "COMPACT_STRINGS" "Z" (.int cs)) (hEW : EW Z a0 EL) (n p : Int32) (h0 : Heap) (n0 : Nat) (OD : Old Z n0 h0) (hp : Ch p) : KW true l Z M_prt n0 (fun v h => Keep h0 h [] ∧ ((n = 0 ∧ v = some .null) ∨ (¬ n = 0 ∧ ∃ a t, v = some (.ref a) ∧ Sg Z h a t (pt n p)))) (EL, fun _ => False) h0 0 0 0 #[.val (.int n), .val (.int p)] [] := by
  have K0 : Keep h0 h0 [] := Keep.refl _ _
  refine k_iloadN d_prt_0 rfl rfl ?_
  refine k_ifc (pc1 := 6) (pc' := 4) d_prt_1 (by decide) (by decide) rfl (fun (cd1 : ¬ n = (0 : Int32)) => ?_) (fun (cd1 : n = (0 : Int32)) => ?_)
  · skip
    refine k_iloadN d_prt_6 rfl rfl ?_
    refine k_iconst (z := (1 : Int32)) d_prt_7 rfl (by decide) ?_
    refine k_icmp (pc1 := 14) (pc' := 11) d_prt_8 (by decide) (by decide) rfl (fun (cd2 : ¬ n = (1 : Int32)) => ?_) (fun (cd2 : n = (1 : Int32)) => ?_)
    · skip
      refine k_iloadN d_prt_14 rfl rfl ?_
      refine k_callStatic (argsL := [(.int p)]) (rest := []) (W0 := 0) d_prt_15 rfl (mt_vof l Z a0 hw cs hcs SC hEW p h0 n0 OD hp) (fun _ _ _ q => by obtain ⟨_, _, -, K, -⟩ := q; exact ⟨[], K, fun _ z => nomatch z⟩) (hw _ (List.mem_of_getElem? (i := 55) rfl)) (hw _ (List.mem_of_getElem? (i := 56) rfl)) (hw _ (List.mem_of_getElem? (i := 8) rfl)) (hw _ (List.mem_of_getElem? (i := 57) rfl)) (by decide) pd_vof rfl rfl rfl rfl (by decide) (by decide) (by decide) (by decide) ?_
      rintro _ hM - ⟨a, t, rfl, KM, SG⟩
      refine KW.sub (S' := fun _ => False) (fun x hx => hx.elim) ?_
      show KW true l Z M_prt n0 (fun v h => Keep h0 h [] ∧ ((n = 0 ∧ v = some .null) ∨ (¬ n = 0 ∧ ∃ a t, v = some (.ref a) ∧ Sg Z h a t (pt n p)))) (EL, fun _ => False) hM 2 5 18 #[.val (.int n), .val (.int p)] [(.ref a)]
      have f1 := (K0.trans KM all0)
      exact k_retRef d_prt_18 rfl rfl rfl (by decide) (by decide) ⟨f1, Or.inr ⟨by assumption, a, t, rfl, by rw [pt2 (by assumption)]; exact SG⟩⟩
    · skip
      refine k_ldcS (sl := 0) (vs := []) (z := (0 : Int32)) d_prt_11 rfl (hw _ (List.mem_of_getElem? (i := 15) rfl)) (own_wS Z a0 hw) (List.mem_of_getElem? (i := 0) rfl) ⟨by decide, by decide⟩ (by decide) (by decide) (by decide) (by decide) (by decide) (by decide) ?_
      intro a2 b3 ck4 h5 E6 X7 F8 F9 A10 N11
      show KW true l Z M_prt n0 (fun v h => Keep h0 h [] ∧ ((n = 0 ∧ v = some .null) ∨ (¬ n = 0 ∧ ∃ a t, v = some (.ref a) ∧ Sg Z h a t (pt n p)))) (EL, fun _ => False) h5 2 4 13 #[.val (.int n), .val (.int p)] [(.ref a2)]
      have f12 := (K0.ext E6)
      exact k_retRef d_prt_13 rfl rfl rfl (by decide) (by decide) ⟨f12, Or.inr ⟨by assumption, a2, b3, rfl, by rw [pt1 (by assumption)]; exact ⟨ck4, X7, F8, F9, A10, by decide⟩⟩⟩
  · skip
    refine k_aconstNull d_prt_4 rfl ?_
    exact k_retRef d_prt_5 rfl rfl rfl (by decide) (by decide) ⟨K0, Or.inl ⟨by assumption, rfl⟩⟩
theorem mt_prt (l : Launch) (Z : State) (a0 : Array Value) (hw : ∀ d ∈ tables_1, d.before a0 Z = true) (cs : Int32) (hcs : ¬ cs = 0) (SC : Sta Z Z.heap "java/lang/String" "COMPACT_STRINGS" "Z" (.int cs)) (hEW : EW Z a0 EL) (n p : Int32) (h0 : Heap) (n0 : Nat) (OD : Old Z n0 h0) (hp : Ch p) : MtW l Z M_prt [] n0 #[(.int n), (.int p)] (EL, fun _ => False) h0 (fun v h => Keep h0 h [] ∧ ((n = 0 ∧ v = some .null) ∨ (¬ n = 0 ∧ ∃ a t, v = some (.ref a) ∧ Sg Z h a t (pt n p)))) :=
  mtw_of_kw (a0 := a0) (P := (EL, fun _ => False)) pf_prt hEW (fun m => by first | (simp [entryFrame, mkF, argsToLocals, Value.category]; done) | rfl) (kw_prt l Z a0 hw cs hcs SC hEW n p h0 n0 OD hp)
abbrev M_aa : MD := ((⟨"com/example/liburiref/liburiref/UriReference", "appendAuthority", "(Ljava/lang/StringBuilder;Ljava/lang/String;Ljava/lang/String;Ljava/lang/String;)Ljava/lang/StringBuilder;"⟩ : MethodName), prog_7_method_51_code, 4, (some (.object "java/lang/StringBuilder")), { frames := 5, cells := 0, slots := 0, locals := 120 })
theorem d_aa_0 : decode prog_7_method_51_code 0 = .ok (.aload_n 1, 1) := by decide +kernel
theorem d_aa_1 : decode prog_7_method_51_code 1 = .ok (.ifnull 14, 3) := by decide +kernel
theorem d_aa_4 : decode prog_7_method_51_code 4 = .ok (.aload_n 0, 1) := by decide +kernel
theorem d_aa_5 : decode prog_7_method_51_code 5 = .ok (.aload_n 1, 1) := by decide +kernel
theorem d_aa_6 : decode prog_7_method_51_code 6 = .ok (.invokevirtual 441, 3) := by decide +kernel
theorem d_aa_9 : decode prog_7_method_51_code 9 = .ok (.bipush 64, 2) := by decide +kernel
theorem d_aa_11 : decode prog_7_method_51_code 11 = .ok (.invokevirtual 445, 3) := by decide +kernel
theorem d_aa_14 : decode prog_7_method_51_code 14 = .ok (.pop, 1) := by decide +kernel
theorem d_aa_15 : decode prog_7_method_51_code 15 = .ok (.aload_n 0, 1) := by decide +kernel
theorem d_aa_16 : decode prog_7_method_51_code 16 = .ok (.aload_n 2, 1) := by decide +kernel
theorem d_aa_17 : decode prog_7_method_51_code 17 = .ok (.invokevirtual 441, 3) := by decide +kernel
theorem d_aa_20 : decode prog_7_method_51_code 20 = .ok (.pop, 1) := by decide +kernel
theorem d_aa_21 : decode prog_7_method_51_code 21 = .ok (.aload_n 3, 1) := by decide +kernel
theorem d_aa_22 : decode prog_7_method_51_code 22 = .ok (.ifnull 14, 3) := by decide +kernel
theorem d_aa_25 : decode prog_7_method_51_code 25 = .ok (.aload_n 0, 1) := by decide +kernel
theorem d_aa_26 : decode prog_7_method_51_code 26 = .ok (.bipush 58, 2) := by decide +kernel
theorem d_aa_28 : decode prog_7_method_51_code 28 = .ok (.invokevirtual 445, 3) := by decide +kernel
theorem d_aa_31 : decode prog_7_method_51_code 31 = .ok (.aload_n 3, 1) := by decide +kernel
theorem d_aa_32 : decode prog_7_method_51_code 32 = .ok (.invokevirtual 441, 3) := by decide +kernel
theorem d_aa_35 : decode prog_7_method_51_code 35 = .ok (.pop, 1) := by decide +kernel
theorem d_aa_36 : decode prog_7_method_51_code 36 = .ok (.aload_n 0, 1) := by decide +kernel
theorem d_aa_37 : decode prog_7_method_51_code 37 = .ok (.areturn, 1) := by decide +kernel
theorem pd_aa : parseMethodDescriptor "(Ljava/lang/StringBuilder;Ljava/lang/String;Ljava/lang/String;Ljava/lang/String;)Ljava/lang/StringBuilder;" = some ⟨[(.object "java/lang/StringBuilder"), (.object "java/lang/String"), (.object "java/lang/String"), (.object "java/lang/String")], (some (.object "java/lang/StringBuilder"))⟩ := by decide +kernel
theorem pf_aa : plainFor (⟨"com/example/liburiref/liburiref/UriReference", "appendAuthority", "(Ljava/lang/StringBuilder;Ljava/lang/String;Ljava/lang/String;Ljava/lang/String;)Ljava/lang/StringBuilder;"⟩ : MethodName) = true := by first | exact plainFor_of_name (by first | (simp [plainName, overriddenIn]; done) | decide +kernel) | decide +kernel
abbrev M_au : MD := ((⟨"com/example/liburiref/liburiref/UriReference", "authority", "()Ljava/util/Optional;"⟩ : MethodName), prog_7_method_4_code, 2, (some (.object "java/util/Optional")), { frames := 6, cells := 5, slots := 41, locals := 160 })
theorem d_au_0 : decode prog_7_method_4_code 0 = .ok (.aload_n 0, 1) := by decide +kernel
theorem d_au_1 : decode prog_7_method_4_code 1 = .ok (.getfield 19, 3) := by decide +kernel
theorem d_au_4 : decode prog_7_method_4_code 4 = .ok (.ifnonnull 10, 3) := by decide +kernel
theorem d_au_7 : decode prog_7_method_4_code 7 = .ok (.invokestatic 62, 3) := by decide +kernel
theorem d_au_10 : decode prog_7_method_4_code 10 = .ok (.astore_n 1, 1) := by decide +kernel
theorem d_au_11 : decode prog_7_method_4_code 11 = .ok (.goto 32, 3) := by decide +kernel
theorem d_au_14 : decode prog_7_method_4_code 14 = .ok (.new 66, 3) := by decide +kernel
theorem d_au_17 : decode prog_7_method_4_code 17 = .ok (.dup, 1) := by decide +kernel
theorem d_au_18 : decode prog_7_method_4_code 18 = .ok (.invokespecial 68, 3) := by decide +kernel
theorem d_au_21 : decode prog_7_method_4_code 21 = .ok (.aload_n 0, 1) := by decide +kernel
theorem d_au_22 : decode prog_7_method_4_code 22 = .ok (.getfield 16, 3) := by decide +kernel
theorem d_au_25 : decode prog_7_method_4_code 25 = .ok (.aload_n 0, 1) := by decide +kernel
theorem d_au_26 : decode prog_7_method_4_code 26 = .ok (.getfield 19, 3) := by decide +kernel
theorem d_au_29 : decode prog_7_method_4_code 29 = .ok (.aload_n 0, 1) := by decide +kernel
theorem d_au_30 : decode prog_7_method_4_code 30 = .ok (.getfield 22, 3) := by decide +kernel
theorem d_au_33 : decode prog_7_method_4_code 33 = .ok (.invokestatic 69, 3) := by decide +kernel
theorem d_au_36 : decode prog_7_method_4_code 36 = .ok (.invokevirtual 73, 3) := by decide +kernel
theorem d_au_39 : decode prog_7_method_4_code 39 = .ok (.invokestatic 74, 3) := by decide +kernel
theorem d_au_42 : decode prog_7_method_4_code 42 = .ok (.astore_n 1, 1) := by decide +kernel
theorem d_au_43 : decode prog_7_method_4_code 43 = .ok (.aload_n 1, 1) := by decide +kernel
theorem d_au_44 : decode prog_7_method_4_code 44 = .ok (.areturn, 1) := by decide +kernel
theorem pd_au : parseMethodDescriptor "()Ljava/util/Optional;" = some ⟨[], (some (.object "java/util/Optional"))⟩ := by decide +kernel
theorem pf_au : plainFor (⟨"com/example/liburiref/liburiref/UriReference", "authority", "()Ljava/util/Optional;"⟩ : MethodName) = true := by first | exact plainFor_of_name (by first | (simp [plainName, overriddenIn]; done) | decide +kernel) | decide +kernel
set_option maxRecDepth 65536 in
set_option maxHeartbeats 40000000 in
theorem kw_aa00 (l : Launch) (Z : State) (a0 : Array Value) (hw : ∀ d ∈ tables_1, d.before a0 Z = true) (cs : Int32) (hcs : ¬ cs = 0) (SC : Sta Z Z.heap "java/lang/String" "COMPACT_STRINGS" "Z" (.int cs)) (hEW : EW Z a0 EL) (b d sh th : Addr) (Hs : List Int32) (h0 : Heap) (n0 : Nat) (OD : Old Z n0 h0) (SB : Sb Z h0 b d 16 []) (hbd : b ≠ d) (gb : n0 ≤ b) (gd : n0 ≤ d) (SH : Sg Z h0 sh th Hs) (lH : Hs.length ≤ 1) (e1H : sh ≠ b) (e2H : sh ≠ d) (e3H : th ≠ b) (e4H : th ≠ d) : KW false l Z M_aa n0 (fun v h => v = some (.ref b) ∧ Keep h0 h [b, d] ∧ Sb Z h b d 16 (([] : List Int32) ++ Hs)) ([], fun _ => False) h0 0 0 0 #[.val (.ref b), .val .null, .val (.ref sh), .val .null] [] := by
  have K0 : Keep h0 h0 [b, d] := Keep.refl _ _
  refine k_aloadN d_aa_0 rfl rfl rfl ?_
  refine k_ifnullY (pc' := 15) d_aa_1 (by decide) (by decide) ?_
  refine k_aloadN d_aa_15 rfl rfl rfl ?_
  refine k_aloadN d_aa_16 rfl rfl rfl ?_
  refine k_callVirtual (argsL := [(.ref sh)]) (rest := []) (W0 := 0) d_aa_17 rfl (mt_sas l Z a0 hw cs hcs SC hEW b d sh th 16 ([] : List Int32) Hs h0 n0 OD SB SH hbd gb gd (by simp only [List.length_append, List.length_nil, List.length_cons]; omega)) Kp.strict SB.exa (hw _ (List.mem_of_getElem? (i := 95) rfl)) (hw _ (List.mem_of_getElem? (i := 96) rfl)) (hw _ (List.mem_of_getElem? (i := 98) rfl)) (hw _ (List.mem_of_getElem? (i := 98) rfl)) rfl (hw _ (List.mem_of_getElem? (i := 97) rfl)) (hw _ (List.mem_of_getElem? (i := 99) rfl)) (hw _ (List.mem_of_getElem? (i := 76) rfl)) (by decide) pd_sas rfl rfl rfl rfl (by decide) (by decide) (by decide) (by decide) ?_
  rintro _ h1 - ⟨rfl, K2, SB3⟩
  refine KW.any (P' := ([], fun _ => False)) ?_
  show KW false l Z M_aa n0 (fun v h => v = some (.ref b) ∧ Keep h0 h [b, d] ∧ Sb Z h b d 16 (([] : List Int32) ++ Hs)) ([], fun _ => False) h1 0 0 20 #[.val (.ref b), .val .null, .val (.ref sh), .val .null] [(.ref b)]
  refine k_pop d_aa_20 rfl rfl ?_
  refine k_aloadN d_aa_21 rfl rfl rfl ?_
  refine k_ifnullY (pc' := 36) d_aa_22 (by decide) (by decide) ?_
  refine k_aloadN d_aa_36 rfl rfl rfl ?_
  have f4 := (K0.trans K2 (allS (Or.inl (by simp)) (allS (Or.inl (by simp)) all0)))
  exact k_retRef d_aa_37 rfl rfl rfl (by decide) (by decide) ⟨rfl, f4, SB3⟩
theorem mt_aa00 (l : Launch) (Z : State) (a0 : Array Value) (hw : ∀ d ∈ tables_1, d.before a0 Z = true) (cs : Int32) (hcs : ¬ cs = 0) (SC : Sta Z Z.heap "java/lang/String" "COMPACT_STRINGS" "Z" (.int cs)) (hEW : EW Z a0 EL) (b d sh th : Addr) (Hs : List Int32) (h0 : Heap) (n0 : Nat) (OD : Old Z n0 h0) (SB : Sb Z h0 b d 16 []) (hbd : b ≠ d) (gb : n0 ≤ b) (gd : n0 ≤ d) (SH : Sg Z h0 sh th Hs) (lH : Hs.length ≤ 1) (e1H : sh ≠ b) (e2H : sh ≠ d) (e3H : th ≠ b) (e4H : th ≠ d) : Mt l Z M_aa [] n0 #[(.ref b), .null, (.ref sh), .null] h0 (fun v h => v = some (.ref b) ∧ Keep h0 h [b, d] ∧ Sb Z h b d 16 (([] : List Int32) ++ Hs)) :=
  mt_of_kw (P := ([], fun _ => False)) pf_aa (fun m => by first | (simp [entryFrame, mkF, argsToLocals, Value.category]; done) | rfl) (kw_aa00 l Z a0 hw cs hcs SC hEW b d sh th Hs h0 n0 OD SB hbd gb gd SH lH e1H e2H e3H e4H)
set_option maxRecDepth 65536 in
set_option maxHeartbeats 40000000 in
theorem kw_au00 (l : Launch) (Z : State) (a0 : Array Value) (hw : ∀ d ∈ tables_1, d.before a0 Z = true) (cs : Int32) (hcs : ¬ cs = 0) (SC : Sta Z Z.heap "java/lang/String" "COMPACT_STRINGS" "Z" (.int cs)) (hEW : EW Z a0 EL) (r sh th : Addr) (Hs : List Int32) (h0 : Heap) (n0 : Nat) (OD : Old Z n0 h0) (FU : Fld Z h0 r "com/example/liburiref/liburiref/UriReference" "userInfo" "Ljava/lang/String;" .null) (FH : Fld Z h0 r "com/example/liburiref/liburiref/UriReference" "host" "Ljava/lang/String;" (.ref sh)) (FP : Fld Z h0 r "com/example/liburiref/liburiref/UriReference" "port" "Ljava/lang/String;" .null) (SH : Sg Z h0 sh th Hs) (lH : Hs.length ≤ 1) : KW false l Z M_au n0 (fun v h => ∃ o a e, v = some (.ref o) ∧ Keep h0 h [] ∧ Exa Z h o "java/util/Optional" ∧ Fld Z h o "java/util/Optional" "value" "Ljava/lang/Object;" (.ref a) ∧ Sg Z h a e (([] : List Int32) ++ Hs)) ([], fun _ => False) h0 0 0 0 #[.val (.ref r), .unset] [] := by
  have Z0 := OD.1 ▸ OD.2.1
  have K0 : Keep h0 h0 [] := Keep.refl _ _
  refine k_aloadN d_au_0 rfl rfl rfl ?_
  refine k_getField d_au_1 rfl (hw _ (List.mem_of_getElem? (i := 28) rfl)) Via.refl FH ?_
  refine k_ifnonnullY (pc' := 14) d_au_4 (by decide) (by decide) ?_
  refine k_new d_au_14 rfl (hw _ (List.mem_of_getElem? (i := 74) rfl)) (hw _ (List.mem_of_getElem? (i := 75) rfl)) (hw _ (List.mem_of_getElem? (i := 76) rfl)) (by decide) (by decide) ?_
  intro h2 a1 g6 E3 A4 D5
  have ne7 : r ≠ a1 := Nat.ne_of_lt (Nat.lt_of_lt_of_eq FU.lt g6.symm)
  have ne8 : sh ≠ a1 := Nat.ne_of_lt (Nat.lt_of_lt_of_eq SH.lt g6.symm)
  have ne9 : th ≠ a1 := Nat.ne_of_lt (Nat.lt_of_lt_of_eq SH.ltv g6.symm)
  have z10 : n0 ≤ h0.size := Z0
  have ge11 : n0 ≤ a1 := Nat.le_trans z10 (Nat.le_of_eq g6.symm)
  have gl12 : h0.size ≤ a1 := Nat.le_of_eq g6.symm
  have gh13 := Nat.le_trans K0.1 gl12
  have F14 : Fld Z h2 a1 "java/lang/AbstractStringBuilder" "value" "[B" .null := D5 (Or.inl (hw _ (List.mem_of_getElem? (i := 89) rfl))) (ty := (.array .byte)) (by decide)
  have F15 : Fld Z h2 a1 "java/lang/AbstractStringBuilder" "coder" "B" (.int (0 : Int32)) := D5 (Or.inl (hw _ (List.mem_of_getElem? (i := 91) rfl))) (ty := .byte) (by decide)
  have F16 : Fld Z h2 a1 "java/lang/AbstractStringBuilder" "count" "I" (.int (0 : Int32)) := D5 (Or.inl (hw _ (List.mem_of_getElem? (i := 116) rfl))) (ty := .int) (by decide)
  refine KW.any (P' := ([], fun _ => False)) ?_
  show KW false l Z M_au n0 (fun v h => ∃ o a e, v = some (.ref o) ∧ Keep h0 h [] ∧ Exa Z h o "java/util/Optional" ∧ Fld Z h o "java/util/Optional" "value" "Ljava/lang/Object;" (.ref a) ∧ Sg Z h a e (([] : List Int32) ++ Hs)) ([], fun _ => False) h2 1 4 17 #[.val (.ref r), .unset] [(.ref a1)]
  refine k_dup d_au_17 rfl rfl ?_
  have f17 := (FU.ext E3)
  have f18 := (SH.ext E3)
  have f19 := (K0.ext E3)
  have f20 := (OD.ext E3)
  refine k_callInit (a := a1) (argsL := []) (rest := [(.ref a1)]) (W0 := 1) d_au_18 rfl (mt_sbi l Z a0 hw cs hcs SC hEW a1 h2 n0 f20 ge11 A4 F14 F15 F16) Kp.strict rfl rfl (hw _ (List.mem_of_getElem? (i := 77) rfl)) (hw _ (List.mem_of_getElem? (i := 78) rfl)) (hw _ (List.mem_of_getElem? (i := 76) rfl)) (hw _ (List.mem_of_getElem? (i := 79) rfl)) (by decide) pd_sbi rfl rfl rfl rfl (by decide) (by decide) (by decide) (by decide) ?_
  rintro _ hM - ⟨rfl, d, gd1, gd2, KM, SBM⟩
  have ne21 : r ≠ d := Nat.ne_of_lt (Nat.lt_of_lt_of_le f17.lt gd1)
  have ne22 : sh ≠ d := Nat.ne_of_lt (Nat.lt_of_lt_of_le f18.lt gd1)
  have ne23 : th ≠ d := Nat.ne_of_lt (Nat.lt_of_lt_of_le f18.ltv gd1)
  have ne24 : a1 ≠ d := Nat.ne_of_lt (Nat.lt_of_lt_of_le A4.lt gd1)
  have gdh := Nat.le_trans f19.1 gd1
  refine KW.any (P' := ([], fun _ => False)) ?_
  show KW false l Z M_au n0 (fun v h => ∃ o a e, v = some (.ref o) ∧ Keep h0 h [] ∧ Exa Z h o "java/util/Optional" ∧ Fld Z h o "java/util/Optional" "value" "Ljava/lang/Object;" (.ref a) ∧ Sg Z h a e (([] : List Int32) ++ Hs)) ([], fun _ => False) hM 2 20 21 #[.val (.ref r), .unset] [(.ref a1)]
  refine k_aloadN d_au_21 rfl rfl rfl ?_
  have f25 := (f17.keep KM (ninS ne7 nin0))
  refine k_getField d_au_22 rfl (hw _ (List.mem_of_getElem? (i := 26) rfl)) Via.refl f25 ?_
  refine k_aloadN d_au_25 rfl rfl rfl ?_
  have f26 := ((FH.ext E3).keep KM (ninS ne7 nin0))
  refine k_getField d_au_26 rfl (hw _ (List.mem_of_getElem? (i := 28) rfl)) Via.refl f26 ?_
  refine k_aloadN d_au_29 rfl rfl rfl ?_
  have f27 := ((FP.ext E3).keep KM (ninS ne7 nin0))
  refine k_getField d_au_30 rfl (hw _ (List.mem_of_getElem? (i := 30) rfl)) Via.refl f27 ?_
  have f28 := (f20.keep KM (allS ge11 all0))
  have f29 := (f19.trans KM (allS (Or.inr gh13) all0))
  have f30 := (f18.keep KM (ninS ne8 nin0) (ninS ne9 nin0))
  refine k_callStatic (argsL := [(.ref a1), .null, (.ref sh), .null]) (rest := []) (W0 := 0) d_au_33 rfl (mt_aa00 l Z a0 hw cs hcs SC hEW a1 d sh th Hs hM n0 f28 SBM ne24 ge11 gd2 f30 lH ne8 ne22 ne9 ne23) Kp.strict (hw _ (List.mem_of_getElem? (i := 92) rfl)) (hw _ (List.mem_of_getElem? (i := 93) rfl)) (hw _ (List.mem_of_getElem? (i := 6) rfl)) (hw _ (List.mem_of_getElem? (i := 94) rfl)) (by decide) pd_aa rfl rfl rfl rfl (by decide) (by decide) (by decide) (by decide) ?_
  rintro _ hQ - ⟨rfl, KQ, SBQ⟩
  refine KW.any (P' := ([], fun _ => False)) ?_
  show KW false l Z M_au n0 (fun v h => ∃ o a e, v = some (.ref o) ∧ Keep h0 h [] ∧ Exa Z h o "java/util/Optional" ∧ Fld Z h o "java/util/Optional" "value" "Ljava/lang/Object;" (.ref a) ∧ Sg Z h a e (([] : List Int32) ++ Hs)) ([], fun _ => False) hQ 2 20 36 #[.val (.ref r), .unset] [(.ref a1)]
  have f31 := (f28.keep KQ (allS ge11 (allS gd2 all0)))
  have f32 := (f29.trans KQ (allS (Or.inr gh13) (allS (Or.inr gdh) all0)))
  refine k_callVirtual (argsL := []) (rest := []) (W0 := 0) d_au_36 rfl (mt_tos l Z a0 hw cs hcs SC hEW a1 d 16 (([] : List Int32) ++ Hs) hQ n0 f31 SBQ (by simp only [List.length_append, List.length_nil, List.length_cons]; omega) (by simp only [List.length_append, List.length_nil, List.length_cons]; omega)) Kp.strict SBQ.exa (hw _ (List.mem_of_getElem? (i := 142) rfl)) (hw _ (List.mem_of_getElem? (i := 143) rfl)) (hw _ (List.mem_of_getElem? (i := 145) rfl)) (hw _ (List.mem_of_getElem? (i := 98) rfl)) rfl (hw _ (List.mem_of_getElem? (i := 144) rfl)) (hw _ (List.mem_of_getElem? (i := 146) rfl)) (hw _ (List.mem_of_getElem? (i := 76) rfl)) (by decide) pd_tos rfl rfl rfl rfl (by decide) (by decide) (by decide) (by decide) ?_
  rintro _ hR - ⟨a, e, rfl, KR, SGR⟩
  refine KW.any (P' := ([], fun _ => False)) ?_
  show KW false l Z M_au n0 (fun v h => ∃ o a e, v = some (.ref o) ∧ Keep h0 h [] ∧ Exa Z h o "java/util/Optional" ∧ Fld Z h o "java/util/Optional" "value" "Ljava/lang/Object;" (.ref a) ∧ Sg Z h a e (([] : List Int32) ++ Hs)) ([], fun _ => False) hR 4 40 39 #[.val (.ref r), .unset] [(.ref a)]
  have f33 := (f31.keep KR all0)
  have f34 := (f32.trans KR all0)
  refine k_callStatic (argsL := [(.ref a)]) (rest := []) (W0 := 0) d_au_39 rfl (mt_oof l Z a0 hw cs hcs SC hEW a hR n0 f33) Kp.strict (hw _ (List.mem_of_getElem? (i := 187) rfl)) (hw _ (List.mem_of_getElem? (i := 188) rfl)) (hw _ (List.mem_of_getElem? (i := 45) rfl)) (hw _ (List.mem_of_getElem? (i := 189) rfl)) (by decide) pd_oof rfl rfl rfl rfl (by decide) (by decide) (by decide) (by decide) ?_
  rintro _ hS - ⟨o, rfl, KS, EO, FO⟩
  refine KW.any (P' := ([], fun _ => False)) ?_
  show KW false l Z M_au n0 (fun v h => ∃ o a e, v = some (.ref o) ∧ Keep h0 h [] ∧ Exa Z h o "java/util/Optional" ∧ Fld Z h o "java/util/Optional" "value" "Ljava/lang/Object;" (.ref a) ∧ Sg Z h a e (([] : List Int32) ++ Hs)) ([], fun _ => False) hS 5 41 42 #[.val (.ref r), .unset] [(.ref o)]
  refine k_astoreN (Ls' := #[.val (.ref r), .val (.ref o)]) d_au_42 rfl rfl rfl ?_
  refine k_aloadN d_au_43 rfl rfl rfl ?_
  have f35 := (f34.trans KS all0)
  have f36 := (SGR.keep KS nin0 nin0)
  exact k_retRef d_au_44 rfl rfl rfl (by decide) (by decide) ⟨o, a, e, rfl, f35, EO, FO, f36⟩
theorem mt_au00 (l : Launch) (Z : State) (a0 : Array Value) (hw : ∀ d ∈ tables_1, d.before a0 Z = true) (cs : Int32) (hcs : ¬ cs = 0) (SC : Sta Z Z.heap "java/lang/String" "COMPACT_STRINGS" "Z" (.int cs)) (hEW : EW Z a0 EL) (r sh th : Addr) (Hs : List Int32) (h0 : Heap) (n0 : Nat) (OD : Old Z n0 h0) (FU : Fld Z h0 r "com/example/liburiref/liburiref/UriReference" "userInfo" "Ljava/lang/String;" .null) (FH : Fld Z h0 r "com/example/liburiref/liburiref/UriReference" "host" "Ljava/lang/String;" (.ref sh)) (FP : Fld Z h0 r "com/example/liburiref/liburiref/UriReference" "port" "Ljava/lang/String;" .null) (SH : Sg Z h0 sh th Hs) (lH : Hs.length ≤ 1) : Mt l Z M_au [] n0 #[(.ref r)] h0 (fun v h => ∃ o a e, v = some (.ref o) ∧ Keep h0 h [] ∧ Exa Z h o "java/util/Optional" ∧ Fld Z h o "java/util/Optional" "value" "Ljava/lang/Object;" (.ref a) ∧ Sg Z h a e (([] : List Int32) ++ Hs)) :=
  mt_of_kw (P := ([], fun _ => False)) pf_au (fun m => by first | (simp [entryFrame, mkF, argsToLocals, Value.category]; done) | rfl) (kw_au00 l Z a0 hw cs hcs SC hEW r sh th Hs h0 n0 OD FU FH FP SH lH)
set_option maxRecDepth 65536 in
set_option maxHeartbeats 40000000 in
theorem kw_aa01 (l : Launch) (Z : State) (a0 : Array Value) (hw : ∀ d ∈ tables_1, d.before a0 Z = true) (cs : Int32) (hcs : ¬ cs = 0) (SC : Sta Z Z.heap "java/lang/String" "COMPACT_STRINGS" "Z" (.int cs)) (hEW : EW Z a0 EL) (b d sh th sp tp : Addr) (Hs Ps : List Int32) (h0 : Heap) (n0 : Nat) (OD : Old Z n0 h0) (SB : Sb Z h0 b d 16 []) (hbd : b ≠ d) (gb : n0 ≤ b) (gd : n0 ≤ d) (SH : Sg Z h0 sh th Hs) (lH : Hs.length ≤ 1) (e1H : sh ≠ b) (e2H : sh ≠ d) (e3H : th ≠ b) (e4H : th ≠ d) (SP : Sg Z h0 sp tp Ps) (lP : Ps.length ≤ 1) (e1P : sp ≠ b) (e2P : sp ≠ d) (e3P : tp ≠ b) (e4P : tp ≠ d) : KW false l Z M_aa n0 (fun v h => v = some (.ref b) ∧ Keep h0 h [b, d] ∧ Sb Z h b d 16 (((([] : List Int32) ++ Hs) ++ [nbI (58 : Int32)]) ++ Ps)) ([], fun _ => False) h0 0 0 0 #[.val (.ref b), .val .null, .val (.ref sh), .val (.ref sp)] [] := by
  have K0 : Keep h0 h0 [b, d] := Keep.refl _ _
  refine k_aloadN d_aa_0 rfl rfl rfl ?_
  refine k_ifnullY (pc' := 15) d_aa_1 (by decide) (by decide) ?_
  refine k_aloadN d_aa_15 rfl rfl rfl ?_
  refine k_aloadN d_aa_16 rfl rfl rfl ?_
  refine k_callVirtual (argsL := [(.ref sh)]) (rest := []) (W0 := 0) d_aa_17 rfl (mt_sas l Z a0 hw cs hcs SC hEW b d sh th 16 ([] : List Int32) Hs h0 n0 OD SB SH hbd gb gd (by simp only [List.length_append, List.length_nil, List.length_cons]; omega)) Kp.strict SB.exa (hw _ (List.mem_of_getElem? (i := 95) rfl)) (hw _ (List.mem_of_getElem? (i := 96) rfl)) (hw _ (List.mem_of_getElem? (i := 98) rfl)) (hw _ (List.mem_of_getElem? (i := 98) rfl)) rfl (hw _ (List.mem_of_getElem? (i := 97) rfl)) (hw _ (List.mem_of_getElem? (i := 99) rfl)) (hw _ (List.mem_of_getElem? (i := 76) rfl)) (by decide) pd_sas rfl rfl rfl rfl (by decide) (by decide) (by decide) (by decide) ?_
  rintro _ h5 - ⟨rfl, K6, SB7⟩
  refine KW.any (P' := ([], fun _ => False)) ?_
  show KW false l Z M_aa n0 (fun v h => v = some (.ref b) ∧ Keep h0 h [b, d] ∧ Sb Z h b d 16 (((([] : List Int32) ++ Hs) ++ [nbI (58 : Int32)]) ++ Ps)) ([], fun _ => False) h5 0 0 20 #[.val (.ref b), .val .null, .val (.ref sh), .val (.ref sp)] [(.ref b)]
  refine k_pop d_aa_20 rfl rfl ?_
  refine k_aloadN d_aa_21 rfl rfl rfl ?_
  refine k_ifnullN d_aa_22 rfl ?_
  refine k_aloadN d_aa_25 rfl rfl rfl ?_
  refine k_bipush (z := (58 : Int32)) d_aa_26 rfl (by decide) ?_
  have f8 := (OD.keep K6 (allS gb (allS gd all0)))
  have f9 := (K0.trans K6 (allS (Or.inl (by simp)) (allS (Or.inl (by simp)) all0)))
  refine k_callVirtual (argsL := [(.int (58 : Int32))]) (rest := []) (W0 := 0) d_aa_28 rfl (mt_sac l Z a0 hw cs hcs SC hEW b d 16 (([] : List Int32) ++ Hs) h5 n0 f8 SB7 (58 : Int32) (by decide) hbd gb gd (by simp only [List.length_append, List.length_nil, List.length_cons]; omega)) Kp.strict SB7.exa (hw _ (List.mem_of_getElem? (i := 233) rfl)) (hw _ (List.mem_of_getElem? (i := 234) rfl)) (hw _ (List.mem_of_getElem? (i := 236) rfl)) (hw _ (List.mem_of_getElem? (i := 98) rfl)) rfl (hw _ (List.mem_of_getElem? (i := 235) rfl)) (hw _ (List.mem_of_getElem? (i := 237) rfl)) (hw _ (List.mem_of_getElem? (i := 76) rfl)) (by decide) pd_sac rfl rfl rfl rfl (by decide) (by decide) (by decide) (by decide) ?_
  rintro _ h10 - ⟨rfl, K11, SB12⟩
  refine KW.any (P' := ([], fun _ => False)) ?_
  show KW false l Z M_aa n0 (fun v h => v = some (.ref b) ∧ Keep h0 h [b, d] ∧ Sb Z h b d 16 (((([] : List Int32) ++ Hs) ++ [nbI (58 : Int32)]) ++ Ps)) ([], fun _ => False) h10 0 0 31 #[.val (.ref b), .val .null, .val (.ref sh), .val (.ref sp)] [(.ref b)]
  refine k_aloadN d_aa_31 rfl rfl rfl ?_
  have f13 := ((SP.keep K6 (ninS e1P (ninS e2P nin0)) (ninS e3P (ninS e4P nin0))).keep K11 (ninS e1P (ninS e2P nin0)) (ninS e3P (ninS e4P nin0)))
  have f14 := (f8.keep K11 (allS gb (allS gd all0)))
  have f15 := (f9.trans K11 (allS (Or.inl (by simp)) (allS (Or.inl (by simp)) all0)))
  refine k_callVirtual (argsL := [(.ref sp)]) (rest := []) (W0 := 0) d_aa_32 rfl (mt_sas l Z a0 hw cs hcs SC hEW b d sp tp 16 ((([] : List Int32) ++ Hs) ++ [nbI (58 : Int32)]) Ps h10 n0 f14 SB12 f13 hbd gb gd (by simp only [List.length_append, List.length_nil, List.length_cons]; omega)) Kp.strict SB12.exa (hw _ (List.mem_of_getElem? (i := 95) rfl)) (hw _ (List.mem_of_getElem? (i := 96) rfl)) (hw _ (List.mem_of_getElem? (i := 98) rfl)) (hw _ (List.mem_of_getElem? (i := 98) rfl)) rfl (hw _ (List.mem_of_getElem? (i := 97) rfl)) (hw _ (List.mem_of_getElem? (i := 99) rfl)) (hw _ (List.mem_of_getElem? (i := 76) rfl)) (by decide) pd_sas rfl rfl rfl rfl (by decide) (by decide) (by decide) (by decide) ?_
  rintro _ h16 - ⟨rfl, K17, SB18⟩
  refine KW.any (P' := ([], fun _ => False)) ?_
  show KW false l Z M_aa n0 (fun v h => v = some (.ref b) ∧ Keep h0 h [b, d] ∧ Sb Z h b d 16 (((([] : List Int32) ++ Hs) ++ [nbI (58 : Int32)]) ++ Ps)) ([], fun _ => False) h16 0 0 35 #[.val (.ref b), .val .null, .val (.ref sh), .val (.ref sp)] [(.ref b)]
  refine k_pop d_aa_35 rfl rfl ?_
  refine k_aloadN d_aa_36 rfl rfl rfl ?_
  have f19 := (f15.trans K17 (allS (Or.inl (by simp)) (allS (Or.inl (by simp)) all0)))
  exact k_retRef d_aa_37 rfl rfl rfl (by decide) (by decide) ⟨rfl, f19, SB18⟩
theorem mt_aa01 (l : Launch) (Z : State) (a0 : Array Value) (hw : ∀ d ∈ tables_1, d.before a0 Z = true) (cs : Int32) (hcs : ¬ cs = 0) (SC : Sta Z Z.heap "java/lang/String" "COMPACT_STRINGS" "Z" (.int cs)) (hEW : EW Z a0 EL) (b d sh th sp tp : Addr) (Hs Ps : List Int32) (h0 : Heap) (n0 : Nat) (OD : Old Z n0 h0) (SB : Sb Z h0 b d 16 []) (hbd : b ≠ d) (gb : n0 ≤ b) (gd : n0 ≤ d) (SH : Sg Z h0 sh th Hs) (lH : Hs.length ≤ 1) (e1H : sh ≠ b) (e2H : sh ≠ d) (e3H : th ≠ b) (e4H : th ≠ d) (SP : Sg Z h0 sp tp Ps) (lP : Ps.length ≤ 1) (e1P : sp ≠ b) (e2P : sp ≠ d) (e3P : tp ≠ b) (e4P : tp ≠ d) : Mt l Z M_aa [] n0 #[(.ref b), .null, (.ref sh), (.ref sp)] h0 (fun v h => v = some (.ref b) ∧ Keep h0 h [b, d] ∧ Sb Z h b d 16 (((([] : List Int32) ++ Hs) ++ [nbI (58 : Int32)]) ++ Ps)) :=
  mt_of_kw (P := ([], fun _ => False)) pf_aa (fun m => by first | (simp [entryFrame, mkF, argsToLocals, Value.category]; done) | rfl) (kw_aa01 l Z a0 hw cs hcs SC hEW b d sh th sp tp Hs Ps h0 n0 OD SB hbd gb gd SH lH e1H e2H e3H e4H SP lP e1P e2P e3P e4P)
set_option maxRecDepth 65536 in
set_option maxHeartbeats 40000000 in
theorem kw_au01 (l : Launch) (Z : State) (a0 : Array Value) (hw : ∀ d ∈ tables_1, d.before a0 Z = true) (cs : Int32) (hcs : ¬ cs = 0) (SC : Sta Z Z.heap "java/lang/String" "COMPACT_STRINGS" "Z" (.int cs)) (hEW : EW Z a0 EL) (r sh th sp tp : Addr) (Hs Ps : List Int32) (h0 : Heap) (n0 : Nat) (OD : Old Z n0 h0) (FU : Fld Z h0 r "com/example/liburiref/liburiref/UriReference" "userInfo" "Ljava/lang/String;" .null) (FH : Fld Z h0 r "com/example/liburiref/liburiref/UriReference" "host" "Ljava/lang/String;" (.ref sh)) (FP : Fld Z h0 r "com/example/liburiref/liburiref/UriReference" "port" "Ljava/lang/String;" (.ref sp)) (SH : Sg Z h0 sh th Hs) (lH : Hs.length ≤ 1) (SP : Sg Z h0 sp tp Ps) (lP : Ps.length ≤ 1) : KW false l Z M_au n0 (fun v h => ∃ o a e, v = some (.ref o) ∧ Keep h0 h [] ∧ Exa Z h o "java/util/Optional" ∧ Fld Z h o "java/util/Optional" "value" "Ljava/lang/Object;" (.ref a) ∧ Sg Z h a e (((([] : List Int32) ++ Hs) ++ [nbI (58 : Int32)]) ++ Ps)) ([], fun _ => False) h0 0 0 0 #[.val (.ref r), .unset] [] := by
  have Z0 := OD.1 ▸ OD.2.1
  have K0 : Keep h0 h0 [] := Keep.refl _ _
  refine k_aloadN d_au_0 rfl rfl rfl ?_
  refine k_getField d_au_1 rfl (hw _ (List.mem_of_getElem? (i := 28) rfl)) Via.refl FH ?_
  refine k_ifnonnullY (pc' := 14) d_au_4 (by decide) (by decide) ?_
  refine k_new d_au_14 rfl (hw _ (List.mem_of_getElem? (i := 74) rfl)) (hw _ (List.mem_of_getElem? (i := 75) rfl)) (hw _ (List.mem_of_getElem? (i := 76) rfl)) (by decide) (by decide) ?_
  intro h38 a37 g42 E39 A40 D41
  have ne43 : r ≠ a37 := Nat.ne_of_lt (Nat.lt_of_lt_of_eq FU.lt g42.symm)
  have ne44 : sh ≠ a37 := Nat.ne_of_lt (Nat.lt_of_lt_of_eq SH.lt g42.symm)
  have ne45 : th ≠ a37 := Nat.ne_of_lt (Nat.lt_of_lt_of_eq SH.ltv g42.symm)
  have ne46 : sp ≠ a37 := Nat.ne_of_lt (Nat.lt_of_lt_of_eq SP.lt g42.symm)
  have ne47 : tp ≠ a37 := Nat.ne_of_lt (Nat.lt_of_lt_of_eq SP.ltv g42.symm)
  have z48 : n0 ≤ h0.size := Z0
  have ge49 : n0 ≤ a37 := Nat.le_trans z48 (Nat.le_of_eq g42.symm)
  have gl50 : h0.size ≤ a37 := Nat.le_of_eq g42.symm
  have gh51 := Nat.le_trans K0.1 gl50
  have F52 : Fld Z h38 a37 "java/lang/AbstractStringBuilder" "value" "[B" .null := D41 (Or.inl (hw _ (List.mem_of_getElem? (i := 89) rfl))) (ty := (.array .byte)) (by decide)
  have F53 : Fld Z h38 a37 "java/lang/AbstractStringBuilder" "coder" "B" (.int (0 : Int32)) := D41 (Or.inl (hw _ (List.mem_of_getElem? (i := 91) rfl))) (ty := .byte) (by decide)
  have F54 : Fld Z h38 a37 "java/lang/AbstractStringBuilder" "count" "I" (.int (0 : Int32)) := D41 (Or.inl (hw _ (List.mem_of_getElem? (i := 116) rfl))) (ty := .int) (by decide)
  refine KW.any (P' := ([], fun _ => False)) ?_
  show KW false l Z M_au n0 (fun v h => ∃ o a e, v = some (.ref o) ∧ Keep h0 h [] ∧ Exa Z h o "java/util/Optional" ∧ Fld Z h o "java/util/Optional" "value" "Ljava/lang/Object;" (.ref a) ∧ Sg Z h a e (((([] : List Int32) ++ Hs) ++ [nbI (58 : Int32)]) ++ Ps)) ([], fun _ => False) h38 1 4 17 #[.val (.ref r), .unset] [(.ref a37)]
  refine k_dup d_au_17 rfl rfl ?_
  have f55 := (FU.ext E39)
  have f56 := (SH.ext E39)
  have f57 := (SP.ext E39)
  have f58 := (K0.ext E39)
  have f59 := (OD.ext E39)
  refine k_callInit (a := a37) (argsL := []) (rest := [(.ref a37)]) (W0 := 1) d_au_18 rfl (mt_sbi l Z a0 hw cs hcs SC hEW a37 h38 n0 f59 ge49 A40 F52 F53 F54) Kp.strict rfl rfl (hw _ (List.mem_of_getElem? (i := 77) rfl)) (hw _ (List.mem_of_getElem? (i := 78) rfl)) (hw _ (List.mem_of_getElem? (i := 76) rfl)) (hw _ (List.mem_of_getElem? (i := 79) rfl)) (by decide) pd_sbi rfl rfl rfl rfl (by decide) (by decide) (by decide) (by decide) ?_
  rintro _ hM - ⟨rfl, d, gd1, gd2, KM, SBM⟩
  have ne60 : r ≠ d := Nat.ne_of_lt (Nat.lt_of_lt_of_le f55.lt gd1)
  have ne61 : sh ≠ d := Nat.ne_of_lt (Nat.lt_of_lt_of_le f56.lt gd1)
  have ne62 : th ≠ d := Nat.ne_of_lt (Nat.lt_of_lt_of_le f56.ltv gd1)
  have ne63 : sp ≠ d := Nat.ne_of_lt (Nat.lt_of_lt_of_le f57.lt gd1)
  have ne64 : tp ≠ d := Nat.ne_of_lt (Nat.lt_of_lt_of_le f57.ltv gd1)
  have ne65 : a37 ≠ d := Nat.ne_of_lt (Nat.lt_of_lt_of_le A40.lt gd1)
  have gdh := Nat.le_trans f58.1 gd1
  refine KW.any (P' := ([], fun _ => False)) ?_
  show KW false l Z M_au n0 (fun v h => ∃ o a e, v = some (.ref o) ∧ Keep h0 h [] ∧ Exa Z h o "java/util/Optional" ∧ Fld Z h o "java/util/Optional" "value" "Ljava/lang/Object;" (.ref a) ∧ Sg Z h a e (((([] : List Int32) ++ Hs) ++ [nbI (58 : Int32)]) ++ Ps)) ([], fun _ => False) hM 2 20 21 #[.val (.ref r), .unset] [(.ref a37)]
  refine k_aloadN d_au_21 rfl rfl rfl ?_
  have f66 := (f55.keep KM (ninS ne43 nin0))
  refine k_getField d_au_22 rfl (hw _ (List.mem_of_getElem? (i := 26) rfl)) Via.refl f66 ?_
  refine k_aloadN d_au_25 rfl rfl rfl ?_
  have f67 := ((FH.ext E39).keep KM (ninS ne43 nin0))
  refine k_getField d_au_26 rfl (hw _ (List.mem_of_getElem? (i := 28) rfl)) Via.refl f67 ?_
  refine k_aloadN d_au_29 rfl rfl rfl ?_
  have f68 := ((FP.ext E39).keep KM (ninS ne43 nin0))
  refine k_getField d_au_30 rfl (hw _ (List.mem_of_getElem? (i := 30) rfl)) Via.refl f68 ?_
  have f69 := (f59.keep KM (allS ge49 all0))
  have f70 := (f58.trans KM (allS (Or.inr gh51) all0))
  have f71 := (f56.keep KM (ninS ne44 nin0) (ninS ne45 nin0))
  have f72 := (f57.keep KM (ninS ne46 nin0) (ninS ne47 nin0))
  refine k_callStatic (argsL := [(.ref a37), .null, (.ref sh), (.ref sp)]) (rest := []) (W0 := 0) d_au_33 rfl (mt_aa01 l Z a0 hw cs hcs SC hEW a37 d sh th sp tp Hs Ps hM n0 f69 SBM ne65 ge49 gd2 f71 lH ne44 ne61 ne45 ne62 f72 lP ne46 ne63 ne47 ne64) Kp.strict (hw _ (List.mem_of_getElem? (i := 92) rfl)) (hw _ (List.mem_of_getElem? (i := 93) rfl)) (hw _ (List.mem_of_getElem? (i := 6) rfl)) (hw _ (List.mem_of_getElem? (i := 94) rfl)) (by decide) pd_aa rfl rfl rfl rfl (by decide) (by decide) (by decide) (by decide) ?_
  rintro _ hQ - ⟨rfl, KQ, SBQ⟩
  refine KW.any (P' := ([], fun _ => False)) ?_
  show KW false l Z M_au n0 (fun v h => ∃ o a e, v = some (.ref o) ∧ Keep h0 h [] ∧ Exa Z h o "java/util/Optional" ∧ Fld Z h o "java/util/Optional" "value" "Ljava/lang/Object;" (.ref a) ∧ Sg Z h a e (((([] : List Int32) ++ Hs) ++ [nbI (58 : Int32)]) ++ Ps)) ([], fun _ => False) hQ 2 20 36 #[.val (.ref r), .unset] [(.ref a37)]
  have f73 := (f69.keep KQ (allS ge49 (allS gd2 all0)))
  have f74 := (f70.trans KQ (allS (Or.inr gh51) (allS (Or.inr gdh) all0)))
  refine k_callVirtual (argsL := []) (rest := []) (W0 := 0) d_au_36 rfl (mt_tos l Z a0 hw cs hcs SC hEW a37 d 16 (((([] : List Int32) ++ Hs) ++ [nbI (58 : Int32)]) ++ Ps) hQ n0 f73 SBQ (by simp only [List.length_append, List.length_nil, List.length_cons]; omega) (by simp only [List.length_append, List.length_nil, List.length_cons]; omega)) Kp.strict SBQ.exa (hw _ (List.mem_of_getElem? (i := 142) rfl)) (hw _ (List.mem_of_getElem? (i := 143) rfl)) (hw _ (List.mem_of_getElem? (i := 145) rfl)) (hw _ (List.mem_of_getElem? (i := 98) rfl)) rfl (hw _ (List.mem_of_getElem? (i := 144) rfl)) (hw _ (List.mem_of_getElem? (i := 146) rfl)) (hw _ (List.mem_of_getElem? (i := 76) rfl)) (by decide) pd_tos rfl rfl rfl rfl (by decide) (by decide) (by decide) (by decide) ?_
  rintro _ hR - ⟨a, e, rfl, KR, SGR⟩
  refine KW.any (P' := ([], fun _ => False)) ?_
  show KW false l Z M_au n0 (fun v h => ∃ o a e, v = some (.ref o) ∧ Keep h0 h [] ∧ Exa Z h o "java/util/Optional" ∧ Fld Z h o "java/util/Optional" "value" "Ljava/lang/Object;" (.ref a) ∧ Sg Z h a e (((([] : List Int32) ++ Hs) ++ [nbI (58 : Int32)]) ++ Ps)) ([], fun _ => False) hR 4 40 39 #[.val (.ref r), .unset] [(.ref a)]
  have f75 := (f73.keep KR all0)
  have f76 := (f74.trans KR all0)
  refine k_callStatic (argsL := [(.ref a)]) (rest := []) (W0 := 0) d_au_39 rfl (mt_oof l Z a0 hw cs hcs SC hEW a hR n0 f75) Kp.strict (hw _ (List.mem_of_getElem? (i := 187) rfl)) (hw _ (List.mem_of_getElem? (i := 188) rfl)) (hw _ (List.mem_of_getElem? (i := 45) rfl)) (hw _ (List.mem_of_getElem? (i := 189) rfl)) (by decide) pd_oof rfl rfl rfl rfl (by decide) (by decide) (by decide) (by decide) ?_
  rintro _ hS - ⟨o, rfl, KS, EO, FO⟩
  refine KW.any (P' := ([], fun _ => False)) ?_
  show KW false l Z M_au n0 (fun v h => ∃ o a e, v = some (.ref o) ∧ Keep h0 h [] ∧ Exa Z h o "java/util/Optional" ∧ Fld Z h o "java/util/Optional" "value" "Ljava/lang/Object;" (.ref a) ∧ Sg Z h a e (((([] : List Int32) ++ Hs) ++ [nbI (58 : Int32)]) ++ Ps)) ([], fun _ => False) hS 5 41 42 #[.val (.ref r), .unset] [(.ref o)]
  refine k_astoreN (Ls' := #[.val (.ref r), .val (.ref o)]) d_au_42 rfl rfl rfl ?_
  refine k_aloadN d_au_43 rfl rfl rfl ?_
  have f77 := (f76.trans KS all0)
  have f78 := (SGR.keep KS nin0 nin0)
  exact k_retRef d_au_44 rfl rfl rfl (by decide) (by decide) ⟨o, a, e, rfl, f77, EO, FO, f78⟩
theorem mt_au01 (l : Launch) (Z : State) (a0 : Array Value) (hw : ∀ d ∈ tables_1, d.before a0 Z = true) (cs : Int32) (hcs : ¬ cs = 0) (SC : Sta Z Z.heap "java/lang/String" "COMPACT_STRINGS" "Z" (.int cs)) (hEW : EW Z a0 EL) (r sh th sp tp : Addr) (Hs Ps : List Int32) (h0 : Heap) (n0 : Nat) (OD : Old Z n0 h0) (FU : Fld Z h0 r "com/example/liburiref/liburiref/UriReference" "userInfo" "Ljava/lang/String;" .null) (FH : Fld Z h0 r "com/example/liburiref/liburiref/UriReference" "host" "Ljava/lang/String;" (.ref sh)) (FP : Fld Z h0 r "com/example/liburiref/liburiref/UriReference" "port" "Ljava/lang/String;" (.ref sp)) (SH : Sg Z h0 sh th Hs) (lH : Hs.length ≤ 1) (SP : Sg Z h0 sp tp Ps) (lP : Ps.length ≤ 1) : Mt l Z M_au [] n0 #[(.ref r)] h0 (fun v h => ∃ o a e, v = some (.ref o) ∧ Keep h0 h [] ∧ Exa Z h o "java/util/Optional" ∧ Fld Z h o "java/util/Optional" "value" "Ljava/lang/Object;" (.ref a) ∧ Sg Z h a e (((([] : List Int32) ++ Hs) ++ [nbI (58 : Int32)]) ++ Ps)) :=
  mt_of_kw (P := ([], fun _ => False)) pf_au (fun m => by first | (simp [entryFrame, mkF, argsToLocals, Value.category]; done) | rfl) (kw_au01 l Z a0 hw cs hcs SC hEW r sh th sp tp Hs Ps h0 n0 OD FU FH FP SH lH SP lP)
set_option maxRecDepth 65536 in
set_option maxHeartbeats 40000000 in
theorem kw_aa10 (l : Launch) (Z : State) (a0 : Array Value) (hw : ∀ d ∈ tables_1, d.before a0 Z = true) (cs : Int32) (hcs : ¬ cs = 0) (SC : Sta Z Z.heap "java/lang/String" "COMPACT_STRINGS" "Z" (.int cs)) (hEW : EW Z a0 EL) (b d su tu sh th : Addr) (U Hs : List Int32) (h0 : Heap) (n0 : Nat) (OD : Old Z n0 h0) (SB : Sb Z h0 b d 16 []) (hbd : b ≠ d) (gb : n0 ≤ b) (gd : n0 ≤ d) (SU : Sg Z h0 su tu U) (lU : U.length ≤ 1) (e1U : su ≠ b) (e2U : su ≠ d) (e3U : tu ≠ b) (e4U : tu ≠ d) (SH : Sg Z h0 sh th Hs) (lH : Hs.length ≤ 1) (e1H : sh ≠ b) (e2H : sh ≠ d) (e3H : th ≠ b) (e4H : th ≠ d) : KW false l Z M_aa n0 (fun v h => v = some (.ref b) ∧ Keep h0 h [b, d] ∧ Sb Z h b d 16 (((([] : List Int32) ++ U) ++ [nbI (64 : Int32)]) ++ Hs)) ([], fun _ => False) h0 0 0 0 #[.val (.ref b), .val (.ref su), .val (.ref sh), .val .null] [] := by
  have K0 : Keep h0 h0 [b, d] := Keep.refl _ _
  refine k_aloadN d_aa_0 rfl rfl rfl ?_
  refine k_ifnullN d_aa_1 rfl ?_
  refine k_aloadN d_aa_4 rfl rfl rfl ?_
  refine k_aloadN d_aa_5 rfl rfl rfl ?_
  refine k_callVirtual (argsL := [(.ref su)]) (rest := []) (W0 := 0) d_aa_6 rfl (mt_sas l Z a0 hw cs hcs SC hEW b d su tu 16 ([] : List Int32) U h0 n0 OD SB SU hbd gb gd (by simp only [List.length_append, List.length_nil, List.length_cons]; omega)) Kp.strict SB.exa (hw _ (List.mem_of_getElem? (i := 95) rfl)) (hw _ (List.mem_of_getElem? (i := 96) rfl)) (hw _ (List.mem_of_getElem? (i := 98) rfl)) (hw _ (List.mem_of_getElem? (i := 98) rfl)) rfl (hw _ (List.mem_of_getElem? (i := 97) rfl)) (hw _ (List.mem_of_getElem? (i := 99) rfl)) (hw _ (List.mem_of_getElem? (i := 76) rfl)) (by decide) pd_sas rfl rfl rfl rfl (by decide) (by decide) (by decide) (by decide) ?_
  rintro _ h20 - ⟨rfl, K21, SB22⟩
  refine KW.any (P' := ([], fun _ => False)) ?_
  show KW false l Z M_aa n0 (fun v h => v = some (.ref b) ∧ Keep h0 h [b, d] ∧ Sb Z h b d 16 (((([] : List Int32) ++ U) ++ [nbI (64 : Int32)]) ++ Hs)) ([], fun _ => False) h20 0 0 9 #[.val (.ref b), .val (.ref su), .val (.ref sh), .val .null] [(.ref b)]
  refine k_bipush (z := (64 : Int32)) d_aa_9 rfl (by decide) ?_
  have f23 := (OD.keep K21 (allS gb (allS gd all0)))
  have f24 := (K0.trans K21 (allS (Or.inl (by simp)) (allS (Or.inl (by simp)) all0)))
  refine k_callVirtual (argsL := [(.int (64 : Int32))]) (rest := []) (W0 := 0) d_aa_11 rfl (mt_sac l Z a0 hw cs hcs SC hEW b d 16 (([] : List Int32) ++ U) h20 n0 f23 SB22 (64 : Int32) (by decide) hbd gb gd (by simp only [List.length_append, List.length_nil, List.length_cons]; omega)) Kp.strict SB22.exa (hw _ (List.mem_of_getElem? (i := 233) rfl)) (hw _ (List.mem_of_getElem? (i := 234) rfl)) (hw _ (List.mem_of_getElem? (i := 236) rfl)) (hw _ (List.mem_of_getElem? (i := 98) rfl)) rfl (hw _ (List.mem_of_getElem? (i := 235) rfl)) (hw _ (List.mem_of_getElem? (i := 237) rfl)) (hw _ (List.mem_of_getElem? (i := 76) rfl)) (by decide) pd_sac rfl rfl rfl rfl (by decide) (by decide) (by decide) (by decide) ?_
  rintro _ h25 - ⟨rfl, K26, SB27⟩
  refine KW.any (P' := ([], fun _ => False)) ?_
  show KW false l Z M_aa n0 (fun v h => v = some (.ref b) ∧ Keep h0 h [b, d] ∧ Sb Z h b d 16 (((([] : List Int32) ++ U) ++ [nbI (64 : Int32)]) ++ Hs)) ([], fun _ => False) h25 0 0 14 #[.val (.ref b), .val (.ref su), .val (.ref sh), .val .null] [(.ref b)]
  refine k_pop d_aa_14 rfl rfl ?_
  refine k_aloadN d_aa_15 rfl rfl rfl ?_
  refine k_aloadN d_aa_16 rfl rfl rfl ?_
  have f28 := ((SH.keep K21 (ninS e1H (ninS e2H nin0)) (ninS e3H (ninS e4H nin0))).keep K26 (ninS e1H (ninS e2H nin0)) (ninS e3H (ninS e4H nin0)))
  have f29 := (f23.keep K26 (allS gb (allS gd all0)))
  have f30 := (f24.trans K26 (allS (Or.inl (by simp)) (allS (Or.inl (by simp)) all0)))
  refine k_callVirtual (argsL := [(.ref sh)]) (rest := []) (W0 := 0) d_aa_17 rfl (mt_sas l Z a0 hw cs hcs SC hEW b d sh th 16 ((([] : List Int32) ++ U) ++ [nbI (64 : Int32)]) Hs h25 n0 f29 SB27 f28 hbd gb gd (by simp only [List.length_append, List.length_nil, List.length_cons]; omega)) Kp.strict SB27.exa (hw _ (List.mem_of_getElem? (i := 95) rfl)) (hw _ (List.mem_of_getElem? (i := 96) rfl)) (hw _ (List.mem_of_getElem? (i := 98) rfl)) (hw _ (List.mem_of_getElem? (i := 98) rfl)) rfl (hw _ (List.mem_of_getElem? (i := 97) rfl)) (hw _ (List.mem_of_getElem? (i := 99) rfl)) (hw _ (List.mem_of_getElem? (i := 76) rfl)) (by decide) pd_sas rfl rfl rfl rfl (by decide) (by decide) (by decide) (by decide) ?_
  rintro _ h31 - ⟨rfl, K32, SB33⟩
  refine KW.any (P' := ([], fun _ => False)) ?_
  show KW false l Z M_aa n0 (fun v h => v = some (.ref b) ∧ Keep h0 h [b, d] ∧ Sb Z h b d 16 (((([] : List Int32) ++ U) ++ [nbI (64 : Int32)]) ++ Hs)) ([], fun _ => False) h31 0 0 20 #[.val (.ref b), .val (.ref su), .val (.ref sh), .val .null] [(.ref b)]
  refine k_pop d_aa_20 rfl rfl ?_
  refine k_aloadN d_aa_21 rfl rfl rfl ?_
  refine k_ifnullY (pc' := 36) d_aa_22 (by decide) (by decide) ?_
  refine k_aloadN d_aa_36 rfl rfl rfl ?_
  have f34 := (f30.trans K32 (allS (Or.inl (by simp)) (allS (Or.inl (by simp)) all0)))
  exact k_retRef d_aa_37 rfl rfl rfl (by decide) (by decide) ⟨rfl, f34, SB33⟩
theorem mt_aa10 (l : Launch) (Z : State) (a0 : Array Value) (hw : ∀ d ∈ tables_1, d.before a0 Z = true) (cs : Int32) (hcs : ¬ cs = 0) (SC : Sta Z Z.heap "java/lang/String" "COMPACT_STRINGS" "Z" (.int cs)) (hEW : EW Z a0 EL) (b d su tu sh th : Addr) (U Hs : List Int32) (h0 : Heap) (n0 : Nat) (OD : Old Z n0 h0) (SB : Sb Z h0 b d 16 []) (hbd : b ≠ d) (gb : n0 ≤ b) (gd : n0 ≤ d) (SU : Sg Z h0 su tu U) (lU : U.length ≤ 1) (e1U : su ≠ b) (e2U : su ≠ d) (e3U : tu ≠ b) (e4U : tu ≠ d) (SH : Sg Z h0 sh th Hs) (lH : Hs.length ≤ 1) (e1H : sh ≠ b) (e2H : sh ≠ d) (e3H : th ≠ b) (e4H : th ≠ d) : Mt l Z M_aa [] n0 #[(.ref b), (.ref su), (.ref sh), .null] h0 (fun v h => v = some (.ref b) ∧ Keep h0 h [b, d] ∧ Sb Z h b d 16 (((([] : List Int32) ++ U) ++ [nbI (64 : Int32)]) ++ Hs)) :=
  mt_of_kw (P := ([], fun _ => False)) pf_aa (fun m => by first | (simp [entryFrame, mkF, argsToLocals, Value.category]; done) | rfl) (kw_aa10 l Z a0 hw cs hcs SC hEW b d su tu sh th U Hs h0 n0 OD SB hbd gb gd SU lU e1U e2U e3U e4U SH lH e1H e2H e3H e4H)
set_option maxRecDepth 65536 in
set_option maxHeartbeats 40000000 in
theorem kw_au10 (l : Launch) (Z : State) (a0 : Array Value) (hw : ∀ d ∈ tables_1, d.before a0 Z = true) (cs : Int32) (hcs : ¬ cs = 0) (SC : Sta Z Z.heap "java/lang/String" "COMPACT_STRINGS" "Z" (.int cs)) (hEW : EW Z a0 EL) (r su tu sh th : Addr) (U Hs : List Int32) (h0 : Heap) (n0 : Nat) (OD : Old Z n0 h0) (FU : Fld Z h0 r "com/example/liburiref/liburiref/UriReference" "userInfo" "Ljava/lang/String;" (.ref su)) (FH : Fld Z h0 r "com/example/liburiref/liburiref/UriReference" "host" "Ljava/lang/String;" (.ref sh)) (FP : Fld Z h0 r "com/example/liburiref/liburiref/UriReference" "port" "Ljava/lang/String;" .null) (SU : Sg Z h0 su tu U) (lU : U.length ≤ 1) (SH : Sg Z h0 sh th Hs) (lH : Hs.length ≤ 1) : KW false l Z M_au n0 (fun v h => ∃ o a e, v = some (.ref o) ∧ Keep h0 h [] ∧ Exa Z h o "java/util/Optional" ∧ Fld Z h o "java/util/Optional" "value" "Ljava/lang/Object;" (.ref a) ∧ Sg Z h a e (((([] : List Int32) ++ U) ++ [nbI (64 : Int32)]) ++ Hs)) ([], fun _ => False) h0 0 0 0 #[.val (.ref r), .unset] [] := by
  have Z0 := OD.1 ▸ OD.2.1
  have K0 : Keep h0 h0 [] := Keep.refl _ _
  refine k_aloadN d_au_0 rfl rfl rfl ?_
  refine k_getField d_au_1 rfl (hw _ (List.mem_of_getElem? (i := 28) rfl)) Via.refl FH ?_
  refine k_ifnonnullY (pc' := 14) d_au_4 (by decide) (by decide) ?_
  refine k_new d_au_14 rfl (hw _ (List.mem_of_getElem? (i := 74) rfl)) (hw _ (List.mem_of_getElem? (i := 75) rfl)) (hw _ (List.mem_of_getElem? (i := 76) rfl)) (by decide) (by decide) ?_
  intro h80 a79 g84 E81 A82 D83
  have ne85 : r ≠ a79 := Nat.ne_of_lt (Nat.lt_of_lt_of_eq FU.lt g84.symm)
  have ne86 : su ≠ a79 := Nat.ne_of_lt (Nat.lt_of_lt_of_eq SU.lt g84.symm)
  have ne87 : tu ≠ a79 := Nat.ne_of_lt (Nat.lt_of_lt_of_eq SU.ltv g84.symm)
  have ne88 : sh ≠ a79 := Nat.ne_of_lt (Nat.lt_of_lt_of_eq SH.lt g84.symm)
  have ne89 : th ≠ a79 := Nat.ne_of_lt (Nat.lt_of_lt_of_eq SH.ltv g84.symm)
  have z90 : n0 ≤ h0.size := Z0
  have ge91 : n0 ≤ a79 := Nat.le_trans z90 (Nat.le_of_eq g84.symm)
  have gl92 : h0.size ≤ a79 := Nat.le_of_eq g84.symm
  have gh93 := Nat.le_trans K0.1 gl92
  have F94 : Fld Z h80 a79 "java/lang/AbstractStringBuilder" "value" "[B" .null := D83 (Or.inl (hw _ (List.mem_of_getElem? (i := 89) rfl))) (ty := (.array .byte)) (by decide)
  have F95 : Fld Z h80 a79 "java/lang/AbstractStringBuilder" "coder" "B" (.int (0 : Int32)) := D83 (Or.inl (hw _ (List.mem_of_getElem? (i := 91) rfl))) (ty := .byte) (by decide)
  have F96 : Fld Z h80 a79 "java/lang/AbstractStringBuilder" "count" "I" (.int (0 : Int32)) := D83 (Or.inl (hw _ (List.mem_of_getElem? (i := 116) rfl))) (ty := .int) (by decide)
  refine KW.any (P' := ([], fun _ => False)) ?_
  show KW false l Z M_au n0 (fun v h => ∃ o a e, v = some (.ref o) ∧ Keep h0 h [] ∧ Exa Z h o "java/util/Optional" ∧ Fld Z h o "java/util/Optional" "value" "Ljava/lang/Object;" (.ref a) ∧ Sg Z h a e (((([] : List Int32) ++ U) ++ [nbI (64 : Int32)]) ++ Hs)) ([], fun _ => False) h80 1 4 17 #[.val (.ref r), .unset] [(.ref a79)]
  refine k_dup d_au_17 rfl rfl ?_
  have f97 := (FU.ext E81)
  have f98 := (SU.ext E81)
  have f99 := (SH.ext E81)
  have f100 := (K0.ext E81)
  have f101 := (OD.ext E81)
  refine k_callInit (a := a79) (argsL := []) (rest := [(.ref a79)]) (W0 := 1) d_au_18 rfl (mt_sbi l Z a0 hw cs hcs SC hEW a79 h80 n0 f101 ge91 A82 F94 F95 F96) Kp.strict rfl rfl (hw _ (List.mem_of_getElem? (i := 77) rfl)) (hw _ (List.mem_of_getElem? (i := 78) rfl)) (hw _ (List.mem_of_getElem? (i := 76) rfl)) (hw _ (List.mem_of_getElem? (i := 79) rfl)) (by decide) pd_sbi rfl rfl rfl rfl (by decide) (by decide) (by decide) (by decide) ?_
  rintro _ hM - ⟨rfl, d, gd1, gd2, KM, SBM⟩
  have ne102 : r ≠ d := Nat.ne_of_lt (Nat.lt_of_lt_of_le f97.lt gd1)
  have ne103 : su ≠ d := Nat.ne_of_lt (Nat.lt_of_lt_of_le f98.lt gd1)
  have ne104 : tu ≠ d := Nat.ne_of_lt (Nat.lt_of_lt_of_le f98.ltv gd1)
  have ne105 : sh ≠ d := Nat.ne_of_lt (Nat.lt_of_lt_of_le f99.lt gd1)
  have ne106 : th ≠ d := Nat.ne_of_lt (Nat.lt_of_lt_of_le f99.ltv gd1)
  have ne107 : a79 ≠ d := Nat.ne_of_lt (Nat.lt_of_lt_of_le A82.lt gd1)
  have gdh := Nat.le_trans f100.1 gd1
  refine KW.any (P' := ([], fun _ => False)) ?_
  show KW false l Z M_au n0 (fun v h => ∃ o a e, v = some (.ref o) ∧ Keep h0 h [] ∧ Exa Z h o "java/util/Optional" ∧ Fld Z h o "java/util/Optional" "value" "Ljava/lang/Object;" (.ref a) ∧ Sg Z h a e (((([] : List Int32) ++ U) ++ [nbI (64 : Int32)]) ++ Hs)) ([], fun _ => False) hM 2 20 21 #[.val (.ref r), .unset] [(.ref a79)]
  refine k_aloadN d_au_21 rfl rfl rfl ?_
  have f108 := (f97.keep KM (ninS ne85 nin0))
  refine k_getField d_au_22 rfl (hw _ (List.mem_of_getElem? (i := 26) rfl)) Via.refl f108 ?_
  refine k_aloadN d_au_25 rfl rfl rfl ?_
  have f109 := ((FH.ext E81).keep KM (ninS ne85 nin0))
  refine k_getField d_au_26 rfl (hw _ (List.mem_of_getElem? (i := 28) rfl)) Via.refl f109 ?_
  refine k_aloadN d_au_29 rfl rfl rfl ?_
  have f110 := ((FP.ext E81).keep KM (ninS ne85 nin0))
  refine k_getField d_au_30 rfl (hw _ (List.mem_of_getElem? (i := 30) rfl)) Via.refl f110 ?_
  have f111 := (f101.keep KM (allS ge91 all0))
  have f112 := (f100.trans KM (allS (Or.inr gh93) all0))
  have f113 := (f98.keep KM (ninS ne86 nin0) (ninS ne87 nin0))
  have f114 := (f99.keep KM (ninS ne88 nin0) (ninS ne89 nin0))
  refine k_callStatic (argsL := [(.ref a79), (.ref su), (.ref sh), .null]) (rest := []) (W0 := 0) d_au_33 rfl (mt_aa10 l Z a0 hw cs hcs SC hEW a79 d su tu sh th U Hs hM n0 f111 SBM ne107 ge91 gd2 f113 lU ne86 ne103 ne87 ne104 f114 lH ne88 ne105 ne89 ne106) Kp.strict (hw _ (List.mem_of_getElem? (i := 92) rfl)) (hw _ (List.mem_of_getElem? (i := 93) rfl)) (hw _ (List.mem_of_getElem? (i := 6) rfl)) (hw _ (List.mem_of_getElem? (i := 94) rfl)) (by decide) pd_aa rfl rfl rfl rfl (by decide) (by decide) (by decide) (by decide) ?_
  rintro _ hQ - ⟨rfl, KQ, SBQ⟩
  refine KW.any (P' := ([], fun _ => False)) ?_
  show KW false l Z M_au n0 (fun v h => ∃ o a e, v = some (.ref o) ∧ Keep h0 h [] ∧ Exa Z h o "java/util/Optional" ∧ Fld Z h o "java/util/Optional" "value" "Ljava/lang/Object;" (.ref a) ∧ Sg Z h a e (((([] : List Int32) ++ U) ++ [nbI (64 : Int32)]) ++ Hs)) ([], fun _ => False) hQ 2 20 36 #[.val (.ref r), .unset] [(.ref a79)]
  have f115 := (f111.keep KQ (allS ge91 (allS gd2 all0)))
  have f116 := (f112.trans KQ (allS (Or.inr gh93) (allS (Or.inr gdh) all0)))
  refine k_callVirtual (argsL := []) (rest := []) (W0 := 0) d_au_36 rfl (mt_tos l Z a0 hw cs hcs SC hEW a79 d 16 (((([] : List Int32) ++ U) ++ [nbI (64 : Int32)]) ++ Hs) hQ n0 f115 SBQ (by simp only [List.length_append, List.length_nil, List.length_cons]; omega) (by simp only [List.length_append, List.length_nil, List.length_cons]; omega)) Kp.strict SBQ.exa (hw _ (List.mem_of_getElem? (i := 142) rfl)) (hw _ (List.mem_of_getElem? (i := 143) rfl)) (hw _ (List.mem_of_getElem? (i := 145) rfl)) (hw _ (List.mem_of_getElem? (i := 98) rfl)) rfl (hw _ (List.mem_of_getElem? (i := 144) rfl)) (hw _ (List.mem_of_getElem? (i := 146) rfl)) (hw _ (List.mem_of_getElem? (i := 76) rfl)) (by decide) pd_tos rfl rfl rfl rfl (by decide) (by decide) (by decide) (by decide) ?_
  rintro _ hR - ⟨a, e, rfl, KR, SGR⟩
  refine KW.any (P' := ([], fun _ => False)) ?_
  show KW false l Z M_au n0 (fun v h => ∃ o a e, v = some (.ref o) ∧ Keep h0 h [] ∧ Exa Z h o "java/util/Optional" ∧ Fld Z h o "java/util/Optional" "value" "Ljava/lang/Object;" (.ref a) ∧ Sg Z h a e (((([] : List Int32) ++ U) ++ [nbI (64 : Int32)]) ++ Hs)) ([], fun _ => False) hR 4 40 39 #[.val (.ref r), .unset] [(.ref a)]
  have f117 := (f115.keep KR all0)
  have f118 := (f116.trans KR all0)
  refine k_callStatic (argsL := [(.ref a)]) (rest := []) (W0 := 0) d_au_39 rfl (mt_oof l Z a0 hw cs hcs SC hEW a hR n0 f117) Kp.strict (hw _ (List.mem_of_getElem? (i := 187) rfl)) (hw _ (List.mem_of_getElem? (i := 188) rfl)) (hw _ (List.mem_of_getElem? (i := 45) rfl)) (hw _ (List.mem_of_getElem? (i := 189) rfl)) (by decide) pd_oof rfl rfl rfl rfl (by decide) (by decide) (by decide) (by decide) ?_
  rintro _ hS - ⟨o, rfl, KS, EO, FO⟩
  refine KW.any (P' := ([], fun _ => False)) ?_
  show KW false l Z M_au n0 (fun v h => ∃ o a e, v = some (.ref o) ∧ Keep h0 h [] ∧ Exa Z h o "java/util/Optional" ∧ Fld Z h o "java/util/Optional" "value" "Ljava/lang/Object;" (.ref a) ∧ Sg Z h a e (((([] : List Int32) ++ U) ++ [nbI (64 : Int32)]) ++ Hs)) ([], fun _ => False) hS 5 41 42 #[.val (.ref r), .unset] [(.ref o)]
  refine k_astoreN (Ls' := #[.val (.ref r), .val (.ref o)]) d_au_42 rfl rfl rfl ?_
  refine k_aloadN d_au_43 rfl rfl rfl ?_
  have f119 := (f118.trans KS all0)
  have f120 := (SGR.keep KS nin0 nin0)
  exact k_retRef d_au_44 rfl rfl rfl (by decide) (by decide) ⟨o, a, e, rfl, f119, EO, FO, f120⟩
theorem mt_au10 (l : Launch) (Z : State) (a0 : Array Value) (hw : ∀ d ∈ tables_1, d.before a0 Z = true) (cs : Int32) (hcs : ¬ cs = 0) (SC : Sta Z Z.heap "java/lang/String" "COMPACT_STRINGS" "Z" (.int cs)) (hEW : EW Z a0 EL) (r su tu sh th : Addr) (U Hs : List Int32) (h0 : Heap) (n0 : Nat) (OD : Old Z n0 h0) (FU : Fld Z h0 r "com/example/liburiref/liburiref/UriReference" "userInfo" "Ljava/lang/String;" (.ref su)) (FH : Fld Z h0 r "com/example/liburiref/liburiref/UriReference" "host" "Ljava/lang/String;" (.ref sh)) (FP : Fld Z h0 r "com/example/liburiref/liburiref/UriReference" "port" "Ljava/lang/String;" .null) (SU : Sg Z h0 su tu U) (lU : U.length ≤ 1) (SH : Sg Z h0 sh th Hs) (lH : Hs.length ≤ 1) : Mt l Z M_au [] n0 #[(.ref r)] h0 (fun v h => ∃ o a e, v = some (.ref o) ∧ Keep h0 h [] ∧ Exa Z h o "java/util/Optional" ∧ Fld Z h o "java/util/Optional" "value" "Ljava/lang/Object;" (.ref a) ∧ Sg Z h a e (((([] : List Int32) ++ U) ++ [nbI (64 : Int32)]) ++ Hs)) :=
  mt_of_kw (P := ([], fun _ => False)) pf_au (fun m => by first | (simp [entryFrame, mkF, argsToLocals, Value.category]; done) | rfl) (kw_au10 l Z a0 hw cs hcs SC hEW r su tu sh th U Hs h0 n0 OD FU FH FP SU lU SH lH)
set_option maxRecDepth 65536 in
set_option maxHeartbeats 40000000 in
theorem kw_aa11 (l : Launch) (Z : State) (a0 : Array Value) (hw : ∀ d ∈ tables_1, d.before a0 Z = true) (cs : Int32) (hcs : ¬ cs = 0) (SC : Sta Z Z.heap "java/lang/String" "COMPACT_STRINGS" "Z" (.int cs)) (hEW : EW Z a0 EL) (b d su tu sh th sp tp : Addr) (U Hs Ps : List Int32) (h0 : Heap) (n0 : Nat) (OD : Old Z n0 h0) (SB : Sb Z h0 b d 16 []) (hbd : b ≠ d) (gb : n0 ≤ b) (gd : n0 ≤ d) (SU : Sg Z h0 su tu U) (lU : U.length ≤ 1) (e1U : su ≠ b) (e2U : su ≠ d) (e3U : tu ≠ b) (e4U : tu ≠ d) (SH : Sg Z h0 sh th Hs) (lH : Hs.length ≤ 1) (e1H : sh ≠ b) (e2H : sh ≠ d) (e3H : th ≠ b) (e4H : th ≠ d) (SP : Sg Z h0 sp tp Ps) (lP : Ps.length ≤ 1) (e1P : sp ≠ b) (e2P : sp ≠ d) (e3P : tp ≠ b) (e4P : tp ≠ d) : KW false l Z M_aa n0 (fun v h => v = some (.ref b) ∧ Keep h0 h [b, d] ∧ Sb Z h b d 16 (((((([] : List Int32) ++ U) ++ [nbI (64 : Int32)]) ++ Hs) ++ [nbI (58 : Int32)]) ++ Ps)) ([], fun _ => False) h0 0 0 0 #[.val (.ref b), .val (.ref su), .val (.ref sh), .val (.ref sp)] [] := by
  have K0 : Keep h0 h0 [b, d] := Keep.refl _ _
  refine k_aloadN d_aa_0 rfl rfl rfl ?_
  refine k_ifnullN d_aa_1 rfl ?_
  refine k_aloadN d_aa_4 rfl rfl rfl ?_
  refine k_aloadN d_aa_5 rfl rfl rfl ?_
  refine k_callVirtual (argsL := [(.ref su)]) (rest := []) (W0 := 0) d_aa_6 rfl (mt_sas l Z a0 hw cs hcs SC hEW b d su tu 16 ([] : List Int32) U h0 n0 OD SB SU hbd gb gd (by simp only [List.length_append, List.length_nil, List.length_cons]; omega)) Kp.strict SB.exa (hw _ (List.mem_of_getElem? (i := 95) rfl)) (hw _ (List.mem_of_getElem? (i := 96) rfl)) (hw _ (List.mem_of_getElem? (i := 98) rfl)) (hw _ (List.mem_of_getElem? (i := 98) rfl)) rfl (hw _ (List.mem_of_getElem? (i := 97) rfl)) (hw _ (List.mem_of_getElem? (i := 99) rfl)) (hw _ (List.mem_of_getElem? (i := 76) rfl)) (by decide) pd_sas rfl rfl rfl rfl (by decide) (by decide) (by decide) (by decide) ?_
  rintro _ h35 - ⟨rfl, K36, SB37⟩
  refine KW.any (P' := ([], fun _ => False)) ?_
  show KW false l Z M_aa n0 (fun v h => v = some (.ref b) ∧ Keep h0 h [b, d] ∧ Sb Z h b d 16 (((((([] : List Int32) ++ U) ++ [nbI (64 : Int32)]) ++ Hs) ++ [nbI (58 : Int32)]) ++ Ps)) ([], fun _ => False) h35 0 0 9 #[.val (.ref b), .val (.ref su), .val (.ref sh), .val (.ref sp)] [(.ref b)]
  refine k_bipush (z := (64 : Int32)) d_aa_9 rfl (by decide) ?_
  have f38 := (OD.keep K36 (allS gb (allS gd all0)))
  have f39 := (K0.trans K36 (allS (Or.inl (by simp)) (allS (Or.inl (by simp)) all0)))
  refine k_callVirtual (argsL := [(.int (64 : Int32))]) (rest := []) (W0 := 0) d_aa_11 rfl (mt_sac l Z a0 hw cs hcs SC hEW b d 16 (([] : List Int32) ++ U) h35 n0 f38 SB37 (64 : Int32) (by decide) hbd gb gd (by simp only [List.length_append, List.length_nil, List.length_cons]; omega)) Kp.strict SB37.exa (hw _ (List.mem_of_getElem? (i := 233) rfl)) (hw _ (List.mem_of_getElem? (i := 234) rfl)) (hw _ (List.mem_of_getElem? (i := 236) rfl)) (hw _ (List.mem_of_getElem? (i := 98) rfl)) rfl (hw _ (List.mem_of_getElem? (i := 235) rfl)) (hw _ (List.mem_of_getElem? (i := 237) rfl)) (hw _ (List.mem_of_getElem? (i := 76) rfl)) (by decide) pd_sac rfl rfl rfl rfl (by decide) (by decide) (by decide) (by decide) ?_
  rintro _ h40 - ⟨rfl, K41, SB42⟩
  refine KW.any (P' := ([], fun _ => False)) ?_
  show KW false l Z M_aa n0 (fun v h => v = some (.ref b) ∧ Keep h0 h [b, d] ∧ Sb Z h b d 16 (((((([] : List Int32) ++ U) ++ [nbI (64 : Int32)]) ++ Hs) ++ [nbI (58 : Int32)]) ++ Ps)) ([], fun _ => False) h40 0 0 14 #[.val (.ref b), .val (.ref su), .val (.ref sh), .val (.ref sp)] [(.ref b)]
  refine k_pop d_aa_14 rfl rfl ?_
  refine k_aloadN d_aa_15 rfl rfl rfl ?_
  refine k_aloadN d_aa_16 rfl rfl rfl ?_
  have f43 := ((SH.keep K36 (ninS e1H (ninS e2H nin0)) (ninS e3H (ninS e4H nin0))).keep K41 (ninS e1H (ninS e2H nin0)) (ninS e3H (ninS e4H nin0)))
  have f44 := (f38.keep K41 (allS gb (allS gd all0)))
  have f45 := (f39.trans K41 (allS (Or.inl (by simp)) (allS (Or.inl (by simp)) all0)))
  refine k_callVirtual (argsL := [(.ref sh)]) (rest := []) (W0 := 0) d_aa_17 rfl (mt_sas l Z a0 hw cs hcs SC hEW b d sh th 16 ((([] : List Int32) ++ U) ++ [nbI (64 : Int32)]) Hs h40 n0 f44 SB42 f43 hbd gb gd (by simp only [List.length_append, List.length_nil, List.length_cons]; omega)) Kp.strict SB42.exa (hw _ (List.mem_of_getElem? (i := 95) rfl)) (hw _ (List.mem_of_getElem? (i := 96) rfl)) (hw _ (List.mem_of_getElem? (i := 98) rfl)) (hw _ (List.mem_of_getElem? (i := 98) rfl)) rfl (hw _ (List.mem_of_getElem? (i := 97) rfl)) (hw _ (List.mem_of_getElem? (i := 99) rfl)) (hw _ (List.mem_of_getElem? (i := 76) rfl)) (by decide) pd_sas rfl rfl rfl rfl (by decide) (by decide) (by decide) (by decide) ?_
  rintro _ h46 - ⟨rfl, K47, SB48⟩
  refine KW.any (P' := ([], fun _ => False)) ?_
  show KW false l Z M_aa n0 (fun v h => v = some (.ref b) ∧ Keep h0 h [b, d] ∧ Sb Z h b d 16 (((((([] : List Int32) ++ U) ++ [nbI (64 : Int32)]) ++ Hs) ++ [nbI (58 : Int32)]) ++ Ps)) ([], fun _ => False) h46 0 0 20 #[.val (.ref b), .val (.ref su), .val (.ref sh), .val (.ref sp)] [(.ref b)]
  refine k_pop d_aa_20 rfl rfl ?_
  refine k_aloadN d_aa_21 rfl rfl rfl ?_
  refine k_ifnullN d_aa_22 rfl ?_
  refine k_aloadN d_aa_25 rfl rfl rfl ?_
  refine k_bipush (z := (58 : Int32)) d_aa_26 rfl (by decide) ?_
  have f49 := (f44.keep K47 (allS gb (allS gd all0)))
  have f50 := (f45.trans K47 (allS (Or.inl (by simp)) (allS (Or.inl (by simp)) all0)))
  refine k_callVirtual (argsL := [(.int (58 : Int32))]) (rest := []) (W0 := 0) d_aa_28 rfl (mt_sac l Z a0 hw cs hcs SC hEW b d 16 (((([] : List Int32) ++ U) ++ [nbI (64 : Int32)]) ++ Hs) h46 n0 f49 SB48 (58 : Int32) (by decide) hbd gb gd (by simp only [List.length_append, List.length_nil, List.length_cons]; omega)) Kp.strict SB48.exa (hw _ (List.mem_of_getElem? (i := 233) rfl)) (hw _ (List.mem_of_getElem? (i := 234) rfl)) (hw _ (List.mem_of_getElem? (i := 236) rfl)) (hw _ (List.mem_of_getElem? (i := 98) rfl)) rfl (hw _ (List.mem_of_getElem? (i := 235) rfl)) (hw _ (List.mem_of_getElem? (i := 237) rfl)) (hw _ (List.mem_of_getElem? (i := 76) rfl)) (by decide) pd_sac rfl rfl rfl rfl (by decide) (by decide) (by decide) (by decide) ?_
  rintro _ h51 - ⟨rfl, K52, SB53⟩
  refine KW.any (P' := ([], fun _ => False)) ?_
  show KW false l Z M_aa n0 (fun v h => v = some (.ref b) ∧ Keep h0 h [b, d] ∧ Sb Z h b d 16 (((((([] : List Int32) ++ U) ++ [nbI (64 : Int32)]) ++ Hs) ++ [nbI (58 : Int32)]) ++ Ps)) ([], fun _ => False) h51 0 0 31 #[.val (.ref b), .val (.ref su), .val (.ref sh), .val (.ref sp)] [(.ref b)]
  refine k_aloadN d_aa_31 rfl rfl rfl ?_
  have f54 := ((((SP.keep K36 (ninS e1P (ninS e2P nin0)) (ninS e3P (ninS e4P nin0))).keep K41 (ninS e1P (ninS e2P nin0)) (ninS e3P (ninS e4P nin0))).keep K47 (ninS e1P (ninS e2P nin0)) (ninS e3P (ninS e4P nin0))).keep K52 (ninS e1P (ninS e2P nin0)) (ninS e3P (ninS e4P nin0)))
  have f55 := (f49.keep K52 (allS gb (allS gd all0)))
  have f56 := (f50.trans K52 (allS (Or.inl (by simp)) (allS (Or.inl (by simp)) all0)))
  refine k_callVirtual (argsL := [(.ref sp)]) (rest := []) (W0 := 0) d_aa_32 rfl (mt_sas l Z a0 hw cs hcs SC hEW b d sp tp 16 ((((([] : List Int32) ++ U) ++ [nbI (64 : Int32)]) ++ Hs) ++ [nbI (58 : Int32)]) Ps h51 n0 f55 SB53 f54 hbd gb gd (by simp only [List.length_append, List.length_nil, List.length_cons]; omega)) Kp.strict SB53.exa (hw _ (List.mem_of_getElem? (i := 95) rfl)) (hw _ (List.mem_of_getElem? (i := 96) rfl)) (hw _ (List.mem_of_getElem? (i := 98) rfl)) (hw _ (List.mem_of_getElem? (i := 98) rfl)) rfl (hw _ (List.mem_of_getElem? (i := 97) rfl)) (hw _ (List.mem_of_getElem? (i := 99) rfl)) (hw _ (List.mem_of_getElem? (i := 76) rfl)) (by decide) pd_sas rfl rfl rfl rfl (by decide) (by decide) (by decide) (by decide) ?_
  rintro _ h57 - ⟨rfl, K58, SB59⟩
  refine KW.any (P' := ([], fun _ => False)) ?_
  show KW false l Z M_aa n0 (fun v h => v = some (.ref b) ∧ Keep h0 h [b, d] ∧ Sb Z h b d 16 (((((([] : List Int32) ++ U) ++ [nbI (64 : Int32)]) ++ Hs) ++ [nbI (58 : Int32)]) ++ Ps)) ([], fun _ => False) h57 0 0 35 #[.val (.ref b), .val (.ref su), .val (.ref sh), .val (.ref sp)] [(.ref b)]
  refine k_pop d_aa_35 rfl rfl ?_
  refine k_aloadN d_aa_36 rfl rfl rfl ?_
  have f60 := (f56.trans K58 (allS (Or.inl (by simp)) (allS (Or.inl (by simp)) all0)))
  exact k_retRef d_aa_37 rfl rfl rfl (by decide) (by decide) ⟨rfl, f60, SB59⟩
theorem mt_aa11 (l : Launch) (Z : State) (a0 : Array Value) (hw : ∀ d ∈ tables_1, d.before a0 Z = true) (cs : Int32) (hcs : ¬ cs = 0) (SC : Sta Z Z.heap "java/lang/String" "COMPACT_STRINGS" "Z" (.int cs)) (hEW : EW Z a0 EL) (b d su tu sh th sp tp : Addr) (U Hs Ps : List Int32) (h0 : Heap) (n0 : Nat) (OD : Old Z n0 h0) (SB : Sb Z h0 b d 16 []) (hbd : b ≠ d) (gb : n0 ≤ b) (gd : n0 ≤ d) (SU : Sg Z h0 su tu U) (lU : U.length ≤ 1) (e1U : su ≠ b) (e2U : su ≠ d) (e3U : tu ≠ b) (e4U : tu ≠ d) (SH : Sg Z h0 sh th Hs) (lH : Hs.length ≤ 1) (e1H : sh ≠ b) (e2H : sh ≠ d) (e3H : th ≠ b) (e4H : th ≠ d) (SP : Sg Z h0 sp tp Ps) (lP : Ps.length ≤ 1) (e1P : sp ≠ b) (e2P : sp ≠ d) (e3P : tp ≠ b) (e4P : tp ≠ d) : Mt l Z M_aa [] n0 #[(.ref b), (.ref su), (.ref sh), (.ref sp)] h0 (fun v h => v = some (.ref b) ∧ Keep h0 h [b, d] ∧ Sb Z h b d 16 (((((([] : List Int32) ++ U) ++ [nbI (64 : Int32)]) ++ Hs) ++ [nbI (58 : Int32)]) ++ Ps)) :=
  mt_of_kw (P := ([], fun _ => False)) pf_aa (fun m => by first | (simp [entryFrame, mkF, argsToLocals, Value.category]; done) | rfl) (kw_aa11 l Z a0 hw cs hcs SC hEW b d su tu sh th sp tp U Hs Ps h0 n0 OD SB hbd gb gd SU lU e1U e2U e3U e4U SH lH e1H e2H e3H e4H SP lP e1P e2P e3P e4P)
set_option maxRecDepth 65536 in
set_option maxHeartbeats 40000000 in
theorem kw_au11 (l : Launch) (Z : State) (a0 : Array Value) (hw : ∀ d ∈ tables_1, d.before a0 Z = true) (cs : Int32) (hcs : ¬ cs = 0) (SC : Sta Z Z.heap "java/lang/String" "COMPACT_STRINGS" "Z" (.int cs)) (hEW : EW Z a0 EL) (r su tu sh th sp tp : Addr) (U Hs Ps : List Int32) (h0 : Heap) (n0 : Nat) (OD : Old Z n0 h0) (FU : Fld Z h0 r "com/example/liburiref/liburiref/UriReference" "userInfo" "Ljava/lang/String;" (.ref su)) (FH : Fld Z h0 r "com/example/liburiref/liburiref/UriReference" "host" "Ljava/lang/String;" (.ref sh)) (FP : Fld Z h0 r "com/example/liburiref/liburiref/UriReference" "port" "Ljava/lang/String;" (.ref sp)) (SU : Sg Z h0 su tu U) (lU : U.length ≤ 1) (SH : Sg Z h0 sh th Hs) (lH : Hs.length ≤ 1) (SP : Sg Z h0 sp tp Ps) (lP : Ps.length ≤ 1) : KW false l Z M_au n0 (fun v h => ∃ o a e, v = some (.ref o) ∧ Keep h0 h [] ∧ Exa Z h o "java/util/Optional" ∧ Fld Z h o "java/util/Optional" "value" "Ljava/lang/Object;" (.ref a) ∧ Sg Z h a e (((((([] : List Int32) ++ U) ++ [nbI (64 : Int32)]) ++ Hs) ++ [nbI (58 : Int32)]) ++ Ps)) ([], fun _ => False) h0 0 0 0 #[.val (.ref r), .unset] [] := by
  have Z0 := OD.1 ▸ OD.2.1
  have K0 : Keep h0 h0 [] := Keep.refl _ _
  refine k_aloadN d_au_0 rfl rfl rfl ?_
  refine k_getField d_au_1 rfl (hw _ (List.mem_of_getElem? (i := 28) rfl)) Via.refl FH ?_
  refine k_ifnonnullY (pc' := 14) d_au_4 (by decide) (by decide) ?_
  refine k_new d_au_14 rfl (hw _ (List.mem_of_getElem? (i := 74) rfl)) (hw _ (List.mem_of_getElem? (i := 75) rfl)) (hw _ (List.mem_of_getElem? (i := 76) rfl)) (by decide) (by decide) ?_
  intro h122 a121 g126 E123 A124 D125
  have ne127 : r ≠ a121 := Nat.ne_of_lt (Nat.lt_of_lt_of_eq FU.lt g126.symm)
  have ne128 : su ≠ a121 := Nat.ne_of_lt (Nat.lt_of_lt_of_eq SU.lt g126.symm)
  have ne129 : tu ≠ a121 := Nat.ne_of_lt (Nat.lt_of_lt_of_eq SU.ltv g126.symm)
  have ne130 : sh ≠ a121 := Nat.ne_of_lt (Nat.lt_of_lt_of_eq SH.lt g126.symm)
  have ne131 : th ≠ a121 := Nat.ne_of_lt (Nat.lt_of_lt_of_eq SH.ltv g126.symm)
  have ne132 : sp ≠ a121 := Nat.ne_of_lt (Nat.lt_of_lt_of_eq SP.lt g126.symm)
  have ne133 : tp ≠ a121 := Nat.ne_of_lt (Nat.lt_of_lt_of_eq SP.ltv g126.symm)
  have z134 : n0 ≤ h0.size := Z0
  have ge135 : n0 ≤ a121 := Nat.le_trans z134 (Nat.le_of_eq g126.symm)
  have gl136 : h0.size ≤ a121 := Nat.le_of_eq g126.symm
  have gh137 := Nat.le_trans K0.1 gl136
  have F138 : Fld Z h122 a121 "java/lang/AbstractStringBuilder" "value" "[B" .null := D125 (Or.inl (hw _ (List.mem_of_getElem? (i := 89) rfl))) (ty := (.array .byte)) (by decide)
  have F139 : Fld Z h122 a121 "java/lang/AbstractStringBuilder" "coder" "B" (.int (0 : Int32)) := D125 (Or.inl (hw _ (List.mem_of_getElem? (i := 91) rfl))) (ty := .byte) (by decide)
  have F140 : Fld Z h122 a121 "java/lang/AbstractStringBuilder" "count" "I" (.int (0 : Int32)) := D125 (Or.inl (hw _ (List.mem_of_getElem? (i := 116) rfl))) (ty := .int) (by decide)
  refine KW.any (P' := ([], fun _ => False)) ?_
  show KW false l Z M_au n0 (fun v h => ∃ o a e, v = some (.ref o) ∧ Keep h0 h [] ∧ Exa Z h o "java/util/Optional" ∧ Fld Z h o "java/util/Optional" "value" "Ljava/lang/Object;" (.ref a) ∧ Sg Z h a e (((((([] : List Int32) ++ U) ++ [nbI (64 : Int32)]) ++ Hs) ++ [nbI (58 : Int32)]) ++ Ps)) ([], fun _ => False) h122 1 4 17 #[.val (.ref r), .unset] [(.ref a121)]
  refine k_dup d_au_17 rfl rfl ?_
  have f141 := (FU.ext E123)
  have f142 := (SU.ext E123)
  have f143 := (SH.ext E123)
  have f144 := (SP.ext E123)
  have f145 := (K0.ext E123)
  have f146 := (OD.ext E123)
  refine k_callInit (a := a121) (argsL := []) (rest := [(.ref a121)]) (W0 := 1) d_au_18 rfl (mt_sbi l Z a0 hw cs hcs SC hEW a121 h122 n0 f146 ge135 A124 F138 F139 F140) Kp.strict rfl rfl (hw _ (List.mem_of_getElem? (i := 77) rfl)) (hw _ (List.mem_of_getElem? (i := 78) rfl)) (hw _ (List.mem_of_getElem? (i := 76) rfl)) (hw _ (List.mem_of_getElem? (i := 79) rfl)) (by decide) pd_sbi rfl rfl rfl rfl (by decide) (by decide) (by decide) (by decide) ?_
  rintro _ hM - ⟨rfl, d, gd1, gd2, KM, SBM⟩
  have ne147 : r ≠ d := Nat.ne_of_lt (Nat.lt_of_lt_of_le f141.lt gd1)
  have ne148 : su ≠ d := Nat.ne_of_lt (Nat.lt_of_lt_of_le f142.lt gd1)
  have ne149 : tu ≠ d := Nat.ne_of_lt (Nat.lt_of_lt_of_le f142.ltv gd1)
  have ne150 : sh ≠ d := Nat.ne_of_lt (Nat.lt_of_lt_of_le f143.lt gd1)
  have ne151 : th ≠ d := Nat.ne_of_lt (Nat.lt_of_lt_of_le f143.ltv gd1)
  have ne152 : sp ≠ d := Nat.ne_of_lt (Nat.lt_of_lt_of_le f144.lt gd1)
  have ne153 : tp ≠ d := Nat.ne_of_lt (Nat.lt_of_lt_of_le f144.ltv gd1)
  have ne154 : a121 ≠ d := Nat.ne_of_lt (Nat.lt_of_lt_of_le A124.lt gd1)
  have gdh := Nat.le_trans f145.1 gd1
  refine KW.any (P' := ([], fun _ => False)) ?_
  show KW false l Z M_au n0 (fun v h => ∃ o a e, v = some (.ref o) ∧ Keep h0 h [] ∧ Exa Z h o "java/util/Optional" ∧ Fld Z h o "java/util/Optional" "value" "Ljava/lang/Object;" (.ref a) ∧ Sg Z h a e (((((([] : List Int32) ++ U) ++ [nbI (64 : Int32)]) ++ Hs) ++ [nbI (58 : Int32)]) ++ Ps)) ([], fun _ => False) hM 2 20 21 #[.val (.ref r), .unset] [(.ref a121)]
  refine k_aloadN d_au_21 rfl rfl rfl ?_
  have f155 := (f141.keep KM (ninS ne127 nin0))
  refine k_getField d_au_22 rfl (hw _ (List.mem_of_getElem? (i := 26) rfl)) Via.refl f155 ?_
  refine k_aloadN d_au_25 rfl rfl rfl ?_
  have f156 := ((FH.ext E123).keep KM (ninS ne127 nin0))
  refine k_getField d_au_26 rfl (hw _ (List.mem_of_getElem? (i := 28) rfl)) Via.refl f156 ?_
  refine k_aloadN d_au_29 rfl rfl rfl ?_
  have f157 := ((FP.ext E123).keep KM (ninS ne127 nin0))
  refine k_getField d_au_30 rfl (hw _ (List.mem_of_getElem? (i := 30) rfl)) Via.refl f157 ?_
  have f158 := (f146.keep KM (allS ge135 all0))
  have f159 := (f145.trans KM (allS (Or.inr gh137) all0))
  have f160 := (f142.keep KM (ninS ne128 nin0) (ninS ne129 nin0))
  have f161 := (f143.keep KM (ninS ne130 nin0) (ninS ne131 nin0))
  have f162 := (f144.keep KM (ninS ne132 nin0) (ninS ne133 nin0))
  refine k_callStatic (argsL := [(.ref a121), (.ref su), (.ref sh), (.ref sp)]) (rest := []) (W0 := 0) d_au_33 rfl (mt_aa11 l Z a0 hw cs hcs SC hEW a121 d su tu sh th sp tp U Hs Ps hM n0 f158 SBM ne154 ge135 gd2 f160 lU ne128 ne148 ne129 ne149 f161 lH ne130 ne150 ne131 ne151 f162 lP ne132 ne152 ne133 ne153) Kp.strict (hw _ (List.mem_of_getElem? (i := 92) rfl)) (hw _ (List.mem_of_getElem? (i := 93) rfl)) (hw _ (List.mem_of_getElem? (i := 6) rfl)) (hw _ (List.mem_of_getElem? (i := 94) rfl)) (by decide) pd_aa rfl rfl rfl rfl (by decide) (by decide) (by decide) (by decide) ?_
  rintro _ hQ - ⟨rfl, KQ, SBQ⟩
  refine KW.any (P' := ([], fun _ => False)) ?_
  show KW false l Z M_au n0 (fun v h => ∃ o a e, v = some (.ref o) ∧ Keep h0 h [] ∧ Exa Z h o "java/util/Optional" ∧ Fld Z h o "java/util/Optional" "value" "Ljava/lang/Object;" (.ref a) ∧ Sg Z h a e (((((([] : List Int32) ++ U) ++ [nbI (64 : Int32)]) ++ Hs) ++ [nbI (58 : Int32)]) ++ Ps)) ([], fun _ => False) hQ 2 20 36 #[.val (.ref r), .unset] [(.ref a121)]
  have f163 := (f158.keep KQ (allS ge135 (allS gd2 all0)))
  have f164 := (f159.trans KQ (allS (Or.inr gh137) (allS (Or.inr gdh) all0)))
  refine k_callVirtual (argsL := []) (rest := []) (W0 := 0) d_au_36 rfl (mt_tos l Z a0 hw cs hcs SC hEW a121 d 16 (((((([] : List Int32) ++ U) ++ [nbI (64 : Int32)]) ++ Hs) ++ [nbI (58 : Int32)]) ++ Ps) hQ n0 f163 SBQ (by simp only [List.length_append, List.length_nil, List.length_cons]; omega) (by simp only [List.length_append, List.length_nil, List.length_cons]; omega)) Kp.strict SBQ.exa (hw _ (List.mem_of_getElem? (i := 142) rfl)) (hw _ (List.mem_of_getElem? (i := 143) rfl)) (hw _ (List.mem_of_getElem? (i := 145) rfl)) (hw _ (List.mem_of_getElem? (i := 98) rfl)) rfl (hw _ (List.mem_of_getElem? (i := 144) rfl)) (hw _ (List.mem_of_getElem? (i := 146) rfl)) (hw _ (List.mem_of_getElem? (i := 76) rfl)) (by decide) pd_tos rfl rfl rfl rfl (by decide) (by decide) (by decide) (by decide) ?_
  rintro _ hR - ⟨a, e, rfl, KR, SGR⟩
  refine KW.any (P' := ([], fun _ => False)) ?_
  show KW false l Z M_au n0 (fun v h => ∃ o a e, v = some (.ref o) ∧ Keep h0 h [] ∧ Exa Z h o "java/util/Optional" ∧ Fld Z h o "java/util/Optional" "value" "Ljava/lang/Object;" (.ref a) ∧ Sg Z h a e (((((([] : List Int32) ++ U) ++ [nbI (64 : Int32)]) ++ Hs) ++ [nbI (58 : Int32)]) ++ Ps)) ([], fun _ => False) hR 4 40 39 #[.val (.ref r), .unset] [(.ref a)]
  have f165 := (f163.keep KR all0)
  have f166 := (f164.trans KR all0)
  refine k_callStatic (argsL := [(.ref a)]) (rest := []) (W0 := 0) d_au_39 rfl (mt_oof l Z a0 hw cs hcs SC hEW a hR n0 f165) Kp.strict (hw _ (List.mem_of_getElem? (i := 187) rfl)) (hw _ (List.mem_of_getElem? (i := 188) rfl)) (hw _ (List.mem_of_getElem? (i := 45) rfl)) (hw _ (List.mem_of_getElem? (i := 189) rfl)) (by decide) pd_oof rfl rfl rfl rfl (by decide) (by decide) (by decide) (by decide) ?_
  rintro _ hS - ⟨o, rfl, KS, EO, FO⟩
  refine KW.any (P' := ([], fun _ => False)) ?_
  show KW false l Z M_au n0 (fun v h => ∃ o a e, v = some (.ref o) ∧ Keep h0 h [] ∧ Exa Z h o "java/util/Optional" ∧ Fld Z h o "java/util/Optional" "value" "Ljava/lang/Object;" (.ref a) ∧ Sg Z h a e (((((([] : List Int32) ++ U) ++ [nbI (64 : Int32)]) ++ Hs) ++ [nbI (58 : Int32)]) ++ Ps)) ([], fun _ => False) hS 5 41 42 #[.val (.ref r), .unset] [(.ref o)]
  refine k_astoreN (Ls' := #[.val (.ref r), .val (.ref o)]) d_au_42 rfl rfl rfl ?_
  refine k_aloadN d_au_43 rfl rfl rfl ?_
  have f167 := (f166.trans KS all0)
  have f168 := (SGR.keep KS nin0 nin0)
  exact k_retRef d_au_44 rfl rfl rfl (by decide) (by decide) ⟨o, a, e, rfl, f167, EO, FO, f168⟩
theorem mt_au11 (l : Launch) (Z : State) (a0 : Array Value) (hw : ∀ d ∈ tables_1, d.before a0 Z = true) (cs : Int32) (hcs : ¬ cs = 0) (SC : Sta Z Z.heap "java/lang/String" "COMPACT_STRINGS" "Z" (.int cs)) (hEW : EW Z a0 EL) (r su tu sh th sp tp : Addr) (U Hs Ps : List Int32) (h0 : Heap) (n0 : Nat) (OD : Old Z n0 h0) (FU : Fld Z h0 r "com/example/liburiref/liburiref/UriReference" "userInfo" "Ljava/lang/String;" (.ref su)) (FH : Fld Z h0 r "com/example/liburiref/liburiref/UriReference" "host" "Ljava/lang/String;" (.ref sh)) (FP : Fld Z h0 r "com/example/liburiref/liburiref/UriReference" "port" "Ljava/lang/String;" (.ref sp)) (SU : Sg Z h0 su tu U) (lU : U.length ≤ 1) (SH : Sg Z h0 sh th Hs) (lH : Hs.length ≤ 1) (SP : Sg Z h0 sp tp Ps) (lP : Ps.length ≤ 1) : Mt l Z M_au [] n0 #[(.ref r)] h0 (fun v h => ∃ o a e, v = some (.ref o) ∧ Keep h0 h [] ∧ Exa Z h o "java/util/Optional" ∧ Fld Z h o "java/util/Optional" "value" "Ljava/lang/Object;" (.ref a) ∧ Sg Z h a e (((((([] : List Int32) ++ U) ++ [nbI (64 : Int32)]) ++ Hs) ++ [nbI (58 : Int32)]) ++ Ps)) :=
  mt_of_kw (P := ([], fun _ => False)) pf_au (fun m => by first | (simp [entryFrame, mkF, argsToLocals, Value.category]; done) | rfl) (kw_au11 l Z a0 hw cs hcs SC hEW r su tu sh th sp tp U Hs Ps h0 n0 OD FU FH FP SU lU SH lH SP lP)
set_option maxRecDepth 65536 in
set_option maxHeartbeats 40000000 in
theorem kw_auN (l : Launch) (Z : State) (a0 : Array Value) (hw : ∀ d ∈ tables_1, d.before a0 Z = true) (cs : Int32) (hcs : ¬ cs = 0) (SC : Sta Z Z.heap "java/lang/String" "COMPACT_STRINGS" "Z" (.int cs)) (hEW : EW Z a0 EL) (em : Addr) (SE : Sta Z Z.heap "java/util/Optional" "EMPTY" "Ljava/util/Optional;" (.ref em)) (r : Addr) (h0 : Heap) (n0 : Nat) (OD : Old Z n0 h0) (FH : Fld Z h0 r "com/example/liburiref/liburiref/UriReference" "host" "Ljava/lang/String;" .null) : KW false l Z M_au n0 (fun v h => v = some (.ref em) ∧ h0 = h) ([], fun _ => False) h0 0 0 0 #[.val (.ref r), .unset] [] := by
  refine k_aloadN d_au_0 rfl rfl rfl ?_
  refine k_getField d_au_1 rfl (hw _ (List.mem_of_getElem? (i := 28) rfl)) Via.refl FH ?_
  refine k_ifnonnullN d_au_4 rfl ?_
  refine k_callStatic (argsL := []) (rest := []) (W0 := 0) d_au_7 rfl (mt_oem l Z a0 hw cs hcs SC hEW em SE h0 n0 OD) Kp.strict (hw _ (List.mem_of_getElem? (i := 43) rfl)) (hw _ (List.mem_of_getElem? (i := 44) rfl)) (hw _ (List.mem_of_getElem? (i := 45) rfl)) (hw _ (List.mem_of_getElem? (i := 46) rfl)) (by decide) pd_oem rfl rfl rfl rfl (by decide) (by decide) (by decide) (by decide) ?_
  rintro _ _ - ⟨rfl, rfl⟩
  refine KW.any (P' := ([], fun _ => False)) ?_
  show KW false l Z M_au n0 (fun v h => v = some (.ref em) ∧ h0 = h) ([], fun _ => False) h0 0 0 10 #[.val (.ref r), .unset] [(.ref em)]
  refine k_astoreN (Ls' := #[.val (.ref r), .val (.ref em)]) d_au_10 rfl rfl rfl ?_
  refine k_goto (pc' := 43) d_au_11 (by decide) (by decide) ?_
  refine k_aloadN d_au_43 rfl rfl rfl ?_
  exact k_retRef d_au_44 rfl rfl rfl (by decide) (by decide) ⟨rfl, rfl⟩
theorem mt_auN (l : Launch) (Z : State) (a0 : Array Value) (hw : ∀ d ∈ tables_1, d.before a0 Z = true) (cs : Int32) (hcs : ¬ cs = 0) (SC : Sta Z Z.heap "java/lang/String" "COMPACT_STRINGS" "Z" (.int cs)) (hEW : EW Z a0 EL) (em : Addr) (SE : Sta Z Z.heap "java/util/Optional" "EMPTY" "Ljava/util/Optional;" (.ref em)) (r : Addr) (h0 : Heap) (n0 : Nat) (OD : Old Z n0 h0) (FH : Fld Z h0 r "com/example/liburiref/liburiref/UriReference" "host" "Ljava/lang/String;" .null) : Mt l Z M_au [] n0 #[(.ref r)] h0 (fun v h => v = some (.ref em) ∧ h0 = h) :=
  mt_of_kw (P := ([], fun _ => False)) pf_au (fun m => by first | (simp [entryFrame, mkF, argsToLocals, Value.category]; done) | rfl) (kw_auN l Z a0 hw cs hcs SC hEW em SE r h0 n0 OD FH)
theorem chB_nb {p : Int32} (h : Ch p) : chB (nbI p) = p := by
  have h' : 0 ≤ p.toInt ∧ p.toInt < 256 := h
  have e1 := c_i2b p; have e2 := c_i2b (Int8.toInt32 (Int32.toInt8 p))
  have e3 := c_mask (nbI p) 255 8 (by decide) (by decide)
  have e4 := c_i2c (nbI p &&& (255 : Int32))
  have e5 : (nbI p).toInt = (Int8.toInt32 (Int32.toInt8 (Int8.toInt32 (Int32.toInt8 p)))).toInt := rfl
  refine Int32.toInt_inj.mp ?_
  unfold chB
  omega
theorem narc {p : Int32} (h : Ch p) : nar .char p = p := by
  have e := c_i2c p; have h' : 0 ≤ p.toInt ∧ p.toInt < 256 := h
  refine Int32.toInt_inj.mp ?_
  show (p.toUInt32.toUInt16.toUInt32.toInt32).toInt = p.toInt
  omega
theorem ix_lt' {i j : Nat} (hi : i < 2147483648) (hj : j < 2147483648) (h : Int32.ofNat i < Int32.ofNat j) : i < j := by
  rw [Int32.lt_iff_toInt_lt, ix_int hi, ix_int hj] at h; omega
theorem getD_left (xs ys : List Int32) {j : Nat} (h : j < xs.length) : (xs ++ ys).getD j 0 = xs.getD j 0 := by
  simp only [List.getD_eq_getElem?_getD, List.getElem?_append_left h]
theorem getD_nb (xs : List Int32) {j : Nat} (h : j < xs.length) : (xs.map nbI).getD j 0 = nbI (xs.getD j 0) := by
  simp only [List.getD_eq_getElem?_getD, List.getElem?_map, List.getElem?_eq_getElem h]; rfl
theorem getD_mem (xs : List Int32) {j : Nat} (h : j < xs.length) : xs.getD j 0 ∈ xs := by
  simp only [List.getD_eq_getElem?_getD, List.getElem?_eq_getElem h]; exact List.getElem_mem h
abbrev M_atm : MD := ((⟨"com/example/liburiref/liburiref/UriReferenceAuthorityPinLaw", "at", "(Ljava/lang/String;[CII)Z"⟩ : MethodName), method_3_code, 4, (some .boolean), { frames := 4, cells := 0, slots := 0, locals := 64 })
theorem d_atm_0 : decode method_3_code 0 = .ok (.iload_n 3, 1) := by decide +kernel
theorem d_atm_1 : decode method_3_code 1 = .ok (.iload_n 2, 1) := by decide +kernel
theorem d_atm_2 : decode method_3_code 2 = .ok (.if_icmp .ge 14, 3) := by decide +kernel
theorem d_atm_5 : decode method_3_code 5 = .ok (.aload_n 0, 1) := by decide +kernel
theorem d_atm_6 : decode method_3_code 6 = .ok (.iload_n 3, 1) := by decide +kernel
theorem d_atm_7 : decode method_3_code 7 = .ok (.invokevirtual 15, 3) := by decide +kernel
theorem d_atm_10 : decode method_3_code 10 = .ok (.aload_n 1, 1) := by decide +kernel
theorem d_atm_11 : decode method_3_code 11 = .ok (.iload_n 3, 1) := by decide +kernel
theorem d_atm_12 : decode method_3_code 12 = .ok (.caload, 1) := by decide +kernel
theorem d_atm_13 : decode method_3_code 13 = .ok (.if_icmp .ne 7, 3) := by decide +kernel
theorem d_atm_16 : decode method_3_code 16 = .ok (.iconst 1, 1) := by decide +kernel
theorem d_atm_17 : decode method_3_code 17 = .ok (.goto 4, 3) := by decide +kernel
theorem d_atm_20 : decode method_3_code 20 = .ok (.iconst 0, 1) := by decide +kernel
theorem d_atm_21 : decode method_3_code 21 = .ok (.ireturn, 1) := by decide +kernel
theorem pd_atm : parseMethodDescriptor "(Ljava/lang/String;[CII)Z" = some ⟨[(.object "java/lang/String"), (.array .char), .int, .int], (some .boolean)⟩ := by decide +kernel
theorem pf_atm : plainFor (⟨"com/example/liburiref/liburiref/UriReferenceAuthorityPinLaw", "at", "(Ljava/lang/String;[CII)Z"⟩ : MethodName) = true := by first | exact plainFor_of_name (by first | (simp [plainName, overriddenIn]; done) | decide +kernel) | decide +kernel
set_option maxRecDepth 65536 in
set_option maxHeartbeats 40000000 in
theorem kw_atm (l : Launch) (Z : State) (a0 : Array Value) (hw : ∀ d ∈ tables_1, d.before a0 Z = true) (cs : Int32) (hcs : ¬ cs = 0) (SC : Sta Z Z.heap "java/lang/String" "COMPACT_STRINGS" "Z" (.int cs)) (hEW : EW Z a0 EL) (sio : Value) (SIO : Sta Z Z.heap "jdk/internal/util/Preconditions" "SIOOBE_FORMATTER" "Ljava/util/function/BiFunction;" sio) (hsio : sio.isRef = true) (a t bf : Addr) (ck : ClassId) (xs ys : List Int32) (j : Nat) (h0 : Heap) (n0 : Nat) (OD : Old Z n0 h0) (SA : Sg Z h0 a t (xs.map nbI)) (B : Arv Z h0 bf ck .char (5 : Int32) ((xs ++ ys).map Value.int) (.int 0)) (hl : (xs ++ ys).length = 5) (hj : j < 5) (hL : Latin xs) : KW false l Z M_atm n0 (fun v h => v = some (.int 1) ∧ h0 = h) ([], fun _ => False) h0 0 0 0 #[.val (.ref a), .val (.ref bf), .val (.int (Int32.ofNat xs.length)), .val (.int (Int32.ofNat j))] [] := by
  have hxl : xs.length ≤ 5 := by rw [List.length_append] at hl; omega
  refine k_iloadN d_atm_0 rfl rfl ?_
  refine k_iloadN d_atm_1 rfl rfl ?_
  refine k_icmp (pc1 := 16) (pc' := 5) d_atm_2 (by decide) (by decide) rfl (fun (cd1 : ¬ (Int32.ofNat j) < (Int32.ofNat xs.length)) => ?_) (fun (cd1 : (Int32.ofNat j) < (Int32.ofNat xs.length)) => ?_)
  · skip
    refine k_iconst (z := (1 : Int32)) d_atm_16 rfl (by decide) ?_
    refine k_goto (pc' := 21) d_atm_17 (by decide) (by decide) ?_
    exact k_retNar d_atm_21 rfl (by simp) (z' := (1 : Int32)) (by decide) (by decide) (by decide) ⟨rfl, rfl⟩
  · skip
    refine k_aloadN d_atm_5 rfl rfl rfl ?_
    refine k_iloadN d_atm_6 rfl rfl ?_
    have LJ : j < xs.length := ix_lt' (by omega) (by rw [List.length_append] at hl; omega) cd1
    refine k_callVirtual (argsL := [(.int (Int32.ofNat j))]) (rest := []) (W0 := 0) d_atm_7 rfl (mt_sca l Z a0 hw cs hcs SC hEW sio SIO hsio (Int32.ofNat j) (nbI (xs.getD j 0)) a t (xs.map nbI) h0 n0 OD SA (ix_inb (by rw [List.length_map]; omega) (by rw [List.length_map]; exact LJ)) (by rw [ix_nat (by omega), getD_int, getD_nb xs LJ])) Kp.strict SA.exa (hw _ (List.mem_of_getElem? (i := 212) rfl)) (hw _ (List.mem_of_getElem? (i := 213) rfl)) (hw _ (List.mem_of_getElem? (i := 215) rfl)) (hw _ (List.mem_of_getElem? (i := 108) rfl)) rfl (hw _ (List.mem_of_getElem? (i := 214) rfl)) (hw _ (List.mem_of_getElem? (i := 216) rfl)) (hw _ (List.mem_of_getElem? (i := 8) rfl)) (by decide) pd_sca rfl rfl rfl rfl (by decide) (by decide) (by decide) (by decide) ?_
    rintro _ _ - ⟨rfl, rfl⟩
    refine KW.any (P' := ([], fun _ => False)) ?_
    show KW false l Z M_atm n0 (fun v h => v = some (.int 1) ∧ h0 = h) ([], fun _ => False) h0 0 0 10 #[.val (.ref a), .val (.ref bf), .val (.int (Int32.ofNat xs.length)), .val (.int (Int32.ofNat j))] [(.int (chB (nbI (xs.getD j 0))))]
    refine k_aloadN d_atm_10 rfl rfl rfl ?_
    refine k_iloadN d_atm_11 rfl rfl ?_
    refine k_caload (v := (.int (xs.getD j 0))) d_atm_12 rfl B (ix_inb (n := 5) (by decide) hj) (by rw [ix_nat (by omega), getD_int, getD_left xs ys LJ]) ?_
    refine k_icmp (pc1 := 20) (pc' := 16) d_atm_13 (by decide) (by decide) rfl (fun (cd2 : ¬ (chB (nbI (xs.getD j 0))) = (xs.getD j 0)) => False.elim (by exact cd2 (chB_nb (hL _ (getD_mem xs LJ))))) (fun (cd2 : (chB (nbI (xs.getD j 0))) = (xs.getD j 0)) => ?_)
    refine k_iconst (z := (1 : Int32)) d_atm_16 rfl (by decide) ?_
    refine k_goto (pc' := 21) d_atm_17 (by decide) (by decide) ?_
    exact k_retNar d_atm_21 rfl (by simp) (z' := (1 : Int32)) (by decide) (by decide) (by decide) ⟨rfl, rfl⟩
theorem mt_atm (l : Launch) (Z : State) (a0 : Array Value) (hw : ∀ d ∈ tables_1, d.before a0 Z = true) (cs : Int32) (hcs : ¬ cs = 0) (SC : Sta Z Z.heap "java/lang/String" "COMPACT_STRINGS" "Z" (.int cs)) (hEW : EW Z a0 EL) (sio : Value) (SIO : Sta Z Z.heap "jdk/internal/util/Preconditions" "SIOOBE_FORMATTER" "Ljava/util/function/BiFunction;" sio) (hsio : sio.isRef = true) (a t bf : Addr) (ck : ClassId) (xs ys : List Int32) (j : Nat) (h0 : Heap) (n0 : Nat) (OD : Old Z n0 h0) (SA : Sg Z h0 a t (xs.map nbI)) (B : Arv Z h0 bf ck .char (5 : Int32) ((xs ++ ys).map Value.int) (.int 0)) (hl : (xs ++ ys).length = 5) (hj : j < 5) (hL : Latin xs) : Mt l Z M_atm [] n0 #[(.ref a), (.ref bf), (.int (Int32.ofNat xs.length)), (.int (Int32.ofNat j))] h0 (fun v h => v = some (.int 1) ∧ h0 = h) :=
  mt_of_kw (P := ([], fun _ => False)) pf_atm (fun m => by first | (simp [entryFrame, mkF, argsToLocals, Value.category]; done) | rfl) (kw_atm l Z a0 hw cs hcs SC hEW sio SIO hsio a t bf ck xs ys j h0 n0 OD SA B hl hj hL)
abbrev M_law : MD := (x, code, maxLocals, ret, room_1)
theorem pd_law : parseMethodDescriptor "(IIII)Z" = some ⟨[.int, .int, .int, .int], (some .boolean)⟩ := by decide +kernel
theorem pf_law : plainFor (⟨"com/example/liburiref/liburiref/UriReferenceAuthorityPinLaw", "law", "(IIII)Z"⟩ : MethodName) = true := by first | exact plainFor_of_name (by first | (simp [plainName, overriddenIn]; done) | decide +kernel) | decide +kernel
def f244 (hm um pm uc hc pq : Int32) (xs : List Int32) : List Int32 := xs
def f228 (hm um pm uc hc pq : Int32) (xs : List Int32) : List Int32 := f244 hm um pm uc hc pq (if pm < 2 then xs else xs ++ [pq])
def f212 (hm um pm uc hc pq : Int32) (xs : List Int32) : List Int32 := f228 hm um pm uc hc pq (if pm < 1 then xs else xs ++ [58])
def f196 (hm um pm uc hc pq : Int32) (xs : List Int32) : List Int32 := f212 hm um pm uc hc pq (if hm < 2 then xs else xs ++ [hc])
def f180 (hm um pm uc hc pq : Int32) (xs : List Int32) : List Int32 := f196 hm um pm uc hc pq (if um < 1 then xs else xs ++ [64])
def f164 (hm um pm uc hc pq : Int32) (xs : List Int32) : List Int32 := f180 hm um pm uc hc pq (if um < 2 then xs else xs ++ [uc])
set_option maxRecDepth 65536 in
set_option maxHeartbeats 40000000 in
theorem kw_244 (l : Launch) (Z : State) (a0 : Array Value) (hw : ∀ d ∈ tables_1, d.before a0 Z = true) (cs : Int32) (hcs : ¬ cs = 0) (SC : Sta Z Z.heap "java/lang/String" "COMPACT_STRINGS" "Z" (.int cs)) (hEW : EW Z a0 EL) (g1 g2 g3 g4 hm um pm uc hc pq : Int32) (w10 w11 w12 w13 w14 : Value) (a t bf : Addr) (ck : ClassId) (T xs ys : List Int32) (h0 : Heap) (n0 : Nat) (sio : Value) (SIO : Sta Z Z.heap "jdk/internal/util/Preconditions" "SIOOBE_FORMATTER" "Ljava/util/function/BiFunction;" sio) (hsio : sio.isRef = true) (OD : Old Z n0 h0) (SA : Sg Z h0 a t T) (B : Arv Z h0 bf ck .char (5 : Int32) ((xs ++ ys).map Value.int) (.int 0)) (hl : (xs ++ ys).length = 5) (eab : a ≠ bf) (etb : t ≠ bf) (gbf : n0 ≤ bf) (hL : Latin xs) (huc : Ch uc) (hhc : Ch hc) (hpq : Ch pq) (hT : T = (f244 hm um pm uc hc pq xs).map nbI) : KW true l Z M_law n0 (fun v _ => v = some (.int 1)) (EL, fun _ => False) h0 30 300 244 #[.val (.int g1), .val (.int g2), .val (.int g3), .val (.int g4), .val (.int hm), .val (.int um), .val (.int pm), .val (.int uc), .val (.int hc), .val (.int pq), .val w10, .val w11, .val w12, .val w13, .val w14, .val (.ref a), .val (.ref bf), .val (.int (Int32.ofNat xs.length))] [] := by
  have SA2 : Sg Z h0 a t (xs.map nbI) := by rw [hT] at SA; exact SA
  have EAx := SA.exa
  refine k_aload at_244 rfl rfl rfl ?_
  refine k_callVirtual (argsL := []) (rest := []) (W0 := 0) at_246 rfl (mt_len l Z a0 hw cs hcs SC hEW a t T h0 n0 OD SA) (Kp.pure (fun _ _ q => q.2.symm)) EAx (hw _ (List.mem_of_getElem? (i := 208) rfl)) (hw _ (List.mem_of_getElem? (i := 106) rfl)) (hw _ (List.mem_of_getElem? (i := 108) rfl)) (hw _ (List.mem_of_getElem? (i := 108) rfl)) rfl (hw _ (List.mem_of_getElem? (i := 107) rfl)) (hw _ (List.mem_of_getElem? (i := 109) rfl)) (hw _ (List.mem_of_getElem? (i := 8) rfl)) (by decide) pd_len rfl rfl rfl rfl (by decide) (by decide) (by decide) (by decide) ?_
  rintro _ _ - ⟨rfl, rfl⟩
  rw [show T.length = xs.length by rw [hT]; simp [f244]]
  refine KW.sub (S' := fun _ => False) (fun x hx => hx.elim) ?_
  show KW true l Z M_law n0 (fun v _ => v = some (.int 1)) (EL, fun _ => False) h0 30 300 249 #[.val (.int g1), .val (.int g2), .val (.int g3), .val (.int g4), .val (.int hm), .val (.int um), .val (.int pm), .val (.int uc), .val (.int hc), .val (.int pq), .val w10, .val w11, .val w12, .val w13, .val w14, .val (.ref a), .val (.ref bf), .val (.int (Int32.ofNat xs.length))] [(.int (Int32.ofNat xs.length))]
  refine k_iload at_249 rfl rfl ?_
  refine k_icmp (pc1 := 323) (pc' := 254) at_251 (by decide) (by decide) rfl (fun (cd1 : ¬ (Int32.ofNat xs.length) = (Int32.ofNat xs.length)) => False.elim (by exact cd1 rfl)) (fun (cd1 : (Int32.ofNat xs.length) = (Int32.ofNat xs.length)) => ?_)
  refine k_aload at_254 rfl rfl rfl ?_
  refine k_aload at_256 rfl rfl rfl ?_
  refine k_iload at_258 rfl rfl ?_
  refine k_iconst (z := (0 : Int32)) at_260 rfl (by decide) ?_
  refine k_callStatic (argsL := [(.ref a), (.ref bf), (.int (Int32.ofNat xs.length)), (.int (0 : Int32))]) (rest := []) (W0 := 0) at_261 rfl (mt_atm l Z a0 hw cs hcs SC hEW sio SIO hsio a t bf ck xs ys 0 h0 n0 OD SA2 B hl (by decide) hL) (Kp.pure (fun _ _ q => q.2.symm)) (hw _ (List.mem_of_getElem? (i := 209) rfl)) (hw _ (List.mem_of_getElem? (i := 210) rfl)) (hw _ (List.mem_of_getElem? (i := 2) rfl)) (hw _ (List.mem_of_getElem? (i := 211) rfl)) (by decide) pd_atm rfl rfl rfl rfl (by decide) (by decide) (by decide) (by decide) ?_
  rintro _ _ - ⟨rfl, rfl⟩
  refine KW.sub (S' := fun _ => False) (fun x hx => hx.elim) ?_
  show KW true l Z M_law n0 (fun v _ => v = some (.int 1)) (EL, fun _ => False) h0 30 300 264 #[.val (.int g1), .val (.int g2), .val (.int g3), .val (.int g4), .val (.int hm), .val (.int um), .val (.int pm), .val (.int uc), .val (.int hc), .val (.int pq), .val w10, .val w11, .val w12, .val w13, .val w14, .val (.ref a), .val (.ref bf), .val (.int (Int32.ofNat xs.length))] [(.int (1 : Int32))]
  refine k_ifc (pc1 := 323) (pc' := 267) at_264 (by decide) (by decide) rfl (fun (cd2 : (1 : Int32) = (0 : Int32)) => False.elim (by exact absurd cd2 (by decide))) (fun (cd2 : ¬ (1 : Int32) = (0 : Int32)) => ?_)
  refine k_aload at_267 rfl rfl rfl ?_
  refine k_aload at_269 rfl rfl rfl ?_
  refine k_iload at_271 rfl rfl ?_
  refine k_iconst (z := (1 : Int32)) at_273 rfl (by decide) ?_
  refine k_callStatic (argsL := [(.ref a), (.ref bf), (.int (Int32.ofNat xs.length)), (.int (1 : Int32))]) (rest := []) (W0 := 0) at_274 rfl (mt_atm l Z a0 hw cs hcs SC hEW sio SIO hsio a t bf ck xs ys 1 h0 n0 OD SA2 B hl (by decide) hL) (Kp.pure (fun _ _ q => q.2.symm)) (hw _ (List.mem_of_getElem? (i := 209) rfl)) (hw _ (List.mem_of_getElem? (i := 210) rfl)) (hw _ (List.mem_of_getElem? (i := 2) rfl)) (hw _ (List.mem_of_getElem? (i := 211) rfl)) (by decide) pd_atm rfl rfl rfl rfl (by decide) (by decide) (by decide) (by decide) ?_
  rintro _ _ - ⟨rfl, rfl⟩
  refine KW.sub (S' := fun _ => False) (fun x hx => hx.elim) ?_
  show KW true l Z M_law n0 (fun v _ => v = some (.int 1)) (EL, fun _ => False) h0 30 300 277 #[.val (.int g1), .val (.int g2), .val (.int g3), .val (.int g4), .val (.int hm), .val (.int um), .val (.int pm), .val (.int uc), .val (.int hc), .val (.int pq), .val w10, .val w11, .val w12, .val w13, .val w14, .val (.ref a), .val (.ref bf), .val (.int (Int32.ofNat xs.length))] [(.int (1 : Int32))]
  refine k_ifc (pc1 := 323) (pc' := 280) at_277 (by decide) (by decide) rfl (fun (cd3 : (1 : Int32) = (0 : Int32)) => False.elim (by exact absurd cd3 (by decide))) (fun (cd3 : ¬ (1 : Int32) = (0 : Int32)) => ?_)
  refine k_aload at_280 rfl rfl rfl ?_
  refine k_aload at_282 rfl rfl rfl ?_
  refine k_iload at_284 rfl rfl ?_
  refine k_iconst (z := (2 : Int32)) at_286 rfl (by decide) ?_
  refine k_callStatic (argsL := [(.ref a), (.ref bf), (.int (Int32.ofNat xs.length)), (.int (2 : Int32))]) (rest := []) (W0 := 0) at_287 rfl (mt_atm l Z a0 hw cs hcs SC hEW sio SIO hsio a t bf ck xs ys 2 h0 n0 OD SA2 B hl (by decide) hL) (Kp.pure (fun _ _ q => q.2.symm)) (hw _ (List.mem_of_getElem? (i := 209) rfl)) (hw _ (List.mem_of_getElem? (i := 210) rfl)) (hw _ (List.mem_of_getElem? (i := 2) rfl)) (hw _ (List.mem_of_getElem? (i := 211) rfl)) (by decide) pd_atm rfl rfl rfl rfl (by decide) (by decide) (by decide) (by decide) ?_
  rintro _ _ - ⟨rfl, rfl⟩
  refine KW.sub (S' := fun _ => False) (fun x hx => hx.elim) ?_
  show KW true l Z M_law n0 (fun v _ => v = some (.int 1)) (EL, fun _ => False) h0 30 300 290 #[.val (.int g1), .val (.int g2), .val (.int g3), .val (.int g4), .val (.int hm), .val (.int um), .val (.int pm), .val (.int uc), .val (.int hc), .val (.int pq), .val w10, .val w11, .val w12, .val w13, .val w14, .val (.ref a), .val (.ref bf), .val (.int (Int32.ofNat xs.length))] [(.int (1 : Int32))]
  refine k_ifc (pc1 := 323) (pc' := 293) at_290 (by decide) (by decide) rfl (fun (cd4 : (1 : Int32) = (0 : Int32)) => False.elim (by exact absurd cd4 (by decide))) (fun (cd4 : ¬ (1 : Int32) = (0 : Int32)) => ?_)
  refine k_aload at_293 rfl rfl rfl ?_
  refine k_aload at_295 rfl rfl rfl ?_
  refine k_iload at_297 rfl rfl ?_
  refine k_iconst (z := (3 : Int32)) at_299 rfl (by decide) ?_
  refine k_callStatic (argsL := [(.ref a), (.ref bf), (.int (Int32.ofNat xs.length)), (.int (3 : Int32))]) (rest := []) (W0 := 0) at_300 rfl (mt_atm l Z a0 hw cs hcs SC hEW sio SIO hsio a t bf ck xs ys 3 h0 n0 OD SA2 B hl (by decide) hL) (Kp.pure (fun _ _ q => q.2.symm)) (hw _ (List.mem_of_getElem? (i := 209) rfl)) (hw _ (List.mem_of_getElem? (i := 210) rfl)) (hw _ (List.mem_of_getElem? (i := 2) rfl)) (hw _ (List.mem_of_getElem? (i := 211) rfl)) (by decide) pd_atm rfl rfl rfl rfl (by decide) (by decide) (by decide) (by decide) ?_
  rintro _ _ - ⟨rfl, rfl⟩
  refine KW.sub (S' := fun _ => False) (fun x hx => hx.elim) ?_
  show KW true l Z M_law n0 (fun v _ => v = some (.int 1)) (EL, fun _ => False) h0 30 300 303 #[.val (.int g1), .val (.int g2), .val (.int g3), .val (.int g4), .val (.int hm), .val (.int um), .val (.int pm), .val (.int uc), .val (.int hc), .val (.int pq), .val w10, .val w11, .val w12, .val w13, .val w14, .val (.ref a), .val (.ref bf), .val (.int (Int32.ofNat xs.length))] [(.int (1 : Int32))]
  refine k_ifc (pc1 := 323) (pc' := 306) at_303 (by decide) (by decide) rfl (fun (cd5 : (1 : Int32) = (0 : Int32)) => False.elim (by exact absurd cd5 (by decide))) (fun (cd5 : ¬ (1 : Int32) = (0 : Int32)) => ?_)
  refine k_aload at_306 rfl rfl rfl ?_
  refine k_aload at_308 rfl rfl rfl ?_
  refine k_iload at_310 rfl rfl ?_
  refine k_iconst (z := (4 : Int32)) at_312 rfl (by decide) ?_
  refine k_callStatic (argsL := [(.ref a), (.ref bf), (.int (Int32.ofNat xs.length)), (.int (4 : Int32))]) (rest := []) (W0 := 0) at_313 rfl (mt_atm l Z a0 hw cs hcs SC hEW sio SIO hsio a t bf ck xs ys 4 h0 n0 OD SA2 B hl (by decide) hL) (Kp.pure (fun _ _ q => q.2.symm)) (hw _ (List.mem_of_getElem? (i := 209) rfl)) (hw _ (List.mem_of_getElem? (i := 210) rfl)) (hw _ (List.mem_of_getElem? (i := 2) rfl)) (hw _ (List.mem_of_getElem? (i := 211) rfl)) (by decide) pd_atm rfl rfl rfl rfl (by decide) (by decide) (by decide) (by decide) ?_
  rintro _ _ - ⟨rfl, rfl⟩
  refine KW.sub (S' := fun _ => False) (fun x hx => hx.elim) ?_
  show KW true l Z M_law n0 (fun v _ => v = some (.int 1)) (EL, fun _ => False) h0 30 300 316 #[.val (.int g1), .val (.int g2), .val (.int g3), .val (.int g4), .val (.int hm), .val (.int um), .val (.int pm), .val (.int uc), .val (.int hc), .val (.int pq), .val w10, .val w11, .val w12, .val w13, .val w14, .val (.ref a), .val (.ref bf), .val (.int (Int32.ofNat xs.length))] [(.int (1 : Int32))]
  refine k_ifc (pc1 := 323) (pc' := 319) at_316 (by decide) (by decide) rfl (fun (cd6 : (1 : Int32) = (0 : Int32)) => False.elim (by exact absurd cd6 (by decide))) (fun (cd6 : ¬ (1 : Int32) = (0 : Int32)) => ?_)
  refine k_iconst (z := (1 : Int32)) at_319 rfl (by decide) ?_
  refine k_goto (pc' := 324) at_320 (by decide) (by decide) ?_
  exact k_retNar at_324 rfl (by simp) (z' := (1 : Int32)) (by decide) (by decide) (by decide) rfl
theorem Latin.app {xs ys : List Int32} (h : Latin xs) (k : Latin ys) : Latin (xs ++ ys) := fun q hq => (List.mem_append.mp hq).elim (h q) (k q)
set_option maxRecDepth 65536 in
set_option maxHeartbeats 40000000 in
theorem kw_228 (l : Launch) (Z : State) (a0 : Array Value) (hw : ∀ d ∈ tables_1, d.before a0 Z = true) (cs : Int32) (hcs : ¬ cs = 0) (SC : Sta Z Z.heap "java/lang/String" "COMPACT_STRINGS" "Z" (.int cs)) (hEW : EW Z a0 EL) (g1 g2 g3 g4 hm um pm uc hc pq : Int32) (w10 w11 w12 w13 w14 : Value) (a t bf : Addr) (ck : ClassId) (T xs ys : List Int32) (h0 : Heap) (n0 : Nat) (sio : Value) (SIO : Sta Z Z.heap "jdk/internal/util/Preconditions" "SIOOBE_FORMATTER" "Ljava/util/function/BiFunction;" sio) (hsio : sio.isRef = true) (OD : Old Z n0 h0) (SA : Sg Z h0 a t T) (B : Arv Z h0 bf ck .char (5 : Int32) ((xs ++ ys).map Value.int) (.int 0)) (hl : (xs ++ ys).length = 5) (eab : a ≠ bf) (etb : t ≠ bf) (gbf : n0 ≤ bf) (hL : Latin xs) (huc : Ch uc) (hhc : Ch hc) (hpq : Ch pq) (hr : xs.length + 1 ≤ 5) (hT : T = (f228 hm um pm uc hc pq xs).map nbI) : KW true l Z M_law n0 (fun v _ => v = some (.int 1)) (EL, fun _ => False) h0 30 300 228 #[.val (.int g1), .val (.int g2), .val (.int g3), .val (.int g4), .val (.int hm), .val (.int um), .val (.int pm), .val (.int uc), .val (.int hc), .val (.int pq), .val w10, .val w11, .val w12, .val w13, .val w14, .val (.ref a), .val (.ref bf), .val (.int (Int32.ofNat xs.length))] [] := by
  have EAx := SA.exa
  obtain ⟨y0, ys, rfl⟩ : ∃ y r, ys = y :: r := by
    cases ys with
    | nil => rw [List.append_nil] at hl; omega
    | cons z r => exact ⟨z, r, rfl⟩
  refine k_iload at_228 rfl rfl ?_
  refine k_iconst (z := (2 : Int32)) at_230 rfl (by decide) ?_
  refine k_icmp (pc1 := 244) (pc' := 234) at_231 (by decide) (by decide) rfl (fun (cd7 : pm < (2 : Int32)) => ?_) (fun (cd7 : ¬ pm < (2 : Int32)) => ?_)
  · skip
    exact kw_244 l Z a0 hw cs hcs SC hEW g1 g2 g3 g4 hm um pm uc hc pq w10 w11 w12 w13 w14 a t bf ck T xs (y0 :: ys) h0 n0 sio SIO hsio OD SA B hl eab etb gbf hL huc hhc hpq (by rw [hT, f228, if_pos cd7])
  · skip
    refine k_aload at_234 rfl rfl rfl ?_
    refine k_iload at_236 rfl rfl ?_
    refine k_iload at_238 rfl rfl ?_
    refine k_castore (i := xs.length) at_240 rfl B (ix_inb (n := 5) (by decide) (by omega)) (ix_nat (by omega)) (by rw [List.length_map, hl]; omega) gbf (fun _ => Sf.arv B (by decide)) ?_
    intro h4 W5 V2
    rw [narc hpq, show (xs ++ y0 :: ys).map Value.int = xs.map Value.int ++ Value.int y0 :: ys.map Value.int by simp, set_mid _ _ _ _ (by simp)] at V2
    have V3 : Arv Z h4 bf ck .char (5 : Int32) (((xs ++ [pq]) ++ ys).map Value.int) (.int 0) := by simpa using V2
    show KW true l Z M_law n0 (fun v _ => v = some (.int 1)) (EL, fun _ => False) h4 30 300 241 #[.val (.int g1), .val (.int g2), .val (.int g3), .val (.int g4), .val (.int hm), .val (.int um), .val (.int pm), .val (.int uc), .val (.int hc), .val (.int pq), .val w10, .val w11, .val w12, .val w13, .val w14, .val (.ref a), .val (.ref bf), .val (.int (Int32.ofNat xs.length))] []
    refine k_iinc (z := (1 : Int32)) (Ls' := #[.val (.int g1), .val (.int g2), .val (.int g3), .val (.int g4), .val (.int hm), .val (.int um), .val (.int pm), .val (.int uc), .val (.int hc), .val (.int pq), .val w10, .val w11, .val w12, .val w13, .val w14, .val (.ref a), .val (.ref bf), .val (.int ((Int32.ofNat xs.length) + (1 : Int32)))]) at_241 rfl (by decide) rfl rfl ?_
    have f6 := (OD.wr W5 gbf)
    have f7 := (SA.wr W5 eab etb)
    have J := kw_244 l Z a0 hw cs hcs SC hEW g1 g2 g3 g4 hm um pm uc hc pq w10 w11 w12 w13 w14 a t bf ck T (xs ++ [pq]) ys h4 n0 sio SIO hsio f6 f7 V3 (by rw [← hl]; simp) eab etb gbf (Latin.app hL (Latin.cons hpq Latin.nil)) huc hhc hpq (by rw [hT, f228, if_neg cd7])
    rw [show (xs ++ [pq]).length = xs.length + 1 by simp, ← ix_succ] at J
    exact J

set_option maxRecDepth 65536 in
set_option maxHeartbeats 40000000 in
theorem kw_212 (l : Launch) (Z : State) (a0 : Array Value) (hw : ∀ d ∈ tables_1, d.before a0 Z = true) (cs : Int32) (hcs : ¬ cs = 0) (SC : Sta Z Z.heap "java/lang/String" "COMPACT_STRINGS" "Z" (.int cs)) (hEW : EW Z a0 EL) (g1 g2 g3 g4 hm um pm uc hc pq : Int32) (w10 w11 w12 w13 w14 : Value) (a t bf : Addr) (ck : ClassId) (T xs ys : List Int32) (h0 : Heap) (n0 : Nat) (sio : Value) (SIO : Sta Z Z.heap "jdk/internal/util/Preconditions" "SIOOBE_FORMATTER" "Ljava/util/function/BiFunction;" sio) (hsio : sio.isRef = true) (OD : Old Z n0 h0) (SA : Sg Z h0 a t T) (B : Arv Z h0 bf ck .char (5 : Int32) ((xs ++ ys).map Value.int) (.int 0)) (hl : (xs ++ ys).length = 5) (eab : a ≠ bf) (etb : t ≠ bf) (gbf : n0 ≤ bf) (hL : Latin xs) (huc : Ch uc) (hhc : Ch hc) (hpq : Ch pq) (hr : xs.length + 2 ≤ 5) (hT : T = (f212 hm um pm uc hc pq xs).map nbI) : KW true l Z M_law n0 (fun v _ => v = some (.int 1)) (EL, fun _ => False) h0 30 300 212 #[.val (.int g1), .val (.int g2), .val (.int g3), .val (.int g4), .val (.int hm), .val (.int um), .val (.int pm), .val (.int uc), .val (.int hc), .val (.int pq), .val w10, .val w11, .val w12, .val w13, .val w14, .val (.ref a), .val (.ref bf), .val (.int (Int32.ofNat xs.length))] [] := by
  have EAx := SA.exa
  obtain ⟨y0, ys, rfl⟩ : ∃ y r, ys = y :: r := by
    cases ys with
    | nil => rw [List.append_nil] at hl; omega
    | cons z r => exact ⟨z, r, rfl⟩
  refine k_iload at_212 rfl rfl ?_
  refine k_iconst (z := (1 : Int32)) at_214 rfl (by decide) ?_
  refine k_icmp (pc1 := 228) (pc' := 218) at_215 (by decide) (by decide) rfl (fun (cd8 : pm < (1 : Int32)) => ?_) (fun (cd8 : ¬ pm < (1 : Int32)) => ?_)
  · skip
    exact kw_228 l Z a0 hw cs hcs SC hEW g1 g2 g3 g4 hm um pm uc hc pq w10 w11 w12 w13 w14 a t bf ck T xs (y0 :: ys) h0 n0 sio SIO hsio OD SA B hl eab etb gbf hL huc hhc hpq (by omega) (by rw [hT, f212, if_pos cd8])
  · skip
    refine k_aload at_218 rfl rfl rfl ?_
    refine k_iload at_220 rfl rfl ?_
    refine k_bipush (z := (58 : Int32)) at_222 rfl (by decide) ?_
    refine k_castore (i := xs.length) at_224 rfl B (ix_inb (n := 5) (by decide) (by omega)) (ix_nat (by omega)) (by rw [List.length_map, hl]; omega) gbf (fun _ => Sf.arv B (by decide)) ?_
    intro h11 W12 V2
    rw [narc (show Ch (58 : Int32) from by unfold Ch; decide), show (xs ++ y0 :: ys).map Value.int = xs.map Value.int ++ Value.int y0 :: ys.map Value.int by simp, set_mid _ _ _ _ (by simp)] at V2
    have V3 : Arv Z h11 bf ck .char (5 : Int32) (((xs ++ [(58 : Int32)]) ++ ys).map Value.int) (.int 0) := by simpa using V2
    show KW true l Z M_law n0 (fun v _ => v = some (.int 1)) (EL, fun _ => False) h11 30 300 225 #[.val (.int g1), .val (.int g2), .val (.int g3), .val (.int g4), .val (.int hm), .val (.int um), .val (.int pm), .val (.int uc), .val (.int hc), .val (.int pq), .val w10, .val w11, .val w12, .val w13, .val w14, .val (.ref a), .val (.ref bf), .val (.int (Int32.ofNat xs.length))] []
    refine k_iinc (z := (1 : Int32)) (Ls' := #[.val (.int g1), .val (.int g2), .val (.int g3), .val (.int g4), .val (.int hm), .val (.int um), .val (.int pm), .val (.int uc), .val (.int hc), .val (.int pq), .val w10, .val w11, .val w12, .val w13, .val w14, .val (.ref a), .val (.ref bf), .val (.int ((Int32.ofNat xs.length) + (1 : Int32)))]) at_225 rfl (by decide) rfl rfl ?_
    have f13 := (OD.wr W12 gbf)
    have f14 := (SA.wr W12 eab etb)
    have J := kw_228 l Z a0 hw cs hcs SC hEW g1 g2 g3 g4 hm um pm uc hc pq w10 w11 w12 w13 w14 a t bf ck T (xs ++ [(58 : Int32)]) ys h11 n0 sio SIO hsio f13 f14 V3 (by rw [← hl]; simp) eab etb gbf (Latin.app hL (Latin.cons (show Ch (58 : Int32) from by unfold Ch; decide) Latin.nil)) huc hhc hpq (by rw [List.length_append]; simp only [List.length_cons, List.length_nil]; omega) (by rw [hT, f212, if_neg cd8])
    rw [show (xs ++ [(58 : Int32)]).length = xs.length + 1 by simp, ← ix_succ] at J
    exact J

set_option maxRecDepth 65536 in
set_option maxHeartbeats 40000000 in
theorem kw_196 (l : Launch) (Z : State) (a0 : Array Value) (hw : ∀ d ∈ tables_1, d.before a0 Z = true) (cs : Int32) (hcs : ¬ cs = 0) (SC : Sta Z Z.heap "java/lang/String" "COMPACT_STRINGS" "Z" (.int cs)) (hEW : EW Z a0 EL) (g1 g2 g3 g4 hm um pm uc hc pq : Int32) (w10 w11 w12 w13 w14 : Value) (a t bf : Addr) (ck : ClassId) (T xs ys : List Int32) (h0 : Heap) (n0 : Nat) (sio : Value) (SIO : Sta Z Z.heap "jdk/internal/util/Preconditions" "SIOOBE_FORMATTER" "Ljava/util/function/BiFunction;" sio) (hsio : sio.isRef = true) (OD : Old Z n0 h0) (SA : Sg Z h0 a t T) (B : Arv Z h0 bf ck .char (5 : Int32) ((xs ++ ys).map Value.int) (.int 0)) (hl : (xs ++ ys).length = 5) (eab : a ≠ bf) (etb : t ≠ bf) (gbf : n0 ≤ bf) (hL : Latin xs) (huc : Ch uc) (hhc : Ch hc) (hpq : Ch pq) (hr : xs.length + 3 ≤ 5) (hT : T = (f196 hm um pm uc hc pq xs).map nbI) : KW true l Z M_law n0 (fun v _ => v = some (.int 1)) (EL, fun _ => False) h0 30 300 196 #[.val (.int g1), .val (.int g2), .val (.int g3), .val (.int g4), .val (.int hm), .val (.int um), .val (.int pm), .val (.int uc), .val (.int hc), .val (.int pq), .val w10, .val w11, .val w12, .val w13, .val w14, .val (.ref a), .val (.ref bf), .val (.int (Int32.ofNat xs.length))] [] := by
  have EAx := SA.exa
  obtain ⟨y0, ys, rfl⟩ : ∃ y r, ys = y :: r := by
    cases ys with
    | nil => rw [List.append_nil] at hl; omega
    | cons z r => exact ⟨z, r, rfl⟩
  refine k_iload at_196 rfl rfl ?_
  refine k_iconst (z := (2 : Int32)) at_198 rfl (by decide) ?_
  refine k_icmp (pc1 := 212) (pc' := 202) at_199 (by decide) (by decide) rfl (fun (cd9 : hm < (2 : Int32)) => ?_) (fun (cd9 : ¬ hm < (2 : Int32)) => ?_)
  · skip
    exact kw_212 l Z a0 hw cs hcs SC hEW g1 g2 g3 g4 hm um pm uc hc pq w10 w11 w12 w13 w14 a t bf ck T xs (y0 :: ys) h0 n0 sio SIO hsio OD SA B hl eab etb gbf hL huc hhc hpq (by omega) (by rw [hT, f196, if_pos cd9])
  · skip
    refine k_aload at_202 rfl rfl rfl ?_
    refine k_iload at_204 rfl rfl ?_
    refine k_iload at_206 rfl rfl ?_
    refine k_castore (i := xs.length) at_208 rfl B (ix_inb (n := 5) (by decide) (by omega)) (ix_nat (by omega)) (by rw [List.length_map, hl]; omega) gbf (fun _ => Sf.arv B (by decide)) ?_
    intro h18 W19 V2
    rw [narc hhc, show (xs ++ y0 :: ys).map Value.int = xs.map Value.int ++ Value.int y0 :: ys.map Value.int by simp, set_mid _ _ _ _ (by simp)] at V2
    have V3 : Arv Z h18 bf ck .char (5 : Int32) (((xs ++ [hc]) ++ ys).map Value.int) (.int 0) := by simpa using V2
    show KW true l Z M_law n0 (fun v _ => v = some (.int 1)) (EL, fun _ => False) h18 30 300 209 #[.val (.int g1), .val (.int g2), .val (.int g3), .val (.int g4), .val (.int hm), .val (.int um), .val (.int pm), .val (.int uc), .val (.int hc), .val (.int pq), .val w10, .val w11, .val w12, .val w13, .val w14, .val (.ref a), .val (.ref bf), .val (.int (Int32.ofNat xs.length))] []
    refine k_iinc (z := (1 : Int32)) (Ls' := #[.val (.int g1), .val (.int g2), .val (.int g3), .val (.int g4), .val (.int hm), .val (.int um), .val (.int pm), .val (.int uc), .val (.int hc), .val (.int pq), .val w10, .val w11, .val w12, .val w13, .val w14, .val (.ref a), .val (.ref bf), .val (.int ((Int32.ofNat xs.length) + (1 : Int32)))]) at_209 rfl (by decide) rfl rfl ?_
    have f20 := (OD.wr W19 gbf)
    have f21 := (SA.wr W19 eab etb)
    have J := kw_212 l Z a0 hw cs hcs SC hEW g1 g2 g3 g4 hm um pm uc hc pq w10 w11 w12 w13 w14 a t bf ck T (xs ++ [hc]) ys h18 n0 sio SIO hsio f20 f21 V3 (by rw [← hl]; simp) eab etb gbf (Latin.app hL (Latin.cons hhc Latin.nil)) huc hhc hpq (by rw [List.length_append]; simp only [List.length_cons, List.length_nil]; omega) (by rw [hT, f196, if_neg cd9])
    rw [show (xs ++ [hc]).length = xs.length + 1 by simp, ← ix_succ] at J
    exact J

set_option maxRecDepth 65536 in
set_option maxHeartbeats 40000000 in
theorem kw_180 (l : Launch) (Z : State) (a0 : Array Value) (hw : ∀ d ∈ tables_1, d.before a0 Z = true) (cs : Int32) (hcs : ¬ cs = 0) (SC : Sta Z Z.heap "java/lang/String" "COMPACT_STRINGS" "Z" (.int cs)) (hEW : EW Z a0 EL) (g1 g2 g3 g4 hm um pm uc hc pq : Int32) (w10 w11 w12 w13 w14 : Value) (a t bf : Addr) (ck : ClassId) (T xs ys : List Int32) (h0 : Heap) (n0 : Nat) (sio : Value) (SIO : Sta Z Z.heap "jdk/internal/util/Preconditions" "SIOOBE_FORMATTER" "Ljava/util/function/BiFunction;" sio) (hsio : sio.isRef = true) (OD : Old Z n0 h0) (SA : Sg Z h0 a t T) (B : Arv Z h0 bf ck .char (5 : Int32) ((xs ++ ys).map Value.int) (.int 0)) (hl : (xs ++ ys).length = 5) (eab : a ≠ bf) (etb : t ≠ bf) (gbf : n0 ≤ bf) (hL : Latin xs) (huc : Ch uc) (hhc : Ch hc) (hpq : Ch pq) (hr : xs.length + 4 ≤ 5) (hT : T = (f180 hm um pm uc hc pq xs).map nbI) : KW true l Z M_law n0 (fun v _ => v = some (.int 1)) (EL, fun _ => False) h0 30 300 180 #[.val (.int g1), .val (.int g2), .val (.int g3), .val (.int g4), .val (.int hm), .val (.int um), .val (.int pm), .val (.int uc), .val (.int hc), .val (.int pq), .val w10, .val w11, .val w12, .val w13, .val w14, .val (.ref a), .val (.ref bf), .val (.int (Int32.ofNat xs.length))] [] := by
  have EAx := SA.exa
  obtain ⟨y0, ys, rfl⟩ : ∃ y r, ys = y :: r := by
    cases ys with
    | nil => rw [List.append_nil] at hl; omega
    | cons z r => exact ⟨z, r, rfl⟩
  refine k_iload at_180 rfl rfl ?_
  refine k_iconst (z := (1 : Int32)) at_182 rfl (by decide) ?_
  refine k_icmp (pc1 := 196) (pc' := 186) at_183 (by decide) (by decide) rfl (fun (cd10 : um < (1 : Int32)) => ?_) (fun (cd10 : ¬ um < (1 : Int32)) => ?_)
  · skip
    exact kw_196 l Z a0 hw cs hcs SC hEW g1 g2 g3 g4 hm um pm uc hc pq w10 w11 w12 w13 w14 a t bf ck T xs (y0 :: ys) h0 n0 sio SIO hsio OD SA B hl eab etb gbf hL huc hhc hpq (by omega) (by rw [hT, f180, if_pos cd10])
  · skip
    refine k_aload at_186 rfl rfl rfl ?_
    refine k_iload at_188 rfl rfl ?_
    refine k_bipush (z := (64 : Int32)) at_190 rfl (by decide) ?_
    refine k_castore (i := xs.length) at_192 rfl B (ix_inb (n := 5) (by decide) (by omega)) (ix_nat (by omega)) (by rw [List.length_map, hl]; omega) gbf (fun _ => Sf.arv B (by decide)) ?_
    intro h25 W26 V2
    rw [narc (show Ch (64 : Int32) from by unfold Ch; decide), show (xs ++ y0 :: ys).map Value.int = xs.map Value.int ++ Value.int y0 :: ys.map Value.int by simp, set_mid _ _ _ _ (by simp)] at V2
    have V3 : Arv Z h25 bf ck .char (5 : Int32) (((xs ++ [(64 : Int32)]) ++ ys).map Value.int) (.int 0) := by simpa using V2
    show KW true l Z M_law n0 (fun v _ => v = some (.int 1)) (EL, fun _ => False) h25 30 300 193 #[.val (.int g1), .val (.int g2), .val (.int g3), .val (.int g4), .val (.int hm), .val (.int um), .val (.int pm), .val (.int uc), .val (.int hc), .val (.int pq), .val w10, .val w11, .val w12, .val w13, .val w14, .val (.ref a), .val (.ref bf), .val (.int (Int32.ofNat xs.length))] []
    refine k_iinc (z := (1 : Int32)) (Ls' := #[.val (.int g1), .val (.int g2), .val (.int g3), .val (.int g4), .val (.int hm), .val (.int um), .val (.int pm), .val (.int uc), .val (.int hc), .val (.int pq), .val w10, .val w11, .val w12, .val w13, .val w14, .val (.ref a), .val (.ref bf), .val (.int ((Int32.ofNat xs.length) + (1 : Int32)))]) at_193 rfl (by decide) rfl rfl ?_
    have f27 := (OD.wr W26 gbf)
    have f28 := (SA.wr W26 eab etb)
    have J := kw_196 l Z a0 hw cs hcs SC hEW g1 g2 g3 g4 hm um pm uc hc pq w10 w11 w12 w13 w14 a t bf ck T (xs ++ [(64 : Int32)]) ys h25 n0 sio SIO hsio f27 f28 V3 (by rw [← hl]; simp) eab etb gbf (Latin.app hL (Latin.cons (show Ch (64 : Int32) from by unfold Ch; decide) Latin.nil)) huc hhc hpq (by rw [List.length_append]; simp only [List.length_cons, List.length_nil]; omega) (by rw [hT, f180, if_neg cd10])
    rw [show (xs ++ [(64 : Int32)]).length = xs.length + 1 by simp, ← ix_succ] at J
    exact J

set_option maxRecDepth 65536 in
set_option maxHeartbeats 40000000 in
theorem kw_164 (l : Launch) (Z : State) (a0 : Array Value) (hw : ∀ d ∈ tables_1, d.before a0 Z = true) (cs : Int32) (hcs : ¬ cs = 0) (SC : Sta Z Z.heap "java/lang/String" "COMPACT_STRINGS" "Z" (.int cs)) (hEW : EW Z a0 EL) (g1 g2 g3 g4 hm um pm uc hc pq : Int32) (w10 w11 w12 w13 w14 : Value) (a t bf : Addr) (ck : ClassId) (T xs ys : List Int32) (h0 : Heap) (n0 : Nat) (sio : Value) (SIO : Sta Z Z.heap "jdk/internal/util/Preconditions" "SIOOBE_FORMATTER" "Ljava/util/function/BiFunction;" sio) (hsio : sio.isRef = true) (OD : Old Z n0 h0) (SA : Sg Z h0 a t T) (B : Arv Z h0 bf ck .char (5 : Int32) ((xs ++ ys).map Value.int) (.int 0)) (hl : (xs ++ ys).length = 5) (eab : a ≠ bf) (etb : t ≠ bf) (gbf : n0 ≤ bf) (hL : Latin xs) (huc : Ch uc) (hhc : Ch hc) (hpq : Ch pq) (hr : xs.length + 5 ≤ 5) (hT : T = (f164 hm um pm uc hc pq xs).map nbI) : KW true l Z M_law n0 (fun v _ => v = some (.int 1)) (EL, fun _ => False) h0 30 300 164 #[.val (.int g1), .val (.int g2), .val (.int g3), .val (.int g4), .val (.int hm), .val (.int um), .val (.int pm), .val (.int uc), .val (.int hc), .val (.int pq), .val w10, .val w11, .val w12, .val w13, .val w14, .val (.ref a), .val (.ref bf), .val (.int (Int32.ofNat xs.length))] [] := by
  have EAx := SA.exa
  obtain ⟨y0, ys, rfl⟩ : ∃ y r, ys = y :: r := by
    cases ys with
    | nil => rw [List.append_nil] at hl; omega
    | cons z r => exact ⟨z, r, rfl⟩
  refine k_iload at_164 rfl rfl ?_
  refine k_iconst (z := (2 : Int32)) at_166 rfl (by decide) ?_
  refine k_icmp (pc1 := 180) (pc' := 170) at_167 (by decide) (by decide) rfl (fun (cd11 : um < (2 : Int32)) => ?_) (fun (cd11 : ¬ um < (2 : Int32)) => ?_)
  · skip
    exact kw_180 l Z a0 hw cs hcs SC hEW g1 g2 g3 g4 hm um pm uc hc pq w10 w11 w12 w13 w14 a t bf ck T xs (y0 :: ys) h0 n0 sio SIO hsio OD SA B hl eab etb gbf hL huc hhc hpq (by omega) (by rw [hT, f164, if_pos cd11])
  · skip
    refine k_aload at_170 rfl rfl rfl ?_
    refine k_iload at_172 rfl rfl ?_
    refine k_iload at_174 rfl rfl ?_
    refine k_castore (i := xs.length) at_176 rfl B (ix_inb (n := 5) (by decide) (by omega)) (ix_nat (by omega)) (by rw [List.length_map, hl]; omega) gbf (fun _ => Sf.arv B (by decide)) ?_
    intro h32 W33 V2
    rw [narc huc, show (xs ++ y0 :: ys).map Value.int = xs.map Value.int ++ Value.int y0 :: ys.map Value.int by simp, set_mid _ _ _ _ (by simp)] at V2
    have V3 : Arv Z h32 bf ck .char (5 : Int32) (((xs ++ [uc]) ++ ys).map Value.int) (.int 0) := by simpa using V2
    show KW true l Z M_law n0 (fun v _ => v = some (.int 1)) (EL, fun _ => False) h32 30 300 177 #[.val (.int g1), .val (.int g2), .val (.int g3), .val (.int g4), .val (.int hm), .val (.int um), .val (.int pm), .val (.int uc), .val (.int hc), .val (.int pq), .val w10, .val w11, .val w12, .val w13, .val w14, .val (.ref a), .val (.ref bf), .val (.int (Int32.ofNat xs.length))] []
    refine k_iinc (z := (1 : Int32)) (Ls' := #[.val (.int g1), .val (.int g2), .val (.int g3), .val (.int g4), .val (.int hm), .val (.int um), .val (.int pm), .val (.int uc), .val (.int hc), .val (.int pq), .val w10, .val w11, .val w12, .val w13, .val w14, .val (.ref a), .val (.ref bf), .val (.int ((Int32.ofNat xs.length) + (1 : Int32)))]) at_177 rfl (by decide) rfl rfl ?_
    have f34 := (OD.wr W33 gbf)
    have f35 := (SA.wr W33 eab etb)
    have J := kw_180 l Z a0 hw cs hcs SC hEW g1 g2 g3 g4 hm um pm uc hc pq w10 w11 w12 w13 w14 a t bf ck T (xs ++ [uc]) ys h32 n0 sio SIO hsio f34 f35 V3 (by rw [← hl]; simp) eab etb gbf (Latin.app hL (Latin.cons huc Latin.nil)) huc hhc hpq (by rw [List.length_append]; simp only [List.length_cons, List.length_nil]; omega) (by rw [hT, f164, if_neg cd11])
    rw [show (xs ++ [uc]).length = xs.length + 1 by simp, ← ix_succ] at J
    exact J
def M4 (n : Int32) : Prop := n = 0 ∨ n = 1 ∨ n = 2 ∨ n = 3
theorem own_txt00 {hm um pm uc hc pq : Int32} (h1 : M4 hm) (a : um = 0) (b : ¬ hm = 0) (d : pm = 0) : (([] : List Int32) ++ (pt hm hc)) = (f164 hm um pm uc hc pq []).map nbI := by
  subst a d; rcases h1 with rfl | rfl | rfl | rfl <;> first | exact absurd rfl b | rfl
theorem own_txt10 {hm um pm uc hc pq : Int32} (h1 : M4 hm) (h2 : M4 um) (a : ¬ um = 0) (b : ¬ hm = 0) (d : pm = 0) : (((([] : List Int32) ++ (pt um uc)) ++ [nbI (64 : Int32)]) ++ (pt hm hc)) = (f164 hm um pm uc hc pq []).map nbI := by
  subst d; rcases h1 with rfl | rfl | rfl | rfl <;> rcases h2 with rfl | rfl | rfl | rfl <;> first | exact absurd rfl b | exact absurd rfl a | rfl
theorem own_txt01 {hm um pm uc hc pq : Int32} (h1 : M4 hm) (h3 : M4 pm) (a : um = 0) (b : ¬ hm = 0) (d : ¬ pm = 0) : (((([] : List Int32) ++ (pt hm hc)) ++ [nbI (58 : Int32)]) ++ (pt pm pq)) = (f164 hm um pm uc hc pq []).map nbI := by
  subst a; rcases h1 with rfl | rfl | rfl | rfl <;> rcases h3 with rfl | rfl | rfl | rfl <;> first | exact absurd rfl b | exact absurd rfl d | rfl
theorem own_txt11 {hm um pm uc hc pq : Int32} (h1 : M4 hm) (h2 : M4 um) (h3 : M4 pm) (a : ¬ um = 0) (b : ¬ hm = 0) (d : ¬ pm = 0) : (((((([] : List Int32) ++ (pt um uc)) ++ [nbI (64 : Int32)]) ++ (pt hm hc)) ++ [nbI (58 : Int32)]) ++ (pt pm pq)) = (f164 hm um pm uc hc pq []).map nbI := by
  rcases h1 with rfl | rfl | rfl | rfl <;> rcases h2 with rfl | rfl | rfl | rfl <;> rcases h3 with rfl | rfl | rfl | rfl <;> first | exact absurd rfl b | exact absurd rfl a | exact absurd rfl d | rfl
set_option maxRecDepth 65536 in
set_option maxHeartbeats 40000000 in
theorem kw_61 (l : Launch) (Z : State) (a0 : Array Value) (hw : ∀ d ∈ tables_1, d.before a0 Z = true) (cs : Int32) (hcs : ¬ cs = 0) (SC : Sta Z Z.heap "java/lang/String" "COMPACT_STRINGS" "Z" (.int cs)) (hEW : EW Z a0 EL) (g1 g2 g3 g4 hm um pm uc hc pq : Int32) (h0 : Heap) (n0 : Nat) (sio : Value) (SIO : Sta Z Z.heap "jdk/internal/util/Preconditions" "SIOOBE_FORMATTER" "Ljava/util/function/BiFunction;" sio) (hsio : sio.isRef = true) (OD : Old Z n0 h0) (em : Addr) (SE : Sta Z Z.heap "java/util/Optional" "EMPTY" "Ljava/util/Optional;" (.ref em)) (EE : Exa Z Z.heap em "java/util/Optional") (FE : Fld Z Z.heap em "java/util/Optional" "value" "Ljava/lang/Object;" .null) (h4h : M4 hm) (h4u : M4 um) (h4p : M4 pm) (hM0 : hm = 0 → um = 0 ∧ pm = 0) (huc : Ch uc) (hhc : Ch hc) (hpq : Ch pq) : KW true l Z M_law n0 (fun v _ => v = some (.int 1)) (EL, fun _ => False) h0 0 0 61 #[.val (.int g1), .val (.int g2), .val (.int g3), .val (.int g4), .val (.int hm), .val (.int um), .val (.int pm), .val (.int uc), .val (.int hc), .val (.int pq), .unset, .unset, .unset, .unset, .unset, .unset, .unset, .unset] [] := by
  have Z0 := OD.1 ▸ OD.2.1
  refine k_iload at_61 rfl rfl ?_
  refine k_iload at_63 rfl rfl ?_
  have z36 : n0 ≤ h0.size := Z0
  refine k_callStaticW (argsL := [(.int um), (.int uc)]) (rest := []) (W0 := 0) at_65 rfl (mt_prt l Z a0 hw cs hcs SC hEW um uc h0 n0 OD huc) (hw _ (List.mem_of_getElem? (i := 0) rfl)) (hw _ (List.mem_of_getElem? (i := 1) rfl)) (hw _ (List.mem_of_getElem? (i := 2) rfl)) (hw _ (List.mem_of_getElem? (i := 3) rfl)) (by decide) pd_prt rfl rfl rfl rfl (by decide) (by decide) (by decide) (by decide) ?_
  rintro _ h37 - ⟨K38, ⟨hz39, rfl⟩ | ⟨hz39, a40, t41, rfl, SG42⟩⟩
  · skip
    show KW true l Z M_law n0 (fun v _ => v = some (.int 1)) (EL, fun _ => False) h37 2 5 68 #[.val (.int g1), .val (.int g2), .val (.int g3), .val (.int g4), .val (.int hm), .val (.int um), .val (.int pm), .val (.int uc), .val (.int hc), .val (.int pq), .unset, .unset, .unset, .unset, .unset, .unset, .unset, .unset] [.null]
    refine k_astore (Ls' := #[.val (.int g1), .val (.int g2), .val (.int g3), .val (.int g4), .val (.int hm), .val (.int um), .val (.int pm), .val (.int uc), .val (.int hc), .val (.int pq), .val .null, .unset, .unset, .unset, .unset, .unset, .unset, .unset]) at_68 rfl rfl rfl ?_
    refine k_iload at_70 rfl rfl ?_
    refine k_iload at_72 rfl rfl ?_
    have f43 := (OD.keep K38 all0)
    have z44 : n0 ≤ h37.size := (Nat.le_trans z36 K38.1)
    refine k_callStaticW (argsL := [(.int hm), (.int hc)]) (rest := []) (W0 := 0) at_74 rfl (mt_prt l Z a0 hw cs hcs SC hEW hm hc h37 n0 f43 hhc) (hw _ (List.mem_of_getElem? (i := 0) rfl)) (hw _ (List.mem_of_getElem? (i := 1) rfl)) (hw _ (List.mem_of_getElem? (i := 2) rfl)) (hw _ (List.mem_of_getElem? (i := 3) rfl)) (by decide) pd_prt rfl rfl rfl rfl (by decide) (by decide) (by decide) (by decide) ?_
    rintro _ h45 - ⟨K46, ⟨hz47, rfl⟩ | ⟨hz47, a48, t49, rfl, SG50⟩⟩
    · skip
      show KW true l Z M_law n0 (fun v _ => v = some (.int 1)) (EL, fun _ => False) h45 4 10 77 #[.val (.int g1), .val (.int g2), .val (.int g3), .val (.int g4), .val (.int hm), .val (.int um), .val (.int pm), .val (.int uc), .val (.int hc), .val (.int pq), .val .null, .unset, .unset, .unset, .unset, .unset, .unset, .unset] [.null]
      refine k_astore (Ls' := #[.val (.int g1), .val (.int g2), .val (.int g3), .val (.int g4), .val (.int hm), .val (.int um), .val (.int pm), .val (.int uc), .val (.int hc), .val (.int pq), .val .null, .val .null, .unset, .unset, .unset, .unset, .unset, .unset]) at_77 rfl rfl rfl ?_
      refine k_iload at_79 rfl rfl ?_
      refine k_iload at_81 rfl rfl ?_
      have f51 := (f43.keep K46 all0)
      have z52 : n0 ≤ h45.size := (Nat.le_trans z44 K46.1)
      refine k_callStaticW (argsL := [(.int pm), (.int pq)]) (rest := []) (W0 := 0) at_83 rfl (mt_prt l Z a0 hw cs hcs SC hEW pm pq h45 n0 f51 hpq) (hw _ (List.mem_of_getElem? (i := 0) rfl)) (hw _ (List.mem_of_getElem? (i := 1) rfl)) (hw _ (List.mem_of_getElem? (i := 2) rfl)) (hw _ (List.mem_of_getElem? (i := 3) rfl)) (by decide) pd_prt rfl rfl rfl rfl (by decide) (by decide) (by decide) (by decide) ?_
      rintro _ h53 - ⟨K54, ⟨hz55, rfl⟩ | ⟨hz55, a56, t57, rfl, SG58⟩⟩
      · skip
        show KW true l Z M_law n0 (fun v _ => v = some (.int 1)) (EL, fun _ => False) h53 6 15 86 #[.val (.int g1), .val (.int g2), .val (.int g3), .val (.int g4), .val (.int hm), .val (.int um), .val (.int pm), .val (.int uc), .val (.int hc), .val (.int pq), .val .null, .val .null, .unset, .unset, .unset, .unset, .unset, .unset] [.null]
        refine k_astore (Ls' := #[.val (.int g1), .val (.int g2), .val (.int g3), .val (.int g4), .val (.int hm), .val (.int um), .val (.int pm), .val (.int uc), .val (.int hc), .val (.int pq), .val .null, .val .null, .val .null, .unset, .unset, .unset, .unset, .unset]) at_86 rfl rfl rfl ?_
        refine k_new at_88 rfl (hw _ (List.mem_of_getElem? (i := 4) rfl)) (hw _ (List.mem_of_getElem? (i := 5) rfl)) (hw _ (List.mem_of_getElem? (i := 6) rfl)) (by decide) (by decide) ?_
        intro h60 a59 g64 E61 A62 D63
        have z65 : n0 ≤ h53.size := (Nat.le_trans z52 K54.1)
        have ge66 : n0 ≤ a59 := Nat.le_trans z65 (Nat.le_of_eq g64.symm)
        have gl67 : h53.size ≤ a59 := Nat.le_of_eq g64.symm
        have F68 : Fld Z h60 a59 "com/example/liburiref/liburiref/UriReference" "text" "Ljava/lang/String;" .null := D63 (Or.inr (hw _ (List.mem_of_getElem? (i := 23) rfl))) (ty := (.object "java/lang/String")) (by decide)
        have F69 : Fld Z h60 a59 "com/example/liburiref/liburiref/UriReference" "scheme" "Ljava/lang/String;" .null := D63 (Or.inr (hw _ (List.mem_of_getElem? (i := 25) rfl))) (ty := (.object "java/lang/String")) (by decide)
        have F70 : Fld Z h60 a59 "com/example/liburiref/liburiref/UriReference" "userInfo" "Ljava/lang/String;" .null := D63 (Or.inr (hw _ (List.mem_of_getElem? (i := 27) rfl))) (ty := (.object "java/lang/String")) (by decide)
        have F71 : Fld Z h60 a59 "com/example/liburiref/liburiref/UriReference" "host" "Ljava/lang/String;" .null := D63 (Or.inr (hw _ (List.mem_of_getElem? (i := 29) rfl))) (ty := (.object "java/lang/String")) (by decide)
        have F72 : Fld Z h60 a59 "com/example/liburiref/liburiref/UriReference" "port" "Ljava/lang/String;" .null := D63 (Or.inr (hw _ (List.mem_of_getElem? (i := 31) rfl))) (ty := (.object "java/lang/String")) (by decide)
        have F73 : Fld Z h60 a59 "com/example/liburiref/liburiref/UriReference" "path" "Ljava/lang/String;" .null := D63 (Or.inr (hw _ (List.mem_of_getElem? (i := 33) rfl))) (ty := (.object "java/lang/String")) (by decide)
        have F74 : Fld Z h60 a59 "com/example/liburiref/liburiref/UriReference" "query" "Ljava/lang/String;" .null := D63 (Or.inr (hw _ (List.mem_of_getElem? (i := 35) rfl))) (ty := (.object "java/lang/String")) (by decide)
        have F75 : Fld Z h60 a59 "com/example/liburiref/liburiref/UriReference" "fragment" "Ljava/lang/String;" .null := D63 (Or.inr (hw _ (List.mem_of_getElem? (i := 37) rfl))) (ty := (.object "java/lang/String")) (by decide)
        refine KW.sub (S' := fun x => x = a59) (fun x hx => ?_) ?_
        · rcases hx with rfl
          · exact Or.inr ⟨gl67, A62.lt⟩
        show KW true l Z M_law n0 (fun v _ => v = some (.int 1)) (EL, fun x => x = a59) h60 7 23 91 #[.val (.int g1), .val (.int g2), .val (.int g3), .val (.int g4), .val (.int hm), .val (.int um), .val (.int pm), .val (.int uc), .val (.int hc), .val (.int pq), .val .null, .val .null, .val .null, .unset, .unset, .unset, .unset, .unset] [(.ref a59)]
        refine k_dup at_91 rfl rfl ?_
        refine k_ldcO (sl := 4) at_92 rfl (hw _ (List.mem_of_getElem? (i := 7) rfl)) (own_wS Z a0 hw) (by decide) (by decide) (by decide) (by decide) ?_
        intro a76 h77 E78
        show KW true l Z M_law n0 (fun v _ => v = some (.int 1)) (EL, fun x => x = a59) h77 9 31 94 #[.val (.int g1), .val (.int g2), .val (.int g3), .val (.int g4), .val (.int hm), .val (.int um), .val (.int pm), .val (.int uc), .val (.int hc), .val (.int pq), .val .null, .val .null, .val .null, .unset, .unset, .unset, .unset, .unset] [(.ref a76), (.ref a59), (.ref a59)]
        refine k_aconstNull at_94 rfl ?_
        refine k_aload at_95 rfl rfl rfl ?_
        refine k_aload at_97 rfl rfl rfl ?_
        refine k_aload at_99 rfl rfl rfl ?_
        have f82 := (A62.ext E78)
        refine k_ldcO (sl := 0) at_101 rfl (hw _ (List.mem_of_getElem? (i := 15) rfl)) (own_wS Z a0 hw) (by decide) (by decide) (by decide) (by decide) ?_
        intro a79 h80 E81
        show KW true l Z M_law n0 (fun v _ => v = some (.int 1)) (EL, fun x => x = a59) h80 11 35 103 #[.val (.int g1), .val (.int g2), .val (.int g3), .val (.int g4), .val (.int hm), .val (.int um), .val (.int pm), .val (.int uc), .val (.int hc), .val (.int pq), .val .null, .val .null, .val .null, .unset, .unset, .unset, .unset, .unset] [(.ref a79), .null, .null, .null, .null, (.ref a76), (.ref a59), (.ref a59)]
        refine k_aconstNull at_103 rfl ?_
        refine k_aconstNull at_104 rfl ?_
        have f83 := ((((f51.keep K54 all0).ext E61).ext E78).ext E81)
        have f84 := (f82.ext E81)
        have f85 := ((F68.ext E78).ext E81)
        have f86 := ((F69.ext E78).ext E81)
        have f87 := ((F70.ext E78).ext E81)
        have f88 := ((F71.ext E78).ext E81)
        have f89 := ((F72.ext E78).ext E81)
        have f90 := ((F73.ext E78).ext E81)
        have f91 := ((F74.ext E78).ext E81)
        have f92 := ((F75.ext E78).ext E81)
        refine k_callInit (a := a59) (argsL := [(.ref a76), .null, .null, .null, .null, (.ref a79), .null, .null]) (rest := [(.ref a59)]) (W0 := 1) at_105 rfl (mt_ui l Z a0 hw cs hcs SC hEW a59 (Value.ref a76) Value.null Value.null Value.null Value.null (Value.ref a79) Value.null Value.null rfl rfl rfl rfl rfl rfl rfl rfl h80 n0 ge66 f84 f85 f86 f87 f88 f89 f90 f91 f92) (fun _ _ _ q => ⟨[a59], q.2.1, fun x hx => by cases List.mem_singleton.mp hx; exact Sf.exa f84 (by decide) (by decide)⟩) rfl rfl (hw _ (List.mem_of_getElem? (i := 16) rfl)) (hw _ (List.mem_of_getElem? (i := 17) rfl)) (hw _ (List.mem_of_getElem? (i := 6) rfl)) (hw _ (List.mem_of_getElem? (i := 18) rfl)) (by decide) pd_ui rfl rfl rfl rfl (by decide) (by decide) (by decide) (by decide) ?_
        rintro _ h93 - ⟨rfl, K94, F95, F96, F97⟩
        refine KW.sub (S' := fun _ => False) (fun x hx => hx.elim) ?_
        show KW true l Z M_law n0 (fun v _ => v = some (.int 1)) (EL, fun _ => False) h93 11 35 108 #[.val (.int g1), .val (.int g2), .val (.int g3), .val (.int g4), .val (.int hm), .val (.int um), .val (.int pm), .val (.int uc), .val (.int hc), .val (.int pq), .val .null, .val .null, .val .null, .unset, .unset, .unset, .unset, .unset] [(.ref a59)]
        refine k_astore (Ls' := #[.val (.int g1), .val (.int g2), .val (.int g3), .val (.int g4), .val (.int hm), .val (.int um), .val (.int pm), .val (.int uc), .val (.int hc), .val (.int pq), .val .null, .val .null, .val .null, .val (.ref a59), .unset, .unset, .unset, .unset]) at_108 rfl rfl rfl ?_
        refine k_aload at_110 rfl rfl rfl ?_
        have f98 := (f83.keep K94 (allS ge66 all0))
        have f99 := (f84.keep K94)
        have z100 : n0 ≤ h93.size := (Nat.le_trans (Nat.le_trans (Nat.le_trans (Nat.le_trans z65 E61.1) E78.1) E81.1) K94.1)
        refine k_callVirtual (argsL := []) (rest := []) (W0 := 0) at_112 rfl (mt_auN l Z a0 hw cs hcs SC hEW em SE a59 h93 n0 f98 F96) (Kp.pure (fun _ _ q => q.2.symm)) f99 (hw _ (List.mem_of_getElem? (i := 38) rfl)) (hw _ (List.mem_of_getElem? (i := 39) rfl)) (hw _ (List.mem_of_getElem? (i := 41) rfl)) (hw _ (List.mem_of_getElem? (i := 41) rfl)) rfl (hw _ (List.mem_of_getElem? (i := 40) rfl)) (hw _ (List.mem_of_getElem? (i := 42) rfl)) (hw _ (List.mem_of_getElem? (i := 6) rfl)) (by decide) pd_au rfl rfl rfl rfl (by decide) (by decide) (by decide) (by decide) ?_
        rintro _ _ - ⟨rfl, rfl⟩
        have EMx := Exa.ext f98.2 EE
        have FMx := Fld.ext f98.2 FE
        refine KW.sub (S' := fun _ => False) (fun x hx => hx.elim) ?_
        show KW true l Z M_law n0 (fun v _ => v = some (.int 1)) (EL, fun _ => False) h93 16 76 115 #[.val (.int g1), .val (.int g2), .val (.int g3), .val (.int g4), .val (.int hm), .val (.int um), .val (.int pm), .val (.int uc), .val (.int hc), .val (.int pq), .val .null, .val .null, .val .null, .val (.ref a59), .unset, .unset, .unset, .unset] [(.ref em)]
        refine k_astore (Ls' := #[.val (.int g1), .val (.int g2), .val (.int g3), .val (.int g4), .val (.int hm), .val (.int um), .val (.int pm), .val (.int uc), .val (.int hc), .val (.int pq), .val .null, .val .null, .val .null, .val (.ref a59), .val (.ref em), .unset, .unset, .unset]) at_115 rfl rfl rfl ?_
        refine k_aload at_117 rfl rfl rfl ?_
        refine k_ifnonnullN at_119 rfl ?_
        refine k_aload at_122 rfl rfl rfl ?_
        refine k_callVirtual (argsL := []) (rest := []) (W0 := 0) at_124 rfl (mt_oipN l Z a0 hw cs hcs SC hEW em h93 n0 FMx) (Kp.pure (fun _ _ q => q.2.symm)) EMx (hw _ (List.mem_of_getElem? (i := 48) rfl)) (hw _ (List.mem_of_getElem? (i := 49) rfl)) (hw _ (List.mem_of_getElem? (i := 51) rfl)) (hw _ (List.mem_of_getElem? (i := 51) rfl)) rfl (hw _ (List.mem_of_getElem? (i := 50) rfl)) (hw _ (List.mem_of_getElem? (i := 52) rfl)) (hw _ (List.mem_of_getElem? (i := 45) rfl)) (by decide) pd_oip rfl rfl rfl rfl (by decide) (by decide) (by decide) (by decide) ?_
        rintro _ _ - ⟨rfl, rfl⟩
        refine KW.sub (S' := fun _ => False) (fun x hx => hx.elim) ?_
        show KW true l Z M_law n0 (fun v _ => v = some (.int 1)) (EL, fun _ => False) h93 16 76 127 #[.val (.int g1), .val (.int g2), .val (.int g3), .val (.int g4), .val (.int hm), .val (.int um), .val (.int pm), .val (.int uc), .val (.int hc), .val (.int pq), .val .null, .val .null, .val .null, .val (.ref a59), .val (.ref em), .unset, .unset, .unset] [(.int (0 : Int32))]
        refine k_ifc (pc1 := 134) (pc' := 130) at_127 (by decide) (by decide) rfl (fun (cd12 : ¬ (0 : Int32) = (0 : Int32)) => False.elim (by exact absurd cd12 (by decide))) (fun (cd12 : (0 : Int32) = (0 : Int32)) => ?_)
        refine k_iconst (z := (1 : Int32)) at_130 rfl (by decide) ?_
        refine k_goto (pc' := 135) at_131 (by decide) (by decide) ?_
        exact k_retNar at_135 rfl (by simp) (z' := (1 : Int32)) (by decide) (by decide) (by decide) rfl
      · skip
        exact absurd (hM0 hz47).2 hz55
    · skip
      show KW true l Z M_law n0 (fun v _ => v = some (.int 1)) (EL, fun _ => False) h45 4 10 77 #[.val (.int g1), .val (.int g2), .val (.int g3), .val (.int g4), .val (.int hm), .val (.int um), .val (.int pm), .val (.int uc), .val (.int hc), .val (.int pq), .val .null, .unset, .unset, .unset, .unset, .unset, .unset, .unset] [(.ref a48)]
      refine k_astore (Ls' := #[.val (.int g1), .val (.int g2), .val (.int g3), .val (.int g4), .val (.int hm), .val (.int um), .val (.int pm), .val (.int uc), .val (.int hc), .val (.int pq), .val .null, .val (.ref a48), .unset, .unset, .unset, .unset, .unset, .unset]) at_77 rfl rfl rfl ?_
      refine k_iload at_79 rfl rfl ?_
      refine k_iload at_81 rfl rfl ?_
      have f101 := (f43.keep K46 all0)
      have z102 : n0 ≤ h45.size := (Nat.le_trans z44 K46.1)
      refine k_callStaticW (argsL := [(.int pm), (.int pq)]) (rest := []) (W0 := 0) at_83 rfl (mt_prt l Z a0 hw cs hcs SC hEW pm pq h45 n0 f101 hpq) (hw _ (List.mem_of_getElem? (i := 0) rfl)) (hw _ (List.mem_of_getElem? (i := 1) rfl)) (hw _ (List.mem_of_getElem? (i := 2) rfl)) (hw _ (List.mem_of_getElem? (i := 3) rfl)) (by decide) pd_prt rfl rfl rfl rfl (by decide) (by decide) (by decide) (by decide) ?_
      rintro _ h103 - ⟨K104, ⟨hz105, rfl⟩ | ⟨hz105, a106, t107, rfl, SG108⟩⟩
      · skip
        show KW true l Z M_law n0 (fun v _ => v = some (.int 1)) (EL, fun _ => False) h103 6 15 86 #[.val (.int g1), .val (.int g2), .val (.int g3), .val (.int g4), .val (.int hm), .val (.int um), .val (.int pm), .val (.int uc), .val (.int hc), .val (.int pq), .val .null, .val (.ref a48), .unset, .unset, .unset, .unset, .unset, .unset] [.null]
        refine k_astore (Ls' := #[.val (.int g1), .val (.int g2), .val (.int g3), .val (.int g4), .val (.int hm), .val (.int um), .val (.int pm), .val (.int uc), .val (.int hc), .val (.int pq), .val .null, .val (.ref a48), .val .null, .unset, .unset, .unset, .unset, .unset]) at_86 rfl rfl rfl ?_
        have f115 := (SG50.keep K104 nin0 nin0)
        refine k_new at_88 rfl (hw _ (List.mem_of_getElem? (i := 4) rfl)) (hw _ (List.mem_of_getElem? (i := 5) rfl)) (hw _ (List.mem_of_getElem? (i := 6) rfl)) (by decide) (by decide) ?_
        intro h110 a109 g114 E111 A112 D113
        have ne116 : a48 ≠ a109 := Nat.ne_of_lt (Nat.lt_of_lt_of_eq f115.lt g114.symm)
        have ne117 : t49 ≠ a109 := Nat.ne_of_lt (Nat.lt_of_lt_of_eq f115.ltv g114.symm)
        have z118 : n0 ≤ h103.size := (Nat.le_trans z102 K104.1)
        have ge119 : n0 ≤ a109 := Nat.le_trans z118 (Nat.le_of_eq g114.symm)
        have gl120 : h103.size ≤ a109 := Nat.le_of_eq g114.symm
        have F121 : Fld Z h110 a109 "com/example/liburiref/liburiref/UriReference" "text" "Ljava/lang/String;" .null := D113 (Or.inr (hw _ (List.mem_of_getElem? (i := 23) rfl))) (ty := (.object "java/lang/String")) (by decide)
        have F122 : Fld Z h110 a109 "com/example/liburiref/liburiref/UriReference" "scheme" "Ljava/lang/String;" .null := D113 (Or.inr (hw _ (List.mem_of_getElem? (i := 25) rfl))) (ty := (.object "java/lang/String")) (by decide)
        have F123 : Fld Z h110 a109 "com/example/liburiref/liburiref/UriReference" "userInfo" "Ljava/lang/String;" .null := D113 (Or.inr (hw _ (List.mem_of_getElem? (i := 27) rfl))) (ty := (.object "java/lang/String")) (by decide)
        have F124 : Fld Z h110 a109 "com/example/liburiref/liburiref/UriReference" "host" "Ljava/lang/String;" .null := D113 (Or.inr (hw _ (List.mem_of_getElem? (i := 29) rfl))) (ty := (.object "java/lang/String")) (by decide)
        have F125 : Fld Z h110 a109 "com/example/liburiref/liburiref/UriReference" "port" "Ljava/lang/String;" .null := D113 (Or.inr (hw _ (List.mem_of_getElem? (i := 31) rfl))) (ty := (.object "java/lang/String")) (by decide)
        have F126 : Fld Z h110 a109 "com/example/liburiref/liburiref/UriReference" "path" "Ljava/lang/String;" .null := D113 (Or.inr (hw _ (List.mem_of_getElem? (i := 33) rfl))) (ty := (.object "java/lang/String")) (by decide)
        have F127 : Fld Z h110 a109 "com/example/liburiref/liburiref/UriReference" "query" "Ljava/lang/String;" .null := D113 (Or.inr (hw _ (List.mem_of_getElem? (i := 35) rfl))) (ty := (.object "java/lang/String")) (by decide)
        have F128 : Fld Z h110 a109 "com/example/liburiref/liburiref/UriReference" "fragment" "Ljava/lang/String;" .null := D113 (Or.inr (hw _ (List.mem_of_getElem? (i := 37) rfl))) (ty := (.object "java/lang/String")) (by decide)
        refine KW.sub (S' := fun x => x = a109) (fun x hx => ?_) ?_
        · rcases hx with rfl
          · exact Or.inr ⟨gl120, A112.lt⟩
        show KW true l Z M_law n0 (fun v _ => v = some (.int 1)) (EL, fun x => x = a109) h110 7 23 91 #[.val (.int g1), .val (.int g2), .val (.int g3), .val (.int g4), .val (.int hm), .val (.int um), .val (.int pm), .val (.int uc), .val (.int hc), .val (.int pq), .val .null, .val (.ref a48), .val .null, .unset, .unset, .unset, .unset, .unset] [(.ref a109)]
        refine k_dup at_91 rfl rfl ?_
        have f132 := (f115.ext E111)
        refine k_ldcO (sl := 4) at_92 rfl (hw _ (List.mem_of_getElem? (i := 7) rfl)) (own_wS Z a0 hw) (by decide) (by decide) (by decide) (by decide) ?_
        intro a129 h130 E131
        show KW true l Z M_law n0 (fun v _ => v = some (.int 1)) (EL, fun x => x = a109) h130 9 31 94 #[.val (.int g1), .val (.int g2), .val (.int g3), .val (.int g4), .val (.int hm), .val (.int um), .val (.int pm), .val (.int uc), .val (.int hc), .val (.int pq), .val .null, .val (.ref a48), .val .null, .unset, .unset, .unset, .unset, .unset] [(.ref a129), (.ref a109), (.ref a109)]
        refine k_aconstNull at_94 rfl ?_
        refine k_aload at_95 rfl rfl rfl ?_
        refine k_aload at_97 rfl rfl rfl ?_
        refine k_aload at_99 rfl rfl rfl ?_
        have f136 := (f132.ext E131)
        have f137 := (A112.ext E131)
        refine k_ldcO (sl := 0) at_101 rfl (hw _ (List.mem_of_getElem? (i := 15) rfl)) (own_wS Z a0 hw) (by decide) (by decide) (by decide) (by decide) ?_
        intro a133 h134 E135
        show KW true l Z M_law n0 (fun v _ => v = some (.int 1)) (EL, fun x => x = a109) h134 11 35 103 #[.val (.int g1), .val (.int g2), .val (.int g3), .val (.int g4), .val (.int hm), .val (.int um), .val (.int pm), .val (.int uc), .val (.int hc), .val (.int pq), .val .null, .val (.ref a48), .val .null, .unset, .unset, .unset, .unset, .unset] [(.ref a133), .null, (.ref a48), .null, .null, (.ref a129), (.ref a109), (.ref a109)]
        refine k_aconstNull at_103 rfl ?_
        refine k_aconstNull at_104 rfl ?_
        have f138 := ((((f101.keep K104 all0).ext E111).ext E131).ext E135)
        have f139 := (f136.ext E135)
        have f140 := (f137.ext E135)
        have f141 := ((F121.ext E131).ext E135)
        have f142 := ((F122.ext E131).ext E135)
        have f143 := ((F123.ext E131).ext E135)
        have f144 := ((F124.ext E131).ext E135)
        have f145 := ((F125.ext E131).ext E135)
        have f146 := ((F126.ext E131).ext E135)
        have f147 := ((F127.ext E131).ext E135)
        have f148 := ((F128.ext E131).ext E135)
        refine k_callInit (a := a109) (argsL := [(.ref a129), .null, .null, (.ref a48), .null, (.ref a133), .null, .null]) (rest := [(.ref a109)]) (W0 := 1) at_105 rfl (mt_ui l Z a0 hw cs hcs SC hEW a109 (Value.ref a129) Value.null Value.null (Value.ref a48) Value.null (Value.ref a133) Value.null Value.null rfl rfl rfl rfl rfl rfl rfl rfl h134 n0 ge119 f140 f141 f142 f143 f144 f145 f146 f147 f148) (fun _ _ _ q => ⟨[a109], q.2.1, fun x hx => by cases List.mem_singleton.mp hx; exact Sf.exa f140 (by decide) (by decide)⟩) rfl rfl (hw _ (List.mem_of_getElem? (i := 16) rfl)) (hw _ (List.mem_of_getElem? (i := 17) rfl)) (hw _ (List.mem_of_getElem? (i := 6) rfl)) (hw _ (List.mem_of_getElem? (i := 18) rfl)) (by decide) pd_ui rfl rfl rfl rfl (by decide) (by decide) (by decide) (by decide) ?_
        rintro _ h149 - ⟨rfl, K150, F151, F152, F153⟩
        refine KW.sub (S' := fun _ => False) (fun x hx => hx.elim) ?_
        show KW true l Z M_law n0 (fun v _ => v = some (.int 1)) (EL, fun _ => False) h149 11 35 108 #[.val (.int g1), .val (.int g2), .val (.int g3), .val (.int g4), .val (.int hm), .val (.int um), .val (.int pm), .val (.int uc), .val (.int hc), .val (.int pq), .val .null, .val (.ref a48), .val .null, .unset, .unset, .unset, .unset, .unset] [(.ref a109)]
        refine k_astore (Ls' := #[.val (.int g1), .val (.int g2), .val (.int g3), .val (.int g4), .val (.int hm), .val (.int um), .val (.int pm), .val (.int uc), .val (.int hc), .val (.int pq), .val .null, .val (.ref a48), .val .null, .val (.ref a109), .unset, .unset, .unset, .unset]) at_108 rfl rfl rfl ?_
        refine k_aload at_110 rfl rfl rfl ?_
        have f154 := (f138.keep K150 (allS ge119 all0))
        have f155 := (f139.keep K150 (ninS ne116 nin0) (ninS ne117 nin0))
        have f156 := (f140.keep K150)
        have z157 : n0 ≤ h149.size := (Nat.le_trans (Nat.le_trans (Nat.le_trans (Nat.le_trans z118 E111.1) E131.1) E135.1) K150.1)
        refine k_callVirtual (argsL := []) (rest := []) (W0 := 0) at_112 rfl (mt_au00 l Z a0 hw cs hcs SC hEW a109 a48 t49 (pt hm hc) h149 n0 f154 F151 F152 F153 f155 (pt_len _ _)) (fun _ _ _ q => by obtain ⟨_, _, _, -, K, -⟩ := q; exact ⟨[], K, fun _ z => nomatch z⟩) f156 (hw _ (List.mem_of_getElem? (i := 38) rfl)) (hw _ (List.mem_of_getElem? (i := 39) rfl)) (hw _ (List.mem_of_getElem? (i := 41) rfl)) (hw _ (List.mem_of_getElem? (i := 41) rfl)) rfl (hw _ (List.mem_of_getElem? (i := 40) rfl)) (hw _ (List.mem_of_getElem? (i := 42) rfl)) (hw _ (List.mem_of_getElem? (i := 6) rfl)) (by decide) pd_au rfl rfl rfl rfl (by decide) (by decide) (by decide) (by decide) ?_
        rintro _ h158 - ⟨o159, a160, e161, rfl, K162, EO163, FO164, SG165⟩
        refine KW.sub (S' := fun _ => False) (fun x hx => hx.elim) ?_
        show KW true l Z M_law n0 (fun v _ => v = some (.int 1)) (EL, fun _ => False) h158 16 76 115 #[.val (.int g1), .val (.int g2), .val (.int g3), .val (.int g4), .val (.int hm), .val (.int um), .val (.int pm), .val (.int uc), .val (.int hc), .val (.int pq), .val .null, .val (.ref a48), .val .null, .val (.ref a109), .unset, .unset, .unset, .unset] [(.ref o159)]
        refine k_astore (Ls' := #[.val (.int g1), .val (.int g2), .val (.int g3), .val (.int g4), .val (.int hm), .val (.int um), .val (.int pm), .val (.int uc), .val (.int hc), .val (.int pq), .val .null, .val (.ref a48), .val .null, .val (.ref a109), .val (.ref o159), .unset, .unset, .unset]) at_115 rfl rfl rfl ?_
        refine k_aload at_117 rfl rfl rfl ?_
        refine k_ifnonnullY (pc' := 136) at_119 (by decide) (by decide) ?_
        refine k_aload at_136 rfl rfl rfl ?_
        refine k_callVirtual (argsL := []) (rest := []) (W0 := 0) at_138 rfl (mt_oip l Z a0 hw cs hcs SC hEW o159 a160 h158 n0 FO164) (Kp.pure (fun _ _ q => q.2.symm)) EO163 (hw _ (List.mem_of_getElem? (i := 48) rfl)) (hw _ (List.mem_of_getElem? (i := 49) rfl)) (hw _ (List.mem_of_getElem? (i := 51) rfl)) (hw _ (List.mem_of_getElem? (i := 51) rfl)) rfl (hw _ (List.mem_of_getElem? (i := 50) rfl)) (hw _ (List.mem_of_getElem? (i := 52) rfl)) (hw _ (List.mem_of_getElem? (i := 45) rfl)) (by decide) pd_oip rfl rfl rfl rfl (by decide) (by decide) (by decide) (by decide) ?_
        rintro _ _ - ⟨rfl, rfl⟩
        refine KW.sub (S' := fun _ => False) (fun x hx => hx.elim) ?_
        show KW true l Z M_law n0 (fun v _ => v = some (.int 1)) (EL, fun _ => False) h158 16 76 141 #[.val (.int g1), .val (.int g2), .val (.int g3), .val (.int g4), .val (.int hm), .val (.int um), .val (.int pm), .val (.int uc), .val (.int hc), .val (.int pq), .val .null, .val (.ref a48), .val .null, .val (.ref a109), .val (.ref o159), .unset, .unset, .unset] [(.int (1 : Int32))]
        refine k_ifc (pc1 := 146) (pc' := 144) at_141 (by decide) (by decide) rfl (fun (cd13 : ¬ (1 : Int32) = (0 : Int32)) => ?_) (fun (cd13 : (1 : Int32) = (0 : Int32)) => False.elim (by exact absurd cd13 (by decide)))
        refine k_aload at_146 rfl rfl rfl ?_
        refine k_callVirtual (argsL := []) (rest := []) (W0 := 0) at_148 rfl (mt_ogt l Z a0 hw cs hcs SC hEW o159 a160 h158 n0 FO164) (Kp.pure (fun _ _ q => q.2.symm)) EO163 (hw _ (List.mem_of_getElem? (i := 201) rfl)) (hw _ (List.mem_of_getElem? (i := 202) rfl)) (hw _ (List.mem_of_getElem? (i := 204) rfl)) (hw _ (List.mem_of_getElem? (i := 51) rfl)) rfl (hw _ (List.mem_of_getElem? (i := 203) rfl)) (hw _ (List.mem_of_getElem? (i := 205) rfl)) (hw _ (List.mem_of_getElem? (i := 45) rfl)) (by decide) pd_ogt rfl rfl rfl rfl (by decide) (by decide) (by decide) (by decide) ?_
        rintro _ _ - ⟨rfl, rfl⟩
        refine KW.sub (S' := fun _ => False) (fun x hx => hx.elim) ?_
        show KW true l Z M_law n0 (fun v _ => v = some (.int 1)) (EL, fun _ => False) h158 16 76 151 #[.val (.int g1), .val (.int g2), .val (.int g3), .val (.int g4), .val (.int hm), .val (.int um), .val (.int pm), .val (.int uc), .val (.int hc), .val (.int pq), .val .null, .val (.ref a48), .val .null, .val (.ref a109), .val (.ref o159), .unset, .unset, .unset] [(.ref a160)]
        refine k_cast at_151 rfl (hw _ (List.mem_of_getElem? (i := 206) rfl)) (Ins.self SG165.exa) ?_
        refine k_astore (Ls' := #[.val (.int g1), .val (.int g2), .val (.int g3), .val (.int g4), .val (.int hm), .val (.int um), .val (.int pm), .val (.int uc), .val (.int hc), .val (.int pq), .val .null, .val (.ref a48), .val .null, .val (.ref a109), .val (.ref o159), .val (.ref a160), .unset, .unset]) at_154 rfl rfl rfl ?_
        refine k_iconst (z := (5 : Int32)) at_156 rfl (by decide) ?_
        refine k_newarr (cap := 5) at_157 rfl (hw _ (List.mem_of_getElem? (i := 207) rfl)) (by decide) (by decide) (by decide) (by decide) (by decide) ?_
        intro h167 a166 ck171 g170 E168 V169
        have ne172 : a160 ≠ a166 := Nat.ne_of_lt (Nat.lt_of_lt_of_eq SG165.lt g170.symm)
        have ne173 : e161 ≠ a166 := Nat.ne_of_lt (Nat.lt_of_lt_of_eq SG165.ltv g170.symm)
        have ne174 : o159 ≠ a166 := Nat.ne_of_lt (Nat.lt_of_lt_of_eq EO163.lt g170.symm)
        have z176 : n0 ≤ h158.size := (Nat.le_trans z157 K162.1)
        have ge175 : n0 ≤ a166 := Nat.le_trans z176 (Nat.le_of_eq g170.symm)
        have gl177 : h158.size ≤ a166 := Nat.le_of_eq g170.symm
        have V178 : Arv Z h167 a166 ck171 .char (5 : Int32) [(.int (0 : Int32)), (.int (0 : Int32)), (.int (0 : Int32)), (.int (0 : Int32)), (.int (0 : Int32))] (.int (0 : Int32)) := Arv.pad V169 (pad_rep [] _ 5)
        refine KW.sub (S' := fun x => x = a166) (fun x hx => ?_) ?_
        · rcases hx with rfl
          · exact Or.inr ⟨gl177, V178.lt⟩
        show KW true l Z M_law n0 (fun v _ => v = some (.int 1)) (EL, fun x => x = a166) h167 17 81 159 #[.val (.int g1), .val (.int g2), .val (.int g3), .val (.int g4), .val (.int hm), .val (.int um), .val (.int pm), .val (.int uc), .val (.int hc), .val (.int pq), .val .null, .val (.ref a48), .val .null, .val (.ref a109), .val (.ref o159), .val (.ref a160), .unset, .unset] [(.ref a166)]
        refine k_astore (Ls' := #[.val (.int g1), .val (.int g2), .val (.int g3), .val (.int g4), .val (.int hm), .val (.int um), .val (.int pm), .val (.int uc), .val (.int hc), .val (.int pq), .val .null, .val (.ref a48), .val .null, .val (.ref a109), .val (.ref o159), .val (.ref a160), .val (.ref a166), .unset]) at_159 rfl rfl rfl ?_
        refine k_iconst (z := (0 : Int32)) at_161 rfl (by decide) ?_
        refine k_istore (Ls' := #[.val (.int g1), .val (.int g2), .val (.int g3), .val (.int g4), .val (.int hm), .val (.int um), .val (.int pm), .val (.int uc), .val (.int hc), .val (.int pq), .val .null, .val (.ref a48), .val .null, .val (.ref a109), .val (.ref o159), .val (.ref a160), .val (.ref a166), .val (.int (0 : Int32))]) at_162 rfl rfl ?_
        refine KW.sub (S' := fun _ => False) (fun x hx => hx.elim) ?_
        show KW true l Z M_law n0 (fun v _ => v = some (.int 1)) (EL, fun _ => False) h167 17 81 164 #[.val (.int g1), .val (.int g2), .val (.int g3), .val (.int g4), .val (.int hm), .val (.int um), .val (.int pm), .val (.int uc), .val (.int hc), .val (.int pq), .val .null, .val (.ref a48), .val .null, .val (.ref a109), .val (.ref o159), .val (.ref a160), .val (.ref a166), .val (.int (0 : Int32))] []
        refine KW.more (k' := 30) (n' := 300) (by decide) (by decide) ?_
        have f179 := ((f154.keep K162 all0).ext E168)
        have f180 := (SG165.ext E168)
        exact kw_164 l Z a0 hw cs hcs SC hEW g1 g2 g3 g4 hm um pm uc hc pq Value.null (Value.ref a48) Value.null (Value.ref a109) (Value.ref o159) a160 e161 a166 ck171 (([] : List Int32) ++ (pt hm hc)) [] [0, 0, 0, 0, 0] h167 n0 sio SIO hsio f179 f180 V178 rfl ne172 ne173 ge175 Latin.nil huc hhc hpq (by decide) (own_txt00 h4h hz39 hz47 hz105)
      · skip
        show KW true l Z M_law n0 (fun v _ => v = some (.int 1)) (EL, fun _ => False) h103 6 15 86 #[.val (.int g1), .val (.int g2), .val (.int g3), .val (.int g4), .val (.int hm), .val (.int um), .val (.int pm), .val (.int uc), .val (.int hc), .val (.int pq), .val .null, .val (.ref a48), .unset, .unset, .unset, .unset, .unset, .unset] [(.ref a106)]
        refine k_astore (Ls' := #[.val (.int g1), .val (.int g2), .val (.int g3), .val (.int g4), .val (.int hm), .val (.int um), .val (.int pm), .val (.int uc), .val (.int hc), .val (.int pq), .val .null, .val (.ref a48), .val (.ref a106), .unset, .unset, .unset, .unset, .unset]) at_86 rfl rfl rfl ?_
        have f187 := (SG50.keep K104 nin0 nin0)
        refine k_new at_88 rfl (hw _ (List.mem_of_getElem? (i := 4) rfl)) (hw _ (List.mem_of_getElem? (i := 5) rfl)) (hw _ (List.mem_of_getElem? (i := 6) rfl)) (by decide) (by decide) ?_
        intro h182 a181 g186 E183 A184 D185
        have ne188 : a48 ≠ a181 := Nat.ne_of_lt (Nat.lt_of_lt_of_eq f187.lt g186.symm)
        have ne189 : t49 ≠ a181 := Nat.ne_of_lt (Nat.lt_of_lt_of_eq f187.ltv g186.symm)
        have ne190 : a106 ≠ a181 := Nat.ne_of_lt (Nat.lt_of_lt_of_eq SG108.lt g186.symm)
        have ne191 : t107 ≠ a181 := Nat.ne_of_lt (Nat.lt_of_lt_of_eq SG108.ltv g186.symm)
        have z192 : n0 ≤ h103.size := (Nat.le_trans z102 K104.1)
        have ge193 : n0 ≤ a181 := Nat.le_trans z192 (Nat.le_of_eq g186.symm)
        have gl194 : h103.size ≤ a181 := Nat.le_of_eq g186.symm
        have F195 : Fld Z h182 a181 "com/example/liburiref/liburiref/UriReference" "text" "Ljava/lang/String;" .null := D185 (Or.inr (hw _ (List.mem_of_getElem? (i := 23) rfl))) (ty := (.object "java/lang/String")) (by decide)
        have F196 : Fld Z h182 a181 "com/example/liburiref/liburiref/UriReference" "scheme" "Ljava/lang/String;" .null := D185 (Or.inr (hw _ (List.mem_of_getElem? (i := 25) rfl))) (ty := (.object "java/lang/String")) (by decide)
        have F197 : Fld Z h182 a181 "com/example/liburiref/liburiref/UriReference" "userInfo" "Ljava/lang/String;" .null := D185 (Or.inr (hw _ (List.mem_of_getElem? (i := 27) rfl))) (ty := (.object "java/lang/String")) (by decide)
        have F198 : Fld Z h182 a181 "com/example/liburiref/liburiref/UriReference" "host" "Ljava/lang/String;" .null := D185 (Or.inr (hw _ (List.mem_of_getElem? (i := 29) rfl))) (ty := (.object "java/lang/String")) (by decide)
        have F199 : Fld Z h182 a181 "com/example/liburiref/liburiref/UriReference" "port" "Ljava/lang/String;" .null := D185 (Or.inr (hw _ (List.mem_of_getElem? (i := 31) rfl))) (ty := (.object "java/lang/String")) (by decide)
        have F200 : Fld Z h182 a181 "com/example/liburiref/liburiref/UriReference" "path" "Ljava/lang/String;" .null := D185 (Or.inr (hw _ (List.mem_of_getElem? (i := 33) rfl))) (ty := (.object "java/lang/String")) (by decide)
        have F201 : Fld Z h182 a181 "com/example/liburiref/liburiref/UriReference" "query" "Ljava/lang/String;" .null := D185 (Or.inr (hw _ (List.mem_of_getElem? (i := 35) rfl))) (ty := (.object "java/lang/String")) (by decide)
        have F202 : Fld Z h182 a181 "com/example/liburiref/liburiref/UriReference" "fragment" "Ljava/lang/String;" .null := D185 (Or.inr (hw _ (List.mem_of_getElem? (i := 37) rfl))) (ty := (.object "java/lang/String")) (by decide)
        refine KW.sub (S' := fun x => x = a181) (fun x hx => ?_) ?_
        · rcases hx with rfl
          · exact Or.inr ⟨gl194, A184.lt⟩
        show KW true l Z M_law n0 (fun v _ => v = some (.int 1)) (EL, fun x => x = a181) h182 7 23 91 #[.val (.int g1), .val (.int g2), .val (.int g3), .val (.int g4), .val (.int hm), .val (.int um), .val (.int pm), .val (.int uc), .val (.int hc), .val (.int pq), .val .null, .val (.ref a48), .val (.ref a106), .unset, .unset, .unset, .unset, .unset] [(.ref a181)]
        refine k_dup at_91 rfl rfl ?_
        have f206 := (f187.ext E183)
        have f207 := (SG108.ext E183)
        refine k_ldcO (sl := 4) at_92 rfl (hw _ (List.mem_of_getElem? (i := 7) rfl)) (own_wS Z a0 hw) (by decide) (by decide) (by decide) (by decide) ?_
        intro a203 h204 E205
        show KW true l Z M_law n0 (fun v _ => v = some (.int 1)) (EL, fun x => x = a181) h204 9 31 94 #[.val (.int g1), .val (.int g2), .val (.int g3), .val (.int g4), .val (.int hm), .val (.int um), .val (.int pm), .val (.int uc), .val (.int hc), .val (.int pq), .val .null, .val (.ref a48), .val (.ref a106), .unset, .unset, .unset, .unset, .unset] [(.ref a203), (.ref a181), (.ref a181)]
        refine k_aconstNull at_94 rfl ?_
        refine k_aload at_95 rfl rfl rfl ?_
        refine k_aload at_97 rfl rfl rfl ?_
        refine k_aload at_99 rfl rfl rfl ?_
        have f211 := (f206.ext E205)
        have f212 := (f207.ext E205)
        have f213 := (A184.ext E205)
        refine k_ldcO (sl := 0) at_101 rfl (hw _ (List.mem_of_getElem? (i := 15) rfl)) (own_wS Z a0 hw) (by decide) (by decide) (by decide) (by decide) ?_
        intro a208 h209 E210
        show KW true l Z M_law n0 (fun v _ => v = some (.int 1)) (EL, fun x => x = a181) h209 11 35 103 #[.val (.int g1), .val (.int g2), .val (.int g3), .val (.int g4), .val (.int hm), .val (.int um), .val (.int pm), .val (.int uc), .val (.int hc), .val (.int pq), .val .null, .val (.ref a48), .val (.ref a106), .unset, .unset, .unset, .unset, .unset] [(.ref a208), (.ref a106), (.ref a48), .null, .null, (.ref a203), (.ref a181), (.ref a181)]
        refine k_aconstNull at_103 rfl ?_
        refine k_aconstNull at_104 rfl ?_
        have f214 := ((((f101.keep K104 all0).ext E183).ext E205).ext E210)
        have f215 := (f211.ext E210)
        have f216 := (f212.ext E210)
        have f217 := (f213.ext E210)
        have f218 := ((F195.ext E205).ext E210)
        have f219 := ((F196.ext E205).ext E210)
        have f220 := ((F197.ext E205).ext E210)
        have f221 := ((F198.ext E205).ext E210)
        have f222 := ((F199.ext E205).ext E210)
        have f223 := ((F200.ext E205).ext E210)
        have f224 := ((F201.ext E205).ext E210)
        have f225 := ((F202.ext E205).ext E210)
        refine k_callInit (a := a181) (argsL := [(.ref a203), .null, .null, (.ref a48), (.ref a106), (.ref a208), .null, .null]) (rest := [(.ref a181)]) (W0 := 1) at_105 rfl (mt_ui l Z a0 hw cs hcs SC hEW a181 (Value.ref a203) Value.null Value.null (Value.ref a48) (Value.ref a106) (Value.ref a208) Value.null Value.null rfl rfl rfl rfl rfl rfl rfl rfl h209 n0 ge193 f217 f218 f219 f220 f221 f222 f223 f224 f225) (fun _ _ _ q => ⟨[a181], q.2.1, fun x hx => by cases List.mem_singleton.mp hx; exact Sf.exa f217 (by decide) (by decide)⟩) rfl rfl (hw _ (List.mem_of_getElem? (i := 16) rfl)) (hw _ (List.mem_of_getElem? (i := 17) rfl)) (hw _ (List.mem_of_getElem? (i := 6) rfl)) (hw _ (List.mem_of_getElem? (i := 18) rfl)) (by decide) pd_ui rfl rfl rfl rfl (by decide) (by decide) (by decide) (by decide) ?_
        rintro _ h226 - ⟨rfl, K227, F228, F229, F230⟩
        refine KW.sub (S' := fun _ => False) (fun x hx => hx.elim) ?_
        show KW true l Z M_law n0 (fun v _ => v = some (.int 1)) (EL, fun _ => False) h226 11 35 108 #[.val (.int g1), .val (.int g2), .val (.int g3), .val (.int g4), .val (.int hm), .val (.int um), .val (.int pm), .val (.int uc), .val (.int hc), .val (.int pq), .val .null, .val (.ref a48), .val (.ref a106), .unset, .unset, .unset, .unset, .unset] [(.ref a181)]
        refine k_astore (Ls' := #[.val (.int g1), .val (.int g2), .val (.int g3), .val (.int g4), .val (.int hm), .val (.int um), .val (.int pm), .val (.int uc), .val (.int hc), .val (.int pq), .val .null, .val (.ref a48), .val (.ref a106), .val (.ref a181), .unset, .unset, .unset, .unset]) at_108 rfl rfl rfl ?_
        refine k_aload at_110 rfl rfl rfl ?_
        have f231 := (f214.keep K227 (allS ge193 all0))
        have f232 := (f215.keep K227 (ninS ne188 nin0) (ninS ne189 nin0))
        have f233 := (f216.keep K227 (ninS ne190 nin0) (ninS ne191 nin0))
        have f234 := (f217.keep K227)
        have z235 : n0 ≤ h226.size := (Nat.le_trans (Nat.le_trans (Nat.le_trans (Nat.le_trans z192 E183.1) E205.1) E210.1) K227.1)
        refine k_callVirtual (argsL := []) (rest := []) (W0 := 0) at_112 rfl (mt_au01 l Z a0 hw cs hcs SC hEW a181 a48 t49 a106 t107 (pt hm hc) (pt pm pq) h226 n0 f231 F228 F229 F230 f232 (pt_len _ _) f233 (pt_len _ _)) (fun _ _ _ q => by obtain ⟨_, _, _, -, K, -⟩ := q; exact ⟨[], K, fun _ z => nomatch z⟩) f234 (hw _ (List.mem_of_getElem? (i := 38) rfl)) (hw _ (List.mem_of_getElem? (i := 39) rfl)) (hw _ (List.mem_of_getElem? (i := 41) rfl)) (hw _ (List.mem_of_getElem? (i := 41) rfl)) rfl (hw _ (List.mem_of_getElem? (i := 40) rfl)) (hw _ (List.mem_of_getElem? (i := 42) rfl)) (hw _ (List.mem_of_getElem? (i := 6) rfl)) (by decide) pd_au rfl rfl rfl rfl (by decide) (by decide) (by decide) (by decide) ?_
        rintro _ h236 - ⟨o237, a238, e239, rfl, K240, EO241, FO242, SG243⟩
        refine KW.sub (S' := fun _ => False) (fun x hx => hx.elim) ?_
        show KW true l Z M_law n0 (fun v _ => v = some (.int 1)) (EL, fun _ => False) h236 16 76 115 #[.val (.int g1), .val (.int g2), .val (.int g3), .val (.int g4), .val (.int hm), .val (.int um), .val (.int pm), .val (.int uc), .val (.int hc), .val (.int pq), .val .null, .val (.ref a48), .val (.ref a106), .val (.ref a181), .unset, .unset, .unset, .unset] [(.ref o237)]
        refine k_astore (Ls' := #[.val (.int g1), .val (.int g2), .val (.int g3), .val (.int g4), .val (.int hm), .val (.int um), .val (.int pm), .val (.int uc), .val (.int hc), .val (.int pq), .val .null, .val (.ref a48), .val (.ref a106), .val (.ref a181), .val (.ref o237), .unset, .unset, .unset]) at_115 rfl rfl rfl ?_
        refine k_aload at_117 rfl rfl rfl ?_
        refine k_ifnonnullY (pc' := 136) at_119 (by decide) (by decide) ?_
        refine k_aload at_136 rfl rfl rfl ?_
        refine k_callVirtual (argsL := []) (rest := []) (W0 := 0) at_138 rfl (mt_oip l Z a0 hw cs hcs SC hEW o237 a238 h236 n0 FO242) (Kp.pure (fun _ _ q => q.2.symm)) EO241 (hw _ (List.mem_of_getElem? (i := 48) rfl)) (hw _ (List.mem_of_getElem? (i := 49) rfl)) (hw _ (List.mem_of_getElem? (i := 51) rfl)) (hw _ (List.mem_of_getElem? (i := 51) rfl)) rfl (hw _ (List.mem_of_getElem? (i := 50) rfl)) (hw _ (List.mem_of_getElem? (i := 52) rfl)) (hw _ (List.mem_of_getElem? (i := 45) rfl)) (by decide) pd_oip rfl rfl rfl rfl (by decide) (by decide) (by decide) (by decide) ?_
        rintro _ _ - ⟨rfl, rfl⟩
        refine KW.sub (S' := fun _ => False) (fun x hx => hx.elim) ?_
        show KW true l Z M_law n0 (fun v _ => v = some (.int 1)) (EL, fun _ => False) h236 16 76 141 #[.val (.int g1), .val (.int g2), .val (.int g3), .val (.int g4), .val (.int hm), .val (.int um), .val (.int pm), .val (.int uc), .val (.int hc), .val (.int pq), .val .null, .val (.ref a48), .val (.ref a106), .val (.ref a181), .val (.ref o237), .unset, .unset, .unset] [(.int (1 : Int32))]
        refine k_ifc (pc1 := 146) (pc' := 144) at_141 (by decide) (by decide) rfl (fun (cd14 : ¬ (1 : Int32) = (0 : Int32)) => ?_) (fun (cd14 : (1 : Int32) = (0 : Int32)) => False.elim (by exact absurd cd14 (by decide)))
        refine k_aload at_146 rfl rfl rfl ?_
        refine k_callVirtual (argsL := []) (rest := []) (W0 := 0) at_148 rfl (mt_ogt l Z a0 hw cs hcs SC hEW o237 a238 h236 n0 FO242) (Kp.pure (fun _ _ q => q.2.symm)) EO241 (hw _ (List.mem_of_getElem? (i := 201) rfl)) (hw _ (List.mem_of_getElem? (i := 202) rfl)) (hw _ (List.mem_of_getElem? (i := 204) rfl)) (hw _ (List.mem_of_getElem? (i := 51) rfl)) rfl (hw _ (List.mem_of_getElem? (i := 203) rfl)) (hw _ (List.mem_of_getElem? (i := 205) rfl)) (hw _ (List.mem_of_getElem? (i := 45) rfl)) (by decide) pd_ogt rfl rfl rfl rfl (by decide) (by decide) (by decide) (by decide) ?_
        rintro _ _ - ⟨rfl, rfl⟩
        refine KW.sub (S' := fun _ => False) (fun x hx => hx.elim) ?_
        show KW true l Z M_law n0 (fun v _ => v = some (.int 1)) (EL, fun _ => False) h236 16 76 151 #[.val (.int g1), .val (.int g2), .val (.int g3), .val (.int g4), .val (.int hm), .val (.int um), .val (.int pm), .val (.int uc), .val (.int hc), .val (.int pq), .val .null, .val (.ref a48), .val (.ref a106), .val (.ref a181), .val (.ref o237), .unset, .unset, .unset] [(.ref a238)]
        refine k_cast at_151 rfl (hw _ (List.mem_of_getElem? (i := 206) rfl)) (Ins.self SG243.exa) ?_
        refine k_astore (Ls' := #[.val (.int g1), .val (.int g2), .val (.int g3), .val (.int g4), .val (.int hm), .val (.int um), .val (.int pm), .val (.int uc), .val (.int hc), .val (.int pq), .val .null, .val (.ref a48), .val (.ref a106), .val (.ref a181), .val (.ref o237), .val (.ref a238), .unset, .unset]) at_154 rfl rfl rfl ?_
        refine k_iconst (z := (5 : Int32)) at_156 rfl (by decide) ?_
        refine k_newarr (cap := 5) at_157 rfl (hw _ (List.mem_of_getElem? (i := 207) rfl)) (by decide) (by decide) (by decide) (by decide) (by decide) ?_
        intro h245 a244 ck249 g248 E246 V247
        have ne250 : a238 ≠ a244 := Nat.ne_of_lt (Nat.lt_of_lt_of_eq SG243.lt g248.symm)
        have ne251 : e239 ≠ a244 := Nat.ne_of_lt (Nat.lt_of_lt_of_eq SG243.ltv g248.symm)
        have ne252 : o237 ≠ a244 := Nat.ne_of_lt (Nat.lt_of_lt_of_eq EO241.lt g248.symm)
        have z254 : n0 ≤ h236.size := (Nat.le_trans z235 K240.1)
        have ge253 : n0 ≤ a244 := Nat.le_trans z254 (Nat.le_of_eq g248.symm)
        have gl255 : h236.size ≤ a244 := Nat.le_of_eq g248.symm
        have V256 : Arv Z h245 a244 ck249 .char (5 : Int32) [(.int (0 : Int32)), (.int (0 : Int32)), (.int (0 : Int32)), (.int (0 : Int32)), (.int (0 : Int32))] (.int (0 : Int32)) := Arv.pad V247 (pad_rep [] _ 5)
        refine KW.sub (S' := fun x => x = a244) (fun x hx => ?_) ?_
        · rcases hx with rfl
          · exact Or.inr ⟨gl255, V256.lt⟩
        show KW true l Z M_law n0 (fun v _ => v = some (.int 1)) (EL, fun x => x = a244) h245 17 81 159 #[.val (.int g1), .val (.int g2), .val (.int g3), .val (.int g4), .val (.int hm), .val (.int um), .val (.int pm), .val (.int uc), .val (.int hc), .val (.int pq), .val .null, .val (.ref a48), .val (.ref a106), .val (.ref a181), .val (.ref o237), .val (.ref a238), .unset, .unset] [(.ref a244)]
        refine k_astore (Ls' := #[.val (.int g1), .val (.int g2), .val (.int g3), .val (.int g4), .val (.int hm), .val (.int um), .val (.int pm), .val (.int uc), .val (.int hc), .val (.int pq), .val .null, .val (.ref a48), .val (.ref a106), .val (.ref a181), .val (.ref o237), .val (.ref a238), .val (.ref a244), .unset]) at_159 rfl rfl rfl ?_
        refine k_iconst (z := (0 : Int32)) at_161 rfl (by decide) ?_
        refine k_istore (Ls' := #[.val (.int g1), .val (.int g2), .val (.int g3), .val (.int g4), .val (.int hm), .val (.int um), .val (.int pm), .val (.int uc), .val (.int hc), .val (.int pq), .val .null, .val (.ref a48), .val (.ref a106), .val (.ref a181), .val (.ref o237), .val (.ref a238), .val (.ref a244), .val (.int (0 : Int32))]) at_162 rfl rfl ?_
        refine KW.sub (S' := fun _ => False) (fun x hx => hx.elim) ?_
        show KW true l Z M_law n0 (fun v _ => v = some (.int 1)) (EL, fun _ => False) h245 17 81 164 #[.val (.int g1), .val (.int g2), .val (.int g3), .val (.int g4), .val (.int hm), .val (.int um), .val (.int pm), .val (.int uc), .val (.int hc), .val (.int pq), .val .null, .val (.ref a48), .val (.ref a106), .val (.ref a181), .val (.ref o237), .val (.ref a238), .val (.ref a244), .val (.int (0 : Int32))] []
        refine KW.more (k' := 30) (n' := 300) (by decide) (by decide) ?_
        have f257 := ((f231.keep K240 all0).ext E246)
        have f258 := (SG243.ext E246)
        exact kw_164 l Z a0 hw cs hcs SC hEW g1 g2 g3 g4 hm um pm uc hc pq Value.null (Value.ref a48) (Value.ref a106) (Value.ref a181) (Value.ref o237) a238 e239 a244 ck249 (((([] : List Int32) ++ (pt hm hc)) ++ [nbI (58 : Int32)]) ++ (pt pm pq)) [] [0, 0, 0, 0, 0] h245 n0 sio SIO hsio f257 f258 V256 rfl ne250 ne251 ge253 Latin.nil huc hhc hpq (by decide) (own_txt01 h4h h4p hz39 hz47 hz105)
  · skip
    show KW true l Z M_law n0 (fun v _ => v = some (.int 1)) (EL, fun _ => False) h37 2 5 68 #[.val (.int g1), .val (.int g2), .val (.int g3), .val (.int g4), .val (.int hm), .val (.int um), .val (.int pm), .val (.int uc), .val (.int hc), .val (.int pq), .unset, .unset, .unset, .unset, .unset, .unset, .unset, .unset] [(.ref a40)]
    refine k_astore (Ls' := #[.val (.int g1), .val (.int g2), .val (.int g3), .val (.int g4), .val (.int hm), .val (.int um), .val (.int pm), .val (.int uc), .val (.int hc), .val (.int pq), .val (.ref a40), .unset, .unset, .unset, .unset, .unset, .unset, .unset]) at_68 rfl rfl rfl ?_
    refine k_iload at_70 rfl rfl ?_
    refine k_iload at_72 rfl rfl ?_
    have f259 := (OD.keep K38 all0)
    have z260 : n0 ≤ h37.size := (Nat.le_trans z36 K38.1)
    refine k_callStaticW (argsL := [(.int hm), (.int hc)]) (rest := []) (W0 := 0) at_74 rfl (mt_prt l Z a0 hw cs hcs SC hEW hm hc h37 n0 f259 hhc) (hw _ (List.mem_of_getElem? (i := 0) rfl)) (hw _ (List.mem_of_getElem? (i := 1) rfl)) (hw _ (List.mem_of_getElem? (i := 2) rfl)) (hw _ (List.mem_of_getElem? (i := 3) rfl)) (by decide) pd_prt rfl rfl rfl rfl (by decide) (by decide) (by decide) (by decide) ?_
    rintro _ h261 - ⟨K262, ⟨hz263, rfl⟩ | ⟨hz263, a264, t265, rfl, SG266⟩⟩
    · skip
      exact absurd (hM0 hz263).1 hz39
    · skip
      show KW true l Z M_law n0 (fun v _ => v = some (.int 1)) (EL, fun _ => False) h261 4 10 77 #[.val (.int g1), .val (.int g2), .val (.int g3), .val (.int g4), .val (.int hm), .val (.int um), .val (.int pm), .val (.int uc), .val (.int hc), .val (.int pq), .val (.ref a40), .unset, .unset, .unset, .unset, .unset, .unset, .unset] [(.ref a264)]
      refine k_astore (Ls' := #[.val (.int g1), .val (.int g2), .val (.int g3), .val (.int g4), .val (.int hm), .val (.int um), .val (.int pm), .val (.int uc), .val (.int hc), .val (.int pq), .val (.ref a40), .val (.ref a264), .unset, .unset, .unset, .unset, .unset, .unset]) at_77 rfl rfl rfl ?_
      refine k_iload at_79 rfl rfl ?_
      refine k_iload at_81 rfl rfl ?_
      have f267 := (f259.keep K262 all0)
      have f268 := (SG42.keep K262 nin0 nin0)
      have z269 : n0 ≤ h261.size := (Nat.le_trans z260 K262.1)
      refine k_callStaticW (argsL := [(.int pm), (.int pq)]) (rest := []) (W0 := 0) at_83 rfl (mt_prt l Z a0 hw cs hcs SC hEW pm pq h261 n0 f267 hpq) (hw _ (List.mem_of_getElem? (i := 0) rfl)) (hw _ (List.mem_of_getElem? (i := 1) rfl)) (hw _ (List.mem_of_getElem? (i := 2) rfl)) (hw _ (List.mem_of_getElem? (i := 3) rfl)) (by decide) pd_prt rfl rfl rfl rfl (by decide) (by decide) (by decide) (by decide) ?_
      rintro _ h270 - ⟨K271, ⟨hz272, rfl⟩ | ⟨hz272, a273, t274, rfl, SG275⟩⟩
      · skip
        show KW true l Z M_law n0 (fun v _ => v = some (.int 1)) (EL, fun _ => False) h270 6 15 86 #[.val (.int g1), .val (.int g2), .val (.int g3), .val (.int g4), .val (.int hm), .val (.int um), .val (.int pm), .val (.int uc), .val (.int hc), .val (.int pq), .val (.ref a40), .val (.ref a264), .unset, .unset, .unset, .unset, .unset, .unset] [.null]
        refine k_astore (Ls' := #[.val (.int g1), .val (.int g2), .val (.int g3), .val (.int g4), .val (.int hm), .val (.int um), .val (.int pm), .val (.int uc), .val (.int hc), .val (.int pq), .val (.ref a40), .val (.ref a264), .val .null, .unset, .unset, .unset, .unset, .unset]) at_86 rfl rfl rfl ?_
        have f282 := (f268.keep K271 nin0 nin0)
        have f283 := (SG266.keep K271 nin0 nin0)
        refine k_new at_88 rfl (hw _ (List.mem_of_getElem? (i := 4) rfl)) (hw _ (List.mem_of_getElem? (i := 5) rfl)) (hw _ (List.mem_of_getElem? (i := 6) rfl)) (by decide) (by decide) ?_
        intro h277 a276 g281 E278 A279 D280
        have ne284 : a40 ≠ a276 := Nat.ne_of_lt (Nat.lt_of_lt_of_eq f282.lt g281.symm)
        have ne285 : t41 ≠ a276 := Nat.ne_of_lt (Nat.lt_of_lt_of_eq f282.ltv g281.symm)
        have ne286 : a264 ≠ a276 := Nat.ne_of_lt (Nat.lt_of_lt_of_eq f283.lt g281.symm)
        have ne287 : t265 ≠ a276 := Nat.ne_of_lt (Nat.lt_of_lt_of_eq f283.ltv g281.symm)
        have z288 : n0 ≤ h270.size := (Nat.le_trans z269 K271.1)
        have ge289 : n0 ≤ a276 := Nat.le_trans z288 (Nat.le_of_eq g281.symm)
        have gl290 : h270.size ≤ a276 := Nat.le_of_eq g281.symm
        have F291 : Fld Z h277 a276 "com/example/liburiref/liburiref/UriReference" "text" "Ljava/lang/String;" .null := D280 (Or.inr (hw _ (List.mem_of_getElem? (i := 23) rfl))) (ty := (.object "java/lang/String")) (by decide)
        have F292 : Fld Z h277 a276 "com/example/liburiref/liburiref/UriReference" "scheme" "Ljava/lang/String;" .null := D280 (Or.inr (hw _ (List.mem_of_getElem? (i := 25) rfl))) (ty := (.object "java/lang/String")) (by decide)
        have F293 : Fld Z h277 a276 "com/example/liburiref/liburiref/UriReference" "userInfo" "Ljava/lang/String;" .null := D280 (Or.inr (hw _ (List.mem_of_getElem? (i := 27) rfl))) (ty := (.object "java/lang/String")) (by decide)
        have F294 : Fld Z h277 a276 "com/example/liburiref/liburiref/UriReference" "host" "Ljava/lang/String;" .null := D280 (Or.inr (hw _ (List.mem_of_getElem? (i := 29) rfl))) (ty := (.object "java/lang/String")) (by decide)
        have F295 : Fld Z h277 a276 "com/example/liburiref/liburiref/UriReference" "port" "Ljava/lang/String;" .null := D280 (Or.inr (hw _ (List.mem_of_getElem? (i := 31) rfl))) (ty := (.object "java/lang/String")) (by decide)
        have F296 : Fld Z h277 a276 "com/example/liburiref/liburiref/UriReference" "path" "Ljava/lang/String;" .null := D280 (Or.inr (hw _ (List.mem_of_getElem? (i := 33) rfl))) (ty := (.object "java/lang/String")) (by decide)
        have F297 : Fld Z h277 a276 "com/example/liburiref/liburiref/UriReference" "query" "Ljava/lang/String;" .null := D280 (Or.inr (hw _ (List.mem_of_getElem? (i := 35) rfl))) (ty := (.object "java/lang/String")) (by decide)
        have F298 : Fld Z h277 a276 "com/example/liburiref/liburiref/UriReference" "fragment" "Ljava/lang/String;" .null := D280 (Or.inr (hw _ (List.mem_of_getElem? (i := 37) rfl))) (ty := (.object "java/lang/String")) (by decide)
        refine KW.sub (S' := fun x => x = a276) (fun x hx => ?_) ?_
        · rcases hx with rfl
          · exact Or.inr ⟨gl290, A279.lt⟩
        show KW true l Z M_law n0 (fun v _ => v = some (.int 1)) (EL, fun x => x = a276) h277 7 23 91 #[.val (.int g1), .val (.int g2), .val (.int g3), .val (.int g4), .val (.int hm), .val (.int um), .val (.int pm), .val (.int uc), .val (.int hc), .val (.int pq), .val (.ref a40), .val (.ref a264), .val .null, .unset, .unset, .unset, .unset, .unset] [(.ref a276)]
        refine k_dup at_91 rfl rfl ?_
        have f302 := (f282.ext E278)
        have f303 := (f283.ext E278)
        refine k_ldcO (sl := 4) at_92 rfl (hw _ (List.mem_of_getElem? (i := 7) rfl)) (own_wS Z a0 hw) (by decide) (by decide) (by decide) (by decide) ?_
        intro a299 h300 E301
        show KW true l Z M_law n0 (fun v _ => v = some (.int 1)) (EL, fun x => x = a276) h300 9 31 94 #[.val (.int g1), .val (.int g2), .val (.int g3), .val (.int g4), .val (.int hm), .val (.int um), .val (.int pm), .val (.int uc), .val (.int hc), .val (.int pq), .val (.ref a40), .val (.ref a264), .val .null, .unset, .unset, .unset, .unset, .unset] [(.ref a299), (.ref a276), (.ref a276)]
        refine k_aconstNull at_94 rfl ?_
        refine k_aload at_95 rfl rfl rfl ?_
        refine k_aload at_97 rfl rfl rfl ?_
        refine k_aload at_99 rfl rfl rfl ?_
        have f307 := (f302.ext E301)
        have f308 := (f303.ext E301)
        have f309 := (A279.ext E301)
        refine k_ldcO (sl := 0) at_101 rfl (hw _ (List.mem_of_getElem? (i := 15) rfl)) (own_wS Z a0 hw) (by decide) (by decide) (by decide) (by decide) ?_
        intro a304 h305 E306
        show KW true l Z M_law n0 (fun v _ => v = some (.int 1)) (EL, fun x => x = a276) h305 11 35 103 #[.val (.int g1), .val (.int g2), .val (.int g3), .val (.int g4), .val (.int hm), .val (.int um), .val (.int pm), .val (.int uc), .val (.int hc), .val (.int pq), .val (.ref a40), .val (.ref a264), .val .null, .unset, .unset, .unset, .unset, .unset] [(.ref a304), .null, (.ref a264), (.ref a40), .null, (.ref a299), (.ref a276), (.ref a276)]
        refine k_aconstNull at_103 rfl ?_
        refine k_aconstNull at_104 rfl ?_
        have f310 := ((((f267.keep K271 all0).ext E278).ext E301).ext E306)
        have f311 := (f307.ext E306)
        have f312 := (f308.ext E306)
        have f313 := (f309.ext E306)
        have f314 := ((F291.ext E301).ext E306)
        have f315 := ((F292.ext E301).ext E306)
        have f316 := ((F293.ext E301).ext E306)
        have f317 := ((F294.ext E301).ext E306)
        have f318 := ((F295.ext E301).ext E306)
        have f319 := ((F296.ext E301).ext E306)
        have f320 := ((F297.ext E301).ext E306)
        have f321 := ((F298.ext E301).ext E306)
        refine k_callInit (a := a276) (argsL := [(.ref a299), .null, (.ref a40), (.ref a264), .null, (.ref a304), .null, .null]) (rest := [(.ref a276)]) (W0 := 1) at_105 rfl (mt_ui l Z a0 hw cs hcs SC hEW a276 (Value.ref a299) Value.null (Value.ref a40) (Value.ref a264) Value.null (Value.ref a304) Value.null Value.null rfl rfl rfl rfl rfl rfl rfl rfl h305 n0 ge289 f313 f314 f315 f316 f317 f318 f319 f320 f321) (fun _ _ _ q => ⟨[a276], q.2.1, fun x hx => by cases List.mem_singleton.mp hx; exact Sf.exa f313 (by decide) (by decide)⟩) rfl rfl (hw _ (List.mem_of_getElem? (i := 16) rfl)) (hw _ (List.mem_of_getElem? (i := 17) rfl)) (hw _ (List.mem_of_getElem? (i := 6) rfl)) (hw _ (List.mem_of_getElem? (i := 18) rfl)) (by decide) pd_ui rfl rfl rfl rfl (by decide) (by decide) (by decide) (by decide) ?_
        rintro _ h322 - ⟨rfl, K323, F324, F325, F326⟩
        refine KW.sub (S' := fun _ => False) (fun x hx => hx.elim) ?_
        show KW true l Z M_law n0 (fun v _ => v = some (.int 1)) (EL, fun _ => False) h322 11 35 108 #[.val (.int g1), .val (.int g2), .val (.int g3), .val (.int g4), .val (.int hm), .val (.int um), .val (.int pm), .val (.int uc), .val (.int hc), .val (.int pq), .val (.ref a40), .val (.ref a264), .val .null, .unset, .unset, .unset, .unset, .unset] [(.ref a276)]
        refine k_astore (Ls' := #[.val (.int g1), .val (.int g2), .val (.int g3), .val (.int g4), .val (.int hm), .val (.int um), .val (.int pm), .val (.int uc), .val (.int hc), .val (.int pq), .val (.ref a40), .val (.ref a264), .val .null, .val (.ref a276), .unset, .unset, .unset, .unset]) at_108 rfl rfl rfl ?_
        refine k_aload at_110 rfl rfl rfl ?_
        have f327 := (f310.keep K323 (allS ge289 all0))
        have f328 := (f311.keep K323 (ninS ne284 nin0) (ninS ne285 nin0))
        have f329 := (f312.keep K323 (ninS ne286 nin0) (ninS ne287 nin0))
        have f330 := (f313.keep K323)
        have z331 : n0 ≤ h322.size := (Nat.le_trans (Nat.le_trans (Nat.le_trans (Nat.le_trans z288 E278.1) E301.1) E306.1) K323.1)
        refine k_callVirtual (argsL := []) (rest := []) (W0 := 0) at_112 rfl (mt_au10 l Z a0 hw cs hcs SC hEW a276 a40 t41 a264 t265 (pt um uc) (pt hm hc) h322 n0 f327 F324 F325 F326 f328 (pt_len _ _) f329 (pt_len _ _)) (fun _ _ _ q => by obtain ⟨_, _, _, -, K, -⟩ := q; exact ⟨[], K, fun _ z => nomatch z⟩) f330 (hw _ (List.mem_of_getElem? (i := 38) rfl)) (hw _ (List.mem_of_getElem? (i := 39) rfl)) (hw _ (List.mem_of_getElem? (i := 41) rfl)) (hw _ (List.mem_of_getElem? (i := 41) rfl)) rfl (hw _ (List.mem_of_getElem? (i := 40) rfl)) (hw _ (List.mem_of_getElem? (i := 42) rfl)) (hw _ (List.mem_of_getElem? (i := 6) rfl)) (by decide) pd_au rfl rfl rfl rfl (by decide) (by decide) (by decide) (by decide) ?_
        rintro _ h332 - ⟨o333, a334, e335, rfl, K336, EO337, FO338, SG339⟩
        refine KW.sub (S' := fun _ => False) (fun x hx => hx.elim) ?_
        show KW true l Z M_law n0 (fun v _ => v = some (.int 1)) (EL, fun _ => False) h332 16 76 115 #[.val (.int g1), .val (.int g2), .val (.int g3), .val (.int g4), .val (.int hm), .val (.int um), .val (.int pm), .val (.int uc), .val (.int hc), .val (.int pq), .val (.ref a40), .val (.ref a264), .val .null, .val (.ref a276), .unset, .unset, .unset, .unset] [(.ref o333)]
        refine k_astore (Ls' := #[.val (.int g1), .val (.int g2), .val (.int g3), .val (.int g4), .val (.int hm), .val (.int um), .val (.int pm), .val (.int uc), .val (.int hc), .val (.int pq), .val (.ref a40), .val (.ref a264), .val .null, .val (.ref a276), .val (.ref o333), .unset, .unset, .unset]) at_115 rfl rfl rfl ?_
        refine k_aload at_117 rfl rfl rfl ?_
        refine k_ifnonnullY (pc' := 136) at_119 (by decide) (by decide) ?_
        refine k_aload at_136 rfl rfl rfl ?_
        refine k_callVirtual (argsL := []) (rest := []) (W0 := 0) at_138 rfl (mt_oip l Z a0 hw cs hcs SC hEW o333 a334 h332 n0 FO338) (Kp.pure (fun _ _ q => q.2.symm)) EO337 (hw _ (List.mem_of_getElem? (i := 48) rfl)) (hw _ (List.mem_of_getElem? (i := 49) rfl)) (hw _ (List.mem_of_getElem? (i := 51) rfl)) (hw _ (List.mem_of_getElem? (i := 51) rfl)) rfl (hw _ (List.mem_of_getElem? (i := 50) rfl)) (hw _ (List.mem_of_getElem? (i := 52) rfl)) (hw _ (List.mem_of_getElem? (i := 45) rfl)) (by decide) pd_oip rfl rfl rfl rfl (by decide) (by decide) (by decide) (by decide) ?_
        rintro _ _ - ⟨rfl, rfl⟩
        refine KW.sub (S' := fun _ => False) (fun x hx => hx.elim) ?_
        show KW true l Z M_law n0 (fun v _ => v = some (.int 1)) (EL, fun _ => False) h332 16 76 141 #[.val (.int g1), .val (.int g2), .val (.int g3), .val (.int g4), .val (.int hm), .val (.int um), .val (.int pm), .val (.int uc), .val (.int hc), .val (.int pq), .val (.ref a40), .val (.ref a264), .val .null, .val (.ref a276), .val (.ref o333), .unset, .unset, .unset] [(.int (1 : Int32))]
        refine k_ifc (pc1 := 146) (pc' := 144) at_141 (by decide) (by decide) rfl (fun (cd15 : ¬ (1 : Int32) = (0 : Int32)) => ?_) (fun (cd15 : (1 : Int32) = (0 : Int32)) => False.elim (by exact absurd cd15 (by decide)))
        refine k_aload at_146 rfl rfl rfl ?_
        refine k_callVirtual (argsL := []) (rest := []) (W0 := 0) at_148 rfl (mt_ogt l Z a0 hw cs hcs SC hEW o333 a334 h332 n0 FO338) (Kp.pure (fun _ _ q => q.2.symm)) EO337 (hw _ (List.mem_of_getElem? (i := 201) rfl)) (hw _ (List.mem_of_getElem? (i := 202) rfl)) (hw _ (List.mem_of_getElem? (i := 204) rfl)) (hw _ (List.mem_of_getElem? (i := 51) rfl)) rfl (hw _ (List.mem_of_getElem? (i := 203) rfl)) (hw _ (List.mem_of_getElem? (i := 205) rfl)) (hw _ (List.mem_of_getElem? (i := 45) rfl)) (by decide) pd_ogt rfl rfl rfl rfl (by decide) (by decide) (by decide) (by decide) ?_
        rintro _ _ - ⟨rfl, rfl⟩
        refine KW.sub (S' := fun _ => False) (fun x hx => hx.elim) ?_
        show KW true l Z M_law n0 (fun v _ => v = some (.int 1)) (EL, fun _ => False) h332 16 76 151 #[.val (.int g1), .val (.int g2), .val (.int g3), .val (.int g4), .val (.int hm), .val (.int um), .val (.int pm), .val (.int uc), .val (.int hc), .val (.int pq), .val (.ref a40), .val (.ref a264), .val .null, .val (.ref a276), .val (.ref o333), .unset, .unset, .unset] [(.ref a334)]
        refine k_cast at_151 rfl (hw _ (List.mem_of_getElem? (i := 206) rfl)) (Ins.self SG339.exa) ?_
        refine k_astore (Ls' := #[.val (.int g1), .val (.int g2), .val (.int g3), .val (.int g4), .val (.int hm), .val (.int um), .val (.int pm), .val (.int uc), .val (.int hc), .val (.int pq), .val (.ref a40), .val (.ref a264), .val .null, .val (.ref a276), .val (.ref o333), .val (.ref a334), .unset, .unset]) at_154 rfl rfl rfl ?_
        refine k_iconst (z := (5 : Int32)) at_156 rfl (by decide) ?_
        refine k_newarr (cap := 5) at_157 rfl (hw _ (List.mem_of_getElem? (i := 207) rfl)) (by decide) (by decide) (by decide) (by decide) (by decide) ?_
        intro h341 a340 ck345 g344 E342 V343
        have ne346 : a334 ≠ a340 := Nat.ne_of_lt (Nat.lt_of_lt_of_eq SG339.lt g344.symm)
        have ne347 : e335 ≠ a340 := Nat.ne_of_lt (Nat.lt_of_lt_of_eq SG339.ltv g344.symm)
        have ne348 : o333 ≠ a340 := Nat.ne_of_lt (Nat.lt_of_lt_of_eq EO337.lt g344.symm)
        have z350 : n0 ≤ h332.size := (Nat.le_trans z331 K336.1)
        have ge349 : n0 ≤ a340 := Nat.le_trans z350 (Nat.le_of_eq g344.symm)
        have gl351 : h332.size ≤ a340 := Nat.le_of_eq g344.symm
        have V352 : Arv Z h341 a340 ck345 .char (5 : Int32) [(.int (0 : Int32)), (.int (0 : Int32)), (.int (0 : Int32)), (.int (0 : Int32)), (.int (0 : Int32))] (.int (0 : Int32)) := Arv.pad V343 (pad_rep [] _ 5)
        refine KW.sub (S' := fun x => x = a340) (fun x hx => ?_) ?_
        · rcases hx with rfl
          · exact Or.inr ⟨gl351, V352.lt⟩
        show KW true l Z M_law n0 (fun v _ => v = some (.int 1)) (EL, fun x => x = a340) h341 17 81 159 #[.val (.int g1), .val (.int g2), .val (.int g3), .val (.int g4), .val (.int hm), .val (.int um), .val (.int pm), .val (.int uc), .val (.int hc), .val (.int pq), .val (.ref a40), .val (.ref a264), .val .null, .val (.ref a276), .val (.ref o333), .val (.ref a334), .unset, .unset] [(.ref a340)]
        refine k_astore (Ls' := #[.val (.int g1), .val (.int g2), .val (.int g3), .val (.int g4), .val (.int hm), .val (.int um), .val (.int pm), .val (.int uc), .val (.int hc), .val (.int pq), .val (.ref a40), .val (.ref a264), .val .null, .val (.ref a276), .val (.ref o333), .val (.ref a334), .val (.ref a340), .unset]) at_159 rfl rfl rfl ?_
        refine k_iconst (z := (0 : Int32)) at_161 rfl (by decide) ?_
        refine k_istore (Ls' := #[.val (.int g1), .val (.int g2), .val (.int g3), .val (.int g4), .val (.int hm), .val (.int um), .val (.int pm), .val (.int uc), .val (.int hc), .val (.int pq), .val (.ref a40), .val (.ref a264), .val .null, .val (.ref a276), .val (.ref o333), .val (.ref a334), .val (.ref a340), .val (.int (0 : Int32))]) at_162 rfl rfl ?_
        refine KW.sub (S' := fun _ => False) (fun x hx => hx.elim) ?_
        show KW true l Z M_law n0 (fun v _ => v = some (.int 1)) (EL, fun _ => False) h341 17 81 164 #[.val (.int g1), .val (.int g2), .val (.int g3), .val (.int g4), .val (.int hm), .val (.int um), .val (.int pm), .val (.int uc), .val (.int hc), .val (.int pq), .val (.ref a40), .val (.ref a264), .val .null, .val (.ref a276), .val (.ref o333), .val (.ref a334), .val (.ref a340), .val (.int (0 : Int32))] []
        refine KW.more (k' := 30) (n' := 300) (by decide) (by decide) ?_
        have f353 := ((f327.keep K336 all0).ext E342)
        have f354 := (SG339.ext E342)
        exact kw_164 l Z a0 hw cs hcs SC hEW g1 g2 g3 g4 hm um pm uc hc pq (Value.ref a40) (Value.ref a264) Value.null (Value.ref a276) (Value.ref o333) a334 e335 a340 ck345 (((([] : List Int32) ++ (pt um uc)) ++ [nbI (64 : Int32)]) ++ (pt hm hc)) [] [0, 0, 0, 0, 0] h341 n0 sio SIO hsio f353 f354 V352 rfl ne346 ne347 ge349 Latin.nil huc hhc hpq (by decide) (own_txt10 h4h h4u hz39 hz263 hz272)
      · skip
        show KW true l Z M_law n0 (fun v _ => v = some (.int 1)) (EL, fun _ => False) h270 6 15 86 #[.val (.int g1), .val (.int g2), .val (.int g3), .val (.int g4), .val (.int hm), .val (.int um), .val (.int pm), .val (.int uc), .val (.int hc), .val (.int pq), .val (.ref a40), .val (.ref a264), .unset, .unset, .unset, .unset, .unset, .unset] [(.ref a273)]
        refine k_astore (Ls' := #[.val (.int g1), .val (.int g2), .val (.int g3), .val (.int g4), .val (.int hm), .val (.int um), .val (.int pm), .val (.int uc), .val (.int hc), .val (.int pq), .val (.ref a40), .val (.ref a264), .val (.ref a273), .unset, .unset, .unset, .unset, .unset]) at_86 rfl rfl rfl ?_
        have f361 := (f268.keep K271 nin0 nin0)
        have f362 := (SG266.keep K271 nin0 nin0)
        refine k_new at_88 rfl (hw _ (List.mem_of_getElem? (i := 4) rfl)) (hw _ (List.mem_of_getElem? (i := 5) rfl)) (hw _ (List.mem_of_getElem? (i := 6) rfl)) (by decide) (by decide) ?_
        intro h356 a355 g360 E357 A358 D359
        have ne363 : a40 ≠ a355 := Nat.ne_of_lt (Nat.lt_of_lt_of_eq f361.lt g360.symm)
        have ne364 : t41 ≠ a355 := Nat.ne_of_lt (Nat.lt_of_lt_of_eq f361.ltv g360.symm)
        have ne365 : a264 ≠ a355 := Nat.ne_of_lt (Nat.lt_of_lt_of_eq f362.lt g360.symm)
        have ne366 : t265 ≠ a355 := Nat.ne_of_lt (Nat.lt_of_lt_of_eq f362.ltv g360.symm)
        have ne367 : a273 ≠ a355 := Nat.ne_of_lt (Nat.lt_of_lt_of_eq SG275.lt g360.symm)
        have ne368 : t274 ≠ a355 := Nat.ne_of_lt (Nat.lt_of_lt_of_eq SG275.ltv g360.symm)
        have z369 : n0 ≤ h270.size := (Nat.le_trans z269 K271.1)
        have ge370 : n0 ≤ a355 := Nat.le_trans z369 (Nat.le_of_eq g360.symm)
        have gl371 : h270.size ≤ a355 := Nat.le_of_eq g360.symm
        have F372 : Fld Z h356 a355 "com/example/liburiref/liburiref/UriReference" "text" "Ljava/lang/String;" .null := D359 (Or.inr (hw _ (List.mem_of_getElem? (i := 23) rfl))) (ty := (.object "java/lang/String")) (by decide)
        have F373 : Fld Z h356 a355 "com/example/liburiref/liburiref/UriReference" "scheme" "Ljava/lang/String;" .null := D359 (Or.inr (hw _ (List.mem_of_getElem? (i := 25) rfl))) (ty := (.object "java/lang/String")) (by decide)
        have F374 : Fld Z h356 a355 "com/example/liburiref/liburiref/UriReference" "userInfo" "Ljava/lang/String;" .null := D359 (Or.inr (hw _ (List.mem_of_getElem? (i := 27) rfl))) (ty := (.object "java/lang/String")) (by decide)
        have F375 : Fld Z h356 a355 "com/example/liburiref/liburiref/UriReference" "host" "Ljava/lang/String;" .null := D359 (Or.inr (hw _ (List.mem_of_getElem? (i := 29) rfl))) (ty := (.object "java/lang/String")) (by decide)
        have F376 : Fld Z h356 a355 "com/example/liburiref/liburiref/UriReference" "port" "Ljava/lang/String;" .null := D359 (Or.inr (hw _ (List.mem_of_getElem? (i := 31) rfl))) (ty := (.object "java/lang/String")) (by decide)
        have F377 : Fld Z h356 a355 "com/example/liburiref/liburiref/UriReference" "path" "Ljava/lang/String;" .null := D359 (Or.inr (hw _ (List.mem_of_getElem? (i := 33) rfl))) (ty := (.object "java/lang/String")) (by decide)
        have F378 : Fld Z h356 a355 "com/example/liburiref/liburiref/UriReference" "query" "Ljava/lang/String;" .null := D359 (Or.inr (hw _ (List.mem_of_getElem? (i := 35) rfl))) (ty := (.object "java/lang/String")) (by decide)
        have F379 : Fld Z h356 a355 "com/example/liburiref/liburiref/UriReference" "fragment" "Ljava/lang/String;" .null := D359 (Or.inr (hw _ (List.mem_of_getElem? (i := 37) rfl))) (ty := (.object "java/lang/String")) (by decide)
        refine KW.sub (S' := fun x => x = a355) (fun x hx => ?_) ?_
        · rcases hx with rfl
          · exact Or.inr ⟨gl371, A358.lt⟩
        show KW true l Z M_law n0 (fun v _ => v = some (.int 1)) (EL, fun x => x = a355) h356 7 23 91 #[.val (.int g1), .val (.int g2), .val (.int g3), .val (.int g4), .val (.int hm), .val (.int um), .val (.int pm), .val (.int uc), .val (.int hc), .val (.int pq), .val (.ref a40), .val (.ref a264), .val (.ref a273), .unset, .unset, .unset, .unset, .unset] [(.ref a355)]
        refine k_dup at_91 rfl rfl ?_
        have f383 := (f361.ext E357)
        have f384 := (f362.ext E357)
        have f385 := (SG275.ext E357)
        refine k_ldcO (sl := 4) at_92 rfl (hw _ (List.mem_of_getElem? (i := 7) rfl)) (own_wS Z a0 hw) (by decide) (by decide) (by decide) (by decide) ?_
        intro a380 h381 E382
        show KW true l Z M_law n0 (fun v _ => v = some (.int 1)) (EL, fun x => x = a355) h381 9 31 94 #[.val (.int g1), .val (.int g2), .val (.int g3), .val (.int g4), .val (.int hm), .val (.int um), .val (.int pm), .val (.int uc), .val (.int hc), .val (.int pq), .val (.ref a40), .val (.ref a264), .val (.ref a273), .unset, .unset, .unset, .unset, .unset] [(.ref a380), (.ref a355), (.ref a355)]
        refine k_aconstNull at_94 rfl ?_
        refine k_aload at_95 rfl rfl rfl ?_
        refine k_aload at_97 rfl rfl rfl ?_
        refine k_aload at_99 rfl rfl rfl ?_
        have f389 := (f383.ext E382)
        have f390 := (f384.ext E382)
        have f391 := (f385.ext E382)
        have f392 := (A358.ext E382)
        refine k_ldcO (sl := 0) at_101 rfl (hw _ (List.mem_of_getElem? (i := 15) rfl)) (own_wS Z a0 hw) (by decide) (by decide) (by decide) (by decide) ?_
        intro a386 h387 E388
        show KW true l Z M_law n0 (fun v _ => v = some (.int 1)) (EL, fun x => x = a355) h387 11 35 103 #[.val (.int g1), .val (.int g2), .val (.int g3), .val (.int g4), .val (.int hm), .val (.int um), .val (.int pm), .val (.int uc), .val (.int hc), .val (.int pq), .val (.ref a40), .val (.ref a264), .val (.ref a273), .unset, .unset, .unset, .unset, .unset] [(.ref a386), (.ref a273), (.ref a264), (.ref a40), .null, (.ref a380), (.ref a355), (.ref a355)]
        refine k_aconstNull at_103 rfl ?_
        refine k_aconstNull at_104 rfl ?_
        have f393 := ((((f267.keep K271 all0).ext E357).ext E382).ext E388)
        have f394 := (f389.ext E388)
        have f395 := (f390.ext E388)
        have f396 := (f391.ext E388)
        have f397 := (f392.ext E388)
        have f398 := ((F372.ext E382).ext E388)
        have f399 := ((F373.ext E382).ext E388)
        have f400 := ((F374.ext E382).ext E388)
        have f401 := ((F375.ext E382).ext E388)
        have f402 := ((F376.ext E382).ext E388)
        have f403 := ((F377.ext E382).ext E388)
        have f404 := ((F378.ext E382).ext E388)
        have f405 := ((F379.ext E382).ext E388)
        refine k_callInit (a := a355) (argsL := [(.ref a380), .null, (.ref a40), (.ref a264), (.ref a273), (.ref a386), .null, .null]) (rest := [(.ref a355)]) (W0 := 1) at_105 rfl (mt_ui l Z a0 hw cs hcs SC hEW a355 (Value.ref a380) Value.null (Value.ref a40) (Value.ref a264) (Value.ref a273) (Value.ref a386) Value.null Value.null rfl rfl rfl rfl rfl rfl rfl rfl h387 n0 ge370 f397 f398 f399 f400 f401 f402 f403 f404 f405) (fun _ _ _ q => ⟨[a355], q.2.1, fun x hx => by cases List.mem_singleton.mp hx; exact Sf.exa f397 (by decide) (by decide)⟩) rfl rfl (hw _ (List.mem_of_getElem? (i := 16) rfl)) (hw _ (List.mem_of_getElem? (i := 17) rfl)) (hw _ (List.mem_of_getElem? (i := 6) rfl)) (hw _ (List.mem_of_getElem? (i := 18) rfl)) (by decide) pd_ui rfl rfl rfl rfl (by decide) (by decide) (by decide) (by decide) ?_
        rintro _ h406 - ⟨rfl, K407, F408, F409, F410⟩
        refine KW.sub (S' := fun _ => False) (fun x hx => hx.elim) ?_
        show KW true l Z M_law n0 (fun v _ => v = some (.int 1)) (EL, fun _ => False) h406 11 35 108 #[.val (.int g1), .val (.int g2), .val (.int g3), .val (.int g4), .val (.int hm), .val (.int um), .val (.int pm), .val (.int uc), .val (.int hc), .val (.int pq), .val (.ref a40), .val (.ref a264), .val (.ref a273), .unset, .unset, .unset, .unset, .unset] [(.ref a355)]
        refine k_astore (Ls' := #[.val (.int g1), .val (.int g2), .val (.int g3), .val (.int g4), .val (.int hm), .val (.int um), .val (.int pm), .val (.int uc), .val (.int hc), .val (.int pq), .val (.ref a40), .val (.ref a264), .val (.ref a273), .val (.ref a355), .unset, .unset, .unset, .unset]) at_108 rfl rfl rfl ?_
        refine k_aload at_110 rfl rfl rfl ?_
        have f411 := (f393.keep K407 (allS ge370 all0))
        have f412 := (f394.keep K407 (ninS ne363 nin0) (ninS ne364 nin0))
        have f413 := (f395.keep K407 (ninS ne365 nin0) (ninS ne366 nin0))
        have f414 := (f396.keep K407 (ninS ne367 nin0) (ninS ne368 nin0))
        have f415 := (f397.keep K407)
        have z416 : n0 ≤ h406.size := (Nat.le_trans (Nat.le_trans (Nat.le_trans (Nat.le_trans z369 E357.1) E382.1) E388.1) K407.1)
        refine k_callVirtual (argsL := []) (rest := []) (W0 := 0) at_112 rfl (mt_au11 l Z a0 hw cs hcs SC hEW a355 a40 t41 a264 t265 a273 t274 (pt um uc) (pt hm hc) (pt pm pq) h406 n0 f411 F408 F409 F410 f412 (pt_len _ _) f413 (pt_len _ _) f414 (pt_len _ _)) (fun _ _ _ q => by obtain ⟨_, _, _, -, K, -⟩ := q; exact ⟨[], K, fun _ z => nomatch z⟩) f415 (hw _ (List.mem_of_getElem? (i := 38) rfl)) (hw _ (List.mem_of_getElem? (i := 39) rfl)) (hw _ (List.mem_of_getElem? (i := 41) rfl)) (hw _ (List.mem_of_getElem? (i := 41) rfl)) rfl (hw _ (List.mem_of_getElem? (i := 40) rfl)) (hw _ (List.mem_of_getElem? (i := 42) rfl)) (hw _ (List.mem_of_getElem? (i := 6) rfl)) (by decide) pd_au rfl rfl rfl rfl (by decide) (by decide) (by decide) (by decide) ?_
        rintro _ h417 - ⟨o418, a419, e420, rfl, K421, EO422, FO423, SG424⟩
        refine KW.sub (S' := fun _ => False) (fun x hx => hx.elim) ?_
        show KW true l Z M_law n0 (fun v _ => v = some (.int 1)) (EL, fun _ => False) h417 16 76 115 #[.val (.int g1), .val (.int g2), .val (.int g3), .val (.int g4), .val (.int hm), .val (.int um), .val (.int pm), .val (.int uc), .val (.int hc), .val (.int pq), .val (.ref a40), .val (.ref a264), .val (.ref a273), .val (.ref a355), .unset, .unset, .unset, .unset] [(.ref o418)]
        refine k_astore (Ls' := #[.val (.int g1), .val (.int g2), .val (.int g3), .val (.int g4), .val (.int hm), .val (.int um), .val (.int pm), .val (.int uc), .val (.int hc), .val (.int pq), .val (.ref a40), .val (.ref a264), .val (.ref a273), .val (.ref a355), .val (.ref o418), .unset, .unset, .unset]) at_115 rfl rfl rfl ?_
        refine k_aload at_117 rfl rfl rfl ?_
        refine k_ifnonnullY (pc' := 136) at_119 (by decide) (by decide) ?_
        refine k_aload at_136 rfl rfl rfl ?_
        refine k_callVirtual (argsL := []) (rest := []) (W0 := 0) at_138 rfl (mt_oip l Z a0 hw cs hcs SC hEW o418 a419 h417 n0 FO423) (Kp.pure (fun _ _ q => q.2.symm)) EO422 (hw _ (List.mem_of_getElem? (i := 48) rfl)) (hw _ (List.mem_of_getElem? (i := 49) rfl)) (hw _ (List.mem_of_getElem? (i := 51) rfl)) (hw _ (List.mem_of_getElem? (i := 51) rfl)) rfl (hw _ (List.mem_of_getElem? (i := 50) rfl)) (hw _ (List.mem_of_getElem? (i := 52) rfl)) (hw _ (List.mem_of_getElem? (i := 45) rfl)) (by decide) pd_oip rfl rfl rfl rfl (by decide) (by decide) (by decide) (by decide) ?_
        rintro _ _ - ⟨rfl, rfl⟩
        refine KW.sub (S' := fun _ => False) (fun x hx => hx.elim) ?_
        show KW true l Z M_law n0 (fun v _ => v = some (.int 1)) (EL, fun _ => False) h417 16 76 141 #[.val (.int g1), .val (.int g2), .val (.int g3), .val (.int g4), .val (.int hm), .val (.int um), .val (.int pm), .val (.int uc), .val (.int hc), .val (.int pq), .val (.ref a40), .val (.ref a264), .val (.ref a273), .val (.ref a355), .val (.ref o418), .unset, .unset, .unset] [(.int (1 : Int32))]
        refine k_ifc (pc1 := 146) (pc' := 144) at_141 (by decide) (by decide) rfl (fun (cd16 : ¬ (1 : Int32) = (0 : Int32)) => ?_) (fun (cd16 : (1 : Int32) = (0 : Int32)) => False.elim (by exact absurd cd16 (by decide)))
        refine k_aload at_146 rfl rfl rfl ?_
        refine k_callVirtual (argsL := []) (rest := []) (W0 := 0) at_148 rfl (mt_ogt l Z a0 hw cs hcs SC hEW o418 a419 h417 n0 FO423) (Kp.pure (fun _ _ q => q.2.symm)) EO422 (hw _ (List.mem_of_getElem? (i := 201) rfl)) (hw _ (List.mem_of_getElem? (i := 202) rfl)) (hw _ (List.mem_of_getElem? (i := 204) rfl)) (hw _ (List.mem_of_getElem? (i := 51) rfl)) rfl (hw _ (List.mem_of_getElem? (i := 203) rfl)) (hw _ (List.mem_of_getElem? (i := 205) rfl)) (hw _ (List.mem_of_getElem? (i := 45) rfl)) (by decide) pd_ogt rfl rfl rfl rfl (by decide) (by decide) (by decide) (by decide) ?_
        rintro _ _ - ⟨rfl, rfl⟩
        refine KW.sub (S' := fun _ => False) (fun x hx => hx.elim) ?_
        show KW true l Z M_law n0 (fun v _ => v = some (.int 1)) (EL, fun _ => False) h417 16 76 151 #[.val (.int g1), .val (.int g2), .val (.int g3), .val (.int g4), .val (.int hm), .val (.int um), .val (.int pm), .val (.int uc), .val (.int hc), .val (.int pq), .val (.ref a40), .val (.ref a264), .val (.ref a273), .val (.ref a355), .val (.ref o418), .unset, .unset, .unset] [(.ref a419)]
        refine k_cast at_151 rfl (hw _ (List.mem_of_getElem? (i := 206) rfl)) (Ins.self SG424.exa) ?_
        refine k_astore (Ls' := #[.val (.int g1), .val (.int g2), .val (.int g3), .val (.int g4), .val (.int hm), .val (.int um), .val (.int pm), .val (.int uc), .val (.int hc), .val (.int pq), .val (.ref a40), .val (.ref a264), .val (.ref a273), .val (.ref a355), .val (.ref o418), .val (.ref a419), .unset, .unset]) at_154 rfl rfl rfl ?_
        refine k_iconst (z := (5 : Int32)) at_156 rfl (by decide) ?_
        refine k_newarr (cap := 5) at_157 rfl (hw _ (List.mem_of_getElem? (i := 207) rfl)) (by decide) (by decide) (by decide) (by decide) (by decide) ?_
        intro h426 a425 ck430 g429 E427 V428
        have ne431 : a419 ≠ a425 := Nat.ne_of_lt (Nat.lt_of_lt_of_eq SG424.lt g429.symm)
        have ne432 : e420 ≠ a425 := Nat.ne_of_lt (Nat.lt_of_lt_of_eq SG424.ltv g429.symm)
        have ne433 : o418 ≠ a425 := Nat.ne_of_lt (Nat.lt_of_lt_of_eq EO422.lt g429.symm)
        have z435 : n0 ≤ h417.size := (Nat.le_trans z416 K421.1)
        have ge434 : n0 ≤ a425 := Nat.le_trans z435 (Nat.le_of_eq g429.symm)
        have gl436 : h417.size ≤ a425 := Nat.le_of_eq g429.symm
        have V437 : Arv Z h426 a425 ck430 .char (5 : Int32) [(.int (0 : Int32)), (.int (0 : Int32)), (.int (0 : Int32)), (.int (0 : Int32)), (.int (0 : Int32))] (.int (0 : Int32)) := Arv.pad V428 (pad_rep [] _ 5)
        refine KW.sub (S' := fun x => x = a425) (fun x hx => ?_) ?_
        · rcases hx with rfl
          · exact Or.inr ⟨gl436, V437.lt⟩
        show KW true l Z M_law n0 (fun v _ => v = some (.int 1)) (EL, fun x => x = a425) h426 17 81 159 #[.val (.int g1), .val (.int g2), .val (.int g3), .val (.int g4), .val (.int hm), .val (.int um), .val (.int pm), .val (.int uc), .val (.int hc), .val (.int pq), .val (.ref a40), .val (.ref a264), .val (.ref a273), .val (.ref a355), .val (.ref o418), .val (.ref a419), .unset, .unset] [(.ref a425)]
        refine k_astore (Ls' := #[.val (.int g1), .val (.int g2), .val (.int g3), .val (.int g4), .val (.int hm), .val (.int um), .val (.int pm), .val (.int uc), .val (.int hc), .val (.int pq), .val (.ref a40), .val (.ref a264), .val (.ref a273), .val (.ref a355), .val (.ref o418), .val (.ref a419), .val (.ref a425), .unset]) at_159 rfl rfl rfl ?_
        refine k_iconst (z := (0 : Int32)) at_161 rfl (by decide) ?_
        refine k_istore (Ls' := #[.val (.int g1), .val (.int g2), .val (.int g3), .val (.int g4), .val (.int hm), .val (.int um), .val (.int pm), .val (.int uc), .val (.int hc), .val (.int pq), .val (.ref a40), .val (.ref a264), .val (.ref a273), .val (.ref a355), .val (.ref o418), .val (.ref a419), .val (.ref a425), .val (.int (0 : Int32))]) at_162 rfl rfl ?_
        refine KW.sub (S' := fun _ => False) (fun x hx => hx.elim) ?_
        show KW true l Z M_law n0 (fun v _ => v = some (.int 1)) (EL, fun _ => False) h426 17 81 164 #[.val (.int g1), .val (.int g2), .val (.int g3), .val (.int g4), .val (.int hm), .val (.int um), .val (.int pm), .val (.int uc), .val (.int hc), .val (.int pq), .val (.ref a40), .val (.ref a264), .val (.ref a273), .val (.ref a355), .val (.ref o418), .val (.ref a419), .val (.ref a425), .val (.int (0 : Int32))] []
        refine KW.more (k' := 30) (n' := 300) (by decide) (by decide) ?_
        have f438 := ((f411.keep K421 all0).ext E427)
        have f439 := (SG424.ext E427)
        exact kw_164 l Z a0 hw cs hcs SC hEW g1 g2 g3 g4 hm um pm uc hc pq (Value.ref a40) (Value.ref a264) (Value.ref a273) (Value.ref a355) (Value.ref o418) a419 e420 a425 ck430 (((((([] : List Int32) ++ (pt um uc)) ++ [nbI (64 : Int32)]) ++ (pt hm hc)) ++ [nbI (58 : Int32)]) ++ (pt pm pq)) [] [0, 0, 0, 0, 0] h426 n0 sio SIO hsio f438 f439 V437 rfl ne431 ne432 ge434 Latin.nil huc hhc hpq (by decide) (own_txt11 h4h h4u h4p hz39 hz263 hz272)
theorem own_m4 (x : Int32) : M4 (x &&& (3 : Int32)) := by
  have h1 := c_mask x 3 2 (by decide) (by decide)
  unfold M4
  simp only [← Int32.toInt_inj, h1, show (0 : Int32).toInt = 0 from rfl, show (1 : Int32).toInt = 1 from rfl, show (2 : Int32).toInt = 2 from rfl, show (3 : Int32).toInt = 3 from rfl]
  omega
theorem own_ch (x : Int32) : Ch (UInt32.toInt32 (UInt16.toUInt32 (UInt32.toUInt16 (Int32.toUInt32 (x &&& (255 : Int32)))))) := by
  have h1 := c_mask x 255 8 (by decide) (by decide)
  have h2 := c_i2c (x &&& (255 : Int32))
  unfold Ch
  omega
set_option maxRecDepth 65536 in
set_option maxHeartbeats 40000000 in
theorem kw_law (l : Launch) (Z : State) (a0 : Array Value) (hw : ∀ d ∈ tables_1, d.before a0 Z = true) (cs : Int32) (hcs : ¬ cs = 0) (SC : Sta Z Z.heap "java/lang/String" "COMPACT_STRINGS" "Z" (.int cs)) (hEW : EW Z a0 EL) (g1 g2 g3 g4 : Int32) (h0 : Heap) (n0 : Nat) (sio : Value) (SIO : Sta Z Z.heap "jdk/internal/util/Preconditions" "SIOOBE_FORMATTER" "Ljava/util/function/BiFunction;" sio) (hsio : sio.isRef = true) (OD : Old Z n0 h0) (em : Addr) (SE : Sta Z Z.heap "java/util/Optional" "EMPTY" "Ljava/util/Optional;" (.ref em)) (EE : Exa Z Z.heap em "java/util/Optional") (FE : Fld Z Z.heap em "java/util/Optional" "value" "Ljava/lang/Object;" .null) : KW true l Z M_law n0 (fun v _ => v = some (.int 1)) (EL, fun _ => False) h0 0 0 0 #[.val (.int g1), .val (.int g2), .val (.int g3), .val (.int g4), .unset, .unset, .unset, .unset, .unset, .unset, .unset, .unset, .unset, .unset, .unset, .unset, .unset, .unset] [] := by
  refine k_iloadN at_0 rfl rfl ?_
  refine k_iconst (z := (2 : Int32)) at_1 rfl (by decide) ?_
  refine k_iushr at_2 rfl ?_
  refine k_iconst (z := (3 : Int32)) at_3 rfl (by decide) ?_
  refine k_iand at_4 rfl ?_
  refine k_istore (Ls' := #[.val (.int g1), .val (.int g2), .val (.int g3), .val (.int g4), .val (.int ((UInt32.toInt32 (Int32.toUInt32 g1 >>> Int32.toUInt32 ((2 : Int32) &&& 31))) &&& (3 : Int32))), .unset, .unset, .unset, .unset, .unset, .unset, .unset, .unset, .unset, .unset, .unset, .unset, .unset]) at_5 rfl rfl ?_
  refine k_iload at_7 rfl rfl ?_
  refine k_ifc (pc1 := 16) (pc' := 12) at_9 (by decide) (by decide) rfl (fun (cd17 : ¬ ((UInt32.toInt32 (Int32.toUInt32 g1 >>> Int32.toUInt32 ((2 : Int32) &&& 31))) &&& (3 : Int32)) = (0 : Int32)) => ?_) (fun (cd17 : ((UInt32.toInt32 (Int32.toUInt32 g1 >>> Int32.toUInt32 ((2 : Int32) &&& 31))) &&& (3 : Int32)) = (0 : Int32)) => ?_)
  · skip
    refine k_iloadN at_16 rfl rfl ?_
    refine k_iconst (z := (3 : Int32)) at_17 rfl (by decide) ?_
    refine k_iand at_18 rfl ?_
    refine k_istore (Ls' := #[.val (.int g1), .val (.int g2), .val (.int g3), .val (.int g4), .val (.int ((UInt32.toInt32 (Int32.toUInt32 g1 >>> Int32.toUInt32 ((2 : Int32) &&& 31))) &&& (3 : Int32))), .val (.int (g1 &&& (3 : Int32))), .unset, .unset, .unset, .unset, .unset, .unset, .unset, .unset, .unset, .unset, .unset, .unset]) at_19 rfl rfl ?_
    refine k_iload at_21 rfl rfl ?_
    refine k_ifc (pc1 := 30) (pc' := 26) at_23 (by decide) (by decide) rfl (fun (cd18 : ¬ ((UInt32.toInt32 (Int32.toUInt32 g1 >>> Int32.toUInt32 ((2 : Int32) &&& 31))) &&& (3 : Int32)) = (0 : Int32)) => ?_) (fun (cd18 : ((UInt32.toInt32 (Int32.toUInt32 g1 >>> Int32.toUInt32 ((2 : Int32) &&& 31))) &&& (3 : Int32)) = (0 : Int32)) => False.elim (by exact cd17 cd18))
    refine k_iloadN at_30 rfl rfl ?_
    refine k_iconst (z := (4 : Int32)) at_31 rfl (by decide) ?_
    refine k_iushr at_32 rfl ?_
    refine k_iconst (z := (3 : Int32)) at_33 rfl (by decide) ?_
    refine k_iand at_34 rfl ?_
    refine k_istore (Ls' := #[.val (.int g1), .val (.int g2), .val (.int g3), .val (.int g4), .val (.int ((UInt32.toInt32 (Int32.toUInt32 g1 >>> Int32.toUInt32 ((2 : Int32) &&& 31))) &&& (3 : Int32))), .val (.int (g1 &&& (3 : Int32))), .val (.int ((UInt32.toInt32 (Int32.toUInt32 g1 >>> Int32.toUInt32 ((4 : Int32) &&& 31))) &&& (3 : Int32))), .unset, .unset, .unset, .unset, .unset, .unset, .unset, .unset, .unset, .unset, .unset]) at_35 rfl rfl ?_
    refine k_iloadN at_37 rfl rfl ?_
    refine k_sipush (z := (255 : Int32)) at_38 rfl (by decide) ?_
    refine k_iand at_41 rfl ?_
    refine k_i2c at_42 rfl ?_
    refine k_istore (Ls' := #[.val (.int g1), .val (.int g2), .val (.int g3), .val (.int g4), .val (.int ((UInt32.toInt32 (Int32.toUInt32 g1 >>> Int32.toUInt32 ((2 : Int32) &&& 31))) &&& (3 : Int32))), .val (.int (g1 &&& (3 : Int32))), .val (.int ((UInt32.toInt32 (Int32.toUInt32 g1 >>> Int32.toUInt32 ((4 : Int32) &&& 31))) &&& (3 : Int32))), .val (.int (UInt32.toInt32 (UInt16.toUInt32 (UInt32.toUInt16 (Int32.toUInt32 (g2 &&& (255 : Int32))))))), .unset, .unset, .unset, .unset, .unset, .unset, .unset, .unset, .unset, .unset]) at_43 rfl rfl ?_
    refine k_iloadN at_45 rfl rfl ?_
    refine k_sipush (z := (255 : Int32)) at_46 rfl (by decide) ?_
    refine k_iand at_49 rfl ?_
    refine k_i2c at_50 rfl ?_
    refine k_istore (Ls' := #[.val (.int g1), .val (.int g2), .val (.int g3), .val (.int g4), .val (.int ((UInt32.toInt32 (Int32.toUInt32 g1 >>> Int32.toUInt32 ((2 : Int32) &&& 31))) &&& (3 : Int32))), .val (.int (g1 &&& (3 : Int32))), .val (.int ((UInt32.toInt32 (Int32.toUInt32 g1 >>> Int32.toUInt32 ((4 : Int32) &&& 31))) &&& (3 : Int32))), .val (.int (UInt32.toInt32 (UInt16.toUInt32 (UInt32.toUInt16 (Int32.toUInt32 (g2 &&& (255 : Int32))))))), .val (.int (UInt32.toInt32 (UInt16.toUInt32 (UInt32.toUInt16 (Int32.toUInt32 (g3 &&& (255 : Int32))))))), .unset, .unset, .unset, .unset, .unset, .unset, .unset, .unset, .unset]) at_51 rfl rfl ?_
    refine k_iloadN at_53 rfl rfl ?_
    refine k_sipush (z := (255 : Int32)) at_54 rfl (by decide) ?_
    refine k_iand at_57 rfl ?_
    refine k_i2c at_58 rfl ?_
    refine k_istore (Ls' := #[.val (.int g1), .val (.int g2), .val (.int g3), .val (.int g4), .val (.int ((UInt32.toInt32 (Int32.toUInt32 g1 >>> Int32.toUInt32 ((2 : Int32) &&& 31))) &&& (3 : Int32))), .val (.int (g1 &&& (3 : Int32))), .val (.int ((UInt32.toInt32 (Int32.toUInt32 g1 >>> Int32.toUInt32 ((4 : Int32) &&& 31))) &&& (3 : Int32))), .val (.int (UInt32.toInt32 (UInt16.toUInt32 (UInt32.toUInt16 (Int32.toUInt32 (g2 &&& (255 : Int32))))))), .val (.int (UInt32.toInt32 (UInt16.toUInt32 (UInt32.toUInt16 (Int32.toUInt32 (g3 &&& (255 : Int32))))))), .val (.int (UInt32.toInt32 (UInt16.toUInt32 (UInt32.toUInt16 (Int32.toUInt32 (g4 &&& (255 : Int32))))))), .unset, .unset, .unset, .unset, .unset, .unset, .unset, .unset]) at_59 rfl rfl ?_
    exact kw_61 l Z a0 hw cs hcs SC hEW g1 g2 g3 g4 _ _ _ _ _ _ h0 n0 sio SIO hsio OD em SE EE FE (own_m4 _) (by first | exact own_m4 _ | exact Or.inl rfl) (by first | exact own_m4 _ | exact Or.inl rfl) (by first | exact fun _ => ⟨rfl, rfl⟩ | exact fun q => absurd q (by assumption)) (own_ch _) (own_ch _) (own_ch _)
  · skip
    refine k_iconst (z := (0 : Int32)) at_12 rfl (by decide) ?_
    refine k_goto (pc' := 19) at_13 (by decide) (by decide) ?_
    refine k_istore (Ls' := #[.val (.int g1), .val (.int g2), .val (.int g3), .val (.int g4), .val (.int ((UInt32.toInt32 (Int32.toUInt32 g1 >>> Int32.toUInt32 ((2 : Int32) &&& 31))) &&& (3 : Int32))), .val (.int (0 : Int32)), .unset, .unset, .unset, .unset, .unset, .unset, .unset, .unset, .unset, .unset, .unset, .unset]) at_19 rfl rfl ?_
    refine k_iload at_21 rfl rfl ?_
    refine k_ifc (pc1 := 30) (pc' := 26) at_23 (by decide) (by decide) rfl (fun (cd19 : ¬ ((UInt32.toInt32 (Int32.toUInt32 g1 >>> Int32.toUInt32 ((2 : Int32) &&& 31))) &&& (3 : Int32)) = (0 : Int32)) => absurd (by exact cd17) cd19) (fun (cd19 : ((UInt32.toInt32 (Int32.toUInt32 g1 >>> Int32.toUInt32 ((2 : Int32) &&& 31))) &&& (3 : Int32)) = (0 : Int32)) => ?_)
    refine k_iconst (z := (0 : Int32)) at_26 rfl (by decide) ?_
    refine k_goto (pc' := 35) at_27 (by decide) (by decide) ?_
    refine k_istore (Ls' := #[.val (.int g1), .val (.int g2), .val (.int g3), .val (.int g4), .val (.int ((UInt32.toInt32 (Int32.toUInt32 g1 >>> Int32.toUInt32 ((2 : Int32) &&& 31))) &&& (3 : Int32))), .val (.int (0 : Int32)), .val (.int (0 : Int32)), .unset, .unset, .unset, .unset, .unset, .unset, .unset, .unset, .unset, .unset, .unset]) at_35 rfl rfl ?_
    refine k_iloadN at_37 rfl rfl ?_
    refine k_sipush (z := (255 : Int32)) at_38 rfl (by decide) ?_
    refine k_iand at_41 rfl ?_
    refine k_i2c at_42 rfl ?_
    refine k_istore (Ls' := #[.val (.int g1), .val (.int g2), .val (.int g3), .val (.int g4), .val (.int ((UInt32.toInt32 (Int32.toUInt32 g1 >>> Int32.toUInt32 ((2 : Int32) &&& 31))) &&& (3 : Int32))), .val (.int (0 : Int32)), .val (.int (0 : Int32)), .val (.int (UInt32.toInt32 (UInt16.toUInt32 (UInt32.toUInt16 (Int32.toUInt32 (g2 &&& (255 : Int32))))))), .unset, .unset, .unset, .unset, .unset, .unset, .unset, .unset, .unset, .unset]) at_43 rfl rfl ?_
    refine k_iloadN at_45 rfl rfl ?_
    refine k_sipush (z := (255 : Int32)) at_46 rfl (by decide) ?_
    refine k_iand at_49 rfl ?_
    refine k_i2c at_50 rfl ?_
    refine k_istore (Ls' := #[.val (.int g1), .val (.int g2), .val (.int g3), .val (.int g4), .val (.int ((UInt32.toInt32 (Int32.toUInt32 g1 >>> Int32.toUInt32 ((2 : Int32) &&& 31))) &&& (3 : Int32))), .val (.int (0 : Int32)), .val (.int (0 : Int32)), .val (.int (UInt32.toInt32 (UInt16.toUInt32 (UInt32.toUInt16 (Int32.toUInt32 (g2 &&& (255 : Int32))))))), .val (.int (UInt32.toInt32 (UInt16.toUInt32 (UInt32.toUInt16 (Int32.toUInt32 (g3 &&& (255 : Int32))))))), .unset, .unset, .unset, .unset, .unset, .unset, .unset, .unset, .unset]) at_51 rfl rfl ?_
    refine k_iloadN at_53 rfl rfl ?_
    refine k_sipush (z := (255 : Int32)) at_54 rfl (by decide) ?_
    refine k_iand at_57 rfl ?_
    refine k_i2c at_58 rfl ?_
    refine k_istore (Ls' := #[.val (.int g1), .val (.int g2), .val (.int g3), .val (.int g4), .val (.int ((UInt32.toInt32 (Int32.toUInt32 g1 >>> Int32.toUInt32 ((2 : Int32) &&& 31))) &&& (3 : Int32))), .val (.int (0 : Int32)), .val (.int (0 : Int32)), .val (.int (UInt32.toInt32 (UInt16.toUInt32 (UInt32.toUInt16 (Int32.toUInt32 (g2 &&& (255 : Int32))))))), .val (.int (UInt32.toInt32 (UInt16.toUInt32 (UInt32.toUInt16 (Int32.toUInt32 (g3 &&& (255 : Int32))))))), .val (.int (UInt32.toInt32 (UInt16.toUInt32 (UInt32.toUInt16 (Int32.toUInt32 (g4 &&& (255 : Int32))))))), .unset, .unset, .unset, .unset, .unset, .unset, .unset, .unset]) at_59 rfl rfl ?_
    exact kw_61 l Z a0 hw cs hcs SC hEW g1 g2 g3 g4 _ _ _ _ _ _ h0 n0 sio SIO hsio OD em SE EE FE (own_m4 _) (by first | exact own_m4 _ | exact Or.inl rfl) (by first | exact own_m4 _ | exact Or.inl rfl) (by first | exact fun _ => ⟨rfl, rfl⟩ | exact fun q => absurd q (by assumption)) (own_ch _) (own_ch _) (own_ch _)
theorem own_nullF {s : State} {args : Array Value} {t : Term} {a : Addr} {O f d : String} (ev : t.eval args s none [] s = some (.ref a)) (h : (Cond.eq (Term.field t O f d) Term.null).value args s none s [] = some true) : Fld s s.heap a O f d .null := by
  refine Fld.start ?_
  have e1 := fld_at (C := O) (n := f) (dd := d) ev
  cases hv : s.fieldOf? a O f d with
  | none => rw [hv] at e1; simp [Cond.value, e1] at h
  | some v => rw [hv] at e1; cases v <;> simp [Cond.value, e1, null_at] at h ⊢
set_option maxRecDepth 65536 in
set_option maxHeartbeats 40000000 in
theorem comes_1 {Post : Tables → Env → Array Value → State → Outcome → State → Prop} (hpost : ∀ tb e args s v u, (limb_1_1.after args s (.returned v) u = true ∧ limb_1_2.after args s (.returned v) u = true ∧ True) → FramedW s (.returned v) u (Jvm.fieldLocs frame_1_writes args s ++ Jvm.arrayLocs frame_1_arrays args s ++ Jvm.staticLocs frame_1_statics s) 40 2240 → Post tb e args s (.returned v) u) :
    ArmFor flags0 classFile x code maxLocals ret World_1 tables_1 room_1 Calls_1 rest_1 Pre_1 Post := by
  intro l hfl _ _ p e ha hc hk s m args below hf hA hF happ hP
  obtain ⟨hcalls, hrest, hpre⟩ := hP
  obtain ⟨-, -, -, hnamed, -, -, -, hat⟩ := (Spec.applies_iff hf).mp happ
  obtain ⟨hg, hn⟩ := and_e (Cond.before_iff.mp (show (Jvm.Cond.and given_1 narrow_1).before args s = true from hpre))
  obtain ⟨hcount, g0⟩ := and_e hg
  obtain ⟨g0, g1⟩ := and_e g0
  obtain ⟨g1, g2⟩ := and_e g1
  obtain ⟨g2, g3⟩ := and_e g2
  obtain ⟨w0, w1, w2, w3, rfl⟩ : ∃ w0 w1 w2 w3 : Value, args = #[w0, w1, w2, w3] := by
    have hs : args.size = 4 := by simpa [Cond.value, given_1] using hcount
    obtain ⟨L⟩ := args
    match L, hs with
    | [w0, w1, w2, w3], _ => exact ⟨w0, w1, w2, w3, rfl⟩
  have hw := fun d (hd : d ∈ tables_1) => atoms_spec (ws := Jvm.Cond.code x code maxLocals ret :: tables_1) hat d (List.mem_cons_of_mem _ hd)
  obtain ⟨x0, e0⟩ := is_v g0
  obtain rfl : w0 = (.int x0) := Option.some.inj e0
  obtain ⟨x1, e1⟩ := is_v g1
  obtain rfl : w1 = (.int x1) := Option.some.inj e1
  obtain ⟨x2, e2⟩ := is_v g2
  obtain rfl : w2 = (.int x2) := Option.some.inj e2
  obtain ⟨x3, e3⟩ := is_v g3
  obtain rfl : w3 = (.int x3) := Option.some.inj e3
  have q0 := Cond.before_iff.mp (show rest_1_c.before _ s = true from hrest)
  obtain ⟨r0, q1⟩ := and_e q0
  obtain ⟨r1, q2⟩ := and_e q1
  obtain ⟨r2, q3⟩ := and_e q2
  obtain ⟨r3, q4⟩ := and_e q3
  obtain ⟨r4, q5⟩ := and_e q4
  obtain ⟨r5, q6⟩ := and_e q5
  obtain ⟨r6, q7⟩ := and_e q6
  obtain ⟨r7, q8⟩ := and_e q7
  obtain ⟨r8, q9⟩ := and_e q8
  obtain ⟨r9, q10⟩ := and_e q9
  obtain ⟨r10, q11⟩ := and_e q10
  obtain ⟨r11, q12⟩ := and_e q11
  obtain ⟨r12, q13⟩ := and_e q12
  obtain ⟨cs, ecs⟩ := is_v r5
  have SC : Sta s s.heap "java/lang/String" "COMPACT_STRINGS" "Z" (.int cs) := Sta.start ecs (Or.inl (Cond.before_iff.mpr r4))
  have hcs : ¬ cs = (0 : Int32) := gotF (Cond.eq_ints ecs (Term.int_eval (0))) (not_v r6)
  have hEW : EW s _ EL := (EW.cons (hw _ (List.mem_of_getElem? (i := 15) rfl)) (by decide) (EW.cons (hw _ (List.mem_of_getElem? (i := 7) rfl)) (by decide) EW.nil))
  have hCH : CHv s EL s.vm s.heap := CHv.start hEW (fun p hp => hcalls.1 p hp) (Cond.before_iff.mpr r6) (hw _ (List.mem_of_getElem? (i := 10) rfl)) (hw _ (List.mem_of_getElem? (i := 9) rfl))
  obtain ⟨sio, esio, hsio⟩ := isR_v r12
  have SIO : Sta s s.heap "jdk/internal/util/Preconditions" "SIOOBE_FORMATTER" "Ljava/util/function/BiFunction;" sio := Sta.start esio (Or.inl (Cond.before_iff.mpr r11))
  obtain ⟨em, eem⟩ := exa_v r2
  have SE : Sta s s.heap "java/util/Optional" "EMPTY" "Ljava/util/Optional;" (.ref em) := Sta.start eem (Or.inl (Cond.before_iff.mpr r1))
  have EE := Exa.start eem r2
  have FE : Fld s s.heap em "java/util/Optional" "value" "Ljava/lang/Object;" .null := own_nullF eem r3
  obtain ⟨n, o, h1, h2, h3, _, L, rfl, ⟨N, -, rfl⟩, -, hq⟩ := mtw_of_kw (a0 := _) (ws := tables_1) (P := (EL, fun _ => False)) pf_law hEW (fun m => by first | (simp [entryFrame, mkF, argsToLocals, Value.category, maxLocals]; done) | rfl) (kw_law l s _ hw cs hcs SC hEW x0 x1 x2 x3 s.heap s.heap.size sio SIO hsio (Old.start s) em SE EE FE) p e ha hc hk s m _ below hf ((Spec.applies_iff_loose hf).mp happ).1 ⟨rfl, State.Warmed39.refl s, rfl, hCH, fun _ hx => hx.elim⟩ trivial
  refine ⟨n, _, h1, h2, h3, hpost _ _ _ _ _ _ ⟨Cond.after_iff.mpr rfl, Cond.after_iff.mpr (eq_i res_at (Term.int_eval (1)) rfl), trivial⟩ ⟨hq.1, hq.2.1, hq.2.2.1, (hq.2.2.2.sift fun y hy => Or.inr (N y hy)).mono (by decide) (by decide)⟩⟩
theorem main_1_1 : Claimed_1_1 := comes_1 fun _ _ _ _ _ _ h hF => ⟨h.1, hF⟩
theorem main_1_2 : Claimed_1_2 := comes_1 fun _ _ _ _ _ _ h hF => ⟨h.2.1, hF⟩
end Jvm.Pilot.@@N@@
namespace Jvm.Pilot.@@N@@
open Jvm Jvm.ClassFile Sem Op Lib Jvm.Free Jvm.Stand Jvm.Pilot.@@N@@.Jvm.D
/-! MADE BY PROGRAM (witnessworld.py) out of the Statement's table words and the real class files: 27 classes; the members and pool entries that the words name. The judged class is class 1, her method 3. -/
namespace start1
open Jvm.ClassFile
def u (s : String) : CpInfo := .utf8 (stringToUtf16 s)
/-- a pool by its gaps: so many unusable entries, then the entry; so many at the end -/
def gap : Nat → List CpInfo → List CpInfo
  | 0, r => r
  | n + 1, r => .unusable :: gap n r
def poolList (es : List (Nat × CpInfo)) (last : Nat) : List CpInfo := es.foldr (fun e r => gap e.1 (e.2 :: r)) (gap last [])
def pool (es : List (Nat × CpInfo)) (last : Nat) : Array CpInfo := ⟨poolList es last⟩
def fileOf (pool : Array CpInfo) (this : Nat) (attrs : Array Attribute := #[]) (ms : Array MethodInfo := #[]) (fl : Nat := 33) (sup : Nat := 0) (ifs : Array Nat := #[]) (fds : Array FieldInfo := #[]) : ClassFile where
  minorVersion := 0
  majorVersion := 65
  constantPool := pool
  accessFlags := fl
  thisClass := this
  superClass := sup
  interfaces := ifs
  fields := fds
  methods := ms
  attributes := attrs
def plain (name : String) (sup : Option ClassId) : Class where
  name := name
  kind := .ordinary
  loader := none
  accessFlags := 33
  super := sup
  interfaces := #[]
  cf := none
  fields := #[]
  methods := #[]
  instanceTypes := #[]
  staticTypes := #[]
  resolved := #[]
  callSites := []
  init := .initialized
  statics := none
  mirror := none

def pool0 : Array CpInfo := pool [(5, u "<init>"), (0, u "()V"), (1, .class_ 10), (1, u "java/lang/Object")] 113

def k0c0 : Code := { maxStack := 0, maxLocals := 1, code := object_method_1_code, exceptionTable := #[], attributes := #[] }
def k0m0 : Method := { name := "<init>", desc := "()V", sig := { parameters := [], returnType := none }, accessFlags := 1, code := some k0c0 }
/-- java/lang/Object -/
def k0 : Class := { plain "java/lang/Object" none with
  accessFlags := 33
  interfaces := #[]
  cf := some (fileOf pool0 8 #[] #[{ accessFlags := 1, nameIndex := 5, descriptorIndex := 6, attributes := #[] }] 33 0 #[] #[])
  fields := #[]
  methods := #[k0m0]
  instanceTypes := #[]
  staticTypes := #[]
  resolved := Array.replicate 124 none
  statics := none }

def pool1 : Array CpInfo := pool [(2, .class_ 4), (1, u "java/lang/Object"), (0, u "<init>"), (0, u "()V"), (0, .string 8), (0, u ""), (0, .methodref 10 11), (0, .class_ 12), (0, .nameAndType 13 14), (0, u "java/lang/String"), (0, u "valueOf"), (0, u "(C)Ljava/lang/String;"), (0, .methodref 10 16), (0, .nameAndType 17 18), (0, u "charAt"), (0, u "(I)C"), (0, .methodref 20 21), (0, .class_ 22), (0, .nameAndType 23 24), (0, u "com/example/liburiref/liburiref/UriReferenceAuthorityPinLaw"), (0, u "part"), (0, u "(IC)Ljava/lang/String;"), (0, .class_ 26), (0, u "com/example/liburiref/liburiref/UriReference"), (0, .string 28), (0, u "x"), (0, .methodref 25 30), (0, .nameAndType 5 31), (0, u "(Ljava/lang/String;Ljava/lang/String;Ljava/lang/String;Ljava/lang/String;Ljava/lang/String;Ljava/lang/String;Ljava/lang/String;Ljava/lang/String;)V"), (0, .methodref 25 33), (0, .nameAndType 34 35), (0, u "authority"), (0, u "()Ljava/util/Optional;"), (0, .methodref 37 38), (0, .class_ 39), (0, .nameAndType 40 41), (0, u "java/util/Optional"), (0, u "isPresent"), (0, u "()Z"), (0, .methodref 37 43), (0, .nameAndType 44 45), (0, u "get"), (0, u "()Ljava/lang/Object;"), (0, .methodref 10 47), (0, .nameAndType 48 49), (0, u "length"), (0, u "()I"), (0, .methodref 20 51), (0, .nameAndType 52 53), (0, u "at"), (0, u "(Ljava/lang/String;[CII)Z"), (3, u "law"), (0, u "(IIII)Z")] 4

def k1m0 : Method := { name := "<init>", desc := "()V", sig := { parameters := [], returnType := none }, accessFlags := 1, code := none }
def k1c1 : Code := { maxStack := 2, maxLocals := 2, code := method_2_code, exceptionTable := #[], attributes := #[] }
def k1m1 : Method := { name := "part", desc := "(IC)Ljava/lang/String;", sig := { parameters := [.int, .char], returnType := some (.object "java/lang/String") }, accessFlags := 10, code := some k1c1 }
def k1c2 : Code := { maxStack := 3, maxLocals := 4, code := method_3_code, exceptionTable := #[], attributes := #[] }
def k1m2 : Method := { name := "at", desc := "(Ljava/lang/String;[CII)Z", sig := { parameters := [(.object "java/lang/String"), (.array .char), .int, .int], returnType := some .boolean }, accessFlags := 10, code := some k1c2 }
def k1c3 : Code := { maxStack := 10, maxLocals := 18, code := code, exceptionTable := #[], attributes := #[] }
def k1m3 : Method := { name := "law", desc := "(IIII)Z", sig := { parameters := [.int, .int, .int, .int], returnType := some .boolean }, accessFlags := 9, code := some k1c3 }
/-- com/example/liburiref/liburiref/UriReferenceAuthorityPinLaw -/
def k1 : Class := { plain "com/example/liburiref/liburiref/UriReferenceAuthorityPinLaw" (some 0) with
  accessFlags := 49
  interfaces := #[]
  cf := some (fileOf pool1 20 #[] #[{ accessFlags := 1, nameIndex := 5, descriptorIndex := 6, attributes := #[] }, { accessFlags := 10, nameIndex := 23, descriptorIndex := 24, attributes := #[] }, { accessFlags := 10, nameIndex := 52, descriptorIndex := 53, attributes := #[] }, { accessFlags := 9, nameIndex := 57, descriptorIndex := 58, attributes := #[] }] 49 2 #[] #[])
  fields := #[]
  methods := #[k1m0, k1m1, k1m2, k1m3]
  instanceTypes := #[]
  staticTypes := #[]
  resolved := Array.replicate 63 none
  statics := none }

def pool2 : Array CpInfo := pool [(1, .methodref 2 3), (0, .class_ 4), (0, .nameAndType 5 6), (0, u "java/lang/Object"), (0, u "<init>"), (0, u "()V"), (0, .fieldref 8 9), (0, .class_ 10), (0, .nameAndType 11 12), (0, u "com/example/liburiref/liburiref/UriReference"), (0, u "text"), (0, u "Ljava/lang/String;"), (0, .fieldref 8 14), (0, .nameAndType 15 12), (0, u "scheme"), (0, .fieldref 8 17), (0, .nameAndType 18 12), (0, u "userInfo"), (0, .fieldref 8 20), (0, .nameAndType 21 12), (0, u "host"), (0, .fieldref 8 23), (0, .nameAndType 24 12), (0, u "port"), (0, .fieldref 8 26), (0, .nameAndType 27 12), (0, u "path"), (0, .fieldref 8 29), (0, .nameAndType 30 12), (0, u "query"), (0, .fieldref 8 32), (0, .nameAndType 33 12), (0, u "fragment"), (11, .nameAndType 47 48), (1, u "toString"), (0, u "()Ljava/lang/String;"), (8, .class_ 59), (1, u "java/util/Optional"), (1, u "(Ljava/lang/Object;)Ljava/util/Optional;"), (0, .methodref 57 63), (0, .nameAndType 64 65), (0, u "empty"), (0, u "()Ljava/util/Optional;"), (0, .class_ 67), (0, u "java/lang/StringBuilder"), (0, .methodref 66 3), (0, .methodref 8 70), (0, .nameAndType 71 72), (0, u "appendAuthority"), (0, u "(Ljava/lang/StringBuilder;Ljava/lang/String;Ljava/lang/String;Ljava/lang/String;)Ljava/lang/StringBuilder;"), (0, .methodref 66 45), (0, .methodref 57 75), (0, .nameAndType 76 61), (0, u "of"), (3, .class_ 82), (1, u "com/example/liburiref/liburiref/UriReference$Component"), (101, .class_ 185), (0, u "com/example/liburiref/liburiref/UriReference$Builder"), (79, u "DEFAULT_PORTS"), (0, u "Ljava/util/Map;"), (19, u "ROOT_FOR_EMPTY_PATH"), (0, u "Ljava/util/Set;"), (153, .methodref 66 442), (0, .nameAndType 443 444), (0, u "append"), (0, u "(Ljava/lang/String;)Ljava/lang/StringBuilder;"), (0, .methodref 66 446), (0, .nameAndType 443 447), (0, u "(C)Ljava/lang/StringBuilder;"), (2, u "(Ljava/lang/String;Ljava/lang/String;Ljava/lang/String;Ljava/lang/String;Ljava/lang/String;Ljava/lang/String;Ljava/lang/String;Ljava/lang/String;)V"), (29, u "FILE_SCHEME"), (1, u "LOCAL_HOST"), (3, u "authority")] 68

def k2c0 : Code := { maxStack := 2, maxLocals := 9, code := prog_7_method_1_code, exceptionTable := #[], attributes := #[] }
def k2m0 : Method := { name := "<init>", desc := "(Ljava/lang/String;Ljava/lang/String;Ljava/lang/String;Ljava/lang/String;Ljava/lang/String;Ljava/lang/String;Ljava/lang/String;Ljava/lang/String;)V", sig := { parameters := [(.object "java/lang/String"), (.object "java/lang/String"), (.object "java/lang/String"), (.object "java/lang/String"), (.object "java/lang/String"), (.object "java/lang/String"), (.object "java/lang/String"), (.object "java/lang/String")], returnType := none }, accessFlags := 0, code := some k2c0 }
def k2c1 : Code := { maxStack := 4, maxLocals := 2, code := prog_7_method_4_code, exceptionTable := #[], attributes := #[] }
def k2m1 : Method := { name := "authority", desc := "()Ljava/util/Optional;", sig := { parameters := [], returnType := some (.object "java/util/Optional") }, accessFlags := 1, code := some k2c1 }
def k2c2 : Code := { maxStack := 2, maxLocals := 4, code := prog_7_method_51_code, exceptionTable := #[], attributes := #[] }
def k2m2 : Method := { name := "appendAuthority", desc := "(Ljava/lang/StringBuilder;Ljava/lang/String;Ljava/lang/String;Ljava/lang/String;)Ljava/lang/StringBuilder;", sig := { parameters := [(.object "java/lang/StringBuilder"), (.object "java/lang/String"), (.object "java/lang/String"), (.object "java/lang/String")], returnType := some (.object "java/lang/StringBuilder") }, accessFlags := 10, code := some k2c2 }
/-- com/example/liburiref/liburiref/UriReference -/
def k2 : Class := { plain "com/example/liburiref/liburiref/UriReference" (some 0) with
  accessFlags := 33
  interfaces := #[]
  cf := some (fileOf pool2 8 #[.nestMembers #[184, 80]] #[{ accessFlags := 0, nameIndex := 5, descriptorIndex := 450, attributes := #[] }, { accessFlags := 1, nameIndex := 486, descriptorIndex := 65, attributes := #[] }, { accessFlags := 10, nameIndex := 71, descriptorIndex := 72, attributes := #[] }] 33 2 #[] #[{ accessFlags := 26, nameIndex := 265, descriptorIndex := 266, attributes := #[] }, { accessFlags := 26, nameIndex := 286, descriptorIndex := 287, attributes := #[] }, { accessFlags := 26, nameIndex := 480, descriptorIndex := 12, attributes := #[] }, { accessFlags := 26, nameIndex := 482, descriptorIndex := 12, attributes := #[] }, { accessFlags := 18, nameIndex := 11, descriptorIndex := 12, attributes := #[] }, { accessFlags := 18, nameIndex := 15, descriptorIndex := 12, attributes := #[] }, { accessFlags := 18, nameIndex := 18, descriptorIndex := 12, attributes := #[] }, { accessFlags := 18, nameIndex := 21, descriptorIndex := 12, attributes := #[] }, { accessFlags := 18, nameIndex := 24, descriptorIndex := 12, attributes := #[] }, { accessFlags := 18, nameIndex := 27, descriptorIndex := 12, attributes := #[] }, { accessFlags := 18, nameIndex := 30, descriptorIndex := 12, attributes := #[] }, { accessFlags := 18, nameIndex := 33, descriptorIndex := 12, attributes := #[] }])
  fields := #[{ name := "DEFAULT_PORTS", type := (.object "java/util/Map"), accessFlags := 26, slot := 0, constantValue := 0 }, { name := "ROOT_FOR_EMPTY_PATH", type := (.object "java/util/Set"), accessFlags := 26, slot := 1, constantValue := 0 }, { name := "FILE_SCHEME", type := (.object "java/lang/String"), accessFlags := 26, slot := 2, constantValue := 0 }, { name := "LOCAL_HOST", type := (.object "java/lang/String"), accessFlags := 26, slot := 3, constantValue := 0 }, { name := "text", type := (.object "java/lang/String"), accessFlags := 18, slot := 0, constantValue := 0 }, { name := "scheme", type := (.object "java/lang/String"), accessFlags := 18, slot := 1, constantValue := 0 }, { name := "userInfo", type := (.object "java/lang/String"), accessFlags := 18, slot := 2, constantValue := 0 }, { name := "host", type := (.object "java/lang/String"), accessFlags := 18, slot := 3, constantValue := 0 }, { name := "port", type := (.object "java/lang/String"), accessFlags := 18, slot := 4, constantValue := 0 }, { name := "path", type := (.object "java/lang/String"), accessFlags := 18, slot := 5, constantValue := 0 }, { name := "query", type := (.object "java/lang/String"), accessFlags := 18, slot := 6, constantValue := 0 }, { name := "fragment", type := (.object "java/lang/String"), accessFlags := 18, slot := 7, constantValue := 0 }]
  methods := #[k2m0, k2m1, k2m2]
  instanceTypes := #[(.object "java/lang/String"), (.object "java/lang/String"), (.object "java/lang/String"), (.object "java/lang/String"), (.object "java/lang/String"), (.object "java/lang/String"), (.object "java/lang/String"), (.object "java/lang/String")]
  staticTypes := #[(.object "java/util/Map"), (.object "java/util/Set"), (.object "java/lang/String"), (.object "java/lang/String")]
  resolved := Array.replicate 555 none
  statics := none }

def pool3 : Array CpInfo := pool [(1, .class_ 2), (0, u "java/io/Serializable"), (0, .class_ 4), (0, u "java/lang/Object")] 2

/-- java/io/Serializable -/
def k3 : Class := { plain "java/io/Serializable" (some 0) with
  accessFlags := 1537
  interfaces := #[]
  cf := some (fileOf pool3 1 #[] #[] 1537 3 #[] #[])
  fields := #[]
  methods := #[]
  instanceTypes := #[]
  staticTypes := #[]
  resolved := Array.replicate 7 none
  statics := none }

def pool4 : Array CpInfo := pool [(1, .class_ 2), (0, u "java/lang/Comparable"), (0, .class_ 4), (0, u "java/lang/Object")] 7

/-- java/lang/Comparable -/
def k4 : Class := { plain "java/lang/Comparable" (some 0) with
  accessFlags := 1537
  interfaces := #[]
  cf := some (fileOf pool4 1 #[] #[] 1537 3 #[] #[])
  fields := #[]
  methods := #[]
  instanceTypes := #[]
  staticTypes := #[]
  resolved := Array.replicate 12 none
  statics := none }

def pool5 : Array CpInfo := pool [(2, .class_ 4), (1, u "java/lang/CharSequence"), (42, .class_ 48), (0, u "java/lang/CharSequence$1CodePointIterator"), (10, .class_ 60), (0, u "java/lang/CharSequence$1CharIterator"), (5, .class_ 67), (0, u "java/lang/Object")] 63

/-- java/lang/CharSequence -/
def k5 : Class := { plain "java/lang/CharSequence" (some 0) with
  accessFlags := 1537
  interfaces := #[]
  cf := some (fileOf pool5 2 #[.nestMembers #[47, 59]] #[] 1537 66 #[] #[])
  fields := #[]
  methods := #[]
  instanceTypes := #[]
  staticTypes := #[]
  resolved := Array.replicate 131 none
  statics := none }

def pool6 : Array CpInfo := pool [(1, .class_ 2), (0, u "java/lang/constant/Constable"), (0, .class_ 4), (0, u "java/lang/Object")] 6

/-- java/lang/constant/Constable -/
def k6 : Class := { plain "java/lang/constant/Constable" (some 0) with
  accessFlags := 1537
  interfaces := #[]
  cf := some (fileOf pool6 1 #[] #[] 1537 3 #[] #[])
  fields := #[]
  methods := #[]
  instanceTypes := #[]
  staticTypes := #[]
  resolved := Array.replicate 11 none
  statics := none }

def pool7 : Array CpInfo := pool [(1, .class_ 2), (0, u "java/lang/constant/ConstantDesc"), (0, .class_ 4), (0, u "java/lang/Object")] 32

/-- java/lang/constant/ConstantDesc -/
def k7 : Class := { plain "java/lang/constant/ConstantDesc" (some 0) with
  accessFlags := 1537
  interfaces := #[]
  cf := some (fileOf pool7 1 #[] #[] 1537 3 #[] #[])
  fields := #[]
  methods := #[]
  instanceTypes := #[]
  staticTypes := #[]
  resolved := Array.replicate 37 none
  statics := none }

def pool8 : Array CpInfo := pool [(1, .methodref 2 3), (0, .class_ 4), (0, .nameAndType 5 6), (0, u "java/lang/Object"), (0, u "<init>"), (0, u "()V"), (2, .fieldref 10 11), (0, .class_ 12), (0, .nameAndType 13 14), (0, u "java/lang/String"), (0, u "value"), (0, u "[B"), (0, .fieldref 10 16), (0, .nameAndType 17 18), (0, u "coder"), (0, u "B"), (2, u "hash"), (0, u "I"), (2, u "hashIsZero"), (0, u "Z"), (11, .fieldref 10 39), (0, .nameAndType 40 26), (0, u "COMPACT_STRINGS"), (12, u "toBytes"), (0, .methodref 55 56), (0, .class_ 57), (0, .nameAndType 58 59), (0, u "java/util/Arrays"), (0, u "copyOfRange"), (0, u "([BII)[B"), (47, .class_ 109), (1, u "java/lang/StringLatin1"), (32, u "()Z"), (50, .class_ 195), (1, u "java/lang/System"), (13, .methodref 10 210), (0, .nameAndType 5 211), (0, u "([BB)V"), (0, .methodref 193 213), (0, .nameAndType 214 215), (0, u "arraycopy"), (0, u "(Ljava/lang/Object;ILjava/lang/Object;II)V"), (118, u "()I"), (0, .methodref 10 336), (0, .nameAndType 17 337), (0, u "()B"), (2, u "()[B"), (22, u "([BI)C"), (5, u "(C)Z"), (21, u "(II)V"), (35, u "(I)C"), (61, .methodref 10 490), (0, .nameAndType 5 491), (0, u "(Ljava/lang/AbstractStringBuilder;Ljava/lang/Void;)V"), (0, .methodref 10 493), (0, .nameAndType 494 142), (0, u "isLatin1"), (0, .methodref 107 496), (0, .nameAndType 497 363), (0, u "charAt"), (3, u "checkIndex"), (4, .nameAndType 507 334), (0, u "length"), (24, u "getBytes"), (16, .methodref 550 506), (0, .class_ 551), (0, u "java/lang/AbstractStringBuilder"), (0, .methodref 550 553), (0, .nameAndType 554 340), (0, u "getValue"), (20, .class_ 576), (0, u "java/lang/CharSequence"), (22, u "CASE_INSENSITIVE_ORDER"), (0, u "Ljava/util/Comparator;"), (181, u "valueOf"), (0, u "(C)Ljava/lang/String;"), (37, u "([BIB)V"), (193, .methodref 107 1016), (0, .nameAndType 1017 369), (0, u "canEncode"), (0, .methodref 107 1019), (0, .nameAndType 53 1020), (0, u "(C)[B"), (26, .methodref 550 493), (5, .fieldref 1054 1055), (0, .class_ 1056), (0, .nameAndType 1057 1058), (0, u "jdk/internal/util/Preconditions"), (0, u "SIOOBE_FORMATTER"), (0, u "Ljava/util/function/BiFunction;"), (0, .methodref 1054 1060), (0, .nameAndType 501 1061), (0, u "(IILjava/util/function/BiFunction;)I"), (39, u "serialPersistentFields"), (0, u "[Ljava/io/ObjectStreamField;"), (0, .class_ 1104), (0, u "java/lang/String$CaseInsensitiveComparator"), (1, .class_ 1107), (0, u "java/io/Serializable"), (0, .class_ 1109), (0, u "java/lang/Comparable"), (0, .class_ 1111), (0, u "java/lang/constant/Constable"), (0, .class_ 1113), (0, u "java/lang/constant/ConstantDesc"), (2, u "serialVersionUID"), (0, u "J"), (3, u "REPL"), (0, u "C"), (2, u "LATIN1"), (1, u "UTF16"), (105, u "(Ljava/lang/StringBuilder;)V")] 217

def k8m0 : Method := { name := "<init>", desc := "()V", sig := { parameters := [], returnType := none }, accessFlags := 1, code := none }
def k8c1 : Code := { maxStack := 3, maxLocals := 2, code := jdk_42_method_53_code, exceptionTable := #[], attributes := #[] }
def k8m1 : Method := { name := "<init>", desc := "(Ljava/lang/StringBuilder;)V", sig := { parameters := [(.object "java/lang/StringBuilder")], returnType := none }, accessFlags := 1, code := some k8c1 }
def k8c2 : Code := { maxStack := 2, maxLocals := 1, code := jdk_42_method_54_code, exceptionTable := #[], attributes := #[] }
def k8m2 : Method := { name := "length", desc := "()I", sig := { parameters := [], returnType := some .int }, accessFlags := 1, code := some k8c2 }
def k8c3 : Code := { maxStack := 2, maxLocals := 2, code := jdk_42_method_56_code, exceptionTable := #[], attributes := #[] }
def k8m3 : Method := { name := "charAt", desc := "(I)C", sig := { parameters := [.int], returnType := some .char }, accessFlags := 1, code := some k8c3 }
def k8c4 : Code := { maxStack := 4, maxLocals := 1, code := jdk_42_method_139_code, exceptionTable := #[], attributes := #[] }
def k8m4 : Method := { name := "valueOf", desc := "(C)Ljava/lang/String;", sig := { parameters := [.char], returnType := some (.object "java/lang/String") }, accessFlags := 9, code := some k8c4 }
def k8c5 : Code := { maxStack := 5, maxLocals := 4, code := jdk_42_method_147_code, exceptionTable := #[], attributes := #[] }
def k8m5 : Method := { name := "getBytes", desc := "([BIB)V", sig := { parameters := [(.array .byte), .int, .byte], returnType := none }, accessFlags := 0, code := some k8c5 }
def k8c6 : Code := { maxStack := 5, maxLocals := 5, code := jdk_42_method_150_code, exceptionTable := #[], attributes := #[] }
def k8m6 : Method := { name := "<init>", desc := "(Ljava/lang/AbstractStringBuilder;Ljava/lang/Void;)V", sig := { parameters := [(.object "java/lang/AbstractStringBuilder"), (.object "java/lang/Void")], returnType := none }, accessFlags := 0, code := some k8c6 }
def k8c7 : Code := { maxStack := 2, maxLocals := 3, code := jdk_42_method_151_code, exceptionTable := #[], attributes := #[] }
def k8m7 : Method := { name := "<init>", desc := "([BB)V", sig := { parameters := [(.array .byte), .byte], returnType := none }, accessFlags := 0, code := some k8c7 }
def k8c8 : Code := { maxStack := 1, maxLocals := 1, code := jdk_42_method_152_code, exceptionTable := #[], attributes := #[] }
def k8m8 : Method := { name := "coder", desc := "()B", sig := { parameters := [], returnType := some .byte }, accessFlags := 0, code := some k8c8 }
def k8c9 : Code := { maxStack := 1, maxLocals := 1, code := jdk_42_method_154_code, exceptionTable := #[], attributes := #[] }
def k8m9 : Method := { name := "isLatin1", desc := "()Z", sig := { parameters := [], returnType := some .boolean }, accessFlags := 0, code := some k8c9 }
def k8c10 : Code := { maxStack := 3, maxLocals := 2, code := jdk_42_method_155_code, exceptionTable := #[], attributes := #[] }
def k8m10 : Method := { name := "checkIndex", desc := "(II)V", sig := { parameters := [.int, .int], returnType := none }, accessFlags := 8, code := some k8c10 }
/-- java/lang/String -/
def k8 : Class := { plain "java/lang/String" (some 0) with
  accessFlags := 49
  interfaces := #[3, 4, 5, 6, 7]
  cf := some (fileOf pool8 10 #[.nestMembers #[1103]] #[{ accessFlags := 1, nameIndex := 5, descriptorIndex := 6, attributes := #[] }, { accessFlags := 1, nameIndex := 5, descriptorIndex := 1233, attributes := #[] }, { accessFlags := 1, nameIndex := 507, descriptorIndex := 334, attributes := #[] }, { accessFlags := 1, nameIndex := 497, descriptorIndex := 427, attributes := #[] }, { accessFlags := 9, nameIndex := 782, descriptorIndex := 783, attributes := #[] }, { accessFlags := 0, nameIndex := 532, descriptorIndex := 821, attributes := #[] }, { accessFlags := 0, nameIndex := 5, descriptorIndex := 491, attributes := #[] }, { accessFlags := 0, nameIndex := 5, descriptorIndex := 211, attributes := #[] }, { accessFlags := 0, nameIndex := 17, descriptorIndex := 337, attributes := #[] }, { accessFlags := 0, nameIndex := 494, descriptorIndex := 142, attributes := #[] }, { accessFlags := 8, nameIndex := 501, descriptorIndex := 391, attributes := #[] }] 49 2 #[1106, 1108, 575, 1110, 1112] #[{ accessFlags := 18, nameIndex := 13, descriptorIndex := 14, attributes := #[] }, { accessFlags := 18, nameIndex := 17, descriptorIndex := 18, attributes := #[] }, { accessFlags := 2, nameIndex := 21, descriptorIndex := 22, attributes := #[] }, { accessFlags := 2, nameIndex := 25, descriptorIndex := 26, attributes := #[] }, { accessFlags := 26, nameIndex := 1116, descriptorIndex := 1117, attributes := #[] }, { accessFlags := 24, nameIndex := 40, descriptorIndex := 26, attributes := #[] }, { accessFlags := 26, nameIndex := 1101, descriptorIndex := 1102, attributes := #[] }, { accessFlags := 26, nameIndex := 1121, descriptorIndex := 1122, attributes := #[] }, { accessFlags := 25, nameIndex := 599, descriptorIndex := 600, attributes := #[] }, { accessFlags := 24, nameIndex := 1125, descriptorIndex := 18, attributes := #[] }, { accessFlags := 24, nameIndex := 1127, descriptorIndex := 18, attributes := #[] }])
  fields := #[{ name := "value", type := (.array .byte), accessFlags := 18, slot := 0, constantValue := 0 }, { name := "coder", type := .byte, accessFlags := 18, slot := 1, constantValue := 0 }, { name := "hash", type := .int, accessFlags := 2, slot := 2, constantValue := 0 }, { name := "hashIsZero", type := .boolean, accessFlags := 2, slot := 3, constantValue := 0 }, { name := "serialVersionUID", type := .long, accessFlags := 26, slot := 0, constantValue := 0 }, { name := "COMPACT_STRINGS", type := .boolean, accessFlags := 24, slot := 1, constantValue := 0 }, { name := "serialPersistentFields", type := (.array (.object "java/io/ObjectStreamField")), accessFlags := 26, slot := 2, constantValue := 0 }, { name := "REPL", type := .char, accessFlags := 26, slot := 3, constantValue := 0 }, { name := "CASE_INSENSITIVE_ORDER", type := (.object "java/util/Comparator"), accessFlags := 25, slot := 4, constantValue := 0 }, { name := "LATIN1", type := .byte, accessFlags := 24, slot := 5, constantValue := 0 }, { name := "UTF16", type := .byte, accessFlags := 24, slot := 6, constantValue := 0 }]
  methods := #[k8m0, k8m1, k8m2, k8m3, k8m4, k8m5, k8m6, k8m7, k8m8, k8m9, k8m10]
  instanceTypes := #[(.array .byte), .byte, .int, .boolean]
  staticTypes := #[.long, .boolean, (.array (.object "java/io/ObjectStreamField")), .char, (.object "java/util/Comparator"), .byte, .byte]
  resolved := Array.replicate 1451 none
  statics := some 0 }

def pool9 : Array CpInfo := pool [(1, .fieldref 2 3), (0, .class_ 4), (0, .nameAndType 5 6), (0, u "java/util/Optional"), (0, u "EMPTY"), (0, u "Ljava/util/Optional;"), (0, .methodref 8 9), (0, .class_ 10), (0, .nameAndType 11 12), (0, u "java/lang/Object"), (0, u "<init>"), (0, u "()V"), (0, .fieldref 2 14), (0, .nameAndType 15 16), (0, u "value"), (0, u "Ljava/lang/Object;"), (0, .methodref 18 19), (0, .class_ 20), (0, .nameAndType 21 22), (0, u "java/util/Objects"), (0, u "requireNonNull"), (0, u "(Ljava/lang/Object;)Ljava/lang/Object;"), (0, .methodref 2 24), (0, .nameAndType 11 25), (0, u "(Ljava/lang/Object;)V"), (20, u "()Z"), (8, u "empty"), (0, u "()Ljava/util/Optional;"), (8, u "(Ljava/lang/Object;)Ljava/util/Optional;"), (2, u "isPresent"), (4, u "get"), (0, u "()Ljava/lang/Object;"), (7, u "of")] 104

def k9c0 : Code := { maxStack := 1, maxLocals := 1, code := jdk_32_method_1_code, exceptionTable := #[], attributes := #[] }
def k9m0 : Method := { name := "empty", desc := "()Ljava/util/Optional;", sig := { parameters := [], returnType := some (.object "java/util/Optional") }, accessFlags := 9, code := some k9c0 }
def k9c1 : Code := { maxStack := 2, maxLocals := 2, code := jdk_32_method_2_code, exceptionTable := #[], attributes := #[] }
def k9m1 : Method := { name := "<init>", desc := "(Ljava/lang/Object;)V", sig := { parameters := [(.object "java/lang/Object")], returnType := none }, accessFlags := 2, code := some k9c1 }
def k9c2 : Code := { maxStack := 3, maxLocals := 1, code := jdk_32_method_3_code, exceptionTable := #[], attributes := #[] }
def k9m2 : Method := { name := "of", desc := "(Ljava/lang/Object;)Ljava/util/Optional;", sig := { parameters := [(.object "java/lang/Object")], returnType := some (.object "java/util/Optional") }, accessFlags := 9, code := some k9c2 }
def k9c3 : Code := { maxStack := 3, maxLocals := 1, code := jdk_32_method_5_code, exceptionTable := #[], attributes := #[] }
def k9m3 : Method := { name := "get", desc := "()Ljava/lang/Object;", sig := { parameters := [], returnType := some (.object "java/lang/Object") }, accessFlags := 1, code := some k9c3 }
def k9c4 : Code := { maxStack := 1, maxLocals := 1, code := jdk_32_method_6_code, exceptionTable := #[], attributes := #[] }
def k9m4 : Method := { name := "isPresent", desc := "()Z", sig := { parameters := [], returnType := some .boolean }, accessFlags := 1, code := some k9c4 }
/-- java/util/Optional -/
def k9 : Class := { plain "java/util/Optional" (some 0) with
  accessFlags := 49
  interfaces := #[]
  cf := some (fileOf pool9 2 #[] #[{ accessFlags := 9, nameIndex := 55, descriptorIndex := 56, attributes := #[] }, { accessFlags := 2, nameIndex := 11, descriptorIndex := 25, attributes := #[] }, { accessFlags := 9, nameIndex := 82, descriptorIndex := 65, attributes := #[] }, { accessFlags := 1, nameIndex := 73, descriptorIndex := 74, attributes := #[] }, { accessFlags := 1, nameIndex := 68, descriptorIndex := 46, attributes := #[] }] 49 8 #[] #[{ accessFlags := 26, nameIndex := 5, descriptorIndex := 6, attributes := #[] }, { accessFlags := 18, nameIndex := 15, descriptorIndex := 16, attributes := #[] }])
  fields := #[{ name := "EMPTY", type := (.object "java/util/Optional"), accessFlags := 26, slot := 0, constantValue := 0 }, { name := "value", type := (.object "java/lang/Object"), accessFlags := 18, slot := 0, constantValue := 0 }]
  methods := #[k9m0, k9m1, k9m2, k9m3, k9m4]
  instanceTypes := #[(.object "java/lang/Object")]
  staticTypes := #[(.object "java/util/Optional")]
  resolved := Array.replicate 187 none
  statics := some 1 }

def pool10 : Array CpInfo := pool [(1, .class_ 2), (0, u "java/lang/String"), (1, .class_ 6), (1, u "java/lang/Object"), (0, u "<init>"), (0, u "()V"), (0, .methodref 1 10), (0, .nameAndType 11 12), (0, u "checkIndex"), (0, u "(II)V"), (1, .class_ 16), (1, u "java/lang/StringLatin1"), (36, u "([BI)C"), (36, u "canEncode"), (14, u "(C)Z"), (15, u "$assertionsDisabled"), (0, u "Z"), (98, .class_ 223), (1, u "java/lang/StringLatin1$LinesSpliterator"), (28, u "charAt"), (127, u "toBytes"), (1, u "(C)[B"), (7, .class_ 391), (0, u "java/lang/StringLatin1$CharsSpliterator")] 3

def k10m0 : Method := { name := "<init>", desc := "()V", sig := { parameters := [], returnType := none }, accessFlags := 0, code := none }
def k10c1 : Code := { maxStack := 2, maxLocals := 2, code := jdk_43_method_2_code, exceptionTable := #[], attributes := #[] }
def k10m1 : Method := { name := "charAt", desc := "([BI)C", sig := { parameters := [(.array .byte), .int], returnType := some .char }, accessFlags := 9, code := some k10c1 }
def k10c2 : Code := { maxStack := 2, maxLocals := 1, code := jdk_43_method_3_code, exceptionTable := #[], attributes := #[] }
def k10m2 : Method := { name := "canEncode", desc := "(C)Z", sig := { parameters := [.char], returnType := some .boolean }, accessFlags := 9, code := some k10c2 }
def k10c3 : Code := { maxStack := 4, maxLocals := 1, code := jdk_43_method_46_code, exceptionTable := #[], attributes := #[] }
def k10m3 : Method := { name := "toBytes", desc := "(C)[B", sig := { parameters := [.char], returnType := some (.array .byte) }, accessFlags := 9, code := some k10c3 }
/-- java/lang/StringLatin1 -/
def k10 : Class := { plain "java/lang/StringLatin1" (some 0) with
  accessFlags := 48
  interfaces := #[]
  cf := some (fileOf pool10 14 #[.nestMembers #[390, 221]] #[{ accessFlags := 0, nameIndex := 7, descriptorIndex := 8, attributes := #[] }, { accessFlags := 9, nameIndex := 252, descriptorIndex := 53, attributes := #[] }, { accessFlags := 9, nameIndex := 90, descriptorIndex := 105, attributes := #[] }, { accessFlags := 9, nameIndex := 380, descriptorIndex := 382, attributes := #[] }] 48 4 #[] #[{ accessFlags := 4120, nameIndex := 121, descriptorIndex := 122, attributes := #[] }])
  fields := #[{ name := "$assertionsDisabled", type := .boolean, accessFlags := 4120, slot := 0, constantValue := 0 }]
  methods := #[k10m0, k10m1, k10m2, k10m3]
  instanceTypes := #[]
  staticTypes := #[.boolean]
  resolved := Array.replicate 395 none
  statics := none }

def pool11 : Array CpInfo := pool [(1, .class_ 2), (0, u "java/lang/Appendable"), (0, .class_ 4), (0, u "java/lang/Object")] 9

/-- java/lang/Appendable -/
def k11 : Class := { plain "java/lang/Appendable" (some 0) with
  accessFlags := 1537
  interfaces := #[]
  cf := some (fileOf pool11 1 #[] #[] 1537 3 #[] #[])
  fields := #[]
  methods := #[]
  instanceTypes := #[]
  staticTypes := #[]
  resolved := Array.replicate 14 none
  statics := none }

def pool12 : Array CpInfo := pool [(1, .class_ 2), (0, u "java/lang/String"), (0, .methodref 4 5), (0, .class_ 6), (0, .nameAndType 7 8), (0, u "java/lang/Object"), (0, u "<init>"), (0, u "()V"), (1, .class_ 12), (1, u "java/lang/AbstractStringBuilder"), (0, u "EMPTYVALUE"), (0, u "[B"), (0, .fieldref 10 16), (0, .nameAndType 17 14), (0, u "value"), (0, .fieldref 1 19), (0, .nameAndType 20 21), (0, u "COMPACT_STRINGS"), (0, u "Z"), (0, .fieldref 10 23), (0, .nameAndType 24 25), (0, u "coder"), (0, u "B"), (6, .methodref 1 33), (0, .nameAndType 34 35), (0, u "length"), (0, u "()I"), (4, .methodref 1 41), (0, .nameAndType 24 42), (0, u "()B"), (2, u "append"), (0, u "(Ljava/lang/String;)Ljava/lang/AbstractStringBuilder;"), (1, .class_ 49), (0, u "java/lang/CharSequence"), (19, u "(Ljava/lang/String;)V"), (5, u "maybeLatin1"), (3, .fieldref 10 80), (0, .nameAndType 81 82), (0, u "count"), (0, u "I"), (0, .methodref 10 84), (0, .nameAndType 85 86), (0, u "isLatin1"), (0, u "()Z"), (1, .class_ 90), (1, u "java/lang/StringLatin1"), (9, .methodref 10 101), (0, .nameAndType 102 103), (0, u "ensureCapacityInternal"), (0, u "(I)V"), (87, .methodref 88 192), (0, .nameAndType 193 194), (0, u "canEncode"), (0, u "(C)Z"), (13, .methodref 10 209), (0, .nameAndType 210 211), (0, u "putStringAt"), (0, u "(ILjava/lang/String;)V"), (5, u "inflateIfNeededFor"), (2, .nameAndType 221 222), (0, u "getBytes"), (0, u "([BIB)V"), (69, u "(C)Ljava/lang/AbstractStringBuilder;"), (104, .methodref 10 398), (0, .nameAndType 217 69), (0, .methodref 1 220), (3, u "()[B"), (40, .class_ 445), (0, u "java/lang/Appendable"), (106, u "getValue")] 56

def k12m0 : Method := { name := "<init>", desc := "()V", sig := { parameters := [], returnType := none }, accessFlags := 0, code := none }
def k12c1 : Code := { maxStack := 2, maxLocals := 2, code := jdk_68_method_2_code, exceptionTable := #[], attributes := #[] }
def k12m1 : Method := { name := "<init>", desc := "(I)V", sig := { parameters := [.int], returnType := none }, accessFlags := 0, code := some k12c1 }
def k12c2 : Code := { maxStack := 1, maxLocals := 1, code := jdk_68_method_6_code, exceptionTable := #[], attributes := #[] }
def k12m2 : Method := { name := "length", desc := "()I", sig := { parameters := [], returnType := some .int }, accessFlags := 1, code := some k12c2 }
def k12c3 : Code := { maxStack := 4, maxLocals := 3, code := jdk_68_method_9_code, exceptionTable := #[], attributes := #[] }
def k12m3 : Method := { name := "ensureCapacityInternal", desc := "(I)V", sig := { parameters := [.int], returnType := none }, accessFlags := 2, code := some k12c3 }
def k12c4 : Code := { maxStack := 3, maxLocals := 3, code := jdk_68_method_22_code, exceptionTable := #[], attributes := #[] }
def k12m4 : Method := { name := "append", desc := "(Ljava/lang/String;)Ljava/lang/AbstractStringBuilder;", sig := { parameters := [(.object "java/lang/String")], returnType := some (.object "java/lang/AbstractStringBuilder") }, accessFlags := 1, code := some k12c4 }
def k12c5 : Code := { maxStack := 5, maxLocals := 2, code := jdk_68_method_31_code, exceptionTable := #[], attributes := #[] }
def k12m5 : Method := { name := "append", desc := "(C)Ljava/lang/AbstractStringBuilder;", sig := { parameters := [.char], returnType := some (.object "java/lang/AbstractStringBuilder") }, accessFlags := 1, code := some k12c5 }
def k12c6 : Code := { maxStack := 1, maxLocals := 1, code := jdk_68_method_64_code, exceptionTable := #[], attributes := #[] }
def k12m6 : Method := { name := "getValue", desc := "()[B", sig := { parameters := [], returnType := some (.array .byte) }, accessFlags := 16, code := some k12c6 }
def k12c7 : Code := { maxStack := 1, maxLocals := 1, code := jdk_68_method_68_code, exceptionTable := #[], attributes := #[] }
def k12m7 : Method := { name := "isLatin1", desc := "()Z", sig := { parameters := [], returnType := some .boolean }, accessFlags := 16, code := some k12c7 }
def k12c8 : Code := { maxStack := 2, maxLocals := 2, code := jdk_68_method_71_code, exceptionTable := #[], attributes := #[] }
def k12m8 : Method := { name := "inflateIfNeededFor", desc := "(Ljava/lang/String;)V", sig := { parameters := [(.object "java/lang/String")], returnType := none }, accessFlags := 2, code := some k12c8 }
def k12c9 : Code := { maxStack := 4, maxLocals := 3, code := jdk_68_method_73_code, exceptionTable := #[], attributes := #[] }
def k12m9 : Method := { name := "putStringAt", desc := "(ILjava/lang/String;)V", sig := { parameters := [.int, (.object "java/lang/String")], returnType := none }, accessFlags := 2, code := some k12c9 }
/-- java/lang/AbstractStringBuilder -/
def k12 : Class := { plain "java/lang/AbstractStringBuilder" (some 0) with
  accessFlags := 1056
  interfaces := #[11, 5]
  cf := some (fileOf pool12 10 #[] #[{ accessFlags := 0, nameIndex := 7, descriptorIndex := 8, attributes := #[] }, { accessFlags := 0, nameIndex := 7, descriptorIndex := 103, attributes := #[] }, { accessFlags := 1, nameIndex := 34, descriptorIndex := 35, attributes := #[] }, { accessFlags := 2, nameIndex := 102, descriptorIndex := 103, attributes := #[] }, { accessFlags := 1, nameIndex := 45, descriptorIndex := 46, attributes := #[] }, { accessFlags := 1, nameIndex := 45, descriptorIndex := 292, attributes := #[] }, { accessFlags := 16, nameIndex := 552, descriptorIndex := 403, attributes := #[] }, { accessFlags := 16, nameIndex := 85, descriptorIndex := 86, attributes := #[] }, { accessFlags := 2, nameIndex := 217, descriptorIndex := 69, attributes := #[] }, { accessFlags := 2, nameIndex := 210, descriptorIndex := 211, attributes := #[] }] 1056 4 #[444, 48] #[{ accessFlags := 0, nameIndex := 17, descriptorIndex := 14, attributes := #[] }, { accessFlags := 0, nameIndex := 24, descriptorIndex := 25, attributes := #[] }, { accessFlags := 0, nameIndex := 75, descriptorIndex := 21, attributes := #[] }, { accessFlags := 0, nameIndex := 81, descriptorIndex := 82, attributes := #[] }, { accessFlags := 26, nameIndex := 13, descriptorIndex := 14, attributes := #[] }])
  fields := #[{ name := "value", type := (.array .byte), accessFlags := 0, slot := 0, constantValue := 0 }, { name := "coder", type := .byte, accessFlags := 0, slot := 1, constantValue := 0 }, { name := "maybeLatin1", type := .boolean, accessFlags := 0, slot := 2, constantValue := 0 }, { name := "count", type := .int, accessFlags := 0, slot := 3, constantValue := 0 }, { name := "EMPTYVALUE", type := (.array .byte), accessFlags := 26, slot := 0, constantValue := 0 }]
  methods := #[k12m0, k12m1, k12m2, k12m3, k12m4, k12m5, k12m6, k12m7, k12m8, k12m9]
  instanceTypes := #[(.array .byte), .byte, .boolean, .int]
  staticTypes := #[(.array .byte)]
  resolved := Array.replicate 609 none
  statics := none }

def pool13 : Array CpInfo := pool [(1, .methodref 2 3), (0, .class_ 4), (0, .nameAndType 5 6), (0, u "java/lang/AbstractStringBuilder"), (0, u "<init>"), (0, u "(I)V"), (11, .class_ 20), (1, u "java/lang/String"), (3, .class_ 26), (1, u "java/lang/StringBuilder"), (0, u "append"), (0, u "(Ljava/lang/String;)Ljava/lang/StringBuilder;"), (0, .methodref 2 30), (0, .nameAndType 27 31), (0, u "(Ljava/lang/String;)Ljava/lang/AbstractStringBuilder;"), (18, .methodref 2 51), (0, .nameAndType 27 52), (0, u "(C)Ljava/lang/AbstractStringBuilder;"), (84, .methodref 18 138), (0, .nameAndType 5 139), (0, u "(Ljava/lang/StringBuilder;)V"), (5, u "()V"), (10, u "()I"), (129, u "(C)Ljava/lang/StringBuilder;"), (56, .methodref 2 344), (0, .nameAndType 345 156), (0, u "length"), (3, .class_ 350), (0, u "java/lang/Appendable"), (0, .class_ 352), (0, u "java/io/Serializable"), (0, .class_ 354), (0, u "java/lang/Comparable"), (0, .class_ 356), (0, u "java/lang/CharSequence"), (0, u "serialVersionUID"), (0, u "J"), (40, u "toString"), (0, u "()Ljava/lang/String;")] 21

def k13c0 : Code := { maxStack := 2, maxLocals := 1, code := jdk_67_method_1_code, exceptionTable := #[], attributes := #[] }
def k13m0 : Method := { name := "<init>", desc := "()V", sig := { parameters := [], returnType := none }, accessFlags := 1, code := some k13c0 }
def k13c1 : Code := { maxStack := 2, maxLocals := 2, code := jdk_67_method_7_code, exceptionTable := #[], attributes := #[] }
def k13m1 : Method := { name := "append", desc := "(Ljava/lang/String;)Ljava/lang/StringBuilder;", sig := { parameters := [(.object "java/lang/String")], returnType := some (.object "java/lang/StringBuilder") }, accessFlags := 1, code := some k13c1 }
def k13c2 : Code := { maxStack := 2, maxLocals := 2, code := jdk_67_method_14_code, exceptionTable := #[], attributes := #[] }
def k13m2 : Method := { name := "append", desc := "(C)Ljava/lang/StringBuilder;", sig := { parameters := [.char], returnType := some (.object "java/lang/StringBuilder") }, accessFlags := 1, code := some k13c2 }
def k13c3 : Code := { maxStack := 3, maxLocals := 1, code := jdk_67_method_42_code, exceptionTable := #[], attributes := #[] }
def k13m3 : Method := { name := "toString", desc := "()Ljava/lang/String;", sig := { parameters := [], returnType := some (.object "java/lang/String") }, accessFlags := 1, code := some k13c3 }
def k13c4 : Code := { maxStack := 1, maxLocals := 1, code := jdk_67_method_93_code, exceptionTable := #[], attributes := #[] }
def k13m4 : Method := { name := "length", desc := "()I", sig := { parameters := [], returnType := some .int }, accessFlags := 4161, code := some k13c4 }
/-- java/lang/StringBuilder -/
def k13 : Class := { plain "java/lang/StringBuilder" (some 12) with
  accessFlags := 49
  interfaces := #[11, 3, 4, 5]
  cf := some (fileOf pool13 24 #[] #[{ accessFlags := 1, nameIndex := 5, descriptorIndex := 145, attributes := #[] }, { accessFlags := 1, nameIndex := 27, descriptorIndex := 28, attributes := #[] }, { accessFlags := 1, nameIndex := 27, descriptorIndex := 286, attributes := #[] }, { accessFlags := 1, nameIndex := 399, descriptorIndex := 400, attributes := #[] }, { accessFlags := 4161, nameIndex := 345, descriptorIndex := 156, attributes := #[] }] 49 2 #[349, 351, 353, 355] #[{ accessFlags := 24, nameIndex := 357, descriptorIndex := 358, attributes := #[] }])
  fields := #[{ name := "serialVersionUID", type := .long, accessFlags := 24, slot := 0, constantValue := 0 }]
  methods := #[k13m0, k13m1, k13m2, k13m3, k13m4]
  instanceTypes := #[(.array .byte), .byte, .boolean, .int]
  staticTypes := #[.long]
  resolved := Array.replicate 422 none
  statics := none }

def pool14 : Array CpInfo := pool [(2, .class_ 4), (1, u "java/lang/Object"), (0, u "<init>"), (0, u "()V"), (1, .class_ 10), (1, u "java/lang/System"), (0, u "allowSecurityManager"), (0, u "I"), (16, u "cons"), (0, u "Ljava/io/Console;"), (77, .class_ 110), (1, u "java/lang/System$CallersHolder"), (43, u "initialErrStream"), (0, u "Ljava/io/PrintStream;"), (19, u "security"), (0, u "Ljava/lang/SecurityManager;"), (31, .class_ 209), (0, u "java/lang/System$1"), (7, u "props"), (0, u "Ljava/util/Properties;"), (2, u "lineSeparator"), (0, u "Ljava/lang/String;"), (96, .class_ 321), (1, u "java/lang/System$LoggerFinder"), (5, .class_ 328), (0, u "java/lang/System$Logger"), (67, u "err"), (2, u "out"), (91, u "notSupportedJnuEncoding"), (15, u "in"), (17, u "initialIn"), (0, u "Ljava/io/InputStream;"), (35, u "bootLayer"), (0, u "Ljava/lang/ModuleLayer;"), (99, .class_ 664), (0, u "java/lang/System$2"), (9, u "NEVER"), (2, u "MAYBE"), (49, u "arraycopy"), (0, u "(Ljava/lang/Object;ILjava/lang/Object;II)V"), (72, .class_ 802), (0, u "java/lang/System$Logger$Level")] 31

def k14m0 : Method := { name := "<init>", desc := "()V", sig := { parameters := [], returnType := none }, accessFlags := 2, code := none }
def k14m1 : Method := { name := "arraycopy", desc := "(Ljava/lang/Object;ILjava/lang/Object;II)V", sig := { parameters := [(.object "java/lang/Object"), .int, (.object "java/lang/Object"), .int, .int], returnType := none }, accessFlags := 265, code := none }
/-- java/lang/System -/
def k14 : Class := { plain "java/lang/System" (some 0) with
  accessFlags := 49
  interfaces := #[]
  cf := some (fileOf pool14 8 #[.nestMembers #[319, 327, 801, 108, 663, 208]] #[{ accessFlags := 2, nameIndex := 5, descriptorIndex := 6, attributes := #[] }, { accessFlags := 265, nameIndex := 727, descriptorIndex := 728, attributes := #[] }] 49 2 #[] #[{ accessFlags := 25, nameIndex := 507, descriptorIndex := 526, attributes := #[] }, { accessFlags := 25, nameIndex := 399, descriptorIndex := 155, attributes := #[] }, { accessFlags := 25, nameIndex := 396, descriptorIndex := 155, attributes := #[] }, { accessFlags := 10, nameIndex := 525, descriptorIndex := 526, attributes := #[] }, { accessFlags := 26, nameIndex := 674, descriptorIndex := 12, attributes := #[] }, { accessFlags := 26, nameIndex := 677, descriptorIndex := 12, attributes := #[] }, { accessFlags := 10, nameIndex := 11, descriptorIndex := 12, attributes := #[] }, { accessFlags := 74, nameIndex := 175, descriptorIndex := 176, attributes := #[] }, { accessFlags := 10, nameIndex := 491, descriptorIndex := 222, attributes := #[] }, { accessFlags := 74, nameIndex := 29, descriptorIndex := 30, attributes := #[] }, { accessFlags := 74, nameIndex := 154, descriptorIndex := 155, attributes := #[] }, { accessFlags := 10, nameIndex := 217, descriptorIndex := 218, attributes := #[] }, { accessFlags := 10, nameIndex := 221, descriptorIndex := 222, attributes := #[] }, { accessFlags := 8, nameIndex := 562, descriptorIndex := 563, attributes := #[] }])
  fields := #[{ name := "in", type := (.object "java/io/InputStream"), accessFlags := 25, slot := 0, constantValue := 0 }, { name := "out", type := (.object "java/io/PrintStream"), accessFlags := 25, slot := 1, constantValue := 0 }, { name := "err", type := (.object "java/io/PrintStream"), accessFlags := 25, slot := 2, constantValue := 0 }, { name := "initialIn", type := (.object "java/io/InputStream"), accessFlags := 10, slot := 3, constantValue := 0 }, { name := "NEVER", type := .int, accessFlags := 26, slot := 4, constantValue := 0 }, { name := "MAYBE", type := .int, accessFlags := 26, slot := 5, constantValue := 0 }, { name := "allowSecurityManager", type := .int, accessFlags := 10, slot := 6, constantValue := 0 }, { name := "security", type := (.object "java/lang/SecurityManager"), accessFlags := 74, slot := 7, constantValue := 0 }, { name := "notSupportedJnuEncoding", type := (.object "java/lang/String"), accessFlags := 10, slot := 8, constantValue := 0 }, { name := "cons", type := (.object "java/io/Console"), accessFlags := 74, slot := 9, constantValue := 0 }, { name := "initialErrStream", type := (.object "java/io/PrintStream"), accessFlags := 74, slot := 10, constantValue := 0 }, { name := "props", type := (.object "java/util/Properties"), accessFlags := 10, slot := 11, constantValue := 0 }, { name := "lineSeparator", type := (.object "java/lang/String"), accessFlags := 10, slot := 12, constantValue := 0 }, { name := "bootLayer", type := (.object "java/lang/ModuleLayer"), accessFlags := 8, slot := 13, constantValue := 0 }]
  methods := #[k14m0, k14m1]
  instanceTypes := #[]
  staticTypes := #[(.object "java/io/InputStream"), (.object "java/io/PrintStream"), (.object "java/io/PrintStream"), (.object "java/io/InputStream"), .int, .int, .int, (.object "java/lang/SecurityManager"), (.object "java/lang/String"), (.object "java/io/Console"), (.object "java/io/PrintStream"), (.object "java/util/Properties"), (.object "java/lang/String"), (.object "java/lang/ModuleLayer")]
  resolved := Array.replicate 834 none
  statics := none }

def pool15 : Array CpInfo := pool [(2, .class_ 4), (1, u "java/lang/Object"), (0, u "<init>"), (0, u "()V"), (7, .class_ 16), (1, u "java/util/Arrays"), (57, .class_ 76), (1, u "java/util/Arrays$NaturalOrder"), (36, .class_ 115), (1, u "java/util/Arrays$LegacyMergeSort"), (1, u "Z"), (21, u "copyOfRange"), (10, .methodref 151 152), (0, .class_ 153), (0, .nameAndType 154 155), (0, u "java/lang/System"), (0, u "arraycopy"), (0, u "(Ljava/lang/Object;ILjava/lang/Object;II)V"), (148, .methodref 305 306), (0, .class_ 307), (0, .nameAndType 308 309), (0, u "java/lang/Math"), (0, u "min"), (0, u "(II)I"), (29, .methodref 14 340), (0, .nameAndType 341 342), (0, u "copyOfRangeByte"), (0, u "([BII)[B"), (0, .methodref 14 344), (0, .nameAndType 345 346), (0, u "checkLength"), (0, u "(II)V"), (28, .class_ 376), (0, u "java/util/Arrays$ArrayList"), (68, u "$assertionsDisabled"), (269, u "MIN_ARRAY_SORT_GRAN"), (0, u "I"), (2, u "INSERTIONSORT_THRESHOLD"), (255, .class_ 976), (0, u "java/util/Arrays$ArrayItr")] 52

def k15m0 : Method := { name := "<init>", desc := "()V", sig := { parameters := [], returnType := none }, accessFlags := 2, code := none }
def k15c1 : Code := { maxStack := 4, maxLocals := 2, code := jdk_65_method_131_code, exceptionTable := #[], attributes := #[] }
def k15m1 : Method := { name := "checkLength", desc := "(II)V", sig := { parameters := [.int, .int], returnType := none }, accessFlags := 10, code := some k15c1 }
def k15c2 : Code := { maxStack := 3, maxLocals := 3, code := jdk_65_method_132_code, exceptionTable := #[], attributes := #[] }
def k15m2 : Method := { name := "copyOfRange", desc := "([BII)[B", sig := { parameters := [(.array .byte), .int, .int], returnType := some (.array .byte) }, accessFlags := 9, code := some k15c2 }
def k15c3 : Code := { maxStack := 6, maxLocals := 5, code := jdk_65_method_133_code, exceptionTable := #[], attributes := #[] }
def k15m3 : Method := { name := "copyOfRangeByte", desc := "([BII)[B", sig := { parameters := [(.array .byte), .int, .int], returnType := some (.array .byte) }, accessFlags := 10, code := some k15c3 }
/-- java/util/Arrays -/
def k15 : Class := { plain "java/util/Arrays" (some 0) with
  accessFlags := 49
  interfaces := #[]
  cf := some (fileOf pool15 14 #[.nestMembers #[975, 375, 113, 74]] #[{ accessFlags := 2, nameIndex := 5, descriptorIndex := 6, attributes := #[] }, { accessFlags := 10, nameIndex := 345, descriptorIndex := 346, attributes := #[] }, { accessFlags := 9, nameIndex := 139, descriptorIndex := 342, attributes := #[] }, { accessFlags := 10, nameIndex := 341, descriptorIndex := 342, attributes := #[] }] 49 2 #[] #[{ accessFlags := 26, nameIndex := 715, descriptorIndex := 716, attributes := #[] }, { accessFlags := 26, nameIndex := 719, descriptorIndex := 716, attributes := #[] }, { accessFlags := 4120, nameIndex := 445, descriptorIndex := 117, attributes := #[] }])
  fields := #[{ name := "MIN_ARRAY_SORT_GRAN", type := .int, accessFlags := 26, slot := 0, constantValue := 0 }, { name := "INSERTIONSORT_THRESHOLD", type := .int, accessFlags := 26, slot := 1, constantValue := 0 }, { name := "$assertionsDisabled", type := .boolean, accessFlags := 4120, slot := 2, constantValue := 0 }]
  methods := #[k15m0, k15m1, k15m2, k15m3]
  instanceTypes := #[]
  staticTypes := #[.int, .int, .boolean]
  resolved := Array.replicate 1029 none
  statics := none }

def pool16 : Array CpInfo := pool [(1, .class_ 2), (0, u "java/lang/Math"), (1, .class_ 6), (1, u "java/lang/Object"), (0, u "<init>"), (0, u "()V"), (89, .class_ 100), (1, u "java/lang/Math$RandomNumberGeneratorHolder"), (71, u "negativeZeroFloatBits"), (0, u "J"), (2, u "negativeZeroDoubleBits"), (24, u "min"), (43, u "$assertionsDisabled"), (0, u "Z"), (88, u "(II)I"), (2, u "twoToTheDoubleScaleDown"), (0, u "D"), (4, u "twoToTheDoubleScaleUp"), (9, u "E"), (3, u "PI"), (2, u "TAU"), (2, u "DEGREES_TO_RADIANS"), (0, u "RADIANS_TO_DEGREES")] 94

def k16m0 : Method := { name := "<init>", desc := "()V", sig := { parameters := [], returnType := none }, accessFlags := 2, code := none }
def k16c1 : Code := { maxStack := 2, maxLocals := 2, code := jdk_29_method_69_code, exceptionTable := #[], attributes := #[] }
def k16m1 : Method := { name := "min", desc := "(II)I", sig := { parameters := [.int, .int], returnType := some .int }, accessFlags := 9, code := some k16c1 }
/-- java/lang/Math -/
def k16 : Class := { plain "java/lang/Math" (some 0) with
  accessFlags := 49
  interfaces := #[]
  cf := some (fileOf pool16 1 #[.nestMembers #[98]] #[{ accessFlags := 2, nameIndex := 7, descriptorIndex := 8, attributes := #[] }, { accessFlags := 9, nameIndex := 201, descriptorIndex := 335, attributes := #[] }] 49 4 #[] #[{ accessFlags := 25, nameIndex := 354, descriptorIndex := 339, attributes := #[] }, { accessFlags := 25, nameIndex := 358, descriptorIndex := 339, attributes := #[] }, { accessFlags := 25, nameIndex := 361, descriptorIndex := 339, attributes := #[] }, { accessFlags := 26, nameIndex := 364, descriptorIndex := 339, attributes := #[] }, { accessFlags := 26, nameIndex := 365, descriptorIndex := 339, attributes := #[] }, { accessFlags := 26, nameIndex := 172, descriptorIndex := 173, attributes := #[] }, { accessFlags := 26, nameIndex := 176, descriptorIndex := 173, attributes := #[] }, { accessFlags := 8, nameIndex := 344, descriptorIndex := 339, attributes := #[] }, { accessFlags := 8, nameIndex := 338, descriptorIndex := 339, attributes := #[] }, { accessFlags := 4120, nameIndex := 245, descriptorIndex := 246, attributes := #[] }])
  fields := #[{ name := "E", type := .double, accessFlags := 25, slot := 0, constantValue := 0 }, { name := "PI", type := .double, accessFlags := 25, slot := 1, constantValue := 0 }, { name := "TAU", type := .double, accessFlags := 25, slot := 2, constantValue := 0 }, { name := "DEGREES_TO_RADIANS", type := .double, accessFlags := 26, slot := 3, constantValue := 0 }, { name := "RADIANS_TO_DEGREES", type := .double, accessFlags := 26, slot := 4, constantValue := 0 }, { name := "negativeZeroFloatBits", type := .long, accessFlags := 26, slot := 5, constantValue := 0 }, { name := "negativeZeroDoubleBits", type := .long, accessFlags := 26, slot := 6, constantValue := 0 }, { name := "twoToTheDoubleScaleUp", type := .double, accessFlags := 8, slot := 7, constantValue := 0 }, { name := "twoToTheDoubleScaleDown", type := .double, accessFlags := 8, slot := 8, constantValue := 0 }, { name := "$assertionsDisabled", type := .boolean, accessFlags := 4120, slot := 9, constantValue := 0 }]
  methods := #[k16m0, k16m1]
  instanceTypes := #[]
  staticTypes := #[.double, .double, .double, .double, .double, .long, .long, .double, .double, .boolean]
  resolved := Array.replicate 460 none
  statics := none }

def pool17 : Array CpInfo := pool [(2, .class_ 4), (1, u "java/lang/Object"), (0, u "<init>"), (0, u "()V"), (35, .class_ 44), (1, u "java/util/Objects"), (0, u "requireNonNull"), (0, u "(Ljava/lang/Object;)Ljava/lang/Object;")] 137

def k17m0 : Method := { name := "<init>", desc := "()V", sig := { parameters := [], returnType := none }, accessFlags := 2, code := none }
def k17c1 : Code := { maxStack := 2, maxLocals := 1, code := jdk_31_method_10_code, exceptionTable := #[], attributes := #[] }
def k17m1 : Method := { name := "requireNonNull", desc := "(Ljava/lang/Object;)Ljava/lang/Object;", sig := { parameters := [(.object "java/lang/Object")], returnType := some (.object "java/lang/Object") }, accessFlags := 9, code := some k17c1 }
/-- java/util/Objects -/
def k17 : Class := { plain "java/util/Objects" (some 0) with
  accessFlags := 49
  interfaces := #[]
  cf := some (fileOf pool17 42 #[] #[{ accessFlags := 2, nameIndex := 5, descriptorIndex := 6, attributes := #[] }, { accessFlags := 9, nameIndex := 45, descriptorIndex := 46, attributes := #[] }] 49 2 #[] #[])
  fields := #[]
  methods := #[k17m0, k17m1]
  instanceTypes := #[]
  staticTypes := #[]
  resolved := Array.replicate 184 none
  statics := none }

def pool18 : Array CpInfo := pool [(2, .class_ 4), (1, u "java/lang/Object"), (0, u "<init>"), (0, u "()V"), (17, .class_ 26), (1, u "jdk/internal/util/Preconditions"), (6, u "checkIndex"), (21, .class_ 56), (0, u "jdk/internal/util/Preconditions$4"), (57, .class_ 115), (0, u "jdk/internal/util/Preconditions$1"), (7, u "SIOOBE_FORMATTER"), (0, u "Ljava/util/function/BiFunction;"), (0, .class_ 126), (0, u "jdk/internal/util/Preconditions$2"), (3, u "AIOOBE_FORMATTER"), (0, .class_ 132), (0, u "jdk/internal/util/Preconditions$3"), (3, u "IOOBE_FORMATTER"), (41, u "(IILjava/util/function/BiFunction;)I")] 15

def k18m0 : Method := { name := "<init>", desc := "()V", sig := { parameters := [], returnType := none }, accessFlags := 1, code := none }
def k18c1 : Code := { maxStack := 3, maxLocals := 3, code := jdk_41_method_11_code, exceptionTable := #[], attributes := #[] }
def k18m1 : Method := { name := "checkIndex", desc := "(IILjava/util/function/BiFunction;)I", sig := { parameters := [.int, .int, (.object "java/util/function/BiFunction")], returnType := some .int }, accessFlags := 9, code := some k18c1 }
/-- jdk/internal/util/Preconditions -/
def k18 : Class := { plain "jdk/internal/util/Preconditions" (some 0) with
  accessFlags := 33
  interfaces := #[]
  cf := some (fileOf pool18 24 #[.nestMembers #[55, 131, 125, 114]] #[{ accessFlags := 1, nameIndex := 5, descriptorIndex := 6, attributes := #[] }, { accessFlags := 9, nameIndex := 33, descriptorIndex := 178, attributes := #[] }] 33 2 #[] #[{ accessFlags := 25, nameIndex := 123, descriptorIndex := 124, attributes := #[] }, { accessFlags := 25, nameIndex := 130, descriptorIndex := 124, attributes := #[] }, { accessFlags := 25, nameIndex := 136, descriptorIndex := 124, attributes := #[] }])
  fields := #[{ name := "SIOOBE_FORMATTER", type := (.object "java/util/function/BiFunction"), accessFlags := 25, slot := 0, constantValue := 0 }, { name := "AIOOBE_FORMATTER", type := (.object "java/util/function/BiFunction"), accessFlags := 25, slot := 1, constantValue := 0 }, { name := "IOOBE_FORMATTER", type := (.object "java/util/function/BiFunction"), accessFlags := 25, slot := 2, constantValue := 0 }]
  methods := #[k18m0, k18m1]
  instanceTypes := #[]
  staticTypes := #[(.object "java/util/function/BiFunction"), (.object "java/util/function/BiFunction"), (.object "java/util/function/BiFunction")]
  resolved := Array.replicate 194 none
  statics := some 2 }

def pool19 : Array CpInfo := pool [(9, u "<init>"), (6, .class_ 18), (1, u "java/lang/Object"), (0, u "()V"), (1, .class_ 23), (1, u "jdk/internal/util/ArraysSupport"), (0, u "LOG2_ARRAY_LONG_INDEX_SCALE"), (0, u "I"), (2, u "U"), (0, u "Ljdk/internal/misc/Unsafe;"), (8, u "BIG_ENDIAN"), (0, u "Z"), (8, u "LOG2_BYTE_BIT_SIZE"), (4, u "LOG2_ARRAY_INT_INDEX_SCALE"), (54, u "JLA"), (0, u "Ljdk/internal/access/JavaLangAccess;"), (11, u "LOG2_ARRAY_BOOLEAN_INDEX_SCALE"), (9, u "LOG2_ARRAY_BYTE_INDEX_SCALE"), (5, u "LOG2_ARRAY_CHAR_INDEX_SCALE"), (5, u "LOG2_ARRAY_SHORT_INDEX_SCALE"), (18, u "LOG2_ARRAY_FLOAT_INDEX_SCALE"), (24, u "LOG2_ARRAY_DOUBLE_INDEX_SCALE"), (89, u "T_BOOLEAN"), (2, u "T_CHAR"), (1, u "T_FLOAT"), (1, u "T_DOUBLE"), (1, u "T_BYTE"), (1, u "T_SHORT"), (1, u "T_INT"), (1, u "T_LONG"), (1, u "SOFT_MAX_ARRAY_LENGTH")] 83

def k19m0 : Method := { name := "<init>", desc := "()V", sig := { parameters := [], returnType := none }, accessFlags := 2, code := none }
/-- jdk/internal/util/ArraysSupport -/
def k19 : Class := { plain "jdk/internal/util/ArraysSupport" (some 0) with
  accessFlags := 33
  interfaces := #[]
  cf := some (fileOf pool19 21 #[] #[{ accessFlags := 2, nameIndex := 9, descriptorIndex := 19, attributes := #[] }] 33 16 #[] #[{ accessFlags := 24, nameIndex := 28, descriptorIndex := 29, attributes := #[] }, { accessFlags := 26, nameIndex := 38, descriptorIndex := 39, attributes := #[] }, { accessFlags := 25, nameIndex := 121, descriptorIndex := 25, attributes := #[] }, { accessFlags := 25, nameIndex := 131, descriptorIndex := 25, attributes := #[] }, { accessFlags := 25, nameIndex := 137, descriptorIndex := 25, attributes := #[] }, { accessFlags := 25, nameIndex := 143, descriptorIndex := 25, attributes := #[] }, { accessFlags := 25, nameIndex := 53, descriptorIndex := 25, attributes := #[] }, { accessFlags := 25, nameIndex := 24, descriptorIndex := 25, attributes := #[] }, { accessFlags := 25, nameIndex := 162, descriptorIndex := 25, attributes := #[] }, { accessFlags := 25, nameIndex := 187, descriptorIndex := 25, attributes := #[] }, { accessFlags := 26, nameIndex := 48, descriptorIndex := 25, attributes := #[] }, { accessFlags := 25, nameIndex := 277, descriptorIndex := 25, attributes := #[] }, { accessFlags := 25, nameIndex := 280, descriptorIndex := 25, attributes := #[] }, { accessFlags := 25, nameIndex := 282, descriptorIndex := 25, attributes := #[] }, { accessFlags := 25, nameIndex := 284, descriptorIndex := 25, attributes := #[] }, { accessFlags := 25, nameIndex := 286, descriptorIndex := 25, attributes := #[] }, { accessFlags := 25, nameIndex := 288, descriptorIndex := 25, attributes := #[] }, { accessFlags := 25, nameIndex := 290, descriptorIndex := 25, attributes := #[] }, { accessFlags := 25, nameIndex := 292, descriptorIndex := 25, attributes := #[] }, { accessFlags := 26, nameIndex := 108, descriptorIndex := 109, attributes := #[] }, { accessFlags := 25, nameIndex := 294, descriptorIndex := 25, attributes := #[] }])
  fields := #[{ name := "U", type := (.object "jdk/internal/misc/Unsafe"), accessFlags := 24, slot := 0, constantValue := 0 }, { name := "BIG_ENDIAN", type := .boolean, accessFlags := 26, slot := 1, constantValue := 0 }, { name := "LOG2_ARRAY_BOOLEAN_INDEX_SCALE", type := .int, accessFlags := 25, slot := 2, constantValue := 0 }, { name := "LOG2_ARRAY_BYTE_INDEX_SCALE", type := .int, accessFlags := 25, slot := 3, constantValue := 0 }, { name := "LOG2_ARRAY_CHAR_INDEX_SCALE", type := .int, accessFlags := 25, slot := 4, constantValue := 0 }, { name := "LOG2_ARRAY_SHORT_INDEX_SCALE", type := .int, accessFlags := 25, slot := 5, constantValue := 0 }, { name := "LOG2_ARRAY_INT_INDEX_SCALE", type := .int, accessFlags := 25, slot := 6, constantValue := 0 }, { name := "LOG2_ARRAY_LONG_INDEX_SCALE", type := .int, accessFlags := 25, slot := 7, constantValue := 0 }, { name := "LOG2_ARRAY_FLOAT_INDEX_SCALE", type := .int, accessFlags := 25, slot := 8, constantValue := 0 }, { name := "LOG2_ARRAY_DOUBLE_INDEX_SCALE", type := .int, accessFlags := 25, slot := 9, constantValue := 0 }, { name := "LOG2_BYTE_BIT_SIZE", type := .int, accessFlags := 26, slot := 10, constantValue := 0 }, { name := "T_BOOLEAN", type := .int, accessFlags := 25, slot := 11, constantValue := 0 }, { name := "T_CHAR", type := .int, accessFlags := 25, slot := 12, constantValue := 0 }, { name := "T_FLOAT", type := .int, accessFlags := 25, slot := 13, constantValue := 0 }, { name := "T_DOUBLE", type := .int, accessFlags := 25, slot := 14, constantValue := 0 }, { name := "T_BYTE", type := .int, accessFlags := 25, slot := 15, constantValue := 0 }, { name := "T_SHORT", type := .int, accessFlags := 25, slot := 16, constantValue := 0 }, { name := "T_INT", type := .int, accessFlags := 25, slot := 17, constantValue := 0 }, { name := "T_LONG", type := .int, accessFlags := 25, slot := 18, constantValue := 0 }, { name := "JLA", type := (.object "jdk/internal/access/JavaLangAccess"), accessFlags := 26, slot := 19, constantValue := 0 }, { name := "SOFT_MAX_ARRAY_LENGTH", type := .int, accessFlags := 25, slot := 20, constantValue := 0 }]
  methods := #[k19m0]
  instanceTypes := #[]
  staticTypes := #[(.object "jdk/internal/misc/Unsafe"), .boolean, .int, .int, .int, .int, .int, .int, .int, .int, .int, .int, .int, .int, .int, .int, .int, .int, .int, (.object "jdk/internal/access/JavaLangAccess"), .int]
  resolved := Array.replicate 378 none
  statics := none }

def pool20 : Array CpInfo := pool [(1, u "java/lang/Cloneable"), (0, .class_ 1), (0, u "java/lang/Object"), (0, .class_ 3)] 3

/-- java/lang/Cloneable -/
def k20 : Class := { plain "java/lang/Cloneable" (some 0) with
  accessFlags := 1537
  interfaces := #[]
  cf := some (fileOf pool20 2 #[] #[] 1537 4 #[] #[])
  fields := #[]
  methods := #[]
  instanceTypes := #[]
  staticTypes := #[]
  resolved := Array.replicate 8 none
  statics := none }

/-- the primitive byte -/
def k21 : Class := { plain "byte" none with kind := .primitive 'B', accessFlags := 0x411 }
/-- [B -/
def k22 : Class := { plain "[B" (some 0) with kind := .array 21 .byte, interfaces := #[20, 3], accessFlags := 1041 }

/-- the primitive char -/
def k23 : Class := { plain "char" none with kind := .primitive 'C', accessFlags := 0x411 }
/-- [C -/
def k24 : Class := { plain "[C" (some 0) with kind := .array 23 .char, interfaces := #[20, 3], accessFlags := 1041 }

/-- the primitive int -/
def k25 : Class := { plain "int" none with kind := .primitive 'I', accessFlags := 0x411 }
/-- [I -/
def k26 : Class := { plain "[I" (some 0) with kind := .array 25 .int, interfaces := #[20, 3], accessFlags := 1041 }

def heap : Heap := #[{ cls := 8, slots := #[.long 0, .int 1, .null, .int 0, .null, .int 0, .int 0], vm := .statics 8 },
  { cls := 9, slots := #[.ref 3], vm := .statics 9 },
  { cls := 18, slots := #[.null, .null, .null], vm := .statics 18 },
  { cls := 9, slots := #[.null], vm := .none }]
def classes : Array Class := #[k0, k1, k2, k3, k4, k5, k6, k7, k8, k9, k10, k11, k12, k13, k14, k15, k16, k17, k18, k19, k20, k21, k22, k23, k24, k25, k26]
def interned : List (Array UInt16 × Addr) := []
def slotsUsed : Nat := 12
def theMethod : MethodId := ⟨1, 3⟩
def args0 : Array Value := #[.int 37, .int 65, .int 66, .int 67]
def aboutOver (below : List Frame) : State where
  vm := { classes := classes, interned := interned.toArray }
  heap := heap
  slotsUsed := slotsUsed
  threads := #[{ frames := .invoking theMethod args0 :: below }]
def below0 : List Frame := [.native { method := ⟨0, 0⟩, args := #[] }]
def about1 : State := aboutOver below0
def p0 : Program := .bare "" "" ""
def e0 : Env := launch0.env 0 0 0
theorem w_frames : about1.frames = Frame.invoking theMethod args0 :: below0 := rfl
set_option maxRecDepth 65536 in
theorem w_args : argsFit about1.vm theMethod args0 = true := by decide +kernel
set_option maxRecDepth 65536 in
theorem w_heap : heapFits about1 = true := by decide +kernel
set_option maxRecDepth 65536 in
theorem w_runnable : about1.curStatus? = some .runnable := by decide +kernel
set_option maxRecDepth 65536 in
theorem w_alone : about1.alone = true := by decide +kernel
set_option maxRecDepth 65536 in
theorem w_named : about1.methodNamed? x = some theMethod := by decide +kernel
set_option maxRecDepth 65536 in
theorem w_hears : about1.hears theMethod below0 = true := by decide +kernel
set_option maxRecDepth 65536 in
theorem w_ripe : about1.ripe theMethod args0 below0 = true := by decide +kernel
theorem w_running : about1.status = .running := rfl
set_option maxRecDepth 65536 in
theorem w_room : about1.hasRoom e0.platform room_1 = true :=
  launch0.hasRoom_least _ room_1 (by decide +kernel) (by decide +kernel) (by decide +kernel) (by decide +kernel) (by decide +kernel) (by decide +kernel)
theorem allAtoms_all (ts : List Jvm.Cond) (a : Array Jvm.Value) (st : Jvm.State) : (allAtoms ts).before a st = ts.all (fun c => c.before a st) := by
  induction ts with
  | nil => rfl
  | cons c t ih =>
    show (Jvm.Cond.and c (allAtoms t)).before a st = _
    rw [Jvm.Cond.before_and, ih, List.all_cons]
def words1 : List Jvm.Cond := Jvm.Cond.code x code maxLocals ret :: tables_1
/-- a 'code' word, met by the world's own term for the bytes: nothing is compared byte by byte -/
theorem code_word {y : MethodName} {bytes : ByteArray} {mx : Nat} {rt : Option FieldType} {a : Array Value} {s : State} {m : MethodId} {meth : Method} {c : Code} (h1 : s.methodNamed? y = some m) (h2 : s.vm.method? m = some meth) (h3 : meth.code = some c) (h4 : c.code = bytes)
    (h5 : (c.maxLocals == mx && c.exceptionTable.isEmpty && decide (c.maxStack ≤ mostOperands) && decide (meth.sig.returnType = rt) && !meth.locks && decide (parseMethodDescriptor y.desc = some meth.sig)) = true) : (Jvm.Cond.code y bytes mx rt).before a s = true := by
  simp only [Bool.and_eq_true, beq_iff_eq, Bool.not_eq_true', decide_eq_true_eq] at h5
  obtain ⟨⟨⟨⟨⟨g1, g2⟩, g3⟩, g4⟩, g5⟩, g6⟩ := h5
  simp [Cond.before, Cond.holds, Cond.value, h1, h2, h3, h4, g1, g2, g3, g4, g5, g6]
def isCode : Jvm.Cond → Bool
  | .code _ _ _ _ => true
  | _ => false
theorem all_split {L : List Jvm.Cond} {P : Jvm.Cond → Bool} (h1 : L.all (fun c => isCode c || P c) = true) (h2 : ∀ c ∈ L.filter isCode, P c = true) : L.all P = true := by
  refine List.all_eq_true.mpr fun c hc => ?_
  have h := List.all_eq_true.mp h1 c hc
  rcases Bool.eq_false_or_eq_true (isCode c) with hi | hi
  · exact h2 c (List.mem_filter.mpr ⟨hc, hi⟩)
  · simpa [hi] using h
set_option maxRecDepth 65536 in
theorem w_c0 : (Jvm.Cond.code x code maxLocals ret).before args0 about1 = true := code_word (m := ⟨1, 3⟩) (meth := k1m3) (c := k1c3) (by decide +kernel) rfl rfl rfl (by decide +kernel)
set_option maxRecDepth 65536 in
theorem w_c1 : (Jvm.Cond.code ({ cls := "com/example/liburiref/liburiref/UriReferenceAuthorityPinLaw", name := "part", desc := "(IC)Ljava/lang/String;" } : Jvm.MethodName) method_2_code (2 : Nat) (Option.some (Jvm.ClassFile.FieldType.object "java/lang/String"))).before args0 about1 = true := code_word (m := ⟨1, 1⟩) (meth := k1m1) (c := k1c1) (by decide +kernel) rfl rfl rfl (by decide +kernel)
set_option maxRecDepth 65536 in
theorem w_c2 : (Jvm.Cond.code ({ cls := "com/example/liburiref/liburiref/UriReference", name := "<init>", desc := "(Ljava/lang/String;Ljava/lang/String;Ljava/lang/String;Ljava/lang/String;Ljava/lang/String;Ljava/lang/String;Ljava/lang/String;Ljava/lang/String;)V" } : Jvm.MethodName) prog_7_method_1_code (9 : Nat) (Option.none : Option Jvm.ClassFile.FieldType)).before args0 about1 = true := code_word (m := ⟨2, 0⟩) (meth := k2m0) (c := k2c0) (by decide +kernel) rfl rfl rfl (by decide +kernel)
set_option maxRecDepth 65536 in
theorem w_c3 : (Jvm.Cond.code ({ cls := "java/lang/Object", name := "<init>", desc := "()V" } : Jvm.MethodName) object_method_1_code (1 : Nat) (Option.none : Option Jvm.ClassFile.FieldType)).before args0 about1 = true := code_word (m := ⟨0, 0⟩) (meth := k0m0) (c := k0c0) (by decide +kernel) rfl rfl rfl (by decide +kernel)
set_option maxRecDepth 65536 in
theorem w_c4 : (Jvm.Cond.code ({ cls := "com/example/liburiref/liburiref/UriReference", name := "authority", desc := "()Ljava/util/Optional;" } : Jvm.MethodName) prog_7_method_4_code (2 : Nat) (Option.some (Jvm.ClassFile.FieldType.object "java/util/Optional"))).before args0 about1 = true := code_word (m := ⟨2, 1⟩) (meth := k2m1) (c := k2c1) (by decide +kernel) rfl rfl rfl (by decide +kernel)
set_option maxRecDepth 65536 in
theorem w_c5 : (Jvm.Cond.code ({ cls := "java/util/Optional", name := "empty", desc := "()Ljava/util/Optional;" } : Jvm.MethodName) jdk_32_method_1_code (1 : Nat) (Option.some (Jvm.ClassFile.FieldType.object "java/util/Optional"))).before args0 about1 = true := code_word (m := ⟨9, 0⟩) (meth := k9m0) (c := k9c0) (by decide +kernel) rfl rfl rfl (by decide +kernel)
set_option maxRecDepth 65536 in
theorem w_c6 : (Jvm.Cond.code ({ cls := "java/util/Optional", name := "isPresent", desc := "()Z" } : Jvm.MethodName) jdk_32_method_6_code (1 : Nat) (Option.some Jvm.ClassFile.FieldType.boolean)).before args0 about1 = true := code_word (m := ⟨9, 4⟩) (meth := k9m4) (c := k9c4) (by decide +kernel) rfl rfl rfl (by decide +kernel)
set_option maxRecDepth 65536 in
theorem w_c7 : (Jvm.Cond.code ({ cls := "java/lang/String", name := "valueOf", desc := "(C)Ljava/lang/String;" } : Jvm.MethodName) jdk_42_method_139_code (1 : Nat) (Option.some (Jvm.ClassFile.FieldType.object "java/lang/String"))).before args0 about1 = true := code_word (m := ⟨8, 4⟩) (meth := k8m4) (c := k8c4) (by decide +kernel) rfl rfl rfl (by decide +kernel)
set_option maxRecDepth 65536 in
theorem w_c8 : (Jvm.Cond.code ({ cls := "java/lang/StringLatin1", name := "canEncode", desc := "(C)Z" } : Jvm.MethodName) jdk_43_method_3_code (1 : Nat) (Option.some Jvm.ClassFile.FieldType.boolean)).before args0 about1 = true := code_word (m := ⟨10, 2⟩) (meth := k10m2) (c := k10c2) (by decide +kernel) rfl rfl rfl (by decide +kernel)
set_option maxRecDepth 65536 in
theorem w_c9 : (Jvm.Cond.code ({ cls := "java/lang/StringLatin1", name := "toBytes", desc := "(C)[B" } : Jvm.MethodName) jdk_43_method_46_code (1 : Nat) (Option.some (Jvm.ClassFile.FieldType.array Jvm.ClassFile.FieldType.byte))).before args0 about1 = true := code_word (m := ⟨10, 3⟩) (meth := k10m3) (c := k10c3) (by decide +kernel) rfl rfl rfl (by decide +kernel)
set_option maxRecDepth 65536 in
theorem w_c10 : (Jvm.Cond.code ({ cls := "java/lang/String", name := "<init>", desc := "([BB)V" } : Jvm.MethodName) jdk_42_method_151_code (3 : Nat) (Option.none : Option Jvm.ClassFile.FieldType)).before args0 about1 = true := code_word (m := ⟨8, 7⟩) (meth := k8m7) (c := k8c7) (by decide +kernel) rfl rfl rfl (by decide +kernel)
set_option maxRecDepth 65536 in
theorem w_c11 : (Jvm.Cond.code ({ cls := "java/lang/StringBuilder", name := "<init>", desc := "()V" } : Jvm.MethodName) jdk_67_method_1_code (1 : Nat) (Option.none : Option Jvm.ClassFile.FieldType)).before args0 about1 = true := code_word (m := ⟨13, 0⟩) (meth := k13m0) (c := k13c0) (by decide +kernel) rfl rfl rfl (by decide +kernel)
set_option maxRecDepth 65536 in
theorem w_c12 : (Jvm.Cond.code ({ cls := "java/lang/AbstractStringBuilder", name := "<init>", desc := "(I)V" } : Jvm.MethodName) jdk_68_method_2_code (2 : Nat) (Option.none : Option Jvm.ClassFile.FieldType)).before args0 about1 = true := code_word (m := ⟨12, 1⟩) (meth := k12m1) (c := k12c1) (by decide +kernel) rfl rfl rfl (by decide +kernel)
set_option maxRecDepth 65536 in
theorem w_c13 : (Jvm.Cond.code ({ cls := "com/example/liburiref/liburiref/UriReference", name := "appendAuthority", desc := "(Ljava/lang/StringBuilder;Ljava/lang/String;Ljava/lang/String;Ljava/lang/String;)Ljava/lang/StringBuilder;" } : Jvm.MethodName) prog_7_method_51_code (4 : Nat) (Option.some (Jvm.ClassFile.FieldType.object "java/lang/StringBuilder"))).before args0 about1 = true := code_word (m := ⟨2, 2⟩) (meth := k2m2) (c := k2c2) (by decide +kernel) rfl rfl rfl (by decide +kernel)
set_option maxRecDepth 65536 in
theorem w_c14 : (Jvm.Cond.code ({ cls := "java/lang/StringBuilder", name := "append", desc := "(Ljava/lang/String;)Ljava/lang/StringBuilder;" } : Jvm.MethodName) jdk_67_method_7_code (2 : Nat) (Option.some (Jvm.ClassFile.FieldType.object "java/lang/StringBuilder"))).before args0 about1 = true := code_word (m := ⟨13, 1⟩) (meth := k13m1) (c := k13c1) (by decide +kernel) rfl rfl rfl (by decide +kernel)
set_option maxRecDepth 65536 in
theorem w_c15 : (Jvm.Cond.code ({ cls := "java/lang/AbstractStringBuilder", name := "append", desc := "(Ljava/lang/String;)Ljava/lang/AbstractStringBuilder;" } : Jvm.MethodName) jdk_68_method_22_code (3 : Nat) (Option.some (Jvm.ClassFile.FieldType.object "java/lang/AbstractStringBuilder"))).before args0 about1 = true := code_word (m := ⟨12, 4⟩) (meth := k12m4) (c := k12c4) (by decide +kernel) rfl rfl rfl (by decide +kernel)
set_option maxRecDepth 65536 in
theorem w_c16 : (Jvm.Cond.code ({ cls := "java/lang/String", name := "length", desc := "()I" } : Jvm.MethodName) jdk_42_method_54_code (1 : Nat) (Option.some Jvm.ClassFile.FieldType.int)).before args0 about1 = true := code_word (m := ⟨8, 2⟩) (meth := k8m2) (c := k8c2) (by decide +kernel) rfl rfl rfl (by decide +kernel)
set_option maxRecDepth 65536 in
theorem w_c17 : (Jvm.Cond.code ({ cls := "java/lang/String", name := "coder", desc := "()B" } : Jvm.MethodName) jdk_42_method_152_code (1 : Nat) (Option.some Jvm.ClassFile.FieldType.byte)).before args0 about1 = true := code_word (m := ⟨8, 8⟩) (meth := k8m8) (c := k8c8) (by decide +kernel) rfl rfl rfl (by decide +kernel)
set_option maxRecDepth 65536 in
theorem w_c18 : (Jvm.Cond.code ({ cls := "java/lang/AbstractStringBuilder", name := "ensureCapacityInternal", desc := "(I)V" } : Jvm.MethodName) jdk_68_method_9_code (3 : Nat) (Option.none : Option Jvm.ClassFile.FieldType)).before args0 about1 = true := code_word (m := ⟨12, 3⟩) (meth := k12m3) (c := k12c3) (by decide +kernel) rfl rfl rfl (by decide +kernel)
set_option maxRecDepth 65536 in
theorem w_c19 : (Jvm.Cond.code ({ cls := "java/lang/AbstractStringBuilder", name := "putStringAt", desc := "(ILjava/lang/String;)V" } : Jvm.MethodName) jdk_68_method_73_code (3 : Nat) (Option.none : Option Jvm.ClassFile.FieldType)).before args0 about1 = true := code_word (m := ⟨12, 9⟩) (meth := k12m9) (c := k12c9) (by decide +kernel) rfl rfl rfl (by decide +kernel)
set_option maxRecDepth 65536 in
theorem w_c20 : (Jvm.Cond.code ({ cls := "java/lang/AbstractStringBuilder", name := "inflateIfNeededFor", desc := "(Ljava/lang/String;)V" } : Jvm.MethodName) jdk_68_method_71_code (2 : Nat) (Option.none : Option Jvm.ClassFile.FieldType)).before args0 about1 = true := code_word (m := ⟨12, 8⟩) (meth := k12m8) (c := k12c8) (by decide +kernel) rfl rfl rfl (by decide +kernel)
set_option maxRecDepth 65536 in
theorem w_c21 : (Jvm.Cond.code ({ cls := "java/lang/String", name := "getBytes", desc := "([BIB)V" } : Jvm.MethodName) jdk_42_method_147_code (4 : Nat) (Option.none : Option Jvm.ClassFile.FieldType)).before args0 about1 = true := code_word (m := ⟨8, 5⟩) (meth := k8m5) (c := k8c5) (by decide +kernel) rfl rfl rfl (by decide +kernel)
set_option maxRecDepth 65536 in
theorem w_c22 : (Jvm.Cond.code ({ cls := "java/lang/StringBuilder", name := "toString", desc := "()Ljava/lang/String;" } : Jvm.MethodName) jdk_67_method_42_code (1 : Nat) (Option.some (Jvm.ClassFile.FieldType.object "java/lang/String"))).before args0 about1 = true := code_word (m := ⟨13, 3⟩) (meth := k13m3) (c := k13c3) (by decide +kernel) rfl rfl rfl (by decide +kernel)
set_option maxRecDepth 65536 in
theorem w_c23 : (Jvm.Cond.code ({ cls := "java/lang/String", name := "<init>", desc := "(Ljava/lang/StringBuilder;)V" } : Jvm.MethodName) jdk_42_method_53_code (2 : Nat) (Option.none : Option Jvm.ClassFile.FieldType)).before args0 about1 = true := code_word (m := ⟨8, 1⟩) (meth := k8m1) (c := k8c1) (by decide +kernel) rfl rfl rfl (by decide +kernel)
set_option maxRecDepth 65536 in
theorem w_c24 : (Jvm.Cond.code ({ cls := "java/lang/String", name := "<init>", desc := "(Ljava/lang/AbstractStringBuilder;Ljava/lang/Void;)V" } : Jvm.MethodName) jdk_42_method_150_code (5 : Nat) (Option.none : Option Jvm.ClassFile.FieldType)).before args0 about1 = true := code_word (m := ⟨8, 6⟩) (meth := k8m6) (c := k8c6) (by decide +kernel) rfl rfl rfl (by decide +kernel)
set_option maxRecDepth 65536 in
theorem w_c25 : (Jvm.Cond.code ({ cls := "java/lang/AbstractStringBuilder", name := "getValue", desc := "()[B" } : Jvm.MethodName) jdk_68_method_64_code (1 : Nat) (Option.some (Jvm.ClassFile.FieldType.array Jvm.ClassFile.FieldType.byte))).before args0 about1 = true := code_word (m := ⟨12, 6⟩) (meth := k12m6) (c := k12c6) (by decide +kernel) rfl rfl rfl (by decide +kernel)
set_option maxRecDepth 65536 in
theorem w_c26 : (Jvm.Cond.code ({ cls := "java/lang/StringBuilder", name := "length", desc := "()I" } : Jvm.MethodName) jdk_67_method_93_code (1 : Nat) (Option.some Jvm.ClassFile.FieldType.int)).before args0 about1 = true := code_word (m := ⟨13, 4⟩) (meth := k13m4) (c := k13c4) (by decide +kernel) rfl rfl rfl (by decide +kernel)
set_option maxRecDepth 65536 in
theorem w_c27 : (Jvm.Cond.code ({ cls := "java/lang/AbstractStringBuilder", name := "length", desc := "()I" } : Jvm.MethodName) jdk_68_method_6_code (1 : Nat) (Option.some Jvm.ClassFile.FieldType.int)).before args0 about1 = true := code_word (m := ⟨12, 2⟩) (meth := k12m2) (c := k12c2) (by decide +kernel) rfl rfl rfl (by decide +kernel)
set_option maxRecDepth 65536 in
theorem w_c28 : (Jvm.Cond.code ({ cls := "java/lang/AbstractStringBuilder", name := "isLatin1", desc := "()Z" } : Jvm.MethodName) jdk_68_method_68_code (1 : Nat) (Option.some Jvm.ClassFile.FieldType.boolean)).before args0 about1 = true := code_word (m := ⟨12, 7⟩) (meth := k12m7) (c := k12c7) (by decide +kernel) rfl rfl rfl (by decide +kernel)
set_option maxRecDepth 65536 in
theorem w_c29 : (Jvm.Cond.code ({ cls := "java/util/Arrays", name := "copyOfRange", desc := "([BII)[B" } : Jvm.MethodName) jdk_65_method_132_code (3 : Nat) (Option.some (Jvm.ClassFile.FieldType.array Jvm.ClassFile.FieldType.byte))).before args0 about1 = true := code_word (m := ⟨15, 2⟩) (meth := k15m2) (c := k15c2) (by decide +kernel) rfl rfl rfl (by decide +kernel)
set_option maxRecDepth 65536 in
theorem w_c30 : (Jvm.Cond.code ({ cls := "java/util/Arrays", name := "copyOfRangeByte", desc := "([BII)[B" } : Jvm.MethodName) jdk_65_method_133_code (5 : Nat) (Option.some (Jvm.ClassFile.FieldType.array Jvm.ClassFile.FieldType.byte))).before args0 about1 = true := code_word (m := ⟨15, 3⟩) (meth := k15m3) (c := k15c3) (by decide +kernel) rfl rfl rfl (by decide +kernel)
set_option maxRecDepth 65536 in
theorem w_c31 : (Jvm.Cond.code ({ cls := "java/util/Arrays", name := "checkLength", desc := "(II)V" } : Jvm.MethodName) jdk_65_method_131_code (2 : Nat) (Option.none : Option Jvm.ClassFile.FieldType)).before args0 about1 = true := code_word (m := ⟨15, 1⟩) (meth := k15m1) (c := k15c1) (by decide +kernel) rfl rfl rfl (by decide +kernel)
set_option maxRecDepth 65536 in
theorem w_c32 : (Jvm.Cond.code ({ cls := "java/lang/Math", name := "min", desc := "(II)I" } : Jvm.MethodName) jdk_29_method_69_code (2 : Nat) (Option.some Jvm.ClassFile.FieldType.int)).before args0 about1 = true := code_word (m := ⟨16, 1⟩) (meth := k16m1) (c := k16c1) (by decide +kernel) rfl rfl rfl (by decide +kernel)
set_option maxRecDepth 65536 in
theorem w_c33 : (Jvm.Cond.code ({ cls := "java/util/Optional", name := "of", desc := "(Ljava/lang/Object;)Ljava/util/Optional;" } : Jvm.MethodName) jdk_32_method_3_code (1 : Nat) (Option.some (Jvm.ClassFile.FieldType.object "java/util/Optional"))).before args0 about1 = true := code_word (m := ⟨9, 2⟩) (meth := k9m2) (c := k9c2) (by decide +kernel) rfl rfl rfl (by decide +kernel)
set_option maxRecDepth 65536 in
theorem w_c34 : (Jvm.Cond.code ({ cls := "java/util/Objects", name := "requireNonNull", desc := "(Ljava/lang/Object;)Ljava/lang/Object;" } : Jvm.MethodName) jdk_31_method_10_code (1 : Nat) (Option.some (Jvm.ClassFile.FieldType.object "java/lang/Object"))).before args0 about1 = true := code_word (m := ⟨17, 1⟩) (meth := k17m1) (c := k17c1) (by decide +kernel) rfl rfl rfl (by decide +kernel)
set_option maxRecDepth 65536 in
theorem w_c35 : (Jvm.Cond.code ({ cls := "java/util/Optional", name := "<init>", desc := "(Ljava/lang/Object;)V" } : Jvm.MethodName) jdk_32_method_2_code (2 : Nat) (Option.none : Option Jvm.ClassFile.FieldType)).before args0 about1 = true := code_word (m := ⟨9, 1⟩) (meth := k9m1) (c := k9c1) (by decide +kernel) rfl rfl rfl (by decide +kernel)
set_option maxRecDepth 65536 in
theorem w_c36 : (Jvm.Cond.code ({ cls := "java/util/Optional", name := "get", desc := "()Ljava/lang/Object;" } : Jvm.MethodName) jdk_32_method_5_code (1 : Nat) (Option.some (Jvm.ClassFile.FieldType.object "java/lang/Object"))).before args0 about1 = true := code_word (m := ⟨9, 3⟩) (meth := k9m3) (c := k9c3) (by decide +kernel) rfl rfl rfl (by decide +kernel)
set_option maxRecDepth 65536 in
theorem w_c37 : (Jvm.Cond.code ({ cls := "com/example/liburiref/liburiref/UriReferenceAuthorityPinLaw", name := "at", desc := "(Ljava/lang/String;[CII)Z" } : Jvm.MethodName) method_3_code (4 : Nat) (Option.some Jvm.ClassFile.FieldType.boolean)).before args0 about1 = true := code_word (m := ⟨1, 2⟩) (meth := k1m2) (c := k1c2) (by decide +kernel) rfl rfl rfl (by decide +kernel)
set_option maxRecDepth 65536 in
theorem w_c38 : (Jvm.Cond.code ({ cls := "java/lang/String", name := "charAt", desc := "(I)C" } : Jvm.MethodName) jdk_42_method_56_code (2 : Nat) (Option.some Jvm.ClassFile.FieldType.char)).before args0 about1 = true := code_word (m := ⟨8, 3⟩) (meth := k8m3) (c := k8c3) (by decide +kernel) rfl rfl rfl (by decide +kernel)
set_option maxRecDepth 65536 in
theorem w_c39 : (Jvm.Cond.code ({ cls := "java/lang/String", name := "isLatin1", desc := "()Z" } : Jvm.MethodName) jdk_42_method_154_code (1 : Nat) (Option.some Jvm.ClassFile.FieldType.boolean)).before args0 about1 = true := code_word (m := ⟨8, 9⟩) (meth := k8m9) (c := k8c9) (by decide +kernel) rfl rfl rfl (by decide +kernel)
set_option maxRecDepth 65536 in
theorem w_c40 : (Jvm.Cond.code ({ cls := "java/lang/StringLatin1", name := "charAt", desc := "([BI)C" } : Jvm.MethodName) jdk_43_method_2_code (2 : Nat) (Option.some Jvm.ClassFile.FieldType.char)).before args0 about1 = true := code_word (m := ⟨10, 1⟩) (meth := k10m1) (c := k10c1) (by decide +kernel) rfl rfl rfl (by decide +kernel)
set_option maxRecDepth 65536 in
theorem w_c41 : (Jvm.Cond.code ({ cls := "java/lang/String", name := "checkIndex", desc := "(II)V" } : Jvm.MethodName) jdk_42_method_155_code (2 : Nat) (Option.none : Option Jvm.ClassFile.FieldType)).before args0 about1 = true := code_word (m := ⟨8, 10⟩) (meth := k8m10) (c := k8c10) (by decide +kernel) rfl rfl rfl (by decide +kernel)
set_option maxRecDepth 65536 in
theorem w_c42 : (Jvm.Cond.code ({ cls := "jdk/internal/util/Preconditions", name := "checkIndex", desc := "(IILjava/util/function/BiFunction;)I" } : Jvm.MethodName) jdk_41_method_11_code (3 : Nat) (Option.some Jvm.ClassFile.FieldType.int)).before args0 about1 = true := code_word (m := ⟨18, 1⟩) (meth := k18m1) (c := k18c1) (by decide +kernel) rfl rfl rfl (by decide +kernel)
set_option maxRecDepth 65536 in
theorem w_c43 : (Jvm.Cond.code ({ cls := "java/lang/StringBuilder", name := "append", desc := "(C)Ljava/lang/StringBuilder;" } : Jvm.MethodName) jdk_67_method_14_code (2 : Nat) (Option.some (Jvm.ClassFile.FieldType.object "java/lang/StringBuilder"))).before args0 about1 = true := code_word (m := ⟨13, 2⟩) (meth := k13m2) (c := k13c2) (by decide +kernel) rfl rfl rfl (by decide +kernel)
set_option maxRecDepth 65536 in
theorem w_c44 : (Jvm.Cond.code ({ cls := "java/lang/AbstractStringBuilder", name := "append", desc := "(C)Ljava/lang/AbstractStringBuilder;" } : Jvm.MethodName) jdk_68_method_31_code (2 : Nat) (Option.some (Jvm.ClassFile.FieldType.object "java/lang/AbstractStringBuilder"))).before args0 about1 = true := code_word (m := ⟨12, 5⟩) (meth := k12m5) (c := k12c5) (by decide +kernel) rfl rfl rfl (by decide +kernel)
def codes1 : List Jvm.Cond := [Jvm.Cond.code x code maxLocals ret, Jvm.Cond.code ({ cls := "com/example/liburiref/liburiref/UriReferenceAuthorityPinLaw", name := "part", desc := "(IC)Ljava/lang/String;" } : Jvm.MethodName) method_2_code (2 : Nat) (Option.some (Jvm.ClassFile.FieldType.object "java/lang/String")), Jvm.Cond.code ({ cls := "com/example/liburiref/liburiref/UriReference", name := "<init>", desc := "(Ljava/lang/String;Ljava/lang/String;Ljava/lang/String;Ljava/lang/String;Ljava/lang/String;Ljava/lang/String;Ljava/lang/String;Ljava/lang/String;)V" } : Jvm.MethodName) prog_7_method_1_code (9 : Nat) (Option.none : Option Jvm.ClassFile.FieldType), Jvm.Cond.code ({ cls := "java/lang/Object", name := "<init>", desc := "()V" } : Jvm.MethodName) object_method_1_code (1 : Nat) (Option.none : Option Jvm.ClassFile.FieldType), Jvm.Cond.code ({ cls := "com/example/liburiref/liburiref/UriReference", name := "authority", desc := "()Ljava/util/Optional;" } : Jvm.MethodName) prog_7_method_4_code (2 : Nat) (Option.some (Jvm.ClassFile.FieldType.object "java/util/Optional")), Jvm.Cond.code ({ cls := "java/util/Optional", name := "empty", desc := "()Ljava/util/Optional;" } : Jvm.MethodName) jdk_32_method_1_code (1 : Nat) (Option.some (Jvm.ClassFile.FieldType.object "java/util/Optional")), Jvm.Cond.code ({ cls := "java/util/Optional", name := "isPresent", desc := "()Z" } : Jvm.MethodName) jdk_32_method_6_code (1 : Nat) (Option.some Jvm.ClassFile.FieldType.boolean), Jvm.Cond.code ({ cls := "java/lang/String", name := "valueOf", desc := "(C)Ljava/lang/String;" } : Jvm.MethodName) jdk_42_method_139_code (1 : Nat) (Option.some (Jvm.ClassFile.FieldType.object "java/lang/String")), Jvm.Cond.code ({ cls := "java/lang/StringLatin1", name := "canEncode", desc := "(C)Z" } : Jvm.MethodName) jdk_43_method_3_code (1 : Nat) (Option.some Jvm.ClassFile.FieldType.boolean), Jvm.Cond.code ({ cls := "java/lang/StringLatin1", name := "toBytes", desc := "(C)[B" } : Jvm.MethodName) jdk_43_method_46_code (1 : Nat) (Option.some (Jvm.ClassFile.FieldType.array Jvm.ClassFile.FieldType.byte)), Jvm.Cond.code ({ cls := "java/lang/String", name := "<init>", desc := "([BB)V" } : Jvm.MethodName) jdk_42_method_151_code (3 : Nat) (Option.none : Option Jvm.ClassFile.FieldType), Jvm.Cond.code ({ cls := "java/lang/StringBuilder", name := "<init>", desc := "()V" } : Jvm.MethodName) jdk_67_method_1_code (1 : Nat) (Option.none : Option Jvm.ClassFile.FieldType), Jvm.Cond.code ({ cls := "java/lang/AbstractStringBuilder", name := "<init>", desc := "(I)V" } : Jvm.MethodName) jdk_68_method_2_code (2 : Nat) (Option.none : Option Jvm.ClassFile.FieldType), Jvm.Cond.code ({ cls := "com/example/liburiref/liburiref/UriReference", name := "appendAuthority", desc := "(Ljava/lang/StringBuilder;Ljava/lang/String;Ljava/lang/String;Ljava/lang/String;)Ljava/lang/StringBuilder;" } : Jvm.MethodName) prog_7_method_51_code (4 : Nat) (Option.some (Jvm.ClassFile.FieldType.object "java/lang/StringBuilder")), Jvm.Cond.code ({ cls := "java/lang/StringBuilder", name := "append", desc := "(Ljava/lang/String;)Ljava/lang/StringBuilder;" } : Jvm.MethodName) jdk_67_method_7_code (2 : Nat) (Option.some (Jvm.ClassFile.FieldType.object "java/lang/StringBuilder")), Jvm.Cond.code ({ cls := "java/lang/AbstractStringBuilder", name := "append", desc := "(Ljava/lang/String;)Ljava/lang/AbstractStringBuilder;" } : Jvm.MethodName) jdk_68_method_22_code (3 : Nat) (Option.some (Jvm.ClassFile.FieldType.object "java/lang/AbstractStringBuilder")), Jvm.Cond.code ({ cls := "java/lang/String", name := "length", desc := "()I" } : Jvm.MethodName) jdk_42_method_54_code (1 : Nat) (Option.some Jvm.ClassFile.FieldType.int), Jvm.Cond.code ({ cls := "java/lang/String", name := "coder", desc := "()B" } : Jvm.MethodName) jdk_42_method_152_code (1 : Nat) (Option.some Jvm.ClassFile.FieldType.byte), Jvm.Cond.code ({ cls := "java/lang/AbstractStringBuilder", name := "ensureCapacityInternal", desc := "(I)V" } : Jvm.MethodName) jdk_68_method_9_code (3 : Nat) (Option.none : Option Jvm.ClassFile.FieldType), Jvm.Cond.code ({ cls := "java/lang/AbstractStringBuilder", name := "putStringAt", desc := "(ILjava/lang/String;)V" } : Jvm.MethodName) jdk_68_method_73_code (3 : Nat) (Option.none : Option Jvm.ClassFile.FieldType), Jvm.Cond.code ({ cls := "java/lang/AbstractStringBuilder", name := "inflateIfNeededFor", desc := "(Ljava/lang/String;)V" } : Jvm.MethodName) jdk_68_method_71_code (2 : Nat) (Option.none : Option Jvm.ClassFile.FieldType), Jvm.Cond.code ({ cls := "java/lang/String", name := "getBytes", desc := "([BIB)V" } : Jvm.MethodName) jdk_42_method_147_code (4 : Nat) (Option.none : Option Jvm.ClassFile.FieldType), Jvm.Cond.code ({ cls := "java/lang/StringBuilder", name := "toString", desc := "()Ljava/lang/String;" } : Jvm.MethodName) jdk_67_method_42_code (1 : Nat) (Option.some (Jvm.ClassFile.FieldType.object "java/lang/String")), Jvm.Cond.code ({ cls := "java/lang/String", name := "<init>", desc := "(Ljava/lang/StringBuilder;)V" } : Jvm.MethodName) jdk_42_method_53_code (2 : Nat) (Option.none : Option Jvm.ClassFile.FieldType), Jvm.Cond.code ({ cls := "java/lang/String", name := "<init>", desc := "(Ljava/lang/AbstractStringBuilder;Ljava/lang/Void;)V" } : Jvm.MethodName) jdk_42_method_150_code (5 : Nat) (Option.none : Option Jvm.ClassFile.FieldType), Jvm.Cond.code ({ cls := "java/lang/AbstractStringBuilder", name := "getValue", desc := "()[B" } : Jvm.MethodName) jdk_68_method_64_code (1 : Nat) (Option.some (Jvm.ClassFile.FieldType.array Jvm.ClassFile.FieldType.byte)), Jvm.Cond.code ({ cls := "java/lang/StringBuilder", name := "length", desc := "()I" } : Jvm.MethodName) jdk_67_method_93_code (1 : Nat) (Option.some Jvm.ClassFile.FieldType.int), Jvm.Cond.code ({ cls := "java/lang/AbstractStringBuilder", name := "length", desc := "()I" } : Jvm.MethodName) jdk_68_method_6_code (1 : Nat) (Option.some Jvm.ClassFile.FieldType.int), Jvm.Cond.code ({ cls := "java/lang/AbstractStringBuilder", name := "isLatin1", desc := "()Z" } : Jvm.MethodName) jdk_68_method_68_code (1 : Nat) (Option.some Jvm.ClassFile.FieldType.boolean), Jvm.Cond.code ({ cls := "java/util/Arrays", name := "copyOfRange", desc := "([BII)[B" } : Jvm.MethodName) jdk_65_method_132_code (3 : Nat) (Option.some (Jvm.ClassFile.FieldType.array Jvm.ClassFile.FieldType.byte)), Jvm.Cond.code ({ cls := "java/util/Arrays", name := "copyOfRangeByte", desc := "([BII)[B" } : Jvm.MethodName) jdk_65_method_133_code (5 : Nat) (Option.some (Jvm.ClassFile.FieldType.array Jvm.ClassFile.FieldType.byte)), Jvm.Cond.code ({ cls := "java/util/Arrays", name := "checkLength", desc := "(II)V" } : Jvm.MethodName) jdk_65_method_131_code (2 : Nat) (Option.none : Option Jvm.ClassFile.FieldType), Jvm.Cond.code ({ cls := "java/lang/Math", name := "min", desc := "(II)I" } : Jvm.MethodName) jdk_29_method_69_code (2 : Nat) (Option.some Jvm.ClassFile.FieldType.int), Jvm.Cond.code ({ cls := "java/util/Optional", name := "of", desc := "(Ljava/lang/Object;)Ljava/util/Optional;" } : Jvm.MethodName) jdk_32_method_3_code (1 : Nat) (Option.some (Jvm.ClassFile.FieldType.object "java/util/Optional")), Jvm.Cond.code ({ cls := "java/util/Objects", name := "requireNonNull", desc := "(Ljava/lang/Object;)Ljava/lang/Object;" } : Jvm.MethodName) jdk_31_method_10_code (1 : Nat) (Option.some (Jvm.ClassFile.FieldType.object "java/lang/Object")), Jvm.Cond.code ({ cls := "java/util/Optional", name := "<init>", desc := "(Ljava/lang/Object;)V" } : Jvm.MethodName) jdk_32_method_2_code (2 : Nat) (Option.none : Option Jvm.ClassFile.FieldType), Jvm.Cond.code ({ cls := "java/util/Optional", name := "get", desc := "()Ljava/lang/Object;" } : Jvm.MethodName) jdk_32_method_5_code (1 : Nat) (Option.some (Jvm.ClassFile.FieldType.object "java/lang/Object")), Jvm.Cond.code ({ cls := "com/example/liburiref/liburiref/UriReferenceAuthorityPinLaw", name := "at", desc := "(Ljava/lang/String;[CII)Z" } : Jvm.MethodName) method_3_code (4 : Nat) (Option.some Jvm.ClassFile.FieldType.boolean), Jvm.Cond.code ({ cls := "java/lang/String", name := "charAt", desc := "(I)C" } : Jvm.MethodName) jdk_42_method_56_code (2 : Nat) (Option.some Jvm.ClassFile.FieldType.char), Jvm.Cond.code ({ cls := "java/lang/String", name := "isLatin1", desc := "()Z" } : Jvm.MethodName) jdk_42_method_154_code (1 : Nat) (Option.some Jvm.ClassFile.FieldType.boolean), Jvm.Cond.code ({ cls := "java/lang/StringLatin1", name := "charAt", desc := "([BI)C" } : Jvm.MethodName) jdk_43_method_2_code (2 : Nat) (Option.some Jvm.ClassFile.FieldType.char), Jvm.Cond.code ({ cls := "java/lang/String", name := "checkIndex", desc := "(II)V" } : Jvm.MethodName) jdk_42_method_155_code (2 : Nat) (Option.none : Option Jvm.ClassFile.FieldType), Jvm.Cond.code ({ cls := "jdk/internal/util/Preconditions", name := "checkIndex", desc := "(IILjava/util/function/BiFunction;)I" } : Jvm.MethodName) jdk_41_method_11_code (3 : Nat) (Option.some Jvm.ClassFile.FieldType.int), Jvm.Cond.code ({ cls := "java/lang/StringBuilder", name := "append", desc := "(C)Ljava/lang/StringBuilder;" } : Jvm.MethodName) jdk_67_method_14_code (2 : Nat) (Option.some (Jvm.ClassFile.FieldType.object "java/lang/StringBuilder")), Jvm.Cond.code ({ cls := "java/lang/AbstractStringBuilder", name := "append", desc := "(C)Ljava/lang/AbstractStringBuilder;" } : Jvm.MethodName) jdk_68_method_31_code (2 : Nat) (Option.some (Jvm.ClassFile.FieldType.object "java/lang/AbstractStringBuilder"))]
set_option maxRecDepth 65536 in
theorem codes_eq : words1.filter isCode = codes1 := rfl
theorem w_codes : ∀ c ∈ words1.filter isCode, c.before args0 about1 = true := by
  rw [codes_eq]
  intro c hc
  simp only [codes1, List.mem_cons, List.not_mem_nil, or_false] at hc
  rcases hc with rfl | rfl | rfl | rfl | rfl | rfl | rfl | rfl | rfl | rfl | rfl | rfl | rfl | rfl | rfl | rfl | rfl | rfl | rfl | rfl | rfl | rfl | rfl | rfl | rfl | rfl | rfl | rfl | rfl | rfl | rfl | rfl | rfl | rfl | rfl | rfl | rfl | rfl | rfl | rfl | rfl | rfl | rfl | rfl | rfl
  · exact w_c0
  · exact w_c1
  · exact w_c2
  · exact w_c3
  · exact w_c4
  · exact w_c5
  · exact w_c6
  · exact w_c7
  · exact w_c8
  · exact w_c9
  · exact w_c10
  · exact w_c11
  · exact w_c12
  · exact w_c13
  · exact w_c14
  · exact w_c15
  · exact w_c16
  · exact w_c17
  · exact w_c18
  · exact w_c19
  · exact w_c20
  · exact w_c21
  · exact w_c22
  · exact w_c23
  · exact w_c24
  · exact w_c25
  · exact w_c26
  · exact w_c27
  · exact w_c28
  · exact w_c29
  · exact w_c30
  · exact w_c31
  · exact w_c32
  · exact w_c33
  · exact w_c34
  · exact w_c35
  · exact w_c36
  · exact w_c37
  · exact w_c38
  · exact w_c39
  · exact w_c40
  · exact w_c41
  · exact w_c42
  · exact w_c43
  · exact w_c44
set_option maxRecDepth 65536 in
theorem w_t1 : (words1.take 24).all (fun c => isCode c || c.before args0 about1) = true := by decide +kernel
set_option maxRecDepth 65536 in
theorem w_t2 : ((words1.drop 24).take 24).all (fun c => isCode c || c.before args0 about1) = true := by decide +kernel
set_option maxRecDepth 65536 in
theorem w_t3 : (((words1.drop 24).drop 24).take 24).all (fun c => isCode c || c.before args0 about1) = true := by decide +kernel
set_option maxRecDepth 65536 in
theorem w_t4 : ((((words1.drop 24).drop 24).drop 24).take 24).all (fun c => isCode c || c.before args0 about1) = true := by decide +kernel
set_option maxRecDepth 65536 in
theorem w_t5 : (((((words1.drop 24).drop 24).drop 24).drop 24).take 24).all (fun c => isCode c || c.before args0 about1) = true := by decide +kernel
set_option maxRecDepth 65536 in
theorem w_t6 : ((((((words1.drop 24).drop 24).drop 24).drop 24).drop 24).take 24).all (fun c => isCode c || c.before args0 about1) = true := by decide +kernel
set_option maxRecDepth 65536 in
theorem w_t7 : (((((((words1.drop 24).drop 24).drop 24).drop 24).drop 24).drop 24).take 24).all (fun c => isCode c || c.before args0 about1) = true := by decide +kernel
set_option maxRecDepth 65536 in
theorem w_t8 : ((((((((words1.drop 24).drop 24).drop 24).drop 24).drop 24).drop 24).drop 24).take 24).all (fun c => isCode c || c.before args0 about1) = true := by decide +kernel
set_option maxRecDepth 65536 in
theorem w_t9 : (((((((((words1.drop 24).drop 24).drop 24).drop 24).drop 24).drop 24).drop 24).drop 24).take 24).all (fun c => isCode c || c.before args0 about1) = true := by decide +kernel
set_option maxRecDepth 65536 in
theorem w_t10 : ((((((((((words1.drop 24).drop 24).drop 24).drop 24).drop 24).drop 24).drop 24).drop 24).drop 24).take 24).all (fun c => isCode c || c.before args0 about1) = true := by decide +kernel
set_option maxRecDepth 65536 in
theorem w_t11 : ((((((((((words1.drop 24).drop 24).drop 24).drop 24).drop 24).drop 24).drop 24).drop 24).drop 24).drop 24).all (fun c => isCode c || c.before args0 about1) = true := by decide +kernel
theorem w_tables : (allAtoms (Jvm.Cond.code x code maxLocals ret :: tables_1)).before args0 about1 = true := by
  rw [allAtoms_all]
  show words1.all (fun c => c.before args0 about1) = true
  refine all_split ?_ w_codes
  rw [← List.take_append_drop 24 words1, List.all_append, w_t1, ← List.take_append_drop 24 (words1.drop 24), List.all_append, w_t2, ← List.take_append_drop 24 ((words1.drop 24).drop 24), List.all_append, w_t3, ← List.take_append_drop 24 (((words1.drop 24).drop 24).drop 24), List.all_append, w_t4, ← List.take_append_drop 24 ((((words1.drop 24).drop 24).drop 24).drop 24), List.all_append, w_t5, ← List.take_append_drop 24 (((((words1.drop 24).drop 24).drop 24).drop 24).drop 24), List.all_append, w_t6, ← List.take_append_drop 24 ((((((words1.drop 24).drop 24).drop 24).drop 24).drop 24).drop 24), List.all_append, w_t7, ← List.take_append_drop 24 (((((((words1.drop 24).drop 24).drop 24).drop 24).drop 24).drop 24).drop 24), List.all_append, w_t8, ← List.take_append_drop 24 ((((((((words1.drop 24).drop 24).drop 24).drop 24).drop 24).drop 24).drop 24).drop 24), List.all_append, w_t9, ← List.take_append_drop 24 (((((((((words1.drop 24).drop 24).drop 24).drop 24).drop 24).drop 24).drop 24).drop 24).drop 24), List.all_append, w_t10, w_t11]
  rfl
set_option maxRecDepth 65536 in
theorem w_rest : rest_1_c.before args0 about1 = true := by decide +kernel
set_option maxRecDepth 65536 in
theorem w_case : (Jvm.Cond.and given_1 narrow_1).before args0 about1 = true := by decide +kernel
set_option maxRecDepth 65536 in
theorem w_consts : constsHeld consts_1 about1 := Jvm.Lit.constsHeldB_iff.mp (by decide +kernel)
theorem w_applies : (headSpec (Jvm.Cond.code x code maxLocals ret :: tables_1) room_1).applies x e0.platform about1 = true :=
  (Spec.applies_iff w_frames).mpr ⟨w_running, w_runnable, w_alone, w_named, w_hears, w_ripe, w_room, w_tables⟩
theorem atStart : AtStart classFile x code maxLocals ret World_1 tables_1 room_1 Calls_1 rest_1 Pre_1 launch0 p0 e0 about1 theMethod args0 below0 :=
  ⟨lists_1, trivial, launch0.admits_env _ _ _, launch0.least_env, fairChoices_fair.cas, fairChoices_fair.clock, w_frames, w_args, w_heap, w_applies, ⟨w_consts, trivial⟩, w_rest, w_case⟩
end start1
theorem witness_1 : WitnessClaimed_1 := ⟨start1.p0, start1.e0, start1.about1, start1.theMethod, start1.args0, start1.below0, start1.atStart⟩
end Jvm.Pilot.@@N@@
